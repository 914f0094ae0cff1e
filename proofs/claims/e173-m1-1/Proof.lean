import JvmDerived
import JvmDerived.Pilot.@@N@@Statement
import JvmDerived.Pilot.@@N@@Code
set_option linter.unusedVariables false
set_option linter.unusedSimpArgs false
@@BLOCK:NumsL.lean.txt@@
namespace Jvm.Pilot.@@N@@
open Jvm Jvm.ClassFile Sem Op Lib Jvm.Free Jvm.Stand Jvm.LawKit Jvm.RoadKit Bundle Jvm.Pilot.@@N@@.Jvm.D
def own_Out (p : Program) (e : Env) (below : List Frame) (P : Outcome → State → Prop) (T : State) (g : JFrame) : Prop :=
  ∃ s₂ o, Steps p.tables e below (T.setTop g) s₂ ∧ s₂.status = .running ∧ Ended s₂ below o ∧ P o s₂
abbrev own_P (s : State) (Q : Option Value → Heap → List Loc → Prop) (k n : Nat) : Outcome → State → Prop := fun o U' => ∃ v L, o = .returned v ∧ Q v U'.heap L ∧ FrameEnd s o U' L k n
/-- the value r comes back, nothing is written -/
def own_Pure (r : Value) (h0 : Heap) (v : Option Value) (h : Heap) (L : List Loc) : Prop := v = some r ∧ L = [] ∧ h = h0
def own_b (q : Prop) [Decidable q] : Int32 := if q then 1 else 0
theorem own_bt {q : Prop} [Decidable q] (h : q) : own_b q = 1 := if_pos h
theorem own_bf {q : Prop} [Decidable q] (h : ¬ q) : own_b q = 0 := if_neg h
theorem own_b01 {q : Prop} [Decidable q] : own_b q = 1 ∨ own_b q = 0 := by by_cases h : q <;> simp [own_b, h]
section OwnKit
variable {p : Program} {l : Launch} {e : Env} {R : Room} {s : State} {m : MethodId} {args : Array Value} {below : List Frame} {meth : Method} {c : Code} {T T' : State} {locs : List Loc} {cells slots : Nat} {P : Outcome → State → Prop} {pc pc' : Nat} {Ls Ls' : Array Slot} {S : List Value} {g g' : JFrame} {Z : State} {a0 : Array Value} {h : Heap} {Q : Option Value → Heap → List Loc → Prop} {kc kn : Nat}
theorem own_by (st : ∀ t, Steps p.tables e below (T'.setTop g') t → Steps p.tables e below (T.setTop g) t) (h : own_Out p e below P T' g') : own_Out p e below P T g := by
  obtain ⟨s₂, o, h1, h2⟩ := h
  exact ⟨s₂, o, st _ h1, h2⟩
theorem own_go (st : Steps p.tables e below (T.setTop g) (T'.setTop g')) (h : own_Out p e below P T' g') : own_Out p e below P T g := by
  obtain ⟨s₂, o, h1, h2⟩ := h
  exact ⟨s₂, o, st.trans h1, h2⟩
theorem o_aloadN (X : Stand p l e R s m args below meth c T locs cells slots) (hx : p.tables.exec = Jvm.exec) {k' : Fin 4} {v : Value} (hd : decode c.code pc = .ok (.aload_n k', 1)) (hl : Ls[k'.val]? = some (.val v)) (hv : v.isRef = true) (hp : pc + 1 = pc')
    (k : own_Out p e below P T (mkF m pc' Ls (v :: S))) : own_Out p e below P T (mkF m pc Ls (S)) := by
  subst hp
  exact own_by (fun _ => XS.aloadN X.here hx rfl hd hl hv) k
theorem o_aload (X : Stand p l e R s m args below meth c T locs cells slots) (hx : p.tables.exec = Jvm.exec) {k' : Nat} {v : Value} (hd : decode c.code pc = .ok (.aload k', 2)) (hl : Ls[k']? = some (.val v)) (hv : v.isRef = true) (hp : pc + 2 = pc')
    (k : own_Out p e below P T (mkF m pc' Ls (v :: S))) : own_Out p e below P T (mkF m pc Ls (S)) := by
  subst hp
  exact own_by (fun _ => XS.aload X.here hx rfl hd hl hv) k
theorem o_iloadN (X : Stand p l e R s m args below meth c T locs cells slots) (hx : p.tables.exec = Jvm.exec) {k' : Fin 4} {v : Int32} (hd : decode c.code pc = .ok (.iload_n k', 1)) (hl : Ls[k'.val]? = some (.val (.int v))) (hp : pc + 1 = pc')
    (k : own_Out p e below P T (mkF m pc' Ls (.int v :: S))) : own_Out p e below P T (mkF m pc Ls (S)) := by
  subst hp
  exact own_by (fun _ => XS.iloadN X.here hx rfl hd hl) k
theorem o_iload (X : Stand p l e R s m args below meth c T locs cells slots) (hx : p.tables.exec = Jvm.exec) {k' : Nat} {v : Int32} (hd : decode c.code pc = .ok (.iload k', 2)) (hl : Ls[k']? = some (.val (.int v))) (hp : pc + 2 = pc')
    (k : own_Out p e below P T (mkF m pc' Ls (.int v :: S))) : own_Out p e below P T (mkF m pc Ls (S)) := by
  subst hp
  exact own_by (fun _ => XS.iload X.here hx rfl hd hl) k
theorem o_lloadN (X : Stand p l e R s m args below meth c T locs cells slots) (hx : p.tables.exec = Jvm.exec) {k' : Fin 4} {v : Int64} (hd : decode c.code pc = .ok (.lload_n k', 1)) (hl : Ls[k'.val]? = some (.val (.long v))) (hp : pc + 1 = pc')
    (k : own_Out p e below P T (mkF m pc' Ls (.long v :: S))) : own_Out p e below P T (mkF m pc Ls (S)) := by
  subst hp
  exact own_by (fun _ => XS.lloadN X.here hx rfl hd hl) k
theorem o_lload (X : Stand p l e R s m args below meth c T locs cells slots) (hx : p.tables.exec = Jvm.exec) {k' : Nat} {v : Int64} (hd : decode c.code pc = .ok (.lload k', 2)) (hl : Ls[k']? = some (.val (.long v))) (hp : pc + 2 = pc')
    (k : own_Out p e below P T (mkF m pc' Ls (.long v :: S))) : own_Out p e below P T (mkF m pc Ls (S)) := by
  subst hp
  exact own_by (fun _ => XS.lload X.here hx rfl hd hl) k
theorem o_istoreN (X : Stand p l e R s m args below meth c T locs cells slots) (hx : p.tables.exec = Jvm.exec) {k' : Fin 4} {x : Int32} (hd : decode c.code pc = .ok (.istore_n k', 1)) (hl : storeLocals Ls k'.val (.int x) = some Ls') (hp : pc + 1 = pc')
    (k : own_Out p e below P T (mkF m pc' Ls' (S))) : own_Out p e below P T (mkF m pc Ls (.int x :: S)) := by
  subst hp
  exact own_by (fun _ => XS.istoreN X.here hx rfl hd rfl hl) k
theorem o_istore (X : Stand p l e R s m args below meth c T locs cells slots) (hx : p.tables.exec = Jvm.exec) {k' : Nat} {x : Int32} (hd : decode c.code pc = .ok (.istore k', 2)) (hl : storeLocals Ls k' (.int x) = some Ls') (hp : pc + 2 = pc')
    (k : own_Out p e below P T (mkF m pc' Ls' (S))) : own_Out p e below P T (mkF m pc Ls (.int x :: S)) := by
  subst hp
  exact own_by (fun _ => XS.istore X.here hx rfl hd rfl hl) k
theorem o_lstoreN (X : Stand p l e R s m args below meth c T locs cells slots) (hx : p.tables.exec = Jvm.exec) {k' : Fin 4} {x : Int64} (hd : decode c.code pc = .ok (.lstore_n k', 1)) (hl : storeLocals Ls k'.val (.long x) = some Ls') (hp : pc + 1 = pc')
    (k : own_Out p e below P T (mkF m pc' Ls' (S))) : own_Out p e below P T (mkF m pc Ls (.long x :: S)) := by
  subst hp
  exact own_by (fun _ => XS.lstoreN X.here hx rfl hd rfl hl) k
theorem o_lstore (X : Stand p l e R s m args below meth c T locs cells slots) (hx : p.tables.exec = Jvm.exec) {k' : Nat} {x : Int64} (hd : decode c.code pc = .ok (.lstore k', 2)) (hl : storeLocals Ls k' (.long x) = some Ls') (hp : pc + 2 = pc')
    (k : own_Out p e below P T (mkF m pc' Ls' (S))) : own_Out p e below P T (mkF m pc Ls (.long x :: S)) := by
  subst hp
  exact own_by (fun _ => XS.lstore X.here hx rfl hd rfl hl) k
theorem o_astoreN (X : Stand p l e R s m args below meth c T locs cells slots) (hx : p.tables.exec = Jvm.exec) {k' : Fin 4} {x : Value} (hd : decode c.code pc = .ok (.astore_n k', 1)) (hv : x.isRef = true) (hl : storeLocals Ls k'.val x = some Ls') (hp : pc + 1 = pc')
    (k : own_Out p e below P T (mkF m pc' Ls' (S))) : own_Out p e below P T (mkF m pc Ls (x :: S)) := by
  subst hp
  exact own_by (fun _ => XS.astoreN X.here hx rfl hd rfl hv hl) k
theorem o_astore (X : Stand p l e R s m args below meth c T locs cells slots) (hx : p.tables.exec = Jvm.exec) {k' : Nat} {x : Value} (hd : decode c.code pc = .ok (.astore k', 2)) (hv : x.isRef = true) (hl : storeLocals Ls k' x = some Ls') (hp : pc + 2 = pc')
    (k : own_Out p e below P T (mkF m pc' Ls' (S))) : own_Out p e below P T (mkF m pc Ls (x :: S)) := by
  subst hp
  exact own_by (fun _ => XS.astore X.here hx rfl hd rfl hv hl) k
theorem o_iconst (X : Stand p l e R s m args below meth c T locs cells slots) (hx : p.tables.exec = Jvm.exec) {i : Int} {v : Int32} (hd : decode c.code pc = .ok (.iconst i, 1)) (hv : Int32.ofInt i = v) (hp : pc + 1 = pc')
    (k : own_Out p e below P T (mkF m pc' Ls (.int v :: S))) : own_Out p e below P T (mkF m pc Ls (S)) := by
  subst hp
  subst hv
  exact own_by (fun _ => XS.iconst X.here hx rfl hd) k
theorem o_bipush (X : Stand p l e R s m args below meth c T locs cells slots) (hx : p.tables.exec = Jvm.exec) {i : Int} {v : Int32} (hd : decode c.code pc = .ok (.bipush i, 2)) (hv : (Int8.ofInt i).toInt32 = v) (hp : pc + 2 = pc')
    (k : own_Out p e below P T (mkF m pc' Ls (.int v :: S))) : own_Out p e below P T (mkF m pc Ls (S)) := by
  subst hp
  subst hv
  exact own_by (fun _ => XS.bipush X.here hx rfl hd) k
theorem o_sipush (X : Stand p l e R s m args below meth c T locs cells slots) (hx : p.tables.exec = Jvm.exec) {i : Int} {v : Int32} (hd : decode c.code pc = .ok (.sipush i, 3)) (hv : (Int16.ofInt i).toInt32 = v) (hp : pc + 3 = pc')
    (k : own_Out p e below P T (mkF m pc' Ls (.int v :: S))) : own_Out p e below P T (mkF m pc Ls (S)) := by
  subst hp
  subst hv
  exact own_by (fun _ => XS.sipush X.here hx rfl hd) k
theorem o_lconst (X : Stand p l e R s m args below meth c T locs cells slots) (hx : p.tables.exec = Jvm.exec) {i : Fin 2} {v : Int64} (hd : decode c.code pc = .ok (.lconst i, 1)) (hv : Int64.ofNat i = v) (hp : pc + 1 = pc')
    (k : own_Out p e below P T (mkF m pc' Ls (.long v :: S))) : own_Out p e below P T (mkF m pc Ls (S)) := by
  subst hp
  subst hv
  exact own_by (fun _ => XS.lconst X.here hx rfl hd) k
theorem o_aconst_null (X : Stand p l e R s m args below meth c T locs cells slots) (hx : p.tables.exec = Jvm.exec) (hd : decode c.code pc = .ok (.aconst_null, 1)) (hp : pc + 1 = pc')
    (k : own_Out p e below P T (mkF m pc' Ls (.null :: S))) : own_Out p e below P T (mkF m pc Ls (S)) := by
  subst hp
  exact own_by (fun _ => XS.aconstNull X.here hx rfl hd) k
theorem o_iadd (X : Stand p l e R s m args below meth c T locs cells slots) (hx : p.tables.exec = Jvm.exec) {x y : Int32} (hd : decode c.code pc = .ok (.iadd, 1)) (hp : pc + 1 = pc')
    (k : own_Out p e below P T (mkF m pc' Ls (.int (x + y) :: S))) : own_Out p e below P T (mkF m pc Ls (.int y :: .int x :: S)) := by
  subst hp
  exact own_by (fun _ => XS.iadd X.here hx rfl hd rfl) k
theorem o_isub (X : Stand p l e R s m args below meth c T locs cells slots) (hx : p.tables.exec = Jvm.exec) {x y : Int32} (hd : decode c.code pc = .ok (.isub, 1)) (hp : pc + 1 = pc')
    (k : own_Out p e below P T (mkF m pc' Ls (.int (x - y) :: S))) : own_Out p e below P T (mkF m pc Ls (.int y :: .int x :: S)) := by
  subst hp
  exact own_by (fun _ => XS.isub X.here hx rfl hd rfl) k
theorem o_imul (X : Stand p l e R s m args below meth c T locs cells slots) (hx : p.tables.exec = Jvm.exec) {x y : Int32} (hd : decode c.code pc = .ok (.imul, 1)) (hp : pc + 1 = pc')
    (k : own_Out p e below P T (mkF m pc' Ls (.int (x * y) :: S))) : own_Out p e below P T (mkF m pc Ls (.int y :: .int x :: S)) := by
  subst hp
  exact own_by (fun _ => XS.imul X.here hx rfl hd rfl) k
theorem o_iand (X : Stand p l e R s m args below meth c T locs cells slots) (hx : p.tables.exec = Jvm.exec) {x y : Int32} (hd : decode c.code pc = .ok (.iand, 1)) (hp : pc + 1 = pc')
    (k : own_Out p e below P T (mkF m pc' Ls (.int (x &&& y) :: S))) : own_Out p e below P T (mkF m pc Ls (.int y :: .int x :: S)) := by
  subst hp
  exact own_by (fun _ => XS.iand X.here hx rfl hd rfl) k
theorem o_ior (X : Stand p l e R s m args below meth c T locs cells slots) (hx : p.tables.exec = Jvm.exec) {x y : Int32} (hd : decode c.code pc = .ok (.ior, 1)) (hp : pc + 1 = pc')
    (k : own_Out p e below P T (mkF m pc' Ls (.int (x ||| y) :: S))) : own_Out p e below P T (mkF m pc Ls (.int y :: .int x :: S)) := by
  subst hp
  exact own_by (fun _ => XS.ior X.here hx rfl hd rfl) k
theorem o_ixor (X : Stand p l e R s m args below meth c T locs cells slots) (hx : p.tables.exec = Jvm.exec) {x y : Int32} (hd : decode c.code pc = .ok (.ixor, 1)) (hp : pc + 1 = pc')
    (k : own_Out p e below P T (mkF m pc' Ls (.int (x ^^^ y) :: S))) : own_Out p e below P T (mkF m pc Ls (.int y :: .int x :: S)) := by
  subst hp
  exact own_by (fun _ => XS.ixor X.here hx rfl hd rfl) k
theorem o_ladd (X : Stand p l e R s m args below meth c T locs cells slots) (hx : p.tables.exec = Jvm.exec) {x y : Int64} (hd : decode c.code pc = .ok (.ladd, 1)) (hp : pc + 1 = pc')
    (k : own_Out p e below P T (mkF m pc' Ls (.long (x + y) :: S))) : own_Out p e below P T (mkF m pc Ls (.long y :: .long x :: S)) := by
  subst hp
  exact own_by (fun _ => XS.ladd X.here hx rfl hd rfl) k
theorem o_lsub (X : Stand p l e R s m args below meth c T locs cells slots) (hx : p.tables.exec = Jvm.exec) {x y : Int64} (hd : decode c.code pc = .ok (.lsub, 1)) (hp : pc + 1 = pc')
    (k : own_Out p e below P T (mkF m pc' Ls (.long (x - y) :: S))) : own_Out p e below P T (mkF m pc Ls (.long y :: .long x :: S)) := by
  subst hp
  exact own_by (fun _ => XS.lsub X.here hx rfl hd rfl) k
theorem o_lmul (X : Stand p l e R s m args below meth c T locs cells slots) (hx : p.tables.exec = Jvm.exec) {x y : Int64} (hd : decode c.code pc = .ok (.lmul, 1)) (hp : pc + 1 = pc')
    (k : own_Out p e below P T (mkF m pc' Ls (.long (x * y) :: S))) : own_Out p e below P T (mkF m pc Ls (.long y :: .long x :: S)) := by
  subst hp
  exact own_by (fun _ => XS.lmul X.here hx rfl hd rfl) k
theorem o_land (X : Stand p l e R s m args below meth c T locs cells slots) (hx : p.tables.exec = Jvm.exec) {x y : Int64} (hd : decode c.code pc = .ok (.land, 1)) (hp : pc + 1 = pc')
    (k : own_Out p e below P T (mkF m pc' Ls (.long (x &&& y) :: S))) : own_Out p e below P T (mkF m pc Ls (.long y :: .long x :: S)) := by
  subst hp
  exact own_by (fun _ => XS.land X.here hx rfl hd rfl) k
theorem o_lor (X : Stand p l e R s m args below meth c T locs cells slots) (hx : p.tables.exec = Jvm.exec) {x y : Int64} (hd : decode c.code pc = .ok (.lor, 1)) (hp : pc + 1 = pc')
    (k : own_Out p e below P T (mkF m pc' Ls (.long (x ||| y) :: S))) : own_Out p e below P T (mkF m pc Ls (.long y :: .long x :: S)) := by
  subst hp
  exact own_by (fun _ => XS.lor X.here hx rfl hd rfl) k
theorem o_lxor (X : Stand p l e R s m args below meth c T locs cells slots) (hx : p.tables.exec = Jvm.exec) {x y : Int64} (hd : decode c.code pc = .ok (.lxor, 1)) (hp : pc + 1 = pc')
    (k : own_Out p e below P T (mkF m pc' Ls (.long (x ^^^ y) :: S))) : own_Out p e below P T (mkF m pc Ls (.long y :: .long x :: S)) := by
  subst hp
  exact own_by (fun _ => XS.lxor X.here hx rfl hd rfl) k
theorem o_ishl (X : Stand p l e R s m args below meth c T locs cells slots) (hx : p.tables.exec = Jvm.exec) {x y : Int32} (hd : decode c.code pc = .ok (.ishl, 1)) (hp : pc + 1 = pc')
    (k : own_Out p e below P T (mkF m pc' Ls (.int (x <<< (y &&& 31)) :: S))) : own_Out p e below P T (mkF m pc Ls (.int y :: .int x :: S)) := by
  subst hp
  exact own_by (fun _ => XS.ishl X.here hx rfl hd rfl) k
theorem o_iushr (X : Stand p l e R s m args below meth c T locs cells slots) (hx : p.tables.exec = Jvm.exec) {x y : Int32} (hd : decode c.code pc = .ok (.iushr, 1)) (hp : pc + 1 = pc')
    (k : own_Out p e below P T (mkF m pc' Ls (.int ((x.toUInt32 >>> (y &&& 31).toUInt32).toInt32) :: S))) : own_Out p e below P T (mkF m pc Ls (.int y :: .int x :: S)) := by
  subst hp
  exact own_by (fun _ => XS.iushr X.here hx rfl hd rfl) k
theorem o_lshl (X : Stand p l e R s m args below meth c T locs cells slots) (hx : p.tables.exec = Jvm.exec) {x : Int64} {y : Int32} (hd : decode c.code pc = .ok (.lshl, 1)) (hp : pc + 1 = pc')
    (k : own_Out p e below P T (mkF m pc' Ls (.long (x <<< (y &&& 0x3f).toInt64) :: S))) : own_Out p e below P T (mkF m pc Ls (.int y :: .long x :: S)) := by
  subst hp
  exact own_by (fun _ => XS.lshl X.here hx rfl hd rfl) k
theorem o_lushr (X : Stand p l e R s m args below meth c T locs cells slots) (hx : p.tables.exec = Jvm.exec) {x : Int64} {y : Int32} (hd : decode c.code pc = .ok (.lushr, 1)) (hp : pc + 1 = pc')
    (k : own_Out p e below P T (mkF m pc' Ls (.long ((x.toUInt64 >>> (y &&& 0x3f).toInt64.toUInt64).toInt64) :: S))) : own_Out p e below P T (mkF m pc Ls (.int y :: .long x :: S)) := by
  subst hp
  exact own_by (fun _ => XS.lushr X.here hx rfl hd rfl) k
theorem o_ldiv (X : Stand p l e R s m args below meth c T locs cells slots) (hx : p.tables.exec = Jvm.exec) {x y : Int64} (hd : decode c.code pc = .ok (.ldiv, 1)) (hy : y ≠ 0) (hp : pc + 1 = pc')
    (k : own_Out p e below P T (mkF m pc' Ls (.long (x / y) :: S))) : own_Out p e below P T (mkF m pc Ls (.long y :: .long x :: S)) := by
  subst hp
  exact own_by (fun _ => XS.ldiv X.here hx rfl hd rfl hy) k
theorem o_irem (X : Stand p l e R s m args below meth c T locs cells slots) (hx : p.tables.exec = Jvm.exec) {x y : Int32} (hd : decode c.code pc = .ok (.irem, 1)) (hy : y ≠ 0) (hp : pc + 1 = pc')
    (k : own_Out p e below P T (mkF m pc' Ls (.int (x % y) :: S))) : own_Out p e below P T (mkF m pc Ls (.int y :: .int x :: S)) := by
  subst hp
  exact own_by (fun _ => iremM X hx rfl hd rfl hy) k
theorem o_i2b (X : Stand p l e R s m args below meth c T locs cells slots) (hx : p.tables.exec = Jvm.exec) {v : Int32} (hd : decode c.code pc = .ok (.i2b, 1)) (hp : pc + 1 = pc')
    (k : own_Out p e below P T (mkF m pc' Ls (.int (v.toInt8.toInt32) :: S))) : own_Out p e below P T (mkF m pc Ls (.int v :: S)) := by
  subst hp
  exact own_by (fun _ => XS.i2b X.here hx rfl hd rfl) k
theorem o_i2c (X : Stand p l e R s m args below meth c T locs cells slots) (hx : p.tables.exec = Jvm.exec) {v : Int32} (hd : decode c.code pc = .ok (.i2c, 1)) (hp : pc + 1 = pc')
    (k : own_Out p e below P T (mkF m pc' Ls (.int (v.toUInt32.toUInt16.toUInt32.toInt32) :: S))) : own_Out p e below P T (mkF m pc Ls (.int v :: S)) := by
  subst hp
  exact own_by (fun _ => XS.i2c X.here hx rfl hd rfl) k
theorem o_i2s (X : Stand p l e R s m args below meth c T locs cells slots) (hx : p.tables.exec = Jvm.exec) {v : Int32} (hd : decode c.code pc = .ok (.i2s, 1)) (hp : pc + 1 = pc')
    (k : own_Out p e below P T (mkF m pc' Ls (.int (v.toInt16.toInt32) :: S))) : own_Out p e below P T (mkF m pc Ls (.int v :: S)) := by
  subst hp
  exact own_by (fun _ => XS.i2s X.here hx rfl hd rfl) k
theorem o_i2l (X : Stand p l e R s m args below meth c T locs cells slots) (hx : p.tables.exec = Jvm.exec) {v : Int32} (hd : decode c.code pc = .ok (.i2l, 1)) (hp : pc + 1 = pc')
    (k : own_Out p e below P T (mkF m pc' Ls (.long (v.toInt64) :: S))) : own_Out p e below P T (mkF m pc Ls (.int v :: S)) := by
  subst hp
  exact own_by (fun _ => XS.i2l X.here hx rfl hd rfl) k
theorem o_l2i (X : Stand p l e R s m args below meth c T locs cells slots) (hx : p.tables.exec = Jvm.exec) {v : Int64} (hd : decode c.code pc = .ok (.l2i, 1)) (hp : pc + 1 = pc')
    (k : own_Out p e below P T (mkF m pc' Ls (.int (v.toInt32) :: S))) : own_Out p e below P T (mkF m pc Ls (.long v :: S)) := by
  subst hp
  exact own_by (fun _ => XS.l2i X.here hx rfl hd rfl) k
theorem o_lcmp (X : Stand p l e R s m args below meth c T locs cells slots) (hx : p.tables.exec = Jvm.exec) {x y : Int64} (hd : decode c.code pc = .ok (.lcmp, 1)) (hp : pc + 1 = pc')
    (k : own_Out p e below P T (mkF m pc' Ls (.int (lcmpW x y) :: S))) : own_Out p e below P T (mkF m pc Ls (.long y :: .long x :: S)) := by
  subst hp
  exact own_by (fun _ => XS.lcmp X.here hx rfl hd rfl) k
theorem o_dup (X : Stand p l e R s m args below meth c T locs cells slots) (hx : p.tables.exec = Jvm.exec) {x : Value} (hd : decode c.code pc = .ok (.dup, 1)) (hc : x.category = 1) (hp : pc + 1 = pc')
    (k : own_Out p e below P T (mkF m pc' Ls (x :: x :: S))) : own_Out p e below P T (mkF m pc Ls (x :: S)) := by
  subst hp
  exact own_by (fun _ => XS.dup X.here hx rfl hd rfl hc) k
theorem o_pop (X : Stand p l e R s m args below meth c T locs cells slots) (hx : p.tables.exec = Jvm.exec) {x : Value} (hd : decode c.code pc = .ok (.pop, 1)) (hc : x.category = 1) (hp : pc + 1 = pc')
    (k : own_Out p e below P T (mkF m pc' Ls (S))) : own_Out p e below P T (mkF m pc Ls (x :: S)) := by
  subst hp
  exact own_by (fun _ => XS.pop X.here hx rfl hd rfl hc) k
theorem o_dup_x1 (X : Stand p l e R s m args below meth c T locs cells slots) (hx : p.tables.exec = Jvm.exec) {x y : Value} (hd : decode c.code pc = .ok (.dup_x1, 1)) (hc : x.category = 1) (hc2 : y.category = 1) (hp : pc + 1 = pc')
    (k : own_Out p e below P T (mkF m pc' Ls (x :: y :: x :: S))) : own_Out p e below P T (mkF m pc Ls (x :: y :: S)) := by
  subst hp
  exact own_by (fun _ => XS.dupX1 X.here hx rfl hd rfl hc hc2) k
theorem o_iinc (X : Stand p l e R s m args below meth c T locs cells slots) (hx : p.tables.exec = Jvm.exec) {k' : Nat} {cst : Int} {x y : Int32} (hd : decode c.code pc = .ok (.iinc k' cst, 3)) (hl : Ls[k']? = some (.val (.int x))) (hy : x + Int32.ofInt cst = y) (hl' : storeLocals Ls k' (.int y) = some Ls') (hp : pc + 3 = pc')
    (k : own_Out p e below P T (mkF m pc' Ls' (S))) : own_Out p e below P T (mkF m pc Ls (S)) := by
  subst hp
  subst hy
  exact own_by (fun _ => XS.iinc X.here hx rfl hd hl hl') k
theorem o_goto (X : Stand p l e R s m args below meth c T locs cells slots) (hx : p.tables.exec = Jvm.exec) {o : Int} (hd : decode c.code pc = .ok (.goto o, 3)) (ho : (pc : Int) + o = (pc' : Int))
    (k : own_Out p e below P T (mkF m pc' Ls (S))) : own_Out p e below P T (mkF m pc Ls (S)) :=
  own_by (fun _ => XS.goto X.here hx rfl (pc0 := pc) (pc' := pc') rfl hd (by omega) (by omega)) k
theorem o_icmp_lt (X : Stand p l e R s m args below meth c T locs cells slots) (hx : p.tables.exec = Jvm.exec) {x y : Int32} {o : Int} {pn : Nat} (hd : decode c.code pc = .ok (.if_icmp .lt o, 3)) (ho : (pc : Int) + o = (pc' : Int)) (hp : pc + 3 = pn)
    (kY : x < y → own_Out p e below P T (mkF m pc' Ls (S))) (kN : ¬ (x < y) → own_Out p e below P T (mkF m pn Ls (S))) : own_Out p e below P T (mkF m pc Ls (.int y :: .int x :: S)) := by
  subst hp
  by_cases q : x < y
  · exact own_by (fun _ => XS.icmpYes X.here hx rfl (pc0 := pc) (pc' := pc') rfl hd rfl (tlt q).1 (by omega) (by omega)) (kY q)
  · exact own_by (fun _ => XS.icmpNo X.here hx rfl hd rfl (flt q).1) (kN q)
theorem o_if_lt (X : Stand p l e R s m args below meth c T locs cells slots) (hx : p.tables.exec = Jvm.exec) {x : Int32} {o : Int} {pn : Nat} (hd : decode c.code pc = .ok (.ifCond .lt o, 3)) (ho : (pc : Int) + o = (pc' : Int)) (hp : pc + 3 = pn)
    (kY : x < 0 → own_Out p e below P T (mkF m pc' Ls (S))) (kN : ¬ (x < 0) → own_Out p e below P T (mkF m pn Ls (S))) : own_Out p e below P T (mkF m pc Ls (.int x :: S)) := by
  subst hp
  by_cases q : x < 0
  · exact own_by (fun _ => XS.ifYes X.here hx rfl (pc0 := pc) (pc' := pc') rfl hd rfl ((if0 _ _).trans (tlt q).1) (by omega) (by omega)) (kY q)
  · exact own_by (fun _ => XS.ifNo X.here hx rfl hd rfl ((if0 _ _).trans (flt q).1)) (kN q)
theorem o_icmp_ge (X : Stand p l e R s m args below meth c T locs cells slots) (hx : p.tables.exec = Jvm.exec) {x y : Int32} {o : Int} {pn : Nat} (hd : decode c.code pc = .ok (.if_icmp .ge o, 3)) (ho : (pc : Int) + o = (pc' : Int)) (hp : pc + 3 = pn)
    (kY : ¬ (x < y) → own_Out p e below P T (mkF m pc' Ls (S))) (kN : x < y → own_Out p e below P T (mkF m pn Ls (S))) : own_Out p e below P T (mkF m pc Ls (.int y :: .int x :: S)) := by
  subst hp
  by_cases q : x < y
  · exact own_by (fun _ => XS.icmpNo X.here hx rfl hd rfl (tlt q).2.1) (kN q)
  · exact own_by (fun _ => XS.icmpYes X.here hx rfl (pc0 := pc) (pc' := pc') rfl hd rfl (flt q).2.1 (by omega) (by omega)) (kY q)
theorem o_if_ge (X : Stand p l e R s m args below meth c T locs cells slots) (hx : p.tables.exec = Jvm.exec) {x : Int32} {o : Int} {pn : Nat} (hd : decode c.code pc = .ok (.ifCond .ge o, 3)) (ho : (pc : Int) + o = (pc' : Int)) (hp : pc + 3 = pn)
    (kY : ¬ (x < 0) → own_Out p e below P T (mkF m pc' Ls (S))) (kN : x < 0 → own_Out p e below P T (mkF m pn Ls (S))) : own_Out p e below P T (mkF m pc Ls (.int x :: S)) := by
  subst hp
  by_cases q : x < 0
  · exact own_by (fun _ => XS.ifNo X.here hx rfl hd rfl ((if0 _ _).trans (tlt q).2.1)) (kN q)
  · exact own_by (fun _ => XS.ifYes X.here hx rfl (pc0 := pc) (pc' := pc') rfl hd rfl ((if0 _ _).trans (flt q).2.1) (by omega) (by omega)) (kY q)
theorem o_icmp_gt (X : Stand p l e R s m args below meth c T locs cells slots) (hx : p.tables.exec = Jvm.exec) {x y : Int32} {o : Int} {pn : Nat} (hd : decode c.code pc = .ok (.if_icmp .gt o, 3)) (ho : (pc : Int) + o = (pc' : Int)) (hp : pc + 3 = pn)
    (kY : y < x → own_Out p e below P T (mkF m pc' Ls (S))) (kN : ¬ (y < x) → own_Out p e below P T (mkF m pn Ls (S))) : own_Out p e below P T (mkF m pc Ls (.int y :: .int x :: S)) := by
  subst hp
  by_cases q : y < x
  · exact own_by (fun _ => XS.icmpYes X.here hx rfl (pc0 := pc) (pc' := pc') rfl hd rfl (tlt q).2.2.1 (by omega) (by omega)) (kY q)
  · exact own_by (fun _ => XS.icmpNo X.here hx rfl hd rfl (flt q).2.2.1) (kN q)
theorem o_if_gt (X : Stand p l e R s m args below meth c T locs cells slots) (hx : p.tables.exec = Jvm.exec) {x : Int32} {o : Int} {pn : Nat} (hd : decode c.code pc = .ok (.ifCond .gt o, 3)) (ho : (pc : Int) + o = (pc' : Int)) (hp : pc + 3 = pn)
    (kY : 0 < x → own_Out p e below P T (mkF m pc' Ls (S))) (kN : ¬ (0 < x) → own_Out p e below P T (mkF m pn Ls (S))) : own_Out p e below P T (mkF m pc Ls (.int x :: S)) := by
  subst hp
  by_cases q : 0 < x
  · exact own_by (fun _ => XS.ifYes X.here hx rfl (pc0 := pc) (pc' := pc') rfl hd rfl ((if0 _ _).trans (tlt q).2.2.1) (by omega) (by omega)) (kY q)
  · exact own_by (fun _ => XS.ifNo X.here hx rfl hd rfl ((if0 _ _).trans (flt q).2.2.1)) (kN q)
theorem o_icmp_le (X : Stand p l e R s m args below meth c T locs cells slots) (hx : p.tables.exec = Jvm.exec) {x y : Int32} {o : Int} {pn : Nat} (hd : decode c.code pc = .ok (.if_icmp .le o, 3)) (ho : (pc : Int) + o = (pc' : Int)) (hp : pc + 3 = pn)
    (kY : ¬ (y < x) → own_Out p e below P T (mkF m pc' Ls (S))) (kN : y < x → own_Out p e below P T (mkF m pn Ls (S))) : own_Out p e below P T (mkF m pc Ls (.int y :: .int x :: S)) := by
  subst hp
  by_cases q : y < x
  · exact own_by (fun _ => XS.icmpNo X.here hx rfl hd rfl (tlt q).2.2.2) (kN q)
  · exact own_by (fun _ => XS.icmpYes X.here hx rfl (pc0 := pc) (pc' := pc') rfl hd rfl (flt q).2.2.2 (by omega) (by omega)) (kY q)
theorem o_if_le (X : Stand p l e R s m args below meth c T locs cells slots) (hx : p.tables.exec = Jvm.exec) {x : Int32} {o : Int} {pn : Nat} (hd : decode c.code pc = .ok (.ifCond .le o, 3)) (ho : (pc : Int) + o = (pc' : Int)) (hp : pc + 3 = pn)
    (kY : ¬ (0 < x) → own_Out p e below P T (mkF m pc' Ls (S))) (kN : 0 < x → own_Out p e below P T (mkF m pn Ls (S))) : own_Out p e below P T (mkF m pc Ls (.int x :: S)) := by
  subst hp
  by_cases q : 0 < x
  · exact own_by (fun _ => XS.ifNo X.here hx rfl hd rfl ((if0 _ _).trans (tlt q).2.2.2)) (kN q)
  · exact own_by (fun _ => XS.ifYes X.here hx rfl (pc0 := pc) (pc' := pc') rfl hd rfl ((if0 _ _).trans (flt q).2.2.2) (by omega) (by omega)) (kY q)
theorem o_icmp_eq (X : Stand p l e R s m args below meth c T locs cells slots) (hx : p.tables.exec = Jvm.exec) {x y : Int32} {o : Int} {pn : Nat} (hd : decode c.code pc = .ok (.if_icmp .eq o, 3)) (ho : (pc : Int) + o = (pc' : Int)) (hp : pc + 3 = pn)
    (kY : x = y → own_Out p e below P T (mkF m pc' Ls (S))) (kN : ¬ (x = y) → own_Out p e below P T (mkF m pn Ls (S))) : own_Out p e below P T (mkF m pc Ls (.int y :: .int x :: S)) := by
  subst hp
  by_cases q : x = y
  · exact own_by (fun _ => XS.icmpYes X.here hx rfl (pc0 := pc) (pc' := pc') rfl hd rfl (teq q).1 (by omega) (by omega)) (kY q)
  · exact own_by (fun _ => XS.icmpNo X.here hx rfl hd rfl (feq q).1) (kN q)
theorem o_if_eq (X : Stand p l e R s m args below meth c T locs cells slots) (hx : p.tables.exec = Jvm.exec) {x : Int32} {o : Int} {pn : Nat} (hd : decode c.code pc = .ok (.ifCond .eq o, 3)) (ho : (pc : Int) + o = (pc' : Int)) (hp : pc + 3 = pn)
    (kY : x = 0 → own_Out p e below P T (mkF m pc' Ls (S))) (kN : ¬ (x = 0) → own_Out p e below P T (mkF m pn Ls (S))) : own_Out p e below P T (mkF m pc Ls (.int x :: S)) := by
  subst hp
  by_cases q : x = 0
  · exact own_by (fun _ => XS.ifYes X.here hx rfl (pc0 := pc) (pc' := pc') rfl hd rfl ((if0 _ _).trans (teq q).1) (by omega) (by omega)) (kY q)
  · exact own_by (fun _ => XS.ifNo X.here hx rfl hd rfl ((if0 _ _).trans (feq q).1)) (kN q)
theorem o_icmp_ne (X : Stand p l e R s m args below meth c T locs cells slots) (hx : p.tables.exec = Jvm.exec) {x y : Int32} {o : Int} {pn : Nat} (hd : decode c.code pc = .ok (.if_icmp .ne o, 3)) (ho : (pc : Int) + o = (pc' : Int)) (hp : pc + 3 = pn)
    (kY : ¬ (x = y) → own_Out p e below P T (mkF m pc' Ls (S))) (kN : x = y → own_Out p e below P T (mkF m pn Ls (S))) : own_Out p e below P T (mkF m pc Ls (.int y :: .int x :: S)) := by
  subst hp
  by_cases q : x = y
  · exact own_by (fun _ => XS.icmpNo X.here hx rfl hd rfl (teq q).2) (kN q)
  · exact own_by (fun _ => XS.icmpYes X.here hx rfl (pc0 := pc) (pc' := pc') rfl hd rfl (feq q).2 (by omega) (by omega)) (kY q)
theorem o_if_ne (X : Stand p l e R s m args below meth c T locs cells slots) (hx : p.tables.exec = Jvm.exec) {x : Int32} {o : Int} {pn : Nat} (hd : decode c.code pc = .ok (.ifCond .ne o, 3)) (ho : (pc : Int) + o = (pc' : Int)) (hp : pc + 3 = pn)
    (kY : ¬ (x = 0) → own_Out p e below P T (mkF m pc' Ls (S))) (kN : x = 0 → own_Out p e below P T (mkF m pn Ls (S))) : own_Out p e below P T (mkF m pc Ls (.int x :: S)) := by
  subst hp
  by_cases q : x = 0
  · exact own_by (fun _ => XS.ifNo X.here hx rfl hd rfl ((if0 _ _).trans (teq q).2)) (kN q)
  · exact own_by (fun _ => XS.ifYes X.here hx rfl (pc0 := pc) (pc' := pc') rfl hd rfl ((if0 _ _).trans (feq q).2) (by omega) (by omega)) (kY q)
theorem o_acmp_eq (X : Stand p l e R s m args below meth c T locs cells slots) (hx : p.tables.exec = Jvm.exec) {a b : Addr} {o : Int} {pn : Nat} (hd : decode c.code pc = .ok (.if_acmp .eq o, 3)) (ho : (pc : Int) + o = (pc' : Int)) (hp : pc + 3 = pn)
    (kY : a = b → own_Out p e below P T (mkF m pc' Ls (S))) (kN : ¬ a = b → own_Out p e below P T (mkF m pn Ls (S))) : own_Out p e below P T (mkF m pc Ls (.ref b :: .ref a :: S)) := by
  subst hp
  by_cases q : a = b
  · exact own_by (fun _ => XS.acmpYes X.here hx rfl (pc0 := pc) (pc' := pc') rfl hd rfl (by simp [if_acmp.holds, q]) (by omega) (by omega)) (kY q)
  · exact own_by (fun _ => XS.acmpNo X.here hx rfl hd rfl (by simp [if_acmp.holds, q])) (kN q)
theorem o_acmp_ne (X : Stand p l e R s m args below meth c T locs cells slots) (hx : p.tables.exec = Jvm.exec) {a b : Addr} {o : Int} {pn : Nat} (hd : decode c.code pc = .ok (.if_acmp .ne o, 3)) (ho : (pc : Int) + o = (pc' : Int)) (hp : pc + 3 = pn)
    (kY : ¬ a = b → own_Out p e below P T (mkF m pc' Ls (S))) (kN : a = b → own_Out p e below P T (mkF m pn Ls (S))) : own_Out p e below P T (mkF m pc Ls (.ref b :: .ref a :: S)) := by
  subst hp
  by_cases q : a = b
  · exact own_by (fun _ => XS.acmpNo X.here hx rfl hd rfl (by simp [if_acmp.holds, q])) (kN q)
  · exact own_by (fun _ => XS.acmpYes X.here hx rfl (pc0 := pc) (pc' := pc') rfl hd rfl (by simp [if_acmp.holds, q]) (by omega) (by omega)) (kY q)
theorem o_ifnullY (X : Stand p l e R s m args below meth c T locs cells slots) (hx : p.tables.exec = Jvm.exec) {o : Int} (hd : decode c.code pc = .ok (.ifnull o, 3)) (ho : (pc : Int) + o = (pc' : Int)) (k : own_Out p e below P T (mkF m pc' Ls (S))) : own_Out p e below P T (mkF m pc Ls (.null :: S)) :=
  own_by (fun _ => XS.ifnullYes X.here hx rfl (pc0 := pc) (pc' := pc') rfl hd rfl (by omega) (by omega)) k
theorem o_ifnullN (X : Stand p l e R s m args below meth c T locs cells slots) (hx : p.tables.exec = Jvm.exec) {o : Int} {b : Addr} (hd : decode c.code pc = .ok (.ifnull o, 3)) (hp : pc + 3 = pc') (k : own_Out p e below P T (mkF m pc' Ls (S))) : own_Out p e below P T (mkF m pc Ls (.ref b :: S)) := by
  subst hp
  exact own_by (fun _ => XS.ifnullNo X.here hx rfl hd rfl) k
theorem o_ldcI (X : Stand p l e R s m args below meth c T locs cells slots) (hx : p.tables.exec = Jvm.exec) (hZ : Z.Warmed39 s.vm) {own : String} {index : Nat} {v : Int32} (hown : s.vm.findClass own = some m.cls) (w : (Cond.constant own index v).before a0 Z = true) (hd : decode c.code pc = .ok (.ldc index, 2)) (hp : pc + 2 = pc') (k : own_Out p e below P T (mkF m pc' Ls (.int v :: S))) : own_Out p e below P T (mkF m pc Ls (S)) := by
  subst hp
  exact own_by (X.ldcInt hx hown (mvT hZ w) (g := mkF m pc Ls S) rfl hd) k
theorem o_ldcL (X : Stand p l e R s m args below meth c T locs cells slots) (hx : p.tables.exec = Jvm.exec) (hZ : Z.Warmed39 s.vm) {own : String} {index : Nat} {v : Int64} (hown : s.vm.findClass own = some m.cls) (w : (Cond.constantLong own index v).before a0 Z = true) (hd : decode c.code pc = .ok (.ldc2_w index, 3)) (hp : pc + 3 = pc') (k : own_Out p e below P T (mkF m pc' Ls (.long v :: S))) : own_Out p e below P T (mkF m pc Ls (S)) := by
  subst hp
  exact own_by (X.ldc2Long hx hown (mvT hZ w) (g := mkF m pc Ls S) rfl hd) k
theorem o_retN (X : Stand p l e R s m args below meth c T locs cells slots) (hx : p.tables.exec = Jvm.exec) {z v : Int32} {t : FieldType} (hret : meth.sig.returnType = some t) (hlk : meth.locks = false) (ht : t = .boolean ∨ t = .byte ∨ t = .char ∨ t = .short) (hd : decode c.code pc = .ok (.ireturn, 1)) (hz : nar t z = v) (hQ : Q (some (.int v)) T.heap locs) (h1 : cells ≤ kc) (h2 : slots ≤ kn) : own_Out p e below (own_P s Q kc kn) T (mkF m pc Ls (.int z :: S)) := by
  subst hz
  obtain ⟨fs, hr, hrun, hended, hW, hsame⟩ := X.leave (v := some (.int (nar t z))) (fun h => by rw [hret] at h; cases h) hlk
  exact ⟨_, _, retN X hx hret ht hd hr, hrun, hended, _, _, rfl, hQ, ⟨_, rfl⟩, hW, hsame.mono h1 h2⟩
theorem o_retW (X : Stand p l e R s m args below meth c T locs cells slots) (hx : p.tables.exec = Jvm.exec) {w : Value} {t : FieldType} {i : Instr} (hret : meth.sig.returnType = some t) (hlk : meth.locks = false) (hn : narrow t w = w) (hi : (i = .ireturn ∧ (t = .int ∨ t = .boolean ∨ t = .byte ∨ t = .char ∨ t = .short) ∧ ∃ z, w = .int z) ∨ (i = .lreturn ∧ t = .long ∧ ∃ z, w = .long z) ∨ (i = .dreturn ∧ t = .double ∧ ∃ z, w = .double z) ∨ (i = .freturn ∧ t = .float ∧ ∃ z, w = .float z) ∨ (i = .areturn ∧ t.isReference = true ∧ w.isRef = true)) (hd : decode c.code pc = .ok (i, 1)) (hQ : Q (some w) T.heap locs) (h1 : cells ≤ kc) (h2 : slots ≤ kn) : own_Out p e below (own_P s Q kc kn) T (mkF m pc Ls (w :: S)) := by
  obtain ⟨fs, hr, hrun, hended, hW, hsame⟩ := X.leave (v := some w) (fun h => by rw [hret] at h; cases h) hlk
  exact ⟨_, _, retOut X hx hret hn hi hd hr, hrun, hended, _, _, rfl, hQ, ⟨_, rfl⟩, hW, hsame.mono h1 h2⟩
theorem o_retI (X : Stand p l e R s m args below meth c T locs cells slots) (hx : p.tables.exec = Jvm.exec) {z : Int32} (hret : meth.sig.returnType = some .int) (hlk : meth.locks = false) (hd : decode c.code pc = .ok (.ireturn, 1)) (hQ : Q (some (.int z)) T.heap locs) (h1 : cells ≤ kc) (h2 : slots ≤ kn) : own_Out p e below (own_P s Q kc kn) T (mkF m pc Ls (.int z :: S)) :=
  o_retW X hx hret hlk rfl (Or.inl ⟨rfl, Or.inl rfl, _, rfl⟩) hd hQ h1 h2
theorem o_retJ (X : Stand p l e R s m args below meth c T locs cells slots) (hx : p.tables.exec = Jvm.exec) {z : Int64} (hret : meth.sig.returnType = some .long) (hlk : meth.locks = false) (hd : decode c.code pc = .ok (.lreturn, 1)) (hQ : Q (some (.long z)) T.heap locs) (h1 : cells ≤ kc) (h2 : slots ≤ kn) : own_Out p e below (own_P s Q kc kn) T (mkF m pc Ls (.long z :: S)) :=
  o_retW X hx hret hlk rfl (Or.inr (Or.inl ⟨rfl, rfl, _, rfl⟩)) hd hQ h1 h2
theorem o_retA (X : Stand p l e R s m args below meth c T locs cells slots) (hx : p.tables.exec = Jvm.exec) {w : Value} {t : FieldType} (hret : meth.sig.returnType = some t) (hlk : meth.locks = false) (ht : t.isReference = true) (hw : w.isRef = true) (hn : narrow t w = w) (hd : decode c.code pc = .ok (.areturn, 1)) (hQ : Q (some w) T.heap locs) (h1 : cells ≤ kc) (h2 : slots ≤ kn) : own_Out p e below (own_P s Q kc kn) T (mkF m pc Ls (w :: S)) :=
  o_retW X hx hret hlk hn (Or.inr (Or.inr (Or.inr (Or.inr ⟨rfl, ht, hw⟩)))) hd hQ h1 h2
theorem o_retV (X : Stand p l e R s m args below meth c T locs cells slots) (hx : p.tables.exec = Jvm.exec) (hret : meth.sig.returnType = none) (hlk : meth.locks = false) (hd : decode c.code pc = .ok (.return_, 1)) (hQ : Q none T.heap locs) (h1 : cells ≤ kc) (h2 : slots ≤ kn) : own_Out p e below (own_P s Q kc kn) T (mkF m pc Ls ([])) := by
  obtain ⟨fs, hr, hrun, hended, hW, hsame⟩ := X.leave (v := none) (fun _ => rfl) hlk
  exact ⟨_, _, X.returnOut hx hret hd hr, hrun, hended, _, _, rfl, hQ, ⟨_, rfl⟩, hW, hsame.mono h1 h2⟩
theorem o_getF (X : Stand p l e R s m args below meth c T locs cells slots) (hx : p.tables.exec = Jvm.exec) (hZ : Z.Warmed39 s.vm) {own O n d : String} {index : Nat} (hown : s.vm.findClass own = some m.cls) (w : (Cond.fieldLink own index O n d).before a0 Z = true) (eT : T.heap = h) {a : Addr} {v : Value} (F : Fld Z h a O n d v) (hd : decode c.code pc = .ok (.getfield index, 3)) (hp : pc + 3 = pc')
    (k : ∀ T', Stand p l e R s m args below meth c T' locs cells slots → T'.heap = h → own_Out p e below P T' (mkF m pc' Ls (v :: S))) : own_Out p e below P T (mkF m pc Ls (.ref a :: S)) := by
  subst hp
  obtain ⟨T1, X1, e1, st⟩ := getF X hx hZ hown (host := "") (Or.inl w) Via.refl eT F (g := mkF m pc Ls (.ref a :: S)) rfl rfl hd
  exact own_by st (k T1 X1 e1)
theorem o_getS (X : Stand p l e R s m args below meth c T locs cells slots) (hx : p.tables.exec = Jvm.exec) (hZ : Z.Warmed39 s.vm) {own O n d : String} {index : Nat} (hown : s.vm.findClass own = some m.cls) (w : (Cond.fieldLink own index O n d).before a0 Z = true) (eT : T.heap = h) {v : Value} (F : Sta Z h O n d v) (hd : decode c.code pc = .ok (.getstatic index, 3)) (hp : pc + 3 = pc')
    (k : ∀ T', Stand p l e R s m args below meth c T' locs cells slots → T'.heap = h → own_Out p e below P T' (mkF m pc' Ls (v :: S))) : own_Out p e below P T (mkF m pc Ls (S)) := by
  subst hp
  obtain ⟨T1, X1, e1, st⟩ := getS (host := "") X hx hZ hown w Via.refl eT F (g := mkF m pc Ls S) rfl hd
  exact own_by st (k T1 X1 e1)
theorem o_putF (X : Stand p l e R s m args below meth c T locs cells slots) (hx : p.tables.exec = Jvm.exec) (hZ : Z.Warmed39 s.vm) {own O n d C : String} {index kk : Nat} {ty : FieldType} (hown : s.vm.findClass own = some m.cls) (w : (Cond.fieldLink own index O n d).before a0 Z = true) (eT : T.heap = h) {a : Addr} {v old : Value} (F : Fld Z h a O n d old) (E : Exa Z h a C) (L : (Cond.lays C O n d).before a0 Z = true ∨ ((Cond.laysFinal C O n d).before a0 Z = true ∧ own = O ∧ meth.name = "<init>")) (wi : (Cond.instantiable C kk).before a0 Z = true) (hty : parseFieldDescriptor d = some ty) (hn : narrow ty v = v) (hf : fits ty v = true) (hd : decode c.code pc = .ok (.putfield index, 3)) (hp : pc + 3 = pc')
    (k : ∀ T' h', Stand p l e R s m args below meth c T' (locs ++ [⟨a, Jvm.RoadKit.slotOf Z O n d⟩]) cells slots → T'.heap = h' → Wr h h' a (Jvm.RoadKit.slotOf Z O n d) v → own_Out p e below P T' (mkF m pc' Ls (S))) : own_Out p e below P T (mkF m pc Ls (v :: .ref a :: S)) := by
  subst hp
  obtain ⟨T1, h1, X1, e1, W1, st⟩ := putF X hx hZ hown (host := "") (Or.inl w) Via.refl eT F E L wi hty hn hf (g := mkF m pc Ls (v :: .ref a :: S)) rfl rfl hd
  exact own_by st (k T1 h1 X1 e1 W1)
theorem o_new (X : Stand p l e R s m args below meth c T locs cells slots) (hx : p.tables.exec = Jvm.exec) (hZ : Z.Warmed39 s.vm) {own C : String} {index n : Nat} (hown : s.vm.findClass own = some m.cls) (w : (Cond.classLink own index C).before a0 Z = true) (wi : (Cond.instantiable C n).before a0 Z = true) (wz : (Cond.initialized C).before a0 Z = true) (eT : T.heap = h) (hd : decode c.code pc = .ok (.new index, 3)) (hc : cells + 1 ≤ R.cells) (hl : slots + n ≤ R.slots) (hp : pc + 3 = pc')
    (k : ∀ T' h' a, Stand p l e R s m args below meth c T' locs (cells + 1) (slots + n) → T'.heap = h' → Ext h h' → a = h.size → Exa Z h' a C → (∀ {O nm d : String} {ty : FieldType}, Laid Z a0 C O nm d → parseFieldDescriptor d = some ty → Fld Z h' a O nm d (defaultValue ty)) → own_Out p e below P T' (mkF m pc' Ls (.ref a :: S))) : own_Out p e below P T (mkF m pc Ls (S)) := by
  subst hp
  obtain ⟨T1, h1, X1, e1, E1, A1, D1, -, st⟩ := newO X hx hZ hown w wi wz eT (g := mkF m pc Ls S) rfl hd hc hl
  exact own_by st (k T1 h1 _ X1 e1 E1 rfl A1 D1)
theorem o_newarr (X : Stand p l e R s m args below meth c T locs cells slots) (hx : p.tables.exec = Jvm.exec) (hZ : Z.Warmed39 s.vm) {aty : ArrayType} {n : Int32} (w : (Cond.arrayClass (newarray.typeOf aty)).before a0 Z = true) (eT : T.heap = h) (hd : decode c.code pc = .ok (.newarray aty, 2)) (hn : ¬ n < 0) {cap : Nat} (hcap : n.toNatClampNeg ≤ cap) (hb : cap * 8 ≤ 536870912) (hc : cells + 1 ≤ R.cells) (hl : slots + cap ≤ R.slots) (hp : pc + 2 = pc')
    (k : ∀ T' h' a cA, Stand p l e R s m args below meth c T' locs (cells + 1) (slots + cap) → T'.heap = h' → Ext h h' → a = h.size → Arr Z h' a (newA cA (newarray.typeOf aty) n) (newarray.typeOf aty) → own_Out p e below P T' (mkF m pc' Ls (.ref a :: S))) : own_Out p e below P T (mkF m pc Ls (.int n :: S)) := by
  subst hp
  obtain ⟨T1, h1, cA, X1, e1, E1, A1, st⟩ := newP X hx hZ w eT (g := mkF m pc Ls (.int n :: S)) rfl hd rfl hn hcap hb hc hl
  exact own_by st (k T1 h1 _ cA X1 e1 E1 rfl A1)
theorem o_iastore (X : Stand p l e R s m args below meth c T locs cells slots) (hx : p.tables.exec = Jvm.exec) (hZ : Z.Warmed39 s.vm) (eT : T.heap = h) {a : Addr} {cl : Cell} (A : Arr Z h a cl .int) {j x : Int32} (hj : ¬ (j < 0 ∨ cl.slots.size ≤ j.toNatClampNeg)) (hd : decode c.code pc = .ok (.iastore, 1)) (hp : pc + 1 = pc')
    (k : ∀ T' h', Stand p l e R s m args below meth c T' (locs ++ [⟨a, j.toNatClampNeg⟩]) cells slots → T'.heap = h' → Wr h h' a j.toNatClampNeg (.int x) → own_Out p e below P T' (mkF m pc' Ls (S))) : own_Out p e below P T (mkF m pc Ls (.int x :: .int j :: .ref a :: S)) := by
  subst hp
  obtain ⟨T1, h1, X1, e1, W1, st⟩ := stI X hx hZ eT A hj (g := mkF m pc Ls (.int x :: .int j :: .ref a :: S)) rfl rfl hd
  exact own_by st (k T1 h1 X1 e1 W1)
theorem o_bastore (X : Stand p l e R s m args below meth c T locs cells slots) (hx : p.tables.exec = Jvm.exec) (hZ : Z.Warmed39 s.vm) (eT : T.heap = h) {a : Addr} {cl : Cell} (A : Arr Z h a cl .byte) {j x : Int32} (hj : ¬ (j < 0 ∨ cl.slots.size ≤ j.toNatClampNeg)) (hd : decode c.code pc = .ok (.bastore, 1)) (hp : pc + 1 = pc')
    (k : ∀ T' h', Stand p l e R s m args below meth c T' (locs ++ [⟨a, j.toNatClampNeg⟩]) cells slots → T'.heap = h' → Wr h h' a j.toNatClampNeg (.int (nar .byte x)) → own_Out p e below P T' (mkF m pc' Ls (S))) : own_Out p e below P T (mkF m pc Ls (.int x :: .int j :: .ref a :: S)) := by
  subst hp
  obtain ⟨T1, h1, X1, e1, W1, st⟩ := stB X hx hZ eT A hj (g := mkF m pc Ls (.int x :: .int j :: .ref a :: S)) rfl rfl hd
  exact own_by st (k T1 h1 X1 e1 W1)
theorem o_castore (X : Stand p l e R s m args below meth c T locs cells slots) (hx : p.tables.exec = Jvm.exec) (hZ : Z.Warmed39 s.vm) (eT : T.heap = h) {a : Addr} {cl : Cell} (A : Arr Z h a cl .char) {j x : Int32} (hj : ¬ (j < 0 ∨ cl.slots.size ≤ j.toNatClampNeg)) (hd : decode c.code pc = .ok (.castore, 1)) (hp : pc + 1 = pc')
    (k : ∀ T' h', Stand p l e R s m args below meth c T' (locs ++ [⟨a, j.toNatClampNeg⟩]) cells slots → T'.heap = h' → Wr h h' a j.toNatClampNeg (.int (nar .char x)) → own_Out p e below P T' (mkF m pc' Ls (S))) : own_Out p e below P T (mkF m pc Ls (.int x :: .int j :: .ref a :: S)) := by
  subst hp
  obtain ⟨T1, h1, X1, e1, W1, st⟩ := stC X hx hZ eT A hj (g := mkF m pc Ls (.int x :: .int j :: .ref a :: S)) rfl rfl hd
  exact own_by st (k T1 h1 X1 e1 W1)
theorem o_iaload (X : Stand p l e R s m args below meth c T locs cells slots) (hx : p.tables.exec = Jvm.exec) (hZ : Z.Warmed39 s.vm) (eT : T.heap = h) {a : Addr} {cl : Cell} (A : Arr Z h a cl .int) {j : Int32} {v : Value} (hj : ¬ (j < 0 ∨ cl.slots.size ≤ j.toNatClampNeg)) (hv : cl.slots[j.toNatClampNeg]? = some v) (hd : decode c.code pc = .ok (.iaload, 1)) (hp : pc + 1 = pc')
    (k : own_Out p e below P T (mkF m pc' Ls (v :: S))) : own_Out p e below P T (mkF m pc Ls (.int j :: .ref a :: S)) := by
  subst hp
  exact own_by (fun t => X.iaload hx (by rw [eT]; exact A.1) (State.isArrayOf_alike hZ.alike A.2.1) A.2.2 hj hv (g := mkF m pc Ls (.int j :: .ref a :: S)) rfl rfl hd t) k
theorem o_baload (X : Stand p l e R s m args below meth c T locs cells slots) (hx : p.tables.exec = Jvm.exec) (hZ : Z.Warmed39 s.vm) (eT : T.heap = h) {a : Addr} {cl : Cell} (A : Arr Z h a cl .byte) {j : Int32} {v : Value} (hj : ¬ (j < 0 ∨ cl.slots.size ≤ j.toNatClampNeg)) (hv : cl.slots[j.toNatClampNeg]? = some v) (hd : decode c.code pc = .ok (.baload, 1)) (hp : pc + 1 = pc')
    (k : own_Out p e below P T (mkF m pc' Ls (v :: S))) : own_Out p e below P T (mkF m pc Ls (.int j :: .ref a :: S)) := by
  subst hp
  exact own_by (fun t => X.baloadBytes hx (by rw [eT]; exact A.1) (State.isArrayOf_alike hZ.alike A.2.1) A.2.2 hj hv (g := mkF m pc Ls (.int j :: .ref a :: S)) rfl rfl hd t) k
theorem o_arraylength (X : Stand p l e R s m args below meth c T locs cells slots) (hx : p.tables.exec = Jvm.exec) (hZ : Z.Warmed39 s.vm) (eT : T.heap = h) {a : Addr} {cl : Cell} {ty : FieldType} (A : Arr Z h a cl ty) {n : Int32} (hn : cl.slots.size.toInt32 = n) (hd : decode c.code pc = .ok (.arraylength, 1)) (hp : pc + 1 = pc')
    (k : own_Out p e below P T (mkF m pc' Ls (.int n :: S))) : own_Out p e below P T (mkF m pc Ls (.ref a :: S)) := by
  subst hp hn
  exact own_by (fun t => X.arraylength hx (by rw [eT]; exact A.1) (State.isArrayOf_alike hZ.alike A.2.1) (g := mkF m pc Ls (.ref a :: S)) rfl rfl hd t) k
theorem o_init0 (X : Stand p l e R s m args below meth c T locs cells slots) (hx : p.tables.exec = Jvm.exec) (hZ : Z.Warmed39 s.vm) {own : String} {idx : Nat} (hown : s.vm.findClass own = some m.cls) (w1 : (Cond.methodLink own idx Lib.objectInit).before a0 Z = true) (w2 : (Cond.instanceMethod Lib.objectInit).before a0 Z = true) (w3 : (Cond.code Lib.objectInit ⟨#[0xb1]⟩ 1 none).before a0 Z = true) (eT : T.heap = h) (hsize : Ls.size = c.maxLocals) {a : Addr} (hd : decode c.code pc = .ok (.invokespecial idx, 3)) (hf : 1 ≤ R.frames) {W : Nat} (hW : (S.map fun v => v.category).sum ≤ W) (hl : W + 12 ≤ R.locals) (hp : pc + 3 = pc')
    (k : ∀ T', Stand p l e R s m args below meth c T' locs cells slots → T'.heap = h → own_Out p e below P T' (mkF m pc' Ls (S))) : own_Out p e below P T (mkF m pc Ls (.ref a :: S)) := by
  subst hp
  obtain ⟨T1, X1, e1, st⟩ := initO X hx hZ hown w1 w2 w3 eT (g := mkF m pc Ls (.ref a :: S)) rfl hsize rfl hd hf (W := W) (by show 2 * 0 + _ ≤ _; omega) hl
  exact own_by st (k T1 X1 e1)
abbrev own_Met (l : Launch) (y : MethodName) (bytes : ByteArray) (maxL : Nat) (ret : Option FieldType) (ws : List Cond) (rm : Room) (Z : State) (h0 : Heap) (as' : Array Value) (Q : Option Value → Heap → List Loc → Prop) : Prop :=
  MetFree l y (head1 (Cond.code y bytes maxL ret :: ws) rm) (fun a U => a = as' ∧ Z.Warmed39 U.vm ∧ U.heap = h0) (fun _ _ _ _ _ => True) (fun _ U o U' => ∃ v L, o = .returned v ∧ Q v U'.heap L ∧ FrameEnd U o U' L rm.cells rm.slots)
theorem o_callS (X : Stand p l e R s m args below meth c T locs cells slots) (hx : p.tables.exec = Jvm.exec) (hZ : Z.Warmed39 s.vm) {own : String} {index : Nat} {y : MethodName} {bytes : ByteArray} {maxL : Nat} {ret : Option FieldType} {rm : Room} {as' : List Value} {ps : List FieldType} {r0 : Option FieldType} {S' : List Value} (hown : s.vm.findClass own = some m.cls) (w1 : (Cond.methodLink own index y).before a0 Z = true) (w2 : (Cond.static y).before a0 Z = true) (w3 : (Cond.initialized y.cls).before a0 Z = true) (w4 : (Cond.code y bytes maxL ret).before a0 Z = true) (hy : y.cls ≠ "java/lang/invoke/MethodHandle" ∧ y.cls ≠ "java/lang/invoke/VarHandle") (eT : T.heap = h) (hM : own_Met l y bytes maxL ret [] rm Z h as'.toArray Q) (hsize : Ls.size = c.maxLocals) (hpd : parseMethodDescriptor y.desc = some ⟨ps, r0⟩) (hlen : as'.length = ps.length) {W : Nat} (hW : (S.map fun v => v.category).sum ≤ W) (hf : rm.frames + 1 ≤ R.frames) (hl : W + (maxL + 11) + rm.locals ≤ R.locals) (hd : decode c.code pc = .ok (.invokestatic index, 3)) (hc : cells + rm.cells ≤ R.cells) (hs : slots + rm.slots ≤ R.slots) (hp : pc + 3 = pc') (hst : S' = as'.reverse ++ S)
    (k : ∀ v T' L, Stand p l e R s m args below meth c T' (locs ++ L) (cells + rm.cells) (slots + rm.slots) → Q v T'.heap L → own_Out p e below P T' (mkF m pc' Ls (v.toList ++ S))) : own_Out p e below P T (mkF m pc Ls S') := by
  subst hp hst
  obtain ⟨v, vm, ⟨T1, L1, k1, n1⟩, -, X1, ⟨Lc, hQ, l1, l2, l3⟩, st⟩ := Jvm.LawKit.callS X hx (y := y) hown (mvT hZ w1) (mvT hZ w2) (mvT hZ w3) (mvT hZ w4) hy (backOf (W := W) hM hZ w4 w3 hf hl) (g := mkF m pc Ls (as'.reverse ++ S)) rfl hsize (argsL := as') (rest := S) (lenOf hpd hlen) rfl (by show 2 * 0 + _ ≤ _; omega) hd (fun _ _ => ⟨rfl, eT, hc, hs⟩)
  dsimp only [Pt.U, Pt.locs, Pt.cells, Pt.slots] at X1 l1 l2 l3 st hQ
  subst l1 l2 l3
  exact own_by st (k v T1 Lc X1 hQ)
theorem o_callI (X : Stand p l e R s m args below meth c T locs cells slots) (hx : p.tables.exec = Jvm.exec) (hZ : Z.Warmed39 s.vm) {own : String} {index : Nat} {y : MethodName} {bytes : ByteArray} {maxL : Nat} {rm : Room} {as' : List Value} {ps : List FieldType} {r0 : Option FieldType} {S' : List Value} {a : Addr} (hy1 : y.name = "<init>") (hown : s.vm.findClass own = some m.cls) (w1 : (Cond.methodLink own index y).before a0 Z = true) (w2 : (Cond.instanceMethod y).before a0 Z = true) (w3 : (Cond.initialized y.cls).before a0 Z = true) (w4 : (Cond.code y bytes maxL none).before a0 Z = true) (hy : y.cls ≠ "java/lang/invoke/MethodHandle" ∧ y.cls ≠ "java/lang/invoke/VarHandle") (eT : T.heap = h) (hM : own_Met l y bytes maxL none [] rm Z h (.ref a :: as').toArray Q) (hsize : Ls.size = c.maxLocals) (hpd : parseMethodDescriptor y.desc = some ⟨ps, r0⟩) (hlen : as'.length = ps.length) {W : Nat} (hW : (S.map fun v => v.category).sum ≤ W) (hf : rm.frames + 1 ≤ R.frames) (hl : W + (maxL + 11) + rm.locals ≤ R.locals) (hd : decode c.code pc = .ok (.invokespecial index, 3)) (hc : cells + rm.cells ≤ R.cells) (hs : slots + rm.slots ≤ R.slots) (hp : pc + 3 = pc') (hst : S' = as'.reverse ++ .ref a :: S)
    (k : ∀ v T' L, Stand p l e R s m args below meth c T' (locs ++ L) (cells + rm.cells) (slots + rm.slots) → Q v T'.heap L → own_Out p e below P T' (mkF m pc' Ls (v.toList ++ S))) : own_Out p e below P T (mkF m pc Ls S') := by
  subst hp hst
  obtain ⟨v, vm, ⟨T1, L1, k1, n1⟩, -, X1, ⟨Lc, hQ, l1, l2, l3⟩, st⟩ := X.specialBack hx (y := y) hy1 hown (mvT hZ w1) (mvT hZ w2) (mvT hZ w4) hy (backOf (W := W) hM hZ w4 w3 hf hl) (g := mkF m pc Ls (as'.reverse ++ .ref a :: S)) rfl hsize (Steps.refl _) (a := a) (argsL := as') (rest := S) (lenOf hpd hlen) rfl (by show 2 * 0 + _ ≤ _; omega) hd (fun _ _ => ⟨rfl, eT, hc, hs⟩)
  dsimp only [Pt.U, Pt.locs, Pt.cells, Pt.slots] at X1 l1 l2 l3 st hQ
  subst l1 l2 l3
  exact own_go st (k v T1 Lc X1 hQ)
theorem o_callV (X : Stand p l e R s m args below meth c T locs cells slots) (hx : p.tables.exec = Jvm.exec) (hZ : Z.Warmed39 s.vm) {own : String} {index : Nat} {y : MethodName} {bytes : ByteArray} {maxL : Nat} {ret : Option FieldType} {rm : Room} {as' : List Value} {ps : List FieldType} {r0 : Option FieldType} {S' : List Value} {C : String} {b : Addr} (hown : s.vm.findClass own = some m.cls) (w1 : (Cond.methodLink own index y).before a0 Z = true) (w2 : (Cond.declares y).before a0 Z = true) (w3 : (Cond.selects C y y).before a0 Z = true) (w4 : (Cond.instanceMethod y).before a0 Z = true) (w5 : (Cond.initialized y.cls).before a0 Z = true) (w6 : (Cond.code y bytes maxL ret).before a0 Z = true) (hy : y.cls ≠ "java/lang/invoke/MethodHandle" ∧ y.cls ≠ "java/lang/invoke/VarHandle") (eT : T.heap = h) (E : Exa Z h b C) (hM : own_Met l y bytes maxL ret [] rm Z h (.ref b :: as').toArray Q) (hsize : Ls.size = c.maxLocals) (hpd : parseMethodDescriptor y.desc = some ⟨ps, r0⟩) (hlen : as'.length = ps.length) {W : Nat} (hW : (S.map fun v => v.category).sum ≤ W) (hf : rm.frames + 1 ≤ R.frames) (hl : W + (maxL + 11) + rm.locals ≤ R.locals) (hd : decode c.code pc = .ok (.invokevirtual index, 3)) (hc : cells + rm.cells ≤ R.cells) (hs : slots + rm.slots ≤ R.slots) (hp : pc + 3 = pc') (hst : S' = as'.reverse ++ .ref b :: S)
    (k : ∀ v T' L, Stand p l e R s m args below meth c T' (locs ++ L) (cells + rm.cells) (slots + rm.slots) → Q v T'.heap L → own_Out p e below P T' (mkF m pc' Ls (v.toList ++ S))) : own_Out p e below P T (mkF m pc Ls S') := by
  subst hp hst
  obtain ⟨cq, kq, q1, q2, q3⟩ := isOf hZ eT E
  obtain ⟨v, vm, ⟨T1, L1, k1, n1⟩, -, X1, ⟨Lc, hQ, l1, l2, l3⟩, st⟩ := X.virtualBack hx (y := y) (z := y) hown (mvT hZ w1) (mvT hZ w2) (notFace_of_selects (args := #[]) (mvT hZ w3)) (mvT hZ w3) (mvT hZ w4) hy (backOf (W := W) hM hZ w6 w5 hf hl) q1 q3 (g := mkF m pc Ls (as'.reverse ++ .ref b :: S)) rfl hsize (Steps.refl _) (argsL := as') (rest := S) (lenOf hpd hlen) rfl (by show 2 * 0 + _ ≤ _; omega) hd (fun _ _ => ⟨rfl, eT, hc, hs⟩)
  dsimp only [Pt.U, Pt.locs, Pt.cells, Pt.slots] at X1 l1 l2 l3 st hQ
  subst l1 l2 l3
  exact own_go st (k v T1 Lc X1 hQ)
theorem own_pure {r : Value} {h0 : Heap} {L : List Loc} {v : Option Value} (hc : kc = 0) (hn : kn = 0) (X : Stand p l e R s m args below meth c T' (locs ++ L) (cells + kc) (slots + kn)) (q : own_Pure r h0 v T'.heap L) : v = some r ∧ Stand p l e R s m args below meth c T' locs cells slots ∧ T'.heap = h0 := by
  obtain ⟨rfl, rfl, q3⟩ := q
  subst hc hn
  rw [List.append_nil] at X
  exact ⟨rfl, X, q3⟩
theorem own_in {cl : Cell} {n : Nat} {j : Int32} (q0 : cl.slots.size = n) (q : ¬ j < 0 ∧ j.toNatClampNeg < n) : ¬ (j < 0 ∨ cl.slots.size ≤ j.toNatClampNeg) := by
  rw [q0]; rintro (z | z)
  · exact q.1 z
  · exact Nat.not_le.mpr q.2 z
theorem own_r1 : nar .boolean (1 : Int32) = 1 := by decide
theorem own_r0 : nar .boolean (0 : Int32) = 0 := by decide
theorem own_b0 {q : Prop} [Decidable q] : own_b q = 0 ↔ ¬ q := by by_cases h : q <;> simp [own_b, h]
theorem own_bc {q r : Prop} [Decidable q] [Decidable r] (h : q ↔ r) : own_b q = own_b r := by
  by_cases k : q
  · rw [own_bt k, own_bt (h.mp k)]
  · rw [own_bf k, own_bf (fun z => k (h.mpr z))]
end OwnKit
theorem own_pd0 : parseMethodDescriptor "([BIJ)I" = some ⟨[(.array .byte), .int, .long], some .int⟩ := by decide +kernel
theorem own_pd1 : parseMethodDescriptor "([BIIJB)Z" = some ⟨[(.array .byte), .int, .int, .long, .byte], some .boolean⟩ := by decide +kernel
def own_By (Z : State) (h : Heap) (a : Addr) (n : Nat) (f : Nat → Int32) : Prop := ∃ cl : Cell, Arr Z h a cl .byte ∧ cl.slots.size = n ∧ ∀ j, j < n → cl.slots[j]? = some (.int (f j))
theorem own_by_new {Z : State} {h : Heap} {a : Addr} {cA : ClassId} {n : Int32} {k : Nat} (A : Arr Z h a (newA cA .byte n) .byte) (hk : n.toNatClampNeg = k) : own_By Z h a k (fun _ => 0) := by
  subst hk
  exact ⟨_, A, sz_new _ _ _, fun j hj => by simp [newA, hj, defaultValue]⟩
theorem own_By.ext {Z : State} {h h' : Heap} {a : Addr} {n : Nat} {f : Nat → Int32} (q : own_By Z h a n f) (E : Ext h h') : own_By Z h' a n f := by obtain ⟨cl, q1, q2⟩ := q; exact ⟨cl, q1.ext E, q2⟩
theorem own_By.other {Z : State} {h h' : Heap} {a b : Addr} {n sl : Nat} {v : Value} {f : Nat → Int32} (q : own_By Z h a n f) (W : Wr h h' b sl v) (k : a ≠ b) : own_By Z h' a n f := by obtain ⟨cl, q1, q2⟩ := q; exact ⟨cl, q1.other W k, q2⟩
theorem own_By.same {Z : State} {h h' : Heap} {a : Addr} {n j : Nat} {x : Int32} {f g : Nat → Int32} (q : own_By Z h a n f) (W : Wr h h' a j (.int x)) (hg : ∀ i, i < n → g i = if i = j then x else f i) : own_By Z h' a n g := by
  obtain ⟨cl, q1, q2, q3⟩ := q
  refine ⟨_, q1.same W, by rw [sz_set]; exact q2, fun i hi => ?_⟩
  rw [hg i hi]
  by_cases u : j = i
  · subst u; simp [Cell.setSlot, q2, hi]
  · rw [if_neg (fun z => u z.symm)]; simp only [Cell.setSlot]; rw [Array.getElem?_setIfInBounds_ne u]; exact q3 i hi
theorem own_By.congr {Z : State} {h : Heap} {a : Addr} {n : Nat} {f g : Nat → Int32} (q : own_By Z h a n f) (hg : ∀ i, i < n → g i = f i) : own_By Z h a n g := by
  obtain ⟨cl, q1, q2, q3⟩ := q
  exact ⟨cl, q1, q2, fun i hi => by rw [hg i hi]; exact q3 i hi⟩
theorem own_nb (v : Int32) : nar .byte (v.toInt8.toInt32) = v.toInt8.toInt32 := by simp [nar]
section OwnBytes
variable {p : Program} {l : Launch} {e : Env} {R : Room} {s : State} {m : MethodId} {args : Array Value} {below : List Frame} {meth : Method} {c : Code} {T : State} {locs : List Loc} {cells slots : Nat} {P : Outcome → State → Prop} {pc pc' : Nat} {Ls : Array Slot} {S : List Value} {Z : State} {h : Heap}
theorem own_stB (X : Stand p l e R s m args below meth c T locs cells slots) (hx : p.tables.exec = Jvm.exec) (hZ : Z.Warmed39 s.vm) (eT : T.heap = h) {a : Addr} {n k : Nat} {f : Nat → Int32} (A : own_By Z h a n f) (N : Fr k locs) (hk : k ≤ a) {j v : Int32} (g : Nat → Int32) (hj : ¬ j < 0 ∧ j.toNatClampNeg < n) (hd : decode c.code pc = .ok (.bastore, 1)) (hp : pc + 1 = pc') (hg : ∀ i, i < n → g i = if i = j.toNatClampNeg then v.toInt8.toInt32 else f i)
    (q : ∀ T' h' locs', Stand p l e R s m args below meth c T' locs' cells slots → T'.heap = h' → Wr h h' a j.toNatClampNeg (.int v.toInt8.toInt32) → own_By Z h' a n g → Fr k locs' → own_Out p e below P T' (mkF m pc' Ls S)) : own_Out p e below P T (mkF m pc Ls (.int (v.toInt8.toInt32) :: .int j :: .ref a :: S)) := by
  have A' := A
  obtain ⟨cl, A1, A2, A3⟩ := A'
  refine o_bastore X hx hZ eT A1 (j := j) (own_in A2 hj) hd hp fun T' h' X' e' W' => ?_
  rw [own_nb] at W'
  exact q T' h' _ X' e' W' (A.same W' hg) (Fr.snoc X' N hk)
theorem own_ldB (X : Stand p l e R s m args below meth c T locs cells slots) (hx : p.tables.exec = Jvm.exec) (hZ : Z.Warmed39 s.vm) (eT : T.heap = h) {a : Addr} {n : Nat} {f : Nat → Int32} (A : own_By Z h a n f) {j : Int32} (i : Nat) (hj : ¬ j < 0 ∧ j.toNatClampNeg < n) (hi : j.toNatClampNeg = i) (hd : decode c.code pc = .ok (.baload, 1)) (hp : pc + 1 = pc')
    (q : own_Out p e below P T (mkF m pc' Ls (.int (f i) :: S))) : own_Out p e below P T (mkF m pc Ls (.int j :: .ref a :: S)) := by
  obtain ⟨cl, A1, A2, A3⟩ := A
  subst hi
  exact o_baload X hx hZ eT A1 (own_in A2 hj) (A3 _ hj.2) hd hp q
end OwnBytes
def own_u (x : Int64) : Nat := x.toBitVec.toNat
theorem own_u_inj {x y : Int64} (h : own_u x = own_u y) : x = y := Int64.toBitVec_inj.mp (BitVec.eq_of_toNat_eq h)
theorem own_u_lt (x : Int64) : own_u x < 2 ^ 64 := x.toBitVec.isLt
theorem own_u_or (x y : Int64) : own_u (x ||| y) = own_u x ||| own_u y := by
  show (x.toBitVec ||| y.toBitVec).toNat = _
  rw [BitVec.toNat_or]; rfl
theorem own_u_and (x y : Int64) : own_u (x &&& y) = own_u x &&& own_u y := by
  show (x.toBitVec &&& y.toBitVec).toNat = _
  rw [BitVec.toNat_and]; rfl
theorem own_u_mask (x m : Int64) (k : Nat) (hm : own_u m = 2 ^ k - 1) : own_u (x &&& m) = own_u x % 2 ^ k := by rw [own_u_and, hm, Nat.and_two_pow_sub_one_eq_mod]
theorem own_u_shr (x : Int64) (n : UInt64) (k : Nat) (hn : n.toNat = k) (hk : k < 64) : own_u ((x.toUInt64 >>> n).toInt64) = own_u x / 2 ^ k := by
  show (x.toUInt64 >>> n).toNat = _
  rw [UInt64.toNat_shiftRight, hn, Nat.mod_eq_of_lt hk, Nat.shiftRight_eq_div_pow]; rfl
theorem own_u_shl (x n : Int64) (k : Nat) (hn : (n.toBitVec.smod 64).toNat = k) : own_u (x <<< n) = own_u x * 2 ^ k % 2 ^ 64 := by
  show (x.toBitVec <<< (n.toBitVec.smod 64)).toNat = _
  rw [BitVec.shiftLeft_eq', BitVec.toNat_shiftLeft, hn, Nat.shiftLeft_eq]; rfl
theorem own_t32 (x : Int64) : x.toInt32.toBitVec.toNat = own_u x % 2 ^ 32 := by
  show (x.toBitVec.signExtend 32).toNat = _
  rw [BitVec.signExtend_eq_setWidth_of_le _ (by decide), BitVec.toNat_setWidth]; rfl
theorem own_t8 (x : Int64) : x.toInt8.toBitVec.toNat = own_u x % 2 ^ 8 := by
  show (x.toBitVec.signExtend 8).toNat = _
  rw [BitVec.signExtend_eq_setWidth_of_le _ (by decide), BitVec.toNat_setWidth]; rfl
theorem own_t8' (x : Int32) : x.toInt8.toBitVec.toNat = x.toBitVec.toNat % 2 ^ 8 := by
  show (x.toBitVec.signExtend 8).toNat = _
  rw [BitVec.signExtend_eq_setWidth_of_le _ (by decide), BitVec.toNat_setWidth]
/-- the low byte of a long, by way of an int and a byte -/
theorem own_u_byte (x : Int64) : own_u ((x.toInt32.toInt8.toInt32).toInt64 &&& 255) = own_u x % 256 := by
  rw [own_u_mask _ 255 8 (by decide), Int8.toInt64_toInt32, ← own_t8, Int8.toInt8_toInt64, own_t8', own_t32]
  omega
theorem own_or (a b k : Nat) (h : a < 2 ^ k) : a ||| b * 2 ^ k = a + b * 2 ^ k := by
  have := Nat.two_pow_add_eq_or_of_lt h b
  rw [Nat.or_comm, Nat.mul_comm b, ← this, Nat.add_comm]
theorem own_toInt {i : Nat} (h : i < 2 ^ 31) : (Int32.ofNat i).toInt = i := Int32.toInt_ofNat_of_lt h
theorem own_toNat {i : Nat} (h : i < 2 ^ 31) : (Int32.ofNat i).toNatClampNeg = i := Int32.toNatClampNeg_ofNat_of_lt h
theorem own_olt {i j : Nat} (hi : i < 2 ^ 31) (hj : j < 2 ^ 31) : Int32.ofNat i < Int32.ofNat j ↔ i < j := by
  rw [Int32.lt_iff_toInt_lt, own_toInt hi, own_toInt hj]; omega
theorem own_oeq {i j : Nat} (hi : i < 2 ^ 31) (hj : j < 2 ^ 31) : Int32.ofNat i = Int32.ofNat j ↔ i = j := by
  rw [← Int32.toInt_inj, own_toInt hi, own_toInt hj]; omega
theorem own_nn {i : Nat} (h : i < 2 ^ 31) : ¬ Int32.ofNat i < 0 := by
  rw [Int32.lt_iff_toInt_lt, own_toInt h]; have e0 : (0 : Int32).toInt = 0 := by decide
  rw [e0]; omega
theorem own_add1 (i : Nat) : Int32.ofNat i + (1 : Int32) = Int32.ofNat (i + 1) := (Int32.ofNat_add i 1).symm
theorem own_addn (i j : Nat) : Int32.ofNat i + Int32.ofNat j = Int32.ofNat (i + j) := (Int32.ofNat_add i j).symm
theorem own_idx {i n : Nat} (hi : i < n) (h : i < 2 ^ 31) : ¬ Int32.ofNat i < 0 ∧ (Int32.ofNat i).toNatClampNeg < n := ⟨own_nn h, by rw [own_toNat h]; exact hi⟩
def own_v (q : Int64) : Nat → Int64
  | 0 => q
  | k + 1 => (((own_v q k).toUInt64 >>> ((7 : Int32) &&& 0x3f).toInt64.toUInt64).toInt64)
theorem own_vS (q : Int64) (k : Nat) : own_v q (k + 1) = (((own_v q k).toUInt64 >>> ((7 : Int32) &&& 0x3f).toInt64.toUInt64).toInt64) := rfl
theorem own_dv (N k : Nat) : N / 128 ^ (k + 1) = N / 128 ^ k / 128 := by rw [Nat.pow_succ, Nat.div_div_eq_div_mul]
theorem own_u_v (q : Int64) (k : Nat) : own_u (own_v q k) = own_u q / 128 ^ k := by
  induction k with
  | zero => rw [Nat.pow_zero, Nat.div_one]; rfl
  | succ k ih => rw [own_vS, own_u_shr _ _ 7 (by decide) (by decide), ih, own_dv]
theorem own_u_hi (v : Int64) : own_u (v &&& (-128 : Int64)) = 128 * (own_u v / 128) := by
  have hv := own_u_lt v
  have hM : own_u (-128 : Int64) = 18446744073709551488 := by decide
  rw [own_u_and, hM]
  have h1 : (own_u v &&& 18446744073709551488) / 2 ^ 7 = own_u v / 128 := by
    rw [← Nat.shiftRight_eq_div_pow, Nat.shiftRight_and_distrib, Nat.shiftRight_eq_div_pow, Nat.shiftRight_eq_div_pow, show 18446744073709551488 / 2 ^ 7 = 2 ^ 57 - 1 from by decide, Nat.and_two_pow_sub_one_eq_mod]
    omega
  have h2 : (own_u v &&& 18446744073709551488) % 2 ^ 7 = 0 := by
    rw [Nat.and_mod_two_pow, show 18446744073709551488 % 2 ^ 7 = 0 from by decide, Nat.and_zero]
  omega
theorem own_u0 (x : Int64) : x = 0 ↔ own_u x = 0 := ⟨fun h => by subst h; decide, fun h => own_u_inj (h.trans (by decide))⟩
theorem own_go128 (v : Int64) : lcmpW (v &&& (-128 : Int64)) (0 : Int64) = 0 ↔ own_u v < 128 := by
  rw [lw_eq, own_u0, own_u_hi]; omega
/-- K: how many bytes go on -/
def own_K (N K : Nat) : Prop := K ≤ 9 ∧ N / 128 ^ K < 128 ∧ ∀ i, i < K → 128 ≤ N / 128 ^ i
theorem own_Kex : ∀ n N : Nat, N < 128 ^ (n + 1) → ∃ K, K ≤ n ∧ N / 128 ^ K < 128 ∧ ∀ i, i < K → 128 ≤ N / 128 ^ i := by
  intro n
  induction n with
  | zero => intro N h; exact ⟨0, Nat.le_refl _, by simpa using h, fun i hi => absurd hi (Nat.not_lt_zero _)⟩
  | succ n ih =>
    intro N h
    by_cases q : N < 128
    · exact ⟨0, Nat.zero_le _, by simpa using q, fun i hi => absurd hi (Nat.not_lt_zero _)⟩
    · obtain ⟨K, h1, h2, h3⟩ := ih (N / 128) (by rw [Nat.div_lt_iff_lt_mul (by decide)]; rw [Nat.pow_succ] at h; exact h)
      have e : ∀ i, N / 128 / 128 ^ i = N / 128 ^ (i + 1) := fun i => by rw [Nat.div_div_eq_div_mul, Nat.pow_succ, Nat.mul_comm]
      refine ⟨K + 1, by omega, by rw [← e]; exact h2, fun i hi => ?_⟩
      cases i with
      | zero => rw [Nat.pow_zero, Nat.div_one]; omega
      | succ i => rw [← e]; exact h3 i (by omega)
theorem own_Kof (q : Int64) : ∃ K, own_K (own_u q) K := by
  obtain ⟨K, h⟩ := own_Kex 9 (own_u q) (Nat.lt_of_lt_of_le (own_u_lt q) (by decide))
  exact ⟨K, h⟩
theorem own_zero {N K k : Nat} (h : own_K N K) (hk : K < k) : N / 128 ^ k = 0 := by
  obtain ⟨j, rfl⟩ : ∃ j, k = K + 1 + j := ⟨k - (K + 1), by omega⟩
  clear hk
  induction j with
  | zero => rw [Nat.add_zero, own_dv]; exact Nat.div_eq_of_lt h.2.1
  | succ j ih => rw [← Nat.add_assoc, own_dv, ih]
theorem own_pos {N K k : Nat} (h : own_K N K) (hk : k + 1 ≤ K) : 1 ≤ N / 128 ^ (k + 1) := by
  rw [own_dv]; have := h.2.2 k (by omega); omega
theorem own_sz (q : Int64) (n : UInt64) (k K : Nat) (hn : n.toNat = 7 * (k + 1)) (hk : k < 9) (h : own_K (own_u q) K) : lcmpW ((q.toUInt64 >>> n).toInt64) (0 : Int64) = 0 ↔ K < k + 1 := by
  rw [lw_eq, own_u0, own_u_shr _ _ _ hn (by omega), Nat.pow_mul, show 2 ^ 7 = 128 from by decide]
  constructor
  · intro z
    by_cases u : K < k + 1
    · exact u
    · have := own_pos h (k := k) (by omega); omega
  · exact own_zero h
def own_cb (q : Int64) (k : Nat) : Int32 := (((own_v q k &&& (127 : Int64)) ||| (128 : Int64)).toInt32).toInt8.toInt32
def own_lb (q : Int64) (k : Nat) : Int32 := ((own_v q k).toInt32).toInt8.toInt32
def own_vx (f : Nat → Int32) (A : Nat) (q : Int64) (i : Nat) : Nat → Int32 := fun t => if A ≤ t ∧ t < A + i then own_cb q (t - A) else f t
def own_vy (f : Nat → Int32) (A : Nat) (q : Int64) (K : Nat) : Nat → Int32 := fun t => if t = A + K then own_lb q K else own_vx f A q K t
theorem own_vx0 (f : Nat → Int32) (A : Nat) (q : Int64) : own_vx f A q 0 = f := by
  funext t; simp only [own_vx]; rw [if_neg]; omega
theorem own_vxS (f : Nat → Int32) (A : Nat) (q : Int64) (i t : Nat) : own_vx f A q (i + 1) t = if t = A + i then own_cb q i else own_vx f A q i t := by
  simp only [own_vx]
  by_cases u : t = A + i
  · subst u; rw [if_pos rfl, if_pos (by omega), Nat.add_sub_cancel_left]
  · rw [if_neg u]
    by_cases w : A ≤ t ∧ t < A + i
    · rw [if_pos w, if_pos (by omega)]
    · rw [if_neg w, if_neg (by omega)]
def own_sq (q : Int64) (d : Nat) : Int64 := ((q.toUInt64 >>> (((7 : Int32) * Int32.ofNat d) &&& 0x3f).toInt64.toUInt64).toInt64)
def own_low (q : Int64) (d : Nat) : Int32 := (own_sq q d &&& (127 : Int64)).toInt32
theorem own_u_sq (q : Int64) (d : Nat) (hd : d ≤ 9) : own_u (own_sq q d) = own_u q / 128 ^ d := by
  have hs : ((((7 : Int32) * Int32.ofNat d) &&& 0x3f).toInt64.toUInt64).toNat = 7 * d := by
    have all : ∀ k : Fin 10, ((((7 : Int32) * Int32.ofNat k.val) &&& 0x3f).toInt64.toUInt64).toNat = 7 * k.val := by decide +kernel
    exact all ⟨d, by omega⟩
  rw [own_sq, own_u_shr _ _ (7 * d) hs (by omega), Nat.pow_mul]
theorem own_sv (q : Int64) (d : Nat) (hd : d ≤ 9) : own_v q d = own_sq q d := own_u_inj (by rw [own_u_v, own_u_sq q d hd])
def own_cell (q : Int64) (d : Nat) (v : Int32) : Int32 := if 9 < d then v else if 0 < d ∧ own_sq q d = 0 then v else (if d < 9 ∧ ¬ own_sq q (d + 1) = 0 then (own_low q d ||| (128 : Int32)) else own_low q d).toInt8.toInt32
def own_fl (v : Int32) (k : Nat) : Nat → Int32 := fun t => if t < k then v else 0
theorem own_flS (v : Int32) (k t : Nat) : own_fl v (k + 1) t = if t = k then v else own_fl v k t := by
  simp only [own_fl]
  by_cases u : t = k
  · subst u; rw [if_pos rfl, if_pos (by omega)]
  · rw [if_neg u]
    by_cases w : t < k
    · rw [if_pos w, if_pos (by omega)]
    · rw [if_neg w, if_neg (by omega)]
theorem own_cells (v : Int32) (q : Int64) (A K I : Nat) (hI : I < 13) (h : own_K (own_u q) K) : (I < A → own_vy (own_fl v 13) A q K I = v) ∧ ∀ d, I = A + d → own_vy (own_fl v 13) A q K I = own_cell q d v := by
  have h9 := h.1
  have hfl : own_fl v 13 I = v := by simp only [own_fl]; rw [if_pos hI]
  constructor
  · intro u
    simp only [own_vy, own_vx]; rw [if_neg (by omega), if_neg (by omega)]; exact hfl
  · intro d hd
    subst hd
    rcases Nat.lt_trichotomy d K with u | u | u
    · have e : own_vy (own_fl v 13) A q K (A + d) = own_cb q d := by
        simp only [own_vy, own_vx]; rw [if_neg (by omega), if_pos (by omega), Nat.add_sub_cancel_left]
      have z1 : ¬ (0 < d ∧ own_sq q d = 0) := fun z => by
        have := (own_u0 _).mp z.2; rw [own_u_sq q d (by omega)] at this; have := h.2.2 d u; omega
      have z2 : d < 9 ∧ ¬ own_sq q (d + 1) = 0 := ⟨by omega, fun z => by
        have := (own_u0 _).mp z; rw [own_u_sq q (d + 1) (by omega)] at this; have := own_pos h (k := d) (by omega); omega⟩
      rw [e, own_cell, if_neg (by omega), if_neg z1, if_pos z2, own_cb, own_low, own_sv q d (by omega), Int64.toInt32_or]
      rfl
    · subst u
      have e : own_vy (own_fl v 13) A q d (A + d) = own_lb q d := by simp [own_vy]
      have z1 : ¬ (0 < d ∧ own_sq q d = 0) := fun z => by
        have := (own_u0 _).mp z.2; rw [own_u_sq q d (by omega)] at this
        obtain ⟨k, rfl⟩ : ∃ k, d = k + 1 := ⟨d - 1, by omega⟩
        have := own_pos h (k := k) (by omega); omega
      have z2 : ¬ (d < 9 ∧ ¬ own_sq q (d + 1) = 0) := fun z => z.2 ((own_u0 _).mpr (by rw [own_u_sq q (d + 1) (by omega)]; exact own_zero h (by omega)))
      have e2 : own_sq q d &&& (127 : Int64) = own_sq q d := own_u_inj (by
        rw [own_u_mask _ _ 7 (by decide), own_u_sq q d (by omega)]; exact Nat.mod_eq_of_lt h.2.1)
      rw [e, own_cell, if_neg (by omega), if_neg z1, if_neg z2, own_lb, own_low, own_sv q d (by omega), e2]
    · have e : own_vy (own_fl v 13) A q K (A + d) = v := by
        simp only [own_vy, own_vx]; rw [if_neg (by omega), if_neg (by omega)]; exact hfl
      rw [e, own_cell]
      by_cases z : 9 < d
      · rw [if_pos z]
      · rw [if_neg z, if_pos ⟨by omega, (own_u0 _).mpr (by rw [own_u_sq q d (by omega)]; exact own_zero h u)⟩]
theorem own_at3 (x : Int32) : ∃ A : Nat, A ≤ 2 ∧ (x &&& (2147483647 : Int32)) % (3 : Int32) = Int32.ofNat A := by
  have h := Jvm.Kit.i32_mask x 2147483647 (k := 31) (by decide) (by decide)
  have h2 := Jvm.Kit.i32_rem_nonneg (x := x &&& 2147483647) (y := 3) (by omega)
  have e3 : (3 : Int32).toInt = 3 := by decide
  rw [e3] at h2
  refine ⟨((x &&& (2147483647 : Int32)) % (3 : Int32)).toInt.toNat, by omega, ?_⟩
  rw [← Int32.toInt_inj, own_toInt (by omega)]
  omega
theorem own_ksub (A d : Nat) : Int32.ofNat (A + d) - Int32.ofNat A = Int32.ofNat d := by rw [Int32.ofNat_add, Int32.add_comm, Int32.add_sub_cancel]
theorem own_kneg {I A : Nat} (h : I < A) (hA : A < 2 ^ 31) : Int32.ofNat I - Int32.ofNat A < 0 := by
  have e0 : (0 : Int32).toInt = 0 := by decide
  rw [Int32.lt_iff_toInt_lt, e0, Jvm.Kit.i32_sub (by rw [own_toInt (by omega), own_toInt hA]; omega) (by rw [own_toInt (by omega), own_toInt hA]; omega), own_toInt (by omega), own_toInt hA]
  omega
theorem own_d1_0 : decode prog_166_method_9_code 0 = .ok (.iload_n 1, 1) := by decide +kernel
theorem own_d1_1 : decode prog_166_method_9_code 1 = .ok (.istore 4, 2) := by decide +kernel
theorem own_d1_3 : decode prog_166_method_9_code 3 = .ok (.lload_n 2, 1) := by decide +kernel
theorem own_d1_4 : decode prog_166_method_9_code 4 = .ok (.lstore 5, 2) := by decide +kernel
theorem own_d1_6 : decode prog_166_method_9_code 6 = .ok (.lload 5, 2) := by decide +kernel
theorem own_d1_8 : decode prog_166_method_9_code 8 = .ok (.ldc2_w 41, 3) := by decide +kernel
theorem own_d1_11 : decode prog_166_method_9_code 11 = .ok (.land, 1) := by decide +kernel
theorem own_d1_12 : decode prog_166_method_9_code 12 = .ok (.lconst 0, 1) := by decide +kernel
theorem own_d1_13 : decode prog_166_method_9_code 13 = .ok (.lcmp, 1) := by decide +kernel
theorem own_d1_14 : decode prog_166_method_9_code 14 = .ok (.ifCond .eq 32, 3) := by decide +kernel
theorem own_d1_17 : decode prog_166_method_9_code 17 = .ok (.aload_n 0, 1) := by decide +kernel
theorem own_d1_18 : decode prog_166_method_9_code 18 = .ok (.iload 4, 2) := by decide +kernel
theorem own_d1_20 : decode prog_166_method_9_code 20 = .ok (.lload 5, 2) := by decide +kernel
theorem own_d1_22 : decode prog_166_method_9_code 22 = .ok (.ldc2_w 43, 3) := by decide +kernel
theorem own_d1_25 : decode prog_166_method_9_code 25 = .ok (.land, 1) := by decide +kernel
theorem own_d1_26 : decode prog_166_method_9_code 26 = .ok (.ldc2_w 45, 3) := by decide +kernel
theorem own_d1_29 : decode prog_166_method_9_code 29 = .ok (.lor, 1) := by decide +kernel
theorem own_d1_30 : decode prog_166_method_9_code 30 = .ok (.l2i, 1) := by decide +kernel
theorem own_d1_31 : decode prog_166_method_9_code 31 = .ok (.i2b, 1) := by decide +kernel
theorem own_d1_32 : decode prog_166_method_9_code 32 = .ok (.bastore, 1) := by decide +kernel
theorem own_d1_33 : decode prog_166_method_9_code 33 = .ok (.iinc 4 1, 3) := by decide +kernel
theorem own_d1_36 : decode prog_166_method_9_code 36 = .ok (.lload 5, 2) := by decide +kernel
theorem own_d1_38 : decode prog_166_method_9_code 38 = .ok (.bipush 7, 2) := by decide +kernel
theorem own_d1_40 : decode prog_166_method_9_code 40 = .ok (.lushr, 1) := by decide +kernel
theorem own_d1_41 : decode prog_166_method_9_code 41 = .ok (.lstore 5, 2) := by decide +kernel
theorem own_d1_43 : decode prog_166_method_9_code 43 = .ok (.goto (-37), 3) := by decide +kernel
theorem own_d1_46 : decode prog_166_method_9_code 46 = .ok (.aload_n 0, 1) := by decide +kernel
theorem own_d1_47 : decode prog_166_method_9_code 47 = .ok (.iload 4, 2) := by decide +kernel
theorem own_d1_49 : decode prog_166_method_9_code 49 = .ok (.lload 5, 2) := by decide +kernel
theorem own_d1_51 : decode prog_166_method_9_code 51 = .ok (.l2i, 1) := by decide +kernel
theorem own_d1_52 : decode prog_166_method_9_code 52 = .ok (.i2b, 1) := by decide +kernel
theorem own_d1_53 : decode prog_166_method_9_code 53 = .ok (.bastore, 1) := by decide +kernel
theorem own_d1_54 : decode prog_166_method_9_code 54 = .ok (.iload 4, 2) := by decide +kernel
theorem own_d1_56 : decode prog_166_method_9_code 56 = .ok (.iconst 1, 1) := by decide +kernel
theorem own_d1_57 : decode prog_166_method_9_code 57 = .ok (.iadd, 1) := by decide +kernel
theorem own_d1_58 : decode prog_166_method_9_code 58 = .ok (.ireturn, 1) := by decide +kernel
theorem own_ef1 (m : MethodId) (x0 : Addr) (x1 : Int32) (x2 : Int64) : entryFrame m #[(.ref x0), (.int x1), (.long x2)] 7 = mkF m 0 #[.val (.ref x0), .val (.int x1), .val (.long x2), .second, .unset, .unset, .unset] [] := by first | (simp [entryFrame, mkF, argsToLocals, Value.category]; done) | rfl
theorem own_pn1 : plainName "com/example/wire_grammar/wiregrammar/model/WireOutput" = true := by first | (simp [plainName, overriddenIn]; done) | decide +kernel
set_option maxRecDepth 65536 in
set_option maxHeartbeats 40000000 in
theorem own_rm1 (l : Launch) (Z : State) (a0 : Array Value) (hw : ∀ d ∈ tables_1, d.before a0 Z = true) (ws : List Jvm.Cond) (a1 : Addr) (A K : Nat) (q1 : Int64) (f : Nat → Int32) (h0 : Heap) (n0 : Nat) (g : n0 ≤ a1) (hA : A ≤ 2) (hKo : own_K (own_u q1) K) (B : own_By Z h0 a1 13 f) :
    own_Met l (⟨"com/example/wire_grammar/wiregrammar/model/WireOutput", "putVarint", "([BIJ)I"⟩ : MethodName) prog_166_method_9_code 7 (some .int) ws ({ frames := 0, cells := 0, slots := 0, locals := 0 } : Room) Z h0 #[(.ref a1), (.int (Int32.ofNat A)), (.long q1)] (fun v h L => v = some (.int (Int32.ofNat (A + K + 1))) ∧ Fr n0 L ∧ h0.size ≤ h.size ∧ own_By Z h a1 13 (own_vy f A q1 K)) := by
  refine MetFree.of_bodySF (plainFor_of_name own_pn1) hisR ?_
  intro p e s m args below meth c s₁ Bd hml0 hP hK
  obtain ⟨rfl, hZ, hh⟩ := hP
  have hx := Bd.exec
  have hby := Bd.bytes
  have hml : c.maxLocals = 7 := hml0
  have hlk := Bd.notSynchronized
  have hown : s.vm.findClass "com/example/wire_grammar/wiregrammar/model/WireOutput" = some m.cls := findClass_of_methodNamed Bd.named
  have hnm := (name_of_methodNamed Bd.named Bd.method).1
  have X0 : Stand p l e ({ frames := 0, cells := 0, slots := 0, locals := 0 } : Room) s m #[(.ref a1), (.int (Int32.ofNat A)), (.long q1)] below meth c s₁ [] 0 0 := Stand.of_body Bd
  have e0 : s₁.heap = h0 := by rw [← hh, Bd.state]; rfl
  show own_Out p e below (own_P s (fun v h L => v = some (.int (Int32.ofNat (A + K + 1))) ∧ Fr n0 L ∧ h0.size ≤ h.size ∧ own_By Z h a1 13 (own_vy f A q1 K)) ({ frames := 0, cells := 0, slots := 0, locals := 0 } : Room).cells ({ frames := 0, cells := 0, slots := 0, locals := 0 } : Room).slots) s₁ (entryFrame m #[(.ref a1), (.int (Int32.ofNat A)), (.long q1)] 7)
  rw [own_ef1 m a1 (Int32.ofNat A) q1]
  have hK9 := hKo.1
  refine o_iloadN X0 hx (hb hby own_d1_0) rfl (pc' := 1) rfl ?_
  refine o_istore X0 hx (hb hby own_d1_1) (Ls' := #[.val (.ref a1), .val (.int (Int32.ofNat A)), .val (.long q1), .second, .val (.int (Int32.ofNat A)), .unset, .unset]) rfl (pc' := 3) rfl ?_
  refine o_lloadN X0 hx (hb hby own_d1_3) rfl (pc' := 4) rfl ?_
  refine o_lstore X0 hx (hb hby own_d1_4) (Ls' := #[.val (.ref a1), .val (.int (Int32.ofNat A)), .val (.long q1), .second, .val (.int (Int32.ofNat A)), .val (.long q1), .second]) rfl (pc' := 6) rfl ?_
  have loop : ∀ (k i : Nat) (T : State) (h : Heap) (lc : List Loc), i + k = K → Stand p l e ({ frames := 0, cells := 0, slots := 0, locals := 0 } : Room) s m #[(.ref a1), (.int (Int32.ofNat A)), (.long q1)] below meth c T lc 0 0 → T.heap = h → h0.size ≤ h.size → own_By Z h a1 13 (own_vx f A q1 i) → Fr n0 lc → own_Out p e below (own_P s (fun v h L => v = some (.int (Int32.ofNat (A + K + 1))) ∧ Fr n0 L ∧ h0.size ≤ h.size ∧ own_By Z h a1 13 (own_vy f A q1 K)) ({ frames := 0, cells := 0, slots := 0, locals := 0 } : Room).cells ({ frames := 0, cells := 0, slots := 0, locals := 0 } : Room).slots) T (mkF m 6 #[.val (.ref a1), .val (.int (Int32.ofNat A)), .val (.long q1), .second, .val (.int (Int32.ofNat (A + i))), .val (.long (own_v q1 i)), .second] []) := by
    intro k
    induction k with
    | zero =>
      intro i T h lc hik X eT zh Bi N
      refine o_lload X hx (hb hby own_d1_6) rfl (pc' := 8) rfl ?_
      refine o_ldcL X hx hZ hown (hw _ (List.mem_of_getElem? (i := 6) rfl)) (hb hby own_d1_8) (pc' := 11) rfl ?_
      refine o_land X hx (hb hby own_d1_11) (pc' := 12) rfl ?_
      refine o_lconst X hx (hb hby own_d1_12) (v := 0) rfl (pc' := 13) rfl ?_
      refine o_lcmp X hx (hb hby own_d1_13) (pc' := 14) rfl ?_
      refine o_if_eq X hx (hb hby own_d1_14) (pc' := 46) (pn := 17) (by decide) rfl (fun hc => ?_) (fun hc => ?_)
      rotate_left
      · exact absurd ((own_go128 _).mpr (by rw [own_u_v, show i = K by omega]; exact hKo.2.1)) hc
      have hin : i = K := by omega
      subst hin
      refine o_aloadN X hx (hb hby own_d1_46) rfl rfl (pc' := 47) rfl ?_
      refine o_iload X hx (hb hby own_d1_47) rfl (pc' := 49) rfl ?_
      refine o_lload X hx (hb hby own_d1_49) rfl (pc' := 51) rfl ?_
      refine o_l2i X hx (hb hby own_d1_51) (pc' := 52) rfl ?_
      refine o_i2b X hx (hb hby own_d1_52) (pc' := 53) rfl ?_
      refine own_stB X hx hZ eT Bi N g (own_vy f A q1 i) (own_idx (by omega) (by omega)) (hb hby own_d1_53) (pc' := 54) rfl (fun t _ => by rw [own_toNat (by omega)]; rfl) ?_
      intro T2 h2 lc2 X2 e2 W2 B2 N2
      refine o_iload X2 hx (hb hby own_d1_54) rfl (pc' := 56) rfl ?_
      refine o_iconst X2 hx (hb hby own_d1_56) (v := 1) rfl (pc' := 57) rfl ?_
      refine o_iadd X2 hx (hb hby own_d1_57) (pc' := 58) rfl ?_
      rw [own_add1]
      have z2 : h0.size ≤ h2.size := by rw [W2.size]; exact zh
      subst e2
      refine o_retI X2 hx Bd.returns hlk (hb hby own_d1_58) ⟨rfl, N2, z2, B2⟩ (by decide) (by decide)
    | succ k ih =>
      intro i T h lc hik X eT zh Bi N
      refine o_lload X hx (hb hby own_d1_6) rfl (pc' := 8) rfl ?_
      refine o_ldcL X hx hZ hown (hw _ (List.mem_of_getElem? (i := 6) rfl)) (hb hby own_d1_8) (pc' := 11) rfl ?_
      refine o_land X hx (hb hby own_d1_11) (pc' := 12) rfl ?_
      refine o_lconst X hx (hb hby own_d1_12) (v := 0) rfl (pc' := 13) rfl ?_
      refine o_lcmp X hx (hb hby own_d1_13) (pc' := 14) rfl ?_
      refine o_if_eq X hx (hb hby own_d1_14) (pc' := 46) (pn := 17) (by decide) rfl (fun hc => ?_) (fun hc => ?_)
      · exact absurd ((own_go128 _).mp hc) (by rw [own_u_v]; have := hKo.2.2 i (by omega); omega)
      refine o_aloadN X hx (hb hby own_d1_17) rfl rfl (pc' := 18) rfl ?_
      refine o_iload X hx (hb hby own_d1_18) rfl (pc' := 20) rfl ?_
      refine o_lload X hx (hb hby own_d1_20) rfl (pc' := 22) rfl ?_
      refine o_ldcL X hx hZ hown (hw _ (List.mem_of_getElem? (i := 12) rfl)) (hb hby own_d1_22) (pc' := 25) rfl ?_
      refine o_land X hx (hb hby own_d1_25) (pc' := 26) rfl ?_
      refine o_ldcL X hx hZ hown (hw _ (List.mem_of_getElem? (i := 13) rfl)) (hb hby own_d1_26) (pc' := 29) rfl ?_
      refine o_lor X hx (hb hby own_d1_29) (pc' := 30) rfl ?_
      refine o_l2i X hx (hb hby own_d1_30) (pc' := 31) rfl ?_
      refine o_i2b X hx (hb hby own_d1_31) (pc' := 32) rfl ?_
      refine own_stB X hx hZ eT Bi N g (own_vx f A q1 (i + 1)) (own_idx (by omega) (by omega)) (hb hby own_d1_32) (pc' := 33) rfl (fun t _ => by rw [own_toNat (by omega)]; exact own_vxS f A q1 i t) ?_
      intro T2 h2 lc2 X2 e2 W2 B2 N2
      refine o_iinc X2 hx (hb hby own_d1_33) rfl (y := ((Int32.ofNat (A + i)) + (1 : Int32))) rfl (Ls' := #[.val (.ref a1), .val (.int (Int32.ofNat A)), .val (.long q1), .second, .val (.int ((Int32.ofNat (A + i)) + (1 : Int32))), .val (.long (own_v q1 i)), .second]) rfl (pc' := 36) rfl ?_
      rw [own_add1]
      refine o_lload X2 hx (hb hby own_d1_36) rfl (pc' := 38) rfl ?_
      refine o_bipush X2 hx (hb hby own_d1_38) (v := 7) rfl (pc' := 40) rfl ?_
      refine o_lushr X2 hx (hb hby own_d1_40) (pc' := 41) rfl ?_
      refine o_lstore X2 hx (hb hby own_d1_41) (Ls' := #[.val (.ref a1), .val (.int (Int32.ofNat A)), .val (.long q1), .second, .val (.int (Int32.ofNat (A + i + 1))), .val (.long (((own_v q1 i).toUInt64 >>> ((7 : Int32) &&& 0x3f).toInt64.toUInt64).toInt64)), .second]) rfl (pc' := 43) rfl ?_
      rw [← own_vS]
      refine o_goto X2 hx (hb hby own_d1_43) (pc' := 6) (by decide) ?_
      exact ih (i + 1) T2 h2 lc2 (by omega) X2 e2 (by rw [W2.size]; exact zh) B2 N2
  exact loop K 0 _ _ _ (Nat.zero_add _) X0 e0 (Nat.le_refl _) (by rw [own_vx0]; exact B) (Fr.nil _)
theorem own_d2_0 : decode method_3_code 0 = .ok (.iload_n 1, 1) := by decide +kernel
theorem own_d2_1 : decode method_3_code 1 = .ok (.iload_n 2, 1) := by decide +kernel
theorem own_d2_2 : decode method_3_code 2 = .ok (.isub, 1) := by decide +kernel
theorem own_d2_3 : decode method_3_code 3 = .ok (.istore 6, 2) := by decide +kernel
theorem own_d2_5 : decode method_3_code 5 = .ok (.iload 6, 2) := by decide +kernel
theorem own_d2_7 : decode method_3_code 7 = .ok (.ifCond .lt 10, 3) := by decide +kernel
theorem own_d2_10 : decode method_3_code 10 = .ok (.iload 6, 2) := by decide +kernel
theorem own_d2_12 : decode method_3_code 12 = .ok (.bipush 9, 2) := by decide +kernel
theorem own_d2_14 : decode method_3_code 14 = .ok (.if_icmp .le 17, 3) := by decide +kernel
theorem own_d2_17 : decode method_3_code 17 = .ok (.aload_n 0, 1) := by decide +kernel
theorem own_d2_18 : decode method_3_code 18 = .ok (.iload_n 1, 1) := by decide +kernel
theorem own_d2_19 : decode method_3_code 19 = .ok (.baload, 1) := by decide +kernel
theorem own_d2_20 : decode method_3_code 20 = .ok (.iload 5, 2) := by decide +kernel
theorem own_d2_22 : decode method_3_code 22 = .ok (.if_icmp .ne 7, 3) := by decide +kernel
theorem own_d2_25 : decode method_3_code 25 = .ok (.iconst 1, 1) := by decide +kernel
theorem own_d2_26 : decode method_3_code 26 = .ok (.goto 4, 3) := by decide +kernel
theorem own_d2_30 : decode method_3_code 30 = .ok (.ireturn, 1) := by decide +kernel
theorem own_d2_31 : decode method_3_code 31 = .ok (.iload 6, 2) := by decide +kernel
theorem own_d2_33 : decode method_3_code 33 = .ok (.ifCond .le 29, 3) := by decide +kernel
theorem own_d2_36 : decode method_3_code 36 = .ok (.lload_n 3, 1) := by decide +kernel
theorem own_d2_37 : decode method_3_code 37 = .ok (.bipush 7, 2) := by decide +kernel
theorem own_d2_39 : decode method_3_code 39 = .ok (.iload 6, 2) := by decide +kernel
theorem own_d2_41 : decode method_3_code 41 = .ok (.imul, 1) := by decide +kernel
theorem own_d2_42 : decode method_3_code 42 = .ok (.lushr, 1) := by decide +kernel
theorem own_d2_43 : decode method_3_code 43 = .ok (.lconst 0, 1) := by decide +kernel
theorem own_d2_44 : decode method_3_code 44 = .ok (.lcmp, 1) := by decide +kernel
theorem own_d2_45 : decode method_3_code 45 = .ok (.ifCond .ne 17, 3) := by decide +kernel
theorem own_d2_48 : decode method_3_code 48 = .ok (.aload_n 0, 1) := by decide +kernel
theorem own_d2_49 : decode method_3_code 49 = .ok (.iload_n 1, 1) := by decide +kernel
theorem own_d2_50 : decode method_3_code 50 = .ok (.baload, 1) := by decide +kernel
theorem own_d2_51 : decode method_3_code 51 = .ok (.iload 5, 2) := by decide +kernel
theorem own_d2_53 : decode method_3_code 53 = .ok (.if_icmp .ne 7, 3) := by decide +kernel
theorem own_d2_56 : decode method_3_code 56 = .ok (.iconst 1, 1) := by decide +kernel
theorem own_d2_57 : decode method_3_code 57 = .ok (.goto 4, 3) := by decide +kernel
theorem own_d2_61 : decode method_3_code 61 = .ok (.ireturn, 1) := by decide +kernel
theorem own_d2_62 : decode method_3_code 62 = .ok (.lload_n 3, 1) := by decide +kernel
theorem own_d2_63 : decode method_3_code 63 = .ok (.bipush 7, 2) := by decide +kernel
theorem own_d2_65 : decode method_3_code 65 = .ok (.iload 6, 2) := by decide +kernel
theorem own_d2_67 : decode method_3_code 67 = .ok (.imul, 1) := by decide +kernel
theorem own_d2_68 : decode method_3_code 68 = .ok (.lushr, 1) := by decide +kernel
theorem own_d2_69 : decode method_3_code 69 = .ok (.ldc2_w 20, 3) := by decide +kernel
theorem own_d2_72 : decode method_3_code 72 = .ok (.land, 1) := by decide +kernel
theorem own_d2_73 : decode method_3_code 73 = .ok (.l2i, 1) := by decide +kernel
theorem own_d2_74 : decode method_3_code 74 = .ok (.istore 7, 2) := by decide +kernel
theorem own_d2_76 : decode method_3_code 76 = .ok (.iload 6, 2) := by decide +kernel
theorem own_d2_78 : decode method_3_code 78 = .ok (.bipush 9, 2) := by decide +kernel
theorem own_d2_80 : decode method_3_code 80 = .ok (.if_icmp .ge 21, 3) := by decide +kernel
theorem own_d2_83 : decode method_3_code 83 = .ok (.lload_n 3, 1) := by decide +kernel
theorem own_d2_84 : decode method_3_code 84 = .ok (.bipush 7, 2) := by decide +kernel
theorem own_d2_86 : decode method_3_code 86 = .ok (.iload 6, 2) := by decide +kernel
theorem own_d2_88 : decode method_3_code 88 = .ok (.iconst 1, 1) := by decide +kernel
theorem own_d2_89 : decode method_3_code 89 = .ok (.iadd, 1) := by decide +kernel
theorem own_d2_90 : decode method_3_code 90 = .ok (.imul, 1) := by decide +kernel
theorem own_d2_91 : decode method_3_code 91 = .ok (.lushr, 1) := by decide +kernel
theorem own_d2_92 : decode method_3_code 92 = .ok (.lconst 0, 1) := by decide +kernel
theorem own_d2_93 : decode method_3_code 93 = .ok (.lcmp, 1) := by decide +kernel
theorem own_d2_94 : decode method_3_code 94 = .ok (.ifCond .eq 7, 3) := by decide +kernel
theorem own_d2_97 : decode method_3_code 97 = .ok (.iconst 1, 1) := by decide +kernel
theorem own_d2_98 : decode method_3_code 98 = .ok (.goto 4, 3) := by decide +kernel
theorem own_d2_101 : decode method_3_code 101 = .ok (.iconst 0, 1) := by decide +kernel
theorem own_d2_102 : decode method_3_code 102 = .ok (.istore 8, 2) := by decide +kernel
theorem own_d2_104 : decode method_3_code 104 = .ok (.iload 8, 2) := by decide +kernel
theorem own_d2_106 : decode method_3_code 106 = .ok (.ifCond .eq 12, 3) := by decide +kernel
theorem own_d2_109 : decode method_3_code 109 = .ok (.iload 7, 2) := by decide +kernel
theorem own_d2_111 : decode method_3_code 111 = .ok (.sipush 128, 3) := by decide +kernel
theorem own_d2_114 : decode method_3_code 114 = .ok (.ior, 1) := by decide +kernel
theorem own_d2_115 : decode method_3_code 115 = .ok (.goto 5, 3) := by decide +kernel
theorem own_d2_118 : decode method_3_code 118 = .ok (.iload 7, 2) := by decide +kernel
theorem own_d2_120 : decode method_3_code 120 = .ok (.istore 9, 2) := by decide +kernel
theorem own_d2_122 : decode method_3_code 122 = .ok (.aload_n 0, 1) := by decide +kernel
theorem own_d2_123 : decode method_3_code 123 = .ok (.iload_n 1, 1) := by decide +kernel
theorem own_d2_124 : decode method_3_code 124 = .ok (.baload, 1) := by decide +kernel
theorem own_d2_125 : decode method_3_code 125 = .ok (.iload 9, 2) := by decide +kernel
theorem own_d2_127 : decode method_3_code 127 = .ok (.i2b, 1) := by decide +kernel
theorem own_d2_128 : decode method_3_code 128 = .ok (.if_icmp .ne 7, 3) := by decide +kernel
theorem own_d2_131 : decode method_3_code 131 = .ok (.iconst 1, 1) := by decide +kernel
theorem own_d2_132 : decode method_3_code 132 = .ok (.goto 4, 3) := by decide +kernel
theorem own_d2_136 : decode method_3_code 136 = .ok (.ireturn, 1) := by decide +kernel
theorem own_ef2 (m : MethodId) (x0 : Addr) (x1 : Int32) (x2 : Int32) (x3 : Int64) (x4 : Int32) : entryFrame m #[(.ref x0), (.int x1), (.int x2), (.long x3), (.int x4)] 10 = mkF m 0 #[.val (.ref x0), .val (.int x1), .val (.int x2), .val (.long x3), .second, .val (.int x4), .unset, .unset, .unset, .unset] [] := by first | (simp [entryFrame, mkF, argsToLocals, Value.category]; done) | rfl
theorem own_pn2 : plainName "com/example/wire_grammar/wiregrammar/model/WireOutputPutVarintPinLaw" = true := by first | (simp [plainName, overriddenIn]; done) | decide +kernel
set_option maxRecDepth 65536 in
set_option maxHeartbeats 40000000 in
theorem own_rm2 (l : Launch) (Z : State) (a0 : Array Value) (hw : ∀ d ∈ tables_1, d.before a0 Z = true) (ws : List Jvm.Cond) (a1 : Addr) (I A : Nat) (q1 : Int64) (v1 : Int32) (f : Nat → Int32) (h0 : Heap) (hI : I < 13) (hA : A ≤ 2) (hlt : I < A → f I = v1) (hge : ∀ d, I = A + d → f I = own_cell q1 d v1) (B : own_By Z h0 a1 13 f) :
    own_Met l (⟨"com/example/wire_grammar/wiregrammar/model/WireOutputPutVarintPinLaw", "cell", "([BIIJB)Z"⟩ : MethodName) method_3_code 10 (some .boolean) ws ({ frames := 0, cells := 0, slots := 0, locals := 0 } : Room) Z h0 #[(.ref a1), (.int (Int32.ofNat I)), (.int (Int32.ofNat A)), (.long q1), (.int v1)] (own_Pure (.int 1) h0) := by
  refine MetFree.of_bodySF (plainFor_of_name own_pn2) hisR ?_
  intro p e s m args below meth c s₁ Bd hml0 hP hK
  obtain ⟨rfl, hZ, hh⟩ := hP
  have hx := Bd.exec
  have hby := Bd.bytes
  have hml : c.maxLocals = 10 := hml0
  have hlk := Bd.notSynchronized
  have hown : s.vm.findClass "com/example/wire_grammar/wiregrammar/model/WireOutputPutVarintPinLaw" = some m.cls := findClass_of_methodNamed Bd.named
  have hnm := (name_of_methodNamed Bd.named Bd.method).1
  have X0 : Stand p l e ({ frames := 0, cells := 0, slots := 0, locals := 0 } : Room) s m #[(.ref a1), (.int (Int32.ofNat I)), (.int (Int32.ofNat A)), (.long q1), (.int v1)] below meth c s₁ [] 0 0 := Stand.of_body Bd
  have e0 : s₁.heap = h0 := by rw [← hh, Bd.state]; rfl
  show own_Out p e below (own_P s (own_Pure (.int 1) h0) ({ frames := 0, cells := 0, slots := 0, locals := 0 } : Room).cells ({ frames := 0, cells := 0, slots := 0, locals := 0 } : Room).slots) s₁ (entryFrame m #[(.ref a1), (.int (Int32.ofNat I)), (.int (Int32.ofNat A)), (.long q1), (.int v1)] 10)
  rw [own_ef2 m a1 (Int32.ofNat I) (Int32.ofNat A) q1 v1]
  refine o_iloadN X0 hx (hb hby own_d2_0) rfl (pc' := 1) rfl ?_
  refine o_iloadN X0 hx (hb hby own_d2_1) rfl (pc' := 2) rfl ?_
  refine o_isub X0 hx (hb hby own_d2_2) (pc' := 3) rfl ?_
  refine o_istore X0 hx (hb hby own_d2_3) (Ls' := #[.val (.ref a1), .val (.int (Int32.ofNat I)), .val (.int (Int32.ofNat A)), .val (.long q1), .second, .val (.int v1), .val (.int ((Int32.ofNat I) - (Int32.ofNat A))), .unset, .unset, .unset]) rfl (pc' := 5) rfl ?_
  by_cases hIA : I < A
  · refine o_iload X0 hx (hb hby own_d2_5) rfl (pc' := 7) rfl ?_
    refine o_if_lt X0 hx (hb hby own_d2_7) (pc' := 17) (pn := 10) (by decide) rfl (fun hc => ?_) (fun hc => ?_)
    rotate_left
    · exact absurd (own_kneg hIA (by omega)) hc
    refine o_aloadN X0 hx (hb hby own_d2_17) rfl rfl (pc' := 18) rfl ?_
    refine o_iloadN X0 hx (hb hby own_d2_18) rfl (pc' := 19) rfl ?_
    refine own_ldB X0 hx hZ e0 B I (own_idx (by omega) (by omega)) (own_toNat (by omega)) (hb hby own_d2_19) (pc' := 20) rfl ?_
    rw [hlt hIA]
    refine o_iload X0 hx (hb hby own_d2_20) rfl (pc' := 22) rfl ?_
    refine o_icmp_ne X0 hx (hb hby own_d2_22) (pc' := 29) (pn := 25) (by decide) rfl (fun hq => ?_) (fun hq => ?_)
    · exact absurd rfl hq
    refine o_iconst X0 hx (hb hby own_d2_25) (v := 1) rfl (pc' := 26) rfl ?_
    refine o_goto X0 hx (hb hby own_d2_26) (pc' := 30) (by decide) ?_
    refine o_retN X0 hx (t := .boolean) Bd.returns hlk (by simp) (hb hby own_d2_30) (v := _) ?_ ⟨rfl, rfl, e0⟩ (by decide) (by decide)
    exact own_r1
  · obtain ⟨d, rfl⟩ : ∃ d, I = A + d := ⟨I - A, by omega⟩
    have hv := hge d rfl
    rw [own_ksub]
    refine o_iload X0 hx (hb hby own_d2_5) rfl (pc' := 7) rfl ?_
    refine o_if_lt X0 hx (hb hby own_d2_7) (pc' := 17) (pn := 10) (by decide) rfl (fun hc => ?_) (fun hc => ?_)
    · exact absurd hc (own_nn (by omega))
    refine o_iload X0 hx (hb hby own_d2_10) rfl (pc' := 12) rfl ?_
    refine o_bipush X0 hx (hb hby own_d2_12) (v := 9) rfl (pc' := 14) rfl ?_
    refine o_icmp_le X0 hx (hb hby own_d2_14) (pc' := 31) (pn := 17) (by decide) rfl (fun hc9 => ?_) (fun hc9 => ?_)
    · have hd9 : d ≤ 9 := by
        rw [show (9 : Int32) = Int32.ofNat 9 from rfl, own_olt (by omega) (by omega)] at hc9; omega
      have J62 : ¬ (0 < d ∧ own_sq q1 d = 0) → own_Out p e below (own_P s (own_Pure (.int 1) h0) ({ frames := 0, cells := 0, slots := 0, locals := 0 } : Room).cells ({ frames := 0, cells := 0, slots := 0, locals := 0 } : Room).slots) s₁ (mkF m 62 #[.val (.ref a1), .val (.int (Int32.ofNat (A + d))), .val (.int (Int32.ofNat A)), .val (.long q1), .second, .val (.int v1), .val (.int (Int32.ofNat d)), .unset, .unset, .unset] []) := by
        intro hz
        refine o_lloadN X0 hx (hb hby own_d2_62) rfl (pc' := 63) rfl ?_
        refine o_bipush X0 hx (hb hby own_d2_63) (v := 7) rfl (pc' := 65) rfl ?_
        refine o_iload X0 hx (hb hby own_d2_65) rfl (pc' := 67) rfl ?_
        refine o_imul X0 hx (hb hby own_d2_67) (pc' := 68) rfl ?_
        refine o_lushr X0 hx (hb hby own_d2_68) (pc' := 69) rfl ?_
        refine o_ldcL X0 hx hZ hown (hw _ (List.mem_of_getElem? (i := 11) rfl)) (hb hby own_d2_69) (pc' := 72) rfl ?_
        refine o_land X0 hx (hb hby own_d2_72) (pc' := 73) rfl ?_
        refine o_l2i X0 hx (hb hby own_d2_73) (pc' := 74) rfl ?_
        refine o_istore X0 hx (hb hby own_d2_74) (Ls' := #[.val (.ref a1), .val (.int (Int32.ofNat (A + d))), .val (.int (Int32.ofNat A)), .val (.long q1), .second, .val (.int v1), .val (.int (Int32.ofNat d)), .val (.int ((((q1.toUInt64 >>> (((7 : Int32) * (Int32.ofNat d)) &&& 0x3f).toInt64.toUInt64).toInt64) &&& (127 : Int64)).toInt32)), .unset, .unset]) rfl (pc' := 76) rfl ?_
        show own_Out p e below _ s₁ (mkF m 76 #[.val (.ref a1), .val (.int (Int32.ofNat (A + d))), .val (.int (Int32.ofNat A)), .val (.long q1), .second, .val (.int v1), .val (.int (Int32.ofNat d)), .val (.int (own_low q1 d)), .unset, .unset] [])
        refine o_iload X0 hx (hb hby own_d2_76) rfl (pc' := 78) rfl ?_
        refine o_bipush X0 hx (hb hby own_d2_78) (v := 9) rfl (pc' := 80) rfl ?_
        refine o_icmp_ge X0 hx (hb hby own_d2_80) (pc' := 101) (pn := 83) (by decide) rfl (fun hc80 => ?_) (fun hc80 => ?_)
        · refine o_iconst X0 hx (hb hby own_d2_101) (v := 0) rfl (pc' := 102) rfl ?_
          refine o_istore X0 hx (hb hby own_d2_102) (Ls' := #[.val (.ref a1), .val (.int (Int32.ofNat (A + d))), .val (.int (Int32.ofNat A)), .val (.long q1), .second, .val (.int v1), .val (.int (Int32.ofNat d)), .val (.int (own_low q1 d)), .val (.int (0 : Int32)), .unset]) rfl (pc' := 104) rfl ?_
          refine o_iload X0 hx (hb hby own_d2_104) rfl (pc' := 106) rfl ?_
          refine o_if_eq X0 hx (hb hby own_d2_106) (pc' := 118) (pn := 109) (by decide) rfl (fun hm => ?_) (fun hm => ?_)
          rotate_left
          · exact absurd hm (by decide)
          refine o_iload X0 hx (hb hby own_d2_118) rfl (pc' := 120) rfl ?_
          refine o_istore X0 hx (hb hby own_d2_120) (Ls' := #[.val (.ref a1), .val (.int (Int32.ofNat (A + d))), .val (.int (Int32.ofNat A)), .val (.long q1), .second, .val (.int v1), .val (.int (Int32.ofNat d)), .val (.int (own_low q1 d)), .val (.int (0 : Int32)), .val (.int (own_low q1 d))]) rfl (pc' := 122) rfl ?_
          refine o_aloadN X0 hx (hb hby own_d2_122) rfl rfl (pc' := 123) rfl ?_
          refine o_iloadN X0 hx (hb hby own_d2_123) rfl (pc' := 124) rfl ?_
          have hbv : f (A + d) = ((own_low q1 d).toInt8.toInt32) := by rw [hv, own_cell, if_neg (by omega), if_neg hz, if_neg (fun z => hc80 (by rw [show (9 : Int32) = Int32.ofNat 9 from rfl, own_olt (by omega) (by omega)]; exact z.1))]
          refine own_ldB X0 hx hZ e0 B (A + d) (own_idx (by omega) (by omega)) (own_toNat (by omega)) (hb hby own_d2_124) (pc' := 125) rfl ?_
          rw [hbv]
          refine o_iload X0 hx (hb hby own_d2_125) rfl (pc' := 127) rfl ?_
          refine o_i2b X0 hx (hb hby own_d2_127) (pc' := 128) rfl ?_
          refine o_icmp_ne X0 hx (hb hby own_d2_128) (pc' := 135) (pn := 131) (by decide) rfl (fun hq => ?_) (fun hq => ?_)
          · exact absurd rfl hq
          refine o_iconst X0 hx (hb hby own_d2_131) (v := 1) rfl (pc' := 132) rfl ?_
          refine o_goto X0 hx (hb hby own_d2_132) (pc' := 136) (by decide) ?_
          refine o_retN X0 hx (t := .boolean) Bd.returns hlk (by simp) (hb hby own_d2_136) (v := _) ?_ ⟨rfl, rfl, e0⟩ (by decide) (by decide)
          exact own_r1
        · have hd8 : d < 9 := by
            rw [show (9 : Int32) = Int32.ofNat 9 from rfl, own_olt (by omega) (by omega)] at hc80; exact hc80
          refine o_lloadN X0 hx (hb hby own_d2_83) rfl (pc' := 84) rfl ?_
          refine o_bipush X0 hx (hb hby own_d2_84) (v := 7) rfl (pc' := 86) rfl ?_
          refine o_iload X0 hx (hb hby own_d2_86) rfl (pc' := 88) rfl ?_
          refine o_iconst X0 hx (hb hby own_d2_88) (v := 1) rfl (pc' := 89) rfl ?_
          refine o_iadd X0 hx (hb hby own_d2_89) (pc' := 90) rfl ?_
          refine o_imul X0 hx (hb hby own_d2_90) (pc' := 91) rfl ?_
          refine o_lushr X0 hx (hb hby own_d2_91) (pc' := 92) rfl ?_
          refine o_lconst X0 hx (hb hby own_d2_92) (v := 0) rfl (pc' := 93) rfl ?_
          refine o_lcmp X0 hx (hb hby own_d2_93) (pc' := 94) rfl ?_
          rw [own_add1]
          change own_Out p e below _ _ (mkF m 94 _ [.int (lcmpW (own_sq q1 (d + 1)) (0 : Int64))])
          refine o_if_eq X0 hx (hb hby own_d2_94) (pc' := 101) (pn := 97) (by decide) rfl (fun hc94 => ?_) (fun hc94 => ?_)
          · refine o_iconst X0 hx (hb hby own_d2_101) (v := 0) rfl (pc' := 102) rfl ?_
            refine o_istore X0 hx (hb hby own_d2_102) (Ls' := #[.val (.ref a1), .val (.int (Int32.ofNat (A + d))), .val (.int (Int32.ofNat A)), .val (.long q1), .second, .val (.int v1), .val (.int (Int32.ofNat d)), .val (.int (own_low q1 d)), .val (.int (0 : Int32)), .unset]) rfl (pc' := 104) rfl ?_
            refine o_iload X0 hx (hb hby own_d2_104) rfl (pc' := 106) rfl ?_
            refine o_if_eq X0 hx (hb hby own_d2_106) (pc' := 118) (pn := 109) (by decide) rfl (fun hm => ?_) (fun hm => ?_)
            rotate_left
            · exact absurd hm (by decide)
            refine o_iload X0 hx (hb hby own_d2_118) rfl (pc' := 120) rfl ?_
            refine o_istore X0 hx (hb hby own_d2_120) (Ls' := #[.val (.ref a1), .val (.int (Int32.ofNat (A + d))), .val (.int (Int32.ofNat A)), .val (.long q1), .second, .val (.int v1), .val (.int (Int32.ofNat d)), .val (.int (own_low q1 d)), .val (.int (0 : Int32)), .val (.int (own_low q1 d))]) rfl (pc' := 122) rfl ?_
            refine o_aloadN X0 hx (hb hby own_d2_122) rfl rfl (pc' := 123) rfl ?_
            refine o_iloadN X0 hx (hb hby own_d2_123) rfl (pc' := 124) rfl ?_
            have hbv : f (A + d) = ((own_low q1 d).toInt8.toInt32) := by rw [hv, own_cell, if_neg (by omega), if_neg hz, if_neg (fun z => z.2 ((lw_eq _ _).mp hc94))]
            refine own_ldB X0 hx hZ e0 B (A + d) (own_idx (by omega) (by omega)) (own_toNat (by omega)) (hb hby own_d2_124) (pc' := 125) rfl ?_
            rw [hbv]
            refine o_iload X0 hx (hb hby own_d2_125) rfl (pc' := 127) rfl ?_
            refine o_i2b X0 hx (hb hby own_d2_127) (pc' := 128) rfl ?_
            refine o_icmp_ne X0 hx (hb hby own_d2_128) (pc' := 135) (pn := 131) (by decide) rfl (fun hq => ?_) (fun hq => ?_)
            · exact absurd rfl hq
            refine o_iconst X0 hx (hb hby own_d2_131) (v := 1) rfl (pc' := 132) rfl ?_
            refine o_goto X0 hx (hb hby own_d2_132) (pc' := 136) (by decide) ?_
            refine o_retN X0 hx (t := .boolean) Bd.returns hlk (by simp) (hb hby own_d2_136) (v := _) ?_ ⟨rfl, rfl, e0⟩ (by decide) (by decide)
            exact own_r1
          · refine o_iconst X0 hx (hb hby own_d2_97) (v := 1) rfl (pc' := 98) rfl ?_
            refine o_goto X0 hx (hb hby own_d2_98) (pc' := 102) (by decide) ?_
            refine o_istore X0 hx (hb hby own_d2_102) (Ls' := #[.val (.ref a1), .val (.int (Int32.ofNat (A + d))), .val (.int (Int32.ofNat A)), .val (.long q1), .second, .val (.int v1), .val (.int (Int32.ofNat d)), .val (.int (own_low q1 d)), .val (.int (1 : Int32)), .unset]) rfl (pc' := 104) rfl ?_
            refine o_iload X0 hx (hb hby own_d2_104) rfl (pc' := 106) rfl ?_
            refine o_if_eq X0 hx (hb hby own_d2_106) (pc' := 118) (pn := 109) (by decide) rfl (fun hm => ?_) (fun hm => ?_)
            · exact absurd hm (by decide)
            refine o_iload X0 hx (hb hby own_d2_109) rfl (pc' := 111) rfl ?_
            refine o_sipush X0 hx (hb hby own_d2_111) (v := 128) rfl (pc' := 114) rfl ?_
            refine o_ior X0 hx (hb hby own_d2_114) (pc' := 115) rfl ?_
            refine o_goto X0 hx (hb hby own_d2_115) (pc' := 120) (by decide) ?_
            refine o_istore X0 hx (hb hby own_d2_120) (Ls' := #[.val (.ref a1), .val (.int (Int32.ofNat (A + d))), .val (.int (Int32.ofNat A)), .val (.long q1), .second, .val (.int v1), .val (.int (Int32.ofNat d)), .val (.int (own_low q1 d)), .val (.int (1 : Int32)), .val (.int ((own_low q1 d) ||| (128 : Int32)))]) rfl (pc' := 122) rfl ?_
            refine o_aloadN X0 hx (hb hby own_d2_122) rfl rfl (pc' := 123) rfl ?_
            refine o_iloadN X0 hx (hb hby own_d2_123) rfl (pc' := 124) rfl ?_
            have hbv : f (A + d) = ((own_low q1 d ||| (128 : Int32)).toInt8.toInt32) := by rw [hv, own_cell, if_neg (by omega), if_neg hz, if_pos ⟨hd8, fun z => hc94 ((lw_eq _ _).mpr z)⟩]
            refine own_ldB X0 hx hZ e0 B (A + d) (own_idx (by omega) (by omega)) (own_toNat (by omega)) (hb hby own_d2_124) (pc' := 125) rfl ?_
            rw [hbv]
            refine o_iload X0 hx (hb hby own_d2_125) rfl (pc' := 127) rfl ?_
            refine o_i2b X0 hx (hb hby own_d2_127) (pc' := 128) rfl ?_
            refine o_icmp_ne X0 hx (hb hby own_d2_128) (pc' := 135) (pn := 131) (by decide) rfl (fun hq => ?_) (fun hq => ?_)
            · exact absurd rfl hq
            refine o_iconst X0 hx (hb hby own_d2_131) (v := 1) rfl (pc' := 132) rfl ?_
            refine o_goto X0 hx (hb hby own_d2_132) (pc' := 136) (by decide) ?_
            refine o_retN X0 hx (t := .boolean) Bd.returns hlk (by simp) (hb hby own_d2_136) (v := _) ?_ ⟨rfl, rfl, e0⟩ (by decide) (by decide)
            exact own_r1
      refine o_iload X0 hx (hb hby own_d2_31) rfl (pc' := 33) rfl ?_
      refine o_if_le X0 hx (hb hby own_d2_33) (pc' := 62) (pn := 36) (by decide) rfl (fun hc33 => ?_) (fun hc33 => ?_)
      · exact J62 (fun z => hc33 (by rw [show (0 : Int32) = Int32.ofNat 0 from rfl, own_olt (by omega) (by omega)]; exact z.1))
      · have hd0 : 0 < d := by
          rw [show (0 : Int32) = Int32.ofNat 0 from rfl, own_olt (by omega) (by omega)] at hc33; exact hc33
        refine o_lloadN X0 hx (hb hby own_d2_36) rfl (pc' := 37) rfl ?_
        refine o_bipush X0 hx (hb hby own_d2_37) (v := 7) rfl (pc' := 39) rfl ?_
        refine o_iload X0 hx (hb hby own_d2_39) rfl (pc' := 41) rfl ?_
        refine o_imul X0 hx (hb hby own_d2_41) (pc' := 42) rfl ?_
        refine o_lushr X0 hx (hb hby own_d2_42) (pc' := 43) rfl ?_
        refine o_lconst X0 hx (hb hby own_d2_43) (v := 0) rfl (pc' := 44) rfl ?_
        refine o_lcmp X0 hx (hb hby own_d2_44) (pc' := 45) rfl ?_
        change own_Out p e below _ _ (mkF m 45 _ [.int (lcmpW (own_sq q1 d) (0 : Int64))])
        refine o_if_ne X0 hx (hb hby own_d2_45) (pc' := 62) (pn := 48) (by decide) rfl (fun hc45 => ?_) (fun hc45 => ?_)
        · exact J62 (fun z => hc45 ((lw_eq _ _).mpr z.2))
        · refine o_aloadN X0 hx (hb hby own_d2_48) rfl rfl (pc' := 49) rfl ?_
          refine o_iloadN X0 hx (hb hby own_d2_49) rfl (pc' := 50) rfl ?_
          have hbv : f (A + d) = v1 := by rw [hv, own_cell, if_neg (by omega), if_pos ⟨hd0, (lw_eq _ _).mp hc45⟩]
          refine own_ldB X0 hx hZ e0 B (A + d) (own_idx (by omega) (by omega)) (own_toNat (by omega)) (hb hby own_d2_50) (pc' := 51) rfl ?_
          rw [hbv]
          refine o_iload X0 hx (hb hby own_d2_51) rfl (pc' := 53) rfl ?_
          refine o_icmp_ne X0 hx (hb hby own_d2_53) (pc' := 60) (pn := 56) (by decide) rfl (fun hq => ?_) (fun hq => ?_)
          · exact absurd rfl hq
          refine o_iconst X0 hx (hb hby own_d2_56) (v := 1) rfl (pc' := 57) rfl ?_
          refine o_goto X0 hx (hb hby own_d2_57) (pc' := 61) (by decide) ?_
          refine o_retN X0 hx (t := .boolean) Bd.returns hlk (by simp) (hb hby own_d2_61) (v := _) ?_ ⟨rfl, rfl, e0⟩ (by decide) (by decide)
          exact own_r1
    · have hd9 : 9 < d := by
        rw [show (9 : Int32) = Int32.ofNat 9 from rfl, own_olt (by omega) (by omega)] at hc9; exact hc9
      refine o_aloadN X0 hx (hb hby own_d2_17) rfl rfl (pc' := 18) rfl ?_
      refine o_iloadN X0 hx (hb hby own_d2_18) rfl (pc' := 19) rfl ?_
      have hbv : f (A + d) = v1 := by rw [hv, own_cell, if_pos hd9]
      refine own_ldB X0 hx hZ e0 B (A + d) (own_idx (by omega) (by omega)) (own_toNat (by omega)) (hb hby own_d2_19) (pc' := 20) rfl ?_
      rw [hbv]
      refine o_iload X0 hx (hb hby own_d2_20) rfl (pc' := 22) rfl ?_
      refine o_icmp_ne X0 hx (hb hby own_d2_22) (pc' := 29) (pn := 25) (by decide) rfl (fun hq => ?_) (fun hq => ?_)
      · exact absurd rfl hq
      refine o_iconst X0 hx (hb hby own_d2_25) (v := 1) rfl (pc' := 26) rfl ?_
      refine o_goto X0 hx (hb hby own_d2_26) (pc' := 30) (by decide) ?_
      refine o_retN X0 hx (t := .boolean) Bd.returns hlk (by simp) (hb hby own_d2_30) (v := _) ?_ ⟨rfl, rfl, e0⟩ (by decide) (by decide)
      exact own_r1
theorem own_ef0 (m : MethodId) (x0 : Int64) (x1 : Int32) (x2 : Int32) (x3 : Int32) : entryFrame m #[(.long x0), (.int x1), (.int x2), (.int x3)] maxLocals = mkF m 0 #[.val (.long x0), .second, .val (.int x1), .val (.int x2), .val (.int x3), .unset, .unset, .unset, .unset, .unset, .unset, .unset, .unset] [] := by first | (simp [entryFrame, mkF, argsToLocals, Value.category, maxLocals]; done) | rfl
theorem own_pn0 : plainName "com/example/wire_grammar/wiregrammar/model/WireOutputPutVarintPinLaw" = true := by first | (simp [plainName, overriddenIn]; done) | decide +kernel
set_option maxRecDepth 65536 in
set_option maxHeartbeats 40000000 in
theorem own_rm0 (l : Launch) (Z : State) (a0 : Array Value) (hw : ∀ d ∈ tables_1, d.before a0 Z = true) (ws : List Jvm.Cond) (q0 : Int64) (p1 p2 p3 : Int32) (h0 : Heap)  :
    MetFree l x (head1 (Jvm.Cond.code x code maxLocals ret :: ws) room_1) (fun a U => a = #[(.long q0), (.int p1), (.int p2), (.int p3)] ∧ Z.Warmed39 U.vm ∧ U.heap = h0) (fun _ _ _ _ _ => True) (fun _ U o U' => ∃ v L, o = .returned v ∧ (fun v _ L => v = some (.int 1) ∧ Fr h0.size L) v U'.heap L ∧ FrameEnd U o U' L room_1.cells room_1.slots) := by
  refine MetFree.of_bodySF (plainFor_of_name own_pn0) hisR ?_
  intro p e s m args below meth c s₁ Bd hml0 hP hK
  obtain ⟨rfl, hZ, hh⟩ := hP
  have hx := Bd.exec
  have hby := Bd.bytes
  have hml : c.maxLocals = 13 := hml0
  have hlk := Bd.notSynchronized
  have hown : s.vm.findClass "com/example/wire_grammar/wiregrammar/model/WireOutputPutVarintPinLaw" = some m.cls := findClass_of_methodNamed Bd.named
  have hnm := (name_of_methodNamed Bd.named Bd.method).1
  have X0 : Stand p l e room_1 s m #[(.long q0), (.int p1), (.int p2), (.int p3)] below meth c s₁ [] 0 0 := Stand.of_body Bd
  have e0 : s₁.heap = h0 := by rw [← hh, Bd.state]; rfl
  show own_Out p e below (own_P s (fun v _ L => v = some (.int 1) ∧ Fr h0.size L) room_1.cells room_1.slots) s₁ (entryFrame m #[(.long q0), (.int p1), (.int p2), (.int p3)] maxLocals)
  rw [own_ef0 m q0 p1 p2 p3]
  refine o_lloadN X0 hx (hb hby at_0) rfl (pc' := 1) rfl ?_
  refine o_iloadN X0 hx (hb hby at_1) rfl (pc' := 2) rfl ?_
  refine o_bipush X0 hx (hb hby at_2) (v := 63) rfl (pc' := 4) rfl ?_
  refine o_iand X0 hx (hb hby at_4) (pc' := 5) rfl ?_
  refine o_lushr X0 hx (hb hby at_5) (pc' := 6) rfl ?_
  refine o_lstore X0 hx (hb hby at_6) (Ls' := #[.val (.long q0), .second, .val (.int p1), .val (.int p2), .val (.int p3), .val (.long ((q0.toUInt64 >>> ((p1 &&& (63 : Int32)) &&& 0x3f).toInt64.toUInt64).toInt64)), .second, .unset, .unset, .unset, .unset, .unset, .unset]) rfl (pc' := 8) rfl ?_
  generalize ((q0.toUInt64 >>> ((p1 &&& (63 : Int32)) &&& 0x3f).toInt64.toUInt64).toInt64) = q1
  refine o_iloadN X0 hx (hb hby at_8) rfl (pc' := 9) rfl ?_
  refine o_ldcI X0 hx hZ hown (hw _ (List.mem_of_getElem? (i := 0) rfl)) (hb hby at_9) (pc' := 11) rfl ?_
  refine o_iand X0 hx (hb hby at_11) (pc' := 12) rfl ?_
  refine o_iconst X0 hx (hb hby at_12) (v := 3) rfl (pc' := 13) rfl ?_
  refine o_irem X0 hx (hb hby at_13) (by decide) (pc' := 14) rfl ?_
  refine o_istore X0 hx (hb hby at_14) (Ls' := #[.val (.long q0), .second, .val (.int p1), .val (.int p2), .val (.int p3), .val (.long q1), .second, .val (.int ((p2 &&& (2147483647 : Int32)) % (3 : Int32))), .unset, .unset, .unset, .unset, .unset]) rfl (pc' := 16) rfl ?_
  obtain ⟨A, hA, eA⟩ := own_at3 p2
  rw [eA]
  obtain ⟨K, hK⟩ := own_Kof q1
  have hK9 := hK.1
  refine o_iload X0 hx (hb hby at_16) rfl (pc' := 18) rfl ?_
  refine o_i2b X0 hx (hb hby at_18) (pc' := 19) rfl ?_
  refine o_istore X0 hx (hb hby at_19) (Ls' := #[.val (.long q0), .second, .val (.int p1), .val (.int p2), .val (.int p3), .val (.long q1), .second, .val (.int (Int32.ofNat A)), .val (.int (p3.toInt8.toInt32)), .unset, .unset, .unset, .unset]) rfl (pc' := 21) rfl ?_
  refine o_bipush X0 hx (hb hby at_21) (v := 13) rfl (pc' := 23) rfl ?_
  refine o_newarr X0 hx hZ (hw _ (List.mem_of_getElem? (i := 1) rfl)) e0 (hb hby at_23) (by decide) (cap := 13) (by decide) (by decide) (by decide) (by decide) (pc' := 25) rfl ?_
  intro T1 h1 b1 cA X1 e1 E1 g1 A1
  have B : own_By Z h1 b1 13 (own_fl (p3.toInt8.toInt32) 0) := (own_by_new A1 (by decide)).congr (fun i _ => by simp [own_fl])
  have N := Fr.nil h0.size
  have G : h0.size ≤ b1 := Nat.le_of_eq g1.symm
  clear A1
  refine o_astore X1 hx (hb hby at_25) rfl (Ls' := #[.val (.long q0), .second, .val (.int p1), .val (.int p2), .val (.int p3), .val (.long q1), .second, .val (.int (Int32.ofNat A)), .val (.int (p3.toInt8.toInt32)), .val (.ref b1), .unset, .unset, .unset]) rfl (pc' := 27) rfl ?_
  refine o_aload X1 hx (hb hby at_27) rfl rfl (pc' := 29) rfl ?_
  refine o_iconst X1 hx (hb hby at_29) (v := 0) rfl (pc' := 30) rfl ?_
  refine o_iload X1 hx (hb hby at_30) rfl (pc' := 32) rfl ?_
  refine own_stB X1 hx hZ e1 B N G (own_fl (p3.toInt8.toInt32) 1) (by decide) (hb hby at_32) (pc' := 33) rfl (fun i _ => by rw [show ((0 : Int32)).toNatClampNeg = 0 from by decide]; exact own_flS _ 0 i) ?_
  clear B N
  intro T2 h2 l2 X2 e2 W2 B N
  refine o_aload X2 hx (hb hby at_33) rfl rfl (pc' := 35) rfl ?_
  refine o_iconst X2 hx (hb hby at_35) (v := 1) rfl (pc' := 36) rfl ?_
  refine o_iload X2 hx (hb hby at_36) rfl (pc' := 38) rfl ?_
  refine own_stB X2 hx hZ e2 B N G (own_fl (p3.toInt8.toInt32) 2) (by decide) (hb hby at_38) (pc' := 39) rfl (fun i _ => by rw [show ((1 : Int32)).toNatClampNeg = 1 from by decide]; exact own_flS _ 1 i) ?_
  clear B N
  intro T3 h3 l3 X3 e3 W3 B N
  refine o_aload X3 hx (hb hby at_39) rfl rfl (pc' := 41) rfl ?_
  refine o_iconst X3 hx (hb hby at_41) (v := 2) rfl (pc' := 42) rfl ?_
  refine o_iload X3 hx (hb hby at_42) rfl (pc' := 44) rfl ?_
  refine own_stB X3 hx hZ e3 B N G (own_fl (p3.toInt8.toInt32) 3) (by decide) (hb hby at_44) (pc' := 45) rfl (fun i _ => by rw [show ((2 : Int32)).toNatClampNeg = 2 from by decide]; exact own_flS _ 2 i) ?_
  clear B N
  intro T4 h4 l4 X4 e4 W4 B N
  refine o_aload X4 hx (hb hby at_45) rfl rfl (pc' := 47) rfl ?_
  refine o_iconst X4 hx (hb hby at_47) (v := 3) rfl (pc' := 48) rfl ?_
  refine o_iload X4 hx (hb hby at_48) rfl (pc' := 50) rfl ?_
  refine own_stB X4 hx hZ e4 B N G (own_fl (p3.toInt8.toInt32) 4) (by decide) (hb hby at_50) (pc' := 51) rfl (fun i _ => by rw [show ((3 : Int32)).toNatClampNeg = 3 from by decide]; exact own_flS _ 3 i) ?_
  clear B N
  intro T5 h5 l5 X5 e5 W5 B N
  refine o_aload X5 hx (hb hby at_51) rfl rfl (pc' := 53) rfl ?_
  refine o_iconst X5 hx (hb hby at_53) (v := 4) rfl (pc' := 54) rfl ?_
  refine o_iload X5 hx (hb hby at_54) rfl (pc' := 56) rfl ?_
  refine own_stB X5 hx hZ e5 B N G (own_fl (p3.toInt8.toInt32) 5) (by decide) (hb hby at_56) (pc' := 57) rfl (fun i _ => by rw [show ((4 : Int32)).toNatClampNeg = 4 from by decide]; exact own_flS _ 4 i) ?_
  clear B N
  intro T6 h6 l6 X6 e6 W6 B N
  refine o_aload X6 hx (hb hby at_57) rfl rfl (pc' := 59) rfl ?_
  refine o_iconst X6 hx (hb hby at_59) (v := 5) rfl (pc' := 60) rfl ?_
  refine o_iload X6 hx (hb hby at_60) rfl (pc' := 62) rfl ?_
  refine own_stB X6 hx hZ e6 B N G (own_fl (p3.toInt8.toInt32) 6) (by decide) (hb hby at_62) (pc' := 63) rfl (fun i _ => by rw [show ((5 : Int32)).toNatClampNeg = 5 from by decide]; exact own_flS _ 5 i) ?_
  clear B N
  intro T7 h7 l7 X7 e7 W7 B N
  refine o_aload X7 hx (hb hby at_63) rfl rfl (pc' := 65) rfl ?_
  refine o_bipush X7 hx (hb hby at_65) (v := 6) rfl (pc' := 67) rfl ?_
  refine o_iload X7 hx (hb hby at_67) rfl (pc' := 69) rfl ?_
  refine own_stB X7 hx hZ e7 B N G (own_fl (p3.toInt8.toInt32) 7) (by decide) (hb hby at_69) (pc' := 70) rfl (fun i _ => by rw [show ((6 : Int32)).toNatClampNeg = 6 from by decide]; exact own_flS _ 6 i) ?_
  clear B N
  intro T8 h8 l8 X8 e8 W8 B N
  refine o_aload X8 hx (hb hby at_70) rfl rfl (pc' := 72) rfl ?_
  refine o_bipush X8 hx (hb hby at_72) (v := 7) rfl (pc' := 74) rfl ?_
  refine o_iload X8 hx (hb hby at_74) rfl (pc' := 76) rfl ?_
  refine own_stB X8 hx hZ e8 B N G (own_fl (p3.toInt8.toInt32) 8) (by decide) (hb hby at_76) (pc' := 77) rfl (fun i _ => by rw [show ((7 : Int32)).toNatClampNeg = 7 from by decide]; exact own_flS _ 7 i) ?_
  clear B N
  intro T9 h9 l9 X9 e9 W9 B N
  refine o_aload X9 hx (hb hby at_77) rfl rfl (pc' := 79) rfl ?_
  refine o_bipush X9 hx (hb hby at_79) (v := 8) rfl (pc' := 81) rfl ?_
  refine o_iload X9 hx (hb hby at_81) rfl (pc' := 83) rfl ?_
  refine own_stB X9 hx hZ e9 B N G (own_fl (p3.toInt8.toInt32) 9) (by decide) (hb hby at_83) (pc' := 84) rfl (fun i _ => by rw [show ((8 : Int32)).toNatClampNeg = 8 from by decide]; exact own_flS _ 8 i) ?_
  clear B N
  intro T10 h10 l10 X10 e10 W10 B N
  refine o_aload X10 hx (hb hby at_84) rfl rfl (pc' := 86) rfl ?_
  refine o_bipush X10 hx (hb hby at_86) (v := 9) rfl (pc' := 88) rfl ?_
  refine o_iload X10 hx (hb hby at_88) rfl (pc' := 90) rfl ?_
  refine own_stB X10 hx hZ e10 B N G (own_fl (p3.toInt8.toInt32) 10) (by decide) (hb hby at_90) (pc' := 91) rfl (fun i _ => by rw [show ((9 : Int32)).toNatClampNeg = 9 from by decide]; exact own_flS _ 9 i) ?_
  clear B N
  intro T11 h11 l11 X11 e11 W11 B N
  refine o_aload X11 hx (hb hby at_91) rfl rfl (pc' := 93) rfl ?_
  refine o_bipush X11 hx (hb hby at_93) (v := 10) rfl (pc' := 95) rfl ?_
  refine o_iload X11 hx (hb hby at_95) rfl (pc' := 97) rfl ?_
  refine own_stB X11 hx hZ e11 B N G (own_fl (p3.toInt8.toInt32) 11) (by decide) (hb hby at_97) (pc' := 98) rfl (fun i _ => by rw [show ((10 : Int32)).toNatClampNeg = 10 from by decide]; exact own_flS _ 10 i) ?_
  clear B N
  intro T12 h12 l12 X12 e12 W12 B N
  refine o_aload X12 hx (hb hby at_98) rfl rfl (pc' := 100) rfl ?_
  refine o_bipush X12 hx (hb hby at_100) (v := 11) rfl (pc' := 102) rfl ?_
  refine o_iload X12 hx (hb hby at_102) rfl (pc' := 104) rfl ?_
  refine own_stB X12 hx hZ e12 B N G (own_fl (p3.toInt8.toInt32) 12) (by decide) (hb hby at_104) (pc' := 105) rfl (fun i _ => by rw [show ((11 : Int32)).toNatClampNeg = 11 from by decide]; exact own_flS _ 11 i) ?_
  clear B N
  intro T13 h13 l13 X13 e13 W13 B N
  refine o_aload X13 hx (hb hby at_105) rfl rfl (pc' := 107) rfl ?_
  refine o_bipush X13 hx (hb hby at_107) (v := 12) rfl (pc' := 109) rfl ?_
  refine o_iload X13 hx (hb hby at_109) rfl (pc' := 111) rfl ?_
  refine own_stB X13 hx hZ e13 B N G (own_fl (p3.toInt8.toInt32) 13) (by decide) (hb hby at_111) (pc' := 112) rfl (fun i _ => by rw [show ((12 : Int32)).toNatClampNeg = 12 from by decide]; exact own_flS _ 12 i) ?_
  clear B N
  intro T14 h14 l14 X14 e14 W14 B N
  refine o_aload X14 hx (hb hby at_112) rfl rfl (pc' := 114) rfl ?_
  refine o_iload X14 hx (hb hby at_114) rfl (pc' := 116) rfl ?_
  refine o_lload X14 hx (hb hby at_116) rfl (pc' := 118) rfl ?_
  refine o_callS X14 hx hZ (y := (⟨"com/example/wire_grammar/wiregrammar/model/WireOutput", "putVarint", "([BIJ)I"⟩ : MethodName)) (as' := [(.ref b1), (.int (Int32.ofNat A)), (.long q1)]) hown (hw _ (List.mem_of_getElem? (i := 2) rfl)) (hw _ (List.mem_of_getElem? (i := 3) rfl)) (hw _ (List.mem_of_getElem? (i := 4) rfl)) (hw _ (List.mem_of_getElem? (i := 5) rfl)) (by decide) e14 (own_rm1 l Z a0 hw [] b1 A K q1 _ h14 h0.size G hA hK B) (by rw [hml]; rfl) own_pd0 rfl (W := 0) (Nat.le_of_eq rfl) (by decide) (by decide) (hb hby at_118) (by decide) (by decide) (pc' := 121) rfl (S := []) rfl ?_
  rintro _ U L Y ⟨rfl, M, zu, D⟩
  replace N := Fr.app N M
  show own_Out p e below _ U (mkF m 121 #[.val (.long q0), .second, .val (.int p1), .val (.int p2), .val (.int p3), .val (.long q1), .second, .val (.int (Int32.ofNat A)), .val (.int (p3.toInt8.toInt32)), .val (.ref b1), .unset, .unset, .unset] [(.int (Int32.ofNat (A + K + 1)))])
  have hF := fun I (hI : I < 13) => own_cells (p3.toInt8.toInt32) q1 A K I hI hK
  generalize own_vy (own_fl (p3.toInt8.toInt32) 13) A q1 K = F at D hF
  refine o_istore Y hx (hb hby at_121) (Ls' := #[.val (.long q0), .second, .val (.int p1), .val (.int p2), .val (.int p3), .val (.long q1), .second, .val (.int (Int32.ofNat A)), .val (.int (p3.toInt8.toInt32)), .val (.ref b1), .val (.int (Int32.ofNat (A + K + 1))), .unset, .unset]) rfl (pc' := 123) rfl ?_
  refine o_iconst Y hx (hb hby at_123) (v := 1) rfl (pc' := 124) rfl ?_
  refine o_istore Y hx (hb hby at_124) (Ls' := #[.val (.long q0), .second, .val (.int p1), .val (.int p2), .val (.int p3), .val (.long q1), .second, .val (.int (Int32.ofNat A)), .val (.int (p3.toInt8.toInt32)), .val (.ref b1), .val (.int (Int32.ofNat (A + K + 1))), .val (.int (1 : Int32)), .unset]) rfl (pc' := 126) rfl ?_
  have J126 : own_Out p e below (own_P s (fun v _ L => v = some (.int 1) ∧ Fr h0.size L) room_1.cells room_1.slots) U (mkF m 126 #[.val (.long q0), .second, .val (.int p1), .val (.int p2), .val (.int p3), .val (.long q1), .second, .val (.int (Int32.ofNat A)), .val (.int (p3.toInt8.toInt32)), .val (.ref b1), .val (.int (Int32.ofNat (A + K + 1))), .val (.int (Int32.ofNat (min 0 K + 1))), .unset] []) := by
    have J139 : own_Out p e below (own_P s (fun v _ L => v = some (.int 1) ∧ Fr h0.size L) room_1.cells room_1.slots) U (mkF m 139 #[.val (.long q0), .second, .val (.int p1), .val (.int p2), .val (.int p3), .val (.long q1), .second, .val (.int (Int32.ofNat A)), .val (.int (p3.toInt8.toInt32)), .val (.ref b1), .val (.int (Int32.ofNat (A + K + 1))), .val (.int (Int32.ofNat (min 1 K + 1))), .unset] []) := by
      have J152 : own_Out p e below (own_P s (fun v _ L => v = some (.int 1) ∧ Fr h0.size L) room_1.cells room_1.slots) U (mkF m 152 #[.val (.long q0), .second, .val (.int p1), .val (.int p2), .val (.int p3), .val (.long q1), .second, .val (.int (Int32.ofNat A)), .val (.int (p3.toInt8.toInt32)), .val (.ref b1), .val (.int (Int32.ofNat (A + K + 1))), .val (.int (Int32.ofNat (min 2 K + 1))), .unset] []) := by
        have J165 : own_Out p e below (own_P s (fun v _ L => v = some (.int 1) ∧ Fr h0.size L) room_1.cells room_1.slots) U (mkF m 165 #[.val (.long q0), .second, .val (.int p1), .val (.int p2), .val (.int p3), .val (.long q1), .second, .val (.int (Int32.ofNat A)), .val (.int (p3.toInt8.toInt32)), .val (.ref b1), .val (.int (Int32.ofNat (A + K + 1))), .val (.int (Int32.ofNat (min 3 K + 1))), .unset] []) := by
          have J178 : own_Out p e below (own_P s (fun v _ L => v = some (.int 1) ∧ Fr h0.size L) room_1.cells room_1.slots) U (mkF m 178 #[.val (.long q0), .second, .val (.int p1), .val (.int p2), .val (.int p3), .val (.long q1), .second, .val (.int (Int32.ofNat A)), .val (.int (p3.toInt8.toInt32)), .val (.ref b1), .val (.int (Int32.ofNat (A + K + 1))), .val (.int (Int32.ofNat (min 4 K + 1))), .unset] []) := by
            have J192 : own_Out p e below (own_P s (fun v _ L => v = some (.int 1) ∧ Fr h0.size L) room_1.cells room_1.slots) U (mkF m 192 #[.val (.long q0), .second, .val (.int p1), .val (.int p2), .val (.int p3), .val (.long q1), .second, .val (.int (Int32.ofNat A)), .val (.int (p3.toInt8.toInt32)), .val (.ref b1), .val (.int (Int32.ofNat (A + K + 1))), .val (.int (Int32.ofNat (min 5 K + 1))), .unset] []) := by
              have J206 : own_Out p e below (own_P s (fun v _ L => v = some (.int 1) ∧ Fr h0.size L) room_1.cells room_1.slots) U (mkF m 206 #[.val (.long q0), .second, .val (.int p1), .val (.int p2), .val (.int p3), .val (.long q1), .second, .val (.int (Int32.ofNat A)), .val (.int (p3.toInt8.toInt32)), .val (.ref b1), .val (.int (Int32.ofNat (A + K + 1))), .val (.int (Int32.ofNat (min 6 K + 1))), .unset] []) := by
                have J220 : own_Out p e below (own_P s (fun v _ L => v = some (.int 1) ∧ Fr h0.size L) room_1.cells room_1.slots) U (mkF m 220 #[.val (.long q0), .second, .val (.int p1), .val (.int p2), .val (.int p3), .val (.long q1), .second, .val (.int (Int32.ofNat A)), .val (.int (p3.toInt8.toInt32)), .val (.ref b1), .val (.int (Int32.ofNat (A + K + 1))), .val (.int (Int32.ofNat (min 7 K + 1))), .unset] []) := by
                  have J234 : own_Out p e below (own_P s (fun v _ L => v = some (.int 1) ∧ Fr h0.size L) room_1.cells room_1.slots) U (mkF m 234 #[.val (.long q0), .second, .val (.int p1), .val (.int p2), .val (.int p3), .val (.long q1), .second, .val (.int (Int32.ofNat A)), .val (.int (p3.toInt8.toInt32)), .val (.ref b1), .val (.int (Int32.ofNat (A + K + 1))), .val (.int (Int32.ofNat (min 8 K + 1))), .unset] []) := by
                    have J248 : own_Out p e below (own_P s (fun v _ L => v = some (.int 1) ∧ Fr h0.size L) room_1.cells room_1.slots) U (mkF m 248 #[.val (.long q0), .second, .val (.int p1), .val (.int p2), .val (.int p3), .val (.long q1), .second, .val (.int (Int32.ofNat A)), .val (.int (p3.toInt8.toInt32)), .val (.ref b1), .val (.int (Int32.ofNat (A + K + 1))), .val (.int (Int32.ofNat (min 9 K + 1))), .unset] []) := by
                      refine o_iload Y hx (hb hby at_248) rfl (pc' := 250) rfl ?_
                      refine o_iload Y hx (hb hby at_250) rfl (pc' := 252) rfl ?_
                      refine o_iload Y hx (hb hby at_252) rfl (pc' := 254) rfl ?_
                      refine o_iadd Y hx (hb hby at_254) (pc' := 255) rfl ?_
                      rw [show min 9 K = K by omega, own_addn, ← Nat.add_assoc]
                      refine o_icmp_ne Y hx (hb hby at_255) (pc' := 262) (pn := 258) (by decide) rfl (fun hc => ?_) (fun hc => ?_)
                      · exact absurd rfl hc
                      refine o_iconst Y hx (hb hby at_258) (v := 1) rfl (pc' := 259) rfl ?_
                      refine o_goto Y hx (hb hby at_259) (pc' := 263) (by decide) ?_
                      refine o_istore Y hx (hb hby at_263) (Ls' := #[.val (.long q0), .second, .val (.int p1), .val (.int p2), .val (.int p3), .val (.long q1), .second, .val (.int (Int32.ofNat A)), .val (.int (p3.toInt8.toInt32)), .val (.ref b1), .val (.int (Int32.ofNat (A + K + 1))), .val (.int (Int32.ofNat (K + 1))), .val (.int (1 : Int32))]) rfl (pc' := 265) rfl ?_
                      refine o_iload Y hx (hb hby at_265) rfl (pc' := 267) rfl ?_
                      refine o_if_eq Y hx (hb hby at_267) (pc' := 289) (pn := 270) (by decide) rfl (fun hc => ?_) (fun hc => ?_)
                      · exact absurd hc (by decide)
                      refine o_aload Y hx (hb hby at_270) rfl rfl (pc' := 272) rfl ?_
                      refine o_iconst Y hx (hb hby at_272) (v := 0) rfl (pc' := 273) rfl ?_
                      refine o_iload Y hx (hb hby at_273) rfl (pc' := 275) rfl ?_
                      refine o_lload Y hx (hb hby at_275) rfl (pc' := 277) rfl ?_
                      refine o_iload Y hx (hb hby at_277) rfl (pc' := 279) rfl ?_
                      refine o_callS Y hx hZ (y := (⟨"com/example/wire_grammar/wiregrammar/model/WireOutputPutVarintPinLaw", "cell", "([BIIJB)Z"⟩ : MethodName)) (as' := [(.ref b1), (.int (0 : Int32)), (.int (Int32.ofNat A)), (.long q1), (.int (p3.toInt8.toInt32))]) hown (hw _ (List.mem_of_getElem? (i := 7) rfl)) (hw _ (List.mem_of_getElem? (i := 8) rfl)) (hw _ (List.mem_of_getElem? (i := 9) rfl)) (hw _ (List.mem_of_getElem? (i := 10) rfl)) (by decide) rfl (own_rm2 l Z a0 hw [] b1 0 A q1 (p3.toInt8.toInt32) F U.heap (by decide) hA (hF 0 (by decide)).1 (hF 0 (by decide)).2 D) (by rw [hml]; rfl) own_pd1 rfl (W := 0) (Nat.le_of_eq rfl) (by decide) (by decide) (hb hby at_279) (by decide) (by decide) (pc' := 282) rfl (S := []) rfl ?_
                      intro v15 T15 L15 X15 q15
                      obtain ⟨rfl, X15, e15⟩ := own_pure rfl rfl X15 q15
                      show own_Out p e below _ T15 (mkF m 282 #[.val (.long q0), .second, .val (.int p1), .val (.int p2), .val (.int p3), .val (.long q1), .second, .val (.int (Int32.ofNat A)), .val (.int (p3.toInt8.toInt32)), .val (.ref b1), .val (.int (Int32.ofNat (A + K + 1))), .val (.int (Int32.ofNat (K + 1))), .val (.int (1 : Int32))] [(.int (1 : Int32))])
                      refine o_if_eq X15 hx (hb hby at_282) (pc' := 289) (pn := 285) (by decide) rfl (fun hc => ?_) (fun hc => ?_)
                      · exact absurd hc (by decide)
                      refine o_iconst X15 hx (hb hby at_285) (v := 1) rfl (pc' := 286) rfl ?_
                      refine o_goto X15 hx (hb hby at_286) (pc' := 290) (by decide) ?_
                      refine o_istore X15 hx (hb hby at_290) (Ls' := #[.val (.long q0), .second, .val (.int p1), .val (.int p2), .val (.int p3), .val (.long q1), .second, .val (.int (Int32.ofNat A)), .val (.int (p3.toInt8.toInt32)), .val (.ref b1), .val (.int (Int32.ofNat (A + K + 1))), .val (.int (Int32.ofNat (K + 1))), .val (.int (1 : Int32))]) rfl (pc' := 292) rfl ?_
                      refine o_iload X15 hx (hb hby at_292) rfl (pc' := 294) rfl ?_
                      refine o_if_eq X15 hx (hb hby at_294) (pc' := 316) (pn := 297) (by decide) rfl (fun hc => ?_) (fun hc => ?_)
                      · exact absurd hc (by decide)
                      refine o_aload X15 hx (hb hby at_297) rfl rfl (pc' := 299) rfl ?_
                      refine o_iconst X15 hx (hb hby at_299) (v := 1) rfl (pc' := 300) rfl ?_
                      refine o_iload X15 hx (hb hby at_300) rfl (pc' := 302) rfl ?_
                      refine o_lload X15 hx (hb hby at_302) rfl (pc' := 304) rfl ?_
                      refine o_iload X15 hx (hb hby at_304) rfl (pc' := 306) rfl ?_
                      refine o_callS X15 hx hZ (y := (⟨"com/example/wire_grammar/wiregrammar/model/WireOutputPutVarintPinLaw", "cell", "([BIIJB)Z"⟩ : MethodName)) (as' := [(.ref b1), (.int (1 : Int32)), (.int (Int32.ofNat A)), (.long q1), (.int (p3.toInt8.toInt32))]) hown (hw _ (List.mem_of_getElem? (i := 7) rfl)) (hw _ (List.mem_of_getElem? (i := 8) rfl)) (hw _ (List.mem_of_getElem? (i := 9) rfl)) (hw _ (List.mem_of_getElem? (i := 10) rfl)) (by decide) e15 (own_rm2 l Z a0 hw [] b1 1 A q1 (p3.toInt8.toInt32) F U.heap (by decide) hA (hF 1 (by decide)).1 (hF 1 (by decide)).2 D) (by rw [hml]; rfl) own_pd1 rfl (W := 0) (Nat.le_of_eq rfl) (by decide) (by decide) (hb hby at_306) (by decide) (by decide) (pc' := 309) rfl (S := []) rfl ?_
                      intro v16 T16 L16 X16 q16
                      obtain ⟨rfl, X16, e16⟩ := own_pure rfl rfl X16 q16
                      show own_Out p e below _ T16 (mkF m 309 #[.val (.long q0), .second, .val (.int p1), .val (.int p2), .val (.int p3), .val (.long q1), .second, .val (.int (Int32.ofNat A)), .val (.int (p3.toInt8.toInt32)), .val (.ref b1), .val (.int (Int32.ofNat (A + K + 1))), .val (.int (Int32.ofNat (K + 1))), .val (.int (1 : Int32))] [(.int (1 : Int32))])
                      refine o_if_eq X16 hx (hb hby at_309) (pc' := 316) (pn := 312) (by decide) rfl (fun hc => ?_) (fun hc => ?_)
                      · exact absurd hc (by decide)
                      refine o_iconst X16 hx (hb hby at_312) (v := 1) rfl (pc' := 313) rfl ?_
                      refine o_goto X16 hx (hb hby at_313) (pc' := 317) (by decide) ?_
                      refine o_istore X16 hx (hb hby at_317) (Ls' := #[.val (.long q0), .second, .val (.int p1), .val (.int p2), .val (.int p3), .val (.long q1), .second, .val (.int (Int32.ofNat A)), .val (.int (p3.toInt8.toInt32)), .val (.ref b1), .val (.int (Int32.ofNat (A + K + 1))), .val (.int (Int32.ofNat (K + 1))), .val (.int (1 : Int32))]) rfl (pc' := 319) rfl ?_
                      refine o_iload X16 hx (hb hby at_319) rfl (pc' := 321) rfl ?_
                      refine o_if_eq X16 hx (hb hby at_321) (pc' := 343) (pn := 324) (by decide) rfl (fun hc => ?_) (fun hc => ?_)
                      · exact absurd hc (by decide)
                      refine o_aload X16 hx (hb hby at_324) rfl rfl (pc' := 326) rfl ?_
                      refine o_iconst X16 hx (hb hby at_326) (v := 2) rfl (pc' := 327) rfl ?_
                      refine o_iload X16 hx (hb hby at_327) rfl (pc' := 329) rfl ?_
                      refine o_lload X16 hx (hb hby at_329) rfl (pc' := 331) rfl ?_
                      refine o_iload X16 hx (hb hby at_331) rfl (pc' := 333) rfl ?_
                      refine o_callS X16 hx hZ (y := (⟨"com/example/wire_grammar/wiregrammar/model/WireOutputPutVarintPinLaw", "cell", "([BIIJB)Z"⟩ : MethodName)) (as' := [(.ref b1), (.int (2 : Int32)), (.int (Int32.ofNat A)), (.long q1), (.int (p3.toInt8.toInt32))]) hown (hw _ (List.mem_of_getElem? (i := 7) rfl)) (hw _ (List.mem_of_getElem? (i := 8) rfl)) (hw _ (List.mem_of_getElem? (i := 9) rfl)) (hw _ (List.mem_of_getElem? (i := 10) rfl)) (by decide) e16 (own_rm2 l Z a0 hw [] b1 2 A q1 (p3.toInt8.toInt32) F U.heap (by decide) hA (hF 2 (by decide)).1 (hF 2 (by decide)).2 D) (by rw [hml]; rfl) own_pd1 rfl (W := 0) (Nat.le_of_eq rfl) (by decide) (by decide) (hb hby at_333) (by decide) (by decide) (pc' := 336) rfl (S := []) rfl ?_
                      intro v17 T17 L17 X17 q17
                      obtain ⟨rfl, X17, e17⟩ := own_pure rfl rfl X17 q17
                      show own_Out p e below _ T17 (mkF m 336 #[.val (.long q0), .second, .val (.int p1), .val (.int p2), .val (.int p3), .val (.long q1), .second, .val (.int (Int32.ofNat A)), .val (.int (p3.toInt8.toInt32)), .val (.ref b1), .val (.int (Int32.ofNat (A + K + 1))), .val (.int (Int32.ofNat (K + 1))), .val (.int (1 : Int32))] [(.int (1 : Int32))])
                      refine o_if_eq X17 hx (hb hby at_336) (pc' := 343) (pn := 339) (by decide) rfl (fun hc => ?_) (fun hc => ?_)
                      · exact absurd hc (by decide)
                      refine o_iconst X17 hx (hb hby at_339) (v := 1) rfl (pc' := 340) rfl ?_
                      refine o_goto X17 hx (hb hby at_340) (pc' := 344) (by decide) ?_
                      refine o_istore X17 hx (hb hby at_344) (Ls' := #[.val (.long q0), .second, .val (.int p1), .val (.int p2), .val (.int p3), .val (.long q1), .second, .val (.int (Int32.ofNat A)), .val (.int (p3.toInt8.toInt32)), .val (.ref b1), .val (.int (Int32.ofNat (A + K + 1))), .val (.int (Int32.ofNat (K + 1))), .val (.int (1 : Int32))]) rfl (pc' := 346) rfl ?_
                      refine o_iload X17 hx (hb hby at_346) rfl (pc' := 348) rfl ?_
                      refine o_if_eq X17 hx (hb hby at_348) (pc' := 370) (pn := 351) (by decide) rfl (fun hc => ?_) (fun hc => ?_)
                      · exact absurd hc (by decide)
                      refine o_aload X17 hx (hb hby at_351) rfl rfl (pc' := 353) rfl ?_
                      refine o_iconst X17 hx (hb hby at_353) (v := 3) rfl (pc' := 354) rfl ?_
                      refine o_iload X17 hx (hb hby at_354) rfl (pc' := 356) rfl ?_
                      refine o_lload X17 hx (hb hby at_356) rfl (pc' := 358) rfl ?_
                      refine o_iload X17 hx (hb hby at_358) rfl (pc' := 360) rfl ?_
                      refine o_callS X17 hx hZ (y := (⟨"com/example/wire_grammar/wiregrammar/model/WireOutputPutVarintPinLaw", "cell", "([BIIJB)Z"⟩ : MethodName)) (as' := [(.ref b1), (.int (3 : Int32)), (.int (Int32.ofNat A)), (.long q1), (.int (p3.toInt8.toInt32))]) hown (hw _ (List.mem_of_getElem? (i := 7) rfl)) (hw _ (List.mem_of_getElem? (i := 8) rfl)) (hw _ (List.mem_of_getElem? (i := 9) rfl)) (hw _ (List.mem_of_getElem? (i := 10) rfl)) (by decide) e17 (own_rm2 l Z a0 hw [] b1 3 A q1 (p3.toInt8.toInt32) F U.heap (by decide) hA (hF 3 (by decide)).1 (hF 3 (by decide)).2 D) (by rw [hml]; rfl) own_pd1 rfl (W := 0) (Nat.le_of_eq rfl) (by decide) (by decide) (hb hby at_360) (by decide) (by decide) (pc' := 363) rfl (S := []) rfl ?_
                      intro v18 T18 L18 X18 q18
                      obtain ⟨rfl, X18, e18⟩ := own_pure rfl rfl X18 q18
                      show own_Out p e below _ T18 (mkF m 363 #[.val (.long q0), .second, .val (.int p1), .val (.int p2), .val (.int p3), .val (.long q1), .second, .val (.int (Int32.ofNat A)), .val (.int (p3.toInt8.toInt32)), .val (.ref b1), .val (.int (Int32.ofNat (A + K + 1))), .val (.int (Int32.ofNat (K + 1))), .val (.int (1 : Int32))] [(.int (1 : Int32))])
                      refine o_if_eq X18 hx (hb hby at_363) (pc' := 370) (pn := 366) (by decide) rfl (fun hc => ?_) (fun hc => ?_)
                      · exact absurd hc (by decide)
                      refine o_iconst X18 hx (hb hby at_366) (v := 1) rfl (pc' := 367) rfl ?_
                      refine o_goto X18 hx (hb hby at_367) (pc' := 371) (by decide) ?_
                      refine o_istore X18 hx (hb hby at_371) (Ls' := #[.val (.long q0), .second, .val (.int p1), .val (.int p2), .val (.int p3), .val (.long q1), .second, .val (.int (Int32.ofNat A)), .val (.int (p3.toInt8.toInt32)), .val (.ref b1), .val (.int (Int32.ofNat (A + K + 1))), .val (.int (Int32.ofNat (K + 1))), .val (.int (1 : Int32))]) rfl (pc' := 373) rfl ?_
                      refine o_iload X18 hx (hb hby at_373) rfl (pc' := 375) rfl ?_
                      refine o_if_eq X18 hx (hb hby at_375) (pc' := 397) (pn := 378) (by decide) rfl (fun hc => ?_) (fun hc => ?_)
                      · exact absurd hc (by decide)
                      refine o_aload X18 hx (hb hby at_378) rfl rfl (pc' := 380) rfl ?_
                      refine o_iconst X18 hx (hb hby at_380) (v := 4) rfl (pc' := 381) rfl ?_
                      refine o_iload X18 hx (hb hby at_381) rfl (pc' := 383) rfl ?_
                      refine o_lload X18 hx (hb hby at_383) rfl (pc' := 385) rfl ?_
                      refine o_iload X18 hx (hb hby at_385) rfl (pc' := 387) rfl ?_
                      refine o_callS X18 hx hZ (y := (⟨"com/example/wire_grammar/wiregrammar/model/WireOutputPutVarintPinLaw", "cell", "([BIIJB)Z"⟩ : MethodName)) (as' := [(.ref b1), (.int (4 : Int32)), (.int (Int32.ofNat A)), (.long q1), (.int (p3.toInt8.toInt32))]) hown (hw _ (List.mem_of_getElem? (i := 7) rfl)) (hw _ (List.mem_of_getElem? (i := 8) rfl)) (hw _ (List.mem_of_getElem? (i := 9) rfl)) (hw _ (List.mem_of_getElem? (i := 10) rfl)) (by decide) e18 (own_rm2 l Z a0 hw [] b1 4 A q1 (p3.toInt8.toInt32) F U.heap (by decide) hA (hF 4 (by decide)).1 (hF 4 (by decide)).2 D) (by rw [hml]; rfl) own_pd1 rfl (W := 0) (Nat.le_of_eq rfl) (by decide) (by decide) (hb hby at_387) (by decide) (by decide) (pc' := 390) rfl (S := []) rfl ?_
                      intro v19 T19 L19 X19 q19
                      obtain ⟨rfl, X19, e19⟩ := own_pure rfl rfl X19 q19
                      show own_Out p e below _ T19 (mkF m 390 #[.val (.long q0), .second, .val (.int p1), .val (.int p2), .val (.int p3), .val (.long q1), .second, .val (.int (Int32.ofNat A)), .val (.int (p3.toInt8.toInt32)), .val (.ref b1), .val (.int (Int32.ofNat (A + K + 1))), .val (.int (Int32.ofNat (K + 1))), .val (.int (1 : Int32))] [(.int (1 : Int32))])
                      refine o_if_eq X19 hx (hb hby at_390) (pc' := 397) (pn := 393) (by decide) rfl (fun hc => ?_) (fun hc => ?_)
                      · exact absurd hc (by decide)
                      refine o_iconst X19 hx (hb hby at_393) (v := 1) rfl (pc' := 394) rfl ?_
                      refine o_goto X19 hx (hb hby at_394) (pc' := 398) (by decide) ?_
                      refine o_istore X19 hx (hb hby at_398) (Ls' := #[.val (.long q0), .second, .val (.int p1), .val (.int p2), .val (.int p3), .val (.long q1), .second, .val (.int (Int32.ofNat A)), .val (.int (p3.toInt8.toInt32)), .val (.ref b1), .val (.int (Int32.ofNat (A + K + 1))), .val (.int (Int32.ofNat (K + 1))), .val (.int (1 : Int32))]) rfl (pc' := 400) rfl ?_
                      refine o_iload X19 hx (hb hby at_400) rfl (pc' := 402) rfl ?_
                      refine o_if_eq X19 hx (hb hby at_402) (pc' := 424) (pn := 405) (by decide) rfl (fun hc => ?_) (fun hc => ?_)
                      · exact absurd hc (by decide)
                      refine o_aload X19 hx (hb hby at_405) rfl rfl (pc' := 407) rfl ?_
                      refine o_iconst X19 hx (hb hby at_407) (v := 5) rfl (pc' := 408) rfl ?_
                      refine o_iload X19 hx (hb hby at_408) rfl (pc' := 410) rfl ?_
                      refine o_lload X19 hx (hb hby at_410) rfl (pc' := 412) rfl ?_
                      refine o_iload X19 hx (hb hby at_412) rfl (pc' := 414) rfl ?_
                      refine o_callS X19 hx hZ (y := (⟨"com/example/wire_grammar/wiregrammar/model/WireOutputPutVarintPinLaw", "cell", "([BIIJB)Z"⟩ : MethodName)) (as' := [(.ref b1), (.int (5 : Int32)), (.int (Int32.ofNat A)), (.long q1), (.int (p3.toInt8.toInt32))]) hown (hw _ (List.mem_of_getElem? (i := 7) rfl)) (hw _ (List.mem_of_getElem? (i := 8) rfl)) (hw _ (List.mem_of_getElem? (i := 9) rfl)) (hw _ (List.mem_of_getElem? (i := 10) rfl)) (by decide) e19 (own_rm2 l Z a0 hw [] b1 5 A q1 (p3.toInt8.toInt32) F U.heap (by decide) hA (hF 5 (by decide)).1 (hF 5 (by decide)).2 D) (by rw [hml]; rfl) own_pd1 rfl (W := 0) (Nat.le_of_eq rfl) (by decide) (by decide) (hb hby at_414) (by decide) (by decide) (pc' := 417) rfl (S := []) rfl ?_
                      intro v20 T20 L20 X20 q20
                      obtain ⟨rfl, X20, e20⟩ := own_pure rfl rfl X20 q20
                      show own_Out p e below _ T20 (mkF m 417 #[.val (.long q0), .second, .val (.int p1), .val (.int p2), .val (.int p3), .val (.long q1), .second, .val (.int (Int32.ofNat A)), .val (.int (p3.toInt8.toInt32)), .val (.ref b1), .val (.int (Int32.ofNat (A + K + 1))), .val (.int (Int32.ofNat (K + 1))), .val (.int (1 : Int32))] [(.int (1 : Int32))])
                      refine o_if_eq X20 hx (hb hby at_417) (pc' := 424) (pn := 420) (by decide) rfl (fun hc => ?_) (fun hc => ?_)
                      · exact absurd hc (by decide)
                      refine o_iconst X20 hx (hb hby at_420) (v := 1) rfl (pc' := 421) rfl ?_
                      refine o_goto X20 hx (hb hby at_421) (pc' := 425) (by decide) ?_
                      refine o_istore X20 hx (hb hby at_425) (Ls' := #[.val (.long q0), .second, .val (.int p1), .val (.int p2), .val (.int p3), .val (.long q1), .second, .val (.int (Int32.ofNat A)), .val (.int (p3.toInt8.toInt32)), .val (.ref b1), .val (.int (Int32.ofNat (A + K + 1))), .val (.int (Int32.ofNat (K + 1))), .val (.int (1 : Int32))]) rfl (pc' := 427) rfl ?_
                      refine o_iload X20 hx (hb hby at_427) rfl (pc' := 429) rfl ?_
                      refine o_if_eq X20 hx (hb hby at_429) (pc' := 452) (pn := 432) (by decide) rfl (fun hc => ?_) (fun hc => ?_)
                      · exact absurd hc (by decide)
                      refine o_aload X20 hx (hb hby at_432) rfl rfl (pc' := 434) rfl ?_
                      refine o_bipush X20 hx (hb hby at_434) (v := 6) rfl (pc' := 436) rfl ?_
                      refine o_iload X20 hx (hb hby at_436) rfl (pc' := 438) rfl ?_
                      refine o_lload X20 hx (hb hby at_438) rfl (pc' := 440) rfl ?_
                      refine o_iload X20 hx (hb hby at_440) rfl (pc' := 442) rfl ?_
                      refine o_callS X20 hx hZ (y := (⟨"com/example/wire_grammar/wiregrammar/model/WireOutputPutVarintPinLaw", "cell", "([BIIJB)Z"⟩ : MethodName)) (as' := [(.ref b1), (.int (6 : Int32)), (.int (Int32.ofNat A)), (.long q1), (.int (p3.toInt8.toInt32))]) hown (hw _ (List.mem_of_getElem? (i := 7) rfl)) (hw _ (List.mem_of_getElem? (i := 8) rfl)) (hw _ (List.mem_of_getElem? (i := 9) rfl)) (hw _ (List.mem_of_getElem? (i := 10) rfl)) (by decide) e20 (own_rm2 l Z a0 hw [] b1 6 A q1 (p3.toInt8.toInt32) F U.heap (by decide) hA (hF 6 (by decide)).1 (hF 6 (by decide)).2 D) (by rw [hml]; rfl) own_pd1 rfl (W := 0) (Nat.le_of_eq rfl) (by decide) (by decide) (hb hby at_442) (by decide) (by decide) (pc' := 445) rfl (S := []) rfl ?_
                      intro v21 T21 L21 X21 q21
                      obtain ⟨rfl, X21, e21⟩ := own_pure rfl rfl X21 q21
                      show own_Out p e below _ T21 (mkF m 445 #[.val (.long q0), .second, .val (.int p1), .val (.int p2), .val (.int p3), .val (.long q1), .second, .val (.int (Int32.ofNat A)), .val (.int (p3.toInt8.toInt32)), .val (.ref b1), .val (.int (Int32.ofNat (A + K + 1))), .val (.int (Int32.ofNat (K + 1))), .val (.int (1 : Int32))] [(.int (1 : Int32))])
                      refine o_if_eq X21 hx (hb hby at_445) (pc' := 452) (pn := 448) (by decide) rfl (fun hc => ?_) (fun hc => ?_)
                      · exact absurd hc (by decide)
                      refine o_iconst X21 hx (hb hby at_448) (v := 1) rfl (pc' := 449) rfl ?_
                      refine o_goto X21 hx (hb hby at_449) (pc' := 453) (by decide) ?_
                      refine o_istore X21 hx (hb hby at_453) (Ls' := #[.val (.long q0), .second, .val (.int p1), .val (.int p2), .val (.int p3), .val (.long q1), .second, .val (.int (Int32.ofNat A)), .val (.int (p3.toInt8.toInt32)), .val (.ref b1), .val (.int (Int32.ofNat (A + K + 1))), .val (.int (Int32.ofNat (K + 1))), .val (.int (1 : Int32))]) rfl (pc' := 455) rfl ?_
                      refine o_iload X21 hx (hb hby at_455) rfl (pc' := 457) rfl ?_
                      refine o_if_eq X21 hx (hb hby at_457) (pc' := 480) (pn := 460) (by decide) rfl (fun hc => ?_) (fun hc => ?_)
                      · exact absurd hc (by decide)
                      refine o_aload X21 hx (hb hby at_460) rfl rfl (pc' := 462) rfl ?_
                      refine o_bipush X21 hx (hb hby at_462) (v := 7) rfl (pc' := 464) rfl ?_
                      refine o_iload X21 hx (hb hby at_464) rfl (pc' := 466) rfl ?_
                      refine o_lload X21 hx (hb hby at_466) rfl (pc' := 468) rfl ?_
                      refine o_iload X21 hx (hb hby at_468) rfl (pc' := 470) rfl ?_
                      refine o_callS X21 hx hZ (y := (⟨"com/example/wire_grammar/wiregrammar/model/WireOutputPutVarintPinLaw", "cell", "([BIIJB)Z"⟩ : MethodName)) (as' := [(.ref b1), (.int (7 : Int32)), (.int (Int32.ofNat A)), (.long q1), (.int (p3.toInt8.toInt32))]) hown (hw _ (List.mem_of_getElem? (i := 7) rfl)) (hw _ (List.mem_of_getElem? (i := 8) rfl)) (hw _ (List.mem_of_getElem? (i := 9) rfl)) (hw _ (List.mem_of_getElem? (i := 10) rfl)) (by decide) e21 (own_rm2 l Z a0 hw [] b1 7 A q1 (p3.toInt8.toInt32) F U.heap (by decide) hA (hF 7 (by decide)).1 (hF 7 (by decide)).2 D) (by rw [hml]; rfl) own_pd1 rfl (W := 0) (Nat.le_of_eq rfl) (by decide) (by decide) (hb hby at_470) (by decide) (by decide) (pc' := 473) rfl (S := []) rfl ?_
                      intro v22 T22 L22 X22 q22
                      obtain ⟨rfl, X22, e22⟩ := own_pure rfl rfl X22 q22
                      show own_Out p e below _ T22 (mkF m 473 #[.val (.long q0), .second, .val (.int p1), .val (.int p2), .val (.int p3), .val (.long q1), .second, .val (.int (Int32.ofNat A)), .val (.int (p3.toInt8.toInt32)), .val (.ref b1), .val (.int (Int32.ofNat (A + K + 1))), .val (.int (Int32.ofNat (K + 1))), .val (.int (1 : Int32))] [(.int (1 : Int32))])
                      refine o_if_eq X22 hx (hb hby at_473) (pc' := 480) (pn := 476) (by decide) rfl (fun hc => ?_) (fun hc => ?_)
                      · exact absurd hc (by decide)
                      refine o_iconst X22 hx (hb hby at_476) (v := 1) rfl (pc' := 477) rfl ?_
                      refine o_goto X22 hx (hb hby at_477) (pc' := 481) (by decide) ?_
                      refine o_istore X22 hx (hb hby at_481) (Ls' := #[.val (.long q0), .second, .val (.int p1), .val (.int p2), .val (.int p3), .val (.long q1), .second, .val (.int (Int32.ofNat A)), .val (.int (p3.toInt8.toInt32)), .val (.ref b1), .val (.int (Int32.ofNat (A + K + 1))), .val (.int (Int32.ofNat (K + 1))), .val (.int (1 : Int32))]) rfl (pc' := 483) rfl ?_
                      refine o_iload X22 hx (hb hby at_483) rfl (pc' := 485) rfl ?_
                      refine o_if_eq X22 hx (hb hby at_485) (pc' := 508) (pn := 488) (by decide) rfl (fun hc => ?_) (fun hc => ?_)
                      · exact absurd hc (by decide)
                      refine o_aload X22 hx (hb hby at_488) rfl rfl (pc' := 490) rfl ?_
                      refine o_bipush X22 hx (hb hby at_490) (v := 8) rfl (pc' := 492) rfl ?_
                      refine o_iload X22 hx (hb hby at_492) rfl (pc' := 494) rfl ?_
                      refine o_lload X22 hx (hb hby at_494) rfl (pc' := 496) rfl ?_
                      refine o_iload X22 hx (hb hby at_496) rfl (pc' := 498) rfl ?_
                      refine o_callS X22 hx hZ (y := (⟨"com/example/wire_grammar/wiregrammar/model/WireOutputPutVarintPinLaw", "cell", "([BIIJB)Z"⟩ : MethodName)) (as' := [(.ref b1), (.int (8 : Int32)), (.int (Int32.ofNat A)), (.long q1), (.int (p3.toInt8.toInt32))]) hown (hw _ (List.mem_of_getElem? (i := 7) rfl)) (hw _ (List.mem_of_getElem? (i := 8) rfl)) (hw _ (List.mem_of_getElem? (i := 9) rfl)) (hw _ (List.mem_of_getElem? (i := 10) rfl)) (by decide) e22 (own_rm2 l Z a0 hw [] b1 8 A q1 (p3.toInt8.toInt32) F U.heap (by decide) hA (hF 8 (by decide)).1 (hF 8 (by decide)).2 D) (by rw [hml]; rfl) own_pd1 rfl (W := 0) (Nat.le_of_eq rfl) (by decide) (by decide) (hb hby at_498) (by decide) (by decide) (pc' := 501) rfl (S := []) rfl ?_
                      intro v23 T23 L23 X23 q23
                      obtain ⟨rfl, X23, e23⟩ := own_pure rfl rfl X23 q23
                      show own_Out p e below _ T23 (mkF m 501 #[.val (.long q0), .second, .val (.int p1), .val (.int p2), .val (.int p3), .val (.long q1), .second, .val (.int (Int32.ofNat A)), .val (.int (p3.toInt8.toInt32)), .val (.ref b1), .val (.int (Int32.ofNat (A + K + 1))), .val (.int (Int32.ofNat (K + 1))), .val (.int (1 : Int32))] [(.int (1 : Int32))])
                      refine o_if_eq X23 hx (hb hby at_501) (pc' := 508) (pn := 504) (by decide) rfl (fun hc => ?_) (fun hc => ?_)
                      · exact absurd hc (by decide)
                      refine o_iconst X23 hx (hb hby at_504) (v := 1) rfl (pc' := 505) rfl ?_
                      refine o_goto X23 hx (hb hby at_505) (pc' := 509) (by decide) ?_
                      refine o_istore X23 hx (hb hby at_509) (Ls' := #[.val (.long q0), .second, .val (.int p1), .val (.int p2), .val (.int p3), .val (.long q1), .second, .val (.int (Int32.ofNat A)), .val (.int (p3.toInt8.toInt32)), .val (.ref b1), .val (.int (Int32.ofNat (A + K + 1))), .val (.int (Int32.ofNat (K + 1))), .val (.int (1 : Int32))]) rfl (pc' := 511) rfl ?_
                      refine o_iload X23 hx (hb hby at_511) rfl (pc' := 513) rfl ?_
                      refine o_if_eq X23 hx (hb hby at_513) (pc' := 536) (pn := 516) (by decide) rfl (fun hc => ?_) (fun hc => ?_)
                      · exact absurd hc (by decide)
                      refine o_aload X23 hx (hb hby at_516) rfl rfl (pc' := 518) rfl ?_
                      refine o_bipush X23 hx (hb hby at_518) (v := 9) rfl (pc' := 520) rfl ?_
                      refine o_iload X23 hx (hb hby at_520) rfl (pc' := 522) rfl ?_
                      refine o_lload X23 hx (hb hby at_522) rfl (pc' := 524) rfl ?_
                      refine o_iload X23 hx (hb hby at_524) rfl (pc' := 526) rfl ?_
                      refine o_callS X23 hx hZ (y := (⟨"com/example/wire_grammar/wiregrammar/model/WireOutputPutVarintPinLaw", "cell", "([BIIJB)Z"⟩ : MethodName)) (as' := [(.ref b1), (.int (9 : Int32)), (.int (Int32.ofNat A)), (.long q1), (.int (p3.toInt8.toInt32))]) hown (hw _ (List.mem_of_getElem? (i := 7) rfl)) (hw _ (List.mem_of_getElem? (i := 8) rfl)) (hw _ (List.mem_of_getElem? (i := 9) rfl)) (hw _ (List.mem_of_getElem? (i := 10) rfl)) (by decide) e23 (own_rm2 l Z a0 hw [] b1 9 A q1 (p3.toInt8.toInt32) F U.heap (by decide) hA (hF 9 (by decide)).1 (hF 9 (by decide)).2 D) (by rw [hml]; rfl) own_pd1 rfl (W := 0) (Nat.le_of_eq rfl) (by decide) (by decide) (hb hby at_526) (by decide) (by decide) (pc' := 529) rfl (S := []) rfl ?_
                      intro v24 T24 L24 X24 q24
                      obtain ⟨rfl, X24, e24⟩ := own_pure rfl rfl X24 q24
                      show own_Out p e below _ T24 (mkF m 529 #[.val (.long q0), .second, .val (.int p1), .val (.int p2), .val (.int p3), .val (.long q1), .second, .val (.int (Int32.ofNat A)), .val (.int (p3.toInt8.toInt32)), .val (.ref b1), .val (.int (Int32.ofNat (A + K + 1))), .val (.int (Int32.ofNat (K + 1))), .val (.int (1 : Int32))] [(.int (1 : Int32))])
                      refine o_if_eq X24 hx (hb hby at_529) (pc' := 536) (pn := 532) (by decide) rfl (fun hc => ?_) (fun hc => ?_)
                      · exact absurd hc (by decide)
                      refine o_iconst X24 hx (hb hby at_532) (v := 1) rfl (pc' := 533) rfl ?_
                      refine o_goto X24 hx (hb hby at_533) (pc' := 537) (by decide) ?_
                      refine o_istore X24 hx (hb hby at_537) (Ls' := #[.val (.long q0), .second, .val (.int p1), .val (.int p2), .val (.int p3), .val (.long q1), .second, .val (.int (Int32.ofNat A)), .val (.int (p3.toInt8.toInt32)), .val (.ref b1), .val (.int (Int32.ofNat (A + K + 1))), .val (.int (Int32.ofNat (K + 1))), .val (.int (1 : Int32))]) rfl (pc' := 539) rfl ?_
                      refine o_iload X24 hx (hb hby at_539) rfl (pc' := 541) rfl ?_
                      refine o_if_eq X24 hx (hb hby at_541) (pc' := 564) (pn := 544) (by decide) rfl (fun hc => ?_) (fun hc => ?_)
                      · exact absurd hc (by decide)
                      refine o_aload X24 hx (hb hby at_544) rfl rfl (pc' := 546) rfl ?_
                      refine o_bipush X24 hx (hb hby at_546) (v := 10) rfl (pc' := 548) rfl ?_
                      refine o_iload X24 hx (hb hby at_548) rfl (pc' := 550) rfl ?_
                      refine o_lload X24 hx (hb hby at_550) rfl (pc' := 552) rfl ?_
                      refine o_iload X24 hx (hb hby at_552) rfl (pc' := 554) rfl ?_
                      refine o_callS X24 hx hZ (y := (⟨"com/example/wire_grammar/wiregrammar/model/WireOutputPutVarintPinLaw", "cell", "([BIIJB)Z"⟩ : MethodName)) (as' := [(.ref b1), (.int (10 : Int32)), (.int (Int32.ofNat A)), (.long q1), (.int (p3.toInt8.toInt32))]) hown (hw _ (List.mem_of_getElem? (i := 7) rfl)) (hw _ (List.mem_of_getElem? (i := 8) rfl)) (hw _ (List.mem_of_getElem? (i := 9) rfl)) (hw _ (List.mem_of_getElem? (i := 10) rfl)) (by decide) e24 (own_rm2 l Z a0 hw [] b1 10 A q1 (p3.toInt8.toInt32) F U.heap (by decide) hA (hF 10 (by decide)).1 (hF 10 (by decide)).2 D) (by rw [hml]; rfl) own_pd1 rfl (W := 0) (Nat.le_of_eq rfl) (by decide) (by decide) (hb hby at_554) (by decide) (by decide) (pc' := 557) rfl (S := []) rfl ?_
                      intro v25 T25 L25 X25 q25
                      obtain ⟨rfl, X25, e25⟩ := own_pure rfl rfl X25 q25
                      show own_Out p e below _ T25 (mkF m 557 #[.val (.long q0), .second, .val (.int p1), .val (.int p2), .val (.int p3), .val (.long q1), .second, .val (.int (Int32.ofNat A)), .val (.int (p3.toInt8.toInt32)), .val (.ref b1), .val (.int (Int32.ofNat (A + K + 1))), .val (.int (Int32.ofNat (K + 1))), .val (.int (1 : Int32))] [(.int (1 : Int32))])
                      refine o_if_eq X25 hx (hb hby at_557) (pc' := 564) (pn := 560) (by decide) rfl (fun hc => ?_) (fun hc => ?_)
                      · exact absurd hc (by decide)
                      refine o_iconst X25 hx (hb hby at_560) (v := 1) rfl (pc' := 561) rfl ?_
                      refine o_goto X25 hx (hb hby at_561) (pc' := 565) (by decide) ?_
                      refine o_istore X25 hx (hb hby at_565) (Ls' := #[.val (.long q0), .second, .val (.int p1), .val (.int p2), .val (.int p3), .val (.long q1), .second, .val (.int (Int32.ofNat A)), .val (.int (p3.toInt8.toInt32)), .val (.ref b1), .val (.int (Int32.ofNat (A + K + 1))), .val (.int (Int32.ofNat (K + 1))), .val (.int (1 : Int32))]) rfl (pc' := 567) rfl ?_
                      refine o_iload X25 hx (hb hby at_567) rfl (pc' := 569) rfl ?_
                      refine o_if_eq X25 hx (hb hby at_569) (pc' := 592) (pn := 572) (by decide) rfl (fun hc => ?_) (fun hc => ?_)
                      · exact absurd hc (by decide)
                      refine o_aload X25 hx (hb hby at_572) rfl rfl (pc' := 574) rfl ?_
                      refine o_bipush X25 hx (hb hby at_574) (v := 11) rfl (pc' := 576) rfl ?_
                      refine o_iload X25 hx (hb hby at_576) rfl (pc' := 578) rfl ?_
                      refine o_lload X25 hx (hb hby at_578) rfl (pc' := 580) rfl ?_
                      refine o_iload X25 hx (hb hby at_580) rfl (pc' := 582) rfl ?_
                      refine o_callS X25 hx hZ (y := (⟨"com/example/wire_grammar/wiregrammar/model/WireOutputPutVarintPinLaw", "cell", "([BIIJB)Z"⟩ : MethodName)) (as' := [(.ref b1), (.int (11 : Int32)), (.int (Int32.ofNat A)), (.long q1), (.int (p3.toInt8.toInt32))]) hown (hw _ (List.mem_of_getElem? (i := 7) rfl)) (hw _ (List.mem_of_getElem? (i := 8) rfl)) (hw _ (List.mem_of_getElem? (i := 9) rfl)) (hw _ (List.mem_of_getElem? (i := 10) rfl)) (by decide) e25 (own_rm2 l Z a0 hw [] b1 11 A q1 (p3.toInt8.toInt32) F U.heap (by decide) hA (hF 11 (by decide)).1 (hF 11 (by decide)).2 D) (by rw [hml]; rfl) own_pd1 rfl (W := 0) (Nat.le_of_eq rfl) (by decide) (by decide) (hb hby at_582) (by decide) (by decide) (pc' := 585) rfl (S := []) rfl ?_
                      intro v26 T26 L26 X26 q26
                      obtain ⟨rfl, X26, e26⟩ := own_pure rfl rfl X26 q26
                      show own_Out p e below _ T26 (mkF m 585 #[.val (.long q0), .second, .val (.int p1), .val (.int p2), .val (.int p3), .val (.long q1), .second, .val (.int (Int32.ofNat A)), .val (.int (p3.toInt8.toInt32)), .val (.ref b1), .val (.int (Int32.ofNat (A + K + 1))), .val (.int (Int32.ofNat (K + 1))), .val (.int (1 : Int32))] [(.int (1 : Int32))])
                      refine o_if_eq X26 hx (hb hby at_585) (pc' := 592) (pn := 588) (by decide) rfl (fun hc => ?_) (fun hc => ?_)
                      · exact absurd hc (by decide)
                      refine o_iconst X26 hx (hb hby at_588) (v := 1) rfl (pc' := 589) rfl ?_
                      refine o_goto X26 hx (hb hby at_589) (pc' := 593) (by decide) ?_
                      refine o_istore X26 hx (hb hby at_593) (Ls' := #[.val (.long q0), .second, .val (.int p1), .val (.int p2), .val (.int p3), .val (.long q1), .second, .val (.int (Int32.ofNat A)), .val (.int (p3.toInt8.toInt32)), .val (.ref b1), .val (.int (Int32.ofNat (A + K + 1))), .val (.int (Int32.ofNat (K + 1))), .val (.int (1 : Int32))]) rfl (pc' := 595) rfl ?_
                      refine o_iload X26 hx (hb hby at_595) rfl (pc' := 597) rfl ?_
                      refine o_if_eq X26 hx (hb hby at_597) (pc' := 620) (pn := 600) (by decide) rfl (fun hc => ?_) (fun hc => ?_)
                      · exact absurd hc (by decide)
                      refine o_aload X26 hx (hb hby at_600) rfl rfl (pc' := 602) rfl ?_
                      refine o_bipush X26 hx (hb hby at_602) (v := 12) rfl (pc' := 604) rfl ?_
                      refine o_iload X26 hx (hb hby at_604) rfl (pc' := 606) rfl ?_
                      refine o_lload X26 hx (hb hby at_606) rfl (pc' := 608) rfl ?_
                      refine o_iload X26 hx (hb hby at_608) rfl (pc' := 610) rfl ?_
                      refine o_callS X26 hx hZ (y := (⟨"com/example/wire_grammar/wiregrammar/model/WireOutputPutVarintPinLaw", "cell", "([BIIJB)Z"⟩ : MethodName)) (as' := [(.ref b1), (.int (12 : Int32)), (.int (Int32.ofNat A)), (.long q1), (.int (p3.toInt8.toInt32))]) hown (hw _ (List.mem_of_getElem? (i := 7) rfl)) (hw _ (List.mem_of_getElem? (i := 8) rfl)) (hw _ (List.mem_of_getElem? (i := 9) rfl)) (hw _ (List.mem_of_getElem? (i := 10) rfl)) (by decide) e26 (own_rm2 l Z a0 hw [] b1 12 A q1 (p3.toInt8.toInt32) F U.heap (by decide) hA (hF 12 (by decide)).1 (hF 12 (by decide)).2 D) (by rw [hml]; rfl) own_pd1 rfl (W := 0) (Nat.le_of_eq rfl) (by decide) (by decide) (hb hby at_610) (by decide) (by decide) (pc' := 613) rfl (S := []) rfl ?_
                      intro v27 T27 L27 X27 q27
                      obtain ⟨rfl, X27, e27⟩ := own_pure rfl rfl X27 q27
                      show own_Out p e below _ T27 (mkF m 613 #[.val (.long q0), .second, .val (.int p1), .val (.int p2), .val (.int p3), .val (.long q1), .second, .val (.int (Int32.ofNat A)), .val (.int (p3.toInt8.toInt32)), .val (.ref b1), .val (.int (Int32.ofNat (A + K + 1))), .val (.int (Int32.ofNat (K + 1))), .val (.int (1 : Int32))] [(.int (1 : Int32))])
                      refine o_if_eq X27 hx (hb hby at_613) (pc' := 620) (pn := 616) (by decide) rfl (fun hc => ?_) (fun hc => ?_)
                      · exact absurd hc (by decide)
                      refine o_iconst X27 hx (hb hby at_616) (v := 1) rfl (pc' := 617) rfl ?_
                      refine o_goto X27 hx (hb hby at_617) (pc' := 621) (by decide) ?_
                      refine o_istore X27 hx (hb hby at_621) (Ls' := #[.val (.long q0), .second, .val (.int p1), .val (.int p2), .val (.int p3), .val (.long q1), .second, .val (.int (Int32.ofNat A)), .val (.int (p3.toInt8.toInt32)), .val (.ref b1), .val (.int (Int32.ofNat (A + K + 1))), .val (.int (Int32.ofNat (K + 1))), .val (.int (1 : Int32))]) rfl (pc' := 623) rfl ?_
                      refine o_iload X27 hx (hb hby at_623) rfl (pc' := 625) rfl ?_
                      refine o_retN X27 hx (t := .boolean) Bd.returns hlk (by simp) (hb hby at_625) rfl ⟨rfl, N⟩ (by decide) (by decide)
                    refine o_lload Y hx (hb hby at_234) rfl (pc' := 236) rfl ?_
                    refine o_bipush Y hx (hb hby at_236) (v := 63) rfl (pc' := 238) rfl ?_
                    refine o_lushr Y hx (hb hby at_238) (pc' := 239) rfl ?_
                    refine o_lconst Y hx (hb hby at_239) (v := 0) rfl (pc' := 240) rfl ?_
                    refine o_lcmp Y hx (hb hby at_240) (pc' := 241) rfl ?_
                    refine o_if_eq Y hx (hb hby at_241) (pc' := 248) (pn := 244) (by decide) rfl (fun hc => ?_) (fun hc => ?_)
                    · rw [own_sz q1 _ 8 K (by decide) (by decide) hK] at hc
                      rw [show min 8 K = min 9 K by omega]
                      exact J248
                    · rw [own_sz q1 _ 8 K (by decide) (by decide) hK] at hc
                      refine o_bipush Y hx (hb hby at_244) (v := 10) rfl (pc' := 246) rfl ?_
                      refine o_istore Y hx (hb hby at_246) (Ls' := #[.val (.long q0), .second, .val (.int p1), .val (.int p2), .val (.int p3), .val (.long q1), .second, .val (.int (Int32.ofNat A)), .val (.int (p3.toInt8.toInt32)), .val (.ref b1), .val (.int (Int32.ofNat (A + K + 1))), .val (.int (10 : Int32)), .unset]) rfl (pc' := 248) rfl ?_
                      rw [show min 9 K = 9 by omega] at J248
                      exact J248
                  refine o_lload Y hx (hb hby at_220) rfl (pc' := 222) rfl ?_
                  refine o_bipush Y hx (hb hby at_222) (v := 56) rfl (pc' := 224) rfl ?_
                  refine o_lushr Y hx (hb hby at_224) (pc' := 225) rfl ?_
                  refine o_lconst Y hx (hb hby at_225) (v := 0) rfl (pc' := 226) rfl ?_
                  refine o_lcmp Y hx (hb hby at_226) (pc' := 227) rfl ?_
                  refine o_if_eq Y hx (hb hby at_227) (pc' := 234) (pn := 230) (by decide) rfl (fun hc => ?_) (fun hc => ?_)
                  · rw [own_sz q1 _ 7 K (by decide) (by decide) hK] at hc
                    rw [show min 7 K = min 8 K by omega]
                    exact J234
                  · rw [own_sz q1 _ 7 K (by decide) (by decide) hK] at hc
                    refine o_bipush Y hx (hb hby at_230) (v := 9) rfl (pc' := 232) rfl ?_
                    refine o_istore Y hx (hb hby at_232) (Ls' := #[.val (.long q0), .second, .val (.int p1), .val (.int p2), .val (.int p3), .val (.long q1), .second, .val (.int (Int32.ofNat A)), .val (.int (p3.toInt8.toInt32)), .val (.ref b1), .val (.int (Int32.ofNat (A + K + 1))), .val (.int (9 : Int32)), .unset]) rfl (pc' := 234) rfl ?_
                    rw [show min 8 K = 8 by omega] at J234
                    exact J234
                refine o_lload Y hx (hb hby at_206) rfl (pc' := 208) rfl ?_
                refine o_bipush Y hx (hb hby at_208) (v := 49) rfl (pc' := 210) rfl ?_
                refine o_lushr Y hx (hb hby at_210) (pc' := 211) rfl ?_
                refine o_lconst Y hx (hb hby at_211) (v := 0) rfl (pc' := 212) rfl ?_
                refine o_lcmp Y hx (hb hby at_212) (pc' := 213) rfl ?_
                refine o_if_eq Y hx (hb hby at_213) (pc' := 220) (pn := 216) (by decide) rfl (fun hc => ?_) (fun hc => ?_)
                · rw [own_sz q1 _ 6 K (by decide) (by decide) hK] at hc
                  rw [show min 6 K = min 7 K by omega]
                  exact J220
                · rw [own_sz q1 _ 6 K (by decide) (by decide) hK] at hc
                  refine o_bipush Y hx (hb hby at_216) (v := 8) rfl (pc' := 218) rfl ?_
                  refine o_istore Y hx (hb hby at_218) (Ls' := #[.val (.long q0), .second, .val (.int p1), .val (.int p2), .val (.int p3), .val (.long q1), .second, .val (.int (Int32.ofNat A)), .val (.int (p3.toInt8.toInt32)), .val (.ref b1), .val (.int (Int32.ofNat (A + K + 1))), .val (.int (8 : Int32)), .unset]) rfl (pc' := 220) rfl ?_
                  rw [show min 7 K = 7 by omega] at J220
                  exact J220
              refine o_lload Y hx (hb hby at_192) rfl (pc' := 194) rfl ?_
              refine o_bipush Y hx (hb hby at_194) (v := 42) rfl (pc' := 196) rfl ?_
              refine o_lushr Y hx (hb hby at_196) (pc' := 197) rfl ?_
              refine o_lconst Y hx (hb hby at_197) (v := 0) rfl (pc' := 198) rfl ?_
              refine o_lcmp Y hx (hb hby at_198) (pc' := 199) rfl ?_
              refine o_if_eq Y hx (hb hby at_199) (pc' := 206) (pn := 202) (by decide) rfl (fun hc => ?_) (fun hc => ?_)
              · rw [own_sz q1 _ 5 K (by decide) (by decide) hK] at hc
                rw [show min 5 K = min 6 K by omega]
                exact J206
              · rw [own_sz q1 _ 5 K (by decide) (by decide) hK] at hc
                refine o_bipush Y hx (hb hby at_202) (v := 7) rfl (pc' := 204) rfl ?_
                refine o_istore Y hx (hb hby at_204) (Ls' := #[.val (.long q0), .second, .val (.int p1), .val (.int p2), .val (.int p3), .val (.long q1), .second, .val (.int (Int32.ofNat A)), .val (.int (p3.toInt8.toInt32)), .val (.ref b1), .val (.int (Int32.ofNat (A + K + 1))), .val (.int (7 : Int32)), .unset]) rfl (pc' := 206) rfl ?_
                rw [show min 6 K = 6 by omega] at J206
                exact J206
            refine o_lload Y hx (hb hby at_178) rfl (pc' := 180) rfl ?_
            refine o_bipush Y hx (hb hby at_180) (v := 35) rfl (pc' := 182) rfl ?_
            refine o_lushr Y hx (hb hby at_182) (pc' := 183) rfl ?_
            refine o_lconst Y hx (hb hby at_183) (v := 0) rfl (pc' := 184) rfl ?_
            refine o_lcmp Y hx (hb hby at_184) (pc' := 185) rfl ?_
            refine o_if_eq Y hx (hb hby at_185) (pc' := 192) (pn := 188) (by decide) rfl (fun hc => ?_) (fun hc => ?_)
            · rw [own_sz q1 _ 4 K (by decide) (by decide) hK] at hc
              rw [show min 4 K = min 5 K by omega]
              exact J192
            · rw [own_sz q1 _ 4 K (by decide) (by decide) hK] at hc
              refine o_bipush Y hx (hb hby at_188) (v := 6) rfl (pc' := 190) rfl ?_
              refine o_istore Y hx (hb hby at_190) (Ls' := #[.val (.long q0), .second, .val (.int p1), .val (.int p2), .val (.int p3), .val (.long q1), .second, .val (.int (Int32.ofNat A)), .val (.int (p3.toInt8.toInt32)), .val (.ref b1), .val (.int (Int32.ofNat (A + K + 1))), .val (.int (6 : Int32)), .unset]) rfl (pc' := 192) rfl ?_
              rw [show min 5 K = 5 by omega] at J192
              exact J192
          refine o_lload Y hx (hb hby at_165) rfl (pc' := 167) rfl ?_
          refine o_bipush Y hx (hb hby at_167) (v := 28) rfl (pc' := 169) rfl ?_
          refine o_lushr Y hx (hb hby at_169) (pc' := 170) rfl ?_
          refine o_lconst Y hx (hb hby at_170) (v := 0) rfl (pc' := 171) rfl ?_
          refine o_lcmp Y hx (hb hby at_171) (pc' := 172) rfl ?_
          refine o_if_eq Y hx (hb hby at_172) (pc' := 178) (pn := 175) (by decide) rfl (fun hc => ?_) (fun hc => ?_)
          · rw [own_sz q1 _ 3 K (by decide) (by decide) hK] at hc
            rw [show min 3 K = min 4 K by omega]
            exact J178
          · rw [own_sz q1 _ 3 K (by decide) (by decide) hK] at hc
            refine o_iconst Y hx (hb hby at_175) (v := 5) rfl (pc' := 176) rfl ?_
            refine o_istore Y hx (hb hby at_176) (Ls' := #[.val (.long q0), .second, .val (.int p1), .val (.int p2), .val (.int p3), .val (.long q1), .second, .val (.int (Int32.ofNat A)), .val (.int (p3.toInt8.toInt32)), .val (.ref b1), .val (.int (Int32.ofNat (A + K + 1))), .val (.int (5 : Int32)), .unset]) rfl (pc' := 178) rfl ?_
            rw [show min 4 K = 4 by omega] at J178
            exact J178
        refine o_lload Y hx (hb hby at_152) rfl (pc' := 154) rfl ?_
        refine o_bipush Y hx (hb hby at_154) (v := 21) rfl (pc' := 156) rfl ?_
        refine o_lushr Y hx (hb hby at_156) (pc' := 157) rfl ?_
        refine o_lconst Y hx (hb hby at_157) (v := 0) rfl (pc' := 158) rfl ?_
        refine o_lcmp Y hx (hb hby at_158) (pc' := 159) rfl ?_
        refine o_if_eq Y hx (hb hby at_159) (pc' := 165) (pn := 162) (by decide) rfl (fun hc => ?_) (fun hc => ?_)
        · rw [own_sz q1 _ 2 K (by decide) (by decide) hK] at hc
          rw [show min 2 K = min 3 K by omega]
          exact J165
        · rw [own_sz q1 _ 2 K (by decide) (by decide) hK] at hc
          refine o_iconst Y hx (hb hby at_162) (v := 4) rfl (pc' := 163) rfl ?_
          refine o_istore Y hx (hb hby at_163) (Ls' := #[.val (.long q0), .second, .val (.int p1), .val (.int p2), .val (.int p3), .val (.long q1), .second, .val (.int (Int32.ofNat A)), .val (.int (p3.toInt8.toInt32)), .val (.ref b1), .val (.int (Int32.ofNat (A + K + 1))), .val (.int (4 : Int32)), .unset]) rfl (pc' := 165) rfl ?_
          rw [show min 3 K = 3 by omega] at J165
          exact J165
      refine o_lload Y hx (hb hby at_139) rfl (pc' := 141) rfl ?_
      refine o_bipush Y hx (hb hby at_141) (v := 14) rfl (pc' := 143) rfl ?_
      refine o_lushr Y hx (hb hby at_143) (pc' := 144) rfl ?_
      refine o_lconst Y hx (hb hby at_144) (v := 0) rfl (pc' := 145) rfl ?_
      refine o_lcmp Y hx (hb hby at_145) (pc' := 146) rfl ?_
      refine o_if_eq Y hx (hb hby at_146) (pc' := 152) (pn := 149) (by decide) rfl (fun hc => ?_) (fun hc => ?_)
      · rw [own_sz q1 _ 1 K (by decide) (by decide) hK] at hc
        rw [show min 1 K = min 2 K by omega]
        exact J152
      · rw [own_sz q1 _ 1 K (by decide) (by decide) hK] at hc
        refine o_iconst Y hx (hb hby at_149) (v := 3) rfl (pc' := 150) rfl ?_
        refine o_istore Y hx (hb hby at_150) (Ls' := #[.val (.long q0), .second, .val (.int p1), .val (.int p2), .val (.int p3), .val (.long q1), .second, .val (.int (Int32.ofNat A)), .val (.int (p3.toInt8.toInt32)), .val (.ref b1), .val (.int (Int32.ofNat (A + K + 1))), .val (.int (3 : Int32)), .unset]) rfl (pc' := 152) rfl ?_
        rw [show min 2 K = 2 by omega] at J152
        exact J152
    refine o_lload Y hx (hb hby at_126) rfl (pc' := 128) rfl ?_
    refine o_bipush Y hx (hb hby at_128) (v := 7) rfl (pc' := 130) rfl ?_
    refine o_lushr Y hx (hb hby at_130) (pc' := 131) rfl ?_
    refine o_lconst Y hx (hb hby at_131) (v := 0) rfl (pc' := 132) rfl ?_
    refine o_lcmp Y hx (hb hby at_132) (pc' := 133) rfl ?_
    refine o_if_eq Y hx (hb hby at_133) (pc' := 139) (pn := 136) (by decide) rfl (fun hc => ?_) (fun hc => ?_)
    · rw [own_sz q1 _ 0 K (by decide) (by decide) hK] at hc
      rw [show min 0 K = min 1 K by omega]
      exact J139
    · rw [own_sz q1 _ 0 K (by decide) (by decide) hK] at hc
      refine o_iconst Y hx (hb hby at_136) (v := 2) rfl (pc' := 137) rfl ?_
      refine o_istore Y hx (hb hby at_137) (Ls' := #[.val (.long q0), .second, .val (.int p1), .val (.int p2), .val (.int p3), .val (.long q1), .second, .val (.int (Int32.ofNat A)), .val (.int (p3.toInt8.toInt32)), .val (.ref b1), .val (.int (Int32.ofNat (A + K + 1))), .val (.int (2 : Int32)), .unset]) rfl (pc' := 139) rfl ?_
      rw [show min 1 K = 1 by omega] at J139
      exact J139
  rw [show Int32.ofNat (min 0 K + 1) = (1 : Int32) from by rw [Nat.zero_min]; rfl] at J126
  exact J126
set_option maxRecDepth 65536 in
set_option maxHeartbeats 40000000 in
theorem own_comes {Post : Tables → Env → Array Value → State → Outcome → State → Prop} (hpost : ∀ tb e args s v u, (limb_1_1.after args s (.returned v) u = true ∧ limb_1_2.after args s (.returned v) u = true) → FrameEnd s (.returned v) u (Jvm.fieldLocs frame_1_writes args s ++ Jvm.arrayLocs frame_1_arrays args s ++ Jvm.staticLocs frame_1_statics s) 16 128 → Post tb e args s (.returned v) u) :
    ArmFor flags0 classFile x code maxLocals ret World_1 tables_1 room_1 Calls_1 rest_1 Pre_1 Post := by
  intro l hfl _ _ p e ha hc hk s m args below hf hA hF happ hP
  obtain ⟨hcalls, hrest, hpre⟩ := hP
  obtain ⟨-, -, -, hnamed, -, -, -, hat⟩ := (Spec.applies_iff hf).mp happ
  obtain ⟨hg, hn⟩ := and_e (Cond.before_iff.mp (show (Jvm.Cond.and given_1 narrow_1).before args s = true from hpre))
  obtain ⟨gc, gr0⟩ := and_e hg
  obtain ⟨g0, gr1⟩ := and_e gr0
  obtain ⟨g1, gr2⟩ := and_e gr1
  obtain ⟨g2, g3⟩ := and_e gr2
  obtain ⟨w0, w1, w2, w3, rfl⟩ : ∃ w0 w1 w2 w3 : Value, args = #[w0, w1, w2, w3] := by
    have hs : args.size = 4 := by simpa [Cond.value, given_1] using gc
    obtain ⟨L⟩ := args
    match L, hs with
    | [w0, w1, w2, w3], _ => exact ⟨w0, w1, w2, w3, rfl⟩
  have hw := fun d (hd : d ∈ tables_1) => atoms_spec (ws := Jvm.Cond.code x code maxLocals ret :: tables_1) hat d (List.mem_cons_of_mem _ hd)
  obtain ⟨i0, ei0⟩ := isL_v g0
  obtain rfl : w0 = (.long i0) := Option.some.inj ei0
  obtain ⟨i1, ei1⟩ := is_v g1
  obtain rfl : w1 = (.int i1) := Option.some.inj ei1
  obtain ⟨i2, ei2⟩ := is_v g2
  obtain rfl : w2 = (.int i2) := Option.some.inj ei2
  obtain ⟨i3, ei3⟩ := is_v g3
  obtain rfl : w3 = (.int i3) := Option.some.inj ei3
  obtain ⟨n, o, h1, h2, h3, _, L, rfl, ⟨rfl, N⟩, hq⟩ := own_rm0 l s _ hw tables_1 i0 i1 i2 i3 s.heap  p e ha hc hk s m _ below hf ((Spec.applies_iff_loose hf).mp happ).1 ⟨rfl, State.Warmed39.refl s, rfl⟩ trivial
  exact ⟨n, _, h1, h2, h3, hpost _ _ _ _ _ _ ⟨Cond.after_iff.mpr rfl, Cond.after_iff.mpr (eq_i res_at (Term.int_eval (1)) rfl)⟩ ⟨hq.1, hq.2.1, (hq.2.2.sift fun y hy => Or.inr (N y hy)).mono (by decide) (by decide)⟩⟩
theorem main_1_1 : Claimed_1_1 := own_comes fun _ _ _ _ _ _ h hF => ⟨h.1, hF⟩
theorem main_1_2 : Claimed_1_2 := own_comes fun _ _ _ _ _ _ h hF => ⟨h.2, hF⟩
end Jvm.Pilot.@@N@@
namespace Jvm.Pilot.@@N@@
open Jvm Jvm.ClassFile Sem Op Lib Jvm.Free Jvm.Stand Jvm.Pilot.@@N@@.Jvm.D
/-! MADE BY PROGRAM (witnessworld.py) out of the Statement's table words and the real class files: 9 classes; the members and pool entries that the words name. The judged class is class 1, her method 1. -/
namespace start1
open Jvm.ClassFile
def u (s : String) : CpInfo := .utf8 (stringToUtf16 s)
/-- a pool by its gaps: so many unusable entries, then the entry; so many at the end -/
def gap : Nat → List CpInfo → List CpInfo
  | 0, r => r
  | n + 1, r => .unusable :: gap n r
def poolList (es : List (Nat × CpInfo)) (last : Nat) : List CpInfo := es.foldr (fun e r => gap e.1 (e.2 :: r)) (gap last [])
def pool (es : List (Nat × CpInfo)) (last : Nat) : Array CpInfo := ⟨poolList es last⟩
def fileOf (pool : Array CpInfo) (this : Nat) (attrs : Array Attribute := #[]) (ms : Array MethodInfo := #[]) (fl : Nat := 33) (sup : Nat := 0) (ifs : Array Nat := #[]) (fds : Array FieldInfo := #[]) : ClassFile where
  minorVersion := 0
  majorVersion := 65
  constantPool := pool
  accessFlags := fl
  thisClass := this
  superClass := sup
  interfaces := ifs
  fields := fds
  methods := ms
  attributes := attrs
def plain (name : String) (sup : Option ClassId) : Class where
  name := name
  kind := .ordinary
  loader := none
  accessFlags := 33
  super := sup
  interfaces := #[]
  cf := none
  fields := #[]
  methods := #[]
  instanceTypes := #[]
  staticTypes := #[]
  resolved := #[]
  callSites := []
  init := .initialized
  statics := none
  mirror := none

def pool0 : Array CpInfo := pool [(5, u "<init>"), (0, u "()V"), (1, .class_ 10), (1, u "java/lang/Object")] 113

def k0m0 : Method := { name := "<init>", desc := "()V", sig := { parameters := [], returnType := none }, accessFlags := 1, code := none }
/-- java/lang/Object -/
def k0 : Class := { plain "java/lang/Object" none with
  accessFlags := 33
  interfaces := #[]
  cf := some (fileOf pool0 8 #[] #[{ accessFlags := 1, nameIndex := 5, descriptorIndex := 6, attributes := #[] }] 33 0 #[] #[])
  fields := #[]
  methods := #[k0m0]
  instanceTypes := #[]
  staticTypes := #[]
  resolved := Array.replicate 124 none
  statics := none }

def pool1 : Array CpInfo := pool [(2, .class_ 4), (1, u "java/lang/Object"), (0, u "<init>"), (0, u "()V"), (0, .integer 2147483647), (0, .methodref 9 10), (0, .class_ 11), (0, .nameAndType 12 13), (0, u "com/example/wire_grammar/wiregrammar/model/WireOutput"), (0, u "putVarint"), (0, u "([BIJ)I"), (0, .methodref 15 16), (0, .class_ 17), (0, .nameAndType 18 19), (0, u "com/example/wire_grammar/wiregrammar/model/WireOutputPutVarintPinLaw"), (0, u "cell"), (0, u "([BIIJB)Z"), (0, .long 127), (3, u "law"), (0, u "(JIII)Z")] 5

def k1m0 : Method := { name := "<init>", desc := "()V", sig := { parameters := [], returnType := none }, accessFlags := 1, code := none }
def k1c1 : Code := { maxStack := 6, maxLocals := 13, code := code, exceptionTable := #[], attributes := #[] }
def k1m1 : Method := { name := "law", desc := "(JIII)Z", sig := { parameters := [.long, .int, .int, .int], returnType := some .boolean }, accessFlags := 9, code := some k1c1 }
def k1c2 : Code := { maxStack := 5, maxLocals := 10, code := method_3_code, exceptionTable := #[], attributes := #[] }
def k1m2 : Method := { name := "cell", desc := "([BIIJB)Z", sig := { parameters := [(.array .byte), .int, .int, .long, .byte], returnType := some .boolean }, accessFlags := 10, code := some k1c2 }
/-- com/example/wire_grammar/wiregrammar/model/WireOutputPutVarintPinLaw -/
def k1 : Class := { plain "com/example/wire_grammar/wiregrammar/model/WireOutputPutVarintPinLaw" (some 0) with
  accessFlags := 49
  interfaces := #[]
  cf := some (fileOf pool1 15 #[] #[{ accessFlags := 1, nameIndex := 5, descriptorIndex := 6, attributes := #[] }, { accessFlags := 9, nameIndex := 24, descriptorIndex := 25, attributes := #[] }, { accessFlags := 10, nameIndex := 18, descriptorIndex := 19, attributes := #[] }] 49 2 #[] #[])
  fields := #[]
  methods := #[k1m0, k1m1, k1m2]
  instanceTypes := #[]
  staticTypes := #[]
  resolved := Array.replicate 31 none
  statics := none }

def pool2 : Array CpInfo := pool [(2, .class_ 4), (1, u "java/lang/Object"), (0, u "<init>"), (0, u "()V"), (13, .class_ 22), (1, u "com/example/wire_grammar/wiregrammar/model/WireOutput"), (18, .long 18446744073709551488), (1, .long 127), (1, .long 128), (3, u "MAX_VARINT_BYTES"), (0, u "I"), (13, u "putVarint"), (0, u "([BIJ)I"), (5, .class_ 72), (0, u "com/example/wire_grammar/wiregrammar/model/WireOutput$Content")] 16

def k2m0 : Method := { name := "<init>", desc := "()V", sig := { parameters := [], returnType := none }, accessFlags := 0, code := none }
def k2c1 : Code := { maxStack := 6, maxLocals := 7, code := prog_166_method_9_code, exceptionTable := #[], attributes := #[] }
def k2m1 : Method := { name := "putVarint", desc := "([BIJ)I", sig := { parameters := [(.array .byte), .int, .long], returnType := some .int }, accessFlags := 8, code := some k2c1 }
/-- com/example/wire_grammar/wiregrammar/model/WireOutput -/
def k2 : Class := { plain "com/example/wire_grammar/wiregrammar/model/WireOutput" (some 0) with
  accessFlags := 1056
  interfaces := #[]
  cf := some (fileOf pool2 20 #[.nestMembers #[71]] #[{ accessFlags := 0, nameIndex := 5, descriptorIndex := 6, attributes := #[] }, { accessFlags := 8, nameIndex := 64, descriptorIndex := 65, attributes := #[] }] 1056 2 #[] #[{ accessFlags := 24, nameIndex := 49, descriptorIndex := 50, attributes := #[] }])
  fields := #[{ name := "MAX_VARINT_BYTES", type := .int, accessFlags := 24, slot := 0, constantValue := 0 }]
  methods := #[k2m0, k2m1]
  instanceTypes := #[]
  staticTypes := #[.int]
  resolved := Array.replicate 89 none
  statics := none }

def pool3 : Array CpInfo := pool [(1, u "java/lang/Cloneable"), (0, .class_ 1), (0, u "java/lang/Object"), (0, .class_ 3)] 3

/-- java/lang/Cloneable -/
def k3 : Class := { plain "java/lang/Cloneable" (some 0) with
  accessFlags := 1537
  interfaces := #[]
  cf := some (fileOf pool3 2 #[] #[] 1537 4 #[] #[])
  fields := #[]
  methods := #[]
  instanceTypes := #[]
  staticTypes := #[]
  resolved := Array.replicate 8 none
  statics := none }

def pool4 : Array CpInfo := pool [(1, u "java/io/Serializable"), (0, .class_ 1), (0, u "java/lang/Object"), (0, .class_ 3)] 3

/-- java/io/Serializable -/
def k4 : Class := { plain "java/io/Serializable" (some 0) with
  accessFlags := 1537
  interfaces := #[]
  cf := some (fileOf pool4 2 #[] #[] 1537 4 #[] #[])
  fields := #[]
  methods := #[]
  instanceTypes := #[]
  staticTypes := #[]
  resolved := Array.replicate 8 none
  statics := none }

/-- the primitive byte -/
def k5 : Class := { plain "byte" none with kind := .primitive 'B', accessFlags := 0x411 }
/-- [B -/
def k6 : Class := { plain "[B" (some 0) with kind := .array 5 .byte, interfaces := #[3, 4], accessFlags := 1041 }

/-- the primitive int -/
def k7 : Class := { plain "int" none with kind := .primitive 'I', accessFlags := 0x411 }
/-- [I -/
def k8 : Class := { plain "[I" (some 0) with kind := .array 7 .int, interfaces := #[3, 4], accessFlags := 1041 }

def heap : Heap := #[]
def classes : Array Class := #[k0, k1, k2, k3, k4, k5, k6, k7, k8]
def interned : List (Array UInt16 × Addr) := []
def slotsUsed : Nat := 0
def theMethod : MethodId := ⟨1, 1⟩
def args0 : Array Value := #[.long 777, .int 1, .int 1, .int 5]
def aboutOver (below : List Frame) : State where
  vm := { classes := classes, interned := interned.toArray }
  heap := heap
  slotsUsed := slotsUsed
  threads := #[{ frames := .invoking theMethod args0 :: below }]
def below0 : List Frame := [.native { method := ⟨0, 0⟩, args := #[] }]
def about1 : State := aboutOver below0
def p0 : Program := .bare "" "" ""
def e0 : Env := launch0.env 0 0 0
theorem w_frames : about1.frames = Frame.invoking theMethod args0 :: below0 := rfl
set_option maxRecDepth 65536 in
theorem w_args : argsFit about1.vm theMethod args0 = true := by decide +kernel
set_option maxRecDepth 65536 in
theorem w_heap : heapFits about1 = true := by decide +kernel
set_option maxRecDepth 65536 in
theorem w_runnable : about1.curStatus? = some .runnable := by decide +kernel
set_option maxRecDepth 65536 in
theorem w_alone : about1.alone = true := by decide +kernel
set_option maxRecDepth 65536 in
theorem w_named : about1.methodNamed? x = some theMethod := by decide +kernel
set_option maxRecDepth 65536 in
theorem w_hears : about1.hears theMethod below0 = true := by decide +kernel
set_option maxRecDepth 65536 in
theorem w_ripe : about1.ripe theMethod args0 below0 = true := by decide +kernel
theorem w_running : about1.status = .running := rfl
set_option maxRecDepth 65536 in
theorem w_room : about1.hasRoom e0.platform room_1 = true :=
  launch0.hasRoom_least _ room_1 (by decide +kernel) (by decide +kernel) (by decide +kernel) (by decide +kernel) (by decide +kernel) (by decide +kernel)
theorem allAtoms_all (ts : List Jvm.Cond) (a : Array Jvm.Value) (st : Jvm.State) : (allAtoms ts).before a st = ts.all (fun c => c.before a st) := by
  induction ts with
  | nil => rfl
  | cons c t ih =>
    show (Jvm.Cond.and c (allAtoms t)).before a st = _
    rw [Jvm.Cond.before_and, ih, List.all_cons]
def words1 : List Jvm.Cond := Jvm.Cond.code x code maxLocals ret :: tables_1
/-- a 'code' word, met by the world's own term for the bytes: nothing is compared byte by byte -/
theorem code_word {y : MethodName} {bytes : ByteArray} {mx : Nat} {rt : Option FieldType} {a : Array Value} {s : State} {m : MethodId} {meth : Method} {c : Code} (h1 : s.methodNamed? y = some m) (h2 : s.vm.method? m = some meth) (h3 : meth.code = some c) (h4 : c.code = bytes)
    (h5 : (c.maxLocals == mx && c.exceptionTable.isEmpty && decide (c.maxStack ≤ mostOperands) && decide (meth.sig.returnType = rt) && !meth.locks && decide (parseMethodDescriptor y.desc = some meth.sig)) = true) : (Jvm.Cond.code y bytes mx rt).before a s = true := by
  simp only [Bool.and_eq_true, beq_iff_eq, Bool.not_eq_true', decide_eq_true_eq] at h5
  obtain ⟨⟨⟨⟨⟨g1, g2⟩, g3⟩, g4⟩, g5⟩, g6⟩ := h5
  simp [Cond.before, Cond.holds, Cond.value, h1, h2, h3, h4, g1, g2, g3, g4, g5, g6]
def isCode : Jvm.Cond → Bool
  | .code _ _ _ _ => true
  | _ => false
theorem all_split {L : List Jvm.Cond} {P : Jvm.Cond → Bool} (h1 : L.all (fun c => isCode c || P c) = true) (h2 : ∀ c ∈ L.filter isCode, P c = true) : L.all P = true := by
  refine List.all_eq_true.mpr fun c hc => ?_
  have h := List.all_eq_true.mp h1 c hc
  rcases Bool.eq_false_or_eq_true (isCode c) with hi | hi
  · exact h2 c (List.mem_filter.mpr ⟨hc, hi⟩)
  · simpa [hi] using h
set_option maxRecDepth 65536 in
theorem w_c0 : (Jvm.Cond.code x code maxLocals ret).before args0 about1 = true := code_word (m := ⟨1, 1⟩) (meth := k1m1) (c := k1c1) (by decide +kernel) rfl rfl rfl (by decide +kernel)
set_option maxRecDepth 65536 in
theorem w_c1 : (Jvm.Cond.code ({ cls := "com/example/wire_grammar/wiregrammar/model/WireOutput", name := "putVarint", desc := "([BIJ)I" } : Jvm.MethodName) prog_166_method_9_code (7 : Nat) (Option.some Jvm.ClassFile.FieldType.int)).before args0 about1 = true := code_word (m := ⟨2, 1⟩) (meth := k2m1) (c := k2c1) (by decide +kernel) rfl rfl rfl (by decide +kernel)
set_option maxRecDepth 65536 in
theorem w_c2 : (Jvm.Cond.code ({ cls := "com/example/wire_grammar/wiregrammar/model/WireOutputPutVarintPinLaw", name := "cell", desc := "([BIIJB)Z" } : Jvm.MethodName) method_3_code (10 : Nat) (Option.some Jvm.ClassFile.FieldType.boolean)).before args0 about1 = true := code_word (m := ⟨1, 2⟩) (meth := k1m2) (c := k1c2) (by decide +kernel) rfl rfl rfl (by decide +kernel)
def codes1 : List Jvm.Cond := [Jvm.Cond.code x code maxLocals ret, Jvm.Cond.code ({ cls := "com/example/wire_grammar/wiregrammar/model/WireOutput", name := "putVarint", desc := "([BIJ)I" } : Jvm.MethodName) prog_166_method_9_code (7 : Nat) (Option.some Jvm.ClassFile.FieldType.int), Jvm.Cond.code ({ cls := "com/example/wire_grammar/wiregrammar/model/WireOutputPutVarintPinLaw", name := "cell", desc := "([BIIJB)Z" } : Jvm.MethodName) method_3_code (10 : Nat) (Option.some Jvm.ClassFile.FieldType.boolean)]
set_option maxRecDepth 65536 in
theorem codes_eq : words1.filter isCode = codes1 := rfl
theorem w_codes : ∀ c ∈ words1.filter isCode, c.before args0 about1 = true := by
  rw [codes_eq]
  intro c hc
  simp only [codes1, List.mem_cons, List.not_mem_nil, or_false] at hc
  rcases hc with rfl | rfl | rfl
  · exact w_c0
  · exact w_c1
  · exact w_c2
set_option maxRecDepth 65536 in
theorem w_t1 : words1.all (fun c => isCode c || c.before args0 about1) = true := by decide +kernel
theorem w_tables : (allAtoms (Jvm.Cond.code x code maxLocals ret :: tables_1)).before args0 about1 = true := by
  rw [allAtoms_all]
  show words1.all (fun c => c.before args0 about1) = true
  refine all_split ?_ w_codes
  rw [w_t1]
set_option maxRecDepth 65536 in
theorem w_case : (Jvm.Cond.and given_1 narrow_1).before args0 about1 = true := by decide +kernel
theorem w_applies : (headSpec (Jvm.Cond.code x code maxLocals ret :: tables_1) room_1).applies x e0.platform about1 = true :=
  (Spec.applies_iff w_frames).mpr ⟨w_running, w_runnable, w_alone, w_named, w_hears, w_ripe, w_room, w_tables⟩
theorem atStart : AtStart classFile x code maxLocals ret World_1 tables_1 room_1 Calls_1 rest_1 Pre_1 launch0 p0 e0 about1 theMethod args0 below0 :=
  ⟨lists_1, trivial, launch0.admits_env _ _ _, launch0.least_env, fairChoices_fair.cas, fairChoices_fair.clock, w_frames, w_args, w_heap, w_applies, trivial, trivial, w_case⟩
end start1
theorem witness_1 : WitnessClaimed_1 := ⟨start1.p0, start1.e0, start1.about1, start1.theMethod, start1.args0, start1.below0, start1.atStart⟩
end Jvm.Pilot.@@N@@
