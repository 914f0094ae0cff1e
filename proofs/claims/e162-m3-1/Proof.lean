import JvmDerived
import JvmDerived.Pilot.@@N@@Statement
import JvmDerived.Pilot.@@N@@Code
set_option linter.unusedVariables false
set_option linter.unusedSimpArgs false
@@BLOCK:NumsL.lean.txt@@
namespace Jvm.Pilot.@@N@@
open Jvm Jvm.ClassFile Sem Op Lib Jvm.Free Jvm.Stand Jvm.LawKit Jvm.RoadKit Bundle Jvm.Pilot.@@N@@.Jvm.D
def own_Out (p : Program) (e : Env) (below : List Frame) (P : Outcome → State → Prop) (T : State) (g : JFrame) : Prop :=
  ∃ s₂ o, Steps p.tables e below (T.setTop g) s₂ ∧ s₂.status = .running ∧ Ended s₂ below o ∧ P o s₂
abbrev own_P (s : State) (Q : Option Value → Heap → List Loc → Prop) (k n : Nat) : Outcome → State → Prop := fun o U' => ∃ v L, o = .returned v ∧ Q v U'.heap L ∧ FrameEnd s o U' L k n
/-- the value r comes back, nothing is written -/
def own_Pure (r : Value) (h0 : Heap) (v : Option Value) (h : Heap) (L : List Loc) : Prop := v = some r ∧ L = [] ∧ h = h0
def own_b (q : Prop) [Decidable q] : Int32 := if q then 1 else 0
theorem own_bt {q : Prop} [Decidable q] (h : q) : own_b q = 1 := if_pos h
theorem own_bf {q : Prop} [Decidable q] (h : ¬ q) : own_b q = 0 := if_neg h
theorem own_b01 {q : Prop} [Decidable q] : own_b q = 1 ∨ own_b q = 0 := by by_cases h : q <;> simp [own_b, h]
section OwnKit
variable {p : Program} {l : Launch} {e : Env} {R : Room} {s : State} {m : MethodId} {args : Array Value} {below : List Frame} {meth : Method} {c : Code} {T T' : State} {locs : List Loc} {cells slots : Nat} {P : Outcome → State → Prop} {pc pc' : Nat} {Ls Ls' : Array Slot} {S : List Value} {g g' : JFrame} {Z : State} {a0 : Array Value} {h : Heap} {Q : Option Value → Heap → List Loc → Prop} {kc kn : Nat}
theorem own_by (st : ∀ t, Steps p.tables e below (T'.setTop g') t → Steps p.tables e below (T.setTop g) t) (h : own_Out p e below P T' g') : own_Out p e below P T g := by
  obtain ⟨s₂, o, h1, h2⟩ := h
  exact ⟨s₂, o, st _ h1, h2⟩
theorem own_go (st : Steps p.tables e below (T.setTop g) (T'.setTop g')) (h : own_Out p e below P T' g') : own_Out p e below P T g := by
  obtain ⟨s₂, o, h1, h2⟩ := h
  exact ⟨s₂, o, st.trans h1, h2⟩
theorem o_aloadN (X : Stand p l e R s m args below meth c T locs cells slots) (hx : p.tables.exec = Jvm.exec) {k' : Fin 4} {v : Value} (hd : decode c.code pc = .ok (.aload_n k', 1)) (hl : Ls[k'.val]? = some (.val v)) (hv : v.isRef = true) (hp : pc + 1 = pc')
    (k : own_Out p e below P T (mkF m pc' Ls (v :: S))) : own_Out p e below P T (mkF m pc Ls (S)) := by
  subst hp
  exact own_by (fun _ => XS.aloadN X.here hx rfl hd hl hv) k
theorem o_aload (X : Stand p l e R s m args below meth c T locs cells slots) (hx : p.tables.exec = Jvm.exec) {k' : Nat} {v : Value} (hd : decode c.code pc = .ok (.aload k', 2)) (hl : Ls[k']? = some (.val v)) (hv : v.isRef = true) (hp : pc + 2 = pc')
    (k : own_Out p e below P T (mkF m pc' Ls (v :: S))) : own_Out p e below P T (mkF m pc Ls (S)) := by
  subst hp
  exact own_by (fun _ => XS.aload X.here hx rfl hd hl hv) k
theorem o_iloadN (X : Stand p l e R s m args below meth c T locs cells slots) (hx : p.tables.exec = Jvm.exec) {k' : Fin 4} {v : Int32} (hd : decode c.code pc = .ok (.iload_n k', 1)) (hl : Ls[k'.val]? = some (.val (.int v))) (hp : pc + 1 = pc')
    (k : own_Out p e below P T (mkF m pc' Ls (.int v :: S))) : own_Out p e below P T (mkF m pc Ls (S)) := by
  subst hp
  exact own_by (fun _ => XS.iloadN X.here hx rfl hd hl) k
theorem o_iload (X : Stand p l e R s m args below meth c T locs cells slots) (hx : p.tables.exec = Jvm.exec) {k' : Nat} {v : Int32} (hd : decode c.code pc = .ok (.iload k', 2)) (hl : Ls[k']? = some (.val (.int v))) (hp : pc + 2 = pc')
    (k : own_Out p e below P T (mkF m pc' Ls (.int v :: S))) : own_Out p e below P T (mkF m pc Ls (S)) := by
  subst hp
  exact own_by (fun _ => XS.iload X.here hx rfl hd hl) k
theorem o_lloadN (X : Stand p l e R s m args below meth c T locs cells slots) (hx : p.tables.exec = Jvm.exec) {k' : Fin 4} {v : Int64} (hd : decode c.code pc = .ok (.lload_n k', 1)) (hl : Ls[k'.val]? = some (.val (.long v))) (hp : pc + 1 = pc')
    (k : own_Out p e below P T (mkF m pc' Ls (.long v :: S))) : own_Out p e below P T (mkF m pc Ls (S)) := by
  subst hp
  exact own_by (fun _ => XS.lloadN X.here hx rfl hd hl) k
theorem o_lload (X : Stand p l e R s m args below meth c T locs cells slots) (hx : p.tables.exec = Jvm.exec) {k' : Nat} {v : Int64} (hd : decode c.code pc = .ok (.lload k', 2)) (hl : Ls[k']? = some (.val (.long v))) (hp : pc + 2 = pc')
    (k : own_Out p e below P T (mkF m pc' Ls (.long v :: S))) : own_Out p e below P T (mkF m pc Ls (S)) := by
  subst hp
  exact own_by (fun _ => XS.lload X.here hx rfl hd hl) k
theorem o_istoreN (X : Stand p l e R s m args below meth c T locs cells slots) (hx : p.tables.exec = Jvm.exec) {k' : Fin 4} {x : Int32} (hd : decode c.code pc = .ok (.istore_n k', 1)) (hl : storeLocals Ls k'.val (.int x) = some Ls') (hp : pc + 1 = pc')
    (k : own_Out p e below P T (mkF m pc' Ls' (S))) : own_Out p e below P T (mkF m pc Ls (.int x :: S)) := by
  subst hp
  exact own_by (fun _ => XS.istoreN X.here hx rfl hd rfl hl) k
theorem o_istore (X : Stand p l e R s m args below meth c T locs cells slots) (hx : p.tables.exec = Jvm.exec) {k' : Nat} {x : Int32} (hd : decode c.code pc = .ok (.istore k', 2)) (hl : storeLocals Ls k' (.int x) = some Ls') (hp : pc + 2 = pc')
    (k : own_Out p e below P T (mkF m pc' Ls' (S))) : own_Out p e below P T (mkF m pc Ls (.int x :: S)) := by
  subst hp
  exact own_by (fun _ => XS.istore X.here hx rfl hd rfl hl) k
theorem o_lstoreN (X : Stand p l e R s m args below meth c T locs cells slots) (hx : p.tables.exec = Jvm.exec) {k' : Fin 4} {x : Int64} (hd : decode c.code pc = .ok (.lstore_n k', 1)) (hl : storeLocals Ls k'.val (.long x) = some Ls') (hp : pc + 1 = pc')
    (k : own_Out p e below P T (mkF m pc' Ls' (S))) : own_Out p e below P T (mkF m pc Ls (.long x :: S)) := by
  subst hp
  exact own_by (fun _ => XS.lstoreN X.here hx rfl hd rfl hl) k
theorem o_lstore (X : Stand p l e R s m args below meth c T locs cells slots) (hx : p.tables.exec = Jvm.exec) {k' : Nat} {x : Int64} (hd : decode c.code pc = .ok (.lstore k', 2)) (hl : storeLocals Ls k' (.long x) = some Ls') (hp : pc + 2 = pc')
    (k : own_Out p e below P T (mkF m pc' Ls' (S))) : own_Out p e below P T (mkF m pc Ls (.long x :: S)) := by
  subst hp
  exact own_by (fun _ => XS.lstore X.here hx rfl hd rfl hl) k
theorem o_astoreN (X : Stand p l e R s m args below meth c T locs cells slots) (hx : p.tables.exec = Jvm.exec) {k' : Fin 4} {x : Value} (hd : decode c.code pc = .ok (.astore_n k', 1)) (hv : x.isRef = true) (hl : storeLocals Ls k'.val x = some Ls') (hp : pc + 1 = pc')
    (k : own_Out p e below P T (mkF m pc' Ls' (S))) : own_Out p e below P T (mkF m pc Ls (x :: S)) := by
  subst hp
  exact own_by (fun _ => XS.astoreN X.here hx rfl hd rfl hv hl) k
theorem o_astore (X : Stand p l e R s m args below meth c T locs cells slots) (hx : p.tables.exec = Jvm.exec) {k' : Nat} {x : Value} (hd : decode c.code pc = .ok (.astore k', 2)) (hv : x.isRef = true) (hl : storeLocals Ls k' x = some Ls') (hp : pc + 2 = pc')
    (k : own_Out p e below P T (mkF m pc' Ls' (S))) : own_Out p e below P T (mkF m pc Ls (x :: S)) := by
  subst hp
  exact own_by (fun _ => XS.astore X.here hx rfl hd rfl hv hl) k
theorem o_iconst (X : Stand p l e R s m args below meth c T locs cells slots) (hx : p.tables.exec = Jvm.exec) {i : Int} {v : Int32} (hd : decode c.code pc = .ok (.iconst i, 1)) (hv : Int32.ofInt i = v) (hp : pc + 1 = pc')
    (k : own_Out p e below P T (mkF m pc' Ls (.int v :: S))) : own_Out p e below P T (mkF m pc Ls (S)) := by
  subst hp
  subst hv
  exact own_by (fun _ => XS.iconst X.here hx rfl hd) k
theorem o_bipush (X : Stand p l e R s m args below meth c T locs cells slots) (hx : p.tables.exec = Jvm.exec) {i : Int} {v : Int32} (hd : decode c.code pc = .ok (.bipush i, 2)) (hv : (Int8.ofInt i).toInt32 = v) (hp : pc + 2 = pc')
    (k : own_Out p e below P T (mkF m pc' Ls (.int v :: S))) : own_Out p e below P T (mkF m pc Ls (S)) := by
  subst hp
  subst hv
  exact own_by (fun _ => XS.bipush X.here hx rfl hd) k
theorem o_sipush (X : Stand p l e R s m args below meth c T locs cells slots) (hx : p.tables.exec = Jvm.exec) {i : Int} {v : Int32} (hd : decode c.code pc = .ok (.sipush i, 3)) (hv : (Int16.ofInt i).toInt32 = v) (hp : pc + 3 = pc')
    (k : own_Out p e below P T (mkF m pc' Ls (.int v :: S))) : own_Out p e below P T (mkF m pc Ls (S)) := by
  subst hp
  subst hv
  exact own_by (fun _ => XS.sipush X.here hx rfl hd) k
theorem o_lconst (X : Stand p l e R s m args below meth c T locs cells slots) (hx : p.tables.exec = Jvm.exec) {i : Fin 2} {v : Int64} (hd : decode c.code pc = .ok (.lconst i, 1)) (hv : Int64.ofNat i = v) (hp : pc + 1 = pc')
    (k : own_Out p e below P T (mkF m pc' Ls (.long v :: S))) : own_Out p e below P T (mkF m pc Ls (S)) := by
  subst hp
  subst hv
  exact own_by (fun _ => XS.lconst X.here hx rfl hd) k
theorem o_aconst_null (X : Stand p l e R s m args below meth c T locs cells slots) (hx : p.tables.exec = Jvm.exec) (hd : decode c.code pc = .ok (.aconst_null, 1)) (hp : pc + 1 = pc')
    (k : own_Out p e below P T (mkF m pc' Ls (.null :: S))) : own_Out p e below P T (mkF m pc Ls (S)) := by
  subst hp
  exact own_by (fun _ => XS.aconstNull X.here hx rfl hd) k
theorem o_iadd (X : Stand p l e R s m args below meth c T locs cells slots) (hx : p.tables.exec = Jvm.exec) {x y : Int32} (hd : decode c.code pc = .ok (.iadd, 1)) (hp : pc + 1 = pc')
    (k : own_Out p e below P T (mkF m pc' Ls (.int (x + y) :: S))) : own_Out p e below P T (mkF m pc Ls (.int y :: .int x :: S)) := by
  subst hp
  exact own_by (fun _ => XS.iadd X.here hx rfl hd rfl) k
theorem o_isub (X : Stand p l e R s m args below meth c T locs cells slots) (hx : p.tables.exec = Jvm.exec) {x y : Int32} (hd : decode c.code pc = .ok (.isub, 1)) (hp : pc + 1 = pc')
    (k : own_Out p e below P T (mkF m pc' Ls (.int (x - y) :: S))) : own_Out p e below P T (mkF m pc Ls (.int y :: .int x :: S)) := by
  subst hp
  exact own_by (fun _ => XS.isub X.here hx rfl hd rfl) k
theorem o_imul (X : Stand p l e R s m args below meth c T locs cells slots) (hx : p.tables.exec = Jvm.exec) {x y : Int32} (hd : decode c.code pc = .ok (.imul, 1)) (hp : pc + 1 = pc')
    (k : own_Out p e below P T (mkF m pc' Ls (.int (x * y) :: S))) : own_Out p e below P T (mkF m pc Ls (.int y :: .int x :: S)) := by
  subst hp
  exact own_by (fun _ => XS.imul X.here hx rfl hd rfl) k
theorem o_iand (X : Stand p l e R s m args below meth c T locs cells slots) (hx : p.tables.exec = Jvm.exec) {x y : Int32} (hd : decode c.code pc = .ok (.iand, 1)) (hp : pc + 1 = pc')
    (k : own_Out p e below P T (mkF m pc' Ls (.int (x &&& y) :: S))) : own_Out p e below P T (mkF m pc Ls (.int y :: .int x :: S)) := by
  subst hp
  exact own_by (fun _ => XS.iand X.here hx rfl hd rfl) k
theorem o_ior (X : Stand p l e R s m args below meth c T locs cells slots) (hx : p.tables.exec = Jvm.exec) {x y : Int32} (hd : decode c.code pc = .ok (.ior, 1)) (hp : pc + 1 = pc')
    (k : own_Out p e below P T (mkF m pc' Ls (.int (x ||| y) :: S))) : own_Out p e below P T (mkF m pc Ls (.int y :: .int x :: S)) := by
  subst hp
  exact own_by (fun _ => XS.ior X.here hx rfl hd rfl) k
theorem o_ixor (X : Stand p l e R s m args below meth c T locs cells slots) (hx : p.tables.exec = Jvm.exec) {x y : Int32} (hd : decode c.code pc = .ok (.ixor, 1)) (hp : pc + 1 = pc')
    (k : own_Out p e below P T (mkF m pc' Ls (.int (x ^^^ y) :: S))) : own_Out p e below P T (mkF m pc Ls (.int y :: .int x :: S)) := by
  subst hp
  exact own_by (fun _ => XS.ixor X.here hx rfl hd rfl) k
theorem o_ladd (X : Stand p l e R s m args below meth c T locs cells slots) (hx : p.tables.exec = Jvm.exec) {x y : Int64} (hd : decode c.code pc = .ok (.ladd, 1)) (hp : pc + 1 = pc')
    (k : own_Out p e below P T (mkF m pc' Ls (.long (x + y) :: S))) : own_Out p e below P T (mkF m pc Ls (.long y :: .long x :: S)) := by
  subst hp
  exact own_by (fun _ => XS.ladd X.here hx rfl hd rfl) k
theorem o_lsub (X : Stand p l e R s m args below meth c T locs cells slots) (hx : p.tables.exec = Jvm.exec) {x y : Int64} (hd : decode c.code pc = .ok (.lsub, 1)) (hp : pc + 1 = pc')
    (k : own_Out p e below P T (mkF m pc' Ls (.long (x - y) :: S))) : own_Out p e below P T (mkF m pc Ls (.long y :: .long x :: S)) := by
  subst hp
  exact own_by (fun _ => XS.lsub X.here hx rfl hd rfl) k
theorem o_lmul (X : Stand p l e R s m args below meth c T locs cells slots) (hx : p.tables.exec = Jvm.exec) {x y : Int64} (hd : decode c.code pc = .ok (.lmul, 1)) (hp : pc + 1 = pc')
    (k : own_Out p e below P T (mkF m pc' Ls (.long (x * y) :: S))) : own_Out p e below P T (mkF m pc Ls (.long y :: .long x :: S)) := by
  subst hp
  exact own_by (fun _ => XS.lmul X.here hx rfl hd rfl) k
theorem o_land (X : Stand p l e R s m args below meth c T locs cells slots) (hx : p.tables.exec = Jvm.exec) {x y : Int64} (hd : decode c.code pc = .ok (.land, 1)) (hp : pc + 1 = pc')
    (k : own_Out p e below P T (mkF m pc' Ls (.long (x &&& y) :: S))) : own_Out p e below P T (mkF m pc Ls (.long y :: .long x :: S)) := by
  subst hp
  exact own_by (fun _ => XS.land X.here hx rfl hd rfl) k
theorem o_lor (X : Stand p l e R s m args below meth c T locs cells slots) (hx : p.tables.exec = Jvm.exec) {x y : Int64} (hd : decode c.code pc = .ok (.lor, 1)) (hp : pc + 1 = pc')
    (k : own_Out p e below P T (mkF m pc' Ls (.long (x ||| y) :: S))) : own_Out p e below P T (mkF m pc Ls (.long y :: .long x :: S)) := by
  subst hp
  exact own_by (fun _ => XS.lor X.here hx rfl hd rfl) k
theorem o_lxor (X : Stand p l e R s m args below meth c T locs cells slots) (hx : p.tables.exec = Jvm.exec) {x y : Int64} (hd : decode c.code pc = .ok (.lxor, 1)) (hp : pc + 1 = pc')
    (k : own_Out p e below P T (mkF m pc' Ls (.long (x ^^^ y) :: S))) : own_Out p e below P T (mkF m pc Ls (.long y :: .long x :: S)) := by
  subst hp
  exact own_by (fun _ => XS.lxor X.here hx rfl hd rfl) k
theorem o_ishl (X : Stand p l e R s m args below meth c T locs cells slots) (hx : p.tables.exec = Jvm.exec) {x y : Int32} (hd : decode c.code pc = .ok (.ishl, 1)) (hp : pc + 1 = pc')
    (k : own_Out p e below P T (mkF m pc' Ls (.int (x <<< (y &&& 31)) :: S))) : own_Out p e below P T (mkF m pc Ls (.int y :: .int x :: S)) := by
  subst hp
  exact own_by (fun _ => XS.ishl X.here hx rfl hd rfl) k
theorem o_iushr (X : Stand p l e R s m args below meth c T locs cells slots) (hx : p.tables.exec = Jvm.exec) {x y : Int32} (hd : decode c.code pc = .ok (.iushr, 1)) (hp : pc + 1 = pc')
    (k : own_Out p e below P T (mkF m pc' Ls (.int ((x.toUInt32 >>> (y &&& 31).toUInt32).toInt32) :: S))) : own_Out p e below P T (mkF m pc Ls (.int y :: .int x :: S)) := by
  subst hp
  exact own_by (fun _ => XS.iushr X.here hx rfl hd rfl) k
theorem o_lshl (X : Stand p l e R s m args below meth c T locs cells slots) (hx : p.tables.exec = Jvm.exec) {x : Int64} {y : Int32} (hd : decode c.code pc = .ok (.lshl, 1)) (hp : pc + 1 = pc')
    (k : own_Out p e below P T (mkF m pc' Ls (.long (x <<< (y &&& 0x3f).toInt64) :: S))) : own_Out p e below P T (mkF m pc Ls (.int y :: .long x :: S)) := by
  subst hp
  exact own_by (fun _ => XS.lshl X.here hx rfl hd rfl) k
theorem o_lushr (X : Stand p l e R s m args below meth c T locs cells slots) (hx : p.tables.exec = Jvm.exec) {x : Int64} {y : Int32} (hd : decode c.code pc = .ok (.lushr, 1)) (hp : pc + 1 = pc')
    (k : own_Out p e below P T (mkF m pc' Ls (.long ((x.toUInt64 >>> (y &&& 0x3f).toInt64.toUInt64).toInt64) :: S))) : own_Out p e below P T (mkF m pc Ls (.int y :: .long x :: S)) := by
  subst hp
  exact own_by (fun _ => XS.lushr X.here hx rfl hd rfl) k
theorem o_ldiv (X : Stand p l e R s m args below meth c T locs cells slots) (hx : p.tables.exec = Jvm.exec) {x y : Int64} (hd : decode c.code pc = .ok (.ldiv, 1)) (hy : y ≠ 0) (hp : pc + 1 = pc')
    (k : own_Out p e below P T (mkF m pc' Ls (.long (x / y) :: S))) : own_Out p e below P T (mkF m pc Ls (.long y :: .long x :: S)) := by
  subst hp
  exact own_by (fun _ => XS.ldiv X.here hx rfl hd rfl hy) k
theorem o_irem (X : Stand p l e R s m args below meth c T locs cells slots) (hx : p.tables.exec = Jvm.exec) {x y : Int32} (hd : decode c.code pc = .ok (.irem, 1)) (hy : y ≠ 0) (hp : pc + 1 = pc')
    (k : own_Out p e below P T (mkF m pc' Ls (.int (x % y) :: S))) : own_Out p e below P T (mkF m pc Ls (.int y :: .int x :: S)) := by
  subst hp
  exact own_by (fun _ => iremM X hx rfl hd rfl hy) k
theorem o_i2b (X : Stand p l e R s m args below meth c T locs cells slots) (hx : p.tables.exec = Jvm.exec) {v : Int32} (hd : decode c.code pc = .ok (.i2b, 1)) (hp : pc + 1 = pc')
    (k : own_Out p e below P T (mkF m pc' Ls (.int (v.toInt8.toInt32) :: S))) : own_Out p e below P T (mkF m pc Ls (.int v :: S)) := by
  subst hp
  exact own_by (fun _ => XS.i2b X.here hx rfl hd rfl) k
theorem o_i2c (X : Stand p l e R s m args below meth c T locs cells slots) (hx : p.tables.exec = Jvm.exec) {v : Int32} (hd : decode c.code pc = .ok (.i2c, 1)) (hp : pc + 1 = pc')
    (k : own_Out p e below P T (mkF m pc' Ls (.int (v.toUInt32.toUInt16.toUInt32.toInt32) :: S))) : own_Out p e below P T (mkF m pc Ls (.int v :: S)) := by
  subst hp
  exact own_by (fun _ => XS.i2c X.here hx rfl hd rfl) k
theorem o_i2s (X : Stand p l e R s m args below meth c T locs cells slots) (hx : p.tables.exec = Jvm.exec) {v : Int32} (hd : decode c.code pc = .ok (.i2s, 1)) (hp : pc + 1 = pc')
    (k : own_Out p e below P T (mkF m pc' Ls (.int (v.toInt16.toInt32) :: S))) : own_Out p e below P T (mkF m pc Ls (.int v :: S)) := by
  subst hp
  exact own_by (fun _ => XS.i2s X.here hx rfl hd rfl) k
theorem o_i2l (X : Stand p l e R s m args below meth c T locs cells slots) (hx : p.tables.exec = Jvm.exec) {v : Int32} (hd : decode c.code pc = .ok (.i2l, 1)) (hp : pc + 1 = pc')
    (k : own_Out p e below P T (mkF m pc' Ls (.long (v.toInt64) :: S))) : own_Out p e below P T (mkF m pc Ls (.int v :: S)) := by
  subst hp
  exact own_by (fun _ => XS.i2l X.here hx rfl hd rfl) k
theorem o_l2i (X : Stand p l e R s m args below meth c T locs cells slots) (hx : p.tables.exec = Jvm.exec) {v : Int64} (hd : decode c.code pc = .ok (.l2i, 1)) (hp : pc + 1 = pc')
    (k : own_Out p e below P T (mkF m pc' Ls (.int (v.toInt32) :: S))) : own_Out p e below P T (mkF m pc Ls (.long v :: S)) := by
  subst hp
  exact own_by (fun _ => XS.l2i X.here hx rfl hd rfl) k
theorem o_lcmp (X : Stand p l e R s m args below meth c T locs cells slots) (hx : p.tables.exec = Jvm.exec) {x y : Int64} (hd : decode c.code pc = .ok (.lcmp, 1)) (hp : pc + 1 = pc')
    (k : own_Out p e below P T (mkF m pc' Ls (.int (lcmpW x y) :: S))) : own_Out p e below P T (mkF m pc Ls (.long y :: .long x :: S)) := by
  subst hp
  exact own_by (fun _ => XS.lcmp X.here hx rfl hd rfl) k
theorem o_dup (X : Stand p l e R s m args below meth c T locs cells slots) (hx : p.tables.exec = Jvm.exec) {x : Value} (hd : decode c.code pc = .ok (.dup, 1)) (hc : x.category = 1) (hp : pc + 1 = pc')
    (k : own_Out p e below P T (mkF m pc' Ls (x :: x :: S))) : own_Out p e below P T (mkF m pc Ls (x :: S)) := by
  subst hp
  exact own_by (fun _ => XS.dup X.here hx rfl hd rfl hc) k
theorem o_pop (X : Stand p l e R s m args below meth c T locs cells slots) (hx : p.tables.exec = Jvm.exec) {x : Value} (hd : decode c.code pc = .ok (.pop, 1)) (hc : x.category = 1) (hp : pc + 1 = pc')
    (k : own_Out p e below P T (mkF m pc' Ls (S))) : own_Out p e below P T (mkF m pc Ls (x :: S)) := by
  subst hp
  exact own_by (fun _ => XS.pop X.here hx rfl hd rfl hc) k
theorem o_dup_x1 (X : Stand p l e R s m args below meth c T locs cells slots) (hx : p.tables.exec = Jvm.exec) {x y : Value} (hd : decode c.code pc = .ok (.dup_x1, 1)) (hc : x.category = 1) (hc2 : y.category = 1) (hp : pc + 1 = pc')
    (k : own_Out p e below P T (mkF m pc' Ls (x :: y :: x :: S))) : own_Out p e below P T (mkF m pc Ls (x :: y :: S)) := by
  subst hp
  exact own_by (fun _ => XS.dupX1 X.here hx rfl hd rfl hc hc2) k
theorem o_iinc (X : Stand p l e R s m args below meth c T locs cells slots) (hx : p.tables.exec = Jvm.exec) {k' : Nat} {cst : Int} {x y : Int32} (hd : decode c.code pc = .ok (.iinc k' cst, 3)) (hl : Ls[k']? = some (.val (.int x))) (hy : x + Int32.ofInt cst = y) (hl' : storeLocals Ls k' (.int y) = some Ls') (hp : pc + 3 = pc')
    (k : own_Out p e below P T (mkF m pc' Ls' (S))) : own_Out p e below P T (mkF m pc Ls (S)) := by
  subst hp
  subst hy
  exact own_by (fun _ => XS.iinc X.here hx rfl hd hl hl') k
theorem o_goto (X : Stand p l e R s m args below meth c T locs cells slots) (hx : p.tables.exec = Jvm.exec) {o : Int} (hd : decode c.code pc = .ok (.goto o, 3)) (ho : (pc : Int) + o = (pc' : Int))
    (k : own_Out p e below P T (mkF m pc' Ls (S))) : own_Out p e below P T (mkF m pc Ls (S)) :=
  own_by (fun _ => XS.goto X.here hx rfl (pc0 := pc) (pc' := pc') rfl hd (by omega) (by omega)) k
theorem o_icmp_lt (X : Stand p l e R s m args below meth c T locs cells slots) (hx : p.tables.exec = Jvm.exec) {x y : Int32} {o : Int} {pn : Nat} (hd : decode c.code pc = .ok (.if_icmp .lt o, 3)) (ho : (pc : Int) + o = (pc' : Int)) (hp : pc + 3 = pn)
    (kY : x < y → own_Out p e below P T (mkF m pc' Ls (S))) (kN : ¬ (x < y) → own_Out p e below P T (mkF m pn Ls (S))) : own_Out p e below P T (mkF m pc Ls (.int y :: .int x :: S)) := by
  subst hp
  by_cases q : x < y
  · exact own_by (fun _ => XS.icmpYes X.here hx rfl (pc0 := pc) (pc' := pc') rfl hd rfl (tlt q).1 (by omega) (by omega)) (kY q)
  · exact own_by (fun _ => XS.icmpNo X.here hx rfl hd rfl (flt q).1) (kN q)
theorem o_if_lt (X : Stand p l e R s m args below meth c T locs cells slots) (hx : p.tables.exec = Jvm.exec) {x : Int32} {o : Int} {pn : Nat} (hd : decode c.code pc = .ok (.ifCond .lt o, 3)) (ho : (pc : Int) + o = (pc' : Int)) (hp : pc + 3 = pn)
    (kY : x < 0 → own_Out p e below P T (mkF m pc' Ls (S))) (kN : ¬ (x < 0) → own_Out p e below P T (mkF m pn Ls (S))) : own_Out p e below P T (mkF m pc Ls (.int x :: S)) := by
  subst hp
  by_cases q : x < 0
  · exact own_by (fun _ => XS.ifYes X.here hx rfl (pc0 := pc) (pc' := pc') rfl hd rfl ((if0 _ _).trans (tlt q).1) (by omega) (by omega)) (kY q)
  · exact own_by (fun _ => XS.ifNo X.here hx rfl hd rfl ((if0 _ _).trans (flt q).1)) (kN q)
theorem o_icmp_ge (X : Stand p l e R s m args below meth c T locs cells slots) (hx : p.tables.exec = Jvm.exec) {x y : Int32} {o : Int} {pn : Nat} (hd : decode c.code pc = .ok (.if_icmp .ge o, 3)) (ho : (pc : Int) + o = (pc' : Int)) (hp : pc + 3 = pn)
    (kY : ¬ (x < y) → own_Out p e below P T (mkF m pc' Ls (S))) (kN : x < y → own_Out p e below P T (mkF m pn Ls (S))) : own_Out p e below P T (mkF m pc Ls (.int y :: .int x :: S)) := by
  subst hp
  by_cases q : x < y
  · exact own_by (fun _ => XS.icmpNo X.here hx rfl hd rfl (tlt q).2.1) (kN q)
  · exact own_by (fun _ => XS.icmpYes X.here hx rfl (pc0 := pc) (pc' := pc') rfl hd rfl (flt q).2.1 (by omega) (by omega)) (kY q)
theorem o_if_ge (X : Stand p l e R s m args below meth c T locs cells slots) (hx : p.tables.exec = Jvm.exec) {x : Int32} {o : Int} {pn : Nat} (hd : decode c.code pc = .ok (.ifCond .ge o, 3)) (ho : (pc : Int) + o = (pc' : Int)) (hp : pc + 3 = pn)
    (kY : ¬ (x < 0) → own_Out p e below P T (mkF m pc' Ls (S))) (kN : x < 0 → own_Out p e below P T (mkF m pn Ls (S))) : own_Out p e below P T (mkF m pc Ls (.int x :: S)) := by
  subst hp
  by_cases q : x < 0
  · exact own_by (fun _ => XS.ifNo X.here hx rfl hd rfl ((if0 _ _).trans (tlt q).2.1)) (kN q)
  · exact own_by (fun _ => XS.ifYes X.here hx rfl (pc0 := pc) (pc' := pc') rfl hd rfl ((if0 _ _).trans (flt q).2.1) (by omega) (by omega)) (kY q)
theorem o_icmp_gt (X : Stand p l e R s m args below meth c T locs cells slots) (hx : p.tables.exec = Jvm.exec) {x y : Int32} {o : Int} {pn : Nat} (hd : decode c.code pc = .ok (.if_icmp .gt o, 3)) (ho : (pc : Int) + o = (pc' : Int)) (hp : pc + 3 = pn)
    (kY : y < x → own_Out p e below P T (mkF m pc' Ls (S))) (kN : ¬ (y < x) → own_Out p e below P T (mkF m pn Ls (S))) : own_Out p e below P T (mkF m pc Ls (.int y :: .int x :: S)) := by
  subst hp
  by_cases q : y < x
  · exact own_by (fun _ => XS.icmpYes X.here hx rfl (pc0 := pc) (pc' := pc') rfl hd rfl (tlt q).2.2.1 (by omega) (by omega)) (kY q)
  · exact own_by (fun _ => XS.icmpNo X.here hx rfl hd rfl (flt q).2.2.1) (kN q)
theorem o_if_gt (X : Stand p l e R s m args below meth c T locs cells slots) (hx : p.tables.exec = Jvm.exec) {x : Int32} {o : Int} {pn : Nat} (hd : decode c.code pc = .ok (.ifCond .gt o, 3)) (ho : (pc : Int) + o = (pc' : Int)) (hp : pc + 3 = pn)
    (kY : 0 < x → own_Out p e below P T (mkF m pc' Ls (S))) (kN : ¬ (0 < x) → own_Out p e below P T (mkF m pn Ls (S))) : own_Out p e below P T (mkF m pc Ls (.int x :: S)) := by
  subst hp
  by_cases q : 0 < x
  · exact own_by (fun _ => XS.ifYes X.here hx rfl (pc0 := pc) (pc' := pc') rfl hd rfl ((if0 _ _).trans (tlt q).2.2.1) (by omega) (by omega)) (kY q)
  · exact own_by (fun _ => XS.ifNo X.here hx rfl hd rfl ((if0 _ _).trans (flt q).2.2.1)) (kN q)
theorem o_icmp_le (X : Stand p l e R s m args below meth c T locs cells slots) (hx : p.tables.exec = Jvm.exec) {x y : Int32} {o : Int} {pn : Nat} (hd : decode c.code pc = .ok (.if_icmp .le o, 3)) (ho : (pc : Int) + o = (pc' : Int)) (hp : pc + 3 = pn)
    (kY : ¬ (y < x) → own_Out p e below P T (mkF m pc' Ls (S))) (kN : y < x → own_Out p e below P T (mkF m pn Ls (S))) : own_Out p e below P T (mkF m pc Ls (.int y :: .int x :: S)) := by
  subst hp
  by_cases q : y < x
  · exact own_by (fun _ => XS.icmpNo X.here hx rfl hd rfl (tlt q).2.2.2) (kN q)
  · exact own_by (fun _ => XS.icmpYes X.here hx rfl (pc0 := pc) (pc' := pc') rfl hd rfl (flt q).2.2.2 (by omega) (by omega)) (kY q)
theorem o_if_le (X : Stand p l e R s m args below meth c T locs cells slots) (hx : p.tables.exec = Jvm.exec) {x : Int32} {o : Int} {pn : Nat} (hd : decode c.code pc = .ok (.ifCond .le o, 3)) (ho : (pc : Int) + o = (pc' : Int)) (hp : pc + 3 = pn)
    (kY : ¬ (0 < x) → own_Out p e below P T (mkF m pc' Ls (S))) (kN : 0 < x → own_Out p e below P T (mkF m pn Ls (S))) : own_Out p e below P T (mkF m pc Ls (.int x :: S)) := by
  subst hp
  by_cases q : 0 < x
  · exact own_by (fun _ => XS.ifNo X.here hx rfl hd rfl ((if0 _ _).trans (tlt q).2.2.2)) (kN q)
  · exact own_by (fun _ => XS.ifYes X.here hx rfl (pc0 := pc) (pc' := pc') rfl hd rfl ((if0 _ _).trans (flt q).2.2.2) (by omega) (by omega)) (kY q)
theorem o_icmp_eq (X : Stand p l e R s m args below meth c T locs cells slots) (hx : p.tables.exec = Jvm.exec) {x y : Int32} {o : Int} {pn : Nat} (hd : decode c.code pc = .ok (.if_icmp .eq o, 3)) (ho : (pc : Int) + o = (pc' : Int)) (hp : pc + 3 = pn)
    (kY : x = y → own_Out p e below P T (mkF m pc' Ls (S))) (kN : ¬ (x = y) → own_Out p e below P T (mkF m pn Ls (S))) : own_Out p e below P T (mkF m pc Ls (.int y :: .int x :: S)) := by
  subst hp
  by_cases q : x = y
  · exact own_by (fun _ => XS.icmpYes X.here hx rfl (pc0 := pc) (pc' := pc') rfl hd rfl (teq q).1 (by omega) (by omega)) (kY q)
  · exact own_by (fun _ => XS.icmpNo X.here hx rfl hd rfl (feq q).1) (kN q)
theorem o_if_eq (X : Stand p l e R s m args below meth c T locs cells slots) (hx : p.tables.exec = Jvm.exec) {x : Int32} {o : Int} {pn : Nat} (hd : decode c.code pc = .ok (.ifCond .eq o, 3)) (ho : (pc : Int) + o = (pc' : Int)) (hp : pc + 3 = pn)
    (kY : x = 0 → own_Out p e below P T (mkF m pc' Ls (S))) (kN : ¬ (x = 0) → own_Out p e below P T (mkF m pn Ls (S))) : own_Out p e below P T (mkF m pc Ls (.int x :: S)) := by
  subst hp
  by_cases q : x = 0
  · exact own_by (fun _ => XS.ifYes X.here hx rfl (pc0 := pc) (pc' := pc') rfl hd rfl ((if0 _ _).trans (teq q).1) (by omega) (by omega)) (kY q)
  · exact own_by (fun _ => XS.ifNo X.here hx rfl hd rfl ((if0 _ _).trans (feq q).1)) (kN q)
theorem o_icmp_ne (X : Stand p l e R s m args below meth c T locs cells slots) (hx : p.tables.exec = Jvm.exec) {x y : Int32} {o : Int} {pn : Nat} (hd : decode c.code pc = .ok (.if_icmp .ne o, 3)) (ho : (pc : Int) + o = (pc' : Int)) (hp : pc + 3 = pn)
    (kY : ¬ (x = y) → own_Out p e below P T (mkF m pc' Ls (S))) (kN : x = y → own_Out p e below P T (mkF m pn Ls (S))) : own_Out p e below P T (mkF m pc Ls (.int y :: .int x :: S)) := by
  subst hp
  by_cases q : x = y
  · exact own_by (fun _ => XS.icmpNo X.here hx rfl hd rfl (teq q).2) (kN q)
  · exact own_by (fun _ => XS.icmpYes X.here hx rfl (pc0 := pc) (pc' := pc') rfl hd rfl (feq q).2 (by omega) (by omega)) (kY q)
theorem o_if_ne (X : Stand p l e R s m args below meth c T locs cells slots) (hx : p.tables.exec = Jvm.exec) {x : Int32} {o : Int} {pn : Nat} (hd : decode c.code pc = .ok (.ifCond .ne o, 3)) (ho : (pc : Int) + o = (pc' : Int)) (hp : pc + 3 = pn)
    (kY : ¬ (x = 0) → own_Out p e below P T (mkF m pc' Ls (S))) (kN : x = 0 → own_Out p e below P T (mkF m pn Ls (S))) : own_Out p e below P T (mkF m pc Ls (.int x :: S)) := by
  subst hp
  by_cases q : x = 0
  · exact own_by (fun _ => XS.ifNo X.here hx rfl hd rfl ((if0 _ _).trans (teq q).2)) (kN q)
  · exact own_by (fun _ => XS.ifYes X.here hx rfl (pc0 := pc) (pc' := pc') rfl hd rfl ((if0 _ _).trans (feq q).2) (by omega) (by omega)) (kY q)
theorem o_acmp_eq (X : Stand p l e R s m args below meth c T locs cells slots) (hx : p.tables.exec = Jvm.exec) {a b : Addr} {o : Int} {pn : Nat} (hd : decode c.code pc = .ok (.if_acmp .eq o, 3)) (ho : (pc : Int) + o = (pc' : Int)) (hp : pc + 3 = pn)
    (kY : a = b → own_Out p e below P T (mkF m pc' Ls (S))) (kN : ¬ a = b → own_Out p e below P T (mkF m pn Ls (S))) : own_Out p e below P T (mkF m pc Ls (.ref b :: .ref a :: S)) := by
  subst hp
  by_cases q : a = b
  · exact own_by (fun _ => XS.acmpYes X.here hx rfl (pc0 := pc) (pc' := pc') rfl hd rfl (by simp [if_acmp.holds, q]) (by omega) (by omega)) (kY q)
  · exact own_by (fun _ => XS.acmpNo X.here hx rfl hd rfl (by simp [if_acmp.holds, q])) (kN q)
theorem o_acmp_ne (X : Stand p l e R s m args below meth c T locs cells slots) (hx : p.tables.exec = Jvm.exec) {a b : Addr} {o : Int} {pn : Nat} (hd : decode c.code pc = .ok (.if_acmp .ne o, 3)) (ho : (pc : Int) + o = (pc' : Int)) (hp : pc + 3 = pn)
    (kY : ¬ a = b → own_Out p e below P T (mkF m pc' Ls (S))) (kN : a = b → own_Out p e below P T (mkF m pn Ls (S))) : own_Out p e below P T (mkF m pc Ls (.ref b :: .ref a :: S)) := by
  subst hp
  by_cases q : a = b
  · exact own_by (fun _ => XS.acmpNo X.here hx rfl hd rfl (by simp [if_acmp.holds, q])) (kN q)
  · exact own_by (fun _ => XS.acmpYes X.here hx rfl (pc0 := pc) (pc' := pc') rfl hd rfl (by simp [if_acmp.holds, q]) (by omega) (by omega)) (kY q)
theorem o_ifnullY (X : Stand p l e R s m args below meth c T locs cells slots) (hx : p.tables.exec = Jvm.exec) {o : Int} (hd : decode c.code pc = .ok (.ifnull o, 3)) (ho : (pc : Int) + o = (pc' : Int)) (k : own_Out p e below P T (mkF m pc' Ls (S))) : own_Out p e below P T (mkF m pc Ls (.null :: S)) :=
  own_by (fun _ => XS.ifnullYes X.here hx rfl (pc0 := pc) (pc' := pc') rfl hd rfl (by omega) (by omega)) k
theorem o_ifnullN (X : Stand p l e R s m args below meth c T locs cells slots) (hx : p.tables.exec = Jvm.exec) {o : Int} {b : Addr} (hd : decode c.code pc = .ok (.ifnull o, 3)) (hp : pc + 3 = pc') (k : own_Out p e below P T (mkF m pc' Ls (S))) : own_Out p e below P T (mkF m pc Ls (.ref b :: S)) := by
  subst hp
  exact own_by (fun _ => XS.ifnullNo X.here hx rfl hd rfl) k
theorem o_ldcI (X : Stand p l e R s m args below meth c T locs cells slots) (hx : p.tables.exec = Jvm.exec) (hZ : Z.Warmed39 s.vm) {own : String} {index : Nat} {v : Int32} (hown : s.vm.findClass own = some m.cls) (w : (Cond.constant own index v).before a0 Z = true) (hd : decode c.code pc = .ok (.ldc index, 2)) (hp : pc + 2 = pc') (k : own_Out p e below P T (mkF m pc' Ls (.int v :: S))) : own_Out p e below P T (mkF m pc Ls (S)) := by
  subst hp
  exact own_by (X.ldcInt hx hown (mvT hZ w) (g := mkF m pc Ls S) rfl hd) k
theorem o_ldcL (X : Stand p l e R s m args below meth c T locs cells slots) (hx : p.tables.exec = Jvm.exec) (hZ : Z.Warmed39 s.vm) {own : String} {index : Nat} {v : Int64} (hown : s.vm.findClass own = some m.cls) (w : (Cond.constantLong own index v).before a0 Z = true) (hd : decode c.code pc = .ok (.ldc2_w index, 3)) (hp : pc + 3 = pc') (k : own_Out p e below P T (mkF m pc' Ls (.long v :: S))) : own_Out p e below P T (mkF m pc Ls (S)) := by
  subst hp
  exact own_by (X.ldc2Long hx hown (mvT hZ w) (g := mkF m pc Ls S) rfl hd) k
theorem o_retN (X : Stand p l e R s m args below meth c T locs cells slots) (hx : p.tables.exec = Jvm.exec) {z v : Int32} {t : FieldType} (hret : meth.sig.returnType = some t) (hlk : meth.locks = false) (ht : t = .boolean ∨ t = .byte ∨ t = .char ∨ t = .short) (hd : decode c.code pc = .ok (.ireturn, 1)) (hz : nar t z = v) (hQ : Q (some (.int v)) T.heap locs) (h1 : cells ≤ kc) (h2 : slots ≤ kn) : own_Out p e below (own_P s Q kc kn) T (mkF m pc Ls (.int z :: S)) := by
  subst hz
  obtain ⟨fs, hr, hrun, hended, hW, hsame⟩ := X.leave (v := some (.int (nar t z))) (fun h => by rw [hret] at h; cases h) hlk
  exact ⟨_, _, retN X hx hret ht hd hr, hrun, hended, _, _, rfl, hQ, ⟨_, rfl⟩, hW, hsame.mono h1 h2⟩
theorem o_retW (X : Stand p l e R s m args below meth c T locs cells slots) (hx : p.tables.exec = Jvm.exec) {w : Value} {t : FieldType} {i : Instr} (hret : meth.sig.returnType = some t) (hlk : meth.locks = false) (hn : narrow t w = w) (hi : (i = .ireturn ∧ (t = .int ∨ t = .boolean ∨ t = .byte ∨ t = .char ∨ t = .short) ∧ ∃ z, w = .int z) ∨ (i = .lreturn ∧ t = .long ∧ ∃ z, w = .long z) ∨ (i = .dreturn ∧ t = .double ∧ ∃ z, w = .double z) ∨ (i = .freturn ∧ t = .float ∧ ∃ z, w = .float z) ∨ (i = .areturn ∧ t.isReference = true ∧ w.isRef = true)) (hd : decode c.code pc = .ok (i, 1)) (hQ : Q (some w) T.heap locs) (h1 : cells ≤ kc) (h2 : slots ≤ kn) : own_Out p e below (own_P s Q kc kn) T (mkF m pc Ls (w :: S)) := by
  obtain ⟨fs, hr, hrun, hended, hW, hsame⟩ := X.leave (v := some w) (fun h => by rw [hret] at h; cases h) hlk
  exact ⟨_, _, retOut X hx hret hn hi hd hr, hrun, hended, _, _, rfl, hQ, ⟨_, rfl⟩, hW, hsame.mono h1 h2⟩
theorem o_retI (X : Stand p l e R s m args below meth c T locs cells slots) (hx : p.tables.exec = Jvm.exec) {z : Int32} (hret : meth.sig.returnType = some .int) (hlk : meth.locks = false) (hd : decode c.code pc = .ok (.ireturn, 1)) (hQ : Q (some (.int z)) T.heap locs) (h1 : cells ≤ kc) (h2 : slots ≤ kn) : own_Out p e below (own_P s Q kc kn) T (mkF m pc Ls (.int z :: S)) :=
  o_retW X hx hret hlk rfl (Or.inl ⟨rfl, Or.inl rfl, _, rfl⟩) hd hQ h1 h2
theorem o_retJ (X : Stand p l e R s m args below meth c T locs cells slots) (hx : p.tables.exec = Jvm.exec) {z : Int64} (hret : meth.sig.returnType = some .long) (hlk : meth.locks = false) (hd : decode c.code pc = .ok (.lreturn, 1)) (hQ : Q (some (.long z)) T.heap locs) (h1 : cells ≤ kc) (h2 : slots ≤ kn) : own_Out p e below (own_P s Q kc kn) T (mkF m pc Ls (.long z :: S)) :=
  o_retW X hx hret hlk rfl (Or.inr (Or.inl ⟨rfl, rfl, _, rfl⟩)) hd hQ h1 h2
theorem o_retA (X : Stand p l e R s m args below meth c T locs cells slots) (hx : p.tables.exec = Jvm.exec) {w : Value} {t : FieldType} (hret : meth.sig.returnType = some t) (hlk : meth.locks = false) (ht : t.isReference = true) (hw : w.isRef = true) (hn : narrow t w = w) (hd : decode c.code pc = .ok (.areturn, 1)) (hQ : Q (some w) T.heap locs) (h1 : cells ≤ kc) (h2 : slots ≤ kn) : own_Out p e below (own_P s Q kc kn) T (mkF m pc Ls (w :: S)) :=
  o_retW X hx hret hlk hn (Or.inr (Or.inr (Or.inr (Or.inr ⟨rfl, ht, hw⟩)))) hd hQ h1 h2
theorem o_retV (X : Stand p l e R s m args below meth c T locs cells slots) (hx : p.tables.exec = Jvm.exec) (hret : meth.sig.returnType = none) (hlk : meth.locks = false) (hd : decode c.code pc = .ok (.return_, 1)) (hQ : Q none T.heap locs) (h1 : cells ≤ kc) (h2 : slots ≤ kn) : own_Out p e below (own_P s Q kc kn) T (mkF m pc Ls ([])) := by
  obtain ⟨fs, hr, hrun, hended, hW, hsame⟩ := X.leave (v := none) (fun _ => rfl) hlk
  exact ⟨_, _, X.returnOut hx hret hd hr, hrun, hended, _, _, rfl, hQ, ⟨_, rfl⟩, hW, hsame.mono h1 h2⟩
theorem o_getF (X : Stand p l e R s m args below meth c T locs cells slots) (hx : p.tables.exec = Jvm.exec) (hZ : Z.Warmed39 s.vm) {own O n d : String} {index : Nat} (hown : s.vm.findClass own = some m.cls) (w : (Cond.fieldLink own index O n d).before a0 Z = true) (eT : T.heap = h) {a : Addr} {v : Value} (F : Fld Z h a O n d v) (hd : decode c.code pc = .ok (.getfield index, 3)) (hp : pc + 3 = pc')
    (k : ∀ T', Stand p l e R s m args below meth c T' locs cells slots → T'.heap = h → own_Out p e below P T' (mkF m pc' Ls (v :: S))) : own_Out p e below P T (mkF m pc Ls (.ref a :: S)) := by
  subst hp
  obtain ⟨T1, X1, e1, st⟩ := getF X hx hZ hown (host := "") (Or.inl w) Via.refl eT F (g := mkF m pc Ls (.ref a :: S)) rfl rfl hd
  exact own_by st (k T1 X1 e1)
theorem o_getS (X : Stand p l e R s m args below meth c T locs cells slots) (hx : p.tables.exec = Jvm.exec) (hZ : Z.Warmed39 s.vm) {own O n d : String} {index : Nat} (hown : s.vm.findClass own = some m.cls) (w : (Cond.fieldLink own index O n d).before a0 Z = true) (eT : T.heap = h) {v : Value} (F : Sta Z h O n d v) (hd : decode c.code pc = .ok (.getstatic index, 3)) (hp : pc + 3 = pc')
    (k : ∀ T', Stand p l e R s m args below meth c T' locs cells slots → T'.heap = h → own_Out p e below P T' (mkF m pc' Ls (v :: S))) : own_Out p e below P T (mkF m pc Ls (S)) := by
  subst hp
  obtain ⟨T1, X1, e1, st⟩ := getS (host := "") X hx hZ hown w Via.refl eT F (g := mkF m pc Ls S) rfl hd
  exact own_by st (k T1 X1 e1)
theorem o_putF (X : Stand p l e R s m args below meth c T locs cells slots) (hx : p.tables.exec = Jvm.exec) (hZ : Z.Warmed39 s.vm) {own O n d C : String} {index kk : Nat} {ty : FieldType} (hown : s.vm.findClass own = some m.cls) (w : (Cond.fieldLink own index O n d).before a0 Z = true) (eT : T.heap = h) {a : Addr} {v old : Value} (F : Fld Z h a O n d old) (E : Exa Z h a C) (L : (Cond.lays C O n d).before a0 Z = true ∨ ((Cond.laysFinal C O n d).before a0 Z = true ∧ own = O ∧ meth.name = "<init>")) (wi : (Cond.instantiable C kk).before a0 Z = true) (hty : parseFieldDescriptor d = some ty) (hn : narrow ty v = v) (hf : fits ty v = true) (hd : decode c.code pc = .ok (.putfield index, 3)) (hp : pc + 3 = pc')
    (k : ∀ T' h', Stand p l e R s m args below meth c T' (locs ++ [⟨a, Jvm.RoadKit.slotOf Z O n d⟩]) cells slots → T'.heap = h' → Wr h h' a (Jvm.RoadKit.slotOf Z O n d) v → own_Out p e below P T' (mkF m pc' Ls (S))) : own_Out p e below P T (mkF m pc Ls (v :: .ref a :: S)) := by
  subst hp
  obtain ⟨T1, h1, X1, e1, W1, st⟩ := putF X hx hZ hown (host := "") (Or.inl w) Via.refl eT F E L wi hty hn hf (g := mkF m pc Ls (v :: .ref a :: S)) rfl rfl hd
  exact own_by st (k T1 h1 X1 e1 W1)
theorem o_new (X : Stand p l e R s m args below meth c T locs cells slots) (hx : p.tables.exec = Jvm.exec) (hZ : Z.Warmed39 s.vm) {own C : String} {index n : Nat} (hown : s.vm.findClass own = some m.cls) (w : (Cond.classLink own index C).before a0 Z = true) (wi : (Cond.instantiable C n).before a0 Z = true) (wz : (Cond.initialized C).before a0 Z = true) (eT : T.heap = h) (hd : decode c.code pc = .ok (.new index, 3)) (hc : cells + 1 ≤ R.cells) (hl : slots + n ≤ R.slots) (hp : pc + 3 = pc')
    (k : ∀ T' h' a, Stand p l e R s m args below meth c T' locs (cells + 1) (slots + n) → T'.heap = h' → Ext h h' → a = h.size → Exa Z h' a C → (∀ {O nm d : String} {ty : FieldType}, Laid Z a0 C O nm d → parseFieldDescriptor d = some ty → Fld Z h' a O nm d (defaultValue ty)) → own_Out p e below P T' (mkF m pc' Ls (.ref a :: S))) : own_Out p e below P T (mkF m pc Ls (S)) := by
  subst hp
  obtain ⟨T1, h1, X1, e1, E1, A1, D1, -, st⟩ := newO X hx hZ hown w wi wz eT (g := mkF m pc Ls S) rfl hd hc hl
  exact own_by st (k T1 h1 _ X1 e1 E1 rfl A1 D1)
theorem o_newarr (X : Stand p l e R s m args below meth c T locs cells slots) (hx : p.tables.exec = Jvm.exec) (hZ : Z.Warmed39 s.vm) {aty : ArrayType} {n : Int32} (w : (Cond.arrayClass (newarray.typeOf aty)).before a0 Z = true) (eT : T.heap = h) (hd : decode c.code pc = .ok (.newarray aty, 2)) (hn : ¬ n < 0) {cap : Nat} (hcap : n.toNatClampNeg ≤ cap) (hb : cap * 8 ≤ 536870912) (hc : cells + 1 ≤ R.cells) (hl : slots + cap ≤ R.slots) (hp : pc + 2 = pc')
    (k : ∀ T' h' a cA, Stand p l e R s m args below meth c T' locs (cells + 1) (slots + cap) → T'.heap = h' → Ext h h' → a = h.size → Arr Z h' a (newA cA (newarray.typeOf aty) n) (newarray.typeOf aty) → own_Out p e below P T' (mkF m pc' Ls (.ref a :: S))) : own_Out p e below P T (mkF m pc Ls (.int n :: S)) := by
  subst hp
  obtain ⟨T1, h1, cA, X1, e1, E1, A1, st⟩ := newP X hx hZ w eT (g := mkF m pc Ls (.int n :: S)) rfl hd rfl hn hcap hb hc hl
  exact own_by st (k T1 h1 _ cA X1 e1 E1 rfl A1)
theorem o_iastore (X : Stand p l e R s m args below meth c T locs cells slots) (hx : p.tables.exec = Jvm.exec) (hZ : Z.Warmed39 s.vm) (eT : T.heap = h) {a : Addr} {cl : Cell} (A : Arr Z h a cl .int) {j x : Int32} (hj : ¬ (j < 0 ∨ cl.slots.size ≤ j.toNatClampNeg)) (hd : decode c.code pc = .ok (.iastore, 1)) (hp : pc + 1 = pc')
    (k : ∀ T' h', Stand p l e R s m args below meth c T' (locs ++ [⟨a, j.toNatClampNeg⟩]) cells slots → T'.heap = h' → Wr h h' a j.toNatClampNeg (.int x) → own_Out p e below P T' (mkF m pc' Ls (S))) : own_Out p e below P T (mkF m pc Ls (.int x :: .int j :: .ref a :: S)) := by
  subst hp
  obtain ⟨T1, h1, X1, e1, W1, st⟩ := stI X hx hZ eT A hj (g := mkF m pc Ls (.int x :: .int j :: .ref a :: S)) rfl rfl hd
  exact own_by st (k T1 h1 X1 e1 W1)
theorem o_bastore (X : Stand p l e R s m args below meth c T locs cells slots) (hx : p.tables.exec = Jvm.exec) (hZ : Z.Warmed39 s.vm) (eT : T.heap = h) {a : Addr} {cl : Cell} (A : Arr Z h a cl .byte) {j x : Int32} (hj : ¬ (j < 0 ∨ cl.slots.size ≤ j.toNatClampNeg)) (hd : decode c.code pc = .ok (.bastore, 1)) (hp : pc + 1 = pc')
    (k : ∀ T' h', Stand p l e R s m args below meth c T' (locs ++ [⟨a, j.toNatClampNeg⟩]) cells slots → T'.heap = h' → Wr h h' a j.toNatClampNeg (.int (nar .byte x)) → own_Out p e below P T' (mkF m pc' Ls (S))) : own_Out p e below P T (mkF m pc Ls (.int x :: .int j :: .ref a :: S)) := by
  subst hp
  obtain ⟨T1, h1, X1, e1, W1, st⟩ := stB X hx hZ eT A hj (g := mkF m pc Ls (.int x :: .int j :: .ref a :: S)) rfl rfl hd
  exact own_by st (k T1 h1 X1 e1 W1)
theorem o_castore (X : Stand p l e R s m args below meth c T locs cells slots) (hx : p.tables.exec = Jvm.exec) (hZ : Z.Warmed39 s.vm) (eT : T.heap = h) {a : Addr} {cl : Cell} (A : Arr Z h a cl .char) {j x : Int32} (hj : ¬ (j < 0 ∨ cl.slots.size ≤ j.toNatClampNeg)) (hd : decode c.code pc = .ok (.castore, 1)) (hp : pc + 1 = pc')
    (k : ∀ T' h', Stand p l e R s m args below meth c T' (locs ++ [⟨a, j.toNatClampNeg⟩]) cells slots → T'.heap = h' → Wr h h' a j.toNatClampNeg (.int (nar .char x)) → own_Out p e below P T' (mkF m pc' Ls (S))) : own_Out p e below P T (mkF m pc Ls (.int x :: .int j :: .ref a :: S)) := by
  subst hp
  obtain ⟨T1, h1, X1, e1, W1, st⟩ := stC X hx hZ eT A hj (g := mkF m pc Ls (.int x :: .int j :: .ref a :: S)) rfl rfl hd
  exact own_by st (k T1 h1 X1 e1 W1)
theorem o_iaload (X : Stand p l e R s m args below meth c T locs cells slots) (hx : p.tables.exec = Jvm.exec) (hZ : Z.Warmed39 s.vm) (eT : T.heap = h) {a : Addr} {cl : Cell} (A : Arr Z h a cl .int) {j : Int32} {v : Value} (hj : ¬ (j < 0 ∨ cl.slots.size ≤ j.toNatClampNeg)) (hv : cl.slots[j.toNatClampNeg]? = some v) (hd : decode c.code pc = .ok (.iaload, 1)) (hp : pc + 1 = pc')
    (k : own_Out p e below P T (mkF m pc' Ls (v :: S))) : own_Out p e below P T (mkF m pc Ls (.int j :: .ref a :: S)) := by
  subst hp
  exact own_by (fun t => X.iaload hx (by rw [eT]; exact A.1) (State.isArrayOf_alike hZ.alike A.2.1) A.2.2 hj hv (g := mkF m pc Ls (.int j :: .ref a :: S)) rfl rfl hd t) k
theorem o_baload (X : Stand p l e R s m args below meth c T locs cells slots) (hx : p.tables.exec = Jvm.exec) (hZ : Z.Warmed39 s.vm) (eT : T.heap = h) {a : Addr} {cl : Cell} (A : Arr Z h a cl .byte) {j : Int32} {v : Value} (hj : ¬ (j < 0 ∨ cl.slots.size ≤ j.toNatClampNeg)) (hv : cl.slots[j.toNatClampNeg]? = some v) (hd : decode c.code pc = .ok (.baload, 1)) (hp : pc + 1 = pc')
    (k : own_Out p e below P T (mkF m pc' Ls (v :: S))) : own_Out p e below P T (mkF m pc Ls (.int j :: .ref a :: S)) := by
  subst hp
  exact own_by (fun t => X.baloadBytes hx (by rw [eT]; exact A.1) (State.isArrayOf_alike hZ.alike A.2.1) A.2.2 hj hv (g := mkF m pc Ls (.int j :: .ref a :: S)) rfl rfl hd t) k
theorem o_arraylength (X : Stand p l e R s m args below meth c T locs cells slots) (hx : p.tables.exec = Jvm.exec) (hZ : Z.Warmed39 s.vm) (eT : T.heap = h) {a : Addr} {cl : Cell} {ty : FieldType} (A : Arr Z h a cl ty) {n : Int32} (hn : cl.slots.size.toInt32 = n) (hd : decode c.code pc = .ok (.arraylength, 1)) (hp : pc + 1 = pc')
    (k : own_Out p e below P T (mkF m pc' Ls (.int n :: S))) : own_Out p e below P T (mkF m pc Ls (.ref a :: S)) := by
  subst hp hn
  exact own_by (fun t => X.arraylength hx (by rw [eT]; exact A.1) (State.isArrayOf_alike hZ.alike A.2.1) (g := mkF m pc Ls (.ref a :: S)) rfl rfl hd t) k
theorem o_init0 (X : Stand p l e R s m args below meth c T locs cells slots) (hx : p.tables.exec = Jvm.exec) (hZ : Z.Warmed39 s.vm) {own : String} {idx : Nat} (hown : s.vm.findClass own = some m.cls) (w1 : (Cond.methodLink own idx Lib.objectInit).before a0 Z = true) (w2 : (Cond.instanceMethod Lib.objectInit).before a0 Z = true) (w3 : (Cond.code Lib.objectInit ⟨#[0xb1]⟩ 1 none).before a0 Z = true) (eT : T.heap = h) (hsize : Ls.size = c.maxLocals) {a : Addr} (hd : decode c.code pc = .ok (.invokespecial idx, 3)) (hf : 1 ≤ R.frames) {W : Nat} (hW : (S.map fun v => v.category).sum ≤ W) (hl : W + 12 ≤ R.locals) (hp : pc + 3 = pc')
    (k : ∀ T', Stand p l e R s m args below meth c T' locs cells slots → T'.heap = h → own_Out p e below P T' (mkF m pc' Ls (S))) : own_Out p e below P T (mkF m pc Ls (.ref a :: S)) := by
  subst hp
  obtain ⟨T1, X1, e1, st⟩ := initO X hx hZ hown w1 w2 w3 eT (g := mkF m pc Ls (.ref a :: S)) rfl hsize rfl hd hf (W := W) (by show 2 * 0 + _ ≤ _; omega) hl
  exact own_by st (k T1 X1 e1)
abbrev own_Met (l : Launch) (y : MethodName) (bytes : ByteArray) (maxL : Nat) (ret : Option FieldType) (ws : List Cond) (rm : Room) (Z : State) (h0 : Heap) (as' : Array Value) (Q : Option Value → Heap → List Loc → Prop) : Prop :=
  MetFree l y (head1 (Cond.code y bytes maxL ret :: ws) rm) (fun a U => a = as' ∧ Z.Warmed39 U.vm ∧ U.heap = h0) (fun _ _ _ _ _ => True) (fun _ U o U' => ∃ v L, o = .returned v ∧ Q v U'.heap L ∧ FrameEnd U o U' L rm.cells rm.slots)
theorem o_callS (X : Stand p l e R s m args below meth c T locs cells slots) (hx : p.tables.exec = Jvm.exec) (hZ : Z.Warmed39 s.vm) {own : String} {index : Nat} {y : MethodName} {bytes : ByteArray} {maxL : Nat} {ret : Option FieldType} {rm : Room} {as' : List Value} {ps : List FieldType} {r0 : Option FieldType} {S' : List Value} (hown : s.vm.findClass own = some m.cls) (w1 : (Cond.methodLink own index y).before a0 Z = true) (w2 : (Cond.static y).before a0 Z = true) (w3 : (Cond.initialized y.cls).before a0 Z = true) (w4 : (Cond.code y bytes maxL ret).before a0 Z = true) (hy : y.cls ≠ "java/lang/invoke/MethodHandle" ∧ y.cls ≠ "java/lang/invoke/VarHandle") (eT : T.heap = h) (hM : own_Met l y bytes maxL ret [] rm Z h as'.toArray Q) (hsize : Ls.size = c.maxLocals) (hpd : parseMethodDescriptor y.desc = some ⟨ps, r0⟩) (hlen : as'.length = ps.length) {W : Nat} (hW : (S.map fun v => v.category).sum ≤ W) (hf : rm.frames + 1 ≤ R.frames) (hl : W + (maxL + 11) + rm.locals ≤ R.locals) (hd : decode c.code pc = .ok (.invokestatic index, 3)) (hc : cells + rm.cells ≤ R.cells) (hs : slots + rm.slots ≤ R.slots) (hp : pc + 3 = pc') (hst : S' = as'.reverse ++ S)
    (k : ∀ v T' L, Stand p l e R s m args below meth c T' (locs ++ L) (cells + rm.cells) (slots + rm.slots) → Q v T'.heap L → own_Out p e below P T' (mkF m pc' Ls (v.toList ++ S))) : own_Out p e below P T (mkF m pc Ls S') := by
  subst hp hst
  obtain ⟨v, vm, ⟨T1, L1, k1, n1⟩, -, X1, ⟨Lc, hQ, l1, l2, l3⟩, st⟩ := Jvm.LawKit.callS X hx (y := y) hown (mvT hZ w1) (mvT hZ w2) (mvT hZ w3) (mvT hZ w4) hy (backOf (W := W) hM hZ w4 w3 hf hl) (g := mkF m pc Ls (as'.reverse ++ S)) rfl hsize (argsL := as') (rest := S) (lenOf hpd hlen) rfl (by show 2 * 0 + _ ≤ _; omega) hd (fun _ _ => ⟨rfl, eT, hc, hs⟩)
  dsimp only [Pt.U, Pt.locs, Pt.cells, Pt.slots] at X1 l1 l2 l3 st hQ
  subst l1 l2 l3
  exact own_by st (k v T1 Lc X1 hQ)
theorem o_callI (X : Stand p l e R s m args below meth c T locs cells slots) (hx : p.tables.exec = Jvm.exec) (hZ : Z.Warmed39 s.vm) {own : String} {index : Nat} {y : MethodName} {bytes : ByteArray} {maxL : Nat} {rm : Room} {as' : List Value} {ps : List FieldType} {r0 : Option FieldType} {S' : List Value} {a : Addr} (hy1 : y.name = "<init>") (hown : s.vm.findClass own = some m.cls) (w1 : (Cond.methodLink own index y).before a0 Z = true) (w2 : (Cond.instanceMethod y).before a0 Z = true) (w3 : (Cond.initialized y.cls).before a0 Z = true) (w4 : (Cond.code y bytes maxL none).before a0 Z = true) (hy : y.cls ≠ "java/lang/invoke/MethodHandle" ∧ y.cls ≠ "java/lang/invoke/VarHandle") (eT : T.heap = h) (hM : own_Met l y bytes maxL none [] rm Z h (.ref a :: as').toArray Q) (hsize : Ls.size = c.maxLocals) (hpd : parseMethodDescriptor y.desc = some ⟨ps, r0⟩) (hlen : as'.length = ps.length) {W : Nat} (hW : (S.map fun v => v.category).sum ≤ W) (hf : rm.frames + 1 ≤ R.frames) (hl : W + (maxL + 11) + rm.locals ≤ R.locals) (hd : decode c.code pc = .ok (.invokespecial index, 3)) (hc : cells + rm.cells ≤ R.cells) (hs : slots + rm.slots ≤ R.slots) (hp : pc + 3 = pc') (hst : S' = as'.reverse ++ .ref a :: S)
    (k : ∀ v T' L, Stand p l e R s m args below meth c T' (locs ++ L) (cells + rm.cells) (slots + rm.slots) → Q v T'.heap L → own_Out p e below P T' (mkF m pc' Ls (v.toList ++ S))) : own_Out p e below P T (mkF m pc Ls S') := by
  subst hp hst
  obtain ⟨v, vm, ⟨T1, L1, k1, n1⟩, -, X1, ⟨Lc, hQ, l1, l2, l3⟩, st⟩ := X.specialBack hx (y := y) hy1 hown (mvT hZ w1) (mvT hZ w2) (mvT hZ w4) hy (backOf (W := W) hM hZ w4 w3 hf hl) (g := mkF m pc Ls (as'.reverse ++ .ref a :: S)) rfl hsize (Steps.refl _) (a := a) (argsL := as') (rest := S) (lenOf hpd hlen) rfl (by show 2 * 0 + _ ≤ _; omega) hd (fun _ _ => ⟨rfl, eT, hc, hs⟩)
  dsimp only [Pt.U, Pt.locs, Pt.cells, Pt.slots] at X1 l1 l2 l3 st hQ
  subst l1 l2 l3
  exact own_go st (k v T1 Lc X1 hQ)
theorem o_callV (X : Stand p l e R s m args below meth c T locs cells slots) (hx : p.tables.exec = Jvm.exec) (hZ : Z.Warmed39 s.vm) {own : String} {index : Nat} {y : MethodName} {bytes : ByteArray} {maxL : Nat} {ret : Option FieldType} {rm : Room} {as' : List Value} {ps : List FieldType} {r0 : Option FieldType} {S' : List Value} {C : String} {b : Addr} (hown : s.vm.findClass own = some m.cls) (w1 : (Cond.methodLink own index y).before a0 Z = true) (w2 : (Cond.declares y).before a0 Z = true) (w3 : (Cond.selects C y y).before a0 Z = true) (w4 : (Cond.instanceMethod y).before a0 Z = true) (w5 : (Cond.initialized y.cls).before a0 Z = true) (w6 : (Cond.code y bytes maxL ret).before a0 Z = true) (hy : y.cls ≠ "java/lang/invoke/MethodHandle" ∧ y.cls ≠ "java/lang/invoke/VarHandle") (eT : T.heap = h) (E : Exa Z h b C) (hM : own_Met l y bytes maxL ret [] rm Z h (.ref b :: as').toArray Q) (hsize : Ls.size = c.maxLocals) (hpd : parseMethodDescriptor y.desc = some ⟨ps, r0⟩) (hlen : as'.length = ps.length) {W : Nat} (hW : (S.map fun v => v.category).sum ≤ W) (hf : rm.frames + 1 ≤ R.frames) (hl : W + (maxL + 11) + rm.locals ≤ R.locals) (hd : decode c.code pc = .ok (.invokevirtual index, 3)) (hc : cells + rm.cells ≤ R.cells) (hs : slots + rm.slots ≤ R.slots) (hp : pc + 3 = pc') (hst : S' = as'.reverse ++ .ref b :: S)
    (k : ∀ v T' L, Stand p l e R s m args below meth c T' (locs ++ L) (cells + rm.cells) (slots + rm.slots) → Q v T'.heap L → own_Out p e below P T' (mkF m pc' Ls (v.toList ++ S))) : own_Out p e below P T (mkF m pc Ls S') := by
  subst hp hst
  obtain ⟨cq, kq, q1, q2, q3⟩ := isOf hZ eT E
  obtain ⟨v, vm, ⟨T1, L1, k1, n1⟩, -, X1, ⟨Lc, hQ, l1, l2, l3⟩, st⟩ := X.virtualBack hx (y := y) (z := y) hown (mvT hZ w1) (mvT hZ w2) (notFace_of_selects (args := #[]) (mvT hZ w3)) (mvT hZ w3) (mvT hZ w4) hy (backOf (W := W) hM hZ w6 w5 hf hl) q1 q3 (g := mkF m pc Ls (as'.reverse ++ .ref b :: S)) rfl hsize (Steps.refl _) (argsL := as') (rest := S) (lenOf hpd hlen) rfl (by show 2 * 0 + _ ≤ _; omega) hd (fun _ _ => ⟨rfl, eT, hc, hs⟩)
  dsimp only [Pt.U, Pt.locs, Pt.cells, Pt.slots] at X1 l1 l2 l3 st hQ
  subst l1 l2 l3
  exact own_go st (k v T1 Lc X1 hQ)
theorem own_pure {r : Value} {h0 : Heap} {L : List Loc} {v : Option Value} (hc : kc = 0) (hn : kn = 0) (X : Stand p l e R s m args below meth c T' (locs ++ L) (cells + kc) (slots + kn)) (q : own_Pure r h0 v T'.heap L) : v = some r ∧ Stand p l e R s m args below meth c T' locs cells slots ∧ T'.heap = h0 := by
  obtain ⟨rfl, rfl, q3⟩ := q
  subst hc hn
  rw [List.append_nil] at X
  exact ⟨rfl, X, q3⟩
theorem own_in {cl : Cell} {n : Nat} {j : Int32} (q0 : cl.slots.size = n) (q : ¬ j < 0 ∧ j.toNatClampNeg < n) : ¬ (j < 0 ∨ cl.slots.size ≤ j.toNatClampNeg) := by
  rw [q0]; rintro (z | z)
  · exact q.1 z
  · exact Nat.not_le.mpr q.2 z
theorem own_r1 : nar .boolean (1 : Int32) = 1 := by decide
theorem own_r0 : nar .boolean (0 : Int32) = 0 := by decide
theorem own_b0 {q : Prop} [Decidable q] : own_b q = 0 ↔ ¬ q := by by_cases h : q <;> simp [own_b, h]
theorem own_bc {q r : Prop} [Decidable q] [Decidable r] (h : q ↔ r) : own_b q = own_b r := by
  by_cases k : q
  · rw [own_bt k, own_bt (h.mp k)]
  · rw [own_bf k, own_bf (fun z => k (h.mpr z))]
end OwnKit
theorem own_pd0 : parseMethodDescriptor "()V" = some ⟨[], none⟩ := by decide +kernel
theorem own_pd1 : parseMethodDescriptor "()Lcom/example/intact_tree/intacttree/ls/TreeWriter$Answers;" = some ⟨[], some (.object "com/example/intact_tree/intacttree/ls/TreeWriter$Answers")⟩ := by decide +kernel
theorem own_pd2 : parseMethodDescriptor "()Z" = some ⟨[], some .boolean⟩ := by decide +kernel
theorem own_pd3 : parseMethodDescriptor "(S)V" = some ⟨[.short], none⟩ := by decide +kernel
theorem own_pd4 : parseMethodDescriptor "()S" = some ⟨[], some .short⟩ := by decide +kernel
def own_By (Z : State) (h : Heap) (a : Addr) (n : Nat) (f : Nat → Int32) : Prop := ∃ cl : Cell, Arr Z h a cl .byte ∧ cl.slots.size = n ∧ ∀ j, j < n → cl.slots[j]? = some (.int (f j))
theorem own_by_new {Z : State} {h : Heap} {a : Addr} {cA : ClassId} {n : Int32} {k : Nat} (A : Arr Z h a (newA cA .byte n) .byte) (hk : n.toNatClampNeg = k) : own_By Z h a k (fun _ => 0) := by
  subst hk
  exact ⟨_, A, sz_new _ _ _, fun j hj => by simp [newA, hj, defaultValue]⟩
theorem own_By.ext {Z : State} {h h' : Heap} {a : Addr} {n : Nat} {f : Nat → Int32} (q : own_By Z h a n f) (E : Ext h h') : own_By Z h' a n f := by obtain ⟨cl, q1, q2⟩ := q; exact ⟨cl, q1.ext E, q2⟩
theorem own_By.other {Z : State} {h h' : Heap} {a b : Addr} {n sl : Nat} {v : Value} {f : Nat → Int32} (q : own_By Z h a n f) (W : Wr h h' b sl v) (k : a ≠ b) : own_By Z h' a n f := by obtain ⟨cl, q1, q2⟩ := q; exact ⟨cl, q1.other W k, q2⟩
theorem own_By.same {Z : State} {h h' : Heap} {a : Addr} {n j : Nat} {x : Int32} {f g : Nat → Int32} (q : own_By Z h a n f) (W : Wr h h' a j (.int x)) (hg : ∀ i, i < n → g i = if i = j then x else f i) : own_By Z h' a n g := by
  obtain ⟨cl, q1, q2, q3⟩ := q
  refine ⟨_, q1.same W, by rw [sz_set]; exact q2, fun i hi => ?_⟩
  rw [hg i hi]
  by_cases u : j = i
  · subst u; simp [Cell.setSlot, q2, hi]
  · rw [if_neg (fun z => u z.symm)]; simp only [Cell.setSlot]; rw [Array.getElem?_setIfInBounds_ne u]; exact q3 i hi
theorem own_By.congr {Z : State} {h : Heap} {a : Addr} {n : Nat} {f g : Nat → Int32} (q : own_By Z h a n f) (hg : ∀ i, i < n → g i = f i) : own_By Z h a n g := by
  obtain ⟨cl, q1, q2, q3⟩ := q
  exact ⟨cl, q1, q2, fun i hi => by rw [hg i hi]; exact q3 i hi⟩
theorem own_nb (v : Int32) : nar .byte (v.toInt8.toInt32) = v.toInt8.toInt32 := by simp [nar]
section OwnBytes
variable {p : Program} {l : Launch} {e : Env} {R : Room} {s : State} {m : MethodId} {args : Array Value} {below : List Frame} {meth : Method} {c : Code} {T : State} {locs : List Loc} {cells slots : Nat} {P : Outcome → State → Prop} {pc pc' : Nat} {Ls : Array Slot} {S : List Value} {Z : State} {h : Heap}
theorem own_stB (X : Stand p l e R s m args below meth c T locs cells slots) (hx : p.tables.exec = Jvm.exec) (hZ : Z.Warmed39 s.vm) (eT : T.heap = h) {a : Addr} {n k : Nat} {f : Nat → Int32} (A : own_By Z h a n f) (N : Fr k locs) (hk : k ≤ a) {j v : Int32} (g : Nat → Int32) (hj : ¬ j < 0 ∧ j.toNatClampNeg < n) (hd : decode c.code pc = .ok (.bastore, 1)) (hp : pc + 1 = pc') (hg : ∀ i, i < n → g i = if i = j.toNatClampNeg then v.toInt8.toInt32 else f i)
    (q : ∀ T' h' locs', Stand p l e R s m args below meth c T' locs' cells slots → T'.heap = h' → Wr h h' a j.toNatClampNeg (.int v.toInt8.toInt32) → own_By Z h' a n g → Fr k locs' → own_Out p e below P T' (mkF m pc' Ls S)) : own_Out p e below P T (mkF m pc Ls (.int (v.toInt8.toInt32) :: .int j :: .ref a :: S)) := by
  have A' := A
  obtain ⟨cl, A1, A2, A3⟩ := A'
  refine o_bastore X hx hZ eT A1 (j := j) (own_in A2 hj) hd hp fun T' h' X' e' W' => ?_
  rw [own_nb] at W'
  exact q T' h' _ X' e' W' (A.same W' hg) (Fr.snoc X' N hk)
theorem own_ldB (X : Stand p l e R s m args below meth c T locs cells slots) (hx : p.tables.exec = Jvm.exec) (hZ : Z.Warmed39 s.vm) (eT : T.heap = h) {a : Addr} {n : Nat} {f : Nat → Int32} (A : own_By Z h a n f) {j : Int32} (i : Nat) (hj : ¬ j < 0 ∧ j.toNatClampNeg < n) (hi : j.toNatClampNeg = i) (hd : decode c.code pc = .ok (.baload, 1)) (hp : pc + 1 = pc')
    (q : own_Out p e below P T (mkF m pc' Ls (.int (f i) :: S))) : own_Out p e below P T (mkF m pc Ls (.int j :: .ref a :: S)) := by
  obtain ⟨cl, A1, A2, A3⟩ := A
  subst hi
  exact o_baload X hx hZ eT A1 (own_in A2 hj) (A3 _ hj.2) hd hp q
end OwnBytes
def own_Ans (Z : State) (h : Heap) (a b : Addr) (nx ci : Int32) (f : Nat → Int32) : Prop := Exa Z h a "com/example/intact_tree/intacttree/ls/TreeWriter$Answers" ∧ Fld Z h a "com/example/intact_tree/intacttree/ls/TreeWriter$Answers" "given" "[B" (.ref b) ∧ Fld Z h a "com/example/intact_tree/intacttree/ls/TreeWriter$Answers" "next" "I" (.int nx) ∧ Fld Z h a "com/example/intact_tree/intacttree/ls/TreeWriter$Answers" "count" "I" (.int ci) ∧ a ≠ b ∧ own_By Z h b 64 f
def own_rec (f : Nat → Int32) (i : Nat) (x : Int32) : Nat → Int32 := fun j => if j = i then x.toInt8.toInt32 else f j
theorem own_k3 (x : Int32) : x &&& 3 = 0 ∨ x &&& 3 = 1 ∨ x &&& 3 = 2 ∨ x &&& 3 = 3 := by
  have h := Jvm.Kit.i32_mask x 3 (k := 2) (by decide) (by decide)
  have e0 : (0 : Int32).toInt = 0 := by decide
  have e1 : (1 : Int32).toInt = 1 := by decide
  have e2 : (2 : Int32).toInt = 2 := by decide
  have e3 : (3 : Int32).toInt = 3 := by decide
  simp only [← Int32.toInt_inj, e0, e1, e2, e3]
  omega
def own_sh (x : Int32) : Int32 := nar .short (x.toInt16.toInt32)
theorem own_rt (a : Int32) : own_sh ((a.toInt8.toInt32.toInt16.toInt32).toInt8.toInt32) = a.toInt8.toInt32.toInt16.toInt32 := by simp [own_sh, nar]
theorem own_d1_0 : decode prog_99_method_1_code 0 = .ok (.aload_n 0, 1) := by decide +kernel
theorem own_d1_1 : decode prog_99_method_1_code 1 = .ok (.invokespecial 1, 3) := by decide +kernel
theorem own_d1_4 : decode prog_99_method_1_code 4 = .ok (.aload_n 0, 1) := by decide +kernel
theorem own_d1_5 : decode prog_99_method_1_code 5 = .ok (.bipush 64, 2) := by decide +kernel
theorem own_d1_7 : decode prog_99_method_1_code 7 = .ok (.newarray .byte, 2) := by decide +kernel
theorem own_d1_9 : decode prog_99_method_1_code 9 = .ok (.putfield 7, 3) := by decide +kernel
theorem own_d1_12 : decode prog_99_method_1_code 12 = .ok (.aload_n 0, 1) := by decide +kernel
theorem own_d1_13 : decode prog_99_method_1_code 13 = .ok (.iconst (-1), 1) := by decide +kernel
theorem own_d1_14 : decode prog_99_method_1_code 14 = .ok (.putfield 13, 3) := by decide +kernel
theorem own_d1_17 : decode prog_99_method_1_code 17 = .ok (.return_, 1) := by decide +kernel
theorem own_ef1 (m : MethodId) (x0 : Addr) : entryFrame m #[(.ref x0)] 1 = mkF m 0 #[.val (.ref x0)] [] := by first | (simp [entryFrame, mkF, argsToLocals, Value.category]; done) | rfl
theorem own_pn1 : plainName "com/example/intact_tree/intacttree/ls/TreeWriter$Answers" = true := by first | (simp [plainName, overriddenIn]; done) | decide +kernel
set_option maxRecDepth 65536 in
set_option maxHeartbeats 40000000 in
theorem own_rm1 (l : Launch) (Z : State) (a0 : Array Value) (hw : ∀ d ∈ tables_1, d.before a0 Z = true) (ws : List Jvm.Cond) (a1 : Addr) (h0 : Heap) (n0 : Nat) (u1 u2 : Value) (Z0 : n0 ≤ h0.size) (g : n0 ≤ a1) (E : Exa Z h0 a1 "com/example/intact_tree/intacttree/ls/TreeWriter$Answers") (Fg : Fld Z h0 a1 "com/example/intact_tree/intacttree/ls/TreeWriter$Answers" "given" "[B" u1) (Fn : Fld Z h0 a1 "com/example/intact_tree/intacttree/ls/TreeWriter$Answers" "next" "I" u2) (Fc : Fld Z h0 a1 "com/example/intact_tree/intacttree/ls/TreeWriter$Answers" "count" "I" (.int 0)) :
    own_Met l (⟨"com/example/intact_tree/intacttree/ls/TreeWriter$Answers", "<init>", "()V"⟩ : MethodName) prog_99_method_1_code 1 none ws ({ frames := 1, cells := 1, slots := 64, locals := 12 } : Room) Z h0 #[(.ref a1)] (fun v h L => v = none ∧ Fr n0 L ∧ h0.size ≤ h.size ∧ ∃ b, n0 ≤ b ∧ own_Ans Z h a1 b (-1) 0 (fun _ => 0)) := by
  refine MetFree.of_bodySF (plainFor_of_name own_pn1) hisR ?_
  intro p e s m args below meth c s₁ Bd hml0 hP hK
  obtain ⟨rfl, hZ, hh⟩ := hP
  have hx := Bd.exec
  have hby := Bd.bytes
  have hml : c.maxLocals = 1 := hml0
  have hlk := Bd.notSynchronized
  have hown : s.vm.findClass "com/example/intact_tree/intacttree/ls/TreeWriter$Answers" = some m.cls := findClass_of_methodNamed Bd.named
  have hnm := (name_of_methodNamed Bd.named Bd.method).1
  have X0 : Stand p l e ({ frames := 1, cells := 1, slots := 64, locals := 12 } : Room) s m #[(.ref a1)] below meth c s₁ [] 0 0 := Stand.of_body Bd
  have e0 : s₁.heap = h0 := by rw [← hh, Bd.state]; rfl
  show own_Out p e below (own_P s (fun v h L => v = none ∧ Fr n0 L ∧ h0.size ≤ h.size ∧ ∃ b, n0 ≤ b ∧ own_Ans Z h a1 b (-1) 0 (fun _ => 0)) ({ frames := 1, cells := 1, slots := 64, locals := 12 } : Room).cells ({ frames := 1, cells := 1, slots := 64, locals := 12 } : Room).slots) s₁ (entryFrame m #[(.ref a1)] 1)
  rw [own_ef1 m a1]
  refine o_aloadN X0 hx (hb hby own_d1_0) rfl rfl (pc' := 1) rfl ?_
  refine o_init0 X0 hx hZ hown (hw _ (List.mem_of_getElem? (i := 6) rfl)) (hw _ (List.mem_of_getElem? (i := 7) rfl)) (hw _ (List.mem_of_getElem? (i := 8) rfl)) e0 (by rw [hml]; rfl) (hb hby own_d1_1) (by decide) (W := 0) (Nat.le_of_eq rfl) (by decide) (pc' := 4) rfl ?_
  intro T1 X1 e1
  refine o_aloadN X1 hx (hb hby own_d1_4) rfl rfl (pc' := 5) rfl ?_
  refine o_bipush X1 hx (hb hby own_d1_5) (v := 64) rfl (pc' := 7) rfl ?_
  refine o_newarr X1 hx hZ (hw _ (List.mem_of_getElem? (i := 9) rfl)) e1 (hb hby own_d1_7) (by decide) (cap := 64) (by decide) (by decide) (by decide) (by decide) (pc' := 9) rfl ?_
  intro T2 h2 b2 cA X2 e2 E2 g2 A2
  have B2 : own_By Z h2 b2 64 (fun _ => 0) := own_by_new A2 (by decide)
  have ne : b2 ≠ a1 := by rw [g2]; exact (Nat.ne_of_lt E.lt).symm
  have gb : n0 ≤ b2 := by rw [g2]; exact Z0
  refine o_putF X2 hx hZ hown (hw _ (List.mem_of_getElem? (i := 10) rfl)) e2 (Fg.ext E2) (E.ext E2) (Or.inl (hw _ (List.mem_of_getElem? (i := 11) rfl))) (hw _ (List.mem_of_getElem? (i := 1) rfl)) (ty := (.array .byte)) (by decide) rfl rfl (hb hby own_d1_9) (pc' := 12) rfl ?_
  intro T3 h3 X3 e3 W3
  have N1 := Fr.snoc X3 (Fr.nil n0) g
  have B3 := B2.other W3 ne
  have Fg3 := (Fg.ext E2).same W3
  have Fn3 := (Fn.ext E2).other W3 (Or.inr (slot_ne (Or.inl (hw _ (List.mem_of_getElem? (i := 13) rfl))) (Or.inl (hw _ (List.mem_of_getElem? (i := 11) rfl))) (by decide) (t := .int) (t' := (.array .byte)) (by decide) (by decide)))
  have Fc3 := (Fc.ext E2).other W3 (Or.inr (slot_ne (Or.inl (hw _ (List.mem_of_getElem? (i := 20) rfl))) (Or.inl (hw _ (List.mem_of_getElem? (i := 11) rfl))) (by decide) (t := .int) (t' := (.array .byte)) (by decide) (by decide)))
  refine o_aloadN X3 hx (hb hby own_d1_12) rfl rfl (pc' := 13) rfl ?_
  refine o_iconst X3 hx (hb hby own_d1_13) (v := -1) rfl (pc' := 14) rfl ?_
  refine o_putF X3 hx hZ hown (hw _ (List.mem_of_getElem? (i := 12) rfl)) e3 Fn3 ((E.ext E2).wr W3) (Or.inl (hw _ (List.mem_of_getElem? (i := 13) rfl))) (hw _ (List.mem_of_getElem? (i := 1) rfl)) (ty := .int) (by decide) rfl rfl (hb hby own_d1_14) (pc' := 17) rfl ?_
  intro T4 h4 X4 e4 W4
  have N2 := Fr.snoc X4 N1 g
  have B4 := B3.other W4 ne
  have Fg4 := Fg3.other W4 (Or.inr (slot_ne (Or.inl (hw _ (List.mem_of_getElem? (i := 11) rfl))) (Or.inl (hw _ (List.mem_of_getElem? (i := 13) rfl))) (by decide) (t := (.array .byte)) (t' := .int) (by decide) (by decide)))
  have Fc4 := Fc3.other W4 (Or.inr (slot_ne (Or.inl (hw _ (List.mem_of_getElem? (i := 20) rfl))) (Or.inl (hw _ (List.mem_of_getElem? (i := 13) rfl))) (by decide) (t := .int) (t' := .int) (by decide) (by decide)))
  have sz : h0.size ≤ h4.size := by rw [W4.size, W3.size]; exact E2.1
  subst e4
  refine o_retV X4 hx Bd.returns hlk (hb hby own_d1_17) ⟨rfl, N2, sz, b2, gb, ((E.ext E2).wr W3).wr W4, Fg4, Fn3.same W4, Fc4, ne.symm, B4⟩ (by decide) (by decide)
theorem own_d3_0 : decode prog_99_method_6_code 0 = .ok (.aload_n 0, 1) := by decide +kernel
theorem own_d3_1 : decode prog_99_method_6_code 1 = .ok (.getfield 20, 3) := by decide +kernel
theorem own_d3_4 : decode prog_99_method_6_code 4 = .ok (.aload_n 0, 1) := by decide +kernel
theorem own_d3_5 : decode prog_99_method_6_code 5 = .ok (.getfield 7, 3) := by decide +kernel
theorem own_d3_8 : decode prog_99_method_6_code 8 = .ok (.arraylength, 1) := by decide +kernel
theorem own_d3_9 : decode prog_99_method_6_code 9 = .ok (.if_icmp .ne 20, 3) := by decide +kernel
theorem own_d3_29 : decode prog_99_method_6_code 29 = .ok (.aload_n 0, 1) := by decide +kernel
theorem own_d3_30 : decode prog_99_method_6_code 30 = .ok (.getfield 7, 3) := by decide +kernel
theorem own_d3_33 : decode prog_99_method_6_code 33 = .ok (.aload_n 0, 1) := by decide +kernel
theorem own_d3_34 : decode prog_99_method_6_code 34 = .ok (.dup, 1) := by decide +kernel
theorem own_d3_35 : decode prog_99_method_6_code 35 = .ok (.getfield 20, 3) := by decide +kernel
theorem own_d3_38 : decode prog_99_method_6_code 38 = .ok (.dup_x1, 1) := by decide +kernel
theorem own_d3_39 : decode prog_99_method_6_code 39 = .ok (.iconst 1, 1) := by decide +kernel
theorem own_d3_40 : decode prog_99_method_6_code 40 = .ok (.iadd, 1) := by decide +kernel
theorem own_d3_41 : decode prog_99_method_6_code 41 = .ok (.putfield 20, 3) := by decide +kernel
theorem own_d3_44 : decode prog_99_method_6_code 44 = .ok (.iload_n 1, 1) := by decide +kernel
theorem own_d3_45 : decode prog_99_method_6_code 45 = .ok (.i2b, 1) := by decide +kernel
theorem own_d3_46 : decode prog_99_method_6_code 46 = .ok (.bastore, 1) := by decide +kernel
theorem own_d3_47 : decode prog_99_method_6_code 47 = .ok (.return_, 1) := by decide +kernel
theorem own_ef3 (m : MethodId) (x0 : Addr) (x1 : Int32) : entryFrame m #[(.ref x0), (.int x1)] 2 = mkF m 0 #[.val (.ref x0), .val (.int x1)] [] := by first | (simp [entryFrame, mkF, argsToLocals, Value.category]; done) | rfl
theorem own_pn3 : plainName "com/example/intact_tree/intacttree/ls/TreeWriter$Answers" = true := by first | (simp [plainName, overriddenIn]; done) | decide +kernel
set_option maxRecDepth 65536 in
set_option maxHeartbeats 40000000 in
theorem own_rm3 (l : Launch) (Z : State) (a0 : Array Value) (hw : ∀ d ∈ tables_1, d.before a0 Z = true) (ws : List Jvm.Cond) (a1 b1 : Addr) (p1 nx ci : Int32) (f : Nat → Int32) (h0 : Heap) (n0 : Nat) (ga : n0 ≤ a1) (gb : n0 ≤ b1) (hc : ¬ ci < 0 ∧ ci.toNatClampNeg < 64) (A : own_Ans Z h0 a1 b1 nx ci f) :
    own_Met l (⟨"com/example/intact_tree/intacttree/ls/TreeWriter$Answers", "record", "(S)V"⟩ : MethodName) prog_99_method_6_code 2 none ws ({ frames := 0, cells := 0, slots := 0, locals := 0 } : Room) Z h0 #[(.ref a1), (.int p1)] (fun v h L => v = none ∧ Fr n0 L ∧ h0.size ≤ h.size ∧ own_Ans Z h a1 b1 nx (ci + 1) (own_rec f ci.toNatClampNeg p1)) := by
  refine MetFree.of_bodySF (plainFor_of_name own_pn3) hisR ?_
  intro p e s m args below meth c s₁ Bd hml0 hP hK
  obtain ⟨rfl, hZ, hh⟩ := hP
  have hx := Bd.exec
  have hby := Bd.bytes
  have hml : c.maxLocals = 2 := hml0
  have hlk := Bd.notSynchronized
  have hown : s.vm.findClass "com/example/intact_tree/intacttree/ls/TreeWriter$Answers" = some m.cls := findClass_of_methodNamed Bd.named
  have hnm := (name_of_methodNamed Bd.named Bd.method).1
  have X0 : Stand p l e ({ frames := 0, cells := 0, slots := 0, locals := 0 } : Room) s m #[(.ref a1), (.int p1)] below meth c s₁ [] 0 0 := Stand.of_body Bd
  have e0 : s₁.heap = h0 := by rw [← hh, Bd.state]; rfl
  show own_Out p e below (own_P s (fun v h L => v = none ∧ Fr n0 L ∧ h0.size ≤ h.size ∧ own_Ans Z h a1 b1 nx (ci + 1) (own_rec f ci.toNatClampNeg p1)) ({ frames := 0, cells := 0, slots := 0, locals := 0 } : Room).cells ({ frames := 0, cells := 0, slots := 0, locals := 0 } : Room).slots) s₁ (entryFrame m #[(.ref a1), (.int p1)] 2)
  rw [own_ef3 m a1 p1]
  refine o_aloadN X0 hx (hb hby own_d3_0) rfl rfl (pc' := 1) rfl ?_
  refine o_getF X0 hx hZ hown (hw _ (List.mem_of_getElem? (i := 19) rfl)) e0 A.2.2.2.1 (hb hby own_d3_1) (pc' := 4) rfl ?_
  intro T1 X1 e1
  refine o_aloadN X1 hx (hb hby own_d3_4) rfl rfl (pc' := 5) rfl ?_
  refine o_getF X1 hx hZ hown (hw _ (List.mem_of_getElem? (i := 10) rfl)) e1 A.2.1 (hb hby own_d3_5) (pc' := 8) rfl ?_
  intro T2 X2 e2
  obtain ⟨cl, D1, D2, D3⟩ := A.2.2.2.2.2
  refine o_arraylength X2 hx hZ e2 D1 (n := 64) (by rw [D2]; rfl) (hb hby own_d3_8) (pc' := 9) rfl ?_
  refine o_icmp_ne X2 hx (hb hby own_d3_9) (pc' := 29) (pn := 12) (by decide) rfl (fun hq => ?_) (fun hq => ?_)
  rotate_left
  · subst hq; exact absurd hc.2 (by decide)
  refine o_aloadN X2 hx (hb hby own_d3_29) rfl rfl (pc' := 30) rfl ?_
  refine o_getF X2 hx hZ hown (hw _ (List.mem_of_getElem? (i := 10) rfl)) e2 A.2.1 (hb hby own_d3_30) (pc' := 33) rfl ?_
  intro T3 X3 e3
  refine o_aloadN X3 hx (hb hby own_d3_33) rfl rfl (pc' := 34) rfl ?_
  refine o_dup X3 hx (hb hby own_d3_34) rfl (pc' := 35) rfl ?_
  refine o_getF X3 hx hZ hown (hw _ (List.mem_of_getElem? (i := 19) rfl)) e3 A.2.2.2.1 (hb hby own_d3_35) (pc' := 38) rfl ?_
  intro T4 X4 e4
  refine o_dup_x1 X4 hx (hb hby own_d3_38) rfl rfl (pc' := 39) rfl ?_
  refine o_iconst X4 hx (hb hby own_d3_39) (v := 1) rfl (pc' := 40) rfl ?_
  refine o_iadd X4 hx (hb hby own_d3_40) (pc' := 41) rfl ?_
  refine o_putF X4 hx hZ hown (hw _ (List.mem_of_getElem? (i := 19) rfl)) e4 A.2.2.2.1 A.1 (Or.inl (hw _ (List.mem_of_getElem? (i := 20) rfl))) (hw _ (List.mem_of_getElem? (i := 1) rfl)) (ty := .int) (by decide) rfl rfl (hb hby own_d3_41) (pc' := 44) rfl ?_
  intro T5 h5 X5 e5 W5
  have N1 := Fr.snoc X5 (Fr.nil n0) ga
  have B1 := A.2.2.2.2.2.other W5 A.2.2.2.2.1.symm
  have Fg1 := A.2.1.other W5 (Or.inr (slot_ne (Or.inl (hw _ (List.mem_of_getElem? (i := 11) rfl))) (Or.inl (hw _ (List.mem_of_getElem? (i := 20) rfl))) (by decide) (t := (.array .byte)) (t' := .int) (by decide) (by decide)))
  have Fn1 := A.2.2.1.other W5 (Or.inr (slot_ne (Or.inl (hw _ (List.mem_of_getElem? (i := 13) rfl))) (Or.inl (hw _ (List.mem_of_getElem? (i := 20) rfl))) (by decide) (t := .int) (t' := .int) (by decide) (by decide)))
  have Fc1 := A.2.2.2.1.same W5
  refine o_iloadN X5 hx (hb hby own_d3_44) rfl (pc' := 45) rfl ?_
  refine o_i2b X5 hx (hb hby own_d3_45) (pc' := 46) rfl ?_
  refine own_stB X5 hx hZ e5 B1 N1 gb (own_rec f ci.toNatClampNeg p1) hc (hb hby own_d3_46) (pc' := 47) rfl (fun i hi => rfl) ?_
  intro T6 h6 lc X6 e6 W6 B2 N2
  have sz : h0.size ≤ h6.size := by rw [W6.size, W5.size]; exact Nat.le_refl _
  subst e6
  refine o_retV X6 hx Bd.returns hlk (hb hby own_d3_47) ⟨rfl, N2, sz, (A.1.wr W5).wr W6, Fg1.other W6 (Or.inl A.2.2.2.2.1), Fn1.other W6 (Or.inl A.2.2.2.2.1), Fc1.other W6 (Or.inl A.2.2.2.2.1), A.2.2.2.2.1, B2⟩ (by decide) (by decide)
theorem own_d4_0 : decode prog_99_method_3_code 0 = .ok (.aload_n 0, 1) := by decide +kernel
theorem own_d4_1 : decode prog_99_method_3_code 1 = .ok (.iconst 0, 1) := by decide +kernel
theorem own_d4_2 : decode prog_99_method_3_code 2 = .ok (.putfield 13, 3) := by decide +kernel
theorem own_d4_5 : decode prog_99_method_3_code 5 = .ok (.aload_n 0, 1) := by decide +kernel
theorem own_d4_6 : decode prog_99_method_3_code 6 = .ok (.areturn, 1) := by decide +kernel
theorem own_ef4 (m : MethodId) (x0 : Addr) : entryFrame m #[(.ref x0)] 1 = mkF m 0 #[.val (.ref x0)] [] := by first | (simp [entryFrame, mkF, argsToLocals, Value.category]; done) | rfl
theorem own_pn4 : plainName "com/example/intact_tree/intacttree/ls/TreeWriter$Answers" = true := by first | (simp [plainName, overriddenIn]; done) | decide +kernel
set_option maxRecDepth 65536 in
set_option maxHeartbeats 40000000 in
theorem own_rm4 (l : Launch) (Z : State) (a0 : Array Value) (hw : ∀ d ∈ tables_1, d.before a0 Z = true) (ws : List Jvm.Cond) (a1 b1 : Addr) (nx ci : Int32) (f : Nat → Int32) (h0 : Heap) (n0 : Nat) (ga : n0 ≤ a1) (A : own_Ans Z h0 a1 b1 nx ci f) :
    own_Met l (⟨"com/example/intact_tree/intacttree/ls/TreeWriter$Answers", "replayed", "()Lcom/example/intact_tree/intacttree/ls/TreeWriter$Answers;"⟩ : MethodName) prog_99_method_3_code 1 (some (.object "com/example/intact_tree/intacttree/ls/TreeWriter$Answers")) ws ({ frames := 0, cells := 0, slots := 0, locals := 0 } : Room) Z h0 #[(.ref a1)] (fun v h L => v = some (.ref a1) ∧ Fr n0 L ∧ h0.size ≤ h.size ∧ own_Ans Z h a1 b1 0 ci f) := by
  refine MetFree.of_bodySF (plainFor_of_name own_pn4) hisR ?_
  intro p e s m args below meth c s₁ Bd hml0 hP hK
  obtain ⟨rfl, hZ, hh⟩ := hP
  have hx := Bd.exec
  have hby := Bd.bytes
  have hml : c.maxLocals = 1 := hml0
  have hlk := Bd.notSynchronized
  have hown : s.vm.findClass "com/example/intact_tree/intacttree/ls/TreeWriter$Answers" = some m.cls := findClass_of_methodNamed Bd.named
  have hnm := (name_of_methodNamed Bd.named Bd.method).1
  have X0 : Stand p l e ({ frames := 0, cells := 0, slots := 0, locals := 0 } : Room) s m #[(.ref a1)] below meth c s₁ [] 0 0 := Stand.of_body Bd
  have e0 : s₁.heap = h0 := by rw [← hh, Bd.state]; rfl
  show own_Out p e below (own_P s (fun v h L => v = some (.ref a1) ∧ Fr n0 L ∧ h0.size ≤ h.size ∧ own_Ans Z h a1 b1 0 ci f) ({ frames := 0, cells := 0, slots := 0, locals := 0 } : Room).cells ({ frames := 0, cells := 0, slots := 0, locals := 0 } : Room).slots) s₁ (entryFrame m #[(.ref a1)] 1)
  rw [own_ef4 m a1]
  refine o_aloadN X0 hx (hb hby own_d4_0) rfl rfl (pc' := 1) rfl ?_
  refine o_iconst X0 hx (hb hby own_d4_1) (v := 0) rfl (pc' := 2) rfl ?_
  refine o_putF X0 hx hZ hown (hw _ (List.mem_of_getElem? (i := 12) rfl)) e0 A.2.2.1 A.1 (Or.inl (hw _ (List.mem_of_getElem? (i := 13) rfl))) (hw _ (List.mem_of_getElem? (i := 1) rfl)) (ty := .int) (by decide) rfl rfl (hb hby own_d4_2) (pc' := 5) rfl ?_
  intro T1 h1 X1 e1 W1
  have N1 := Fr.snoc X1 (Fr.nil n0) ga
  have sz : h0.size ≤ h1.size := by rw [W1.size]; exact Nat.le_refl _
  subst e1
  refine o_aloadN X1 hx (hb hby own_d4_5) rfl rfl (pc' := 6) rfl ?_
  refine o_retA X1 hx Bd.returns hlk rfl rfl rfl (hb hby own_d4_6) ⟨rfl, N1, sz, A.1.wr W1, A.2.1.other W1 (Or.inr (slot_ne (Or.inl (hw _ (List.mem_of_getElem? (i := 11) rfl))) (Or.inl (hw _ (List.mem_of_getElem? (i := 13) rfl))) (by decide) (t := (.array .byte)) (t' := .int) (by decide) (by decide))), A.2.2.1.same W1, A.2.2.2.1.other W1 (Or.inr (slot_ne (Or.inl (hw _ (List.mem_of_getElem? (i := 20) rfl))) (Or.inl (hw _ (List.mem_of_getElem? (i := 13) rfl))) (by decide) (t := .int) (t' := .int) (by decide) (by decide))), A.2.2.2.2.1, A.2.2.2.2.2.other W1 A.2.2.2.2.1.symm⟩ (by decide) (by decide)
theorem own_d5_0 : decode prog_99_method_2_code 0 = .ok (.aload_n 0, 1) := by decide +kernel
theorem own_d5_1 : decode prog_99_method_2_code 1 = .ok (.getfield 13, 3) := by decide +kernel
theorem own_d5_4 : decode prog_99_method_2_code 4 = .ok (.ifCond .lt 7, 3) := by decide +kernel
theorem own_d5_7 : decode prog_99_method_2_code 7 = .ok (.iconst 1, 1) := by decide +kernel
theorem own_d5_8 : decode prog_99_method_2_code 8 = .ok (.goto 4, 3) := by decide +kernel
theorem own_d5_11 : decode prog_99_method_2_code 11 = .ok (.iconst 0, 1) := by decide +kernel
theorem own_d5_12 : decode prog_99_method_2_code 12 = .ok (.ireturn, 1) := by decide +kernel
theorem own_ef5 (m : MethodId) (x0 : Addr) : entryFrame m #[(.ref x0)] 1 = mkF m 0 #[.val (.ref x0)] [] := by first | (simp [entryFrame, mkF, argsToLocals, Value.category]; done) | rfl
theorem own_pn5 : plainName "com/example/intact_tree/intacttree/ls/TreeWriter$Answers" = true := by first | (simp [plainName, overriddenIn]; done) | decide +kernel
set_option maxRecDepth 65536 in
set_option maxHeartbeats 40000000 in
theorem own_rm5 (l : Launch) (Z : State) (a0 : Array Value) (hw : ∀ d ∈ tables_1, d.before a0 Z = true) (ws : List Jvm.Cond) (a1 b1 : Addr) (nx ci : Int32) (f : Nat → Int32) (h0 : Heap) (A : own_Ans Z h0 a1 b1 nx ci f) :
    own_Met l (⟨"com/example/intact_tree/intacttree/ls/TreeWriter$Answers", "replaying", "()Z"⟩ : MethodName) prog_99_method_2_code 1 (some .boolean) ws ({ frames := 0, cells := 0, slots := 0, locals := 0 } : Room) Z h0 #[(.ref a1)] (own_Pure (.int (own_b (¬ nx < 0))) h0) := by
  refine MetFree.of_bodySF (plainFor_of_name own_pn5) hisR ?_
  intro p e s m args below meth c s₁ Bd hml0 hP hK
  obtain ⟨rfl, hZ, hh⟩ := hP
  have hx := Bd.exec
  have hby := Bd.bytes
  have hml : c.maxLocals = 1 := hml0
  have hlk := Bd.notSynchronized
  have hown : s.vm.findClass "com/example/intact_tree/intacttree/ls/TreeWriter$Answers" = some m.cls := findClass_of_methodNamed Bd.named
  have hnm := (name_of_methodNamed Bd.named Bd.method).1
  have X0 : Stand p l e ({ frames := 0, cells := 0, slots := 0, locals := 0 } : Room) s m #[(.ref a1)] below meth c s₁ [] 0 0 := Stand.of_body Bd
  have e0 : s₁.heap = h0 := by rw [← hh, Bd.state]; rfl
  show own_Out p e below (own_P s (own_Pure (.int (own_b (¬ nx < 0))) h0) ({ frames := 0, cells := 0, slots := 0, locals := 0 } : Room).cells ({ frames := 0, cells := 0, slots := 0, locals := 0 } : Room).slots) s₁ (entryFrame m #[(.ref a1)] 1)
  rw [own_ef5 m a1]
  refine o_aloadN X0 hx (hb hby own_d5_0) rfl rfl (pc' := 1) rfl ?_
  refine o_getF X0 hx hZ hown (hw _ (List.mem_of_getElem? (i := 12) rfl)) e0 A.2.2.1 (hb hby own_d5_1) (pc' := 4) rfl ?_
  intro T1 X1 e1
  refine o_if_lt X1 hx (hb hby own_d5_4) (pc' := 11) (pn := 7) (by decide) rfl (fun hq => ?_) (fun hq => ?_)
  · refine o_iconst X1 hx (hb hby own_d5_11) (v := 0) rfl (pc' := 12) rfl ?_
    refine o_retN X1 hx (t := .boolean) Bd.returns hlk (by simp) (hb hby own_d5_12) (v := _) ?_ ⟨rfl, rfl, e1⟩ (by decide) (by decide)
    exact own_r0.trans (own_bf (fun z => z hq)).symm
  · refine o_iconst X1 hx (hb hby own_d5_7) (v := 1) rfl (pc' := 8) rfl ?_
    refine o_goto X1 hx (hb hby own_d5_8) (pc' := 12) (by decide) ?_
    refine o_retN X1 hx (t := .boolean) Bd.returns hlk (by simp) (hb hby own_d5_12) (v := _) ?_ ⟨rfl, rfl, e1⟩ (by decide) (by decide)
    exact own_r1.trans (own_bt hq).symm
theorem own_d6_0 : decode prog_99_method_7_code 0 = .ok (.aload_n 0, 1) := by decide +kernel
theorem own_d6_1 : decode prog_99_method_7_code 1 = .ok (.getfield 13, 3) := by decide +kernel
theorem own_d6_4 : decode prog_99_method_7_code 4 = .ok (.aload_n 0, 1) := by decide +kernel
theorem own_d6_5 : decode prog_99_method_7_code 5 = .ok (.getfield 20, 3) := by decide +kernel
theorem own_d6_8 : decode prog_99_method_7_code 8 = .ok (.if_icmp .ne 15, 3) := by decide +kernel
theorem own_d6_23 : decode prog_99_method_7_code 23 = .ok (.aload_n 0, 1) := by decide +kernel
theorem own_d6_24 : decode prog_99_method_7_code 24 = .ok (.getfield 7, 3) := by decide +kernel
theorem own_d6_27 : decode prog_99_method_7_code 27 = .ok (.aload_n 0, 1) := by decide +kernel
theorem own_d6_28 : decode prog_99_method_7_code 28 = .ok (.dup, 1) := by decide +kernel
theorem own_d6_29 : decode prog_99_method_7_code 29 = .ok (.getfield 13, 3) := by decide +kernel
theorem own_d6_32 : decode prog_99_method_7_code 32 = .ok (.dup_x1, 1) := by decide +kernel
theorem own_d6_33 : decode prog_99_method_7_code 33 = .ok (.iconst 1, 1) := by decide +kernel
theorem own_d6_34 : decode prog_99_method_7_code 34 = .ok (.iadd, 1) := by decide +kernel
theorem own_d6_35 : decode prog_99_method_7_code 35 = .ok (.putfield 13, 3) := by decide +kernel
theorem own_d6_38 : decode prog_99_method_7_code 38 = .ok (.baload, 1) := by decide +kernel
theorem own_d6_39 : decode prog_99_method_7_code 39 = .ok (.i2s, 1) := by decide +kernel
theorem own_d6_40 : decode prog_99_method_7_code 40 = .ok (.ireturn, 1) := by decide +kernel
theorem own_ef6 (m : MethodId) (x0 : Addr) : entryFrame m #[(.ref x0)] 1 = mkF m 0 #[.val (.ref x0)] [] := by first | (simp [entryFrame, mkF, argsToLocals, Value.category]; done) | rfl
theorem own_pn6 : plainName "com/example/intact_tree/intacttree/ls/TreeWriter$Answers" = true := by first | (simp [plainName, overriddenIn]; done) | decide +kernel
set_option maxRecDepth 65536 in
set_option maxHeartbeats 40000000 in
theorem own_rm6 (l : Launch) (Z : State) (a0 : Array Value) (hw : ∀ d ∈ tables_1, d.before a0 Z = true) (ws : List Jvm.Cond) (a1 b1 : Addr) (nx ci : Int32) (f : Nat → Int32) (h0 : Heap) (n0 : Nat) (ga : n0 ≤ a1) (hn : ¬ nx = ci) (hc : ¬ nx < 0 ∧ nx.toNatClampNeg < 64) (A : own_Ans Z h0 a1 b1 nx ci f) :
    own_Met l (⟨"com/example/intact_tree/intacttree/ls/TreeWriter$Answers", "next", "()S"⟩ : MethodName) prog_99_method_7_code 1 (some .short) ws ({ frames := 0, cells := 0, slots := 0, locals := 0 } : Room) Z h0 #[(.ref a1)] (fun v h L => v = some (.int (own_sh (f nx.toNatClampNeg))) ∧ Fr n0 L ∧ h0.size ≤ h.size ∧ own_Ans Z h a1 b1 (nx + 1) ci f) := by
  refine MetFree.of_bodySF (plainFor_of_name own_pn6) hisR ?_
  intro p e s m args below meth c s₁ Bd hml0 hP hK
  obtain ⟨rfl, hZ, hh⟩ := hP
  have hx := Bd.exec
  have hby := Bd.bytes
  have hml : c.maxLocals = 1 := hml0
  have hlk := Bd.notSynchronized
  have hown : s.vm.findClass "com/example/intact_tree/intacttree/ls/TreeWriter$Answers" = some m.cls := findClass_of_methodNamed Bd.named
  have hnm := (name_of_methodNamed Bd.named Bd.method).1
  have X0 : Stand p l e ({ frames := 0, cells := 0, slots := 0, locals := 0 } : Room) s m #[(.ref a1)] below meth c s₁ [] 0 0 := Stand.of_body Bd
  have e0 : s₁.heap = h0 := by rw [← hh, Bd.state]; rfl
  show own_Out p e below (own_P s (fun v h L => v = some (.int (own_sh (f nx.toNatClampNeg))) ∧ Fr n0 L ∧ h0.size ≤ h.size ∧ own_Ans Z h a1 b1 (nx + 1) ci f) ({ frames := 0, cells := 0, slots := 0, locals := 0 } : Room).cells ({ frames := 0, cells := 0, slots := 0, locals := 0 } : Room).slots) s₁ (entryFrame m #[(.ref a1)] 1)
  rw [own_ef6 m a1]
  refine o_aloadN X0 hx (hb hby own_d6_0) rfl rfl (pc' := 1) rfl ?_
  refine o_getF X0 hx hZ hown (hw _ (List.mem_of_getElem? (i := 12) rfl)) e0 A.2.2.1 (hb hby own_d6_1) (pc' := 4) rfl ?_
  intro T1 X1 e1
  refine o_aloadN X1 hx (hb hby own_d6_4) rfl rfl (pc' := 5) rfl ?_
  refine o_getF X1 hx hZ hown (hw _ (List.mem_of_getElem? (i := 19) rfl)) e1 A.2.2.2.1 (hb hby own_d6_5) (pc' := 8) rfl ?_
  intro T2 X2 e2
  refine o_icmp_ne X2 hx (hb hby own_d6_8) (pc' := 23) (pn := 11) (by decide) rfl (fun hq => ?_) (fun hq => ?_)
  rotate_left
  · exact absurd hq hn
  refine o_aloadN X2 hx (hb hby own_d6_23) rfl rfl (pc' := 24) rfl ?_
  refine o_getF X2 hx hZ hown (hw _ (List.mem_of_getElem? (i := 10) rfl)) e2 A.2.1 (hb hby own_d6_24) (pc' := 27) rfl ?_
  intro T3 X3 e3
  refine o_aloadN X3 hx (hb hby own_d6_27) rfl rfl (pc' := 28) rfl ?_
  refine o_dup X3 hx (hb hby own_d6_28) rfl (pc' := 29) rfl ?_
  refine o_getF X3 hx hZ hown (hw _ (List.mem_of_getElem? (i := 12) rfl)) e3 A.2.2.1 (hb hby own_d6_29) (pc' := 32) rfl ?_
  intro T4 X4 e4
  refine o_dup_x1 X4 hx (hb hby own_d6_32) rfl rfl (pc' := 33) rfl ?_
  refine o_iconst X4 hx (hb hby own_d6_33) (v := 1) rfl (pc' := 34) rfl ?_
  refine o_iadd X4 hx (hb hby own_d6_34) (pc' := 35) rfl ?_
  refine o_putF X4 hx hZ hown (hw _ (List.mem_of_getElem? (i := 12) rfl)) e4 A.2.2.1 A.1 (Or.inl (hw _ (List.mem_of_getElem? (i := 13) rfl))) (hw _ (List.mem_of_getElem? (i := 1) rfl)) (ty := .int) (by decide) rfl rfl (hb hby own_d6_35) (pc' := 38) rfl ?_
  intro T5 h5 X5 e5 W5
  have N1 := Fr.snoc X5 (Fr.nil n0) ga
  have B1 := A.2.2.2.2.2.other W5 A.2.2.2.2.1.symm
  refine own_ldB X5 hx hZ e5 B1 _ hc rfl (hb hby own_d6_38) (pc' := 39) rfl ?_
  refine o_i2s X5 hx (hb hby own_d6_39) (pc' := 40) rfl ?_
  have sz : h0.size ≤ h5.size := by rw [W5.size]; exact Nat.le_refl _
  subst e5
  refine o_retN X5 hx (t := .short) Bd.returns hlk (by simp) (hb hby own_d6_40) rfl ⟨rfl, N1, sz, A.1.wr W5, A.2.1.other W5 (Or.inr (slot_ne (Or.inl (hw _ (List.mem_of_getElem? (i := 11) rfl))) (Or.inl (hw _ (List.mem_of_getElem? (i := 13) rfl))) (by decide) (t := (.array .byte)) (t' := .int) (by decide) (by decide))), A.2.2.1.same W5, A.2.2.2.1.other W5 (Or.inr (slot_ne (Or.inl (hw _ (List.mem_of_getElem? (i := 20) rfl))) (Or.inl (hw _ (List.mem_of_getElem? (i := 13) rfl))) (by decide) (t := .int) (t' := .int) (by decide) (by decide))), A.2.2.2.2.1, B1⟩ (by decide) (by decide)
theorem own_ef0 (m : MethodId) (x0 : Int32) (x1 : Int32) (x2 : Int32) (x3 : Int32) : entryFrame m #[(.int x0), (.int x1), (.int x2), (.int x3)] maxLocals = mkF m 0 #[.val (.int x0), .val (.int x1), .val (.int x2), .val (.int x3), .unset, .unset, .unset, .unset, .unset, .unset, .unset, .unset] [] := by first | (simp [entryFrame, mkF, argsToLocals, Value.category, maxLocals]; done) | rfl
theorem own_pn0 : plainName "com/example/intact_tree/intacttree/ls/TreeWriterAnswersNextPinLaw" = true := by first | (simp [plainName, overriddenIn]; done) | decide +kernel
set_option maxRecDepth 65536 in
set_option maxHeartbeats 40000000 in
theorem own_rm0 (l : Launch) (Z : State) (a0 : Array Value) (hw : ∀ d ∈ tables_1, d.before a0 Z = true) (ws : List Jvm.Cond) (p1 p2 p3 p4 : Int32) (h0 : Heap)  :
    MetFree l x (head1 (Jvm.Cond.code x code maxLocals ret :: ws) room_1) (fun a U => a = #[(.int p1), (.int p2), (.int p3), (.int p4)] ∧ Z.Warmed39 U.vm ∧ U.heap = h0) (fun _ _ _ _ _ => True) (fun _ U o U' => ∃ v L, o = .returned v ∧ (fun v _ L => v = some (.int 1) ∧ Fr h0.size L) v U'.heap L ∧ FrameEnd U o U' L room_1.cells room_1.slots) := by
  refine MetFree.of_bodySF (plainFor_of_name own_pn0) hisR ?_
  intro p e s m args below meth c s₁ Bd hml0 hP hK
  obtain ⟨rfl, hZ, hh⟩ := hP
  have hx := Bd.exec
  have hby := Bd.bytes
  have hml : c.maxLocals = 12 := hml0
  have hlk := Bd.notSynchronized
  have hown : s.vm.findClass "com/example/intact_tree/intacttree/ls/TreeWriterAnswersNextPinLaw" = some m.cls := findClass_of_methodNamed Bd.named
  have hnm := (name_of_methodNamed Bd.named Bd.method).1
  have X0 : Stand p l e room_1 s m #[(.int p1), (.int p2), (.int p3), (.int p4)] below meth c s₁ [] 0 0 := Stand.of_body Bd
  have e0 : s₁.heap = h0 := by rw [← hh, Bd.state]; rfl
  show own_Out p e below (own_P s (fun v _ L => v = some (.int 1) ∧ Fr h0.size L) room_1.cells room_1.slots) s₁ (entryFrame m #[(.int p1), (.int p2), (.int p3), (.int p4)] maxLocals)
  rw [own_ef0 m p1 p2 p3 p4]
  refine o_iloadN X0 hx (hb hby at_0) rfl (pc' := 1) rfl ?_
  refine o_iconst X0 hx (hb hby at_1) (v := 3) rfl (pc' := 2) rfl ?_
  refine o_iand X0 hx (hb hby at_2) (pc' := 3) rfl ?_
  refine o_istore X0 hx (hb hby at_3) (Ls' := #[.val (.int p1), .val (.int p2), .val (.int p3), .val (.int p4), .val (.int (p4 &&& (3 : Int32))), .unset, .unset, .unset, .unset, .unset, .unset, .unset]) rfl (pc' := 5) rfl ?_
  refine o_iloadN X0 hx (hb hby at_5) rfl (pc' := 6) rfl ?_
  refine o_i2b X0 hx (hb hby at_6) (pc' := 7) rfl ?_
  refine o_i2s X0 hx (hb hby at_7) (pc' := 8) rfl ?_
  refine o_istore X0 hx (hb hby at_8) (Ls' := #[.val (.int p1), .val (.int p2), .val (.int p3), .val (.int p4), .val (.int (p4 &&& (3 : Int32))), .val (.int ((p1.toInt8.toInt32).toInt16.toInt32)), .unset, .unset, .unset, .unset, .unset, .unset]) rfl (pc' := 10) rfl ?_
  refine o_iloadN X0 hx (hb hby at_10) rfl (pc' := 11) rfl ?_
  refine o_i2b X0 hx (hb hby at_11) (pc' := 12) rfl ?_
  refine o_i2s X0 hx (hb hby at_12) (pc' := 13) rfl ?_
  refine o_istore X0 hx (hb hby at_13) (Ls' := #[.val (.int p1), .val (.int p2), .val (.int p3), .val (.int p4), .val (.int (p4 &&& (3 : Int32))), .val (.int ((p1.toInt8.toInt32).toInt16.toInt32)), .val (.int ((p2.toInt8.toInt32).toInt16.toInt32)), .unset, .unset, .unset, .unset, .unset]) rfl (pc' := 15) rfl ?_
  refine o_iloadN X0 hx (hb hby at_15) rfl (pc' := 16) rfl ?_
  refine o_i2b X0 hx (hb hby at_16) (pc' := 17) rfl ?_
  refine o_i2s X0 hx (hb hby at_17) (pc' := 18) rfl ?_
  refine o_istore X0 hx (hb hby at_18) (Ls' := #[.val (.int p1), .val (.int p2), .val (.int p3), .val (.int p4), .val (.int (p4 &&& (3 : Int32))), .val (.int ((p1.toInt8.toInt32).toInt16.toInt32)), .val (.int ((p2.toInt8.toInt32).toInt16.toInt32)), .val (.int ((p3.toInt8.toInt32).toInt16.toInt32)), .unset, .unset, .unset, .unset]) rfl (pc' := 20) rfl ?_
  refine o_new X0 hx hZ hown (hw _ (List.mem_of_getElem? (i := 0) rfl)) (hw _ (List.mem_of_getElem? (i := 1) rfl)) (hw _ (List.mem_of_getElem? (i := 2) rfl)) e0 (hb hby at_20) (by decide) (by decide) (pc' := 23) rfl ?_
  intro T1 h1 aa X1 e1 E1 g1 A1 D1
  have ga : h0.size ≤ aa := Nat.le_of_eq g1.symm
  refine o_dup X1 hx (hb hby at_23) rfl (pc' := 24) rfl ?_
  refine o_callI X1 hx hZ (y := (⟨"com/example/intact_tree/intacttree/ls/TreeWriter$Answers", "<init>", "()V"⟩ : MethodName)) (as' := []) (a := aa) rfl hown (hw _ (List.mem_of_getElem? (i := 3) rfl)) (hw _ (List.mem_of_getElem? (i := 4) rfl)) (hw _ (List.mem_of_getElem? (i := 2) rfl)) (hw _ (List.mem_of_getElem? (i := 5) rfl)) (by decide) e1 (own_rm1 l Z a0 hw [] aa h1 h0.size _ _ E1.1 ga A1 (D1 (Or.inl (hw _ (List.mem_of_getElem? (i := 11) rfl))) (ty := (.array .byte)) (by decide)) (D1 (Or.inl (hw _ (List.mem_of_getElem? (i := 13) rfl))) (ty := .int) (by decide)) (D1 (Or.inl (hw _ (List.mem_of_getElem? (i := 20) rfl))) (ty := .int) (by decide))) (by rw [hml]; rfl) own_pd0 rfl (W := 1) (Nat.le_of_eq rfl) (by decide) (by decide) (hb hby at_24) (by decide) (by decide) (pc' := 27) rfl (S := [(.ref aa)]) rfl ?_
  rintro _ U1 L1 Y1 ⟨rfl, N, z1, bb, gb, A⟩
  show own_Out p e below _ U1 (mkF m 27 #[.val (.int p1), .val (.int p2), .val (.int p3), .val (.int p4), .val (.int (p4 &&& (3 : Int32))), .val (.int ((p1.toInt8.toInt32).toInt16.toInt32)), .val (.int ((p2.toInt8.toInt32).toInt16.toInt32)), .val (.int ((p3.toInt8.toInt32).toInt16.toInt32)), .unset, .unset, .unset, .unset] [(.ref aa)])
  refine o_astore Y1 hx (hb hby at_27) rfl (Ls' := #[.val (.int p1), .val (.int p2), .val (.int p3), .val (.int p4), .val (.int (p4 &&& (3 : Int32))), .val (.int ((p1.toInt8.toInt32).toInt16.toInt32)), .val (.int ((p2.toInt8.toInt32).toInt16.toInt32)), .val (.int ((p3.toInt8.toInt32).toInt16.toInt32)), .val (.ref aa), .unset, .unset, .unset]) rfl (pc' := 29) rfl ?_
  rcases own_k3 p4 with hk | hk | hk | hk
  · rw [hk]
    refine o_iload Y1 hx (hb hby at_29) rfl (pc' := 31) rfl ?_
    refine o_iconst Y1 hx (hb hby at_31) (v := 1) rfl (pc' := 32) rfl ?_
    refine o_icmp_lt Y1 hx (hb hby at_32) (pc' := 42) (pn := 35) (by decide) rfl (fun hc => ?_) (fun hc => ?_)
    rotate_left
    · exact absurd hc (by decide)
    refine o_iload Y1 hx (hb hby at_42) rfl (pc' := 44) rfl ?_
    refine o_iconst Y1 hx (hb hby at_44) (v := 2) rfl (pc' := 45) rfl ?_
    refine o_icmp_lt Y1 hx (hb hby at_45) (pc' := 55) (pn := 48) (by decide) rfl (fun hc => ?_) (fun hc => ?_)
    rotate_left
    · exact absurd hc (by decide)
    refine o_iload Y1 hx (hb hby at_55) rfl (pc' := 57) rfl ?_
    refine o_iconst Y1 hx (hb hby at_57) (v := 3) rfl (pc' := 58) rfl ?_
    refine o_icmp_lt Y1 hx (hb hby at_58) (pc' := 68) (pn := 61) (by decide) rfl (fun hc => ?_) (fun hc => ?_)
    rotate_left
    · exact absurd hc (by decide)
    refine o_aload Y1 hx (hb hby at_68) rfl rfl (pc' := 70) rfl ?_
    refine o_callV Y1 hx hZ (y := (⟨"com/example/intact_tree/intacttree/ls/TreeWriter$Answers", "replayed", "()Lcom/example/intact_tree/intacttree/ls/TreeWriter$Answers;"⟩ : MethodName)) (as' := []) (b := aa) (C := "com/example/intact_tree/intacttree/ls/TreeWriter$Answers") hown (hw _ (List.mem_of_getElem? (i := 21) rfl)) (hw _ (List.mem_of_getElem? (i := 22) rfl)) (hw _ (List.mem_of_getElem? (i := 24) rfl)) (hw _ (List.mem_of_getElem? (i := 23) rfl)) (hw _ (List.mem_of_getElem? (i := 2) rfl)) (hw _ (List.mem_of_getElem? (i := 25) rfl)) (by decide) rfl A.1 (own_rm4 l Z a0 hw [] aa bb (-1) (0 : Int32) (fun _ => 0) U1.heap h0.size ga A) (by rw [hml]; rfl) own_pd1 rfl (W := 0) (Nat.le_of_eq rfl) (by decide) (by decide) (hb hby at_70) (by decide) (by decide) (pc' := 73) rfl (S := []) rfl ?_
    rintro _ U2 L2 Y2 ⟨rfl, M2, z2, A⟩
    replace N := Fr.app N M2
    show own_Out p e below _ U2 (mkF m 73 #[.val (.int p1), .val (.int p2), .val (.int p3), .val (.int p4), .val (.int (0 : Int32)), .val (.int ((p1.toInt8.toInt32).toInt16.toInt32)), .val (.int ((p2.toInt8.toInt32).toInt16.toInt32)), .val (.int ((p3.toInt8.toInt32).toInt16.toInt32)), .val (.ref aa), .unset, .unset, .unset] [(.ref aa)])
    refine o_astore Y2 hx (hb hby at_73) rfl (Ls' := #[.val (.int p1), .val (.int p2), .val (.int p3), .val (.int p4), .val (.int (0 : Int32)), .val (.int ((p1.toInt8.toInt32).toInt16.toInt32)), .val (.int ((p2.toInt8.toInt32).toInt16.toInt32)), .val (.int ((p3.toInt8.toInt32).toInt16.toInt32)), .val (.ref aa), .val (.ref aa), .unset, .unset]) rfl (pc' := 75) rfl ?_
    refine o_aload Y2 hx (hb hby at_75) rfl rfl (pc' := 77) rfl ?_
    refine o_aload Y2 hx (hb hby at_77) rfl rfl (pc' := 79) rfl ?_
    refine o_acmp_ne Y2 hx (hb hby at_79) (pc' := 94) (pn := 82) (by decide) rfl (fun hc => ?_) (fun hc => ?_)
    · exact absurd rfl hc
    refine o_aload Y2 hx (hb hby at_82) rfl rfl (pc' := 84) rfl ?_
    refine o_callV Y2 hx hZ (y := (⟨"com/example/intact_tree/intacttree/ls/TreeWriter$Answers", "replaying", "()Z"⟩ : MethodName)) (as' := []) (b := aa) (C := "com/example/intact_tree/intacttree/ls/TreeWriter$Answers") hown (hw _ (List.mem_of_getElem? (i := 26) rfl)) (hw _ (List.mem_of_getElem? (i := 27) rfl)) (hw _ (List.mem_of_getElem? (i := 29) rfl)) (hw _ (List.mem_of_getElem? (i := 28) rfl)) (hw _ (List.mem_of_getElem? (i := 2) rfl)) (hw _ (List.mem_of_getElem? (i := 30) rfl)) (by decide) rfl A.1 (own_rm5 l Z a0 hw [] aa bb 0 (0 : Int32) (fun _ => 0) U2.heap A) (by rw [hml]; rfl) own_pd2 rfl (W := 0) (Nat.le_of_eq rfl) (by decide) (by decide) (hb hby at_84) (by decide) (by decide) (pc' := 87) rfl (S := []) rfl ?_
    intro v3 T3 L3 X3 q3
    obtain ⟨rfl, X3, e3⟩ := own_pure rfl rfl X3 q3
    show own_Out p e below _ T3 (mkF m 87 #[.val (.int p1), .val (.int p2), .val (.int p3), .val (.int p4), .val (.int (0 : Int32)), .val (.int ((p1.toInt8.toInt32).toInt16.toInt32)), .val (.int ((p2.toInt8.toInt32).toInt16.toInt32)), .val (.int ((p3.toInt8.toInt32).toInt16.toInt32)), .val (.ref aa), .val (.ref aa), .unset, .unset] [(.int (own_b (¬ (0 : Int32) < 0)))])
    rw [own_bt (q := ¬ (0 : Int32) < 0) (by decide)]
    rw [← e3] at A
    refine o_if_eq X3 hx (hb hby at_87) (pc' := 94) (pn := 90) (by decide) rfl (fun hc => ?_) (fun hc => ?_)
    · exact absurd hc (by decide)
    refine o_iconst X3 hx (hb hby at_90) (v := 1) rfl (pc' := 91) rfl ?_
    refine o_goto X3 hx (hb hby at_91) (pc' := 95) (by decide) ?_
    refine o_istore X3 hx (hb hby at_95) (Ls' := #[.val (.int p1), .val (.int p2), .val (.int p3), .val (.int p4), .val (.int (0 : Int32)), .val (.int ((p1.toInt8.toInt32).toInt16.toInt32)), .val (.int ((p2.toInt8.toInt32).toInt16.toInt32)), .val (.int ((p3.toInt8.toInt32).toInt16.toInt32)), .val (.ref aa), .val (.ref aa), .val (.int (1 : Int32)), .unset]) rfl (pc' := 97) rfl ?_
    refine o_iload X3 hx (hb hby at_97) rfl (pc' := 99) rfl ?_
    refine o_iconst X3 hx (hb hby at_99) (v := 1) rfl (pc' := 100) rfl ?_
    refine o_icmp_lt X3 hx (hb hby at_100) (pc' := 129) (pn := 103) (by decide) rfl (fun hc => ?_) (fun hc => ?_)
    rotate_left
    · exact absurd hc (by decide)
    refine o_iload X3 hx (hb hby at_129) rfl (pc' := 131) rfl ?_
    refine o_iconst X3 hx (hb hby at_131) (v := 2) rfl (pc' := 132) rfl ?_
    refine o_icmp_lt X3 hx (hb hby at_132) (pc' := 161) (pn := 135) (by decide) rfl (fun hc => ?_) (fun hc => ?_)
    rotate_left
    · exact absurd hc (by decide)
    refine o_iload X3 hx (hb hby at_161) rfl (pc' := 163) rfl ?_
    refine o_iconst X3 hx (hb hby at_163) (v := 3) rfl (pc' := 164) rfl ?_
    refine o_icmp_lt X3 hx (hb hby at_164) (pc' := 193) (pn := 167) (by decide) rfl (fun hc => ?_) (fun hc => ?_)
    rotate_left
    · exact absurd hc (by decide)
    refine o_iload X3 hx (hb hby at_193) rfl (pc' := 195) rfl ?_
    refine o_retN X3 hx (t := .boolean) Bd.returns hlk (by simp) (hb hby at_195) rfl ⟨rfl, N⟩ (by decide) (by decide)
  · rw [hk]
    refine o_iload Y1 hx (hb hby at_29) rfl (pc' := 31) rfl ?_
    refine o_iconst Y1 hx (hb hby at_31) (v := 1) rfl (pc' := 32) rfl ?_
    refine o_icmp_lt Y1 hx (hb hby at_32) (pc' := 42) (pn := 35) (by decide) rfl (fun hc => ?_) (fun hc => ?_)
    · exact absurd hc (by decide)
    refine o_aload Y1 hx (hb hby at_35) rfl rfl (pc' := 37) rfl ?_
    refine o_iload Y1 hx (hb hby at_37) rfl (pc' := 39) rfl ?_
    refine o_callV Y1 hx hZ (y := (⟨"com/example/intact_tree/intacttree/ls/TreeWriter$Answers", "record", "(S)V"⟩ : MethodName)) (as' := [(.int ((p1.toInt8.toInt32).toInt16.toInt32))]) (b := aa) (C := "com/example/intact_tree/intacttree/ls/TreeWriter$Answers") hown (hw _ (List.mem_of_getElem? (i := 14) rfl)) (hw _ (List.mem_of_getElem? (i := 15) rfl)) (hw _ (List.mem_of_getElem? (i := 17) rfl)) (hw _ (List.mem_of_getElem? (i := 16) rfl)) (hw _ (List.mem_of_getElem? (i := 2) rfl)) (hw _ (List.mem_of_getElem? (i := 18) rfl)) (by decide) rfl A.1 (own_rm3 l Z a0 hw [] aa bb ((p1.toInt8.toInt32).toInt16.toInt32) (-1) (0 : Int32) (fun _ => 0) U1.heap h0.size ga gb (by decide) A) (by rw [hml]; rfl) own_pd3 rfl (W := 0) (Nat.le_of_eq rfl) (by decide) (by decide) (hb hby at_39) (by decide) (by decide) (pc' := 42) rfl (S := []) rfl ?_
    rintro _ U4 L4 Y4 ⟨rfl, M4, z4, A⟩
    replace N := Fr.app N M4
    show own_Out p e below _ U4 (mkF m 42 #[.val (.int p1), .val (.int p2), .val (.int p3), .val (.int p4), .val (.int (1 : Int32)), .val (.int ((p1.toInt8.toInt32).toInt16.toInt32)), .val (.int ((p2.toInt8.toInt32).toInt16.toInt32)), .val (.int ((p3.toInt8.toInt32).toInt16.toInt32)), .val (.ref aa), .unset, .unset, .unset] [])
    refine o_iload Y4 hx (hb hby at_42) rfl (pc' := 44) rfl ?_
    refine o_iconst Y4 hx (hb hby at_44) (v := 2) rfl (pc' := 45) rfl ?_
    refine o_icmp_lt Y4 hx (hb hby at_45) (pc' := 55) (pn := 48) (by decide) rfl (fun hc => ?_) (fun hc => ?_)
    rotate_left
    · exact absurd hc (by decide)
    refine o_iload Y4 hx (hb hby at_55) rfl (pc' := 57) rfl ?_
    refine o_iconst Y4 hx (hb hby at_57) (v := 3) rfl (pc' := 58) rfl ?_
    refine o_icmp_lt Y4 hx (hb hby at_58) (pc' := 68) (pn := 61) (by decide) rfl (fun hc => ?_) (fun hc => ?_)
    rotate_left
    · exact absurd hc (by decide)
    refine o_aload Y4 hx (hb hby at_68) rfl rfl (pc' := 70) rfl ?_
    refine o_callV Y4 hx hZ (y := (⟨"com/example/intact_tree/intacttree/ls/TreeWriter$Answers", "replayed", "()Lcom/example/intact_tree/intacttree/ls/TreeWriter$Answers;"⟩ : MethodName)) (as' := []) (b := aa) (C := "com/example/intact_tree/intacttree/ls/TreeWriter$Answers") hown (hw _ (List.mem_of_getElem? (i := 21) rfl)) (hw _ (List.mem_of_getElem? (i := 22) rfl)) (hw _ (List.mem_of_getElem? (i := 24) rfl)) (hw _ (List.mem_of_getElem? (i := 23) rfl)) (hw _ (List.mem_of_getElem? (i := 2) rfl)) (hw _ (List.mem_of_getElem? (i := 25) rfl)) (by decide) rfl A.1 (own_rm4 l Z a0 hw [] aa bb (-1) ((0 : Int32) + 1) (own_rec (fun _ => 0) ((0 : Int32)).toNatClampNeg ((p1.toInt8.toInt32).toInt16.toInt32)) U4.heap h0.size ga A) (by rw [hml]; rfl) own_pd1 rfl (W := 0) (Nat.le_of_eq rfl) (by decide) (by decide) (hb hby at_70) (by decide) (by decide) (pc' := 73) rfl (S := []) rfl ?_
    rintro _ U5 L5 Y5 ⟨rfl, M5, z5, A⟩
    replace N := Fr.app N M5
    show own_Out p e below _ U5 (mkF m 73 #[.val (.int p1), .val (.int p2), .val (.int p3), .val (.int p4), .val (.int (1 : Int32)), .val (.int ((p1.toInt8.toInt32).toInt16.toInt32)), .val (.int ((p2.toInt8.toInt32).toInt16.toInt32)), .val (.int ((p3.toInt8.toInt32).toInt16.toInt32)), .val (.ref aa), .unset, .unset, .unset] [(.ref aa)])
    refine o_astore Y5 hx (hb hby at_73) rfl (Ls' := #[.val (.int p1), .val (.int p2), .val (.int p3), .val (.int p4), .val (.int (1 : Int32)), .val (.int ((p1.toInt8.toInt32).toInt16.toInt32)), .val (.int ((p2.toInt8.toInt32).toInt16.toInt32)), .val (.int ((p3.toInt8.toInt32).toInt16.toInt32)), .val (.ref aa), .val (.ref aa), .unset, .unset]) rfl (pc' := 75) rfl ?_
    refine o_aload Y5 hx (hb hby at_75) rfl rfl (pc' := 77) rfl ?_
    refine o_aload Y5 hx (hb hby at_77) rfl rfl (pc' := 79) rfl ?_
    refine o_acmp_ne Y5 hx (hb hby at_79) (pc' := 94) (pn := 82) (by decide) rfl (fun hc => ?_) (fun hc => ?_)
    · exact absurd rfl hc
    refine o_aload Y5 hx (hb hby at_82) rfl rfl (pc' := 84) rfl ?_
    refine o_callV Y5 hx hZ (y := (⟨"com/example/intact_tree/intacttree/ls/TreeWriter$Answers", "replaying", "()Z"⟩ : MethodName)) (as' := []) (b := aa) (C := "com/example/intact_tree/intacttree/ls/TreeWriter$Answers") hown (hw _ (List.mem_of_getElem? (i := 26) rfl)) (hw _ (List.mem_of_getElem? (i := 27) rfl)) (hw _ (List.mem_of_getElem? (i := 29) rfl)) (hw _ (List.mem_of_getElem? (i := 28) rfl)) (hw _ (List.mem_of_getElem? (i := 2) rfl)) (hw _ (List.mem_of_getElem? (i := 30) rfl)) (by decide) rfl A.1 (own_rm5 l Z a0 hw [] aa bb 0 ((0 : Int32) + 1) (own_rec (fun _ => 0) ((0 : Int32)).toNatClampNeg ((p1.toInt8.toInt32).toInt16.toInt32)) U5.heap A) (by rw [hml]; rfl) own_pd2 rfl (W := 0) (Nat.le_of_eq rfl) (by decide) (by decide) (hb hby at_84) (by decide) (by decide) (pc' := 87) rfl (S := []) rfl ?_
    intro v6 T6 L6 X6 q6
    obtain ⟨rfl, X6, e6⟩ := own_pure rfl rfl X6 q6
    show own_Out p e below _ T6 (mkF m 87 #[.val (.int p1), .val (.int p2), .val (.int p3), .val (.int p4), .val (.int (1 : Int32)), .val (.int ((p1.toInt8.toInt32).toInt16.toInt32)), .val (.int ((p2.toInt8.toInt32).toInt16.toInt32)), .val (.int ((p3.toInt8.toInt32).toInt16.toInt32)), .val (.ref aa), .val (.ref aa), .unset, .unset] [(.int (own_b (¬ (0 : Int32) < 0)))])
    rw [own_bt (q := ¬ (0 : Int32) < 0) (by decide)]
    rw [← e6] at A
    refine o_if_eq X6 hx (hb hby at_87) (pc' := 94) (pn := 90) (by decide) rfl (fun hc => ?_) (fun hc => ?_)
    · exact absurd hc (by decide)
    refine o_iconst X6 hx (hb hby at_90) (v := 1) rfl (pc' := 91) rfl ?_
    refine o_goto X6 hx (hb hby at_91) (pc' := 95) (by decide) ?_
    refine o_istore X6 hx (hb hby at_95) (Ls' := #[.val (.int p1), .val (.int p2), .val (.int p3), .val (.int p4), .val (.int (1 : Int32)), .val (.int ((p1.toInt8.toInt32).toInt16.toInt32)), .val (.int ((p2.toInt8.toInt32).toInt16.toInt32)), .val (.int ((p3.toInt8.toInt32).toInt16.toInt32)), .val (.ref aa), .val (.ref aa), .val (.int (1 : Int32)), .unset]) rfl (pc' := 97) rfl ?_
    refine o_iload X6 hx (hb hby at_97) rfl (pc' := 99) rfl ?_
    refine o_iconst X6 hx (hb hby at_99) (v := 1) rfl (pc' := 100) rfl ?_
    refine o_icmp_lt X6 hx (hb hby at_100) (pc' := 129) (pn := 103) (by decide) rfl (fun hc => ?_) (fun hc => ?_)
    · exact absurd hc (by decide)
    refine o_aload X6 hx (hb hby at_103) rfl rfl (pc' := 105) rfl ?_
    refine o_callV X6 hx hZ (y := (⟨"com/example/intact_tree/intacttree/ls/TreeWriter$Answers", "next", "()S"⟩ : MethodName)) (as' := []) (b := aa) (C := "com/example/intact_tree/intacttree/ls/TreeWriter$Answers") hown (hw _ (List.mem_of_getElem? (i := 31) rfl)) (hw _ (List.mem_of_getElem? (i := 32) rfl)) (hw _ (List.mem_of_getElem? (i := 34) rfl)) (hw _ (List.mem_of_getElem? (i := 33) rfl)) (hw _ (List.mem_of_getElem? (i := 2) rfl)) (hw _ (List.mem_of_getElem? (i := 35) rfl)) (by decide) rfl A.1 (own_rm6 l Z a0 hw [] aa bb (0 : Int32) ((0 : Int32) + 1) (own_rec (fun _ => 0) ((0 : Int32)).toNatClampNeg ((p1.toInt8.toInt32).toInt16.toInt32)) T6.heap h0.size ga (by decide) (by decide) A) (by rw [hml]; rfl) own_pd4 rfl (W := 0) (Nat.le_of_eq rfl) (by decide) (by decide) (hb hby at_105) (by decide) (by decide) (pc' := 108) rfl (S := []) rfl ?_
    rintro _ U7 L7 Y7 ⟨rfl, M7, z7, A⟩
    replace N := Fr.app N M7
    show own_Out p e below _ U7 (mkF m 108 #[.val (.int p1), .val (.int p2), .val (.int p3), .val (.int p4), .val (.int (1 : Int32)), .val (.int ((p1.toInt8.toInt32).toInt16.toInt32)), .val (.int ((p2.toInt8.toInt32).toInt16.toInt32)), .val (.int ((p3.toInt8.toInt32).toInt16.toInt32)), .val (.ref aa), .val (.ref aa), .val (.int (1 : Int32)), .unset] [(.int (own_sh ((own_rec (fun _ => 0) ((0 : Int32)).toNatClampNeg ((p1.toInt8.toInt32).toInt16.toInt32)) ((0 : Int32)).toNatClampNeg)))])
    rw [show own_sh ((own_rec (fun _ => 0) ((0 : Int32)).toNatClampNeg ((p1.toInt8.toInt32).toInt16.toInt32)) ((0 : Int32)).toNatClampNeg) = ((p1.toInt8.toInt32).toInt16.toInt32) from own_rt p1]
    refine o_istore Y7 hx (hb hby at_108) (Ls' := #[.val (.int p1), .val (.int p2), .val (.int p3), .val (.int p4), .val (.int (1 : Int32)), .val (.int ((p1.toInt8.toInt32).toInt16.toInt32)), .val (.int ((p2.toInt8.toInt32).toInt16.toInt32)), .val (.int ((p3.toInt8.toInt32).toInt16.toInt32)), .val (.ref aa), .val (.ref aa), .val (.int (1 : Int32)), .val (.int ((p1.toInt8.toInt32).toInt16.toInt32))]) rfl (pc' := 110) rfl ?_
    refine o_iload Y7 hx (hb hby at_110) rfl (pc' := 112) rfl ?_
    refine o_if_eq Y7 hx (hb hby at_112) (pc' := 126) (pn := 115) (by decide) rfl (fun hc => ?_) (fun hc => ?_)
    · exact absurd hc (by decide)
    refine o_iload Y7 hx (hb hby at_115) rfl (pc' := 117) rfl ?_
    refine o_iload Y7 hx (hb hby at_117) rfl (pc' := 119) rfl ?_
    refine o_icmp_ne Y7 hx (hb hby at_119) (pc' := 126) (pn := 122) (by decide) rfl (fun hc => ?_) (fun hc => ?_)
    · exact absurd rfl hc
    refine o_iconst Y7 hx (hb hby at_122) (v := 1) rfl (pc' := 123) rfl ?_
    refine o_goto Y7 hx (hb hby at_123) (pc' := 127) (by decide) ?_
    refine o_istore Y7 hx (hb hby at_127) (Ls' := #[.val (.int p1), .val (.int p2), .val (.int p3), .val (.int p4), .val (.int (1 : Int32)), .val (.int ((p1.toInt8.toInt32).toInt16.toInt32)), .val (.int ((p2.toInt8.toInt32).toInt16.toInt32)), .val (.int ((p3.toInt8.toInt32).toInt16.toInt32)), .val (.ref aa), .val (.ref aa), .val (.int (1 : Int32)), .val (.int ((p1.toInt8.toInt32).toInt16.toInt32))]) rfl (pc' := 129) rfl ?_
    refine o_iload Y7 hx (hb hby at_129) rfl (pc' := 131) rfl ?_
    refine o_iconst Y7 hx (hb hby at_131) (v := 2) rfl (pc' := 132) rfl ?_
    refine o_icmp_lt Y7 hx (hb hby at_132) (pc' := 161) (pn := 135) (by decide) rfl (fun hc => ?_) (fun hc => ?_)
    rotate_left
    · exact absurd hc (by decide)
    refine o_iload Y7 hx (hb hby at_161) rfl (pc' := 163) rfl ?_
    refine o_iconst Y7 hx (hb hby at_163) (v := 3) rfl (pc' := 164) rfl ?_
    refine o_icmp_lt Y7 hx (hb hby at_164) (pc' := 193) (pn := 167) (by decide) rfl (fun hc => ?_) (fun hc => ?_)
    rotate_left
    · exact absurd hc (by decide)
    refine o_iload Y7 hx (hb hby at_193) rfl (pc' := 195) rfl ?_
    refine o_retN Y7 hx (t := .boolean) Bd.returns hlk (by simp) (hb hby at_195) rfl ⟨rfl, N⟩ (by decide) (by decide)
  · rw [hk]
    refine o_iload Y1 hx (hb hby at_29) rfl (pc' := 31) rfl ?_
    refine o_iconst Y1 hx (hb hby at_31) (v := 1) rfl (pc' := 32) rfl ?_
    refine o_icmp_lt Y1 hx (hb hby at_32) (pc' := 42) (pn := 35) (by decide) rfl (fun hc => ?_) (fun hc => ?_)
    · exact absurd hc (by decide)
    refine o_aload Y1 hx (hb hby at_35) rfl rfl (pc' := 37) rfl ?_
    refine o_iload Y1 hx (hb hby at_37) rfl (pc' := 39) rfl ?_
    refine o_callV Y1 hx hZ (y := (⟨"com/example/intact_tree/intacttree/ls/TreeWriter$Answers", "record", "(S)V"⟩ : MethodName)) (as' := [(.int ((p1.toInt8.toInt32).toInt16.toInt32))]) (b := aa) (C := "com/example/intact_tree/intacttree/ls/TreeWriter$Answers") hown (hw _ (List.mem_of_getElem? (i := 14) rfl)) (hw _ (List.mem_of_getElem? (i := 15) rfl)) (hw _ (List.mem_of_getElem? (i := 17) rfl)) (hw _ (List.mem_of_getElem? (i := 16) rfl)) (hw _ (List.mem_of_getElem? (i := 2) rfl)) (hw _ (List.mem_of_getElem? (i := 18) rfl)) (by decide) rfl A.1 (own_rm3 l Z a0 hw [] aa bb ((p1.toInt8.toInt32).toInt16.toInt32) (-1) (0 : Int32) (fun _ => 0) U1.heap h0.size ga gb (by decide) A) (by rw [hml]; rfl) own_pd3 rfl (W := 0) (Nat.le_of_eq rfl) (by decide) (by decide) (hb hby at_39) (by decide) (by decide) (pc' := 42) rfl (S := []) rfl ?_
    rintro _ U8 L8 Y8 ⟨rfl, M8, z8, A⟩
    replace N := Fr.app N M8
    show own_Out p e below _ U8 (mkF m 42 #[.val (.int p1), .val (.int p2), .val (.int p3), .val (.int p4), .val (.int (2 : Int32)), .val (.int ((p1.toInt8.toInt32).toInt16.toInt32)), .val (.int ((p2.toInt8.toInt32).toInt16.toInt32)), .val (.int ((p3.toInt8.toInt32).toInt16.toInt32)), .val (.ref aa), .unset, .unset, .unset] [])
    refine o_iload Y8 hx (hb hby at_42) rfl (pc' := 44) rfl ?_
    refine o_iconst Y8 hx (hb hby at_44) (v := 2) rfl (pc' := 45) rfl ?_
    refine o_icmp_lt Y8 hx (hb hby at_45) (pc' := 55) (pn := 48) (by decide) rfl (fun hc => ?_) (fun hc => ?_)
    · exact absurd hc (by decide)
    refine o_aload Y8 hx (hb hby at_48) rfl rfl (pc' := 50) rfl ?_
    refine o_iload Y8 hx (hb hby at_50) rfl (pc' := 52) rfl ?_
    refine o_callV Y8 hx hZ (y := (⟨"com/example/intact_tree/intacttree/ls/TreeWriter$Answers", "record", "(S)V"⟩ : MethodName)) (as' := [(.int ((p2.toInt8.toInt32).toInt16.toInt32))]) (b := aa) (C := "com/example/intact_tree/intacttree/ls/TreeWriter$Answers") hown (hw _ (List.mem_of_getElem? (i := 14) rfl)) (hw _ (List.mem_of_getElem? (i := 15) rfl)) (hw _ (List.mem_of_getElem? (i := 17) rfl)) (hw _ (List.mem_of_getElem? (i := 16) rfl)) (hw _ (List.mem_of_getElem? (i := 2) rfl)) (hw _ (List.mem_of_getElem? (i := 18) rfl)) (by decide) rfl A.1 (own_rm3 l Z a0 hw [] aa bb ((p2.toInt8.toInt32).toInt16.toInt32) (-1) ((0 : Int32) + 1) (own_rec (fun _ => 0) ((0 : Int32)).toNatClampNeg ((p1.toInt8.toInt32).toInt16.toInt32)) U8.heap h0.size ga gb (by decide) A) (by rw [hml]; rfl) own_pd3 rfl (W := 0) (Nat.le_of_eq rfl) (by decide) (by decide) (hb hby at_52) (by decide) (by decide) (pc' := 55) rfl (S := []) rfl ?_
    rintro _ U9 L9 Y9 ⟨rfl, M9, z9, A⟩
    replace N := Fr.app N M9
    show own_Out p e below _ U9 (mkF m 55 #[.val (.int p1), .val (.int p2), .val (.int p3), .val (.int p4), .val (.int (2 : Int32)), .val (.int ((p1.toInt8.toInt32).toInt16.toInt32)), .val (.int ((p2.toInt8.toInt32).toInt16.toInt32)), .val (.int ((p3.toInt8.toInt32).toInt16.toInt32)), .val (.ref aa), .unset, .unset, .unset] [])
    refine o_iload Y9 hx (hb hby at_55) rfl (pc' := 57) rfl ?_
    refine o_iconst Y9 hx (hb hby at_57) (v := 3) rfl (pc' := 58) rfl ?_
    refine o_icmp_lt Y9 hx (hb hby at_58) (pc' := 68) (pn := 61) (by decide) rfl (fun hc => ?_) (fun hc => ?_)
    rotate_left
    · exact absurd hc (by decide)
    refine o_aload Y9 hx (hb hby at_68) rfl rfl (pc' := 70) rfl ?_
    refine o_callV Y9 hx hZ (y := (⟨"com/example/intact_tree/intacttree/ls/TreeWriter$Answers", "replayed", "()Lcom/example/intact_tree/intacttree/ls/TreeWriter$Answers;"⟩ : MethodName)) (as' := []) (b := aa) (C := "com/example/intact_tree/intacttree/ls/TreeWriter$Answers") hown (hw _ (List.mem_of_getElem? (i := 21) rfl)) (hw _ (List.mem_of_getElem? (i := 22) rfl)) (hw _ (List.mem_of_getElem? (i := 24) rfl)) (hw _ (List.mem_of_getElem? (i := 23) rfl)) (hw _ (List.mem_of_getElem? (i := 2) rfl)) (hw _ (List.mem_of_getElem? (i := 25) rfl)) (by decide) rfl A.1 (own_rm4 l Z a0 hw [] aa bb (-1) (((0 : Int32) + 1) + 1) (own_rec (own_rec (fun _ => 0) ((0 : Int32)).toNatClampNeg ((p1.toInt8.toInt32).toInt16.toInt32)) (((0 : Int32) + 1)).toNatClampNeg ((p2.toInt8.toInt32).toInt16.toInt32)) U9.heap h0.size ga A) (by rw [hml]; rfl) own_pd1 rfl (W := 0) (Nat.le_of_eq rfl) (by decide) (by decide) (hb hby at_70) (by decide) (by decide) (pc' := 73) rfl (S := []) rfl ?_
    rintro _ U10 L10 Y10 ⟨rfl, M10, z10, A⟩
    replace N := Fr.app N M10
    show own_Out p e below _ U10 (mkF m 73 #[.val (.int p1), .val (.int p2), .val (.int p3), .val (.int p4), .val (.int (2 : Int32)), .val (.int ((p1.toInt8.toInt32).toInt16.toInt32)), .val (.int ((p2.toInt8.toInt32).toInt16.toInt32)), .val (.int ((p3.toInt8.toInt32).toInt16.toInt32)), .val (.ref aa), .unset, .unset, .unset] [(.ref aa)])
    refine o_astore Y10 hx (hb hby at_73) rfl (Ls' := #[.val (.int p1), .val (.int p2), .val (.int p3), .val (.int p4), .val (.int (2 : Int32)), .val (.int ((p1.toInt8.toInt32).toInt16.toInt32)), .val (.int ((p2.toInt8.toInt32).toInt16.toInt32)), .val (.int ((p3.toInt8.toInt32).toInt16.toInt32)), .val (.ref aa), .val (.ref aa), .unset, .unset]) rfl (pc' := 75) rfl ?_
    refine o_aload Y10 hx (hb hby at_75) rfl rfl (pc' := 77) rfl ?_
    refine o_aload Y10 hx (hb hby at_77) rfl rfl (pc' := 79) rfl ?_
    refine o_acmp_ne Y10 hx (hb hby at_79) (pc' := 94) (pn := 82) (by decide) rfl (fun hc => ?_) (fun hc => ?_)
    · exact absurd rfl hc
    refine o_aload Y10 hx (hb hby at_82) rfl rfl (pc' := 84) rfl ?_
    refine o_callV Y10 hx hZ (y := (⟨"com/example/intact_tree/intacttree/ls/TreeWriter$Answers", "replaying", "()Z"⟩ : MethodName)) (as' := []) (b := aa) (C := "com/example/intact_tree/intacttree/ls/TreeWriter$Answers") hown (hw _ (List.mem_of_getElem? (i := 26) rfl)) (hw _ (List.mem_of_getElem? (i := 27) rfl)) (hw _ (List.mem_of_getElem? (i := 29) rfl)) (hw _ (List.mem_of_getElem? (i := 28) rfl)) (hw _ (List.mem_of_getElem? (i := 2) rfl)) (hw _ (List.mem_of_getElem? (i := 30) rfl)) (by decide) rfl A.1 (own_rm5 l Z a0 hw [] aa bb 0 (((0 : Int32) + 1) + 1) (own_rec (own_rec (fun _ => 0) ((0 : Int32)).toNatClampNeg ((p1.toInt8.toInt32).toInt16.toInt32)) (((0 : Int32) + 1)).toNatClampNeg ((p2.toInt8.toInt32).toInt16.toInt32)) U10.heap A) (by rw [hml]; rfl) own_pd2 rfl (W := 0) (Nat.le_of_eq rfl) (by decide) (by decide) (hb hby at_84) (by decide) (by decide) (pc' := 87) rfl (S := []) rfl ?_
    intro v11 T11 L11 X11 q11
    obtain ⟨rfl, X11, e11⟩ := own_pure rfl rfl X11 q11
    show own_Out p e below _ T11 (mkF m 87 #[.val (.int p1), .val (.int p2), .val (.int p3), .val (.int p4), .val (.int (2 : Int32)), .val (.int ((p1.toInt8.toInt32).toInt16.toInt32)), .val (.int ((p2.toInt8.toInt32).toInt16.toInt32)), .val (.int ((p3.toInt8.toInt32).toInt16.toInt32)), .val (.ref aa), .val (.ref aa), .unset, .unset] [(.int (own_b (¬ (0 : Int32) < 0)))])
    rw [own_bt (q := ¬ (0 : Int32) < 0) (by decide)]
    rw [← e11] at A
    refine o_if_eq X11 hx (hb hby at_87) (pc' := 94) (pn := 90) (by decide) rfl (fun hc => ?_) (fun hc => ?_)
    · exact absurd hc (by decide)
    refine o_iconst X11 hx (hb hby at_90) (v := 1) rfl (pc' := 91) rfl ?_
    refine o_goto X11 hx (hb hby at_91) (pc' := 95) (by decide) ?_
    refine o_istore X11 hx (hb hby at_95) (Ls' := #[.val (.int p1), .val (.int p2), .val (.int p3), .val (.int p4), .val (.int (2 : Int32)), .val (.int ((p1.toInt8.toInt32).toInt16.toInt32)), .val (.int ((p2.toInt8.toInt32).toInt16.toInt32)), .val (.int ((p3.toInt8.toInt32).toInt16.toInt32)), .val (.ref aa), .val (.ref aa), .val (.int (1 : Int32)), .unset]) rfl (pc' := 97) rfl ?_
    refine o_iload X11 hx (hb hby at_97) rfl (pc' := 99) rfl ?_
    refine o_iconst X11 hx (hb hby at_99) (v := 1) rfl (pc' := 100) rfl ?_
    refine o_icmp_lt X11 hx (hb hby at_100) (pc' := 129) (pn := 103) (by decide) rfl (fun hc => ?_) (fun hc => ?_)
    · exact absurd hc (by decide)
    refine o_aload X11 hx (hb hby at_103) rfl rfl (pc' := 105) rfl ?_
    refine o_callV X11 hx hZ (y := (⟨"com/example/intact_tree/intacttree/ls/TreeWriter$Answers", "next", "()S"⟩ : MethodName)) (as' := []) (b := aa) (C := "com/example/intact_tree/intacttree/ls/TreeWriter$Answers") hown (hw _ (List.mem_of_getElem? (i := 31) rfl)) (hw _ (List.mem_of_getElem? (i := 32) rfl)) (hw _ (List.mem_of_getElem? (i := 34) rfl)) (hw _ (List.mem_of_getElem? (i := 33) rfl)) (hw _ (List.mem_of_getElem? (i := 2) rfl)) (hw _ (List.mem_of_getElem? (i := 35) rfl)) (by decide) rfl A.1 (own_rm6 l Z a0 hw [] aa bb (0 : Int32) (((0 : Int32) + 1) + 1) (own_rec (own_rec (fun _ => 0) ((0 : Int32)).toNatClampNeg ((p1.toInt8.toInt32).toInt16.toInt32)) (((0 : Int32) + 1)).toNatClampNeg ((p2.toInt8.toInt32).toInt16.toInt32)) T11.heap h0.size ga (by decide) (by decide) A) (by rw [hml]; rfl) own_pd4 rfl (W := 0) (Nat.le_of_eq rfl) (by decide) (by decide) (hb hby at_105) (by decide) (by decide) (pc' := 108) rfl (S := []) rfl ?_
    rintro _ U12 L12 Y12 ⟨rfl, M12, z12, A⟩
    replace N := Fr.app N M12
    show own_Out p e below _ U12 (mkF m 108 #[.val (.int p1), .val (.int p2), .val (.int p3), .val (.int p4), .val (.int (2 : Int32)), .val (.int ((p1.toInt8.toInt32).toInt16.toInt32)), .val (.int ((p2.toInt8.toInt32).toInt16.toInt32)), .val (.int ((p3.toInt8.toInt32).toInt16.toInt32)), .val (.ref aa), .val (.ref aa), .val (.int (1 : Int32)), .unset] [(.int (own_sh ((own_rec (own_rec (fun _ => 0) ((0 : Int32)).toNatClampNeg ((p1.toInt8.toInt32).toInt16.toInt32)) (((0 : Int32) + 1)).toNatClampNeg ((p2.toInt8.toInt32).toInt16.toInt32)) ((0 : Int32)).toNatClampNeg)))])
    rw [show own_sh ((own_rec (own_rec (fun _ => 0) ((0 : Int32)).toNatClampNeg ((p1.toInt8.toInt32).toInt16.toInt32)) (((0 : Int32) + 1)).toNatClampNeg ((p2.toInt8.toInt32).toInt16.toInt32)) ((0 : Int32)).toNatClampNeg) = ((p1.toInt8.toInt32).toInt16.toInt32) from own_rt p1]
    refine o_istore Y12 hx (hb hby at_108) (Ls' := #[.val (.int p1), .val (.int p2), .val (.int p3), .val (.int p4), .val (.int (2 : Int32)), .val (.int ((p1.toInt8.toInt32).toInt16.toInt32)), .val (.int ((p2.toInt8.toInt32).toInt16.toInt32)), .val (.int ((p3.toInt8.toInt32).toInt16.toInt32)), .val (.ref aa), .val (.ref aa), .val (.int (1 : Int32)), .val (.int ((p1.toInt8.toInt32).toInt16.toInt32))]) rfl (pc' := 110) rfl ?_
    refine o_iload Y12 hx (hb hby at_110) rfl (pc' := 112) rfl ?_
    refine o_if_eq Y12 hx (hb hby at_112) (pc' := 126) (pn := 115) (by decide) rfl (fun hc => ?_) (fun hc => ?_)
    · exact absurd hc (by decide)
    refine o_iload Y12 hx (hb hby at_115) rfl (pc' := 117) rfl ?_
    refine o_iload Y12 hx (hb hby at_117) rfl (pc' := 119) rfl ?_
    refine o_icmp_ne Y12 hx (hb hby at_119) (pc' := 126) (pn := 122) (by decide) rfl (fun hc => ?_) (fun hc => ?_)
    · exact absurd rfl hc
    refine o_iconst Y12 hx (hb hby at_122) (v := 1) rfl (pc' := 123) rfl ?_
    refine o_goto Y12 hx (hb hby at_123) (pc' := 127) (by decide) ?_
    refine o_istore Y12 hx (hb hby at_127) (Ls' := #[.val (.int p1), .val (.int p2), .val (.int p3), .val (.int p4), .val (.int (2 : Int32)), .val (.int ((p1.toInt8.toInt32).toInt16.toInt32)), .val (.int ((p2.toInt8.toInt32).toInt16.toInt32)), .val (.int ((p3.toInt8.toInt32).toInt16.toInt32)), .val (.ref aa), .val (.ref aa), .val (.int (1 : Int32)), .val (.int ((p1.toInt8.toInt32).toInt16.toInt32))]) rfl (pc' := 129) rfl ?_
    refine o_iload Y12 hx (hb hby at_129) rfl (pc' := 131) rfl ?_
    refine o_iconst Y12 hx (hb hby at_131) (v := 2) rfl (pc' := 132) rfl ?_
    refine o_icmp_lt Y12 hx (hb hby at_132) (pc' := 161) (pn := 135) (by decide) rfl (fun hc => ?_) (fun hc => ?_)
    · exact absurd hc (by decide)
    refine o_aload Y12 hx (hb hby at_135) rfl rfl (pc' := 137) rfl ?_
    refine o_callV Y12 hx hZ (y := (⟨"com/example/intact_tree/intacttree/ls/TreeWriter$Answers", "next", "()S"⟩ : MethodName)) (as' := []) (b := aa) (C := "com/example/intact_tree/intacttree/ls/TreeWriter$Answers") hown (hw _ (List.mem_of_getElem? (i := 31) rfl)) (hw _ (List.mem_of_getElem? (i := 32) rfl)) (hw _ (List.mem_of_getElem? (i := 34) rfl)) (hw _ (List.mem_of_getElem? (i := 33) rfl)) (hw _ (List.mem_of_getElem? (i := 2) rfl)) (hw _ (List.mem_of_getElem? (i := 35) rfl)) (by decide) rfl A.1 (own_rm6 l Z a0 hw [] aa bb ((0 : Int32) + 1) (((0 : Int32) + 1) + 1) (own_rec (own_rec (fun _ => 0) ((0 : Int32)).toNatClampNeg ((p1.toInt8.toInt32).toInt16.toInt32)) (((0 : Int32) + 1)).toNatClampNeg ((p2.toInt8.toInt32).toInt16.toInt32)) U12.heap h0.size ga (by decide) (by decide) A) (by rw [hml]; rfl) own_pd4 rfl (W := 0) (Nat.le_of_eq rfl) (by decide) (by decide) (hb hby at_137) (by decide) (by decide) (pc' := 140) rfl (S := []) rfl ?_
    rintro _ U13 L13 Y13 ⟨rfl, M13, z13, A⟩
    replace N := Fr.app N M13
    show own_Out p e below _ U13 (mkF m 140 #[.val (.int p1), .val (.int p2), .val (.int p3), .val (.int p4), .val (.int (2 : Int32)), .val (.int ((p1.toInt8.toInt32).toInt16.toInt32)), .val (.int ((p2.toInt8.toInt32).toInt16.toInt32)), .val (.int ((p3.toInt8.toInt32).toInt16.toInt32)), .val (.ref aa), .val (.ref aa), .val (.int (1 : Int32)), .val (.int ((p1.toInt8.toInt32).toInt16.toInt32))] [(.int (own_sh ((own_rec (own_rec (fun _ => 0) ((0 : Int32)).toNatClampNeg ((p1.toInt8.toInt32).toInt16.toInt32)) (((0 : Int32) + 1)).toNatClampNeg ((p2.toInt8.toInt32).toInt16.toInt32)) (((0 : Int32) + 1)).toNatClampNeg)))])
    rw [show own_sh ((own_rec (own_rec (fun _ => 0) ((0 : Int32)).toNatClampNeg ((p1.toInt8.toInt32).toInt16.toInt32)) (((0 : Int32) + 1)).toNatClampNeg ((p2.toInt8.toInt32).toInt16.toInt32)) (((0 : Int32) + 1)).toNatClampNeg) = ((p2.toInt8.toInt32).toInt16.toInt32) from own_rt p2]
    refine o_istore Y13 hx (hb hby at_140) (Ls' := #[.val (.int p1), .val (.int p2), .val (.int p3), .val (.int p4), .val (.int (2 : Int32)), .val (.int ((p1.toInt8.toInt32).toInt16.toInt32)), .val (.int ((p2.toInt8.toInt32).toInt16.toInt32)), .val (.int ((p3.toInt8.toInt32).toInt16.toInt32)), .val (.ref aa), .val (.ref aa), .val (.int (1 : Int32)), .val (.int ((p2.toInt8.toInt32).toInt16.toInt32))]) rfl (pc' := 142) rfl ?_
    refine o_iload Y13 hx (hb hby at_142) rfl (pc' := 144) rfl ?_
    refine o_if_eq Y13 hx (hb hby at_144) (pc' := 158) (pn := 147) (by decide) rfl (fun hc => ?_) (fun hc => ?_)
    · exact absurd hc (by decide)
    refine o_iload Y13 hx (hb hby at_147) rfl (pc' := 149) rfl ?_
    refine o_iload Y13 hx (hb hby at_149) rfl (pc' := 151) rfl ?_
    refine o_icmp_ne Y13 hx (hb hby at_151) (pc' := 158) (pn := 154) (by decide) rfl (fun hc => ?_) (fun hc => ?_)
    · exact absurd rfl hc
    refine o_iconst Y13 hx (hb hby at_154) (v := 1) rfl (pc' := 155) rfl ?_
    refine o_goto Y13 hx (hb hby at_155) (pc' := 159) (by decide) ?_
    refine o_istore Y13 hx (hb hby at_159) (Ls' := #[.val (.int p1), .val (.int p2), .val (.int p3), .val (.int p4), .val (.int (2 : Int32)), .val (.int ((p1.toInt8.toInt32).toInt16.toInt32)), .val (.int ((p2.toInt8.toInt32).toInt16.toInt32)), .val (.int ((p3.toInt8.toInt32).toInt16.toInt32)), .val (.ref aa), .val (.ref aa), .val (.int (1 : Int32)), .val (.int ((p2.toInt8.toInt32).toInt16.toInt32))]) rfl (pc' := 161) rfl ?_
    refine o_iload Y13 hx (hb hby at_161) rfl (pc' := 163) rfl ?_
    refine o_iconst Y13 hx (hb hby at_163) (v := 3) rfl (pc' := 164) rfl ?_
    refine o_icmp_lt Y13 hx (hb hby at_164) (pc' := 193) (pn := 167) (by decide) rfl (fun hc => ?_) (fun hc => ?_)
    rotate_left
    · exact absurd hc (by decide)
    refine o_iload Y13 hx (hb hby at_193) rfl (pc' := 195) rfl ?_
    refine o_retN Y13 hx (t := .boolean) Bd.returns hlk (by simp) (hb hby at_195) rfl ⟨rfl, N⟩ (by decide) (by decide)
  · rw [hk]
    refine o_iload Y1 hx (hb hby at_29) rfl (pc' := 31) rfl ?_
    refine o_iconst Y1 hx (hb hby at_31) (v := 1) rfl (pc' := 32) rfl ?_
    refine o_icmp_lt Y1 hx (hb hby at_32) (pc' := 42) (pn := 35) (by decide) rfl (fun hc => ?_) (fun hc => ?_)
    · exact absurd hc (by decide)
    refine o_aload Y1 hx (hb hby at_35) rfl rfl (pc' := 37) rfl ?_
    refine o_iload Y1 hx (hb hby at_37) rfl (pc' := 39) rfl ?_
    refine o_callV Y1 hx hZ (y := (⟨"com/example/intact_tree/intacttree/ls/TreeWriter$Answers", "record", "(S)V"⟩ : MethodName)) (as' := [(.int ((p1.toInt8.toInt32).toInt16.toInt32))]) (b := aa) (C := "com/example/intact_tree/intacttree/ls/TreeWriter$Answers") hown (hw _ (List.mem_of_getElem? (i := 14) rfl)) (hw _ (List.mem_of_getElem? (i := 15) rfl)) (hw _ (List.mem_of_getElem? (i := 17) rfl)) (hw _ (List.mem_of_getElem? (i := 16) rfl)) (hw _ (List.mem_of_getElem? (i := 2) rfl)) (hw _ (List.mem_of_getElem? (i := 18) rfl)) (by decide) rfl A.1 (own_rm3 l Z a0 hw [] aa bb ((p1.toInt8.toInt32).toInt16.toInt32) (-1) (0 : Int32) (fun _ => 0) U1.heap h0.size ga gb (by decide) A) (by rw [hml]; rfl) own_pd3 rfl (W := 0) (Nat.le_of_eq rfl) (by decide) (by decide) (hb hby at_39) (by decide) (by decide) (pc' := 42) rfl (S := []) rfl ?_
    rintro _ U14 L14 Y14 ⟨rfl, M14, z14, A⟩
    replace N := Fr.app N M14
    show own_Out p e below _ U14 (mkF m 42 #[.val (.int p1), .val (.int p2), .val (.int p3), .val (.int p4), .val (.int (3 : Int32)), .val (.int ((p1.toInt8.toInt32).toInt16.toInt32)), .val (.int ((p2.toInt8.toInt32).toInt16.toInt32)), .val (.int ((p3.toInt8.toInt32).toInt16.toInt32)), .val (.ref aa), .unset, .unset, .unset] [])
    refine o_iload Y14 hx (hb hby at_42) rfl (pc' := 44) rfl ?_
    refine o_iconst Y14 hx (hb hby at_44) (v := 2) rfl (pc' := 45) rfl ?_
    refine o_icmp_lt Y14 hx (hb hby at_45) (pc' := 55) (pn := 48) (by decide) rfl (fun hc => ?_) (fun hc => ?_)
    · exact absurd hc (by decide)
    refine o_aload Y14 hx (hb hby at_48) rfl rfl (pc' := 50) rfl ?_
    refine o_iload Y14 hx (hb hby at_50) rfl (pc' := 52) rfl ?_
    refine o_callV Y14 hx hZ (y := (⟨"com/example/intact_tree/intacttree/ls/TreeWriter$Answers", "record", "(S)V"⟩ : MethodName)) (as' := [(.int ((p2.toInt8.toInt32).toInt16.toInt32))]) (b := aa) (C := "com/example/intact_tree/intacttree/ls/TreeWriter$Answers") hown (hw _ (List.mem_of_getElem? (i := 14) rfl)) (hw _ (List.mem_of_getElem? (i := 15) rfl)) (hw _ (List.mem_of_getElem? (i := 17) rfl)) (hw _ (List.mem_of_getElem? (i := 16) rfl)) (hw _ (List.mem_of_getElem? (i := 2) rfl)) (hw _ (List.mem_of_getElem? (i := 18) rfl)) (by decide) rfl A.1 (own_rm3 l Z a0 hw [] aa bb ((p2.toInt8.toInt32).toInt16.toInt32) (-1) ((0 : Int32) + 1) (own_rec (fun _ => 0) ((0 : Int32)).toNatClampNeg ((p1.toInt8.toInt32).toInt16.toInt32)) U14.heap h0.size ga gb (by decide) A) (by rw [hml]; rfl) own_pd3 rfl (W := 0) (Nat.le_of_eq rfl) (by decide) (by decide) (hb hby at_52) (by decide) (by decide) (pc' := 55) rfl (S := []) rfl ?_
    rintro _ U15 L15 Y15 ⟨rfl, M15, z15, A⟩
    replace N := Fr.app N M15
    show own_Out p e below _ U15 (mkF m 55 #[.val (.int p1), .val (.int p2), .val (.int p3), .val (.int p4), .val (.int (3 : Int32)), .val (.int ((p1.toInt8.toInt32).toInt16.toInt32)), .val (.int ((p2.toInt8.toInt32).toInt16.toInt32)), .val (.int ((p3.toInt8.toInt32).toInt16.toInt32)), .val (.ref aa), .unset, .unset, .unset] [])
    refine o_iload Y15 hx (hb hby at_55) rfl (pc' := 57) rfl ?_
    refine o_iconst Y15 hx (hb hby at_57) (v := 3) rfl (pc' := 58) rfl ?_
    refine o_icmp_lt Y15 hx (hb hby at_58) (pc' := 68) (pn := 61) (by decide) rfl (fun hc => ?_) (fun hc => ?_)
    · exact absurd hc (by decide)
    refine o_aload Y15 hx (hb hby at_61) rfl rfl (pc' := 63) rfl ?_
    refine o_iload Y15 hx (hb hby at_63) rfl (pc' := 65) rfl ?_
    refine o_callV Y15 hx hZ (y := (⟨"com/example/intact_tree/intacttree/ls/TreeWriter$Answers", "record", "(S)V"⟩ : MethodName)) (as' := [(.int ((p3.toInt8.toInt32).toInt16.toInt32))]) (b := aa) (C := "com/example/intact_tree/intacttree/ls/TreeWriter$Answers") hown (hw _ (List.mem_of_getElem? (i := 14) rfl)) (hw _ (List.mem_of_getElem? (i := 15) rfl)) (hw _ (List.mem_of_getElem? (i := 17) rfl)) (hw _ (List.mem_of_getElem? (i := 16) rfl)) (hw _ (List.mem_of_getElem? (i := 2) rfl)) (hw _ (List.mem_of_getElem? (i := 18) rfl)) (by decide) rfl A.1 (own_rm3 l Z a0 hw [] aa bb ((p3.toInt8.toInt32).toInt16.toInt32) (-1) (((0 : Int32) + 1) + 1) (own_rec (own_rec (fun _ => 0) ((0 : Int32)).toNatClampNeg ((p1.toInt8.toInt32).toInt16.toInt32)) (((0 : Int32) + 1)).toNatClampNeg ((p2.toInt8.toInt32).toInt16.toInt32)) U15.heap h0.size ga gb (by decide) A) (by rw [hml]; rfl) own_pd3 rfl (W := 0) (Nat.le_of_eq rfl) (by decide) (by decide) (hb hby at_65) (by decide) (by decide) (pc' := 68) rfl (S := []) rfl ?_
    rintro _ U16 L16 Y16 ⟨rfl, M16, z16, A⟩
    replace N := Fr.app N M16
    show own_Out p e below _ U16 (mkF m 68 #[.val (.int p1), .val (.int p2), .val (.int p3), .val (.int p4), .val (.int (3 : Int32)), .val (.int ((p1.toInt8.toInt32).toInt16.toInt32)), .val (.int ((p2.toInt8.toInt32).toInt16.toInt32)), .val (.int ((p3.toInt8.toInt32).toInt16.toInt32)), .val (.ref aa), .unset, .unset, .unset] [])
    refine o_aload Y16 hx (hb hby at_68) rfl rfl (pc' := 70) rfl ?_
    refine o_callV Y16 hx hZ (y := (⟨"com/example/intact_tree/intacttree/ls/TreeWriter$Answers", "replayed", "()Lcom/example/intact_tree/intacttree/ls/TreeWriter$Answers;"⟩ : MethodName)) (as' := []) (b := aa) (C := "com/example/intact_tree/intacttree/ls/TreeWriter$Answers") hown (hw _ (List.mem_of_getElem? (i := 21) rfl)) (hw _ (List.mem_of_getElem? (i := 22) rfl)) (hw _ (List.mem_of_getElem? (i := 24) rfl)) (hw _ (List.mem_of_getElem? (i := 23) rfl)) (hw _ (List.mem_of_getElem? (i := 2) rfl)) (hw _ (List.mem_of_getElem? (i := 25) rfl)) (by decide) rfl A.1 (own_rm4 l Z a0 hw [] aa bb (-1) ((((0 : Int32) + 1) + 1) + 1) (own_rec (own_rec (own_rec (fun _ => 0) ((0 : Int32)).toNatClampNeg ((p1.toInt8.toInt32).toInt16.toInt32)) (((0 : Int32) + 1)).toNatClampNeg ((p2.toInt8.toInt32).toInt16.toInt32)) ((((0 : Int32) + 1) + 1)).toNatClampNeg ((p3.toInt8.toInt32).toInt16.toInt32)) U16.heap h0.size ga A) (by rw [hml]; rfl) own_pd1 rfl (W := 0) (Nat.le_of_eq rfl) (by decide) (by decide) (hb hby at_70) (by decide) (by decide) (pc' := 73) rfl (S := []) rfl ?_
    rintro _ U17 L17 Y17 ⟨rfl, M17, z17, A⟩
    replace N := Fr.app N M17
    show own_Out p e below _ U17 (mkF m 73 #[.val (.int p1), .val (.int p2), .val (.int p3), .val (.int p4), .val (.int (3 : Int32)), .val (.int ((p1.toInt8.toInt32).toInt16.toInt32)), .val (.int ((p2.toInt8.toInt32).toInt16.toInt32)), .val (.int ((p3.toInt8.toInt32).toInt16.toInt32)), .val (.ref aa), .unset, .unset, .unset] [(.ref aa)])
    refine o_astore Y17 hx (hb hby at_73) rfl (Ls' := #[.val (.int p1), .val (.int p2), .val (.int p3), .val (.int p4), .val (.int (3 : Int32)), .val (.int ((p1.toInt8.toInt32).toInt16.toInt32)), .val (.int ((p2.toInt8.toInt32).toInt16.toInt32)), .val (.int ((p3.toInt8.toInt32).toInt16.toInt32)), .val (.ref aa), .val (.ref aa), .unset, .unset]) rfl (pc' := 75) rfl ?_
    refine o_aload Y17 hx (hb hby at_75) rfl rfl (pc' := 77) rfl ?_
    refine o_aload Y17 hx (hb hby at_77) rfl rfl (pc' := 79) rfl ?_
    refine o_acmp_ne Y17 hx (hb hby at_79) (pc' := 94) (pn := 82) (by decide) rfl (fun hc => ?_) (fun hc => ?_)
    · exact absurd rfl hc
    refine o_aload Y17 hx (hb hby at_82) rfl rfl (pc' := 84) rfl ?_
    refine o_callV Y17 hx hZ (y := (⟨"com/example/intact_tree/intacttree/ls/TreeWriter$Answers", "replaying", "()Z"⟩ : MethodName)) (as' := []) (b := aa) (C := "com/example/intact_tree/intacttree/ls/TreeWriter$Answers") hown (hw _ (List.mem_of_getElem? (i := 26) rfl)) (hw _ (List.mem_of_getElem? (i := 27) rfl)) (hw _ (List.mem_of_getElem? (i := 29) rfl)) (hw _ (List.mem_of_getElem? (i := 28) rfl)) (hw _ (List.mem_of_getElem? (i := 2) rfl)) (hw _ (List.mem_of_getElem? (i := 30) rfl)) (by decide) rfl A.1 (own_rm5 l Z a0 hw [] aa bb 0 ((((0 : Int32) + 1) + 1) + 1) (own_rec (own_rec (own_rec (fun _ => 0) ((0 : Int32)).toNatClampNeg ((p1.toInt8.toInt32).toInt16.toInt32)) (((0 : Int32) + 1)).toNatClampNeg ((p2.toInt8.toInt32).toInt16.toInt32)) ((((0 : Int32) + 1) + 1)).toNatClampNeg ((p3.toInt8.toInt32).toInt16.toInt32)) U17.heap A) (by rw [hml]; rfl) own_pd2 rfl (W := 0) (Nat.le_of_eq rfl) (by decide) (by decide) (hb hby at_84) (by decide) (by decide) (pc' := 87) rfl (S := []) rfl ?_
    intro v18 T18 L18 X18 q18
    obtain ⟨rfl, X18, e18⟩ := own_pure rfl rfl X18 q18
    show own_Out p e below _ T18 (mkF m 87 #[.val (.int p1), .val (.int p2), .val (.int p3), .val (.int p4), .val (.int (3 : Int32)), .val (.int ((p1.toInt8.toInt32).toInt16.toInt32)), .val (.int ((p2.toInt8.toInt32).toInt16.toInt32)), .val (.int ((p3.toInt8.toInt32).toInt16.toInt32)), .val (.ref aa), .val (.ref aa), .unset, .unset] [(.int (own_b (¬ (0 : Int32) < 0)))])
    rw [own_bt (q := ¬ (0 : Int32) < 0) (by decide)]
    rw [← e18] at A
    refine o_if_eq X18 hx (hb hby at_87) (pc' := 94) (pn := 90) (by decide) rfl (fun hc => ?_) (fun hc => ?_)
    · exact absurd hc (by decide)
    refine o_iconst X18 hx (hb hby at_90) (v := 1) rfl (pc' := 91) rfl ?_
    refine o_goto X18 hx (hb hby at_91) (pc' := 95) (by decide) ?_
    refine o_istore X18 hx (hb hby at_95) (Ls' := #[.val (.int p1), .val (.int p2), .val (.int p3), .val (.int p4), .val (.int (3 : Int32)), .val (.int ((p1.toInt8.toInt32).toInt16.toInt32)), .val (.int ((p2.toInt8.toInt32).toInt16.toInt32)), .val (.int ((p3.toInt8.toInt32).toInt16.toInt32)), .val (.ref aa), .val (.ref aa), .val (.int (1 : Int32)), .unset]) rfl (pc' := 97) rfl ?_
    refine o_iload X18 hx (hb hby at_97) rfl (pc' := 99) rfl ?_
    refine o_iconst X18 hx (hb hby at_99) (v := 1) rfl (pc' := 100) rfl ?_
    refine o_icmp_lt X18 hx (hb hby at_100) (pc' := 129) (pn := 103) (by decide) rfl (fun hc => ?_) (fun hc => ?_)
    · exact absurd hc (by decide)
    refine o_aload X18 hx (hb hby at_103) rfl rfl (pc' := 105) rfl ?_
    refine o_callV X18 hx hZ (y := (⟨"com/example/intact_tree/intacttree/ls/TreeWriter$Answers", "next", "()S"⟩ : MethodName)) (as' := []) (b := aa) (C := "com/example/intact_tree/intacttree/ls/TreeWriter$Answers") hown (hw _ (List.mem_of_getElem? (i := 31) rfl)) (hw _ (List.mem_of_getElem? (i := 32) rfl)) (hw _ (List.mem_of_getElem? (i := 34) rfl)) (hw _ (List.mem_of_getElem? (i := 33) rfl)) (hw _ (List.mem_of_getElem? (i := 2) rfl)) (hw _ (List.mem_of_getElem? (i := 35) rfl)) (by decide) rfl A.1 (own_rm6 l Z a0 hw [] aa bb (0 : Int32) ((((0 : Int32) + 1) + 1) + 1) (own_rec (own_rec (own_rec (fun _ => 0) ((0 : Int32)).toNatClampNeg ((p1.toInt8.toInt32).toInt16.toInt32)) (((0 : Int32) + 1)).toNatClampNeg ((p2.toInt8.toInt32).toInt16.toInt32)) ((((0 : Int32) + 1) + 1)).toNatClampNeg ((p3.toInt8.toInt32).toInt16.toInt32)) T18.heap h0.size ga (by decide) (by decide) A) (by rw [hml]; rfl) own_pd4 rfl (W := 0) (Nat.le_of_eq rfl) (by decide) (by decide) (hb hby at_105) (by decide) (by decide) (pc' := 108) rfl (S := []) rfl ?_
    rintro _ U19 L19 Y19 ⟨rfl, M19, z19, A⟩
    replace N := Fr.app N M19
    show own_Out p e below _ U19 (mkF m 108 #[.val (.int p1), .val (.int p2), .val (.int p3), .val (.int p4), .val (.int (3 : Int32)), .val (.int ((p1.toInt8.toInt32).toInt16.toInt32)), .val (.int ((p2.toInt8.toInt32).toInt16.toInt32)), .val (.int ((p3.toInt8.toInt32).toInt16.toInt32)), .val (.ref aa), .val (.ref aa), .val (.int (1 : Int32)), .unset] [(.int (own_sh ((own_rec (own_rec (own_rec (fun _ => 0) ((0 : Int32)).toNatClampNeg ((p1.toInt8.toInt32).toInt16.toInt32)) (((0 : Int32) + 1)).toNatClampNeg ((p2.toInt8.toInt32).toInt16.toInt32)) ((((0 : Int32) + 1) + 1)).toNatClampNeg ((p3.toInt8.toInt32).toInt16.toInt32)) ((0 : Int32)).toNatClampNeg)))])
    rw [show own_sh ((own_rec (own_rec (own_rec (fun _ => 0) ((0 : Int32)).toNatClampNeg ((p1.toInt8.toInt32).toInt16.toInt32)) (((0 : Int32) + 1)).toNatClampNeg ((p2.toInt8.toInt32).toInt16.toInt32)) ((((0 : Int32) + 1) + 1)).toNatClampNeg ((p3.toInt8.toInt32).toInt16.toInt32)) ((0 : Int32)).toNatClampNeg) = ((p1.toInt8.toInt32).toInt16.toInt32) from own_rt p1]
    refine o_istore Y19 hx (hb hby at_108) (Ls' := #[.val (.int p1), .val (.int p2), .val (.int p3), .val (.int p4), .val (.int (3 : Int32)), .val (.int ((p1.toInt8.toInt32).toInt16.toInt32)), .val (.int ((p2.toInt8.toInt32).toInt16.toInt32)), .val (.int ((p3.toInt8.toInt32).toInt16.toInt32)), .val (.ref aa), .val (.ref aa), .val (.int (1 : Int32)), .val (.int ((p1.toInt8.toInt32).toInt16.toInt32))]) rfl (pc' := 110) rfl ?_
    refine o_iload Y19 hx (hb hby at_110) rfl (pc' := 112) rfl ?_
    refine o_if_eq Y19 hx (hb hby at_112) (pc' := 126) (pn := 115) (by decide) rfl (fun hc => ?_) (fun hc => ?_)
    · exact absurd hc (by decide)
    refine o_iload Y19 hx (hb hby at_115) rfl (pc' := 117) rfl ?_
    refine o_iload Y19 hx (hb hby at_117) rfl (pc' := 119) rfl ?_
    refine o_icmp_ne Y19 hx (hb hby at_119) (pc' := 126) (pn := 122) (by decide) rfl (fun hc => ?_) (fun hc => ?_)
    · exact absurd rfl hc
    refine o_iconst Y19 hx (hb hby at_122) (v := 1) rfl (pc' := 123) rfl ?_
    refine o_goto Y19 hx (hb hby at_123) (pc' := 127) (by decide) ?_
    refine o_istore Y19 hx (hb hby at_127) (Ls' := #[.val (.int p1), .val (.int p2), .val (.int p3), .val (.int p4), .val (.int (3 : Int32)), .val (.int ((p1.toInt8.toInt32).toInt16.toInt32)), .val (.int ((p2.toInt8.toInt32).toInt16.toInt32)), .val (.int ((p3.toInt8.toInt32).toInt16.toInt32)), .val (.ref aa), .val (.ref aa), .val (.int (1 : Int32)), .val (.int ((p1.toInt8.toInt32).toInt16.toInt32))]) rfl (pc' := 129) rfl ?_
    refine o_iload Y19 hx (hb hby at_129) rfl (pc' := 131) rfl ?_
    refine o_iconst Y19 hx (hb hby at_131) (v := 2) rfl (pc' := 132) rfl ?_
    refine o_icmp_lt Y19 hx (hb hby at_132) (pc' := 161) (pn := 135) (by decide) rfl (fun hc => ?_) (fun hc => ?_)
    · exact absurd hc (by decide)
    refine o_aload Y19 hx (hb hby at_135) rfl rfl (pc' := 137) rfl ?_
    refine o_callV Y19 hx hZ (y := (⟨"com/example/intact_tree/intacttree/ls/TreeWriter$Answers", "next", "()S"⟩ : MethodName)) (as' := []) (b := aa) (C := "com/example/intact_tree/intacttree/ls/TreeWriter$Answers") hown (hw _ (List.mem_of_getElem? (i := 31) rfl)) (hw _ (List.mem_of_getElem? (i := 32) rfl)) (hw _ (List.mem_of_getElem? (i := 34) rfl)) (hw _ (List.mem_of_getElem? (i := 33) rfl)) (hw _ (List.mem_of_getElem? (i := 2) rfl)) (hw _ (List.mem_of_getElem? (i := 35) rfl)) (by decide) rfl A.1 (own_rm6 l Z a0 hw [] aa bb ((0 : Int32) + 1) ((((0 : Int32) + 1) + 1) + 1) (own_rec (own_rec (own_rec (fun _ => 0) ((0 : Int32)).toNatClampNeg ((p1.toInt8.toInt32).toInt16.toInt32)) (((0 : Int32) + 1)).toNatClampNeg ((p2.toInt8.toInt32).toInt16.toInt32)) ((((0 : Int32) + 1) + 1)).toNatClampNeg ((p3.toInt8.toInt32).toInt16.toInt32)) U19.heap h0.size ga (by decide) (by decide) A) (by rw [hml]; rfl) own_pd4 rfl (W := 0) (Nat.le_of_eq rfl) (by decide) (by decide) (hb hby at_137) (by decide) (by decide) (pc' := 140) rfl (S := []) rfl ?_
    rintro _ U20 L20 Y20 ⟨rfl, M20, z20, A⟩
    replace N := Fr.app N M20
    show own_Out p e below _ U20 (mkF m 140 #[.val (.int p1), .val (.int p2), .val (.int p3), .val (.int p4), .val (.int (3 : Int32)), .val (.int ((p1.toInt8.toInt32).toInt16.toInt32)), .val (.int ((p2.toInt8.toInt32).toInt16.toInt32)), .val (.int ((p3.toInt8.toInt32).toInt16.toInt32)), .val (.ref aa), .val (.ref aa), .val (.int (1 : Int32)), .val (.int ((p1.toInt8.toInt32).toInt16.toInt32))] [(.int (own_sh ((own_rec (own_rec (own_rec (fun _ => 0) ((0 : Int32)).toNatClampNeg ((p1.toInt8.toInt32).toInt16.toInt32)) (((0 : Int32) + 1)).toNatClampNeg ((p2.toInt8.toInt32).toInt16.toInt32)) ((((0 : Int32) + 1) + 1)).toNatClampNeg ((p3.toInt8.toInt32).toInt16.toInt32)) (((0 : Int32) + 1)).toNatClampNeg)))])
    rw [show own_sh ((own_rec (own_rec (own_rec (fun _ => 0) ((0 : Int32)).toNatClampNeg ((p1.toInt8.toInt32).toInt16.toInt32)) (((0 : Int32) + 1)).toNatClampNeg ((p2.toInt8.toInt32).toInt16.toInt32)) ((((0 : Int32) + 1) + 1)).toNatClampNeg ((p3.toInt8.toInt32).toInt16.toInt32)) (((0 : Int32) + 1)).toNatClampNeg) = ((p2.toInt8.toInt32).toInt16.toInt32) from own_rt p2]
    refine o_istore Y20 hx (hb hby at_140) (Ls' := #[.val (.int p1), .val (.int p2), .val (.int p3), .val (.int p4), .val (.int (3 : Int32)), .val (.int ((p1.toInt8.toInt32).toInt16.toInt32)), .val (.int ((p2.toInt8.toInt32).toInt16.toInt32)), .val (.int ((p3.toInt8.toInt32).toInt16.toInt32)), .val (.ref aa), .val (.ref aa), .val (.int (1 : Int32)), .val (.int ((p2.toInt8.toInt32).toInt16.toInt32))]) rfl (pc' := 142) rfl ?_
    refine o_iload Y20 hx (hb hby at_142) rfl (pc' := 144) rfl ?_
    refine o_if_eq Y20 hx (hb hby at_144) (pc' := 158) (pn := 147) (by decide) rfl (fun hc => ?_) (fun hc => ?_)
    · exact absurd hc (by decide)
    refine o_iload Y20 hx (hb hby at_147) rfl (pc' := 149) rfl ?_
    refine o_iload Y20 hx (hb hby at_149) rfl (pc' := 151) rfl ?_
    refine o_icmp_ne Y20 hx (hb hby at_151) (pc' := 158) (pn := 154) (by decide) rfl (fun hc => ?_) (fun hc => ?_)
    · exact absurd rfl hc
    refine o_iconst Y20 hx (hb hby at_154) (v := 1) rfl (pc' := 155) rfl ?_
    refine o_goto Y20 hx (hb hby at_155) (pc' := 159) (by decide) ?_
    refine o_istore Y20 hx (hb hby at_159) (Ls' := #[.val (.int p1), .val (.int p2), .val (.int p3), .val (.int p4), .val (.int (3 : Int32)), .val (.int ((p1.toInt8.toInt32).toInt16.toInt32)), .val (.int ((p2.toInt8.toInt32).toInt16.toInt32)), .val (.int ((p3.toInt8.toInt32).toInt16.toInt32)), .val (.ref aa), .val (.ref aa), .val (.int (1 : Int32)), .val (.int ((p2.toInt8.toInt32).toInt16.toInt32))]) rfl (pc' := 161) rfl ?_
    refine o_iload Y20 hx (hb hby at_161) rfl (pc' := 163) rfl ?_
    refine o_iconst Y20 hx (hb hby at_163) (v := 3) rfl (pc' := 164) rfl ?_
    refine o_icmp_lt Y20 hx (hb hby at_164) (pc' := 193) (pn := 167) (by decide) rfl (fun hc => ?_) (fun hc => ?_)
    · exact absurd hc (by decide)
    refine o_aload Y20 hx (hb hby at_167) rfl rfl (pc' := 169) rfl ?_
    refine o_callV Y20 hx hZ (y := (⟨"com/example/intact_tree/intacttree/ls/TreeWriter$Answers", "next", "()S"⟩ : MethodName)) (as' := []) (b := aa) (C := "com/example/intact_tree/intacttree/ls/TreeWriter$Answers") hown (hw _ (List.mem_of_getElem? (i := 31) rfl)) (hw _ (List.mem_of_getElem? (i := 32) rfl)) (hw _ (List.mem_of_getElem? (i := 34) rfl)) (hw _ (List.mem_of_getElem? (i := 33) rfl)) (hw _ (List.mem_of_getElem? (i := 2) rfl)) (hw _ (List.mem_of_getElem? (i := 35) rfl)) (by decide) rfl A.1 (own_rm6 l Z a0 hw [] aa bb (((0 : Int32) + 1) + 1) ((((0 : Int32) + 1) + 1) + 1) (own_rec (own_rec (own_rec (fun _ => 0) ((0 : Int32)).toNatClampNeg ((p1.toInt8.toInt32).toInt16.toInt32)) (((0 : Int32) + 1)).toNatClampNeg ((p2.toInt8.toInt32).toInt16.toInt32)) ((((0 : Int32) + 1) + 1)).toNatClampNeg ((p3.toInt8.toInt32).toInt16.toInt32)) U20.heap h0.size ga (by decide) (by decide) A) (by rw [hml]; rfl) own_pd4 rfl (W := 0) (Nat.le_of_eq rfl) (by decide) (by decide) (hb hby at_169) (by decide) (by decide) (pc' := 172) rfl (S := []) rfl ?_
    rintro _ U21 L21 Y21 ⟨rfl, M21, z21, A⟩
    replace N := Fr.app N M21
    show own_Out p e below _ U21 (mkF m 172 #[.val (.int p1), .val (.int p2), .val (.int p3), .val (.int p4), .val (.int (3 : Int32)), .val (.int ((p1.toInt8.toInt32).toInt16.toInt32)), .val (.int ((p2.toInt8.toInt32).toInt16.toInt32)), .val (.int ((p3.toInt8.toInt32).toInt16.toInt32)), .val (.ref aa), .val (.ref aa), .val (.int (1 : Int32)), .val (.int ((p2.toInt8.toInt32).toInt16.toInt32))] [(.int (own_sh ((own_rec (own_rec (own_rec (fun _ => 0) ((0 : Int32)).toNatClampNeg ((p1.toInt8.toInt32).toInt16.toInt32)) (((0 : Int32) + 1)).toNatClampNeg ((p2.toInt8.toInt32).toInt16.toInt32)) ((((0 : Int32) + 1) + 1)).toNatClampNeg ((p3.toInt8.toInt32).toInt16.toInt32)) ((((0 : Int32) + 1) + 1)).toNatClampNeg)))])
    rw [show own_sh ((own_rec (own_rec (own_rec (fun _ => 0) ((0 : Int32)).toNatClampNeg ((p1.toInt8.toInt32).toInt16.toInt32)) (((0 : Int32) + 1)).toNatClampNeg ((p2.toInt8.toInt32).toInt16.toInt32)) ((((0 : Int32) + 1) + 1)).toNatClampNeg ((p3.toInt8.toInt32).toInt16.toInt32)) ((((0 : Int32) + 1) + 1)).toNatClampNeg) = ((p3.toInt8.toInt32).toInt16.toInt32) from own_rt p3]
    refine o_istore Y21 hx (hb hby at_172) (Ls' := #[.val (.int p1), .val (.int p2), .val (.int p3), .val (.int p4), .val (.int (3 : Int32)), .val (.int ((p1.toInt8.toInt32).toInt16.toInt32)), .val (.int ((p2.toInt8.toInt32).toInt16.toInt32)), .val (.int ((p3.toInt8.toInt32).toInt16.toInt32)), .val (.ref aa), .val (.ref aa), .val (.int (1 : Int32)), .val (.int ((p3.toInt8.toInt32).toInt16.toInt32))]) rfl (pc' := 174) rfl ?_
    refine o_iload Y21 hx (hb hby at_174) rfl (pc' := 176) rfl ?_
    refine o_if_eq Y21 hx (hb hby at_176) (pc' := 190) (pn := 179) (by decide) rfl (fun hc => ?_) (fun hc => ?_)
    · exact absurd hc (by decide)
    refine o_iload Y21 hx (hb hby at_179) rfl (pc' := 181) rfl ?_
    refine o_iload Y21 hx (hb hby at_181) rfl (pc' := 183) rfl ?_
    refine o_icmp_ne Y21 hx (hb hby at_183) (pc' := 190) (pn := 186) (by decide) rfl (fun hc => ?_) (fun hc => ?_)
    · exact absurd rfl hc
    refine o_iconst Y21 hx (hb hby at_186) (v := 1) rfl (pc' := 187) rfl ?_
    refine o_goto Y21 hx (hb hby at_187) (pc' := 191) (by decide) ?_
    refine o_istore Y21 hx (hb hby at_191) (Ls' := #[.val (.int p1), .val (.int p2), .val (.int p3), .val (.int p4), .val (.int (3 : Int32)), .val (.int ((p1.toInt8.toInt32).toInt16.toInt32)), .val (.int ((p2.toInt8.toInt32).toInt16.toInt32)), .val (.int ((p3.toInt8.toInt32).toInt16.toInt32)), .val (.ref aa), .val (.ref aa), .val (.int (1 : Int32)), .val (.int ((p3.toInt8.toInt32).toInt16.toInt32))]) rfl (pc' := 193) rfl ?_
    refine o_iload Y21 hx (hb hby at_193) rfl (pc' := 195) rfl ?_
    refine o_retN Y21 hx (t := .boolean) Bd.returns hlk (by simp) (hb hby at_195) rfl ⟨rfl, N⟩ (by decide) (by decide)
set_option maxRecDepth 65536 in
set_option maxHeartbeats 40000000 in
theorem own_comes {Post : Tables → Env → Array Value → State → Outcome → State → Prop} (hpost : ∀ tb e args s v u, (limb_1_1.after args s (.returned v) u = true ∧ limb_1_2.after args s (.returned v) u = true) → FrameEnd s (.returned v) u (Jvm.fieldLocs frame_1_writes args s ++ Jvm.arrayLocs frame_1_arrays args s ++ Jvm.staticLocs frame_1_statics s) 16 256 → Post tb e args s (.returned v) u) :
    ArmFor flags0 classFile x code maxLocals ret World_1 tables_1 room_1 Calls_1 rest_1 Pre_1 Post := by
  intro l hfl _ _ p e ha hc hk s m args below hf hA hF happ hP
  obtain ⟨hcalls, hrest, hpre⟩ := hP
  obtain ⟨-, -, -, hnamed, -, -, -, hat⟩ := (Spec.applies_iff hf).mp happ
  obtain ⟨hg, hn⟩ := and_e (Cond.before_iff.mp (show (Jvm.Cond.and given_1 narrow_1).before args s = true from hpre))
  obtain ⟨gc, gr0⟩ := and_e hg
  obtain ⟨g0, gr1⟩ := and_e gr0
  obtain ⟨g1, gr2⟩ := and_e gr1
  obtain ⟨g2, g3⟩ := and_e gr2
  obtain ⟨w0, w1, w2, w3, rfl⟩ : ∃ w0 w1 w2 w3 : Value, args = #[w0, w1, w2, w3] := by
    have hs : args.size = 4 := by simpa [Cond.value, given_1] using gc
    obtain ⟨L⟩ := args
    match L, hs with
    | [w0, w1, w2, w3], _ => exact ⟨w0, w1, w2, w3, rfl⟩
  have hw := fun d (hd : d ∈ tables_1) => atoms_spec (ws := Jvm.Cond.code x code maxLocals ret :: tables_1) hat d (List.mem_cons_of_mem _ hd)
  obtain ⟨i0, ei0⟩ := is_v g0
  obtain rfl : w0 = (.int i0) := Option.some.inj ei0
  obtain ⟨i1, ei1⟩ := is_v g1
  obtain rfl : w1 = (.int i1) := Option.some.inj ei1
  obtain ⟨i2, ei2⟩ := is_v g2
  obtain rfl : w2 = (.int i2) := Option.some.inj ei2
  obtain ⟨i3, ei3⟩ := is_v g3
  obtain rfl : w3 = (.int i3) := Option.some.inj ei3
  obtain ⟨n, o, h1, h2, h3, _, L, rfl, ⟨rfl, N⟩, hq⟩ := own_rm0 l s _ hw tables_1 i0 i1 i2 i3 s.heap  p e ha hc hk s m _ below hf ((Spec.applies_iff_loose hf).mp happ).1 ⟨rfl, State.Warmed39.refl s, rfl⟩ trivial
  exact ⟨n, _, h1, h2, h3, hpost _ _ _ _ _ _ ⟨Cond.after_iff.mpr rfl, Cond.after_iff.mpr (eq_i res_at (Term.int_eval (1)) rfl)⟩ ⟨hq.1, hq.2.1, (hq.2.2.sift fun y hy => Or.inr (N y hy)).mono (by decide) (by decide)⟩⟩
theorem main_1_1 : Claimed_1_1 := own_comes fun _ _ _ _ _ _ h hF => ⟨h.1, hF⟩
theorem main_1_2 : Claimed_1_2 := own_comes fun _ _ _ _ _ _ h hF => ⟨h.2, hF⟩
end Jvm.Pilot.@@N@@
namespace Jvm.Pilot.@@N@@
open Jvm Jvm.ClassFile Sem Op Lib Jvm.Free Jvm.Stand Jvm.Pilot.@@N@@.Jvm.D
/-! MADE BY PROGRAM (witnessworld.py) out of the Statement's table words and the real class files: 9 classes; the members and pool entries that the words name. The judged class is class 1, her method 1. -/
namespace start1
open Jvm.ClassFile
def u (s : String) : CpInfo := .utf8 (stringToUtf16 s)
/-- a pool by its gaps: so many unusable entries, then the entry; so many at the end -/
def gap : Nat → List CpInfo → List CpInfo
  | 0, r => r
  | n + 1, r => .unusable :: gap n r
def poolList (es : List (Nat × CpInfo)) (last : Nat) : List CpInfo := es.foldr (fun e r => gap e.1 (e.2 :: r)) (gap last [])
def pool (es : List (Nat × CpInfo)) (last : Nat) : Array CpInfo := ⟨poolList es last⟩
def fileOf (pool : Array CpInfo) (this : Nat) (attrs : Array Attribute := #[]) (ms : Array MethodInfo := #[]) (fl : Nat := 33) (sup : Nat := 0) (ifs : Array Nat := #[]) (fds : Array FieldInfo := #[]) : ClassFile where
  minorVersion := 0
  majorVersion := 65
  constantPool := pool
  accessFlags := fl
  thisClass := this
  superClass := sup
  interfaces := ifs
  fields := fds
  methods := ms
  attributes := attrs
def plain (name : String) (sup : Option ClassId) : Class where
  name := name
  kind := .ordinary
  loader := none
  accessFlags := 33
  super := sup
  interfaces := #[]
  cf := none
  fields := #[]
  methods := #[]
  instanceTypes := #[]
  staticTypes := #[]
  resolved := #[]
  callSites := []
  init := .initialized
  statics := none
  mirror := none

def pool0 : Array CpInfo := pool [(5, u "<init>"), (0, u "()V"), (1, .class_ 10), (1, u "java/lang/Object")] 113

def k0c0 : Code := { maxStack := 0, maxLocals := 1, code := object_method_1_code, exceptionTable := #[], attributes := #[] }
def k0m0 : Method := { name := "<init>", desc := "()V", sig := { parameters := [], returnType := none }, accessFlags := 1, code := some k0c0 }
/-- java/lang/Object -/
def k0 : Class := { plain "java/lang/Object" none with
  accessFlags := 33
  interfaces := #[]
  cf := some (fileOf pool0 8 #[] #[{ accessFlags := 1, nameIndex := 5, descriptorIndex := 6, attributes := #[] }] 33 0 #[] #[])
  fields := #[]
  methods := #[k0m0]
  instanceTypes := #[]
  staticTypes := #[]
  resolved := Array.replicate 124 none
  statics := none }

def pool1 : Array CpInfo := pool [(2, .class_ 4), (0, .nameAndType 5 6), (0, u "java/lang/Object"), (0, u "<init>"), (0, u "()V"), (0, .class_ 8), (0, u "com/example/intact_tree/intacttree/ls/TreeWriter$Answers"), (0, .methodref 7 3), (0, .methodref 7 11), (0, .nameAndType 12 13), (0, u "record"), (0, u "(S)V"), (0, .methodref 7 15), (0, .nameAndType 16 17), (0, u "replayed"), (0, u "()Lcom/example/intact_tree/intacttree/ls/TreeWriter$Answers;"), (0, .methodref 7 19), (0, .nameAndType 20 21), (0, u "replaying"), (0, u "()Z"), (0, .methodref 7 23), (0, .nameAndType 24 25), (0, u "next"), (0, u "()S"), (0, .class_ 27), (0, u "com/example/intact_tree/intacttree/ls/TreeWriterAnswersNextPinLaw"), (2, u "law"), (0, u "(IIII)Z")] 7

def k1m0 : Method := { name := "<init>", desc := "()V", sig := { parameters := [], returnType := none }, accessFlags := 1, code := none }
def k1c1 : Code := { maxStack := 2, maxLocals := 12, code := code, exceptionTable := #[], attributes := #[] }
def k1m1 : Method := { name := "law", desc := "(IIII)Z", sig := { parameters := [.int, .int, .int, .int], returnType := some .boolean }, accessFlags := 9, code := some k1c1 }
/-- com/example/intact_tree/intacttree/ls/TreeWriterAnswersNextPinLaw -/
def k1 : Class := { plain "com/example/intact_tree/intacttree/ls/TreeWriterAnswersNextPinLaw" (some 0) with
  accessFlags := 49
  interfaces := #[]
  cf := some (fileOf pool1 26 #[] #[{ accessFlags := 1, nameIndex := 5, descriptorIndex := 6, attributes := #[] }, { accessFlags := 9, nameIndex := 30, descriptorIndex := 31, attributes := #[] }] 49 2 #[] #[])
  fields := #[]
  methods := #[k1m0, k1m1]
  instanceTypes := #[]
  staticTypes := #[]
  resolved := Array.replicate 39 none
  statics := none }

def pool2 : Array CpInfo := pool [(1, .methodref 2 3), (0, .class_ 4), (0, .nameAndType 5 6), (0, u "java/lang/Object"), (0, u "<init>"), (0, u "()V"), (0, .fieldref 8 9), (0, .class_ 10), (0, .nameAndType 11 12), (0, u "com/example/intact_tree/intacttree/ls/TreeWriter$Answers"), (0, u "given"), (0, u "[B"), (0, .fieldref 8 14), (0, .nameAndType 15 16), (0, u "next"), (0, u "I"), (2, u "whatToShow"), (0, .fieldref 8 21), (0, .nameAndType 22 16), (0, u "count"), (15, u "replaying"), (0, u "()Z"), (1, u "replayed"), (0, u "()Lcom/example/intact_tree/intacttree/ls/TreeWriter$Answers;"), (3, u "record"), (0, u "(S)V"), (0, u "()S"), (3, .class_ 53), (0, u "com/example/intact_tree/intacttree/ls/TreeWriter")] 2

def k2c0 : Code := { maxStack := 2, maxLocals := 1, code := prog_99_method_1_code, exceptionTable := #[], attributes := #[] }
def k2m0 : Method := { name := "<init>", desc := "()V", sig := { parameters := [], returnType := none }, accessFlags := 0, code := some k2c0 }
def k2c1 : Code := { maxStack := 1, maxLocals := 1, code := prog_99_method_2_code, exceptionTable := #[], attributes := #[] }
def k2m1 : Method := { name := "replaying", desc := "()Z", sig := { parameters := [], returnType := some .boolean }, accessFlags := 0, code := some k2c1 }
def k2c2 : Code := { maxStack := 2, maxLocals := 1, code := prog_99_method_3_code, exceptionTable := #[], attributes := #[] }
def k2m2 : Method := { name := "replayed", desc := "()Lcom/example/intact_tree/intacttree/ls/TreeWriter$Answers;", sig := { parameters := [], returnType := some (.object "com/example/intact_tree/intacttree/ls/TreeWriter$Answers") }, accessFlags := 0, code := some k2c2 }
def k2c3 : Code := { maxStack := 5, maxLocals := 2, code := prog_99_method_6_code, exceptionTable := #[], attributes := #[] }
def k2m3 : Method := { name := "record", desc := "(S)V", sig := { parameters := [.short], returnType := none }, accessFlags := 0, code := some k2c3 }
def k2c4 : Code := { maxStack := 5, maxLocals := 1, code := prog_99_method_7_code, exceptionTable := #[], attributes := #[] }
def k2m4 : Method := { name := "next", desc := "()S", sig := { parameters := [], returnType := some .short }, accessFlags := 0, code := some k2c4 }
/-- com/example/intact_tree/intacttree/ls/TreeWriter$Answers -/
def k2 : Class := { plain "com/example/intact_tree/intacttree/ls/TreeWriter$Answers" (some 0) with
  accessFlags := 32
  interfaces := #[]
  cf := some (fileOf pool2 8 #[.nestHost 52] #[{ accessFlags := 0, nameIndex := 5, descriptorIndex := 6, attributes := #[] }, { accessFlags := 0, nameIndex := 38, descriptorIndex := 39, attributes := #[] }, { accessFlags := 0, nameIndex := 41, descriptorIndex := 42, attributes := #[] }, { accessFlags := 0, nameIndex := 46, descriptorIndex := 47, attributes := #[] }, { accessFlags := 0, nameIndex := 15, descriptorIndex := 48, attributes := #[] }] 32 2 #[] #[{ accessFlags := 2, nameIndex := 19, descriptorIndex := 16, attributes := #[] }, { accessFlags := 2, nameIndex := 11, descriptorIndex := 12, attributes := #[] }, { accessFlags := 2, nameIndex := 22, descriptorIndex := 16, attributes := #[] }, { accessFlags := 2, nameIndex := 15, descriptorIndex := 16, attributes := #[] }])
  fields := #[{ name := "whatToShow", type := .int, accessFlags := 2, slot := 0, constantValue := 0 }, { name := "given", type := (.array .byte), accessFlags := 2, slot := 1, constantValue := 0 }, { name := "count", type := .int, accessFlags := 2, slot := 2, constantValue := 0 }, { name := "next", type := .int, accessFlags := 2, slot := 3, constantValue := 0 }]
  methods := #[k2m0, k2m1, k2m2, k2m3, k2m4]
  instanceTypes := #[.int, (.array .byte), .int, .int]
  staticTypes := #[]
  resolved := Array.replicate 56 none
  statics := none }

def pool3 : Array CpInfo := pool [(1, u "java/lang/Cloneable"), (0, .class_ 1), (0, u "java/lang/Object"), (0, .class_ 3)] 3

/-- java/lang/Cloneable -/
def k3 : Class := { plain "java/lang/Cloneable" (some 0) with
  accessFlags := 1537
  interfaces := #[]
  cf := some (fileOf pool3 2 #[] #[] 1537 4 #[] #[])
  fields := #[]
  methods := #[]
  instanceTypes := #[]
  staticTypes := #[]
  resolved := Array.replicate 8 none
  statics := none }

def pool4 : Array CpInfo := pool [(1, u "java/io/Serializable"), (0, .class_ 1), (0, u "java/lang/Object"), (0, .class_ 3)] 3

/-- java/io/Serializable -/
def k4 : Class := { plain "java/io/Serializable" (some 0) with
  accessFlags := 1537
  interfaces := #[]
  cf := some (fileOf pool4 2 #[] #[] 1537 4 #[] #[])
  fields := #[]
  methods := #[]
  instanceTypes := #[]
  staticTypes := #[]
  resolved := Array.replicate 8 none
  statics := none }

/-- the primitive byte -/
def k5 : Class := { plain "byte" none with kind := .primitive 'B', accessFlags := 0x411 }
/-- [B -/
def k6 : Class := { plain "[B" (some 0) with kind := .array 5 .byte, interfaces := #[3, 4], accessFlags := 1041 }

/-- the primitive int -/
def k7 : Class := { plain "int" none with kind := .primitive 'I', accessFlags := 0x411 }
/-- [I -/
def k8 : Class := { plain "[I" (some 0) with kind := .array 7 .int, interfaces := #[3, 4], accessFlags := 1041 }

def heap : Heap := #[]
def classes : Array Class := #[k0, k1, k2, k3, k4, k5, k6, k7, k8]
def interned : List (Array UInt16 × Addr) := []
def slotsUsed : Nat := 0
def theMethod : MethodId := ⟨1, 1⟩
def args0 : Array Value := #[.int 9, .int 4, .int 7, .int 3]
def aboutOver (below : List Frame) : State where
  vm := { classes := classes, interned := interned.toArray }
  heap := heap
  slotsUsed := slotsUsed
  threads := #[{ frames := .invoking theMethod args0 :: below }]
def below0 : List Frame := [.native { method := ⟨0, 0⟩, args := #[] }]
def about1 : State := aboutOver below0
def p0 : Program := .bare "" "" ""
def e0 : Env := launch0.env 0 0 0
theorem w_frames : about1.frames = Frame.invoking theMethod args0 :: below0 := rfl
set_option maxRecDepth 65536 in
theorem w_args : argsFit about1.vm theMethod args0 = true := by decide +kernel
set_option maxRecDepth 65536 in
theorem w_heap : heapFits about1 = true := by decide +kernel
set_option maxRecDepth 65536 in
theorem w_runnable : about1.curStatus? = some .runnable := by decide +kernel
set_option maxRecDepth 65536 in
theorem w_alone : about1.alone = true := by decide +kernel
set_option maxRecDepth 65536 in
theorem w_named : about1.methodNamed? x = some theMethod := by decide +kernel
set_option maxRecDepth 65536 in
theorem w_hears : about1.hears theMethod below0 = true := by decide +kernel
set_option maxRecDepth 65536 in
theorem w_ripe : about1.ripe theMethod args0 below0 = true := by decide +kernel
theorem w_running : about1.status = .running := rfl
set_option maxRecDepth 65536 in
theorem w_room : about1.hasRoom e0.platform room_1 = true :=
  launch0.hasRoom_least _ room_1 (by decide +kernel) (by decide +kernel) (by decide +kernel) (by decide +kernel) (by decide +kernel) (by decide +kernel)
theorem allAtoms_all (ts : List Jvm.Cond) (a : Array Jvm.Value) (st : Jvm.State) : (allAtoms ts).before a st = ts.all (fun c => c.before a st) := by
  induction ts with
  | nil => rfl
  | cons c t ih =>
    show (Jvm.Cond.and c (allAtoms t)).before a st = _
    rw [Jvm.Cond.before_and, ih, List.all_cons]
def words1 : List Jvm.Cond := Jvm.Cond.code x code maxLocals ret :: tables_1
/-- a 'code' word, met by the world's own term for the bytes: nothing is compared byte by byte -/
theorem code_word {y : MethodName} {bytes : ByteArray} {mx : Nat} {rt : Option FieldType} {a : Array Value} {s : State} {m : MethodId} {meth : Method} {c : Code} (h1 : s.methodNamed? y = some m) (h2 : s.vm.method? m = some meth) (h3 : meth.code = some c) (h4 : c.code = bytes)
    (h5 : (c.maxLocals == mx && c.exceptionTable.isEmpty && decide (c.maxStack ≤ mostOperands) && decide (meth.sig.returnType = rt) && !meth.locks && decide (parseMethodDescriptor y.desc = some meth.sig)) = true) : (Jvm.Cond.code y bytes mx rt).before a s = true := by
  simp only [Bool.and_eq_true, beq_iff_eq, Bool.not_eq_true', decide_eq_true_eq] at h5
  obtain ⟨⟨⟨⟨⟨g1, g2⟩, g3⟩, g4⟩, g5⟩, g6⟩ := h5
  simp [Cond.before, Cond.holds, Cond.value, h1, h2, h3, h4, g1, g2, g3, g4, g5, g6]
def isCode : Jvm.Cond → Bool
  | .code _ _ _ _ => true
  | _ => false
theorem all_split {L : List Jvm.Cond} {P : Jvm.Cond → Bool} (h1 : L.all (fun c => isCode c || P c) = true) (h2 : ∀ c ∈ L.filter isCode, P c = true) : L.all P = true := by
  refine List.all_eq_true.mpr fun c hc => ?_
  have h := List.all_eq_true.mp h1 c hc
  rcases Bool.eq_false_or_eq_true (isCode c) with hi | hi
  · exact h2 c (List.mem_filter.mpr ⟨hc, hi⟩)
  · simpa [hi] using h
set_option maxRecDepth 65536 in
theorem w_c0 : (Jvm.Cond.code x code maxLocals ret).before args0 about1 = true := code_word (m := ⟨1, 1⟩) (meth := k1m1) (c := k1c1) (by decide +kernel) rfl rfl rfl (by decide +kernel)
set_option maxRecDepth 65536 in
theorem w_c1 : (Jvm.Cond.code ({ cls := "com/example/intact_tree/intacttree/ls/TreeWriter$Answers", name := "<init>", desc := "()V" } : Jvm.MethodName) prog_99_method_1_code (1 : Nat) (Option.none : Option Jvm.ClassFile.FieldType)).before args0 about1 = true := code_word (m := ⟨2, 0⟩) (meth := k2m0) (c := k2c0) (by decide +kernel) rfl rfl rfl (by decide +kernel)
set_option maxRecDepth 65536 in
theorem w_c2 : (Jvm.Cond.code ({ cls := "java/lang/Object", name := "<init>", desc := "()V" } : Jvm.MethodName) object_method_1_code (1 : Nat) (Option.none : Option Jvm.ClassFile.FieldType)).before args0 about1 = true := code_word (m := ⟨0, 0⟩) (meth := k0m0) (c := k0c0) (by decide +kernel) rfl rfl rfl (by decide +kernel)
set_option maxRecDepth 65536 in
theorem w_c3 : (Jvm.Cond.code ({ cls := "com/example/intact_tree/intacttree/ls/TreeWriter$Answers", name := "record", desc := "(S)V" } : Jvm.MethodName) prog_99_method_6_code (2 : Nat) (Option.none : Option Jvm.ClassFile.FieldType)).before args0 about1 = true := code_word (m := ⟨2, 3⟩) (meth := k2m3) (c := k2c3) (by decide +kernel) rfl rfl rfl (by decide +kernel)
set_option maxRecDepth 65536 in
theorem w_c4 : (Jvm.Cond.code ({ cls := "com/example/intact_tree/intacttree/ls/TreeWriter$Answers", name := "replayed", desc := "()Lcom/example/intact_tree/intacttree/ls/TreeWriter$Answers;" } : Jvm.MethodName) prog_99_method_3_code (1 : Nat) (Option.some (Jvm.ClassFile.FieldType.object "com/example/intact_tree/intacttree/ls/TreeWriter$Answers"))).before args0 about1 = true := code_word (m := ⟨2, 2⟩) (meth := k2m2) (c := k2c2) (by decide +kernel) rfl rfl rfl (by decide +kernel)
set_option maxRecDepth 65536 in
theorem w_c5 : (Jvm.Cond.code ({ cls := "com/example/intact_tree/intacttree/ls/TreeWriter$Answers", name := "replaying", desc := "()Z" } : Jvm.MethodName) prog_99_method_2_code (1 : Nat) (Option.some Jvm.ClassFile.FieldType.boolean)).before args0 about1 = true := code_word (m := ⟨2, 1⟩) (meth := k2m1) (c := k2c1) (by decide +kernel) rfl rfl rfl (by decide +kernel)
set_option maxRecDepth 65536 in
theorem w_c6 : (Jvm.Cond.code ({ cls := "com/example/intact_tree/intacttree/ls/TreeWriter$Answers", name := "next", desc := "()S" } : Jvm.MethodName) prog_99_method_7_code (1 : Nat) (Option.some Jvm.ClassFile.FieldType.short)).before args0 about1 = true := code_word (m := ⟨2, 4⟩) (meth := k2m4) (c := k2c4) (by decide +kernel) rfl rfl rfl (by decide +kernel)
def codes1 : List Jvm.Cond := [Jvm.Cond.code x code maxLocals ret, Jvm.Cond.code ({ cls := "com/example/intact_tree/intacttree/ls/TreeWriter$Answers", name := "<init>", desc := "()V" } : Jvm.MethodName) prog_99_method_1_code (1 : Nat) (Option.none : Option Jvm.ClassFile.FieldType), Jvm.Cond.code ({ cls := "java/lang/Object", name := "<init>", desc := "()V" } : Jvm.MethodName) object_method_1_code (1 : Nat) (Option.none : Option Jvm.ClassFile.FieldType), Jvm.Cond.code ({ cls := "com/example/intact_tree/intacttree/ls/TreeWriter$Answers", name := "record", desc := "(S)V" } : Jvm.MethodName) prog_99_method_6_code (2 : Nat) (Option.none : Option Jvm.ClassFile.FieldType), Jvm.Cond.code ({ cls := "com/example/intact_tree/intacttree/ls/TreeWriter$Answers", name := "replayed", desc := "()Lcom/example/intact_tree/intacttree/ls/TreeWriter$Answers;" } : Jvm.MethodName) prog_99_method_3_code (1 : Nat) (Option.some (Jvm.ClassFile.FieldType.object "com/example/intact_tree/intacttree/ls/TreeWriter$Answers")), Jvm.Cond.code ({ cls := "com/example/intact_tree/intacttree/ls/TreeWriter$Answers", name := "replaying", desc := "()Z" } : Jvm.MethodName) prog_99_method_2_code (1 : Nat) (Option.some Jvm.ClassFile.FieldType.boolean), Jvm.Cond.code ({ cls := "com/example/intact_tree/intacttree/ls/TreeWriter$Answers", name := "next", desc := "()S" } : Jvm.MethodName) prog_99_method_7_code (1 : Nat) (Option.some Jvm.ClassFile.FieldType.short)]
set_option maxRecDepth 65536 in
theorem codes_eq : words1.filter isCode = codes1 := rfl
theorem w_codes : ∀ c ∈ words1.filter isCode, c.before args0 about1 = true := by
  rw [codes_eq]
  intro c hc
  simp only [codes1, List.mem_cons, List.not_mem_nil, or_false] at hc
  rcases hc with rfl | rfl | rfl | rfl | rfl | rfl | rfl
  · exact w_c0
  · exact w_c1
  · exact w_c2
  · exact w_c3
  · exact w_c4
  · exact w_c5
  · exact w_c6
set_option maxRecDepth 65536 in
theorem w_t1 : (words1.take 24).all (fun c => isCode c || c.before args0 about1) = true := by decide +kernel
set_option maxRecDepth 65536 in
theorem w_t2 : (words1.drop 24).all (fun c => isCode c || c.before args0 about1) = true := by decide +kernel
theorem w_tables : (allAtoms (Jvm.Cond.code x code maxLocals ret :: tables_1)).before args0 about1 = true := by
  rw [allAtoms_all]
  show words1.all (fun c => c.before args0 about1) = true
  refine all_split ?_ w_codes
  rw [← List.take_append_drop 24 words1, List.all_append, w_t1, w_t2]
  rfl
set_option maxRecDepth 65536 in
theorem w_case : (Jvm.Cond.and given_1 narrow_1).before args0 about1 = true := by decide +kernel
theorem w_applies : (headSpec (Jvm.Cond.code x code maxLocals ret :: tables_1) room_1).applies x e0.platform about1 = true :=
  (Spec.applies_iff w_frames).mpr ⟨w_running, w_runnable, w_alone, w_named, w_hears, w_ripe, w_room, w_tables⟩
theorem atStart : AtStart classFile x code maxLocals ret World_1 tables_1 room_1 Calls_1 rest_1 Pre_1 launch0 p0 e0 about1 theMethod args0 below0 :=
  ⟨lists_1, trivial, launch0.admits_env _ _ _, launch0.least_env, fairChoices_fair.cas, fairChoices_fair.clock, w_frames, w_args, w_heap, w_applies, trivial, trivial, w_case⟩
end start1
theorem witness_1 : WitnessClaimed_1 := ⟨start1.p0, start1.e0, start1.about1, start1.theMethod, start1.args0, start1.below0, start1.atStart⟩
end Jvm.Pilot.@@N@@
