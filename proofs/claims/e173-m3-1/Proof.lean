import JvmDerived
import JvmDerived.Pilot.@@N@@Statement
import JvmDerived.Pilot.@@N@@Code
set_option linter.unusedVariables false
set_option linter.unusedSimpArgs false
@@BLOCK:NumsL.lean.txt@@
namespace Jvm.Pilot.@@N@@
open Jvm Jvm.ClassFile Sem Op Lib Jvm.Free Jvm.Stand Jvm.LawKit Jvm.RoadKit Bundle Jvm.Pilot.@@N@@.Jvm.D
def own_Out (p : Program) (e : Env) (below : List Frame) (P : Outcome → State → Prop) (T : State) (g : JFrame) : Prop :=
  ∃ s₂ o, Steps p.tables e below (T.setTop g) s₂ ∧ s₂.status = .running ∧ Ended s₂ below o ∧ P o s₂
abbrev own_P (s : State) (Q : Option Value → Heap → List Loc → Prop) (k n : Nat) : Outcome → State → Prop := fun o U' => ∃ v L, o = .returned v ∧ Q v U'.heap L ∧ FrameEnd s o U' L k n
/-- the value r comes back, nothing is written -/
def own_Pure (r : Value) (h0 : Heap) (v : Option Value) (h : Heap) (L : List Loc) : Prop := v = some r ∧ L = [] ∧ h = h0
def own_b (q : Prop) [Decidable q] : Int32 := if q then 1 else 0
theorem own_bt {q : Prop} [Decidable q] (h : q) : own_b q = 1 := if_pos h
theorem own_bf {q : Prop} [Decidable q] (h : ¬ q) : own_b q = 0 := if_neg h
theorem own_b01 {q : Prop} [Decidable q] : own_b q = 1 ∨ own_b q = 0 := by by_cases h : q <;> simp [own_b, h]
section OwnKit
variable {p : Program} {l : Launch} {e : Env} {R : Room} {s : State} {m : MethodId} {args : Array Value} {below : List Frame} {meth : Method} {c : Code} {T T' : State} {locs : List Loc} {cells slots : Nat} {P : Outcome → State → Prop} {pc pc' : Nat} {Ls Ls' : Array Slot} {S : List Value} {g g' : JFrame} {Z : State} {a0 : Array Value} {h : Heap} {Q : Option Value → Heap → List Loc → Prop} {kc kn : Nat}
theorem own_by (st : ∀ t, Steps p.tables e below (T'.setTop g') t → Steps p.tables e below (T.setTop g) t) (h : own_Out p e below P T' g') : own_Out p e below P T g := by
  obtain ⟨s₂, o, h1, h2⟩ := h
  exact ⟨s₂, o, st _ h1, h2⟩
theorem own_go (st : Steps p.tables e below (T.setTop g) (T'.setTop g')) (h : own_Out p e below P T' g') : own_Out p e below P T g := by
  obtain ⟨s₂, o, h1, h2⟩ := h
  exact ⟨s₂, o, st.trans h1, h2⟩
theorem o_aloadN (X : Stand p l e R s m args below meth c T locs cells slots) (hx : p.tables.exec = Jvm.exec) {k' : Fin 4} {v : Value} (hd : decode c.code pc = .ok (.aload_n k', 1)) (hl : Ls[k'.val]? = some (.val v)) (hv : v.isRef = true) (hp : pc + 1 = pc')
    (k : own_Out p e below P T (mkF m pc' Ls (v :: S))) : own_Out p e below P T (mkF m pc Ls (S)) := by
  subst hp
  exact own_by (fun _ => XS.aloadN X.here hx rfl hd hl hv) k
theorem o_aload (X : Stand p l e R s m args below meth c T locs cells slots) (hx : p.tables.exec = Jvm.exec) {k' : Nat} {v : Value} (hd : decode c.code pc = .ok (.aload k', 2)) (hl : Ls[k']? = some (.val v)) (hv : v.isRef = true) (hp : pc + 2 = pc')
    (k : own_Out p e below P T (mkF m pc' Ls (v :: S))) : own_Out p e below P T (mkF m pc Ls (S)) := by
  subst hp
  exact own_by (fun _ => XS.aload X.here hx rfl hd hl hv) k
theorem o_iloadN (X : Stand p l e R s m args below meth c T locs cells slots) (hx : p.tables.exec = Jvm.exec) {k' : Fin 4} {v : Int32} (hd : decode c.code pc = .ok (.iload_n k', 1)) (hl : Ls[k'.val]? = some (.val (.int v))) (hp : pc + 1 = pc')
    (k : own_Out p e below P T (mkF m pc' Ls (.int v :: S))) : own_Out p e below P T (mkF m pc Ls (S)) := by
  subst hp
  exact own_by (fun _ => XS.iloadN X.here hx rfl hd hl) k
theorem o_iload (X : Stand p l e R s m args below meth c T locs cells slots) (hx : p.tables.exec = Jvm.exec) {k' : Nat} {v : Int32} (hd : decode c.code pc = .ok (.iload k', 2)) (hl : Ls[k']? = some (.val (.int v))) (hp : pc + 2 = pc')
    (k : own_Out p e below P T (mkF m pc' Ls (.int v :: S))) : own_Out p e below P T (mkF m pc Ls (S)) := by
  subst hp
  exact own_by (fun _ => XS.iload X.here hx rfl hd hl) k
theorem o_lloadN (X : Stand p l e R s m args below meth c T locs cells slots) (hx : p.tables.exec = Jvm.exec) {k' : Fin 4} {v : Int64} (hd : decode c.code pc = .ok (.lload_n k', 1)) (hl : Ls[k'.val]? = some (.val (.long v))) (hp : pc + 1 = pc')
    (k : own_Out p e below P T (mkF m pc' Ls (.long v :: S))) : own_Out p e below P T (mkF m pc Ls (S)) := by
  subst hp
  exact own_by (fun _ => XS.lloadN X.here hx rfl hd hl) k
theorem o_lload (X : Stand p l e R s m args below meth c T locs cells slots) (hx : p.tables.exec = Jvm.exec) {k' : Nat} {v : Int64} (hd : decode c.code pc = .ok (.lload k', 2)) (hl : Ls[k']? = some (.val (.long v))) (hp : pc + 2 = pc')
    (k : own_Out p e below P T (mkF m pc' Ls (.long v :: S))) : own_Out p e below P T (mkF m pc Ls (S)) := by
  subst hp
  exact own_by (fun _ => XS.lload X.here hx rfl hd hl) k
theorem o_istoreN (X : Stand p l e R s m args below meth c T locs cells slots) (hx : p.tables.exec = Jvm.exec) {k' : Fin 4} {x : Int32} (hd : decode c.code pc = .ok (.istore_n k', 1)) (hl : storeLocals Ls k'.val (.int x) = some Ls') (hp : pc + 1 = pc')
    (k : own_Out p e below P T (mkF m pc' Ls' (S))) : own_Out p e below P T (mkF m pc Ls (.int x :: S)) := by
  subst hp
  exact own_by (fun _ => XS.istoreN X.here hx rfl hd rfl hl) k
theorem o_istore (X : Stand p l e R s m args below meth c T locs cells slots) (hx : p.tables.exec = Jvm.exec) {k' : Nat} {x : Int32} (hd : decode c.code pc = .ok (.istore k', 2)) (hl : storeLocals Ls k' (.int x) = some Ls') (hp : pc + 2 = pc')
    (k : own_Out p e below P T (mkF m pc' Ls' (S))) : own_Out p e below P T (mkF m pc Ls (.int x :: S)) := by
  subst hp
  exact own_by (fun _ => XS.istore X.here hx rfl hd rfl hl) k
theorem o_lstoreN (X : Stand p l e R s m args below meth c T locs cells slots) (hx : p.tables.exec = Jvm.exec) {k' : Fin 4} {x : Int64} (hd : decode c.code pc = .ok (.lstore_n k', 1)) (hl : storeLocals Ls k'.val (.long x) = some Ls') (hp : pc + 1 = pc')
    (k : own_Out p e below P T (mkF m pc' Ls' (S))) : own_Out p e below P T (mkF m pc Ls (.long x :: S)) := by
  subst hp
  exact own_by (fun _ => XS.lstoreN X.here hx rfl hd rfl hl) k
theorem o_lstore (X : Stand p l e R s m args below meth c T locs cells slots) (hx : p.tables.exec = Jvm.exec) {k' : Nat} {x : Int64} (hd : decode c.code pc = .ok (.lstore k', 2)) (hl : storeLocals Ls k' (.long x) = some Ls') (hp : pc + 2 = pc')
    (k : own_Out p e below P T (mkF m pc' Ls' (S))) : own_Out p e below P T (mkF m pc Ls (.long x :: S)) := by
  subst hp
  exact own_by (fun _ => XS.lstore X.here hx rfl hd rfl hl) k
theorem o_astoreN (X : Stand p l e R s m args below meth c T locs cells slots) (hx : p.tables.exec = Jvm.exec) {k' : Fin 4} {x : Value} (hd : decode c.code pc = .ok (.astore_n k', 1)) (hv : x.isRef = true) (hl : storeLocals Ls k'.val x = some Ls') (hp : pc + 1 = pc')
    (k : own_Out p e below P T (mkF m pc' Ls' (S))) : own_Out p e below P T (mkF m pc Ls (x :: S)) := by
  subst hp
  exact own_by (fun _ => XS.astoreN X.here hx rfl hd rfl hv hl) k
theorem o_astore (X : Stand p l e R s m args below meth c T locs cells slots) (hx : p.tables.exec = Jvm.exec) {k' : Nat} {x : Value} (hd : decode c.code pc = .ok (.astore k', 2)) (hv : x.isRef = true) (hl : storeLocals Ls k' x = some Ls') (hp : pc + 2 = pc')
    (k : own_Out p e below P T (mkF m pc' Ls' (S))) : own_Out p e below P T (mkF m pc Ls (x :: S)) := by
  subst hp
  exact own_by (fun _ => XS.astore X.here hx rfl hd rfl hv hl) k
theorem o_iconst (X : Stand p l e R s m args below meth c T locs cells slots) (hx : p.tables.exec = Jvm.exec) {i : Int} {v : Int32} (hd : decode c.code pc = .ok (.iconst i, 1)) (hv : Int32.ofInt i = v) (hp : pc + 1 = pc')
    (k : own_Out p e below P T (mkF m pc' Ls (.int v :: S))) : own_Out p e below P T (mkF m pc Ls (S)) := by
  subst hp
  subst hv
  exact own_by (fun _ => XS.iconst X.here hx rfl hd) k
theorem o_bipush (X : Stand p l e R s m args below meth c T locs cells slots) (hx : p.tables.exec = Jvm.exec) {i : Int} {v : Int32} (hd : decode c.code pc = .ok (.bipush i, 2)) (hv : (Int8.ofInt i).toInt32 = v) (hp : pc + 2 = pc')
    (k : own_Out p e below P T (mkF m pc' Ls (.int v :: S))) : own_Out p e below P T (mkF m pc Ls (S)) := by
  subst hp
  subst hv
  exact own_by (fun _ => XS.bipush X.here hx rfl hd) k
theorem o_sipush (X : Stand p l e R s m args below meth c T locs cells slots) (hx : p.tables.exec = Jvm.exec) {i : Int} {v : Int32} (hd : decode c.code pc = .ok (.sipush i, 3)) (hv : (Int16.ofInt i).toInt32 = v) (hp : pc + 3 = pc')
    (k : own_Out p e below P T (mkF m pc' Ls (.int v :: S))) : own_Out p e below P T (mkF m pc Ls (S)) := by
  subst hp
  subst hv
  exact own_by (fun _ => XS.sipush X.here hx rfl hd) k
theorem o_lconst (X : Stand p l e R s m args below meth c T locs cells slots) (hx : p.tables.exec = Jvm.exec) {i : Fin 2} {v : Int64} (hd : decode c.code pc = .ok (.lconst i, 1)) (hv : Int64.ofNat i = v) (hp : pc + 1 = pc')
    (k : own_Out p e below P T (mkF m pc' Ls (.long v :: S))) : own_Out p e below P T (mkF m pc Ls (S)) := by
  subst hp
  subst hv
  exact own_by (fun _ => XS.lconst X.here hx rfl hd) k
theorem o_aconst_null (X : Stand p l e R s m args below meth c T locs cells slots) (hx : p.tables.exec = Jvm.exec) (hd : decode c.code pc = .ok (.aconst_null, 1)) (hp : pc + 1 = pc')
    (k : own_Out p e below P T (mkF m pc' Ls (.null :: S))) : own_Out p e below P T (mkF m pc Ls (S)) := by
  subst hp
  exact own_by (fun _ => XS.aconstNull X.here hx rfl hd) k
theorem o_iadd (X : Stand p l e R s m args below meth c T locs cells slots) (hx : p.tables.exec = Jvm.exec) {x y : Int32} (hd : decode c.code pc = .ok (.iadd, 1)) (hp : pc + 1 = pc')
    (k : own_Out p e below P T (mkF m pc' Ls (.int (x + y) :: S))) : own_Out p e below P T (mkF m pc Ls (.int y :: .int x :: S)) := by
  subst hp
  exact own_by (fun _ => XS.iadd X.here hx rfl hd rfl) k
theorem o_isub (X : Stand p l e R s m args below meth c T locs cells slots) (hx : p.tables.exec = Jvm.exec) {x y : Int32} (hd : decode c.code pc = .ok (.isub, 1)) (hp : pc + 1 = pc')
    (k : own_Out p e below P T (mkF m pc' Ls (.int (x - y) :: S))) : own_Out p e below P T (mkF m pc Ls (.int y :: .int x :: S)) := by
  subst hp
  exact own_by (fun _ => XS.isub X.here hx rfl hd rfl) k
theorem o_imul (X : Stand p l e R s m args below meth c T locs cells slots) (hx : p.tables.exec = Jvm.exec) {x y : Int32} (hd : decode c.code pc = .ok (.imul, 1)) (hp : pc + 1 = pc')
    (k : own_Out p e below P T (mkF m pc' Ls (.int (x * y) :: S))) : own_Out p e below P T (mkF m pc Ls (.int y :: .int x :: S)) := by
  subst hp
  exact own_by (fun _ => XS.imul X.here hx rfl hd rfl) k
theorem o_iand (X : Stand p l e R s m args below meth c T locs cells slots) (hx : p.tables.exec = Jvm.exec) {x y : Int32} (hd : decode c.code pc = .ok (.iand, 1)) (hp : pc + 1 = pc')
    (k : own_Out p e below P T (mkF m pc' Ls (.int (x &&& y) :: S))) : own_Out p e below P T (mkF m pc Ls (.int y :: .int x :: S)) := by
  subst hp
  exact own_by (fun _ => XS.iand X.here hx rfl hd rfl) k
theorem o_ior (X : Stand p l e R s m args below meth c T locs cells slots) (hx : p.tables.exec = Jvm.exec) {x y : Int32} (hd : decode c.code pc = .ok (.ior, 1)) (hp : pc + 1 = pc')
    (k : own_Out p e below P T (mkF m pc' Ls (.int (x ||| y) :: S))) : own_Out p e below P T (mkF m pc Ls (.int y :: .int x :: S)) := by
  subst hp
  exact own_by (fun _ => XS.ior X.here hx rfl hd rfl) k
theorem o_ixor (X : Stand p l e R s m args below meth c T locs cells slots) (hx : p.tables.exec = Jvm.exec) {x y : Int32} (hd : decode c.code pc = .ok (.ixor, 1)) (hp : pc + 1 = pc')
    (k : own_Out p e below P T (mkF m pc' Ls (.int (x ^^^ y) :: S))) : own_Out p e below P T (mkF m pc Ls (.int y :: .int x :: S)) := by
  subst hp
  exact own_by (fun _ => XS.ixor X.here hx rfl hd rfl) k
theorem o_ladd (X : Stand p l e R s m args below meth c T locs cells slots) (hx : p.tables.exec = Jvm.exec) {x y : Int64} (hd : decode c.code pc = .ok (.ladd, 1)) (hp : pc + 1 = pc')
    (k : own_Out p e below P T (mkF m pc' Ls (.long (x + y) :: S))) : own_Out p e below P T (mkF m pc Ls (.long y :: .long x :: S)) := by
  subst hp
  exact own_by (fun _ => XS.ladd X.here hx rfl hd rfl) k
theorem o_lsub (X : Stand p l e R s m args below meth c T locs cells slots) (hx : p.tables.exec = Jvm.exec) {x y : Int64} (hd : decode c.code pc = .ok (.lsub, 1)) (hp : pc + 1 = pc')
    (k : own_Out p e below P T (mkF m pc' Ls (.long (x - y) :: S))) : own_Out p e below P T (mkF m pc Ls (.long y :: .long x :: S)) := by
  subst hp
  exact own_by (fun _ => XS.lsub X.here hx rfl hd rfl) k
theorem o_lmul (X : Stand p l e R s m args below meth c T locs cells slots) (hx : p.tables.exec = Jvm.exec) {x y : Int64} (hd : decode c.code pc = .ok (.lmul, 1)) (hp : pc + 1 = pc')
    (k : own_Out p e below P T (mkF m pc' Ls (.long (x * y) :: S))) : own_Out p e below P T (mkF m pc Ls (.long y :: .long x :: S)) := by
  subst hp
  exact own_by (fun _ => XS.lmul X.here hx rfl hd rfl) k
theorem o_land (X : Stand p l e R s m args below meth c T locs cells slots) (hx : p.tables.exec = Jvm.exec) {x y : Int64} (hd : decode c.code pc = .ok (.land, 1)) (hp : pc + 1 = pc')
    (k : own_Out p e below P T (mkF m pc' Ls (.long (x &&& y) :: S))) : own_Out p e below P T (mkF m pc Ls (.long y :: .long x :: S)) := by
  subst hp
  exact own_by (fun _ => XS.land X.here hx rfl hd rfl) k
theorem o_lor (X : Stand p l e R s m args below meth c T locs cells slots) (hx : p.tables.exec = Jvm.exec) {x y : Int64} (hd : decode c.code pc = .ok (.lor, 1)) (hp : pc + 1 = pc')
    (k : own_Out p e below P T (mkF m pc' Ls (.long (x ||| y) :: S))) : own_Out p e below P T (mkF m pc Ls (.long y :: .long x :: S)) := by
  subst hp
  exact own_by (fun _ => XS.lor X.here hx rfl hd rfl) k
theorem o_lxor (X : Stand p l e R s m args below meth c T locs cells slots) (hx : p.tables.exec = Jvm.exec) {x y : Int64} (hd : decode c.code pc = .ok (.lxor, 1)) (hp : pc + 1 = pc')
    (k : own_Out p e below P T (mkF m pc' Ls (.long (x ^^^ y) :: S))) : own_Out p e below P T (mkF m pc Ls (.long y :: .long x :: S)) := by
  subst hp
  exact own_by (fun _ => XS.lxor X.here hx rfl hd rfl) k
theorem o_ishl (X : Stand p l e R s m args below meth c T locs cells slots) (hx : p.tables.exec = Jvm.exec) {x y : Int32} (hd : decode c.code pc = .ok (.ishl, 1)) (hp : pc + 1 = pc')
    (k : own_Out p e below P T (mkF m pc' Ls (.int (x <<< (y &&& 31)) :: S))) : own_Out p e below P T (mkF m pc Ls (.int y :: .int x :: S)) := by
  subst hp
  exact own_by (fun _ => XS.ishl X.here hx rfl hd rfl) k
theorem o_iushr (X : Stand p l e R s m args below meth c T locs cells slots) (hx : p.tables.exec = Jvm.exec) {x y : Int32} (hd : decode c.code pc = .ok (.iushr, 1)) (hp : pc + 1 = pc')
    (k : own_Out p e below P T (mkF m pc' Ls (.int ((x.toUInt32 >>> (y &&& 31).toUInt32).toInt32) :: S))) : own_Out p e below P T (mkF m pc Ls (.int y :: .int x :: S)) := by
  subst hp
  exact own_by (fun _ => XS.iushr X.here hx rfl hd rfl) k
theorem o_lshl (X : Stand p l e R s m args below meth c T locs cells slots) (hx : p.tables.exec = Jvm.exec) {x : Int64} {y : Int32} (hd : decode c.code pc = .ok (.lshl, 1)) (hp : pc + 1 = pc')
    (k : own_Out p e below P T (mkF m pc' Ls (.long (x <<< (y &&& 0x3f).toInt64) :: S))) : own_Out p e below P T (mkF m pc Ls (.int y :: .long x :: S)) := by
  subst hp
  exact own_by (fun _ => XS.lshl X.here hx rfl hd rfl) k
theorem o_lushr (X : Stand p l e R s m args below meth c T locs cells slots) (hx : p.tables.exec = Jvm.exec) {x : Int64} {y : Int32} (hd : decode c.code pc = .ok (.lushr, 1)) (hp : pc + 1 = pc')
    (k : own_Out p e below P T (mkF m pc' Ls (.long ((x.toUInt64 >>> (y &&& 0x3f).toInt64.toUInt64).toInt64) :: S))) : own_Out p e below P T (mkF m pc Ls (.int y :: .long x :: S)) := by
  subst hp
  exact own_by (fun _ => XS.lushr X.here hx rfl hd rfl) k
theorem o_ldiv (X : Stand p l e R s m args below meth c T locs cells slots) (hx : p.tables.exec = Jvm.exec) {x y : Int64} (hd : decode c.code pc = .ok (.ldiv, 1)) (hy : y ≠ 0) (hp : pc + 1 = pc')
    (k : own_Out p e below P T (mkF m pc' Ls (.long (x / y) :: S))) : own_Out p e below P T (mkF m pc Ls (.long y :: .long x :: S)) := by
  subst hp
  exact own_by (fun _ => XS.ldiv X.here hx rfl hd rfl hy) k
theorem o_irem (X : Stand p l e R s m args below meth c T locs cells slots) (hx : p.tables.exec = Jvm.exec) {x y : Int32} (hd : decode c.code pc = .ok (.irem, 1)) (hy : y ≠ 0) (hp : pc + 1 = pc')
    (k : own_Out p e below P T (mkF m pc' Ls (.int (x % y) :: S))) : own_Out p e below P T (mkF m pc Ls (.int y :: .int x :: S)) := by
  subst hp
  exact own_by (fun _ => iremM X hx rfl hd rfl hy) k
theorem o_i2b (X : Stand p l e R s m args below meth c T locs cells slots) (hx : p.tables.exec = Jvm.exec) {v : Int32} (hd : decode c.code pc = .ok (.i2b, 1)) (hp : pc + 1 = pc')
    (k : own_Out p e below P T (mkF m pc' Ls (.int (v.toInt8.toInt32) :: S))) : own_Out p e below P T (mkF m pc Ls (.int v :: S)) := by
  subst hp
  exact own_by (fun _ => XS.i2b X.here hx rfl hd rfl) k
theorem o_i2c (X : Stand p l e R s m args below meth c T locs cells slots) (hx : p.tables.exec = Jvm.exec) {v : Int32} (hd : decode c.code pc = .ok (.i2c, 1)) (hp : pc + 1 = pc')
    (k : own_Out p e below P T (mkF m pc' Ls (.int (v.toUInt32.toUInt16.toUInt32.toInt32) :: S))) : own_Out p e below P T (mkF m pc Ls (.int v :: S)) := by
  subst hp
  exact own_by (fun _ => XS.i2c X.here hx rfl hd rfl) k
theorem o_i2s (X : Stand p l e R s m args below meth c T locs cells slots) (hx : p.tables.exec = Jvm.exec) {v : Int32} (hd : decode c.code pc = .ok (.i2s, 1)) (hp : pc + 1 = pc')
    (k : own_Out p e below P T (mkF m pc' Ls (.int (v.toInt16.toInt32) :: S))) : own_Out p e below P T (mkF m pc Ls (.int v :: S)) := by
  subst hp
  exact own_by (fun _ => XS.i2s X.here hx rfl hd rfl) k
theorem o_i2l (X : Stand p l e R s m args below meth c T locs cells slots) (hx : p.tables.exec = Jvm.exec) {v : Int32} (hd : decode c.code pc = .ok (.i2l, 1)) (hp : pc + 1 = pc')
    (k : own_Out p e below P T (mkF m pc' Ls (.long (v.toInt64) :: S))) : own_Out p e below P T (mkF m pc Ls (.int v :: S)) := by
  subst hp
  exact own_by (fun _ => XS.i2l X.here hx rfl hd rfl) k
theorem o_l2i (X : Stand p l e R s m args below meth c T locs cells slots) (hx : p.tables.exec = Jvm.exec) {v : Int64} (hd : decode c.code pc = .ok (.l2i, 1)) (hp : pc + 1 = pc')
    (k : own_Out p e below P T (mkF m pc' Ls (.int (v.toInt32) :: S))) : own_Out p e below P T (mkF m pc Ls (.long v :: S)) := by
  subst hp
  exact own_by (fun _ => XS.l2i X.here hx rfl hd rfl) k
theorem o_lcmp (X : Stand p l e R s m args below meth c T locs cells slots) (hx : p.tables.exec = Jvm.exec) {x y : Int64} (hd : decode c.code pc = .ok (.lcmp, 1)) (hp : pc + 1 = pc')
    (k : own_Out p e below P T (mkF m pc' Ls (.int (lcmpW x y) :: S))) : own_Out p e below P T (mkF m pc Ls (.long y :: .long x :: S)) := by
  subst hp
  exact own_by (fun _ => XS.lcmp X.here hx rfl hd rfl) k
theorem o_dup (X : Stand p l e R s m args below meth c T locs cells slots) (hx : p.tables.exec = Jvm.exec) {x : Value} (hd : decode c.code pc = .ok (.dup, 1)) (hc : x.category = 1) (hp : pc + 1 = pc')
    (k : own_Out p e below P T (mkF m pc' Ls (x :: x :: S))) : own_Out p e below P T (mkF m pc Ls (x :: S)) := by
  subst hp
  exact own_by (fun _ => XS.dup X.here hx rfl hd rfl hc) k
theorem o_pop (X : Stand p l e R s m args below meth c T locs cells slots) (hx : p.tables.exec = Jvm.exec) {x : Value} (hd : decode c.code pc = .ok (.pop, 1)) (hc : x.category = 1) (hp : pc + 1 = pc')
    (k : own_Out p e below P T (mkF m pc' Ls (S))) : own_Out p e below P T (mkF m pc Ls (x :: S)) := by
  subst hp
  exact own_by (fun _ => XS.pop X.here hx rfl hd rfl hc) k
theorem o_dup_x1 (X : Stand p l e R s m args below meth c T locs cells slots) (hx : p.tables.exec = Jvm.exec) {x y : Value} (hd : decode c.code pc = .ok (.dup_x1, 1)) (hc : x.category = 1) (hc2 : y.category = 1) (hp : pc + 1 = pc')
    (k : own_Out p e below P T (mkF m pc' Ls (x :: y :: x :: S))) : own_Out p e below P T (mkF m pc Ls (x :: y :: S)) := by
  subst hp
  exact own_by (fun _ => XS.dupX1 X.here hx rfl hd rfl hc hc2) k
theorem o_iinc (X : Stand p l e R s m args below meth c T locs cells slots) (hx : p.tables.exec = Jvm.exec) {k' : Nat} {cst : Int} {x y : Int32} (hd : decode c.code pc = .ok (.iinc k' cst, 3)) (hl : Ls[k']? = some (.val (.int x))) (hy : x + Int32.ofInt cst = y) (hl' : storeLocals Ls k' (.int y) = some Ls') (hp : pc + 3 = pc')
    (k : own_Out p e below P T (mkF m pc' Ls' (S))) : own_Out p e below P T (mkF m pc Ls (S)) := by
  subst hp
  subst hy
  exact own_by (fun _ => XS.iinc X.here hx rfl hd hl hl') k
theorem o_goto (X : Stand p l e R s m args below meth c T locs cells slots) (hx : p.tables.exec = Jvm.exec) {o : Int} (hd : decode c.code pc = .ok (.goto o, 3)) (ho : (pc : Int) + o = (pc' : Int))
    (k : own_Out p e below P T (mkF m pc' Ls (S))) : own_Out p e below P T (mkF m pc Ls (S)) :=
  own_by (fun _ => XS.goto X.here hx rfl (pc0 := pc) (pc' := pc') rfl hd (by omega) (by omega)) k
theorem o_icmp_lt (X : Stand p l e R s m args below meth c T locs cells slots) (hx : p.tables.exec = Jvm.exec) {x y : Int32} {o : Int} {pn : Nat} (hd : decode c.code pc = .ok (.if_icmp .lt o, 3)) (ho : (pc : Int) + o = (pc' : Int)) (hp : pc + 3 = pn)
    (kY : x < y → own_Out p e below P T (mkF m pc' Ls (S))) (kN : ¬ (x < y) → own_Out p e below P T (mkF m pn Ls (S))) : own_Out p e below P T (mkF m pc Ls (.int y :: .int x :: S)) := by
  subst hp
  by_cases q : x < y
  · exact own_by (fun _ => XS.icmpYes X.here hx rfl (pc0 := pc) (pc' := pc') rfl hd rfl (tlt q).1 (by omega) (by omega)) (kY q)
  · exact own_by (fun _ => XS.icmpNo X.here hx rfl hd rfl (flt q).1) (kN q)
theorem o_if_lt (X : Stand p l e R s m args below meth c T locs cells slots) (hx : p.tables.exec = Jvm.exec) {x : Int32} {o : Int} {pn : Nat} (hd : decode c.code pc = .ok (.ifCond .lt o, 3)) (ho : (pc : Int) + o = (pc' : Int)) (hp : pc + 3 = pn)
    (kY : x < 0 → own_Out p e below P T (mkF m pc' Ls (S))) (kN : ¬ (x < 0) → own_Out p e below P T (mkF m pn Ls (S))) : own_Out p e below P T (mkF m pc Ls (.int x :: S)) := by
  subst hp
  by_cases q : x < 0
  · exact own_by (fun _ => XS.ifYes X.here hx rfl (pc0 := pc) (pc' := pc') rfl hd rfl ((if0 _ _).trans (tlt q).1) (by omega) (by omega)) (kY q)
  · exact own_by (fun _ => XS.ifNo X.here hx rfl hd rfl ((if0 _ _).trans (flt q).1)) (kN q)
theorem o_icmp_ge (X : Stand p l e R s m args below meth c T locs cells slots) (hx : p.tables.exec = Jvm.exec) {x y : Int32} {o : Int} {pn : Nat} (hd : decode c.code pc = .ok (.if_icmp .ge o, 3)) (ho : (pc : Int) + o = (pc' : Int)) (hp : pc + 3 = pn)
    (kY : ¬ (x < y) → own_Out p e below P T (mkF m pc' Ls (S))) (kN : x < y → own_Out p e below P T (mkF m pn Ls (S))) : own_Out p e below P T (mkF m pc Ls (.int y :: .int x :: S)) := by
  subst hp
  by_cases q : x < y
  · exact own_by (fun _ => XS.icmpNo X.here hx rfl hd rfl (tlt q).2.1) (kN q)
  · exact own_by (fun _ => XS.icmpYes X.here hx rfl (pc0 := pc) (pc' := pc') rfl hd rfl (flt q).2.1 (by omega) (by omega)) (kY q)
theorem o_if_ge (X : Stand p l e R s m args below meth c T locs cells slots) (hx : p.tables.exec = Jvm.exec) {x : Int32} {o : Int} {pn : Nat} (hd : decode c.code pc = .ok (.ifCond .ge o, 3)) (ho : (pc : Int) + o = (pc' : Int)) (hp : pc + 3 = pn)
    (kY : ¬ (x < 0) → own_Out p e below P T (mkF m pc' Ls (S))) (kN : x < 0 → own_Out p e below P T (mkF m pn Ls (S))) : own_Out p e below P T (mkF m pc Ls (.int x :: S)) := by
  subst hp
  by_cases q : x < 0
  · exact own_by (fun _ => XS.ifNo X.here hx rfl hd rfl ((if0 _ _).trans (tlt q).2.1)) (kN q)
  · exact own_by (fun _ => XS.ifYes X.here hx rfl (pc0 := pc) (pc' := pc') rfl hd rfl ((if0 _ _).trans (flt q).2.1) (by omega) (by omega)) (kY q)
theorem o_icmp_gt (X : Stand p l e R s m args below meth c T locs cells slots) (hx : p.tables.exec = Jvm.exec) {x y : Int32} {o : Int} {pn : Nat} (hd : decode c.code pc = .ok (.if_icmp .gt o, 3)) (ho : (pc : Int) + o = (pc' : Int)) (hp : pc + 3 = pn)
    (kY : y < x → own_Out p e below P T (mkF m pc' Ls (S))) (kN : ¬ (y < x) → own_Out p e below P T (mkF m pn Ls (S))) : own_Out p e below P T (mkF m pc Ls (.int y :: .int x :: S)) := by
  subst hp
  by_cases q : y < x
  · exact own_by (fun _ => XS.icmpYes X.here hx rfl (pc0 := pc) (pc' := pc') rfl hd rfl (tlt q).2.2.1 (by omega) (by omega)) (kY q)
  · exact own_by (fun _ => XS.icmpNo X.here hx rfl hd rfl (flt q).2.2.1) (kN q)
theorem o_if_gt (X : Stand p l e R s m args below meth c T locs cells slots) (hx : p.tables.exec = Jvm.exec) {x : Int32} {o : Int} {pn : Nat} (hd : decode c.code pc = .ok (.ifCond .gt o, 3)) (ho : (pc : Int) + o = (pc' : Int)) (hp : pc + 3 = pn)
    (kY : 0 < x → own_Out p e below P T (mkF m pc' Ls (S))) (kN : ¬ (0 < x) → own_Out p e below P T (mkF m pn Ls (S))) : own_Out p e below P T (mkF m pc Ls (.int x :: S)) := by
  subst hp
  by_cases q : 0 < x
  · exact own_by (fun _ => XS.ifYes X.here hx rfl (pc0 := pc) (pc' := pc') rfl hd rfl ((if0 _ _).trans (tlt q).2.2.1) (by omega) (by omega)) (kY q)
  · exact own_by (fun _ => XS.ifNo X.here hx rfl hd rfl ((if0 _ _).trans (flt q).2.2.1)) (kN q)
theorem o_icmp_le (X : Stand p l e R s m args below meth c T locs cells slots) (hx : p.tables.exec = Jvm.exec) {x y : Int32} {o : Int} {pn : Nat} (hd : decode c.code pc = .ok (.if_icmp .le o, 3)) (ho : (pc : Int) + o = (pc' : Int)) (hp : pc + 3 = pn)
    (kY : ¬ (y < x) → own_Out p e below P T (mkF m pc' Ls (S))) (kN : y < x → own_Out p e below P T (mkF m pn Ls (S))) : own_Out p e below P T (mkF m pc Ls (.int y :: .int x :: S)) := by
  subst hp
  by_cases q : y < x
  · exact own_by (fun _ => XS.icmpNo X.here hx rfl hd rfl (tlt q).2.2.2) (kN q)
  · exact own_by (fun _ => XS.icmpYes X.here hx rfl (pc0 := pc) (pc' := pc') rfl hd rfl (flt q).2.2.2 (by omega) (by omega)) (kY q)
theorem o_if_le (X : Stand p l e R s m args below meth c T locs cells slots) (hx : p.tables.exec = Jvm.exec) {x : Int32} {o : Int} {pn : Nat} (hd : decode c.code pc = .ok (.ifCond .le o, 3)) (ho : (pc : Int) + o = (pc' : Int)) (hp : pc + 3 = pn)
    (kY : ¬ (0 < x) → own_Out p e below P T (mkF m pc' Ls (S))) (kN : 0 < x → own_Out p e below P T (mkF m pn Ls (S))) : own_Out p e below P T (mkF m pc Ls (.int x :: S)) := by
  subst hp
  by_cases q : 0 < x
  · exact own_by (fun _ => XS.ifNo X.here hx rfl hd rfl ((if0 _ _).trans (tlt q).2.2.2)) (kN q)
  · exact own_by (fun _ => XS.ifYes X.here hx rfl (pc0 := pc) (pc' := pc') rfl hd rfl ((if0 _ _).trans (flt q).2.2.2) (by omega) (by omega)) (kY q)
theorem o_icmp_eq (X : Stand p l e R s m args below meth c T locs cells slots) (hx : p.tables.exec = Jvm.exec) {x y : Int32} {o : Int} {pn : Nat} (hd : decode c.code pc = .ok (.if_icmp .eq o, 3)) (ho : (pc : Int) + o = (pc' : Int)) (hp : pc + 3 = pn)
    (kY : x = y → own_Out p e below P T (mkF m pc' Ls (S))) (kN : ¬ (x = y) → own_Out p e below P T (mkF m pn Ls (S))) : own_Out p e below P T (mkF m pc Ls (.int y :: .int x :: S)) := by
  subst hp
  by_cases q : x = y
  · exact own_by (fun _ => XS.icmpYes X.here hx rfl (pc0 := pc) (pc' := pc') rfl hd rfl (teq q).1 (by omega) (by omega)) (kY q)
  · exact own_by (fun _ => XS.icmpNo X.here hx rfl hd rfl (feq q).1) (kN q)
theorem o_if_eq (X : Stand p l e R s m args below meth c T locs cells slots) (hx : p.tables.exec = Jvm.exec) {x : Int32} {o : Int} {pn : Nat} (hd : decode c.code pc = .ok (.ifCond .eq o, 3)) (ho : (pc : Int) + o = (pc' : Int)) (hp : pc + 3 = pn)
    (kY : x = 0 → own_Out p e below P T (mkF m pc' Ls (S))) (kN : ¬ (x = 0) → own_Out p e below P T (mkF m pn Ls (S))) : own_Out p e below P T (mkF m pc Ls (.int x :: S)) := by
  subst hp
  by_cases q : x = 0
  · exact own_by (fun _ => XS.ifYes X.here hx rfl (pc0 := pc) (pc' := pc') rfl hd rfl ((if0 _ _).trans (teq q).1) (by omega) (by omega)) (kY q)
  · exact own_by (fun _ => XS.ifNo X.here hx rfl hd rfl ((if0 _ _).trans (feq q).1)) (kN q)
theorem o_icmp_ne (X : Stand p l e R s m args below meth c T locs cells slots) (hx : p.tables.exec = Jvm.exec) {x y : Int32} {o : Int} {pn : Nat} (hd : decode c.code pc = .ok (.if_icmp .ne o, 3)) (ho : (pc : Int) + o = (pc' : Int)) (hp : pc + 3 = pn)
    (kY : ¬ (x = y) → own_Out p e below P T (mkF m pc' Ls (S))) (kN : x = y → own_Out p e below P T (mkF m pn Ls (S))) : own_Out p e below P T (mkF m pc Ls (.int y :: .int x :: S)) := by
  subst hp
  by_cases q : x = y
  · exact own_by (fun _ => XS.icmpNo X.here hx rfl hd rfl (teq q).2) (kN q)
  · exact own_by (fun _ => XS.icmpYes X.here hx rfl (pc0 := pc) (pc' := pc') rfl hd rfl (feq q).2 (by omega) (by omega)) (kY q)
theorem o_if_ne (X : Stand p l e R s m args below meth c T locs cells slots) (hx : p.tables.exec = Jvm.exec) {x : Int32} {o : Int} {pn : Nat} (hd : decode c.code pc = .ok (.ifCond .ne o, 3)) (ho : (pc : Int) + o = (pc' : Int)) (hp : pc + 3 = pn)
    (kY : ¬ (x = 0) → own_Out p e below P T (mkF m pc' Ls (S))) (kN : x = 0 → own_Out p e below P T (mkF m pn Ls (S))) : own_Out p e below P T (mkF m pc Ls (.int x :: S)) := by
  subst hp
  by_cases q : x = 0
  · exact own_by (fun _ => XS.ifNo X.here hx rfl hd rfl ((if0 _ _).trans (teq q).2)) (kN q)
  · exact own_by (fun _ => XS.ifYes X.here hx rfl (pc0 := pc) (pc' := pc') rfl hd rfl ((if0 _ _).trans (feq q).2) (by omega) (by omega)) (kY q)
theorem o_acmp_eq (X : Stand p l e R s m args below meth c T locs cells slots) (hx : p.tables.exec = Jvm.exec) {a b : Addr} {o : Int} {pn : Nat} (hd : decode c.code pc = .ok (.if_acmp .eq o, 3)) (ho : (pc : Int) + o = (pc' : Int)) (hp : pc + 3 = pn)
    (kY : a = b → own_Out p e below P T (mkF m pc' Ls (S))) (kN : ¬ a = b → own_Out p e below P T (mkF m pn Ls (S))) : own_Out p e below P T (mkF m pc Ls (.ref b :: .ref a :: S)) := by
  subst hp
  by_cases q : a = b
  · exact own_by (fun _ => XS.acmpYes X.here hx rfl (pc0 := pc) (pc' := pc') rfl hd rfl (by simp [if_acmp.holds, q]) (by omega) (by omega)) (kY q)
  · exact own_by (fun _ => XS.acmpNo X.here hx rfl hd rfl (by simp [if_acmp.holds, q])) (kN q)
theorem o_acmp_ne (X : Stand p l e R s m args below meth c T locs cells slots) (hx : p.tables.exec = Jvm.exec) {a b : Addr} {o : Int} {pn : Nat} (hd : decode c.code pc = .ok (.if_acmp .ne o, 3)) (ho : (pc : Int) + o = (pc' : Int)) (hp : pc + 3 = pn)
    (kY : ¬ a = b → own_Out p e below P T (mkF m pc' Ls (S))) (kN : a = b → own_Out p e below P T (mkF m pn Ls (S))) : own_Out p e below P T (mkF m pc Ls (.ref b :: .ref a :: S)) := by
  subst hp
  by_cases q : a = b
  · exact own_by (fun _ => XS.acmpNo X.here hx rfl hd rfl (by simp [if_acmp.holds, q])) (kN q)
  · exact own_by (fun _ => XS.acmpYes X.here hx rfl (pc0 := pc) (pc' := pc') rfl hd rfl (by simp [if_acmp.holds, q]) (by omega) (by omega)) (kY q)
theorem o_ifnullY (X : Stand p l e R s m args below meth c T locs cells slots) (hx : p.tables.exec = Jvm.exec) {o : Int} (hd : decode c.code pc = .ok (.ifnull o, 3)) (ho : (pc : Int) + o = (pc' : Int)) (k : own_Out p e below P T (mkF m pc' Ls (S))) : own_Out p e below P T (mkF m pc Ls (.null :: S)) :=
  own_by (fun _ => XS.ifnullYes X.here hx rfl (pc0 := pc) (pc' := pc') rfl hd rfl (by omega) (by omega)) k
theorem o_ifnullN (X : Stand p l e R s m args below meth c T locs cells slots) (hx : p.tables.exec = Jvm.exec) {o : Int} {b : Addr} (hd : decode c.code pc = .ok (.ifnull o, 3)) (hp : pc + 3 = pc') (k : own_Out p e below P T (mkF m pc' Ls (S))) : own_Out p e below P T (mkF m pc Ls (.ref b :: S)) := by
  subst hp
  exact own_by (fun _ => XS.ifnullNo X.here hx rfl hd rfl) k
theorem o_ldcI (X : Stand p l e R s m args below meth c T locs cells slots) (hx : p.tables.exec = Jvm.exec) (hZ : Z.Warmed39 s.vm) {own : String} {index : Nat} {v : Int32} (hown : s.vm.findClass own = some m.cls) (w : (Cond.constant own index v).before a0 Z = true) (hd : decode c.code pc = .ok (.ldc index, 2)) (hp : pc + 2 = pc') (k : own_Out p e below P T (mkF m pc' Ls (.int v :: S))) : own_Out p e below P T (mkF m pc Ls (S)) := by
  subst hp
  exact own_by (X.ldcInt hx hown (mvT hZ w) (g := mkF m pc Ls S) rfl hd) k
theorem o_ldcL (X : Stand p l e R s m args below meth c T locs cells slots) (hx : p.tables.exec = Jvm.exec) (hZ : Z.Warmed39 s.vm) {own : String} {index : Nat} {v : Int64} (hown : s.vm.findClass own = some m.cls) (w : (Cond.constantLong own index v).before a0 Z = true) (hd : decode c.code pc = .ok (.ldc2_w index, 3)) (hp : pc + 3 = pc') (k : own_Out p e below P T (mkF m pc' Ls (.long v :: S))) : own_Out p e below P T (mkF m pc Ls (S)) := by
  subst hp
  exact own_by (X.ldc2Long hx hown (mvT hZ w) (g := mkF m pc Ls S) rfl hd) k
theorem o_retN (X : Stand p l e R s m args below meth c T locs cells slots) (hx : p.tables.exec = Jvm.exec) {z v : Int32} {t : FieldType} (hret : meth.sig.returnType = some t) (hlk : meth.locks = false) (ht : t = .boolean ∨ t = .byte ∨ t = .char ∨ t = .short) (hd : decode c.code pc = .ok (.ireturn, 1)) (hz : nar t z = v) (hQ : Q (some (.int v)) T.heap locs) (h1 : cells ≤ kc) (h2 : slots ≤ kn) : own_Out p e below (own_P s Q kc kn) T (mkF m pc Ls (.int z :: S)) := by
  subst hz
  obtain ⟨fs, hr, hrun, hended, hW, hsame⟩ := X.leave (v := some (.int (nar t z))) (fun h => by rw [hret] at h; cases h) hlk
  exact ⟨_, _, retN X hx hret ht hd hr, hrun, hended, _, _, rfl, hQ, ⟨_, rfl⟩, hW, hsame.mono h1 h2⟩
theorem o_retW (X : Stand p l e R s m args below meth c T locs cells slots) (hx : p.tables.exec = Jvm.exec) {w : Value} {t : FieldType} {i : Instr} (hret : meth.sig.returnType = some t) (hlk : meth.locks = false) (hn : narrow t w = w) (hi : (i = .ireturn ∧ (t = .int ∨ t = .boolean ∨ t = .byte ∨ t = .char ∨ t = .short) ∧ ∃ z, w = .int z) ∨ (i = .lreturn ∧ t = .long ∧ ∃ z, w = .long z) ∨ (i = .dreturn ∧ t = .double ∧ ∃ z, w = .double z) ∨ (i = .freturn ∧ t = .float ∧ ∃ z, w = .float z) ∨ (i = .areturn ∧ t.isReference = true ∧ w.isRef = true)) (hd : decode c.code pc = .ok (i, 1)) (hQ : Q (some w) T.heap locs) (h1 : cells ≤ kc) (h2 : slots ≤ kn) : own_Out p e below (own_P s Q kc kn) T (mkF m pc Ls (w :: S)) := by
  obtain ⟨fs, hr, hrun, hended, hW, hsame⟩ := X.leave (v := some w) (fun h => by rw [hret] at h; cases h) hlk
  exact ⟨_, _, retOut X hx hret hn hi hd hr, hrun, hended, _, _, rfl, hQ, ⟨_, rfl⟩, hW, hsame.mono h1 h2⟩
theorem o_retI (X : Stand p l e R s m args below meth c T locs cells slots) (hx : p.tables.exec = Jvm.exec) {z : Int32} (hret : meth.sig.returnType = some .int) (hlk : meth.locks = false) (hd : decode c.code pc = .ok (.ireturn, 1)) (hQ : Q (some (.int z)) T.heap locs) (h1 : cells ≤ kc) (h2 : slots ≤ kn) : own_Out p e below (own_P s Q kc kn) T (mkF m pc Ls (.int z :: S)) :=
  o_retW X hx hret hlk rfl (Or.inl ⟨rfl, Or.inl rfl, _, rfl⟩) hd hQ h1 h2
theorem o_retJ (X : Stand p l e R s m args below meth c T locs cells slots) (hx : p.tables.exec = Jvm.exec) {z : Int64} (hret : meth.sig.returnType = some .long) (hlk : meth.locks = false) (hd : decode c.code pc = .ok (.lreturn, 1)) (hQ : Q (some (.long z)) T.heap locs) (h1 : cells ≤ kc) (h2 : slots ≤ kn) : own_Out p e below (own_P s Q kc kn) T (mkF m pc Ls (.long z :: S)) :=
  o_retW X hx hret hlk rfl (Or.inr (Or.inl ⟨rfl, rfl, _, rfl⟩)) hd hQ h1 h2
theorem o_retA (X : Stand p l e R s m args below meth c T locs cells slots) (hx : p.tables.exec = Jvm.exec) {w : Value} {t : FieldType} (hret : meth.sig.returnType = some t) (hlk : meth.locks = false) (ht : t.isReference = true) (hw : w.isRef = true) (hn : narrow t w = w) (hd : decode c.code pc = .ok (.areturn, 1)) (hQ : Q (some w) T.heap locs) (h1 : cells ≤ kc) (h2 : slots ≤ kn) : own_Out p e below (own_P s Q kc kn) T (mkF m pc Ls (w :: S)) :=
  o_retW X hx hret hlk hn (Or.inr (Or.inr (Or.inr (Or.inr ⟨rfl, ht, hw⟩)))) hd hQ h1 h2
theorem o_retV (X : Stand p l e R s m args below meth c T locs cells slots) (hx : p.tables.exec = Jvm.exec) (hret : meth.sig.returnType = none) (hlk : meth.locks = false) (hd : decode c.code pc = .ok (.return_, 1)) (hQ : Q none T.heap locs) (h1 : cells ≤ kc) (h2 : slots ≤ kn) : own_Out p e below (own_P s Q kc kn) T (mkF m pc Ls ([])) := by
  obtain ⟨fs, hr, hrun, hended, hW, hsame⟩ := X.leave (v := none) (fun _ => rfl) hlk
  exact ⟨_, _, X.returnOut hx hret hd hr, hrun, hended, _, _, rfl, hQ, ⟨_, rfl⟩, hW, hsame.mono h1 h2⟩
theorem o_getF (X : Stand p l e R s m args below meth c T locs cells slots) (hx : p.tables.exec = Jvm.exec) (hZ : Z.Warmed39 s.vm) {own O n d : String} {index : Nat} (hown : s.vm.findClass own = some m.cls) (w : (Cond.fieldLink own index O n d).before a0 Z = true) (eT : T.heap = h) {a : Addr} {v : Value} (F : Fld Z h a O n d v) (hd : decode c.code pc = .ok (.getfield index, 3)) (hp : pc + 3 = pc')
    (k : ∀ T', Stand p l e R s m args below meth c T' locs cells slots → T'.heap = h → own_Out p e below P T' (mkF m pc' Ls (v :: S))) : own_Out p e below P T (mkF m pc Ls (.ref a :: S)) := by
  subst hp
  obtain ⟨T1, X1, e1, st⟩ := getF X hx hZ hown (host := "") (Or.inl w) Via.refl eT F (g := mkF m pc Ls (.ref a :: S)) rfl rfl hd
  exact own_by st (k T1 X1 e1)
theorem o_getS (X : Stand p l e R s m args below meth c T locs cells slots) (hx : p.tables.exec = Jvm.exec) (hZ : Z.Warmed39 s.vm) {own O n d : String} {index : Nat} (hown : s.vm.findClass own = some m.cls) (w : (Cond.fieldLink own index O n d).before a0 Z = true) (eT : T.heap = h) {v : Value} (F : Sta Z h O n d v) (hd : decode c.code pc = .ok (.getstatic index, 3)) (hp : pc + 3 = pc')
    (k : ∀ T', Stand p l e R s m args below meth c T' locs cells slots → T'.heap = h → own_Out p e below P T' (mkF m pc' Ls (v :: S))) : own_Out p e below P T (mkF m pc Ls (S)) := by
  subst hp
  obtain ⟨T1, X1, e1, st⟩ := getS (host := "") X hx hZ hown w Via.refl eT F (g := mkF m pc Ls S) rfl hd
  exact own_by st (k T1 X1 e1)
theorem o_putF (X : Stand p l e R s m args below meth c T locs cells slots) (hx : p.tables.exec = Jvm.exec) (hZ : Z.Warmed39 s.vm) {own O n d C : String} {index kk : Nat} {ty : FieldType} (hown : s.vm.findClass own = some m.cls) (w : (Cond.fieldLink own index O n d).before a0 Z = true) (eT : T.heap = h) {a : Addr} {v old : Value} (F : Fld Z h a O n d old) (E : Exa Z h a C) (L : (Cond.lays C O n d).before a0 Z = true ∨ ((Cond.laysFinal C O n d).before a0 Z = true ∧ own = O ∧ meth.name = "<init>")) (wi : (Cond.instantiable C kk).before a0 Z = true) (hty : parseFieldDescriptor d = some ty) (hn : narrow ty v = v) (hf : fits ty v = true) (hd : decode c.code pc = .ok (.putfield index, 3)) (hp : pc + 3 = pc')
    (k : ∀ T' h', Stand p l e R s m args below meth c T' (locs ++ [⟨a, Jvm.RoadKit.slotOf Z O n d⟩]) cells slots → T'.heap = h' → Wr h h' a (Jvm.RoadKit.slotOf Z O n d) v → own_Out p e below P T' (mkF m pc' Ls (S))) : own_Out p e below P T (mkF m pc Ls (v :: .ref a :: S)) := by
  subst hp
  obtain ⟨T1, h1, X1, e1, W1, st⟩ := putF X hx hZ hown (host := "") (Or.inl w) Via.refl eT F E L wi hty hn hf (g := mkF m pc Ls (v :: .ref a :: S)) rfl rfl hd
  exact own_by st (k T1 h1 X1 e1 W1)
theorem o_new (X : Stand p l e R s m args below meth c T locs cells slots) (hx : p.tables.exec = Jvm.exec) (hZ : Z.Warmed39 s.vm) {own C : String} {index n : Nat} (hown : s.vm.findClass own = some m.cls) (w : (Cond.classLink own index C).before a0 Z = true) (wi : (Cond.instantiable C n).before a0 Z = true) (wz : (Cond.initialized C).before a0 Z = true) (eT : T.heap = h) (hd : decode c.code pc = .ok (.new index, 3)) (hc : cells + 1 ≤ R.cells) (hl : slots + n ≤ R.slots) (hp : pc + 3 = pc')
    (k : ∀ T' h' a, Stand p l e R s m args below meth c T' locs (cells + 1) (slots + n) → T'.heap = h' → Ext h h' → a = h.size → Exa Z h' a C → (∀ {O nm d : String} {ty : FieldType}, Laid Z a0 C O nm d → parseFieldDescriptor d = some ty → Fld Z h' a O nm d (defaultValue ty)) → own_Out p e below P T' (mkF m pc' Ls (.ref a :: S))) : own_Out p e below P T (mkF m pc Ls (S)) := by
  subst hp
  obtain ⟨T1, h1, X1, e1, E1, A1, D1, -, st⟩ := newO X hx hZ hown w wi wz eT (g := mkF m pc Ls S) rfl hd hc hl
  exact own_by st (k T1 h1 _ X1 e1 E1 rfl A1 D1)
theorem o_newarr (X : Stand p l e R s m args below meth c T locs cells slots) (hx : p.tables.exec = Jvm.exec) (hZ : Z.Warmed39 s.vm) {aty : ArrayType} {n : Int32} (w : (Cond.arrayClass (newarray.typeOf aty)).before a0 Z = true) (eT : T.heap = h) (hd : decode c.code pc = .ok (.newarray aty, 2)) (hn : ¬ n < 0) {cap : Nat} (hcap : n.toNatClampNeg ≤ cap) (hb : cap * 8 ≤ 536870912) (hc : cells + 1 ≤ R.cells) (hl : slots + cap ≤ R.slots) (hp : pc + 2 = pc')
    (k : ∀ T' h' a cA, Stand p l e R s m args below meth c T' locs (cells + 1) (slots + cap) → T'.heap = h' → Ext h h' → a = h.size → Arr Z h' a (newA cA (newarray.typeOf aty) n) (newarray.typeOf aty) → own_Out p e below P T' (mkF m pc' Ls (.ref a :: S))) : own_Out p e below P T (mkF m pc Ls (.int n :: S)) := by
  subst hp
  obtain ⟨T1, h1, cA, X1, e1, E1, A1, st⟩ := newP X hx hZ w eT (g := mkF m pc Ls (.int n :: S)) rfl hd rfl hn hcap hb hc hl
  exact own_by st (k T1 h1 _ cA X1 e1 E1 rfl A1)
theorem o_iastore (X : Stand p l e R s m args below meth c T locs cells slots) (hx : p.tables.exec = Jvm.exec) (hZ : Z.Warmed39 s.vm) (eT : T.heap = h) {a : Addr} {cl : Cell} (A : Arr Z h a cl .int) {j x : Int32} (hj : ¬ (j < 0 ∨ cl.slots.size ≤ j.toNatClampNeg)) (hd : decode c.code pc = .ok (.iastore, 1)) (hp : pc + 1 = pc')
    (k : ∀ T' h', Stand p l e R s m args below meth c T' (locs ++ [⟨a, j.toNatClampNeg⟩]) cells slots → T'.heap = h' → Wr h h' a j.toNatClampNeg (.int x) → own_Out p e below P T' (mkF m pc' Ls (S))) : own_Out p e below P T (mkF m pc Ls (.int x :: .int j :: .ref a :: S)) := by
  subst hp
  obtain ⟨T1, h1, X1, e1, W1, st⟩ := stI X hx hZ eT A hj (g := mkF m pc Ls (.int x :: .int j :: .ref a :: S)) rfl rfl hd
  exact own_by st (k T1 h1 X1 e1 W1)
theorem o_bastore (X : Stand p l e R s m args below meth c T locs cells slots) (hx : p.tables.exec = Jvm.exec) (hZ : Z.Warmed39 s.vm) (eT : T.heap = h) {a : Addr} {cl : Cell} (A : Arr Z h a cl .byte) {j x : Int32} (hj : ¬ (j < 0 ∨ cl.slots.size ≤ j.toNatClampNeg)) (hd : decode c.code pc = .ok (.bastore, 1)) (hp : pc + 1 = pc')
    (k : ∀ T' h', Stand p l e R s m args below meth c T' (locs ++ [⟨a, j.toNatClampNeg⟩]) cells slots → T'.heap = h' → Wr h h' a j.toNatClampNeg (.int (nar .byte x)) → own_Out p e below P T' (mkF m pc' Ls (S))) : own_Out p e below P T (mkF m pc Ls (.int x :: .int j :: .ref a :: S)) := by
  subst hp
  obtain ⟨T1, h1, X1, e1, W1, st⟩ := stB X hx hZ eT A hj (g := mkF m pc Ls (.int x :: .int j :: .ref a :: S)) rfl rfl hd
  exact own_by st (k T1 h1 X1 e1 W1)
theorem o_castore (X : Stand p l e R s m args below meth c T locs cells slots) (hx : p.tables.exec = Jvm.exec) (hZ : Z.Warmed39 s.vm) (eT : T.heap = h) {a : Addr} {cl : Cell} (A : Arr Z h a cl .char) {j x : Int32} (hj : ¬ (j < 0 ∨ cl.slots.size ≤ j.toNatClampNeg)) (hd : decode c.code pc = .ok (.castore, 1)) (hp : pc + 1 = pc')
    (k : ∀ T' h', Stand p l e R s m args below meth c T' (locs ++ [⟨a, j.toNatClampNeg⟩]) cells slots → T'.heap = h' → Wr h h' a j.toNatClampNeg (.int (nar .char x)) → own_Out p e below P T' (mkF m pc' Ls (S))) : own_Out p e below P T (mkF m pc Ls (.int x :: .int j :: .ref a :: S)) := by
  subst hp
  obtain ⟨T1, h1, X1, e1, W1, st⟩ := stC X hx hZ eT A hj (g := mkF m pc Ls (.int x :: .int j :: .ref a :: S)) rfl rfl hd
  exact own_by st (k T1 h1 X1 e1 W1)
theorem o_iaload (X : Stand p l e R s m args below meth c T locs cells slots) (hx : p.tables.exec = Jvm.exec) (hZ : Z.Warmed39 s.vm) (eT : T.heap = h) {a : Addr} {cl : Cell} (A : Arr Z h a cl .int) {j : Int32} {v : Value} (hj : ¬ (j < 0 ∨ cl.slots.size ≤ j.toNatClampNeg)) (hv : cl.slots[j.toNatClampNeg]? = some v) (hd : decode c.code pc = .ok (.iaload, 1)) (hp : pc + 1 = pc')
    (k : own_Out p e below P T (mkF m pc' Ls (v :: S))) : own_Out p e below P T (mkF m pc Ls (.int j :: .ref a :: S)) := by
  subst hp
  exact own_by (fun t => X.iaload hx (by rw [eT]; exact A.1) (State.isArrayOf_alike hZ.alike A.2.1) A.2.2 hj hv (g := mkF m pc Ls (.int j :: .ref a :: S)) rfl rfl hd t) k
theorem o_baload (X : Stand p l e R s m args below meth c T locs cells slots) (hx : p.tables.exec = Jvm.exec) (hZ : Z.Warmed39 s.vm) (eT : T.heap = h) {a : Addr} {cl : Cell} (A : Arr Z h a cl .byte) {j : Int32} {v : Value} (hj : ¬ (j < 0 ∨ cl.slots.size ≤ j.toNatClampNeg)) (hv : cl.slots[j.toNatClampNeg]? = some v) (hd : decode c.code pc = .ok (.baload, 1)) (hp : pc + 1 = pc')
    (k : own_Out p e below P T (mkF m pc' Ls (v :: S))) : own_Out p e below P T (mkF m pc Ls (.int j :: .ref a :: S)) := by
  subst hp
  exact own_by (fun t => X.baloadBytes hx (by rw [eT]; exact A.1) (State.isArrayOf_alike hZ.alike A.2.1) A.2.2 hj hv (g := mkF m pc Ls (.int j :: .ref a :: S)) rfl rfl hd t) k
theorem o_arraylength (X : Stand p l e R s m args below meth c T locs cells slots) (hx : p.tables.exec = Jvm.exec) (hZ : Z.Warmed39 s.vm) (eT : T.heap = h) {a : Addr} {cl : Cell} {ty : FieldType} (A : Arr Z h a cl ty) {n : Int32} (hn : cl.slots.size.toInt32 = n) (hd : decode c.code pc = .ok (.arraylength, 1)) (hp : pc + 1 = pc')
    (k : own_Out p e below P T (mkF m pc' Ls (.int n :: S))) : own_Out p e below P T (mkF m pc Ls (.ref a :: S)) := by
  subst hp hn
  exact own_by (fun t => X.arraylength hx (by rw [eT]; exact A.1) (State.isArrayOf_alike hZ.alike A.2.1) (g := mkF m pc Ls (.ref a :: S)) rfl rfl hd t) k
theorem o_init0 (X : Stand p l e R s m args below meth c T locs cells slots) (hx : p.tables.exec = Jvm.exec) (hZ : Z.Warmed39 s.vm) {own : String} {idx : Nat} (hown : s.vm.findClass own = some m.cls) (w1 : (Cond.methodLink own idx Lib.objectInit).before a0 Z = true) (w2 : (Cond.instanceMethod Lib.objectInit).before a0 Z = true) (w3 : (Cond.code Lib.objectInit ⟨#[0xb1]⟩ 1 none).before a0 Z = true) (eT : T.heap = h) (hsize : Ls.size = c.maxLocals) {a : Addr} (hd : decode c.code pc = .ok (.invokespecial idx, 3)) (hf : 1 ≤ R.frames) {W : Nat} (hW : (S.map fun v => v.category).sum ≤ W) (hl : W + 12 ≤ R.locals) (hp : pc + 3 = pc')
    (k : ∀ T', Stand p l e R s m args below meth c T' locs cells slots → T'.heap = h → own_Out p e below P T' (mkF m pc' Ls (S))) : own_Out p e below P T (mkF m pc Ls (.ref a :: S)) := by
  subst hp
  obtain ⟨T1, X1, e1, st⟩ := initO X hx hZ hown w1 w2 w3 eT (g := mkF m pc Ls (.ref a :: S)) rfl hsize rfl hd hf (W := W) (by show 2 * 0 + _ ≤ _; omega) hl
  exact own_by st (k T1 X1 e1)
abbrev own_Met (l : Launch) (y : MethodName) (bytes : ByteArray) (maxL : Nat) (ret : Option FieldType) (ws : List Cond) (rm : Room) (Z : State) (h0 : Heap) (as' : Array Value) (Q : Option Value → Heap → List Loc → Prop) : Prop :=
  MetFree l y (head1 (Cond.code y bytes maxL ret :: ws) rm) (fun a U => a = as' ∧ Z.Warmed39 U.vm ∧ U.heap = h0) (fun _ _ _ _ _ => True) (fun _ U o U' => ∃ v L, o = .returned v ∧ Q v U'.heap L ∧ FrameEnd U o U' L rm.cells rm.slots)
theorem o_callS (X : Stand p l e R s m args below meth c T locs cells slots) (hx : p.tables.exec = Jvm.exec) (hZ : Z.Warmed39 s.vm) {own : String} {index : Nat} {y : MethodName} {bytes : ByteArray} {maxL : Nat} {ret : Option FieldType} {rm : Room} {as' : List Value} {ps : List FieldType} {r0 : Option FieldType} {S' : List Value} (hown : s.vm.findClass own = some m.cls) (w1 : (Cond.methodLink own index y).before a0 Z = true) (w2 : (Cond.static y).before a0 Z = true) (w3 : (Cond.initialized y.cls).before a0 Z = true) (w4 : (Cond.code y bytes maxL ret).before a0 Z = true) (hy : y.cls ≠ "java/lang/invoke/MethodHandle" ∧ y.cls ≠ "java/lang/invoke/VarHandle") (eT : T.heap = h) (hM : own_Met l y bytes maxL ret [] rm Z h as'.toArray Q) (hsize : Ls.size = c.maxLocals) (hpd : parseMethodDescriptor y.desc = some ⟨ps, r0⟩) (hlen : as'.length = ps.length) {W : Nat} (hW : (S.map fun v => v.category).sum ≤ W) (hf : rm.frames + 1 ≤ R.frames) (hl : W + (maxL + 11) + rm.locals ≤ R.locals) (hd : decode c.code pc = .ok (.invokestatic index, 3)) (hc : cells + rm.cells ≤ R.cells) (hs : slots + rm.slots ≤ R.slots) (hp : pc + 3 = pc') (hst : S' = as'.reverse ++ S)
    (k : ∀ v T' L, Stand p l e R s m args below meth c T' (locs ++ L) (cells + rm.cells) (slots + rm.slots) → Q v T'.heap L → own_Out p e below P T' (mkF m pc' Ls (v.toList ++ S))) : own_Out p e below P T (mkF m pc Ls S') := by
  subst hp hst
  obtain ⟨v, vm, ⟨T1, L1, k1, n1⟩, -, X1, ⟨Lc, hQ, l1, l2, l3⟩, st⟩ := Jvm.LawKit.callS X hx (y := y) hown (mvT hZ w1) (mvT hZ w2) (mvT hZ w3) (mvT hZ w4) hy (backOf (W := W) hM hZ w4 w3 hf hl) (g := mkF m pc Ls (as'.reverse ++ S)) rfl hsize (argsL := as') (rest := S) (lenOf hpd hlen) rfl (by show 2 * 0 + _ ≤ _; omega) hd (fun _ _ => ⟨rfl, eT, hc, hs⟩)
  dsimp only [Pt.U, Pt.locs, Pt.cells, Pt.slots] at X1 l1 l2 l3 st hQ
  subst l1 l2 l3
  exact own_by st (k v T1 Lc X1 hQ)
theorem o_callI (X : Stand p l e R s m args below meth c T locs cells slots) (hx : p.tables.exec = Jvm.exec) (hZ : Z.Warmed39 s.vm) {own : String} {index : Nat} {y : MethodName} {bytes : ByteArray} {maxL : Nat} {rm : Room} {as' : List Value} {ps : List FieldType} {r0 : Option FieldType} {S' : List Value} {a : Addr} (hy1 : y.name = "<init>") (hown : s.vm.findClass own = some m.cls) (w1 : (Cond.methodLink own index y).before a0 Z = true) (w2 : (Cond.instanceMethod y).before a0 Z = true) (w3 : (Cond.initialized y.cls).before a0 Z = true) (w4 : (Cond.code y bytes maxL none).before a0 Z = true) (hy : y.cls ≠ "java/lang/invoke/MethodHandle" ∧ y.cls ≠ "java/lang/invoke/VarHandle") (eT : T.heap = h) (hM : own_Met l y bytes maxL none [] rm Z h (.ref a :: as').toArray Q) (hsize : Ls.size = c.maxLocals) (hpd : parseMethodDescriptor y.desc = some ⟨ps, r0⟩) (hlen : as'.length = ps.length) {W : Nat} (hW : (S.map fun v => v.category).sum ≤ W) (hf : rm.frames + 1 ≤ R.frames) (hl : W + (maxL + 11) + rm.locals ≤ R.locals) (hd : decode c.code pc = .ok (.invokespecial index, 3)) (hc : cells + rm.cells ≤ R.cells) (hs : slots + rm.slots ≤ R.slots) (hp : pc + 3 = pc') (hst : S' = as'.reverse ++ .ref a :: S)
    (k : ∀ v T' L, Stand p l e R s m args below meth c T' (locs ++ L) (cells + rm.cells) (slots + rm.slots) → Q v T'.heap L → own_Out p e below P T' (mkF m pc' Ls (v.toList ++ S))) : own_Out p e below P T (mkF m pc Ls S') := by
  subst hp hst
  obtain ⟨v, vm, ⟨T1, L1, k1, n1⟩, -, X1, ⟨Lc, hQ, l1, l2, l3⟩, st⟩ := X.specialBack hx (y := y) hy1 hown (mvT hZ w1) (mvT hZ w2) (mvT hZ w4) hy (backOf (W := W) hM hZ w4 w3 hf hl) (g := mkF m pc Ls (as'.reverse ++ .ref a :: S)) rfl hsize (Steps.refl _) (a := a) (argsL := as') (rest := S) (lenOf hpd hlen) rfl (by show 2 * 0 + _ ≤ _; omega) hd (fun _ _ => ⟨rfl, eT, hc, hs⟩)
  dsimp only [Pt.U, Pt.locs, Pt.cells, Pt.slots] at X1 l1 l2 l3 st hQ
  subst l1 l2 l3
  exact own_go st (k v T1 Lc X1 hQ)
theorem o_callV (X : Stand p l e R s m args below meth c T locs cells slots) (hx : p.tables.exec = Jvm.exec) (hZ : Z.Warmed39 s.vm) {own : String} {index : Nat} {y : MethodName} {bytes : ByteArray} {maxL : Nat} {ret : Option FieldType} {rm : Room} {as' : List Value} {ps : List FieldType} {r0 : Option FieldType} {S' : List Value} {C : String} {b : Addr} (hown : s.vm.findClass own = some m.cls) (w1 : (Cond.methodLink own index y).before a0 Z = true) (w2 : (Cond.declares y).before a0 Z = true) (w3 : (Cond.selects C y y).before a0 Z = true) (w4 : (Cond.instanceMethod y).before a0 Z = true) (w5 : (Cond.initialized y.cls).before a0 Z = true) (w6 : (Cond.code y bytes maxL ret).before a0 Z = true) (hy : y.cls ≠ "java/lang/invoke/MethodHandle" ∧ y.cls ≠ "java/lang/invoke/VarHandle") (eT : T.heap = h) (E : Exa Z h b C) (hM : own_Met l y bytes maxL ret [] rm Z h (.ref b :: as').toArray Q) (hsize : Ls.size = c.maxLocals) (hpd : parseMethodDescriptor y.desc = some ⟨ps, r0⟩) (hlen : as'.length = ps.length) {W : Nat} (hW : (S.map fun v => v.category).sum ≤ W) (hf : rm.frames + 1 ≤ R.frames) (hl : W + (maxL + 11) + rm.locals ≤ R.locals) (hd : decode c.code pc = .ok (.invokevirtual index, 3)) (hc : cells + rm.cells ≤ R.cells) (hs : slots + rm.slots ≤ R.slots) (hp : pc + 3 = pc') (hst : S' = as'.reverse ++ .ref b :: S)
    (k : ∀ v T' L, Stand p l e R s m args below meth c T' (locs ++ L) (cells + rm.cells) (slots + rm.slots) → Q v T'.heap L → own_Out p e below P T' (mkF m pc' Ls (v.toList ++ S))) : own_Out p e below P T (mkF m pc Ls S') := by
  subst hp hst
  obtain ⟨cq, kq, q1, q2, q3⟩ := isOf hZ eT E
  obtain ⟨v, vm, ⟨T1, L1, k1, n1⟩, -, X1, ⟨Lc, hQ, l1, l2, l3⟩, st⟩ := X.virtualBack hx (y := y) (z := y) hown (mvT hZ w1) (mvT hZ w2) (notFace_of_selects (args := #[]) (mvT hZ w3)) (mvT hZ w3) (mvT hZ w4) hy (backOf (W := W) hM hZ w6 w5 hf hl) q1 q3 (g := mkF m pc Ls (as'.reverse ++ .ref b :: S)) rfl hsize (Steps.refl _) (argsL := as') (rest := S) (lenOf hpd hlen) rfl (by show 2 * 0 + _ ≤ _; omega) hd (fun _ _ => ⟨rfl, eT, hc, hs⟩)
  dsimp only [Pt.U, Pt.locs, Pt.cells, Pt.slots] at X1 l1 l2 l3 st hQ
  subst l1 l2 l3
  exact own_go st (k v T1 Lc X1 hQ)
theorem own_pure {r : Value} {h0 : Heap} {L : List Loc} {v : Option Value} (hc : kc = 0) (hn : kn = 0) (X : Stand p l e R s m args below meth c T' (locs ++ L) (cells + kc) (slots + kn)) (q : own_Pure r h0 v T'.heap L) : v = some r ∧ Stand p l e R s m args below meth c T' locs cells slots ∧ T'.heap = h0 := by
  obtain ⟨rfl, rfl, q3⟩ := q
  subst hc hn
  rw [List.append_nil] at X
  exact ⟨rfl, X, q3⟩
theorem own_in {cl : Cell} {n : Nat} {j : Int32} (q0 : cl.slots.size = n) (q : ¬ j < 0 ∧ j.toNatClampNeg < n) : ¬ (j < 0 ∨ cl.slots.size ≤ j.toNatClampNeg) := by
  rw [q0]; rintro (z | z)
  · exact q.1 z
  · exact Nat.not_le.mpr q.2 z
theorem own_r1 : nar .boolean (1 : Int32) = 1 := by decide
theorem own_r0 : nar .boolean (0 : Int32) = 0 := by decide
theorem own_b0 {q : Prop} [Decidable q] : own_b q = 0 ↔ ¬ q := by by_cases h : q <;> simp [own_b, h]
theorem own_bc {q r : Prop} [Decidable q] [Decidable r] (h : q ↔ r) : own_b q = own_b r := by
  by_cases k : q
  · rw [own_bt k, own_bt (h.mp k)]
  · rw [own_bf k, own_bf (fun z => k (h.mpr z))]
end OwnKit
theorem own_pd0 : parseMethodDescriptor "([BIJI)V" = some ⟨[(.array .byte), .int, .long, .int], none⟩ := by decide +kernel
theorem own_pd1 : parseMethodDescriptor "([BI)J" = some ⟨[(.array .byte), .int], some .long⟩ := by decide +kernel
theorem own_pd2 : parseMethodDescriptor "([BIIIB)Z" = some ⟨[(.array .byte), .int, .int, .int, .byte], some .boolean⟩ := by decide +kernel
def own_By (Z : State) (h : Heap) (a : Addr) (n : Nat) (f : Nat → Int32) : Prop := ∃ cl : Cell, Arr Z h a cl .byte ∧ cl.slots.size = n ∧ ∀ j, j < n → cl.slots[j]? = some (.int (f j))
theorem own_by_new {Z : State} {h : Heap} {a : Addr} {cA : ClassId} {n : Int32} {k : Nat} (A : Arr Z h a (newA cA .byte n) .byte) (hk : n.toNatClampNeg = k) : own_By Z h a k (fun _ => 0) := by
  subst hk
  exact ⟨_, A, sz_new _ _ _, fun j hj => by simp [newA, hj, defaultValue]⟩
theorem own_By.ext {Z : State} {h h' : Heap} {a : Addr} {n : Nat} {f : Nat → Int32} (q : own_By Z h a n f) (E : Ext h h') : own_By Z h' a n f := by obtain ⟨cl, q1, q2⟩ := q; exact ⟨cl, q1.ext E, q2⟩
theorem own_By.other {Z : State} {h h' : Heap} {a b : Addr} {n sl : Nat} {v : Value} {f : Nat → Int32} (q : own_By Z h a n f) (W : Wr h h' b sl v) (k : a ≠ b) : own_By Z h' a n f := by obtain ⟨cl, q1, q2⟩ := q; exact ⟨cl, q1.other W k, q2⟩
theorem own_By.same {Z : State} {h h' : Heap} {a : Addr} {n j : Nat} {x : Int32} {f g : Nat → Int32} (q : own_By Z h a n f) (W : Wr h h' a j (.int x)) (hg : ∀ i, i < n → g i = if i = j then x else f i) : own_By Z h' a n g := by
  obtain ⟨cl, q1, q2, q3⟩ := q
  refine ⟨_, q1.same W, by rw [sz_set]; exact q2, fun i hi => ?_⟩
  rw [hg i hi]
  by_cases u : j = i
  · subst u; simp [Cell.setSlot, q2, hi]
  · rw [if_neg (fun z => u z.symm)]; simp only [Cell.setSlot]; rw [Array.getElem?_setIfInBounds_ne u]; exact q3 i hi
theorem own_By.congr {Z : State} {h : Heap} {a : Addr} {n : Nat} {f g : Nat → Int32} (q : own_By Z h a n f) (hg : ∀ i, i < n → g i = f i) : own_By Z h a n g := by
  obtain ⟨cl, q1, q2, q3⟩ := q
  exact ⟨cl, q1, q2, fun i hi => by rw [hg i hi]; exact q3 i hi⟩
theorem own_nb (v : Int32) : nar .byte (v.toInt8.toInt32) = v.toInt8.toInt32 := by simp [nar]
section OwnBytes
variable {p : Program} {l : Launch} {e : Env} {R : Room} {s : State} {m : MethodId} {args : Array Value} {below : List Frame} {meth : Method} {c : Code} {T : State} {locs : List Loc} {cells slots : Nat} {P : Outcome → State → Prop} {pc pc' : Nat} {Ls : Array Slot} {S : List Value} {Z : State} {h : Heap}
theorem own_stB (X : Stand p l e R s m args below meth c T locs cells slots) (hx : p.tables.exec = Jvm.exec) (hZ : Z.Warmed39 s.vm) (eT : T.heap = h) {a : Addr} {n k : Nat} {f : Nat → Int32} (A : own_By Z h a n f) (N : Fr k locs) (hk : k ≤ a) {j v : Int32} (g : Nat → Int32) (hj : ¬ j < 0 ∧ j.toNatClampNeg < n) (hd : decode c.code pc = .ok (.bastore, 1)) (hp : pc + 1 = pc') (hg : ∀ i, i < n → g i = if i = j.toNatClampNeg then v.toInt8.toInt32 else f i)
    (q : ∀ T' h' locs', Stand p l e R s m args below meth c T' locs' cells slots → T'.heap = h' → Wr h h' a j.toNatClampNeg (.int v.toInt8.toInt32) → own_By Z h' a n g → Fr k locs' → own_Out p e below P T' (mkF m pc' Ls S)) : own_Out p e below P T (mkF m pc Ls (.int (v.toInt8.toInt32) :: .int j :: .ref a :: S)) := by
  have A' := A
  obtain ⟨cl, A1, A2, A3⟩ := A'
  refine o_bastore X hx hZ eT A1 (j := j) (own_in A2 hj) hd hp fun T' h' X' e' W' => ?_
  rw [own_nb] at W'
  exact q T' h' _ X' e' W' (A.same W' hg) (Fr.snoc X' N hk)
theorem own_ldB (X : Stand p l e R s m args below meth c T locs cells slots) (hx : p.tables.exec = Jvm.exec) (hZ : Z.Warmed39 s.vm) (eT : T.heap = h) {a : Addr} {n : Nat} {f : Nat → Int32} (A : own_By Z h a n f) {j : Int32} (i : Nat) (hj : ¬ j < 0 ∧ j.toNatClampNeg < n) (hi : j.toNatClampNeg = i) (hd : decode c.code pc = .ok (.baload, 1)) (hp : pc + 1 = pc')
    (q : own_Out p e below P T (mkF m pc' Ls (.int (f i) :: S))) : own_Out p e below P T (mkF m pc Ls (.int j :: .ref a :: S)) := by
  obtain ⟨cl, A1, A2, A3⟩ := A
  subst hi
  exact o_baload X hx hZ eT A1 (own_in A2 hj) (A3 _ hj.2) hd hp q
end OwnBytes
def own_u (x : Int64) : Nat := x.toBitVec.toNat
theorem own_u_inj {x y : Int64} (h : own_u x = own_u y) : x = y := Int64.toBitVec_inj.mp (BitVec.eq_of_toNat_eq h)
theorem own_u_lt (x : Int64) : own_u x < 2 ^ 64 := x.toBitVec.isLt
theorem own_u_or (x y : Int64) : own_u (x ||| y) = own_u x ||| own_u y := by
  show (x.toBitVec ||| y.toBitVec).toNat = _
  rw [BitVec.toNat_or]; rfl
theorem own_u_and (x y : Int64) : own_u (x &&& y) = own_u x &&& own_u y := by
  show (x.toBitVec &&& y.toBitVec).toNat = _
  rw [BitVec.toNat_and]; rfl
theorem own_u_mask (x m : Int64) (k : Nat) (hm : own_u m = 2 ^ k - 1) : own_u (x &&& m) = own_u x % 2 ^ k := by rw [own_u_and, hm, Nat.and_two_pow_sub_one_eq_mod]
theorem own_u_shr (x : Int64) (n : UInt64) (k : Nat) (hn : n.toNat = k) (hk : k < 64) : own_u ((x.toUInt64 >>> n).toInt64) = own_u x / 2 ^ k := by
  show (x.toUInt64 >>> n).toNat = _
  rw [UInt64.toNat_shiftRight, hn, Nat.mod_eq_of_lt hk, Nat.shiftRight_eq_div_pow]; rfl
theorem own_u_shl (x n : Int64) (k : Nat) (hn : (n.toBitVec.smod 64).toNat = k) : own_u (x <<< n) = own_u x * 2 ^ k % 2 ^ 64 := by
  show (x.toBitVec <<< (n.toBitVec.smod 64)).toNat = _
  rw [BitVec.shiftLeft_eq', BitVec.toNat_shiftLeft, hn, Nat.shiftLeft_eq]; rfl
theorem own_t32 (x : Int64) : x.toInt32.toBitVec.toNat = own_u x % 2 ^ 32 := by
  show (x.toBitVec.signExtend 32).toNat = _
  rw [BitVec.signExtend_eq_setWidth_of_le _ (by decide), BitVec.toNat_setWidth]; rfl
theorem own_t8 (x : Int64) : x.toInt8.toBitVec.toNat = own_u x % 2 ^ 8 := by
  show (x.toBitVec.signExtend 8).toNat = _
  rw [BitVec.signExtend_eq_setWidth_of_le _ (by decide), BitVec.toNat_setWidth]; rfl
theorem own_t8' (x : Int32) : x.toInt8.toBitVec.toNat = x.toBitVec.toNat % 2 ^ 8 := by
  show (x.toBitVec.signExtend 8).toNat = _
  rw [BitVec.signExtend_eq_setWidth_of_le _ (by decide), BitVec.toNat_setWidth]
/-- the low byte of a long, by way of an int and a byte -/
theorem own_u_byte (x : Int64) : own_u ((x.toInt32.toInt8.toInt32).toInt64 &&& 255) = own_u x % 256 := by
  rw [own_u_mask _ 255 8 (by decide), Int8.toInt64_toInt32, ← own_t8, Int8.toInt8_toInt64, own_t8', own_t32]
  omega
theorem own_or (a b k : Nat) (h : a < 2 ^ k) : a ||| b * 2 ^ k = a + b * 2 ^ k := by
  have := Nat.two_pow_add_eq_or_of_lt h b
  rw [Nat.or_comm, Nat.mul_comm b, ← this, Nat.add_comm]
theorem own_toInt {i : Nat} (h : i < 2 ^ 31) : (Int32.ofNat i).toInt = i := Int32.toInt_ofNat_of_lt h
theorem own_toNat {i : Nat} (h : i < 2 ^ 31) : (Int32.ofNat i).toNatClampNeg = i := Int32.toNatClampNeg_ofNat_of_lt h
theorem own_olt {i j : Nat} (hi : i < 2 ^ 31) (hj : j < 2 ^ 31) : Int32.ofNat i < Int32.ofNat j ↔ i < j := by
  rw [Int32.lt_iff_toInt_lt, own_toInt hi, own_toInt hj]; omega
theorem own_oeq {i j : Nat} (hi : i < 2 ^ 31) (hj : j < 2 ^ 31) : Int32.ofNat i = Int32.ofNat j ↔ i = j := by
  rw [← Int32.toInt_inj, own_toInt hi, own_toInt hj]; omega
theorem own_nn {i : Nat} (h : i < 2 ^ 31) : ¬ Int32.ofNat i < 0 := by
  rw [Int32.lt_iff_toInt_lt, own_toInt h]; have e0 : (0 : Int32).toInt = 0 := by decide
  rw [e0]; omega
theorem own_add1 (i : Nat) : Int32.ofNat i + (1 : Int32) = Int32.ofNat (i + 1) := (Int32.ofNat_add i 1).symm
theorem own_addn (i j : Nat) : Int32.ofNat i + Int32.ofNat j = Int32.ofNat (i + j) := (Int32.ofNat_add i j).symm
theorem own_idx {i n : Nat} (hi : i < n) (h : i < 2 ^ 31) : ¬ Int32.ofNat i < 0 ∧ (Int32.ofNat i).toNatClampNeg < n := ⟨own_nn h, by rw [own_toNat h]; exact hi⟩
def own_byte (q : Int64) (i : Nat) : Int32 := (((q.toUInt64 >>> (((8 : Int32) * Int32.ofNat i) &&& 0x3f).toInt64.toUInt64).toInt64).toInt32).toInt8.toInt32
/-- the array when i bytes are put from A on -/
def own_fx (f : Nat → Int32) (A : Nat) (q : Int64) (i : Nat) : Nat → Int32 := fun t => if A ≤ t ∧ t < A + i then own_byte q (t - A) else f t
theorem own_fx0 (f : Nat → Int32) (A : Nat) (q : Int64) : own_fx f A q 0 = f := by
  funext t; simp only [own_fx]; rw [if_neg]; omega
theorem own_fxS (f : Nat → Int32) (A : Nat) (q : Int64) (i t : Nat) : own_fx f A q (i + 1) t = if t = A + i then own_byte q i else own_fx f A q i t := by
  simp only [own_fx]
  by_cases u : t = A + i
  · subst u; rw [if_pos rfl, if_pos (by omega), Nat.add_sub_cancel_left]
  · rw [if_neg u]
    by_cases w : A ≤ t ∧ t < A + i
    · rw [if_pos w, if_pos (by omega)]
    · rw [if_neg w, if_neg (by omega)]
theorem own_fx_in (f : Nat → Int32) (A : Nat) (q : Int64) {n i : Nat} (h : i < n) : own_fx f A q n (A + i) = own_byte q i := by
  simp only [own_fx]; rw [if_pos (by omega), Nat.add_sub_cancel_left]
def own_w4 (b0 b1 b2 b3 : Int32) : Int64 := (((b0.toInt64 &&& (255 : Int64)) ||| ((b1.toInt64 &&& (255 : Int64)) <<< ((8 : Int32) &&& 0x3f).toInt64)) ||| ((b2.toInt64 &&& (255 : Int64)) <<< ((16 : Int32) &&& 0x3f).toInt64)) ||| ((b3.toInt64 &&& (255 : Int64)) <<< ((24 : Int32) &&& 0x3f).toInt64)
theorem own_u_by (q : Int64) (i : Nat) (hi : i < 8) : own_u ((own_byte q i).toInt64 &&& 255) = own_u q / 2 ^ (8 * i) % 256 := by
  have hs : ((((8 : Int32) * Int32.ofNat i) &&& 0x3f).toInt64.toUInt64).toNat = 8 * i := by
    have all : ∀ k : Fin 8, ((((8 : Int32) * Int32.ofNat k.val) &&& 0x3f).toInt64.toUInt64).toNat = 8 * k.val := by decide +kernel
    exact all ⟨i, hi⟩
  rw [own_byte, own_u_byte, own_u_shr _ _ (8 * i) hs (by omega)]
theorem own_u_w4 (b0 b1 b2 b3 : Int32) (n0 n1 n2 n3 : Nat) (h0 : own_u (b0.toInt64 &&& 255) = n0) (h1 : own_u (b1.toInt64 &&& 255) = n1) (h2 : own_u (b2.toInt64 &&& 255) = n2) (h3 : own_u (b3.toInt64 &&& 255) = n3) (k0 : n0 < 256) (k1 : n1 < 256) (k2 : n2 < 256) (k3 : n3 < 256) : own_u (own_w4 b0 b1 b2 b3) = n0 + n1 * 2 ^ 8 + n2 * 2 ^ 16 + n3 * 2 ^ 24 := by
  rw [own_w4, own_u_or, own_u_or, own_u_or, own_u_shl _ _ 8 (by decide), own_u_shl _ _ 16 (by decide), own_u_shl _ _ 24 (by decide), h0, h1, h2, h3, Nat.mod_eq_of_lt (by omega), Nat.mod_eq_of_lt (by omega), Nat.mod_eq_of_lt (by omega), own_or _ _ 8 (by omega), own_or _ _ 16 (by omega), own_or _ _ 24 (by omega)]
theorem own_lo (q : Int64) : own_u (own_w4 (own_byte q 0) (own_byte q 1) (own_byte q 2) (own_byte q 3)) = own_u q % 2 ^ 32 := by
  rw [own_u_w4 _ _ _ _ _ _ _ _ (own_u_by q 0 (by decide)) (own_u_by q 1 (by decide)) (own_u_by q 2 (by decide)) (own_u_by q 3 (by decide)) (by omega) (by omega) (by omega) (by omega)]
  have := own_u_lt q
  omega
theorem own_hi (q : Int64) : own_u (own_w4 (own_byte q 4) (own_byte q 5) (own_byte q 6) (own_byte q 7)) = own_u q / 2 ^ 32 := by
  rw [own_u_w4 _ _ _ _ _ _ _ _ (own_u_by q 4 (by decide)) (own_u_by q 5 (by decide)) (own_u_by q 6 (by decide)) (own_u_by q 7 (by decide)) (by omega) (by omega) (by omega) (by omega)]
  have := own_u_lt q
  omega
theorem own_eight (q : Int64) : ((own_w4 (own_byte q 4) (own_byte q 5) (own_byte q 6) (own_byte q 7)) <<< ((32 : Int32) &&& 0x3f).toInt64) ||| (own_w4 (own_byte q 0) (own_byte q 1) (own_byte q 2) (own_byte q 3)) = q := by
  apply own_u_inj
  have := own_u_lt q
  rw [own_u_or, own_u_shl _ _ 32 (by decide), own_lo, own_hi, Nat.mod_eq_of_lt (by omega), Nat.or_comm, own_or _ _ 32 (by omega)]
  omega
theorem own_four (q : Int64) : own_w4 (own_byte q 0) (own_byte q 1) (own_byte q 2) (own_byte q 3) = q &&& (4294967295 : Int64) := by
  apply own_u_inj
  rw [own_lo, own_u_mask _ _ 32 (by decide)]
def own_fl (v : Int32) (k : Nat) : Nat → Int32 := fun t => if t < k then v else 0
theorem own_flS (v : Int32) (k t : Nat) : own_fl v (k + 1) t = if t = k then v else own_fl v k t := by
  simp only [own_fl]
  by_cases u : t = k
  · subst u; rw [if_pos rfl, if_pos (by omega)]
  · rw [if_neg u]
    by_cases w : t < k
    · rw [if_pos w, if_pos (by omega)]
    · rw [if_neg w, if_neg (by omega)]
theorem own_at3 (x : Int32) : ∃ A : Nat, A ≤ 3 ∧ x &&& (3 : Int32) = Int32.ofNat A := by
  have h := Jvm.Kit.i32_mask x 3 (k := 2) (by decide) (by decide)
  refine ⟨(x &&& 3).toInt.toNat, by omega, ?_⟩
  rw [← Int32.toInt_inj, own_toInt (by omega)]
  omega
theorem own_d1_0 : decode prog_166_method_10_code 0 = .ok (.iconst 0, 1) := by decide +kernel
theorem own_d1_1 : decode prog_166_method_10_code 1 = .ok (.istore 5, 2) := by decide +kernel
theorem own_d1_3 : decode prog_166_method_10_code 3 = .ok (.iload 5, 2) := by decide +kernel
theorem own_d1_5 : decode prog_166_method_10_code 5 = .ok (.iload 4, 2) := by decide +kernel
theorem own_d1_7 : decode prog_166_method_10_code 7 = .ok (.if_icmp .ge 24, 3) := by decide +kernel
theorem own_d1_10 : decode prog_166_method_10_code 10 = .ok (.aload_n 0, 1) := by decide +kernel
theorem own_d1_11 : decode prog_166_method_10_code 11 = .ok (.iload_n 1, 1) := by decide +kernel
theorem own_d1_12 : decode prog_166_method_10_code 12 = .ok (.iload 5, 2) := by decide +kernel
theorem own_d1_14 : decode prog_166_method_10_code 14 = .ok (.iadd, 1) := by decide +kernel
theorem own_d1_15 : decode prog_166_method_10_code 15 = .ok (.lload_n 2, 1) := by decide +kernel
theorem own_d1_16 : decode prog_166_method_10_code 16 = .ok (.bipush 8, 2) := by decide +kernel
theorem own_d1_18 : decode prog_166_method_10_code 18 = .ok (.iload 5, 2) := by decide +kernel
theorem own_d1_20 : decode prog_166_method_10_code 20 = .ok (.imul, 1) := by decide +kernel
theorem own_d1_21 : decode prog_166_method_10_code 21 = .ok (.lushr, 1) := by decide +kernel
theorem own_d1_22 : decode prog_166_method_10_code 22 = .ok (.l2i, 1) := by decide +kernel
theorem own_d1_23 : decode prog_166_method_10_code 23 = .ok (.i2b, 1) := by decide +kernel
theorem own_d1_24 : decode prog_166_method_10_code 24 = .ok (.bastore, 1) := by decide +kernel
theorem own_d1_25 : decode prog_166_method_10_code 25 = .ok (.iinc 5 1, 3) := by decide +kernel
theorem own_d1_28 : decode prog_166_method_10_code 28 = .ok (.goto (-25), 3) := by decide +kernel
theorem own_d1_31 : decode prog_166_method_10_code 31 = .ok (.return_, 1) := by decide +kernel
theorem own_ef1 (m : MethodId) (x0 : Addr) (x1 : Int32) (x2 : Int64) (x3 : Int32) : entryFrame m #[(.ref x0), (.int x1), (.long x2), (.int x3)] 6 = mkF m 0 #[.val (.ref x0), .val (.int x1), .val (.long x2), .second, .val (.int x3), .unset] [] := by first | (simp [entryFrame, mkF, argsToLocals, Value.category]; done) | rfl
theorem own_pn1 : plainName "com/example/wire_grammar/wiregrammar/model/WireOutput" = true := by first | (simp [plainName, overriddenIn]; done) | decide +kernel
set_option maxRecDepth 65536 in
set_option maxHeartbeats 40000000 in
theorem own_rm1 (l : Launch) (Z : State) (a0 : Array Value) (hw : ∀ d ∈ tables_1, d.before a0 Z = true) (ws : List Jvm.Cond) (a1 : Addr) (A n : Nat) (q1 : Int64) (f : Nat → Int32) (h0 : Heap) (n0 : Nat) (g : n0 ≤ a1) (hA : A ≤ 3) (hn : n ≤ 8) (B : own_By Z h0 a1 12 f) :
    own_Met l (⟨"com/example/wire_grammar/wiregrammar/model/WireOutput", "putFixed", "([BIJI)V"⟩ : MethodName) prog_166_method_10_code 6 none ws ({ frames := 0, cells := 0, slots := 0, locals := 0 } : Room) Z h0 #[(.ref a1), (.int (Int32.ofNat A)), (.long q1), (.int (Int32.ofNat n))] (fun v h L => v = none ∧ Fr n0 L ∧ h0.size ≤ h.size ∧ own_By Z h a1 12 (own_fx f A q1 n)) := by
  refine MetFree.of_bodySF (plainFor_of_name own_pn1) hisR ?_
  intro p e s m args below meth c s₁ Bd hml0 hP hK
  obtain ⟨rfl, hZ, hh⟩ := hP
  have hx := Bd.exec
  have hby := Bd.bytes
  have hml : c.maxLocals = 6 := hml0
  have hlk := Bd.notSynchronized
  have hown : s.vm.findClass "com/example/wire_grammar/wiregrammar/model/WireOutput" = some m.cls := findClass_of_methodNamed Bd.named
  have hnm := (name_of_methodNamed Bd.named Bd.method).1
  have X0 : Stand p l e ({ frames := 0, cells := 0, slots := 0, locals := 0 } : Room) s m #[(.ref a1), (.int (Int32.ofNat A)), (.long q1), (.int (Int32.ofNat n))] below meth c s₁ [] 0 0 := Stand.of_body Bd
  have e0 : s₁.heap = h0 := by rw [← hh, Bd.state]; rfl
  show own_Out p e below (own_P s (fun v h L => v = none ∧ Fr n0 L ∧ h0.size ≤ h.size ∧ own_By Z h a1 12 (own_fx f A q1 n)) ({ frames := 0, cells := 0, slots := 0, locals := 0 } : Room).cells ({ frames := 0, cells := 0, slots := 0, locals := 0 } : Room).slots) s₁ (entryFrame m #[(.ref a1), (.int (Int32.ofNat A)), (.long q1), (.int (Int32.ofNat n))] 6)
  rw [own_ef1 m a1 (Int32.ofNat A) q1 (Int32.ofNat n)]
  refine o_iconst X0 hx (hb hby own_d1_0) (v := 0) rfl (pc' := 1) rfl ?_
  refine o_istore X0 hx (hb hby own_d1_1) (Ls' := #[.val (.ref a1), .val (.int (Int32.ofNat A)), .val (.long q1), .second, .val (.int (Int32.ofNat n)), .val (.int (0 : Int32))]) rfl (pc' := 3) rfl ?_
  have loop : ∀ (k i : Nat) (T : State) (h : Heap) (lc : List Loc), i + k = n → Stand p l e ({ frames := 0, cells := 0, slots := 0, locals := 0 } : Room) s m #[(.ref a1), (.int (Int32.ofNat A)), (.long q1), (.int (Int32.ofNat n))] below meth c T lc 0 0 → T.heap = h → h0.size ≤ h.size → own_By Z h a1 12 (own_fx f A q1 i) → Fr n0 lc → own_Out p e below (own_P s (fun v h L => v = none ∧ Fr n0 L ∧ h0.size ≤ h.size ∧ own_By Z h a1 12 (own_fx f A q1 n)) ({ frames := 0, cells := 0, slots := 0, locals := 0 } : Room).cells ({ frames := 0, cells := 0, slots := 0, locals := 0 } : Room).slots) T (mkF m 3 #[.val (.ref a1), .val (.int (Int32.ofNat A)), .val (.long q1), .second, .val (.int (Int32.ofNat n)), .val (.int (Int32.ofNat i))] []) := by
    intro k
    induction k with
    | zero =>
      intro i T h lc hik X eT zh Bi N
      refine o_iload X hx (hb hby own_d1_3) rfl (pc' := 5) rfl ?_
      refine o_iload X hx (hb hby own_d1_5) rfl (pc' := 7) rfl ?_
      refine o_icmp_ge X hx (hb hby own_d1_7) (pc' := 31) (pn := 10) (by decide) rfl (fun hc => ?_) (fun hc => ?_)
      rotate_left
      · exact absurd hc (by rw [own_olt (by omega) (by omega)]; omega)
      have hin : i = n := by omega
      subst hin
      subst eT
      refine o_retV X hx Bd.returns hlk (hb hby own_d1_31) ⟨rfl, N, zh, Bi⟩ (by decide) (by decide)
    | succ k ih =>
      intro i T h lc hik X eT zh Bi N
      refine o_iload X hx (hb hby own_d1_3) rfl (pc' := 5) rfl ?_
      refine o_iload X hx (hb hby own_d1_5) rfl (pc' := 7) rfl ?_
      refine o_icmp_ge X hx (hb hby own_d1_7) (pc' := 31) (pn := 10) (by decide) rfl (fun hc => ?_) (fun hc => ?_)
      · exact absurd ((own_olt (by omega) (by omega)).mpr (by omega)) hc
      refine o_aloadN X hx (hb hby own_d1_10) rfl rfl (pc' := 11) rfl ?_
      refine o_iloadN X hx (hb hby own_d1_11) rfl (pc' := 12) rfl ?_
      refine o_iload X hx (hb hby own_d1_12) rfl (pc' := 14) rfl ?_
      refine o_iadd X hx (hb hby own_d1_14) (pc' := 15) rfl ?_
      refine o_lloadN X hx (hb hby own_d1_15) rfl (pc' := 16) rfl ?_
      refine o_bipush X hx (hb hby own_d1_16) (v := 8) rfl (pc' := 18) rfl ?_
      refine o_iload X hx (hb hby own_d1_18) rfl (pc' := 20) rfl ?_
      refine o_imul X hx (hb hby own_d1_20) (pc' := 21) rfl ?_
      refine o_lushr X hx (hb hby own_d1_21) (pc' := 22) rfl ?_
      refine o_l2i X hx (hb hby own_d1_22) (pc' := 23) rfl ?_
      refine o_i2b X hx (hb hby own_d1_23) (pc' := 24) rfl ?_
      rw [own_addn]
      refine own_stB X hx hZ eT Bi N g (own_fx f A q1 (i + 1)) (own_idx (by omega) (by omega)) (hb hby own_d1_24) (pc' := 25) rfl (fun t _ => by rw [own_toNat (by omega)]; exact own_fxS f A q1 i t) ?_
      intro T2 h2 lc2 X2 e2 W2 B2 N2
      refine o_iinc X2 hx (hb hby own_d1_25) rfl (y := ((Int32.ofNat i) + (1 : Int32))) rfl (Ls' := #[.val (.ref a1), .val (.int (Int32.ofNat A)), .val (.long q1), .second, .val (.int (Int32.ofNat n)), .val (.int ((Int32.ofNat i) + (1 : Int32)))]) rfl (pc' := 28) rfl ?_
      rw [own_add1]
      refine o_goto X2 hx (hb hby own_d1_28) (pc' := 3) (by decide) ?_
      exact ih (i + 1) T2 h2 lc2 (by omega) X2 e2 (by rw [W2.size]; exact zh) B2 N2
  exact loop n 0 _ _ _ (Nat.zero_add _) X0 e0 (Nat.le_refl _) (by rw [own_fx0]; exact B) (Fr.nil _)
theorem own_d2_0 : decode method_3_code 0 = .ok (.aload_n 0, 1) := by decide +kernel
theorem own_d2_1 : decode method_3_code 1 = .ok (.iload_n 1, 1) := by decide +kernel
theorem own_d2_2 : decode method_3_code 2 = .ok (.baload, 1) := by decide +kernel
theorem own_d2_3 : decode method_3_code 3 = .ok (.i2l, 1) := by decide +kernel
theorem own_d2_4 : decode method_3_code 4 = .ok (.ldc2_w 25, 3) := by decide +kernel
theorem own_d2_7 : decode method_3_code 7 = .ok (.land, 1) := by decide +kernel
theorem own_d2_8 : decode method_3_code 8 = .ok (.aload_n 0, 1) := by decide +kernel
theorem own_d2_9 : decode method_3_code 9 = .ok (.iload_n 1, 1) := by decide +kernel
theorem own_d2_10 : decode method_3_code 10 = .ok (.iconst 1, 1) := by decide +kernel
theorem own_d2_11 : decode method_3_code 11 = .ok (.iadd, 1) := by decide +kernel
theorem own_d2_12 : decode method_3_code 12 = .ok (.baload, 1) := by decide +kernel
theorem own_d2_13 : decode method_3_code 13 = .ok (.i2l, 1) := by decide +kernel
theorem own_d2_14 : decode method_3_code 14 = .ok (.ldc2_w 25, 3) := by decide +kernel
theorem own_d2_17 : decode method_3_code 17 = .ok (.land, 1) := by decide +kernel
theorem own_d2_18 : decode method_3_code 18 = .ok (.bipush 8, 2) := by decide +kernel
theorem own_d2_20 : decode method_3_code 20 = .ok (.lshl, 1) := by decide +kernel
theorem own_d2_21 : decode method_3_code 21 = .ok (.lor, 1) := by decide +kernel
theorem own_d2_22 : decode method_3_code 22 = .ok (.aload_n 0, 1) := by decide +kernel
theorem own_d2_23 : decode method_3_code 23 = .ok (.iload_n 1, 1) := by decide +kernel
theorem own_d2_24 : decode method_3_code 24 = .ok (.iconst 2, 1) := by decide +kernel
theorem own_d2_25 : decode method_3_code 25 = .ok (.iadd, 1) := by decide +kernel
theorem own_d2_26 : decode method_3_code 26 = .ok (.baload, 1) := by decide +kernel
theorem own_d2_27 : decode method_3_code 27 = .ok (.i2l, 1) := by decide +kernel
theorem own_d2_28 : decode method_3_code 28 = .ok (.ldc2_w 25, 3) := by decide +kernel
theorem own_d2_31 : decode method_3_code 31 = .ok (.land, 1) := by decide +kernel
theorem own_d2_32 : decode method_3_code 32 = .ok (.bipush 16, 2) := by decide +kernel
theorem own_d2_34 : decode method_3_code 34 = .ok (.lshl, 1) := by decide +kernel
theorem own_d2_35 : decode method_3_code 35 = .ok (.lor, 1) := by decide +kernel
theorem own_d2_36 : decode method_3_code 36 = .ok (.aload_n 0, 1) := by decide +kernel
theorem own_d2_37 : decode method_3_code 37 = .ok (.iload_n 1, 1) := by decide +kernel
theorem own_d2_38 : decode method_3_code 38 = .ok (.iconst 3, 1) := by decide +kernel
theorem own_d2_39 : decode method_3_code 39 = .ok (.iadd, 1) := by decide +kernel
theorem own_d2_40 : decode method_3_code 40 = .ok (.baload, 1) := by decide +kernel
theorem own_d2_41 : decode method_3_code 41 = .ok (.i2l, 1) := by decide +kernel
theorem own_d2_42 : decode method_3_code 42 = .ok (.ldc2_w 25, 3) := by decide +kernel
theorem own_d2_45 : decode method_3_code 45 = .ok (.land, 1) := by decide +kernel
theorem own_d2_46 : decode method_3_code 46 = .ok (.bipush 24, 2) := by decide +kernel
theorem own_d2_48 : decode method_3_code 48 = .ok (.lshl, 1) := by decide +kernel
theorem own_d2_49 : decode method_3_code 49 = .ok (.lor, 1) := by decide +kernel
theorem own_d2_50 : decode method_3_code 50 = .ok (.lreturn, 1) := by decide +kernel
theorem own_ef2 (m : MethodId) (x0 : Addr) (x1 : Int32) : entryFrame m #[(.ref x0), (.int x1)] 2 = mkF m 0 #[.val (.ref x0), .val (.int x1)] [] := by first | (simp [entryFrame, mkF, argsToLocals, Value.category]; done) | rfl
theorem own_pn2 : plainName "com/example/wire_grammar/wiregrammar/model/WireOutputPutFixedPinLaw" = true := by first | (simp [plainName, overriddenIn]; done) | decide +kernel
set_option maxRecDepth 65536 in
set_option maxHeartbeats 40000000 in
theorem own_rm2 (l : Launch) (Z : State) (a0 : Array Value) (hw : ∀ d ∈ tables_1, d.before a0 Z = true) (ws : List Jvm.Cond) (a1 : Addr) (A : Nat) (f : Nat → Int32) (h0 : Heap) (hA : A + 3 < 12) (B : own_By Z h0 a1 12 f) :
    own_Met l (⟨"com/example/wire_grammar/wiregrammar/model/WireOutputPutFixedPinLaw", "word", "([BI)J"⟩ : MethodName) method_3_code 2 (some .long) ws ({ frames := 0, cells := 0, slots := 0, locals := 0 } : Room) Z h0 #[(.ref a1), (.int (Int32.ofNat A))] (own_Pure (.long (own_w4 (f A) (f (A + 1)) (f (A + 2)) (f (A + 3)))) h0) := by
  refine MetFree.of_bodySF (plainFor_of_name own_pn2) hisR ?_
  intro p e s m args below meth c s₁ Bd hml0 hP hK
  obtain ⟨rfl, hZ, hh⟩ := hP
  have hx := Bd.exec
  have hby := Bd.bytes
  have hml : c.maxLocals = 2 := hml0
  have hlk := Bd.notSynchronized
  have hown : s.vm.findClass "com/example/wire_grammar/wiregrammar/model/WireOutputPutFixedPinLaw" = some m.cls := findClass_of_methodNamed Bd.named
  have hnm := (name_of_methodNamed Bd.named Bd.method).1
  have X0 : Stand p l e ({ frames := 0, cells := 0, slots := 0, locals := 0 } : Room) s m #[(.ref a1), (.int (Int32.ofNat A))] below meth c s₁ [] 0 0 := Stand.of_body Bd
  have e0 : s₁.heap = h0 := by rw [← hh, Bd.state]; rfl
  show own_Out p e below (own_P s (own_Pure (.long (own_w4 (f A) (f (A + 1)) (f (A + 2)) (f (A + 3)))) h0) ({ frames := 0, cells := 0, slots := 0, locals := 0 } : Room).cells ({ frames := 0, cells := 0, slots := 0, locals := 0 } : Room).slots) s₁ (entryFrame m #[(.ref a1), (.int (Int32.ofNat A))] 2)
  rw [own_ef2 m a1 (Int32.ofNat A)]
  refine o_aloadN X0 hx (hb hby own_d2_0) rfl rfl (pc' := 1) rfl ?_
  refine o_iloadN X0 hx (hb hby own_d2_1) rfl (pc' := 2) rfl ?_
  refine own_ldB X0 hx hZ e0 B A (own_idx (by omega) (by omega)) (own_toNat (by omega)) (hb hby own_d2_2) (pc' := 3) rfl ?_
  refine o_i2l X0 hx (hb hby own_d2_3) (pc' := 4) rfl ?_
  refine o_ldcL X0 hx hZ hown (hw _ (List.mem_of_getElem? (i := 9) rfl)) (hb hby own_d2_4) (pc' := 7) rfl ?_
  refine o_land X0 hx (hb hby own_d2_7) (pc' := 8) rfl ?_
  refine o_aloadN X0 hx (hb hby own_d2_8) rfl rfl (pc' := 9) rfl ?_
  refine o_iloadN X0 hx (hb hby own_d2_9) rfl (pc' := 10) rfl ?_
  refine o_iconst X0 hx (hb hby own_d2_10) (v := 1) rfl (pc' := 11) rfl ?_
  refine o_iadd X0 hx (hb hby own_d2_11) (pc' := 12) rfl ?_
  rw [show Int32.ofNat A + (1 : Int32) = Int32.ofNat (A + 1) from own_addn A 1]
  refine own_ldB X0 hx hZ e0 B (A + 1) (own_idx (by omega) (by omega)) (own_toNat (by omega)) (hb hby own_d2_12) (pc' := 13) rfl ?_
  refine o_i2l X0 hx (hb hby own_d2_13) (pc' := 14) rfl ?_
  refine o_ldcL X0 hx hZ hown (hw _ (List.mem_of_getElem? (i := 9) rfl)) (hb hby own_d2_14) (pc' := 17) rfl ?_
  refine o_land X0 hx (hb hby own_d2_17) (pc' := 18) rfl ?_
  refine o_bipush X0 hx (hb hby own_d2_18) (v := 8) rfl (pc' := 20) rfl ?_
  refine o_lshl X0 hx (hb hby own_d2_20) (pc' := 21) rfl ?_
  refine o_lor X0 hx (hb hby own_d2_21) (pc' := 22) rfl ?_
  refine o_aloadN X0 hx (hb hby own_d2_22) rfl rfl (pc' := 23) rfl ?_
  refine o_iloadN X0 hx (hb hby own_d2_23) rfl (pc' := 24) rfl ?_
  refine o_iconst X0 hx (hb hby own_d2_24) (v := 2) rfl (pc' := 25) rfl ?_
  refine o_iadd X0 hx (hb hby own_d2_25) (pc' := 26) rfl ?_
  rw [show Int32.ofNat A + (2 : Int32) = Int32.ofNat (A + 2) from own_addn A 2]
  refine own_ldB X0 hx hZ e0 B (A + 2) (own_idx (by omega) (by omega)) (own_toNat (by omega)) (hb hby own_d2_26) (pc' := 27) rfl ?_
  refine o_i2l X0 hx (hb hby own_d2_27) (pc' := 28) rfl ?_
  refine o_ldcL X0 hx hZ hown (hw _ (List.mem_of_getElem? (i := 9) rfl)) (hb hby own_d2_28) (pc' := 31) rfl ?_
  refine o_land X0 hx (hb hby own_d2_31) (pc' := 32) rfl ?_
  refine o_bipush X0 hx (hb hby own_d2_32) (v := 16) rfl (pc' := 34) rfl ?_
  refine o_lshl X0 hx (hb hby own_d2_34) (pc' := 35) rfl ?_
  refine o_lor X0 hx (hb hby own_d2_35) (pc' := 36) rfl ?_
  refine o_aloadN X0 hx (hb hby own_d2_36) rfl rfl (pc' := 37) rfl ?_
  refine o_iloadN X0 hx (hb hby own_d2_37) rfl (pc' := 38) rfl ?_
  refine o_iconst X0 hx (hb hby own_d2_38) (v := 3) rfl (pc' := 39) rfl ?_
  refine o_iadd X0 hx (hb hby own_d2_39) (pc' := 40) rfl ?_
  rw [show Int32.ofNat A + (3 : Int32) = Int32.ofNat (A + 3) from own_addn A 3]
  refine own_ldB X0 hx hZ e0 B (A + 3) (own_idx (by omega) (by omega)) (own_toNat (by omega)) (hb hby own_d2_40) (pc' := 41) rfl ?_
  refine o_i2l X0 hx (hb hby own_d2_41) (pc' := 42) rfl ?_
  refine o_ldcL X0 hx hZ hown (hw _ (List.mem_of_getElem? (i := 9) rfl)) (hb hby own_d2_42) (pc' := 45) rfl ?_
  refine o_land X0 hx (hb hby own_d2_45) (pc' := 46) rfl ?_
  refine o_bipush X0 hx (hb hby own_d2_46) (v := 24) rfl (pc' := 48) rfl ?_
  refine o_lshl X0 hx (hb hby own_d2_48) (pc' := 49) rfl ?_
  refine o_lor X0 hx (hb hby own_d2_49) (pc' := 50) rfl ?_
  refine o_retJ X0 hx Bd.returns hlk (hb hby own_d2_50) ⟨rfl, rfl, e0⟩ (by decide) (by decide)
theorem own_d3_0 : decode method_4_code 0 = .ok (.iload_n 1, 1) := by decide +kernel
theorem own_d3_1 : decode method_4_code 1 = .ok (.iload_n 2, 1) := by decide +kernel
theorem own_d3_2 : decode method_4_code 2 = .ok (.if_icmp .lt 10, 3) := by decide +kernel
theorem own_d3_5 : decode method_4_code 5 = .ok (.iload_n 1, 1) := by decide +kernel
theorem own_d3_6 : decode method_4_code 6 = .ok (.iload_n 2, 1) := by decide +kernel
theorem own_d3_7 : decode method_4_code 7 = .ok (.iload_n 3, 1) := by decide +kernel
theorem own_d3_8 : decode method_4_code 8 = .ok (.iadd, 1) := by decide +kernel
theorem own_d3_9 : decode method_4_code 9 = .ok (.if_icmp .lt 11, 3) := by decide +kernel
theorem own_d3_12 : decode method_4_code 12 = .ok (.aload_n 0, 1) := by decide +kernel
theorem own_d3_13 : decode method_4_code 13 = .ok (.iload_n 1, 1) := by decide +kernel
theorem own_d3_14 : decode method_4_code 14 = .ok (.baload, 1) := by decide +kernel
theorem own_d3_15 : decode method_4_code 15 = .ok (.iload 4, 2) := by decide +kernel
theorem own_d3_17 : decode method_4_code 17 = .ok (.if_icmp .ne 7, 3) := by decide +kernel
theorem own_d3_20 : decode method_4_code 20 = .ok (.iconst 1, 1) := by decide +kernel
theorem own_d3_21 : decode method_4_code 21 = .ok (.goto 4, 3) := by decide +kernel
theorem own_d3_25 : decode method_4_code 25 = .ok (.ireturn, 1) := by decide +kernel
theorem own_ef3 (m : MethodId) (x0 : Addr) (x1 : Int32) (x2 : Int32) (x3 : Int32) (x4 : Int32) : entryFrame m #[(.ref x0), (.int x1), (.int x2), (.int x3), (.int x4)] 5 = mkF m 0 #[.val (.ref x0), .val (.int x1), .val (.int x2), .val (.int x3), .val (.int x4)] [] := by first | (simp [entryFrame, mkF, argsToLocals, Value.category]; done) | rfl
theorem own_pn3 : plainName "com/example/wire_grammar/wiregrammar/model/WireOutputPutFixedPinLaw" = true := by first | (simp [plainName, overriddenIn]; done) | decide +kernel
set_option maxRecDepth 65536 in
set_option maxHeartbeats 40000000 in
theorem own_rm3 (l : Launch) (Z : State) (a0 : Array Value) (hw : ∀ d ∈ tables_1, d.before a0 Z = true) (ws : List Jvm.Cond) (a1 : Addr) (J A n : Nat) (v1 : Int32) (f : Nat → Int32) (h0 : Heap) (hJ : J < 12) (hA : A ≤ 3) (hn : n ≤ 8) (hk : ¬ (A ≤ J ∧ J < A + n) → f J = v1) (B : own_By Z h0 a1 12 f) :
    own_Met l (⟨"com/example/wire_grammar/wiregrammar/model/WireOutputPutFixedPinLaw", "kept", "([BIIIB)Z"⟩ : MethodName) method_4_code 5 (some .boolean) ws ({ frames := 0, cells := 0, slots := 0, locals := 0 } : Room) Z h0 #[(.ref a1), (.int (Int32.ofNat J)), (.int (Int32.ofNat A)), (.int (Int32.ofNat n)), (.int v1)] (own_Pure (.int 1) h0) := by
  refine MetFree.of_bodySF (plainFor_of_name own_pn3) hisR ?_
  intro p e s m args below meth c s₁ Bd hml0 hP hK
  obtain ⟨rfl, hZ, hh⟩ := hP
  have hx := Bd.exec
  have hby := Bd.bytes
  have hml : c.maxLocals = 5 := hml0
  have hlk := Bd.notSynchronized
  have hown : s.vm.findClass "com/example/wire_grammar/wiregrammar/model/WireOutputPutFixedPinLaw" = some m.cls := findClass_of_methodNamed Bd.named
  have hnm := (name_of_methodNamed Bd.named Bd.method).1
  have X0 : Stand p l e ({ frames := 0, cells := 0, slots := 0, locals := 0 } : Room) s m #[(.ref a1), (.int (Int32.ofNat J)), (.int (Int32.ofNat A)), (.int (Int32.ofNat n)), (.int v1)] below meth c s₁ [] 0 0 := Stand.of_body Bd
  have e0 : s₁.heap = h0 := by rw [← hh, Bd.state]; rfl
  show own_Out p e below (own_P s (own_Pure (.int 1) h0) ({ frames := 0, cells := 0, slots := 0, locals := 0 } : Room).cells ({ frames := 0, cells := 0, slots := 0, locals := 0 } : Room).slots) s₁ (entryFrame m #[(.ref a1), (.int (Int32.ofNat J)), (.int (Int32.ofNat A)), (.int (Int32.ofNat n)), (.int v1)] 5)
  rw [own_ef3 m a1 (Int32.ofNat J) (Int32.ofNat A) (Int32.ofNat n) v1]
  refine o_iloadN X0 hx (hb hby own_d3_0) rfl (pc' := 1) rfl ?_
  refine o_iloadN X0 hx (hb hby own_d3_1) rfl (pc' := 2) rfl ?_
  refine o_icmp_lt X0 hx (hb hby own_d3_2) (pc' := 12) (pn := 5) (by decide) rfl (fun hc2 => ?_) (fun hc2 => ?_)
  · rw [own_olt (by omega) (by omega)] at hc2
    refine o_aloadN X0 hx (hb hby own_d3_12) rfl rfl (pc' := 13) rfl ?_
    refine o_iloadN X0 hx (hb hby own_d3_13) rfl (pc' := 14) rfl ?_
    refine own_ldB X0 hx hZ e0 B J (own_idx (by omega) (by omega)) (own_toNat (by omega)) (hb hby own_d3_14) (pc' := 15) rfl ?_
    rw [hk (by omega)]
    refine o_iload X0 hx (hb hby own_d3_15) rfl (pc' := 17) rfl ?_
    refine o_icmp_ne X0 hx (hb hby own_d3_17) (pc' := 24) (pn := 20) (by decide) rfl (fun hq => ?_) (fun hq => ?_)
    · exact absurd rfl hq
    refine o_iconst X0 hx (hb hby own_d3_20) (v := 1) rfl (pc' := 21) rfl ?_
    refine o_goto X0 hx (hb hby own_d3_21) (pc' := 25) (by decide) ?_
    refine o_retN X0 hx (t := .boolean) Bd.returns hlk (by simp) (hb hby own_d3_25) (v := _) ?_ ⟨rfl, rfl, e0⟩ (by decide) (by decide)
    exact own_r1
  · rw [own_olt (by omega) (by omega)] at hc2
    refine o_iloadN X0 hx (hb hby own_d3_5) rfl (pc' := 6) rfl ?_
    refine o_iloadN X0 hx (hb hby own_d3_6) rfl (pc' := 7) rfl ?_
    refine o_iloadN X0 hx (hb hby own_d3_7) rfl (pc' := 8) rfl ?_
    refine o_iadd X0 hx (hb hby own_d3_8) (pc' := 9) rfl ?_
    rw [own_addn]
    refine o_icmp_lt X0 hx (hb hby own_d3_9) (pc' := 20) (pn := 12) (by decide) rfl (fun hc9 => ?_) (fun hc9 => ?_)
    · refine o_iconst X0 hx (hb hby own_d3_20) (v := 1) rfl (pc' := 21) rfl ?_
      refine o_goto X0 hx (hb hby own_d3_21) (pc' := 25) (by decide) ?_
      refine o_retN X0 hx (t := .boolean) Bd.returns hlk (by simp) (hb hby own_d3_25) (v := _) ?_ ⟨rfl, rfl, e0⟩ (by decide) (by decide)
      exact own_r1
    · rw [own_olt (by omega) (by omega)] at hc9
      refine o_aloadN X0 hx (hb hby own_d3_12) rfl rfl (pc' := 13) rfl ?_
      refine o_iloadN X0 hx (hb hby own_d3_13) rfl (pc' := 14) rfl ?_
      refine own_ldB X0 hx hZ e0 B J (own_idx (by omega) (by omega)) (own_toNat (by omega)) (hb hby own_d3_14) (pc' := 15) rfl ?_
      rw [hk (by omega)]
      refine o_iload X0 hx (hb hby own_d3_15) rfl (pc' := 17) rfl ?_
      refine o_icmp_ne X0 hx (hb hby own_d3_17) (pc' := 24) (pn := 20) (by decide) rfl (fun hq => ?_) (fun hq => ?_)
      · exact absurd rfl hq
      refine o_iconst X0 hx (hb hby own_d3_20) (v := 1) rfl (pc' := 21) rfl ?_
      refine o_goto X0 hx (hb hby own_d3_21) (pc' := 25) (by decide) ?_
      refine o_retN X0 hx (t := .boolean) Bd.returns hlk (by simp) (hb hby own_d3_25) (v := _) ?_ ⟨rfl, rfl, e0⟩ (by decide) (by decide)
      exact own_r1
theorem own_ef0 (m : MethodId) (x0 : Int64) (x1 : Int32) (x2 : Int32) (x3 : Int32) : entryFrame m #[(.long x0), (.int x1), (.int x2), (.int x3)] maxLocals = mkF m 0 #[.val (.long x0), .second, .val (.int x1), .val (.int x2), .val (.int x3), .unset, .unset, .unset, .unset, .unset, .unset, .unset, .unset, .unset, .unset] [] := by first | (simp [entryFrame, mkF, argsToLocals, Value.category, maxLocals]; done) | rfl
theorem own_pn0 : plainName "com/example/wire_grammar/wiregrammar/model/WireOutputPutFixedPinLaw" = true := by first | (simp [plainName, overriddenIn]; done) | decide +kernel
set_option maxRecDepth 65536 in
set_option maxHeartbeats 40000000 in
theorem own_rm0 (l : Launch) (Z : State) (a0 : Array Value) (hw : ∀ d ∈ tables_1, d.before a0 Z = true) (ws : List Jvm.Cond) (q1 : Int64) (p1 p2 p3 : Int32) (h0 : Heap)  :
    MetFree l x (head1 (Jvm.Cond.code x code maxLocals ret :: ws) room_1) (fun a U => a = #[(.long q1), (.int p1), (.int p2), (.int p3)] ∧ Z.Warmed39 U.vm ∧ U.heap = h0) (fun _ _ _ _ _ => True) (fun _ U o U' => ∃ v L, o = .returned v ∧ (fun v _ L => v = some (.int 1) ∧ Fr h0.size L) v U'.heap L ∧ FrameEnd U o U' L room_1.cells room_1.slots) := by
  refine MetFree.of_bodySF (plainFor_of_name own_pn0) hisR ?_
  intro p e s m args below meth c s₁ Bd hml0 hP hK
  obtain ⟨rfl, hZ, hh⟩ := hP
  have hx := Bd.exec
  have hby := Bd.bytes
  have hml : c.maxLocals = 15 := hml0
  have hlk := Bd.notSynchronized
  have hown : s.vm.findClass "com/example/wire_grammar/wiregrammar/model/WireOutputPutFixedPinLaw" = some m.cls := findClass_of_methodNamed Bd.named
  have hnm := (name_of_methodNamed Bd.named Bd.method).1
  have X0 : Stand p l e room_1 s m #[(.long q1), (.int p1), (.int p2), (.int p3)] below meth c s₁ [] 0 0 := Stand.of_body Bd
  have e0 : s₁.heap = h0 := by rw [← hh, Bd.state]; rfl
  show own_Out p e below (own_P s (fun v _ L => v = some (.int 1) ∧ Fr h0.size L) room_1.cells room_1.slots) s₁ (entryFrame m #[(.long q1), (.int p1), (.int p2), (.int p3)] maxLocals)
  rw [own_ef0 m q1 p1 p2 p3]
  refine o_iloadN X0 hx (hb hby at_0) rfl (pc' := 1) rfl ?_
  refine o_iconst X0 hx (hb hby at_1) (v := 3) rfl (pc' := 2) rfl ?_
  refine o_iand X0 hx (hb hby at_2) (pc' := 3) rfl ?_
  refine o_istore X0 hx (hb hby at_3) (Ls' := #[.val (.long q1), .second, .val (.int p1), .val (.int p2), .val (.int p3), .val (.int (p1 &&& (3 : Int32))), .unset, .unset, .unset, .unset, .unset, .unset, .unset, .unset, .unset]) rfl (pc' := 5) rfl ?_
  obtain ⟨A, hA, eA⟩ := own_at3 p1
  rw [eA]
  refine o_iloadN X0 hx (hb hby at_5) rfl (pc' := 6) rfl ?_
  refine o_iconst X0 hx (hb hby at_6) (v := 1) rfl (pc' := 7) rfl ?_
  refine o_iand X0 hx (hb hby at_7) (pc' := 8) rfl ?_
  have J17 : ∀ n : Nat, (n = 8 ∨ n = 4) → own_Out p e below (own_P s (fun v _ L => v = some (.int 1) ∧ Fr h0.size L) room_1.cells room_1.slots) s₁ (mkF m 17 #[.val (.long q1), .second, .val (.int p1), .val (.int p2), .val (.int p3), .val (.int (Int32.ofNat A)), .unset, .unset, .unset, .unset, .unset, .unset, .unset, .unset, .unset] [(.int (Int32.ofNat n))]) := by
    intro n hn
    have hn8 : n ≤ 8 := by omega
    refine o_istore X0 hx (hb hby at_17) (Ls' := #[.val (.long q1), .second, .val (.int p1), .val (.int p2), .val (.int p3), .val (.int (Int32.ofNat A)), .val (.int (Int32.ofNat n)), .unset, .unset, .unset, .unset, .unset, .unset, .unset, .unset]) rfl (pc' := 19) rfl ?_
    refine o_iload X0 hx (hb hby at_19) rfl (pc' := 21) rfl ?_
    refine o_i2b X0 hx (hb hby at_21) (pc' := 22) rfl ?_
    refine o_istore X0 hx (hb hby at_22) (Ls' := #[.val (.long q1), .second, .val (.int p1), .val (.int p2), .val (.int p3), .val (.int (Int32.ofNat A)), .val (.int (Int32.ofNat n)), .val (.int (p3.toInt8.toInt32)), .unset, .unset, .unset, .unset, .unset, .unset, .unset]) rfl (pc' := 24) rfl ?_
    refine o_bipush X0 hx (hb hby at_24) (v := 12) rfl (pc' := 26) rfl ?_
    refine o_newarr X0 hx hZ (hw _ (List.mem_of_getElem? (i := 0) rfl)) e0 (hb hby at_26) (by decide) (cap := 12) (by decide) (by decide) (by decide) (by decide) (pc' := 28) rfl ?_
    intro T1 h1 b1 cA X1 e1 E1 g1 A1
    have B : own_By Z h1 b1 12 (own_fl (p3.toInt8.toInt32) 0) := (own_by_new A1 (by decide)).congr (fun i _ => by simp [own_fl])
    have N := Fr.nil h0.size
    have G : h0.size ≤ b1 := Nat.le_of_eq g1.symm
    have zs : h0.size ≤ h1.size := E1.1
    clear A1
    refine o_astore X1 hx (hb hby at_28) rfl (Ls' := #[.val (.long q1), .second, .val (.int p1), .val (.int p2), .val (.int p3), .val (.int (Int32.ofNat A)), .val (.int (Int32.ofNat n)), .val (.int (p3.toInt8.toInt32)), .val (.ref b1), .unset, .unset, .unset, .unset, .unset, .unset]) rfl (pc' := 30) rfl ?_
    refine o_aload X1 hx (hb hby at_30) rfl rfl (pc' := 32) rfl ?_
    refine o_iconst X1 hx (hb hby at_32) (v := 0) rfl (pc' := 33) rfl ?_
    refine o_iload X1 hx (hb hby at_33) rfl (pc' := 35) rfl ?_
    refine own_stB X1 hx hZ e1 B N G (own_fl (p3.toInt8.toInt32) 1) (by decide) (hb hby at_35) (pc' := 36) rfl (fun i _ => by rw [show ((0 : Int32)).toNatClampNeg = 0 from by decide]; exact own_flS _ 0 i) ?_
    clear B N
    intro T2 h2 l2 X2 e2 W2 B N
    replace zs : h0.size ≤ h2.size := by rw [W2.size]; exact zs
    refine o_aload X2 hx (hb hby at_36) rfl rfl (pc' := 38) rfl ?_
    refine o_iconst X2 hx (hb hby at_38) (v := 1) rfl (pc' := 39) rfl ?_
    refine o_iload X2 hx (hb hby at_39) rfl (pc' := 41) rfl ?_
    refine own_stB X2 hx hZ e2 B N G (own_fl (p3.toInt8.toInt32) 2) (by decide) (hb hby at_41) (pc' := 42) rfl (fun i _ => by rw [show ((1 : Int32)).toNatClampNeg = 1 from by decide]; exact own_flS _ 1 i) ?_
    clear B N
    intro T3 h3 l3 X3 e3 W3 B N
    replace zs : h0.size ≤ h3.size := by rw [W3.size]; exact zs
    refine o_aload X3 hx (hb hby at_42) rfl rfl (pc' := 44) rfl ?_
    refine o_iconst X3 hx (hb hby at_44) (v := 2) rfl (pc' := 45) rfl ?_
    refine o_iload X3 hx (hb hby at_45) rfl (pc' := 47) rfl ?_
    refine own_stB X3 hx hZ e3 B N G (own_fl (p3.toInt8.toInt32) 3) (by decide) (hb hby at_47) (pc' := 48) rfl (fun i _ => by rw [show ((2 : Int32)).toNatClampNeg = 2 from by decide]; exact own_flS _ 2 i) ?_
    clear B N
    intro T4 h4 l4 X4 e4 W4 B N
    replace zs : h0.size ≤ h4.size := by rw [W4.size]; exact zs
    refine o_aload X4 hx (hb hby at_48) rfl rfl (pc' := 50) rfl ?_
    refine o_iconst X4 hx (hb hby at_50) (v := 3) rfl (pc' := 51) rfl ?_
    refine o_iload X4 hx (hb hby at_51) rfl (pc' := 53) rfl ?_
    refine own_stB X4 hx hZ e4 B N G (own_fl (p3.toInt8.toInt32) 4) (by decide) (hb hby at_53) (pc' := 54) rfl (fun i _ => by rw [show ((3 : Int32)).toNatClampNeg = 3 from by decide]; exact own_flS _ 3 i) ?_
    clear B N
    intro T5 h5 l5 X5 e5 W5 B N
    replace zs : h0.size ≤ h5.size := by rw [W5.size]; exact zs
    refine o_aload X5 hx (hb hby at_54) rfl rfl (pc' := 56) rfl ?_
    refine o_iconst X5 hx (hb hby at_56) (v := 4) rfl (pc' := 57) rfl ?_
    refine o_iload X5 hx (hb hby at_57) rfl (pc' := 59) rfl ?_
    refine own_stB X5 hx hZ e5 B N G (own_fl (p3.toInt8.toInt32) 5) (by decide) (hb hby at_59) (pc' := 60) rfl (fun i _ => by rw [show ((4 : Int32)).toNatClampNeg = 4 from by decide]; exact own_flS _ 4 i) ?_
    clear B N
    intro T6 h6 l6 X6 e6 W6 B N
    replace zs : h0.size ≤ h6.size := by rw [W6.size]; exact zs
    refine o_aload X6 hx (hb hby at_60) rfl rfl (pc' := 62) rfl ?_
    refine o_iconst X6 hx (hb hby at_62) (v := 5) rfl (pc' := 63) rfl ?_
    refine o_iload X6 hx (hb hby at_63) rfl (pc' := 65) rfl ?_
    refine own_stB X6 hx hZ e6 B N G (own_fl (p3.toInt8.toInt32) 6) (by decide) (hb hby at_65) (pc' := 66) rfl (fun i _ => by rw [show ((5 : Int32)).toNatClampNeg = 5 from by decide]; exact own_flS _ 5 i) ?_
    clear B N
    intro T7 h7 l7 X7 e7 W7 B N
    replace zs : h0.size ≤ h7.size := by rw [W7.size]; exact zs
    refine o_aload X7 hx (hb hby at_66) rfl rfl (pc' := 68) rfl ?_
    refine o_bipush X7 hx (hb hby at_68) (v := 6) rfl (pc' := 70) rfl ?_
    refine o_iload X7 hx (hb hby at_70) rfl (pc' := 72) rfl ?_
    refine own_stB X7 hx hZ e7 B N G (own_fl (p3.toInt8.toInt32) 7) (by decide) (hb hby at_72) (pc' := 73) rfl (fun i _ => by rw [show ((6 : Int32)).toNatClampNeg = 6 from by decide]; exact own_flS _ 6 i) ?_
    clear B N
    intro T8 h8 l8 X8 e8 W8 B N
    replace zs : h0.size ≤ h8.size := by rw [W8.size]; exact zs
    refine o_aload X8 hx (hb hby at_73) rfl rfl (pc' := 75) rfl ?_
    refine o_bipush X8 hx (hb hby at_75) (v := 7) rfl (pc' := 77) rfl ?_
    refine o_iload X8 hx (hb hby at_77) rfl (pc' := 79) rfl ?_
    refine own_stB X8 hx hZ e8 B N G (own_fl (p3.toInt8.toInt32) 8) (by decide) (hb hby at_79) (pc' := 80) rfl (fun i _ => by rw [show ((7 : Int32)).toNatClampNeg = 7 from by decide]; exact own_flS _ 7 i) ?_
    clear B N
    intro T9 h9 l9 X9 e9 W9 B N
    replace zs : h0.size ≤ h9.size := by rw [W9.size]; exact zs
    refine o_aload X9 hx (hb hby at_80) rfl rfl (pc' := 82) rfl ?_
    refine o_bipush X9 hx (hb hby at_82) (v := 8) rfl (pc' := 84) rfl ?_
    refine o_iload X9 hx (hb hby at_84) rfl (pc' := 86) rfl ?_
    refine own_stB X9 hx hZ e9 B N G (own_fl (p3.toInt8.toInt32) 9) (by decide) (hb hby at_86) (pc' := 87) rfl (fun i _ => by rw [show ((8 : Int32)).toNatClampNeg = 8 from by decide]; exact own_flS _ 8 i) ?_
    clear B N
    intro T10 h10 l10 X10 e10 W10 B N
    replace zs : h0.size ≤ h10.size := by rw [W10.size]; exact zs
    refine o_aload X10 hx (hb hby at_87) rfl rfl (pc' := 89) rfl ?_
    refine o_bipush X10 hx (hb hby at_89) (v := 9) rfl (pc' := 91) rfl ?_
    refine o_iload X10 hx (hb hby at_91) rfl (pc' := 93) rfl ?_
    refine own_stB X10 hx hZ e10 B N G (own_fl (p3.toInt8.toInt32) 10) (by decide) (hb hby at_93) (pc' := 94) rfl (fun i _ => by rw [show ((9 : Int32)).toNatClampNeg = 9 from by decide]; exact own_flS _ 9 i) ?_
    clear B N
    intro T11 h11 l11 X11 e11 W11 B N
    replace zs : h0.size ≤ h11.size := by rw [W11.size]; exact zs
    refine o_aload X11 hx (hb hby at_94) rfl rfl (pc' := 96) rfl ?_
    refine o_bipush X11 hx (hb hby at_96) (v := 10) rfl (pc' := 98) rfl ?_
    refine o_iload X11 hx (hb hby at_98) rfl (pc' := 100) rfl ?_
    refine own_stB X11 hx hZ e11 B N G (own_fl (p3.toInt8.toInt32) 11) (by decide) (hb hby at_100) (pc' := 101) rfl (fun i _ => by rw [show ((10 : Int32)).toNatClampNeg = 10 from by decide]; exact own_flS _ 10 i) ?_
    clear B N
    intro T12 h12 l12 X12 e12 W12 B N
    replace zs : h0.size ≤ h12.size := by rw [W12.size]; exact zs
    refine o_aload X12 hx (hb hby at_101) rfl rfl (pc' := 103) rfl ?_
    refine o_bipush X12 hx (hb hby at_103) (v := 11) rfl (pc' := 105) rfl ?_
    refine o_iload X12 hx (hb hby at_105) rfl (pc' := 107) rfl ?_
    refine own_stB X12 hx hZ e12 B N G (own_fl (p3.toInt8.toInt32) 12) (by decide) (hb hby at_107) (pc' := 108) rfl (fun i _ => by rw [show ((11 : Int32)).toNatClampNeg = 11 from by decide]; exact own_flS _ 11 i) ?_
    clear B N
    intro T13 h13 l13 X13 e13 W13 B N
    replace zs : h0.size ≤ h13.size := by rw [W13.size]; exact zs
    refine o_aload X13 hx (hb hby at_108) rfl rfl (pc' := 110) rfl ?_
    refine o_iload X13 hx (hb hby at_110) rfl (pc' := 112) rfl ?_
    refine o_lloadN X13 hx (hb hby at_112) rfl (pc' := 113) rfl ?_
    refine o_iload X13 hx (hb hby at_113) rfl (pc' := 115) rfl ?_
    refine o_callS X13 hx hZ (y := (⟨"com/example/wire_grammar/wiregrammar/model/WireOutput", "putFixed", "([BIJI)V"⟩ : MethodName)) (as' := [(.ref b1), (.int (Int32.ofNat A)), (.long q1), (.int (Int32.ofNat n))]) hown (hw _ (List.mem_of_getElem? (i := 1) rfl)) (hw _ (List.mem_of_getElem? (i := 2) rfl)) (hw _ (List.mem_of_getElem? (i := 3) rfl)) (hw _ (List.mem_of_getElem? (i := 4) rfl)) (by decide) e13 (own_rm1 l Z a0 hw [] b1 A n q1 _ h13 h0.size G hA hn8 B) (by rw [hml]; rfl) own_pd0 rfl (W := 0) (Nat.le_of_eq rfl) (by decide) (by decide) (hb hby at_115) (by decide) (by decide) (pc' := 118) rfl (S := []) rfl ?_
    rintro _ U L Y ⟨rfl, M, zu, D⟩
    replace N := Fr.app N M
    show own_Out p e below _ U (mkF m 118 #[.val (.long q1), .second, .val (.int p1), .val (.int p2), .val (.int p3), .val (.int (Int32.ofNat A)), .val (.int (Int32.ofNat n)), .val (.int (p3.toInt8.toInt32)), .val (.ref b1), .unset, .unset, .unset, .unset, .unset, .unset] [])
    generalize hF : (own_fx (own_fl (p3.toInt8.toInt32) 12) A q1 n) = F at D
    refine o_aload Y hx (hb hby at_118) rfl rfl (pc' := 120) rfl ?_
    refine o_iload Y hx (hb hby at_120) rfl (pc' := 122) rfl ?_
    refine o_callS Y hx hZ (y := (⟨"com/example/wire_grammar/wiregrammar/model/WireOutputPutFixedPinLaw", "word", "([BI)J"⟩ : MethodName)) (as' := [(.ref b1), (.int (Int32.ofNat A))]) hown (hw _ (List.mem_of_getElem? (i := 5) rfl)) (hw _ (List.mem_of_getElem? (i := 6) rfl)) (hw _ (List.mem_of_getElem? (i := 7) rfl)) (hw _ (List.mem_of_getElem? (i := 8) rfl)) (by decide) rfl (own_rm2 l Z a0 hw [] b1 A F U.heap (by omega) D) (by rw [hml]; rfl) own_pd1 rfl (W := 0) (Nat.le_of_eq rfl) (by decide) (by decide) (hb hby at_122) (by decide) (by decide) (pc' := 125) rfl (S := []) rfl ?_
    intro v14 T14 L14 X14 q14
    obtain ⟨rfl, X14, e14⟩ := own_pure rfl rfl X14 q14
    show own_Out p e below _ T14 (mkF m 125 #[.val (.long q1), .second, .val (.int p1), .val (.int p2), .val (.int p3), .val (.int (Int32.ofNat A)), .val (.int (Int32.ofNat n)), .val (.int (p3.toInt8.toInt32)), .val (.ref b1), .unset, .unset, .unset, .unset, .unset, .unset] [(.long (own_w4 (F A) (F (A + 1)) (F (A + 2)) (F (A + 3))))])
    refine o_lstore X14 hx (hb hby at_125) (Ls' := #[.val (.long q1), .second, .val (.int p1), .val (.int p2), .val (.int p3), .val (.int (Int32.ofNat A)), .val (.int (Int32.ofNat n)), .val (.int (p3.toInt8.toInt32)), .val (.ref b1), .val (.long (own_w4 (F A) (F (A + 1)) (F (A + 2)) (F (A + 3)))), .second, .unset, .unset, .unset, .unset]) rfl (pc' := 127) rfl ?_
    refine o_aload X14 hx (hb hby at_127) rfl rfl (pc' := 129) rfl ?_
    refine o_iload X14 hx (hb hby at_129) rfl (pc' := 131) rfl ?_
    refine o_iconst X14 hx (hb hby at_131) (v := 4) rfl (pc' := 132) rfl ?_
    refine o_iadd X14 hx (hb hby at_132) (pc' := 133) rfl ?_
    rw [show Int32.ofNat A + (4 : Int32) = Int32.ofNat (A + 4) from own_addn A 4]
    refine o_callS X14 hx hZ (y := (⟨"com/example/wire_grammar/wiregrammar/model/WireOutputPutFixedPinLaw", "word", "([BI)J"⟩ : MethodName)) (as' := [(.ref b1), (.int (Int32.ofNat (A + 4)))]) hown (hw _ (List.mem_of_getElem? (i := 5) rfl)) (hw _ (List.mem_of_getElem? (i := 6) rfl)) (hw _ (List.mem_of_getElem? (i := 7) rfl)) (hw _ (List.mem_of_getElem? (i := 8) rfl)) (by decide) e14 (own_rm2 l Z a0 hw [] b1 (A + 4) F U.heap (by omega) D) (by rw [hml]; rfl) own_pd1 rfl (W := 0) (Nat.le_of_eq rfl) (by decide) (by decide) (hb hby at_133) (by decide) (by decide) (pc' := 136) rfl (S := []) rfl ?_
    intro v15 T15 L15 X15 q15
    obtain ⟨rfl, X15, e15⟩ := own_pure rfl rfl X15 q15
    show own_Out p e below _ T15 (mkF m 136 #[.val (.long q1), .second, .val (.int p1), .val (.int p2), .val (.int p3), .val (.int (Int32.ofNat A)), .val (.int (Int32.ofNat n)), .val (.int (p3.toInt8.toInt32)), .val (.ref b1), .val (.long (own_w4 (F A) (F (A + 1)) (F (A + 2)) (F (A + 3)))), .second, .unset, .unset, .unset, .unset] [(.long (own_w4 (F (A + 4)) (F ((A + 4) + 1)) (F ((A + 4) + 2)) (F ((A + 4) + 3))))])
    refine o_lstore X15 hx (hb hby at_136) (Ls' := #[.val (.long q1), .second, .val (.int p1), .val (.int p2), .val (.int p3), .val (.int (Int32.ofNat A)), .val (.int (Int32.ofNat n)), .val (.int (p3.toInt8.toInt32)), .val (.ref b1), .val (.long (own_w4 (F A) (F (A + 1)) (F (A + 2)) (F (A + 3)))), .second, .val (.long (own_w4 (F (A + 4)) (F ((A + 4) + 1)) (F ((A + 4) + 2)) (F ((A + 4) + 3)))), .second, .unset, .unset]) rfl (pc' := 138) rfl ?_
    refine o_iload X15 hx (hb hby at_138) rfl (pc' := 140) rfl ?_
    refine o_bipush X15 hx (hb hby at_140) (v := 8) rfl (pc' := 142) rfl ?_
    have J186 : own_Out p e below (own_P s (fun v _ L => v = some (.int 1) ∧ Fr h0.size L) room_1.cells room_1.slots) T15 (mkF m 186 #[.val (.long q1), .second, .val (.int p1), .val (.int p2), .val (.int p3), .val (.int (Int32.ofNat A)), .val (.int (Int32.ofNat n)), .val (.int (p3.toInt8.toInt32)), .val (.ref b1), .val (.long (own_w4 (F A) (F (A + 1)) (F (A + 2)) (F (A + 3)))), .second, .val (.long (own_w4 (F (A + 4)) (F ((A + 4) + 1)) (F ((A + 4) + 2)) (F ((A + 4) + 3)))), .second, .val (.int (1 : Int32)), .unset] []) := by
      refine o_aload X15 hx (hb hby at_186) rfl rfl (pc' := 188) rfl ?_
      refine o_iconst X15 hx (hb hby at_188) (v := 0) rfl (pc' := 189) rfl ?_
      refine o_iload X15 hx (hb hby at_189) rfl (pc' := 191) rfl ?_
      refine o_iload X15 hx (hb hby at_191) rfl (pc' := 193) rfl ?_
      refine o_iload X15 hx (hb hby at_193) rfl (pc' := 195) rfl ?_
      refine o_callS X15 hx hZ (y := (⟨"com/example/wire_grammar/wiregrammar/model/WireOutputPutFixedPinLaw", "kept", "([BIIIB)Z"⟩ : MethodName)) (as' := [(.ref b1), (.int (0 : Int32)), (.int (Int32.ofNat A)), (.int (Int32.ofNat n)), (.int (p3.toInt8.toInt32))]) hown (hw _ (List.mem_of_getElem? (i := 10) rfl)) (hw _ (List.mem_of_getElem? (i := 11) rfl)) (hw _ (List.mem_of_getElem? (i := 7) rfl)) (hw _ (List.mem_of_getElem? (i := 12) rfl)) (by decide) e15 (own_rm3 l Z a0 hw [] b1 0 A n (p3.toInt8.toInt32) F U.heap (by decide) hA hn8 (fun z => by rw [← hF]; simp only [own_fx]; rw [if_neg z]; simp [own_fl]) D) (by rw [hml]; rfl) own_pd2 rfl (W := 0) (Nat.le_of_eq rfl) (by decide) (by decide) (hb hby at_195) (by decide) (by decide) (pc' := 198) rfl (S := []) rfl ?_
      intro v16 T16 L16 X16 q16
      obtain ⟨rfl, X16, e16⟩ := own_pure rfl rfl X16 q16
      show own_Out p e below _ T16 (mkF m 198 #[.val (.long q1), .second, .val (.int p1), .val (.int p2), .val (.int p3), .val (.int (Int32.ofNat A)), .val (.int (Int32.ofNat n)), .val (.int (p3.toInt8.toInt32)), .val (.ref b1), .val (.long (own_w4 (F A) (F (A + 1)) (F (A + 2)) (F (A + 3)))), .second, .val (.long (own_w4 (F (A + 4)) (F ((A + 4) + 1)) (F ((A + 4) + 2)) (F ((A + 4) + 3)))), .second, .val (.int (1 : Int32)), .unset] [(.int (1 : Int32))])
      refine o_if_eq X16 hx (hb hby at_198) (pc' := 376) (pn := 201) (by decide) rfl (fun hc => ?_) (fun hc => ?_)
      · exact absurd hc (by decide)
      refine o_aload X16 hx (hb hby at_201) rfl rfl (pc' := 203) rfl ?_
      refine o_iconst X16 hx (hb hby at_203) (v := 1) rfl (pc' := 204) rfl ?_
      refine o_iload X16 hx (hb hby at_204) rfl (pc' := 206) rfl ?_
      refine o_iload X16 hx (hb hby at_206) rfl (pc' := 208) rfl ?_
      refine o_iload X16 hx (hb hby at_208) rfl (pc' := 210) rfl ?_
      refine o_callS X16 hx hZ (y := (⟨"com/example/wire_grammar/wiregrammar/model/WireOutputPutFixedPinLaw", "kept", "([BIIIB)Z"⟩ : MethodName)) (as' := [(.ref b1), (.int (1 : Int32)), (.int (Int32.ofNat A)), (.int (Int32.ofNat n)), (.int (p3.toInt8.toInt32))]) hown (hw _ (List.mem_of_getElem? (i := 10) rfl)) (hw _ (List.mem_of_getElem? (i := 11) rfl)) (hw _ (List.mem_of_getElem? (i := 7) rfl)) (hw _ (List.mem_of_getElem? (i := 12) rfl)) (by decide) e16 (own_rm3 l Z a0 hw [] b1 1 A n (p3.toInt8.toInt32) F U.heap (by decide) hA hn8 (fun z => by rw [← hF]; simp only [own_fx]; rw [if_neg z]; simp [own_fl]) D) (by rw [hml]; rfl) own_pd2 rfl (W := 0) (Nat.le_of_eq rfl) (by decide) (by decide) (hb hby at_210) (by decide) (by decide) (pc' := 213) rfl (S := []) rfl ?_
      intro v17 T17 L17 X17 q17
      obtain ⟨rfl, X17, e17⟩ := own_pure rfl rfl X17 q17
      show own_Out p e below _ T17 (mkF m 213 #[.val (.long q1), .second, .val (.int p1), .val (.int p2), .val (.int p3), .val (.int (Int32.ofNat A)), .val (.int (Int32.ofNat n)), .val (.int (p3.toInt8.toInt32)), .val (.ref b1), .val (.long (own_w4 (F A) (F (A + 1)) (F (A + 2)) (F (A + 3)))), .second, .val (.long (own_w4 (F (A + 4)) (F ((A + 4) + 1)) (F ((A + 4) + 2)) (F ((A + 4) + 3)))), .second, .val (.int (1 : Int32)), .unset] [(.int (1 : Int32))])
      refine o_if_eq X17 hx (hb hby at_213) (pc' := 376) (pn := 216) (by decide) rfl (fun hc => ?_) (fun hc => ?_)
      · exact absurd hc (by decide)
      refine o_aload X17 hx (hb hby at_216) rfl rfl (pc' := 218) rfl ?_
      refine o_iconst X17 hx (hb hby at_218) (v := 2) rfl (pc' := 219) rfl ?_
      refine o_iload X17 hx (hb hby at_219) rfl (pc' := 221) rfl ?_
      refine o_iload X17 hx (hb hby at_221) rfl (pc' := 223) rfl ?_
      refine o_iload X17 hx (hb hby at_223) rfl (pc' := 225) rfl ?_
      refine o_callS X17 hx hZ (y := (⟨"com/example/wire_grammar/wiregrammar/model/WireOutputPutFixedPinLaw", "kept", "([BIIIB)Z"⟩ : MethodName)) (as' := [(.ref b1), (.int (2 : Int32)), (.int (Int32.ofNat A)), (.int (Int32.ofNat n)), (.int (p3.toInt8.toInt32))]) hown (hw _ (List.mem_of_getElem? (i := 10) rfl)) (hw _ (List.mem_of_getElem? (i := 11) rfl)) (hw _ (List.mem_of_getElem? (i := 7) rfl)) (hw _ (List.mem_of_getElem? (i := 12) rfl)) (by decide) e17 (own_rm3 l Z a0 hw [] b1 2 A n (p3.toInt8.toInt32) F U.heap (by decide) hA hn8 (fun z => by rw [← hF]; simp only [own_fx]; rw [if_neg z]; simp [own_fl]) D) (by rw [hml]; rfl) own_pd2 rfl (W := 0) (Nat.le_of_eq rfl) (by decide) (by decide) (hb hby at_225) (by decide) (by decide) (pc' := 228) rfl (S := []) rfl ?_
      intro v18 T18 L18 X18 q18
      obtain ⟨rfl, X18, e18⟩ := own_pure rfl rfl X18 q18
      show own_Out p e below _ T18 (mkF m 228 #[.val (.long q1), .second, .val (.int p1), .val (.int p2), .val (.int p3), .val (.int (Int32.ofNat A)), .val (.int (Int32.ofNat n)), .val (.int (p3.toInt8.toInt32)), .val (.ref b1), .val (.long (own_w4 (F A) (F (A + 1)) (F (A + 2)) (F (A + 3)))), .second, .val (.long (own_w4 (F (A + 4)) (F ((A + 4) + 1)) (F ((A + 4) + 2)) (F ((A + 4) + 3)))), .second, .val (.int (1 : Int32)), .unset] [(.int (1 : Int32))])
      refine o_if_eq X18 hx (hb hby at_228) (pc' := 376) (pn := 231) (by decide) rfl (fun hc => ?_) (fun hc => ?_)
      · exact absurd hc (by decide)
      refine o_aload X18 hx (hb hby at_231) rfl rfl (pc' := 233) rfl ?_
      refine o_iconst X18 hx (hb hby at_233) (v := 3) rfl (pc' := 234) rfl ?_
      refine o_iload X18 hx (hb hby at_234) rfl (pc' := 236) rfl ?_
      refine o_iload X18 hx (hb hby at_236) rfl (pc' := 238) rfl ?_
      refine o_iload X18 hx (hb hby at_238) rfl (pc' := 240) rfl ?_
      refine o_callS X18 hx hZ (y := (⟨"com/example/wire_grammar/wiregrammar/model/WireOutputPutFixedPinLaw", "kept", "([BIIIB)Z"⟩ : MethodName)) (as' := [(.ref b1), (.int (3 : Int32)), (.int (Int32.ofNat A)), (.int (Int32.ofNat n)), (.int (p3.toInt8.toInt32))]) hown (hw _ (List.mem_of_getElem? (i := 10) rfl)) (hw _ (List.mem_of_getElem? (i := 11) rfl)) (hw _ (List.mem_of_getElem? (i := 7) rfl)) (hw _ (List.mem_of_getElem? (i := 12) rfl)) (by decide) e18 (own_rm3 l Z a0 hw [] b1 3 A n (p3.toInt8.toInt32) F U.heap (by decide) hA hn8 (fun z => by rw [← hF]; simp only [own_fx]; rw [if_neg z]; simp [own_fl]) D) (by rw [hml]; rfl) own_pd2 rfl (W := 0) (Nat.le_of_eq rfl) (by decide) (by decide) (hb hby at_240) (by decide) (by decide) (pc' := 243) rfl (S := []) rfl ?_
      intro v19 T19 L19 X19 q19
      obtain ⟨rfl, X19, e19⟩ := own_pure rfl rfl X19 q19
      show own_Out p e below _ T19 (mkF m 243 #[.val (.long q1), .second, .val (.int p1), .val (.int p2), .val (.int p3), .val (.int (Int32.ofNat A)), .val (.int (Int32.ofNat n)), .val (.int (p3.toInt8.toInt32)), .val (.ref b1), .val (.long (own_w4 (F A) (F (A + 1)) (F (A + 2)) (F (A + 3)))), .second, .val (.long (own_w4 (F (A + 4)) (F ((A + 4) + 1)) (F ((A + 4) + 2)) (F ((A + 4) + 3)))), .second, .val (.int (1 : Int32)), .unset] [(.int (1 : Int32))])
      refine o_if_eq X19 hx (hb hby at_243) (pc' := 376) (pn := 246) (by decide) rfl (fun hc => ?_) (fun hc => ?_)
      · exact absurd hc (by decide)
      refine o_aload X19 hx (hb hby at_246) rfl rfl (pc' := 248) rfl ?_
      refine o_iconst X19 hx (hb hby at_248) (v := 4) rfl (pc' := 249) rfl ?_
      refine o_iload X19 hx (hb hby at_249) rfl (pc' := 251) rfl ?_
      refine o_iload X19 hx (hb hby at_251) rfl (pc' := 253) rfl ?_
      refine o_iload X19 hx (hb hby at_253) rfl (pc' := 255) rfl ?_
      refine o_callS X19 hx hZ (y := (⟨"com/example/wire_grammar/wiregrammar/model/WireOutputPutFixedPinLaw", "kept", "([BIIIB)Z"⟩ : MethodName)) (as' := [(.ref b1), (.int (4 : Int32)), (.int (Int32.ofNat A)), (.int (Int32.ofNat n)), (.int (p3.toInt8.toInt32))]) hown (hw _ (List.mem_of_getElem? (i := 10) rfl)) (hw _ (List.mem_of_getElem? (i := 11) rfl)) (hw _ (List.mem_of_getElem? (i := 7) rfl)) (hw _ (List.mem_of_getElem? (i := 12) rfl)) (by decide) e19 (own_rm3 l Z a0 hw [] b1 4 A n (p3.toInt8.toInt32) F U.heap (by decide) hA hn8 (fun z => by rw [← hF]; simp only [own_fx]; rw [if_neg z]; simp [own_fl]) D) (by rw [hml]; rfl) own_pd2 rfl (W := 0) (Nat.le_of_eq rfl) (by decide) (by decide) (hb hby at_255) (by decide) (by decide) (pc' := 258) rfl (S := []) rfl ?_
      intro v20 T20 L20 X20 q20
      obtain ⟨rfl, X20, e20⟩ := own_pure rfl rfl X20 q20
      show own_Out p e below _ T20 (mkF m 258 #[.val (.long q1), .second, .val (.int p1), .val (.int p2), .val (.int p3), .val (.int (Int32.ofNat A)), .val (.int (Int32.ofNat n)), .val (.int (p3.toInt8.toInt32)), .val (.ref b1), .val (.long (own_w4 (F A) (F (A + 1)) (F (A + 2)) (F (A + 3)))), .second, .val (.long (own_w4 (F (A + 4)) (F ((A + 4) + 1)) (F ((A + 4) + 2)) (F ((A + 4) + 3)))), .second, .val (.int (1 : Int32)), .unset] [(.int (1 : Int32))])
      refine o_if_eq X20 hx (hb hby at_258) (pc' := 376) (pn := 261) (by decide) rfl (fun hc => ?_) (fun hc => ?_)
      · exact absurd hc (by decide)
      refine o_aload X20 hx (hb hby at_261) rfl rfl (pc' := 263) rfl ?_
      refine o_iconst X20 hx (hb hby at_263) (v := 5) rfl (pc' := 264) rfl ?_
      refine o_iload X20 hx (hb hby at_264) rfl (pc' := 266) rfl ?_
      refine o_iload X20 hx (hb hby at_266) rfl (pc' := 268) rfl ?_
      refine o_iload X20 hx (hb hby at_268) rfl (pc' := 270) rfl ?_
      refine o_callS X20 hx hZ (y := (⟨"com/example/wire_grammar/wiregrammar/model/WireOutputPutFixedPinLaw", "kept", "([BIIIB)Z"⟩ : MethodName)) (as' := [(.ref b1), (.int (5 : Int32)), (.int (Int32.ofNat A)), (.int (Int32.ofNat n)), (.int (p3.toInt8.toInt32))]) hown (hw _ (List.mem_of_getElem? (i := 10) rfl)) (hw _ (List.mem_of_getElem? (i := 11) rfl)) (hw _ (List.mem_of_getElem? (i := 7) rfl)) (hw _ (List.mem_of_getElem? (i := 12) rfl)) (by decide) e20 (own_rm3 l Z a0 hw [] b1 5 A n (p3.toInt8.toInt32) F U.heap (by decide) hA hn8 (fun z => by rw [← hF]; simp only [own_fx]; rw [if_neg z]; simp [own_fl]) D) (by rw [hml]; rfl) own_pd2 rfl (W := 0) (Nat.le_of_eq rfl) (by decide) (by decide) (hb hby at_270) (by decide) (by decide) (pc' := 273) rfl (S := []) rfl ?_
      intro v21 T21 L21 X21 q21
      obtain ⟨rfl, X21, e21⟩ := own_pure rfl rfl X21 q21
      show own_Out p e below _ T21 (mkF m 273 #[.val (.long q1), .second, .val (.int p1), .val (.int p2), .val (.int p3), .val (.int (Int32.ofNat A)), .val (.int (Int32.ofNat n)), .val (.int (p3.toInt8.toInt32)), .val (.ref b1), .val (.long (own_w4 (F A) (F (A + 1)) (F (A + 2)) (F (A + 3)))), .second, .val (.long (own_w4 (F (A + 4)) (F ((A + 4) + 1)) (F ((A + 4) + 2)) (F ((A + 4) + 3)))), .second, .val (.int (1 : Int32)), .unset] [(.int (1 : Int32))])
      refine o_if_eq X21 hx (hb hby at_273) (pc' := 376) (pn := 276) (by decide) rfl (fun hc => ?_) (fun hc => ?_)
      · exact absurd hc (by decide)
      refine o_aload X21 hx (hb hby at_276) rfl rfl (pc' := 278) rfl ?_
      refine o_bipush X21 hx (hb hby at_278) (v := 6) rfl (pc' := 280) rfl ?_
      refine o_iload X21 hx (hb hby at_280) rfl (pc' := 282) rfl ?_
      refine o_iload X21 hx (hb hby at_282) rfl (pc' := 284) rfl ?_
      refine o_iload X21 hx (hb hby at_284) rfl (pc' := 286) rfl ?_
      refine o_callS X21 hx hZ (y := (⟨"com/example/wire_grammar/wiregrammar/model/WireOutputPutFixedPinLaw", "kept", "([BIIIB)Z"⟩ : MethodName)) (as' := [(.ref b1), (.int (6 : Int32)), (.int (Int32.ofNat A)), (.int (Int32.ofNat n)), (.int (p3.toInt8.toInt32))]) hown (hw _ (List.mem_of_getElem? (i := 10) rfl)) (hw _ (List.mem_of_getElem? (i := 11) rfl)) (hw _ (List.mem_of_getElem? (i := 7) rfl)) (hw _ (List.mem_of_getElem? (i := 12) rfl)) (by decide) e21 (own_rm3 l Z a0 hw [] b1 6 A n (p3.toInt8.toInt32) F U.heap (by decide) hA hn8 (fun z => by rw [← hF]; simp only [own_fx]; rw [if_neg z]; simp [own_fl]) D) (by rw [hml]; rfl) own_pd2 rfl (W := 0) (Nat.le_of_eq rfl) (by decide) (by decide) (hb hby at_286) (by decide) (by decide) (pc' := 289) rfl (S := []) rfl ?_
      intro v22 T22 L22 X22 q22
      obtain ⟨rfl, X22, e22⟩ := own_pure rfl rfl X22 q22
      show own_Out p e below _ T22 (mkF m 289 #[.val (.long q1), .second, .val (.int p1), .val (.int p2), .val (.int p3), .val (.int (Int32.ofNat A)), .val (.int (Int32.ofNat n)), .val (.int (p3.toInt8.toInt32)), .val (.ref b1), .val (.long (own_w4 (F A) (F (A + 1)) (F (A + 2)) (F (A + 3)))), .second, .val (.long (own_w4 (F (A + 4)) (F ((A + 4) + 1)) (F ((A + 4) + 2)) (F ((A + 4) + 3)))), .second, .val (.int (1 : Int32)), .unset] [(.int (1 : Int32))])
      refine o_if_eq X22 hx (hb hby at_289) (pc' := 376) (pn := 292) (by decide) rfl (fun hc => ?_) (fun hc => ?_)
      · exact absurd hc (by decide)
      refine o_aload X22 hx (hb hby at_292) rfl rfl (pc' := 294) rfl ?_
      refine o_bipush X22 hx (hb hby at_294) (v := 7) rfl (pc' := 296) rfl ?_
      refine o_iload X22 hx (hb hby at_296) rfl (pc' := 298) rfl ?_
      refine o_iload X22 hx (hb hby at_298) rfl (pc' := 300) rfl ?_
      refine o_iload X22 hx (hb hby at_300) rfl (pc' := 302) rfl ?_
      refine o_callS X22 hx hZ (y := (⟨"com/example/wire_grammar/wiregrammar/model/WireOutputPutFixedPinLaw", "kept", "([BIIIB)Z"⟩ : MethodName)) (as' := [(.ref b1), (.int (7 : Int32)), (.int (Int32.ofNat A)), (.int (Int32.ofNat n)), (.int (p3.toInt8.toInt32))]) hown (hw _ (List.mem_of_getElem? (i := 10) rfl)) (hw _ (List.mem_of_getElem? (i := 11) rfl)) (hw _ (List.mem_of_getElem? (i := 7) rfl)) (hw _ (List.mem_of_getElem? (i := 12) rfl)) (by decide) e22 (own_rm3 l Z a0 hw [] b1 7 A n (p3.toInt8.toInt32) F U.heap (by decide) hA hn8 (fun z => by rw [← hF]; simp only [own_fx]; rw [if_neg z]; simp [own_fl]) D) (by rw [hml]; rfl) own_pd2 rfl (W := 0) (Nat.le_of_eq rfl) (by decide) (by decide) (hb hby at_302) (by decide) (by decide) (pc' := 305) rfl (S := []) rfl ?_
      intro v23 T23 L23 X23 q23
      obtain ⟨rfl, X23, e23⟩ := own_pure rfl rfl X23 q23
      show own_Out p e below _ T23 (mkF m 305 #[.val (.long q1), .second, .val (.int p1), .val (.int p2), .val (.int p3), .val (.int (Int32.ofNat A)), .val (.int (Int32.ofNat n)), .val (.int (p3.toInt8.toInt32)), .val (.ref b1), .val (.long (own_w4 (F A) (F (A + 1)) (F (A + 2)) (F (A + 3)))), .second, .val (.long (own_w4 (F (A + 4)) (F ((A + 4) + 1)) (F ((A + 4) + 2)) (F ((A + 4) + 3)))), .second, .val (.int (1 : Int32)), .unset] [(.int (1 : Int32))])
      refine o_if_eq X23 hx (hb hby at_305) (pc' := 376) (pn := 308) (by decide) rfl (fun hc => ?_) (fun hc => ?_)
      · exact absurd hc (by decide)
      refine o_aload X23 hx (hb hby at_308) rfl rfl (pc' := 310) rfl ?_
      refine o_bipush X23 hx (hb hby at_310) (v := 8) rfl (pc' := 312) rfl ?_
      refine o_iload X23 hx (hb hby at_312) rfl (pc' := 314) rfl ?_
      refine o_iload X23 hx (hb hby at_314) rfl (pc' := 316) rfl ?_
      refine o_iload X23 hx (hb hby at_316) rfl (pc' := 318) rfl ?_
      refine o_callS X23 hx hZ (y := (⟨"com/example/wire_grammar/wiregrammar/model/WireOutputPutFixedPinLaw", "kept", "([BIIIB)Z"⟩ : MethodName)) (as' := [(.ref b1), (.int (8 : Int32)), (.int (Int32.ofNat A)), (.int (Int32.ofNat n)), (.int (p3.toInt8.toInt32))]) hown (hw _ (List.mem_of_getElem? (i := 10) rfl)) (hw _ (List.mem_of_getElem? (i := 11) rfl)) (hw _ (List.mem_of_getElem? (i := 7) rfl)) (hw _ (List.mem_of_getElem? (i := 12) rfl)) (by decide) e23 (own_rm3 l Z a0 hw [] b1 8 A n (p3.toInt8.toInt32) F U.heap (by decide) hA hn8 (fun z => by rw [← hF]; simp only [own_fx]; rw [if_neg z]; simp [own_fl]) D) (by rw [hml]; rfl) own_pd2 rfl (W := 0) (Nat.le_of_eq rfl) (by decide) (by decide) (hb hby at_318) (by decide) (by decide) (pc' := 321) rfl (S := []) rfl ?_
      intro v24 T24 L24 X24 q24
      obtain ⟨rfl, X24, e24⟩ := own_pure rfl rfl X24 q24
      show own_Out p e below _ T24 (mkF m 321 #[.val (.long q1), .second, .val (.int p1), .val (.int p2), .val (.int p3), .val (.int (Int32.ofNat A)), .val (.int (Int32.ofNat n)), .val (.int (p3.toInt8.toInt32)), .val (.ref b1), .val (.long (own_w4 (F A) (F (A + 1)) (F (A + 2)) (F (A + 3)))), .second, .val (.long (own_w4 (F (A + 4)) (F ((A + 4) + 1)) (F ((A + 4) + 2)) (F ((A + 4) + 3)))), .second, .val (.int (1 : Int32)), .unset] [(.int (1 : Int32))])
      refine o_if_eq X24 hx (hb hby at_321) (pc' := 376) (pn := 324) (by decide) rfl (fun hc => ?_) (fun hc => ?_)
      · exact absurd hc (by decide)
      refine o_aload X24 hx (hb hby at_324) rfl rfl (pc' := 326) rfl ?_
      refine o_bipush X24 hx (hb hby at_326) (v := 9) rfl (pc' := 328) rfl ?_
      refine o_iload X24 hx (hb hby at_328) rfl (pc' := 330) rfl ?_
      refine o_iload X24 hx (hb hby at_330) rfl (pc' := 332) rfl ?_
      refine o_iload X24 hx (hb hby at_332) rfl (pc' := 334) rfl ?_
      refine o_callS X24 hx hZ (y := (⟨"com/example/wire_grammar/wiregrammar/model/WireOutputPutFixedPinLaw", "kept", "([BIIIB)Z"⟩ : MethodName)) (as' := [(.ref b1), (.int (9 : Int32)), (.int (Int32.ofNat A)), (.int (Int32.ofNat n)), (.int (p3.toInt8.toInt32))]) hown (hw _ (List.mem_of_getElem? (i := 10) rfl)) (hw _ (List.mem_of_getElem? (i := 11) rfl)) (hw _ (List.mem_of_getElem? (i := 7) rfl)) (hw _ (List.mem_of_getElem? (i := 12) rfl)) (by decide) e24 (own_rm3 l Z a0 hw [] b1 9 A n (p3.toInt8.toInt32) F U.heap (by decide) hA hn8 (fun z => by rw [← hF]; simp only [own_fx]; rw [if_neg z]; simp [own_fl]) D) (by rw [hml]; rfl) own_pd2 rfl (W := 0) (Nat.le_of_eq rfl) (by decide) (by decide) (hb hby at_334) (by decide) (by decide) (pc' := 337) rfl (S := []) rfl ?_
      intro v25 T25 L25 X25 q25
      obtain ⟨rfl, X25, e25⟩ := own_pure rfl rfl X25 q25
      show own_Out p e below _ T25 (mkF m 337 #[.val (.long q1), .second, .val (.int p1), .val (.int p2), .val (.int p3), .val (.int (Int32.ofNat A)), .val (.int (Int32.ofNat n)), .val (.int (p3.toInt8.toInt32)), .val (.ref b1), .val (.long (own_w4 (F A) (F (A + 1)) (F (A + 2)) (F (A + 3)))), .second, .val (.long (own_w4 (F (A + 4)) (F ((A + 4) + 1)) (F ((A + 4) + 2)) (F ((A + 4) + 3)))), .second, .val (.int (1 : Int32)), .unset] [(.int (1 : Int32))])
      refine o_if_eq X25 hx (hb hby at_337) (pc' := 376) (pn := 340) (by decide) rfl (fun hc => ?_) (fun hc => ?_)
      · exact absurd hc (by decide)
      refine o_aload X25 hx (hb hby at_340) rfl rfl (pc' := 342) rfl ?_
      refine o_bipush X25 hx (hb hby at_342) (v := 10) rfl (pc' := 344) rfl ?_
      refine o_iload X25 hx (hb hby at_344) rfl (pc' := 346) rfl ?_
      refine o_iload X25 hx (hb hby at_346) rfl (pc' := 348) rfl ?_
      refine o_iload X25 hx (hb hby at_348) rfl (pc' := 350) rfl ?_
      refine o_callS X25 hx hZ (y := (⟨"com/example/wire_grammar/wiregrammar/model/WireOutputPutFixedPinLaw", "kept", "([BIIIB)Z"⟩ : MethodName)) (as' := [(.ref b1), (.int (10 : Int32)), (.int (Int32.ofNat A)), (.int (Int32.ofNat n)), (.int (p3.toInt8.toInt32))]) hown (hw _ (List.mem_of_getElem? (i := 10) rfl)) (hw _ (List.mem_of_getElem? (i := 11) rfl)) (hw _ (List.mem_of_getElem? (i := 7) rfl)) (hw _ (List.mem_of_getElem? (i := 12) rfl)) (by decide) e25 (own_rm3 l Z a0 hw [] b1 10 A n (p3.toInt8.toInt32) F U.heap (by decide) hA hn8 (fun z => by rw [← hF]; simp only [own_fx]; rw [if_neg z]; simp [own_fl]) D) (by rw [hml]; rfl) own_pd2 rfl (W := 0) (Nat.le_of_eq rfl) (by decide) (by decide) (hb hby at_350) (by decide) (by decide) (pc' := 353) rfl (S := []) rfl ?_
      intro v26 T26 L26 X26 q26
      obtain ⟨rfl, X26, e26⟩ := own_pure rfl rfl X26 q26
      show own_Out p e below _ T26 (mkF m 353 #[.val (.long q1), .second, .val (.int p1), .val (.int p2), .val (.int p3), .val (.int (Int32.ofNat A)), .val (.int (Int32.ofNat n)), .val (.int (p3.toInt8.toInt32)), .val (.ref b1), .val (.long (own_w4 (F A) (F (A + 1)) (F (A + 2)) (F (A + 3)))), .second, .val (.long (own_w4 (F (A + 4)) (F ((A + 4) + 1)) (F ((A + 4) + 2)) (F ((A + 4) + 3)))), .second, .val (.int (1 : Int32)), .unset] [(.int (1 : Int32))])
      refine o_if_eq X26 hx (hb hby at_353) (pc' := 376) (pn := 356) (by decide) rfl (fun hc => ?_) (fun hc => ?_)
      · exact absurd hc (by decide)
      refine o_aload X26 hx (hb hby at_356) rfl rfl (pc' := 358) rfl ?_
      refine o_bipush X26 hx (hb hby at_358) (v := 11) rfl (pc' := 360) rfl ?_
      refine o_iload X26 hx (hb hby at_360) rfl (pc' := 362) rfl ?_
      refine o_iload X26 hx (hb hby at_362) rfl (pc' := 364) rfl ?_
      refine o_iload X26 hx (hb hby at_364) rfl (pc' := 366) rfl ?_
      refine o_callS X26 hx hZ (y := (⟨"com/example/wire_grammar/wiregrammar/model/WireOutputPutFixedPinLaw", "kept", "([BIIIB)Z"⟩ : MethodName)) (as' := [(.ref b1), (.int (11 : Int32)), (.int (Int32.ofNat A)), (.int (Int32.ofNat n)), (.int (p3.toInt8.toInt32))]) hown (hw _ (List.mem_of_getElem? (i := 10) rfl)) (hw _ (List.mem_of_getElem? (i := 11) rfl)) (hw _ (List.mem_of_getElem? (i := 7) rfl)) (hw _ (List.mem_of_getElem? (i := 12) rfl)) (by decide) e26 (own_rm3 l Z a0 hw [] b1 11 A n (p3.toInt8.toInt32) F U.heap (by decide) hA hn8 (fun z => by rw [← hF]; simp only [own_fx]; rw [if_neg z]; simp [own_fl]) D) (by rw [hml]; rfl) own_pd2 rfl (W := 0) (Nat.le_of_eq rfl) (by decide) (by decide) (hb hby at_366) (by decide) (by decide) (pc' := 369) rfl (S := []) rfl ?_
      intro v27 T27 L27 X27 q27
      obtain ⟨rfl, X27, e27⟩ := own_pure rfl rfl X27 q27
      show own_Out p e below _ T27 (mkF m 369 #[.val (.long q1), .second, .val (.int p1), .val (.int p2), .val (.int p3), .val (.int (Int32.ofNat A)), .val (.int (Int32.ofNat n)), .val (.int (p3.toInt8.toInt32)), .val (.ref b1), .val (.long (own_w4 (F A) (F (A + 1)) (F (A + 2)) (F (A + 3)))), .second, .val (.long (own_w4 (F (A + 4)) (F ((A + 4) + 1)) (F ((A + 4) + 2)) (F ((A + 4) + 3)))), .second, .val (.int (1 : Int32)), .unset] [(.int (1 : Int32))])
      refine o_if_eq X27 hx (hb hby at_369) (pc' := 376) (pn := 372) (by decide) rfl (fun hc => ?_) (fun hc => ?_)
      · exact absurd hc (by decide)
      refine o_iconst X27 hx (hb hby at_372) (v := 1) rfl (pc' := 373) rfl ?_
      refine o_goto X27 hx (hb hby at_373) (pc' := 377) (by decide) ?_
      refine o_istore X27 hx (hb hby at_377) (Ls' := #[.val (.long q1), .second, .val (.int p1), .val (.int p2), .val (.int p3), .val (.int (Int32.ofNat A)), .val (.int (Int32.ofNat n)), .val (.int (p3.toInt8.toInt32)), .val (.ref b1), .val (.long (own_w4 (F A) (F (A + 1)) (F (A + 2)) (F (A + 3)))), .second, .val (.long (own_w4 (F (A + 4)) (F ((A + 4) + 1)) (F ((A + 4) + 2)) (F ((A + 4) + 3)))), .second, .val (.int (1 : Int32)), .val (.int (1 : Int32))]) rfl (pc' := 379) rfl ?_
      refine o_iload X27 hx (hb hby at_379) rfl (pc' := 381) rfl ?_
      refine o_if_eq X27 hx (hb hby at_381) (pc' := 393) (pn := 384) (by decide) rfl (fun hc => ?_) (fun hc => ?_)
      · exact absurd hc (by decide)
      refine o_iload X27 hx (hb hby at_384) rfl (pc' := 386) rfl ?_
      refine o_if_eq X27 hx (hb hby at_386) (pc' := 393) (pn := 389) (by decide) rfl (fun hc => ?_) (fun hc => ?_)
      · exact absurd hc (by decide)
      refine o_iconst X27 hx (hb hby at_389) (v := 1) rfl (pc' := 390) rfl ?_
      refine o_goto X27 hx (hb hby at_390) (pc' := 394) (by decide) ?_
      refine o_retN X27 hx (t := .boolean) Bd.returns hlk (by simp) (hb hby at_394) rfl ⟨rfl, N⟩ (by decide) (by decide)
    rcases hn with rfl | rfl
    · refine o_icmp_ne X15 hx (hb hby at_142) (pc' := 168) (pn := 145) (by decide) rfl (fun hc => ?_) (fun hc => ?_)
      · exact absurd rfl hc
      refine o_lload X15 hx (hb hby at_145) rfl (pc' := 147) rfl ?_
      refine o_bipush X15 hx (hb hby at_147) (v := 32) rfl (pc' := 149) rfl ?_
      refine o_lshl X15 hx (hb hby at_149) (pc' := 150) rfl ?_
      refine o_lload X15 hx (hb hby at_150) rfl (pc' := 152) rfl ?_
      refine o_lor X15 hx (hb hby at_152) (pc' := 153) rfl ?_
      refine o_lloadN X15 hx (hb hby at_153) rfl (pc' := 154) rfl ?_
      refine o_lcmp X15 hx (hb hby at_154) (pc' := 155) rfl ?_
      have e8 : (((own_w4 (F (A + 4)) (F ((A + 4) + 1)) (F ((A + 4) + 2)) (F ((A + 4) + 3))) <<< ((32 : Int32) &&& 0x3f).toInt64) ||| (own_w4 (F A) (F (A + 1)) (F (A + 2)) (F (A + 3)))) = q1 := by
        subst hF
        have h0' := own_fx_in (own_fl (p3.toInt8.toInt32) 12) A q1 (n := 8) (i := 0) (by decide)
        rw [Nat.add_zero] at h0'
        rw [h0', Nat.add_assoc A 4 1, Nat.add_assoc A 4 2, Nat.add_assoc A 4 3, own_fx_in _ _ _ (i := 1) (by decide), own_fx_in _ _ _ (i := 2) (by decide), own_fx_in _ _ _ (i := 3) (by decide), own_fx_in _ _ _ (i := 4) (by decide), own_fx_in _ _ _ (i := 4 + 1) (by decide), own_fx_in _ _ _ (i := 4 + 2) (by decide), own_fx_in _ _ _ (i := 4 + 3) (by decide)]
        exact own_eight q1
      refine o_if_ne X15 hx (hb hby at_155) (pc' := 162) (pn := 158) (by decide) rfl (fun hc => ?_) (fun hc => ?_)
      · exact absurd ((lw_eq _ _).mpr e8) hc
      refine o_iconst X15 hx (hb hby at_158) (v := 1) rfl (pc' := 159) rfl ?_
      refine o_goto X15 hx (hb hby at_159) (pc' := 163) (by decide) ?_
      refine o_istore X15 hx (hb hby at_163) (Ls' := #[.val (.long q1), .second, .val (.int p1), .val (.int p2), .val (.int p3), .val (.int (Int32.ofNat A)), .val (.int (Int32.ofNat 8)), .val (.int (p3.toInt8.toInt32)), .val (.ref b1), .val (.long (own_w4 (F A) (F (A + 1)) (F (A + 2)) (F (A + 3)))), .second, .val (.long (own_w4 (F (A + 4)) (F ((A + 4) + 1)) (F ((A + 4) + 2)) (F ((A + 4) + 3)))), .second, .val (.int (1 : Int32)), .unset]) rfl (pc' := 165) rfl ?_
      refine o_goto X15 hx (hb hby at_165) (pc' := 186) (by decide) ?_
      exact J186
    · refine o_icmp_ne X15 hx (hb hby at_142) (pc' := 168) (pn := 145) (by decide) rfl (fun hc => ?_) (fun hc => ?_)
      rotate_left
      · exact absurd hc (by decide)
      refine o_lload X15 hx (hb hby at_168) rfl (pc' := 170) rfl ?_
      refine o_lloadN X15 hx (hb hby at_170) rfl (pc' := 171) rfl ?_
      refine o_ldcL X15 hx hZ hown (hw _ (List.mem_of_getElem? (i := 13) rfl)) (hb hby at_171) (pc' := 174) rfl ?_
      refine o_land X15 hx (hb hby at_174) (pc' := 175) rfl ?_
      refine o_lcmp X15 hx (hb hby at_175) (pc' := 176) rfl ?_
      have e4 : (own_w4 (F A) (F (A + 1)) (F (A + 2)) (F (A + 3))) = (q1 &&& (4294967295 : Int64)) := by
        subst hF
        have h0' := own_fx_in (own_fl (p3.toInt8.toInt32) 12) A q1 (n := 4) (i := 0) (by decide)
        rw [Nat.add_zero] at h0'
        rw [h0', own_fx_in _ _ _ (i := 1) (by decide), own_fx_in _ _ _ (i := 2) (by decide), own_fx_in _ _ _ (i := 3) (by decide)]
        exact own_four q1
      refine o_if_ne X15 hx (hb hby at_176) (pc' := 183) (pn := 179) (by decide) rfl (fun hc => ?_) (fun hc => ?_)
      · exact absurd ((lw_eq _ _).mpr e4) hc
      refine o_iconst X15 hx (hb hby at_179) (v := 1) rfl (pc' := 180) rfl ?_
      refine o_goto X15 hx (hb hby at_180) (pc' := 184) (by decide) ?_
      refine o_istore X15 hx (hb hby at_184) (Ls' := #[.val (.long q1), .second, .val (.int p1), .val (.int p2), .val (.int p3), .val (.int (Int32.ofNat A)), .val (.int (Int32.ofNat 4)), .val (.int (p3.toInt8.toInt32)), .val (.ref b1), .val (.long (own_w4 (F A) (F (A + 1)) (F (A + 2)) (F (A + 3)))), .second, .val (.long (own_w4 (F (A + 4)) (F ((A + 4) + 1)) (F ((A + 4) + 2)) (F ((A + 4) + 3)))), .second, .val (.int (1 : Int32)), .unset]) rfl (pc' := 186) rfl ?_
      exact J186
  refine o_if_eq X0 hx (hb hby at_8) (pc' := 16) (pn := 11) (by decide) rfl (fun hc => ?_) (fun hc => ?_)
  · refine o_iconst X0 hx (hb hby at_16) (v := 4) rfl (pc' := 17) rfl ?_
    exact J17 4 (Or.inr rfl)
  · refine o_bipush X0 hx (hb hby at_11) (v := 8) rfl (pc' := 13) rfl ?_
    refine o_goto X0 hx (hb hby at_13) (pc' := 17) (by decide) ?_
    exact J17 8 (Or.inl rfl)
set_option maxRecDepth 65536 in
set_option maxHeartbeats 40000000 in
theorem own_comes {Post : Tables → Env → Array Value → State → Outcome → State → Prop} (hpost : ∀ tb e args s v u, (limb_1_1.after args s (.returned v) u = true ∧ limb_1_2.after args s (.returned v) u = true) → FrameEnd s (.returned v) u (Jvm.fieldLocs frame_1_writes args s ++ Jvm.arrayLocs frame_1_arrays args s ++ Jvm.staticLocs frame_1_statics s) 16 128 → Post tb e args s (.returned v) u) :
    ArmFor flags0 classFile x code maxLocals ret World_1 tables_1 room_1 Calls_1 rest_1 Pre_1 Post := by
  intro l hfl _ _ p e ha hc hk s m args below hf hA hF happ hP
  obtain ⟨hcalls, hrest, hpre⟩ := hP
  obtain ⟨-, -, -, hnamed, -, -, -, hat⟩ := (Spec.applies_iff hf).mp happ
  obtain ⟨hg, hn⟩ := and_e (Cond.before_iff.mp (show (Jvm.Cond.and given_1 narrow_1).before args s = true from hpre))
  obtain ⟨gc, gr0⟩ := and_e hg
  obtain ⟨g0, gr1⟩ := and_e gr0
  obtain ⟨g1, gr2⟩ := and_e gr1
  obtain ⟨g2, g3⟩ := and_e gr2
  obtain ⟨w0, w1, w2, w3, rfl⟩ : ∃ w0 w1 w2 w3 : Value, args = #[w0, w1, w2, w3] := by
    have hs : args.size = 4 := by simpa [Cond.value, given_1] using gc
    obtain ⟨L⟩ := args
    match L, hs with
    | [w0, w1, w2, w3], _ => exact ⟨w0, w1, w2, w3, rfl⟩
  have hw := fun d (hd : d ∈ tables_1) => atoms_spec (ws := Jvm.Cond.code x code maxLocals ret :: tables_1) hat d (List.mem_cons_of_mem _ hd)
  obtain ⟨i0, ei0⟩ := isL_v g0
  obtain rfl : w0 = (.long i0) := Option.some.inj ei0
  obtain ⟨i1, ei1⟩ := is_v g1
  obtain rfl : w1 = (.int i1) := Option.some.inj ei1
  obtain ⟨i2, ei2⟩ := is_v g2
  obtain rfl : w2 = (.int i2) := Option.some.inj ei2
  obtain ⟨i3, ei3⟩ := is_v g3
  obtain rfl : w3 = (.int i3) := Option.some.inj ei3
  obtain ⟨n, o, h1, h2, h3, _, L, rfl, ⟨rfl, N⟩, hq⟩ := own_rm0 l s _ hw tables_1 i0 i1 i2 i3 s.heap  p e ha hc hk s m _ below hf ((Spec.applies_iff_loose hf).mp happ).1 ⟨rfl, State.Warmed39.refl s, rfl⟩ trivial
  exact ⟨n, _, h1, h2, h3, hpost _ _ _ _ _ _ ⟨Cond.after_iff.mpr rfl, Cond.after_iff.mpr (eq_i res_at (Term.int_eval (1)) rfl)⟩ ⟨hq.1, hq.2.1, (hq.2.2.sift fun y hy => Or.inr (N y hy)).mono (by decide) (by decide)⟩⟩
theorem main_1_1 : Claimed_1_1 := own_comes fun _ _ _ _ _ _ h hF => ⟨h.1, hF⟩
theorem main_1_2 : Claimed_1_2 := own_comes fun _ _ _ _ _ _ h hF => ⟨h.2, hF⟩
end Jvm.Pilot.@@N@@
namespace Jvm.Pilot.@@N@@
open Jvm Jvm.ClassFile Sem Op Lib Jvm.Free Jvm.Stand Jvm.Pilot.@@N@@.Jvm.D
/-! MADE BY PROGRAM (witnessworld.py) out of the Statement's table words and the real class files: 9 classes; the members and pool entries that the words name. The judged class is class 1, her method 1. -/
namespace start1
open Jvm.ClassFile
def u (s : String) : CpInfo := .utf8 (stringToUtf16 s)
/-- a pool by its gaps: so many unusable entries, then the entry; so many at the end -/
def gap : Nat → List CpInfo → List CpInfo
  | 0, r => r
  | n + 1, r => .unusable :: gap n r
def poolList (es : List (Nat × CpInfo)) (last : Nat) : List CpInfo := es.foldr (fun e r => gap e.1 (e.2 :: r)) (gap last [])
def pool (es : List (Nat × CpInfo)) (last : Nat) : Array CpInfo := ⟨poolList es last⟩
def fileOf (pool : Array CpInfo) (this : Nat) (attrs : Array Attribute := #[]) (ms : Array MethodInfo := #[]) (fl : Nat := 33) (sup : Nat := 0) (ifs : Array Nat := #[]) (fds : Array FieldInfo := #[]) : ClassFile where
  minorVersion := 0
  majorVersion := 65
  constantPool := pool
  accessFlags := fl
  thisClass := this
  superClass := sup
  interfaces := ifs
  fields := fds
  methods := ms
  attributes := attrs
def plain (name : String) (sup : Option ClassId) : Class where
  name := name
  kind := .ordinary
  loader := none
  accessFlags := 33
  super := sup
  interfaces := #[]
  cf := none
  fields := #[]
  methods := #[]
  instanceTypes := #[]
  staticTypes := #[]
  resolved := #[]
  callSites := []
  init := .initialized
  statics := none
  mirror := none

def pool0 : Array CpInfo := pool [(5, u "<init>"), (0, u "()V"), (1, .class_ 10), (1, u "java/lang/Object")] 113

def k0m0 : Method := { name := "<init>", desc := "()V", sig := { parameters := [], returnType := none }, accessFlags := 1, code := none }
/-- java/lang/Object -/
def k0 : Class := { plain "java/lang/Object" none with
  accessFlags := 33
  interfaces := #[]
  cf := some (fileOf pool0 8 #[] #[{ accessFlags := 1, nameIndex := 5, descriptorIndex := 6, attributes := #[] }] 33 0 #[] #[])
  fields := #[]
  methods := #[k0m0]
  instanceTypes := #[]
  staticTypes := #[]
  resolved := Array.replicate 124 none
  statics := none }

def pool1 : Array CpInfo := pool [(2, .class_ 4), (1, u "java/lang/Object"), (0, u "<init>"), (0, u "()V"), (0, .methodref 8 9), (0, .class_ 10), (0, .nameAndType 11 12), (0, u "com/example/wire_grammar/wiregrammar/model/WireOutput"), (0, u "putFixed"), (0, u "([BIJI)V"), (0, .methodref 14 15), (0, .class_ 16), (0, .nameAndType 17 18), (0, u "com/example/wire_grammar/wiregrammar/model/WireOutputPutFixedPinLaw"), (0, u "word"), (0, u "([BI)J"), (0, .long 4294967295), (1, .methodref 14 22), (0, .nameAndType 23 24), (0, u "kept"), (0, u "([BIIIB)Z"), (0, .long 255), (3, u "law"), (0, u "(JIII)Z")] 5

def k1m0 : Method := { name := "<init>", desc := "()V", sig := { parameters := [], returnType := none }, accessFlags := 1, code := none }
def k1c1 : Code := { maxStack := 6, maxLocals := 15, code := code, exceptionTable := #[], attributes := #[] }
def k1m1 : Method := { name := "law", desc := "(JIII)Z", sig := { parameters := [.long, .int, .int, .int], returnType := some .boolean }, accessFlags := 9, code := some k1c1 }
def k1c2 : Code := { maxStack := 6, maxLocals := 2, code := method_3_code, exceptionTable := #[], attributes := #[] }
def k1m2 : Method := { name := "word", desc := "([BI)J", sig := { parameters := [(.array .byte), .int], returnType := some .long }, accessFlags := 10, code := some k1c2 }
def k1c3 : Code := { maxStack := 3, maxLocals := 5, code := method_4_code, exceptionTable := #[], attributes := #[] }
def k1m3 : Method := { name := "kept", desc := "([BIIIB)Z", sig := { parameters := [(.array .byte), .int, .int, .int, .byte], returnType := some .boolean }, accessFlags := 10, code := some k1c3 }
/-- com/example/wire_grammar/wiregrammar/model/WireOutputPutFixedPinLaw -/
def k1 : Class := { plain "com/example/wire_grammar/wiregrammar/model/WireOutputPutFixedPinLaw" (some 0) with
  accessFlags := 49
  interfaces := #[]
  cf := some (fileOf pool1 14 #[] #[{ accessFlags := 1, nameIndex := 5, descriptorIndex := 6, attributes := #[] }, { accessFlags := 9, nameIndex := 29, descriptorIndex := 30, attributes := #[] }, { accessFlags := 10, nameIndex := 17, descriptorIndex := 18, attributes := #[] }, { accessFlags := 10, nameIndex := 23, descriptorIndex := 24, attributes := #[] }] 49 2 #[] #[])
  fields := #[]
  methods := #[k1m0, k1m1, k1m2, k1m3]
  instanceTypes := #[]
  staticTypes := #[]
  resolved := Array.replicate 36 none
  statics := none }

def pool2 : Array CpInfo := pool [(2, .class_ 4), (1, u "java/lang/Object"), (0, u "<init>"), (0, u "()V"), (13, .class_ 22), (1, u "com/example/wire_grammar/wiregrammar/model/WireOutput"), (26, u "MAX_VARINT_BYTES"), (0, u "I"), (15, u "putFixed"), (0, u "([BIJI)V"), (3, .class_ 72), (0, u "com/example/wire_grammar/wiregrammar/model/WireOutput$Content")] 16

def k2m0 : Method := { name := "<init>", desc := "()V", sig := { parameters := [], returnType := none }, accessFlags := 0, code := none }
def k2c1 : Code := { maxStack := 6, maxLocals := 6, code := prog_166_method_10_code, exceptionTable := #[], attributes := #[] }
def k2m1 : Method := { name := "putFixed", desc := "([BIJI)V", sig := { parameters := [(.array .byte), .int, .long, .int], returnType := none }, accessFlags := 8, code := some k2c1 }
/-- com/example/wire_grammar/wiregrammar/model/WireOutput -/
def k2 : Class := { plain "com/example/wire_grammar/wiregrammar/model/WireOutput" (some 0) with
  accessFlags := 1056
  interfaces := #[]
  cf := some (fileOf pool2 20 #[.nestMembers #[71]] #[{ accessFlags := 0, nameIndex := 5, descriptorIndex := 6, attributes := #[] }, { accessFlags := 8, nameIndex := 66, descriptorIndex := 67, attributes := #[] }] 1056 2 #[] #[{ accessFlags := 24, nameIndex := 49, descriptorIndex := 50, attributes := #[] }])
  fields := #[{ name := "MAX_VARINT_BYTES", type := .int, accessFlags := 24, slot := 0, constantValue := 0 }]
  methods := #[k2m0, k2m1]
  instanceTypes := #[]
  staticTypes := #[.int]
  resolved := Array.replicate 89 none
  statics := none }

def pool3 : Array CpInfo := pool [(1, u "java/lang/Cloneable"), (0, .class_ 1), (0, u "java/lang/Object"), (0, .class_ 3)] 3

/-- java/lang/Cloneable -/
def k3 : Class := { plain "java/lang/Cloneable" (some 0) with
  accessFlags := 1537
  interfaces := #[]
  cf := some (fileOf pool3 2 #[] #[] 1537 4 #[] #[])
  fields := #[]
  methods := #[]
  instanceTypes := #[]
  staticTypes := #[]
  resolved := Array.replicate 8 none
  statics := none }

def pool4 : Array CpInfo := pool [(1, u "java/io/Serializable"), (0, .class_ 1), (0, u "java/lang/Object"), (0, .class_ 3)] 3

/-- java/io/Serializable -/
def k4 : Class := { plain "java/io/Serializable" (some 0) with
  accessFlags := 1537
  interfaces := #[]
  cf := some (fileOf pool4 2 #[] #[] 1537 4 #[] #[])
  fields := #[]
  methods := #[]
  instanceTypes := #[]
  staticTypes := #[]
  resolved := Array.replicate 8 none
  statics := none }

/-- the primitive byte -/
def k5 : Class := { plain "byte" none with kind := .primitive 'B', accessFlags := 0x411 }
/-- [B -/
def k6 : Class := { plain "[B" (some 0) with kind := .array 5 .byte, interfaces := #[3, 4], accessFlags := 1041 }

/-- the primitive int -/
def k7 : Class := { plain "int" none with kind := .primitive 'I', accessFlags := 0x411 }
/-- [I -/
def k8 : Class := { plain "[I" (some 0) with kind := .array 7 .int, interfaces := #[3, 4], accessFlags := 1041 }

def heap : Heap := #[]
def classes : Array Class := #[k0, k1, k2, k3, k4, k5, k6, k7, k8]
def interned : List (Array UInt16 × Addr) := []
def slotsUsed : Nat := 0
def theMethod : MethodId := ⟨1, 1⟩
def args0 : Array Value := #[.long 77, .int 1, .int 1, .int 5]
def aboutOver (below : List Frame) : State where
  vm := { classes := classes, interned := interned.toArray }
  heap := heap
  slotsUsed := slotsUsed
  threads := #[{ frames := .invoking theMethod args0 :: below }]
def below0 : List Frame := [.native { method := ⟨0, 0⟩, args := #[] }]
def about1 : State := aboutOver below0
def p0 : Program := .bare "" "" ""
def e0 : Env := launch0.env 0 0 0
theorem w_frames : about1.frames = Frame.invoking theMethod args0 :: below0 := rfl
set_option maxRecDepth 65536 in
theorem w_args : argsFit about1.vm theMethod args0 = true := by decide +kernel
set_option maxRecDepth 65536 in
theorem w_heap : heapFits about1 = true := by decide +kernel
set_option maxRecDepth 65536 in
theorem w_runnable : about1.curStatus? = some .runnable := by decide +kernel
set_option maxRecDepth 65536 in
theorem w_alone : about1.alone = true := by decide +kernel
set_option maxRecDepth 65536 in
theorem w_named : about1.methodNamed? x = some theMethod := by decide +kernel
set_option maxRecDepth 65536 in
theorem w_hears : about1.hears theMethod below0 = true := by decide +kernel
set_option maxRecDepth 65536 in
theorem w_ripe : about1.ripe theMethod args0 below0 = true := by decide +kernel
theorem w_running : about1.status = .running := rfl
set_option maxRecDepth 65536 in
theorem w_room : about1.hasRoom e0.platform room_1 = true :=
  launch0.hasRoom_least _ room_1 (by decide +kernel) (by decide +kernel) (by decide +kernel) (by decide +kernel) (by decide +kernel) (by decide +kernel)
theorem allAtoms_all (ts : List Jvm.Cond) (a : Array Jvm.Value) (st : Jvm.State) : (allAtoms ts).before a st = ts.all (fun c => c.before a st) := by
  induction ts with
  | nil => rfl
  | cons c t ih =>
    show (Jvm.Cond.and c (allAtoms t)).before a st = _
    rw [Jvm.Cond.before_and, ih, List.all_cons]
def words1 : List Jvm.Cond := Jvm.Cond.code x code maxLocals ret :: tables_1
/-- a 'code' word, met by the world's own term for the bytes: nothing is compared byte by byte -/
theorem code_word {y : MethodName} {bytes : ByteArray} {mx : Nat} {rt : Option FieldType} {a : Array Value} {s : State} {m : MethodId} {meth : Method} {c : Code} (h1 : s.methodNamed? y = some m) (h2 : s.vm.method? m = some meth) (h3 : meth.code = some c) (h4 : c.code = bytes)
    (h5 : (c.maxLocals == mx && c.exceptionTable.isEmpty && decide (c.maxStack ≤ mostOperands) && decide (meth.sig.returnType = rt) && !meth.locks && decide (parseMethodDescriptor y.desc = some meth.sig)) = true) : (Jvm.Cond.code y bytes mx rt).before a s = true := by
  simp only [Bool.and_eq_true, beq_iff_eq, Bool.not_eq_true', decide_eq_true_eq] at h5
  obtain ⟨⟨⟨⟨⟨g1, g2⟩, g3⟩, g4⟩, g5⟩, g6⟩ := h5
  simp [Cond.before, Cond.holds, Cond.value, h1, h2, h3, h4, g1, g2, g3, g4, g5, g6]
def isCode : Jvm.Cond → Bool
  | .code _ _ _ _ => true
  | _ => false
theorem all_split {L : List Jvm.Cond} {P : Jvm.Cond → Bool} (h1 : L.all (fun c => isCode c || P c) = true) (h2 : ∀ c ∈ L.filter isCode, P c = true) : L.all P = true := by
  refine List.all_eq_true.mpr fun c hc => ?_
  have h := List.all_eq_true.mp h1 c hc
  rcases Bool.eq_false_or_eq_true (isCode c) with hi | hi
  · exact h2 c (List.mem_filter.mpr ⟨hc, hi⟩)
  · simpa [hi] using h
set_option maxRecDepth 65536 in
theorem w_c0 : (Jvm.Cond.code x code maxLocals ret).before args0 about1 = true := code_word (m := ⟨1, 1⟩) (meth := k1m1) (c := k1c1) (by decide +kernel) rfl rfl rfl (by decide +kernel)
set_option maxRecDepth 65536 in
theorem w_c1 : (Jvm.Cond.code ({ cls := "com/example/wire_grammar/wiregrammar/model/WireOutput", name := "putFixed", desc := "([BIJI)V" } : Jvm.MethodName) prog_166_method_10_code (6 : Nat) (Option.none : Option Jvm.ClassFile.FieldType)).before args0 about1 = true := code_word (m := ⟨2, 1⟩) (meth := k2m1) (c := k2c1) (by decide +kernel) rfl rfl rfl (by decide +kernel)
set_option maxRecDepth 65536 in
theorem w_c2 : (Jvm.Cond.code ({ cls := "com/example/wire_grammar/wiregrammar/model/WireOutputPutFixedPinLaw", name := "word", desc := "([BI)J" } : Jvm.MethodName) method_3_code (2 : Nat) (Option.some Jvm.ClassFile.FieldType.long)).before args0 about1 = true := code_word (m := ⟨1, 2⟩) (meth := k1m2) (c := k1c2) (by decide +kernel) rfl rfl rfl (by decide +kernel)
set_option maxRecDepth 65536 in
theorem w_c3 : (Jvm.Cond.code ({ cls := "com/example/wire_grammar/wiregrammar/model/WireOutputPutFixedPinLaw", name := "kept", desc := "([BIIIB)Z" } : Jvm.MethodName) method_4_code (5 : Nat) (Option.some Jvm.ClassFile.FieldType.boolean)).before args0 about1 = true := code_word (m := ⟨1, 3⟩) (meth := k1m3) (c := k1c3) (by decide +kernel) rfl rfl rfl (by decide +kernel)
def codes1 : List Jvm.Cond := [Jvm.Cond.code x code maxLocals ret, Jvm.Cond.code ({ cls := "com/example/wire_grammar/wiregrammar/model/WireOutput", name := "putFixed", desc := "([BIJI)V" } : Jvm.MethodName) prog_166_method_10_code (6 : Nat) (Option.none : Option Jvm.ClassFile.FieldType), Jvm.Cond.code ({ cls := "com/example/wire_grammar/wiregrammar/model/WireOutputPutFixedPinLaw", name := "word", desc := "([BI)J" } : Jvm.MethodName) method_3_code (2 : Nat) (Option.some Jvm.ClassFile.FieldType.long), Jvm.Cond.code ({ cls := "com/example/wire_grammar/wiregrammar/model/WireOutputPutFixedPinLaw", name := "kept", desc := "([BIIIB)Z" } : Jvm.MethodName) method_4_code (5 : Nat) (Option.some Jvm.ClassFile.FieldType.boolean)]
set_option maxRecDepth 65536 in
theorem codes_eq : words1.filter isCode = codes1 := rfl
theorem w_codes : ∀ c ∈ words1.filter isCode, c.before args0 about1 = true := by
  rw [codes_eq]
  intro c hc
  simp only [codes1, List.mem_cons, List.not_mem_nil, or_false] at hc
  rcases hc with rfl | rfl | rfl | rfl
  · exact w_c0
  · exact w_c1
  · exact w_c2
  · exact w_c3
set_option maxRecDepth 65536 in
theorem w_t1 : words1.all (fun c => isCode c || c.before args0 about1) = true := by decide +kernel
theorem w_tables : (allAtoms (Jvm.Cond.code x code maxLocals ret :: tables_1)).before args0 about1 = true := by
  rw [allAtoms_all]
  show words1.all (fun c => c.before args0 about1) = true
  refine all_split ?_ w_codes
  rw [w_t1]
set_option maxRecDepth 65536 in
theorem w_case : (Jvm.Cond.and given_1 narrow_1).before args0 about1 = true := by decide +kernel
theorem w_applies : (headSpec (Jvm.Cond.code x code maxLocals ret :: tables_1) room_1).applies x e0.platform about1 = true :=
  (Spec.applies_iff w_frames).mpr ⟨w_running, w_runnable, w_alone, w_named, w_hears, w_ripe, w_room, w_tables⟩
theorem atStart : AtStart classFile x code maxLocals ret World_1 tables_1 room_1 Calls_1 rest_1 Pre_1 launch0 p0 e0 about1 theMethod args0 below0 :=
  ⟨lists_1, trivial, launch0.admits_env _ _ _, launch0.least_env, fairChoices_fair.cas, fairChoices_fair.clock, w_frames, w_args, w_heap, w_applies, trivial, trivial, w_case⟩
end start1
theorem witness_1 : WitnessClaimed_1 := ⟨start1.p0, start1.e0, start1.about1, start1.theMethod, start1.args0, start1.below0, start1.atStart⟩
end Jvm.Pilot.@@N@@
