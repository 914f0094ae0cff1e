import JvmDerived
import JvmDerived.Pilot.@@N@@Statement
import JvmDerived.Pilot.@@N@@Code
set_option linter.unusedVariables false
set_option linter.unusedSimpArgs false
namespace Jvm.Pilot.@@N@@
open Jvm Jvm.ClassFile Sem Op Lib Jvm.Free Jvm.Stand Jvm.LawKit Jvm.RoadKit Bundle Jvm.Pilot.@@N@@.Jvm.D
def own_Out (p : Program) (e : Env) (below : List Frame) (P : Outcome → State → Prop) (T : State) (g : JFrame) : Prop :=
  ∃ s₂ o, Steps p.tables e below (T.setTop g) s₂ ∧ s₂.status = .running ∧ Ended s₂ below o ∧ P o s₂
abbrev own_P (s : State) (Q : Option Value → Heap → List Loc → Prop) (k n : Nat) : Outcome → State → Prop := fun o U' => ∃ v L, o = .returned v ∧ Q v U'.heap L ∧ FrameEnd s o U' L k n
/-- the value r comes back, nothing is written -/
def own_Pure (r : Value) (h0 : Heap) (v : Option Value) (h : Heap) (L : List Loc) : Prop := v = some r ∧ L = [] ∧ h = h0
def own_b (q : Prop) [Decidable q] : Int32 := if q then 1 else 0
theorem own_bt {q : Prop} [Decidable q] (h : q) : own_b q = 1 := if_pos h
theorem own_bf {q : Prop} [Decidable q] (h : ¬ q) : own_b q = 0 := if_neg h
theorem own_b01 {q : Prop} [Decidable q] : own_b q = 1 ∨ own_b q = 0 := by by_cases h : q <;> simp [own_b, h]
section OwnKit
variable {p : Program} {l : Launch} {e : Env} {R : Room} {s : State} {m : MethodId} {args : Array Value} {below : List Frame} {meth : Method} {c : Code} {T T' : State} {locs : List Loc} {cells slots : Nat} {P : Outcome → State → Prop} {pc pc' : Nat} {Ls Ls' : Array Slot} {S : List Value} {g g' : JFrame} {Z : State} {a0 : Array Value} {h : Heap} {Q : Option Value → Heap → List Loc → Prop} {kc kn : Nat}
theorem own_by (st : ∀ t, Steps p.tables e below (T'.setTop g') t → Steps p.tables e below (T.setTop g) t) (h : own_Out p e below P T' g') : own_Out p e below P T g := by
  obtain ⟨s₂, o, h1, h2⟩ := h
  exact ⟨s₂, o, st _ h1, h2⟩
theorem own_go (st : Steps p.tables e below (T.setTop g) (T'.setTop g')) (h : own_Out p e below P T' g') : own_Out p e below P T g := by
  obtain ⟨s₂, o, h1, h2⟩ := h
  exact ⟨s₂, o, st.trans h1, h2⟩
theorem o_aloadN (X : Stand p l e R s m args below meth c T locs cells slots) (hx : p.tables.exec = Jvm.exec) {k' : Fin 4} {v : Value} (hd : decode c.code pc = .ok (.aload_n k', 1)) (hl : Ls[k'.val]? = some (.val v)) (hv : v.isRef = true) (hp : pc + 1 = pc')
    (k : own_Out p e below P T (mkF m pc' Ls (v :: S))) : own_Out p e below P T (mkF m pc Ls (S)) := by
  subst hp
  exact own_by (fun _ => XS.aloadN X.here hx rfl hd hl hv) k
theorem o_aload (X : Stand p l e R s m args below meth c T locs cells slots) (hx : p.tables.exec = Jvm.exec) {k' : Nat} {v : Value} (hd : decode c.code pc = .ok (.aload k', 2)) (hl : Ls[k']? = some (.val v)) (hv : v.isRef = true) (hp : pc + 2 = pc')
    (k : own_Out p e below P T (mkF m pc' Ls (v :: S))) : own_Out p e below P T (mkF m pc Ls (S)) := by
  subst hp
  exact own_by (fun _ => XS.aload X.here hx rfl hd hl hv) k
theorem o_iloadN (X : Stand p l e R s m args below meth c T locs cells slots) (hx : p.tables.exec = Jvm.exec) {k' : Fin 4} {v : Int32} (hd : decode c.code pc = .ok (.iload_n k', 1)) (hl : Ls[k'.val]? = some (.val (.int v))) (hp : pc + 1 = pc')
    (k : own_Out p e below P T (mkF m pc' Ls (.int v :: S))) : own_Out p e below P T (mkF m pc Ls (S)) := by
  subst hp
  exact own_by (fun _ => XS.iloadN X.here hx rfl hd hl) k
theorem o_iload (X : Stand p l e R s m args below meth c T locs cells slots) (hx : p.tables.exec = Jvm.exec) {k' : Nat} {v : Int32} (hd : decode c.code pc = .ok (.iload k', 2)) (hl : Ls[k']? = some (.val (.int v))) (hp : pc + 2 = pc')
    (k : own_Out p e below P T (mkF m pc' Ls (.int v :: S))) : own_Out p e below P T (mkF m pc Ls (S)) := by
  subst hp
  exact own_by (fun _ => XS.iload X.here hx rfl hd hl) k
theorem o_lloadN (X : Stand p l e R s m args below meth c T locs cells slots) (hx : p.tables.exec = Jvm.exec) {k' : Fin 4} {v : Int64} (hd : decode c.code pc = .ok (.lload_n k', 1)) (hl : Ls[k'.val]? = some (.val (.long v))) (hp : pc + 1 = pc')
    (k : own_Out p e below P T (mkF m pc' Ls (.long v :: S))) : own_Out p e below P T (mkF m pc Ls (S)) := by
  subst hp
  exact own_by (fun _ => XS.lloadN X.here hx rfl hd hl) k
theorem o_lload (X : Stand p l e R s m args below meth c T locs cells slots) (hx : p.tables.exec = Jvm.exec) {k' : Nat} {v : Int64} (hd : decode c.code pc = .ok (.lload k', 2)) (hl : Ls[k']? = some (.val (.long v))) (hp : pc + 2 = pc')
    (k : own_Out p e below P T (mkF m pc' Ls (.long v :: S))) : own_Out p e below P T (mkF m pc Ls (S)) := by
  subst hp
  exact own_by (fun _ => XS.lload X.here hx rfl hd hl) k
theorem o_istoreN (X : Stand p l e R s m args below meth c T locs cells slots) (hx : p.tables.exec = Jvm.exec) {k' : Fin 4} {x : Int32} (hd : decode c.code pc = .ok (.istore_n k', 1)) (hl : storeLocals Ls k'.val (.int x) = some Ls') (hp : pc + 1 = pc')
    (k : own_Out p e below P T (mkF m pc' Ls' (S))) : own_Out p e below P T (mkF m pc Ls (.int x :: S)) := by
  subst hp
  exact own_by (fun _ => XS.istoreN X.here hx rfl hd rfl hl) k
theorem o_istore (X : Stand p l e R s m args below meth c T locs cells slots) (hx : p.tables.exec = Jvm.exec) {k' : Nat} {x : Int32} (hd : decode c.code pc = .ok (.istore k', 2)) (hl : storeLocals Ls k' (.int x) = some Ls') (hp : pc + 2 = pc')
    (k : own_Out p e below P T (mkF m pc' Ls' (S))) : own_Out p e below P T (mkF m pc Ls (.int x :: S)) := by
  subst hp
  exact own_by (fun _ => XS.istore X.here hx rfl hd rfl hl) k
theorem o_lstoreN (X : Stand p l e R s m args below meth c T locs cells slots) (hx : p.tables.exec = Jvm.exec) {k' : Fin 4} {x : Int64} (hd : decode c.code pc = .ok (.lstore_n k', 1)) (hl : storeLocals Ls k'.val (.long x) = some Ls') (hp : pc + 1 = pc')
    (k : own_Out p e below P T (mkF m pc' Ls' (S))) : own_Out p e below P T (mkF m pc Ls (.long x :: S)) := by
  subst hp
  exact own_by (fun _ => XS.lstoreN X.here hx rfl hd rfl hl) k
theorem o_lstore (X : Stand p l e R s m args below meth c T locs cells slots) (hx : p.tables.exec = Jvm.exec) {k' : Nat} {x : Int64} (hd : decode c.code pc = .ok (.lstore k', 2)) (hl : storeLocals Ls k' (.long x) = some Ls') (hp : pc + 2 = pc')
    (k : own_Out p e below P T (mkF m pc' Ls' (S))) : own_Out p e below P T (mkF m pc Ls (.long x :: S)) := by
  subst hp
  exact own_by (fun _ => XS.lstore X.here hx rfl hd rfl hl) k
theorem o_astoreN (X : Stand p l e R s m args below meth c T locs cells slots) (hx : p.tables.exec = Jvm.exec) {k' : Fin 4} {x : Value} (hd : decode c.code pc = .ok (.astore_n k', 1)) (hv : x.isRef = true) (hl : storeLocals Ls k'.val x = some Ls') (hp : pc + 1 = pc')
    (k : own_Out p e below P T (mkF m pc' Ls' (S))) : own_Out p e below P T (mkF m pc Ls (x :: S)) := by
  subst hp
  exact own_by (fun _ => XS.astoreN X.here hx rfl hd rfl hv hl) k
theorem o_astore (X : Stand p l e R s m args below meth c T locs cells slots) (hx : p.tables.exec = Jvm.exec) {k' : Nat} {x : Value} (hd : decode c.code pc = .ok (.astore k', 2)) (hv : x.isRef = true) (hl : storeLocals Ls k' x = some Ls') (hp : pc + 2 = pc')
    (k : own_Out p e below P T (mkF m pc' Ls' (S))) : own_Out p e below P T (mkF m pc Ls (x :: S)) := by
  subst hp
  exact own_by (fun _ => XS.astore X.here hx rfl hd rfl hv hl) k
theorem o_iconst (X : Stand p l e R s m args below meth c T locs cells slots) (hx : p.tables.exec = Jvm.exec) {i : Int} {v : Int32} (hd : decode c.code pc = .ok (.iconst i, 1)) (hv : Int32.ofInt i = v) (hp : pc + 1 = pc')
    (k : own_Out p e below P T (mkF m pc' Ls (.int v :: S))) : own_Out p e below P T (mkF m pc Ls (S)) := by
  subst hp
  subst hv
  exact own_by (fun _ => XS.iconst X.here hx rfl hd) k
theorem o_bipush (X : Stand p l e R s m args below meth c T locs cells slots) (hx : p.tables.exec = Jvm.exec) {i : Int} {v : Int32} (hd : decode c.code pc = .ok (.bipush i, 2)) (hv : (Int8.ofInt i).toInt32 = v) (hp : pc + 2 = pc')
    (k : own_Out p e below P T (mkF m pc' Ls (.int v :: S))) : own_Out p e below P T (mkF m pc Ls (S)) := by
  subst hp
  subst hv
  exact own_by (fun _ => XS.bipush X.here hx rfl hd) k
theorem o_sipush (X : Stand p l e R s m args below meth c T locs cells slots) (hx : p.tables.exec = Jvm.exec) {i : Int} {v : Int32} (hd : decode c.code pc = .ok (.sipush i, 3)) (hv : (Int16.ofInt i).toInt32 = v) (hp : pc + 3 = pc')
    (k : own_Out p e below P T (mkF m pc' Ls (.int v :: S))) : own_Out p e below P T (mkF m pc Ls (S)) := by
  subst hp
  subst hv
  exact own_by (fun _ => XS.sipush X.here hx rfl hd) k
theorem o_lconst (X : Stand p l e R s m args below meth c T locs cells slots) (hx : p.tables.exec = Jvm.exec) {i : Fin 2} {v : Int64} (hd : decode c.code pc = .ok (.lconst i, 1)) (hv : Int64.ofNat i = v) (hp : pc + 1 = pc')
    (k : own_Out p e below P T (mkF m pc' Ls (.long v :: S))) : own_Out p e below P T (mkF m pc Ls (S)) := by
  subst hp
  subst hv
  exact own_by (fun _ => XS.lconst X.here hx rfl hd) k
theorem o_aconst_null (X : Stand p l e R s m args below meth c T locs cells slots) (hx : p.tables.exec = Jvm.exec) (hd : decode c.code pc = .ok (.aconst_null, 1)) (hp : pc + 1 = pc')
    (k : own_Out p e below P T (mkF m pc' Ls (.null :: S))) : own_Out p e below P T (mkF m pc Ls (S)) := by
  subst hp
  exact own_by (fun _ => XS.aconstNull X.here hx rfl hd) k
theorem o_iadd (X : Stand p l e R s m args below meth c T locs cells slots) (hx : p.tables.exec = Jvm.exec) {x y : Int32} (hd : decode c.code pc = .ok (.iadd, 1)) (hp : pc + 1 = pc')
    (k : own_Out p e below P T (mkF m pc' Ls (.int (x + y) :: S))) : own_Out p e below P T (mkF m pc Ls (.int y :: .int x :: S)) := by
  subst hp
  exact own_by (fun _ => XS.iadd X.here hx rfl hd rfl) k
theorem o_isub (X : Stand p l e R s m args below meth c T locs cells slots) (hx : p.tables.exec = Jvm.exec) {x y : Int32} (hd : decode c.code pc = .ok (.isub, 1)) (hp : pc + 1 = pc')
    (k : own_Out p e below P T (mkF m pc' Ls (.int (x - y) :: S))) : own_Out p e below P T (mkF m pc Ls (.int y :: .int x :: S)) := by
  subst hp
  exact own_by (fun _ => XS.isub X.here hx rfl hd rfl) k
theorem o_imul (X : Stand p l e R s m args below meth c T locs cells slots) (hx : p.tables.exec = Jvm.exec) {x y : Int32} (hd : decode c.code pc = .ok (.imul, 1)) (hp : pc + 1 = pc')
    (k : own_Out p e below P T (mkF m pc' Ls (.int (x * y) :: S))) : own_Out p e below P T (mkF m pc Ls (.int y :: .int x :: S)) := by
  subst hp
  exact own_by (fun _ => XS.imul X.here hx rfl hd rfl) k
theorem o_iand (X : Stand p l e R s m args below meth c T locs cells slots) (hx : p.tables.exec = Jvm.exec) {x y : Int32} (hd : decode c.code pc = .ok (.iand, 1)) (hp : pc + 1 = pc')
    (k : own_Out p e below P T (mkF m pc' Ls (.int (x &&& y) :: S))) : own_Out p e below P T (mkF m pc Ls (.int y :: .int x :: S)) := by
  subst hp
  exact own_by (fun _ => XS.iand X.here hx rfl hd rfl) k
theorem o_ior (X : Stand p l e R s m args below meth c T locs cells slots) (hx : p.tables.exec = Jvm.exec) {x y : Int32} (hd : decode c.code pc = .ok (.ior, 1)) (hp : pc + 1 = pc')
    (k : own_Out p e below P T (mkF m pc' Ls (.int (x ||| y) :: S))) : own_Out p e below P T (mkF m pc Ls (.int y :: .int x :: S)) := by
  subst hp
  exact own_by (fun _ => XS.ior X.here hx rfl hd rfl) k
theorem o_ixor (X : Stand p l e R s m args below meth c T locs cells slots) (hx : p.tables.exec = Jvm.exec) {x y : Int32} (hd : decode c.code pc = .ok (.ixor, 1)) (hp : pc + 1 = pc')
    (k : own_Out p e below P T (mkF m pc' Ls (.int (x ^^^ y) :: S))) : own_Out p e below P T (mkF m pc Ls (.int y :: .int x :: S)) := by
  subst hp
  exact own_by (fun _ => XS.ixor X.here hx rfl hd rfl) k
theorem o_ladd (X : Stand p l e R s m args below meth c T locs cells slots) (hx : p.tables.exec = Jvm.exec) {x y : Int64} (hd : decode c.code pc = .ok (.ladd, 1)) (hp : pc + 1 = pc')
    (k : own_Out p e below P T (mkF m pc' Ls (.long (x + y) :: S))) : own_Out p e below P T (mkF m pc Ls (.long y :: .long x :: S)) := by
  subst hp
  exact own_by (fun _ => XS.ladd X.here hx rfl hd rfl) k
theorem o_lsub (X : Stand p l e R s m args below meth c T locs cells slots) (hx : p.tables.exec = Jvm.exec) {x y : Int64} (hd : decode c.code pc = .ok (.lsub, 1)) (hp : pc + 1 = pc')
    (k : own_Out p e below P T (mkF m pc' Ls (.long (x - y) :: S))) : own_Out p e below P T (mkF m pc Ls (.long y :: .long x :: S)) := by
  subst hp
  exact own_by (fun _ => XS.lsub X.here hx rfl hd rfl) k
theorem o_lmul (X : Stand p l e R s m args below meth c T locs cells slots) (hx : p.tables.exec = Jvm.exec) {x y : Int64} (hd : decode c.code pc = .ok (.lmul, 1)) (hp : pc + 1 = pc')
    (k : own_Out p e below P T (mkF m pc' Ls (.long (x * y) :: S))) : own_Out p e below P T (mkF m pc Ls (.long y :: .long x :: S)) := by
  subst hp
  exact own_by (fun _ => XS.lmul X.here hx rfl hd rfl) k
theorem o_land (X : Stand p l e R s m args below meth c T locs cells slots) (hx : p.tables.exec = Jvm.exec) {x y : Int64} (hd : decode c.code pc = .ok (.land, 1)) (hp : pc + 1 = pc')
    (k : own_Out p e below P T (mkF m pc' Ls (.long (x &&& y) :: S))) : own_Out p e below P T (mkF m pc Ls (.long y :: .long x :: S)) := by
  subst hp
  exact own_by (fun _ => XS.land X.here hx rfl hd rfl) k
theorem o_lor (X : Stand p l e R s m args below meth c T locs cells slots) (hx : p.tables.exec = Jvm.exec) {x y : Int64} (hd : decode c.code pc = .ok (.lor, 1)) (hp : pc + 1 = pc')
    (k : own_Out p e below P T (mkF m pc' Ls (.long (x ||| y) :: S))) : own_Out p e below P T (mkF m pc Ls (.long y :: .long x :: S)) := by
  subst hp
  exact own_by (fun _ => XS.lor X.here hx rfl hd rfl) k
theorem o_lxor (X : Stand p l e R s m args below meth c T locs cells slots) (hx : p.tables.exec = Jvm.exec) {x y : Int64} (hd : decode c.code pc = .ok (.lxor, 1)) (hp : pc + 1 = pc')
    (k : own_Out p e below P T (mkF m pc' Ls (.long (x ^^^ y) :: S))) : own_Out p e below P T (mkF m pc Ls (.long y :: .long x :: S)) := by
  subst hp
  exact own_by (fun _ => XS.lxor X.here hx rfl hd rfl) k
theorem o_ishl (X : Stand p l e R s m args below meth c T locs cells slots) (hx : p.tables.exec = Jvm.exec) {x y : Int32} (hd : decode c.code pc = .ok (.ishl, 1)) (hp : pc + 1 = pc')
    (k : own_Out p e below P T (mkF m pc' Ls (.int (x <<< (y &&& 31)) :: S))) : own_Out p e below P T (mkF m pc Ls (.int y :: .int x :: S)) := by
  subst hp
  exact own_by (fun _ => XS.ishl X.here hx rfl hd rfl) k
theorem o_iushr (X : Stand p l e R s m args below meth c T locs cells slots) (hx : p.tables.exec = Jvm.exec) {x y : Int32} (hd : decode c.code pc = .ok (.iushr, 1)) (hp : pc + 1 = pc')
    (k : own_Out p e below P T (mkF m pc' Ls (.int ((x.toUInt32 >>> (y &&& 31).toUInt32).toInt32) :: S))) : own_Out p e below P T (mkF m pc Ls (.int y :: .int x :: S)) := by
  subst hp
  exact own_by (fun _ => XS.iushr X.here hx rfl hd rfl) k
theorem o_lshl (X : Stand p l e R s m args below meth c T locs cells slots) (hx : p.tables.exec = Jvm.exec) {x : Int64} {y : Int32} (hd : decode c.code pc = .ok (.lshl, 1)) (hp : pc + 1 = pc')
    (k : own_Out p e below P T (mkF m pc' Ls (.long (x <<< (y &&& 0x3f).toInt64) :: S))) : own_Out p e below P T (mkF m pc Ls (.int y :: .long x :: S)) := by
  subst hp
  exact own_by (fun _ => XS.lshl X.here hx rfl hd rfl) k
theorem o_lushr (X : Stand p l e R s m args below meth c T locs cells slots) (hx : p.tables.exec = Jvm.exec) {x : Int64} {y : Int32} (hd : decode c.code pc = .ok (.lushr, 1)) (hp : pc + 1 = pc')
    (k : own_Out p e below P T (mkF m pc' Ls (.long ((x.toUInt64 >>> (y &&& 0x3f).toInt64.toUInt64).toInt64) :: S))) : own_Out p e below P T (mkF m pc Ls (.int y :: .long x :: S)) := by
  subst hp
  exact own_by (fun _ => XS.lushr X.here hx rfl hd rfl) k
theorem o_ldiv (X : Stand p l e R s m args below meth c T locs cells slots) (hx : p.tables.exec = Jvm.exec) {x y : Int64} (hd : decode c.code pc = .ok (.ldiv, 1)) (hy : y ≠ 0) (hp : pc + 1 = pc')
    (k : own_Out p e below P T (mkF m pc' Ls (.long (x / y) :: S))) : own_Out p e below P T (mkF m pc Ls (.long y :: .long x :: S)) := by
  subst hp
  exact own_by (fun _ => XS.ldiv X.here hx rfl hd rfl hy) k
theorem o_irem (X : Stand p l e R s m args below meth c T locs cells slots) (hx : p.tables.exec = Jvm.exec) {x y : Int32} (hd : decode c.code pc = .ok (.irem, 1)) (hy : y ≠ 0) (hp : pc + 1 = pc')
    (k : own_Out p e below P T (mkF m pc' Ls (.int (x % y) :: S))) : own_Out p e below P T (mkF m pc Ls (.int y :: .int x :: S)) := by
  subst hp
  exact own_by (fun _ => iremM X hx rfl hd rfl hy) k
theorem o_i2b (X : Stand p l e R s m args below meth c T locs cells slots) (hx : p.tables.exec = Jvm.exec) {v : Int32} (hd : decode c.code pc = .ok (.i2b, 1)) (hp : pc + 1 = pc')
    (k : own_Out p e below P T (mkF m pc' Ls (.int (v.toInt8.toInt32) :: S))) : own_Out p e below P T (mkF m pc Ls (.int v :: S)) := by
  subst hp
  exact own_by (fun _ => XS.i2b X.here hx rfl hd rfl) k
theorem o_i2c (X : Stand p l e R s m args below meth c T locs cells slots) (hx : p.tables.exec = Jvm.exec) {v : Int32} (hd : decode c.code pc = .ok (.i2c, 1)) (hp : pc + 1 = pc')
    (k : own_Out p e below P T (mkF m pc' Ls (.int (v.toUInt32.toUInt16.toUInt32.toInt32) :: S))) : own_Out p e below P T (mkF m pc Ls (.int v :: S)) := by
  subst hp
  exact own_by (fun _ => XS.i2c X.here hx rfl hd rfl) k
theorem o_i2s (X : Stand p l e R s m args below meth c T locs cells slots) (hx : p.tables.exec = Jvm.exec) {v : Int32} (hd : decode c.code pc = .ok (.i2s, 1)) (hp : pc + 1 = pc')
    (k : own_Out p e below P T (mkF m pc' Ls (.int (v.toInt16.toInt32) :: S))) : own_Out p e below P T (mkF m pc Ls (.int v :: S)) := by
  subst hp
  exact own_by (fun _ => XS.i2s X.here hx rfl hd rfl) k
theorem o_i2l (X : Stand p l e R s m args below meth c T locs cells slots) (hx : p.tables.exec = Jvm.exec) {v : Int32} (hd : decode c.code pc = .ok (.i2l, 1)) (hp : pc + 1 = pc')
    (k : own_Out p e below P T (mkF m pc' Ls (.long (v.toInt64) :: S))) : own_Out p e below P T (mkF m pc Ls (.int v :: S)) := by
  subst hp
  exact own_by (fun _ => XS.i2l X.here hx rfl hd rfl) k
theorem o_l2i (X : Stand p l e R s m args below meth c T locs cells slots) (hx : p.tables.exec = Jvm.exec) {v : Int64} (hd : decode c.code pc = .ok (.l2i, 1)) (hp : pc + 1 = pc')
    (k : own_Out p e below P T (mkF m pc' Ls (.int (v.toInt32) :: S))) : own_Out p e below P T (mkF m pc Ls (.long v :: S)) := by
  subst hp
  exact own_by (fun _ => XS.l2i X.here hx rfl hd rfl) k
theorem o_lcmp (X : Stand p l e R s m args below meth c T locs cells slots) (hx : p.tables.exec = Jvm.exec) {x y : Int64} (hd : decode c.code pc = .ok (.lcmp, 1)) (hp : pc + 1 = pc')
    (k : own_Out p e below P T (mkF m pc' Ls (.int (lcmpW x y) :: S))) : own_Out p e below P T (mkF m pc Ls (.long y :: .long x :: S)) := by
  subst hp
  exact own_by (fun _ => XS.lcmp X.here hx rfl hd rfl) k
theorem o_dup (X : Stand p l e R s m args below meth c T locs cells slots) (hx : p.tables.exec = Jvm.exec) {x : Value} (hd : decode c.code pc = .ok (.dup, 1)) (hc : x.category = 1) (hp : pc + 1 = pc')
    (k : own_Out p e below P T (mkF m pc' Ls (x :: x :: S))) : own_Out p e below P T (mkF m pc Ls (x :: S)) := by
  subst hp
  exact own_by (fun _ => XS.dup X.here hx rfl hd rfl hc) k
theorem o_pop (X : Stand p l e R s m args below meth c T locs cells slots) (hx : p.tables.exec = Jvm.exec) {x : Value} (hd : decode c.code pc = .ok (.pop, 1)) (hc : x.category = 1) (hp : pc + 1 = pc')
    (k : own_Out p e below P T (mkF m pc' Ls (S))) : own_Out p e below P T (mkF m pc Ls (x :: S)) := by
  subst hp
  exact own_by (fun _ => XS.pop X.here hx rfl hd rfl hc) k
theorem o_dup_x1 (X : Stand p l e R s m args below meth c T locs cells slots) (hx : p.tables.exec = Jvm.exec) {x y : Value} (hd : decode c.code pc = .ok (.dup_x1, 1)) (hc : x.category = 1) (hc2 : y.category = 1) (hp : pc + 1 = pc')
    (k : own_Out p e below P T (mkF m pc' Ls (x :: y :: x :: S))) : own_Out p e below P T (mkF m pc Ls (x :: y :: S)) := by
  subst hp
  exact own_by (fun _ => XS.dupX1 X.here hx rfl hd rfl hc hc2) k
theorem o_iinc (X : Stand p l e R s m args below meth c T locs cells slots) (hx : p.tables.exec = Jvm.exec) {k' : Nat} {cst : Int} {x y : Int32} (hd : decode c.code pc = .ok (.iinc k' cst, 3)) (hl : Ls[k']? = some (.val (.int x))) (hy : x + Int32.ofInt cst = y) (hl' : storeLocals Ls k' (.int y) = some Ls') (hp : pc + 3 = pc')
    (k : own_Out p e below P T (mkF m pc' Ls' (S))) : own_Out p e below P T (mkF m pc Ls (S)) := by
  subst hp
  subst hy
  exact own_by (fun _ => XS.iinc X.here hx rfl hd hl hl') k
theorem o_goto (X : Stand p l e R s m args below meth c T locs cells slots) (hx : p.tables.exec = Jvm.exec) {o : Int} (hd : decode c.code pc = .ok (.goto o, 3)) (ho : (pc : Int) + o = (pc' : Int))
    (k : own_Out p e below P T (mkF m pc' Ls (S))) : own_Out p e below P T (mkF m pc Ls (S)) :=
  own_by (fun _ => XS.goto X.here hx rfl (pc0 := pc) (pc' := pc') rfl hd (by omega) (by omega)) k
theorem o_icmp_lt (X : Stand p l e R s m args below meth c T locs cells slots) (hx : p.tables.exec = Jvm.exec) {x y : Int32} {o : Int} {pn : Nat} (hd : decode c.code pc = .ok (.if_icmp .lt o, 3)) (ho : (pc : Int) + o = (pc' : Int)) (hp : pc + 3 = pn)
    (kY : x < y → own_Out p e below P T (mkF m pc' Ls (S))) (kN : ¬ (x < y) → own_Out p e below P T (mkF m pn Ls (S))) : own_Out p e below P T (mkF m pc Ls (.int y :: .int x :: S)) := by
  subst hp
  by_cases q : x < y
  · exact own_by (fun _ => XS.icmpYes X.here hx rfl (pc0 := pc) (pc' := pc') rfl hd rfl (tlt q).1 (by omega) (by omega)) (kY q)
  · exact own_by (fun _ => XS.icmpNo X.here hx rfl hd rfl (flt q).1) (kN q)
theorem o_if_lt (X : Stand p l e R s m args below meth c T locs cells slots) (hx : p.tables.exec = Jvm.exec) {x : Int32} {o : Int} {pn : Nat} (hd : decode c.code pc = .ok (.ifCond .lt o, 3)) (ho : (pc : Int) + o = (pc' : Int)) (hp : pc + 3 = pn)
    (kY : x < 0 → own_Out p e below P T (mkF m pc' Ls (S))) (kN : ¬ (x < 0) → own_Out p e below P T (mkF m pn Ls (S))) : own_Out p e below P T (mkF m pc Ls (.int x :: S)) := by
  subst hp
  by_cases q : x < 0
  · exact own_by (fun _ => XS.ifYes X.here hx rfl (pc0 := pc) (pc' := pc') rfl hd rfl ((if0 _ _).trans (tlt q).1) (by omega) (by omega)) (kY q)
  · exact own_by (fun _ => XS.ifNo X.here hx rfl hd rfl ((if0 _ _).trans (flt q).1)) (kN q)
theorem o_icmp_ge (X : Stand p l e R s m args below meth c T locs cells slots) (hx : p.tables.exec = Jvm.exec) {x y : Int32} {o : Int} {pn : Nat} (hd : decode c.code pc = .ok (.if_icmp .ge o, 3)) (ho : (pc : Int) + o = (pc' : Int)) (hp : pc + 3 = pn)
    (kY : ¬ (x < y) → own_Out p e below P T (mkF m pc' Ls (S))) (kN : x < y → own_Out p e below P T (mkF m pn Ls (S))) : own_Out p e below P T (mkF m pc Ls (.int y :: .int x :: S)) := by
  subst hp
  by_cases q : x < y
  · exact own_by (fun _ => XS.icmpNo X.here hx rfl hd rfl (tlt q).2.1) (kN q)
  · exact own_by (fun _ => XS.icmpYes X.here hx rfl (pc0 := pc) (pc' := pc') rfl hd rfl (flt q).2.1 (by omega) (by omega)) (kY q)
theorem o_if_ge (X : Stand p l e R s m args below meth c T locs cells slots) (hx : p.tables.exec = Jvm.exec) {x : Int32} {o : Int} {pn : Nat} (hd : decode c.code pc = .ok (.ifCond .ge o, 3)) (ho : (pc : Int) + o = (pc' : Int)) (hp : pc + 3 = pn)
    (kY : ¬ (x < 0) → own_Out p e below P T (mkF m pc' Ls (S))) (kN : x < 0 → own_Out p e below P T (mkF m pn Ls (S))) : own_Out p e below P T (mkF m pc Ls (.int x :: S)) := by
  subst hp
  by_cases q : x < 0
  · exact own_by (fun _ => XS.ifNo X.here hx rfl hd rfl ((if0 _ _).trans (tlt q).2.1)) (kN q)
  · exact own_by (fun _ => XS.ifYes X.here hx rfl (pc0 := pc) (pc' := pc') rfl hd rfl ((if0 _ _).trans (flt q).2.1) (by omega) (by omega)) (kY q)
theorem o_icmp_gt (X : Stand p l e R s m args below meth c T locs cells slots) (hx : p.tables.exec = Jvm.exec) {x y : Int32} {o : Int} {pn : Nat} (hd : decode c.code pc = .ok (.if_icmp .gt o, 3)) (ho : (pc : Int) + o = (pc' : Int)) (hp : pc + 3 = pn)
    (kY : y < x → own_Out p e below P T (mkF m pc' Ls (S))) (kN : ¬ (y < x) → own_Out p e below P T (mkF m pn Ls (S))) : own_Out p e below P T (mkF m pc Ls (.int y :: .int x :: S)) := by
  subst hp
  by_cases q : y < x
  · exact own_by (fun _ => XS.icmpYes X.here hx rfl (pc0 := pc) (pc' := pc') rfl hd rfl (tlt q).2.2.1 (by omega) (by omega)) (kY q)
  · exact own_by (fun _ => XS.icmpNo X.here hx rfl hd rfl (flt q).2.2.1) (kN q)
theorem o_if_gt (X : Stand p l e R s m args below meth c T locs cells slots) (hx : p.tables.exec = Jvm.exec) {x : Int32} {o : Int} {pn : Nat} (hd : decode c.code pc = .ok (.ifCond .gt o, 3)) (ho : (pc : Int) + o = (pc' : Int)) (hp : pc + 3 = pn)
    (kY : 0 < x → own_Out p e below P T (mkF m pc' Ls (S))) (kN : ¬ (0 < x) → own_Out p e below P T (mkF m pn Ls (S))) : own_Out p e below P T (mkF m pc Ls (.int x :: S)) := by
  subst hp
  by_cases q : 0 < x
  · exact own_by (fun _ => XS.ifYes X.here hx rfl (pc0 := pc) (pc' := pc') rfl hd rfl ((if0 _ _).trans (tlt q).2.2.1) (by omega) (by omega)) (kY q)
  · exact own_by (fun _ => XS.ifNo X.here hx rfl hd rfl ((if0 _ _).trans (flt q).2.2.1)) (kN q)
theorem o_icmp_le (X : Stand p l e R s m args below meth c T locs cells slots) (hx : p.tables.exec = Jvm.exec) {x y : Int32} {o : Int} {pn : Nat} (hd : decode c.code pc = .ok (.if_icmp .le o, 3)) (ho : (pc : Int) + o = (pc' : Int)) (hp : pc + 3 = pn)
    (kY : ¬ (y < x) → own_Out p e below P T (mkF m pc' Ls (S))) (kN : y < x → own_Out p e below P T (mkF m pn Ls (S))) : own_Out p e below P T (mkF m pc Ls (.int y :: .int x :: S)) := by
  subst hp
  by_cases q : y < x
  · exact own_by (fun _ => XS.icmpNo X.here hx rfl hd rfl (tlt q).2.2.2) (kN q)
  · exact own_by (fun _ => XS.icmpYes X.here hx rfl (pc0 := pc) (pc' := pc') rfl hd rfl (flt q).2.2.2 (by omega) (by omega)) (kY q)
theorem o_if_le (X : Stand p l e R s m args below meth c T locs cells slots) (hx : p.tables.exec = Jvm.exec) {x : Int32} {o : Int} {pn : Nat} (hd : decode c.code pc = .ok (.ifCond .le o, 3)) (ho : (pc : Int) + o = (pc' : Int)) (hp : pc + 3 = pn)
    (kY : ¬ (0 < x) → own_Out p e below P T (mkF m pc' Ls (S))) (kN : 0 < x → own_Out p e below P T (mkF m pn Ls (S))) : own_Out p e below P T (mkF m pc Ls (.int x :: S)) := by
  subst hp
  by_cases q : 0 < x
  · exact own_by (fun _ => XS.ifNo X.here hx rfl hd rfl ((if0 _ _).trans (tlt q).2.2.2)) (kN q)
  · exact own_by (fun _ => XS.ifYes X.here hx rfl (pc0 := pc) (pc' := pc') rfl hd rfl ((if0 _ _).trans (flt q).2.2.2) (by omega) (by omega)) (kY q)
theorem o_icmp_eq (X : Stand p l e R s m args below meth c T locs cells slots) (hx : p.tables.exec = Jvm.exec) {x y : Int32} {o : Int} {pn : Nat} (hd : decode c.code pc = .ok (.if_icmp .eq o, 3)) (ho : (pc : Int) + o = (pc' : Int)) (hp : pc + 3 = pn)
    (kY : x = y → own_Out p e below P T (mkF m pc' Ls (S))) (kN : ¬ (x = y) → own_Out p e below P T (mkF m pn Ls (S))) : own_Out p e below P T (mkF m pc Ls (.int y :: .int x :: S)) := by
  subst hp
  by_cases q : x = y
  · exact own_by (fun _ => XS.icmpYes X.here hx rfl (pc0 := pc) (pc' := pc') rfl hd rfl (teq q).1 (by omega) (by omega)) (kY q)
  · exact own_by (fun _ => XS.icmpNo X.here hx rfl hd rfl (feq q).1) (kN q)
theorem o_if_eq (X : Stand p l e R s m args below meth c T locs cells slots) (hx : p.tables.exec = Jvm.exec) {x : Int32} {o : Int} {pn : Nat} (hd : decode c.code pc = .ok (.ifCond .eq o, 3)) (ho : (pc : Int) + o = (pc' : Int)) (hp : pc + 3 = pn)
    (kY : x = 0 → own_Out p e below P T (mkF m pc' Ls (S))) (kN : ¬ (x = 0) → own_Out p e below P T (mkF m pn Ls (S))) : own_Out p e below P T (mkF m pc Ls (.int x :: S)) := by
  subst hp
  by_cases q : x = 0
  · exact own_by (fun _ => XS.ifYes X.here hx rfl (pc0 := pc) (pc' := pc') rfl hd rfl ((if0 _ _).trans (teq q).1) (by omega) (by omega)) (kY q)
  · exact own_by (fun _ => XS.ifNo X.here hx rfl hd rfl ((if0 _ _).trans (feq q).1)) (kN q)
theorem o_icmp_ne (X : Stand p l e R s m args below meth c T locs cells slots) (hx : p.tables.exec = Jvm.exec) {x y : Int32} {o : Int} {pn : Nat} (hd : decode c.code pc = .ok (.if_icmp .ne o, 3)) (ho : (pc : Int) + o = (pc' : Int)) (hp : pc + 3 = pn)
    (kY : ¬ (x = y) → own_Out p e below P T (mkF m pc' Ls (S))) (kN : x = y → own_Out p e below P T (mkF m pn Ls (S))) : own_Out p e below P T (mkF m pc Ls (.int y :: .int x :: S)) := by
  subst hp
  by_cases q : x = y
  · exact own_by (fun _ => XS.icmpNo X.here hx rfl hd rfl (teq q).2) (kN q)
  · exact own_by (fun _ => XS.icmpYes X.here hx rfl (pc0 := pc) (pc' := pc') rfl hd rfl (feq q).2 (by omega) (by omega)) (kY q)
theorem o_if_ne (X : Stand p l e R s m args below meth c T locs cells slots) (hx : p.tables.exec = Jvm.exec) {x : Int32} {o : Int} {pn : Nat} (hd : decode c.code pc = .ok (.ifCond .ne o, 3)) (ho : (pc : Int) + o = (pc' : Int)) (hp : pc + 3 = pn)
    (kY : ¬ (x = 0) → own_Out p e below P T (mkF m pc' Ls (S))) (kN : x = 0 → own_Out p e below P T (mkF m pn Ls (S))) : own_Out p e below P T (mkF m pc Ls (.int x :: S)) := by
  subst hp
  by_cases q : x = 0
  · exact own_by (fun _ => XS.ifNo X.here hx rfl hd rfl ((if0 _ _).trans (teq q).2)) (kN q)
  · exact own_by (fun _ => XS.ifYes X.here hx rfl (pc0 := pc) (pc' := pc') rfl hd rfl ((if0 _ _).trans (feq q).2) (by omega) (by omega)) (kY q)
theorem o_acmp_eq (X : Stand p l e R s m args below meth c T locs cells slots) (hx : p.tables.exec = Jvm.exec) {a b : Addr} {o : Int} {pn : Nat} (hd : decode c.code pc = .ok (.if_acmp .eq o, 3)) (ho : (pc : Int) + o = (pc' : Int)) (hp : pc + 3 = pn)
    (kY : a = b → own_Out p e below P T (mkF m pc' Ls (S))) (kN : ¬ a = b → own_Out p e below P T (mkF m pn Ls (S))) : own_Out p e below P T (mkF m pc Ls (.ref b :: .ref a :: S)) := by
  subst hp
  by_cases q : a = b
  · exact own_by (fun _ => XS.acmpYes X.here hx rfl (pc0 := pc) (pc' := pc') rfl hd rfl (by simp [if_acmp.holds, q]) (by omega) (by omega)) (kY q)
  · exact own_by (fun _ => XS.acmpNo X.here hx rfl hd rfl (by simp [if_acmp.holds, q])) (kN q)
theorem o_acmp_ne (X : Stand p l e R s m args below meth c T locs cells slots) (hx : p.tables.exec = Jvm.exec) {a b : Addr} {o : Int} {pn : Nat} (hd : decode c.code pc = .ok (.if_acmp .ne o, 3)) (ho : (pc : Int) + o = (pc' : Int)) (hp : pc + 3 = pn)
    (kY : ¬ a = b → own_Out p e below P T (mkF m pc' Ls (S))) (kN : a = b → own_Out p e below P T (mkF m pn Ls (S))) : own_Out p e below P T (mkF m pc Ls (.ref b :: .ref a :: S)) := by
  subst hp
  by_cases q : a = b
  · exact own_by (fun _ => XS.acmpNo X.here hx rfl hd rfl (by simp [if_acmp.holds, q])) (kN q)
  · exact own_by (fun _ => XS.acmpYes X.here hx rfl (pc0 := pc) (pc' := pc') rfl hd rfl (by simp [if_acmp.holds, q]) (by omega) (by omega)) (kY q)
theorem o_ifnullY (X : Stand p l e R s m args below meth c T locs cells slots) (hx : p.tables.exec = Jvm.exec) {o : Int} (hd : decode c.code pc = .ok (.ifnull o, 3)) (ho : (pc : Int) + o = (pc' : Int)) (k : own_Out p e below P T (mkF m pc' Ls (S))) : own_Out p e below P T (mkF m pc Ls (.null :: S)) :=
  own_by (fun _ => XS.ifnullYes X.here hx rfl (pc0 := pc) (pc' := pc') rfl hd rfl (by omega) (by omega)) k
theorem o_ifnullN (X : Stand p l e R s m args below meth c T locs cells slots) (hx : p.tables.exec = Jvm.exec) {o : Int} {b : Addr} (hd : decode c.code pc = .ok (.ifnull o, 3)) (hp : pc + 3 = pc') (k : own_Out p e below P T (mkF m pc' Ls (S))) : own_Out p e below P T (mkF m pc Ls (.ref b :: S)) := by
  subst hp
  exact own_by (fun _ => XS.ifnullNo X.here hx rfl hd rfl) k
theorem o_ldcI (X : Stand p l e R s m args below meth c T locs cells slots) (hx : p.tables.exec = Jvm.exec) (hZ : Z.Warmed39 s.vm) {own : String} {index : Nat} {v : Int32} (hown : s.vm.findClass own = some m.cls) (w : (Cond.constant own index v).before a0 Z = true) (hd : decode c.code pc = .ok (.ldc index, 2)) (hp : pc + 2 = pc') (k : own_Out p e below P T (mkF m pc' Ls (.int v :: S))) : own_Out p e below P T (mkF m pc Ls (S)) := by
  subst hp
  exact own_by (X.ldcInt hx hown (mvT hZ w) (g := mkF m pc Ls S) rfl hd) k
theorem o_ldcL (X : Stand p l e R s m args below meth c T locs cells slots) (hx : p.tables.exec = Jvm.exec) (hZ : Z.Warmed39 s.vm) {own : String} {index : Nat} {v : Int64} (hown : s.vm.findClass own = some m.cls) (w : (Cond.constantLong own index v).before a0 Z = true) (hd : decode c.code pc = .ok (.ldc2_w index, 3)) (hp : pc + 3 = pc') (k : own_Out p e below P T (mkF m pc' Ls (.long v :: S))) : own_Out p e below P T (mkF m pc Ls (S)) := by
  subst hp
  exact own_by (X.ldc2Long hx hown (mvT hZ w) (g := mkF m pc Ls S) rfl hd) k
theorem o_retN (X : Stand p l e R s m args below meth c T locs cells slots) (hx : p.tables.exec = Jvm.exec) {z v : Int32} {t : FieldType} (hret : meth.sig.returnType = some t) (hlk : meth.locks = false) (ht : t = .boolean ∨ t = .byte ∨ t = .char ∨ t = .short) (hd : decode c.code pc = .ok (.ireturn, 1)) (hz : nar t z = v) (hQ : Q (some (.int v)) T.heap locs) (h1 : cells ≤ kc) (h2 : slots ≤ kn) : own_Out p e below (own_P s Q kc kn) T (mkF m pc Ls (.int z :: S)) := by
  subst hz
  obtain ⟨fs, hr, hrun, hended, hW, hsame⟩ := X.leave (v := some (.int (nar t z))) (fun h => by rw [hret] at h; cases h) hlk
  exact ⟨_, _, retN X hx hret ht hd hr, hrun, hended, _, _, rfl, hQ, ⟨_, rfl⟩, hW, hsame.mono h1 h2⟩
theorem o_retW (X : Stand p l e R s m args below meth c T locs cells slots) (hx : p.tables.exec = Jvm.exec) {w : Value} {t : FieldType} {i : Instr} (hret : meth.sig.returnType = some t) (hlk : meth.locks = false) (hn : narrow t w = w) (hi : (i = .ireturn ∧ (t = .int ∨ t = .boolean ∨ t = .byte ∨ t = .char ∨ t = .short) ∧ ∃ z, w = .int z) ∨ (i = .lreturn ∧ t = .long ∧ ∃ z, w = .long z) ∨ (i = .dreturn ∧ t = .double ∧ ∃ z, w = .double z) ∨ (i = .freturn ∧ t = .float ∧ ∃ z, w = .float z) ∨ (i = .areturn ∧ t.isReference = true ∧ w.isRef = true)) (hd : decode c.code pc = .ok (i, 1)) (hQ : Q (some w) T.heap locs) (h1 : cells ≤ kc) (h2 : slots ≤ kn) : own_Out p e below (own_P s Q kc kn) T (mkF m pc Ls (w :: S)) := by
  obtain ⟨fs, hr, hrun, hended, hW, hsame⟩ := X.leave (v := some w) (fun h => by rw [hret] at h; cases h) hlk
  exact ⟨_, _, retOut X hx hret hn hi hd hr, hrun, hended, _, _, rfl, hQ, ⟨_, rfl⟩, hW, hsame.mono h1 h2⟩
theorem o_retI (X : Stand p l e R s m args below meth c T locs cells slots) (hx : p.tables.exec = Jvm.exec) {z : Int32} (hret : meth.sig.returnType = some .int) (hlk : meth.locks = false) (hd : decode c.code pc = .ok (.ireturn, 1)) (hQ : Q (some (.int z)) T.heap locs) (h1 : cells ≤ kc) (h2 : slots ≤ kn) : own_Out p e below (own_P s Q kc kn) T (mkF m pc Ls (.int z :: S)) :=
  o_retW X hx hret hlk rfl (Or.inl ⟨rfl, Or.inl rfl, _, rfl⟩) hd hQ h1 h2
theorem o_retJ (X : Stand p l e R s m args below meth c T locs cells slots) (hx : p.tables.exec = Jvm.exec) {z : Int64} (hret : meth.sig.returnType = some .long) (hlk : meth.locks = false) (hd : decode c.code pc = .ok (.lreturn, 1)) (hQ : Q (some (.long z)) T.heap locs) (h1 : cells ≤ kc) (h2 : slots ≤ kn) : own_Out p e below (own_P s Q kc kn) T (mkF m pc Ls (.long z :: S)) :=
  o_retW X hx hret hlk rfl (Or.inr (Or.inl ⟨rfl, rfl, _, rfl⟩)) hd hQ h1 h2
theorem o_retA (X : Stand p l e R s m args below meth c T locs cells slots) (hx : p.tables.exec = Jvm.exec) {w : Value} {t : FieldType} (hret : meth.sig.returnType = some t) (hlk : meth.locks = false) (ht : t.isReference = true) (hw : w.isRef = true) (hn : narrow t w = w) (hd : decode c.code pc = .ok (.areturn, 1)) (hQ : Q (some w) T.heap locs) (h1 : cells ≤ kc) (h2 : slots ≤ kn) : own_Out p e below (own_P s Q kc kn) T (mkF m pc Ls (w :: S)) :=
  o_retW X hx hret hlk hn (Or.inr (Or.inr (Or.inr (Or.inr ⟨rfl, ht, hw⟩)))) hd hQ h1 h2
theorem o_retV (X : Stand p l e R s m args below meth c T locs cells slots) (hx : p.tables.exec = Jvm.exec) (hret : meth.sig.returnType = none) (hlk : meth.locks = false) (hd : decode c.code pc = .ok (.return_, 1)) (hQ : Q none T.heap locs) (h1 : cells ≤ kc) (h2 : slots ≤ kn) : own_Out p e below (own_P s Q kc kn) T (mkF m pc Ls ([])) := by
  obtain ⟨fs, hr, hrun, hended, hW, hsame⟩ := X.leave (v := none) (fun _ => rfl) hlk
  exact ⟨_, _, X.returnOut hx hret hd hr, hrun, hended, _, _, rfl, hQ, ⟨_, rfl⟩, hW, hsame.mono h1 h2⟩
theorem o_getF (X : Stand p l e R s m args below meth c T locs cells slots) (hx : p.tables.exec = Jvm.exec) (hZ : Z.Warmed39 s.vm) {own O n d : String} {index : Nat} (hown : s.vm.findClass own = some m.cls) (w : (Cond.fieldLink own index O n d).before a0 Z = true) (eT : T.heap = h) {a : Addr} {v : Value} (F : Fld Z h a O n d v) (hd : decode c.code pc = .ok (.getfield index, 3)) (hp : pc + 3 = pc')
    (k : ∀ T', Stand p l e R s m args below meth c T' locs cells slots → T'.heap = h → own_Out p e below P T' (mkF m pc' Ls (v :: S))) : own_Out p e below P T (mkF m pc Ls (.ref a :: S)) := by
  subst hp
  obtain ⟨T1, X1, e1, st⟩ := getF X hx hZ hown (host := "") (Or.inl w) Via.refl eT F (g := mkF m pc Ls (.ref a :: S)) rfl rfl hd
  exact own_by st (k T1 X1 e1)
theorem o_getS (X : Stand p l e R s m args below meth c T locs cells slots) (hx : p.tables.exec = Jvm.exec) (hZ : Z.Warmed39 s.vm) {own O n d : String} {index : Nat} (hown : s.vm.findClass own = some m.cls) (w : (Cond.fieldLink own index O n d).before a0 Z = true) (eT : T.heap = h) {v : Value} (F : Sta Z h O n d v) (hd : decode c.code pc = .ok (.getstatic index, 3)) (hp : pc + 3 = pc')
    (k : ∀ T', Stand p l e R s m args below meth c T' locs cells slots → T'.heap = h → own_Out p e below P T' (mkF m pc' Ls (v :: S))) : own_Out p e below P T (mkF m pc Ls (S)) := by
  subst hp
  obtain ⟨T1, X1, e1, st⟩ := getS (host := "") X hx hZ hown w Via.refl eT F (g := mkF m pc Ls S) rfl hd
  exact own_by st (k T1 X1 e1)
theorem o_putF (X : Stand p l e R s m args below meth c T locs cells slots) (hx : p.tables.exec = Jvm.exec) (hZ : Z.Warmed39 s.vm) {own O n d C : String} {index kk : Nat} {ty : FieldType} (hown : s.vm.findClass own = some m.cls) (w : (Cond.fieldLink own index O n d).before a0 Z = true) (eT : T.heap = h) {a : Addr} {v old : Value} (F : Fld Z h a O n d old) (E : Exa Z h a C) (L : (Cond.lays C O n d).before a0 Z = true ∨ ((Cond.laysFinal C O n d).before a0 Z = true ∧ own = O ∧ meth.name = "<init>")) (wi : (Cond.instantiable C kk).before a0 Z = true) (hty : parseFieldDescriptor d = some ty) (hn : narrow ty v = v) (hf : fits ty v = true) (hd : decode c.code pc = .ok (.putfield index, 3)) (hp : pc + 3 = pc')
    (k : ∀ T' h', Stand p l e R s m args below meth c T' (locs ++ [⟨a, Jvm.RoadKit.slotOf Z O n d⟩]) cells slots → T'.heap = h' → Wr h h' a (Jvm.RoadKit.slotOf Z O n d) v → own_Out p e below P T' (mkF m pc' Ls (S))) : own_Out p e below P T (mkF m pc Ls (v :: .ref a :: S)) := by
  subst hp
  obtain ⟨T1, h1, X1, e1, W1, st⟩ := putF X hx hZ hown (host := "") (Or.inl w) Via.refl eT F E L wi hty hn hf (g := mkF m pc Ls (v :: .ref a :: S)) rfl rfl hd
  exact own_by st (k T1 h1 X1 e1 W1)
theorem o_new (X : Stand p l e R s m args below meth c T locs cells slots) (hx : p.tables.exec = Jvm.exec) (hZ : Z.Warmed39 s.vm) {own C : String} {index n : Nat} (hown : s.vm.findClass own = some m.cls) (w : (Cond.classLink own index C).before a0 Z = true) (wi : (Cond.instantiable C n).before a0 Z = true) (wz : (Cond.initialized C).before a0 Z = true) (eT : T.heap = h) (hd : decode c.code pc = .ok (.new index, 3)) (hc : cells + 1 ≤ R.cells) (hl : slots + n ≤ R.slots) (hp : pc + 3 = pc')
    (k : ∀ T' h' a, Stand p l e R s m args below meth c T' locs (cells + 1) (slots + n) → T'.heap = h' → Ext h h' → a = h.size → Exa Z h' a C → (∀ {O nm d : String} {ty : FieldType}, Laid Z a0 C O nm d → parseFieldDescriptor d = some ty → Fld Z h' a O nm d (defaultValue ty)) → own_Out p e below P T' (mkF m pc' Ls (.ref a :: S))) : own_Out p e below P T (mkF m pc Ls (S)) := by
  subst hp
  obtain ⟨T1, h1, X1, e1, E1, A1, D1, -, st⟩ := newO X hx hZ hown w wi wz eT (g := mkF m pc Ls S) rfl hd hc hl
  exact own_by st (k T1 h1 _ X1 e1 E1 rfl A1 D1)
theorem o_newarr (X : Stand p l e R s m args below meth c T locs cells slots) (hx : p.tables.exec = Jvm.exec) (hZ : Z.Warmed39 s.vm) {aty : ArrayType} {n : Int32} (w : (Cond.arrayClass (newarray.typeOf aty)).before a0 Z = true) (eT : T.heap = h) (hd : decode c.code pc = .ok (.newarray aty, 2)) (hn : ¬ n < 0) {cap : Nat} (hcap : n.toNatClampNeg ≤ cap) (hb : cap * 8 ≤ 536870912) (hc : cells + 1 ≤ R.cells) (hl : slots + cap ≤ R.slots) (hp : pc + 2 = pc')
    (k : ∀ T' h' a cA, Stand p l e R s m args below meth c T' locs (cells + 1) (slots + cap) → T'.heap = h' → Ext h h' → a = h.size → Arr Z h' a (newA cA (newarray.typeOf aty) n) (newarray.typeOf aty) → own_Out p e below P T' (mkF m pc' Ls (.ref a :: S))) : own_Out p e below P T (mkF m pc Ls (.int n :: S)) := by
  subst hp
  obtain ⟨T1, h1, cA, X1, e1, E1, A1, st⟩ := newP X hx hZ w eT (g := mkF m pc Ls (.int n :: S)) rfl hd rfl hn hcap hb hc hl
  exact own_by st (k T1 h1 _ cA X1 e1 E1 rfl A1)
theorem o_iastore (X : Stand p l e R s m args below meth c T locs cells slots) (hx : p.tables.exec = Jvm.exec) (hZ : Z.Warmed39 s.vm) (eT : T.heap = h) {a : Addr} {cl : Cell} (A : Arr Z h a cl .int) {j x : Int32} (hj : ¬ (j < 0 ∨ cl.slots.size ≤ j.toNatClampNeg)) (hd : decode c.code pc = .ok (.iastore, 1)) (hp : pc + 1 = pc')
    (k : ∀ T' h', Stand p l e R s m args below meth c T' (locs ++ [⟨a, j.toNatClampNeg⟩]) cells slots → T'.heap = h' → Wr h h' a j.toNatClampNeg (.int x) → own_Out p e below P T' (mkF m pc' Ls (S))) : own_Out p e below P T (mkF m pc Ls (.int x :: .int j :: .ref a :: S)) := by
  subst hp
  obtain ⟨T1, h1, X1, e1, W1, st⟩ := stI X hx hZ eT A hj (g := mkF m pc Ls (.int x :: .int j :: .ref a :: S)) rfl rfl hd
  exact own_by st (k T1 h1 X1 e1 W1)
theorem o_bastore (X : Stand p l e R s m args below meth c T locs cells slots) (hx : p.tables.exec = Jvm.exec) (hZ : Z.Warmed39 s.vm) (eT : T.heap = h) {a : Addr} {cl : Cell} (A : Arr Z h a cl .byte) {j x : Int32} (hj : ¬ (j < 0 ∨ cl.slots.size ≤ j.toNatClampNeg)) (hd : decode c.code pc = .ok (.bastore, 1)) (hp : pc + 1 = pc')
    (k : ∀ T' h', Stand p l e R s m args below meth c T' (locs ++ [⟨a, j.toNatClampNeg⟩]) cells slots → T'.heap = h' → Wr h h' a j.toNatClampNeg (.int (nar .byte x)) → own_Out p e below P T' (mkF m pc' Ls (S))) : own_Out p e below P T (mkF m pc Ls (.int x :: .int j :: .ref a :: S)) := by
  subst hp
  obtain ⟨T1, h1, X1, e1, W1, st⟩ := stB X hx hZ eT A hj (g := mkF m pc Ls (.int x :: .int j :: .ref a :: S)) rfl rfl hd
  exact own_by st (k T1 h1 X1 e1 W1)
theorem o_castore (X : Stand p l e R s m args below meth c T locs cells slots) (hx : p.tables.exec = Jvm.exec) (hZ : Z.Warmed39 s.vm) (eT : T.heap = h) {a : Addr} {cl : Cell} (A : Arr Z h a cl .char) {j x : Int32} (hj : ¬ (j < 0 ∨ cl.slots.size ≤ j.toNatClampNeg)) (hd : decode c.code pc = .ok (.castore, 1)) (hp : pc + 1 = pc')
    (k : ∀ T' h', Stand p l e R s m args below meth c T' (locs ++ [⟨a, j.toNatClampNeg⟩]) cells slots → T'.heap = h' → Wr h h' a j.toNatClampNeg (.int (nar .char x)) → own_Out p e below P T' (mkF m pc' Ls (S))) : own_Out p e below P T (mkF m pc Ls (.int x :: .int j :: .ref a :: S)) := by
  subst hp
  obtain ⟨T1, h1, X1, e1, W1, st⟩ := stC X hx hZ eT A hj (g := mkF m pc Ls (.int x :: .int j :: .ref a :: S)) rfl rfl hd
  exact own_by st (k T1 h1 X1 e1 W1)
theorem o_iaload (X : Stand p l e R s m args below meth c T locs cells slots) (hx : p.tables.exec = Jvm.exec) (hZ : Z.Warmed39 s.vm) (eT : T.heap = h) {a : Addr} {cl : Cell} (A : Arr Z h a cl .int) {j : Int32} {v : Value} (hj : ¬ (j < 0 ∨ cl.slots.size ≤ j.toNatClampNeg)) (hv : cl.slots[j.toNatClampNeg]? = some v) (hd : decode c.code pc = .ok (.iaload, 1)) (hp : pc + 1 = pc')
    (k : own_Out p e below P T (mkF m pc' Ls (v :: S))) : own_Out p e below P T (mkF m pc Ls (.int j :: .ref a :: S)) := by
  subst hp
  exact own_by (fun t => X.iaload hx (by rw [eT]; exact A.1) (State.isArrayOf_alike hZ.alike A.2.1) A.2.2 hj hv (g := mkF m pc Ls (.int j :: .ref a :: S)) rfl rfl hd t) k
theorem o_baload (X : Stand p l e R s m args below meth c T locs cells slots) (hx : p.tables.exec = Jvm.exec) (hZ : Z.Warmed39 s.vm) (eT : T.heap = h) {a : Addr} {cl : Cell} (A : Arr Z h a cl .byte) {j : Int32} {v : Value} (hj : ¬ (j < 0 ∨ cl.slots.size ≤ j.toNatClampNeg)) (hv : cl.slots[j.toNatClampNeg]? = some v) (hd : decode c.code pc = .ok (.baload, 1)) (hp : pc + 1 = pc')
    (k : own_Out p e below P T (mkF m pc' Ls (v :: S))) : own_Out p e below P T (mkF m pc Ls (.int j :: .ref a :: S)) := by
  subst hp
  exact own_by (fun t => X.baloadBytes hx (by rw [eT]; exact A.1) (State.isArrayOf_alike hZ.alike A.2.1) A.2.2 hj hv (g := mkF m pc Ls (.int j :: .ref a :: S)) rfl rfl hd t) k
theorem o_arraylength (X : Stand p l e R s m args below meth c T locs cells slots) (hx : p.tables.exec = Jvm.exec) (hZ : Z.Warmed39 s.vm) (eT : T.heap = h) {a : Addr} {cl : Cell} {ty : FieldType} (A : Arr Z h a cl ty) {n : Int32} (hn : cl.slots.size.toInt32 = n) (hd : decode c.code pc = .ok (.arraylength, 1)) (hp : pc + 1 = pc')
    (k : own_Out p e below P T (mkF m pc' Ls (.int n :: S))) : own_Out p e below P T (mkF m pc Ls (.ref a :: S)) := by
  subst hp hn
  exact own_by (fun t => X.arraylength hx (by rw [eT]; exact A.1) (State.isArrayOf_alike hZ.alike A.2.1) (g := mkF m pc Ls (.ref a :: S)) rfl rfl hd t) k
theorem o_init0 (X : Stand p l e R s m args below meth c T locs cells slots) (hx : p.tables.exec = Jvm.exec) (hZ : Z.Warmed39 s.vm) {own : String} {idx : Nat} (hown : s.vm.findClass own = some m.cls) (w1 : (Cond.methodLink own idx Lib.objectInit).before a0 Z = true) (w2 : (Cond.instanceMethod Lib.objectInit).before a0 Z = true) (w3 : (Cond.code Lib.objectInit ⟨#[0xb1]⟩ 1 none).before a0 Z = true) (eT : T.heap = h) (hsize : Ls.size = c.maxLocals) {a : Addr} (hd : decode c.code pc = .ok (.invokespecial idx, 3)) (hf : 1 ≤ R.frames) {W : Nat} (hW : (S.map fun v => v.category).sum ≤ W) (hl : W + 12 ≤ R.locals) (hp : pc + 3 = pc')
    (k : ∀ T', Stand p l e R s m args below meth c T' locs cells slots → T'.heap = h → own_Out p e below P T' (mkF m pc' Ls (S))) : own_Out p e below P T (mkF m pc Ls (.ref a :: S)) := by
  subst hp
  obtain ⟨T1, X1, e1, st⟩ := initO X hx hZ hown w1 w2 w3 eT (g := mkF m pc Ls (.ref a :: S)) rfl hsize rfl hd hf (W := W) (by show 2 * 0 + _ ≤ _; omega) hl
  exact own_by st (k T1 X1 e1)
abbrev own_Met (l : Launch) (y : MethodName) (bytes : ByteArray) (maxL : Nat) (ret : Option FieldType) (ws : List Cond) (rm : Room) (Z : State) (h0 : Heap) (as' : Array Value) (Q : Option Value → Heap → List Loc → Prop) : Prop :=
  MetFree l y (head1 (Cond.code y bytes maxL ret :: ws) rm) (fun a U => a = as' ∧ Z.Warmed39 U.vm ∧ U.heap = h0) (fun _ _ _ _ _ => True) (fun _ U o U' => ∃ v L, o = .returned v ∧ Q v U'.heap L ∧ FrameEnd U o U' L rm.cells rm.slots)
theorem o_callS (X : Stand p l e R s m args below meth c T locs cells slots) (hx : p.tables.exec = Jvm.exec) (hZ : Z.Warmed39 s.vm) {own : String} {index : Nat} {y : MethodName} {bytes : ByteArray} {maxL : Nat} {ret : Option FieldType} {rm : Room} {as' : List Value} {ps : List FieldType} {r0 : Option FieldType} {S' : List Value} (hown : s.vm.findClass own = some m.cls) (w1 : (Cond.methodLink own index y).before a0 Z = true) (w2 : (Cond.static y).before a0 Z = true) (w3 : (Cond.initialized y.cls).before a0 Z = true) (w4 : (Cond.code y bytes maxL ret).before a0 Z = true) (hy : y.cls ≠ "java/lang/invoke/MethodHandle" ∧ y.cls ≠ "java/lang/invoke/VarHandle") (eT : T.heap = h) (hM : own_Met l y bytes maxL ret [] rm Z h as'.toArray Q) (hsize : Ls.size = c.maxLocals) (hpd : parseMethodDescriptor y.desc = some ⟨ps, r0⟩) (hlen : as'.length = ps.length) {W : Nat} (hW : (S.map fun v => v.category).sum ≤ W) (hf : rm.frames + 1 ≤ R.frames) (hl : W + (maxL + 11) + rm.locals ≤ R.locals) (hd : decode c.code pc = .ok (.invokestatic index, 3)) (hc : cells + rm.cells ≤ R.cells) (hs : slots + rm.slots ≤ R.slots) (hp : pc + 3 = pc') (hst : S' = as'.reverse ++ S)
    (k : ∀ v T' L, Stand p l e R s m args below meth c T' (locs ++ L) (cells + rm.cells) (slots + rm.slots) → Q v T'.heap L → own_Out p e below P T' (mkF m pc' Ls (v.toList ++ S))) : own_Out p e below P T (mkF m pc Ls S') := by
  subst hp hst
  obtain ⟨v, vm, ⟨T1, L1, k1, n1⟩, -, X1, ⟨Lc, hQ, l1, l2, l3⟩, st⟩ := Jvm.LawKit.callS X hx (y := y) hown (mvT hZ w1) (mvT hZ w2) (mvT hZ w3) (mvT hZ w4) hy (backOf (W := W) hM hZ w4 w3 hf hl) (g := mkF m pc Ls (as'.reverse ++ S)) rfl hsize (argsL := as') (rest := S) (lenOf hpd hlen) rfl (by show 2 * 0 + _ ≤ _; omega) hd (fun _ _ => ⟨rfl, eT, hc, hs⟩)
  dsimp only [Pt.U, Pt.locs, Pt.cells, Pt.slots] at X1 l1 l2 l3 st hQ
  subst l1 l2 l3
  exact own_by st (k v T1 Lc X1 hQ)
theorem o_callI (X : Stand p l e R s m args below meth c T locs cells slots) (hx : p.tables.exec = Jvm.exec) (hZ : Z.Warmed39 s.vm) {own : String} {index : Nat} {y : MethodName} {bytes : ByteArray} {maxL : Nat} {rm : Room} {as' : List Value} {ps : List FieldType} {r0 : Option FieldType} {S' : List Value} {a : Addr} (hy1 : y.name = "<init>") (hown : s.vm.findClass own = some m.cls) (w1 : (Cond.methodLink own index y).before a0 Z = true) (w2 : (Cond.instanceMethod y).before a0 Z = true) (w3 : (Cond.initialized y.cls).before a0 Z = true) (w4 : (Cond.code y bytes maxL none).before a0 Z = true) (hy : y.cls ≠ "java/lang/invoke/MethodHandle" ∧ y.cls ≠ "java/lang/invoke/VarHandle") (eT : T.heap = h) (hM : own_Met l y bytes maxL none [] rm Z h (.ref a :: as').toArray Q) (hsize : Ls.size = c.maxLocals) (hpd : parseMethodDescriptor y.desc = some ⟨ps, r0⟩) (hlen : as'.length = ps.length) {W : Nat} (hW : (S.map fun v => v.category).sum ≤ W) (hf : rm.frames + 1 ≤ R.frames) (hl : W + (maxL + 11) + rm.locals ≤ R.locals) (hd : decode c.code pc = .ok (.invokespecial index, 3)) (hc : cells + rm.cells ≤ R.cells) (hs : slots + rm.slots ≤ R.slots) (hp : pc + 3 = pc') (hst : S' = as'.reverse ++ .ref a :: S)
    (k : ∀ v T' L, Stand p l e R s m args below meth c T' (locs ++ L) (cells + rm.cells) (slots + rm.slots) → Q v T'.heap L → own_Out p e below P T' (mkF m pc' Ls (v.toList ++ S))) : own_Out p e below P T (mkF m pc Ls S') := by
  subst hp hst
  obtain ⟨v, vm, ⟨T1, L1, k1, n1⟩, -, X1, ⟨Lc, hQ, l1, l2, l3⟩, st⟩ := X.specialBack hx (y := y) hy1 hown (mvT hZ w1) (mvT hZ w2) (mvT hZ w4) hy (backOf (W := W) hM hZ w4 w3 hf hl) (g := mkF m pc Ls (as'.reverse ++ .ref a :: S)) rfl hsize (Steps.refl _) (a := a) (argsL := as') (rest := S) (lenOf hpd hlen) rfl (by show 2 * 0 + _ ≤ _; omega) hd (fun _ _ => ⟨rfl, eT, hc, hs⟩)
  dsimp only [Pt.U, Pt.locs, Pt.cells, Pt.slots] at X1 l1 l2 l3 st hQ
  subst l1 l2 l3
  exact own_go st (k v T1 Lc X1 hQ)
theorem o_callV (X : Stand p l e R s m args below meth c T locs cells slots) (hx : p.tables.exec = Jvm.exec) (hZ : Z.Warmed39 s.vm) {own : String} {index : Nat} {y : MethodName} {bytes : ByteArray} {maxL : Nat} {ret : Option FieldType} {rm : Room} {as' : List Value} {ps : List FieldType} {r0 : Option FieldType} {S' : List Value} {C : String} {b : Addr} (hown : s.vm.findClass own = some m.cls) (w1 : (Cond.methodLink own index y).before a0 Z = true) (w2 : (Cond.declares y).before a0 Z = true) (w3 : (Cond.selects C y y).before a0 Z = true) (w4 : (Cond.instanceMethod y).before a0 Z = true) (w5 : (Cond.initialized y.cls).before a0 Z = true) (w6 : (Cond.code y bytes maxL ret).before a0 Z = true) (hy : y.cls ≠ "java/lang/invoke/MethodHandle" ∧ y.cls ≠ "java/lang/invoke/VarHandle") (eT : T.heap = h) (E : Exa Z h b C) (hM : own_Met l y bytes maxL ret [] rm Z h (.ref b :: as').toArray Q) (hsize : Ls.size = c.maxLocals) (hpd : parseMethodDescriptor y.desc = some ⟨ps, r0⟩) (hlen : as'.length = ps.length) {W : Nat} (hW : (S.map fun v => v.category).sum ≤ W) (hf : rm.frames + 1 ≤ R.frames) (hl : W + (maxL + 11) + rm.locals ≤ R.locals) (hd : decode c.code pc = .ok (.invokevirtual index, 3)) (hc : cells + rm.cells ≤ R.cells) (hs : slots + rm.slots ≤ R.slots) (hp : pc + 3 = pc') (hst : S' = as'.reverse ++ .ref b :: S)
    (k : ∀ v T' L, Stand p l e R s m args below meth c T' (locs ++ L) (cells + rm.cells) (slots + rm.slots) → Q v T'.heap L → own_Out p e below P T' (mkF m pc' Ls (v.toList ++ S))) : own_Out p e below P T (mkF m pc Ls S') := by
  subst hp hst
  obtain ⟨cq, kq, q1, q2, q3⟩ := isOf hZ eT E
  obtain ⟨v, vm, ⟨T1, L1, k1, n1⟩, -, X1, ⟨Lc, hQ, l1, l2, l3⟩, st⟩ := X.virtualBack hx (y := y) (z := y) hown (mvT hZ w1) (mvT hZ w2) (notFace_of_selects (args := #[]) (mvT hZ w3)) (mvT hZ w3) (mvT hZ w4) hy (backOf (W := W) hM hZ w6 w5 hf hl) q1 q3 (g := mkF m pc Ls (as'.reverse ++ .ref b :: S)) rfl hsize (Steps.refl _) (argsL := as') (rest := S) (lenOf hpd hlen) rfl (by show 2 * 0 + _ ≤ _; omega) hd (fun _ _ => ⟨rfl, eT, hc, hs⟩)
  dsimp only [Pt.U, Pt.locs, Pt.cells, Pt.slots] at X1 l1 l2 l3 st hQ
  subst l1 l2 l3
  exact own_go st (k v T1 Lc X1 hQ)
theorem own_pure {r : Value} {h0 : Heap} {L : List Loc} {v : Option Value} (hc : kc = 0) (hn : kn = 0) (X : Stand p l e R s m args below meth c T' (locs ++ L) (cells + kc) (slots + kn)) (q : own_Pure r h0 v T'.heap L) : v = some r ∧ Stand p l e R s m args below meth c T' locs cells slots ∧ T'.heap = h0 := by
  obtain ⟨rfl, rfl, q3⟩ := q
  subst hc hn
  rw [List.append_nil] at X
  exact ⟨rfl, X, q3⟩
theorem own_in {cl : Cell} {n : Nat} {j : Int32} (q0 : cl.slots.size = n) (q : ¬ j < 0 ∧ j.toNatClampNeg < n) : ¬ (j < 0 ∨ cl.slots.size ≤ j.toNatClampNeg) := by
  rw [q0]; rintro (z | z)
  · exact q.1 z
  · exact Nat.not_le.mpr q.2 z
theorem own_r1 : nar .boolean (1 : Int32) = 1 := by decide
theorem own_r0 : nar .boolean (0 : Int32) = 0 := by decide
theorem own_b0 {q : Prop} [Decidable q] : own_b q = 0 ↔ ¬ q := by by_cases h : q <;> simp [own_b, h]
theorem own_bc {q r : Prop} [Decidable q] [Decidable r] (h : q ↔ r) : own_b q = own_b r := by
  by_cases k : q
  · rw [own_bt k, own_bt (h.mp k)]
  · rw [own_bf k, own_bf (fun z => k (h.mpr z))]
end OwnKit
theorem own_pd0 : parseMethodDescriptor "(I)Z" = some ⟨[.int], some .boolean⟩ := by decide +kernel
theorem own_law (c : Int32) : own_b (c = 9 ∨ c = 10 ∨ c = 13 ∨ (¬ c < 32 ∧ ¬ 55295 < c) ∨ (¬ c < 57344 ∧ ¬ 65533 < c) ∨ (¬ c < 65536 ∧ ¬ 1114111 < c)) = own_b ((¬ c < 0 ∧ ¬ 1114111 < c) ∧ ¬ (c < 32 ∧ ¬ c = 9 ∧ ¬ c = 10 ∧ ¬ c = 13) ∧ ¬ (¬ c < 55296 ∧ ¬ 57343 < c) ∧ ¬ (c = 65534 ∨ c = 65535)) := by
  refine own_bc ?_
  simp only [← Int32.toInt_inj, Int32.lt_iff_toInt_lt, Int32.reduceToInt]
  omega
theorem own_idx (x : Int32) : ¬ (((x.toUInt32 >>> ((1 : Int32) &&& 31).toUInt32).toInt32) % (17 : Int32)) < 0 ∧ (((x.toUInt32 >>> ((1 : Int32) &&& 31).toUInt32).toInt32) % (17 : Int32)).toNatClampNeg < 17 := by
  have hs : (x.toUInt32 >>> ((1 : Int32) &&& 31).toUInt32).toNat = x.toUInt32.toNat / 2 := by
    rw [UInt32.toNat_shiftRight]
    have h1 : (((1 : Int32) &&& 31).toUInt32).toNat = 1 := by decide
    rw [h1]; simp [Nat.shiftRight_eq_div_pow]
  generalize (x.toUInt32 >>> ((1 : Int32) &&& 31).toUInt32) = u at hs ⊢
  have hx := x.toUInt32.toNat_lt
  have h1 : u.toInt32.toInt = (u.toNat : Int) := BitVec.toInt_eq_toNat_of_lt (x := u.toBitVec) (by show 2 * u.toNat < 2 ^ 32; omega)
  have e17 : (17 : Int32).toInt = 17 := by decide
  have e0 : (0 : Int32).toInt = 0 := by decide
  rw [Int32.lt_iff_toInt_lt, Int32.toNatClampNeg, Int32.toInt_mod, h1, e17, e0, Int.tmod_eq_emod_of_nonneg (by omega)]
  omega
def own_Ints (Z : State) (h : Heap) (a : Addr) (n : Nat) : Prop := ∃ cl : Cell, Arr Z h a cl .int ∧ cl.slots.size = n ∧ ∀ j, j < n → ∃ w : Int32, cl.slots[j]? = some (.int w)
theorem own_ints_new {Z : State} {h : Heap} {a : Addr} {cA : ClassId} {n : Int32} {k : Nat} (A : Arr Z h a (newA cA .int n) .int) (hk : n.toNatClampNeg = k) : own_Ints Z h a k := by
  subst hk
  exact ⟨_, A, sz_new _ _ _, fun j hj => ⟨0, by simp [newA, hj, defaultValue]⟩⟩
section OwnMore
variable {p : Program} {l : Launch} {e : Env} {R : Room} {s : State} {m : MethodId} {args : Array Value} {below : List Frame} {meth : Method} {c : Code} {T : State} {locs : List Loc} {cells slots : Nat} {P : Outcome → State → Prop} {pc pc' : Nat} {Ls : Array Slot} {S : List Value} {Z : State} {h : Heap}
theorem own_stI (X : Stand p l e R s m args below meth c T locs cells slots) (hx : p.tables.exec = Jvm.exec) (hZ : Z.Warmed39 s.vm) (eT : T.heap = h) {a : Addr} {n k : Nat} (A : own_Ints Z h a n) (N : Fr k locs) (hk : k ≤ a) {j x : Int32} (hj : ¬ j < 0 ∧ j.toNatClampNeg < n) (hd : decode c.code pc = .ok (.iastore, 1)) (hp : pc + 1 = pc')
    (q : ∀ T' h' locs', Stand p l e R s m args below meth c T' locs' cells slots → T'.heap = h' → own_Ints Z h' a n → Fr k locs' → own_Out p e below P T' (mkF m pc' Ls S)) : own_Out p e below P T (mkF m pc Ls (.int x :: .int j :: .ref a :: S)) := by
  obtain ⟨cl, A1, A2, A3⟩ := A
  refine o_iastore X hx hZ eT A1 (j := j) (own_in A2 hj) hd hp fun T' h' X' e' W' => q T' h' _ X' e' ?_ (Fr.snoc X' N hk)
  refine ⟨_, A1.same W', by rw [sz_set]; exact A2, fun i hi => ?_⟩
  by_cases u : j.toNatClampNeg = i
  · subst u; exact ⟨x, by simp [Cell.setSlot, A2, hi]⟩
  · obtain ⟨w, hw⟩ := A3 i hi
    exact ⟨w, by simp only [Cell.setSlot]; rw [Array.getElem?_setIfInBounds_ne u]; exact hw⟩
end OwnMore
theorem own_d1_0 : decode prog_106_method_2_code 0 = .ok (.iload_n 0, 1) := by decide +kernel
theorem own_d1_1 : decode prog_106_method_2_code 1 = .ok (.bipush 9, 2) := by decide +kernel
theorem own_d1_3 : decode prog_106_method_2_code 3 = .ok (.if_icmp .eq 51, 3) := by decide +kernel
theorem own_d1_6 : decode prog_106_method_2_code 6 = .ok (.iload_n 0, 1) := by decide +kernel
theorem own_d1_7 : decode prog_106_method_2_code 7 = .ok (.bipush 10, 2) := by decide +kernel
theorem own_d1_9 : decode prog_106_method_2_code 9 = .ok (.if_icmp .eq 45, 3) := by decide +kernel
theorem own_d1_12 : decode prog_106_method_2_code 12 = .ok (.iload_n 0, 1) := by decide +kernel
theorem own_d1_13 : decode prog_106_method_2_code 13 = .ok (.bipush 13, 2) := by decide +kernel
theorem own_d1_15 : decode prog_106_method_2_code 15 = .ok (.if_icmp .eq 39, 3) := by decide +kernel
theorem own_d1_18 : decode prog_106_method_2_code 18 = .ok (.iload_n 0, 1) := by decide +kernel
theorem own_d1_19 : decode prog_106_method_2_code 19 = .ok (.bipush 32, 2) := by decide +kernel
theorem own_d1_21 : decode prog_106_method_2_code 21 = .ok (.if_icmp .lt 9, 3) := by decide +kernel
theorem own_d1_24 : decode prog_106_method_2_code 24 = .ok (.iload_n 0, 1) := by decide +kernel
theorem own_d1_25 : decode prog_106_method_2_code 25 = .ok (.ldc 7, 2) := by decide +kernel
theorem own_d1_27 : decode prog_106_method_2_code 27 = .ok (.if_icmp .le 27, 3) := by decide +kernel
theorem own_d1_30 : decode prog_106_method_2_code 30 = .ok (.iload_n 0, 1) := by decide +kernel
theorem own_d1_31 : decode prog_106_method_2_code 31 = .ok (.ldc 8, 2) := by decide +kernel
theorem own_d1_33 : decode prog_106_method_2_code 33 = .ok (.if_icmp .lt 9, 3) := by decide +kernel
theorem own_d1_36 : decode prog_106_method_2_code 36 = .ok (.iload_n 0, 1) := by decide +kernel
theorem own_d1_37 : decode prog_106_method_2_code 37 = .ok (.ldc 9, 2) := by decide +kernel
theorem own_d1_39 : decode prog_106_method_2_code 39 = .ok (.if_icmp .le 15, 3) := by decide +kernel
theorem own_d1_42 : decode prog_106_method_2_code 42 = .ok (.iload_n 0, 1) := by decide +kernel
theorem own_d1_43 : decode prog_106_method_2_code 43 = .ok (.ldc 10, 2) := by decide +kernel
theorem own_d1_45 : decode prog_106_method_2_code 45 = .ok (.if_icmp .lt 13, 3) := by decide +kernel
theorem own_d1_48 : decode prog_106_method_2_code 48 = .ok (.iload_n 0, 1) := by decide +kernel
theorem own_d1_49 : decode prog_106_method_2_code 49 = .ok (.ldc 11, 2) := by decide +kernel
theorem own_d1_51 : decode prog_106_method_2_code 51 = .ok (.if_icmp .gt 7, 3) := by decide +kernel
theorem own_d1_54 : decode prog_106_method_2_code 54 = .ok (.iconst 1, 1) := by decide +kernel
theorem own_d1_55 : decode prog_106_method_2_code 55 = .ok (.goto 4, 3) := by decide +kernel
theorem own_d1_58 : decode prog_106_method_2_code 58 = .ok (.iconst 0, 1) := by decide +kernel
theorem own_d1_59 : decode prog_106_method_2_code 59 = .ok (.ireturn, 1) := by decide +kernel
theorem own_ef1 (m : MethodId) (x0 : Int32) : entryFrame m #[(.int x0)] 1 = mkF m 0 #[.val (.int x0)] [] := by first | (simp [entryFrame, mkF, argsToLocals, Value.category]; done) | rfl
theorem own_pn1 : plainName "com/example/intact_tree/intacttree/xml/XmlChars" = true := by first | (simp [plainName, overriddenIn]; done) | decide +kernel
set_option maxRecDepth 65536 in
set_option maxHeartbeats 40000000 in
theorem own_rm1 (l : Launch) (Z : State) (a0 : Array Value) (hw : ∀ d ∈ tables_1, d.before a0 Z = true) (ws : List Jvm.Cond) (p1 : Int32) (h0 : Heap)  :
    own_Met l (⟨"com/example/intact_tree/intacttree/xml/XmlChars", "isChar", "(I)Z"⟩ : MethodName) prog_106_method_2_code 1 (some .boolean) ws ({ frames := 0, cells := 0, slots := 0, locals := 0 } : Room) Z h0 #[(.int p1)] (own_Pure (.int (own_b (p1 = 9 ∨ p1 = 10 ∨ p1 = 13 ∨ (¬ p1 < 32 ∧ ¬ 55295 < p1) ∨ (¬ p1 < 57344 ∧ ¬ 65533 < p1) ∨ (¬ p1 < 65536 ∧ ¬ 1114111 < p1)))) h0) := by
  refine MetFree.of_bodySF (plainFor_of_name own_pn1) hisR ?_
  intro p e s m args below meth c s₁ Bd hml0 hP hK
  obtain ⟨rfl, hZ, hh⟩ := hP
  have hx := Bd.exec
  have hby := Bd.bytes
  have hml : c.maxLocals = 1 := hml0
  have hlk := Bd.notSynchronized
  have hown : s.vm.findClass "com/example/intact_tree/intacttree/xml/XmlChars" = some m.cls := findClass_of_methodNamed Bd.named
  have hnm := (name_of_methodNamed Bd.named Bd.method).1
  have X0 : Stand p l e ({ frames := 0, cells := 0, slots := 0, locals := 0 } : Room) s m #[(.int p1)] below meth c s₁ [] 0 0 := Stand.of_body Bd
  have e0 : s₁.heap = h0 := by rw [← hh, Bd.state]; rfl
  show own_Out p e below (own_P s (own_Pure (.int (own_b (p1 = 9 ∨ p1 = 10 ∨ p1 = 13 ∨ (¬ p1 < 32 ∧ ¬ 55295 < p1) ∨ (¬ p1 < 57344 ∧ ¬ 65533 < p1) ∨ (¬ p1 < 65536 ∧ ¬ 1114111 < p1)))) h0) ({ frames := 0, cells := 0, slots := 0, locals := 0 } : Room).cells ({ frames := 0, cells := 0, slots := 0, locals := 0 } : Room).slots) s₁ (entryFrame m #[(.int p1)] 1)
  rw [own_ef1 m p1]
  refine o_iloadN X0 hx (hb hby own_d1_0) rfl (pc' := 1) rfl ?_
  refine o_bipush X0 hx (hb hby own_d1_1) (v := 9) rfl (pc' := 3) rfl ?_
  refine o_icmp_eq X0 hx (hb hby own_d1_3) (pc' := 54) (pn := 6) (by decide) rfl (fun hc3 => ?_) (fun hc3 => ?_)
  · refine o_iconst X0 hx (hb hby own_d1_54) (v := 1) rfl (pc' := 55) rfl ?_
    refine o_goto X0 hx (hb hby own_d1_55) (pc' := 59) (by decide) ?_
    refine o_retN X0 hx (t := .boolean) Bd.returns hlk (by simp) (hb hby own_d1_59) (v := _) ?_ ⟨rfl, rfl, e0⟩ (by decide) (by decide)
    exact own_r1.trans (own_bt (by simp [hc3])).symm
  · refine o_iloadN X0 hx (hb hby own_d1_6) rfl (pc' := 7) rfl ?_
    refine o_bipush X0 hx (hb hby own_d1_7) (v := 10) rfl (pc' := 9) rfl ?_
    refine o_icmp_eq X0 hx (hb hby own_d1_9) (pc' := 54) (pn := 12) (by decide) rfl (fun hc9 => ?_) (fun hc9 => ?_)
    · refine o_iconst X0 hx (hb hby own_d1_54) (v := 1) rfl (pc' := 55) rfl ?_
      refine o_goto X0 hx (hb hby own_d1_55) (pc' := 59) (by decide) ?_
      refine o_retN X0 hx (t := .boolean) Bd.returns hlk (by simp) (hb hby own_d1_59) (v := _) ?_ ⟨rfl, rfl, e0⟩ (by decide) (by decide)
      exact own_r1.trans (own_bt (by simp [hc3, hc9])).symm
    · refine o_iloadN X0 hx (hb hby own_d1_12) rfl (pc' := 13) rfl ?_
      refine o_bipush X0 hx (hb hby own_d1_13) (v := 13) rfl (pc' := 15) rfl ?_
      refine o_icmp_eq X0 hx (hb hby own_d1_15) (pc' := 54) (pn := 18) (by decide) rfl (fun hc15 => ?_) (fun hc15 => ?_)
      · refine o_iconst X0 hx (hb hby own_d1_54) (v := 1) rfl (pc' := 55) rfl ?_
        refine o_goto X0 hx (hb hby own_d1_55) (pc' := 59) (by decide) ?_
        refine o_retN X0 hx (t := .boolean) Bd.returns hlk (by simp) (hb hby own_d1_59) (v := _) ?_ ⟨rfl, rfl, e0⟩ (by decide) (by decide)
        exact own_r1.trans (own_bt (by simp [hc3, hc9, hc15])).symm
      · refine o_iloadN X0 hx (hb hby own_d1_18) rfl (pc' := 19) rfl ?_
        refine o_bipush X0 hx (hb hby own_d1_19) (v := 32) rfl (pc' := 21) rfl ?_
        refine o_icmp_lt X0 hx (hb hby own_d1_21) (pc' := 30) (pn := 24) (by decide) rfl (fun hc21 => ?_) (fun hc21 => ?_)
        · refine o_iloadN X0 hx (hb hby own_d1_30) rfl (pc' := 31) rfl ?_
          refine o_ldcI X0 hx hZ hown (hw _ (List.mem_of_getElem? (i := 21) rfl)) (hb hby own_d1_31) (pc' := 33) rfl ?_
          refine o_icmp_lt X0 hx (hb hby own_d1_33) (pc' := 42) (pn := 36) (by decide) rfl (fun hc33 => ?_) (fun hc33 => ?_)
          · refine o_iloadN X0 hx (hb hby own_d1_42) rfl (pc' := 43) rfl ?_
            refine o_ldcI X0 hx hZ hown (hw _ (List.mem_of_getElem? (i := 22) rfl)) (hb hby own_d1_43) (pc' := 45) rfl ?_
            refine o_icmp_lt X0 hx (hb hby own_d1_45) (pc' := 58) (pn := 48) (by decide) rfl (fun hc45 => ?_) (fun hc45 => ?_)
            · refine o_iconst X0 hx (hb hby own_d1_58) (v := 0) rfl (pc' := 59) rfl ?_
              refine o_retN X0 hx (t := .boolean) Bd.returns hlk (by simp) (hb hby own_d1_59) (v := _) ?_ ⟨rfl, rfl, e0⟩ (by decide) (by decide)
              exact own_r0.trans (own_bf (by simp [hc3, hc9, hc15, hc21, hc33, hc45])).symm
            · refine o_iloadN X0 hx (hb hby own_d1_48) rfl (pc' := 49) rfl ?_
              refine o_ldcI X0 hx hZ hown (hw _ (List.mem_of_getElem? (i := 25) rfl)) (hb hby own_d1_49) (pc' := 51) rfl ?_
              refine o_icmp_gt X0 hx (hb hby own_d1_51) (pc' := 58) (pn := 54) (by decide) rfl (fun hc51 => ?_) (fun hc51 => ?_)
              · refine o_iconst X0 hx (hb hby own_d1_58) (v := 0) rfl (pc' := 59) rfl ?_
                refine o_retN X0 hx (t := .boolean) Bd.returns hlk (by simp) (hb hby own_d1_59) (v := _) ?_ ⟨rfl, rfl, e0⟩ (by decide) (by decide)
                exact own_r0.trans (own_bf (by simp [hc3, hc9, hc15, hc21, hc33, hc45, hc51])).symm
              · refine o_iconst X0 hx (hb hby own_d1_54) (v := 1) rfl (pc' := 55) rfl ?_
                refine o_goto X0 hx (hb hby own_d1_55) (pc' := 59) (by decide) ?_
                refine o_retN X0 hx (t := .boolean) Bd.returns hlk (by simp) (hb hby own_d1_59) (v := _) ?_ ⟨rfl, rfl, e0⟩ (by decide) (by decide)
                exact own_r1.trans (own_bt (by simp [hc3, hc9, hc15, hc21, hc33, hc45, hc51])).symm
          · refine o_iloadN X0 hx (hb hby own_d1_36) rfl (pc' := 37) rfl ?_
            refine o_ldcI X0 hx hZ hown (hw _ (List.mem_of_getElem? (i := 24) rfl)) (hb hby own_d1_37) (pc' := 39) rfl ?_
            refine o_icmp_le X0 hx (hb hby own_d1_39) (pc' := 54) (pn := 42) (by decide) rfl (fun hc39 => ?_) (fun hc39 => ?_)
            · refine o_iconst X0 hx (hb hby own_d1_54) (v := 1) rfl (pc' := 55) rfl ?_
              refine o_goto X0 hx (hb hby own_d1_55) (pc' := 59) (by decide) ?_
              refine o_retN X0 hx (t := .boolean) Bd.returns hlk (by simp) (hb hby own_d1_59) (v := _) ?_ ⟨rfl, rfl, e0⟩ (by decide) (by decide)
              exact own_r1.trans (own_bt (by simp [hc3, hc9, hc15, hc21, hc33, hc39])).symm
            · refine o_iloadN X0 hx (hb hby own_d1_42) rfl (pc' := 43) rfl ?_
              refine o_ldcI X0 hx hZ hown (hw _ (List.mem_of_getElem? (i := 22) rfl)) (hb hby own_d1_43) (pc' := 45) rfl ?_
              refine o_icmp_lt X0 hx (hb hby own_d1_45) (pc' := 58) (pn := 48) (by decide) rfl (fun hc45 => ?_) (fun hc45 => ?_)
              · refine o_iconst X0 hx (hb hby own_d1_58) (v := 0) rfl (pc' := 59) rfl ?_
                refine o_retN X0 hx (t := .boolean) Bd.returns hlk (by simp) (hb hby own_d1_59) (v := _) ?_ ⟨rfl, rfl, e0⟩ (by decide) (by decide)
                exact own_r0.trans (own_bf (by simp [hc3, hc9, hc15, hc21, hc33, hc39, hc45])).symm
              · refine o_iloadN X0 hx (hb hby own_d1_48) rfl (pc' := 49) rfl ?_
                refine o_ldcI X0 hx hZ hown (hw _ (List.mem_of_getElem? (i := 25) rfl)) (hb hby own_d1_49) (pc' := 51) rfl ?_
                refine o_icmp_gt X0 hx (hb hby own_d1_51) (pc' := 58) (pn := 54) (by decide) rfl (fun hc51 => ?_) (fun hc51 => ?_)
                · refine o_iconst X0 hx (hb hby own_d1_58) (v := 0) rfl (pc' := 59) rfl ?_
                  refine o_retN X0 hx (t := .boolean) Bd.returns hlk (by simp) (hb hby own_d1_59) (v := _) ?_ ⟨rfl, rfl, e0⟩ (by decide) (by decide)
                  exact own_r0.trans (own_bf (by simp [hc3, hc9, hc15, hc21, hc33, hc39, hc45, hc51])).symm
                · refine o_iconst X0 hx (hb hby own_d1_54) (v := 1) rfl (pc' := 55) rfl ?_
                  refine o_goto X0 hx (hb hby own_d1_55) (pc' := 59) (by decide) ?_
                  refine o_retN X0 hx (t := .boolean) Bd.returns hlk (by simp) (hb hby own_d1_59) (v := _) ?_ ⟨rfl, rfl, e0⟩ (by decide) (by decide)
                  exact own_r1.trans (own_bt (by simp [hc3, hc9, hc15, hc21, hc33, hc39, hc45, hc51])).symm
        · refine o_iloadN X0 hx (hb hby own_d1_24) rfl (pc' := 25) rfl ?_
          refine o_ldcI X0 hx hZ hown (hw _ (List.mem_of_getElem? (i := 23) rfl)) (hb hby own_d1_25) (pc' := 27) rfl ?_
          refine o_icmp_le X0 hx (hb hby own_d1_27) (pc' := 54) (pn := 30) (by decide) rfl (fun hc27 => ?_) (fun hc27 => ?_)
          · refine o_iconst X0 hx (hb hby own_d1_54) (v := 1) rfl (pc' := 55) rfl ?_
            refine o_goto X0 hx (hb hby own_d1_55) (pc' := 59) (by decide) ?_
            refine o_retN X0 hx (t := .boolean) Bd.returns hlk (by simp) (hb hby own_d1_59) (v := _) ?_ ⟨rfl, rfl, e0⟩ (by decide) (by decide)
            exact own_r1.trans (own_bt (by simp [hc3, hc9, hc15, hc21, hc27])).symm
          · refine o_iloadN X0 hx (hb hby own_d1_30) rfl (pc' := 31) rfl ?_
            refine o_ldcI X0 hx hZ hown (hw _ (List.mem_of_getElem? (i := 21) rfl)) (hb hby own_d1_31) (pc' := 33) rfl ?_
            refine o_icmp_lt X0 hx (hb hby own_d1_33) (pc' := 42) (pn := 36) (by decide) rfl (fun hc33 => ?_) (fun hc33 => ?_)
            · refine o_iloadN X0 hx (hb hby own_d1_42) rfl (pc' := 43) rfl ?_
              refine o_ldcI X0 hx hZ hown (hw _ (List.mem_of_getElem? (i := 22) rfl)) (hb hby own_d1_43) (pc' := 45) rfl ?_
              refine o_icmp_lt X0 hx (hb hby own_d1_45) (pc' := 58) (pn := 48) (by decide) rfl (fun hc45 => ?_) (fun hc45 => ?_)
              · refine o_iconst X0 hx (hb hby own_d1_58) (v := 0) rfl (pc' := 59) rfl ?_
                refine o_retN X0 hx (t := .boolean) Bd.returns hlk (by simp) (hb hby own_d1_59) (v := _) ?_ ⟨rfl, rfl, e0⟩ (by decide) (by decide)
                exact own_r0.trans (own_bf (by simp [hc3, hc9, hc15, hc21, hc27, hc33, hc45])).symm
              · refine o_iloadN X0 hx (hb hby own_d1_48) rfl (pc' := 49) rfl ?_
                refine o_ldcI X0 hx hZ hown (hw _ (List.mem_of_getElem? (i := 25) rfl)) (hb hby own_d1_49) (pc' := 51) rfl ?_
                refine o_icmp_gt X0 hx (hb hby own_d1_51) (pc' := 58) (pn := 54) (by decide) rfl (fun hc51 => ?_) (fun hc51 => ?_)
                · refine o_iconst X0 hx (hb hby own_d1_58) (v := 0) rfl (pc' := 59) rfl ?_
                  refine o_retN X0 hx (t := .boolean) Bd.returns hlk (by simp) (hb hby own_d1_59) (v := _) ?_ ⟨rfl, rfl, e0⟩ (by decide) (by decide)
                  exact own_r0.trans (own_bf (by simp [hc3, hc9, hc15, hc21, hc27, hc33, hc45, hc51])).symm
                · refine o_iconst X0 hx (hb hby own_d1_54) (v := 1) rfl (pc' := 55) rfl ?_
                  refine o_goto X0 hx (hb hby own_d1_55) (pc' := 59) (by decide) ?_
                  refine o_retN X0 hx (t := .boolean) Bd.returns hlk (by simp) (hb hby own_d1_59) (v := _) ?_ ⟨rfl, rfl, e0⟩ (by decide) (by decide)
                  exact own_r1.trans (own_bt (by simp [hc3, hc9, hc15, hc21, hc27, hc33, hc45, hc51])).symm
            · refine o_iloadN X0 hx (hb hby own_d1_36) rfl (pc' := 37) rfl ?_
              refine o_ldcI X0 hx hZ hown (hw _ (List.mem_of_getElem? (i := 24) rfl)) (hb hby own_d1_37) (pc' := 39) rfl ?_
              refine o_icmp_le X0 hx (hb hby own_d1_39) (pc' := 54) (pn := 42) (by decide) rfl (fun hc39 => ?_) (fun hc39 => ?_)
              · refine o_iconst X0 hx (hb hby own_d1_54) (v := 1) rfl (pc' := 55) rfl ?_
                refine o_goto X0 hx (hb hby own_d1_55) (pc' := 59) (by decide) ?_
                refine o_retN X0 hx (t := .boolean) Bd.returns hlk (by simp) (hb hby own_d1_59) (v := _) ?_ ⟨rfl, rfl, e0⟩ (by decide) (by decide)
                exact own_r1.trans (own_bt (by simp [hc3, hc9, hc15, hc21, hc27, hc33, hc39])).symm
              · refine o_iloadN X0 hx (hb hby own_d1_42) rfl (pc' := 43) rfl ?_
                refine o_ldcI X0 hx hZ hown (hw _ (List.mem_of_getElem? (i := 22) rfl)) (hb hby own_d1_43) (pc' := 45) rfl ?_
                refine o_icmp_lt X0 hx (hb hby own_d1_45) (pc' := 58) (pn := 48) (by decide) rfl (fun hc45 => ?_) (fun hc45 => ?_)
                · refine o_iconst X0 hx (hb hby own_d1_58) (v := 0) rfl (pc' := 59) rfl ?_
                  refine o_retN X0 hx (t := .boolean) Bd.returns hlk (by simp) (hb hby own_d1_59) (v := _) ?_ ⟨rfl, rfl, e0⟩ (by decide) (by decide)
                  exact own_r0.trans (own_bf (by simp [hc3, hc9, hc15, hc21, hc27, hc33, hc39, hc45])).symm
                · refine o_iloadN X0 hx (hb hby own_d1_48) rfl (pc' := 49) rfl ?_
                  refine o_ldcI X0 hx hZ hown (hw _ (List.mem_of_getElem? (i := 25) rfl)) (hb hby own_d1_49) (pc' := 51) rfl ?_
                  refine o_icmp_gt X0 hx (hb hby own_d1_51) (pc' := 58) (pn := 54) (by decide) rfl (fun hc51 => ?_) (fun hc51 => ?_)
                  · refine o_iconst X0 hx (hb hby own_d1_58) (v := 0) rfl (pc' := 59) rfl ?_
                    refine o_retN X0 hx (t := .boolean) Bd.returns hlk (by simp) (hb hby own_d1_59) (v := _) ?_ ⟨rfl, rfl, e0⟩ (by decide) (by decide)
                    exact own_r0.trans (own_bf (by simp [hc3, hc9, hc15, hc21, hc27, hc33, hc39, hc45, hc51])).symm
                  · refine o_iconst X0 hx (hb hby own_d1_54) (v := 1) rfl (pc' := 55) rfl ?_
                    refine o_goto X0 hx (hb hby own_d1_55) (pc' := 59) (by decide) ?_
                    refine o_retN X0 hx (t := .boolean) Bd.returns hlk (by simp) (hb hby own_d1_59) (v := _) ?_ ⟨rfl, rfl, e0⟩ (by decide) (by decide)
                    exact own_r1.trans (own_bt (by simp [hc3, hc9, hc15, hc21, hc27, hc33, hc39, hc45, hc51])).symm
theorem own_d2_0 : decode method_2_code 0 = .ok (.iload_n 0, 1) := by decide +kernel
theorem own_d2_1 : decode method_2_code 1 = .ok (.ifCond .lt 13, 3) := by decide +kernel
theorem own_d2_4 : decode method_2_code 4 = .ok (.iload_n 0, 1) := by decide +kernel
theorem own_d2_5 : decode method_2_code 5 = .ok (.ldc 7, 2) := by decide +kernel
theorem own_d2_7 : decode method_2_code 7 = .ok (.if_icmp .gt 7, 3) := by decide +kernel
theorem own_d2_10 : decode method_2_code 10 = .ok (.iconst 1, 1) := by decide +kernel
theorem own_d2_11 : decode method_2_code 11 = .ok (.goto 4, 3) := by decide +kernel
theorem own_d2_14 : decode method_2_code 14 = .ok (.iconst 0, 1) := by decide +kernel
theorem own_d2_15 : decode method_2_code 15 = .ok (.istore_n 1, 1) := by decide +kernel
theorem own_d2_16 : decode method_2_code 16 = .ok (.iload_n 0, 1) := by decide +kernel
theorem own_d2_17 : decode method_2_code 17 = .ok (.bipush 32, 2) := by decide +kernel
theorem own_d2_19 : decode method_2_code 19 = .ok (.if_icmp .ge 25, 3) := by decide +kernel
theorem own_d2_22 : decode method_2_code 22 = .ok (.iload_n 0, 1) := by decide +kernel
theorem own_d2_23 : decode method_2_code 23 = .ok (.bipush 9, 2) := by decide +kernel
theorem own_d2_25 : decode method_2_code 25 = .ok (.if_icmp .eq 19, 3) := by decide +kernel
theorem own_d2_28 : decode method_2_code 28 = .ok (.iload_n 0, 1) := by decide +kernel
theorem own_d2_29 : decode method_2_code 29 = .ok (.bipush 10, 2) := by decide +kernel
theorem own_d2_31 : decode method_2_code 31 = .ok (.if_icmp .eq 13, 3) := by decide +kernel
theorem own_d2_34 : decode method_2_code 34 = .ok (.iload_n 0, 1) := by decide +kernel
theorem own_d2_35 : decode method_2_code 35 = .ok (.bipush 13, 2) := by decide +kernel
theorem own_d2_37 : decode method_2_code 37 = .ok (.if_icmp .eq 7, 3) := by decide +kernel
theorem own_d2_40 : decode method_2_code 40 = .ok (.iconst 1, 1) := by decide +kernel
theorem own_d2_41 : decode method_2_code 41 = .ok (.goto 4, 3) := by decide +kernel
theorem own_d2_44 : decode method_2_code 44 = .ok (.iconst 0, 1) := by decide +kernel
theorem own_d2_45 : decode method_2_code 45 = .ok (.istore_n 2, 1) := by decide +kernel
theorem own_d2_46 : decode method_2_code 46 = .ok (.iload_n 0, 1) := by decide +kernel
theorem own_d2_47 : decode method_2_code 47 = .ok (.ldc 8, 2) := by decide +kernel
theorem own_d2_49 : decode method_2_code 49 = .ok (.if_icmp .lt 13, 3) := by decide +kernel
theorem own_d2_52 : decode method_2_code 52 = .ok (.iload_n 0, 1) := by decide +kernel
theorem own_d2_53 : decode method_2_code 53 = .ok (.ldc 9, 2) := by decide +kernel
theorem own_d2_55 : decode method_2_code 55 = .ok (.if_icmp .gt 7, 3) := by decide +kernel
theorem own_d2_58 : decode method_2_code 58 = .ok (.iconst 1, 1) := by decide +kernel
theorem own_d2_59 : decode method_2_code 59 = .ok (.goto 4, 3) := by decide +kernel
theorem own_d2_62 : decode method_2_code 62 = .ok (.iconst 0, 1) := by decide +kernel
theorem own_d2_63 : decode method_2_code 63 = .ok (.istore_n 3, 1) := by decide +kernel
theorem own_d2_64 : decode method_2_code 64 = .ok (.iload_n 0, 1) := by decide +kernel
theorem own_d2_65 : decode method_2_code 65 = .ok (.ldc 10, 2) := by decide +kernel
theorem own_d2_67 : decode method_2_code 67 = .ok (.if_icmp .eq 9, 3) := by decide +kernel
theorem own_d2_70 : decode method_2_code 70 = .ok (.iload_n 0, 1) := by decide +kernel
theorem own_d2_71 : decode method_2_code 71 = .ok (.ldc 11, 2) := by decide +kernel
theorem own_d2_73 : decode method_2_code 73 = .ok (.if_icmp .ne 7, 3) := by decide +kernel
theorem own_d2_76 : decode method_2_code 76 = .ok (.iconst 1, 1) := by decide +kernel
theorem own_d2_77 : decode method_2_code 77 = .ok (.goto 4, 3) := by decide +kernel
theorem own_d2_80 : decode method_2_code 80 = .ok (.iconst 0, 1) := by decide +kernel
theorem own_d2_81 : decode method_2_code 81 = .ok (.istore 4, 2) := by decide +kernel
theorem own_d2_83 : decode method_2_code 83 = .ok (.iload_n 1, 1) := by decide +kernel
theorem own_d2_84 : decode method_2_code 84 = .ok (.ifCond .eq 20, 3) := by decide +kernel
theorem own_d2_87 : decode method_2_code 87 = .ok (.iload_n 2, 1) := by decide +kernel
theorem own_d2_88 : decode method_2_code 88 = .ok (.ifCond .ne 16, 3) := by decide +kernel
theorem own_d2_91 : decode method_2_code 91 = .ok (.iload_n 3, 1) := by decide +kernel
theorem own_d2_92 : decode method_2_code 92 = .ok (.ifCond .ne 12, 3) := by decide +kernel
theorem own_d2_95 : decode method_2_code 95 = .ok (.iload 4, 2) := by decide +kernel
theorem own_d2_97 : decode method_2_code 97 = .ok (.ifCond .ne 7, 3) := by decide +kernel
theorem own_d2_100 : decode method_2_code 100 = .ok (.iconst 1, 1) := by decide +kernel
theorem own_d2_101 : decode method_2_code 101 = .ok (.goto 4, 3) := by decide +kernel
theorem own_d2_104 : decode method_2_code 104 = .ok (.iconst 0, 1) := by decide +kernel
theorem own_d2_105 : decode method_2_code 105 = .ok (.ireturn, 1) := by decide +kernel
theorem own_ef2 (m : MethodId) (x0 : Int32) : entryFrame m #[(.int x0)] 5 = mkF m 0 #[.val (.int x0), .unset, .unset, .unset, .unset] [] := by first | (simp [entryFrame, mkF, argsToLocals, Value.category]; done) | rfl
theorem own_pn2 : plainName "com/example/intact_tree/intacttree/xml/XmlCharsIsCharPinLaw" = true := by first | (simp [plainName, overriddenIn]; done) | decide +kernel
set_option maxRecDepth 65536 in
set_option maxHeartbeats 40000000 in
theorem own_rm2 (l : Launch) (Z : State) (a0 : Array Value) (hw : ∀ d ∈ tables_1, d.before a0 Z = true) (ws : List Jvm.Cond) (p1 : Int32) (h0 : Heap)  :
    own_Met l (⟨"com/example/intact_tree/intacttree/xml/XmlCharsIsCharPinLaw", "expected", "(I)Z"⟩ : MethodName) method_2_code 5 (some .boolean) ws ({ frames := 0, cells := 0, slots := 0, locals := 0 } : Room) Z h0 #[(.int p1)] (own_Pure (.int (own_b ((¬ p1 < 0 ∧ ¬ 1114111 < p1) ∧ ¬ (p1 < 32 ∧ ¬ p1 = 9 ∧ ¬ p1 = 10 ∧ ¬ p1 = 13) ∧ ¬ (¬ p1 < 55296 ∧ ¬ 57343 < p1) ∧ ¬ (p1 = 65534 ∨ p1 = 65535)))) h0) := by
  refine MetFree.of_bodySF (plainFor_of_name own_pn2) hisR ?_
  intro p e s m args below meth c s₁ Bd hml0 hP hK
  obtain ⟨rfl, hZ, hh⟩ := hP
  have hx := Bd.exec
  have hby := Bd.bytes
  have hml : c.maxLocals = 5 := hml0
  have hlk := Bd.notSynchronized
  have hown : s.vm.findClass "com/example/intact_tree/intacttree/xml/XmlCharsIsCharPinLaw" = some m.cls := findClass_of_methodNamed Bd.named
  have hnm := (name_of_methodNamed Bd.named Bd.method).1
  have X0 : Stand p l e ({ frames := 0, cells := 0, slots := 0, locals := 0 } : Room) s m #[(.int p1)] below meth c s₁ [] 0 0 := Stand.of_body Bd
  have e0 : s₁.heap = h0 := by rw [← hh, Bd.state]; rfl
  show own_Out p e below (own_P s (own_Pure (.int (own_b ((¬ p1 < 0 ∧ ¬ 1114111 < p1) ∧ ¬ (p1 < 32 ∧ ¬ p1 = 9 ∧ ¬ p1 = 10 ∧ ¬ p1 = 13) ∧ ¬ (¬ p1 < 55296 ∧ ¬ 57343 < p1) ∧ ¬ (p1 = 65534 ∨ p1 = 65535)))) h0) ({ frames := 0, cells := 0, slots := 0, locals := 0 } : Room).cells ({ frames := 0, cells := 0, slots := 0, locals := 0 } : Room).slots) s₁ (entryFrame m #[(.int p1)] 5)
  rw [own_ef2 m p1]
  have J15 : ∀ v1 : Int32, v1 = own_b (¬ p1 < 0 ∧ ¬ 1114111 < p1) → own_Out p e below (own_P s (own_Pure (.int (own_b ((¬ p1 < 0 ∧ ¬ 1114111 < p1) ∧ ¬ (p1 < 32 ∧ ¬ p1 = 9 ∧ ¬ p1 = 10 ∧ ¬ p1 = 13) ∧ ¬ (¬ p1 < 55296 ∧ ¬ 57343 < p1) ∧ ¬ (p1 = 65534 ∨ p1 = 65535)))) h0) ({ frames := 0, cells := 0, slots := 0, locals := 0 } : Room).cells ({ frames := 0, cells := 0, slots := 0, locals := 0 } : Room).slots) s₁ (mkF m 15 #[.val (.int p1), .unset, .unset, .unset, .unset] [(.int v1)]) := by
    intro v1 hv1
    have kv1 : v1 = 0 ↔ ¬ (¬ p1 < 0 ∧ ¬ 1114111 < p1) := by rw [hv1]; exact own_b0
    refine o_istoreN X0 hx (hb hby own_d2_15) (Ls' := #[.val (.int p1), .val (.int v1), .unset, .unset, .unset]) rfl (pc' := 16) rfl ?_
    have J45 : ∀ v2 : Int32, v2 = own_b (p1 < 32 ∧ ¬ p1 = 9 ∧ ¬ p1 = 10 ∧ ¬ p1 = 13) → own_Out p e below (own_P s (own_Pure (.int (own_b ((¬ p1 < 0 ∧ ¬ 1114111 < p1) ∧ ¬ (p1 < 32 ∧ ¬ p1 = 9 ∧ ¬ p1 = 10 ∧ ¬ p1 = 13) ∧ ¬ (¬ p1 < 55296 ∧ ¬ 57343 < p1) ∧ ¬ (p1 = 65534 ∨ p1 = 65535)))) h0) ({ frames := 0, cells := 0, slots := 0, locals := 0 } : Room).cells ({ frames := 0, cells := 0, slots := 0, locals := 0 } : Room).slots) s₁ (mkF m 45 #[.val (.int p1), .val (.int v1), .unset, .unset, .unset] [(.int v2)]) := by
      intro v2 hv2
      have kv2 : v2 = 0 ↔ ¬ (p1 < 32 ∧ ¬ p1 = 9 ∧ ¬ p1 = 10 ∧ ¬ p1 = 13) := by rw [hv2]; exact own_b0
      refine o_istoreN X0 hx (hb hby own_d2_45) (Ls' := #[.val (.int p1), .val (.int v1), .val (.int v2), .unset, .unset]) rfl (pc' := 46) rfl ?_
      have J63 : ∀ v3 : Int32, v3 = own_b (¬ p1 < 55296 ∧ ¬ 57343 < p1) → own_Out p e below (own_P s (own_Pure (.int (own_b ((¬ p1 < 0 ∧ ¬ 1114111 < p1) ∧ ¬ (p1 < 32 ∧ ¬ p1 = 9 ∧ ¬ p1 = 10 ∧ ¬ p1 = 13) ∧ ¬ (¬ p1 < 55296 ∧ ¬ 57343 < p1) ∧ ¬ (p1 = 65534 ∨ p1 = 65535)))) h0) ({ frames := 0, cells := 0, slots := 0, locals := 0 } : Room).cells ({ frames := 0, cells := 0, slots := 0, locals := 0 } : Room).slots) s₁ (mkF m 63 #[.val (.int p1), .val (.int v1), .val (.int v2), .unset, .unset] [(.int v3)]) := by
        intro v3 hv3
        have kv3 : v3 = 0 ↔ ¬ (¬ p1 < 55296 ∧ ¬ 57343 < p1) := by rw [hv3]; exact own_b0
        refine o_istoreN X0 hx (hb hby own_d2_63) (Ls' := #[.val (.int p1), .val (.int v1), .val (.int v2), .val (.int v3), .unset]) rfl (pc' := 64) rfl ?_
        have J81 : ∀ v4 : Int32, v4 = own_b (p1 = 65534 ∨ p1 = 65535) → own_Out p e below (own_P s (own_Pure (.int (own_b ((¬ p1 < 0 ∧ ¬ 1114111 < p1) ∧ ¬ (p1 < 32 ∧ ¬ p1 = 9 ∧ ¬ p1 = 10 ∧ ¬ p1 = 13) ∧ ¬ (¬ p1 < 55296 ∧ ¬ 57343 < p1) ∧ ¬ (p1 = 65534 ∨ p1 = 65535)))) h0) ({ frames := 0, cells := 0, slots := 0, locals := 0 } : Room).cells ({ frames := 0, cells := 0, slots := 0, locals := 0 } : Room).slots) s₁ (mkF m 81 #[.val (.int p1), .val (.int v1), .val (.int v2), .val (.int v3), .unset] [(.int v4)]) := by
          intro v4 hv4
          have kv4 : v4 = 0 ↔ ¬ (p1 = 65534 ∨ p1 = 65535) := by rw [hv4]; exact own_b0
          refine o_istore X0 hx (hb hby own_d2_81) (Ls' := #[.val (.int p1), .val (.int v1), .val (.int v2), .val (.int v3), .val (.int v4)]) rfl (pc' := 83) rfl ?_
          refine o_iloadN X0 hx (hb hby own_d2_83) rfl (pc' := 84) rfl ?_
          refine o_if_eq X0 hx (hb hby own_d2_84) (pc' := 104) (pn := 87) (by decide) rfl (fun hc84 => ?_) (fun hc84 => ?_)
          · rw [kv1] at hc84
            refine o_iconst X0 hx (hb hby own_d2_104) (v := 0) rfl (pc' := 105) rfl ?_
            refine o_retN X0 hx (t := .boolean) Bd.returns hlk (by simp) (hb hby own_d2_105) (v := _) ?_ ⟨rfl, rfl, e0⟩ (by decide) (by decide)
            exact own_r0.trans (own_bf (fun z => hc84 z.1)).symm
          · rw [kv1] at hc84
            refine o_iloadN X0 hx (hb hby own_d2_87) rfl (pc' := 88) rfl ?_
            refine o_if_ne X0 hx (hb hby own_d2_88) (pc' := 104) (pn := 91) (by decide) rfl (fun hc88 => ?_) (fun hc88 => ?_)
            · rw [kv2] at hc88
              refine o_iconst X0 hx (hb hby own_d2_104) (v := 0) rfl (pc' := 105) rfl ?_
              refine o_retN X0 hx (t := .boolean) Bd.returns hlk (by simp) (hb hby own_d2_105) (v := _) ?_ ⟨rfl, rfl, e0⟩ (by decide) (by decide)
              exact own_r0.trans (own_bf (fun z => hc88 z.2.1)).symm
            · rw [kv2] at hc88
              refine o_iloadN X0 hx (hb hby own_d2_91) rfl (pc' := 92) rfl ?_
              refine o_if_ne X0 hx (hb hby own_d2_92) (pc' := 104) (pn := 95) (by decide) rfl (fun hc92 => ?_) (fun hc92 => ?_)
              · rw [kv3] at hc92
                refine o_iconst X0 hx (hb hby own_d2_104) (v := 0) rfl (pc' := 105) rfl ?_
                refine o_retN X0 hx (t := .boolean) Bd.returns hlk (by simp) (hb hby own_d2_105) (v := _) ?_ ⟨rfl, rfl, e0⟩ (by decide) (by decide)
                exact own_r0.trans (own_bf (fun z => hc92 z.2.2.1)).symm
              · rw [kv3] at hc92
                refine o_iload X0 hx (hb hby own_d2_95) rfl (pc' := 97) rfl ?_
                refine o_if_ne X0 hx (hb hby own_d2_97) (pc' := 104) (pn := 100) (by decide) rfl (fun hc97 => ?_) (fun hc97 => ?_)
                · rw [kv4] at hc97
                  refine o_iconst X0 hx (hb hby own_d2_104) (v := 0) rfl (pc' := 105) rfl ?_
                  refine o_retN X0 hx (t := .boolean) Bd.returns hlk (by simp) (hb hby own_d2_105) (v := _) ?_ ⟨rfl, rfl, e0⟩ (by decide) (by decide)
                  exact own_r0.trans (own_bf (fun z => hc97 z.2.2.2)).symm
                · rw [kv4] at hc97
                  refine o_iconst X0 hx (hb hby own_d2_100) (v := 1) rfl (pc' := 101) rfl ?_
                  refine o_goto X0 hx (hb hby own_d2_101) (pc' := 105) (by decide) ?_
                  refine o_retN X0 hx (t := .boolean) Bd.returns hlk (by simp) (hb hby own_d2_105) (v := _) ?_ ⟨rfl, rfl, e0⟩ (by decide) (by decide)
                  exact own_r1.trans (own_bt ⟨Classical.not_not.mp hc84, hc88, hc92, hc97⟩).symm
        refine o_iloadN X0 hx (hb hby own_d2_64) rfl (pc' := 65) rfl ?_
        refine o_ldcI X0 hx hZ hown (hw _ (List.mem_of_getElem? (i := 6) rfl)) (hb hby own_d2_65) (pc' := 67) rfl ?_
        refine o_icmp_eq X0 hx (hb hby own_d2_67) (pc' := 76) (pn := 70) (by decide) rfl (fun hc67 => ?_) (fun hc67 => ?_)
        · refine o_iconst X0 hx (hb hby own_d2_76) (v := 1) rfl (pc' := 77) rfl ?_
          refine o_goto X0 hx (hb hby own_d2_77) (pc' := 81) (by decide) ?_
          exact J81 _ (own_bt (by simp [hc67])).symm
        · refine o_iloadN X0 hx (hb hby own_d2_70) rfl (pc' := 71) rfl ?_
          refine o_ldcI X0 hx hZ hown (hw _ (List.mem_of_getElem? (i := 7) rfl)) (hb hby own_d2_71) (pc' := 73) rfl ?_
          refine o_icmp_ne X0 hx (hb hby own_d2_73) (pc' := 80) (pn := 76) (by decide) rfl (fun hc73 => ?_) (fun hc73 => ?_)
          · refine o_iconst X0 hx (hb hby own_d2_80) (v := 0) rfl (pc' := 81) rfl ?_
            exact J81 _ (own_bf (by simp [hc67, hc73])).symm
          · refine o_iconst X0 hx (hb hby own_d2_76) (v := 1) rfl (pc' := 77) rfl ?_
            refine o_goto X0 hx (hb hby own_d2_77) (pc' := 81) (by decide) ?_
            exact J81 _ (own_bt (by simp [hc67, hc73])).symm
      refine o_iloadN X0 hx (hb hby own_d2_46) rfl (pc' := 47) rfl ?_
      refine o_ldcI X0 hx hZ hown (hw _ (List.mem_of_getElem? (i := 2) rfl)) (hb hby own_d2_47) (pc' := 49) rfl ?_
      refine o_icmp_lt X0 hx (hb hby own_d2_49) (pc' := 62) (pn := 52) (by decide) rfl (fun hc49 => ?_) (fun hc49 => ?_)
      · refine o_iconst X0 hx (hb hby own_d2_62) (v := 0) rfl (pc' := 63) rfl ?_
        exact J63 _ (own_bf (by simp [hc49])).symm
      · refine o_iloadN X0 hx (hb hby own_d2_52) rfl (pc' := 53) rfl ?_
        refine o_ldcI X0 hx hZ hown (hw _ (List.mem_of_getElem? (i := 3) rfl)) (hb hby own_d2_53) (pc' := 55) rfl ?_
        refine o_icmp_gt X0 hx (hb hby own_d2_55) (pc' := 62) (pn := 58) (by decide) rfl (fun hc55 => ?_) (fun hc55 => ?_)
        · refine o_iconst X0 hx (hb hby own_d2_62) (v := 0) rfl (pc' := 63) rfl ?_
          exact J63 _ (own_bf (by simp [hc49, hc55])).symm
        · refine o_iconst X0 hx (hb hby own_d2_58) (v := 1) rfl (pc' := 59) rfl ?_
          refine o_goto X0 hx (hb hby own_d2_59) (pc' := 63) (by decide) ?_
          exact J63 _ (own_bt (by simp [hc49, hc55])).symm
    refine o_iloadN X0 hx (hb hby own_d2_16) rfl (pc' := 17) rfl ?_
    refine o_bipush X0 hx (hb hby own_d2_17) (v := 32) rfl (pc' := 19) rfl ?_
    refine o_icmp_ge X0 hx (hb hby own_d2_19) (pc' := 44) (pn := 22) (by decide) rfl (fun hc19 => ?_) (fun hc19 => ?_)
    · refine o_iconst X0 hx (hb hby own_d2_44) (v := 0) rfl (pc' := 45) rfl ?_
      exact J45 _ (own_bf (by simp [hc19])).symm
    · refine o_iloadN X0 hx (hb hby own_d2_22) rfl (pc' := 23) rfl ?_
      refine o_bipush X0 hx (hb hby own_d2_23) (v := 9) rfl (pc' := 25) rfl ?_
      refine o_icmp_eq X0 hx (hb hby own_d2_25) (pc' := 44) (pn := 28) (by decide) rfl (fun hc25 => ?_) (fun hc25 => ?_)
      · refine o_iconst X0 hx (hb hby own_d2_44) (v := 0) rfl (pc' := 45) rfl ?_
        exact J45 _ (own_bf (by simp [hc19, hc25])).symm
      · refine o_iloadN X0 hx (hb hby own_d2_28) rfl (pc' := 29) rfl ?_
        refine o_bipush X0 hx (hb hby own_d2_29) (v := 10) rfl (pc' := 31) rfl ?_
        refine o_icmp_eq X0 hx (hb hby own_d2_31) (pc' := 44) (pn := 34) (by decide) rfl (fun hc31 => ?_) (fun hc31 => ?_)
        · refine o_iconst X0 hx (hb hby own_d2_44) (v := 0) rfl (pc' := 45) rfl ?_
          exact J45 _ (own_bf (by simp [hc19, hc25, hc31])).symm
        · refine o_iloadN X0 hx (hb hby own_d2_34) rfl (pc' := 35) rfl ?_
          refine o_bipush X0 hx (hb hby own_d2_35) (v := 13) rfl (pc' := 37) rfl ?_
          refine o_icmp_eq X0 hx (hb hby own_d2_37) (pc' := 44) (pn := 40) (by decide) rfl (fun hc37 => ?_) (fun hc37 => ?_)
          · refine o_iconst X0 hx (hb hby own_d2_44) (v := 0) rfl (pc' := 45) rfl ?_
            exact J45 _ (own_bf (by simp [hc19, hc25, hc31, hc37])).symm
          · refine o_iconst X0 hx (hb hby own_d2_40) (v := 1) rfl (pc' := 41) rfl ?_
            refine o_goto X0 hx (hb hby own_d2_41) (pc' := 45) (by decide) ?_
            exact J45 _ (own_bt (by simp [hc19, hc25, hc31, hc37])).symm
  refine o_iloadN X0 hx (hb hby own_d2_0) rfl (pc' := 1) rfl ?_
  refine o_if_lt X0 hx (hb hby own_d2_1) (pc' := 14) (pn := 4) (by decide) rfl (fun hc1 => ?_) (fun hc1 => ?_)
  · refine o_iconst X0 hx (hb hby own_d2_14) (v := 0) rfl (pc' := 15) rfl ?_
    exact J15 _ (own_bf (by simp [hc1])).symm
  · refine o_iloadN X0 hx (hb hby own_d2_4) rfl (pc' := 5) rfl ?_
    refine o_ldcI X0 hx hZ hown (hw _ (List.mem_of_getElem? (i := 9) rfl)) (hb hby own_d2_5) (pc' := 7) rfl ?_
    refine o_icmp_gt X0 hx (hb hby own_d2_7) (pc' := 14) (pn := 10) (by decide) rfl (fun hc7 => ?_) (fun hc7 => ?_)
    · refine o_iconst X0 hx (hb hby own_d2_14) (v := 0) rfl (pc' := 15) rfl ?_
      exact J15 _ (own_bf (by simp [hc1, hc7])).symm
    · refine o_iconst X0 hx (hb hby own_d2_10) (v := 1) rfl (pc' := 11) rfl ?_
      refine o_goto X0 hx (hb hby own_d2_11) (pc' := 15) (by decide) ?_
      exact J15 _ (own_bt (by simp [hc1, hc7])).symm
theorem own_ef0 (m : MethodId) (x0 : Int32) (x1 : Int32) : entryFrame m #[(.int x0), (.int x1)] maxLocals = mkF m 0 #[.val (.int x0), .val (.int x1), .unset, .unset] [] := by first | (simp [entryFrame, mkF, argsToLocals, Value.category, maxLocals]; done) | rfl
theorem own_pn0 : plainName "com/example/intact_tree/intacttree/xml/XmlCharsIsCharPinLaw" = true := by first | (simp [plainName, overriddenIn]; done) | decide +kernel
set_option maxRecDepth 65536 in
set_option maxHeartbeats 40000000 in
theorem own_rm0 (l : Launch) (Z : State) (a0 : Array Value) (hw : ∀ d ∈ tables_1, d.before a0 Z = true) (ws : List Jvm.Cond) (p1 p2 : Int32) (h0 : Heap)  :
    MetFree l x (head1 (Jvm.Cond.code x code maxLocals ret :: ws) room_1) (fun a U => a = #[(.int p1), (.int p2)] ∧ Z.Warmed39 U.vm ∧ U.heap = h0) (fun _ _ _ _ _ => True) (fun _ U o U' => ∃ v L, o = .returned v ∧ (fun v _ L => v = some (.int 1) ∧ Fr h0.size L) v U'.heap L ∧ FrameEnd U o U' L room_1.cells room_1.slots) := by
  refine MetFree.of_bodySF (plainFor_of_name own_pn0) hisR ?_
  intro p e s m args below meth c s₁ Bd hml0 hP hK
  obtain ⟨rfl, hZ, hh⟩ := hP
  have hx := Bd.exec
  have hby := Bd.bytes
  have hml : c.maxLocals = 4 := hml0
  have hlk := Bd.notSynchronized
  have hown : s.vm.findClass "com/example/intact_tree/intacttree/xml/XmlCharsIsCharPinLaw" = some m.cls := findClass_of_methodNamed Bd.named
  have hnm := (name_of_methodNamed Bd.named Bd.method).1
  have X0 : Stand p l e room_1 s m #[(.int p1), (.int p2)] below meth c s₁ [] 0 0 := Stand.of_body Bd
  have e0 : s₁.heap = h0 := by rw [← hh, Bd.state]; rfl
  show own_Out p e below (own_P s (fun v _ L => v = some (.int 1) ∧ Fr h0.size L) room_1.cells room_1.slots) s₁ (entryFrame m #[(.int p1), (.int p2)] maxLocals)
  rw [own_ef0 m p1 p2]
  refine o_bipush X0 hx (hb hby at_0) (v := 17) rfl (pc' := 2) rfl ?_
  refine o_newarr X0 hx hZ (hw _ (List.mem_of_getElem? (i := 0) rfl)) e0 (hb hby at_2) (by decide) (cap := 17) (by decide) (by decide) (by decide) (by decide) (pc' := 4) rfl ?_
  intro T1 h1 a1 cA X1 e1 E1 g1 A1
  have I1 : own_Ints Z h1 a1 17 := own_ints_new A1 (by decide)
  have N1 := Fr.nil h0.size
  have G1 : h0.size ≤ a1 := Nat.le_of_eq g1.symm
  clear A1
  refine o_dup X1 hx (hb hby at_4) rfl (pc' := 5) rfl ?_
  refine o_iconst X1 hx (hb hby at_5) (v := 0) rfl (pc' := 6) rfl ?_
  refine o_iconst X1 hx (hb hby at_6) (v := 0) rfl (pc' := 7) rfl ?_
  refine own_stI X1 hx hZ e1 I1 N1 G1 (by decide) (hb hby at_7) (pc' := 8) rfl ?_
  intro T2 h2 l2 X2 e2 I2 N2
  refine o_dup X2 hx (hb hby at_8) rfl (pc' := 9) rfl ?_
  refine o_iconst X2 hx (hb hby at_9) (v := 1) rfl (pc' := 10) rfl ?_
  refine o_bipush X2 hx (hb hby at_10) (v := 9) rfl (pc' := 12) rfl ?_
  refine own_stI X2 hx hZ e2 I2 N2 G1 (by decide) (hb hby at_12) (pc' := 13) rfl ?_
  intro T3 h3 l3 X3 e3 I3 N3
  refine o_dup X3 hx (hb hby at_13) rfl (pc' := 14) rfl ?_
  refine o_iconst X3 hx (hb hby at_14) (v := 2) rfl (pc' := 15) rfl ?_
  refine o_bipush X3 hx (hb hby at_15) (v := 10) rfl (pc' := 17) rfl ?_
  refine own_stI X3 hx hZ e3 I3 N3 G1 (by decide) (hb hby at_17) (pc' := 18) rfl ?_
  intro T4 h4 l4 X4 e4 I4 N4
  refine o_dup X4 hx (hb hby at_18) rfl (pc' := 19) rfl ?_
  refine o_iconst X4 hx (hb hby at_19) (v := 3) rfl (pc' := 20) rfl ?_
  refine o_bipush X4 hx (hb hby at_20) (v := 13) rfl (pc' := 22) rfl ?_
  refine own_stI X4 hx hZ e4 I4 N4 G1 (by decide) (hb hby at_22) (pc' := 23) rfl ?_
  intro T5 h5 l5 X5 e5 I5 N5
  refine o_dup X5 hx (hb hby at_23) rfl (pc' := 24) rfl ?_
  refine o_iconst X5 hx (hb hby at_24) (v := 4) rfl (pc' := 25) rfl ?_
  refine o_bipush X5 hx (hb hby at_25) (v := 32) rfl (pc' := 27) rfl ?_
  refine own_stI X5 hx hZ e5 I5 N5 G1 (by decide) (hb hby at_27) (pc' := 28) rfl ?_
  intro T6 h6 l6 X6 e6 I6 N6
  refine o_dup X6 hx (hb hby at_28) rfl (pc' := 29) rfl ?_
  refine o_iconst X6 hx (hb hby at_29) (v := 5) rfl (pc' := 30) rfl ?_
  refine o_ldcI X6 hx hZ hown (hw _ (List.mem_of_getElem? (i := 1) rfl)) (hb hby at_30) (pc' := 32) rfl ?_
  refine own_stI X6 hx hZ e6 I6 N6 G1 (by decide) (hb hby at_32) (pc' := 33) rfl ?_
  intro T7 h7 l7 X7 e7 I7 N7
  refine o_dup X7 hx (hb hby at_33) rfl (pc' := 34) rfl ?_
  refine o_bipush X7 hx (hb hby at_34) (v := 6) rfl (pc' := 36) rfl ?_
  refine o_ldcI X7 hx hZ hown (hw _ (List.mem_of_getElem? (i := 2) rfl)) (hb hby at_36) (pc' := 38) rfl ?_
  refine own_stI X7 hx hZ e7 I7 N7 G1 (by decide) (hb hby at_38) (pc' := 39) rfl ?_
  intro T8 h8 l8 X8 e8 I8 N8
  refine o_dup X8 hx (hb hby at_39) rfl (pc' := 40) rfl ?_
  refine o_bipush X8 hx (hb hby at_40) (v := 7) rfl (pc' := 42) rfl ?_
  refine o_ldcI X8 hx hZ hown (hw _ (List.mem_of_getElem? (i := 3) rfl)) (hb hby at_42) (pc' := 44) rfl ?_
  refine own_stI X8 hx hZ e8 I8 N8 G1 (by decide) (hb hby at_44) (pc' := 45) rfl ?_
  intro T9 h9 l9 X9 e9 I9 N9
  refine o_dup X9 hx (hb hby at_45) rfl (pc' := 46) rfl ?_
  refine o_bipush X9 hx (hb hby at_46) (v := 8) rfl (pc' := 48) rfl ?_
  refine o_ldcI X9 hx hZ hown (hw _ (List.mem_of_getElem? (i := 4) rfl)) (hb hby at_48) (pc' := 50) rfl ?_
  refine own_stI X9 hx hZ e9 I9 N9 G1 (by decide) (hb hby at_50) (pc' := 51) rfl ?_
  intro T10 h10 l10 X10 e10 I10 N10
  refine o_dup X10 hx (hb hby at_51) rfl (pc' := 52) rfl ?_
  refine o_bipush X10 hx (hb hby at_52) (v := 9) rfl (pc' := 54) rfl ?_
  refine o_ldcI X10 hx hZ hown (hw _ (List.mem_of_getElem? (i := 5) rfl)) (hb hby at_54) (pc' := 56) rfl ?_
  refine own_stI X10 hx hZ e10 I10 N10 G1 (by decide) (hb hby at_56) (pc' := 57) rfl ?_
  intro T11 h11 l11 X11 e11 I11 N11
  refine o_dup X11 hx (hb hby at_57) rfl (pc' := 58) rfl ?_
  refine o_bipush X11 hx (hb hby at_58) (v := 10) rfl (pc' := 60) rfl ?_
  refine o_ldcI X11 hx hZ hown (hw _ (List.mem_of_getElem? (i := 6) rfl)) (hb hby at_60) (pc' := 62) rfl ?_
  refine own_stI X11 hx hZ e11 I11 N11 G1 (by decide) (hb hby at_62) (pc' := 63) rfl ?_
  intro T12 h12 l12 X12 e12 I12 N12
  refine o_dup X12 hx (hb hby at_63) rfl (pc' := 64) rfl ?_
  refine o_bipush X12 hx (hb hby at_64) (v := 11) rfl (pc' := 66) rfl ?_
  refine o_ldcI X12 hx hZ hown (hw _ (List.mem_of_getElem? (i := 7) rfl)) (hb hby at_66) (pc' := 68) rfl ?_
  refine own_stI X12 hx hZ e12 I12 N12 G1 (by decide) (hb hby at_68) (pc' := 69) rfl ?_
  intro T13 h13 l13 X13 e13 I13 N13
  refine o_dup X13 hx (hb hby at_69) rfl (pc' := 70) rfl ?_
  refine o_bipush X13 hx (hb hby at_70) (v := 12) rfl (pc' := 72) rfl ?_
  refine o_ldcI X13 hx hZ hown (hw _ (List.mem_of_getElem? (i := 8) rfl)) (hb hby at_72) (pc' := 74) rfl ?_
  refine own_stI X13 hx hZ e13 I13 N13 G1 (by decide) (hb hby at_74) (pc' := 75) rfl ?_
  intro T14 h14 l14 X14 e14 I14 N14
  refine o_dup X14 hx (hb hby at_75) rfl (pc' := 76) rfl ?_
  refine o_bipush X14 hx (hb hby at_76) (v := 13) rfl (pc' := 78) rfl ?_
  refine o_ldcI X14 hx hZ hown (hw _ (List.mem_of_getElem? (i := 9) rfl)) (hb hby at_78) (pc' := 80) rfl ?_
  refine own_stI X14 hx hZ e14 I14 N14 G1 (by decide) (hb hby at_80) (pc' := 81) rfl ?_
  intro T15 h15 l15 X15 e15 I15 N15
  refine o_dup X15 hx (hb hby at_81) rfl (pc' := 82) rfl ?_
  refine o_bipush X15 hx (hb hby at_82) (v := 14) rfl (pc' := 84) rfl ?_
  refine o_ldcI X15 hx hZ hown (hw _ (List.mem_of_getElem? (i := 10) rfl)) (hb hby at_84) (pc' := 86) rfl ?_
  refine own_stI X15 hx hZ e15 I15 N15 G1 (by decide) (hb hby at_86) (pc' := 87) rfl ?_
  intro T16 h16 l16 X16 e16 I16 N16
  refine o_dup X16 hx (hb hby at_87) rfl (pc' := 88) rfl ?_
  refine o_bipush X16 hx (hb hby at_88) (v := 15) rfl (pc' := 90) rfl ?_
  refine o_ldcI X16 hx hZ hown (hw _ (List.mem_of_getElem? (i := 11) rfl)) (hb hby at_90) (pc' := 92) rfl ?_
  refine own_stI X16 hx hZ e16 I16 N16 G1 (by decide) (hb hby at_92) (pc' := 93) rfl ?_
  intro T17 h17 l17 X17 e17 I17 N17
  refine o_dup X17 hx (hb hby at_93) rfl (pc' := 94) rfl ?_
  refine o_bipush X17 hx (hb hby at_94) (v := 16) rfl (pc' := 96) rfl ?_
  refine o_ldcI X17 hx hZ hown (hw _ (List.mem_of_getElem? (i := 12) rfl)) (hb hby at_96) (pc' := 98) rfl ?_
  refine own_stI X17 hx hZ e17 I17 N17 G1 (by decide) (hb hby at_98) (pc' := 99) rfl ?_
  intro T18 h18 l18 X18 e18 I18 N18
  refine o_astoreN X18 hx (hb hby at_99) rfl (Ls' := #[.val (.int p1), .val (.int p2), .val (.ref a1), .unset]) rfl (pc' := 100) rfl ?_
  refine o_iloadN X18 hx (hb hby at_100) rfl (pc' := 101) rfl ?_
  refine o_iconst X18 hx (hb hby at_101) (v := 1) rfl (pc' := 102) rfl ?_
  refine o_iand X18 hx (hb hby at_102) (pc' := 103) rfl ?_
  have J124 : ∀ cv : Int32, own_Out p e below (own_P s (fun v _ L => v = some (.int 1) ∧ Fr h0.size L) room_1.cells room_1.slots) T18 (mkF m 124 #[.val (.int p1), .val (.int p2), .val (.ref a1), .val (.int cv)] []) := by
    intro cv
    refine o_iloadN X18 hx (hb hby at_124) rfl (pc' := 125) rfl ?_
    refine o_callS X18 hx hZ (y := (⟨"com/example/intact_tree/intacttree/xml/XmlChars", "isChar", "(I)Z"⟩ : MethodName)) (as' := [(.int cv)]) hown (hw _ (List.mem_of_getElem? (i := 13) rfl)) (hw _ (List.mem_of_getElem? (i := 14) rfl)) (hw _ (List.mem_of_getElem? (i := 15) rfl)) (hw _ (List.mem_of_getElem? (i := 16) rfl)) (by decide) e18 (own_rm1 l Z a0 hw [] cv h18) (by rw [hml]; rfl) own_pd0 rfl (W := 0) (Nat.le_of_eq rfl) (by decide) (by decide) (hb hby at_125) (by decide) (by decide) (pc' := 128) rfl (S := []) rfl ?_
    intro v19 T19 L19 X19 q19
    obtain ⟨rfl, X19, e19⟩ := own_pure rfl rfl X19 q19
    show own_Out p e below _ T19 (mkF m 128 #[.val (.int p1), .val (.int p2), .val (.ref a1), .val (.int cv)] [(.int (own_b (cv = 9 ∨ cv = 10 ∨ cv = 13 ∨ (¬ cv < 32 ∧ ¬ 55295 < cv) ∨ (¬ cv < 57344 ∧ ¬ 65533 < cv) ∨ (¬ cv < 65536 ∧ ¬ 1114111 < cv))))])
    refine o_iloadN X19 hx (hb hby at_128) rfl (pc' := 129) rfl ?_
    refine o_callS X19 hx hZ (y := (⟨"com/example/intact_tree/intacttree/xml/XmlCharsIsCharPinLaw", "expected", "(I)Z"⟩ : MethodName)) (as' := [(.int cv)]) hown (hw _ (List.mem_of_getElem? (i := 17) rfl)) (hw _ (List.mem_of_getElem? (i := 18) rfl)) (hw _ (List.mem_of_getElem? (i := 19) rfl)) (hw _ (List.mem_of_getElem? (i := 20) rfl)) (by decide) e19 (own_rm2 l Z a0 hw [] cv h18) (by rw [hml]; rfl) own_pd0 rfl (W := 1) (Nat.le_of_eq rfl) (by decide) (by decide) (hb hby at_129) (by decide) (by decide) (pc' := 132) rfl (S := [(.int (own_b (cv = 9 ∨ cv = 10 ∨ cv = 13 ∨ (¬ cv < 32 ∧ ¬ 55295 < cv) ∨ (¬ cv < 57344 ∧ ¬ 65533 < cv) ∨ (¬ cv < 65536 ∧ ¬ 1114111 < cv))))]) rfl ?_
    intro v20 T20 L20 X20 q20
    obtain ⟨rfl, X20, e20⟩ := own_pure rfl rfl X20 q20
    show own_Out p e below _ T20 (mkF m 132 #[.val (.int p1), .val (.int p2), .val (.ref a1), .val (.int cv)] [(.int (own_b ((¬ cv < 0 ∧ ¬ 1114111 < cv) ∧ ¬ (cv < 32 ∧ ¬ cv = 9 ∧ ¬ cv = 10 ∧ ¬ cv = 13) ∧ ¬ (¬ cv < 55296 ∧ ¬ 57343 < cv) ∧ ¬ (cv = 65534 ∨ cv = 65535)))), (.int (own_b (cv = 9 ∨ cv = 10 ∨ cv = 13 ∨ (¬ cv < 32 ∧ ¬ 55295 < cv) ∨ (¬ cv < 57344 ∧ ¬ 65533 < cv) ∨ (¬ cv < 65536 ∧ ¬ 1114111 < cv))))])
    refine o_icmp_ne X20 hx (hb hby at_132) (pc' := 139) (pn := 135) (by decide) rfl (fun hc => ?_) (fun hc => ?_)
    · exact absurd (own_law _) hc
    · refine o_iconst X20 hx (hb hby at_135) (v := 1) rfl (pc' := 136) rfl ?_
      refine o_goto X20 hx (hb hby at_136) (pc' := 140) (by decide) ?_
      refine o_retN X20 hx (t := .boolean) Bd.returns hlk (by simp) (hb hby at_140) rfl ⟨rfl, N18⟩ (by decide) (by decide)
  refine o_if_ne X18 hx (hb hby at_103) (pc' := 111) (pn := 106) (by decide) rfl (fun hsel => ?_) (fun hsel => ?_)
  · refine o_aloadN X18 hx (hb hby at_111) rfl rfl (pc' := 112) rfl ?_
    refine o_iloadN X18 hx (hb hby at_112) rfl (pc' := 113) rfl ?_
    refine o_iconst X18 hx (hb hby at_113) (v := 1) rfl (pc' := 114) rfl ?_
    refine o_iushr X18 hx (hb hby at_114) (pc' := 115) rfl ?_
    refine o_bipush X18 hx (hb hby at_115) (v := 17) rfl (pc' := 117) rfl ?_
    refine o_irem X18 hx (hb hby at_117) (by decide) (pc' := 118) rfl ?_
    obtain ⟨clr, R1, R2, R3⟩ := I18
    obtain ⟨wv, R4⟩ := R3 _ (own_idx p2).2
    refine o_iaload X18 hx hZ e18 R1 (own_in R2 (own_idx p2)) R4 (hb hby at_118) (pc' := 119) rfl ?_
    refine o_iloadN X18 hx (hb hby at_119) rfl (pc' := 120) rfl ?_
    refine o_iconst X18 hx (hb hby at_120) (v := 3) rfl (pc' := 121) rfl ?_
    refine o_irem X18 hx (hb hby at_121) (by decide) (pc' := 122) rfl ?_
    refine o_iadd X18 hx (hb hby at_122) (pc' := 123) rfl ?_
    refine o_istoreN X18 hx (hb hby at_123) (Ls' := #[.val (.int p1), .val (.int p2), .val (.ref a1), .val (.int (wv + (p1 % (3 : Int32))))]) rfl (pc' := 124) rfl ?_
    exact J124 _
  · refine o_iloadN X18 hx (hb hby at_106) rfl (pc' := 107) rfl ?_
    refine o_istoreN X18 hx (hb hby at_107) (Ls' := #[.val (.int p1), .val (.int p2), .val (.ref a1), .val (.int p1)]) rfl (pc' := 108) rfl ?_
    refine o_goto X18 hx (hb hby at_108) (pc' := 124) (by decide) ?_
    exact J124 _
set_option maxRecDepth 65536 in
set_option maxHeartbeats 40000000 in
theorem own_comes {Post : Tables → Env → Array Value → State → Outcome → State → Prop} (hpost : ∀ tb e args s v u, (limb_1_1.after args s (.returned v) u = true ∧ limb_1_2.after args s (.returned v) u = true) → FrameEnd s (.returned v) u (Jvm.fieldLocs frame_1_writes args s ++ Jvm.arrayLocs frame_1_arrays args s ++ Jvm.staticLocs frame_1_statics s) 16 128 → Post tb e args s (.returned v) u) :
    ArmFor flags0 classFile x code maxLocals ret World_1 tables_1 room_1 Calls_1 rest_1 Pre_1 Post := by
  intro l hfl _ _ p e ha hc hk s m args below hf hA hF happ hP
  obtain ⟨hcalls, hrest, hpre⟩ := hP
  obtain ⟨-, -, -, hnamed, -, -, -, hat⟩ := (Spec.applies_iff hf).mp happ
  obtain ⟨hg, hn⟩ := and_e (Cond.before_iff.mp (show (Jvm.Cond.and given_1 narrow_1).before args s = true from hpre))
  obtain ⟨gc, gr0⟩ := and_e hg
  obtain ⟨g0, g1⟩ := and_e gr0
  obtain ⟨w0, w1, rfl⟩ : ∃ w0 w1 : Value, args = #[w0, w1] := by
    have hs : args.size = 2 := by simpa [Cond.value, given_1] using gc
    obtain ⟨L⟩ := args
    match L, hs with
    | [w0, w1], _ => exact ⟨w0, w1, rfl⟩
  have hw := fun d (hd : d ∈ tables_1) => atoms_spec (ws := Jvm.Cond.code x code maxLocals ret :: tables_1) hat d (List.mem_cons_of_mem _ hd)
  obtain ⟨i0, ei0⟩ := is_v g0
  obtain rfl : w0 = (.int i0) := Option.some.inj ei0
  obtain ⟨i1, ei1⟩ := is_v g1
  obtain rfl : w1 = (.int i1) := Option.some.inj ei1
  obtain ⟨n, o, h1, h2, h3, _, L, rfl, ⟨rfl, N⟩, hq⟩ := own_rm0 l s _ hw tables_1 i0 i1 s.heap  p e ha hc hk s m _ below hf ((Spec.applies_iff_loose hf).mp happ).1 ⟨rfl, State.Warmed39.refl s, rfl⟩ trivial
  exact ⟨n, _, h1, h2, h3, hpost _ _ _ _ _ _ ⟨Cond.after_iff.mpr rfl, Cond.after_iff.mpr (eq_i res_at (Term.int_eval (1)) rfl)⟩ ⟨hq.1, hq.2.1, (hq.2.2.sift fun y hy => Or.inr (N y hy)).mono (by decide) (by decide)⟩⟩
theorem main_1_1 : Claimed_1_1 := own_comes fun _ _ _ _ _ _ h hF => ⟨h.1, hF⟩
theorem main_1_2 : Claimed_1_2 := own_comes fun _ _ _ _ _ _ h hF => ⟨h.2, hF⟩
end Jvm.Pilot.@@N@@
namespace Jvm.Pilot.@@N@@
open Jvm Jvm.ClassFile Sem Op Lib Jvm.Free Jvm.Stand Jvm.Pilot.@@N@@.Jvm.D
/-! MADE BY PROGRAM (witnessworld.py) out of the Statement's table words and the real class files: 9 classes; the members and pool entries that the words name. The judged class is class 1, her method 2. -/
namespace start1
open Jvm.ClassFile
def u (s : String) : CpInfo := .utf8 (stringToUtf16 s)
/-- a pool by its gaps: so many unusable entries, then the entry; so many at the end -/
def gap : Nat → List CpInfo → List CpInfo
  | 0, r => r
  | n + 1, r => .unusable :: gap n r
def poolList (es : List (Nat × CpInfo)) (last : Nat) : List CpInfo := es.foldr (fun e r => gap e.1 (e.2 :: r)) (gap last [])
def pool (es : List (Nat × CpInfo)) (last : Nat) : Array CpInfo := ⟨poolList es last⟩
def fileOf (pool : Array CpInfo) (this : Nat) (attrs : Array Attribute := #[]) (ms : Array MethodInfo := #[]) (fl : Nat := 33) (sup : Nat := 0) (ifs : Array Nat := #[]) (fds : Array FieldInfo := #[]) : ClassFile where
  minorVersion := 0
  majorVersion := 65
  constantPool := pool
  accessFlags := fl
  thisClass := this
  superClass := sup
  interfaces := ifs
  fields := fds
  methods := ms
  attributes := attrs
def plain (name : String) (sup : Option ClassId) : Class where
  name := name
  kind := .ordinary
  loader := none
  accessFlags := 33
  super := sup
  interfaces := #[]
  cf := none
  fields := #[]
  methods := #[]
  instanceTypes := #[]
  staticTypes := #[]
  resolved := #[]
  callSites := []
  init := .initialized
  statics := none
  mirror := none

def pool0 : Array CpInfo := pool [(5, u "<init>"), (0, u "()V"), (1, .class_ 10), (1, u "java/lang/Object")] 113

def k0m0 : Method := { name := "<init>", desc := "()V", sig := { parameters := [], returnType := none }, accessFlags := 1, code := none }
/-- java/lang/Object -/
def k0 : Class := { plain "java/lang/Object" none with
  accessFlags := 33
  interfaces := #[]
  cf := some (fileOf pool0 8 #[] #[{ accessFlags := 1, nameIndex := 5, descriptorIndex := 6, attributes := #[] }] 33 0 #[] #[])
  fields := #[]
  methods := #[k0m0]
  instanceTypes := #[]
  staticTypes := #[]
  resolved := Array.replicate 124 none
  statics := none }

def pool1 : Array CpInfo := pool [(2, .class_ 4), (1, u "java/lang/Object"), (0, u "<init>"), (0, u "()V"), (0, .integer 1114111), (0, .integer 55296), (0, .integer 57343), (0, .integer 65534), (0, .integer 65535), (0, .integer 55295), (0, .integer 57344), (0, .integer 65533), (0, .integer 65536), (0, .integer 1114112), (2, .integer 2147483648), (0, .integer 2147483647), (0, .methodref 22 23), (0, .class_ 24), (0, .nameAndType 25 26), (0, u "com/example/intact_tree/intacttree/xml/XmlChars"), (0, u "isChar"), (0, u "(I)Z"), (0, .methodref 28 29), (0, .class_ 30), (0, .nameAndType 31 26), (0, u "com/example/intact_tree/intacttree/xml/XmlCharsIsCharPinLaw"), (0, u "expected"), (3, u "law"), (0, u "(II)Z")] 4

def k1m0 : Method := { name := "<init>", desc := "()V", sig := { parameters := [], returnType := none }, accessFlags := 2, code := none }
def k1c1 : Code := { maxStack := 2, maxLocals := 5, code := method_2_code, exceptionTable := #[], attributes := #[] }
def k1m1 : Method := { name := "expected", desc := "(I)Z", sig := { parameters := [.int], returnType := some .boolean }, accessFlags := 10, code := some k1c1 }
def k1c2 : Code := { maxStack := 4, maxLocals := 4, code := code, exceptionTable := #[], attributes := #[] }
def k1m2 : Method := { name := "law", desc := "(II)Z", sig := { parameters := [.int, .int], returnType := some .boolean }, accessFlags := 9, code := some k1c2 }
/-- com/example/intact_tree/intacttree/xml/XmlCharsIsCharPinLaw -/
def k1 : Class := { plain "com/example/intact_tree/intacttree/xml/XmlCharsIsCharPinLaw" (some 0) with
  accessFlags := 49
  interfaces := #[]
  cf := some (fileOf pool1 28 #[] #[{ accessFlags := 2, nameIndex := 5, descriptorIndex := 6, attributes := #[] }, { accessFlags := 10, nameIndex := 31, descriptorIndex := 26, attributes := #[] }, { accessFlags := 9, nameIndex := 35, descriptorIndex := 36, attributes := #[] }] 49 2 #[] #[])
  fields := #[]
  methods := #[k1m0, k1m1, k1m2]
  instanceTypes := #[]
  staticTypes := #[]
  resolved := Array.replicate 41 none
  statics := none }

def pool2 : Array CpInfo := pool [(2, .class_ 4), (1, u "java/lang/Object"), (0, u "<init>"), (0, u "()V"), (0, .integer 55295), (0, .integer 57344), (0, .integer 65533), (0, .integer 65536), (0, .integer 1114111), (13, .class_ 27), (1, u "com/example/intact_tree/intacttree/xml/XmlChars"), (30, u "(I)Z"), (7, u "isChar")] 30

def k2m0 : Method := { name := "<init>", desc := "()V", sig := { parameters := [], returnType := none }, accessFlags := 2, code := none }
def k2c1 : Code := { maxStack := 2, maxLocals := 1, code := prog_106_method_2_code, exceptionTable := #[], attributes := #[] }
def k2m1 : Method := { name := "isChar", desc := "(I)Z", sig := { parameters := [.int], returnType := some .boolean }, accessFlags := 9, code := some k2c1 }
/-- com/example/intact_tree/intacttree/xml/XmlChars -/
def k2 : Class := { plain "com/example/intact_tree/intacttree/xml/XmlChars" (some 0) with
  accessFlags := 33
  interfaces := #[]
  cf := some (fileOf pool2 25 #[] #[{ accessFlags := 2, nameIndex := 5, descriptorIndex := 6, attributes := #[] }, { accessFlags := 9, nameIndex := 66, descriptorIndex := 58, attributes := #[] }] 33 2 #[] #[])
  fields := #[]
  methods := #[k2m0, k2m1]
  instanceTypes := #[]
  staticTypes := #[]
  resolved := Array.replicate 97 none
  statics := none }

def pool3 : Array CpInfo := pool [(1, u "java/lang/Cloneable"), (0, .class_ 1), (0, u "java/lang/Object"), (0, .class_ 3)] 3

/-- java/lang/Cloneable -/
def k3 : Class := { plain "java/lang/Cloneable" (some 0) with
  accessFlags := 1537
  interfaces := #[]
  cf := some (fileOf pool3 2 #[] #[] 1537 4 #[] #[])
  fields := #[]
  methods := #[]
  instanceTypes := #[]
  staticTypes := #[]
  resolved := Array.replicate 8 none
  statics := none }

def pool4 : Array CpInfo := pool [(1, u "java/io/Serializable"), (0, .class_ 1), (0, u "java/lang/Object"), (0, .class_ 3)] 3

/-- java/io/Serializable -/
def k4 : Class := { plain "java/io/Serializable" (some 0) with
  accessFlags := 1537
  interfaces := #[]
  cf := some (fileOf pool4 2 #[] #[] 1537 4 #[] #[])
  fields := #[]
  methods := #[]
  instanceTypes := #[]
  staticTypes := #[]
  resolved := Array.replicate 8 none
  statics := none }

/-- the primitive byte -/
def k5 : Class := { plain "byte" none with kind := .primitive 'B', accessFlags := 0x411 }
/-- [B -/
def k6 : Class := { plain "[B" (some 0) with kind := .array 5 .byte, interfaces := #[3, 4], accessFlags := 1041 }

/-- the primitive int -/
def k7 : Class := { plain "int" none with kind := .primitive 'I', accessFlags := 0x411 }
/-- [I -/
def k8 : Class := { plain "[I" (some 0) with kind := .array 7 .int, interfaces := #[3, 4], accessFlags := 1041 }

def heap : Heap := #[]
def classes : Array Class := #[k0, k1, k2, k3, k4, k5, k6, k7, k8]
def interned : List (Array UInt16 × Addr) := []
def slotsUsed : Nat := 0
def theMethod : MethodId := ⟨1, 2⟩
def args0 : Array Value := #[.int 5, .int 3]
def aboutOver (below : List Frame) : State where
  vm := { classes := classes, interned := interned.toArray }
  heap := heap
  slotsUsed := slotsUsed
  threads := #[{ frames := .invoking theMethod args0 :: below }]
def below0 : List Frame := [.native { method := ⟨0, 0⟩, args := #[] }]
def about1 : State := aboutOver below0
def p0 : Program := .bare "" "" ""
def e0 : Env := launch0.env 0 0 0
theorem w_frames : about1.frames = Frame.invoking theMethod args0 :: below0 := rfl
set_option maxRecDepth 65536 in
theorem w_args : argsFit about1.vm theMethod args0 = true := by decide +kernel
set_option maxRecDepth 65536 in
theorem w_heap : heapFits about1 = true := by decide +kernel
set_option maxRecDepth 65536 in
theorem w_runnable : about1.curStatus? = some .runnable := by decide +kernel
set_option maxRecDepth 65536 in
theorem w_alone : about1.alone = true := by decide +kernel
set_option maxRecDepth 65536 in
theorem w_named : about1.methodNamed? x = some theMethod := by decide +kernel
set_option maxRecDepth 65536 in
theorem w_hears : about1.hears theMethod below0 = true := by decide +kernel
set_option maxRecDepth 65536 in
theorem w_ripe : about1.ripe theMethod args0 below0 = true := by decide +kernel
theorem w_running : about1.status = .running := rfl
set_option maxRecDepth 65536 in
theorem w_room : about1.hasRoom e0.platform room_1 = true :=
  launch0.hasRoom_least _ room_1 (by decide +kernel) (by decide +kernel) (by decide +kernel) (by decide +kernel) (by decide +kernel) (by decide +kernel)
theorem allAtoms_all (ts : List Jvm.Cond) (a : Array Jvm.Value) (st : Jvm.State) : (allAtoms ts).before a st = ts.all (fun c => c.before a st) := by
  induction ts with
  | nil => rfl
  | cons c t ih =>
    show (Jvm.Cond.and c (allAtoms t)).before a st = _
    rw [Jvm.Cond.before_and, ih, List.all_cons]
def words1 : List Jvm.Cond := Jvm.Cond.code x code maxLocals ret :: tables_1
/-- a 'code' word, met by the world's own term for the bytes: nothing is compared byte by byte -/
theorem code_word {y : MethodName} {bytes : ByteArray} {mx : Nat} {rt : Option FieldType} {a : Array Value} {s : State} {m : MethodId} {meth : Method} {c : Code} (h1 : s.methodNamed? y = some m) (h2 : s.vm.method? m = some meth) (h3 : meth.code = some c) (h4 : c.code = bytes)
    (h5 : (c.maxLocals == mx && c.exceptionTable.isEmpty && decide (c.maxStack ≤ mostOperands) && decide (meth.sig.returnType = rt) && !meth.locks && decide (parseMethodDescriptor y.desc = some meth.sig)) = true) : (Jvm.Cond.code y bytes mx rt).before a s = true := by
  simp only [Bool.and_eq_true, beq_iff_eq, Bool.not_eq_true', decide_eq_true_eq] at h5
  obtain ⟨⟨⟨⟨⟨g1, g2⟩, g3⟩, g4⟩, g5⟩, g6⟩ := h5
  simp [Cond.before, Cond.holds, Cond.value, h1, h2, h3, h4, g1, g2, g3, g4, g5, g6]
def isCode : Jvm.Cond → Bool
  | .code _ _ _ _ => true
  | _ => false
theorem all_split {L : List Jvm.Cond} {P : Jvm.Cond → Bool} (h1 : L.all (fun c => isCode c || P c) = true) (h2 : ∀ c ∈ L.filter isCode, P c = true) : L.all P = true := by
  refine List.all_eq_true.mpr fun c hc => ?_
  have h := List.all_eq_true.mp h1 c hc
  rcases Bool.eq_false_or_eq_true (isCode c) with hi | hi
  · exact h2 c (List.mem_filter.mpr ⟨hc, hi⟩)
  · simpa [hi] using h
set_option maxRecDepth 65536 in
theorem w_c0 : (Jvm.Cond.code x code maxLocals ret).before args0 about1 = true := code_word (m := ⟨1, 2⟩) (meth := k1m2) (c := k1c2) (by decide +kernel) rfl rfl rfl (by decide +kernel)
set_option maxRecDepth 65536 in
theorem w_c1 : (Jvm.Cond.code ({ cls := "com/example/intact_tree/intacttree/xml/XmlChars", name := "isChar", desc := "(I)Z" } : Jvm.MethodName) prog_106_method_2_code (1 : Nat) (Option.some Jvm.ClassFile.FieldType.boolean)).before args0 about1 = true := code_word (m := ⟨2, 1⟩) (meth := k2m1) (c := k2c1) (by decide +kernel) rfl rfl rfl (by decide +kernel)
set_option maxRecDepth 65536 in
theorem w_c2 : (Jvm.Cond.code ({ cls := "com/example/intact_tree/intacttree/xml/XmlCharsIsCharPinLaw", name := "expected", desc := "(I)Z" } : Jvm.MethodName) method_2_code (5 : Nat) (Option.some Jvm.ClassFile.FieldType.boolean)).before args0 about1 = true := code_word (m := ⟨1, 1⟩) (meth := k1m1) (c := k1c1) (by decide +kernel) rfl rfl rfl (by decide +kernel)
def codes1 : List Jvm.Cond := [Jvm.Cond.code x code maxLocals ret, Jvm.Cond.code ({ cls := "com/example/intact_tree/intacttree/xml/XmlChars", name := "isChar", desc := "(I)Z" } : Jvm.MethodName) prog_106_method_2_code (1 : Nat) (Option.some Jvm.ClassFile.FieldType.boolean), Jvm.Cond.code ({ cls := "com/example/intact_tree/intacttree/xml/XmlCharsIsCharPinLaw", name := "expected", desc := "(I)Z" } : Jvm.MethodName) method_2_code (5 : Nat) (Option.some Jvm.ClassFile.FieldType.boolean)]
set_option maxRecDepth 65536 in
theorem codes_eq : words1.filter isCode = codes1 := rfl
theorem w_codes : ∀ c ∈ words1.filter isCode, c.before args0 about1 = true := by
  rw [codes_eq]
  intro c hc
  simp only [codes1, List.mem_cons, List.not_mem_nil, or_false] at hc
  rcases hc with rfl | rfl | rfl
  · exact w_c0
  · exact w_c1
  · exact w_c2
set_option maxRecDepth 65536 in
theorem w_t1 : (words1.take 24).all (fun c => isCode c || c.before args0 about1) = true := by decide +kernel
set_option maxRecDepth 65536 in
theorem w_t2 : (words1.drop 24).all (fun c => isCode c || c.before args0 about1) = true := by decide +kernel
theorem w_tables : (allAtoms (Jvm.Cond.code x code maxLocals ret :: tables_1)).before args0 about1 = true := by
  rw [allAtoms_all]
  show words1.all (fun c => c.before args0 about1) = true
  refine all_split ?_ w_codes
  rw [← List.take_append_drop 24 words1, List.all_append, w_t1, w_t2]
  rfl
set_option maxRecDepth 65536 in
theorem w_case : (Jvm.Cond.and given_1 narrow_1).before args0 about1 = true := by decide +kernel
theorem w_applies : (headSpec (Jvm.Cond.code x code maxLocals ret :: tables_1) room_1).applies x e0.platform about1 = true :=
  (Spec.applies_iff w_frames).mpr ⟨w_running, w_runnable, w_alone, w_named, w_hears, w_ripe, w_room, w_tables⟩
theorem atStart : AtStart classFile x code maxLocals ret World_1 tables_1 room_1 Calls_1 rest_1 Pre_1 launch0 p0 e0 about1 theMethod args0 below0 :=
  ⟨lists_1, trivial, launch0.admits_env _ _ _, launch0.least_env, fairChoices_fair.cas, fairChoices_fair.clock, w_frames, w_args, w_heap, w_applies, trivial, trivial, w_case⟩
end start1
theorem witness_1 : WitnessClaimed_1 := ⟨start1.p0, start1.e0, start1.about1, start1.theMethod, start1.args0, start1.below0, start1.atStart⟩
end Jvm.Pilot.@@N@@
