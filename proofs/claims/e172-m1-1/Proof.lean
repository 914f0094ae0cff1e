import JvmDerived
import JvmDerived.Pilot.@@N@@Statement
import JvmDerived.Pilot.@@N@@Code
set_option linter.unusedVariables false
set_option linter.unusedSimpArgs false
namespace Jvm.Pilot.@@N@@
open Jvm Jvm.ClassFile Sem Op Lib Jvm.Free Jvm.Stand Jvm.LawKit Jvm.RoadKit Bundle Jvm.Pilot.@@N@@.Jvm.D
def own_Out (p : Program) (e : Env) (below : List Frame) (P : Outcome → State → Prop) (T : State) (g : JFrame) : Prop :=
  ∃ s₂ o, Steps p.tables e below (T.setTop g) s₂ ∧ s₂.status = .running ∧ Ended s₂ below o ∧ P o s₂
abbrev own_P (s : State) (Q : Option Value → Heap → List Loc → Prop) (k n : Nat) : Outcome → State → Prop := fun o U' => ∃ v L, o = .returned v ∧ Q v U'.heap L ∧ FrameEnd s o U' L k n
/-- the value r comes back, nothing is written -/
def own_Pure (r : Value) (h0 : Heap) (v : Option Value) (h : Heap) (L : List Loc) : Prop := v = some r ∧ L = [] ∧ h = h0
def own_b (q : Prop) [Decidable q] : Int32 := if q then 1 else 0
theorem own_bt {q : Prop} [Decidable q] (h : q) : own_b q = 1 := if_pos h
theorem own_bf {q : Prop} [Decidable q] (h : ¬ q) : own_b q = 0 := if_neg h
theorem own_b01 {q : Prop} [Decidable q] : own_b q = 1 ∨ own_b q = 0 := by by_cases h : q <;> simp [own_b, h]
section OwnKit
variable {p : Program} {l : Launch} {e : Env} {R : Room} {s : State} {m : MethodId} {args : Array Value} {below : List Frame} {meth : Method} {c : Code} {T T' : State} {locs : List Loc} {cells slots : Nat} {P : Outcome → State → Prop} {pc pc' : Nat} {Ls Ls' : Array Slot} {S : List Value} {g g' : JFrame} {Z : State} {a0 : Array Value} {h : Heap} {Q : Option Value → Heap → List Loc → Prop} {kc kn : Nat}
theorem own_by (st : ∀ t, Steps p.tables e below (T'.setTop g') t → Steps p.tables e below (T.setTop g) t) (h : own_Out p e below P T' g') : own_Out p e below P T g := by
  obtain ⟨s₂, o, h1, h2⟩ := h
  exact ⟨s₂, o, st _ h1, h2⟩
theorem own_go (st : Steps p.tables e below (T.setTop g) (T'.setTop g')) (h : own_Out p e below P T' g') : own_Out p e below P T g := by
  obtain ⟨s₂, o, h1, h2⟩ := h
  exact ⟨s₂, o, st.trans h1, h2⟩
theorem o_aloadN (X : Stand p l e R s m args below meth c T locs cells slots) (hx : p.tables.exec = Jvm.exec) {k' : Fin 4} {v : Value} (hd : decode c.code pc = .ok (.aload_n k', 1)) (hl : Ls[k'.val]? = some (.val v)) (hv : v.isRef = true) (hp : pc + 1 = pc')
    (k : own_Out p e below P T (mkF m pc' Ls (v :: S))) : own_Out p e below P T (mkF m pc Ls (S)) := by
  subst hp
  exact own_by (fun _ => XS.aloadN X.here hx rfl hd hl hv) k
theorem o_aload (X : Stand p l e R s m args below meth c T locs cells slots) (hx : p.tables.exec = Jvm.exec) {k' : Nat} {v : Value} (hd : decode c.code pc = .ok (.aload k', 2)) (hl : Ls[k']? = some (.val v)) (hv : v.isRef = true) (hp : pc + 2 = pc')
    (k : own_Out p e below P T (mkF m pc' Ls (v :: S))) : own_Out p e below P T (mkF m pc Ls (S)) := by
  subst hp
  exact own_by (fun _ => XS.aload X.here hx rfl hd hl hv) k
theorem o_iloadN (X : Stand p l e R s m args below meth c T locs cells slots) (hx : p.tables.exec = Jvm.exec) {k' : Fin 4} {v : Int32} (hd : decode c.code pc = .ok (.iload_n k', 1)) (hl : Ls[k'.val]? = some (.val (.int v))) (hp : pc + 1 = pc')
    (k : own_Out p e below P T (mkF m pc' Ls (.int v :: S))) : own_Out p e below P T (mkF m pc Ls (S)) := by
  subst hp
  exact own_by (fun _ => XS.iloadN X.here hx rfl hd hl) k
theorem o_iload (X : Stand p l e R s m args below meth c T locs cells slots) (hx : p.tables.exec = Jvm.exec) {k' : Nat} {v : Int32} (hd : decode c.code pc = .ok (.iload k', 2)) (hl : Ls[k']? = some (.val (.int v))) (hp : pc + 2 = pc')
    (k : own_Out p e below P T (mkF m pc' Ls (.int v :: S))) : own_Out p e below P T (mkF m pc Ls (S)) := by
  subst hp
  exact own_by (fun _ => XS.iload X.here hx rfl hd hl) k
theorem o_lloadN (X : Stand p l e R s m args below meth c T locs cells slots) (hx : p.tables.exec = Jvm.exec) {k' : Fin 4} {v : Int64} (hd : decode c.code pc = .ok (.lload_n k', 1)) (hl : Ls[k'.val]? = some (.val (.long v))) (hp : pc + 1 = pc')
    (k : own_Out p e below P T (mkF m pc' Ls (.long v :: S))) : own_Out p e below P T (mkF m pc Ls (S)) := by
  subst hp
  exact own_by (fun _ => XS.lloadN X.here hx rfl hd hl) k
theorem o_lload (X : Stand p l e R s m args below meth c T locs cells slots) (hx : p.tables.exec = Jvm.exec) {k' : Nat} {v : Int64} (hd : decode c.code pc = .ok (.lload k', 2)) (hl : Ls[k']? = some (.val (.long v))) (hp : pc + 2 = pc')
    (k : own_Out p e below P T (mkF m pc' Ls (.long v :: S))) : own_Out p e below P T (mkF m pc Ls (S)) := by
  subst hp
  exact own_by (fun _ => XS.lload X.here hx rfl hd hl) k
theorem o_istoreN (X : Stand p l e R s m args below meth c T locs cells slots) (hx : p.tables.exec = Jvm.exec) {k' : Fin 4} {x : Int32} (hd : decode c.code pc = .ok (.istore_n k', 1)) (hl : storeLocals Ls k'.val (.int x) = some Ls') (hp : pc + 1 = pc')
    (k : own_Out p e below P T (mkF m pc' Ls' (S))) : own_Out p e below P T (mkF m pc Ls (.int x :: S)) := by
  subst hp
  exact own_by (fun _ => XS.istoreN X.here hx rfl hd rfl hl) k
theorem o_istore (X : Stand p l e R s m args below meth c T locs cells slots) (hx : p.tables.exec = Jvm.exec) {k' : Nat} {x : Int32} (hd : decode c.code pc = .ok (.istore k', 2)) (hl : storeLocals Ls k' (.int x) = some Ls') (hp : pc + 2 = pc')
    (k : own_Out p e below P T (mkF m pc' Ls' (S))) : own_Out p e below P T (mkF m pc Ls (.int x :: S)) := by
  subst hp
  exact own_by (fun _ => XS.istore X.here hx rfl hd rfl hl) k
theorem o_lstoreN (X : Stand p l e R s m args below meth c T locs cells slots) (hx : p.tables.exec = Jvm.exec) {k' : Fin 4} {x : Int64} (hd : decode c.code pc = .ok (.lstore_n k', 1)) (hl : storeLocals Ls k'.val (.long x) = some Ls') (hp : pc + 1 = pc')
    (k : own_Out p e below P T (mkF m pc' Ls' (S))) : own_Out p e below P T (mkF m pc Ls (.long x :: S)) := by
  subst hp
  exact own_by (fun _ => XS.lstoreN X.here hx rfl hd rfl hl) k
theorem o_lstore (X : Stand p l e R s m args below meth c T locs cells slots) (hx : p.tables.exec = Jvm.exec) {k' : Nat} {x : Int64} (hd : decode c.code pc = .ok (.lstore k', 2)) (hl : storeLocals Ls k' (.long x) = some Ls') (hp : pc + 2 = pc')
    (k : own_Out p e below P T (mkF m pc' Ls' (S))) : own_Out p e below P T (mkF m pc Ls (.long x :: S)) := by
  subst hp
  exact own_by (fun _ => XS.lstore X.here hx rfl hd rfl hl) k
theorem o_astoreN (X : Stand p l e R s m args below meth c T locs cells slots) (hx : p.tables.exec = Jvm.exec) {k' : Fin 4} {x : Value} (hd : decode c.code pc = .ok (.astore_n k', 1)) (hv : x.isRef = true) (hl : storeLocals Ls k'.val x = some Ls') (hp : pc + 1 = pc')
    (k : own_Out p e below P T (mkF m pc' Ls' (S))) : own_Out p e below P T (mkF m pc Ls (x :: S)) := by
  subst hp
  exact own_by (fun _ => XS.astoreN X.here hx rfl hd rfl hv hl) k
theorem o_astore (X : Stand p l e R s m args below meth c T locs cells slots) (hx : p.tables.exec = Jvm.exec) {k' : Nat} {x : Value} (hd : decode c.code pc = .ok (.astore k', 2)) (hv : x.isRef = true) (hl : storeLocals Ls k' x = some Ls') (hp : pc + 2 = pc')
    (k : own_Out p e below P T (mkF m pc' Ls' (S))) : own_Out p e below P T (mkF m pc Ls (x :: S)) := by
  subst hp
  exact own_by (fun _ => XS.astore X.here hx rfl hd rfl hv hl) k
theorem o_iconst (X : Stand p l e R s m args below meth c T locs cells slots) (hx : p.tables.exec = Jvm.exec) {i : Int} {v : Int32} (hd : decode c.code pc = .ok (.iconst i, 1)) (hv : Int32.ofInt i = v) (hp : pc + 1 = pc')
    (k : own_Out p e below P T (mkF m pc' Ls (.int v :: S))) : own_Out p e below P T (mkF m pc Ls (S)) := by
  subst hp
  subst hv
  exact own_by (fun _ => XS.iconst X.here hx rfl hd) k
theorem o_bipush (X : Stand p l e R s m args below meth c T locs cells slots) (hx : p.tables.exec = Jvm.exec) {i : Int} {v : Int32} (hd : decode c.code pc = .ok (.bipush i, 2)) (hv : (Int8.ofInt i).toInt32 = v) (hp : pc + 2 = pc')
    (k : own_Out p e below P T (mkF m pc' Ls (.int v :: S))) : own_Out p e below P T (mkF m pc Ls (S)) := by
  subst hp
  subst hv
  exact own_by (fun _ => XS.bipush X.here hx rfl hd) k
theorem o_sipush (X : Stand p l e R s m args below meth c T locs cells slots) (hx : p.tables.exec = Jvm.exec) {i : Int} {v : Int32} (hd : decode c.code pc = .ok (.sipush i, 3)) (hv : (Int16.ofInt i).toInt32 = v) (hp : pc + 3 = pc')
    (k : own_Out p e below P T (mkF m pc' Ls (.int v :: S))) : own_Out p e below P T (mkF m pc Ls (S)) := by
  subst hp
  subst hv
  exact own_by (fun _ => XS.sipush X.here hx rfl hd) k
theorem o_lconst (X : Stand p l e R s m args below meth c T locs cells slots) (hx : p.tables.exec = Jvm.exec) {i : Fin 2} {v : Int64} (hd : decode c.code pc = .ok (.lconst i, 1)) (hv : Int64.ofNat i = v) (hp : pc + 1 = pc')
    (k : own_Out p e below P T (mkF m pc' Ls (.long v :: S))) : own_Out p e below P T (mkF m pc Ls (S)) := by
  subst hp
  subst hv
  exact own_by (fun _ => XS.lconst X.here hx rfl hd) k
theorem o_aconst_null (X : Stand p l e R s m args below meth c T locs cells slots) (hx : p.tables.exec = Jvm.exec) (hd : decode c.code pc = .ok (.aconst_null, 1)) (hp : pc + 1 = pc')
    (k : own_Out p e below P T (mkF m pc' Ls (.null :: S))) : own_Out p e below P T (mkF m pc Ls (S)) := by
  subst hp
  exact own_by (fun _ => XS.aconstNull X.here hx rfl hd) k
theorem o_iadd (X : Stand p l e R s m args below meth c T locs cells slots) (hx : p.tables.exec = Jvm.exec) {x y : Int32} (hd : decode c.code pc = .ok (.iadd, 1)) (hp : pc + 1 = pc')
    (k : own_Out p e below P T (mkF m pc' Ls (.int (x + y) :: S))) : own_Out p e below P T (mkF m pc Ls (.int y :: .int x :: S)) := by
  subst hp
  exact own_by (fun _ => XS.iadd X.here hx rfl hd rfl) k
theorem o_isub (X : Stand p l e R s m args below meth c T locs cells slots) (hx : p.tables.exec = Jvm.exec) {x y : Int32} (hd : decode c.code pc = .ok (.isub, 1)) (hp : pc + 1 = pc')
    (k : own_Out p e below P T (mkF m pc' Ls (.int (x - y) :: S))) : own_Out p e below P T (mkF m pc Ls (.int y :: .int x :: S)) := by
  subst hp
  exact own_by (fun _ => XS.isub X.here hx rfl hd rfl) k
theorem o_imul (X : Stand p l e R s m args below meth c T locs cells slots) (hx : p.tables.exec = Jvm.exec) {x y : Int32} (hd : decode c.code pc = .ok (.imul, 1)) (hp : pc + 1 = pc')
    (k : own_Out p e below P T (mkF m pc' Ls (.int (x * y) :: S))) : own_Out p e below P T (mkF m pc Ls (.int y :: .int x :: S)) := by
  subst hp
  exact own_by (fun _ => XS.imul X.here hx rfl hd rfl) k
theorem o_iand (X : Stand p l e R s m args below meth c T locs cells slots) (hx : p.tables.exec = Jvm.exec) {x y : Int32} (hd : decode c.code pc = .ok (.iand, 1)) (hp : pc + 1 = pc')
    (k : own_Out p e below P T (mkF m pc' Ls (.int (x &&& y) :: S))) : own_Out p e below P T (mkF m pc Ls (.int y :: .int x :: S)) := by
  subst hp
  exact own_by (fun _ => XS.iand X.here hx rfl hd rfl) k
theorem o_ior (X : Stand p l e R s m args below meth c T locs cells slots) (hx : p.tables.exec = Jvm.exec) {x y : Int32} (hd : decode c.code pc = .ok (.ior, 1)) (hp : pc + 1 = pc')
    (k : own_Out p e below P T (mkF m pc' Ls (.int (x ||| y) :: S))) : own_Out p e below P T (mkF m pc Ls (.int y :: .int x :: S)) := by
  subst hp
  exact own_by (fun _ => XS.ior X.here hx rfl hd rfl) k
theorem o_ixor (X : Stand p l e R s m args below meth c T locs cells slots) (hx : p.tables.exec = Jvm.exec) {x y : Int32} (hd : decode c.code pc = .ok (.ixor, 1)) (hp : pc + 1 = pc')
    (k : own_Out p e below P T (mkF m pc' Ls (.int (x ^^^ y) :: S))) : own_Out p e below P T (mkF m pc Ls (.int y :: .int x :: S)) := by
  subst hp
  exact own_by (fun _ => XS.ixor X.here hx rfl hd rfl) k
theorem o_ladd (X : Stand p l e R s m args below meth c T locs cells slots) (hx : p.tables.exec = Jvm.exec) {x y : Int64} (hd : decode c.code pc = .ok (.ladd, 1)) (hp : pc + 1 = pc')
    (k : own_Out p e below P T (mkF m pc' Ls (.long (x + y) :: S))) : own_Out p e below P T (mkF m pc Ls (.long y :: .long x :: S)) := by
  subst hp
  exact own_by (fun _ => XS.ladd X.here hx rfl hd rfl) k
theorem o_lsub (X : Stand p l e R s m args below meth c T locs cells slots) (hx : p.tables.exec = Jvm.exec) {x y : Int64} (hd : decode c.code pc = .ok (.lsub, 1)) (hp : pc + 1 = pc')
    (k : own_Out p e below P T (mkF m pc' Ls (.long (x - y) :: S))) : own_Out p e below P T (mkF m pc Ls (.long y :: .long x :: S)) := by
  subst hp
  exact own_by (fun _ => XS.lsub X.here hx rfl hd rfl) k
theorem o_lmul (X : Stand p l e R s m args below meth c T locs cells slots) (hx : p.tables.exec = Jvm.exec) {x y : Int64} (hd : decode c.code pc = .ok (.lmul, 1)) (hp : pc + 1 = pc')
    (k : own_Out p e below P T (mkF m pc' Ls (.long (x * y) :: S))) : own_Out p e below P T (mkF m pc Ls (.long y :: .long x :: S)) := by
  subst hp
  exact own_by (fun _ => XS.lmul X.here hx rfl hd rfl) k
theorem o_land (X : Stand p l e R s m args below meth c T locs cells slots) (hx : p.tables.exec = Jvm.exec) {x y : Int64} (hd : decode c.code pc = .ok (.land, 1)) (hp : pc + 1 = pc')
    (k : own_Out p e below P T (mkF m pc' Ls (.long (x &&& y) :: S))) : own_Out p e below P T (mkF m pc Ls (.long y :: .long x :: S)) := by
  subst hp
  exact own_by (fun _ => XS.land X.here hx rfl hd rfl) k
theorem o_lor (X : Stand p l e R s m args below meth c T locs cells slots) (hx : p.tables.exec = Jvm.exec) {x y : Int64} (hd : decode c.code pc = .ok (.lor, 1)) (hp : pc + 1 = pc')
    (k : own_Out p e below P T (mkF m pc' Ls (.long (x ||| y) :: S))) : own_Out p e below P T (mkF m pc Ls (.long y :: .long x :: S)) := by
  subst hp
  exact own_by (fun _ => XS.lor X.here hx rfl hd rfl) k
theorem o_lxor (X : Stand p l e R s m args below meth c T locs cells slots) (hx : p.tables.exec = Jvm.exec) {x y : Int64} (hd : decode c.code pc = .ok (.lxor, 1)) (hp : pc + 1 = pc')
    (k : own_Out p e below P T (mkF m pc' Ls (.long (x ^^^ y) :: S))) : own_Out p e below P T (mkF m pc Ls (.long y :: .long x :: S)) := by
  subst hp
  exact own_by (fun _ => XS.lxor X.here hx rfl hd rfl) k
theorem o_ishl (X : Stand p l e R s m args below meth c T locs cells slots) (hx : p.tables.exec = Jvm.exec) {x y : Int32} (hd : decode c.code pc = .ok (.ishl, 1)) (hp : pc + 1 = pc')
    (k : own_Out p e below P T (mkF m pc' Ls (.int (x <<< (y &&& 31)) :: S))) : own_Out p e below P T (mkF m pc Ls (.int y :: .int x :: S)) := by
  subst hp
  exact own_by (fun _ => XS.ishl X.here hx rfl hd rfl) k
theorem o_iushr (X : Stand p l e R s m args below meth c T locs cells slots) (hx : p.tables.exec = Jvm.exec) {x y : Int32} (hd : decode c.code pc = .ok (.iushr, 1)) (hp : pc + 1 = pc')
    (k : own_Out p e below P T (mkF m pc' Ls (.int ((x.toUInt32 >>> (y &&& 31).toUInt32).toInt32) :: S))) : own_Out p e below P T (mkF m pc Ls (.int y :: .int x :: S)) := by
  subst hp
  exact own_by (fun _ => XS.iushr X.here hx rfl hd rfl) k
theorem o_lshl (X : Stand p l e R s m args below meth c T locs cells slots) (hx : p.tables.exec = Jvm.exec) {x : Int64} {y : Int32} (hd : decode c.code pc = .ok (.lshl, 1)) (hp : pc + 1 = pc')
    (k : own_Out p e below P T (mkF m pc' Ls (.long (x <<< (y &&& 0x3f).toInt64) :: S))) : own_Out p e below P T (mkF m pc Ls (.int y :: .long x :: S)) := by
  subst hp
  exact own_by (fun _ => XS.lshl X.here hx rfl hd rfl) k
theorem o_lushr (X : Stand p l e R s m args below meth c T locs cells slots) (hx : p.tables.exec = Jvm.exec) {x : Int64} {y : Int32} (hd : decode c.code pc = .ok (.lushr, 1)) (hp : pc + 1 = pc')
    (k : own_Out p e below P T (mkF m pc' Ls (.long ((x.toUInt64 >>> (y &&& 0x3f).toInt64.toUInt64).toInt64) :: S))) : own_Out p e below P T (mkF m pc Ls (.int y :: .long x :: S)) := by
  subst hp
  exact own_by (fun _ => XS.lushr X.here hx rfl hd rfl) k
theorem o_ldiv (X : Stand p l e R s m args below meth c T locs cells slots) (hx : p.tables.exec = Jvm.exec) {x y : Int64} (hd : decode c.code pc = .ok (.ldiv, 1)) (hy : y ≠ 0) (hp : pc + 1 = pc')
    (k : own_Out p e below P T (mkF m pc' Ls (.long (x / y) :: S))) : own_Out p e below P T (mkF m pc Ls (.long y :: .long x :: S)) := by
  subst hp
  exact own_by (fun _ => XS.ldiv X.here hx rfl hd rfl hy) k
theorem o_irem (X : Stand p l e R s m args below meth c T locs cells slots) (hx : p.tables.exec = Jvm.exec) {x y : Int32} (hd : decode c.code pc = .ok (.irem, 1)) (hy : y ≠ 0) (hp : pc + 1 = pc')
    (k : own_Out p e below P T (mkF m pc' Ls (.int (x % y) :: S))) : own_Out p e below P T (mkF m pc Ls (.int y :: .int x :: S)) := by
  subst hp
  exact own_by (fun _ => iremM X hx rfl hd rfl hy) k
theorem o_i2b (X : Stand p l e R s m args below meth c T locs cells slots) (hx : p.tables.exec = Jvm.exec) {v : Int32} (hd : decode c.code pc = .ok (.i2b, 1)) (hp : pc + 1 = pc')
    (k : own_Out p e below P T (mkF m pc' Ls (.int (v.toInt8.toInt32) :: S))) : own_Out p e below P T (mkF m pc Ls (.int v :: S)) := by
  subst hp
  exact own_by (fun _ => XS.i2b X.here hx rfl hd rfl) k
theorem o_i2c (X : Stand p l e R s m args below meth c T locs cells slots) (hx : p.tables.exec = Jvm.exec) {v : Int32} (hd : decode c.code pc = .ok (.i2c, 1)) (hp : pc + 1 = pc')
    (k : own_Out p e below P T (mkF m pc' Ls (.int (v.toUInt32.toUInt16.toUInt32.toInt32) :: S))) : own_Out p e below P T (mkF m pc Ls (.int v :: S)) := by
  subst hp
  exact own_by (fun _ => XS.i2c X.here hx rfl hd rfl) k
theorem o_i2s (X : Stand p l e R s m args below meth c T locs cells slots) (hx : p.tables.exec = Jvm.exec) {v : Int32} (hd : decode c.code pc = .ok (.i2s, 1)) (hp : pc + 1 = pc')
    (k : own_Out p e below P T (mkF m pc' Ls (.int (v.toInt16.toInt32) :: S))) : own_Out p e below P T (mkF m pc Ls (.int v :: S)) := by
  subst hp
  exact own_by (fun _ => XS.i2s X.here hx rfl hd rfl) k
theorem o_i2l (X : Stand p l e R s m args below meth c T locs cells slots) (hx : p.tables.exec = Jvm.exec) {v : Int32} (hd : decode c.code pc = .ok (.i2l, 1)) (hp : pc + 1 = pc')
    (k : own_Out p e below P T (mkF m pc' Ls (.long (v.toInt64) :: S))) : own_Out p e below P T (mkF m pc Ls (.int v :: S)) := by
  subst hp
  exact own_by (fun _ => XS.i2l X.here hx rfl hd rfl) k
theorem o_l2i (X : Stand p l e R s m args below meth c T locs cells slots) (hx : p.tables.exec = Jvm.exec) {v : Int64} (hd : decode c.code pc = .ok (.l2i, 1)) (hp : pc + 1 = pc')
    (k : own_Out p e below P T (mkF m pc' Ls (.int (v.toInt32) :: S))) : own_Out p e below P T (mkF m pc Ls (.long v :: S)) := by
  subst hp
  exact own_by (fun _ => XS.l2i X.here hx rfl hd rfl) k
theorem o_lcmp (X : Stand p l e R s m args below meth c T locs cells slots) (hx : p.tables.exec = Jvm.exec) {x y : Int64} (hd : decode c.code pc = .ok (.lcmp, 1)) (hp : pc + 1 = pc')
    (k : own_Out p e below P T (mkF m pc' Ls (.int (lcmpW x y) :: S))) : own_Out p e below P T (mkF m pc Ls (.long y :: .long x :: S)) := by
  subst hp
  exact own_by (fun _ => XS.lcmp X.here hx rfl hd rfl) k
theorem o_dup (X : Stand p l e R s m args below meth c T locs cells slots) (hx : p.tables.exec = Jvm.exec) {x : Value} (hd : decode c.code pc = .ok (.dup, 1)) (hc : x.category = 1) (hp : pc + 1 = pc')
    (k : own_Out p e below P T (mkF m pc' Ls (x :: x :: S))) : own_Out p e below P T (mkF m pc Ls (x :: S)) := by
  subst hp
  exact own_by (fun _ => XS.dup X.here hx rfl hd rfl hc) k
theorem o_pop (X : Stand p l e R s m args below meth c T locs cells slots) (hx : p.tables.exec = Jvm.exec) {x : Value} (hd : decode c.code pc = .ok (.pop, 1)) (hc : x.category = 1) (hp : pc + 1 = pc')
    (k : own_Out p e below P T (mkF m pc' Ls (S))) : own_Out p e below P T (mkF m pc Ls (x :: S)) := by
  subst hp
  exact own_by (fun _ => XS.pop X.here hx rfl hd rfl hc) k
theorem o_dup_x1 (X : Stand p l e R s m args below meth c T locs cells slots) (hx : p.tables.exec = Jvm.exec) {x y : Value} (hd : decode c.code pc = .ok (.dup_x1, 1)) (hc : x.category = 1) (hc2 : y.category = 1) (hp : pc + 1 = pc')
    (k : own_Out p e below P T (mkF m pc' Ls (x :: y :: x :: S))) : own_Out p e below P T (mkF m pc Ls (x :: y :: S)) := by
  subst hp
  exact own_by (fun _ => XS.dupX1 X.here hx rfl hd rfl hc hc2) k
theorem o_iinc (X : Stand p l e R s m args below meth c T locs cells slots) (hx : p.tables.exec = Jvm.exec) {k' : Nat} {cst : Int} {x y : Int32} (hd : decode c.code pc = .ok (.iinc k' cst, 3)) (hl : Ls[k']? = some (.val (.int x))) (hy : x + Int32.ofInt cst = y) (hl' : storeLocals Ls k' (.int y) = some Ls') (hp : pc + 3 = pc')
    (k : own_Out p e below P T (mkF m pc' Ls' (S))) : own_Out p e below P T (mkF m pc Ls (S)) := by
  subst hp
  subst hy
  exact own_by (fun _ => XS.iinc X.here hx rfl hd hl hl') k
theorem o_goto (X : Stand p l e R s m args below meth c T locs cells slots) (hx : p.tables.exec = Jvm.exec) {o : Int} (hd : decode c.code pc = .ok (.goto o, 3)) (ho : (pc : Int) + o = (pc' : Int))
    (k : own_Out p e below P T (mkF m pc' Ls (S))) : own_Out p e below P T (mkF m pc Ls (S)) :=
  own_by (fun _ => XS.goto X.here hx rfl (pc0 := pc) (pc' := pc') rfl hd (by omega) (by omega)) k
theorem o_icmp_lt (X : Stand p l e R s m args below meth c T locs cells slots) (hx : p.tables.exec = Jvm.exec) {x y : Int32} {o : Int} {pn : Nat} (hd : decode c.code pc = .ok (.if_icmp .lt o, 3)) (ho : (pc : Int) + o = (pc' : Int)) (hp : pc + 3 = pn)
    (kY : x < y → own_Out p e below P T (mkF m pc' Ls (S))) (kN : ¬ (x < y) → own_Out p e below P T (mkF m pn Ls (S))) : own_Out p e below P T (mkF m pc Ls (.int y :: .int x :: S)) := by
  subst hp
  by_cases q : x < y
  · exact own_by (fun _ => XS.icmpYes X.here hx rfl (pc0 := pc) (pc' := pc') rfl hd rfl (tlt q).1 (by omega) (by omega)) (kY q)
  · exact own_by (fun _ => XS.icmpNo X.here hx rfl hd rfl (flt q).1) (kN q)
theorem o_if_lt (X : Stand p l e R s m args below meth c T locs cells slots) (hx : p.tables.exec = Jvm.exec) {x : Int32} {o : Int} {pn : Nat} (hd : decode c.code pc = .ok (.ifCond .lt o, 3)) (ho : (pc : Int) + o = (pc' : Int)) (hp : pc + 3 = pn)
    (kY : x < 0 → own_Out p e below P T (mkF m pc' Ls (S))) (kN : ¬ (x < 0) → own_Out p e below P T (mkF m pn Ls (S))) : own_Out p e below P T (mkF m pc Ls (.int x :: S)) := by
  subst hp
  by_cases q : x < 0
  · exact own_by (fun _ => XS.ifYes X.here hx rfl (pc0 := pc) (pc' := pc') rfl hd rfl ((if0 _ _).trans (tlt q).1) (by omega) (by omega)) (kY q)
  · exact own_by (fun _ => XS.ifNo X.here hx rfl hd rfl ((if0 _ _).trans (flt q).1)) (kN q)
theorem o_icmp_ge (X : Stand p l e R s m args below meth c T locs cells slots) (hx : p.tables.exec = Jvm.exec) {x y : Int32} {o : Int} {pn : Nat} (hd : decode c.code pc = .ok (.if_icmp .ge o, 3)) (ho : (pc : Int) + o = (pc' : Int)) (hp : pc + 3 = pn)
    (kY : ¬ (x < y) → own_Out p e below P T (mkF m pc' Ls (S))) (kN : x < y → own_Out p e below P T (mkF m pn Ls (S))) : own_Out p e below P T (mkF m pc Ls (.int y :: .int x :: S)) := by
  subst hp
  by_cases q : x < y
  · exact own_by (fun _ => XS.icmpNo X.here hx rfl hd rfl (tlt q).2.1) (kN q)
  · exact own_by (fun _ => XS.icmpYes X.here hx rfl (pc0 := pc) (pc' := pc') rfl hd rfl (flt q).2.1 (by omega) (by omega)) (kY q)
theorem o_if_ge (X : Stand p l e R s m args below meth c T locs cells slots) (hx : p.tables.exec = Jvm.exec) {x : Int32} {o : Int} {pn : Nat} (hd : decode c.code pc = .ok (.ifCond .ge o, 3)) (ho : (pc : Int) + o = (pc' : Int)) (hp : pc + 3 = pn)
    (kY : ¬ (x < 0) → own_Out p e below P T (mkF m pc' Ls (S))) (kN : x < 0 → own_Out p e below P T (mkF m pn Ls (S))) : own_Out p e below P T (mkF m pc Ls (.int x :: S)) := by
  subst hp
  by_cases q : x < 0
  · exact own_by (fun _ => XS.ifNo X.here hx rfl hd rfl ((if0 _ _).trans (tlt q).2.1)) (kN q)
  · exact own_by (fun _ => XS.ifYes X.here hx rfl (pc0 := pc) (pc' := pc') rfl hd rfl ((if0 _ _).trans (flt q).2.1) (by omega) (by omega)) (kY q)
theorem o_icmp_gt (X : Stand p l e R s m args below meth c T locs cells slots) (hx : p.tables.exec = Jvm.exec) {x y : Int32} {o : Int} {pn : Nat} (hd : decode c.code pc = .ok (.if_icmp .gt o, 3)) (ho : (pc : Int) + o = (pc' : Int)) (hp : pc + 3 = pn)
    (kY : y < x → own_Out p e below P T (mkF m pc' Ls (S))) (kN : ¬ (y < x) → own_Out p e below P T (mkF m pn Ls (S))) : own_Out p e below P T (mkF m pc Ls (.int y :: .int x :: S)) := by
  subst hp
  by_cases q : y < x
  · exact own_by (fun _ => XS.icmpYes X.here hx rfl (pc0 := pc) (pc' := pc') rfl hd rfl (tlt q).2.2.1 (by omega) (by omega)) (kY q)
  · exact own_by (fun _ => XS.icmpNo X.here hx rfl hd rfl (flt q).2.2.1) (kN q)
theorem o_if_gt (X : Stand p l e R s m args below meth c T locs cells slots) (hx : p.tables.exec = Jvm.exec) {x : Int32} {o : Int} {pn : Nat} (hd : decode c.code pc = .ok (.ifCond .gt o, 3)) (ho : (pc : Int) + o = (pc' : Int)) (hp : pc + 3 = pn)
    (kY : 0 < x → own_Out p e below P T (mkF m pc' Ls (S))) (kN : ¬ (0 < x) → own_Out p e below P T (mkF m pn Ls (S))) : own_Out p e below P T (mkF m pc Ls (.int x :: S)) := by
  subst hp
  by_cases q : 0 < x
  · exact own_by (fun _ => XS.ifYes X.here hx rfl (pc0 := pc) (pc' := pc') rfl hd rfl ((if0 _ _).trans (tlt q).2.2.1) (by omega) (by omega)) (kY q)
  · exact own_by (fun _ => XS.ifNo X.here hx rfl hd rfl ((if0 _ _).trans (flt q).2.2.1)) (kN q)
theorem o_icmp_le (X : Stand p l e R s m args below meth c T locs cells slots) (hx : p.tables.exec = Jvm.exec) {x y : Int32} {o : Int} {pn : Nat} (hd : decode c.code pc = .ok (.if_icmp .le o, 3)) (ho : (pc : Int) + o = (pc' : Int)) (hp : pc + 3 = pn)
    (kY : ¬ (y < x) → own_Out p e below P T (mkF m pc' Ls (S))) (kN : y < x → own_Out p e below P T (mkF m pn Ls (S))) : own_Out p e below P T (mkF m pc Ls (.int y :: .int x :: S)) := by
  subst hp
  by_cases q : y < x
  · exact own_by (fun _ => XS.icmpNo X.here hx rfl hd rfl (tlt q).2.2.2) (kN q)
  · exact own_by (fun _ => XS.icmpYes X.here hx rfl (pc0 := pc) (pc' := pc') rfl hd rfl (flt q).2.2.2 (by omega) (by omega)) (kY q)
theorem o_if_le (X : Stand p l e R s m args below meth c T locs cells slots) (hx : p.tables.exec = Jvm.exec) {x : Int32} {o : Int} {pn : Nat} (hd : decode c.code pc = .ok (.ifCond .le o, 3)) (ho : (pc : Int) + o = (pc' : Int)) (hp : pc + 3 = pn)
    (kY : ¬ (0 < x) → own_Out p e below P T (mkF m pc' Ls (S))) (kN : 0 < x → own_Out p e below P T (mkF m pn Ls (S))) : own_Out p e below P T (mkF m pc Ls (.int x :: S)) := by
  subst hp
  by_cases q : 0 < x
  · exact own_by (fun _ => XS.ifNo X.here hx rfl hd rfl ((if0 _ _).trans (tlt q).2.2.2)) (kN q)
  · exact own_by (fun _ => XS.ifYes X.here hx rfl (pc0 := pc) (pc' := pc') rfl hd rfl ((if0 _ _).trans (flt q).2.2.2) (by omega) (by omega)) (kY q)
theorem o_icmp_eq (X : Stand p l e R s m args below meth c T locs cells slots) (hx : p.tables.exec = Jvm.exec) {x y : Int32} {o : Int} {pn : Nat} (hd : decode c.code pc = .ok (.if_icmp .eq o, 3)) (ho : (pc : Int) + o = (pc' : Int)) (hp : pc + 3 = pn)
    (kY : x = y → own_Out p e below P T (mkF m pc' Ls (S))) (kN : ¬ (x = y) → own_Out p e below P T (mkF m pn Ls (S))) : own_Out p e below P T (mkF m pc Ls (.int y :: .int x :: S)) := by
  subst hp
  by_cases q : x = y
  · exact own_by (fun _ => XS.icmpYes X.here hx rfl (pc0 := pc) (pc' := pc') rfl hd rfl (teq q).1 (by omega) (by omega)) (kY q)
  · exact own_by (fun _ => XS.icmpNo X.here hx rfl hd rfl (feq q).1) (kN q)
theorem o_if_eq (X : Stand p l e R s m args below meth c T locs cells slots) (hx : p.tables.exec = Jvm.exec) {x : Int32} {o : Int} {pn : Nat} (hd : decode c.code pc = .ok (.ifCond .eq o, 3)) (ho : (pc : Int) + o = (pc' : Int)) (hp : pc + 3 = pn)
    (kY : x = 0 → own_Out p e below P T (mkF m pc' Ls (S))) (kN : ¬ (x = 0) → own_Out p e below P T (mkF m pn Ls (S))) : own_Out p e below P T (mkF m pc Ls (.int x :: S)) := by
  subst hp
  by_cases q : x = 0
  · exact own_by (fun _ => XS.ifYes X.here hx rfl (pc0 := pc) (pc' := pc') rfl hd rfl ((if0 _ _).trans (teq q).1) (by omega) (by omega)) (kY q)
  · exact own_by (fun _ => XS.ifNo X.here hx rfl hd rfl ((if0 _ _).trans (feq q).1)) (kN q)
theorem o_icmp_ne (X : Stand p l e R s m args below meth c T locs cells slots) (hx : p.tables.exec = Jvm.exec) {x y : Int32} {o : Int} {pn : Nat} (hd : decode c.code pc = .ok (.if_icmp .ne o, 3)) (ho : (pc : Int) + o = (pc' : Int)) (hp : pc + 3 = pn)
    (kY : ¬ (x = y) → own_Out p e below P T (mkF m pc' Ls (S))) (kN : x = y → own_Out p e below P T (mkF m pn Ls (S))) : own_Out p e below P T (mkF m pc Ls (.int y :: .int x :: S)) := by
  subst hp
  by_cases q : x = y
  · exact own_by (fun _ => XS.icmpNo X.here hx rfl hd rfl (teq q).2) (kN q)
  · exact own_by (fun _ => XS.icmpYes X.here hx rfl (pc0 := pc) (pc' := pc') rfl hd rfl (feq q).2 (by omega) (by omega)) (kY q)
theorem o_if_ne (X : Stand p l e R s m args below meth c T locs cells slots) (hx : p.tables.exec = Jvm.exec) {x : Int32} {o : Int} {pn : Nat} (hd : decode c.code pc = .ok (.ifCond .ne o, 3)) (ho : (pc : Int) + o = (pc' : Int)) (hp : pc + 3 = pn)
    (kY : ¬ (x = 0) → own_Out p e below P T (mkF m pc' Ls (S))) (kN : x = 0 → own_Out p e below P T (mkF m pn Ls (S))) : own_Out p e below P T (mkF m pc Ls (.int x :: S)) := by
  subst hp
  by_cases q : x = 0
  · exact own_by (fun _ => XS.ifNo X.here hx rfl hd rfl ((if0 _ _).trans (teq q).2)) (kN q)
  · exact own_by (fun _ => XS.ifYes X.here hx rfl (pc0 := pc) (pc' := pc') rfl hd rfl ((if0 _ _).trans (feq q).2) (by omega) (by omega)) (kY q)
theorem o_acmp_eq (X : Stand p l e R s m args below meth c T locs cells slots) (hx : p.tables.exec = Jvm.exec) {a b : Addr} {o : Int} {pn : Nat} (hd : decode c.code pc = .ok (.if_acmp .eq o, 3)) (ho : (pc : Int) + o = (pc' : Int)) (hp : pc + 3 = pn)
    (kY : a = b → own_Out p e below P T (mkF m pc' Ls (S))) (kN : ¬ a = b → own_Out p e below P T (mkF m pn Ls (S))) : own_Out p e below P T (mkF m pc Ls (.ref b :: .ref a :: S)) := by
  subst hp
  by_cases q : a = b
  · exact own_by (fun _ => XS.acmpYes X.here hx rfl (pc0 := pc) (pc' := pc') rfl hd rfl (by simp [if_acmp.holds, q]) (by omega) (by omega)) (kY q)
  · exact own_by (fun _ => XS.acmpNo X.here hx rfl hd rfl (by simp [if_acmp.holds, q])) (kN q)
theorem o_acmp_ne (X : Stand p l e R s m args below meth c T locs cells slots) (hx : p.tables.exec = Jvm.exec) {a b : Addr} {o : Int} {pn : Nat} (hd : decode c.code pc = .ok (.if_acmp .ne o, 3)) (ho : (pc : Int) + o = (pc' : Int)) (hp : pc + 3 = pn)
    (kY : ¬ a = b → own_Out p e below P T (mkF m pc' Ls (S))) (kN : a = b → own_Out p e below P T (mkF m pn Ls (S))) : own_Out p e below P T (mkF m pc Ls (.ref b :: .ref a :: S)) := by
  subst hp
  by_cases q : a = b
  · exact own_by (fun _ => XS.acmpNo X.here hx rfl hd rfl (by simp [if_acmp.holds, q])) (kN q)
  · exact own_by (fun _ => XS.acmpYes X.here hx rfl (pc0 := pc) (pc' := pc') rfl hd rfl (by simp [if_acmp.holds, q]) (by omega) (by omega)) (kY q)
theorem o_ifnullY (X : Stand p l e R s m args below meth c T locs cells slots) (hx : p.tables.exec = Jvm.exec) {o : Int} (hd : decode c.code pc = .ok (.ifnull o, 3)) (ho : (pc : Int) + o = (pc' : Int)) (k : own_Out p e below P T (mkF m pc' Ls (S))) : own_Out p e below P T (mkF m pc Ls (.null :: S)) :=
  own_by (fun _ => XS.ifnullYes X.here hx rfl (pc0 := pc) (pc' := pc') rfl hd rfl (by omega) (by omega)) k
theorem o_ifnullN (X : Stand p l e R s m args below meth c T locs cells slots) (hx : p.tables.exec = Jvm.exec) {o : Int} {b : Addr} (hd : decode c.code pc = .ok (.ifnull o, 3)) (hp : pc + 3 = pc') (k : own_Out p e below P T (mkF m pc' Ls (S))) : own_Out p e below P T (mkF m pc Ls (.ref b :: S)) := by
  subst hp
  exact own_by (fun _ => XS.ifnullNo X.here hx rfl hd rfl) k
theorem o_ldcI (X : Stand p l e R s m args below meth c T locs cells slots) (hx : p.tables.exec = Jvm.exec) (hZ : Z.Warmed39 s.vm) {own : String} {index : Nat} {v : Int32} (hown : s.vm.findClass own = some m.cls) (w : (Cond.constant own index v).before a0 Z = true) (hd : decode c.code pc = .ok (.ldc index, 2)) (hp : pc + 2 = pc') (k : own_Out p e below P T (mkF m pc' Ls (.int v :: S))) : own_Out p e below P T (mkF m pc Ls (S)) := by
  subst hp
  exact own_by (X.ldcInt hx hown (mvT hZ w) (g := mkF m pc Ls S) rfl hd) k
theorem o_ldcL (X : Stand p l e R s m args below meth c T locs cells slots) (hx : p.tables.exec = Jvm.exec) (hZ : Z.Warmed39 s.vm) {own : String} {index : Nat} {v : Int64} (hown : s.vm.findClass own = some m.cls) (w : (Cond.constantLong own index v).before a0 Z = true) (hd : decode c.code pc = .ok (.ldc2_w index, 3)) (hp : pc + 3 = pc') (k : own_Out p e below P T (mkF m pc' Ls (.long v :: S))) : own_Out p e below P T (mkF m pc Ls (S)) := by
  subst hp
  exact own_by (X.ldc2Long hx hown (mvT hZ w) (g := mkF m pc Ls S) rfl hd) k
theorem o_retN (X : Stand p l e R s m args below meth c T locs cells slots) (hx : p.tables.exec = Jvm.exec) {z v : Int32} {t : FieldType} (hret : meth.sig.returnType = some t) (hlk : meth.locks = false) (ht : t = .boolean ∨ t = .byte ∨ t = .char ∨ t = .short) (hd : decode c.code pc = .ok (.ireturn, 1)) (hz : nar t z = v) (hQ : Q (some (.int v)) T.heap locs) (h1 : cells ≤ kc) (h2 : slots ≤ kn) : own_Out p e below (own_P s Q kc kn) T (mkF m pc Ls (.int z :: S)) := by
  subst hz
  obtain ⟨fs, hr, hrun, hended, hW, hsame⟩ := X.leave (v := some (.int (nar t z))) (fun h => by rw [hret] at h; cases h) hlk
  exact ⟨_, _, retN X hx hret ht hd hr, hrun, hended, _, _, rfl, hQ, ⟨_, rfl⟩, hW, hsame.mono h1 h2⟩
theorem o_retW (X : Stand p l e R s m args below meth c T locs cells slots) (hx : p.tables.exec = Jvm.exec) {w : Value} {t : FieldType} {i : Instr} (hret : meth.sig.returnType = some t) (hlk : meth.locks = false) (hn : narrow t w = w) (hi : (i = .ireturn ∧ (t = .int ∨ t = .boolean ∨ t = .byte ∨ t = .char ∨ t = .short) ∧ ∃ z, w = .int z) ∨ (i = .lreturn ∧ t = .long ∧ ∃ z, w = .long z) ∨ (i = .dreturn ∧ t = .double ∧ ∃ z, w = .double z) ∨ (i = .freturn ∧ t = .float ∧ ∃ z, w = .float z) ∨ (i = .areturn ∧ t.isReference = true ∧ w.isRef = true)) (hd : decode c.code pc = .ok (i, 1)) (hQ : Q (some w) T.heap locs) (h1 : cells ≤ kc) (h2 : slots ≤ kn) : own_Out p e below (own_P s Q kc kn) T (mkF m pc Ls (w :: S)) := by
  obtain ⟨fs, hr, hrun, hended, hW, hsame⟩ := X.leave (v := some w) (fun h => by rw [hret] at h; cases h) hlk
  exact ⟨_, _, retOut X hx hret hn hi hd hr, hrun, hended, _, _, rfl, hQ, ⟨_, rfl⟩, hW, hsame.mono h1 h2⟩
theorem o_retI (X : Stand p l e R s m args below meth c T locs cells slots) (hx : p.tables.exec = Jvm.exec) {z : Int32} (hret : meth.sig.returnType = some .int) (hlk : meth.locks = false) (hd : decode c.code pc = .ok (.ireturn, 1)) (hQ : Q (some (.int z)) T.heap locs) (h1 : cells ≤ kc) (h2 : slots ≤ kn) : own_Out p e below (own_P s Q kc kn) T (mkF m pc Ls (.int z :: S)) :=
  o_retW X hx hret hlk rfl (Or.inl ⟨rfl, Or.inl rfl, _, rfl⟩) hd hQ h1 h2
theorem o_retJ (X : Stand p l e R s m args below meth c T locs cells slots) (hx : p.tables.exec = Jvm.exec) {z : Int64} (hret : meth.sig.returnType = some .long) (hlk : meth.locks = false) (hd : decode c.code pc = .ok (.lreturn, 1)) (hQ : Q (some (.long z)) T.heap locs) (h1 : cells ≤ kc) (h2 : slots ≤ kn) : own_Out p e below (own_P s Q kc kn) T (mkF m pc Ls (.long z :: S)) :=
  o_retW X hx hret hlk rfl (Or.inr (Or.inl ⟨rfl, rfl, _, rfl⟩)) hd hQ h1 h2
theorem o_retA (X : Stand p l e R s m args below meth c T locs cells slots) (hx : p.tables.exec = Jvm.exec) {w : Value} {t : FieldType} (hret : meth.sig.returnType = some t) (hlk : meth.locks = false) (ht : t.isReference = true) (hw : w.isRef = true) (hn : narrow t w = w) (hd : decode c.code pc = .ok (.areturn, 1)) (hQ : Q (some w) T.heap locs) (h1 : cells ≤ kc) (h2 : slots ≤ kn) : own_Out p e below (own_P s Q kc kn) T (mkF m pc Ls (w :: S)) :=
  o_retW X hx hret hlk hn (Or.inr (Or.inr (Or.inr (Or.inr ⟨rfl, ht, hw⟩)))) hd hQ h1 h2
theorem o_retV (X : Stand p l e R s m args below meth c T locs cells slots) (hx : p.tables.exec = Jvm.exec) (hret : meth.sig.returnType = none) (hlk : meth.locks = false) (hd : decode c.code pc = .ok (.return_, 1)) (hQ : Q none T.heap locs) (h1 : cells ≤ kc) (h2 : slots ≤ kn) : own_Out p e below (own_P s Q kc kn) T (mkF m pc Ls ([])) := by
  obtain ⟨fs, hr, hrun, hended, hW, hsame⟩ := X.leave (v := none) (fun _ => rfl) hlk
  exact ⟨_, _, X.returnOut hx hret hd hr, hrun, hended, _, _, rfl, hQ, ⟨_, rfl⟩, hW, hsame.mono h1 h2⟩
theorem o_getF (X : Stand p l e R s m args below meth c T locs cells slots) (hx : p.tables.exec = Jvm.exec) (hZ : Z.Warmed39 s.vm) {own O n d : String} {index : Nat} (hown : s.vm.findClass own = some m.cls) (w : (Cond.fieldLink own index O n d).before a0 Z = true) (eT : T.heap = h) {a : Addr} {v : Value} (F : Fld Z h a O n d v) (hd : decode c.code pc = .ok (.getfield index, 3)) (hp : pc + 3 = pc')
    (k : ∀ T', Stand p l e R s m args below meth c T' locs cells slots → T'.heap = h → own_Out p e below P T' (mkF m pc' Ls (v :: S))) : own_Out p e below P T (mkF m pc Ls (.ref a :: S)) := by
  subst hp
  obtain ⟨T1, X1, e1, st⟩ := getF X hx hZ hown (host := "") (Or.inl w) Via.refl eT F (g := mkF m pc Ls (.ref a :: S)) rfl rfl hd
  exact own_by st (k T1 X1 e1)
theorem o_getS (X : Stand p l e R s m args below meth c T locs cells slots) (hx : p.tables.exec = Jvm.exec) (hZ : Z.Warmed39 s.vm) {own O n d : String} {index : Nat} (hown : s.vm.findClass own = some m.cls) (w : (Cond.fieldLink own index O n d).before a0 Z = true) (eT : T.heap = h) {v : Value} (F : Sta Z h O n d v) (hd : decode c.code pc = .ok (.getstatic index, 3)) (hp : pc + 3 = pc')
    (k : ∀ T', Stand p l e R s m args below meth c T' locs cells slots → T'.heap = h → own_Out p e below P T' (mkF m pc' Ls (v :: S))) : own_Out p e below P T (mkF m pc Ls (S)) := by
  subst hp
  obtain ⟨T1, X1, e1, st⟩ := getS (host := "") X hx hZ hown w Via.refl eT F (g := mkF m pc Ls S) rfl hd
  exact own_by st (k T1 X1 e1)
theorem o_putF (X : Stand p l e R s m args below meth c T locs cells slots) (hx : p.tables.exec = Jvm.exec) (hZ : Z.Warmed39 s.vm) {own O n d C : String} {index kk : Nat} {ty : FieldType} (hown : s.vm.findClass own = some m.cls) (w : (Cond.fieldLink own index O n d).before a0 Z = true) (eT : T.heap = h) {a : Addr} {v old : Value} (F : Fld Z h a O n d old) (E : Exa Z h a C) (L : (Cond.lays C O n d).before a0 Z = true ∨ ((Cond.laysFinal C O n d).before a0 Z = true ∧ own = O ∧ meth.name = "<init>")) (wi : (Cond.instantiable C kk).before a0 Z = true) (hty : parseFieldDescriptor d = some ty) (hn : narrow ty v = v) (hf : fits ty v = true) (hd : decode c.code pc = .ok (.putfield index, 3)) (hp : pc + 3 = pc')
    (k : ∀ T' h', Stand p l e R s m args below meth c T' (locs ++ [⟨a, Jvm.RoadKit.slotOf Z O n d⟩]) cells slots → T'.heap = h' → Wr h h' a (Jvm.RoadKit.slotOf Z O n d) v → own_Out p e below P T' (mkF m pc' Ls (S))) : own_Out p e below P T (mkF m pc Ls (v :: .ref a :: S)) := by
  subst hp
  obtain ⟨T1, h1, X1, e1, W1, st⟩ := putF X hx hZ hown (host := "") (Or.inl w) Via.refl eT F E L wi hty hn hf (g := mkF m pc Ls (v :: .ref a :: S)) rfl rfl hd
  exact own_by st (k T1 h1 X1 e1 W1)
theorem o_new (X : Stand p l e R s m args below meth c T locs cells slots) (hx : p.tables.exec = Jvm.exec) (hZ : Z.Warmed39 s.vm) {own C : String} {index n : Nat} (hown : s.vm.findClass own = some m.cls) (w : (Cond.classLink own index C).before a0 Z = true) (wi : (Cond.instantiable C n).before a0 Z = true) (wz : (Cond.initialized C).before a0 Z = true) (eT : T.heap = h) (hd : decode c.code pc = .ok (.new index, 3)) (hc : cells + 1 ≤ R.cells) (hl : slots + n ≤ R.slots) (hp : pc + 3 = pc')
    (k : ∀ T' h' a, Stand p l e R s m args below meth c T' locs (cells + 1) (slots + n) → T'.heap = h' → Ext h h' → a = h.size → Exa Z h' a C → (∀ {O nm d : String} {ty : FieldType}, Laid Z a0 C O nm d → parseFieldDescriptor d = some ty → Fld Z h' a O nm d (defaultValue ty)) → own_Out p e below P T' (mkF m pc' Ls (.ref a :: S))) : own_Out p e below P T (mkF m pc Ls (S)) := by
  subst hp
  obtain ⟨T1, h1, X1, e1, E1, A1, D1, -, st⟩ := newO X hx hZ hown w wi wz eT (g := mkF m pc Ls S) rfl hd hc hl
  exact own_by st (k T1 h1 _ X1 e1 E1 rfl A1 D1)
theorem o_newarr (X : Stand p l e R s m args below meth c T locs cells slots) (hx : p.tables.exec = Jvm.exec) (hZ : Z.Warmed39 s.vm) {aty : ArrayType} {n : Int32} (w : (Cond.arrayClass (newarray.typeOf aty)).before a0 Z = true) (eT : T.heap = h) (hd : decode c.code pc = .ok (.newarray aty, 2)) (hn : ¬ n < 0) {cap : Nat} (hcap : n.toNatClampNeg ≤ cap) (hb : cap * 8 ≤ 536870912) (hc : cells + 1 ≤ R.cells) (hl : slots + cap ≤ R.slots) (hp : pc + 2 = pc')
    (k : ∀ T' h' a cA, Stand p l e R s m args below meth c T' locs (cells + 1) (slots + cap) → T'.heap = h' → Ext h h' → a = h.size → Arr Z h' a (newA cA (newarray.typeOf aty) n) (newarray.typeOf aty) → own_Out p e below P T' (mkF m pc' Ls (.ref a :: S))) : own_Out p e below P T (mkF m pc Ls (.int n :: S)) := by
  subst hp
  obtain ⟨T1, h1, cA, X1, e1, E1, A1, st⟩ := newP X hx hZ w eT (g := mkF m pc Ls (.int n :: S)) rfl hd rfl hn hcap hb hc hl
  exact own_by st (k T1 h1 _ cA X1 e1 E1 rfl A1)
theorem o_iastore (X : Stand p l e R s m args below meth c T locs cells slots) (hx : p.tables.exec = Jvm.exec) (hZ : Z.Warmed39 s.vm) (eT : T.heap = h) {a : Addr} {cl : Cell} (A : Arr Z h a cl .int) {j x : Int32} (hj : ¬ (j < 0 ∨ cl.slots.size ≤ j.toNatClampNeg)) (hd : decode c.code pc = .ok (.iastore, 1)) (hp : pc + 1 = pc')
    (k : ∀ T' h', Stand p l e R s m args below meth c T' (locs ++ [⟨a, j.toNatClampNeg⟩]) cells slots → T'.heap = h' → Wr h h' a j.toNatClampNeg (.int x) → own_Out p e below P T' (mkF m pc' Ls (S))) : own_Out p e below P T (mkF m pc Ls (.int x :: .int j :: .ref a :: S)) := by
  subst hp
  obtain ⟨T1, h1, X1, e1, W1, st⟩ := stI X hx hZ eT A hj (g := mkF m pc Ls (.int x :: .int j :: .ref a :: S)) rfl rfl hd
  exact own_by st (k T1 h1 X1 e1 W1)
theorem o_bastore (X : Stand p l e R s m args below meth c T locs cells slots) (hx : p.tables.exec = Jvm.exec) (hZ : Z.Warmed39 s.vm) (eT : T.heap = h) {a : Addr} {cl : Cell} (A : Arr Z h a cl .byte) {j x : Int32} (hj : ¬ (j < 0 ∨ cl.slots.size ≤ j.toNatClampNeg)) (hd : decode c.code pc = .ok (.bastore, 1)) (hp : pc + 1 = pc')
    (k : ∀ T' h', Stand p l e R s m args below meth c T' (locs ++ [⟨a, j.toNatClampNeg⟩]) cells slots → T'.heap = h' → Wr h h' a j.toNatClampNeg (.int (nar .byte x)) → own_Out p e below P T' (mkF m pc' Ls (S))) : own_Out p e below P T (mkF m pc Ls (.int x :: .int j :: .ref a :: S)) := by
  subst hp
  obtain ⟨T1, h1, X1, e1, W1, st⟩ := stB X hx hZ eT A hj (g := mkF m pc Ls (.int x :: .int j :: .ref a :: S)) rfl rfl hd
  exact own_by st (k T1 h1 X1 e1 W1)
theorem o_castore (X : Stand p l e R s m args below meth c T locs cells slots) (hx : p.tables.exec = Jvm.exec) (hZ : Z.Warmed39 s.vm) (eT : T.heap = h) {a : Addr} {cl : Cell} (A : Arr Z h a cl .char) {j x : Int32} (hj : ¬ (j < 0 ∨ cl.slots.size ≤ j.toNatClampNeg)) (hd : decode c.code pc = .ok (.castore, 1)) (hp : pc + 1 = pc')
    (k : ∀ T' h', Stand p l e R s m args below meth c T' (locs ++ [⟨a, j.toNatClampNeg⟩]) cells slots → T'.heap = h' → Wr h h' a j.toNatClampNeg (.int (nar .char x)) → own_Out p e below P T' (mkF m pc' Ls (S))) : own_Out p e below P T (mkF m pc Ls (.int x :: .int j :: .ref a :: S)) := by
  subst hp
  obtain ⟨T1, h1, X1, e1, W1, st⟩ := stC X hx hZ eT A hj (g := mkF m pc Ls (.int x :: .int j :: .ref a :: S)) rfl rfl hd
  exact own_by st (k T1 h1 X1 e1 W1)
theorem o_iaload (X : Stand p l e R s m args below meth c T locs cells slots) (hx : p.tables.exec = Jvm.exec) (hZ : Z.Warmed39 s.vm) (eT : T.heap = h) {a : Addr} {cl : Cell} (A : Arr Z h a cl .int) {j : Int32} {v : Value} (hj : ¬ (j < 0 ∨ cl.slots.size ≤ j.toNatClampNeg)) (hv : cl.slots[j.toNatClampNeg]? = some v) (hd : decode c.code pc = .ok (.iaload, 1)) (hp : pc + 1 = pc')
    (k : own_Out p e below P T (mkF m pc' Ls (v :: S))) : own_Out p e below P T (mkF m pc Ls (.int j :: .ref a :: S)) := by
  subst hp
  exact own_by (fun t => X.iaload hx (by rw [eT]; exact A.1) (State.isArrayOf_alike hZ.alike A.2.1) A.2.2 hj hv (g := mkF m pc Ls (.int j :: .ref a :: S)) rfl rfl hd t) k
theorem o_baload (X : Stand p l e R s m args below meth c T locs cells slots) (hx : p.tables.exec = Jvm.exec) (hZ : Z.Warmed39 s.vm) (eT : T.heap = h) {a : Addr} {cl : Cell} (A : Arr Z h a cl .byte) {j : Int32} {v : Value} (hj : ¬ (j < 0 ∨ cl.slots.size ≤ j.toNatClampNeg)) (hv : cl.slots[j.toNatClampNeg]? = some v) (hd : decode c.code pc = .ok (.baload, 1)) (hp : pc + 1 = pc')
    (k : own_Out p e below P T (mkF m pc' Ls (v :: S))) : own_Out p e below P T (mkF m pc Ls (.int j :: .ref a :: S)) := by
  subst hp
  exact own_by (fun t => X.baloadBytes hx (by rw [eT]; exact A.1) (State.isArrayOf_alike hZ.alike A.2.1) A.2.2 hj hv (g := mkF m pc Ls (.int j :: .ref a :: S)) rfl rfl hd t) k
theorem o_arraylength (X : Stand p l e R s m args below meth c T locs cells slots) (hx : p.tables.exec = Jvm.exec) (hZ : Z.Warmed39 s.vm) (eT : T.heap = h) {a : Addr} {cl : Cell} {ty : FieldType} (A : Arr Z h a cl ty) {n : Int32} (hn : cl.slots.size.toInt32 = n) (hd : decode c.code pc = .ok (.arraylength, 1)) (hp : pc + 1 = pc')
    (k : own_Out p e below P T (mkF m pc' Ls (.int n :: S))) : own_Out p e below P T (mkF m pc Ls (.ref a :: S)) := by
  subst hp hn
  exact own_by (fun t => X.arraylength hx (by rw [eT]; exact A.1) (State.isArrayOf_alike hZ.alike A.2.1) (g := mkF m pc Ls (.ref a :: S)) rfl rfl hd t) k
theorem o_init0 (X : Stand p l e R s m args below meth c T locs cells slots) (hx : p.tables.exec = Jvm.exec) (hZ : Z.Warmed39 s.vm) {own : String} {idx : Nat} (hown : s.vm.findClass own = some m.cls) (w1 : (Cond.methodLink own idx Lib.objectInit).before a0 Z = true) (w2 : (Cond.instanceMethod Lib.objectInit).before a0 Z = true) (w3 : (Cond.code Lib.objectInit ⟨#[0xb1]⟩ 1 none).before a0 Z = true) (eT : T.heap = h) (hsize : Ls.size = c.maxLocals) {a : Addr} (hd : decode c.code pc = .ok (.invokespecial idx, 3)) (hf : 1 ≤ R.frames) {W : Nat} (hW : (S.map fun v => v.category).sum ≤ W) (hl : W + 12 ≤ R.locals) (hp : pc + 3 = pc')
    (k : ∀ T', Stand p l e R s m args below meth c T' locs cells slots → T'.heap = h → own_Out p e below P T' (mkF m pc' Ls (S))) : own_Out p e below P T (mkF m pc Ls (.ref a :: S)) := by
  subst hp
  obtain ⟨T1, X1, e1, st⟩ := initO X hx hZ hown w1 w2 w3 eT (g := mkF m pc Ls (.ref a :: S)) rfl hsize rfl hd hf (W := W) (by show 2 * 0 + _ ≤ _; omega) hl
  exact own_by st (k T1 X1 e1)
abbrev own_Met (l : Launch) (y : MethodName) (bytes : ByteArray) (maxL : Nat) (ret : Option FieldType) (ws : List Cond) (rm : Room) (Z : State) (h0 : Heap) (as' : Array Value) (Q : Option Value → Heap → List Loc → Prop) : Prop :=
  MetFree l y (head1 (Cond.code y bytes maxL ret :: ws) rm) (fun a U => a = as' ∧ Z.Warmed39 U.vm ∧ U.heap = h0) (fun _ _ _ _ _ => True) (fun _ U o U' => ∃ v L, o = .returned v ∧ Q v U'.heap L ∧ FrameEnd U o U' L rm.cells rm.slots)
theorem o_callS (X : Stand p l e R s m args below meth c T locs cells slots) (hx : p.tables.exec = Jvm.exec) (hZ : Z.Warmed39 s.vm) {own : String} {index : Nat} {y : MethodName} {bytes : ByteArray} {maxL : Nat} {ret : Option FieldType} {rm : Room} {as' : List Value} {ps : List FieldType} {r0 : Option FieldType} {S' : List Value} (hown : s.vm.findClass own = some m.cls) (w1 : (Cond.methodLink own index y).before a0 Z = true) (w2 : (Cond.static y).before a0 Z = true) (w3 : (Cond.initialized y.cls).before a0 Z = true) (w4 : (Cond.code y bytes maxL ret).before a0 Z = true) (hy : y.cls ≠ "java/lang/invoke/MethodHandle" ∧ y.cls ≠ "java/lang/invoke/VarHandle") (eT : T.heap = h) (hM : own_Met l y bytes maxL ret [] rm Z h as'.toArray Q) (hsize : Ls.size = c.maxLocals) (hpd : parseMethodDescriptor y.desc = some ⟨ps, r0⟩) (hlen : as'.length = ps.length) {W : Nat} (hW : (S.map fun v => v.category).sum ≤ W) (hf : rm.frames + 1 ≤ R.frames) (hl : W + (maxL + 11) + rm.locals ≤ R.locals) (hd : decode c.code pc = .ok (.invokestatic index, 3)) (hc : cells + rm.cells ≤ R.cells) (hs : slots + rm.slots ≤ R.slots) (hp : pc + 3 = pc') (hst : S' = as'.reverse ++ S)
    (k : ∀ v T' L, Stand p l e R s m args below meth c T' (locs ++ L) (cells + rm.cells) (slots + rm.slots) → Q v T'.heap L → own_Out p e below P T' (mkF m pc' Ls (v.toList ++ S))) : own_Out p e below P T (mkF m pc Ls S') := by
  subst hp hst
  obtain ⟨v, vm, ⟨T1, L1, k1, n1⟩, -, X1, ⟨Lc, hQ, l1, l2, l3⟩, st⟩ := Jvm.LawKit.callS X hx (y := y) hown (mvT hZ w1) (mvT hZ w2) (mvT hZ w3) (mvT hZ w4) hy (backOf (W := W) hM hZ w4 w3 hf hl) (g := mkF m pc Ls (as'.reverse ++ S)) rfl hsize (argsL := as') (rest := S) (lenOf hpd hlen) rfl (by show 2 * 0 + _ ≤ _; omega) hd (fun _ _ => ⟨rfl, eT, hc, hs⟩)
  dsimp only [Pt.U, Pt.locs, Pt.cells, Pt.slots] at X1 l1 l2 l3 st hQ
  subst l1 l2 l3
  exact own_by st (k v T1 Lc X1 hQ)
theorem o_callI (X : Stand p l e R s m args below meth c T locs cells slots) (hx : p.tables.exec = Jvm.exec) (hZ : Z.Warmed39 s.vm) {own : String} {index : Nat} {y : MethodName} {bytes : ByteArray} {maxL : Nat} {rm : Room} {as' : List Value} {ps : List FieldType} {r0 : Option FieldType} {S' : List Value} {a : Addr} (hy1 : y.name = "<init>") (hown : s.vm.findClass own = some m.cls) (w1 : (Cond.methodLink own index y).before a0 Z = true) (w2 : (Cond.instanceMethod y).before a0 Z = true) (w3 : (Cond.initialized y.cls).before a0 Z = true) (w4 : (Cond.code y bytes maxL none).before a0 Z = true) (hy : y.cls ≠ "java/lang/invoke/MethodHandle" ∧ y.cls ≠ "java/lang/invoke/VarHandle") (eT : T.heap = h) (hM : own_Met l y bytes maxL none [] rm Z h (.ref a :: as').toArray Q) (hsize : Ls.size = c.maxLocals) (hpd : parseMethodDescriptor y.desc = some ⟨ps, r0⟩) (hlen : as'.length = ps.length) {W : Nat} (hW : (S.map fun v => v.category).sum ≤ W) (hf : rm.frames + 1 ≤ R.frames) (hl : W + (maxL + 11) + rm.locals ≤ R.locals) (hd : decode c.code pc = .ok (.invokespecial index, 3)) (hc : cells + rm.cells ≤ R.cells) (hs : slots + rm.slots ≤ R.slots) (hp : pc + 3 = pc') (hst : S' = as'.reverse ++ .ref a :: S)
    (k : ∀ v T' L, Stand p l e R s m args below meth c T' (locs ++ L) (cells + rm.cells) (slots + rm.slots) → Q v T'.heap L → own_Out p e below P T' (mkF m pc' Ls (v.toList ++ S))) : own_Out p e below P T (mkF m pc Ls S') := by
  subst hp hst
  obtain ⟨v, vm, ⟨T1, L1, k1, n1⟩, -, X1, ⟨Lc, hQ, l1, l2, l3⟩, st⟩ := X.specialBack hx (y := y) hy1 hown (mvT hZ w1) (mvT hZ w2) (mvT hZ w4) hy (backOf (W := W) hM hZ w4 w3 hf hl) (g := mkF m pc Ls (as'.reverse ++ .ref a :: S)) rfl hsize (Steps.refl _) (a := a) (argsL := as') (rest := S) (lenOf hpd hlen) rfl (by show 2 * 0 + _ ≤ _; omega) hd (fun _ _ => ⟨rfl, eT, hc, hs⟩)
  dsimp only [Pt.U, Pt.locs, Pt.cells, Pt.slots] at X1 l1 l2 l3 st hQ
  subst l1 l2 l3
  exact own_go st (k v T1 Lc X1 hQ)
theorem o_callV (X : Stand p l e R s m args below meth c T locs cells slots) (hx : p.tables.exec = Jvm.exec) (hZ : Z.Warmed39 s.vm) {own : String} {index : Nat} {y : MethodName} {bytes : ByteArray} {maxL : Nat} {ret : Option FieldType} {rm : Room} {as' : List Value} {ps : List FieldType} {r0 : Option FieldType} {S' : List Value} {C : String} {b : Addr} (hown : s.vm.findClass own = some m.cls) (w1 : (Cond.methodLink own index y).before a0 Z = true) (w2 : (Cond.declares y).before a0 Z = true) (w3 : (Cond.selects C y y).before a0 Z = true) (w4 : (Cond.instanceMethod y).before a0 Z = true) (w5 : (Cond.initialized y.cls).before a0 Z = true) (w6 : (Cond.code y bytes maxL ret).before a0 Z = true) (hy : y.cls ≠ "java/lang/invoke/MethodHandle" ∧ y.cls ≠ "java/lang/invoke/VarHandle") (eT : T.heap = h) (E : Exa Z h b C) (hM : own_Met l y bytes maxL ret [] rm Z h (.ref b :: as').toArray Q) (hsize : Ls.size = c.maxLocals) (hpd : parseMethodDescriptor y.desc = some ⟨ps, r0⟩) (hlen : as'.length = ps.length) {W : Nat} (hW : (S.map fun v => v.category).sum ≤ W) (hf : rm.frames + 1 ≤ R.frames) (hl : W + (maxL + 11) + rm.locals ≤ R.locals) (hd : decode c.code pc = .ok (.invokevirtual index, 3)) (hc : cells + rm.cells ≤ R.cells) (hs : slots + rm.slots ≤ R.slots) (hp : pc + 3 = pc') (hst : S' = as'.reverse ++ .ref b :: S)
    (k : ∀ v T' L, Stand p l e R s m args below meth c T' (locs ++ L) (cells + rm.cells) (slots + rm.slots) → Q v T'.heap L → own_Out p e below P T' (mkF m pc' Ls (v.toList ++ S))) : own_Out p e below P T (mkF m pc Ls S') := by
  subst hp hst
  obtain ⟨cq, kq, q1, q2, q3⟩ := isOf hZ eT E
  obtain ⟨v, vm, ⟨T1, L1, k1, n1⟩, -, X1, ⟨Lc, hQ, l1, l2, l3⟩, st⟩ := X.virtualBack hx (y := y) (z := y) hown (mvT hZ w1) (mvT hZ w2) (notFace_of_selects (args := #[]) (mvT hZ w3)) (mvT hZ w3) (mvT hZ w4) hy (backOf (W := W) hM hZ w6 w5 hf hl) q1 q3 (g := mkF m pc Ls (as'.reverse ++ .ref b :: S)) rfl hsize (Steps.refl _) (argsL := as') (rest := S) (lenOf hpd hlen) rfl (by show 2 * 0 + _ ≤ _; omega) hd (fun _ _ => ⟨rfl, eT, hc, hs⟩)
  dsimp only [Pt.U, Pt.locs, Pt.cells, Pt.slots] at X1 l1 l2 l3 st hQ
  subst l1 l2 l3
  exact own_go st (k v T1 Lc X1 hQ)
theorem own_pure {r : Value} {h0 : Heap} {L : List Loc} {v : Option Value} (hc : kc = 0) (hn : kn = 0) (X : Stand p l e R s m args below meth c T' (locs ++ L) (cells + kc) (slots + kn)) (q : own_Pure r h0 v T'.heap L) : v = some r ∧ Stand p l e R s m args below meth c T' locs cells slots ∧ T'.heap = h0 := by
  obtain ⟨rfl, rfl, q3⟩ := q
  subst hc hn
  rw [List.append_nil] at X
  exact ⟨rfl, X, q3⟩
theorem own_in {cl : Cell} {n : Nat} {j : Int32} (q0 : cl.slots.size = n) (q : ¬ j < 0 ∧ j.toNatClampNeg < n) : ¬ (j < 0 ∨ cl.slots.size ≤ j.toNatClampNeg) := by
  rw [q0]; rintro (z | z)
  · exact q.1 z
  · exact Nat.not_le.mpr q.2 z
theorem own_r1 : nar .boolean (1 : Int32) = 1 := by decide
theorem own_r0 : nar .boolean (0 : Int32) = 0 := by decide
theorem own_b0 {q : Prop} [Decidable q] : own_b q = 0 ↔ ¬ q := by by_cases h : q <;> simp [own_b, h]
theorem own_bc {q r : Prop} [Decidable q] [Decidable r] (h : q ↔ r) : own_b q = own_b r := by
  by_cases k : q
  · rw [own_bt k, own_bt (h.mp k)]
  · rw [own_bf k, own_bf (fun z => k (h.mpr z))]
end OwnKit
theorem own_pd0 : parseMethodDescriptor "(C)Z" = some ⟨[.char], some .boolean⟩ := by decide +kernel
theorem own_d1_0 : decode prog_192_method_2_code 0 = .ok (.iload_n 0, 1) := by decide +kernel
theorem own_d1_1 : decode prog_192_method_2_code 1 = .ok (.bipush 32, 2) := by decide +kernel
theorem own_d1_3 : decode prog_192_method_2_code 3 = .ok (.if_icmp .eq 21, 3) := by decide +kernel
theorem own_d1_6 : decode prog_192_method_2_code 6 = .ok (.iload_n 0, 1) := by decide +kernel
theorem own_d1_7 : decode prog_192_method_2_code 7 = .ok (.bipush 9, 2) := by decide +kernel
theorem own_d1_9 : decode prog_192_method_2_code 9 = .ok (.if_icmp .eq 15, 3) := by decide +kernel
theorem own_d1_12 : decode prog_192_method_2_code 12 = .ok (.iload_n 0, 1) := by decide +kernel
theorem own_d1_13 : decode prog_192_method_2_code 13 = .ok (.bipush 13, 2) := by decide +kernel
theorem own_d1_15 : decode prog_192_method_2_code 15 = .ok (.if_icmp .eq 9, 3) := by decide +kernel
theorem own_d1_18 : decode prog_192_method_2_code 18 = .ok (.iload_n 0, 1) := by decide +kernel
theorem own_d1_19 : decode prog_192_method_2_code 19 = .ok (.bipush 10, 2) := by decide +kernel
theorem own_d1_21 : decode prog_192_method_2_code 21 = .ok (.if_icmp .ne 7, 3) := by decide +kernel
theorem own_d1_24 : decode prog_192_method_2_code 24 = .ok (.iconst 1, 1) := by decide +kernel
theorem own_d1_25 : decode prog_192_method_2_code 25 = .ok (.goto 4, 3) := by decide +kernel
theorem own_d1_28 : decode prog_192_method_2_code 28 = .ok (.iconst 0, 1) := by decide +kernel
theorem own_d1_29 : decode prog_192_method_2_code 29 = .ok (.ireturn, 1) := by decide +kernel
theorem own_ef1 (m : MethodId) (x0 : Int32) : entryFrame m #[(.int x0)] 1 = mkF m 0 #[.val (.int x0)] [] := by first | (simp [entryFrame, mkF, argsToLocals, Value.category]; done) | rfl
theorem own_pn1 : plainName "com/example/weft/weft/Whitespace" = true := by first | (simp [plainName, overriddenIn]; done) | decide +kernel
set_option maxRecDepth 65536 in
set_option maxHeartbeats 40000000 in
theorem own_rm1 (l : Launch) (Z : State) (a0 : Array Value) (hw : ∀ d ∈ tables_1, d.before a0 Z = true) (ws : List Jvm.Cond) (p1 : Int32) (h0 : Heap)  :
    own_Met l (⟨"com/example/weft/weft/Whitespace", "is", "(C)Z"⟩ : MethodName) prog_192_method_2_code 1 (some .boolean) ws ({ frames := 0, cells := 0, slots := 0, locals := 0 } : Room) Z h0 #[(.int p1)] (own_Pure (.int (own_b (p1 = 32 ∨ p1 = 9 ∨ p1 = 13 ∨ p1 = 10))) h0) := by
  refine MetFree.of_bodySF (plainFor_of_name own_pn1) hisR ?_
  intro p e s m args below meth c s₁ Bd hml0 hP hK
  obtain ⟨rfl, hZ, hh⟩ := hP
  have hx := Bd.exec
  have hby := Bd.bytes
  have hml : c.maxLocals = 1 := hml0
  have hlk := Bd.notSynchronized
  have hown : s.vm.findClass "com/example/weft/weft/Whitespace" = some m.cls := findClass_of_methodNamed Bd.named
  have hnm := (name_of_methodNamed Bd.named Bd.method).1
  have X0 : Stand p l e ({ frames := 0, cells := 0, slots := 0, locals := 0 } : Room) s m #[(.int p1)] below meth c s₁ [] 0 0 := Stand.of_body Bd
  have e0 : s₁.heap = h0 := by rw [← hh, Bd.state]; rfl
  show own_Out p e below (own_P s (own_Pure (.int (own_b (p1 = 32 ∨ p1 = 9 ∨ p1 = 13 ∨ p1 = 10))) h0) ({ frames := 0, cells := 0, slots := 0, locals := 0 } : Room).cells ({ frames := 0, cells := 0, slots := 0, locals := 0 } : Room).slots) s₁ (entryFrame m #[(.int p1)] 1)
  rw [own_ef1 m p1]
  refine o_iloadN X0 hx (hb hby own_d1_0) rfl (pc' := 1) rfl ?_
  refine o_bipush X0 hx (hb hby own_d1_1) (v := 32) rfl (pc' := 3) rfl ?_
  refine o_icmp_eq X0 hx (hb hby own_d1_3) (pc' := 24) (pn := 6) (by decide) rfl (fun hc3 => ?_) (fun hc3 => ?_)
  · refine o_iconst X0 hx (hb hby own_d1_24) (v := 1) rfl (pc' := 25) rfl ?_
    refine o_goto X0 hx (hb hby own_d1_25) (pc' := 29) (by decide) ?_
    refine o_retN X0 hx (t := .boolean) Bd.returns hlk (by simp) (hb hby own_d1_29) (v := _) ?_ ⟨rfl, rfl, e0⟩ (by decide) (by decide)
    exact own_r1.trans (own_bt (by simp [hc3])).symm
  · refine o_iloadN X0 hx (hb hby own_d1_6) rfl (pc' := 7) rfl ?_
    refine o_bipush X0 hx (hb hby own_d1_7) (v := 9) rfl (pc' := 9) rfl ?_
    refine o_icmp_eq X0 hx (hb hby own_d1_9) (pc' := 24) (pn := 12) (by decide) rfl (fun hc9 => ?_) (fun hc9 => ?_)
    · refine o_iconst X0 hx (hb hby own_d1_24) (v := 1) rfl (pc' := 25) rfl ?_
      refine o_goto X0 hx (hb hby own_d1_25) (pc' := 29) (by decide) ?_
      refine o_retN X0 hx (t := .boolean) Bd.returns hlk (by simp) (hb hby own_d1_29) (v := _) ?_ ⟨rfl, rfl, e0⟩ (by decide) (by decide)
      exact own_r1.trans (own_bt (by simp [hc3, hc9])).symm
    · refine o_iloadN X0 hx (hb hby own_d1_12) rfl (pc' := 13) rfl ?_
      refine o_bipush X0 hx (hb hby own_d1_13) (v := 13) rfl (pc' := 15) rfl ?_
      refine o_icmp_eq X0 hx (hb hby own_d1_15) (pc' := 24) (pn := 18) (by decide) rfl (fun hc15 => ?_) (fun hc15 => ?_)
      · refine o_iconst X0 hx (hb hby own_d1_24) (v := 1) rfl (pc' := 25) rfl ?_
        refine o_goto X0 hx (hb hby own_d1_25) (pc' := 29) (by decide) ?_
        refine o_retN X0 hx (t := .boolean) Bd.returns hlk (by simp) (hb hby own_d1_29) (v := _) ?_ ⟨rfl, rfl, e0⟩ (by decide) (by decide)
        exact own_r1.trans (own_bt (by simp [hc3, hc9, hc15])).symm
      · refine o_iloadN X0 hx (hb hby own_d1_18) rfl (pc' := 19) rfl ?_
        refine o_bipush X0 hx (hb hby own_d1_19) (v := 10) rfl (pc' := 21) rfl ?_
        refine o_icmp_ne X0 hx (hb hby own_d1_21) (pc' := 28) (pn := 24) (by decide) rfl (fun hc21 => ?_) (fun hc21 => ?_)
        · refine o_iconst X0 hx (hb hby own_d1_28) (v := 0) rfl (pc' := 29) rfl ?_
          refine o_retN X0 hx (t := .boolean) Bd.returns hlk (by simp) (hb hby own_d1_29) (v := _) ?_ ⟨rfl, rfl, e0⟩ (by decide) (by decide)
          exact own_r0.trans (own_bf (by simp [hc3, hc9, hc15, hc21])).symm
        · refine o_iconst X0 hx (hb hby own_d1_24) (v := 1) rfl (pc' := 25) rfl ?_
          refine o_goto X0 hx (hb hby own_d1_25) (pc' := 29) (by decide) ?_
          refine o_retN X0 hx (t := .boolean) Bd.returns hlk (by simp) (hb hby own_d1_29) (v := _) ?_ ⟨rfl, rfl, e0⟩ (by decide) (by decide)
          exact own_r1.trans (own_bt (by simp [hc3, hc9, hc15, hc21])).symm
theorem own_d2_0 : decode method_2_code 0 = .ok (.iload_n 0, 1) := by decide +kernel
theorem own_d2_1 : decode method_2_code 1 = .ok (.bipush 64, 2) := by decide +kernel
theorem own_d2_3 : decode method_2_code 3 = .ok (.if_icmp .lt 5, 3) := by decide +kernel
theorem own_d2_6 : decode method_2_code 6 = .ok (.iconst 0, 1) := by decide +kernel
theorem own_d2_7 : decode method_2_code 7 = .ok (.ireturn, 1) := by decide +kernel
theorem own_d2_8 : decode method_2_code 8 = .ok (.ldc2_w 9, 3) := by decide +kernel
theorem own_d2_11 : decode method_2_code 11 = .ok (.iload_n 0, 1) := by decide +kernel
theorem own_d2_12 : decode method_2_code 12 = .ok (.lushr, 1) := by decide +kernel
theorem own_d2_13 : decode method_2_code 13 = .ok (.lconst 1, 1) := by decide +kernel
theorem own_d2_14 : decode method_2_code 14 = .ok (.land, 1) := by decide +kernel
theorem own_d2_15 : decode method_2_code 15 = .ok (.lconst 0, 1) := by decide +kernel
theorem own_d2_16 : decode method_2_code 16 = .ok (.lcmp, 1) := by decide +kernel
theorem own_d2_17 : decode method_2_code 17 = .ok (.ifCond .eq 7, 3) := by decide +kernel
theorem own_d2_20 : decode method_2_code 20 = .ok (.iconst 1, 1) := by decide +kernel
theorem own_d2_21 : decode method_2_code 21 = .ok (.goto 4, 3) := by decide +kernel
theorem own_d2_24 : decode method_2_code 24 = .ok (.iconst 0, 1) := by decide +kernel
theorem own_d2_25 : decode method_2_code 25 = .ok (.ireturn, 1) := by decide +kernel
theorem own_ef2 (m : MethodId) (x0 : Int32) : entryFrame m #[(.int x0)] 1 = mkF m 0 #[.val (.int x0)] [] := by first | (simp [entryFrame, mkF, argsToLocals, Value.category]; done) | rfl
theorem own_pn2 : plainName "com/example/weft/weft/WhitespaceIsPinLaw" = true := by first | (simp [plainName, overriddenIn]; done) | decide +kernel
set_option maxRecDepth 65536 in
set_option maxHeartbeats 40000000 in
theorem own_rm2 (l : Launch) (Z : State) (a0 : Array Value) (hw : ∀ d ∈ tables_1, d.before a0 Z = true) (ws : List Jvm.Cond) (p1 : Int32) (h0 : Heap)  :
    own_Met l (⟨"com/example/weft/weft/WhitespaceIsPinLaw", "reference", "(C)Z"⟩ : MethodName) method_2_code 1 (some .boolean) ws ({ frames := 0, cells := 0, slots := 0, locals := 0 } : Room) Z h0 #[(.int p1)] (own_Pure (.int (own_b (p1 < 64 ∧ ¬ (lcmpW ((((4294977024 : Int64).toUInt64 >>> (p1 &&& 0x3f).toInt64.toUInt64).toInt64) &&& (1 : Int64)) (0 : Int64) = 0)))) h0) := by
  refine MetFree.of_bodySF (plainFor_of_name own_pn2) hisR ?_
  intro p e s m args below meth c s₁ Bd hml0 hP hK
  obtain ⟨rfl, hZ, hh⟩ := hP
  have hx := Bd.exec
  have hby := Bd.bytes
  have hml : c.maxLocals = 1 := hml0
  have hlk := Bd.notSynchronized
  have hown : s.vm.findClass "com/example/weft/weft/WhitespaceIsPinLaw" = some m.cls := findClass_of_methodNamed Bd.named
  have hnm := (name_of_methodNamed Bd.named Bd.method).1
  have X0 : Stand p l e ({ frames := 0, cells := 0, slots := 0, locals := 0 } : Room) s m #[(.int p1)] below meth c s₁ [] 0 0 := Stand.of_body Bd
  have e0 : s₁.heap = h0 := by rw [← hh, Bd.state]; rfl
  show own_Out p e below (own_P s (own_Pure (.int (own_b (p1 < 64 ∧ ¬ (lcmpW ((((4294977024 : Int64).toUInt64 >>> (p1 &&& 0x3f).toInt64.toUInt64).toInt64) &&& (1 : Int64)) (0 : Int64) = 0)))) h0) ({ frames := 0, cells := 0, slots := 0, locals := 0 } : Room).cells ({ frames := 0, cells := 0, slots := 0, locals := 0 } : Room).slots) s₁ (entryFrame m #[(.int p1)] 1)
  rw [own_ef2 m p1]
  refine o_iloadN X0 hx (hb hby own_d2_0) rfl (pc' := 1) rfl ?_
  refine o_bipush X0 hx (hb hby own_d2_1) (v := 64) rfl (pc' := 3) rfl ?_
  refine o_icmp_lt X0 hx (hb hby own_d2_3) (pc' := 8) (pn := 6) (by decide) rfl (fun hc3 => ?_) (fun hc3 => ?_)
  · refine o_ldcL X0 hx hZ hown (hw _ (List.mem_of_getElem? (i := 9) rfl)) (hb hby own_d2_8) (pc' := 11) rfl ?_
    refine o_iloadN X0 hx (hb hby own_d2_11) rfl (pc' := 12) rfl ?_
    refine o_lushr X0 hx (hb hby own_d2_12) (pc' := 13) rfl ?_
    refine o_lconst X0 hx (hb hby own_d2_13) (v := 1) rfl (pc' := 14) rfl ?_
    refine o_land X0 hx (hb hby own_d2_14) (pc' := 15) rfl ?_
    refine o_lconst X0 hx (hb hby own_d2_15) (v := 0) rfl (pc' := 16) rfl ?_
    refine o_lcmp X0 hx (hb hby own_d2_16) (pc' := 17) rfl ?_
    refine o_if_eq X0 hx (hb hby own_d2_17) (pc' := 24) (pn := 20) (by decide) rfl (fun hc17 => ?_) (fun hc17 => ?_)
    · refine o_iconst X0 hx (hb hby own_d2_24) (v := 0) rfl (pc' := 25) rfl ?_
      refine o_retN X0 hx (t := .boolean) Bd.returns hlk (by simp) (hb hby own_d2_25) (v := _) ?_ ⟨rfl, rfl, e0⟩ (by decide) (by decide)
      exact own_r0.trans (own_bf (fun z => z.2 hc17)).symm
    · refine o_iconst X0 hx (hb hby own_d2_20) (v := 1) rfl (pc' := 21) rfl ?_
      refine o_goto X0 hx (hb hby own_d2_21) (pc' := 25) (by decide) ?_
      refine o_retN X0 hx (t := .boolean) Bd.returns hlk (by simp) (hb hby own_d2_25) (v := _) ?_ ⟨rfl, rfl, e0⟩ (by decide) (by decide)
      exact own_r1.trans (own_bt ⟨hc3, hc17⟩).symm
  · refine o_iconst X0 hx (hb hby own_d2_6) (v := 0) rfl (pc' := 7) rfl ?_
    refine o_retN X0 hx (t := .boolean) Bd.returns hlk (by simp) (hb hby own_d2_7) (v := _) ?_ ⟨rfl, rfl, e0⟩ (by decide) (by decide)
    exact own_r0.trans (own_bf (fun z => hc3 z.1)).symm
set_option maxRecDepth 65536 in
theorem own_law (c : Int32) (h : ¬ c < 0) : own_b (c = 32 ∨ c = 9 ∨ c = 13 ∨ c = 10) = own_b (c < 64 ∧ ¬ (lcmpW ((((4294977024 : Int64).toUInt64 >>> (c &&& 0x3f).toInt64.toUInt64).toInt64) &&& (1 : Int64)) (0 : Int64) = 0)) := by
  by_cases q : c < 64
  · have all : ∀ k : Fin 64, own_b ((k.val.toInt32) = 32 ∨ (k.val.toInt32) = 9 ∨ (k.val.toInt32) = 13 ∨ (k.val.toInt32) = 10) = own_b ((k.val.toInt32) < 64 ∧ ¬ (lcmpW ((((4294977024 : Int64).toUInt64 >>> ((k.val.toInt32) &&& 0x3f).toInt64.toUInt64).toInt64) &&& (1 : Int64)) (0 : Int64) = 0)) := by decide +kernel
    obtain ⟨e, -⟩ := back32 h
    have hk : c.toNatClampNeg < 64 := by
      rw [Int32.lt_iff_toInt_lt] at q h
      have e1 : (64 : Int32).toInt = 64 := by decide
      have e0 : (0 : Int32).toInt = 0 := by decide
      rw [e1] at q; rw [e0] at h
      simp only [Int32.toNatClampNeg]; omega
    have := all ⟨_, hk⟩
    simp only [e] at this
    exact this
  · rw [own_bf (q := (c < 64 ∧ ¬ (lcmpW ((((4294977024 : Int64).toUInt64 >>> (c &&& 0x3f).toInt64.toUInt64).toInt64) &&& (1 : Int64)) (0 : Int64) = 0))) (fun z => q z.1), own_bf]
    rintro (rfl | rfl | rfl | rfl) <;> exact q (by decide)
theorem own_char (x : Int32) : ¬ (x.toUInt32.toUInt16.toUInt32.toInt32) < 0 := by
  have h := fits_nar_char x
  simp only [fits, nar, Bool.and_eq_true, decide_eq_true_eq] at h
  exact Int32.not_lt.mpr (of_decide_eq_true h.1)
theorem own_ef0 (m : MethodId) (x0 : Int32) : entryFrame m #[(.int x0)] maxLocals = mkF m 0 #[.val (.int x0), .unset] [] := by first | (simp [entryFrame, mkF, argsToLocals, Value.category, maxLocals]; done) | rfl
theorem own_pn0 : plainName "com/example/weft/weft/WhitespaceIsPinLaw" = true := by first | (simp [plainName, overriddenIn]; done) | decide +kernel
set_option maxRecDepth 65536 in
set_option maxHeartbeats 40000000 in
theorem own_rm0 (l : Launch) (Z : State) (a0 : Array Value) (hw : ∀ d ∈ tables_1, d.before a0 Z = true) (ws : List Jvm.Cond) (p1 : Int32) (h0 : Heap)  :
    MetFree l x (head1 (Jvm.Cond.code x code maxLocals ret :: ws) room_1) (fun a U => a = #[(.int p1)] ∧ Z.Warmed39 U.vm ∧ U.heap = h0) (fun _ _ _ _ _ => True) (fun _ U o U' => ∃ v L, o = .returned v ∧ (fun v _ L => v = some (.int 1) ∧ Fr h0.size L) v U'.heap L ∧ FrameEnd U o U' L room_1.cells room_1.slots) := by
  refine MetFree.of_bodySF (plainFor_of_name own_pn0) hisR ?_
  intro p e s m args below meth c s₁ Bd hml0 hP hK
  obtain ⟨rfl, hZ, hh⟩ := hP
  have hx := Bd.exec
  have hby := Bd.bytes
  have hml : c.maxLocals = 2 := hml0
  have hlk := Bd.notSynchronized
  have hown : s.vm.findClass "com/example/weft/weft/WhitespaceIsPinLaw" = some m.cls := findClass_of_methodNamed Bd.named
  have hnm := (name_of_methodNamed Bd.named Bd.method).1
  have X0 : Stand p l e room_1 s m #[(.int p1)] below meth c s₁ [] 0 0 := Stand.of_body Bd
  have e0 : s₁.heap = h0 := by rw [← hh, Bd.state]; rfl
  show own_Out p e below (own_P s (fun v _ L => v = some (.int 1) ∧ Fr h0.size L) room_1.cells room_1.slots) s₁ (entryFrame m #[(.int p1)] maxLocals)
  rw [own_ef0 m p1]
  refine o_iloadN X0 hx (hb hby at_0) rfl (pc' := 1) rfl ?_
  refine o_ldcI X0 hx hZ hown (hw _ (List.mem_of_getElem? (i := 0) rfl)) (hb hby at_1) (pc' := 3) rfl ?_
  refine o_iand X0 hx (hb hby at_3) (pc' := 4) rfl ?_
  refine o_i2c X0 hx (hb hby at_4) (pc' := 5) rfl ?_
  refine o_istoreN X0 hx (hb hby at_5) (Ls' := #[.val (.int p1), .val (.int ((p1 &&& (65535 : Int32)).toUInt32.toUInt16.toUInt32.toInt32))]) rfl (pc' := 6) rfl ?_
  refine o_iloadN X0 hx (hb hby at_6) rfl (pc' := 7) rfl ?_
  refine o_callS X0 hx hZ (y := (⟨"com/example/weft/weft/Whitespace", "is", "(C)Z"⟩ : MethodName)) (as' := [(.int ((p1 &&& (65535 : Int32)).toUInt32.toUInt16.toUInt32.toInt32))]) hown (hw _ (List.mem_of_getElem? (i := 1) rfl)) (hw _ (List.mem_of_getElem? (i := 2) rfl)) (hw _ (List.mem_of_getElem? (i := 3) rfl)) (hw _ (List.mem_of_getElem? (i := 4) rfl)) (by decide) e0 (own_rm1 l Z a0 hw [] ((p1 &&& (65535 : Int32)).toUInt32.toUInt16.toUInt32.toInt32) h0) (by rw [hml]; rfl) own_pd0 rfl (W := 0) (Nat.le_of_eq rfl) (by decide) (by decide) (hb hby at_7) (by decide) (by decide) (pc' := 10) rfl (S := []) rfl ?_
  intro v1 T1 L1 X1 q1
  obtain ⟨rfl, X1, e1⟩ := own_pure rfl rfl X1 q1
  show own_Out p e below _ T1 (mkF m 10 #[.val (.int p1), .val (.int ((p1 &&& (65535 : Int32)).toUInt32.toUInt16.toUInt32.toInt32))] [(.int (own_b (((p1 &&& (65535 : Int32)).toUInt32.toUInt16.toUInt32.toInt32) = 32 ∨ ((p1 &&& (65535 : Int32)).toUInt32.toUInt16.toUInt32.toInt32) = 9 ∨ ((p1 &&& (65535 : Int32)).toUInt32.toUInt16.toUInt32.toInt32) = 13 ∨ ((p1 &&& (65535 : Int32)).toUInt32.toUInt16.toUInt32.toInt32) = 10)))])
  refine o_iloadN X1 hx (hb hby at_10) rfl (pc' := 11) rfl ?_
  refine o_callS X1 hx hZ (y := (⟨"com/example/weft/weft/WhitespaceIsPinLaw", "reference", "(C)Z"⟩ : MethodName)) (as' := [(.int ((p1 &&& (65535 : Int32)).toUInt32.toUInt16.toUInt32.toInt32))]) hown (hw _ (List.mem_of_getElem? (i := 5) rfl)) (hw _ (List.mem_of_getElem? (i := 6) rfl)) (hw _ (List.mem_of_getElem? (i := 7) rfl)) (hw _ (List.mem_of_getElem? (i := 8) rfl)) (by decide) e1 (own_rm2 l Z a0 hw [] ((p1 &&& (65535 : Int32)).toUInt32.toUInt16.toUInt32.toInt32) h0) (by rw [hml]; rfl) own_pd0 rfl (W := 1) (Nat.le_of_eq rfl) (by decide) (by decide) (hb hby at_11) (by decide) (by decide) (pc' := 14) rfl (S := [(.int (own_b (((p1 &&& (65535 : Int32)).toUInt32.toUInt16.toUInt32.toInt32) = 32 ∨ ((p1 &&& (65535 : Int32)).toUInt32.toUInt16.toUInt32.toInt32) = 9 ∨ ((p1 &&& (65535 : Int32)).toUInt32.toUInt16.toUInt32.toInt32) = 13 ∨ ((p1 &&& (65535 : Int32)).toUInt32.toUInt16.toUInt32.toInt32) = 10)))]) rfl ?_
  intro v2 T2 L2 X2 q2
  obtain ⟨rfl, X2, e2⟩ := own_pure rfl rfl X2 q2
  show own_Out p e below _ T2 (mkF m 14 #[.val (.int p1), .val (.int ((p1 &&& (65535 : Int32)).toUInt32.toUInt16.toUInt32.toInt32))] [(.int (own_b (((p1 &&& (65535 : Int32)).toUInt32.toUInt16.toUInt32.toInt32) < 64 ∧ ¬ (lcmpW ((((4294977024 : Int64).toUInt64 >>> (((p1 &&& (65535 : Int32)).toUInt32.toUInt16.toUInt32.toInt32) &&& 0x3f).toInt64.toUInt64).toInt64) &&& (1 : Int64)) (0 : Int64) = 0)))), (.int (own_b (((p1 &&& (65535 : Int32)).toUInt32.toUInt16.toUInt32.toInt32) = 32 ∨ ((p1 &&& (65535 : Int32)).toUInt32.toUInt16.toUInt32.toInt32) = 9 ∨ ((p1 &&& (65535 : Int32)).toUInt32.toUInt16.toUInt32.toInt32) = 13 ∨ ((p1 &&& (65535 : Int32)).toUInt32.toUInt16.toUInt32.toInt32) = 10)))])
  refine o_icmp_ne X2 hx (hb hby at_14) (pc' := 21) (pn := 17) (by decide) rfl (fun hc => ?_) (fun hc => ?_)
  · exact absurd (own_law _ (own_char _)) hc
  · refine o_iconst X2 hx (hb hby at_17) (v := 1) rfl (pc' := 18) rfl ?_
    refine o_goto X2 hx (hb hby at_18) (pc' := 22) (by decide) ?_
    refine o_retN X2 hx (t := .boolean) Bd.returns hlk (by simp) (hb hby at_22) rfl ⟨rfl, Fr.nil _⟩ (by decide) (by decide)
set_option maxRecDepth 65536 in
set_option maxHeartbeats 40000000 in
theorem own_comes {Post : Tables → Env → Array Value → State → Outcome → State → Prop} (hpost : ∀ tb e args s v u, (limb_1_1.after args s (.returned v) u = true ∧ limb_1_2.after args s (.returned v) u = true) → FrameEnd s (.returned v) u (Jvm.fieldLocs frame_1_writes args s ++ Jvm.arrayLocs frame_1_arrays args s ++ Jvm.staticLocs frame_1_statics s) 0 0 → Post tb e args s (.returned v) u) :
    ArmFor flags0 classFile x code maxLocals ret World_1 tables_1 room_1 Calls_1 rest_1 Pre_1 Post := by
  intro l hfl _ _ p e ha hc hk s m args below hf hA hF happ hP
  obtain ⟨hcalls, hrest, hpre⟩ := hP
  obtain ⟨-, -, -, hnamed, -, -, -, hat⟩ := (Spec.applies_iff hf).mp happ
  obtain ⟨hg, hn⟩ := and_e (Cond.before_iff.mp (show (Jvm.Cond.and given_1 narrow_1).before args s = true from hpre))
  obtain ⟨gc, g0⟩ := and_e hg
  obtain ⟨w0, rfl⟩ : ∃ w0 : Value, args = #[w0] := by
    have hs : args.size = 1 := by simpa [Cond.value, given_1] using gc
    obtain ⟨L⟩ := args
    match L, hs with
    | [w0], _ => exact ⟨w0, rfl⟩
  have hw := fun d (hd : d ∈ tables_1) => atoms_spec (ws := Jvm.Cond.code x code maxLocals ret :: tables_1) hat d (List.mem_cons_of_mem _ hd)
  obtain ⟨i0, ei0⟩ := is_v g0
  obtain rfl : w0 = (.int i0) := Option.some.inj ei0
  obtain ⟨n, o, h1, h2, h3, _, L, rfl, ⟨rfl, N⟩, hq⟩ := own_rm0 l s _ hw tables_1 i0 s.heap  p e ha hc hk s m _ below hf ((Spec.applies_iff_loose hf).mp happ).1 ⟨rfl, State.Warmed39.refl s, rfl⟩ trivial
  exact ⟨n, _, h1, h2, h3, hpost _ _ _ _ _ _ ⟨Cond.after_iff.mpr rfl, Cond.after_iff.mpr (eq_i res_at (Term.int_eval (1)) rfl)⟩ ⟨hq.1, hq.2.1, (hq.2.2.sift fun y hy => Or.inr (N y hy)).mono (by decide) (by decide)⟩⟩
theorem main_1_1 : Claimed_1_1 := own_comes fun _ _ _ _ _ _ h hF => ⟨h.1, hF⟩
theorem main_1_2 : Claimed_1_2 := own_comes fun _ _ _ _ _ _ h hF => ⟨h.2, hF⟩
end Jvm.Pilot.@@N@@
namespace Jvm.Pilot.@@N@@
open Jvm Jvm.ClassFile Sem Op Lib Jvm.Free Jvm.Stand Jvm.Pilot.@@N@@.Jvm.D
/-! MADE BY PROGRAM (witnessworld.py) out of the Statement's table words and the real class files: 9 classes; the members and pool entries that the words name. The judged class is class 1, her method 2. -/
namespace start1
open Jvm.ClassFile
def u (s : String) : CpInfo := .utf8 (stringToUtf16 s)
/-- a pool by its gaps: so many unusable entries, then the entry; so many at the end -/
def gap : Nat → List CpInfo → List CpInfo
  | 0, r => r
  | n + 1, r => .unusable :: gap n r
def poolList (es : List (Nat × CpInfo)) (last : Nat) : List CpInfo := es.foldr (fun e r => gap e.1 (e.2 :: r)) (gap last [])
def pool (es : List (Nat × CpInfo)) (last : Nat) : Array CpInfo := ⟨poolList es last⟩
def fileOf (pool : Array CpInfo) (this : Nat) (attrs : Array Attribute := #[]) (ms : Array MethodInfo := #[]) (fl : Nat := 33) (sup : Nat := 0) (ifs : Array Nat := #[]) (fds : Array FieldInfo := #[]) : ClassFile where
  minorVersion := 0
  majorVersion := 65
  constantPool := pool
  accessFlags := fl
  thisClass := this
  superClass := sup
  interfaces := ifs
  fields := fds
  methods := ms
  attributes := attrs
def plain (name : String) (sup : Option ClassId) : Class where
  name := name
  kind := .ordinary
  loader := none
  accessFlags := 33
  super := sup
  interfaces := #[]
  cf := none
  fields := #[]
  methods := #[]
  instanceTypes := #[]
  staticTypes := #[]
  resolved := #[]
  callSites := []
  init := .initialized
  statics := none
  mirror := none

def pool0 : Array CpInfo := pool [(5, u "<init>"), (0, u "()V"), (1, .class_ 10), (1, u "java/lang/Object")] 113

def k0m0 : Method := { name := "<init>", desc := "()V", sig := { parameters := [], returnType := none }, accessFlags := 1, code := none }
/-- java/lang/Object -/
def k0 : Class := { plain "java/lang/Object" none with
  accessFlags := 33
  interfaces := #[]
  cf := some (fileOf pool0 8 #[] #[{ accessFlags := 1, nameIndex := 5, descriptorIndex := 6, attributes := #[] }] 33 0 #[] #[])
  fields := #[]
  methods := #[k0m0]
  instanceTypes := #[]
  staticTypes := #[]
  resolved := Array.replicate 124 none
  statics := none }

def pool1 : Array CpInfo := pool [(2, .class_ 4), (1, u "java/lang/Object"), (0, u "<init>"), (0, u "()V"), (0, .class_ 8), (0, u "com/example/weft/weft/WhitespaceIsPinLaw"), (0, .long 4294977024), (1, .integer 65535), (0, .methodref 13 14), (0, .class_ 15), (0, .nameAndType 16 17), (0, u "com/example/weft/weft/Whitespace"), (0, u "is"), (0, u "(C)Z"), (0, .methodref 7 19), (0, .nameAndType 20 17), (0, u "reference"), (0, u "XML_S_BITS"), (0, u "J"), (4, u "law"), (0, u "(I)Z")] 2

def k1m0 : Method := { name := "<init>", desc := "()V", sig := { parameters := [], returnType := none }, accessFlags := 2, code := none }
def k1c1 : Code := { maxStack := 4, maxLocals := 1, code := method_2_code, exceptionTable := #[], attributes := #[] }
def k1m1 : Method := { name := "reference", desc := "(C)Z", sig := { parameters := [.char], returnType := some .boolean }, accessFlags := 10, code := some k1c1 }
def k1c2 : Code := { maxStack := 2, maxLocals := 2, code := code, exceptionTable := #[], attributes := #[] }
def k1m2 : Method := { name := "law", desc := "(I)Z", sig := { parameters := [.int], returnType := some .boolean }, accessFlags := 9, code := some k1c2 }
/-- com/example/weft/weft/WhitespaceIsPinLaw -/
def k1 : Class := { plain "com/example/weft/weft/WhitespaceIsPinLaw" (some 0) with
  accessFlags := 49
  interfaces := #[]
  cf := some (fileOf pool1 7 #[] #[{ accessFlags := 2, nameIndex := 5, descriptorIndex := 6, attributes := #[] }, { accessFlags := 10, nameIndex := 20, descriptorIndex := 17, attributes := #[] }, { accessFlags := 9, nameIndex := 27, descriptorIndex := 28, attributes := #[] }] 49 2 #[] #[{ accessFlags := 26, nameIndex := 21, descriptorIndex := 22, attributes := #[] }])
  fields := #[{ name := "XML_S_BITS", type := .long, accessFlags := 26, slot := 0, constantValue := 0 }]
  methods := #[k1m0, k1m1, k1m2]
  instanceTypes := #[]
  staticTypes := #[.long]
  resolved := Array.replicate 31 none
  statics := none }

def pool2 : Array CpInfo := pool [(2, .class_ 4), (1, u "java/lang/Object"), (0, u "<init>"), (0, u "()V"), (11, .class_ 20), (1, u "com/example/weft/weft/Whitespace"), (0, u "is"), (0, u "(C)Z")] 26

def k2m0 : Method := { name := "<init>", desc := "()V", sig := { parameters := [], returnType := none }, accessFlags := 2, code := none }
def k2c1 : Code := { maxStack := 2, maxLocals := 1, code := prog_192_method_2_code, exceptionTable := #[], attributes := #[] }
def k2m1 : Method := { name := "is", desc := "(C)Z", sig := { parameters := [.char], returnType := some .boolean }, accessFlags := 8, code := some k2c1 }
/-- com/example/weft/weft/Whitespace -/
def k2 : Class := { plain "com/example/weft/weft/Whitespace" (some 0) with
  accessFlags := 48
  interfaces := #[]
  cf := some (fileOf pool2 18 #[] #[{ accessFlags := 2, nameIndex := 5, descriptorIndex := 6, attributes := #[] }, { accessFlags := 8, nameIndex := 21, descriptorIndex := 22, attributes := #[] }] 48 2 #[] #[])
  fields := #[]
  methods := #[k2m0, k2m1]
  instanceTypes := #[]
  staticTypes := #[]
  resolved := Array.replicate 49 none
  statics := none }

def pool3 : Array CpInfo := pool [(1, u "java/lang/Cloneable"), (0, .class_ 1), (0, u "java/lang/Object"), (0, .class_ 3)] 3

/-- java/lang/Cloneable -/
def k3 : Class := { plain "java/lang/Cloneable" (some 0) with
  accessFlags := 1537
  interfaces := #[]
  cf := some (fileOf pool3 2 #[] #[] 1537 4 #[] #[])
  fields := #[]
  methods := #[]
  instanceTypes := #[]
  staticTypes := #[]
  resolved := Array.replicate 8 none
  statics := none }

def pool4 : Array CpInfo := pool [(1, u "java/io/Serializable"), (0, .class_ 1), (0, u "java/lang/Object"), (0, .class_ 3)] 3

/-- java/io/Serializable -/
def k4 : Class := { plain "java/io/Serializable" (some 0) with
  accessFlags := 1537
  interfaces := #[]
  cf := some (fileOf pool4 2 #[] #[] 1537 4 #[] #[])
  fields := #[]
  methods := #[]
  instanceTypes := #[]
  staticTypes := #[]
  resolved := Array.replicate 8 none
  statics := none }

/-- the primitive byte -/
def k5 : Class := { plain "byte" none with kind := .primitive 'B', accessFlags := 0x411 }
/-- [B -/
def k6 : Class := { plain "[B" (some 0) with kind := .array 5 .byte, interfaces := #[3, 4], accessFlags := 1041 }

/-- the primitive int -/
def k7 : Class := { plain "int" none with kind := .primitive 'I', accessFlags := 0x411 }
/-- [I -/
def k8 : Class := { plain "[I" (some 0) with kind := .array 7 .int, interfaces := #[3, 4], accessFlags := 1041 }

def heap : Heap := #[]
def classes : Array Class := #[k0, k1, k2, k3, k4, k5, k6, k7, k8]
def interned : List (Array UInt16 × Addr) := []
def slotsUsed : Nat := 0
def theMethod : MethodId := ⟨1, 2⟩
def args0 : Array Value := #[.int 5]
def aboutOver (below : List Frame) : State where
  vm := { classes := classes, interned := interned.toArray }
  heap := heap
  slotsUsed := slotsUsed
  threads := #[{ frames := .invoking theMethod args0 :: below }]
def below0 : List Frame := [.native { method := ⟨0, 0⟩, args := #[] }]
def about1 : State := aboutOver below0
def p0 : Program := .bare "" "" ""
def e0 : Env := launch0.env 0 0 0
theorem w_frames : about1.frames = Frame.invoking theMethod args0 :: below0 := rfl
set_option maxRecDepth 65536 in
theorem w_args : argsFit about1.vm theMethod args0 = true := by decide +kernel
set_option maxRecDepth 65536 in
theorem w_heap : heapFits about1 = true := by decide +kernel
set_option maxRecDepth 65536 in
theorem w_runnable : about1.curStatus? = some .runnable := by decide +kernel
set_option maxRecDepth 65536 in
theorem w_alone : about1.alone = true := by decide +kernel
set_option maxRecDepth 65536 in
theorem w_named : about1.methodNamed? x = some theMethod := by decide +kernel
set_option maxRecDepth 65536 in
theorem w_hears : about1.hears theMethod below0 = true := by decide +kernel
set_option maxRecDepth 65536 in
theorem w_ripe : about1.ripe theMethod args0 below0 = true := by decide +kernel
theorem w_running : about1.status = .running := rfl
set_option maxRecDepth 65536 in
theorem w_room : about1.hasRoom e0.platform room_1 = true :=
  launch0.hasRoom_least _ room_1 (by decide +kernel) (by decide +kernel) (by decide +kernel) (by decide +kernel) (by decide +kernel) (by decide +kernel)
theorem allAtoms_all (ts : List Jvm.Cond) (a : Array Jvm.Value) (st : Jvm.State) : (allAtoms ts).before a st = ts.all (fun c => c.before a st) := by
  induction ts with
  | nil => rfl
  | cons c t ih =>
    show (Jvm.Cond.and c (allAtoms t)).before a st = _
    rw [Jvm.Cond.before_and, ih, List.all_cons]
def words1 : List Jvm.Cond := Jvm.Cond.code x code maxLocals ret :: tables_1
/-- a 'code' word, met by the world's own term for the bytes: nothing is compared byte by byte -/
theorem code_word {y : MethodName} {bytes : ByteArray} {mx : Nat} {rt : Option FieldType} {a : Array Value} {s : State} {m : MethodId} {meth : Method} {c : Code} (h1 : s.methodNamed? y = some m) (h2 : s.vm.method? m = some meth) (h3 : meth.code = some c) (h4 : c.code = bytes)
    (h5 : (c.maxLocals == mx && c.exceptionTable.isEmpty && decide (c.maxStack ≤ mostOperands) && decide (meth.sig.returnType = rt) && !meth.locks && decide (parseMethodDescriptor y.desc = some meth.sig)) = true) : (Jvm.Cond.code y bytes mx rt).before a s = true := by
  simp only [Bool.and_eq_true, beq_iff_eq, Bool.not_eq_true', decide_eq_true_eq] at h5
  obtain ⟨⟨⟨⟨⟨g1, g2⟩, g3⟩, g4⟩, g5⟩, g6⟩ := h5
  simp [Cond.before, Cond.holds, Cond.value, h1, h2, h3, h4, g1, g2, g3, g4, g5, g6]
def isCode : Jvm.Cond → Bool
  | .code _ _ _ _ => true
  | _ => false
theorem all_split {L : List Jvm.Cond} {P : Jvm.Cond → Bool} (h1 : L.all (fun c => isCode c || P c) = true) (h2 : ∀ c ∈ L.filter isCode, P c = true) : L.all P = true := by
  refine List.all_eq_true.mpr fun c hc => ?_
  have h := List.all_eq_true.mp h1 c hc
  rcases Bool.eq_false_or_eq_true (isCode c) with hi | hi
  · exact h2 c (List.mem_filter.mpr ⟨hc, hi⟩)
  · simpa [hi] using h
set_option maxRecDepth 65536 in
theorem w_c0 : (Jvm.Cond.code x code maxLocals ret).before args0 about1 = true := code_word (m := ⟨1, 2⟩) (meth := k1m2) (c := k1c2) (by decide +kernel) rfl rfl rfl (by decide +kernel)
set_option maxRecDepth 65536 in
theorem w_c1 : (Jvm.Cond.code ({ cls := "com/example/weft/weft/Whitespace", name := "is", desc := "(C)Z" } : Jvm.MethodName) prog_192_method_2_code (1 : Nat) (Option.some Jvm.ClassFile.FieldType.boolean)).before args0 about1 = true := code_word (m := ⟨2, 1⟩) (meth := k2m1) (c := k2c1) (by decide +kernel) rfl rfl rfl (by decide +kernel)
set_option maxRecDepth 65536 in
theorem w_c2 : (Jvm.Cond.code ({ cls := "com/example/weft/weft/WhitespaceIsPinLaw", name := "reference", desc := "(C)Z" } : Jvm.MethodName) method_2_code (1 : Nat) (Option.some Jvm.ClassFile.FieldType.boolean)).before args0 about1 = true := code_word (m := ⟨1, 1⟩) (meth := k1m1) (c := k1c1) (by decide +kernel) rfl rfl rfl (by decide +kernel)
def codes1 : List Jvm.Cond := [Jvm.Cond.code x code maxLocals ret, Jvm.Cond.code ({ cls := "com/example/weft/weft/Whitespace", name := "is", desc := "(C)Z" } : Jvm.MethodName) prog_192_method_2_code (1 : Nat) (Option.some Jvm.ClassFile.FieldType.boolean), Jvm.Cond.code ({ cls := "com/example/weft/weft/WhitespaceIsPinLaw", name := "reference", desc := "(C)Z" } : Jvm.MethodName) method_2_code (1 : Nat) (Option.some Jvm.ClassFile.FieldType.boolean)]
set_option maxRecDepth 65536 in
theorem codes_eq : words1.filter isCode = codes1 := rfl
theorem w_codes : ∀ c ∈ words1.filter isCode, c.before args0 about1 = true := by
  rw [codes_eq]
  intro c hc
  simp only [codes1, List.mem_cons, List.not_mem_nil, or_false] at hc
  rcases hc with rfl | rfl | rfl
  · exact w_c0
  · exact w_c1
  · exact w_c2
set_option maxRecDepth 65536 in
theorem w_t1 : words1.all (fun c => isCode c || c.before args0 about1) = true := by decide +kernel
theorem w_tables : (allAtoms (Jvm.Cond.code x code maxLocals ret :: tables_1)).before args0 about1 = true := by
  rw [allAtoms_all]
  show words1.all (fun c => c.before args0 about1) = true
  refine all_split ?_ w_codes
  rw [w_t1]
set_option maxRecDepth 65536 in
theorem w_case : (Jvm.Cond.and given_1 narrow_1).before args0 about1 = true := by decide +kernel
theorem w_applies : (headSpec (Jvm.Cond.code x code maxLocals ret :: tables_1) room_1).applies x e0.platform about1 = true :=
  (Spec.applies_iff w_frames).mpr ⟨w_running, w_runnable, w_alone, w_named, w_hears, w_ripe, w_room, w_tables⟩
theorem atStart : AtStart classFile x code maxLocals ret World_1 tables_1 room_1 Calls_1 rest_1 Pre_1 launch0 p0 e0 about1 theMethod args0 below0 :=
  ⟨lists_1, trivial, launch0.admits_env _ _ _, launch0.least_env, fairChoices_fair.cas, fairChoices_fair.clock, w_frames, w_args, w_heap, w_applies, trivial, trivial, w_case⟩
end start1
theorem witness_1 : WitnessClaimed_1 := ⟨start1.p0, start1.e0, start1.about1, start1.theMethod, start1.args0, start1.below0, start1.atStart⟩
end Jvm.Pilot.@@N@@
