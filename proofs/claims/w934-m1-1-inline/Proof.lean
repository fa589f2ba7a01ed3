import JvmDerived
import JvmDerived.Pilot.@@N@@Statement
import JvmDerived.Pilot.@@N@@Code
set_option linter.unusedVariables false
set_option linter.unusedSimpArgs false
@@BLOCK:TracedD.lean.txt@@
namespace Jvm.Pilot.@@N@@
open Jvm Jvm.ClassFile Sem Op Lib Jvm.Free Jvm.Stand Jvm.LawKit Jvm.RoadKit Bundle Jvm.Pilot.@@N@@.Jvm.D
section OwnWalk
variable {p : Program} {l : Launch} {e : Env} {R : Room} {s : State} {m : MethodId} {args : Array Value} {below : List Frame} {meth : Method} {c : Code} {Z : State} {own : String} {bytes : ByteArray} {ml : Nat} {rt : Option FieldType} {nm : String} {n0 : Nat} {T : State} {h : Heap} {cells slots : Nat} {Q : Option Value → Heap → Prop} {Φ : State → Outcome → Prop} {pc pc' : Nat} {Ls : Array Slot} {rest : List Value} {a0 : Array Value}
/-- where the walk stands: the library's Stand, every place written so far is new (Fr), the heap, and the body's own data -/
def own_St (p : Program) (l : Launch) (e : Env) (R : Room) (s : State) (m : MethodId) (args : Array Value) (below : List Frame) (meth : Method) (c : Code) (Z : State) (own : String) (bytes : ByteArray) (ml : Nat) (rt : Option FieldType) (nm : String) (n0 : Nat) (T : State) (h : Heap) (cells slots : Nat) : Prop :=
  ∃ locs, Stand p l e R s m args below meth c T locs cells slots ∧ Fr n0 locs ∧ T.heap = h ∧ n0 ≤ h.size ∧ p.tables.exec = Jvm.exec ∧ Z.Warmed39 s.vm ∧ s.vm.findClass own = some m.cls ∧ c.code = bytes ∧ c.maxLocals = ml ∧ meth.sig.returnType = rt ∧ meth.locks = false ∧ meth.name = nm
/-- what a return that meets Q leaves -/
def own_Fin (below : List Frame) (s : State) (R : Room) (n0 : Nat) (Q : Option Value → Heap → Prop) : State → Outcome → Prop := fun s₂ o =>
  s₂.status = .running ∧ Ended s₂ below o ∧ ∃ v L, o = .returned v ∧ ((Q v s₂.heap ∧ n0 ≤ s₂.heap.size) ∧ Fr n0 L) ∧ FrameEnd s o s₂ L R.cells R.slots
/-- from frame g over T the run comes to an end that meets Φ -/
def own_Goal (p : Program) (e : Env) (below : List Frame) (Φ : State → Outcome → Prop) (T : State) (g : JFrame) : Prop :=
  ∃ s₂ o, Steps p.tables e below (T.setTop g) s₂ ∧ Φ s₂ o
theorem own_St.le (X : own_St p l e R s m args below meth c Z own bytes ml rt nm n0 T h cells slots) : n0 ≤ h.size := by obtain ⟨_, _, _, _, q, _⟩ := X; exact q
theorem own_step {T' : State} {g g' : JFrame} (f : ∀ t, Steps p.tables e below (T'.setTop g') t → Steps p.tables e below (T.setTop g) t) (k : own_Goal p e below Φ T' g') : own_Goal p e below Φ T g := by
  obtain ⟨s2, o, a, r⟩ := k
  exact ⟨s2, o, f _ a, r⟩
theorem own_cast {g g' : JFrame} (q : g = g') (k : own_Goal p e below Φ T g') : own_Goal p e below Φ T g := q ▸ k
theorem own_pure (X : own_St p l e R s m args below meth c Z own bytes ml rt nm n0 T h cells slots) {g g' : JFrame} (f : ∀ {locs}, Stand p l e R s m args below meth c T locs cells slots → p.tables.exec = Jvm.exec → c.code = bytes → ∀ t, Steps p.tables e below (T.setTop g') t → Steps p.tables e below (T.setTop g) t) (k : own_Goal p e below Φ T g') : own_Goal p e below Φ T g := by
  obtain ⟨locs, X, -, -, -, hx, -, -, hby, -⟩ := X
  exact own_step (f X hx hby) k
theorem own_iconst (X : own_St p l e R s m args below meth c Z own bytes ml rt nm n0 T h cells slots) {i : Int} {v : Int32} (hv : Int32.ofInt i = v) (hd : decode bytes pc = .ok (.iconst i, 1)) (hp : pc + 1 = pc') (k : own_Goal p e below Φ T (mkF m pc' Ls (.int v :: rest))) : own_Goal p e below Φ T (mkF m pc Ls (rest)) := by
  subst hp hv
  exact own_pure X (fun X hx hby _ a => XS.iconst X.here hx rfl (hb hby hd) a) k
theorem own_bipush (X : own_St p l e R s m args below meth c Z own bytes ml rt nm n0 T h cells slots) {i : Int} {v : Int32} (hv : (Int8.ofInt i).toInt32 = v) (hd : decode bytes pc = .ok (.bipush i, 2)) (hp : pc + 2 = pc') (k : own_Goal p e below Φ T (mkF m pc' Ls (.int v :: rest))) : own_Goal p e below Φ T (mkF m pc Ls (rest)) := by
  subst hp hv
  exact own_pure X (fun X hx hby _ a => XS.bipush X.here hx rfl (hb hby hd) a) k
theorem own_sipush (X : own_St p l e R s m args below meth c Z own bytes ml rt nm n0 T h cells slots) {i : Int} {v : Int32} (hv : (Int16.ofInt i).toInt32 = v) (hd : decode bytes pc = .ok (.sipush i, 3)) (hp : pc + 3 = pc') (k : own_Goal p e below Φ T (mkF m pc' Ls (.int v :: rest))) : own_Goal p e below Φ T (mkF m pc Ls (rest)) := by
  subst hp hv
  exact own_pure X (fun X hx hby _ a => XS.sipush X.here hx rfl (hb hby hd) a) k
theorem own_aconst_null (X : own_St p l e R s m args below meth c Z own bytes ml rt nm n0 T h cells slots)  (hd : decode bytes pc = .ok (.aconst_null, 1)) (hp : pc + 1 = pc') (k : own_Goal p e below Φ T (mkF m pc' Ls (.null :: rest))) : own_Goal p e below Φ T (mkF m pc Ls (rest)) := by
  subst hp
  exact own_pure X (fun X hx hby _ a => XS.aconstNull X.here hx rfl (hb hby hd) a) k
theorem own_lconst (X : own_St p l e R s m args below meth c Z own bytes ml rt nm n0 T h cells slots) {k : Fin 2} {v : Int64} (hv : Int64.ofNat k = v) (hd : decode bytes pc = .ok (.lconst k, 1)) (hp : pc + 1 = pc') (k : own_Goal p e below Φ T (mkF m pc' Ls (.long v :: rest))) : own_Goal p e below Φ T (mkF m pc Ls (rest)) := by
  subst hp hv
  exact own_pure X (fun X hx hby _ a => XT.lconst X.here hx rfl (hb hby hd) a) k
theorem own_dconst0 (X : own_St p l e R s m args below meth c Z own bytes ml rt nm n0 T h cells slots) {v : UInt64} (hv : FP.dconst0 = v) (hd : decode bytes pc = .ok (.dconst 0, 1)) (hp : pc + 1 = pc') (k : own_Goal p e below Φ T (mkF m pc' Ls (.double v :: rest))) : own_Goal p e below Φ T (mkF m pc Ls (rest)) := by
  subst hp
  exact own_pure X (fun X hx hby _ a => XS.dconst0 X.here hx rfl (hb hby hd) hv a) k
theorem own_dconst1 (X : own_St p l e R s m args below meth c Z own bytes ml rt nm n0 T h cells slots) {v : UInt64} (hv : FP.dconst1 = v) (hd : decode bytes pc = .ok (.dconst 1, 1)) (hp : pc + 1 = pc') (k : own_Goal p e below Φ T (mkF m pc' Ls (.double v :: rest))) : own_Goal p e below Φ T (mkF m pc Ls (rest)) := by
  subst hp
  exact own_pure X (fun X hx hby _ a => XS.dconst1 X.here hx rfl (hb hby hd) hv a) k
theorem own_iload (X : own_St p l e R s m args below meth c Z own bytes ml rt nm n0 T h cells slots) {k : Nat} {v : Int32} (hl : Ls[k]? = some (.val (.int v))) (hd : decode bytes pc = .ok (.iload k, 2)) (hp : pc + 2 = pc') (k : own_Goal p e below Φ T (mkF m pc' Ls (.int v :: rest))) : own_Goal p e below Φ T (mkF m pc Ls (rest)) := by
  subst hp
  exact own_pure X (fun X hx hby _ a => XS.iload X.here hx rfl (hb hby hd) hl a) k
theorem own_iloadN (X : own_St p l e R s m args below meth c Z own bytes ml rt nm n0 T h cells slots) {k : Fin 4} {v : Int32} (hl : Ls[k.val]? = some (.val (.int v))) (hd : decode bytes pc = .ok (.iload_n k, 1)) (hp : pc + 1 = pc') (k : own_Goal p e below Φ T (mkF m pc' Ls (.int v :: rest))) : own_Goal p e below Φ T (mkF m pc Ls (rest)) := by
  subst hp
  exact own_pure X (fun X hx hby _ a => XS.iloadN X.here hx rfl (hb hby hd) hl a) k
theorem own_istore (X : own_St p l e R s m args below meth c Z own bytes ml rt nm n0 T h cells slots) {k : Nat} {v : Int32} {Ls' : Array Slot} (hl : storeLocals Ls k (.int v) = some Ls') (hd : decode bytes pc = .ok (.istore k, 2)) (hp : pc + 2 = pc') (k : own_Goal p e below Φ T (mkF m pc' Ls' (rest))) : own_Goal p e below Φ T (mkF m pc Ls (.int v :: rest)) := by
  subst hp
  exact own_pure X (fun X hx hby _ a => XS.istore X.here hx rfl (hb hby hd) rfl hl a) k
theorem own_istoreN (X : own_St p l e R s m args below meth c Z own bytes ml rt nm n0 T h cells slots) {k : Fin 4} {v : Int32} {Ls' : Array Slot} (hl : storeLocals Ls k.val (.int v) = some Ls') (hd : decode bytes pc = .ok (.istore_n k, 1)) (hp : pc + 1 = pc') (k : own_Goal p e below Φ T (mkF m pc' Ls' (rest))) : own_Goal p e below Φ T (mkF m pc Ls (.int v :: rest)) := by
  subst hp
  exact own_pure X (fun X hx hby _ a => XS.istoreN X.here hx rfl (hb hby hd) rfl hl a) k
theorem own_lload (X : own_St p l e R s m args below meth c Z own bytes ml rt nm n0 T h cells slots) {k : Nat} {v : Int64} (hl : Ls[k]? = some (.val (.long v))) (hd : decode bytes pc = .ok (.lload k, 2)) (hp : pc + 2 = pc') (k : own_Goal p e below Φ T (mkF m pc' Ls (.long v :: rest))) : own_Goal p e below Φ T (mkF m pc Ls (rest)) := by
  subst hp
  exact own_pure X (fun X hx hby _ a => XT.lload X.here hx rfl (hb hby hd) hl a) k
theorem own_lloadN (X : own_St p l e R s m args below meth c Z own bytes ml rt nm n0 T h cells slots) {k : Fin 4} {v : Int64} (hl : Ls[k.val]? = some (.val (.long v))) (hd : decode bytes pc = .ok (.lload_n k, 1)) (hp : pc + 1 = pc') (k : own_Goal p e below Φ T (mkF m pc' Ls (.long v :: rest))) : own_Goal p e below Φ T (mkF m pc Ls (rest)) := by
  subst hp
  exact own_pure X (fun X hx hby _ a => XT.lloadN X.here hx rfl (hb hby hd) hl a) k
theorem own_lstore (X : own_St p l e R s m args below meth c Z own bytes ml rt nm n0 T h cells slots) {k : Nat} {v : Int64} {Ls' : Array Slot} (hl : storeLocals Ls k (.long v) = some Ls') (hd : decode bytes pc = .ok (.lstore k, 2)) (hp : pc + 2 = pc') (k : own_Goal p e below Φ T (mkF m pc' Ls' (rest))) : own_Goal p e below Φ T (mkF m pc Ls (.long v :: rest)) := by
  subst hp
  exact own_pure X (fun X hx hby _ a => XT.lstore X.here hx rfl (hb hby hd) rfl hl a) k
theorem own_lstoreN (X : own_St p l e R s m args below meth c Z own bytes ml rt nm n0 T h cells slots) {k : Fin 4} {v : Int64} {Ls' : Array Slot} (hl : storeLocals Ls k.val (.long v) = some Ls') (hd : decode bytes pc = .ok (.lstore_n k, 1)) (hp : pc + 1 = pc') (k : own_Goal p e below Φ T (mkF m pc' Ls' (rest))) : own_Goal p e below Φ T (mkF m pc Ls (.long v :: rest)) := by
  subst hp
  exact own_pure X (fun X hx hby _ a => XT.lstoreN X.here hx rfl (hb hby hd) rfl hl a) k
theorem own_dload (X : own_St p l e R s m args below meth c Z own bytes ml rt nm n0 T h cells slots) {k : Nat} {v : UInt64} (hl : Ls[k]? = some (.val (.double v))) (hd : decode bytes pc = .ok (.dload k, 2)) (hp : pc + 2 = pc') (k : own_Goal p e below Φ T (mkF m pc' Ls (.double v :: rest))) : own_Goal p e below Φ T (mkF m pc Ls (rest)) := by
  subst hp
  exact own_pure X (fun X hx hby _ a => XS.dload X.here hx rfl (hb hby hd) hl a) k
theorem own_dloadN (X : own_St p l e R s m args below meth c Z own bytes ml rt nm n0 T h cells slots) {k : Fin 4} {v : UInt64} (hl : Ls[k.val]? = some (.val (.double v))) (hd : decode bytes pc = .ok (.dload_n k, 1)) (hp : pc + 1 = pc') (k : own_Goal p e below Φ T (mkF m pc' Ls (.double v :: rest))) : own_Goal p e below Φ T (mkF m pc Ls (rest)) := by
  subst hp
  exact own_pure X (fun X hx hby _ a => XS.dloadN X.here hx rfl (hb hby hd) hl a) k
theorem own_dstore (X : own_St p l e R s m args below meth c Z own bytes ml rt nm n0 T h cells slots) {k : Nat} {v : UInt64} {Ls' : Array Slot} (hl : storeLocals Ls k (.double v) = some Ls') (hd : decode bytes pc = .ok (.dstore k, 2)) (hp : pc + 2 = pc') (k : own_Goal p e below Φ T (mkF m pc' Ls' (rest))) : own_Goal p e below Φ T (mkF m pc Ls (.double v :: rest)) := by
  subst hp
  exact own_pure X (fun X hx hby _ a => XS.dstore X.here hx rfl (hb hby hd) rfl hl a) k
theorem own_dstoreN (X : own_St p l e R s m args below meth c Z own bytes ml rt nm n0 T h cells slots) {k : Fin 4} {v : UInt64} {Ls' : Array Slot} (hl : storeLocals Ls k.val (.double v) = some Ls') (hd : decode bytes pc = .ok (.dstore_n k, 1)) (hp : pc + 1 = pc') (k : own_Goal p e below Φ T (mkF m pc' Ls' (rest))) : own_Goal p e below Φ T (mkF m pc Ls (.double v :: rest)) := by
  subst hp
  exact own_pure X (fun X hx hby _ a => XS.dstoreN X.here hx rfl (hb hby hd) rfl hl a) k
theorem own_aload (X : own_St p l e R s m args below meth c Z own bytes ml rt nm n0 T h cells slots) {k : Nat} {v : Value} (hl : Ls[k]? = some (.val v)) (hv : v.isRef = true) (hd : decode bytes pc = .ok (.aload k, 2)) (hp : pc + 2 = pc') (k : own_Goal p e below Φ T (mkF m pc' Ls (v :: rest))) : own_Goal p e below Φ T (mkF m pc Ls (rest)) := by
  subst hp
  exact own_pure X (fun X hx hby _ a => XS.aload X.here hx rfl (hb hby hd) hl hv a) k
theorem own_aloadN (X : own_St p l e R s m args below meth c Z own bytes ml rt nm n0 T h cells slots) {k : Fin 4} {v : Value} (hl : Ls[k.val]? = some (.val v)) (hv : v.isRef = true) (hd : decode bytes pc = .ok (.aload_n k, 1)) (hp : pc + 1 = pc') (k : own_Goal p e below Φ T (mkF m pc' Ls (v :: rest))) : own_Goal p e below Φ T (mkF m pc Ls (rest)) := by
  subst hp
  exact own_pure X (fun X hx hby _ a => XS.aloadN X.here hx rfl (hb hby hd) hl hv a) k
theorem own_astore (X : own_St p l e R s m args below meth c Z own bytes ml rt nm n0 T h cells slots) {k : Nat} {v : Value} {Ls' : Array Slot} (hl : storeLocals Ls k v = some Ls') (hv : v.isRef = true) (hd : decode bytes pc = .ok (.astore k, 2)) (hp : pc + 2 = pc') (k : own_Goal p e below Φ T (mkF m pc' Ls' (rest))) : own_Goal p e below Φ T (mkF m pc Ls (v :: rest)) := by
  subst hp
  exact own_pure X (fun X hx hby _ a => XS.astore X.here hx rfl (hb hby hd) rfl hv hl a) k
theorem own_astoreN (X : own_St p l e R s m args below meth c Z own bytes ml rt nm n0 T h cells slots) {k : Fin 4} {v : Value} {Ls' : Array Slot} (hl : storeLocals Ls k.val v = some Ls') (hv : v.isRef = true) (hd : decode bytes pc = .ok (.astore_n k, 1)) (hp : pc + 1 = pc') (k : own_Goal p e below Φ T (mkF m pc' Ls' (rest))) : own_Goal p e below Φ T (mkF m pc Ls (v :: rest)) := by
  subst hp
  exact own_pure X (fun X hx hby _ a => XS.astoreN X.here hx rfl (hb hby hd) rfl hv hl a) k
theorem own_iinc (X : own_St p l e R s m args below meth c Z own bytes ml rt nm n0 T h cells slots) {k : Nat} {i : Int} {x v : Int32} {Ls' : Array Slot} (hl : Ls[k]? = some (.val (.int x))) (hv : x + Int32.ofInt i = v) (hl' : storeLocals Ls k (.int v) = some Ls') (hd : decode bytes pc = .ok (.iinc k i, 3)) (hp : pc + 3 = pc') (k : own_Goal p e below Φ T (mkF m pc' Ls' (rest))) : own_Goal p e below Φ T (mkF m pc Ls (rest)) := by
  subst hp hv
  exact own_pure X (fun X hx hby _ a => XS.iinc X.here hx rfl (hb hby hd) hl hl' a) k
theorem own_iadd (X : own_St p l e R s m args below meth c Z own bytes ml rt nm n0 T h cells slots) {x y v : Int32} (hv : x + y = v) (hd : decode bytes pc = .ok (.iadd, 1)) (hp : pc + 1 = pc') (k : own_Goal p e below Φ T (mkF m pc' Ls (.int v :: rest))) : own_Goal p e below Φ T (mkF m pc Ls (.int y :: .int x :: rest)) := by
  subst hp hv
  exact own_pure X (fun X hx hby _ a => XS.iadd X.here hx rfl (hb hby hd) rfl a) k
theorem own_isub (X : own_St p l e R s m args below meth c Z own bytes ml rt nm n0 T h cells slots) {x y v : Int32} (hv : x - y = v) (hd : decode bytes pc = .ok (.isub, 1)) (hp : pc + 1 = pc') (k : own_Goal p e below Φ T (mkF m pc' Ls (.int v :: rest))) : own_Goal p e below Φ T (mkF m pc Ls (.int y :: .int x :: rest)) := by
  subst hp hv
  exact own_pure X (fun X hx hby _ a => XS.isub X.here hx rfl (hb hby hd) rfl a) k
theorem own_imul (X : own_St p l e R s m args below meth c Z own bytes ml rt nm n0 T h cells slots) {x y v : Int32} (hv : x * y = v) (hd : decode bytes pc = .ok (.imul, 1)) (hp : pc + 1 = pc') (k : own_Goal p e below Φ T (mkF m pc' Ls (.int v :: rest))) : own_Goal p e below Φ T (mkF m pc Ls (.int y :: .int x :: rest)) := by
  subst hp hv
  exact own_pure X (fun X hx hby _ a => XS.imul X.here hx rfl (hb hby hd) rfl a) k
theorem own_iand (X : own_St p l e R s m args below meth c Z own bytes ml rt nm n0 T h cells slots) {x y v : Int32} (hv : x &&& y = v) (hd : decode bytes pc = .ok (.iand, 1)) (hp : pc + 1 = pc') (k : own_Goal p e below Φ T (mkF m pc' Ls (.int v :: rest))) : own_Goal p e below Φ T (mkF m pc Ls (.int y :: .int x :: rest)) := by
  subst hp hv
  exact own_pure X (fun X hx hby _ a => XS.iand X.here hx rfl (hb hby hd) rfl a) k
theorem own_ior (X : own_St p l e R s m args below meth c Z own bytes ml rt nm n0 T h cells slots) {x y v : Int32} (hv : x ||| y = v) (hd : decode bytes pc = .ok (.ior, 1)) (hp : pc + 1 = pc') (k : own_Goal p e below Φ T (mkF m pc' Ls (.int v :: rest))) : own_Goal p e below Φ T (mkF m pc Ls (.int y :: .int x :: rest)) := by
  subst hp hv
  exact own_pure X (fun X hx hby _ a => XT.ior X.here hx rfl (hb hby hd) rfl a) k
theorem own_ixor (X : own_St p l e R s m args below meth c Z own bytes ml rt nm n0 T h cells slots) {x y v : Int32} (hv : x ^^^ y = v) (hd : decode bytes pc = .ok (.ixor, 1)) (hp : pc + 1 = pc') (k : own_Goal p e below Φ T (mkF m pc' Ls (.int v :: rest))) : own_Goal p e below Φ T (mkF m pc Ls (.int y :: .int x :: rest)) := by
  subst hp hv
  exact own_pure X (fun X hx hby _ a => XT.ixor X.here hx rfl (hb hby hd) rfl a) k
theorem own_ishl (X : own_St p l e R s m args below meth c Z own bytes ml rt nm n0 T h cells slots) {x y v : Int32} (hv : x <<< (y &&& 31) = v) (hd : decode bytes pc = .ok (.ishl, 1)) (hp : pc + 1 = pc') (k : own_Goal p e below Φ T (mkF m pc' Ls (.int v :: rest))) : own_Goal p e below Φ T (mkF m pc Ls (.int y :: .int x :: rest)) := by
  subst hp hv
  exact own_pure X (fun X hx hby _ a => XT.ishl X.here hx rfl (hb hby hd) rfl a) k
theorem own_ishr (X : own_St p l e R s m args below meth c Z own bytes ml rt nm n0 T h cells slots) {x y v : Int32} (hv : x >>> (y &&& 31) = v) (hd : decode bytes pc = .ok (.ishr, 1)) (hp : pc + 1 = pc') (k : own_Goal p e below Φ T (mkF m pc' Ls (.int v :: rest))) : own_Goal p e below Φ T (mkF m pc Ls (.int y :: .int x :: rest)) := by
  subst hp hv
  exact own_pure X (fun X hx hby _ a => XT.ishr X.here hx rfl (hb hby hd) rfl a) k
theorem own_iushr (X : own_St p l e R s m args below meth c Z own bytes ml rt nm n0 T h cells slots) {x y v : Int32} (hv : XT.ushr x y = v) (hd : decode bytes pc = .ok (.iushr, 1)) (hp : pc + 1 = pc') (k : own_Goal p e below Φ T (mkF m pc' Ls (.int v :: rest))) : own_Goal p e below Φ T (mkF m pc Ls (.int y :: .int x :: rest)) := by
  subst hp hv
  exact own_pure X (fun X hx hby _ a => XT.iushr X.here hx rfl (hb hby hd) rfl a) k
theorem own_irem (X : own_St p l e R s m args below meth c Z own bytes ml rt nm n0 T h cells slots) {x y v : Int32} (hy : y ≠ 0) (hv : x % y = v) (hd : decode bytes pc = .ok (.irem, 1)) (hp : pc + 1 = pc') (k : own_Goal p e below Φ T (mkF m pc' Ls (.int v :: rest))) : own_Goal p e below Φ T (mkF m pc Ls (.int y :: .int x :: rest)) := by
  subst hp hv
  exact own_pure X (fun X hx hby _ a => iremM X hx rfl (hb hby hd) rfl hy a) k
theorem own_ineg (X : own_St p l e R s m args below meth c Z own bytes ml rt nm n0 T h cells slots) {x v : Int32} (hv : -x = v) (hd : decode bytes pc = .ok (.ineg, 1)) (hp : pc + 1 = pc') (k : own_Goal p e below Φ T (mkF m pc' Ls (.int v :: rest))) : own_Goal p e below Φ T (mkF m pc Ls (.int x :: rest)) := by
  subst hp hv
  exact own_pure X (fun X hx hby _ a => XS.ineg X.here hx rfl (hb hby hd) rfl a) k
theorem own_ladd (X : own_St p l e R s m args below meth c Z own bytes ml rt nm n0 T h cells slots) {x y v : Int64} (hv : x + y = v) (hd : decode bytes pc = .ok (.ladd, 1)) (hp : pc + 1 = pc') (k : own_Goal p e below Φ T (mkF m pc' Ls (.long v :: rest))) : own_Goal p e below Φ T (mkF m pc Ls (.long y :: .long x :: rest)) := by
  subst hp hv
  exact own_pure X (fun X hx hby _ a => XT.ladd X.here hx rfl (hb hby hd) rfl a) k
theorem own_lsub (X : own_St p l e R s m args below meth c Z own bytes ml rt nm n0 T h cells slots) {x y v : Int64} (hv : x - y = v) (hd : decode bytes pc = .ok (.lsub, 1)) (hp : pc + 1 = pc') (k : own_Goal p e below Φ T (mkF m pc' Ls (.long v :: rest))) : own_Goal p e below Φ T (mkF m pc Ls (.long y :: .long x :: rest)) := by
  subst hp hv
  exact own_pure X (fun X hx hby _ a => XT.lsub X.here hx rfl (hb hby hd) rfl a) k
theorem own_lmul (X : own_St p l e R s m args below meth c Z own bytes ml rt nm n0 T h cells slots) {x y v : Int64} (hv : x * y = v) (hd : decode bytes pc = .ok (.lmul, 1)) (hp : pc + 1 = pc') (k : own_Goal p e below Φ T (mkF m pc' Ls (.long v :: rest))) : own_Goal p e below Φ T (mkF m pc Ls (.long y :: .long x :: rest)) := by
  subst hp hv
  exact own_pure X (fun X hx hby _ a => XT.lmul X.here hx rfl (hb hby hd) rfl a) k
theorem own_land (X : own_St p l e R s m args below meth c Z own bytes ml rt nm n0 T h cells slots) {x y v : Int64} (hv : x &&& y = v) (hd : decode bytes pc = .ok (.land, 1)) (hp : pc + 1 = pc') (k : own_Goal p e below Φ T (mkF m pc' Ls (.long v :: rest))) : own_Goal p e below Φ T (mkF m pc Ls (.long y :: .long x :: rest)) := by
  subst hp hv
  exact own_pure X (fun X hx hby _ a => XT.land X.here hx rfl (hb hby hd) rfl a) k
theorem own_lor (X : own_St p l e R s m args below meth c Z own bytes ml rt nm n0 T h cells slots) {x y v : Int64} (hv : x ||| y = v) (hd : decode bytes pc = .ok (.lor, 1)) (hp : pc + 1 = pc') (k : own_Goal p e below Φ T (mkF m pc' Ls (.long v :: rest))) : own_Goal p e below Φ T (mkF m pc Ls (.long y :: .long x :: rest)) := by
  subst hp hv
  exact own_pure X (fun X hx hby _ a => XT.lor X.here hx rfl (hb hby hd) rfl a) k
theorem own_ldiv (X : own_St p l e R s m args below meth c Z own bytes ml rt nm n0 T h cells slots) {x y v : Int64} (hy : y ≠ 0) (hv : x / y = v) (hd : decode bytes pc = .ok (.ldiv, 1)) (hp : pc + 1 = pc') (k : own_Goal p e below Φ T (mkF m pc' Ls (.long v :: rest))) : own_Goal p e below Φ T (mkF m pc Ls (.long y :: .long x :: rest)) := by
  subst hp hv
  exact own_pure X (fun X hx hby _ a => XT.ldiv X.here hx rfl (hb hby hd) rfl hy a) k
theorem own_lrem (X : own_St p l e R s m args below meth c Z own bytes ml rt nm n0 T h cells slots) {x y v : Int64} (hy : y ≠ 0) (hv : x - (x / y) * y = v) (hd : decode bytes pc = .ok (.lrem, 1)) (hp : pc + 1 = pc') (k : own_Goal p e below Φ T (mkF m pc' Ls (.long v :: rest))) : own_Goal p e below Φ T (mkF m pc Ls (.long y :: .long x :: rest)) := by
  subst hp hv
  exact own_pure X (fun X hx hby _ a => XT.lrem X.here hx rfl (hb hby hd) rfl hy a) k
theorem own_lneg (X : own_St p l e R s m args below meth c Z own bytes ml rt nm n0 T h cells slots) {x v : Int64} (hv : -x = v) (hd : decode bytes pc = .ok (.lneg, 1)) (hp : pc + 1 = pc') (k : own_Goal p e below Φ T (mkF m pc' Ls (.long v :: rest))) : own_Goal p e below Φ T (mkF m pc Ls (.long x :: rest)) := by
  subst hp hv
  exact own_pure X (fun X hx hby _ a => XT.lneg X.here hx rfl (hb hby hd) rfl a) k
theorem own_lshl (X : own_St p l e R s m args below meth c Z own bytes ml rt nm n0 T h cells slots) {x v : Int64} {y : Int32} (hv : x <<< (y.toInt64 &&& 63) = v) (hd : decode bytes pc = .ok (.lshl, 1)) (hp : pc + 1 = pc') (k : own_Goal p e below Φ T (mkF m pc' Ls (.long v :: rest))) : own_Goal p e below Φ T (mkF m pc Ls (.int y :: .long x :: rest)) := by
  subst hp hv
  exact own_pure X (fun X hx hby _ a => XT.lshl X.here hx rfl (hb hby hd) rfl a) k
theorem own_lcmp (X : own_St p l e R s m args below meth c Z own bytes ml rt nm n0 T h cells slots) {x y : Int64} {v : Int32} (hv : XT.cmpL x y = v) (hd : decode bytes pc = .ok (.lcmp, 1)) (hp : pc + 1 = pc') (k : own_Goal p e below Φ T (mkF m pc' Ls (.int v :: rest))) : own_Goal p e below Φ T (mkF m pc Ls (.long y :: .long x :: rest)) := by
  subst hp hv
  exact own_pure X (fun X hx hby _ a => XT.lcmp X.here hx rfl (hb hby hd) rfl a) k
theorem own_i2l (X : own_St p l e R s m args below meth c Z own bytes ml rt nm n0 T h cells slots) {x : Int32} {v : Int64} (hv : x.toInt64 = v) (hd : decode bytes pc = .ok (.i2l, 1)) (hp : pc + 1 = pc') (k : own_Goal p e below Φ T (mkF m pc' Ls (.long v :: rest))) : own_Goal p e below Φ T (mkF m pc Ls (.int x :: rest)) := by
  subst hp hv
  exact own_pure X (fun X hx hby _ a => XT.i2l X.here hx rfl (hb hby hd) rfl a) k
theorem own_l2i (X : own_St p l e R s m args below meth c Z own bytes ml rt nm n0 T h cells slots) {x : Int64} {v : Int32} (hv : x.toInt32 = v) (hd : decode bytes pc = .ok (.l2i, 1)) (hp : pc + 1 = pc') (k : own_Goal p e below Φ T (mkF m pc' Ls (.int v :: rest))) : own_Goal p e below Φ T (mkF m pc Ls (.long x :: rest)) := by
  subst hp hv
  exact own_pure X (fun X hx hby _ a => XT.l2i X.here hx rfl (hb hby hd) rfl a) k
theorem own_i2c (X : own_St p l e R s m args below meth c Z own bytes ml rt nm n0 T h cells slots) {x v : Int32} (hv : x.toUInt32.toUInt16.toUInt32.toInt32 = v) (hd : decode bytes pc = .ok (.i2c, 1)) (hp : pc + 1 = pc') (k : own_Goal p e below Φ T (mkF m pc' Ls (.int v :: rest))) : own_Goal p e below Φ T (mkF m pc Ls (.int x :: rest)) := by
  subst hp hv
  exact own_pure X (fun X hx hby _ a => XT.i2c X.here hx rfl (hb hby hd) rfl a) k
theorem own_i2d (X : own_St p l e R s m args below meth c Z own bytes ml rt nm n0 T h cells slots) {x : Int32} {v : UInt64} (hv : FP.i2d x = v) (hd : decode bytes pc = .ok (.i2d, 1)) (hp : pc + 1 = pc') (k : own_Goal p e below Φ T (mkF m pc' Ls (.double v :: rest))) : own_Goal p e below Φ T (mkF m pc Ls (.int x :: rest)) := by
  subst hp
  exact own_pure X (fun X hx hby _ a => XS.i2dS X.here hx rfl (hb hby hd) rfl hv a) k
theorem own_l2d (X : own_St p l e R s m args below meth c Z own bytes ml rt nm n0 T h cells slots) {x : Int64} {v : UInt64} (hv : FP.l2d x = v) (hd : decode bytes pc = .ok (.l2d, 1)) (hp : pc + 1 = pc') (k : own_Goal p e below Φ T (mkF m pc' Ls (.double v :: rest))) : own_Goal p e below Φ T (mkF m pc Ls (.long x :: rest)) := by
  subst hp
  exact own_pure X (fun X hx hby _ a => XS.l2dS X.here hx rfl (hb hby hd) rfl hv a) k
theorem own_dadd (X : own_St p l e R s m args below meth c Z own bytes ml rt nm n0 T h cells slots) {x y v : UInt64} (hv : FP.dadd x y = v) (hn : Jvm.Free.Fl.NoNaN64 v) (hd : decode bytes pc = .ok (.dadd, 1)) (hp : pc + 1 = pc') (k : own_Goal p e below Φ T (mkF m pc' Ls (.double v :: rest))) : own_Goal p e below Φ T (mkF m pc Ls (.double y :: .double x :: rest)) := by
  subst hp
  exact own_pure X (fun X hx hby _ a => XS.daddS X.here hx rfl (hb hby hd) rfl (by rw [hv]; exact hn) hv a) k
theorem own_dsub (X : own_St p l e R s m args below meth c Z own bytes ml rt nm n0 T h cells slots) {x y v : UInt64} (hv : FP.dsub x y = v) (hn : Jvm.Free.Fl.NoNaN64 v) (hd : decode bytes pc = .ok (.dsub, 1)) (hp : pc + 1 = pc') (k : own_Goal p e below Φ T (mkF m pc' Ls (.double v :: rest))) : own_Goal p e below Φ T (mkF m pc Ls (.double y :: .double x :: rest)) := by
  subst hp
  exact own_pure X (fun X hx hby _ a => XS.dsubS X.here hx rfl (hb hby hd) rfl (by rw [hv]; exact hn) hv a) k
theorem own_dmul (X : own_St p l e R s m args below meth c Z own bytes ml rt nm n0 T h cells slots) {x y v : UInt64} (hv : FP.dmul x y = v) (hn : Jvm.Free.Fl.NoNaN64 v) (hd : decode bytes pc = .ok (.dmul, 1)) (hp : pc + 1 = pc') (k : own_Goal p e below Φ T (mkF m pc' Ls (.double v :: rest))) : own_Goal p e below Φ T (mkF m pc Ls (.double y :: .double x :: rest)) := by
  subst hp
  exact own_pure X (fun X hx hby _ a => XS.dmulS X.here hx rfl (hb hby hd) rfl (by rw [hv]; exact hn) hv a) k
theorem own_ddiv (X : own_St p l e R s m args below meth c Z own bytes ml rt nm n0 T h cells slots) {x y v : UInt64} (hv : FP.ddiv x y = v) (hn : Jvm.Free.Fl.NoNaN64 v) (hd : decode bytes pc = .ok (.ddiv, 1)) (hp : pc + 1 = pc') (k : own_Goal p e below Φ T (mkF m pc' Ls (.double v :: rest))) : own_Goal p e below Φ T (mkF m pc Ls (.double y :: .double x :: rest)) := by
  subst hp
  exact own_pure X (fun X hx hby _ a => XS.ddivS X.here hx rfl (hb hby hd) rfl (by rw [hv]; exact hn) hv a) k
theorem own_dneg (X : own_St p l e R s m args below meth c Z own bytes ml rt nm n0 T h cells slots) {x v : UInt64} (hv : FP.dneg x = v) (hd : decode bytes pc = .ok (.dneg, 1)) (hp : pc + 1 = pc') (k : own_Goal p e below Φ T (mkF m pc' Ls (.double v :: rest))) : own_Goal p e below Φ T (mkF m pc Ls (.double x :: rest)) := by
  subst hp
  exact own_pure X (fun X hx hby _ a => XS.dnegS X.here hx rfl (hb hby hd) rfl hv a) k
theorem own_dcmp (X : own_St p l e R s m args below meth c Z own bytes ml rt nm n0 T h cells slots) {o : CmpOp} {x y : UInt64} {v : Int32} (hv : cmpValue (FP.dcmp x y) o = v) (hd : decode bytes pc = .ok (.dcmp o, 1)) (hp : pc + 1 = pc') (k : own_Goal p e below Φ T (mkF m pc' Ls (.int v :: rest))) : own_Goal p e below Φ T (mkF m pc Ls (.double y :: .double x :: rest)) := by
  subst hp
  exact own_pure X (fun X hx hby _ a => XS.dcmpS X.here hx rfl (hb hby hd) rfl hv a) k
theorem own_dremS {tb : Tables} [Ours tb] {e : Env} {below : List Frame} {T target : State} {m : MethodId} {c : Code} {g : JFrame} (h : At T m c below) (hx : tb.exec = Jvm.exec) (hg : g.method = m) {x y v : UInt64} {rest : List Value} (hd : decode c.code g.pc = .ok (.drem, 1)) (hs : g.stack = .double y :: .double x :: rest) (hn : Jvm.Free.Fl.NoNaN64 (FP.drem x y)) (hv : FP.drem x y = v)
    (hr : Steps tb e below (T.setTop { g with pc := g.pc + 1, stack := .double v :: rest }) target) : Steps tb e below (T.setTop g) target := by
  subst hg
  subst hv
  obtain ⟨gm, gp, gl, gs, gk, ge, gr⟩ := g
  simp only at hs hd
  subst hs
  jvm_step h [h.top, hx, hd, Op.drem.at_number h.top hn]
  exact hr
theorem own_drem (X : own_St p l e R s m args below meth c Z own bytes ml rt nm n0 T h cells slots) {x y v : UInt64} (hv : FP.drem x y = v) (hn : Jvm.Free.Fl.NoNaN64 v) (hd : decode bytes pc = .ok (.drem, 1)) (hp : pc + 1 = pc') (k : own_Goal p e below Φ T (mkF m pc' Ls (.double v :: rest))) : own_Goal p e below Φ T (mkF m pc Ls (.double y :: .double x :: rest)) := by
  subst hp
  exact own_pure X (fun X hx hby _ a => own_dremS X.here hx rfl (hb hby hd) rfl (by rw [hv]; exact hn) hv a) k
theorem own_dup (X : own_St p l e R s m args below meth c Z own bytes ml rt nm n0 T h cells slots) {x : Value} (hc : x.category = 1) (hd : decode bytes pc = .ok (.dup, 1)) (hp : pc + 1 = pc') (k : own_Goal p e below Φ T (mkF m pc' Ls (x :: x :: rest))) : own_Goal p e below Φ T (mkF m pc Ls (x :: rest)) := by
  subst hp
  exact own_pure X (fun X hx hby _ a => XS.dup X.here hx rfl (hb hby hd) rfl hc a) k
theorem own_dup2 (X : own_St p l e R s m args below meth c Z own bytes ml rt nm n0 T h cells slots) {x y : Value} (hc : x.category = 1) (hc' : y.category = 1) (hd : decode bytes pc = .ok (.dup2, 1)) (hp : pc + 1 = pc') (k : own_Goal p e below Φ T (mkF m pc' Ls (x :: y :: x :: y :: rest))) : own_Goal p e below Φ T (mkF m pc Ls (x :: y :: rest)) := by
  subst hp
  exact own_pure X (fun X hx hby _ a => XT.dup2 X.here hx rfl (hb hby hd) rfl hc hc' a) k
theorem own_pop (X : own_St p l e R s m args below meth c Z own bytes ml rt nm n0 T h cells slots) {x : Value} (hc : x.category = 1) (hd : decode bytes pc = .ok (.pop, 1)) (hp : pc + 1 = pc') (k : own_Goal p e below Φ T (mkF m pc' Ls (rest))) : own_Goal p e below Φ T (mkF m pc Ls (x :: rest)) := by
  subst hp
  exact own_pure X (fun X hx hby _ a => XT.pop X.here hx rfl (hb hby hd) rfl hc a) k
theorem own_goto (X : own_St p l e R s m args below meth c Z own bytes ml rt nm n0 T h cells slots) {o : Int}  (hd : decode bytes pc = .ok (.goto o, 3)) (ho : 0 ≤ (pc : Int) + o) (hp : ((pc : Int) + o).toNat = pc') (k : own_Goal p e below Φ T (mkF m pc' Ls rest)) : own_Goal p e below Φ T (mkF m pc Ls (rest)) := by
  exact own_pure X (fun X hx hby _ a => XS.goto X.here hx rfl rfl (hb hby hd) ho hp a) k
theorem own_ifT (X : own_St p l e R s m args below meth c Z own bytes ml rt nm n0 T h cells slots) {o : Int} {cd : ClassFile.Cond} {x : Int32} (hc : ifCond.holds cd x = true) (hd : decode bytes pc = .ok (.ifCond cd o, 3)) (ho : 0 ≤ (pc : Int) + o) (hp : ((pc : Int) + o).toNat = pc') (k : own_Goal p e below Φ T (mkF m pc' Ls rest)) : own_Goal p e below Φ T (mkF m pc Ls (.int x :: rest)) := by
  exact own_pure X (fun X hx hby _ a => XS.ifYes X.here hx rfl rfl (hb hby hd) rfl hc ho hp a) k
theorem own_ifF (X : own_St p l e R s m args below meth c Z own bytes ml rt nm n0 T h cells slots) {o : Int} {cd : ClassFile.Cond} {x : Int32} (hc : ifCond.holds cd x = false) (hd : decode bytes pc = .ok (.ifCond cd o, 3)) (hp : pc + 3 = pc') (k : own_Goal p e below Φ T (mkF m pc' Ls rest)) : own_Goal p e below Φ T (mkF m pc Ls (.int x :: rest)) := by
  subst hp
  exact own_pure X (fun X hx hby _ a => XS.ifNo X.here hx rfl (hb hby hd) rfl hc a) k
theorem own_icmpT (X : own_St p l e R s m args below meth c Z own bytes ml rt nm n0 T h cells slots) {o : Int} {cd : ClassFile.Cond} {x y : Int32} (hc : if_icmp.holds cd x y = true) (hd : decode bytes pc = .ok (.if_icmp cd o, 3)) (ho : 0 ≤ (pc : Int) + o) (hp : ((pc : Int) + o).toNat = pc') (k : own_Goal p e below Φ T (mkF m pc' Ls rest)) : own_Goal p e below Φ T (mkF m pc Ls (.int y :: .int x :: rest)) := by
  exact own_pure X (fun X hx hby _ a => XS.icmpYes X.here hx rfl rfl (hb hby hd) rfl hc ho hp a) k
theorem own_icmpF (X : own_St p l e R s m args below meth c Z own bytes ml rt nm n0 T h cells slots) {o : Int} {cd : ClassFile.Cond} {x y : Int32} (hc : if_icmp.holds cd x y = false) (hd : decode bytes pc = .ok (.if_icmp cd o, 3)) (hp : pc + 3 = pc') (k : own_Goal p e below Φ T (mkF m pc' Ls rest)) : own_Goal p e below Φ T (mkF m pc Ls (.int y :: .int x :: rest)) := by
  subst hp
  exact own_pure X (fun X hx hby _ a => XS.icmpNo X.here hx rfl (hb hby hd) rfl hc a) k
theorem own_ifnullT (X : own_St p l e R s m args below meth c Z own bytes ml rt nm n0 T h cells slots) {o : Int}  (hd : decode bytes pc = .ok (.ifnull o, 3)) (ho : 0 ≤ (pc : Int) + o) (hp : ((pc : Int) + o).toNat = pc') (k : own_Goal p e below Φ T (mkF m pc' Ls rest)) : own_Goal p e below Φ T (mkF m pc Ls (.null :: rest)) := by
  exact own_pure X (fun X hx hby _ a => XS.ifnullYes X.here hx rfl rfl (hb hby hd) rfl ho hp a) k
theorem own_ifnullF (X : own_St p l e R s m args below meth c Z own bytes ml rt nm n0 T h cells slots) {o : Int} {b : Addr} (hd : decode bytes pc = .ok (.ifnull o, 3)) (hp : pc + 3 = pc') (k : own_Goal p e below Φ T (mkF m pc' Ls rest)) : own_Goal p e below Φ T (mkF m pc Ls (.ref b :: rest)) := by
  subst hp
  exact own_pure X (fun X hx hby _ a => XS.ifnullNo X.here hx rfl (hb hby hd) rfl a) k
theorem own_ifnonnullT (X : own_St p l e R s m args below meth c Z own bytes ml rt nm n0 T h cells slots) {o : Int} {b : Addr} (hd : decode bytes pc = .ok (.ifnonnull o, 3)) (ho : 0 ≤ (pc : Int) + o) (hp : ((pc : Int) + o).toNat = pc') (k : own_Goal p e below Φ T (mkF m pc' Ls rest)) : own_Goal p e below Φ T (mkF m pc Ls (.ref b :: rest)) := by
  exact own_pure X (fun X hx hby _ a => XT.ifnonnullYes X.here hx rfl rfl (hb hby hd) rfl ho hp a) k
theorem own_ifnonnullF (X : own_St p l e R s m args below meth c Z own bytes ml rt nm n0 T h cells slots) {o : Int}  (hd : decode bytes pc = .ok (.ifnonnull o, 3)) (hp : pc + 3 = pc') (k : own_Goal p e below Φ T (mkF m pc' Ls rest)) : own_Goal p e below Φ T (mkF m pc Ls (.null :: rest)) := by
  subst hp
  exact own_pure X (fun X hx hby _ a => XT.ifnonnullNo X.here hx rfl (hb hby hd) rfl a) k
theorem own_ldcI (X : own_St p l e R s m args below meth c Z own bytes ml rt nm n0 T h cells slots) {i : Nat} {v : Int32} (w : (Jvm.Cond.constant own i v).before a0 Z = true) (hd : decode bytes pc = .ok (.ldc i, 2)) (hp : pc + 2 = pc') (k : own_Goal p e below Φ T (mkF m pc' Ls (.int v :: rest))) : own_Goal p e below Φ T (mkF m pc Ls rest) := by
  subst hp
  obtain ⟨locs, X, -, -, -, hx, hZ, hown, hby, -⟩ := X
  exact own_step (fun t a => X.ldcInt hx hown (mvT hZ w) (g := mkF m pc Ls rest) rfl (hb hby hd) t a) k
theorem own_ldcJ (X : own_St p l e R s m args below meth c Z own bytes ml rt nm n0 T h cells slots) {i : Nat} {v : Int64} (w : (Jvm.Cond.constantLong own i v).before a0 Z = true) (hd : decode bytes pc = .ok (.ldc2_w i, 3)) (hp : pc + 3 = pc') (k : own_Goal p e below Φ T (mkF m pc' Ls (.long v :: rest))) : own_Goal p e below Φ T (mkF m pc Ls rest) := by
  subst hp
  obtain ⟨locs, X, -, -, -, hx, hZ, hown, hby, -⟩ := X
  exact own_step (fun t a => X.ldc2Long hx hown (mvT hZ w) (g := mkF m pc Ls rest) rfl (hb hby hd) t a) k
theorem own_ldcD (X : own_St p l e R s m args below meth c Z own bytes ml rt nm n0 T h cells slots) {i : Nat} {v : UInt64} (w : (Jvm.Cond.constantDouble own i v).before a0 Z = true) (hd : decode bytes pc = .ok (.ldc2_w i, 3)) (hp : pc + 3 = pc') (k : own_Goal p e below Φ T (mkF m pc' Ls (.double v :: rest))) : own_Goal p e below Φ T (mkF m pc Ls rest) := by
  subst hp
  obtain ⟨locs, X, -, -, -, hx, hZ, hown, hby, -⟩ := X
  exact own_step (fun t a => X.ldc2DoubleC hx hown (mvT hZ w) (g := mkF m pc Ls rest) rfl (hb hby hd) t a) k
theorem own_retI (X : own_St p l e R s m args below meth c Z own bytes ml rt nm n0 T h cells slots) {v : Int32} (hd : decode bytes pc = .ok (.ireturn, 1)) (hr : rt = some .int) (hc : cells ≤ R.cells) (hs : slots ≤ R.slots) (q : Q (some (.int v)) h) : own_Goal p e below (own_Fin below s R n0 Q) T (mkF m pc Ls (.int v :: rest)) := by
  obtain ⟨locs, X, N, e1, n1, hx, hZ, hown, hby, -, hrt, hlk, -⟩ := X
  obtain ⟨fs, hl, hrun, hended, hW, hsame⟩ := X.leave (v := some (.int v)) (fun z => by rw [hrt, hr] at z; cases z) hlk
  exact ⟨_, _, retOut X hx (hrt.trans hr) rfl (Or.inl ⟨rfl, Or.inl rfl, _, rfl⟩) (hb hby hd) hl, hrun, hended, _, _, rfl, ⟨⟨by show Q _ T.heap; rw [e1]; exact q, by show n0 ≤ T.heap.size; rw [e1]; exact n1⟩, N⟩, ⟨_, rfl⟩, hW, hsame.mono hc hs⟩
theorem own_retJ (X : own_St p l e R s m args below meth c Z own bytes ml rt nm n0 T h cells slots) {v : Int64} (hd : decode bytes pc = .ok (.lreturn, 1)) (hr : rt = some .long) (hc : cells ≤ R.cells) (hs : slots ≤ R.slots) (q : Q (some (.long v)) h) : own_Goal p e below (own_Fin below s R n0 Q) T (mkF m pc Ls (.long v :: rest)) := by
  obtain ⟨locs, X, N, e1, n1, hx, hZ, hown, hby, -, hrt, hlk, -⟩ := X
  obtain ⟨fs, hl, hrun, hended, hW, hsame⟩ := X.leave (v := some (.long v)) (fun z => by rw [hrt, hr] at z; cases z) hlk
  exact ⟨_, _, retOut X hx (hrt.trans hr) rfl (Or.inr (Or.inl ⟨rfl, rfl, _, rfl⟩)) (hb hby hd) hl, hrun, hended, _, _, rfl, ⟨⟨by show Q _ T.heap; rw [e1]; exact q, by show n0 ≤ T.heap.size; rw [e1]; exact n1⟩, N⟩, ⟨_, rfl⟩, hW, hsame.mono hc hs⟩
theorem own_retD (X : own_St p l e R s m args below meth c Z own bytes ml rt nm n0 T h cells slots) {v : UInt64} (hd : decode bytes pc = .ok (.dreturn, 1)) (hr : rt = some .double) (hc : cells ≤ R.cells) (hs : slots ≤ R.slots) (q : Q (some (.double v)) h) : own_Goal p e below (own_Fin below s R n0 Q) T (mkF m pc Ls (.double v :: rest)) := by
  obtain ⟨locs, X, N, e1, n1, hx, hZ, hown, hby, -, hrt, hlk, -⟩ := X
  obtain ⟨fs, hl, hrun, hended, hW, hsame⟩ := X.leave (v := some (.double v)) (fun z => by rw [hrt, hr] at z; cases z) hlk
  exact ⟨_, _, retOut X hx (hrt.trans hr) rfl (Or.inr (Or.inr (Or.inl ⟨rfl, rfl, _, rfl⟩))) (hb hby hd) hl, hrun, hended, _, _, rfl, ⟨⟨by show Q _ T.heap; rw [e1]; exact q, by show n0 ≤ T.heap.size; rw [e1]; exact n1⟩, N⟩, ⟨_, rfl⟩, hW, hsame.mono hc hs⟩
theorem own_retZ (X : own_St p l e R s m args below meth c Z own bytes ml rt nm n0 T h cells slots) {v : Int32} (hv : v = 0 ∨ v = 1) (hd : decode bytes pc = .ok (.ireturn, 1)) (hr : rt = some .boolean) (hc : cells ≤ R.cells) (hs : slots ≤ R.slots) (q : Q (some (.int v)) h) : own_Goal p e below (own_Fin below s R n0 Q) T (mkF m pc Ls (.int v :: rest)) := by
  obtain ⟨locs, X, N, e1, n1, hx, hZ, hown, hby, -, hrt, hlk, -⟩ := X
  obtain ⟨fs, hl, hrun, hended, hW, hsame⟩ := X.leave (v := some (.int v)) (fun z => by rw [hrt, hr] at z; cases z) hlk
  have hn : nar .boolean v = v := by rcases hv with rfl | rfl <;> rfl
  exact ⟨_, _, retN X hx (t := .boolean) (hrt.trans hr) (by simp) (hb hby hd) (by rw [hn]; exact hl), hrun, hended, _, _, rfl, ⟨⟨by show Q _ T.heap; rw [e1]; exact q, by show n0 ≤ T.heap.size; rw [e1]; exact n1⟩, N⟩, ⟨_, rfl⟩, hW, hsame.mono hc hs⟩
theorem own_retA (X : own_St p l e R s m args below meth c Z own bytes ml rt nm n0 T h cells slots) {b : Addr} {t : FieldType} (ht : t.isReference = true) (hd : decode bytes pc = .ok (.areturn, 1)) (hr : rt = some t) (hc : cells ≤ R.cells) (hs : slots ≤ R.slots) (q : Q (some (.ref b)) h) : own_Goal p e below (own_Fin below s R n0 Q) T (mkF m pc Ls (.ref b :: rest)) := by
  obtain ⟨locs, X, N, e1, n1, hx, hZ, hown, hby, -, hrt, hlk, -⟩ := X
  obtain ⟨fs, hl, hrun, hended, hW, hsame⟩ := X.leave (v := some (.ref b)) (fun z => by rw [hrt, hr] at z; cases z) hlk
  have hn : narrow t (.ref b) = .ref b := by cases t <;> rfl
  exact ⟨_, _, retOut X hx (hrt.trans hr) hn (Or.inr (Or.inr (Or.inr (Or.inr ⟨rfl, ht, rfl⟩)))) (hb hby hd) hl, hrun, hended, _, _, rfl, ⟨⟨by show Q _ T.heap; rw [e1]; exact q, by show n0 ≤ T.heap.size; rw [e1]; exact n1⟩, N⟩, ⟨_, rfl⟩, hW, hsame.mono hc hs⟩
theorem own_retV (X : own_St p l e R s m args below meth c Z own bytes ml rt nm n0 T h cells slots) (hd : decode bytes pc = .ok (.return_, 1)) (hr : rt = none) (hc : cells ≤ R.cells) (hs : slots ≤ R.slots) (q : Q none h) : own_Goal p e below (own_Fin below s R n0 Q) T (mkF m pc Ls []) := by
  obtain ⟨locs, X, N, e1, n1, hx, hZ, hown, hby, -, hrt, hlk, -⟩ := X
  obtain ⟨fs, hl, hrun, hended, hW, hsame⟩ := X.leave (v := none) (fun _ => rfl) hlk
  exact ⟨_, _, X.returnOut hx (hrt.trans hr) (hb hby hd) hl, hrun, hended, _, _, rfl, ⟨⟨by show Q _ T.heap; rw [e1]; exact q, by show n0 ≤ T.heap.size; rw [e1]; exact n1⟩, N⟩, ⟨_, rfl⟩, hW, hsame.mono hc hs⟩
/-- an array and all it holds -/
def own_Vec (Z : State) (h : Heap) (a : Addr) (ty : FieldType) (vs : List Value) : Prop := ∃ c : Cell, Arr Z h a c ty ∧ c.slots = vs.toArray
theorem own_Vec.lt {a : Addr} {ty : FieldType} {vs : List Value} (F : own_Vec Z h a ty vs) : a < h.size := by obtain ⟨c, A, -⟩ := F; exact A.lt
theorem own_Vec.ext {h' : Heap} {a : Addr} {ty : FieldType} {vs : List Value} (F : own_Vec Z h a ty vs) (E : Ext h h') : own_Vec Z h' a ty vs := by obtain ⟨c, A, r⟩ := F; exact ⟨c, A.ext E, r⟩
theorem own_Vec.other {h' : Heap} {a b : Addr} {sl : Nat} {v : Value} {ty : FieldType} {vs : List Value} (F : own_Vec Z h b ty vs) (W : Wr h h' a sl v) (q : b ≠ a) : own_Vec Z h' b ty vs := by obtain ⟨c, A, r⟩ := F; exact ⟨c, A.other W q, r⟩
theorem own_Vec.keep {h' : Heap} {ws : List Addr} {a : Addr} {ty : FieldType} {vs : List Value} (F : own_Vec Z h a ty vs) (K : Keep h h' ws) (q : a ∉ ws) : own_Vec Z h' a ty vs := by obtain ⟨c, A, r⟩ := F; exact ⟨c, ⟨K.2.1 a c A.1 q, A.2⟩, r⟩
theorem own_Vec.set {h' : Heap} {a : Addr} {i : Nat} {v : Value} {ty : FieldType} {vs : List Value} (F : own_Vec Z h a ty vs) (W : Wr h h' a i v) : own_Vec Z h' a ty (vs.set i v) := by
  obtain ⟨c, A, r⟩ := F
  refine ⟨_, A.same W, ?_⟩
  show c.slots.setIfInBounds i v = _
  rw [r]; simp
theorem own_lt_ne {a b : Addr} (q : b < h.size) (g : a = h.size) : b ≠ a := by subst g; exact Nat.ne_of_lt q
/-- an index in an array, as the library's laws ask it -/
theorem own_in {n i : Nat} {j : Int32} (hj : j.toNatClampNeg = i) (h0 : ¬ j < 0) (hi : i < n) : ¬ (j < 0 ∨ n ≤ j.toNatClampNeg) := by
  rw [hj]; rintro (q | q)
  · exact h0 q
  · omega
theorem own_len (X : own_St p l e R s m args below meth c Z own bytes ml rt nm n0 T h cells slots) {a : Addr} {ty : FieldType} {vs : List Value} (F : own_Vec Z h a ty vs) {v : Int32} (hv : vs.length.toInt32 = v) (hd : decode bytes pc = .ok (.arraylength, 1)) (hp : pc + 1 = pc') (k : own_Goal p e below Φ T (mkF m pc' Ls (.int v :: rest))) : own_Goal p e below Φ T (mkF m pc Ls (.ref a :: rest)) := by
  subst hp
  obtain ⟨locs, X, N, e1, -, hx, hZ, hown, hby, -⟩ := X
  obtain ⟨cl, A, r⟩ := F
  have e2 : cl.slots.size.toInt32 = v := by rw [r]; simpa using hv
  exact own_step (fun t a => X.arraylength hx (cell := cl) (by rw [e1]; exact A.1) (State.isArrayOf_alike hZ.alike A.2.1) (g := mkF m pc Ls _) rfl rfl (hb hby hd) t (by rw [e2]; exact a)) k
theorem own_iaload (X : own_St p l e R s m args below meth c Z own bytes ml rt nm n0 T h cells slots) {a : Addr} {vs : List Value} (F : own_Vec Z h a .int vs) {j : Int32} {i : Nat} {v : Value} (hj : j.toNatClampNeg = i) (h0 : ¬ j < 0) (hv : vs[i]? = some v) (hd : decode bytes pc = .ok (.iaload, 1)) (hp : pc + 1 = pc') (k : own_Goal p e below Φ T (mkF m pc' Ls (v :: rest))) : own_Goal p e below Φ T (mkF m pc Ls (.int j :: .ref a :: rest)) := by
  subst hp
  obtain ⟨locs, X, N, e1, -, hx, hZ, hown, hby, -⟩ := X
  obtain ⟨cl, A, r⟩ := F
  have q1 : i < vs.length := (List.getElem?_eq_some_iff.mp hv).1
  exact own_step (fun t a => X.iaload hx (cell := cl) (by rw [e1]; exact A.1) (State.isArrayOf_alike hZ.alike A.2.1) A.2.2 (own_in hj h0 (by rw [r]; simpa using q1)) (by rw [hj, r]; simpa using hv) (g := mkF m pc Ls _) rfl rfl (hb hby hd) t a) k
theorem own_laload (X : own_St p l e R s m args below meth c Z own bytes ml rt nm n0 T h cells slots) {a : Addr} {vs : List Value} (F : own_Vec Z h a .long vs) {j : Int32} {i : Nat} {v : Value} (hj : j.toNatClampNeg = i) (h0 : ¬ j < 0) (hv : vs[i]? = some v) (hd : decode bytes pc = .ok (.laload, 1)) (hp : pc + 1 = pc') (k : own_Goal p e below Φ T (mkF m pc' Ls (v :: rest))) : own_Goal p e below Φ T (mkF m pc Ls (.int j :: .ref a :: rest)) := by
  subst hp
  obtain ⟨locs, X, N, e1, -, hx, hZ, hown, hby, -⟩ := X
  obtain ⟨cl, A, r⟩ := F
  have q1 : i < vs.length := (List.getElem?_eq_some_iff.mp hv).1
  exact own_step (fun t a => X.laload hx (cell := cl) (by rw [e1]; exact A.1) (State.isArrayOf_alike hZ.alike A.2.1) A.2.2 (own_in hj h0 (by rw [r]; simpa using q1)) (by rw [hj, r]; simpa using hv) (g := mkF m pc Ls _) rfl rfl (hb hby hd) t a) k
theorem own_daload (X : own_St p l e R s m args below meth c Z own bytes ml rt nm n0 T h cells slots) {a : Addr} {vs : List Value} (F : own_Vec Z h a .double vs) {j : Int32} {i : Nat} {v : Value} (hj : j.toNatClampNeg = i) (h0 : ¬ j < 0) (hv : vs[i]? = some v) (hd : decode bytes pc = .ok (.daload, 1)) (hp : pc + 1 = pc') (k : own_Goal p e below Φ T (mkF m pc' Ls (v :: rest))) : own_Goal p e below Φ T (mkF m pc Ls (.int j :: .ref a :: rest)) := by
  subst hp
  obtain ⟨locs, X, N, e1, -, hx, hZ, hown, hby, -⟩ := X
  obtain ⟨cl, A, r⟩ := F
  have q1 : i < vs.length := (List.getElem?_eq_some_iff.mp hv).1
  exact own_step (fun t a => X.daload hx (cell := cl) (by rw [e1]; exact A.1) (State.isArrayOf_alike hZ.alike A.2.1) A.2.2 (own_in hj h0 (by rw [r]; simpa using q1)) (by rw [hj, r]; simpa using hv) (g := mkF m pc Ls _) rfl rfl (hb hby hd) t a) k
theorem own_iastore (X : own_St p l e R s m args below meth c Z own bytes ml rt nm n0 T h cells slots) {a : Addr} {vs : List Value} (F : own_Vec Z h a .int vs) (ha : n0 ≤ a) {j : Int32} {i : Nat} {x : Int32} (hj : j.toNatClampNeg = i) (h0 : ¬ j < 0) (hi : i < vs.length) (hd : decode bytes pc = .ok (.iastore, 1)) (hp : pc + 1 = pc')
    (k : ∀ T' h', own_St p l e R s m args below meth c Z own bytes ml rt nm n0 T' h' cells slots → Wr h h' a i (.int x) → own_Vec Z h' a .int (vs.set i (.int x)) → own_Goal p e below Φ T' (mkF m pc' Ls rest)) : own_Goal p e below Φ T (mkF m pc Ls (.int x :: .int j :: .ref a :: rest)) := by
  subst hp
  obtain ⟨locs, X, N, e1, n1, hx, hZ, hown, hby, r0⟩ := X
  have F0 := F
  obtain ⟨cl, A, r⟩ := F
  obtain ⟨T', h', X', e', W, st⟩ := stI X hx hZ e1 A (own_in hj h0 (by rw [r]; simpa using hi)) (g := mkF m pc Ls _) rfl rfl (hb hby hd)
  have N' := Fr.snoc X' N ha
  rw [hj] at W
  exact own_step st (k T' h' ⟨_, X', N', e', by rw [W.size]; exact n1, hx, hZ, hown, hby, r0⟩ W (F0.set W))
theorem own_dastore (X : own_St p l e R s m args below meth c Z own bytes ml rt nm n0 T h cells slots) {a : Addr} {vs : List Value} (F : own_Vec Z h a .double vs) (ha : n0 ≤ a) {j : Int32} {i : Nat} {x : UInt64} (hj : j.toNatClampNeg = i) (h0 : ¬ j < 0) (hi : i < vs.length) (hd : decode bytes pc = .ok (.dastore, 1)) (hp : pc + 1 = pc')
    (k : ∀ T' h', own_St p l e R s m args below meth c Z own bytes ml rt nm n0 T' h' cells slots → Wr h h' a i (.double x) → own_Vec Z h' a .double (vs.set i (.double x)) → own_Goal p e below Φ T' (mkF m pc' Ls rest)) : own_Goal p e below Φ T (mkF m pc Ls (.double x :: .int j :: .ref a :: rest)) := by
  subst hp
  obtain ⟨locs, X, N, e1, n1, hx, hZ, hown, hby, r0⟩ := X
  have F0 := F
  obtain ⟨cl, A, r⟩ := F
  obtain ⟨T', h', X', e', W, st⟩ := stD X hx hZ e1 A (own_in hj h0 (by rw [r]; simpa using hi)) (g := mkF m pc Ls _) rfl rfl (hb hby hd)
  have N' := Fr.snoc X' N ha
  rw [hj] at W
  exact own_step st (k T' h' ⟨_, X', N', e', by rw [W.size]; exact n1, hx, hZ, hown, hby, r0⟩ W (F0.set W))
theorem own_newarray (X : own_St p l e R s m args below meth c Z own bytes ml rt nm n0 T h cells slots) {aty : ArrayType} {ty : FieldType} (hty : newarray.typeOf aty = ty) (w : (Jvm.Cond.arrayClass ty).before a0 Z = true) {j : Int32} {n : Nat} {vs : List Value} (hj : j.toNatClampNeg = n) (h0 : ¬ j < 0) (hn : n ≤ 1000) (hvs : List.replicate n (defaultValue ty) = vs) {cells' slots' : Nat} (hc' : cells + 1 = cells') (hs' : slots + n = slots') (hc : cells' ≤ R.cells) (hs : slots' ≤ R.slots) (hd : decode bytes pc = .ok (.newarray aty, 2)) (hp : pc + 2 = pc')
    (k : ∀ a T' h', a = h.size → n0 ≤ a → own_St p l e R s m args below meth c Z own bytes ml rt nm n0 T' h' cells' slots' → Ext h h' → own_Vec Z h' a ty vs → own_Goal p e below Φ T' (mkF m pc' Ls (.ref a :: rest))) : own_Goal p e below Φ T (mkF m pc Ls (.int j :: rest)) := by
  subst hp hty hvs hc' hs'
  obtain ⟨locs, X, N, e1, n1, hx, hZ, hown, hby, r0⟩ := X
  obtain ⟨T', h', cA, X', e', E, A, st⟩ := newP X hx hZ w e1 (g := mkF m pc Ls _) rfl (hb hby hd) rfl h0 (cap := n) (by omega) (by omega) hc hs
  refine own_step st (k _ T' h' rfl n1 ⟨_, X', N, e', Nat.le_trans n1 E.1, hx, hZ, hown, hby, r0⟩ E ⟨_, A, ?_⟩)
  simp [newA, hj]
theorem own_new (X : own_St p l e R s m args below meth c Z own bytes ml rt nm n0 T h cells slots) {i : Nat} {C : String} {n : Nat} (w : (Jvm.Cond.classLink own i C).before a0 Z = true) (wi : (Jvm.Cond.instantiable C n).before a0 Z = true) (wz : (Jvm.Cond.initialized C).before a0 Z = true) {cells' slots' : Nat} (hc' : cells + 1 = cells') (hs' : slots + n = slots') (hc : cells' ≤ R.cells) (hs : slots' ≤ R.slots) (hd : decode bytes pc = .ok (.new i, 3)) (hp : pc + 3 = pc')
    (k : ∀ a T' h', a = h.size → n0 ≤ a → own_St p l e R s m args below meth c Z own bytes ml rt nm n0 T' h' cells' slots' → Ext h h' → Exa Z h' a C → (∀ {O nm d : String} {ty : FieldType}, Laid Z a0 C O nm d → parseFieldDescriptor d = some ty → Fld Z h' a O nm d (defaultValue ty)) → own_Goal p e below Φ T' (mkF m pc' Ls (.ref a :: rest))) : own_Goal p e below Φ T (mkF m pc Ls rest) := by
  subst hp hc' hs'
  obtain ⟨locs, X, N, e1, n1, hx, hZ, hown, hby, r0⟩ := X
  obtain ⟨T', h', X', e', E, A, D, -, st⟩ := newO X hx hZ hown w wi wz e1 (g := mkF m pc Ls _) rfl (hb hby hd) hc hs
  exact own_step st (k _ T' h' rfl n1 ⟨_, X', N, e', Nat.le_trans n1 E.1, hx, hZ, hown, hby, r0⟩ E A D)
theorem own_getF (X : own_St p l e R s m args below meth c Z own bytes ml rt nm n0 T h cells slots) {i : Nat} {O n d : String} (w : (Jvm.Cond.fieldLink own i O n d).before a0 Z = true) {a : Addr} {v : Value} (F : Fld Z h a O n d v) (hd : decode bytes pc = .ok (.getfield i, 3)) (hp : pc + 3 = pc')
    (k : ∀ T', own_St p l e R s m args below meth c Z own bytes ml rt nm n0 T' h cells slots → own_Goal p e below Φ T' (mkF m pc' Ls (v :: rest))) : own_Goal p e below Φ T (mkF m pc Ls (.ref a :: rest)) := by
  subst hp
  obtain ⟨locs, X, N, e1, n1, hx, hZ, hown, hby, r0⟩ := X
  obtain ⟨T', X', e', st⟩ := getF X hx hZ hown (host := "") (Or.inl w) Via.refl e1 F (g := mkF m pc Ls _) rfl rfl (hb hby hd)
  exact own_step st (k T' ⟨_, X', N, e', n1, hx, hZ, hown, hby, r0⟩)
theorem own_putF (X : own_St p l e R s m args below meth c Z own bytes ml rt nm n0 T h cells slots) {i : Nat} {O n d C : String} {kk : Nat} {ty : FieldType} (w : (Jvm.Cond.fieldLink own i O n d).before a0 Z = true) {a : Addr} {v old : Value} (F : Fld Z h a O n d old) (E : Exa Z h a C) (L : (Jvm.Cond.lays C O n d).before a0 Z = true ∨ ((Jvm.Cond.laysFinal C O n d).before a0 Z = true ∧ own = O ∧ nm = "<init>")) (wi : (Jvm.Cond.instantiable C kk).before a0 Z = true) (hty : parseFieldDescriptor d = some ty) (hn : narrow ty v = v) (hf : fits ty v = true) (ha : n0 ≤ a) (hd : decode bytes pc = .ok (.putfield i, 3)) (hp : pc + 3 = pc')
    (k : ∀ T' h', own_St p l e R s m args below meth c Z own bytes ml rt nm n0 T' h' cells slots → Wr h h' a (RoadKit.slotOf Z O n d) v → own_Goal p e below Φ T' (mkF m pc' Ls rest)) : own_Goal p e below Φ T (mkF m pc Ls (v :: .ref a :: rest)) := by
  subst hp
  obtain ⟨locs, X, N, e1, n1, hx, hZ, hown, hby, q1, q2, q3, q4⟩ := X
  obtain ⟨T', h', X', e', W, st⟩ := putF X hx hZ hown (host := "") (Or.inl w) Via.refl e1 F E (L.imp id fun z => ⟨z.1, z.2.1, q4.trans z.2.2⟩) wi hty hn hf (g := mkF m pc Ls _) rfl rfl (hb hby hd)
  exact own_step st (k T' h' ⟨_, X', Fr.snoc X' N ha, e', by rw [W.size]; exact n1, hx, hZ, hown, hby, q1, q2, q3, q4⟩ W)
theorem own_initO (X : own_St p l e R s m args below meth c Z own bytes ml rt nm n0 T h cells slots) {i : Nat} (w1 : (Jvm.Cond.methodLink own i Lib.objectInit).before a0 Z = true) (w2 : (Jvm.Cond.instanceMethod Lib.objectInit).before a0 Z = true) (w3 : (Jvm.Cond.code Lib.objectInit ⟨#[0xb1]⟩ 1 none).before a0 Z = true) {a : Addr} (hsz : Ls.size = ml) (hf : 1 ≤ R.frames) {W : Nat} (hW : (rest.map fun v => v.category).sum ≤ W) (hl : W + 12 ≤ R.locals) (hd : decode bytes pc = .ok (.invokespecial i, 3)) (hp : pc + 3 = pc')
    (k : ∀ T', own_St p l e R s m args below meth c Z own bytes ml rt nm n0 T' h cells slots → own_Goal p e below Φ T' (mkF m pc' Ls rest)) : own_Goal p e below Φ T (mkF m pc Ls (.ref a :: rest)) := by
  subst hp
  obtain ⟨locs, X, N, e1, n1, hx, hZ, hown, hby, hml, r0⟩ := X
  obtain ⟨T', X', e', st⟩ := initO X hx hZ hown w1 w2 w3 e1 (g := mkF m pc Ls (.ref a :: rest)) (rest := rest) rfl (hsz.trans hml.symm) rfl (hb hby hd) hf (W := W) (by show 2 * 0 + _ ≤ _; omega) hl
  exact own_step st (k T' ⟨_, X', N, e', n1, hx, hZ, hown, hby, hml, r0⟩)
/-- a callee's contract: called with as' over the heap h0 it returns, and Q says what it leaves -/
def own_Met (l : Launch) (Z : State) (y : MethodName) (bytes : ByteArray) (ml : Nat) (rt : Option FieldType) (ws : List Jvm.Cond) (rm : Room) (as' : Array Value) (h0 : Heap) (n0 : Nat) (Q : Option Value → Heap → Prop) : Prop :=
  MetFree l y (head1 (Jvm.Cond.code y bytes ml rt :: ws) rm) (fun a U => a = as' ∧ Z.Warmed39 U.vm ∧ U.heap = h0) (fun _ _ _ _ _ => True) (fun _ U o U' => ∃ v L, o = .returned v ∧ ((Q v U'.heap ∧ n0 ≤ U'.heap.size) ∧ Fr n0 L) ∧ FrameEnd U o U' L rm.cells rm.slots)
theorem own_meet {y : MethodName} {ws : List Jvm.Cond} {rm : Room} {as' : Array Value} {h0 : Heap} (hpn : plainFor y = true) (hle : n0 ≤ h0.size) {Ls0 : Array Slot} (hef : ∀ m, entryFrame m as' ml = mkF m 0 Ls0 [])
    (body : ∀ (p : Program) (e : Env) (s : State) (m : MethodId) (below : List Frame) (meth : Method) (c : Code) (T : State), own_St p l e rm s m as' below meth c Z y.cls bytes ml rt y.name n0 T h0 0 0 → own_Goal p e below (own_Fin below s rm n0 Q) T (mkF m 0 Ls0 [])) : own_Met l Z y bytes ml rt ws rm as' h0 n0 Q := by
  refine MetFree.of_bodySF hpn hisR ?_
  intro p e s m args below meth c s₁ Bd hml0 hP hK
  obtain ⟨rfl, hZ, hh⟩ := hP
  have e0 : s₁.heap = h0 := by rw [← hh, Bd.state]; rfl
  obtain ⟨s2, o, st, r1, r2, r3⟩ := body p e s m below meth c s₁ ⟨[], Stand.of_body Bd, Fr.nil n0, e0, hle, Bd.exec, hZ, findClass_of_methodNamed Bd.named, Bd.bytes, hml0, Bd.returns, Bd.notSynchronized, (name_of_methodNamed Bd.named Bd.method).1⟩
  exact ⟨s2, o, castTop (hef m) st, r1, r2, r3⟩
theorem own_callS (X : own_St p l e R s m args below meth c Z own bytes ml rt nm n0 T h cells slots) {y : MethodName} {yb : ByteArray} {yl : Nat} {yr : Option FieldType} {rm : Room} {as' : Array Value} {Q' : Option Value → Heap → Prop} (M : own_Met l Z y yb yl yr [] rm as' h n0 Q') {i : Nat} (w1 : (Jvm.Cond.methodLink own i y).before a0 Z = true) (w2 : (Jvm.Cond.static y).before a0 Z = true) (w3 : (Jvm.Cond.initialized y.cls).before a0 Z = true) (w4 : (Jvm.Cond.code y yb yl yr).before a0 Z = true) (hy : y.cls ≠ "java/lang/invoke/MethodHandle" ∧ y.cls ≠ "java/lang/invoke/VarHandle") (hsz : Ls.size = ml) (hf : rm.frames + 1 ≤ R.frames) {W : Nat} (hW : (rest.map fun v => v.category).sum ≤ W) (hl : W + (yl + 11) + rm.locals ≤ R.locals) {cells' slots' : Nat} (hc' : cells + rm.cells = cells') (hs' : slots + rm.slots = slots') (hc : cells' ≤ R.cells) (hs : slots' ≤ R.slots) {argsL stk : List Value} (hlen : ∀ sig, parseMethodDescriptor y.desc = some sig → argsL.length = sig.parameters.length) (hst : stk = argsL.reverse ++ rest) (has : argsL.toArray = as') (hd : decode bytes pc = .ok (.invokestatic i, 3)) (hp : pc + 3 = pc')
    (k : ∀ v T' h', own_St p l e R s m args below meth c Z own bytes ml rt nm n0 T' h' cells' slots' → Q' v h' → own_Goal p e below Φ T' (mkF m pc' Ls (v.toList ++ rest))) : own_Goal p e below Φ T (mkF m pc Ls stk) := by
  subst hp hst has hc' hs'
  obtain ⟨locs, X, N, e1, n1, hx, hZ, hown, hby, hml, r0⟩ := X
  obtain ⟨v, vm1, ⟨T', L', k', n'⟩, -, X', ⟨Lc, ⟨⟨hQ, hG⟩, NL⟩, l1, y1, z1⟩, st⟩ := Jvm.LawKit.callS X hx (y := y) hown (mvT hZ w1) (mvT hZ w2) (mvT hZ w3) (mvT hZ w4) hy (backOf (W := W) (Q := fun v hh L => (Q' v hh ∧ n0 ≤ hh.size) ∧ Fr n0 L) M hZ w4 w3 hf hl) (g := mkF m pc Ls (argsL.reverse ++ rest)) rfl (hsz.trans hml.symm) (argsL := argsL) (rest := rest) hlen rfl (by show 2 * 0 + _ ≤ _; omega) (hb hby hd) (fun _ _ => ⟨rfl, e1, hc, hs⟩)
  dsimp only [Pt.U, Pt.locs, Pt.cells, Pt.slots] at X' l1 y1 z1 st hQ
  subst l1 y1 z1
  exact own_step st (k v T' _ ⟨_, X', Fr.app N NL, rfl, hG, hx, hZ, hown, hby, hml, r0⟩ hQ)
theorem own_special (X : own_St p l e R s m args below meth c Z own bytes ml rt nm n0 T h cells slots) {y : MethodName} {yb : ByteArray} {yl : Nat} {yr : Option FieldType} {rm : Room} {as' : Array Value} {Q' : Option Value → Heap → Prop} (M : own_Met l Z y yb yl yr [] rm as' h n0 Q') (hy1 : y.name = "<init>") (hyr : yr = none) {i : Nat} (w1 : (Jvm.Cond.methodLink own i y).before a0 Z = true) (w2 : (Jvm.Cond.instanceMethod y).before a0 Z = true) (w3 : (Jvm.Cond.initialized y.cls).before a0 Z = true) (w4 : (Jvm.Cond.code y yb yl yr).before a0 Z = true) (hy : y.cls ≠ "java/lang/invoke/MethodHandle" ∧ y.cls ≠ "java/lang/invoke/VarHandle") (hsz : Ls.size = ml) (hf : rm.frames + 1 ≤ R.frames) {W : Nat} (hW : (rest.map fun v => v.category).sum ≤ W) (hl : W + (yl + 11) + rm.locals ≤ R.locals) {cells' slots' : Nat} (hc' : cells + rm.cells = cells') (hs' : slots + rm.slots = slots') (hc : cells' ≤ R.cells) (hs : slots' ≤ R.slots) {a : Addr} {argsL stk : List Value} (hlen : ∀ sig, parseMethodDescriptor y.desc = some sig → argsL.length = sig.parameters.length) (hst : stk = argsL.reverse ++ .ref a :: rest) (has : (.ref a :: argsL).toArray = as') (hd : decode bytes pc = .ok (.invokespecial i, 3)) (hp : pc + 3 = pc')
    (k : ∀ v T' h', own_St p l e R s m args below meth c Z own bytes ml rt nm n0 T' h' cells' slots' → Q' v h' → own_Goal p e below Φ T' (mkF m pc' Ls (v.toList ++ rest))) : own_Goal p e below Φ T (mkF m pc Ls stk) := by
  subst hp hst has hc' hs' hyr
  obtain ⟨locs, X, N, e1, n1, hx, hZ, hown, hby, hml, r0⟩ := X
  obtain ⟨v, vm1, ⟨T', L', k', n'⟩, -, X', ⟨Lc, ⟨⟨hQ, hG⟩, NL⟩, l1, y1, z1⟩, st⟩ := X.specialBack hx (y := y) hy1 hown (mvT hZ w1) (mvT hZ w2) (mvT hZ w4) hy (backOf (W := W) (Q := fun v hh L => (Q' v hh ∧ n0 ≤ hh.size) ∧ Fr n0 L) M hZ w4 w3 hf hl) (g := mkF m pc Ls (argsL.reverse ++ .ref a :: rest)) rfl (hsz.trans hml.symm) (Steps.refl _) (a := a) (argsL := argsL) (rest := rest) hlen rfl (by show 2 * 0 + _ ≤ _; omega) (hb hby hd) (fun _ _ => ⟨rfl, e1, hc, hs⟩)
  dsimp only [Pt.U, Pt.locs, Pt.cells, Pt.slots] at X' l1 y1 z1 st hQ
  subst l1 y1 z1
  exact own_step (fun t b => st.trans b) (k v T' _ ⟨_, X', Fr.app N NL, rfl, hG, hx, hZ, hown, hby, hml, r0⟩ hQ)
theorem own_virtual (X : own_St p l e R s m args below meth c Z own bytes ml rt nm n0 T h cells slots) {y : MethodName} {yb : ByteArray} {yl : Nat} {yr : Option FieldType} {rm : Room} {as' : Array Value} {Q' : Option Value → Heap → Prop} (M : own_Met l Z y yb yl yr [] rm as' h n0 Q') {C : String} {z : MethodName} {i : Nat} (hz : y = z) (w1 : (Jvm.Cond.methodLink own i z).before a0 Z = true) (wd : (Jvm.Cond.declares z).before a0 Z = true) (wsl : (Jvm.Cond.selects C z y).before a0 Z = true) (w2 : (Jvm.Cond.instanceMethod y).before a0 Z = true) (w3 : (Jvm.Cond.initialized y.cls).before a0 Z = true) (w4 : (Jvm.Cond.code y yb yl yr).before a0 Z = true) (hy : y.cls ≠ "java/lang/invoke/MethodHandle" ∧ y.cls ≠ "java/lang/invoke/VarHandle") (hsz : Ls.size = ml) (hf : rm.frames + 1 ≤ R.frames) {W : Nat} (hW : (rest.map fun v => v.category).sum ≤ W) (hl : W + (yl + 11) + rm.locals ≤ R.locals) {cells' slots' : Nat} (hc' : cells + rm.cells = cells') (hs' : slots + rm.slots = slots') (hc : cells' ≤ R.cells) (hs : slots' ≤ R.slots) {a : Addr} (E : Exa Z h a C) {argsL stk : List Value} (hlen : ∀ sig, parseMethodDescriptor y.desc = some sig → argsL.length = sig.parameters.length) (hst : stk = argsL.reverse ++ .ref a :: rest) (has : (.ref a :: argsL).toArray = as') (hd : decode bytes pc = .ok (.invokevirtual i, 3)) (hp : pc + 3 = pc')
    (k : ∀ v T' h', own_St p l e R s m args below meth c Z own bytes ml rt nm n0 T' h' cells' slots' → Q' v h' → own_Goal p e below Φ T' (mkF m pc' Ls (v.toList ++ rest))) : own_Goal p e below Φ T (mkF m pc Ls stk) := by
  subst hp hst has hc' hs' hz
  obtain ⟨locs, X, N, e1, n1, hx, hZ, hown, hby, hml, r0⟩ := X
  obtain ⟨cq, kq, qa, qb, qc⟩ := isOf (T := T) hZ e1 E
  obtain ⟨v, vm1, ⟨T', L', k', n'⟩, -, X', ⟨Lc, ⟨⟨hQ, hG⟩, NL⟩, l1, y1, z1⟩, st⟩ := X.virtualBack hx (y := y) (z := y) hown (mvT hZ w1) (mvT hZ wd) (notFace_of_selects (args := #[]) (mvT hZ wsl)) (mvT hZ wsl) (mvT hZ w2) hy (backOf (W := W) (Q := fun v hh L => (Q' v hh ∧ n0 ≤ hh.size) ∧ Fr n0 L) M hZ w4 w3 hf hl) qa qc (g := mkF m pc Ls (argsL.reverse ++ .ref a :: rest)) rfl (hsz.trans hml.symm) (Steps.refl _) (argsL := argsL) (rest := rest) hlen rfl (by show 2 * 0 + _ ≤ _; omega) (hb hby hd) (fun _ _ => ⟨rfl, e1, hc, hs⟩)
  dsimp only [Pt.U, Pt.locs, Pt.cells, Pt.slots] at X' l1 y1 z1 st hQ
  subst l1 y1 z1
  exact own_step (fun t b => st.trans b) (k v T' _ ⟨_, X', Fr.app N NL, rfl, hG, hx, hZ, hown, hby, hml, r0⟩ hQ)
end OwnWalk
section OwnNum
open Jvm.FP Jvm.FP.Core
/-- the int x is the whole number i, at most B in size -/
def own_I (B : Nat) (i : Int) (x : Int32) : Prop := x.toInt = i ∧ i.natAbs ≤ B
def own_L (B : Nat) (i : Int) (x : Int64) : Prop := x.toInt = i ∧ i.natAbs ≤ B
section
variable {A B C M : Nat} {i j : Int}
theorem own_I.start (x : Int32) : own_I 2147483648 x.toInt x := by
  have := x.toInt_lt; have := x.le_toInt
  exact ⟨rfl, by omega⟩
theorem own_L.start (x : Int64) : own_L 9223372036854775808 x.toInt x := by
  have := x.toInt_lt; have := x.le_toInt
  exact ⟨rfl, by omega⟩
theorem own_I.lit {x : Int32} (h : x.toInt = i) (hB : i.natAbs ≤ B) : own_I B i x := ⟨h, hB⟩
theorem own_I.self {x : Int32} (a : own_I A i x) : own_I A x.toInt x := ⟨rfl, by rw [a.1]; exact a.2⟩
theorem own_L.self {x : Int64} (a : own_L A i x) : own_L A x.toInt x := ⟨rfl, by rw [a.1]; exact a.2⟩
theorem own_L.lit {x : Int64} (h : x.toInt = i) (hB : i.natAbs ≤ B) : own_L B i x := ⟨h, hB⟩
theorem own_abs_mul {i j : Int} (h1 : i.natAbs ≤ A) (h2 : j.natAbs ≤ B) : (i * j).natAbs ≤ A * B := by
  rw [Int.natAbs_mul]; exact Nat.mul_le_mul h1 h2
theorem own_I.add {x y v : Int32} (a : own_I A i x) (b : own_I B j y) (hv : x + y = v) (hC : A + B ≤ C) (h : C < 2147483648) : own_I C (i + j) v := by
  obtain ⟨rfl, h1⟩ := a; obtain ⟨rfl, h2⟩ := b; subst hv
  refine ⟨?_, by omega⟩
  rw [Int32.toInt_add]; exact Int.bmod_eq_of_le (by omega) (by omega)
theorem own_I.sub {x y v : Int32} (a : own_I A i x) (b : own_I B j y) (hv : x - y = v) (hC : A + B ≤ C) (h : C < 2147483648) : own_I C (i - j) v := by
  obtain ⟨rfl, h1⟩ := a; obtain ⟨rfl, h2⟩ := b; subst hv
  refine ⟨?_, by omega⟩
  rw [Int32.toInt_sub]; exact Int.bmod_eq_of_le (by omega) (by omega)
theorem own_I.mul {x y v : Int32} (a : own_I A i x) (b : own_I B j y) (hv : x * y = v) (hC : A * B ≤ C) (h : C < 2147483648) : own_I C (i * j) v := by
  obtain ⟨rfl, h1⟩ := a; obtain ⟨rfl, h2⟩ := b; subst hv
  have h3 := Nat.le_trans (own_abs_mul h1 h2) hC
  refine ⟨?_, h3⟩
  rw [Int32.toInt_mul]; exact Int.bmod_eq_of_le (by omega) (by omega)
theorem own_I.neg {x v : Int32} (a : own_I A i x) (hv : -x = v) (h : A < 2147483648) : own_I A (-i) v := by
  obtain ⟨rfl, h1⟩ := a; subst hv
  refine ⟨?_, by omega⟩
  rw [Int32.toInt_neg]; exact Int.bmod_eq_of_le (by omega) (by omega)
theorem own_and_nn {x m v : Int32} (hv : x &&& m = v) (hm : m.toInt = M) : 0 ≤ v.toInt ∧ v.toInt ≤ M := by
  subst hv; have := c_and x m (by omega); omega
theorem own_I.and {x m v : Int32} (hv : x &&& m = v) (hm : m.toInt = M) : own_I M v.toInt v := by
  have := own_and_nn hv hm
  exact ⟨rfl, by omega⟩
theorem own_land_nn {x m v : Int64} (hv : x &&& m = v) (hm : m.toInt = M) : 0 ≤ v.toInt ∧ v.toInt ≤ M := by
  subst hv
  have h1 := (c_andSL x m).2.2 (by omega)
  refine ⟨h1, ?_⟩
  have la := x.toBitVec.isLt; have lm := m.toBitVec.isLt
  have q : (x &&& m).toBitVec.toNat = x.toBitVec.toNat &&& m.toBitVec.toNat := by show (x.toBitVec &&& m.toBitVec).toNat = _; rw [BitVec.toNat_and]
  have q2 : x.toBitVec.toNat &&& m.toBitVec.toNat ≤ m.toBitVec.toNat := Nat.and_le_right
  change 0 ≤ (x &&& m).toBitVec.toInt at h1
  show (x &&& m).toBitVec.toInt ≤ _
  change m.toBitVec.toInt = _ at hm
  rw [BitVec.toInt_eq_toNat_cond] at h1 hm ⊢
  rw [q] at h1 ⊢
  split at hm <;> split <;> omega
theorem own_L.and {x m v : Int64} (hv : x &&& m = v) (hm : m.toInt = M) : own_L M v.toInt v := by
  have := own_land_nn hv hm
  exact ⟨rfl, by omega⟩
theorem own_lrem_eq {x y v : Int64} (hv : x - (x / y) * y = v) (hx : 0 ≤ x.toInt) (hy : 0 < y.toInt) : v.toInt = x.toInt % y.toInt := by
  subst hv; exact (c_lrem x y _ rfl).1 hx
theorem own_I.shr {x q v : Int32} {k : Nat} (hv : x >>> (q &&& 31) = v) (hk : q.toBitVec.toNat % 32 = k) (hM : 2147483648 ≤ M * 2 ^ k) : own_I M v.toInt v := by
  subst hv
  have h1 := c_ishr x q k hk
  have h2 := x.toInt_lt; have h3 := x.le_toInt
  refine ⟨rfl, ?_⟩
  rw [h1]
  have p : 0 < 2 ^ k := Nat.two_pow_pos k
  generalize 2 ^ k = P at *
  have hP : (0 : Int) < (P : Int) := by omega
  have e1 : x.toInt / (P : Int) ≤ M := by
    refine Int.ediv_le_of_le_mul hP ?_
    have : ((M * P : Nat) : Int) = (M : Int) * P := Int.natCast_mul ..
    omega
  have e2 : -(M : Int) ≤ x.toInt / (P : Int) := by
    refine (Int.le_ediv_iff_mul_le hP).mpr ?_
    have : ((M * P : Nat) : Int) = (M : Int) * P := Int.natCast_mul ..
    rw [Int.neg_mul]; omega
  omega
theorem own_L.ofI {x : Int32} {v : Int64} (a : own_I A i x) (hv : x.toInt64 = v) : own_L A i v := by
  obtain ⟨rfl, h1⟩ := a; subst hv
  exact ⟨Int32.toInt_toInt64 x, h1⟩
theorem own_L.add {x y v : Int64} (a : own_L A i x) (b : own_L B j y) (hv : x + y = v) (hC : A + B ≤ C) (h : C < 9223372036854775808) : own_L C (i + j) v := by
  obtain ⟨rfl, h1⟩ := a; obtain ⟨rfl, h2⟩ := b; subst hv
  refine ⟨?_, by omega⟩
  rw [Int64.toInt_add]; exact Int.bmod_eq_of_le (by omega) (by omega)
theorem own_L.sub {x y v : Int64} (a : own_L A i x) (b : own_L B j y) (hv : x - y = v) (hC : A + B ≤ C) (h : C < 9223372036854775808) : own_L C (i - j) v := by
  obtain ⟨rfl, h1⟩ := a; obtain ⟨rfl, h2⟩ := b; subst hv
  refine ⟨?_, by omega⟩
  rw [Int64.toInt_sub]; exact Int.bmod_eq_of_le (by omega) (by omega)
theorem own_L.mul {x y v : Int64} (a : own_L A i x) (b : own_L B j y) (hv : x * y = v) (hC : A * B ≤ C) (h : C < 9223372036854775808) : own_L C (i * j) v := by
  obtain ⟨rfl, h1⟩ := a; obtain ⟨rfl, h2⟩ := b; subst hv
  have h3 := Nat.le_trans (own_abs_mul h1 h2) hC
  refine ⟨?_, h3⟩
  rw [Int64.toInt_mul]; exact Int.bmod_eq_of_le (by omega) (by omega)
theorem own_L.neg {x v : Int64} (a : own_L A i x) (hv : -x = v) (h : A < 9223372036854775808) : own_L A (-i) v := by
  obtain ⟨rfl, h1⟩ := a; subst hv
  refine ⟨?_, by omega⟩
  rw [Int64.toInt_neg]; exact Int.bmod_eq_of_le (by omega) (by omega)
end
/-- a datum times 2^k -/
def own_sh (k : Int) : Datum → Datum
  | .fin s c q => .fin s c (q + k)
  | d => d
theorem own_sh_sum (k : Int) (x y : Datum) : exactSum (own_sh k x) (own_sh k y) = own_sh k (exactSum x y) := by
  cases x with
  | nan => rfl
  | inf s => cases y with
    | nan => rfl
    | inf t => by_cases h : s = t <;> simp [own_sh, exactSum, h]
    | fin t d r => rfl
  | fin s c q => cases y with
    | nan => rfl
    | inf t => rfl
    | fin t d r =>
      have e1 : min (q + k) (r + k) = min q r + k := by omega
      have e2 : sumUnits s c (q + k) t d (r + k) (min q r + k) = sumUnits s c q t d r (min q r) := by
        unfold sumUnits inUnits
        rw [show q + k - (min q r + k) = q - min q r by omega, show r + k - (min q r + k) = r - min q r by omega]
      simp only [own_sh, exactSum, e1, e2]
theorem own_sh_prod (k r : Int) (x y : Datum) : exactProduct (own_sh k x) (own_sh r y) = own_sh (k + r) (exactProduct x y) := by
  cases x with
  | nan => rfl
  | inf s => cases y with
    | nan => rfl
    | inf t => rfl
    | fin t d u => simp only [own_sh, exactProduct]; split <;> rfl
  | fin s c q => cases y with
    | nan => rfl
    | inf t => simp only [own_sh, exactProduct]; split <;> rfl
    | fin t d u =>
      simp only [own_sh, exactProduct]
      rw [show q + k + (u + r) = q + u + (k + r) by omega]
theorem own_sh_neg (k : Int) (x : Datum) : negate (own_sh k x) = own_sh k (negate x) := by cases x <;> rfl
theorem own_sh_order (k : Int) (x y : Datum) : order (own_sh k x) (own_sh k y) = order x y := by
  cases x <;> cases y <;> try rfl
  rename_i s c q t d r
  simp only [own_sh, order]
  rw [show min (q + k) (r + k) = min q r + k by omega]
  unfold inUnits
  rw [show q + k - (min q r + k) = q - min q r by omega, show r + k - (min q r + k) = r - min q r by omega]
theorem own_sh_sh (k r : Int) (x : Datum) : own_sh r (own_sh k x) = own_sh (k + r) x := by
  cases x <;> simp only [own_sh]
  rw [Int.add_assoc]
theorem own_sh_zero (x : Datum) : own_sh 0 x = x := by cases x <;> simp [own_sh]
theorem own_signed_nat {i : Int} {s : Bool} {n : Nat} (h : n = i.natAbs) (hs : i ≠ 0 → s = decide (i < 0)) : signed s n = i := by
  by_cases h0 : i = 0
  · subst h0; subst h; exact signed_zero s
  · rw [hs h0, h]; unfold signed
    by_cases q : i < 0 <;> simp [q] <;> omega
/-- what is i * 2^-k in size rounds to itself, if i has 53 digits at the most -/
theorem own_round_core {k : Nat} {i : Int} {s : Bool} {c : Nat} {q : Int} (hk : k ≤ 1074) (hi : i.natAbs < 9007199254740992) (hs : i ≠ 0 → s = decide (i < 0)) : Whole i (own_sh k (roundRatio b64 s i.natAbs 1 (-(k : Int)))) := by
  obtain ⟨c', q', e1, e2⟩ := round_exact good_b64 s (c := i.natAbs) (q := -(k : Int)) (show i.natAbs < 2 ^ 53 by omega) (show (-1074 : Int) ≤ _ by omega) (show _ ≤ (971 : Int) by omega)
  have e3 : roundRatio b64 s i.natAbs 1 (-(k : Int)) = .fin s c' q' := e1
  have hf : Core.fits b64 (.fin s c' q') := by rw [← e1]; exact round_fits good_b64 _
  have hq : (-1074 : Int) ≤ q' := hf.2.1
  rw [e3]
  show signed s (c' * 2 ^ (q' + k).toNat) = i * ((2 ^ (-(q' + k)).toNat : Nat) : Int)
  have e4 : c' * 2 ^ (q' + 1074).toNat = i.natAbs * 2 ^ (1074 - k) := by
    have := e2
    unfold inUnits at this
    rw [show (q' - b64.qmin).toNat = (q' + 1074).toNat by rw [show b64.qmin = -1074 from rfl]; omega, show (-(k : Int) - b64.qmin).toNat = 1074 - k by rw [show b64.qmin = -1074 from rfl]; omega] at this
    exact this
  have e5 : c' * 2 ^ (q' + k).toNat = i.natAbs * 2 ^ (-(q' + k)).toNat := by
    refine Nat.eq_of_mul_eq_mul_right (Nat.two_pow_pos (1074 - k)) ?_
    have x1 : c' * 2 ^ (q' + k).toNat * 2 ^ (1074 - k) = c' * 2 ^ (q' + 1074).toNat * 2 ^ (-(q' + k)).toNat := by
      rw [Nat.mul_assoc, Nat.mul_assoc, ← Nat.pow_add, ← Nat.pow_add]; congr 2; omega
    rw [x1, e4, Nat.mul_right_comm]
  rw [e5, signed_mul, own_signed_nat rfl hs]
theorem own_round {k : Nat} {i : Int} {d : Datum} (hk : k ≤ 1074) (hi : i.natAbs < 9007199254740992) (h : Whole i (own_sh k d)) : Whole i (own_sh k (round b64 d)) := by
  cases d with
  | nan => exact h.elim
  | inf => exact h.elim
  | fin s c q =>
    have h1 : c * 2 ^ (q + k).toNat = i.natAbs * 2 ^ (-(q + k)).toNat := whole_natAbs h
    have e : round b64 (.fin s c q) = roundRatio b64 s i.natAbs 1 (-(k : Int)) := by
      refine roundRatio_congr (by decide) (by decide) ?_
      rw [show (q - -(k : Int)).toNat = (q + k).toNat by omega, show (-(k : Int) - q).toNat = (-(q + k)).toNat by omega]
      simpa using h1
    rw [e]
    exact own_round_core (c := c) (q := q) hk hi (fun h0 => whole_sign h h0)
/-- the double x is i * 2^-k, i at most B in size (both zeros are 0) -/
def own_D (k B : Nat) (i : Int) (x : UInt64) : Prop := Whole i (own_sh k (val64 x)) ∧ i.natAbs ≤ B
section
variable {k r t A B C : Nat} {i j : Int} {x y v : UInt64}
theorem own_D.fin (a : own_D k A i x) : ∃ s c q, val64 x = .fin s c q := by
  cases e : val64 x with
  | nan => have := a.1; rw [e] at this; exact this.elim
  | inf => have := a.1; rw [e] at this; exact this.elim
  | fin s c q => exact ⟨s, c, q, rfl⟩
theorem own_D.nn (a : own_D k A i x) : Jvm.Free.Fl.NoNaN64 x := by
  obtain ⟨s, c, q, e⟩ := a.fin
  exact Jvm.Free.Fl.val64_no.mpr (by rw [e]; exact Datum.noConfusion)
theorem own_D.isFin (a : own_D k A i x) : Jvm.Free.Fl.Fin64 x := by
  obtain ⟨s, c, q, e⟩ := a.fin
  exact Jvm.Free.Fl.fin64_core.mpr ⟨s, c, q, e⟩
theorem own_D.lit {s : Bool} {c : Nat} {q : Int} (h : val64 x = .fin s c q) (hw : signed s (c * 2 ^ (q + k).toNat) = i * ((2 ^ (-(q + k)).toNat : Nat) : Int)) (hB : i.natAbs ≤ B) : own_D k B i x := by
  refine ⟨?_, hB⟩
  rw [h]; exact hw
theorem own_D.mono (a : own_D k A i x) (h : A ≤ B) : own_D k B i x := ⟨a.1, Nat.le_trans a.2 h⟩
theorem own_D.zero {s : Bool} (h : val64 x = .fin s 0 b64.qmin) (k : Nat) : own_D k 0 0 x := by
  refine ⟨?_, by decide⟩
  rw [h]
  show signed s (0 * _) = 0 * _
  rw [Nat.zero_mul, signed_zero, Int.zero_mul]
theorem own_D.ofInt (h : DInt i x) (hB : i.natAbs ≤ B) : own_D 0 B i x := ⟨by rw [show ((0 : Nat) : Int) = 0 from rfl, own_sh_zero]; exact h, hB⟩
theorem own_D.i2d {z : Int32} (a : own_I A i z) (hv : FP.i2d z = v) : own_D 0 A i v := by
  subst hv; obtain ⟨rfl, h⟩ := a
  exact own_D.ofInt (i2d_int z) h
theorem own_D.l2d {z : Int64} (a : own_L A i z) (hv : FP.l2d z = v) (h : A ≤ 9007199254740992) : own_D 0 A i v := by
  subst hv; obtain ⟨rfl, h1⟩ := a
  exact own_D.ofInt (l2d_int (show _ ≤ 2 ^ 53 by omega)) h1
theorem own_D.add (a : own_D k A i x) (b : own_D k B j y) (hv : FP.dadd x y = v) (hC : A + B ≤ C) (h : C < 9007199254740992) (hk : k ≤ 1074) : own_D k C (i + j) v := by
  subst hv
  have h2 : (i + j).natAbs ≤ C := by have := a.2; have := b.2; omega
  refine ⟨?_, h2⟩
  show Whole _ (own_sh k (val64 (Core.dadd x y)))
  rw [val64_dadd]
  refine own_round hk (by omega) ?_
  rw [← own_sh_sum]; exact whole_sum a.1 b.1
theorem own_D.sub (a : own_D k A i x) (b : own_D k B j y) (hv : FP.dsub x y = v) (hC : A + B ≤ C) (h : C < 9007199254740992) (hk : k ≤ 1074) : own_D k C (i - j) v := by
  subst hv
  have h2 : (i - j).natAbs ≤ C := by have := a.2; have := b.2; omega
  refine ⟨?_, h2⟩
  show Whole _ (own_sh k (val64 (Core.dsub x y)))
  rw [val64_dsub]
  refine own_round hk (by omega) ?_
  rw [← own_sh_sum, ← own_sh_neg]; exact whole_sum a.1 (whole_negate b.1)
theorem own_D.mul (a : own_D k A i x) (b : own_D r B j y) (hv : FP.dmul x y = v) (hC : A * B ≤ C) (h : C < 9007199254740992) (ht : k + r = t) (hk : t ≤ 1074) : own_D t C (i * j) v := by
  subst hv ht
  have h2 : (i * j).natAbs ≤ C := Nat.le_trans (own_abs_mul a.2 b.2) hC
  refine ⟨?_, h2⟩
  show Whole _ (own_sh ((k + r : Nat) : Int) (val64 (Core.dmul x y)))
  rw [val64_dmul]
  refine own_round hk (by omega) ?_
  rw [Int.natCast_add, ← own_sh_prod]; exact whole_product a.1 b.1
theorem own_D.neg (a : own_D k A i x) (hv : FP.dneg x = v) : own_D k A (-i) v := by
  subst hv
  refine ⟨?_, by have := a.2; omega⟩
  rw [FP.val64_dneg, ← own_sh_neg]; exact whole_negate a.1
theorem own_whole_up {i : Int} {d : Datum} (r : Nat) (h : Whole i d) : Whole (i * ((2 ^ r : Nat) : Int)) (own_sh r d) := by
  cases d with
  | nan => exact h.elim
  | inf => exact h.elim
  | fin s c q =>
    have h1 : signed s (c * 2 ^ q.toNat) = i * ((2 ^ (-q).toNat : Nat) : Int) := h
    show signed s (c * 2 ^ (q + r).toNat) = i * ((2 ^ r : Nat) : Int) * ((2 ^ (-(q + r)).toNat : Nat) : Int)
    have p2 : ((2 ^ (-q).toNat : Nat) : Int) ≠ 0 := by
      have := Nat.two_pow_pos (-q).toNat; omega
    refine Int.eq_of_mul_eq_mul_right p2 ?_
    have e : (q + r).toNat + (-q).toNat = q.toNat + r + (-(q + r)).toNat := by omega
    calc signed s (c * 2 ^ (q + r).toNat) * ((2 ^ (-q).toNat : Nat) : Int)
        = signed s (c * 2 ^ ((q + r).toNat + (-q).toNat)) := by rw [← signed_mul, Nat.mul_assoc, ← Nat.pow_add]
      _ = signed s (c * 2 ^ q.toNat * 2 ^ r * 2 ^ (-(q + r)).toNat) := by rw [e, Nat.pow_add, Nat.pow_add]; congr 1; ac_rfl
      _ = i * ((2 ^ (-q).toNat : Nat) : Int) * ((2 ^ r : Nat) : Int) * ((2 ^ (-(q + r)).toNat : Nat) : Int) := by rw [signed_mul, signed_mul, h1]
      _ = _ := by ac_rfl
theorem own_D.up (a : own_D k A i x) {P : Nat} (hP : 2 ^ r = P) (ht : k + r = t) (hC : A * P ≤ C) : own_D t C (i * (P : Int)) x := by
  subst hP ht
  refine ⟨?_, Nat.le_trans (own_abs_mul a.2 (Nat.le_of_eq (Int.natAbs_natCast _))) hC⟩
  rw [Int.natCast_add, ← own_sh_sh]; exact own_whole_up r a.1
theorem own_D.dcmp (a : own_D k A i x) (b : own_D k B j y) : FP.dcmp x y = some (compare i j) := by
  show order (val64 x) (val64 y) = _
  rw [← own_sh_order k]; exact order_whole a.1 b.1
end
def own_c3 (i j : Int) : Int32 := if i < j then -1 else if i = j then 0 else 1
theorem own_c3_cmp (i j : Int) (o : CmpOp) : cmpValue (some (compare i j)) o = own_c3 i j := by
  unfold own_c3
  by_cases h : i < j
  · rw [if_pos h, show compare i j = .lt from Int.compare_eq_lt.mpr h]; rfl
  · rw [if_neg h]
    by_cases h2 : i = j
    · rw [if_pos h2, show compare i j = .eq from Int.compare_eq_eq.mpr h2]; rfl
    · rw [if_neg h2, show compare i j = .gt from Int.compare_eq_gt.mpr (by omega)]; rfl
theorem own_D.cmp {k A B : Nat} {i j : Int} {x y : UInt64} (a : own_D k A i x) (b : own_D k B j y) {o : CmpOp} : cmpValue (FP.dcmp x y) o = own_c3 i j := by
  rw [a.dcmp b]; exact own_c3_cmp i j o
theorem own_c3_eq {i j : Int} (h : i = j) : ifCond.holds .eq (own_c3 i j) = true ∧ ifCond.holds .ne (own_c3 i j) = false := by
  subst h; unfold own_c3; simp [ifCond.holds]
theorem own_c3_ne {i j : Int} (h : ¬ i = j) : ifCond.holds .eq (own_c3 i j) = false ∧ ifCond.holds .ne (own_c3 i j) = true := by
  unfold own_c3; by_cases q : i < j <;> simp [q, h, ifCond.holds]
theorem own_c3_lt {i j : Int} (h : i < j) : ifCond.holds .lt (own_c3 i j) = true ∧ ifCond.holds .ge (own_c3 i j) = false := by
  unfold own_c3; simp [h]; decide
theorem own_c3_nlt {i j : Int} (h : ¬ i < j) : ifCond.holds .lt (own_c3 i j) = false ∧ ifCond.holds .ge (own_c3 i j) = true := by
  unfold own_c3; rw [if_neg h]; by_cases q : i = j
  · rw [if_pos q]; decide
  · rw [if_neg q]; decide
theorem own_c3_gt {i j : Int} (h : j < i) : ifCond.holds .gt (own_c3 i j) = true ∧ ifCond.holds .le (own_c3 i j) = false := by
  unfold own_c3; rw [if_neg (by omega), if_neg (by omega)]; decide
theorem own_c3_ngt {i j : Int} (h : ¬ j < i) : ifCond.holds .gt (own_c3 i j) = false ∧ ifCond.holds .le (own_c3 i j) = true := by
  unfold own_c3; by_cases q : i < j
  · rw [if_pos q]; decide
  · rw [if_neg q, if_pos (by omega)]; decide
/-- the branches on ints, by what is known of them -/
theorem own_i_eq {x y : Int32} (h : x = y) : if_icmp.holds .eq x y = true ∧ if_icmp.holds .ne x y = false := teq h
theorem own_i_ne {x y : Int32} (h : ¬ x = y) : if_icmp.holds .eq x y = false ∧ if_icmp.holds .ne x y = true := feq h
theorem own_i_lt {x y : Int32} (h : x < y) : if_icmp.holds .lt x y = true ∧ if_icmp.holds .ge x y = false := ⟨(tlt h).1, (tlt h).2.1⟩
theorem own_i_nlt {x y : Int32} (h : ¬ x < y) : if_icmp.holds .lt x y = false ∧ if_icmp.holds .ge x y = true := ⟨(flt h).1, (flt h).2.1⟩
theorem own_i_gt {x y : Int32} (h : y < x) : if_icmp.holds .gt x y = true ∧ if_icmp.holds .le x y = false := ⟨(tlt h).2.2.1, (tlt h).2.2.2⟩
theorem own_i_ngt {x y : Int32} (h : ¬ y < x) : if_icmp.holds .gt x y = false ∧ if_icmp.holds .le x y = true := ⟨(flt h).2.2.1, (flt h).2.2.2⟩
theorem own_z_eq {x : Int32} (h : x = 0) : ifCond.holds .eq x = true ∧ ifCond.holds .ne x = false := by rw [if0, if0]; exact teq h
theorem own_z_ne {x : Int32} (h : ¬ x = 0) : ifCond.holds .eq x = false ∧ ifCond.holds .ne x = true := by rw [if0, if0]; exact feq h
theorem own_z_lt {x : Int32} (h : x < 0) : ifCond.holds .lt x = true ∧ ifCond.holds .ge x = false := by rw [if0, if0]; exact own_i_lt h
theorem own_z_nlt {x : Int32} (h : ¬ x < 0) : ifCond.holds .lt x = false ∧ ifCond.holds .ge x = true := by rw [if0, if0]; exact own_i_nlt h
theorem own_z_gt {x : Int32} (h : 0 < x) : ifCond.holds .gt x = true ∧ ifCond.holds .le x = false := by rw [if0, if0]; exact own_i_gt h
theorem own_z_ngt {x : Int32} (h : ¬ 0 < x) : ifCond.holds .gt x = false ∧ ifCond.holds .le x = true := by rw [if0, if0]; exact own_i_ngt h
theorem own_cases2 {v : Int32} (h : 0 ≤ v.toInt ∧ v.toInt ≤ ((1 : Nat) : Int)) : v = (0 : Int32) ∨ v = (1 : Int32) := by
  have : v.toInt = 0 ∨ v.toInt = 1 := by omega
  rcases this with q | q
  · exact Or.inl (Int32.toInt_inj.mp q)
  · exact Or.inr (Int32.toInt_inj.mp q)
theorem own_cases4 {v : Int32} (h : 0 ≤ v.toInt ∧ v.toInt ≤ ((3 : Nat) : Int)) : v = (0 : Int32) ∨ v = (1 : Int32) ∨ v = (2 : Int32) ∨ v = (3 : Int32) := by
  have : v.toInt = 0 ∨ v.toInt = 1 ∨ v.toInt = 2 ∨ v.toInt = 3 := by omega
  rcases this with q | q | q | q
  · exact Or.inl (Int32.toInt_inj.mp q)
  · exact Or.inr (Or.inl (Int32.toInt_inj.mp q))
  · exact Or.inr (Or.inr (Or.inl (Int32.toInt_inj.mp q)))
  · exact Or.inr (Or.inr (Or.inr (Int32.toInt_inj.mp q)))
theorem own_cases16 {v : Int32} (h : 0 ≤ v.toInt ∧ v.toInt ≤ ((15 : Nat) : Int)) : v = (0 : Int32) ∨ v = (1 : Int32) ∨ v = (2 : Int32) ∨ v = (3 : Int32) ∨ v = (4 : Int32) ∨ v = (5 : Int32) ∨ v = (6 : Int32) ∨ v = (7 : Int32) ∨ v = (8 : Int32) ∨ v = (9 : Int32) ∨ v = (10 : Int32) ∨ v = (11 : Int32) ∨ v = (12 : Int32) ∨ v = (13 : Int32) ∨ v = (14 : Int32) ∨ v = (15 : Int32) := by
  have : v.toInt = 0 ∨ v.toInt = 1 ∨ v.toInt = 2 ∨ v.toInt = 3 ∨ v.toInt = 4 ∨ v.toInt = 5 ∨ v.toInt = 6 ∨ v.toInt = 7 ∨ v.toInt = 8 ∨ v.toInt = 9 ∨ v.toInt = 10 ∨ v.toInt = 11 ∨ v.toInt = 12 ∨ v.toInt = 13 ∨ v.toInt = 14 ∨ v.toInt = 15 := by omega
  rcases this with q | q | q | q | q | q | q | q | q | q | q | q | q | q | q | q
  · exact Or.inl (Int32.toInt_inj.mp q)
  · exact Or.inr (Or.inl (Int32.toInt_inj.mp q))
  · exact Or.inr (Or.inr (Or.inl (Int32.toInt_inj.mp q)))
  · exact Or.inr (Or.inr (Or.inr (Or.inl (Int32.toInt_inj.mp q))))
  · exact Or.inr (Or.inr (Or.inr (Or.inr (Or.inl (Int32.toInt_inj.mp q)))))
  · exact Or.inr (Or.inr (Or.inr (Or.inr (Or.inr (Or.inl (Int32.toInt_inj.mp q))))))
  · exact Or.inr (Or.inr (Or.inr (Or.inr (Or.inr (Or.inr (Or.inl (Int32.toInt_inj.mp q)))))))
  · exact Or.inr (Or.inr (Or.inr (Or.inr (Or.inr (Or.inr (Or.inr (Or.inl (Int32.toInt_inj.mp q))))))))
  · exact Or.inr (Or.inr (Or.inr (Or.inr (Or.inr (Or.inr (Or.inr (Or.inr (Or.inl (Int32.toInt_inj.mp q)))))))))
  · exact Or.inr (Or.inr (Or.inr (Or.inr (Or.inr (Or.inr (Or.inr (Or.inr (Or.inr (Or.inl (Int32.toInt_inj.mp q))))))))))
  · exact Or.inr (Or.inr (Or.inr (Or.inr (Or.inr (Or.inr (Or.inr (Or.inr (Or.inr (Or.inr (Or.inl (Int32.toInt_inj.mp q)))))))))))
  · exact Or.inr (Or.inr (Or.inr (Or.inr (Or.inr (Or.inr (Or.inr (Or.inr (Or.inr (Or.inr (Or.inr (Or.inl (Int32.toInt_inj.mp q))))))))))))
  · exact Or.inr (Or.inr (Or.inr (Or.inr (Or.inr (Or.inr (Or.inr (Or.inr (Or.inr (Or.inr (Or.inr (Or.inr (Or.inl (Int32.toInt_inj.mp q)))))))))))))
  · exact Or.inr (Or.inr (Or.inr (Or.inr (Or.inr (Or.inr (Or.inr (Or.inr (Or.inr (Or.inr (Or.inr (Or.inr (Or.inr (Or.inl (Int32.toInt_inj.mp q))))))))))))))
  · exact Or.inr (Or.inr (Or.inr (Or.inr (Or.inr (Or.inr (Or.inr (Or.inr (Or.inr (Or.inr (Or.inr (Or.inr (Or.inr (Or.inr (Or.inl (Int32.toInt_inj.mp q)))))))))))))))
  · exact Or.inr (Or.inr (Or.inr (Or.inr (Or.inr (Or.inr (Or.inr (Or.inr (Or.inr (Or.inr (Or.inr (Or.inr (Or.inr (Or.inr (Or.inr (Int32.toInt_inj.mp q)))))))))))))))
/-- lcmp as a comparison of whole numbers -/
theorem own_lcmp_c3 (x y : Int64) : XT.cmpL x y = own_c3 x.toInt y.toInt := by
  unfold XT.cmpL own_c3
  simp only [Int64.lt_iff_toInt_lt, ← Int64.toInt_inj]
  by_cases h : x.toInt < y.toInt
  · simp [h, show ¬ y.toInt < x.toInt by omega, show ¬ x.toInt = y.toInt by omega]
  · by_cases h2 : x.toInt = y.toInt
    · simp [h2]
    · simp [h, h2, show y.toInt < x.toInt by omega]
theorem own_L.cmp {A B : Nat} {i j : Int} {x y : Int64} (a : own_L A i x) (b : own_L B j y) : XT.cmpL x y = own_c3 i j := by
  rw [own_lcmp_c3, a.1, b.1]
end OwnNum
section OwnDiv
open Jvm.FP Jvm.FP.Core
theorem own_quotient {s t : Bool} {c d : Nat} {q r : Int} (hd : d ≠ 0) : quotient b64 (.fin s c q) (.fin t d r) = roundRatio b64 (s != t) c d (q - r) := by
  show (if d = 0 then _ else _) = _
  rw [if_neg hd]
/-- the quotient of i * 2^-k and j is the rounded |i| / |j| * 2^-k -/
theorem own_quot {k A B : Nat} {i j : Int} {x z v : UInt64} (a : own_D k A i x) (b : own_D 0 B j z) (hj : j ≠ 0) (hv : FP.ddiv x z = v) :
    ∃ sg : Bool, val64 v = roundRatio b64 sg i.natAbs j.natAbs (-(k : Int)) ∧ (i ≠ 0 → sg = (decide (i < 0) != decide (j < 0))) := by
  subst hv
  obtain ⟨s, c, q, e1⟩ := a.fin
  obtain ⟨t, d, r, e2⟩ := b.fin
  have w1 : Whole i (.fin s c (q + k)) := by have := a.1; rw [e1] at this; exact this
  have w2 : Whole j (.fin t d r) := by have := b.1; rw [e2, show ((0 : Nat) : Int) = 0 from rfl, own_sh_zero] at this; exact this
  have hd : d ≠ 0 := fun h => hj ((whole_zero w2).mp h)
  refine ⟨s != t, ?_, fun hi => by rw [whole_sign w1 hi, whole_sign w2 hj]⟩
  show val64 (Core.ddiv x z) = _
  rw [val64_ddiv, e1, e2]
  show (if d = 0 then _ else roundRatio b64 (s != t) c d (q - r)) = _
  rw [if_neg hd]
  refine roundRatio_congr (by omega) (by omega) ?_
  have h1 : c * 2 ^ (q + k).toNat = i.natAbs * 2 ^ (-(q + k)).toNat := whole_natAbs w1
  have h2 : d * 2 ^ r.toNat = j.natAbs * 2 ^ (-r).toNat := whole_natAbs w2
  generalize i.natAbs = I at *
  generalize j.natAbs = J at *
  refine Nat.eq_of_mul_eq_mul_right (Nat.two_pow_pos ((-r).toNat + (q + k).toNat)) ?_
  have x1 : c * J * 2 ^ (q - r - -(k : Int)).toNat * 2 ^ ((-r).toNat + (q + k).toNat) = (c * 2 ^ (q + k).toNat) * (J * 2 ^ (-r).toNat) * 2 ^ (q - r - -(k : Int)).toNat := by rw [Nat.pow_add]; ac_rfl
  have x2 : I * d * 2 ^ (-(k : Int) - (q - r)).toNat * 2 ^ ((-r).toNat + (q + k).toNat) = I * d * 2 ^ ((-(q + k)).toNat + r.toNat + (q - r - -(k : Int)).toNat) := by rw [Nat.mul_assoc (I * d), ← Nat.pow_add]; congr 2; omega
  rw [x1, x2, h1, ← h2, Nat.pow_add, Nat.pow_add]; ac_rfl
theorem own_quot_nn {k A B : Nat} {i j : Int} {x z v : UInt64} (a : own_D k A i x) (b : own_D 0 B j z) (hj : j ≠ 0) (hv : FP.ddiv x z = v) : Jvm.Free.Fl.NoNaN64 v := by
  obtain ⟨sg, e, -⟩ := own_quot a b hj hv
  exact Jvm.Free.Fl.val64_no.mpr (by rw [e]; exact roundRatio_ne_nan _ _ _ _ _)
theorem own_round_zero (sg : Bool) (d : Nat) (e : Int) : roundRatio b64 sg 0 d e = .fin sg 0 b64.qmin := by unfold roundRatio; rw [if_pos rfl]
/-- two quotients of equal whole numbers compare as equal -/
theorem own_quot_eq {k A B A' B' : Nat} {i j : Int} {x y z w v u : UInt64} (a : own_D k A i x) (b : own_D 0 B j z) (a' : own_D k A' i y) (b' : own_D 0 B' j w) (hj : j ≠ 0) (hv : FP.ddiv x z = v) (hu : FP.ddiv y w = u) : FP.dcmp v u = some .eq := by
  obtain ⟨s1, e1, f1⟩ := own_quot a b hj hv
  obtain ⟨s2, e2, f2⟩ := own_quot a' b' hj hu
  by_cases hi : i = 0
  · subst hi
    have d1 := own_D.zero (x := v) (s := s1) (by rw [e1]; exact own_round_zero ..) 0
    have d2 := own_D.zero (x := u) (s := s2) (by rw [e2]; exact own_round_zero ..) 0
    rw [d1.dcmp d2]; rfl
  · have e3 : s1 = s2 := (f1 hi).trans (f2 hi).symm
    subst e3
    have e4 : v = u := val64_inj (by rw [e1]; exact roundRatio_ne_nan _ _ _ _ _) (e1.trans e2.symm)
    subst e4
    exact dcmp_self (by rw [e1]; exact roundRatio_ne_nan _ _ _ _ _)
theorem own_quot_cmp {k A B A' B' : Nat} {i j : Int} {x y z w v u : UInt64} (a : own_D k A i x) (b : own_D 0 B j z) (a' : own_D k A' i y) (b' : own_D 0 B' j w) (hj : j ≠ 0) (hv : FP.ddiv x z = v) (hu : FP.ddiv y w = u) {o : CmpOp} : cmpValue (FP.dcmp v u) o = 0 := by
  rw [own_quot_eq a b a' b' hj hv hu]; rfl
theorem own_D.of_eq {k A : Nat} {i j : Int} {x : UInt64} (a : own_D k A i x) (h : i = j) : own_D k A j x := h ▸ a
/-- a quotient by a power of two is exact -/
theorem own_D.divp {k r t A B P : Nat} {i : Int} {x z v : UInt64} (a : own_D k A i x) (b : own_D 0 B (P : Int) z) (hP : P = 2 ^ r) (hv : FP.ddiv x z = v) (hA : A < 9007199254740992) (ht : k + r = t) (hk : t ≤ 1074) : own_D t A i v := by
  subst ht
  have p := Nat.two_pow_pos r
  have hj : (P : Int) ≠ 0 := by omega
  obtain ⟨sg, e, f⟩ := own_quot a b hj hv
  refine ⟨?_, a.2⟩
  have e2 : roundRatio b64 sg i.natAbs ((P : Int)).natAbs (-(k : Int)) = roundRatio b64 sg i.natAbs 1 (-((k + r : Nat) : Int)) := by
    refine roundRatio_congr (by omega) (by decide) ?_
    rw [Int.natAbs_natCast, hP, show (-(k : Int) - -((k + r : Nat) : Int)).toNat = r by omega, show (-((k + r : Nat) : Int) - -(k : Int)).toNat = 0 by omega]
    simp
  rw [e, e2]
  refine own_round_core (c := 0) (q := 0) hk (by have := a.2; omega) fun hi => ?_
  rw [f hi, show decide ((P : Int) < 0) = false by simp]
  cases decide (i < 0) <;> rfl
theorem own_ushr_nn {x q v : Int32} {k : Nat} (hv : XT.ushr x q = v) (hk : q.toBitVec.toNat % 32 = k) (h0 : 0 < k) : 0 ≤ v.toInt := by
  subst hv
  have := c_iushr x q k hk h0
  show 0 ≤ ((x.toUInt32 >>> (q &&& 31).toUInt32).toInt32).toInt
  rw [this]
  exact Int.ediv_nonneg (Int.emod_nonneg _ (by decide)) (Int.natCast_nonneg _)
theorem own_irem_bd {x y v : Int32} {d : Int} (hv : x % y = v) (hx : 0 ≤ x.toInt) (hy : y.toInt = d) (hd : 0 < d) : 0 ≤ v.toInt ∧ v.toInt < d := by
  subst hv
  rw [(c_irem x y d hy).1 hx]
  exact ⟨Int.emod_nonneg _ (by omega), Int.emod_lt_of_pos _ hd⟩
end OwnDiv
abbrev oU : Slot := .unset
abbrev oI (x : Int32) : Slot := .val (.int x)
abbrev oA (a : Addr) : Slot := .val (.ref a)
section OwnRef
variable {p : Program} {l : Launch} {e : Env} {R : Room} {s : State} {m : MethodId} {args : Array Value} {below : List Frame} {meth : Method} {c : Code} {Z : State} {own : String} {bytes : ByteArray} {ml : Nat} {rt : Option FieldType} {nm : String} {n0 : Nat} {T : State} {h : Heap} {cells slots : Nat} {Q : Option Value → Heap → Prop} {Φ : State → Outcome → Prop} {pc pc' : Nat} {Ls : Array Slot} {rest : List Value} {a0 : Array Value}
theorem own_i2b (X : own_St p l e R s m args below meth c Z own bytes ml rt nm n0 T h cells slots) {x v : Int32} (hv : x.toInt8.toInt32 = v) (hd : decode bytes pc = .ok (.i2b, 1)) (hp : pc + 1 = pc') (k : own_Goal p e below Φ T (mkF m pc' Ls (.int v :: rest))) : own_Goal p e below Φ T (mkF m pc Ls (.int x :: rest)) := by
  subst hp hv
  exact own_pure X (fun X hx hby _ a => XT.i2b X.here hx rfl (hb hby hd) rfl a) k
theorem own_acmpF (X : own_St p l e R s m args below meth c Z own bytes ml rt nm n0 T h cells slots) {o : Int} {cd : ClassFile.ACond} {x y : Value} (hx' : x.isRef = true) (hy' : y.isRef = true) (hc : XT.acmp cd x y = false) (hd : decode bytes pc = .ok (.if_acmp cd o, 3)) (hp : pc + 3 = pc') (k : own_Goal p e below Φ T (mkF m pc' Ls rest)) : own_Goal p e below Φ T (mkF m pc Ls (y :: x :: rest)) := by
  subst hp
  exact own_pure X (fun X hx hby _ a => XT.acmpNo X.here hx rfl (hb hby hd) rfl hx' hy' hc a) k
theorem own_retN (X : own_St p l e R s m args below meth c Z own bytes ml rt nm n0 T h cells slots) {v : Int32} {t : FieldType} (hn : nar t v = v) (ht : t = .boolean ∨ t = .byte ∨ t = .char ∨ t = .short) (hd : decode bytes pc = .ok (.ireturn, 1)) (hr : rt = some t) (hc : cells ≤ R.cells) (hs : slots ≤ R.slots) (q : Q (some (.int v)) h) : own_Goal p e below (own_Fin below s R n0 Q) T (mkF m pc Ls (.int v :: rest)) := by
  obtain ⟨locs, X, N, e1, n1, hx, hZ, hown, hby, -, hrt, hlk, -⟩ := X
  obtain ⟨fs, hl, hrun, hended, hW, hsame⟩ := X.leave (v := some (.int v)) (fun z => by rw [hrt, hr] at z; cases z) hlk
  exact ⟨_, _, retN X hx (t := t) (hrt.trans hr) ht (hb hby hd) (by rw [hn]; exact hl), hrun, hended, _, _, rfl, ⟨⟨by show Q _ T.heap; rw [e1]; exact q, by show n0 ≤ T.heap.size; rw [e1]; exact n1⟩, N⟩, ⟨_, rfl⟩, hW, hsame.mono hc hs⟩
theorem own_retNull (X : own_St p l e R s m args below meth c Z own bytes ml rt nm n0 T h cells slots) {t : FieldType} (ht : t.isReference = true) (hd : decode bytes pc = .ok (.areturn, 1)) (hr : rt = some t) (hc : cells ≤ R.cells) (hs : slots ≤ R.slots) (q : Q (some .null) h) : own_Goal p e below (own_Fin below s R n0 Q) T (mkF m pc Ls (.null :: rest)) := by
  obtain ⟨locs, X, N, e1, n1, hx, hZ, hown, hby, -, hrt, hlk, -⟩ := X
  obtain ⟨fs, hl, hrun, hended, hW, hsame⟩ := X.leave (v := some .null) (fun z => by rw [hrt, hr] at z; cases z) hlk
  have hn : narrow t .null = .null := by cases t <;> rfl
  exact ⟨_, _, retOut X hx (hrt.trans hr) hn (Or.inr (Or.inr (Or.inr (Or.inr ⟨rfl, ht, rfl⟩)))) (hb hby hd) hl, hrun, hended, _, _, rfl, ⟨⟨by show Q _ T.heap; rw [e1]; exact q, by show n0 ≤ T.heap.size; rw [e1]; exact n1⟩, N⟩, ⟨_, rfl⟩, hW, hsame.mono hc hs⟩
theorem own_caload (X : own_St p l e R s m args below meth c Z own bytes ml rt nm n0 T h cells slots) {a : Addr} {vs : List Value} (F : own_Vec Z h a .char vs) {j : Int32} {i : Nat} {v : Value} (hj : j.toNatClampNeg = i) (h0 : ¬ j < 0) (hv : vs[i]? = some v) (hd : decode bytes pc = .ok (.caload, 1)) (hp : pc + 1 = pc') (k : own_Goal p e below Φ T (mkF m pc' Ls (v :: rest))) : own_Goal p e below Φ T (mkF m pc Ls (.int j :: .ref a :: rest)) := by
  subst hp
  obtain ⟨locs, X, N, e1, -, hx, hZ, hown, hby, -⟩ := X
  obtain ⟨cl, A, r⟩ := F
  have q1 : i < vs.length := (List.getElem?_eq_some_iff.mp hv).1
  exact own_step (fun t a => X.caload hx (cell := cl) (by rw [e1]; exact A.1) (State.isArrayOf_alike hZ.alike A.2.1) A.2.2 (own_in hj h0 (by rw [r]; simpa using q1)) (by rw [hj, r]; simpa using hv) (g := mkF m pc Ls _) rfl rfl (hb hby hd) t a) k
theorem own_aaload (X : own_St p l e R s m args below meth c Z own bytes ml rt nm n0 T h cells slots) {a : Addr} {ty : FieldType} {vs : List Value} (F : own_Vec Z h a ty vs) (hty : ty.isReference = true) {j : Int32} {i : Nat} {v : Value} (hj : j.toNatClampNeg = i) (h0 : ¬ j < 0) (hv : vs[i]? = some v) (hd : decode bytes pc = .ok (.aaload, 1)) (hp : pc + 1 = pc') (k : own_Goal p e below Φ T (mkF m pc' Ls (v :: rest))) : own_Goal p e below Φ T (mkF m pc Ls (.int j :: .ref a :: rest)) := by
  subst hp
  obtain ⟨locs, X, N, e1, -, hx, hZ, hown, hby, -⟩ := X
  obtain ⟨cl, A, r⟩ := F
  have q1 : i < vs.length := (List.getElem?_eq_some_iff.mp hv).1
  exact own_step (fun t a => X.aaload hx (cell := cl) (by rw [e1]; exact A.1) (State.isArrayOf_alike hZ.alike A.2.1) hty A.2.2 (own_in hj h0 (by rw [r]; simpa using q1)) (by rw [hj, r]; simpa using hv) (g := mkF m pc Ls _) rfl rfl (hb hby hd) t a) k
theorem own_castore (X : own_St p l e R s m args below meth c Z own bytes ml rt nm n0 T h cells slots) {a : Addr} {vs : List Value} (F : own_Vec Z h a .char vs) (ha : n0 ≤ a) {j : Int32} {i : Nat} {x y : Int32} (hn : nar .char x = y) (hj : j.toNatClampNeg = i) (h0 : ¬ j < 0) (hi : i < vs.length) (hd : decode bytes pc = .ok (.castore, 1)) (hp : pc + 1 = pc')
    (k : ∀ T' h', own_St p l e R s m args below meth c Z own bytes ml rt nm n0 T' h' cells slots → Wr h h' a i (.int y) → own_Vec Z h' a .char (vs.set i (.int y)) → own_Goal p e below Φ T' (mkF m pc' Ls rest)) : own_Goal p e below Φ T (mkF m pc Ls (.int x :: .int j :: .ref a :: rest)) := by
  subst hp hn
  obtain ⟨locs, X, N, e1, n1, hx, hZ, hown, hby, r0⟩ := X
  have F0 := F
  obtain ⟨cl, A, r⟩ := F
  obtain ⟨T', h', X', e', W, st⟩ := stC X hx hZ e1 A (own_in hj h0 (by rw [r]; simpa using hi)) (g := mkF m pc Ls _) rfl rfl (hb hby hd)
  have N' := Fr.snoc X' N ha
  rw [hj] at W
  exact own_step st (k T' h' ⟨_, X', N', e', by rw [W.size]; exact n1, hx, hZ, hown, hby, r0⟩ W (F0.set W))
theorem own_bastore (X : own_St p l e R s m args below meth c Z own bytes ml rt nm n0 T h cells slots) {a : Addr} {vs : List Value} (F : own_Vec Z h a .byte vs) (ha : n0 ≤ a) {j : Int32} {i : Nat} {x y : Int32} (hn : nar .byte x = y) (hj : j.toNatClampNeg = i) (h0 : ¬ j < 0) (hi : i < vs.length) (hd : decode bytes pc = .ok (.bastore, 1)) (hp : pc + 1 = pc')
    (k : ∀ T' h', own_St p l e R s m args below meth c Z own bytes ml rt nm n0 T' h' cells slots → Wr h h' a i (.int y) → own_Vec Z h' a .byte (vs.set i (.int y)) → own_Goal p e below Φ T' (mkF m pc' Ls rest)) : own_Goal p e below Φ T (mkF m pc Ls (.int x :: .int j :: .ref a :: rest)) := by
  subst hp hn
  obtain ⟨locs, X, N, e1, n1, hx, hZ, hown, hby, r0⟩ := X
  have F0 := F
  obtain ⟨cl, A, r⟩ := F
  obtain ⟨T', h', X', e', W, st⟩ := stB X hx hZ e1 A (own_in hj h0 (by rw [r]; simpa using hi)) (g := mkF m pc Ls _) rfl rfl (hb hby hd)
  have N' := Fr.snoc X' N ha
  rw [hj] at W
  exact own_step st (k T' h' ⟨_, X', N', e', by rw [W.size]; exact n1, hx, hZ, hown, hby, r0⟩ W (F0.set W))
/-- the array at a takes objects of class C -/
def own_Ov (Z : State) (h : Heap) (a : Addr) (C : String) : Prop := ∃ c : Cell, h[a]? = some c ∧ Ovr Z c.cls C
theorem own_Ov.ext {h' : Heap} {a : Addr} {C : String} (F : own_Ov Z h a C) (E : Ext h h') : own_Ov Z h' a C := by obtain ⟨c, q, r⟩ := F; exact ⟨c, E.2 _ _ q, r⟩
theorem own_Ov.keep {h' : Heap} {a : Addr} {C : String} {ws : List Addr} (F : own_Ov Z h a C) (K : Keep h h' ws) : own_Ov Z h' a C := by
  obtain ⟨c, q, r⟩ := F
  obtain ⟨c', q', r1, -⟩ := K.2.2 a c q
  exact ⟨c', q', r1 ▸ r⟩
theorem own_Ov.wr {h' : Heap} {a b : Addr} {C : String} {sl : Nat} {v : Value} (F : own_Ov Z h a C) (W : Wr h h' b sl v) : own_Ov Z h' a C := F.keep (Keep.of_wr W)
theorem own_Sta.keep0 {h' : Heap} {C n d : String} {v : Value} (F : Sta Z h C n d v) (K : Keep h h' []) : Sta Z h' C n d v := by
  obtain ⟨cf, i, k, f, st, cell, h1, h2, h3, h4, h5, r⟩ := F
  exact ⟨cf, i, k, f, st, cell, h1, h2, h3, h4, K.2.1 _ _ h5 nin0, r⟩
theorem own_Sta.keep1 {h' : Heap} {C n d D : String} {v : Value} {a : Addr} (F : Sta Z h C n d v) (K : Keep h h' [a]) (E : Exa Z h a D) : Sta Z h' C n d v := by
  obtain ⟨cf, i, k, f, st, cell, h1, h2, h3, h4, h5, h6, r⟩ := F
  obtain ⟨ca, ka, q1, -, -, q4, -⟩ := E
  have hne : st ∉ [a] := fun q => by
    cases List.mem_singleton.mp q
    cases h5.symm.trans q1
    rw [h6] at q4; cases q4
  exact ⟨cf, i, k, f, st, cell, h1, h2, h3, h4, K.2.1 _ _ h5 hne, h6, r⟩
theorem own_ge {h' : Heap} {a : Addr} {ws : List Addr} (K : Keep h h' ws) (g : a = h'.size) : h.size ≤ a := by rw [g]; exact K.1
theorem own_mem0 {h' : Heap} {ws : List Addr} : ∀ x ∈ ([] : List Addr), x ∈ ws ∨ h'.size ≤ x := fun _ q => nomatch q
theorem own_mem1 {h' : Heap} {ws : List Addr} {b : Addr} (q : b ∈ ws ∨ h'.size ≤ b) : ∀ x ∈ [b], x ∈ ws ∨ h'.size ≤ x := fun x hx => by cases List.mem_singleton.mp hx; exact q
theorem own_newarrayE (X : own_St p l e R s m args below meth c Z own bytes ml rt nm n0 T h cells slots) {aty : ArrayType} {ty : FieldType} (hty : newarray.typeOf aty = ty) {ad : String} (had : "[" ++ (newarray.typeOf aty).toString = ad) (w : (Jvm.Cond.arrayClass ty).before a0 Z = true) {j : Int32} {n : Nat} {vs : List Value} (hj : j.toNatClampNeg = n) (h0 : ¬ j < 0) (hn : n ≤ 1000) (hvs : List.replicate n (defaultValue ty) = vs) {cells' slots' : Nat} (hc' : cells + 1 = cells') (hs' : slots + n = slots') (hc : cells' ≤ R.cells) (hs : slots' ≤ R.slots) (hd : decode bytes pc = .ok (.newarray aty, 2)) (hp : pc + 2 = pc')
    (k : ∀ a T' h', a = h.size → n0 ≤ a → own_St p l e R s m args below meth c Z own bytes ml rt nm n0 T' h' cells' slots' → Ext h h' → own_Vec Z h' a ty vs → Exa Z h' a ad → own_Goal p e below Φ T' (mkF m pc' Ls (.ref a :: rest))) : own_Goal p e below Φ T (mkF m pc Ls (.int j :: rest)) := by
  subst hp hty hvs hc' hs'
  obtain ⟨locs, X, N, e1, n1, hx, hZ, hown, hby, r0⟩ := X
  obtain ⟨T', h', cA, X', e', E, A, B, st⟩ := newPE X hx hZ w e1 (g := mkF m pc Ls _) rfl (hb hby hd) rfl h0 (cap := n) (by omega) (by omega) hc hs had
  refine own_step st (k _ T' h' rfl n1 ⟨_, X', N, e', Nat.le_trans n1 E.1, hx, hZ, hown, hby, r0⟩ E ⟨_, A, ?_⟩ B)
  simp [newA, hj]
theorem own_anewarray (X : own_St p l e R s m args below meth c Z own bytes ml rt nm n0 T h cells slots) {i : Nat} {C ad : String} (w1 : (Jvm.Cond.classLink own i C).before a0 Z = true) (w2 : (Jvm.Cond.arrayOver (.object C)).before a0 Z = true) (had : "[" ++ (FieldType.object C).toString = ad) {j : Int32} {n : Nat} {vs : List Value} (hj : j.toNatClampNeg = n) (h0 : ¬ j < 0) (hn : n ≤ 1000) (hvs : List.replicate n Value.null = vs) {cells' slots' : Nat} (hc' : cells + 1 = cells') (hs' : slots + n = slots') (hc : cells' ≤ R.cells) (hs : slots' ≤ R.slots) (hd : decode bytes pc = .ok (.anewarray i, 3)) (hp : pc + 3 = pc')
    (k : ∀ a T' h', a = h.size → n0 ≤ a → own_St p l e R s m args below meth c Z own bytes ml rt nm n0 T' h' cells' slots' → Ext h h' → own_Vec Z h' a (.object C) vs → Exa Z h' a ad → own_Ov Z h' a C → own_Goal p e below Φ T' (mkF m pc' Ls (.ref a :: rest))) : own_Goal p e below Φ T (mkF m pc Ls (.int j :: rest)) := by
  subst hp hvs hc' hs'
  obtain ⟨locs, X, N, e1, n1, hx, hZ, hown, hby, r0⟩ := X
  obtain ⟨T', h', cA, X', e', E, A, B, O, st⟩ := newRE X hx hZ hown w1 w2 e1 (g := mkF m pc Ls _) rfl (hb hby hd) rfl h0 (cap := n) (by omega) (by omega) hc hs had
  refine own_step st (k _ T' h' rfl n1 ⟨_, X', N, e', Nat.le_trans n1 E.1, hx, hZ, hown, hby, r0⟩ E ⟨_, A, ?_⟩ B ⟨_, A.1, O⟩)
  simp [newA, hj, defaultValue]
theorem own_aastore (X : own_St p l e R s m args below meth c Z own bytes ml rt nm n0 T h cells slots) {a : Addr} {C : String} {vs : List Value} (F : own_Vec Z h a (.object C) vs) (O : own_Ov Z h a C) (ha : n0 ≤ a) {j : Int32} {i : Nat} {x : Value} (hv : x = .null ∨ ∃ y, x = .ref y ∧ Exa Z h y C) (hj : j.toNatClampNeg = i) (h0 : ¬ j < 0) (hi : i < vs.length) (hd : decode bytes pc = .ok (.aastore, 1)) (hp : pc + 1 = pc')
    (k : ∀ T' h', own_St p l e R s m args below meth c Z own bytes ml rt nm n0 T' h' cells slots → Wr h h' a i x → own_Vec Z h' a (.object C) (vs.set i x) → own_Goal p e below Φ T' (mkF m pc' Ls rest)) : own_Goal p e below Φ T (mkF m pc Ls (x :: .int j :: .ref a :: rest)) := by
  subst hp
  obtain ⟨locs, X, N, e1, n1, hx, hZ, hown, hby, r0⟩ := X
  have F0 := F
  obtain ⟨cl, A, r⟩ := F
  obtain ⟨c2, q2, O⟩ := O
  cases A.1.symm.trans q2
  have S : Sto Z h a x := by
    rcases hv with rfl | ⟨y, rfl, E⟩
    · exact Or.inl rfl
    · exact Sto.of A O (Ins.self E)
  obtain ⟨T', h', X', e', W, st⟩ := stR X hx hZ e1 A (own_in hj h0 (by rw [r]; simpa using hi)) rfl S (g := mkF m pc Ls _) rfl rfl (hb hby hd)
  have N' := Fr.snoc X' N ha
  rw [hj] at W
  exact own_step st (k T' h' ⟨_, X', N', e', by rw [W.size]; exact n1, hx, hZ, hown, hby, r0⟩ W (F0.set W))
theorem own_fit0 {ty : FieldType} : ([] : List Value).all (fits ty) = true := rfl
theorem own_fitS {ty : FieldType} {v : Value} {vs : List Value} (h1 : fits ty v = true) (h2 : vs.all (fits ty) = true) : (v :: vs).all (fits ty) = true := by rw [List.all_cons, h1, h2]; rfl
theorem own_clone (X : own_St p l e R s m args below meth c Z own bytes ml rt nm n0 T h cells slots) {i : Nat} {ad : String} (w1 : (Jvm.Cond.methodLink own i ⟨ad, "clone", "()Ljava/lang/Object;"⟩).before a0 Z = true) (w2 : (Jvm.Cond.sameMethod ad "java/lang/Object" "clone" "()Ljava/lang/Object;").before a0 Z = true) (w3 : (Jvm.Cond.native ⟨"java/lang/Object", "clone", "()Ljava/lang/Object;"⟩).before a0 Z = true) (w4 : (Jvm.Cond.instanceMethod ⟨"java/lang/Object", "clone", "()Ljava/lang/Object;"⟩).before a0 Z = true) (w5 : (Jvm.Cond.selects ad ⟨ad, "clone", "()Ljava/lang/Object;"⟩ ⟨"java/lang/Object", "clone", "()Ljava/lang/Object;"⟩).before a0 Z = true) (w6 : (Jvm.Cond.castable ad "java/lang/Cloneable").before a0 Z = true)
    {a : Addr} {ty : FieldType} {vs : List Value} (F : own_Vec Z h a ty vs) (E : Exa Z h a ad) (hfit : vs.all (fits ty) = true) {n : Nat} (hlen : vs.length = n) (hsz : Ls.size = ml) (hf : 1 ≤ R.frames) {W : Nat} (hW : (rest.map fun v => v.category).sum ≤ W) (hl : W + 14 ≤ R.locals) {cells' slots' : Nat} (hc' : cells + 1 = cells') (hs' : slots + n = slots') (hc : cells' ≤ R.cells) (hs : slots' ≤ R.slots) (hd : decode bytes pc = .ok (.invokevirtual i, 3)) (hp : pc + 3 = pc')
    (k : ∀ a' T' h', a' = h.size → n0 ≤ a' → own_St p l e R s m args below meth c Z own bytes ml rt nm n0 T' h' cells' slots' → Ext h h' → own_Vec Z h' a' ty vs → Exa Z h' a' ad → own_Goal p e below Φ T' (mkF m pc' Ls (.ref a' :: rest))) : own_Goal p e below Φ T (mkF m pc Ls (.ref a :: rest)) := by
  subst hp hc' hs' hlen
  obtain ⟨locs, X, N, e1, n1, hx, hZ, hown, hby, hml, r0⟩ := X
  obtain ⟨cl, A, r⟩ := F
  have FC : FitC Z cl := fitC_of A fun i hi v hv => by
    rw [r] at hv
    have q : v ∈ vs := List.mem_of_getElem? (by simpa using hv)
    exact List.all_eq_true.mp hfit v q
  obtain ⟨T', h', X', e', E', A', B', st⟩ := cloneA X hx hZ hown w1 w2 w3 w4 w5 w6 e1 A E FC (g := mkF m pc Ls (.ref a :: rest)) rfl (hsz.trans hml.symm) (rest := rest) rfl (hb hby hd) hf (W := W) (cap := vs.length) (by show 2 * 0 + _ ≤ _; omega) hl (by rw [r]; simp) hc hs
  exact own_step st (k _ T' h' rfl n1 ⟨_, X', N, e', Nat.le_trans n1 E'.1, hx, hZ, hown, hby, hml, r0⟩ E' ⟨_, A', r⟩ B')
theorem own_cast_ (X : own_St p l e R s m args below meth c Z own bytes ml rt nm n0 T h cells slots) {i : Nat} {K : String} (w : (Jvm.Cond.classLink own i K).before a0 Z = true) {a : Addr} (E : Exa Z h a K) (hd : decode bytes pc = .ok (.checkcast i, 3)) (hp : pc + 3 = pc')
    (k : ∀ T', own_St p l e R s m args below meth c Z own bytes ml rt nm n0 T' h cells slots → own_Goal p e below Φ T' (mkF m pc' Ls (.ref a :: rest))) : own_Goal p e below Φ T (mkF m pc Ls (.ref a :: rest)) := by
  subst hp
  obtain ⟨locs, X, N, e1, n1, hx, hZ, hown, hby, r0⟩ := X
  obtain ⟨T', X', e', st⟩ := castY X hx hZ hown w e1 (Ins.self E) (g := mkF m pc Ls (.ref a :: rest)) (rest := rest) rfl rfl (hb hby hd)
  exact own_step st (k T' ⟨_, X', N, e', n1, hx, hZ, hown, hby, r0⟩)
theorem own_getS (X : own_St p l e R s m args below meth c Z own bytes ml rt nm n0 T h cells slots) {i : Nat} {O n d : String} (w : (Jvm.Cond.fieldLink own i O n d).before a0 Z = true) {v : Value} (F : Sta Z h O n d v) (hd : decode bytes pc = .ok (.getstatic i, 3)) (hp : pc + 3 = pc')
    (k : ∀ T', own_St p l e R s m args below meth c Z own bytes ml rt nm n0 T' h cells slots → own_Goal p e below Φ T' (mkF m pc' Ls (v :: rest))) : own_Goal p e below Φ T (mkF m pc Ls rest) := by
  subst hp
  obtain ⟨locs, X, N, e1, n1, hx, hZ, hown, hby, r0⟩ := X
  obtain ⟨T', X', e', st⟩ := getS X hx hZ hown (host := "") w Via.refl e1 F (g := mkF m pc Ls rest) rfl (hb hby hd)
  exact own_step st (k T' ⟨_, X', N, e', n1, hx, hZ, hown, hby, r0⟩)
theorem own_cases3 {v : Int32} (h : 0 ≤ v.toInt ∧ v.toInt ≤ ((2 : Nat) : Int)) : v = (0 : Int32) ∨ v = (1 : Int32) ∨ v = (2 : Int32) := by
  have q : v.toInt = 0 ∨ v.toInt = 1 ∨ v.toInt = 2 := by omega
  rcases q with q | q | q
  · exact Or.inl (Int32.toInt_inj.mp (by rw [q]; decide))
  · exact Or.inr (Or.inl (Int32.toInt_inj.mp (by rw [q]; decide)))
  · exact Or.inr (Or.inr (Int32.toInt_inj.mp (by rw [q]; decide)))
theorem own_newarrayC (X : own_St p l e R s m args below meth c Z own bytes ml rt nm n0 T h cells slots) {aty : ArrayType} {ty : FieldType} (hty : newarray.typeOf aty = ty) (w : (Jvm.Cond.arrayClass ty).before a0 Z = true) {j : Int32} {n cap : Nat} (hj : j.toNatClampNeg = n) (h0 : ¬ j < 0) (hn : n ≤ cap) (hcb : cap ≤ 1000) {cells' slots' : Nat} (hc' : cells + 1 = cells') (hs' : slots + cap = slots') (hc : cells' ≤ R.cells) (hs : slots' ≤ R.slots) (hd : decode bytes pc = .ok (.newarray aty, 2)) (hp : pc + 2 = pc')
    (k : ∀ a T' h', a = h.size → n0 ≤ a → own_St p l e R s m args below meth c Z own bytes ml rt nm n0 T' h' cells' slots' → Ext h h' → own_Vec Z h' a ty (List.replicate n (defaultValue ty)) → own_Goal p e below Φ T' (mkF m pc' Ls (.ref a :: rest))) : own_Goal p e below Φ T (mkF m pc Ls (.int j :: rest)) := by
  subst hp hty hc' hs'
  obtain ⟨locs, X, N, e1, n1, hx, hZ, hown, hby, r0⟩ := X
  obtain ⟨T', h', cA, X', e', E, A, st⟩ := newP X hx hZ w e1 (g := mkF m pc Ls _) rfl (hb hby hd) rfl h0 (cap := cap) (by omega) (by omega) hc hs
  refine own_step st (k _ T' h' rfl n1 ⟨_, X', N, e', Nat.le_trans n1 E.1, hx, hZ, hown, hby, r0⟩ E ⟨_, A, ?_⟩)
  simp [newA, hj]
theorem own_Vec.toArv {a : Addr} {ty : FieldType} {vs : List Value} (F : own_Vec Z h a ty vs) (hf : vs.all (fits ty) = true) {z : Int32} (hz : z.toNatClampNeg = vs.length) (h0 : ¬ z < 0) : ∃ k d, Arv Z h a k ty z vs d := by
  obtain ⟨c, A, r⟩ := F
  refine ⟨c.cls, .null, c, A, rfl, by rw [r, hz]; simp, h0, fun i hi => ?_, fun i hi => ?_⟩
  · have h3 : i < vs.length := by rw [r] at hi; simpa using hi
    rw [r]; simp [List.getD, h3]
  · have h3 : i < vs.length := by rw [r] at hi; simpa using hi
    have q := List.all_eq_true.mp hf vs[i] (List.getElem_mem h3)
    simpa [List.getD, h3] using q
theorem own_cpy (X : own_St p l e R s m args below meth c Z own bytes ml rt nm n0 T h cells slots) {i : Nat} (w1 : (Jvm.Cond.methodLink own i Jvm.Stand.acN).before a0 Z = true) (w2 : (Jvm.Cond.native Jvm.Stand.acN).before a0 Z = true) (w3 : (Jvm.Cond.static Jvm.Stand.acN).before a0 Z = true) (w4 : (Jvm.Cond.initialized "java/lang/System").before a0 Z = true)
    {a b : Addr} {P Q A B C : List Value} (F : own_Vec Z h a .byte (P ++ Q)) (G : own_Vec Z h b .byte (A ++ B ++ C)) (hF : (P ++ Q).all (fits .byte) = true) (hG : (A ++ B ++ C).all (fits .byte) = true) (hB : B.length = P.length) (hsm : (P ++ Q).length ≤ 1000 ∧ (A ++ B ++ C).length ≤ 1000) {sp dp nn : Int32} (h1 : sp.toNatClampNeg = 0 ∧ ¬ sp < 0) (h2 : dp.toNatClampNeg = A.length ∧ ¬ dp < 0) (h3 : nn.toNatClampNeg = P.length ∧ ¬ nn < 0) (ge : n0 ≤ b)
    (hsz : Ls.size = ml) (hf : 1 ≤ R.frames) {W : Nat} (hW : (rest.map fun v => v.category).sum ≤ W) (hl : W + (nativeFrameWords "java/lang/System" "arraycopy" 5 + 11) ≤ R.locals) (hd : decode bytes pc = .ok (.invokestatic i, 3)) (hp : pc + 3 = pc')
    (k : ∀ T' h', own_St p l e R s m args below meth c Z own bytes ml rt nm n0 T' h' cells slots → Keep h h' [b] → own_Vec Z h' b .byte (A ++ P ++ C) → own_Goal p e below Φ T' (mkF m pc' Ls rest)) : own_Goal p e below Φ T (mkF m pc Ls (.int nn :: .int dp :: .ref b :: .int sp :: .ref a :: rest)) := by
  subst hp
  have n0F : ∀ {n : Nat}, n ≤ 1000 → (Int32.ofNat n).toNatClampNeg = n ∧ ¬ Int32.ofNat n < 0 := fun {n} hn => by
    have e : (Int32.ofNat n).toInt = (n : Int) := Int32.toInt_ofNat_of_lt (by omega)
    refine ⟨by show (Int32.ofNat n).toInt.toNat = n; rw [e]; simp, fun q => ?_⟩
    rw [Int32.lt_iff_toInt_lt, e] at q; have : (0 : Int32).toInt = 0 := rfl; omega
  obtain ⟨locs, X, N, e1, n1, hx, hZ, hown, hby, hml, r0⟩ := X
  have z1 := n0F hsm.1; have z2 := n0F hsm.2
  obtain ⟨k1, d1, A1⟩ := F.toArv hF z1.1 z1.2
  obtain ⟨k2, d2, A2⟩ := G.toArv hG z2.1 z2.2
  obtain ⟨T', h', L, X', e', N', K, V', st⟩ := cpA X hx hZ hown w1 w2 w3 w4 e1 (sp := sp) (dp := dp) (nn := nn) (us := P) A1 A2 (Or.inl ⟨rfl, rfl⟩) h1.2 h2.2 h3.2 (by rw [h1.1, h3.1, z1.1]; simp) (by rw [h2.1, h3.1, z2.1]; simp; omega) (by
    rw [h1.1, h3.1]
    apply List.ext_getElem
    · simp
    · intro j q1 q2
      simp [List.getElem?_append_left q1, List.getElem?_eq_getElem q1]) (by rw [h2.1, h3.1]; simp; omega) N ge (g := mkF m pc Ls _) rfl (hsz.trans hml.symm) (rest := rest) rfl (hb hby hd) hf (W := W) (by show 2 * 0 + _ ≤ _; omega) hl
  have e9 : ((A ++ B ++ C).take dp.toNatClampNeg ++ P ++ (A ++ B ++ C).drop (dp.toNatClampNeg + nn.toNatClampNeg)) = A ++ P ++ C := by
    rw [h2.1, h3.1, ← hB, List.append_assoc A B C, List.take_left, ← List.append_assoc A B C, ← List.length_append, List.drop_left]
  rw [e9] at V'
  refine own_step st (k T' h' ⟨_, X', N', e', Nat.le_trans n1 K.1, hx, hZ, hown, hby, hml, r0⟩ K ?_)
  obtain ⟨c, Ac, q1, q2, q3, H, q5⟩ := V'
  refine ⟨c, Ac, ?_⟩
  have hl9 : c.slots.size = (A ++ P ++ C).length := by rw [q2, z2.1]; simp; omega
  apply Array.ext
  · rw [hl9]; simp
  · intro j j1 j2
    have q := H j j1
    rw [Array.getElem?_eq_getElem j1] at q
    have j3 : j < (A ++ P ++ C).length := by simpa using j2
    rw [Option.some.inj q]; simp only [List.getD, List.getElem?_eq_getElem j3, Option.getD_some]; simp
theorem own_i2c_mask {x v : Int32} (e : x &&& 255 = v) : v.toUInt32.toUInt16.toUInt32.toInt32 = v := by rw [← e]; exact i2c_mask x
theorem own_char {v : Int32} (e : v.toUInt32.toUInt16.toUInt32.toInt32 = v) : nar .char v = v := e
end OwnRef
section OwnWide
variable {p : Program} {l : Launch} {e : Env} {R : Room} {s : State} {m : MethodId} {args : Array Value} {below : List Frame} {meth : Method} {c : Code} {Z : State} {own : String} {bytes : ByteArray} {ml : Nat} {rt : Option FieldType} {nm : String} {n0 : Nat} {T : State} {h : Heap} {cells slots : Nat} {Q : Option Value → Heap → Prop} {Φ : State → Outcome → Prop} {pc pc' : Nat} {Ls : Array Slot} {rest : List Value} {a0 : Array Value} {vm0 : Vm} {k0 : Nat}
/-- what a return that meets Q leaves, where literals may have been interned -/
def own_FinW (below : List Frame) (s : State) (R : Room) (n0 : Nat) (Q : Option Value → Heap → Prop) : State → Outcome → Prop := fun s₂ o =>
  s₂.status = .running ∧ Ended s₂ below o ∧ ∃ v L, o = .returned v ∧ ((Q v s₂.heap ∧ n0 ≤ s₂.heap.size) ∧ Fr n0 L) ∧ ReturnedEndW s o s₂ L R.cells R.slots
theorem own_retZW (X : own_St p l e R (s.setVm vm0) m args below meth c Z own bytes ml rt nm n0 T h cells slots) (hS : s.Since vm0 k0) (hk : k0 ≤ h.size) {v : Int32} (hv : v = 0 ∨ v = 1) (hd : decode bytes pc = .ok (.ireturn, 1)) (hr : rt = some .boolean) (hc : cells ≤ R.cells) (hs : slots ≤ R.slots) (q : Q (some (.int v)) h) : own_Goal p e below (own_FinW below s R n0 Q) T (mkF m pc Ls (.int v :: rest)) := by
  obtain ⟨locs, X, N, e1, n1, hx, hZ, hown, hby, -, hrt, hlk, -⟩ := X
  obtain ⟨fs, hl, hrun, hended, hr1, hW, hB, hsame⟩ := X.leaveW hS (by rw [e1]; exact hk) (v := some (.int v)) (fun z => by rw [hrt, hr] at z; cases z) hlk
  have hn : nar .boolean v = v := by rcases hv with rfl | rfl <;> rfl
  exact ⟨_, _, retN X hx (t := .boolean) (hrt.trans hr) (by simp) (hb hby hd) (by rw [hn]; exact hl), hrun, hended, _, _, rfl, ⟨⟨by show Q _ T.heap; rw [e1]; exact q, by show n0 ≤ T.heap.size; rw [e1]; exact n1⟩, N⟩, hr1, hW, hB, hsame.mono hc hs⟩
theorem own_retVW (X : own_St p l e R (s.setVm vm0) m args below meth c Z own bytes ml rt nm n0 T h cells slots) (hS : s.Since vm0 k0) (hk : k0 ≤ h.size) (hd : decode bytes pc = .ok (.return_, 1)) (hr : rt = none) (hc : cells ≤ R.cells) (hs : slots ≤ R.slots) (q : Q none h) : own_Goal p e below (own_FinW below s R n0 Q) T (mkF m pc Ls []) := by
  obtain ⟨locs, X, N, e1, n1, hx, hZ, hown, hby, -, hrt, hlk, -⟩ := X
  obtain ⟨fs, hl, hrun, hended, hr1, hW, hB, hsame⟩ := X.leaveW hS (by rw [e1]; exact hk) (v := none) (fun _ => rfl) hlk
  exact ⟨_, _, X.returnOut hx (hrt.trans hr) (hb hby hd) hl, hrun, hended, _, _, rfl, ⟨⟨by show Q _ T.heap; rw [e1]; exact q, by show n0 ≤ T.heap.size; rw [e1]; exact n1⟩, N⟩, hr1, hW, hB, hsame.mono hc hs⟩
theorem own_hk_wr {h' : Heap} {a : Addr} {sl : Nat} {v : Value} (hk : k0 ≤ h.size) (W : Wr h h' a sl v) : k0 ≤ h'.size := by rw [W.size]; exact hk
theorem own_hk_ext {h' : Heap} (hk : k0 ≤ h.size) (E : Ext h h') : k0 ≤ h'.size := Nat.le_trans hk E.1
theorem own_ldcS (X : own_St p l e R (s.setVm vm0) m args below meth c Z own bytes ml rt nm n0 T h cells slots) (hS : s.Since vm0 k0) (hk : k0 ≤ h.size) {i : Nat} {text : String} (w : (Jvm.Cond.stringLink own i text).before a0 Z = true) (wS : ∀ d ∈ Bundle.stringAtoms, d.before a0 Z = true) {n : Nat} (hn : 4 * text.toList.length ≤ n) (hbig : n ≤ 536870912) {cells' slots' : Nat} (hc' : cells + 2 = cells') (hs' : slots + (n + 4) = slots') (hc : cells' ≤ R.cells) (hs : slots' ≤ R.slots) (hd : decode bytes pc = .ok (.ldc i, 2)) (hp : pc + 2 = pc')
    (k : ∀ a T' h' vm1 k1, s.Since vm1 k1 → k1 ≤ h'.size → own_St p l e R (s.setVm vm1) m args below meth c Z own bytes ml rt nm n0 T' h' cells' slots' → Ext h h' → own_Goal p e below Φ T' (mkF m pc' Ls (.ref a :: rest))) : own_Goal p e below Φ T (mkF m pc Ls rest) := by
  subst hp hc' hs'
  obtain ⟨locs, X, N, e1, n1, hx, hZ, hown, hby, r0⟩ := X
  obtain ⟨a, T', h', k1, X', e', E, hS', hk', hZ', hown', st⟩ := ldcS X hx hZ hown w wS e1 hS hk (g := mkF m pc Ls rest) rfl (hb hby hd) hn hbig hc hs
  exact own_step st (k a T' h' T'.vm k1 hS' hk' ⟨_, X', N, e', Nat.le_trans n1 E.1, hx, hZ', hown', hby, r0⟩ E)
theorem own_Vec.ofArv {b : Addr} {kc : ClassId} {ty : FieldType} {z : Int32} {vs : List Value} {d : Value} (F : Arv Z h b kc ty z vs d) (hl : z.toNatClampNeg = vs.length) : own_Vec Z h b ty vs := by
  obtain ⟨c, A, -, hsz, -, H, -⟩ := F
  refine ⟨c, A, ?_⟩
  apply Array.ext
  · rw [hsz, hl]; simp
  · intro i h1 h2
    have q := H i h1
    rw [Array.getElem?_eq_getElem h1] at q
    have h3 : i < vs.length := by simpa using h2
    have q2 := Option.some.inj q
    rw [q2]; simp [List.getD, h3]
theorem own_ldcSV (X : own_St p l e R (s.setVm vm0) m args below meth c Z own bytes ml rt nm n0 T h cells slots) (hS : s.Since vm0 k0) (hk : k0 ≤ h.size) (hs0 : s.heap.size = n0) (hkeep : ∀ (b : Addr) (cl : Cell), Z.heap[b]? = some cl → s.heap[b]? = some cl) {Ts : List String} (I : IB Z vm0 Ts) {i : Nat} {text : String} (hnot : text ∉ Ts) (hh : Jvm.Lit.constHeld Z own i) (hcw : Jvm.Lit.compactW.before a0 Z = true)
    {vs : List Value} {z : Int32} (ht : (∀ c ∈ text.toList, c.toNat < 256) ∧ text.toList.map (fun c => Value.int (Jvm.Lit.byteI c.toNat.toUInt16)) = vs) (hz : ¬ z < 0) (hl : z.toNatClampNeg = vs.length)
    (w : (Jvm.Cond.stringLink own i text).before a0 Z = true) (wS : ∀ d ∈ Bundle.stringAtoms, d.before a0 Z = true) {n : Nat} (hn : 4 * text.toList.length ≤ n) (hbig : n ≤ 536870912) {cells' slots' : Nat} (hc' : cells + 2 = cells') (hs' : slots + (n + 4) = slots') (hc : cells' ≤ R.cells) (hs : slots' ≤ R.slots) (hd : decode bytes pc = .ok (.ldc i, 2)) (hp : pc + 2 = pc')
    (k : ∀ a b T' h' vm1 k1, s.Since vm1 k1 → k1 ≤ h'.size → own_St p l e R (s.setVm vm1) m args below meth c Z own bytes ml rt nm n0 T' h' cells' slots' → Ext h h' → Exa Z h' a "java/lang/String" → Fld Z h' a "java/lang/String" "coder" "B" (.int 0) → Fld Z h' a "java/lang/String" "value" "[B" (.ref b) → own_Vec Z h' b .byte vs → IB Z vm1 (text :: Ts) → own_Goal p e below Φ T' (mkF m pc' Ls (.ref a :: rest))) : own_Goal p e below Φ T (mkF m pc Ls rest) := by
  subst hp hc' hs' hs0
  obtain ⟨locs, X, N, e1, n1, hx, hZ, hown, hby, r0⟩ := X
  obtain ⟨a, T', h', k1, b, kc, X', e', E, hS', hk', hZ', hown', A, F1, F2, V, -, -, I', st⟩ := ldcSV X hx hZ hown w wS e1 hS hk N hkeep I hnot hh hcw ht hz hl (g := mkF m pc Ls rest) rfl (hb hby hd) hn hbig hc hs
  exact own_step st (k a b T' h' T'.vm k1 hS' hk' ⟨_, X', N, e', Nat.le_trans n1 E.1, hx, hZ', hown', hby, r0⟩ E A F1 F2 (own_Vec.ofArv V hl) I')
/-- two Strings that hold different bytes are two objects -/
theorem own_strne {a a' b b' : Addr} {vs vs' : List Value} (F : Fld Z h a "java/lang/String" "value" "[B" (.ref b)) (V1 : own_Vec Z h b .byte vs) (F' : Fld Z h a' "java/lang/String" "value" "[B" (.ref b')) (V2 : own_Vec Z h b' .byte vs') (hne : vs ≠ vs') : a ≠ a' := fun q => by
  subst q
  obtain ⟨c1, cf, k, i, f, g1, g2, -, -, -, -, g7⟩ := F
  obtain ⟨c2, cf', k', i', f', r1, r2, -, -, -, -, r7⟩ := F'
  cases g1.symm.trans r1
  cases g2.symm.trans r2
  cases g7.symm.trans r7
  obtain ⟨c3, A3, e3⟩ := V1
  obtain ⟨c4, A4, e4⟩ := V2
  cases A3.1.symm.trans A4.1
  exact hne (by have := e3.symm.trans e4; simpa using this)
theorem own_acmpT (X : own_St p l e R s m args below meth c Z own bytes ml rt nm n0 T h cells slots) {o : Int} {cd : ClassFile.ACond} {x y : Value} (hx' : x.isRef = true) (hy' : y.isRef = true) (hc : XT.acmp cd x y = true) (hd : decode bytes pc = .ok (.if_acmp cd o, 3)) (ho : 0 ≤ (pc : Int) + o) (hp : ((pc : Int) + o).toNat = pc') (k : own_Goal p e below Φ T (mkF m pc' Ls rest)) : own_Goal p e below Φ T (mkF m pc Ls (y :: x :: rest)) :=
  own_pure X (fun X hx hby _ a => XT.acmpYes X.here hx rfl rfl (hb hby hd) rfl hx' hy' hc ho hp a) k
theorem own_inst (X : own_St p l e R s m args below meth c Z own bytes ml rt nm n0 T h cells slots) {i : Nat} {K : String} (w : (Jvm.Cond.classLink own i K).before a0 Z = true) {a : Addr} (E : Exa Z h a K) (hd : decode bytes pc = .ok (.instanceof i, 3)) (hp : pc + 3 = pc')
    (k : ∀ T', own_St p l e R s m args below meth c Z own bytes ml rt nm n0 T' h cells slots → own_Goal p e below Φ T' (mkF m pc' Ls (.int 1 :: rest))) : own_Goal p e below Φ T (mkF m pc Ls (.ref a :: rest)) := by
  subst hp
  obtain ⟨locs, X, N, e1, n1, hx, hZ, hown, hby, r0⟩ := X
  obtain ⟨T', X', e', st⟩ := instY X hx hZ hown w e1 (Ins.self E) (g := mkF m pc Ls (.ref a :: rest)) (rest := rest) rfl rfl (hb hby hd)
  exact own_step st (k T' ⟨_, X', N, e', n1, hx, hZ, hown, hby, r0⟩)
theorem own_baload (X : own_St p l e R s m args below meth c Z own bytes ml rt nm n0 T h cells slots) {a : Addr} {vs : List Value} (F : own_Vec Z h a .byte vs) {j : Int32} {i : Nat} {v : Value} (hj : j.toNatClampNeg = i) (h0 : ¬ j < 0) (hv : vs[i]? = some v) (hd : decode bytes pc = .ok (.baload, 1)) (hp : pc + 1 = pc') (k : own_Goal p e below Φ T (mkF m pc' Ls (v :: rest))) : own_Goal p e below Φ T (mkF m pc Ls (.int j :: .ref a :: rest)) := by
  subst hp
  obtain ⟨locs, X, N, e1, -, hx, hZ, hown, hby, -⟩ := X
  obtain ⟨cl, A, r⟩ := F
  have q1 : i < vs.length := (List.getElem?_eq_some_iff.mp hv).1
  exact own_step (fun t a => X.baloadBytes hx (cell := cl) (by rw [e1]; exact A.1) (State.isArrayOf_alike hZ.alike A.2.1) A.2.2 (own_in hj h0 (by rw [r]; simpa using q1)) (by rw [hj, r]; simpa using hv) (g := mkF m pc Ls _) rfl rfl (hb hby hd) t a) k
theorem own_absD (X : own_St p l e R s m args below meth c Z own bytes ml rt nm n0 T h cells slots) {i : Nat} (w1 : (Jvm.Cond.methodLink own i Jvm.Free.Fl.Abs.absDN).before a0 Z = true) (w2 : (Jvm.Cond.static Jvm.Free.Fl.Abs.absDN).before a0 Z = true) (w3 : (Jvm.Cond.initialized "java/lang/Math").before a0 Z = true) (w4 : (Jvm.Cond.code Jvm.Free.Fl.Abs.absDN Jvm.Free.Fl.Abs.absDCode 2 (some .double)).before a0 Z = true) {x v : UInt64} (hn : Jvm.Free.Fl.NoNaN64 x) (hv : x &&& 0x7fffffffffffffff = v) (hsz : Ls.size = ml) (hf : 1 ≤ R.frames) {W : Nat} (hW : (rest.map fun v => v.category).sum ≤ W) (hl : W + 13 ≤ R.locals) (hc : cells ≤ R.cells) (hs : slots ≤ R.slots) (hlen : ∀ sig, parseMethodDescriptor "(D)D" = some sig → 1 = sig.parameters.length) (hd : decode bytes pc = .ok (.invokestatic i, 3)) (hp : pc + 3 = pc')
    (k : ∀ T', own_St p l e R s m args below meth c Z own bytes ml rt nm n0 T' h cells slots → own_Goal p e below Φ T' (mkF m pc' Ls (.double v :: rest))) : own_Goal p e below Φ T (mkF m pc Ls (.double x :: rest)) := by
  subst hp hv
  obtain ⟨locs, X, N, e1, n1, hx, hZ, hown, hby, hml, r0⟩ := X
  obtain ⟨T', X', e', st⟩ := natS X hx hZ hown w1 w2 w3 w4 (by decide) e1 (F := fun a' => a' = #[.double x] ∧ Jvm.Free.Fl.NoNaN64 x) (fun hc4 => Jvm.Free.Fl.Abs.absD_pays x hc4 hf hl) (g := mkF m pc Ls (.double x :: rest)) rfl (hsz.trans hml.symm) (argsL := [.double x]) (rest := rest) hlen rfl (by show 2 * 0 + _ ≤ _; omega) (hb hby hd) hc hs ⟨rfl, hn⟩ rfl
  exact own_step st (k T' ⟨_, X', N, e', n1, hx, hZ, hown, hby, hml, r0⟩)
/-- a callee's contract, wide -/
def own_MetW (l : Launch) (Z : State) (y : MethodName) (bytes : ByteArray) (ml : Nat) (rt : Option FieldType) (ws : List Jvm.Cond) (rm : Room) (as' : Array Value) (h0 : Heap) (n0 : Nat) (Q : Option Value → Heap → Prop) : Prop :=
  MetFree l y (head1 (Jvm.Cond.code y bytes ml rt :: ws) rm) (fun a U => a = as' ∧ Z.Warmed39 U.vm ∧ U.heap = h0) (fun _ _ _ _ _ => True) (fun _ U o U' => ∃ v L, o = .returned v ∧ ((Q v U'.heap ∧ n0 ≤ U'.heap.size) ∧ Fr n0 L) ∧ ReturnedEndW U o U' L rm.cells rm.slots)
theorem own_meetW {y : MethodName} {ws : List Jvm.Cond} {rm : Room} {as' : Array Value} {h0 : Heap} (hpn : plainFor y = true) (hle : n0 ≤ h0.size) {Ls0 : Array Slot} (hef : ∀ m, entryFrame m as' ml = mkF m 0 Ls0 [])
    (body : ∀ (p : Program) (e : Env) (s : State) (m : MethodId) (below : List Frame) (meth : Method) (c : Code) (T : State) (vm0 : Vm) (k0 : Nat), s.Since vm0 k0 → k0 ≤ h0.size → own_St p l e rm (s.setVm vm0) m as' below meth c Z y.cls bytes ml rt y.name n0 T h0 0 0 → own_Goal p e below (own_FinW below s rm n0 Q) T (mkF m 0 Ls0 [])) : own_MetW l Z y bytes ml rt ws rm as' h0 n0 Q := by
  refine MetFree.of_bodySF hpn hisR ?_
  intro p e s m args below meth c s₁ Bd hml0 hP hK
  obtain ⟨rfl, hZ, hh⟩ := hP
  have e0 : s₁.heap = h0 := by rw [← hh, Bd.state]; rfl
  obtain ⟨s2, o, st, r1, r2, r3⟩ := body p e s m below meth c s₁ s.vm 0 ((State.WarmedH.refl s).since 0) (Nat.zero_le _) ⟨[], Stand.of_body Bd, Fr.nil n0, e0, hle, Bd.exec, hZ, findClass_of_methodNamed Bd.named, Bd.bytes, hml0, Bd.returns, Bd.notSynchronized, (name_of_methodNamed Bd.named Bd.method).1⟩
  exact ⟨s2, o, castTop (hef m) st, r1, r2, r3⟩
/-- the law's own contract: it starts in Z itself -/
def own_MetL (l : Launch) (Z : State) (y : MethodName) (bytes : ByteArray) (ml : Nat) (rt : Option FieldType) (ws : List Jvm.Cond) (rm : Room) (as' : Array Value) (n0 : Nat) (Q : Option Value → Heap → Prop) : Prop :=
  MetFree l y (head1 (Jvm.Cond.code y bytes ml rt :: ws) rm) (fun a U => a = as' ∧ U = Z) (fun _ _ _ _ _ => True) (fun _ U o U' => ∃ v L, o = .returned v ∧ ((Q v U'.heap ∧ n0 ≤ U'.heap.size) ∧ Fr n0 L) ∧ ReturnedEndW U o U' L rm.cells rm.slots)
theorem own_meetL {y : MethodName} {ws : List Jvm.Cond} {rm : Room} {as' : Array Value} {h0 : Heap} (hpn : plainFor y = true) (hh0 : Z.heap = h0) (hle : Z.heap.size = n0) {Ls0 : Array Slot} (hef : ∀ m, entryFrame m as' ml = mkF m 0 Ls0 [])
    (body : ∀ (p : Program) (e : Env) (m : MethodId) (below : List Frame) (meth : Method) (c : Code) (T : State) (vm0 : Vm) (k0 : Nat), Z.Since vm0 k0 → k0 ≤ h0.size → IB Z vm0 [] → own_St p l e rm (Z.setVm vm0) m as' below meth c Z y.cls bytes ml rt y.name n0 T h0 0 0 → own_Goal p e below (own_FinW below Z rm n0 Q) T (mkF m 0 Ls0 [])) : own_MetL l Z y bytes ml rt ws rm as' n0 Q := by
  refine MetFree.of_bodySF hpn hisR ?_
  intro p e s m args below meth c s₁ Bd hml0 hP hK
  obtain ⟨rfl, rfl⟩ := hP
  have e0 : s₁.heap = h0 := by rw [← hh0, Bd.state]; rfl
  obtain ⟨s2, o, st, r1, r2, r3⟩ := body p e m below meth c s₁ s.vm 0 ((State.WarmedH.refl s).since 0) (Nat.zero_le _) IB.start ⟨[], Stand.of_body Bd, Fr.nil n0, e0, by rw [← hh0, hle]; exact Nat.le_refl _, Bd.exec, State.Warmed39.refl s, findClass_of_methodNamed Bd.named, Bd.bytes, hml0, Bd.returns, Bd.notSynchronized, (name_of_methodNamed Bd.named Bd.method).1⟩
  exact ⟨s2, o, castTop (hef m) st, r1, r2, r3⟩
theorem own_specialW (X : own_St p l e R (s.setVm vm0) m args below meth c Z own bytes ml rt nm n0 T h cells slots) (hS : s.Since vm0 k0) (hk : k0 ≤ h.size) {y : MethodName} {yb : ByteArray} {yl : Nat} {yr : Option FieldType} {rm : Room} {as' : Array Value} {Q' : Option Value → Heap → Prop} (M : own_MetW l Z y yb yl yr [] rm as' h n0 Q') (hy1 : y.name = "<init>") (hyr : yr = none) {i : Nat} (w1 : (Jvm.Cond.methodLink own i y).before a0 Z = true) (w2 : (Jvm.Cond.instanceMethod y).before a0 Z = true) (w3 : (Jvm.Cond.initialized y.cls).before a0 Z = true) (w4 : (Jvm.Cond.code y yb yl yr).before a0 Z = true) (hy : y.cls ≠ "java/lang/invoke/MethodHandle" ∧ y.cls ≠ "java/lang/invoke/VarHandle") (hsz : Ls.size = ml) (hf : rm.frames + 1 ≤ R.frames) {W : Nat} (hW : (rest.map fun v => v.category).sum ≤ W) (hl : W + (yl + 11) + rm.locals ≤ R.locals) {cells' slots' : Nat} (hc' : cells + rm.cells = cells') (hs' : slots + rm.slots = slots') (hc : cells' ≤ R.cells) (hs : slots' ≤ R.slots) {a : Addr} {argsL stk : List Value} (hlen : ∀ sig, parseMethodDescriptor y.desc = some sig → argsL.length = sig.parameters.length) (hst : stk = argsL.reverse ++ .ref a :: rest) (has : (.ref a :: argsL).toArray = as') (hd : decode bytes pc = .ok (.invokespecial i, 3)) (hp : pc + 3 = pc')
    (k : ∀ v T' h' vm1 k1, s.Since vm1 k1 → k1 ≤ h'.size → own_St p l e R (s.setVm vm1) m args below meth c Z own bytes ml rt nm n0 T' h' cells' slots' → Q' v h' → own_Goal p e below Φ T' (mkF m pc' Ls (v.toList ++ rest))) : own_Goal p e below Φ T (mkF m pc Ls stk) := by
  subst hp hst has hc' hs' hyr
  obtain ⟨locs, X, N, e1, n1, hx, hZ, hown, hby, hml, r0⟩ := X
  obtain ⟨v, vm1, ⟨T', L', k', n'⟩, -, X', hS', hgr, ⟨Lc, ⟨⟨hQ, hG⟩, NL⟩, l1, y1, z1⟩, st⟩ := X.specialBackS hx (y := y) hy1 hown (mvT hZ w1) (mvT hZ w2) (mvT hZ w4) hy (backOfS (W := W) (Q := fun v hh L => (Q' v hh ∧ n0 ≤ hh.size) ∧ Fr n0 L) M hZ w4 w3 hf hl) (g := mkF m pc Ls (argsL.reverse ++ .ref a :: rest)) rfl (hsz.trans hml.symm) (Steps.refl _) (a := a) (argsL := argsL) (rest := rest) hlen rfl (by show 2 * 0 + _ ≤ _; omega) (hb hby hd) (fun _ _ => ⟨rfl, e1, hc, hs⟩)
  dsimp only [Pt.U, Pt.locs, Pt.cells, Pt.slots] at X' l1 y1 z1 st hQ hG hS' hgr
  subst l1 y1 z1
  obtain ⟨X2, hS2, hZ2, hown2⟩ := rebS hS (n1 := T.heap.size) (by rw [e1]; exact hk) X' hS' hgr hZ hown
  exact own_step (fun t b => st.trans b) (k v T' _ T'.vm _ hS2 (Nat.le_refl _) ⟨_, X2, Fr.app N NL, rfl, hG, hx, hZ2, hown2, hby, hml, r0⟩ hQ)
end OwnWide
section OwnCalls
variable {p : Program} {l : Launch} {e : Env} {R : Room} {s : State} {m : MethodId} {args : Array Value} {below : List Frame} {meth : Method} {c : Code} {Z : State} {own : String} {bytes : ByteArray} {ml : Nat} {rt : Option FieldType} {nm : String} {n0 : Nat} {T : State} {h : Heap} {cells slots : Nat} {Q : Option Value → Heap → Prop} {Φ : State → Outcome → Prop} {pc pc' : Nat} {Ls : Array Slot} {rest : List Value} {a0 : Array Value}
theorem own_super (X : own_St p l e R s m args below meth c Z own bytes ml rt nm n0 T h cells slots) {y : MethodName} {yb : ByteArray} {yl : Nat} {yr : Option FieldType} {rm : Room} {as' : Array Value} {Q' : Option Value → Heap → Prop} (M : own_Met l Z y yb yl yr [] rm as' h n0 Q') {i : Nat} (w1 : (Jvm.Cond.methodLink own i y).before a0 Z = true) (w5 : (Jvm.Cond.sameMethod y.cls y.cls y.name y.desc).before a0 Z = true) (w2 : (Jvm.Cond.instanceMethod y).before a0 Z = true) (w6 : (Jvm.Cond.superclass own y.cls).before a0 Z = true) (hn : y.name ≠ "<init>") (w3 : (Jvm.Cond.initialized y.cls).before a0 Z = true) (w4 : (Jvm.Cond.code y yb yl yr).before a0 Z = true) (hsz : Ls.size = ml) (hf : rm.frames + 1 ≤ R.frames) {W : Nat} (hW : (rest.map fun v => v.category).sum ≤ W) (hl : W + (yl + 11) + rm.locals ≤ R.locals) {cells' slots' : Nat} (hc' : cells + rm.cells = cells') (hs' : slots + rm.slots = slots') (hc : cells' ≤ R.cells) (hs : slots' ≤ R.slots) {a : Addr} {KK : String} (E : Exa Z h a KK) {argsL stk : List Value} (hlen : ∀ sig, parseMethodDescriptor y.desc = some sig → argsL.length = sig.parameters.length) (hst : stk = argsL.reverse ++ .ref a :: rest) (has : (.ref a :: argsL).toArray = as') (hd : decode bytes pc = .ok (.invokespecial i, 3)) (hp : pc + 3 = pc')
    (k : ∀ v T' h', own_St p l e R s m args below meth c Z own bytes ml rt nm n0 T' h' cells' slots' → Q' v h' → own_Goal p e below Φ T' (mkF m pc' Ls (v.toList ++ rest))) : own_Goal p e below Φ T (mkF m pc Ls stk) := by
  subst hp hst has hc' hs'
  obtain ⟨locs, X, N, e1, n1, hx, hZ, hown, hby, hml, r0⟩ := X
  obtain ⟨v, vm1, ⟨T', L', k', n'⟩, -, X', ⟨Lc, ⟨⟨hQ, hG⟩, NL⟩, l1, y1, z1⟩, st⟩ := superBack X hx hZ (y := y) hown w1 w5 w2 w6 hn (backOf (W := W) (Q := fun v hh L => (Q' v hh ∧ n0 ≤ hh.size) ∧ Fr n0 L) M hZ w4 w3 hf hl) e1 (Ins.self E) (g := mkF m pc Ls (argsL.reverse ++ .ref a :: rest)) rfl (hsz.trans hml.symm) w4 (argsL := argsL) (rest := rest) hlen rfl (by show 2 * 0 + _ ≤ _; omega) (hb hby hd) (fun _ _ => ⟨rfl, e1, hc, hs⟩)
  dsimp only [Pt.U, Pt.locs, Pt.cells, Pt.slots] at X' l1 y1 z1 st hQ
  subst l1 y1 z1
  exact own_step (fun t b => st.trans b) (k v T' _ ⟨_, X', Fr.app N NL, rfl, hG, hx, hZ, hown, hby, hml, r0⟩ hQ)
theorem own_virtual2 (X : own_St p l e R s m args below meth c Z own bytes ml rt nm n0 T h cells slots) {y : MethodName} {yb : ByteArray} {yl : Nat} {yr : Option FieldType} {rm : Room} {as' : Array Value} {Q' : Option Value → Heap → Prop} (M : own_Met l Z y yb yl yr [] rm as' h n0 Q') {C : String} {z : MethodName} {i : Nat} (w1 : (Jvm.Cond.methodLink own i z).before a0 Z = true) (wd : (Jvm.Cond.declares z).before a0 Z = true) (wsl : (Jvm.Cond.selects C z y).before a0 Z = true) {z' : MethodName} (wsz : (Jvm.Cond.selects C z' z').before a0 Z = true) (hzc : z'.cls = z.cls) (w2 : (Jvm.Cond.instanceMethod y).before a0 Z = true) (w3 : (Jvm.Cond.initialized y.cls).before a0 Z = true) (w4 : (Jvm.Cond.code y yb yl yr).before a0 Z = true) (hz : z.cls ≠ "java/lang/invoke/MethodHandle" ∧ z.cls ≠ "java/lang/invoke/VarHandle") (hsz : Ls.size = ml) (hf : rm.frames + 1 ≤ R.frames) {W : Nat} (hW : (rest.map fun v => v.category).sum ≤ W) (hl : W + (yl + 11) + rm.locals ≤ R.locals) {cells' slots' : Nat} (hc' : cells + rm.cells = cells') (hs' : slots + rm.slots = slots') (hc : cells' ≤ R.cells) (hs : slots' ≤ R.slots) {a : Addr} (E : Exa Z h a C) {argsL stk : List Value} (hlen : ∀ sig, parseMethodDescriptor z.desc = some sig → argsL.length = sig.parameters.length) (hst : stk = argsL.reverse ++ .ref a :: rest) (has : (.ref a :: argsL).toArray = as') (hd : decode bytes pc = .ok (.invokevirtual i, 3)) (hp : pc + 3 = pc')
    (k : ∀ v T' h', own_St p l e R s m args below meth c Z own bytes ml rt nm n0 T' h' cells' slots' → Q' v h' → own_Goal p e below Φ T' (mkF m pc' Ls (v.toList ++ rest))) : own_Goal p e below Φ T (mkF m pc Ls stk) := by
  subst hp hst has hc' hs'
  obtain ⟨locs, X, N, e1, n1, hx, hZ, hown, hby, hml, r0⟩ := X
  obtain ⟨cq, kq, qa, qb, qc⟩ := isOf (T := T) hZ e1 E
  have nf : NotFace s z := fun r hr => by
    obtain ⟨c2, r2, m2, -, -, q3, -, kP, hkP, hkPi⟩ := Cond.selects_spec (mvT (args := #[]) hZ wsz)
    have q5 := findClass_of_methodNamed hr
    have q6 := findClass_of_methodNamed q3
    rw [hzc, q5] at q6
    rw [Option.some.inj q6]
    exact ⟨kP, hkP, hkPi⟩
  obtain ⟨v, vm1, ⟨T', L', k', n'⟩, -, X', ⟨Lc, ⟨⟨hQ, hG⟩, NL⟩, l1, y1, z1⟩, st⟩ := X.virtualBack hx (y := z) (z := y) hown (mvT hZ w1) (mvT hZ wd) nf (mvT hZ wsl) (mvT hZ w2) hz (backOf (W := W) (Q := fun v hh L => (Q' v hh ∧ n0 ≤ hh.size) ∧ Fr n0 L) M hZ w4 w3 hf hl) qa qc (g := mkF m pc Ls (argsL.reverse ++ .ref a :: rest)) rfl (hsz.trans hml.symm) (Steps.refl _) (argsL := argsL) (rest := rest) hlen rfl (by show 2 * 0 + _ ≤ _; omega) (hb hby hd) (fun _ _ => ⟨rfl, e1, hc, hs⟩)
  dsimp only [Pt.U, Pt.locs, Pt.cells, Pt.slots] at X' l1 y1 z1 st hQ
  subst l1 y1 z1
  exact own_step (fun t b => st.trans b) (k v T' _ ⟨_, X', Fr.app N NL, rfl, hG, hx, hZ, hown, hby, hml, r0⟩ hQ)
theorem own_iface (X : own_St p l e R s m args below meth c Z own bytes ml rt nm n0 T h cells slots) {y : MethodName} {yb : ByteArray} {yl : Nat} {yr : Option FieldType} {rm : Room} {as' : Array Value} {Q' : Option Value → Heap → Prop} (M : own_Met l Z y yb yl yr [] rm as' h n0 Q') {C : String} {z : MethodName} {i cn : Nat} (w1 : (Jvm.Cond.methodLink own i z).before a0 Z = true) (wd : (Jvm.Cond.declares z).before a0 Z = true) (wf : (Jvm.Cond.interfaceMethod z.cls z.cls z.name z.desc).before a0 Z = true) (hfa : ((Jvm.Cond.interfaceMethod z.cls z.cls z.name z.desc).onTables && (Jvm.Cond.interfaceMethod z.cls z.cls z.name z.desc).keepsFace) = true) (wsl : (Jvm.Cond.selects C z y).before a0 Z = true) (w2 : (Jvm.Cond.instanceMethod y).before a0 Z = true) (wp : (Jvm.Cond.publicMethod y).before a0 Z = true) (wu : (Jvm.Cond.unhidden C z.name z.desc).before a0 Z = true) (wc : (Jvm.Cond.castable C z.cls).before a0 Z = true) (w3 : (Jvm.Cond.initialized y.cls).before a0 Z = true) (w4 : (Jvm.Cond.code y yb yl yr).before a0 Z = true) (hz : z.cls ≠ "java/lang/invoke/MethodHandle" ∧ z.cls ≠ "java/lang/invoke/VarHandle") (hsz : Ls.size = ml) (hf : rm.frames + 1 ≤ R.frames) {W : Nat} (hW : (rest.map fun v => v.category).sum ≤ W) (hl : W + (yl + 11) + rm.locals ≤ R.locals) {cells' slots' : Nat} (hc' : cells + rm.cells = cells') (hs' : slots + rm.slots = slots') (hc : cells' ≤ R.cells) (hs : slots' ≤ R.slots) {a : Addr} (E : Exa Z h a C) {argsL stk : List Value} (hlen : ∀ sig, parseMethodDescriptor z.desc = some sig → argsL.length = sig.parameters.length) (hst : stk = argsL.reverse ++ .ref a :: rest) (has : (.ref a :: argsL).toArray = as') (hd : decode bytes pc = .ok (.invokeinterface i cn, 5)) (hp : pc + 5 = pc')
    (k : ∀ v T' h', own_St p l e R s m args below meth c Z own bytes ml rt nm n0 T' h' cells' slots' → Q' v h' → own_Goal p e below Φ T' (mkF m pc' Ls (v.toList ++ rest))) : own_Goal p e below Φ T (mkF m pc Ls stk) := by
  subst hp hst has hc' hs'
  obtain ⟨locs, X, N, e1, n1, hx, hZ, hown, hby, hml, r0⟩ := X
  obtain ⟨cq, kq, qa, qb, qc⟩ := isOf (T := T) hZ e1 E
  obtain ⟨v, vm1, ⟨T', L', k', n'⟩, -, X', ⟨Lc, ⟨⟨hQ, hG⟩, NL⟩, l1, y1, z1⟩, st⟩ := X.interfaceBack hx (xi := z) (y := y) hown (mvT hZ w1) (mvT hZ wd) (mvT hZ wf hfa) (mvT hZ wsl) (mvT hZ w2) (mvT hZ wp) (mvT hZ wu) (mvT hZ wc) hz (backOf (W := W) (Q := fun v hh L => (Q' v hh ∧ n0 ≤ hh.size) ∧ Fr n0 L) M hZ w4 w3 hf hl) qa qb qc (g := mkF m pc Ls (argsL.reverse ++ .ref a :: rest)) rfl (hsz.trans hml.symm) (Steps.refl _) (argsL := argsL) (rest := rest) hlen rfl (by show 2 * 0 + _ ≤ _; omega) (hb hby hd) (fun _ _ => ⟨rfl, e1, hc, hs⟩)
  dsimp only [Pt.U, Pt.locs, Pt.cells, Pt.slots] at X' l1 y1 z1 st hQ
  subst l1 y1 z1
  exact own_step (fun t b => st.trans b) (k v T' _ ⟨_, X', Fr.app N NL, rfl, hG, hx, hZ, hown, hby, hml, r0⟩ hQ)
theorem own_virtUp (X : own_St p l e R s m args below meth c Z own bytes ml rt nm n0 T h cells slots) {y : MethodName} {yb : ByteArray} {yl : Nat} {yr : Option FieldType} {rm : Room} {as' : Array Value} {Q' : Option Value → Heap → Prop} (M : own_Met l Z y yb yl yr [] rm as' h n0 Q') {C ow : String} {z : MethodName} {i : Nat} (w1 : (Jvm.Cond.methodLink own i z).before a0 Z = true) (wsm : (Jvm.Cond.sameMethod z.cls ow z.name z.desc).before a0 Z = true) (wd : (Jvm.Cond.declares ⟨ow, z.name, z.desc⟩).before a0 Z = true) (how : ow ≠ "java/lang/invoke/MethodHandle" ∧ ow ≠ "java/lang/invoke/VarHandle") (wsl : (Jvm.Cond.selects C z y).before a0 Z = true) (w2 : (Jvm.Cond.instanceMethod y).before a0 Z = true) (w3 : (Jvm.Cond.initialized y.cls).before a0 Z = true) (w4 : (Jvm.Cond.code y yb yl yr).before a0 Z = true) (hsz : Ls.size = ml) (hf : rm.frames + 1 ≤ R.frames) {W : Nat} (hW : (rest.map fun v => v.category).sum ≤ W) (hl : W + (yl + 11) + rm.locals ≤ R.locals) {cells' slots' : Nat} (hc' : cells + rm.cells = cells') (hs' : slots + rm.slots = slots') (hc : cells' ≤ R.cells) (hs : slots' ≤ R.slots) {a : Addr} (E : Exa Z h a C) {argsL stk : List Value} (hlen : ∀ sig, parseMethodDescriptor z.desc = some sig → argsL.length = sig.parameters.length) (hst : stk = argsL.reverse ++ .ref a :: rest) (has : (.ref a :: argsL).toArray = as') (hd : decode bytes pc = .ok (.invokevirtual i, 3)) (hp : pc + 3 = pc')
    (k : ∀ v T' h', own_St p l e R s m args below meth c Z own bytes ml rt nm n0 T' h' cells' slots' → Q' v h' → own_Goal p e below Φ T' (mkF m pc' Ls (v.toList ++ rest))) : own_Goal p e below Φ T (mkF m pc Ls stk) := by
  subst hp hst has hc' hs'
  obtain ⟨locs, X, N, e1, n1, hx, hZ, hown, hby, hml, r0⟩ := X
  obtain ⟨cq, kq, qa, qb, qc⟩ := isOf (T := T) hZ e1 E
  obtain ⟨v, vm1, ⟨T', L', k', n'⟩, -, X', ⟨Lc, ⟨⟨hQ, hG⟩, NL⟩, l1, y1, z1⟩, st⟩ := X.virtualBackUp hx (x := z) (y := y) (owner := ow) hown (mvT hZ w1) (mvT hZ wsm) (mvT hZ wd) how (mvT hZ wsl) (mvT hZ w2) (backOf (W := W) (Q := fun v hh L => (Q' v hh ∧ n0 ≤ hh.size) ∧ Fr n0 L) M hZ w4 w3 hf hl) qa qc (g := mkF m pc Ls (argsL.reverse ++ .ref a :: rest)) rfl (hsz.trans hml.symm) (Steps.refl _) (argsL := argsL) (rest := rest) hlen rfl (by show 2 * 0 + _ ≤ _; omega) (hb hby hd) (fun _ _ => ⟨rfl, e1, hc, hs⟩)
  dsimp only [Pt.U, Pt.locs, Pt.cells, Pt.slots] at X' l1 y1 z1 st hQ
  subst l1 y1 z1
  exact own_step (fun t b => st.trans b) (k v T' _ ⟨_, X', Fr.app N NL, rfl, hG, hx, hZ, hown, hby, hml, r0⟩ hQ)
theorem own_getFV (X : own_St p l e R s m args below meth c Z own bytes ml rt nm n0 T h cells slots) {i : Nat} {R0 O n d : String} (w : (Jvm.Cond.fieldLink own i R0 n d).before a0 Z = true) (via : Via Z R0 O n d) {a : Addr} {v : Value} (F : Fld Z h a O n d v) (hd : decode bytes pc = .ok (.getfield i, 3)) (hp : pc + 3 = pc')
    (k : ∀ T', own_St p l e R s m args below meth c Z own bytes ml rt nm n0 T' h cells slots → own_Goal p e below Φ T' (mkF m pc' Ls (v :: rest))) : own_Goal p e below Φ T (mkF m pc Ls (.ref a :: rest)) := by
  subst hp
  obtain ⟨locs, X, N, e1, n1, hx, hZ, hown, hby, r0⟩ := X
  obtain ⟨T', X', e', st⟩ := getF X hx hZ hown (host := "") (Or.inl w) via e1 F (g := mkF m pc Ls _) rfl rfl (hb hby hd)
  exact own_step st (k T' ⟨_, X', N, e', n1, hx, hZ, hown, hby, r0⟩)
end OwnCalls
section OwnStr
/-- the low byte, the high byte of a char -/
def own_b (c : Int32) : Int32 := c.toInt8.toInt32
def own_hb (c : Int32) : Int32 := (c >>> (8 &&& 31)).toInt8.toInt32
def own_lat (cs : List Int32) : Bool := cs.all fun c => decide (c.toInt ≤ 255)
def own_l8 (cs : List Int32) : List Value := cs.map fun c => .int (own_b c)
def own_u16 (cs : List Int32) : List Value := cs.flatMap fun c => [.int (own_b c), .int (own_hb c)]
def own_enc (cs : List Int32) : List Value := if own_lat cs then own_l8 cs else own_u16 cs
def own_cod (cs : List Int32) : Int32 := if own_lat cs then 0 else 1
def own_cv (cs : List Int32) : List Value := cs.map .int
def own_ch (cs : List Int32) : Prop := ∀ c ∈ cs, 0 ≤ c.toInt ∧ c.toInt ≤ 65535
theorem own_l8_len (cs : List Int32) : (own_l8 cs).length = cs.length := by simp [own_l8]
theorem own_u16_len (cs : List Int32) : (own_u16 cs).length = 2 * cs.length := by
  induction cs with
  | nil => rfl
  | cons c r ih => simp [own_u16, List.flatMap_cons] at ih ⊢; omega
theorem own_cv_len (cs : List Int32) : (own_cv cs).length = cs.length := by simp [own_cv]
theorem own_enc_len (cs : List Int32) : (own_enc cs).length = if own_lat cs then cs.length else 2 * cs.length := by
  unfold own_enc; split <;> simp [own_l8_len, own_u16_len]
theorem own_lat_app (cs ds : List Int32) : own_lat (cs ++ ds) = (own_lat cs && own_lat ds) := by simp [own_lat]
theorem own_l8_app (cs ds : List Int32) : own_l8 (cs ++ ds) = own_l8 cs ++ own_l8 ds := by simp [own_l8]
theorem own_u16_app (cs ds : List Int32) : own_u16 (cs ++ ds) = own_u16 cs ++ own_u16 ds := by simp [own_u16]
theorem own_ch_app {cs ds : List Int32} (h1 : own_ch cs) (h2 : own_ch ds) : own_ch (cs ++ ds) := fun c hc => (List.mem_append.mp hc).elim (h1 c) (h2 c)
/-- an int that counts -/
theorem own_idx {B k : Nat} {i : Int} {x : Int32} (f : own_I B i x) (h : i = (k : Int)) : x.toNatClampNeg = k ∧ ¬ x < 0 := by
  have e : x.toInt = (k : Int) := f.1.trans h
  refine ⟨by show x.toInt.toNat = k; rw [e]; simp, fun q => ?_⟩
  rw [Int32.lt_iff_toInt_lt, e] at q
  have : (0 : Int32).toInt = 0 := rfl
  omega
theorem own_i32 {B k : Nat} {x : Int32} (f : own_I B (k : Int) x) : (k : Nat).toInt32 = x := by
  apply Int32.toInt_inj.mp
  rw [f.1]
  have h1 := f.1; have h2 := x.toInt_lt; have h3 := x.le_toInt
  have hk : (k : Int) < 2147483648 := by rw [← h1]; omega
  exact Int32.toInt_ofNat_of_lt (by omega)
theorem own_I.shl1 {B C : Nat} {i : Int} {x v : Int32} (f : own_I B i x) (hv : x <<< (1 &&& 31) = v) (hC : 2 * B ≤ C) (h : C < 2147483648) : own_I C (2 * i) v := by
  have e : x <<< (1 &&& 31 : Int32) = x + x := by
    apply Int32.toBitVec_inj.mp
    have this : (x <<< (1 &&& 31 : Int32)).toBitVec = x.toBitVec <<< 1 := rfl
    rw [this, Int32.toBitVec_add]
    apply BitVec.eq_of_toNat_eq
    rw [BitVec.toNat_shiftLeft, BitVec.toNat_add, Nat.shiftLeft_eq]
    congr 1; omega
  subst hv; rw [e]
  have q := own_I.add f f rfl (C := B + B) (Nat.le_refl _) (by omega)
  exact ⟨by rw [q.1]; omega, by have := q.2; omega⟩
theorem own_nar_b (c : Int32) : nar .byte (own_b c) = own_b c := by
  show (c.toInt8.toInt32).toInt8.toInt32 = c.toInt8.toInt32
  rw [Int8.toInt8_toInt32]
theorem own_shr0 (c : Int32) : c >>> (0 &&& 31) = c := by
  have : (0 &&& 31 : Int32) = 0 := by decide
  rw [this]; exact Int32.shiftRight_zero
theorem own_char16 {x : Int32} (h : 0 ≤ x.toInt ∧ x.toInt ≤ 65535) : nar .char x = x := by
  show x.toUInt32.toUInt16.toUInt32.toInt32 = x
  apply Int32.toBitVec_inj.mp
  apply BitVec.eq_of_toNat_eq
  have e : x.toUInt32.toUInt16.toUInt32.toInt32.toBitVec.toNat = x.toUInt32.toUInt16.toUInt32.toNat := rfl
  have hb : x.toBitVec.toNat < 65536 := by
    have h1 : x.toInt = x.toBitVec.toInt := rfl
    rw [h1, BitVec.toInt_eq_toNat_cond] at h
    split at h <;> omega
  rw [e, UInt16.toNat_toUInt32, UInt32.toNat_toUInt16]
  show x.toBitVec.toNat % 2 ^ 16 = _
  omega
theorem own_lt32 {x y : Int32} (h : x.toInt < y.toInt) : x < y := Int32.lt_iff_toInt_lt.mpr h
theorem own_nlt32 {x y : Int32} (h : y.toInt ≤ x.toInt) : ¬ x < y := fun q => by rw [Int32.lt_iff_toInt_lt] at q; omega
def own_Gs (Z : State) (h : Heap) (cs : Int32) (fm dv : Value) : Prop :=
  Sta Z h "java/lang/String" "COMPACT_STRINGS" "Z" (.int cs) ∧ Sta Z h "java/lang/StringUTF16" "$assertionsDisabled" "Z" (.int 1) ∧ Sta Z h "java/lang/StringUTF16" "HI_BYTE_SHIFT" "I" (.int 0) ∧ Sta Z h "java/lang/StringUTF16" "LO_BYTE_SHIFT" "I" (.int 8) ∧
    Sta Z h "jdk/internal/util/Preconditions" "SIOOBE_FORMATTER" "Ljava/util/function/BiFunction;" fm ∧ Sta Z h "java/util/ArrayList" "DEFAULTCAPACITY_EMPTY_ELEMENTDATA" "[Ljava/lang/Object;" dv
section
variable {Z : State} {h h' : Heap} {cs : Int32} {fm dv : Value} {a : Addr} {C : String} {ws : List Addr}
theorem own_Gs.ext (F : own_Gs Z h cs fm dv) (E : Ext h h') : own_Gs Z h' cs fm dv := ⟨F.1.ext E, F.2.1.ext E, F.2.2.1.ext E, F.2.2.2.1.ext E, F.2.2.2.2.1.ext E, F.2.2.2.2.2.ext E⟩
theorem own_Gs.wr {sl : Nat} {v : Value} (F : own_Gs Z h cs fm dv) (W : Wr h h' a sl v) : own_Gs Z h' cs fm dv := ⟨F.1.wr W, F.2.1.wr W, F.2.2.1.wr W, F.2.2.2.1.wr W, F.2.2.2.2.1.wr W, F.2.2.2.2.2.wr W⟩
/-- no cell of statics -/
def own_Ns (h : Heap) (ws : List Addr) : Prop := ∀ x ∈ ws, ∀ cell : Cell, h[x]? = some cell → cell.vm.isStatics = false
theorem own_ns0 : own_Ns h [] := fun _ q => nomatch q
theorem own_nsE (E : Exa Z h a C) (n : own_Ns h ws) : own_Ns h (a :: ws) := fun x hx => (List.mem_cons.mp hx).elim (fun q => q ▸ E.nostat) (n x)
theorem own_nsV {ty : FieldType} {vs : List Value} (V : own_Vec Z h a ty vs) (n : own_Ns h ws) : own_Ns h (a :: ws) := fun x hx => (List.mem_cons.mp hx).elim (fun q => by obtain ⟨c, A, -⟩ := V; exact q ▸ A.nostat) (n x)
theorem own_staK {O n d : String} {v : Value} (F : Sta Z h O n d v) (K : Keep h h' ws) (hn : own_Ns h ws) : Sta Z h' O n d v := by
  obtain ⟨cf, i, k, f, st, cell, h1, h2, h3, h4, h5, h6, r⟩ := F
  exact ⟨cf, i, k, f, st, cell, h1, h2, h3, h4, K.2.1 _ _ h5 (fun q => by have := hn _ q _ h5; rw [h6] at this; cases this), h6, r⟩
theorem own_Gs.keep (F : own_Gs Z h cs fm dv) (K : Keep h h' ws) (hn : own_Ns h ws) : own_Gs Z h' cs fm dv :=
  ⟨own_staK F.1 K hn, own_staK F.2.1 K hn, own_staK F.2.2.1 K hn, own_staK F.2.2.2.1 K hn, own_staK F.2.2.2.2.1 K hn, own_staK F.2.2.2.2.2 K hn⟩
theorem own_Vec.eq {ty : FieldType} {vs vs' : List Value} (V : own_Vec Z h a ty vs) (q : vs = vs') : own_Vec Z h a ty vs' := q ▸ V
end
/-- set at the joint of two lists -/
theorem own_set_mid {α : Type} (l : List α) (x y : α) (r : List α) {i : Nat} (hi : i = l.length) : (l ++ x :: r).set i y = l ++ y :: r := by subst hi; simp
theorem own_get_mid {α : Type} (l : List α) (x : α) (r : List α) {i : Nat} (hi : i = l.length) : (l ++ x :: r)[i]? = some x := by subst hi; simp
theorem own_u16_step (done : List Int32) (cc : Int32) (rem : List Int32) : (((own_u16 done ++ List.replicate (2 * (cc :: rem).length) (Value.int 0)).set (2 * done.length) (.int (own_b cc))).set (2 * done.length + 1) (.int (own_hb cc))) = own_u16 (done ++ [cc]) ++ List.replicate (2 * rem.length) (Value.int 0) := by
  have e : List.replicate (2 * (cc :: rem).length) (Value.int 0) = Value.int 0 :: Value.int 0 :: List.replicate (2 * rem.length) (Value.int 0) := by
    rw [List.length_cons, show 2 * (rem.length + 1) = 2 * rem.length + 1 + 1 by omega, List.replicate_succ, List.replicate_succ]
  rw [e, own_set_mid _ _ _ _ (by rw [own_u16_len])]
  rw [show own_u16 done ++ Value.int (own_b cc) :: Value.int 0 :: List.replicate (2 * rem.length) (Value.int 0) = (own_u16 done ++ [Value.int (own_b cc)]) ++ Value.int 0 :: List.replicate (2 * rem.length) (Value.int 0) by simp]
  rw [own_set_mid _ _ _ _ (by simp [own_u16_len]), own_u16_app]
  simp [own_u16]
theorem own_I.re {A B : Nat} {i j : Int} {x : Int32} (a : own_I A i x) (h : i = j) (hB : j.natAbs ≤ B) : own_I B j x := ⟨a.1.trans h, hB⟩
theorem own_ne_new {Z : State} {h : Heap} {a b : Addr} {ty : FieldType} {vs : List Value} (V : own_Vec Z h a ty vs) (q : h.size ≤ b) : a ≠ b := fun e => by subst e; exact absurd V.lt (Nat.not_lt.mpr q)
theorem own_ne_newE {Z : State} {h : Heap} {a b : Addr} {C : String} (E : Exa Z h a C) (q : h.size ≤ b) : a ≠ b := fun e => by subst e; exact absurd E.lt (Nat.not_lt.mpr q)
theorem own_I.inj {A B : Nat} {i : Int} {x y : Int32} (a : own_I A i x) (b : own_I B i y) : x = y := Int32.toInt_inj.mp (a.1.trans b.1.symm)
theorem own_I.of_eq {A : Nat} {i j : Int} {x : Int32} (a : own_I A i x) (h : i = j) : own_I A j x := h ▸ a
theorem own_l8_step (done : List Int32) (cc : Int32) (rem : List Int32) : ((own_l8 done ++ List.replicate (cc :: rem).length (Value.int 0)).set done.length (.int (own_b cc))) = own_l8 (done ++ [cc]) ++ List.replicate rem.length (Value.int 0) := by
  rw [List.length_cons, List.replicate_succ, own_set_mid _ _ _ _ (by rw [own_l8_len]), own_l8_app]
  simp [own_l8]
theorem own_u16_get {ds : List Int32} {k : Nat} {cc : Int32} (h : ds[k]? = some cc) : (own_u16 ds)[2 * k]? = some (.int (own_b cc)) ∧ (own_u16 ds)[2 * k + 1]? = some (.int (own_hb cc)) := by
  induction ds generalizing k with
  | nil => simp at h
  | cons d r ih =>
    have e : own_u16 (d :: r) = .int (own_b d) :: .int (own_hb d) :: own_u16 r := by simp [own_u16]
    rw [e]
    cases k with
    | zero => simp at h; subst h; simp
    | succ k =>
      have q := ih (k := k) (by simpa using h)
      exact ⟨by rw [show 2 * (k + 1) = 2 * k + 1 + 1 by omega]; simpa using q.1, by rw [show 2 * (k + 1) + 1 = 2 * k + 1 + 1 + 1 by omega]; simpa using q.2⟩
theorem own_and255 (x : Int32) : (x.toInt8.toInt32 &&& 255).toBitVec.toNat = x.toBitVec.toNat % 256 := by
  have e : (x.toInt8.toInt32 &&& 255).toBitVec = (x.toBitVec.setWidth 8).setWidth 32 := by
    apply BitVec.eq_of_getLsbD_eq
    intro i hi
    show ((BitVec.signExtend 32 (x.toBitVec.signExtend 8)) &&& 255#32).getLsbD i = _
    rw [BitVec.getLsbD_and, BitVec.getLsbD_signExtend, BitVec.getLsbD_signExtend, BitVec.getLsbD_setWidth, BitVec.getLsbD_setWidth]
    by_cases h8 : i < 8
    · have h255 : (255#32).getLsbD i = true := by
        have : i = 0 ∨ i = 1 ∨ i = 2 ∨ i = 3 ∨ i = 4 ∨ i = 5 ∨ i = 6 ∨ i = 7 := by omega
        rcases this with rfl | rfl | rfl | rfl | rfl | rfl | rfl | rfl <;> rfl
      simp [hi, h8, h255]
    · have h255 : (255#32).getLsbD i = false := by
        rw [BitVec.getLsbD_ofNat]
        have : Nat.testBit 255 i = false := Nat.testBit_lt_two_pow (Nat.lt_of_lt_of_le (by decide : 255 < 2 ^ 8) (Nat.pow_le_pow_right (by decide) (by omega)))
        simp [this]
      rw [h255]; simp [h8]
  rw [e]; simp; omega
theorem own_gc {cc : Int32} (hc : 255 < cc.toInt) (hc2 : cc.toInt ≤ 65535) {y1 y2 y3 y4 y5 r : Int32} (e1 : own_b cc &&& 255 = y1) (e2 : y1 <<< (0 &&& 31) = y2) (e3 : own_hb cc &&& 255 = y3) (e4 : y3 <<< (8 &&& 31) = y4) (e5 : y2 ||| y4 = y5) (e6 : y5.toUInt32.toUInt16.toUInt32.toInt32 = r) : 255 < r.toInt ∧ nar .char r = r := by
  have hcn : (cc.toInt : Int) = (cc.toBitVec.toNat : Int) := by
    have h1 : cc.toInt = cc.toBitVec.toInt := rfl
    have h2 := cc.toBitVec.isLt
    rw [h1, BitVec.toInt_eq_toNat_cond] at hc ⊢
    split at hc
    · rw [if_pos (by assumption)]
    · omega
  have s1 : (cc >>> (8 &&& 31 : Int32)).toBitVec.toNat = cc.toBitVec.toNat / 256 := by
    have q : (cc >>> (8 &&& 31 : Int32)).toBitVec = cc.toBitVec.sshiftRight 8 := rfl
    have hm : cc.toBitVec.msb = false := by rw [BitVec.msb_eq_decide]; simp; omega
    rw [q, BitVec.sshiftRight_eq_of_msb_false hm, BitVec.toNat_ushiftRight, Nat.shiftRight_eq_div_pow]
  have t3 : y3.toBitVec.toNat = cc.toBitVec.toNat / 256 % 256 := by rw [← e3]; unfold own_hb; rw [own_and255, s1]
  have t1 : y1.toBitVec.toNat = cc.toBitVec.toNat % 256 := by rw [← e1]; unfold own_b; rw [own_and255]
  have t2 : y2 = y1 := by rw [← e2]; have : (0 &&& 31 : Int32) = 0 := by decide
                          rw [this]; exact Int32.shiftLeft_zero
  have t4 : y4.toBitVec.toNat = 256 * (cc.toBitVec.toNat / 256 % 256) := by
    have q : y4.toBitVec = y3.toBitVec <<< 8 := by rw [← e4]; rfl
    rw [q, BitVec.toNat_shiftLeft, Nat.shiftLeft_eq, t3]; omega
  have t5 : y5.toBitVec.toNat = cc.toBitVec.toNat := by
    have q : y5.toBitVec = y2.toBitVec ||| y4.toBitVec := by rw [← e5]; rfl
    rw [q, BitVec.toNat_or, t2, t1, t4, Nat.or_comm, show 256 * (cc.toBitVec.toNat / 256 % 256) = (cc.toBitVec.toNat / 256 % 256) <<< 8 by rw [Nat.shiftLeft_eq]; omega, ← Nat.shiftLeft_add_eq_or_of_lt (by omega), Nat.shiftLeft_eq]
    omega
  have hy : y5 = cc := Int32.toBitVec_inj.mp (BitVec.eq_of_toNat_eq t5)
  have hr := own_char16 (x := cc) ⟨by omega, hc2⟩
  rw [hy] at e6
  have : r = cc := e6.symm.trans hr
  subst this
  exact ⟨hc, hr⟩
theorem own_cod_nar (ds : List Int32) : narrow .byte (.int (own_cod ds)) = .int (own_cod ds) := by unfold own_cod; split <;> rfl
theorem own_cod_fits (ds : List Int32) : fits .byte (.int (own_cod ds)) = true := by unfold own_cod; split <;> rfl
theorem own_cfl_val {A B n mm : Nat} {x y d u r : Int32} (fx : own_I A (n : Int) x) (fy : own_I B (mm : Int) y) (hA : A ≤ 100) (hB : B ≤ 100) (e1 : x - y = d) (e2 : XT.ushr d 31 = u) (e3 : u.toInt8.toInt32 = r) : (mm = n → r = 0) ∧ (n < mm → r = 1) := by
  have fd := own_I.sub fx fy e1 (C := A + B) (Nat.le_refl _) (by omega)
  refine ⟨fun q => ?_, fun q => ?_⟩
  · have : d = 0 := Int32.toInt_inj.mp (by rw [fd.1, q]; simp)
    subst this; rw [← e3, ← e2]; decide
  · have h1 : d.toInt < 0 := by rw [fd.1]; omega
    have hd : 2147483648 ≤ d.toBitVec.toNat := by
      have h2 : d.toInt = d.toBitVec.toInt := rfl
      have h3 := d.toBitVec.isLt
      rw [h2, BitVec.toInt_eq_toNat_cond] at h1
      split at h1 <;> omega
    have hu : u = 1 := by
      rw [← e2]
      apply Int32.toBitVec_inj.mp
      apply BitVec.eq_of_toNat_eq
      have h3 := d.toBitVec.isLt
      have : (XT.ushr d 31).toBitVec = d.toBitVec >>> 31 := rfl
      show (XT.ushr d 31).toBitVec.toNat = 1
      rw [this, BitVec.toNat_ushiftRight, Nat.shiftRight_eq_div_pow]
      omega
    subst hu; rw [← e3]; decide
theorem own_cod_of {ds : List Int32} {r : Int32} (h : ((own_enc ds).length = ds.length → r = 0) ∧ (ds.length < (own_enc ds).length → r = 1)) (hd : 0 < ds.length) : r = own_cod ds := by
  rw [own_enc_len] at h
  unfold own_cod
  by_cases q : own_lat ds = true
  · rw [if_pos q] at h ⊢; exact h.1 rfl
  · rw [if_neg q] at h ⊢; exact h.2 (by omega)
theorem own_lat_snoc {done : List Int32} {cc : Int32} (h : own_lat done = true) (q : ¬ (255 : Int32) < cc) : own_lat (done ++ [cc]) = true := by
  rw [own_lat_app, h]
  rw [Int32.lt_iff_toInt_lt, show (255 : Int32).toInt = 255 by decide] at q
  simp [own_lat]; omega
theorem own_lat_no {ds done rem : List Int32} {cc : Int32} (h : ds = done ++ cc :: rem) (q : (255 : Int32) < cc) : own_lat ds = false := by
  rw [Int32.lt_iff_toInt_lt, show (255 : Int32).toInt = 255 by decide] at q
  rw [h, own_lat_app]
  have : own_lat (cc :: rem) = false := by simp [own_lat]; intro z; omega
  rw [this]; simp
theorem own_mem2 {h' : Heap} {ws : List Addr} {b d : Addr} (q : b ∈ ws ∨ h'.size ≤ b) (q2 : d ∈ ws ∨ h'.size ≤ d) : ∀ x ∈ [b, d], x ∈ ws ∨ h'.size ≤ x := fun x hx => by
  rcases List.mem_cons.mp hx with rfl | hx
  · exact q
  · cases List.mem_singleton.mp hx; exact q2
theorem own_ofNat {B k : Nat} (hk : k ≤ B) (hB : B < 2147483648) : own_I B (k : Int) (Int32.ofNat k) := ⟨Int32.toInt_ofNat_of_lt (by omega), by simpa using hk⟩
/-- a String that spells cs -/
def own_Str (Z : State) (h : Heap) (a : Addr) (cs : List Int32) : Prop :=
  Exa Z h a "java/lang/String" ∧ Fld Z h a "java/lang/String" "coder" "B" (.int (own_cod cs)) ∧ ∃ b, Fld Z h a "java/lang/String" "value" "[B" (.ref b) ∧ own_Vec Z h b .byte (own_enc cs)
theorem own_enc_ints (ds : List Int32) : ∃ es : List Int32, own_enc ds = own_cv es := by
  unfold own_enc
  split
  · exact ⟨ds.map own_b, by simp [own_l8, own_cv]⟩
  · refine ⟨ds.flatMap fun c => [own_b c, own_hb c], ?_⟩
    simp [own_u16, own_cv, List.map_flatMap]
theorem own_declares {Z : State} {a0 : Array Value} {y : MethodName} {b : ByteArray} {ml : Nat} {rt : Option FieldType} (w1 : (Jvm.Cond.instanceMethod y).before a0 Z = true) (w2 : (Jvm.Cond.code y b ml rt).before a0 Z = true) : (Jvm.Cond.declares y).before a0 Z = true := by
  obtain ⟨m, meth, h1, h2, h3, -⟩ := Cond.instanceMethod_spec w1
  obtain ⟨meth', c, g1, -, -, -, -, -, -, hsig⟩ := Cond.code_spec h1 w2
  cases h2.symm.trans g1
  simp [Cond.before, Cond.holds, Cond.value, h1, h2, h3, hsig]
theorem own_same {Z : State} {a0 : Array Value} {C : String} {y z : MethodName} (w1 : (Jvm.Cond.instanceMethod y).before a0 Z = true) (w2 : (Jvm.Cond.selects C z z).before a0 Z = true) (hc : z.cls = y.cls) (hy : y.cls ≠ "java/lang/invoke/MethodHandle" ∧ y.cls ≠ "java/lang/invoke/VarHandle") : (Jvm.Cond.sameMethod y.cls y.cls y.name y.desc).before a0 Z = true := by
  obtain ⟨m, meth, h1, h2, h3, -⟩ := Cond.instanceMethod_spec w1
  obtain ⟨c2, r2, m2, -, -, q3, -, kP, hkP, hkPi⟩ := Cond.selects_spec w2
  have e1 := findClass_of_methodNamed h1
  have e2 := findClass_of_methodNamed q3
  rw [hc] at e2
  have e3 : m.cls = m2.cls := Option.some.inj (e1.symm.trans e2)
  rw [← e3] at hkP
  have hf := State.methodFound?_of_named h1 hy
  simp [Cond.before, Cond.holds, Cond.value, e1, hkP, hkPi, hf, h1]
theorem own_shr0_I {B : Nat} {i : Int} {x v : Int32} (f : own_I B i x) (e : x >>> (0 &&& 31) = v) : own_I B i v := by rw [own_shr0] at e; exact e ▸ f
theorem own_shl0_I {B : Nat} {i : Int} {x v : Int32} (f : own_I B i x) (e : x <<< (0 &&& 31) = v) : own_I B i v := by
  have : (0 &&& 31 : Int32) = 0 := by decide
  rw [this, Int32.shiftLeft_zero] at e; exact e ▸ f
theorem own_shr1_I {B : Nat} {i : Int} {x v : Int32} (f : own_I B (2 * i) x) (e : x >>> (1 &&& 31) = v) : own_I B i v := by
  have q : (x >>> (1 &&& 31 : Int32)).toInt = x.toInt / 2 := by
    have q1 : (x >>> (1 &&& 31 : Int32)).toBitVec = x.toBitVec.sshiftRight 1 := rfl
    show (x >>> (1 &&& 31 : Int32)).toBitVec.toInt = _
    rw [q1, BitVec.toInt_sshiftRight, Int.shiftRight_eq_div_pow]
    rfl
  subst e
  refine ⟨by rw [q, f.1]; omega, by have := f.2; omega⟩
theorem own_or_nn {x y v : Int32} (hx : 0 ≤ x.toInt) (hy : 0 ≤ y.toInt) (e : x ||| y = v) : 0 ≤ v.toInt := by
  subst e
  have nn : ∀ z : Int32, 0 ≤ z.toInt ↔ z.toBitVec.msb = false := fun z => by
    show 0 ≤ z.toBitVec.toInt ↔ _
    rw [BitVec.msb_eq_toInt]; simp
  rw [nn] at hx hy ⊢
  show (x.toBitVec ||| y.toBitVec).msb = false
  rw [BitVec.msb_or, hx, hy]; rfl
theorem own_nlt0 {x : Int32} (h : 0 ≤ x.toInt) : ¬ x < 0 := own_nlt32 (by rw [show (0 : Int32).toInt = 0 by decide]; exact h)
/-- a byte of a Latin-1 char, read without its sign -/
theorem own_b255 {c v : Int32} (h : 0 ≤ c.toInt ∧ c.toInt ≤ 255) (e : own_b c &&& 255 = v) : v = c := by
  subst e
  apply Int32.toBitVec_inj.mp
  apply BitVec.eq_of_toNat_eq
  unfold own_b
  rw [own_and255]
  have h1 : c.toInt = c.toBitVec.toInt := rfl
  rw [h1, BitVec.toInt_eq_toNat_cond] at h
  split at h <;> omega
/-- a StringBuilder of room for 16 chars that spells cs; lat: its bytes are Latin-1 -/
def own_en (lat : Bool) (cs : List Int32) : List Value := if lat then own_l8 cs else own_u16 cs
def own_SB (Z : State) (h : Heap) (a b : Addr) (lat : Bool) (cs : List Int32) : Prop :=
  Exa Z h a "java/lang/StringBuilder" ∧ (∃ n, own_I 16 ((cs.length : Nat) : Int) n ∧ Fld Z h a "java/lang/AbstractStringBuilder" "count" "I" (.int n)) ∧ Fld Z h a "java/lang/AbstractStringBuilder" "coder" "B" (.int (if lat then 0 else 1)) ∧ Fld Z h a "java/lang/AbstractStringBuilder" "value" "[B" (.ref b) ∧ Fld Z h a "java/lang/AbstractStringBuilder" "maybeLatin1" "Z" (.int 0) ∧
    ∃ pad, own_Vec Z h b .byte (own_en lat cs ++ pad) ∧ (own_en lat cs ++ pad).length = (if lat then 16 else 32) ∧ pad.all (fits .byte) = true
theorem own_fit_b (c : Int32) : fits .byte (.int (own_b c)) = true := fits_nar_byte c
theorem own_fit_l8 (cs : List Int32) : (own_l8 cs).all (fits .byte) = true := by
  rw [List.all_eq_true]; intro v hv
  obtain ⟨c, -, rfl⟩ := List.mem_map.mp hv; exact own_fit_b c
theorem own_fit_u16 (cs : List Int32) : (own_u16 cs).all (fits .byte) = true := by
  rw [List.all_eq_true]; intro v hv
  obtain ⟨c, -, hc⟩ := List.mem_flatMap.mp hv
  simp at hc
  rcases hc with rfl | rfl
  · exact own_fit_b c
  · exact fits_nar_byte _
theorem own_all_app {p : Value → Bool} {l r : List Value} (h1 : l.all p = true) (h2 : r.all p = true) : (l ++ r).all p = true := by rw [List.all_append, h1, h2]; rfl
theorem own_all_rep (n : Nat) : (List.replicate n (Value.int 0)).all (fits .byte) = true := by
  rw [List.all_eq_true]; intro v hv; rw [List.eq_of_mem_replicate hv]; rfl
theorem own_two {α : Type} {B : List α} {n : Nat} (h : B.length = 2 * (n + 1)) : ∃ p q B', B = p :: q :: B' := by
  match B, h with
  | [], h => simp at h
  | [_], h => simp at h; omega
  | p :: q :: B', _ => exact ⟨p, q, B', rfl⟩
theorem own_inf_step (A : List Value) (done : List Int32) (cc : Int32) (p0 p1 : Value) (B Cc : List Value) {k : Nat} (hA : A.length = 2 * k) : (((A ++ own_u16 done ++ (p0 :: p1 :: B) ++ Cc).set (2 * (k + done.length)) (.int (own_b cc))).set (2 * (k + done.length) + 1) (.int (own_hb cc))) = A ++ own_u16 (done ++ [cc]) ++ B ++ Cc := by
  have e1 : A ++ own_u16 done ++ (p0 :: p1 :: B) ++ Cc = (A ++ own_u16 done) ++ p0 :: (p1 :: B ++ Cc) := by simp
  rw [e1, own_set_mid _ _ _ _ (by simp [own_u16_len, hA]; omega)]
  have e2 : (A ++ own_u16 done) ++ Value.int (own_b cc) :: (p1 :: B ++ Cc) = (A ++ own_u16 done ++ [Value.int (own_b cc)]) ++ p1 :: (B ++ Cc) := by simp
  rw [e2, own_set_mid _ _ _ _ (by simp [own_u16_len, hA]; omega), own_u16_app]
  simp [own_u16]
theorem own_inf_nil {A B Cc : List Value} {done es : List Int32} (hB : B.length = 2 * ([] : List Int32).length) (hes : es = done ++ []) : A ++ own_u16 done ++ B ++ Cc = A ++ own_u16 es ++ Cc := by
  have hb0 : B = [] := List.eq_nil_of_length_eq_zero (by simpa using hB)
  rw [hes, hb0]; simp
theorem own_lat_all {es : List Int32} (h : own_lat es = true) (hc : own_ch es) : ∀ c ∈ es, 0 ≤ c.toInt ∧ c.toInt ≤ 255 := fun c hm => ⟨(hc c hm).1, by
  have q := List.all_eq_true.mp h c hm; simpa using q⟩
theorem own_all_take {p : Value → Bool} {l : List Value} (h : l.all p = true) (n : Nat) : (l.take n).all p = true := by
  rw [List.all_eq_true] at h ⊢; exact fun x hx => h x (List.mem_of_mem_take hx)
theorem own_all_drop {p : Value → Bool} {l : List Value} (h : l.all p = true) (n : Nat) : (l.drop n).all p = true := by
  rw [List.all_eq_true] at h ⊢; exact fun x hx => h x (List.mem_of_mem_drop hx)
def own_SB2 (Z : State) (h : Heap) (a b : Addr) (lat : Bool) (n : Int32) (cs : List Int32) : Prop :=
  Exa Z h a "java/lang/StringBuilder" ∧ Fld Z h a "java/lang/AbstractStringBuilder" "count" "I" (.int n) ∧ Fld Z h a "java/lang/AbstractStringBuilder" "coder" "B" (.int (if lat then 0 else 1)) ∧ Fld Z h a "java/lang/AbstractStringBuilder" "value" "[B" (.ref b) ∧ Fld Z h a "java/lang/AbstractStringBuilder" "maybeLatin1" "Z" (.int 0) ∧
    ∃ pad, own_Vec Z h b .byte (own_en lat cs ++ pad) ∧ (own_en lat cs ++ pad).length = (if lat then 16 else 32) ∧ pad.all (fits .byte) = true
theorem own_vecne {Z : State} {h : Heap} {a b : Addr} {ty ty' : FieldType} {vs vs' : List Value} (F : own_Vec Z h a ty vs) (G : own_Vec Z h b ty' vs') (hne : vs.length ≠ vs'.length) : a ≠ b := fun q => by
  subst q
  obtain ⟨c1, A1, r1⟩ := F
  obtain ⟨c2, A2, r2⟩ := G
  cases A1.1.symm.trans A2.1
  exact hne (by have := congrArg Array.size (r1.symm.trans r2); simpa using this)
theorem own_exavec {Z : State} {h : Heap} {a0 : Array Value} {x b : Addr} {C : String} {n : Nat} {ty : FieldType} {vs : List Value} (E : Exa Z h x C) (F : own_Vec Z h b ty vs) (w : (Jvm.Cond.instantiable C n).before a0 Z = true) : x ≠ b := fun q => by
  subst q
  obtain ⟨c1, k1, e1, f1, g1, -⟩ := E
  obtain ⟨c2, ⟨e2, hA, -⟩, -⟩ := F
  cases e1.symm.trans e2
  obtain ⟨cI, kI, hfI, hkI, hkindI, -⟩ := Cond.instantiable_spec w
  cases f1.symm.trans hfI
  cases g1.symm.trans hkI
  obtain ⟨-, k2, hk2, comp, hkind⟩ := hA
  cases g1.symm.trans hk2
  rw [hkindI] at hkind; cases hkind
theorem own_set_mid2 {α : Type} (l : List α) (w x y : α) (r : List α) {i : Nat} (hi : i = l.length) : (l ++ w :: x :: r).set (i + 1) y = l ++ w :: y :: r := by
  rw [show l ++ w :: x :: r = (l ++ [w]) ++ x :: r by simp, own_set_mid _ _ _ _ (by simp [hi])]; simp
theorem own_nref {t : FieldType} {v : Value} (h : v.isRef = true) : narrow (.array t) v = v := by cases v <;> first | rfl | (exact absurd h (by simp [Value.isRef]))
theorem own_fref {t : FieldType} {v : Value} (h : v.isRef = true) : fits (.array t) v = true := by cases v <;> first | rfl | (exact absurd h (by simp [Value.isRef]))
end OwnStr
theorem own_d_jdk_52_method_3_code_0 : decode jdk_52_method_3_code 0 = .ok (.iload_n 0, 1) := by decide +kernel
theorem own_d_jdk_52_method_3_code_1 : decode jdk_52_method_3_code 1 = .ok (.ifCond .ge 11, 3) := by decide +kernel
theorem own_d_jdk_52_method_3_code_4 : decode jdk_52_method_3_code 4 = .ok (.new 17, 3) := by decide +kernel
theorem own_d_jdk_52_method_3_code_7 : decode jdk_52_method_3_code 7 = .ok (.dup, 1) := by decide +kernel
theorem own_d_jdk_52_method_3_code_8 : decode jdk_52_method_3_code 8 = .ok (.invokespecial 19, 3) := by decide +kernel
theorem own_d_jdk_52_method_3_code_11 : decode jdk_52_method_3_code 11 = .ok (.athrow, 1) := by decide +kernel
theorem own_d_jdk_52_method_3_code_12 : decode jdk_52_method_3_code 12 = .ok (.iload_n 0, 1) := by decide +kernel
theorem own_d_jdk_52_method_3_code_13 : decode jdk_52_method_3_code 13 = .ok (.ldc 20, 2) := by decide +kernel
theorem own_d_jdk_52_method_3_code_15 : decode jdk_52_method_3_code 15 = .ok (.if_icmp .lt 40, 3) := by decide +kernel
theorem own_d_jdk_52_method_3_code_18 : decode jdk_52_method_3_code 18 = .ok (.new 21, 3) := by decide +kernel
theorem own_d_jdk_52_method_3_code_21 : decode jdk_52_method_3_code 21 = .ok (.dup, 1) := by decide +kernel
theorem own_d_jdk_52_method_3_code_22 : decode jdk_52_method_3_code 22 = .ok (.new 23, 3) := by decide +kernel
theorem own_d_jdk_52_method_3_code_25 : decode jdk_52_method_3_code 25 = .ok (.dup, 1) := by decide +kernel
theorem own_d_jdk_52_method_3_code_26 : decode jdk_52_method_3_code 26 = .ok (.invokespecial 25, 3) := by decide +kernel
theorem own_d_jdk_52_method_3_code_29 : decode jdk_52_method_3_code 29 = .ok (.ldc 26, 2) := by decide +kernel
theorem own_d_jdk_52_method_3_code_31 : decode jdk_52_method_3_code 31 = .ok (.invokevirtual 28, 3) := by decide +kernel
theorem own_d_jdk_52_method_3_code_34 : decode jdk_52_method_3_code 34 = .ok (.iload_n 0, 1) := by decide +kernel
theorem own_d_jdk_52_method_3_code_35 : decode jdk_52_method_3_code 35 = .ok (.invokevirtual 32, 3) := by decide +kernel
theorem own_d_jdk_52_method_3_code_38 : decode jdk_52_method_3_code 38 = .ok (.ldc 35, 2) := by decide +kernel
theorem own_d_jdk_52_method_3_code_40 : decode jdk_52_method_3_code 40 = .ok (.invokevirtual 28, 3) := by decide +kernel
theorem own_d_jdk_52_method_3_code_43 : decode jdk_52_method_3_code 43 = .ok (.ldc 20, 2) := by decide +kernel
theorem own_d_jdk_52_method_3_code_45 : decode jdk_52_method_3_code 45 = .ok (.invokevirtual 32, 3) := by decide +kernel
theorem own_d_jdk_52_method_3_code_48 : decode jdk_52_method_3_code 48 = .ok (.invokevirtual 37, 3) := by decide +kernel
theorem own_d_jdk_52_method_3_code_51 : decode jdk_52_method_3_code 51 = .ok (.invokespecial 41, 3) := by decide +kernel
theorem own_d_jdk_52_method_3_code_54 : decode jdk_52_method_3_code 54 = .ok (.athrow, 1) := by decide +kernel
theorem own_d_jdk_52_method_3_code_55 : decode jdk_52_method_3_code 55 = .ok (.iload_n 0, 1) := by decide +kernel
theorem own_d_jdk_52_method_3_code_56 : decode jdk_52_method_3_code 56 = .ok (.iconst 1, 1) := by decide +kernel
theorem own_d_jdk_52_method_3_code_57 : decode jdk_52_method_3_code 57 = .ok (.ishl, 1) := by decide +kernel
theorem own_d_jdk_52_method_3_code_58 : decode jdk_52_method_3_code 58 = .ok (.ireturn, 1) := by decide +kernel
theorem own_pd0 : parseMethodDescriptor "(I)I" = some ⟨[.int], some .int⟩ := by decide +kernel
theorem own_pn0 : plainName "java/lang/StringUTF16" = true := by first | (simp [plainName, overriddenIn]; done) | decide +kernel
abbrev own_rm_own_nbl : Room := ({ frames := 0, cells := 0, slots := 0, locals := 0 } : Room)
set_option maxRecDepth 65536 in
set_option maxHeartbeats 40000000 in
theorem own_nbl (l : Launch) (Z : State) (a0 : Array Value) (hw : ∀ d ∈ tables_1, d.before a0 Z = true) (x0 : Int32) (k : Nat) (h0 : Heap) (n0 : Nat) (Z0 : n0 ≤ h0.size) (f_x0 : own_I 16 (k : Int) x0) :
    own_Met l Z ({ cls := "java/lang/StringUTF16", name := "newBytesLength", desc := "(I)I" } : Jvm.MethodName) jdk_52_method_3_code 1 (some .int) [] own_rm_own_nbl #[(.int x0)] h0 n0 (fun v h => (∃ r, v = some (.int r) ∧ own_I 32 (2 * (k : Int)) r) ∧ h = h0) := by
  have ww := fun (i : Nat) {d : Jvm.Cond} (q : tables_1[i]? = some d) => hw d (List.mem_of_getElem? q)
  refine own_meet (plainFor_of_name own_pn0) Z0 (Ls0 := #[oI x0]) (by intro m; first | (simp [entryFrame, mkF, argsToLocals, Value.category]; done) | rfl) ?_
  intro p e s m below meth c T0 X0
  refine own_iloadN X0 rfl own_d_jdk_52_method_3_code_0 (pc' := 1) rfl ?_
  have c1 : ¬ (x0 < 0) := (own_idx f_x0 (k := k) rfl).2
  refine own_ifT X0 (own_z_nlt c1).2 own_d_jdk_52_method_3_code_1 (pc' := 12) (by decide) (by decide) ?_
  refine own_iloadN X0 rfl own_d_jdk_52_method_3_code_12 (pc' := 13) rfl ?_
  refine own_ldcI X0 (v := (1073741823 : Int32)) (ww 299 rfl) own_d_jdk_52_method_3_code_13 (pc' := 15) rfl ?_
  have c2 : x0 < (1073741823 : Int32) := own_lt32 (by rw [f_x0.1, show (1073741823 : Int32).toInt = 1073741823 by decide]; have := f_x0.2; omega)
  refine own_icmpT X0 (own_i_lt c2).1 own_d_jdk_52_method_3_code_15 (pc' := 55) (by decide) (by decide) ?_
  refine own_iloadN X0 rfl own_d_jdk_52_method_3_code_55 (pc' := 56) rfl ?_
  refine own_iconst X0 (v := (1 : Int32)) (by decide) own_d_jdk_52_method_3_code_56 (pc' := 57) rfl ?_
  obtain ⟨i3, e3⟩ : ∃ v, x0 <<< ((1 : Int32) &&& 31) = v := ⟨_, rfl⟩
  refine own_ishl X0 e3 own_d_jdk_52_method_3_code_57 (pc' := 58) rfl ?_
  have f3 := own_I.shl1 (C := 32) f_x0 e3 (by decide) (by decide)
  exact own_retI X0  own_d_jdk_52_method_3_code_58 rfl (by decide) (by decide) ⟨⟨_, rfl, f3⟩, rfl⟩
theorem own_d_jdk_52_method_2_code_0 : decode jdk_52_method_2_code 0 = .ok (.iload_n 0, 1) := by decide +kernel
theorem own_d_jdk_52_method_2_code_1 : decode jdk_52_method_2_code 1 = .ok (.invokestatic 11, 3) := by decide +kernel
theorem own_d_jdk_52_method_2_code_4 : decode jdk_52_method_2_code 4 = .ok (.newarray .byte, 2) := by decide +kernel
theorem own_d_jdk_52_method_2_code_6 : decode jdk_52_method_2_code 6 = .ok (.areturn, 1) := by decide +kernel
theorem own_pd1 : parseMethodDescriptor "(I)[B" = some ⟨[.int], some (.array .byte)⟩ := by decide +kernel
abbrev own_rm_own_nbf : Room := ({ frames := 1, cells := 1, slots := 32, locals := 12 } : Room)
set_option maxRecDepth 65536 in
set_option maxHeartbeats 40000000 in
theorem own_nbf (l : Launch) (Z : State) (a0 : Array Value) (hw : ∀ d ∈ tables_1, d.before a0 Z = true) (x0 : Int32) (k : Nat) (h0 : Heap) (n0 : Nat) (Z0 : n0 ≤ h0.size) (f_x0 : own_I 16 (k : Int) x0) :
    own_Met l Z ({ cls := "java/lang/StringUTF16", name := "newBytesFor", desc := "(I)[B" } : Jvm.MethodName) jdk_52_method_2_code 1 (some (.array .byte)) [] own_rm_own_nbf #[(.int x0)] h0 n0 (fun v h => ∃ b, v = some (.ref b) ∧ own_Vec Z h b .byte (List.replicate (2 * k) (.int 0)) ∧ h0.size ≤ b ∧ Keep h0 h []) := by
  have ww := fun (i : Nat) {d : Jvm.Cond} (q : tables_1[i]? = some d) => hw d (List.mem_of_getElem? q)
  refine own_meet (plainFor_of_name own_pn0) Z0 (Ls0 := #[oI x0]) (by intro m; first | (simp [entryFrame, mkF, argsToLocals, Value.category]; done) | rfl) ?_
  intro p e s m below meth c T0 X0
  have K0 := Keep.refl h0 []
  refine own_iloadN X0 rfl own_d_jdk_52_method_2_code_0 (pc' := 1) rfl ?_
  refine own_callS X0 (own_nbl l Z a0 hw x0 k _ n0 X0.le f_x0) (ww 296 rfl) (ww 297 rfl) (ww 22 rfl) (ww 298 rfl) (by decide) rfl (by decide) (W := 0) (Nat.le_of_eq rfl) (by decide) (cells' := 0) (slots' := 0) rfl rfl (by decide) (by decide) (argsL := [(.int x0)]) (rest := []) (lenOf own_pd0 rfl) rfl rfl own_d_jdk_52_method_2_code_1 (pc' := 4) rfl ?_
  rintro _ T4 h4 X4 ⟨⟨r4, rfl, fr4⟩, e4⟩
  subst e4
  show own_Goal p e below _ T4 (mkF m 4 #[oI x0] [(.int r4)])
  have ix6 := own_idx fr4 (k := 2 * k) (by omega)
  refine own_newarrayC X4 (ty := .byte) rfl (ww 24 rfl) (n := 2 * k) (cap := 32) ix6.1 ix6.2 (by have := f_x0.2; omega) (by decide) (cells' := 1) (slots' := 32) rfl rfl (by decide) (by decide) own_d_jdk_52_method_2_code_4 (pc' := 6) rfl fun a5 T5 h5 g5 ge5 X5 E5 V5 => ?_
  have sz7 := own_ge K0 g5
  have K8 := K0.ext E5
  exact own_retA X5 (t := (.array .byte)) rfl own_d_jdk_52_method_2_code_6 rfl (by decide) (by decide) ⟨_, rfl, V5, sz7, K8⟩
theorem own_d_jdk_52_method_4_code_0 : decode jdk_52_method_4_code 0 = .ok (.getstatic 44, 3) := by decide +kernel
theorem own_d_jdk_52_method_4_code_3 : decode jdk_52_method_4_code 3 = .ok (.ifCond .ne 25, 3) := by decide +kernel
theorem own_d_jdk_52_method_4_code_6 : decode jdk_52_method_4_code 6 = .ok (.iload_n 1, 1) := by decide +kernel
theorem own_d_jdk_52_method_4_code_7 : decode jdk_52_method_4_code 7 = .ok (.ifCond .lt 11, 3) := by decide +kernel
theorem own_d_jdk_52_method_4_code_10 : decode jdk_52_method_4_code 10 = .ok (.iload_n 1, 1) := by decide +kernel
theorem own_d_jdk_52_method_4_code_11 : decode jdk_52_method_4_code 11 = .ok (.aload_n 0, 1) := by decide +kernel
theorem own_d_jdk_52_method_4_code_12 : decode jdk_52_method_4_code 12 = .ok (.invokestatic 48, 3) := by decide +kernel
theorem own_d_jdk_52_method_4_code_15 : decode jdk_52_method_4_code 15 = .ok (.if_icmp .lt 13, 3) := by decide +kernel
theorem own_d_jdk_52_method_4_code_18 : decode jdk_52_method_4_code 18 = .ok (.new 52, 3) := by decide +kernel
theorem own_d_jdk_52_method_4_code_21 : decode jdk_52_method_4_code 21 = .ok (.dup, 1) := by decide +kernel
theorem own_d_jdk_52_method_4_code_22 : decode jdk_52_method_4_code 22 = .ok (.ldc 54, 2) := by decide +kernel
theorem own_d_jdk_52_method_4_code_24 : decode jdk_52_method_4_code 24 = .ok (.invokespecial 56, 3) := by decide +kernel
theorem own_d_jdk_52_method_4_code_27 : decode jdk_52_method_4_code 27 = .ok (.athrow, 1) := by decide +kernel
theorem own_d_jdk_52_method_4_code_28 : decode jdk_52_method_4_code 28 = .ok (.iload_n 1, 1) := by decide +kernel
theorem own_d_jdk_52_method_4_code_29 : decode jdk_52_method_4_code 29 = .ok (.iconst 1, 1) := by decide +kernel
theorem own_d_jdk_52_method_4_code_30 : decode jdk_52_method_4_code 30 = .ok (.ishl, 1) := by decide +kernel
theorem own_d_jdk_52_method_4_code_31 : decode jdk_52_method_4_code 31 = .ok (.istore_n 1, 1) := by decide +kernel
theorem own_d_jdk_52_method_4_code_32 : decode jdk_52_method_4_code 32 = .ok (.aload_n 0, 1) := by decide +kernel
theorem own_d_jdk_52_method_4_code_33 : decode jdk_52_method_4_code 33 = .ok (.iload_n 1, 1) := by decide +kernel
theorem own_d_jdk_52_method_4_code_34 : decode jdk_52_method_4_code 34 = .ok (.iinc 1 1, 3) := by decide +kernel
theorem own_d_jdk_52_method_4_code_37 : decode jdk_52_method_4_code 37 = .ok (.iload_n 2, 1) := by decide +kernel
theorem own_d_jdk_52_method_4_code_38 : decode jdk_52_method_4_code 38 = .ok (.getstatic 59, 3) := by decide +kernel
theorem own_d_jdk_52_method_4_code_41 : decode jdk_52_method_4_code 41 = .ok (.ishr, 1) := by decide +kernel
theorem own_d_jdk_52_method_4_code_42 : decode jdk_52_method_4_code 42 = .ok (.i2b, 1) := by decide +kernel
theorem own_d_jdk_52_method_4_code_43 : decode jdk_52_method_4_code 43 = .ok (.bastore, 1) := by decide +kernel
theorem own_d_jdk_52_method_4_code_44 : decode jdk_52_method_4_code 44 = .ok (.aload_n 0, 1) := by decide +kernel
theorem own_d_jdk_52_method_4_code_45 : decode jdk_52_method_4_code 45 = .ok (.iload_n 1, 1) := by decide +kernel
theorem own_d_jdk_52_method_4_code_46 : decode jdk_52_method_4_code 46 = .ok (.iload_n 2, 1) := by decide +kernel
theorem own_d_jdk_52_method_4_code_47 : decode jdk_52_method_4_code 47 = .ok (.getstatic 63, 3) := by decide +kernel
theorem own_d_jdk_52_method_4_code_50 : decode jdk_52_method_4_code 50 = .ok (.ishr, 1) := by decide +kernel
theorem own_d_jdk_52_method_4_code_51 : decode jdk_52_method_4_code 51 = .ok (.i2b, 1) := by decide +kernel
theorem own_d_jdk_52_method_4_code_52 : decode jdk_52_method_4_code 52 = .ok (.bastore, 1) := by decide +kernel
theorem own_d_jdk_52_method_4_code_53 : decode jdk_52_method_4_code 53 = .ok (.return_, 1) := by decide +kernel
theorem own_pd2 : parseMethodDescriptor "([BII)V" = some ⟨[(.array .byte), .int, .int], none⟩ := by decide +kernel
abbrev own_rm_own_pc : Room := ({ frames := 0, cells := 0, slots := 0, locals := 0 } : Room)
set_option maxRecDepth 65536 in
set_option maxHeartbeats 40000000 in
theorem own_pc (l : Launch) (Z : State) (a0 : Array Value) (hw : ∀ d ∈ tables_1, d.before a0 Z = true) (a1 : Addr) (x0 cc : Int32) (k : Nat) (vs : List Value) (h0 : Heap) (n0 : Nat) (Z0 : n0 ≤ h0.size) (ge1 : n0 ≤ a1) (V1 : own_Vec Z h0 a1 .byte vs) (hk : 2 * k + 1 < vs.length) (f_x0 : own_I 16 (k : Int) x0) (cs : Int32) (fm dv : Value) (G0 : own_Gs Z h0 cs fm dv) (hcs : ¬ cs = 0) (hfm : fm.isRef = true) (hdv : dv.isRef = true) :
    own_Met l Z ({ cls := "java/lang/StringUTF16", name := "putChar", desc := "([BII)V" } : Jvm.MethodName) jdk_52_method_4_code 3 none [] own_rm_own_pc #[(.ref a1), (.int x0), (.int cc)] h0 n0 (fun v h => v = none ∧ own_Vec Z h a1 .byte ((vs.set (2 * k) (.int (own_b cc))).set (2 * k + 1) (.int (own_hb cc))) ∧ Keep h0 h [a1]) := by
  have ww := fun (i : Nat) {d : Jvm.Cond} (q : tables_1[i]? = some d) => hw d (List.mem_of_getElem? q)
  refine own_meet (plainFor_of_name own_pn0) Z0 (Ls0 := #[oA a1, oI x0, oI cc]) (by intro m; first | (simp [entryFrame, mkF, argsToLocals, Value.category]; done) | rfl) ?_
  intro p e s m below meth c T0 X0
  have K0 := Keep.refl h0 [a1]
  refine own_getS X0 (ww 303 rfl) G0.2.1 own_d_jdk_52_method_4_code_0 (pc' := 3) rfl fun T9 X9 => ?_
  refine own_ifT X9 (by decide) own_d_jdk_52_method_4_code_3 (pc' := 28) (by decide) (by decide) ?_
  refine own_iloadN X9 rfl own_d_jdk_52_method_4_code_28 (pc' := 29) rfl ?_
  refine own_iconst X9 (v := (1 : Int32)) (by decide) own_d_jdk_52_method_4_code_29 (pc' := 30) rfl ?_
  obtain ⟨i10, e10⟩ : ∃ v, x0 <<< ((1 : Int32) &&& 31) = v := ⟨_, rfl⟩
  refine own_ishl X9 e10 own_d_jdk_52_method_4_code_30 (pc' := 31) rfl ?_
  have f10 := own_I.shl1 (C := 32) f_x0 e10 (by decide) (by decide)
  refine own_istoreN X9 (Ls' := #[oA a1, oI i10, oI cc]) rfl own_d_jdk_52_method_4_code_31 (pc' := 32) rfl ?_
  refine own_aloadN X9 rfl rfl own_d_jdk_52_method_4_code_32 (pc' := 33) rfl ?_
  refine own_iloadN X9 rfl own_d_jdk_52_method_4_code_33 (pc' := 34) rfl ?_
  obtain ⟨i11, e11⟩ : ∃ v, i10 + Int32.ofInt 1 = v := ⟨_, rfl⟩
  have f11 : own_I 33 ((2 * ((k : Nat) : Int)) + 1) i11 := f10.add (own_I.lit (x := Int32.ofInt 1) (i := 1) (B := 1) (by decide) (by decide)) e11 (by decide) (by decide)
  refine own_iinc X9 (Ls' := #[oA a1, oI i11, oI cc]) rfl e11 rfl own_d_jdk_52_method_4_code_34 (pc' := 37) rfl ?_
  refine own_iloadN X9 rfl own_d_jdk_52_method_4_code_37 (pc' := 38) rfl ?_
  refine own_getS X9 (ww 304 rfl) G0.2.2.1 own_d_jdk_52_method_4_code_38 (pc' := 41) rfl fun T12 X12 => ?_
  obtain ⟨i13, e13⟩ : ∃ v, cc >>> ((0 : Int32) &&& 31) = v := ⟨_, rfl⟩
  refine own_ishr X12 e13 own_d_jdk_52_method_4_code_41 (pc' := 42) rfl ?_
  obtain ⟨i14, e14⟩ : ∃ v, i13.toInt8.toInt32 = v := ⟨_, rfl⟩
  refine own_i2b X12 e14 own_d_jdk_52_method_4_code_42 (pc' := 43) rfl ?_
  have ix16 := own_idx f10 (k := 2 * k) (by omega)
  refine own_bastore X12 V1 ge1 (y := own_b cc) (by rw [← e14, ← e13, own_shr0]; exact own_nar_b _) (i := 2 * k) ix16.1 ix16.2 (by (try simp only [List.length_set]); omega) own_d_jdk_52_method_4_code_43 (pc' := 44) rfl fun T15 h15 X15 W15 V15 => ?_
  have S17 := G0.wr W15
  have K18 := K0.wr W15 (Or.inl (by simp))
  replace V15 := V15.eq (vs' := (vs.set (2 * k) (.int (own_b cc)))) rfl
  refine own_aloadN X15 rfl rfl own_d_jdk_52_method_4_code_44 (pc' := 45) rfl ?_
  refine own_iloadN X15 rfl own_d_jdk_52_method_4_code_45 (pc' := 46) rfl ?_
  refine own_iloadN X15 rfl own_d_jdk_52_method_4_code_46 (pc' := 47) rfl ?_
  refine own_getS X15 (ww 305 rfl) S17.2.2.2.1 own_d_jdk_52_method_4_code_47 (pc' := 50) rfl fun T19 X19 => ?_
  obtain ⟨i20, e20⟩ : ∃ v, cc >>> ((8 : Int32) &&& 31) = v := ⟨_, rfl⟩
  refine own_ishr X19 e20 own_d_jdk_52_method_4_code_50 (pc' := 51) rfl ?_
  obtain ⟨i21, e21⟩ : ∃ v, i20.toInt8.toInt32 = v := ⟨_, rfl⟩
  refine own_i2b X19 e21 own_d_jdk_52_method_4_code_51 (pc' := 52) rfl ?_
  have ix23 := own_idx f11 (k := 2 * k + 1) (by omega)
  refine own_bastore X19 V15 ge1 (y := own_hb cc) (by rw [← e21, ← e20]; exact own_nar_b _) (i := 2 * k + 1) ix23.1 ix23.2 (by (try simp only [List.length_set]); omega) own_d_jdk_52_method_4_code_52 (pc' := 53) rfl fun T22 h22 X22 W22 V22 => ?_
  have S24 := S17.wr W22
  have K25 := K18.wr W22 (Or.inl (by simp))
  replace V22 := V22.eq (vs' := ((vs.set (2 * k) (.int (own_b cc))).set (2 * k + 1) (.int (own_hb cc)))) rfl
  exact own_retV X22  own_d_jdk_52_method_4_code_53 rfl (by decide) (by decide) ⟨rfl, V22, K25⟩
abbrev own_rm_own_tb : Room := ({ frames := 2, cells := 1, slots := 32, locals := 32 } : Room)
theorem own_d_jdk_52_method_14_code_0 : decode jdk_52_method_14_code 0 = .ok (.iload_n 2, 1) := by decide +kernel
theorem own_d_jdk_52_method_14_code_1 : decode jdk_52_method_14_code 1 = .ok (.invokestatic 107, 3) := by decide +kernel
theorem own_d_jdk_52_method_14_code_4 : decode jdk_52_method_14_code 4 = .ok (.astore_n 3, 1) := by decide +kernel
theorem own_d_jdk_52_method_14_code_5 : decode jdk_52_method_14_code 5 = .ok (.iconst 0, 1) := by decide +kernel
theorem own_d_jdk_52_method_14_code_6 : decode jdk_52_method_14_code 6 = .ok (.istore 4, 2) := by decide +kernel
theorem own_d_jdk_52_method_14_code_8 : decode jdk_52_method_14_code 8 = .ok (.iload 4, 2) := by decide +kernel
theorem own_d_jdk_52_method_14_code_10 : decode jdk_52_method_14_code 10 = .ok (.iload_n 2, 1) := by decide +kernel
theorem own_d_jdk_52_method_14_code_11 : decode jdk_52_method_14_code 11 = .ok (.if_icmp .ge 21, 3) := by decide +kernel
theorem own_d_jdk_52_method_14_code_14 : decode jdk_52_method_14_code 14 = .ok (.aload_n 3, 1) := by decide +kernel
theorem own_d_jdk_52_method_14_code_15 : decode jdk_52_method_14_code 15 = .ok (.iload 4, 2) := by decide +kernel
theorem own_d_jdk_52_method_14_code_17 : decode jdk_52_method_14_code 17 = .ok (.aload_n 0, 1) := by decide +kernel
theorem own_d_jdk_52_method_14_code_18 : decode jdk_52_method_14_code 18 = .ok (.iload_n 1, 1) := by decide +kernel
theorem own_d_jdk_52_method_14_code_19 : decode jdk_52_method_14_code 19 = .ok (.caload, 1) := by decide +kernel
theorem own_d_jdk_52_method_14_code_20 : decode jdk_52_method_14_code 20 = .ok (.invokestatic 111, 3) := by decide +kernel
theorem own_d_jdk_52_method_14_code_23 : decode jdk_52_method_14_code 23 = .ok (.iinc 1 1, 3) := by decide +kernel
theorem own_d_jdk_52_method_14_code_26 : decode jdk_52_method_14_code 26 = .ok (.iinc 4 1, 3) := by decide +kernel
theorem own_d_jdk_52_method_14_code_29 : decode jdk_52_method_14_code 29 = .ok (.goto (-21), 3) := by decide +kernel
theorem own_d_jdk_52_method_14_code_32 : decode jdk_52_method_14_code 32 = .ok (.aload_n 3, 1) := by decide +kernel
theorem own_d_jdk_52_method_14_code_33 : decode jdk_52_method_14_code 33 = .ok (.areturn, 1) := by decide +kernel
theorem own_pd3 : parseMethodDescriptor "([CII)[B" = some ⟨[(.array .char), .int, .int], some (.array .byte)⟩ := by decide +kernel
set_option maxRecDepth 65536 in
set_option maxHeartbeats 40000000 in
theorem own_tb_loop (l : Launch) (Z : State) (a0 : Array Value) (hw : ∀ d ∈ tables_1, d.before a0 Z = true) (a2 a3 : Addr) (nn : Int32) (ds : List Int32) (cs : Int32) (fm dv : Value) (hcs : ¬ cs = 0) (hfm : fm.isRef = true) (hdv : dv.isRef = true) (h0 : Heap) (n0 : Nat) {p : Program} {e : Env} {s : State} {m : MethodId} {below : List Frame} {meth : Method} {c : Code} {args : Array Value} :
    ∀ (rem : List Int32) (done : List Int32) (x : Int32) (T0 : State) (hL : Heap), own_St p l e own_rm_own_tb s m args below meth c Z "java/lang/StringUTF16" jdk_52_method_14_code 5 (some (.array .byte)) "toBytes" n0 T0 hL 1 32 → ds = done ++ rem → own_I 16 ((done.length : Nat) : Int) x → own_I 16 ((ds.length : Nat) : Int) nn → own_Vec Z hL a2 .char (own_cv ds) → own_Vec Z hL a3 .byte (own_u16 done ++ List.replicate (2 * rem.length) (Value.int 0)) → n0 ≤ a3 → h0.size ≤ a3 → a2 ≠ a3 → Keep h0 hL [] → own_Gs Z hL cs fm dv → own_Goal p e below (own_Fin below s own_rm_own_tb n0 (fun v h => ∃ b, v = some (.ref b) ∧ own_Vec Z h b .byte (own_u16 ds) ∧ h0.size ≤ b ∧ Keep h0 h [])) T0 (mkF m 8 #[oA a2, oI x, oI nn, oA a3, oI x] []) := by
  have ww := fun (i : Nat) {d : Jvm.Cond} (q : tables_1[i]? = some d) => hw d (List.mem_of_getElem? q)
  intro rem
  induction rem with
  | nil =>
    intro done x T0 hL X0 hds f_x f_nn V1 V2 ge3 sz3 N1 K0 G0
    refine own_iload X0 rfl own_d_jdk_52_method_14_code_8 (pc' := 10) rfl ?_
    refine own_iloadN X0 rfl own_d_jdk_52_method_14_code_10 (pc' := 11) rfl ?_
    have c26 : ¬ (x < nn) := own_nlt32 (by rw [f_x.1, f_nn.1, hds]; simp)
    refine own_icmpT X0 (own_i_nlt c26).2 own_d_jdk_52_method_14_code_11 (pc' := 32) (by decide) (by decide) ?_
    refine own_aloadN X0 rfl rfl own_d_jdk_52_method_14_code_32 (pc' := 33) rfl ?_
    exact own_retA X0 (t := (.array .byte)) rfl own_d_jdk_52_method_14_code_33 rfl (by decide) (by decide) ⟨_, rfl, V2.eq (by rw [hds]; simp), sz3, K0⟩
  | cons cc rem ih =>
    intro done x T0 hL X0 hds f_x f_nn V1 V2 ge3 sz3 N1 K0 G0
    refine own_iload X0 rfl own_d_jdk_52_method_14_code_8 (pc' := 10) rfl ?_
    refine own_iloadN X0 rfl own_d_jdk_52_method_14_code_10 (pc' := 11) rfl ?_
    have c27 : x < nn := own_lt32 (by rw [f_x.1, f_nn.1, hds]; simp; omega)
    refine own_icmpF X0 (own_i_lt c27).2 own_d_jdk_52_method_14_code_11 (pc' := 14) rfl ?_
    refine own_aloadN X0 rfl rfl own_d_jdk_52_method_14_code_14 (pc' := 15) rfl ?_
    refine own_iload X0 rfl own_d_jdk_52_method_14_code_15 (pc' := 17) rfl ?_
    refine own_aloadN X0 rfl rfl own_d_jdk_52_method_14_code_17 (pc' := 18) rfl ?_
    refine own_iloadN X0 rfl own_d_jdk_52_method_14_code_18 (pc' := 19) rfl ?_
    have ix28 := own_idx f_x (k := done.length) (by omega)
    refine own_caload X0 V1 (i := done.length) ix28.1 ix28.2 (v := .int cc) (by rw [hds]; simp [own_cv]) own_d_jdk_52_method_14_code_19 (pc' := 20) rfl ?_
    refine own_callS X0 (own_pc l Z a0 hw a3 x cc done.length _ _ n0 X0.le ge3 V2 (by simp [own_u16_len]; omega) f_x cs fm dv G0 hcs hfm hdv) (ww 300 rfl) (ww 301 rfl) (ww 22 rfl) (ww 302 rfl) (by decide) rfl (by decide) (W := 0) (Nat.le_of_eq rfl) (by decide) (cells' := 1) (slots' := 32) rfl rfl (by decide) (by decide) (argsL := [(.ref a3), (.int x), (.int cc)]) (rest := []) (lenOf own_pd2 rfl) rfl rfl own_d_jdk_52_method_14_code_20 (pc' := 23) rfl ?_
    rintro _ T29 h29 X29 ⟨rfl, V29, K29⟩
    have S30 := G0.keep K29 (own_nsV V2 own_ns0)
    have V31 := V1.keep K29 (ninS N1 nin0)
    have K32 := K0.trans K29 (own_mem1 (Or.inr sz3))
    show own_Goal p e below _ T29 (mkF m 23 #[oA a2, oI x, oI nn, oA a3, oI x] [])
    obtain ⟨i33, e33⟩ : ∃ v, x + Int32.ofInt 1 = v := ⟨_, rfl⟩
    have f33 : own_I 17 (((done.length : Nat) : Int) + 1) i33 := f_x.add (own_I.lit (x := Int32.ofInt 1) (i := 1) (B := 1) (by decide) (by decide)) e33 (by decide) (by decide)
    refine own_iinc X29 (Ls' := #[oA a2, oI i33, oI nn, oA a3, oI x]) rfl e33 rfl own_d_jdk_52_method_14_code_23 (pc' := 26) rfl ?_
    obtain ⟨i34, e34⟩ : ∃ v, x + Int32.ofInt 1 = v := ⟨_, rfl⟩
    have f34 : own_I 17 (((done.length : Nat) : Int) + 1) i34 := f_x.add (own_I.lit (x := Int32.ofInt 1) (i := 1) (B := 1) (by decide) (by decide)) e34 (by decide) (by decide)
    refine own_iinc X29 (Ls' := #[oA a2, oI i33, oI nn, oA a3, oI i34]) rfl e34 rfl own_d_jdk_52_method_14_code_26 (pc' := 29) rfl ?_
    refine own_goto X29 own_d_jdk_52_method_14_code_29 (pc' := 8) (by decide) (by decide) ?_
    subst e33 e34
    exact ih (done ++ [cc]) _ _ _ X29 (by rw [hds]; simp) (f33.re (by simp) (by have := f_nn.2; rw [hds] at this; simp at this ⊢; omega)) f_nn V31 (V29.eq (own_u16_step done cc rem)) ge3 sz3 N1 K32 S30
set_option maxRecDepth 65536 in
set_option maxHeartbeats 40000000 in
theorem own_tb (l : Launch) (Z : State) (a0 : Array Value) (hw : ∀ d ∈ tables_1, d.before a0 Z = true) (a2 : Addr) (nn : Int32) (ds : List Int32) (h0 : Heap) (n0 : Nat) (Z0 : n0 ≤ h0.size) (V1 : own_Vec Z h0 a2 .char (own_cv ds)) (f_nn : own_I 16 ((ds.length : Nat) : Int) nn) (cs : Int32) (fm dv : Value) (G0 : own_Gs Z h0 cs fm dv) (hcs : ¬ cs = 0) (hfm : fm.isRef = true) (hdv : dv.isRef = true) :
    own_Met l Z ({ cls := "java/lang/StringUTF16", name := "toBytes", desc := "([CII)[B" } : Jvm.MethodName) jdk_52_method_14_code 5 (some (.array .byte)) [] own_rm_own_tb #[(.ref a2), (.int (0 : Int32)), (.int nn)] h0 n0 (fun v h => ∃ b, v = some (.ref b) ∧ own_Vec Z h b .byte (own_u16 ds) ∧ h0.size ≤ b ∧ Keep h0 h []) := by
  have ww := fun (i : Nat) {d : Jvm.Cond} (q : tables_1[i]? = some d) => hw d (List.mem_of_getElem? q)
  refine own_meet (plainFor_of_name own_pn0) Z0 (Ls0 := #[oA a2, oI 0, oI nn, oU, oU]) (by intro m; first | (simp [entryFrame, mkF, argsToLocals, Value.category]; done) | rfl) ?_
  intro p e s m below meth c T0 X0
  have K0 := Keep.refl h0 []
  refine own_iloadN X0 rfl own_d_jdk_52_method_14_code_0 (pc' := 1) rfl ?_
  refine own_callS X0 (own_nbf l Z a0 hw nn ds.length _ n0 X0.le f_nn) (ww 293 rfl) (ww 294 rfl) (ww 22 rfl) (ww 295 rfl) (by decide) rfl (by decide) (W := 0) (Nat.le_of_eq rfl) (by decide) (cells' := 1) (slots' := 32) rfl rfl (by decide) (by decide) (argsL := [(.int nn)]) (rest := []) (lenOf own_pd1 rfl) rfl rfl own_d_jdk_52_method_14_code_1 (pc' := 4) rfl ?_
  rintro _ T35 h35 X35 ⟨b35, rfl, V35, sz35, K35⟩
  have S36 := G0.keep K35 own_ns0
  have V37 := V1.keep K35 nin0
  have K38 := K0.trans K35 own_mem0
  have ne35 : a2 ≠ b35 := own_ne_new V1 sz35
  show own_Goal p e below _ T35 (mkF m 4 #[oA a2, oI 0, oI nn, oU, oU] [(.ref b35)])
  refine own_astoreN X35 (Ls' := #[oA a2, oI 0, oI nn, oA b35, oU]) rfl rfl own_d_jdk_52_method_14_code_4 (pc' := 5) rfl ?_
  refine own_iconst X35 (v := (0 : Int32)) (by decide) own_d_jdk_52_method_14_code_5 (pc' := 6) rfl ?_
  refine own_istore X35 (Ls' := #[oA a2, oI 0, oI nn, oA b35, oI 0]) rfl own_d_jdk_52_method_14_code_6 (pc' := 8) rfl ?_
  exact own_tb_loop l Z a0 hw a2 b35 nn ds cs fm dv hcs hfm hdv h0 n0 ds [] _ _ _ X35 rfl (own_I.lit (by decide) (by decide)) f_nn V37 (V35.eq (by simp [own_u16])) (Nat.le_trans Z0 sz35) sz35 ne35 K38 S36
abbrev own_rm_own_c2 : Room := ({ frames := 0, cells := 0, slots := 0, locals := 0 } : Room)
theorem own_d_jdk_52_method_21_code_0 : decode jdk_52_method_21_code 0 = .ok (.iconst 0, 1) := by decide +kernel
theorem own_d_jdk_52_method_21_code_1 : decode jdk_52_method_21_code 1 = .ok (.istore 5, 2) := by decide +kernel
theorem own_d_jdk_52_method_21_code_3 : decode jdk_52_method_21_code 3 = .ok (.iload 5, 2) := by decide +kernel
theorem own_d_jdk_52_method_21_code_5 : decode jdk_52_method_21_code 5 = .ok (.iload 4, 2) := by decide +kernel
theorem own_d_jdk_52_method_21_code_7 : decode jdk_52_method_21_code 7 = .ok (.if_icmp .ge 37, 3) := by decide +kernel
theorem own_d_jdk_52_method_21_code_10 : decode jdk_52_method_21_code 10 = .ok (.aload_n 0, 1) := by decide +kernel
theorem own_d_jdk_52_method_21_code_11 : decode jdk_52_method_21_code 11 = .ok (.iload_n 1, 1) := by decide +kernel
theorem own_d_jdk_52_method_21_code_12 : decode jdk_52_method_21_code 12 = .ok (.caload, 1) := by decide +kernel
theorem own_d_jdk_52_method_21_code_13 : decode jdk_52_method_21_code 13 = .ok (.istore 6, 2) := by decide +kernel
theorem own_d_jdk_52_method_21_code_15 : decode jdk_52_method_21_code 15 = .ok (.iload 6, 2) := by decide +kernel
theorem own_d_jdk_52_method_21_code_17 : decode jdk_52_method_21_code 17 = .ok (.sipush 255, 3) := by decide +kernel
theorem own_d_jdk_52_method_21_code_20 : decode jdk_52_method_21_code 20 = .ok (.if_icmp .le 6, 3) := by decide +kernel
theorem own_d_jdk_52_method_21_code_23 : decode jdk_52_method_21_code 23 = .ok (.iload 5, 2) := by decide +kernel
theorem own_d_jdk_52_method_21_code_25 : decode jdk_52_method_21_code 25 = .ok (.ireturn, 1) := by decide +kernel
theorem own_d_jdk_52_method_21_code_26 : decode jdk_52_method_21_code 26 = .ok (.aload_n 2, 1) := by decide +kernel
theorem own_d_jdk_52_method_21_code_27 : decode jdk_52_method_21_code 27 = .ok (.iload_n 3, 1) := by decide +kernel
theorem own_d_jdk_52_method_21_code_28 : decode jdk_52_method_21_code 28 = .ok (.iload 6, 2) := by decide +kernel
theorem own_d_jdk_52_method_21_code_30 : decode jdk_52_method_21_code 30 = .ok (.i2b, 1) := by decide +kernel
theorem own_d_jdk_52_method_21_code_31 : decode jdk_52_method_21_code 31 = .ok (.bastore, 1) := by decide +kernel
theorem own_d_jdk_52_method_21_code_32 : decode jdk_52_method_21_code 32 = .ok (.iinc 1 1, 3) := by decide +kernel
theorem own_d_jdk_52_method_21_code_35 : decode jdk_52_method_21_code 35 = .ok (.iinc 3 1, 3) := by decide +kernel
theorem own_d_jdk_52_method_21_code_38 : decode jdk_52_method_21_code 38 = .ok (.iinc 5 1, 3) := by decide +kernel
theorem own_d_jdk_52_method_21_code_41 : decode jdk_52_method_21_code 41 = .ok (.goto (-38), 3) := by decide +kernel
theorem own_d_jdk_52_method_21_code_44 : decode jdk_52_method_21_code 44 = .ok (.iload 4, 2) := by decide +kernel
theorem own_d_jdk_52_method_21_code_46 : decode jdk_52_method_21_code 46 = .ok (.ireturn, 1) := by decide +kernel
theorem own_pd4 : parseMethodDescriptor "([CI[BII)I" = some ⟨[(.array .char), .int, (.array .byte), .int, .int], some .int⟩ := by decide +kernel
set_option maxRecDepth 65536 in
set_option maxHeartbeats 40000000 in
theorem own_c2_loop (l : Launch) (Z : State) (a0 : Array Value) (hw : ∀ d ∈ tables_1, d.before a0 Z = true) (a2 a3 : Addr) (nn : Int32) (ds : List Int32) (h0 : Heap) (n0 : Nat) {p : Program} {e : Env} {s : State} {m : MethodId} {below : List Frame} {meth : Method} {c : Code} {args : Array Value} :
    ∀ (rem : List Int32) (done : List Int32) (x : Int32) (u : Slot) (T0 : State) (hL : Heap), own_St p l e own_rm_own_c2 s m args below meth c Z "java/lang/StringUTF16" jdk_52_method_21_code 7 (some .int) "compress" n0 T0 hL 0 0 → ds = done ++ rem → own_lat done = true → own_I 16 ((done.length : Nat) : Int) x → own_I 16 ((ds.length : Nat) : Int) nn → own_Vec Z hL a2 .char (own_cv ds) → own_Vec Z hL a3 .byte (own_l8 done ++ List.replicate rem.length (Value.int 0)) → n0 ≤ a3 → a2 ≠ a3 → Keep h0 hL [a3] → (u = oU ∨ ∃ z, u = oI z) → own_Goal p e below (own_Fin below s own_rm_own_c2 n0 (fun v h => ∃ kk, v = some (.int kk) ∧ Keep h0 h [a3] ∧ ((own_lat ds = true ∧ kk = nn ∧ own_Vec Z h a3 .byte (own_l8 ds)) ∨ (own_lat ds = false ∧ ∃ (k : Nat) (cc : Int32), own_I 16 (k : Int) kk ∧ k < ds.length ∧ ds[k]? = some cc ∧ 255 < cc.toInt)))) T0 (mkF m 3 #[oA a2, oI x, oA a3, oI x, oI nn, oI x, u] []) := by
  have ww := fun (i : Nat) {d : Jvm.Cond} (q : tables_1[i]? = some d) => hw d (List.mem_of_getElem? q)
  intro rem
  induction rem with
  | nil =>
    intro done x u T0 hL X0 hds hlat f_x f_nn V1 V2 ge3 N1 K0 hu
    rcases hu with rfl | ⟨z, rfl⟩
    · -- slot
      refine own_iload X0 rfl own_d_jdk_52_method_21_code_3 (pc' := 5) rfl ?_
      refine own_iload X0 rfl own_d_jdk_52_method_21_code_5 (pc' := 7) rfl ?_
      have c39 : ¬ (x < nn) := own_nlt32 (by rw [f_x.1, f_nn.1, hds]; simp)
      refine own_icmpT X0 (own_i_nlt c39).2 own_d_jdk_52_method_21_code_7 (pc' := 44) (by decide) (by decide) ?_
      refine own_iload X0 rfl own_d_jdk_52_method_21_code_44 (pc' := 46) rfl ?_
      exact own_retI X0  own_d_jdk_52_method_21_code_46 rfl (by decide) (by decide) ⟨_, rfl, K0, Or.inl ⟨by rw [hds]; simpa using hlat, rfl, V2.eq (by rw [hds]; simp)⟩⟩
    · -- slot
      refine own_iload X0 rfl own_d_jdk_52_method_21_code_3 (pc' := 5) rfl ?_
      refine own_iload X0 rfl own_d_jdk_52_method_21_code_5 (pc' := 7) rfl ?_
      have c40 : ¬ (x < nn) := own_nlt32 (by rw [f_x.1, f_nn.1, hds]; simp)
      refine own_icmpT X0 (own_i_nlt c40).2 own_d_jdk_52_method_21_code_7 (pc' := 44) (by decide) (by decide) ?_
      refine own_iload X0 rfl own_d_jdk_52_method_21_code_44 (pc' := 46) rfl ?_
      exact own_retI X0  own_d_jdk_52_method_21_code_46 rfl (by decide) (by decide) ⟨_, rfl, K0, Or.inl ⟨by rw [hds]; simpa using hlat, rfl, V2.eq (by rw [hds]; simp)⟩⟩
  | cons cc rem ih =>
    intro done x u T0 hL X0 hds hlat f_x f_nn V1 V2 ge3 N1 K0 hu
    rcases hu with rfl | ⟨z, rfl⟩
    · -- slot
      refine own_iload X0 rfl own_d_jdk_52_method_21_code_3 (pc' := 5) rfl ?_
      refine own_iload X0 rfl own_d_jdk_52_method_21_code_5 (pc' := 7) rfl ?_
      have c41 : x < nn := own_lt32 (by rw [f_x.1, f_nn.1, hds]; simp; omega)
      refine own_icmpF X0 (own_i_lt c41).2 own_d_jdk_52_method_21_code_7 (pc' := 10) rfl ?_
      refine own_aloadN X0 rfl rfl own_d_jdk_52_method_21_code_10 (pc' := 11) rfl ?_
      refine own_iloadN X0 rfl own_d_jdk_52_method_21_code_11 (pc' := 12) rfl ?_
      have ix42 := own_idx f_x (k := done.length) (by omega)
      refine own_caload X0 V1 (i := done.length) ix42.1 ix42.2 (v := .int cc) (by rw [hds]; simp [own_cv]) own_d_jdk_52_method_21_code_12 (pc' := 13) rfl ?_
      refine own_istore X0 (Ls' := #[oA a2, oI x, oA a3, oI x, oI nn, oI x, oI cc]) rfl own_d_jdk_52_method_21_code_13 (pc' := 15) rfl ?_
      refine own_iload X0 rfl own_d_jdk_52_method_21_code_15 (pc' := 17) rfl ?_
      refine own_sipush X0 (v := (255 : Int32)) (by decide) own_d_jdk_52_method_21_code_17 (pc' := 20) rfl ?_
      by_cases c43 : (255 : Int32) < cc
      · -- yes c43
        refine own_icmpF X0 (own_i_gt c43).2 own_d_jdk_52_method_21_code_20 (pc' := 23) rfl ?_
        refine own_iload X0 rfl own_d_jdk_52_method_21_code_23 (pc' := 25) rfl ?_
        exact own_retI X0  own_d_jdk_52_method_21_code_25 rfl (by decide) (by decide) ⟨_, rfl, K0, Or.inr ⟨own_lat_no hds c43, _, cc, f_x, (by rw [hds]; simp), (by rw [hds]; simp), (by have q := Int32.lt_iff_toInt_lt.mp c43; simpa using q)⟩⟩
      · -- no c43
        refine own_icmpT X0 (own_i_ngt c43).2 own_d_jdk_52_method_21_code_20 (pc' := 26) (by decide) (by decide) ?_
        refine own_aloadN X0 rfl rfl own_d_jdk_52_method_21_code_26 (pc' := 27) rfl ?_
        refine own_iloadN X0 rfl own_d_jdk_52_method_21_code_27 (pc' := 28) rfl ?_
        refine own_iload X0 rfl own_d_jdk_52_method_21_code_28 (pc' := 30) rfl ?_
        obtain ⟨i44, e44⟩ : ∃ v, cc.toInt8.toInt32 = v := ⟨_, rfl⟩
        refine own_i2b X0 e44 own_d_jdk_52_method_21_code_30 (pc' := 31) rfl ?_
        have ix46 := own_idx f_x (k := done.length) (by omega)
        refine own_bastore X0 V2 ge3 (y := own_b cc) (by rw [← e44]; exact own_nar_b _) (i := done.length) ix46.1 ix46.2 (by simp [own_l8_len]) own_d_jdk_52_method_21_code_31 (pc' := 32) rfl fun T45 h45 X45 W45 V45 => ?_
        have V47 := V1.other W45 N1
        have K48 := K0.wr W45 (Or.inl (by simp))
        replace V45 := V45.eq (vs' := (own_l8 (done ++ [cc]) ++ List.replicate rem.length (Value.int 0))) (own_l8_step done cc rem)
        obtain ⟨i49, e49⟩ : ∃ v, x + Int32.ofInt 1 = v := ⟨_, rfl⟩
        have f49 : own_I 17 (((done.length : Nat) : Int) + 1) i49 := f_x.add (own_I.lit (x := Int32.ofInt 1) (i := 1) (B := 1) (by decide) (by decide)) e49 (by decide) (by decide)
        refine own_iinc X45 (Ls' := #[oA a2, oI i49, oA a3, oI x, oI nn, oI x, oI cc]) rfl e49 rfl own_d_jdk_52_method_21_code_32 (pc' := 35) rfl ?_
        obtain ⟨i50, e50⟩ : ∃ v, x + Int32.ofInt 1 = v := ⟨_, rfl⟩
        have f50 : own_I 17 (((done.length : Nat) : Int) + 1) i50 := f_x.add (own_I.lit (x := Int32.ofInt 1) (i := 1) (B := 1) (by decide) (by decide)) e50 (by decide) (by decide)
        refine own_iinc X45 (Ls' := #[oA a2, oI i49, oA a3, oI i50, oI nn, oI x, oI cc]) rfl e50 rfl own_d_jdk_52_method_21_code_35 (pc' := 38) rfl ?_
        obtain ⟨i51, e51⟩ : ∃ v, x + Int32.ofInt 1 = v := ⟨_, rfl⟩
        have f51 : own_I 17 (((done.length : Nat) : Int) + 1) i51 := f_x.add (own_I.lit (x := Int32.ofInt 1) (i := 1) (B := 1) (by decide) (by decide)) e51 (by decide) (by decide)
        refine own_iinc X45 (Ls' := #[oA a2, oI i49, oA a3, oI i50, oI nn, oI i51, oI cc]) rfl e51 rfl own_d_jdk_52_method_21_code_38 (pc' := 41) rfl ?_
        refine own_goto X45 own_d_jdk_52_method_21_code_41 (pc' := 3) (by decide) (by decide) ?_
        subst e49 e50 e51
        exact ih (done ++ [cc]) _ _ _ _ X45 (by rw [hds]; simp) (own_lat_snoc hlat c43) (f49.re (by simp) (by have := f_nn.2; rw [hds] at this; simp at this ⊢; omega)) f_nn V47 V45 ge3 N1 K48 (Or.inr ⟨_, rfl⟩)
    · -- slot
      refine own_iload X0 rfl own_d_jdk_52_method_21_code_3 (pc' := 5) rfl ?_
      refine own_iload X0 rfl own_d_jdk_52_method_21_code_5 (pc' := 7) rfl ?_
      have c52 : x < nn := own_lt32 (by rw [f_x.1, f_nn.1, hds]; simp; omega)
      refine own_icmpF X0 (own_i_lt c52).2 own_d_jdk_52_method_21_code_7 (pc' := 10) rfl ?_
      refine own_aloadN X0 rfl rfl own_d_jdk_52_method_21_code_10 (pc' := 11) rfl ?_
      refine own_iloadN X0 rfl own_d_jdk_52_method_21_code_11 (pc' := 12) rfl ?_
      have ix53 := own_idx f_x (k := done.length) (by omega)
      refine own_caload X0 V1 (i := done.length) ix53.1 ix53.2 (v := .int cc) (by rw [hds]; simp [own_cv]) own_d_jdk_52_method_21_code_12 (pc' := 13) rfl ?_
      refine own_istore X0 (Ls' := #[oA a2, oI x, oA a3, oI x, oI nn, oI x, oI cc]) rfl own_d_jdk_52_method_21_code_13 (pc' := 15) rfl ?_
      refine own_iload X0 rfl own_d_jdk_52_method_21_code_15 (pc' := 17) rfl ?_
      refine own_sipush X0 (v := (255 : Int32)) (by decide) own_d_jdk_52_method_21_code_17 (pc' := 20) rfl ?_
      by_cases c54 : (255 : Int32) < cc
      · -- yes c54
        refine own_icmpF X0 (own_i_gt c54).2 own_d_jdk_52_method_21_code_20 (pc' := 23) rfl ?_
        refine own_iload X0 rfl own_d_jdk_52_method_21_code_23 (pc' := 25) rfl ?_
        exact own_retI X0  own_d_jdk_52_method_21_code_25 rfl (by decide) (by decide) ⟨_, rfl, K0, Or.inr ⟨own_lat_no hds c54, _, cc, f_x, (by rw [hds]; simp), (by rw [hds]; simp), (by have q := Int32.lt_iff_toInt_lt.mp c54; simpa using q)⟩⟩
      · -- no c54
        refine own_icmpT X0 (own_i_ngt c54).2 own_d_jdk_52_method_21_code_20 (pc' := 26) (by decide) (by decide) ?_
        refine own_aloadN X0 rfl rfl own_d_jdk_52_method_21_code_26 (pc' := 27) rfl ?_
        refine own_iloadN X0 rfl own_d_jdk_52_method_21_code_27 (pc' := 28) rfl ?_
        refine own_iload X0 rfl own_d_jdk_52_method_21_code_28 (pc' := 30) rfl ?_
        obtain ⟨i55, e55⟩ : ∃ v, cc.toInt8.toInt32 = v := ⟨_, rfl⟩
        refine own_i2b X0 e55 own_d_jdk_52_method_21_code_30 (pc' := 31) rfl ?_
        have ix57 := own_idx f_x (k := done.length) (by omega)
        refine own_bastore X0 V2 ge3 (y := own_b cc) (by rw [← e55]; exact own_nar_b _) (i := done.length) ix57.1 ix57.2 (by simp [own_l8_len]) own_d_jdk_52_method_21_code_31 (pc' := 32) rfl fun T56 h56 X56 W56 V56 => ?_
        have V58 := V1.other W56 N1
        have K59 := K0.wr W56 (Or.inl (by simp))
        replace V56 := V56.eq (vs' := (own_l8 (done ++ [cc]) ++ List.replicate rem.length (Value.int 0))) (own_l8_step done cc rem)
        obtain ⟨i60, e60⟩ : ∃ v, x + Int32.ofInt 1 = v := ⟨_, rfl⟩
        have f60 : own_I 17 (((done.length : Nat) : Int) + 1) i60 := f_x.add (own_I.lit (x := Int32.ofInt 1) (i := 1) (B := 1) (by decide) (by decide)) e60 (by decide) (by decide)
        refine own_iinc X56 (Ls' := #[oA a2, oI i60, oA a3, oI x, oI nn, oI x, oI cc]) rfl e60 rfl own_d_jdk_52_method_21_code_32 (pc' := 35) rfl ?_
        obtain ⟨i61, e61⟩ : ∃ v, x + Int32.ofInt 1 = v := ⟨_, rfl⟩
        have f61 : own_I 17 (((done.length : Nat) : Int) + 1) i61 := f_x.add (own_I.lit (x := Int32.ofInt 1) (i := 1) (B := 1) (by decide) (by decide)) e61 (by decide) (by decide)
        refine own_iinc X56 (Ls' := #[oA a2, oI i60, oA a3, oI i61, oI nn, oI x, oI cc]) rfl e61 rfl own_d_jdk_52_method_21_code_35 (pc' := 38) rfl ?_
        obtain ⟨i62, e62⟩ : ∃ v, x + Int32.ofInt 1 = v := ⟨_, rfl⟩
        have f62 : own_I 17 (((done.length : Nat) : Int) + 1) i62 := f_x.add (own_I.lit (x := Int32.ofInt 1) (i := 1) (B := 1) (by decide) (by decide)) e62 (by decide) (by decide)
        refine own_iinc X56 (Ls' := #[oA a2, oI i60, oA a3, oI i61, oI nn, oI i62, oI cc]) rfl e62 rfl own_d_jdk_52_method_21_code_38 (pc' := 41) rfl ?_
        refine own_goto X56 own_d_jdk_52_method_21_code_41 (pc' := 3) (by decide) (by decide) ?_
        subst e60 e61 e62
        exact ih (done ++ [cc]) _ _ _ _ X56 (by rw [hds]; simp) (own_lat_snoc hlat c54) (f60.re (by simp) (by have := f_nn.2; rw [hds] at this; simp at this ⊢; omega)) f_nn V58 V56 ge3 N1 K59 (Or.inr ⟨_, rfl⟩)
set_option maxRecDepth 65536 in
set_option maxHeartbeats 40000000 in
theorem own_c2 (l : Launch) (Z : State) (a0 : Array Value) (hw : ∀ d ∈ tables_1, d.before a0 Z = true) (a2 a3 : Addr) (nn : Int32) (ds : List Int32) (h0 : Heap) (n0 : Nat) (Z0 : n0 ≤ h0.size) (f_nn : own_I 16 ((ds.length : Nat) : Int) nn) (ge3 : n0 ≤ a3) (V1 : own_Vec Z h0 a2 .char (own_cv ds)) (V2 : own_Vec Z h0 a3 .byte (List.replicate ds.length (Value.int 0))) (N1 : a2 ≠ a3) :
    own_Met l Z ({ cls := "java/lang/StringUTF16", name := "compress", desc := "([CI[BII)I" } : Jvm.MethodName) jdk_52_method_21_code 7 (some .int) [] own_rm_own_c2 #[(.ref a2), (.int (0 : Int32)), (.ref a3), (.int (0 : Int32)), (.int nn)] h0 n0 (fun v h => ∃ kk, v = some (.int kk) ∧ Keep h0 h [a3] ∧ ((own_lat ds = true ∧ kk = nn ∧ own_Vec Z h a3 .byte (own_l8 ds)) ∨ (own_lat ds = false ∧ ∃ (k : Nat) (cc : Int32), own_I 16 (k : Int) kk ∧ k < ds.length ∧ ds[k]? = some cc ∧ 255 < cc.toInt))) := by
  have ww := fun (i : Nat) {d : Jvm.Cond} (q : tables_1[i]? = some d) => hw d (List.mem_of_getElem? q)
  refine own_meet (plainFor_of_name own_pn0) Z0 (Ls0 := #[oA a2, oI 0, oA a3, oI 0, oI nn, oU, oU]) (by intro m; first | (simp [entryFrame, mkF, argsToLocals, Value.category]; done) | rfl) ?_
  intro p e s m below meth c T0 X0
  refine own_iconst X0 (v := (0 : Int32)) (by decide) own_d_jdk_52_method_21_code_0 (pc' := 1) rfl ?_
  refine own_istore X0 (Ls' := #[oA a2, oI 0, oA a3, oI 0, oI nn, oI 0, oU]) rfl own_d_jdk_52_method_21_code_1 (pc' := 3) rfl ?_
  exact own_c2_loop l Z a0 hw a2 a3 nn ds h0 n0 ds [] _ _ _ _ X0 rfl rfl (own_I.lit (by decide) (by decide)) f_nn V1 (V2.eq (by simp [own_l8])) ge3 N1 (Keep.refl h0 [a3]) (Or.inl rfl)
theorem own_d_jdk_52_method_5_code_0 : decode jdk_52_method_5_code 0 = .ok (.getstatic 44, 3) := by decide +kernel
theorem own_d_jdk_52_method_5_code_3 : decode jdk_52_method_5_code 3 = .ok (.ifCond .ne 25, 3) := by decide +kernel
theorem own_d_jdk_52_method_5_code_6 : decode jdk_52_method_5_code 6 = .ok (.iload_n 1, 1) := by decide +kernel
theorem own_d_jdk_52_method_5_code_7 : decode jdk_52_method_5_code 7 = .ok (.ifCond .lt 11, 3) := by decide +kernel
theorem own_d_jdk_52_method_5_code_10 : decode jdk_52_method_5_code 10 = .ok (.iload_n 1, 1) := by decide +kernel
theorem own_d_jdk_52_method_5_code_11 : decode jdk_52_method_5_code 11 = .ok (.aload_n 0, 1) := by decide +kernel
theorem own_d_jdk_52_method_5_code_12 : decode jdk_52_method_5_code 12 = .ok (.invokestatic 48, 3) := by decide +kernel
theorem own_d_jdk_52_method_5_code_15 : decode jdk_52_method_5_code 15 = .ok (.if_icmp .lt 13, 3) := by decide +kernel
theorem own_d_jdk_52_method_5_code_18 : decode jdk_52_method_5_code 18 = .ok (.new 52, 3) := by decide +kernel
theorem own_d_jdk_52_method_5_code_21 : decode jdk_52_method_5_code 21 = .ok (.dup, 1) := by decide +kernel
theorem own_d_jdk_52_method_5_code_22 : decode jdk_52_method_5_code 22 = .ok (.ldc 54, 2) := by decide +kernel
theorem own_d_jdk_52_method_5_code_24 : decode jdk_52_method_5_code 24 = .ok (.invokespecial 56, 3) := by decide +kernel
theorem own_d_jdk_52_method_5_code_27 : decode jdk_52_method_5_code 27 = .ok (.athrow, 1) := by decide +kernel
theorem own_d_jdk_52_method_5_code_28 : decode jdk_52_method_5_code 28 = .ok (.iload_n 1, 1) := by decide +kernel
theorem own_d_jdk_52_method_5_code_29 : decode jdk_52_method_5_code 29 = .ok (.iconst 1, 1) := by decide +kernel
theorem own_d_jdk_52_method_5_code_30 : decode jdk_52_method_5_code 30 = .ok (.ishl, 1) := by decide +kernel
theorem own_d_jdk_52_method_5_code_31 : decode jdk_52_method_5_code 31 = .ok (.istore_n 1, 1) := by decide +kernel
theorem own_d_jdk_52_method_5_code_32 : decode jdk_52_method_5_code 32 = .ok (.aload_n 0, 1) := by decide +kernel
theorem own_d_jdk_52_method_5_code_33 : decode jdk_52_method_5_code 33 = .ok (.iload_n 1, 1) := by decide +kernel
theorem own_d_jdk_52_method_5_code_34 : decode jdk_52_method_5_code 34 = .ok (.iinc 1 1, 3) := by decide +kernel
theorem own_d_jdk_52_method_5_code_37 : decode jdk_52_method_5_code 37 = .ok (.baload, 1) := by decide +kernel
theorem own_d_jdk_52_method_5_code_38 : decode jdk_52_method_5_code 38 = .ok (.sipush 255, 3) := by decide +kernel
theorem own_d_jdk_52_method_5_code_41 : decode jdk_52_method_5_code 41 = .ok (.iand, 1) := by decide +kernel
theorem own_d_jdk_52_method_5_code_42 : decode jdk_52_method_5_code 42 = .ok (.getstatic 59, 3) := by decide +kernel
theorem own_d_jdk_52_method_5_code_45 : decode jdk_52_method_5_code 45 = .ok (.ishl, 1) := by decide +kernel
theorem own_d_jdk_52_method_5_code_46 : decode jdk_52_method_5_code 46 = .ok (.aload_n 0, 1) := by decide +kernel
theorem own_d_jdk_52_method_5_code_47 : decode jdk_52_method_5_code 47 = .ok (.iload_n 1, 1) := by decide +kernel
theorem own_d_jdk_52_method_5_code_48 : decode jdk_52_method_5_code 48 = .ok (.baload, 1) := by decide +kernel
theorem own_d_jdk_52_method_5_code_49 : decode jdk_52_method_5_code 49 = .ok (.sipush 255, 3) := by decide +kernel
theorem own_d_jdk_52_method_5_code_52 : decode jdk_52_method_5_code 52 = .ok (.iand, 1) := by decide +kernel
theorem own_d_jdk_52_method_5_code_53 : decode jdk_52_method_5_code 53 = .ok (.getstatic 63, 3) := by decide +kernel
theorem own_d_jdk_52_method_5_code_56 : decode jdk_52_method_5_code 56 = .ok (.ishl, 1) := by decide +kernel
theorem own_d_jdk_52_method_5_code_57 : decode jdk_52_method_5_code 57 = .ok (.ior, 1) := by decide +kernel
theorem own_d_jdk_52_method_5_code_58 : decode jdk_52_method_5_code 58 = .ok (.i2c, 1) := by decide +kernel
theorem own_d_jdk_52_method_5_code_59 : decode jdk_52_method_5_code 59 = .ok (.ireturn, 1) := by decide +kernel
theorem own_pd5 : parseMethodDescriptor "([BI)C" = some ⟨[(.array .byte), .int], some .char⟩ := by decide +kernel
abbrev own_rm_own_gch : Room := ({ frames := 0, cells := 0, slots := 0, locals := 0 } : Room)
set_option maxRecDepth 65536 in
set_option maxHeartbeats 40000000 in
theorem own_gch (l : Launch) (Z : State) (a0 : Array Value) (hw : ∀ d ∈ tables_1, d.before a0 Z = true) (a1 : Addr) (x0 cc : Int32) (k : Nat) (vs : List Value) (h0 : Heap) (n0 : Nat) (Z0 : n0 ≤ h0.size) (V1 : own_Vec Z h0 a1 .byte vs) (hg1 : vs[2 * k]? = some (.int (own_b cc))) (hg2 : vs[2 * k + 1]? = some (.int (own_hb cc))) (hc1 : 255 < cc.toInt) (hc2 : cc.toInt ≤ 65535) (f_x0 : own_I 16 (k : Int) x0) (cs : Int32) (fm dv : Value) (G0 : own_Gs Z h0 cs fm dv) (hcs : ¬ cs = 0) (hfm : fm.isRef = true) (hdv : dv.isRef = true) :
    own_Met l Z ({ cls := "java/lang/StringUTF16", name := "getChar", desc := "([BI)C" } : Jvm.MethodName) jdk_52_method_5_code 2 (some .char) [] own_rm_own_gch #[(.ref a1), (.int x0)] h0 n0 (fun v h => (∃ r, v = some (.int r) ∧ 255 < r.toInt) ∧ h = h0) := by
  have ww := fun (i : Nat) {d : Jvm.Cond} (q : tables_1[i]? = some d) => hw d (List.mem_of_getElem? q)
  refine own_meet (plainFor_of_name own_pn0) Z0 (Ls0 := #[oA a1, oI x0]) (by intro m; first | (simp [entryFrame, mkF, argsToLocals, Value.category]; done) | rfl) ?_
  intro p e s m below meth c T0 X0
  have K0 := Keep.refl h0 []
  refine own_getS X0 (ww 303 rfl) G0.2.1 own_d_jdk_52_method_5_code_0 (pc' := 3) rfl fun T63 X63 => ?_
  refine own_ifT X63 (by decide) own_d_jdk_52_method_5_code_3 (pc' := 28) (by decide) (by decide) ?_
  refine own_iloadN X63 rfl own_d_jdk_52_method_5_code_28 (pc' := 29) rfl ?_
  refine own_iconst X63 (v := (1 : Int32)) (by decide) own_d_jdk_52_method_5_code_29 (pc' := 30) rfl ?_
  obtain ⟨i64, e64⟩ : ∃ v, x0 <<< ((1 : Int32) &&& 31) = v := ⟨_, rfl⟩
  refine own_ishl X63 e64 own_d_jdk_52_method_5_code_30 (pc' := 31) rfl ?_
  have f64 := own_I.shl1 (C := 32) f_x0 e64 (by decide) (by decide)
  refine own_istoreN X63 (Ls' := #[oA a1, oI i64]) rfl own_d_jdk_52_method_5_code_31 (pc' := 32) rfl ?_
  refine own_aloadN X63 rfl rfl own_d_jdk_52_method_5_code_32 (pc' := 33) rfl ?_
  refine own_iloadN X63 rfl own_d_jdk_52_method_5_code_33 (pc' := 34) rfl ?_
  obtain ⟨i65, e65⟩ : ∃ v, i64 + Int32.ofInt 1 = v := ⟨_, rfl⟩
  have f65 : own_I 33 ((2 * ((k : Nat) : Int)) + 1) i65 := f64.add (own_I.lit (x := Int32.ofInt 1) (i := 1) (B := 1) (by decide) (by decide)) e65 (by decide) (by decide)
  refine own_iinc X63 (Ls' := #[oA a1, oI i65]) rfl e65 rfl own_d_jdk_52_method_5_code_34 (pc' := 37) rfl ?_
  have ix66 := own_idx f64 (k := 2 * k) (by omega)
  refine own_baload X63 V1 (i := 2 * k) ix66.1 ix66.2 hg1 own_d_jdk_52_method_5_code_37 (pc' := 38) rfl ?_
  refine own_sipush X63 (v := (255 : Int32)) (by decide) own_d_jdk_52_method_5_code_38 (pc' := 41) rfl ?_
  obtain ⟨i67, e67⟩ : ∃ v, (own_b cc) &&& (255 : Int32) = v := ⟨_, rfl⟩
  have f67 : own_I 255 i67.toInt i67 := own_I.and e67 (by decide)
  have nn67 := own_and_nn (M := 255) e67 (by decide)
  refine own_iand X63 e67 own_d_jdk_52_method_5_code_41 (pc' := 42) rfl ?_
  refine own_getS X63 (ww 304 rfl) G0.2.2.1 own_d_jdk_52_method_5_code_42 (pc' := 45) rfl fun T68 X68 => ?_
  obtain ⟨i69, e69⟩ : ∃ v, i67 <<< ((0 : Int32) &&& 31) = v := ⟨_, rfl⟩
  refine own_ishl X68 e69 own_d_jdk_52_method_5_code_45 (pc' := 46) rfl ?_
  refine own_aloadN X68 rfl rfl own_d_jdk_52_method_5_code_46 (pc' := 47) rfl ?_
  refine own_iloadN X68 rfl own_d_jdk_52_method_5_code_47 (pc' := 48) rfl ?_
  have ix70 := own_idx f65 (k := 2 * k + 1) (by omega)
  refine own_baload X68 V1 (i := 2 * k + 1) ix70.1 ix70.2 hg2 own_d_jdk_52_method_5_code_48 (pc' := 49) rfl ?_
  refine own_sipush X68 (v := (255 : Int32)) (by decide) own_d_jdk_52_method_5_code_49 (pc' := 52) rfl ?_
  obtain ⟨i71, e71⟩ : ∃ v, (own_hb cc) &&& (255 : Int32) = v := ⟨_, rfl⟩
  have f71 : own_I 255 i71.toInt i71 := own_I.and e71 (by decide)
  have nn71 := own_and_nn (M := 255) e71 (by decide)
  refine own_iand X68 e71 own_d_jdk_52_method_5_code_52 (pc' := 53) rfl ?_
  refine own_getS X68 (ww 305 rfl) G0.2.2.2.1 own_d_jdk_52_method_5_code_53 (pc' := 56) rfl fun T72 X72 => ?_
  obtain ⟨i73, e73⟩ : ∃ v, i71 <<< ((8 : Int32) &&& 31) = v := ⟨_, rfl⟩
  refine own_ishl X72 e73 own_d_jdk_52_method_5_code_56 (pc' := 57) rfl ?_
  obtain ⟨i74, e74⟩ : ∃ v, i69 ||| i73 = v := ⟨_, rfl⟩
  refine own_ior X72 e74 own_d_jdk_52_method_5_code_57 (pc' := 58) rfl ?_
  obtain ⟨i75, e75⟩ : ∃ v, i74.toUInt32.toUInt16.toUInt32.toInt32 = v := ⟨_, rfl⟩
  refine own_i2c X72 e75 own_d_jdk_52_method_5_code_58 (pc' := 59) rfl ?_
  have gc76 := own_gc hc1 hc2 e67 e69 e71 e73 e74 e75
  exact own_retN X72 (t := .char) gc76.2 (by simp) own_d_jdk_52_method_5_code_59 rfl (by decide) (by decide) ⟨⟨_, rfl, gc76.1⟩, rfl⟩
theorem own_d_jdk_52_method_16_code_0 : decode jdk_52_method_16_code 0 = .ok (.iload_n 2, 1) := by decide +kernel
theorem own_d_jdk_52_method_16_code_1 : decode jdk_52_method_16_code 1 = .ok (.newarray .byte, 2) := by decide +kernel
theorem own_d_jdk_52_method_16_code_3 : decode jdk_52_method_16_code 3 = .ok (.astore_n 3, 1) := by decide +kernel
theorem own_d_jdk_52_method_16_code_4 : decode jdk_52_method_16_code 4 = .ok (.aload_n 0, 1) := by decide +kernel
theorem own_d_jdk_52_method_16_code_5 : decode jdk_52_method_16_code 5 = .ok (.iload_n 1, 1) := by decide +kernel
theorem own_d_jdk_52_method_16_code_6 : decode jdk_52_method_16_code 6 = .ok (.aload_n 3, 1) := by decide +kernel
theorem own_d_jdk_52_method_16_code_7 : decode jdk_52_method_16_code 7 = .ok (.iconst 0, 1) := by decide +kernel
theorem own_d_jdk_52_method_16_code_8 : decode jdk_52_method_16_code 8 = .ok (.iload_n 2, 1) := by decide +kernel
theorem own_d_jdk_52_method_16_code_9 : decode jdk_52_method_16_code 9 = .ok (.invokestatic 115, 3) := by decide +kernel
theorem own_d_jdk_52_method_16_code_12 : decode jdk_52_method_16_code 12 = .ok (.istore 4, 2) := by decide +kernel
theorem own_d_jdk_52_method_16_code_14 : decode jdk_52_method_16_code 14 = .ok (.iload 4, 2) := by decide +kernel
theorem own_d_jdk_52_method_16_code_16 : decode jdk_52_method_16_code 16 = .ok (.iload_n 2, 1) := by decide +kernel
theorem own_d_jdk_52_method_16_code_17 : decode jdk_52_method_16_code 17 = .ok (.if_icmp .eq 40, 3) := by decide +kernel
theorem own_d_jdk_52_method_16_code_20 : decode jdk_52_method_16_code 20 = .ok (.aload_n 0, 1) := by decide +kernel
theorem own_d_jdk_52_method_16_code_21 : decode jdk_52_method_16_code 21 = .ok (.iload_n 1, 1) := by decide +kernel
theorem own_d_jdk_52_method_16_code_22 : decode jdk_52_method_16_code 22 = .ok (.iload_n 2, 1) := by decide +kernel
theorem own_d_jdk_52_method_16_code_23 : decode jdk_52_method_16_code 23 = .ok (.invokestatic 119, 3) := by decide +kernel
theorem own_d_jdk_52_method_16_code_26 : decode jdk_52_method_16_code 26 = .ok (.astore 5, 2) := by decide +kernel
theorem own_d_jdk_52_method_16_code_28 : decode jdk_52_method_16_code 28 = .ok (.aload 5, 2) := by decide +kernel
theorem own_d_jdk_52_method_16_code_30 : decode jdk_52_method_16_code 30 = .ok (.iload 4, 2) := by decide +kernel
theorem own_d_jdk_52_method_16_code_32 : decode jdk_52_method_16_code 32 = .ok (.invokestatic 71, 3) := by decide +kernel
theorem own_d_jdk_52_method_16_code_35 : decode jdk_52_method_16_code 35 = .ok (.sipush 255, 3) := by decide +kernel
theorem own_d_jdk_52_method_16_code_38 : decode jdk_52_method_16_code 38 = .ok (.if_icmp .gt 16, 3) := by decide +kernel
theorem own_d_jdk_52_method_16_code_41 : decode jdk_52_method_16_code 41 = .ok (.aload 5, 2) := by decide +kernel
theorem own_d_jdk_52_method_16_code_43 : decode jdk_52_method_16_code 43 = .ok (.iconst 0, 1) := by decide +kernel
theorem own_d_jdk_52_method_16_code_44 : decode jdk_52_method_16_code 44 = .ok (.aload_n 3, 1) := by decide +kernel
theorem own_d_jdk_52_method_16_code_45 : decode jdk_52_method_16_code 45 = .ok (.iconst 0, 1) := by decide +kernel
theorem own_d_jdk_52_method_16_code_46 : decode jdk_52_method_16_code 46 = .ok (.iload_n 2, 1) := by decide +kernel
theorem own_d_jdk_52_method_16_code_47 : decode jdk_52_method_16_code 47 = .ok (.invokestatic 123, 3) := by decide +kernel
theorem own_d_jdk_52_method_16_code_50 : decode jdk_52_method_16_code 50 = .ok (.iload_n 2, 1) := by decide +kernel
theorem own_d_jdk_52_method_16_code_51 : decode jdk_52_method_16_code 51 = .ok (.if_icmp .eq 6, 3) := by decide +kernel
theorem own_d_jdk_52_method_16_code_54 : decode jdk_52_method_16_code 54 = .ok (.aload 5, 2) := by decide +kernel
theorem own_d_jdk_52_method_16_code_56 : decode jdk_52_method_16_code 56 = .ok (.areturn, 1) := by decide +kernel
theorem own_d_jdk_52_method_16_code_57 : decode jdk_52_method_16_code 57 = .ok (.aload_n 3, 1) := by decide +kernel
theorem own_d_jdk_52_method_16_code_58 : decode jdk_52_method_16_code 58 = .ok (.areturn, 1) := by decide +kernel
abbrev own_rm_own_c1 : Room := ({ frames := 3, cells := 2, slots := 48, locals := 48 } : Room)
set_option maxRecDepth 65536 in
set_option maxHeartbeats 40000000 in
theorem own_c1 (l : Launch) (Z : State) (a0 : Array Value) (hw : ∀ d ∈ tables_1, d.before a0 Z = true) (a2 : Addr) (nn : Int32) (ds : List Int32) (h0 : Heap) (n0 : Nat) (Z0 : n0 ≤ h0.size) (V1 : own_Vec Z h0 a2 .char (own_cv ds)) (f_nn : own_I 16 ((ds.length : Nat) : Int) nn) (hch : own_ch ds) (cs : Int32) (fm dv : Value) (G0 : own_Gs Z h0 cs fm dv) (hcs : ¬ cs = 0) (hfm : fm.isRef = true) (hdv : dv.isRef = true) :
    own_Met l Z ({ cls := "java/lang/StringUTF16", name := "compress", desc := "([CII)[B" } : Jvm.MethodName) jdk_52_method_16_code 6 (some (.array .byte)) [] own_rm_own_c1 #[(.ref a2), (.int (0 : Int32)), (.int nn)] h0 n0 (fun v h => ∃ b, v = some (.ref b) ∧ own_Vec Z h b .byte (own_enc ds) ∧ h0.size ≤ b ∧ Keep h0 h []) := by
  have ww := fun (i : Nat) {d : Jvm.Cond} (q : tables_1[i]? = some d) => hw d (List.mem_of_getElem? q)
  refine own_meet (plainFor_of_name own_pn0) Z0 (Ls0 := #[oA a2, oI 0, oI nn, oU, oU, oU]) (by intro m; first | (simp [entryFrame, mkF, argsToLocals, Value.category]; done) | rfl) ?_
  intro p e s m below meth c T0 X0
  have K0 := Keep.refl h0 []
  refine own_iloadN X0 rfl own_d_jdk_52_method_16_code_0 (pc' := 1) rfl ?_
  have ix78 := own_idx f_nn (k := ds.length) (by omega)
  refine own_newarrayC X0 (ty := .byte) rfl (ww 24 rfl) (n := ds.length) (cap := 16) ix78.1 ix78.2 (by have := f_nn.2; omega) (by decide) (cells' := 1) (slots' := 16) rfl rfl (by decide) (by decide) own_d_jdk_52_method_16_code_1 (pc' := 3) rfl fun a77 T77 h77 g77 ge77 X77 E77 V77 => ?_
  have ne79 : a2 ≠ a77 := own_lt_ne V1.lt g77
  have sz80 := own_ge K0 g77
  have V81 := V1.ext E77
  have S82 := G0.ext E77
  have K83 := K0.ext E77
  refine own_astoreN X77 (Ls' := #[oA a2, oI 0, oI nn, oA a77, oU, oU]) rfl rfl own_d_jdk_52_method_16_code_3 (pc' := 4) rfl ?_
  refine own_aloadN X77 rfl rfl own_d_jdk_52_method_16_code_4 (pc' := 5) rfl ?_
  refine own_iloadN X77 rfl own_d_jdk_52_method_16_code_5 (pc' := 6) rfl ?_
  refine own_aloadN X77 rfl rfl own_d_jdk_52_method_16_code_6 (pc' := 7) rfl ?_
  refine own_iconst X77 (v := (0 : Int32)) (by decide) own_d_jdk_52_method_16_code_7 (pc' := 8) rfl ?_
  refine own_iloadN X77 rfl own_d_jdk_52_method_16_code_8 (pc' := 9) rfl ?_
  refine own_callS X77 (own_c2 l Z a0 hw a2 a77 nn ds _ n0 X77.le f_nn ge77 V81 V77 ne79) (ww 25 rfl) (ww 26 rfl) (ww 22 rfl) (ww 27 rfl) (by decide) rfl (by decide) (W := 0) (Nat.le_of_eq rfl) (by decide) (cells' := 1) (slots' := 16) rfl rfl (by decide) (by decide) (argsL := [(.ref a2), (.int (0 : Int32)), (.ref a77), (.int (0 : Int32)), (.int nn)]) (rest := []) (lenOf own_pd4 rfl) rfl rfl own_d_jdk_52_method_16_code_9 (pc' := 12) rfl ?_
  rintro _ T84 h84 X84 ⟨r84, rfl, K84, D84⟩
  have S85 := S82.keep K84 (own_nsV V77 own_ns0)
  have V86 := V81.keep K84 (ninS ne79 nin0)
  have K87 := K83.trans K84 (own_mem1 (Or.inr sz80))
  rcases D84 with ⟨hl, hkn, V84⟩ | ⟨hl, k, cc, fk, hk, hg, hgt⟩
  · -- case
    replace hkn := hkn.symm
    subst hkn
    show own_Goal p e below _ T84 (mkF m 12 #[oA a2, oI 0, oI nn, oA a77, oU, oU] [(.int nn)])
    refine own_istore X84 (Ls' := #[oA a2, oI 0, oI nn, oA a77, oI nn, oU]) rfl own_d_jdk_52_method_16_code_12 (pc' := 14) rfl ?_
    refine own_iload X84 rfl own_d_jdk_52_method_16_code_14 (pc' := 16) rfl ?_
    refine own_iloadN X84 rfl own_d_jdk_52_method_16_code_16 (pc' := 17) rfl ?_
    have c88 : nn = nn := rfl
    refine own_icmpT X84 (own_i_eq c88).1 own_d_jdk_52_method_16_code_17 (pc' := 57) (by decide) (by decide) ?_
    refine own_aloadN X84 rfl rfl own_d_jdk_52_method_16_code_57 (pc' := 58) rfl ?_
    exact own_retA X84 (t := (.array .byte)) rfl own_d_jdk_52_method_16_code_58 rfl (by decide) (by decide) ⟨_, rfl, V84.eq (by unfold own_enc; rw [hl]; rfl), sz80, K87⟩
  · -- case
    show own_Goal p e below _ T84 (mkF m 12 #[oA a2, oI 0, oI nn, oA a77, oU, oU] [(.int r84)])
    refine own_istore X84 (Ls' := #[oA a2, oI 0, oI nn, oA a77, oI r84, oU]) rfl own_d_jdk_52_method_16_code_12 (pc' := 14) rfl ?_
    refine own_iload X84 rfl own_d_jdk_52_method_16_code_14 (pc' := 16) rfl ?_
    refine own_iloadN X84 rfl own_d_jdk_52_method_16_code_16 (pc' := 17) rfl ?_
    have c89 : ¬ (r84 = nn) := fun q => by have h1 := fk.1; rw [q, f_nn.1] at h1; omega
    refine own_icmpF X84 (own_i_ne c89).1 own_d_jdk_52_method_16_code_17 (pc' := 20) rfl ?_
    refine own_aloadN X84 rfl rfl own_d_jdk_52_method_16_code_20 (pc' := 21) rfl ?_
    refine own_iloadN X84 rfl own_d_jdk_52_method_16_code_21 (pc' := 22) rfl ?_
    refine own_iloadN X84 rfl own_d_jdk_52_method_16_code_22 (pc' := 23) rfl ?_
    refine own_callS X84 (own_tb l Z a0 hw a2 nn ds _ n0 X84.le V86 f_nn cs fm dv S85 hcs hfm hdv) (ww 290 rfl) (ww 291 rfl) (ww 22 rfl) (ww 292 rfl) (by decide) rfl (by decide) (W := 0) (Nat.le_of_eq rfl) (by decide) (cells' := 2) (slots' := 48) rfl rfl (by decide) (by decide) (argsL := [(.ref a2), (.int (0 : Int32)), (.int nn)]) (rest := []) (lenOf own_pd3 rfl) rfl rfl own_d_jdk_52_method_16_code_23 (pc' := 26) rfl ?_
    rintro _ T90 h90 X90 ⟨b90, rfl, V90, sz90, K90⟩
    have S91 := S85.keep K90 own_ns0
    have V92 := V86.keep K90 nin0
    have K93 := K87.trans K90 own_mem0
    have szz90 := Nat.le_trans K87.1 sz90
    show own_Goal p e below _ T90 (mkF m 26 #[oA a2, oI 0, oI nn, oA a77, oI r84, oU] [(.ref b90)])
    refine own_astore X90 (Ls' := #[oA a2, oI 0, oI nn, oA a77, oI r84, oA b90]) rfl rfl own_d_jdk_52_method_16_code_26 (pc' := 28) rfl ?_
    refine own_aload X90 rfl rfl own_d_jdk_52_method_16_code_28 (pc' := 30) rfl ?_
    refine own_iload X90 rfl own_d_jdk_52_method_16_code_30 (pc' := 32) rfl ?_
    refine own_callS X90 (own_gch l Z a0 hw b90 r84 cc k _ _ n0 X90.le V90 (own_u16_get hg).1 (own_u16_get hg).2 hgt (hch _ (List.mem_of_getElem? hg)).2 fk cs fm dv S91 hcs hfm hdv) (ww 306 rfl) (ww 307 rfl) (ww 22 rfl) (ww 308 rfl) (by decide) rfl (by decide) (W := 0) (Nat.le_of_eq rfl) (by decide) (cells' := 2) (slots' := 48) rfl rfl (by decide) (by decide) (argsL := [(.ref b90), (.int r84)]) (rest := []) (lenOf own_pd5 rfl) rfl rfl own_d_jdk_52_method_16_code_32 (pc' := 35) rfl ?_
    rintro _ T94 h94 X94 ⟨⟨q94, rfl, hq94⟩, e94⟩
    subst e94
    show own_Goal p e below _ T94 (mkF m 35 #[oA a2, oI 0, oI nn, oA a77, oI r84, oA b90] [(.int q94)])
    refine own_sipush X94 (v := (255 : Int32)) (by decide) own_d_jdk_52_method_16_code_35 (pc' := 38) rfl ?_
    have c95 : (255 : Int32) < q94 := own_lt32 (by rw [show (255 : Int32).toInt = 255 by decide]; exact hq94)
    refine own_icmpT X94 (own_i_gt c95).1 own_d_jdk_52_method_16_code_38 (pc' := 54) (by decide) (by decide) ?_
    refine own_aload X94 rfl rfl own_d_jdk_52_method_16_code_54 (pc' := 56) rfl ?_
    exact own_retA X94 (t := (.array .byte)) rfl own_d_jdk_52_method_16_code_56 rfl (by decide) (by decide) ⟨_, rfl, V90.eq (by unfold own_enc; rw [hl]; rfl), szz90, K93⟩
theorem own_d_jdk_52_method_15_code_0 : decode jdk_52_method_15_code 0 = .ok (.iload_n 1, 1) := by decide +kernel
theorem own_d_jdk_52_method_15_code_1 : decode jdk_52_method_15_code 1 = .ok (.aload_n 0, 1) := by decide +kernel
theorem own_d_jdk_52_method_15_code_2 : decode jdk_52_method_15_code 2 = .ok (.arraylength, 1) := by decide +kernel
theorem own_d_jdk_52_method_15_code_3 : decode jdk_52_method_15_code 3 = .ok (.isub, 1) := by decide +kernel
theorem own_d_jdk_52_method_15_code_4 : decode jdk_52_method_15_code 4 = .ok (.bipush 31, 2) := by decide +kernel
theorem own_d_jdk_52_method_15_code_6 : decode jdk_52_method_15_code 6 = .ok (.iushr, 1) := by decide +kernel
theorem own_d_jdk_52_method_15_code_7 : decode jdk_52_method_15_code 7 = .ok (.i2b, 1) := by decide +kernel
theorem own_d_jdk_52_method_15_code_8 : decode jdk_52_method_15_code 8 = .ok (.ireturn, 1) := by decide +kernel
theorem own_pd6 : parseMethodDescriptor "([BI)B" = some ⟨[(.array .byte), .int], some .byte⟩ := by decide +kernel
abbrev own_rm_own_cf : Room := ({ frames := 0, cells := 0, slots := 0, locals := 0 } : Room)
set_option maxRecDepth 65536 in
set_option maxHeartbeats 40000000 in
theorem own_cf (l : Launch) (Z : State) (a0 : Array Value) (hw : ∀ d ∈ tables_1, d.before a0 Z = true) (a1 : Addr) (nn ln : Int32) (ds : List Int32) (h0 : Heap) (n0 : Nat) (Z0 : n0 ≤ h0.size) (V1 : own_Vec Z h0 a1 .byte (own_enc ds)) (f_nn : own_I 16 ((ds.length : Nat) : Int) nn) (f_ln : own_I 32 (((own_enc ds).length : Nat) : Int) ln) (hpos : 0 < ds.length) :
    own_Met l Z ({ cls := "java/lang/StringUTF16", name := "coderFromArrayLen", desc := "([BI)B" } : Jvm.MethodName) jdk_52_method_15_code 2 (some .byte) [] own_rm_own_cf #[(.ref a1), (.int nn)] h0 n0 (fun v h => v = some (.int (own_cod ds)) ∧ h = h0) := by
  have ww := fun (i : Nat) {d : Jvm.Cond} (q : tables_1[i]? = some d) => hw d (List.mem_of_getElem? q)
  refine own_meet (plainFor_of_name own_pn0) Z0 (Ls0 := #[oA a1, oI nn]) (by intro m; first | (simp [entryFrame, mkF, argsToLocals, Value.category]; done) | rfl) ?_
  intro p e s m below meth c T0 X0
  refine own_iloadN X0 rfl own_d_jdk_52_method_15_code_0 (pc' := 1) rfl ?_
  refine own_aloadN X0 rfl rfl own_d_jdk_52_method_15_code_1 (pc' := 2) rfl ?_
  refine own_len X0 V1 (v := ln) (own_i32 f_ln) own_d_jdk_52_method_15_code_2 (pc' := 3) rfl ?_
  obtain ⟨i96, e96⟩ : ∃ v, nn - ln = v := ⟨_, rfl⟩
  have f96 : own_I 48 (((ds.length : Nat) : Int) - (((own_enc ds).length : Nat) : Int)) i96 := f_nn.sub f_ln e96 (by decide) (by decide)
  refine own_isub X0 e96 own_d_jdk_52_method_15_code_3 (pc' := 4) rfl ?_
  refine own_bipush X0 (v := (31 : Int32)) (by decide) own_d_jdk_52_method_15_code_4 (pc' := 6) rfl ?_
  obtain ⟨i97, e97⟩ : ∃ v, XT.ushr i96 (31 : Int32) = v := ⟨_, rfl⟩
  refine own_iushr X0 e97 own_d_jdk_52_method_15_code_6 (pc' := 7) rfl ?_
  obtain ⟨i98, e98⟩ : ∃ v, i97.toInt8.toInt32 = v := ⟨_, rfl⟩
  refine own_i2b X0 e98 own_d_jdk_52_method_15_code_7 (pc' := 8) rfl ?_
  have cf99 := own_cod_of (own_cfl_val f_nn f_ln (by decide) (by decide) e96 e97 e98) hpos
  exact own_retN X0 (t := .byte) (by rw [← e98]; exact own_nar_b _) (by simp) own_d_jdk_52_method_15_code_8 rfl (by decide) (by decide) ⟨by rw [cf99], rfl⟩
theorem own_d_jdk_42_method_149_code_0 : decode jdk_42_method_149_code 0 = .ok (.aload_n 0, 1) := by decide +kernel
theorem own_d_jdk_42_method_149_code_1 : decode jdk_42_method_149_code 1 = .ok (.invokespecial 1, 3) := by decide +kernel
theorem own_d_jdk_42_method_149_code_4 : decode jdk_42_method_149_code 4 = .ok (.iload_n 3, 1) := by decide +kernel
theorem own_d_jdk_42_method_149_code_5 : decode jdk_42_method_149_code 5 = .ok (.ifCond .ne 22, 3) := by decide +kernel
theorem own_d_jdk_42_method_149_code_8 : decode jdk_42_method_149_code 8 = .ok (.aload_n 0, 1) := by decide +kernel
theorem own_d_jdk_42_method_149_code_9 : decode jdk_42_method_149_code 9 = .ok (.ldc 7, 2) := by decide +kernel
theorem own_d_jdk_42_method_149_code_11 : decode jdk_42_method_149_code 11 = .ok (.getfield 9, 3) := by decide +kernel
theorem own_d_jdk_42_method_149_code_14 : decode jdk_42_method_149_code 14 = .ok (.putfield 9, 3) := by decide +kernel
theorem own_d_jdk_42_method_149_code_17 : decode jdk_42_method_149_code 17 = .ok (.aload_n 0, 1) := by decide +kernel
theorem own_d_jdk_42_method_149_code_18 : decode jdk_42_method_149_code 18 = .ok (.ldc 7, 2) := by decide +kernel
theorem own_d_jdk_42_method_149_code_20 : decode jdk_42_method_149_code 20 = .ok (.getfield 15, 3) := by decide +kernel
theorem own_d_jdk_42_method_149_code_23 : decode jdk_42_method_149_code 23 = .ok (.putfield 15, 3) := by decide +kernel
theorem own_d_jdk_42_method_149_code_26 : decode jdk_42_method_149_code 26 = .ok (.return_, 1) := by decide +kernel
theorem own_d_jdk_42_method_149_code_27 : decode jdk_42_method_149_code 27 = .ok (.getstatic 38, 3) := by decide +kernel
theorem own_d_jdk_42_method_149_code_30 : decode jdk_42_method_149_code 30 = .ok (.ifCond .eq 28, 3) := by decide +kernel
theorem own_d_jdk_42_method_149_code_33 : decode jdk_42_method_149_code 33 = .ok (.aload_n 1, 1) := by decide +kernel
theorem own_d_jdk_42_method_149_code_34 : decode jdk_42_method_149_code 34 = .ok (.iload_n 2, 1) := by decide +kernel
theorem own_d_jdk_42_method_149_code_35 : decode jdk_42_method_149_code 35 = .ok (.iload_n 3, 1) := by decide +kernel
theorem own_d_jdk_42_method_149_code_36 : decode jdk_42_method_149_code 36 = .ok (.invokestatic 177, 3) := by decide +kernel
theorem own_d_jdk_42_method_149_code_39 : decode jdk_42_method_149_code 39 = .ok (.astore 5, 2) := by decide +kernel
theorem own_d_jdk_42_method_149_code_41 : decode jdk_42_method_149_code 41 = .ok (.aload_n 0, 1) := by decide +kernel
theorem own_d_jdk_42_method_149_code_42 : decode jdk_42_method_149_code 42 = .ok (.aload 5, 2) := by decide +kernel
theorem own_d_jdk_42_method_149_code_44 : decode jdk_42_method_149_code 44 = .ok (.iload_n 3, 1) := by decide +kernel
theorem own_d_jdk_42_method_149_code_45 : decode jdk_42_method_149_code 45 = .ok (.invokestatic 47, 3) := by decide +kernel
theorem own_d_jdk_42_method_149_code_48 : decode jdk_42_method_149_code 48 = .ok (.putfield 15, 3) := by decide +kernel
theorem own_d_jdk_42_method_149_code_51 : decode jdk_42_method_149_code 51 = .ok (.aload_n 0, 1) := by decide +kernel
theorem own_d_jdk_42_method_149_code_52 : decode jdk_42_method_149_code 52 = .ok (.aload 5, 2) := by decide +kernel
theorem own_d_jdk_42_method_149_code_54 : decode jdk_42_method_149_code 54 = .ok (.putfield 9, 3) := by decide +kernel
theorem own_d_jdk_42_method_149_code_57 : decode jdk_42_method_149_code 57 = .ok (.return_, 1) := by decide +kernel
theorem own_d_jdk_42_method_149_code_58 : decode jdk_42_method_149_code 58 = .ok (.aload_n 0, 1) := by decide +kernel
theorem own_d_jdk_42_method_149_code_59 : decode jdk_42_method_149_code 59 = .ok (.iconst 1, 1) := by decide +kernel
theorem own_d_jdk_42_method_149_code_60 : decode jdk_42_method_149_code 60 = .ok (.putfield 15, 3) := by decide +kernel
theorem own_d_jdk_42_method_149_code_63 : decode jdk_42_method_149_code 63 = .ok (.aload_n 0, 1) := by decide +kernel
theorem own_d_jdk_42_method_149_code_64 : decode jdk_42_method_149_code 64 = .ok (.aload_n 1, 1) := by decide +kernel
theorem own_d_jdk_42_method_149_code_65 : decode jdk_42_method_149_code 65 = .ok (.iload_n 2, 1) := by decide +kernel
theorem own_d_jdk_42_method_149_code_66 : decode jdk_42_method_149_code 66 = .ok (.iload_n 3, 1) := by decide +kernel
theorem own_d_jdk_42_method_149_code_67 : decode jdk_42_method_149_code 67 = .ok (.invokestatic 180, 3) := by decide +kernel
theorem own_d_jdk_42_method_149_code_70 : decode jdk_42_method_149_code 70 = .ok (.putfield 9, 3) := by decide +kernel
theorem own_d_jdk_42_method_149_code_73 : decode jdk_42_method_149_code 73 = .ok (.return_, 1) := by decide +kernel
theorem own_pd7 : parseMethodDescriptor "([CIILjava/lang/Void;)V" = some ⟨[(.array .char), .int, .int, (.object "java/lang/Void")], none⟩ := by decide +kernel
theorem own_pn1 : plainName "java/lang/String" = true := by first | (simp [plainName, overriddenIn]; done) | decide +kernel
abbrev own_rm_own_s4 : Room := ({ frames := 4, cells := 2, slots := 48, locals := 65 } : Room)
set_option maxRecDepth 65536 in
set_option maxHeartbeats 40000000 in
theorem own_s4 (l : Launch) (Z : State) (a0 : Array Value) (hw : ∀ d ∈ tables_1, d.before a0 Z = true) (a1 a2 : Addr) (nn : Int32) (ds : List Int32) (h0 : Heap) (n0 : Nat) (Z0 : n0 ≤ h0.size) (ge1 : n0 ≤ a1) (A1 : Exa Z h0 a1 "java/lang/String") (F1 : Fld Z h0 a1 "java/lang/String" "coder" "B" (.int (0 : Int32))) (F2 : Fld Z h0 a1 "java/lang/String" "value" "[B" .null) (V1 : own_Vec Z h0 a2 .char (own_cv ds)) (f_nn : own_I 16 ((ds.length : Nat) : Int) nn) (hch : own_ch ds) (hpos : 0 < ds.length) (cs : Int32) (fm dv : Value) (G0 : own_Gs Z h0 cs fm dv) (hcs : ¬ cs = 0) (hfm : fm.isRef = true) (hdv : dv.isRef = true) :
    own_Met l Z ({ cls := "java/lang/String", name := "<init>", desc := "([CIILjava/lang/Void;)V" } : Jvm.MethodName) jdk_42_method_149_code 6 none [] own_rm_own_s4 #[(.ref a1), (.ref a2), (.int (0 : Int32)), (.int nn), .null] h0 n0 (fun v h => v = none ∧ own_Str Z h a1 ds ∧ Keep h0 h [a1]) := by
  have ww := fun (i : Nat) {d : Jvm.Cond} (q : tables_1[i]? = some d) => hw d (List.mem_of_getElem? q)
  refine own_meet (plainFor_of_name own_pn1) Z0 (Ls0 := #[oA a1, oA a2, oI 0, oI nn, .val .null, oU]) (by intro m; first | (simp [entryFrame, mkF, argsToLocals, Value.category]; done) | rfl) ?_
  intro p e s m below meth c T0 X0
  have K0 := Keep.refl h0 [a1]
  refine own_aloadN X0 rfl rfl own_d_jdk_42_method_149_code_0 (pc' := 1) rfl ?_
  refine own_initO X0 (ww 16 rfl) (ww 17 rfl) (ww 18 rfl) rfl (by decide) (W := 0) (Nat.le_of_eq rfl) (by decide) own_d_jdk_42_method_149_code_1 (pc' := 4) rfl fun T100 X100 => ?_
  refine own_iloadN X100 rfl own_d_jdk_42_method_149_code_4 (pc' := 5) rfl ?_
  have c101 : ¬ (nn = 0) := fun q => by have h := f_nn.1; rw [q, show (0 : Int32).toInt = 0 by decide] at h; omega
  refine own_ifT X100 (own_z_ne c101).2 own_d_jdk_42_method_149_code_5 (pc' := 27) (by decide) (by decide) ?_
  refine own_getS X100 (ww 19 rfl) G0.1 own_d_jdk_42_method_149_code_27 (pc' := 30) rfl fun T102 X102 => ?_
  have c103 : ¬ (cs = 0) := hcs
  refine own_ifF X102 (own_z_ne c103).1 own_d_jdk_42_method_149_code_30 (pc' := 33) rfl ?_
  refine own_aloadN X102 rfl rfl own_d_jdk_42_method_149_code_33 (pc' := 34) rfl ?_
  refine own_iloadN X102 rfl own_d_jdk_42_method_149_code_34 (pc' := 35) rfl ?_
  refine own_iloadN X102 rfl own_d_jdk_42_method_149_code_35 (pc' := 36) rfl ?_
  refine own_callS X102 (own_c1 l Z a0 hw a2 nn ds _ n0 X102.le V1 f_nn hch cs fm dv G0 hcs hfm hdv) (ww 20 rfl) (ww 21 rfl) (ww 22 rfl) (ww 23 rfl) (by decide) rfl (by decide) (W := 0) (Nat.le_of_eq rfl) (by decide) (cells' := 2) (slots' := 48) rfl rfl (by decide) (by decide) (argsL := [(.ref a2), (.int (0 : Int32)), (.int nn)]) (rest := []) (lenOf own_pd3 rfl) rfl rfl own_d_jdk_42_method_149_code_36 (pc' := 39) rfl ?_
  rintro _ T104 h104 X104 ⟨b104, rfl, V104, sz104, K104⟩
  have S105 := G0.keep K104 own_ns0
  have A106 := A1.keep K104
  have F107 := F1.keep K104 nin0
  have F108 := F2.keep K104 nin0
  have K109 := K0.trans K104 own_mem0
  have ne104 : a1 ≠ b104 := own_ne_newE A1 sz104
  show own_Goal p e below _ T104 (mkF m 39 #[oA a1, oA a2, oI 0, oI nn, .val .null, oU] [(.ref b104)])
  refine own_astore X104 (Ls' := #[oA a1, oA a2, oI 0, oI nn, .val .null, oA b104]) rfl rfl own_d_jdk_42_method_149_code_39 (pc' := 41) rfl ?_
  refine own_aloadN X104 rfl rfl own_d_jdk_42_method_149_code_41 (pc' := 42) rfl ?_
  refine own_aload X104 rfl rfl own_d_jdk_42_method_149_code_42 (pc' := 44) rfl ?_
  refine own_iloadN X104 rfl own_d_jdk_42_method_149_code_44 (pc' := 45) rfl ?_
  refine own_callS X104 (own_cf l Z a0 hw b104 nn _ ds _ n0 X104.le V104 f_nn (own_ofNat (by rw [own_enc_len]; have := f_nn.2; split <;> omega) (by decide)) hpos) (ww 28 rfl) (ww 29 rfl) (ww 22 rfl) (ww 30 rfl) (by decide) rfl (by decide) (W := 1) (Nat.le_of_eq rfl) (by decide) (cells' := 2) (slots' := 48) rfl rfl (by decide) (by decide) (argsL := [(.ref b104), (.int nn)]) (rest := [(.ref a1)]) (lenOf own_pd6 rfl) rfl rfl own_d_jdk_42_method_149_code_45 (pc' := 48) rfl ?_
  rintro _ T110 h110 X110 ⟨rfl, e110⟩
  subst e110
  show own_Goal p e below _ T110 (mkF m 48 #[oA a1, oA a2, oI 0, oI nn, .val .null, oA b104] [(.int (own_cod ds)), (.ref a1)])
  refine own_putF X110 (ww 31 rfl) F107 A106 (Or.inr ⟨(ww 32 rfl), rfl, rfl⟩) (ww 6 rfl) (ty := .byte) (by decide) (own_cod_nar ds) (own_cod_fits ds) ge1 own_d_jdk_42_method_149_code_48 (pc' := 51) rfl fun T111 h111 X111 W111 => ?_
  have A112 := A106.wr W111
  have V113 := V104.other W111 ne104.symm
  have S114 := S105.wr W111
  have K115 := K109.wr W111 (Or.inl (by simp))
  have F116 := F107.same W111
  have F117 := F108.other W111 (Or.inr (slot_ne (C := "java/lang/String") (Or.inr (ww 34 rfl)) (Or.inr (ww 32 rfl)) (by decide) (t := (.array .byte)) (t' := .byte) (by decide) (by decide)))
  refine own_aloadN X111 rfl rfl own_d_jdk_42_method_149_code_51 (pc' := 52) rfl ?_
  refine own_aload X111 rfl rfl own_d_jdk_42_method_149_code_52 (pc' := 54) rfl ?_
  refine own_putF X111 (ww 33 rfl) F117 A112 (Or.inr ⟨(ww 34 rfl), rfl, rfl⟩) (ww 6 rfl) (ty := (.array .byte)) (by decide) rfl rfl ge1 own_d_jdk_42_method_149_code_54 (pc' := 57) rfl fun T118 h118 X118 W118 => ?_
  have A119 := A112.wr W118
  have V120 := V113.other W118 ne104.symm
  have S121 := S114.wr W118
  have K122 := K115.wr W118 (Or.inl (by simp))
  have F123 := F117.same W118
  have F124 := F116.other W118 (Or.inr (slot_ne (C := "java/lang/String") (Or.inr (ww 32 rfl)) (Or.inr (ww 34 rfl)) (by decide) (t := .byte) (t' := (.array .byte)) (by decide) (by decide)))
  exact own_retV X118  own_d_jdk_42_method_149_code_57 rfl (by decide) (by decide) ⟨rfl, ⟨A119, F124, _, F123, V120⟩, K122⟩
theorem own_d_jdk_42_method_3_code_0 : decode jdk_42_method_3_code 0 = .ok (.aload_n 0, 1) := by decide +kernel
theorem own_d_jdk_42_method_3_code_1 : decode jdk_42_method_3_code 1 = .ok (.aload_n 1, 1) := by decide +kernel
theorem own_d_jdk_42_method_3_code_2 : decode jdk_42_method_3_code 2 = .ok (.iconst 0, 1) := by decide +kernel
theorem own_d_jdk_42_method_3_code_3 : decode jdk_42_method_3_code 3 = .ok (.aload_n 1, 1) := by decide +kernel
theorem own_d_jdk_42_method_3_code_4 : decode jdk_42_method_3_code 4 = .ok (.arraylength, 1) := by decide +kernel
theorem own_d_jdk_42_method_3_code_5 : decode jdk_42_method_3_code 5 = .ok (.aconst_null, 1) := by decide +kernel
theorem own_d_jdk_42_method_3_code_6 : decode jdk_42_method_3_code 6 = .ok (.invokespecial 27, 3) := by decide +kernel
theorem own_d_jdk_42_method_3_code_9 : decode jdk_42_method_3_code 9 = .ok (.return_, 1) := by decide +kernel
theorem own_pd8 : parseMethodDescriptor "([C)V" = some ⟨[(.array .char)], none⟩ := by decide +kernel
abbrev own_rm_own_s1 : Room := ({ frames := 5, cells := 2, slots := 48, locals := 82 } : Room)
set_option maxRecDepth 65536 in
set_option maxHeartbeats 40000000 in
theorem own_s1 (l : Launch) (Z : State) (a0 : Array Value) (hw : ∀ d ∈ tables_1, d.before a0 Z = true) (a1 a2 : Addr) (nn : Int32) (ds : List Int32) (h0 : Heap) (n0 : Nat) (Z0 : n0 ≤ h0.size) (ge1 : n0 ≤ a1) (A1 : Exa Z h0 a1 "java/lang/String") (F1 : Fld Z h0 a1 "java/lang/String" "coder" "B" (.int (0 : Int32))) (F2 : Fld Z h0 a1 "java/lang/String" "value" "[B" .null) (V1 : own_Vec Z h0 a2 .char (own_cv ds)) (f_nn : own_I 16 ((ds.length : Nat) : Int) nn) (hch : own_ch ds) (hpos : 0 < ds.length) (cs : Int32) (fm dv : Value) (G0 : own_Gs Z h0 cs fm dv) (hcs : ¬ cs = 0) (hfm : fm.isRef = true) (hdv : dv.isRef = true) :
    own_Met l Z ({ cls := "java/lang/String", name := "<init>", desc := "([C)V" } : Jvm.MethodName) jdk_42_method_3_code 2 none [] own_rm_own_s1 #[(.ref a1), (.ref a2)] h0 n0 (fun v h => v = none ∧ own_Str Z h a1 ds ∧ Keep h0 h [a1]) := by
  have ww := fun (i : Nat) {d : Jvm.Cond} (q : tables_1[i]? = some d) => hw d (List.mem_of_getElem? q)
  refine own_meet (plainFor_of_name own_pn1) Z0 (Ls0 := #[oA a1, oA a2]) (by intro m; first | (simp [entryFrame, mkF, argsToLocals, Value.category]; done) | rfl) ?_
  intro p e s m below meth c T0 X0
  have K0 := Keep.refl h0 [a1]
  refine own_aloadN X0 rfl rfl own_d_jdk_42_method_3_code_0 (pc' := 1) rfl ?_
  refine own_aloadN X0 rfl rfl own_d_jdk_42_method_3_code_1 (pc' := 2) rfl ?_
  refine own_iconst X0 (v := (0 : Int32)) (by decide) own_d_jdk_42_method_3_code_2 (pc' := 3) rfl ?_
  refine own_aloadN X0 rfl rfl own_d_jdk_42_method_3_code_3 (pc' := 4) rfl ?_
  refine own_len X0 V1 (v := nn) (by rw [own_cv_len]; exact own_i32 f_nn) own_d_jdk_42_method_3_code_4 (pc' := 5) rfl ?_
  refine own_aconst_null X0  own_d_jdk_42_method_3_code_5 (pc' := 6) rfl ?_
  refine own_special X0 (own_s4 l Z a0 hw a1 a2 nn ds _ n0 X0.le ge1 A1 F1 F2 V1 f_nn hch hpos cs fm dv G0 hcs hfm hdv) rfl rfl (ww 12 rfl) (ww 13 rfl) (ww 7 rfl) (ww 15 rfl) (by decide) rfl (by decide) (W := 0) (Nat.le_of_eq rfl) (by decide) (cells' := 2) (slots' := 48) rfl rfl (by decide) (by decide) (argsL := [(.ref a2), (.int (0 : Int32)), (.int nn), .null]) (rest := []) (lenOf own_pd7 rfl) rfl rfl own_d_jdk_42_method_3_code_6 (pc' := 9) rfl ?_
  rintro _ T125 h125 X125 ⟨rfl, S125_, K125⟩
  show own_Goal p e below _ T125 (mkF m 9 #[oA a1, oA a2] [])
  exact own_retV X125  own_d_jdk_42_method_3_code_9 rfl (by decide) (by decide) ⟨rfl, S125_, K125⟩
abbrev own_rm_own_le : Room := ({ frames := 0, cells := 0, slots := 0, locals := 0 } : Room)
theorem own_d_jdk_43_method_13_code_0 : decode jdk_43_method_13_code 0 = .ok (.aload_n 0, 1) := by decide +kernel
theorem own_d_jdk_43_method_13_code_1 : decode jdk_43_method_13_code 1 = .ok (.arraylength, 1) := by decide +kernel
theorem own_d_jdk_43_method_13_code_2 : decode jdk_43_method_13_code 2 = .ok (.aload_n 1, 1) := by decide +kernel
theorem own_d_jdk_43_method_13_code_3 : decode jdk_43_method_13_code 3 = .ok (.arraylength, 1) := by decide +kernel
theorem own_d_jdk_43_method_13_code_4 : decode jdk_43_method_13_code 4 = .ok (.if_icmp .ne 30, 3) := by decide +kernel
theorem own_d_jdk_43_method_13_code_7 : decode jdk_43_method_13_code 7 = .ok (.iconst 0, 1) := by decide +kernel
theorem own_d_jdk_43_method_13_code_8 : decode jdk_43_method_13_code 8 = .ok (.istore_n 2, 1) := by decide +kernel
theorem own_d_jdk_43_method_13_code_9 : decode jdk_43_method_13_code 9 = .ok (.iload_n 2, 1) := by decide +kernel
theorem own_d_jdk_43_method_13_code_10 : decode jdk_43_method_13_code 10 = .ok (.aload_n 0, 1) := by decide +kernel
theorem own_d_jdk_43_method_13_code_11 : decode jdk_43_method_13_code 11 = .ok (.arraylength, 1) := by decide +kernel
theorem own_d_jdk_43_method_13_code_12 : decode jdk_43_method_13_code 12 = .ok (.if_icmp .ge 20, 3) := by decide +kernel
theorem own_d_jdk_43_method_13_code_15 : decode jdk_43_method_13_code 15 = .ok (.aload_n 0, 1) := by decide +kernel
theorem own_d_jdk_43_method_13_code_16 : decode jdk_43_method_13_code 16 = .ok (.iload_n 2, 1) := by decide +kernel
theorem own_d_jdk_43_method_13_code_17 : decode jdk_43_method_13_code 17 = .ok (.baload, 1) := by decide +kernel
theorem own_d_jdk_43_method_13_code_18 : decode jdk_43_method_13_code 18 = .ok (.aload_n 1, 1) := by decide +kernel
theorem own_d_jdk_43_method_13_code_19 : decode jdk_43_method_13_code 19 = .ok (.iload_n 2, 1) := by decide +kernel
theorem own_d_jdk_43_method_13_code_20 : decode jdk_43_method_13_code 20 = .ok (.baload, 1) := by decide +kernel
theorem own_d_jdk_43_method_13_code_21 : decode jdk_43_method_13_code 21 = .ok (.if_icmp .eq 5, 3) := by decide +kernel
theorem own_d_jdk_43_method_13_code_24 : decode jdk_43_method_13_code 24 = .ok (.iconst 0, 1) := by decide +kernel
theorem own_d_jdk_43_method_13_code_25 : decode jdk_43_method_13_code 25 = .ok (.ireturn, 1) := by decide +kernel
theorem own_d_jdk_43_method_13_code_26 : decode jdk_43_method_13_code 26 = .ok (.iinc 2 1, 3) := by decide +kernel
theorem own_d_jdk_43_method_13_code_29 : decode jdk_43_method_13_code 29 = .ok (.goto (-20), 3) := by decide +kernel
theorem own_d_jdk_43_method_13_code_32 : decode jdk_43_method_13_code 32 = .ok (.iconst 1, 1) := by decide +kernel
theorem own_d_jdk_43_method_13_code_33 : decode jdk_43_method_13_code 33 = .ok (.ireturn, 1) := by decide +kernel
theorem own_d_jdk_43_method_13_code_34 : decode jdk_43_method_13_code 34 = .ok (.iconst 0, 1) := by decide +kernel
theorem own_d_jdk_43_method_13_code_35 : decode jdk_43_method_13_code 35 = .ok (.ireturn, 1) := by decide +kernel
theorem own_pd9 : parseMethodDescriptor "([B[B)Z" = some ⟨[(.array .byte), (.array .byte)], some .boolean⟩ := by decide +kernel
set_option maxRecDepth 65536 in
set_option maxHeartbeats 40000000 in
theorem own_le_loop (l : Launch) (Z : State) (a0 : Array Value) (hw : ∀ d ∈ tables_1, d.before a0 Z = true) (b1 b2 : Addr) (ln : Int32) (es : List Int32) (h0 : Heap) (n0 : Nat) {p : Program} {e : Env} {s : State} {m : MethodId} {below : List Frame} {meth : Method} {c : Code} {args : Array Value} :
    ∀ (rem : List Int32) (done : List Int32) (x : Int32) (T0 : State) (hL : Heap), own_St p l e own_rm_own_le s m args below meth c Z "java/lang/StringLatin1" jdk_43_method_13_code 3 (some .boolean) "equals" n0 T0 hL 0 0 → es = done ++ rem → own_I 32 ((done.length : Nat) : Int) x → own_I 32 ((es.length : Nat) : Int) ln → own_Vec Z hL b1 .byte (own_cv es) → own_Vec Z hL b2 .byte (own_cv es) → hL = h0 → own_Goal p e below (own_Fin below s own_rm_own_le n0 (fun v h => v = some (.int 1) ∧ h = h0)) T0 (mkF m 9 #[oA b1, oA b2, oI x] []) := by
  have ww := fun (i : Nat) {d : Jvm.Cond} (q : tables_1[i]? = some d) => hw d (List.mem_of_getElem? q)
  intro rem
  induction rem with
  | nil =>
    intro done x T0 hL X0 hes f_x f_ln V1 V2 hh
    refine own_iloadN X0 rfl own_d_jdk_43_method_13_code_9 (pc' := 10) rfl ?_
    refine own_aloadN X0 rfl rfl own_d_jdk_43_method_13_code_10 (pc' := 11) rfl ?_
    refine own_len X0 V1 (v := ln) (by rw [own_cv_len]; exact own_i32 f_ln) own_d_jdk_43_method_13_code_11 (pc' := 12) rfl ?_
    have c126 : ¬ (x < ln) := own_nlt32 (by rw [f_x.1, f_ln.1, hes]; simp)
    refine own_icmpT X0 (own_i_nlt c126).2 own_d_jdk_43_method_13_code_12 (pc' := 32) (by decide) (by decide) ?_
    refine own_iconst X0 (v := (1 : Int32)) (by decide) own_d_jdk_43_method_13_code_32 (pc' := 33) rfl ?_
    exact own_retZ X0 (by decide) own_d_jdk_43_method_13_code_33 rfl (by decide) (by decide) ⟨rfl, hh⟩
  | cons ee rem ih =>
    intro done x T0 hL X0 hes f_x f_ln V1 V2 hh
    refine own_iloadN X0 rfl own_d_jdk_43_method_13_code_9 (pc' := 10) rfl ?_
    refine own_aloadN X0 rfl rfl own_d_jdk_43_method_13_code_10 (pc' := 11) rfl ?_
    refine own_len X0 V1 (v := ln) (by rw [own_cv_len]; exact own_i32 f_ln) own_d_jdk_43_method_13_code_11 (pc' := 12) rfl ?_
    have c127 : x < ln := own_lt32 (by rw [f_x.1, f_ln.1, hes]; simp; omega)
    refine own_icmpF X0 (own_i_lt c127).2 own_d_jdk_43_method_13_code_12 (pc' := 15) rfl ?_
    refine own_aloadN X0 rfl rfl own_d_jdk_43_method_13_code_15 (pc' := 16) rfl ?_
    refine own_iloadN X0 rfl own_d_jdk_43_method_13_code_16 (pc' := 17) rfl ?_
    have ix128 := own_idx f_x (k := done.length) (by omega)
    refine own_baload X0 V1 (i := done.length) ix128.1 ix128.2 (v := .int ee) (by rw [hes]; simp [own_cv]) own_d_jdk_43_method_13_code_17 (pc' := 18) rfl ?_
    refine own_aloadN X0 rfl rfl own_d_jdk_43_method_13_code_18 (pc' := 19) rfl ?_
    refine own_iloadN X0 rfl own_d_jdk_43_method_13_code_19 (pc' := 20) rfl ?_
    have ix129 := own_idx f_x (k := done.length) (by omega)
    refine own_baload X0 V2 (i := done.length) ix129.1 ix129.2 (v := .int ee) (by rw [hes]; simp [own_cv]) own_d_jdk_43_method_13_code_20 (pc' := 21) rfl ?_
    have c130 : ee = ee := rfl
    refine own_icmpT X0 (own_i_eq c130).1 own_d_jdk_43_method_13_code_21 (pc' := 26) (by decide) (by decide) ?_
    obtain ⟨i131, e131⟩ : ∃ v, x + Int32.ofInt 1 = v := ⟨_, rfl⟩
    have f131 : own_I 33 (((done.length : Nat) : Int) + 1) i131 := f_x.add (own_I.lit (x := Int32.ofInt 1) (i := 1) (B := 1) (by decide) (by decide)) e131 (by decide) (by decide)
    refine own_iinc X0 (Ls' := #[oA b1, oA b2, oI i131]) rfl e131 rfl own_d_jdk_43_method_13_code_26 (pc' := 29) rfl ?_
    refine own_goto X0 own_d_jdk_43_method_13_code_29 (pc' := 9) (by decide) (by decide) ?_
    subst e131
    exact ih (done ++ [ee]) _ _ _ X0 (by rw [hes]; simp) (f131.re (by simp) (by have := f_ln.2; rw [hes] at this; simp at this ⊢; omega)) f_ln V1 V2 hh
theorem own_pn2 : plainName "java/lang/StringLatin1" = true := by first | (simp [plainName, overriddenIn]; done) | decide +kernel
set_option maxRecDepth 65536 in
set_option maxHeartbeats 40000000 in
theorem own_le (l : Launch) (Z : State) (a0 : Array Value) (hw : ∀ d ∈ tables_1, d.before a0 Z = true) (b1 b2 : Addr) (ln : Int32) (es : List Int32) (h0 : Heap) (n0 : Nat) (Z0 : n0 ≤ h0.size) (f_ln : own_I 32 ((es.length : Nat) : Int) ln) (V1 : own_Vec Z h0 b1 .byte (own_cv es)) (V2 : own_Vec Z h0 b2 .byte (own_cv es)) :
    own_Met l Z ({ cls := "java/lang/StringLatin1", name := "equals", desc := "([B[B)Z" } : Jvm.MethodName) jdk_43_method_13_code 3 (some .boolean) [] own_rm_own_le #[(.ref b1), (.ref b2)] h0 n0 (fun v h => v = some (.int 1) ∧ h = h0) := by
  have ww := fun (i : Nat) {d : Jvm.Cond} (q : tables_1[i]? = some d) => hw d (List.mem_of_getElem? q)
  refine own_meet (plainFor_of_name own_pn2) Z0 (Ls0 := #[oA b1, oA b2, oU]) (by intro m; first | (simp [entryFrame, mkF, argsToLocals, Value.category]; done) | rfl) ?_
  intro p e s m below meth c T0 X0
  refine own_aloadN X0 rfl rfl own_d_jdk_43_method_13_code_0 (pc' := 1) rfl ?_
  refine own_len X0 V1 (v := ln) (by rw [own_cv_len]; exact own_i32 f_ln) own_d_jdk_43_method_13_code_1 (pc' := 2) rfl ?_
  refine own_aloadN X0 rfl rfl own_d_jdk_43_method_13_code_2 (pc' := 3) rfl ?_
  refine own_len X0 V2 (v := ln) (by rw [own_cv_len]; exact own_i32 f_ln) own_d_jdk_43_method_13_code_3 (pc' := 4) rfl ?_
  have c132 : ln = ln := rfl
  refine own_icmpF X0 (own_i_eq c132).2 own_d_jdk_43_method_13_code_4 (pc' := 7) rfl ?_
  refine own_iconst X0 (v := (0 : Int32)) (by decide) own_d_jdk_43_method_13_code_7 (pc' := 8) rfl ?_
  refine own_istoreN X0 (Ls' := #[oA b1, oA b2, oI 0]) rfl own_d_jdk_43_method_13_code_8 (pc' := 9) rfl ?_
  exact own_le_loop l Z a0 hw b1 b2 ln es h0 n0 es [] _ _ _ X0 rfl (own_I.lit (by decide) (by decide)) f_ln V1 V2 rfl
theorem own_d_jdk_42_method_66_code_0 : decode jdk_42_method_66_code 0 = .ok (.aload_n 0, 1) := by decide +kernel
theorem own_d_jdk_42_method_66_code_1 : decode jdk_42_method_66_code 1 = .ok (.aload_n 1, 1) := by decide +kernel
theorem own_d_jdk_42_method_66_code_2 : decode jdk_42_method_66_code 2 = .ok (.if_acmp .ne 5, 3) := by decide +kernel
theorem own_d_jdk_42_method_66_code_5 : decode jdk_42_method_66_code 5 = .ok (.iconst 1, 1) := by decide +kernel
theorem own_d_jdk_42_method_66_code_6 : decode jdk_42_method_66_code 6 = .ok (.ireturn, 1) := by decide +kernel
theorem own_d_jdk_42_method_66_code_7 : decode jdk_42_method_66_code 7 = .ok (.aload_n 1, 1) := by decide +kernel
theorem own_d_jdk_42_method_66_code_8 : decode jdk_42_method_66_code 8 = .ok (.instanceof 10, 3) := by decide +kernel
theorem own_d_jdk_42_method_66_code_11 : decode jdk_42_method_66_code 11 = .ok (.ifCond .eq 43, 3) := by decide +kernel
theorem own_d_jdk_42_method_66_code_14 : decode jdk_42_method_66_code 14 = .ok (.aload_n 1, 1) := by decide +kernel
theorem own_d_jdk_42_method_66_code_15 : decode jdk_42_method_66_code 15 = .ok (.checkcast 10, 3) := by decide +kernel
theorem own_d_jdk_42_method_66_code_18 : decode jdk_42_method_66_code 18 = .ok (.astore_n 2, 1) := by decide +kernel
theorem own_d_jdk_42_method_66_code_19 : decode jdk_42_method_66_code 19 = .ok (.getstatic 38, 3) := by decide +kernel
theorem own_d_jdk_42_method_66_code_22 : decode jdk_42_method_66_code 22 = .ok (.ifCond .eq 14, 3) := by decide +kernel
theorem own_d_jdk_42_method_66_code_25 : decode jdk_42_method_66_code 25 = .ok (.aload_n 0, 1) := by decide +kernel
theorem own_d_jdk_42_method_66_code_26 : decode jdk_42_method_66_code 26 = .ok (.getfield 15, 3) := by decide +kernel
theorem own_d_jdk_42_method_66_code_29 : decode jdk_42_method_66_code 29 = .ok (.aload_n 2, 1) := by decide +kernel
theorem own_d_jdk_42_method_66_code_30 : decode jdk_42_method_66_code 30 = .ok (.getfield 15, 3) := by decide +kernel
theorem own_d_jdk_42_method_66_code_33 : decode jdk_42_method_66_code 33 = .ok (.if_icmp .ne 21, 3) := by decide +kernel
theorem own_d_jdk_42_method_66_code_36 : decode jdk_42_method_66_code 36 = .ok (.aload_n 0, 1) := by decide +kernel
theorem own_d_jdk_42_method_66_code_37 : decode jdk_42_method_66_code 37 = .ok (.getfield 9, 3) := by decide +kernel
theorem own_d_jdk_42_method_66_code_40 : decode jdk_42_method_66_code 40 = .ok (.aload_n 2, 1) := by decide +kernel
theorem own_d_jdk_42_method_66_code_41 : decode jdk_42_method_66_code 41 = .ok (.getfield 9, 3) := by decide +kernel
theorem own_d_jdk_42_method_66_code_44 : decode jdk_42_method_66_code 44 = .ok (.invokestatic 541, 3) := by decide +kernel
theorem own_d_jdk_42_method_66_code_47 : decode jdk_42_method_66_code 47 = .ok (.ifCond .eq 7, 3) := by decide +kernel
theorem own_d_jdk_42_method_66_code_50 : decode jdk_42_method_66_code 50 = .ok (.iconst 1, 1) := by decide +kernel
theorem own_d_jdk_42_method_66_code_51 : decode jdk_42_method_66_code 51 = .ok (.goto 4, 3) := by decide +kernel
theorem own_d_jdk_42_method_66_code_54 : decode jdk_42_method_66_code 54 = .ok (.iconst 0, 1) := by decide +kernel
theorem own_d_jdk_42_method_66_code_55 : decode jdk_42_method_66_code 55 = .ok (.ireturn, 1) := by decide +kernel
theorem own_pd10 : parseMethodDescriptor "(Ljava/lang/Object;)Z" = some ⟨[(.object "java/lang/Object")], some .boolean⟩ := by decide +kernel
abbrev own_rm_own_equ : Room := ({ frames := 1, cells := 0, slots := 0, locals := 14 } : Room)
set_option maxRecDepth 65536 in
set_option maxHeartbeats 40000000 in
theorem own_equ (l : Launch) (Z : State) (a0 : Array Value) (hw : ∀ d ∈ tables_1, d.before a0 Z = true) (a1 a2 : Addr) (ds : List Int32) (h0 : Heap) (n0 : Nat) (Z0 : n0 ≤ h0.size) (S1 : own_Str Z h0 a1 ds) (S2 : own_Str Z h0 a2 ds) (hn : ds.length ≤ 16) (cs : Int32) (fm dv : Value) (G0 : own_Gs Z h0 cs fm dv) (hcs : ¬ cs = 0) (hfm : fm.isRef = true) (hdv : dv.isRef = true) :
    own_Met l Z ({ cls := "java/lang/String", name := "equals", desc := "(Ljava/lang/Object;)Z" } : Jvm.MethodName) jdk_42_method_66_code 3 (some .boolean) [] own_rm_own_equ #[(.ref a1), (.ref a2)] h0 n0 (fun v h => v = some (.int 1) ∧ h = h0) := by
  have ww := fun (i : Nat) {d : Jvm.Cond} (q : tables_1[i]? = some d) => hw d (List.mem_of_getElem? q)
  refine own_meet (plainFor_of_name own_pn1) Z0 (Ls0 := #[oA a1, oA a2, oU]) (by intro m; first | (simp [entryFrame, mkF, argsToLocals, Value.category]; done) | rfl) ?_
  intro p e s m below meth c T0 X0
  obtain ⟨A1, C1, b1, F1, V1⟩ := S1
  obtain ⟨A2, C2, b2, F2, V2⟩ := S2
  obtain ⟨es, hes⟩ := own_enc_ints ds
  have hl : es.length ≤ 32 := by have q := congrArg List.length hes; rw [own_enc_len, own_cv_len] at q; split at q <;> omega
  replace V1 := V1.eq hes
  replace V2 := V2.eq hes
  refine own_aloadN X0 rfl rfl own_d_jdk_42_method_66_code_0 (pc' := 1) rfl ?_
  refine own_aloadN X0 rfl rfl own_d_jdk_42_method_66_code_1 (pc' := 2) rfl ?_
  by_cases ca133 : a1 = a2
  · -- acmp
    refine own_acmpF X0 rfl rfl (XT.aa_ne_f (by rw [ca133])) own_d_jdk_42_method_66_code_2 (pc' := 5) rfl ?_
    refine own_iconst X0 (v := (1 : Int32)) (by decide) own_d_jdk_42_method_66_code_5 (pc' := 6) rfl ?_
    exact own_retZ X0 (by decide) own_d_jdk_42_method_66_code_6 rfl (by decide) (by decide) ⟨rfl, rfl⟩
  · -- acmp
    refine own_acmpT X0 rfl rfl (XT.aa_ne_t (fun q => ca133 (Value.ref.inj q))) own_d_jdk_42_method_66_code_2 (pc' := 7) (by decide) (by decide) ?_
    refine own_aloadN X0 rfl rfl own_d_jdk_42_method_66_code_7 (pc' := 8) rfl ?_
    refine own_inst X0 (ww 285 rfl) A2 own_d_jdk_42_method_66_code_8 (pc' := 11) rfl fun T134 X134 => ?_
    refine own_ifF X134 (by decide) own_d_jdk_42_method_66_code_11 (pc' := 14) rfl ?_
    refine own_aloadN X134 rfl rfl own_d_jdk_42_method_66_code_14 (pc' := 15) rfl ?_
    refine own_cast_ X134 (ww 285 rfl) A2 own_d_jdk_42_method_66_code_15 (pc' := 18) rfl fun T135 X135 => ?_
    refine own_astoreN X135 (Ls' := #[oA a1, oA a2, oA a2]) rfl rfl own_d_jdk_42_method_66_code_18 (pc' := 19) rfl ?_
    refine own_getS X135 (ww 19 rfl) G0.1 own_d_jdk_42_method_66_code_19 (pc' := 22) rfl fun T136 X136 => ?_
    have c137 : ¬ (cs = 0) := hcs
    refine own_ifF X136 (own_z_ne c137).1 own_d_jdk_42_method_66_code_22 (pc' := 25) rfl ?_
    refine own_aloadN X136 rfl rfl own_d_jdk_42_method_66_code_25 (pc' := 26) rfl ?_
    refine own_getF X136 (ww 31 rfl) C1 own_d_jdk_42_method_66_code_26 (pc' := 29) rfl fun T138 X138 => ?_
    refine own_aloadN X138 rfl rfl own_d_jdk_42_method_66_code_29 (pc' := 30) rfl ?_
    refine own_getF X138 (ww 31 rfl) C2 own_d_jdk_42_method_66_code_30 (pc' := 33) rfl fun T139 X139 => ?_
    have c140 : (own_cod ds) = (own_cod ds) := rfl
    refine own_icmpF X139 (own_i_eq c140).2 own_d_jdk_42_method_66_code_33 (pc' := 36) rfl ?_
    refine own_aloadN X139 rfl rfl own_d_jdk_42_method_66_code_36 (pc' := 37) rfl ?_
    refine own_getF X139 (ww 33 rfl) F1 own_d_jdk_42_method_66_code_37 (pc' := 40) rfl fun T141 X141 => ?_
    refine own_aloadN X141 rfl rfl own_d_jdk_42_method_66_code_40 (pc' := 41) rfl ?_
    refine own_getF X141 (ww 33 rfl) F2 own_d_jdk_42_method_66_code_41 (pc' := 44) rfl fun T142 X142 => ?_
    refine own_callS X142 (own_le l Z a0 hw b1 b2 _ es _ n0 X142.le (own_ofNat hl (by decide)) V1 V2) (ww 286 rfl) (ww 287 rfl) (ww 288 rfl) (ww 289 rfl) (by decide) rfl (by decide) (W := 0) (Nat.le_of_eq rfl) (by decide) (cells' := 0) (slots' := 0) rfl rfl (by decide) (by decide) (argsL := [(.ref b1), (.ref b2)]) (rest := []) (lenOf own_pd9 rfl) rfl rfl own_d_jdk_42_method_66_code_44 (pc' := 47) rfl ?_
    rintro _ T143 h143 X143 ⟨rfl, e143⟩
    subst e143
    show own_Goal p e below _ T143 (mkF m 47 #[oA a1, oA a2, oA a2] [(.int (1 : Int32))])
    refine own_ifF X143 (by decide) own_d_jdk_42_method_66_code_47 (pc' := 50) rfl ?_
    refine own_iconst X143 (v := (1 : Int32)) (by decide) own_d_jdk_42_method_66_code_50 (pc' := 51) rfl ?_
    refine own_goto X143 own_d_jdk_42_method_66_code_51 (pc' := 55) (by decide) (by decide) ?_
    exact own_retZ X143 (by decide) own_d_jdk_42_method_66_code_55 rfl (by decide) (by decide) ⟨rfl, rfl⟩
theorem own_d_jdk_42_method_152_code_0 : decode jdk_42_method_152_code 0 = .ok (.getstatic 38, 3) := by decide +kernel
theorem own_d_jdk_42_method_152_code_3 : decode jdk_42_method_152_code 3 = .ok (.ifCond .eq 10, 3) := by decide +kernel
theorem own_d_jdk_42_method_152_code_6 : decode jdk_42_method_152_code 6 = .ok (.aload_n 0, 1) := by decide +kernel
theorem own_d_jdk_42_method_152_code_7 : decode jdk_42_method_152_code 7 = .ok (.getfield 15, 3) := by decide +kernel
theorem own_d_jdk_42_method_152_code_10 : decode jdk_42_method_152_code 10 = .ok (.goto 4, 3) := by decide +kernel
theorem own_d_jdk_42_method_152_code_13 : decode jdk_42_method_152_code 13 = .ok (.iconst 1, 1) := by decide +kernel
theorem own_d_jdk_42_method_152_code_14 : decode jdk_42_method_152_code 14 = .ok (.ireturn, 1) := by decide +kernel
theorem own_pd11 : parseMethodDescriptor "()B" = some ⟨[], some .byte⟩ := by decide +kernel
abbrev own_rm_own_coL : Room := ({ frames := 0, cells := 0, slots := 0, locals := 0 } : Room)
set_option maxRecDepth 65536 in
set_option maxHeartbeats 40000000 in
theorem own_coL (l : Launch) (Z : State) (a0 : Array Value) (hw : ∀ d ∈ tables_1, d.before a0 Z = true) (a1 b1 : Addr) (h0 : Heap) (n0 : Nat) (Z0 : n0 ≤ h0.size) (F1 : Fld Z h0 a1 "java/lang/String" "coder" "B" (.int (0 : Int32))) (cs : Int32) (fm dv : Value) (G0 : own_Gs Z h0 cs fm dv) (hcs : ¬ cs = 0) (hfm : fm.isRef = true) (hdv : dv.isRef = true) :
    own_Met l Z ({ cls := "java/lang/String", name := "coder", desc := "()B" } : Jvm.MethodName) jdk_42_method_152_code 1 (some .byte) [] own_rm_own_coL #[(.ref a1)] h0 n0 (fun v h => v = some (.int 0) ∧ h = h0) := by
  have ww := fun (i : Nat) {d : Jvm.Cond} (q : tables_1[i]? = some d) => hw d (List.mem_of_getElem? q)
  refine own_meet (plainFor_of_name own_pn1) Z0 (Ls0 := #[oA a1]) (by intro m; first | (simp [entryFrame, mkF, argsToLocals, Value.category]; done) | rfl) ?_
  intro p e s m below meth c T0 X0
  refine own_getS X0 (ww 19 rfl) G0.1 own_d_jdk_42_method_152_code_0 (pc' := 3) rfl fun T144 X144 => ?_
  have c145 : ¬ (cs = 0) := hcs
  refine own_ifF X144 (own_z_ne c145).1 own_d_jdk_42_method_152_code_3 (pc' := 6) rfl ?_
  refine own_aloadN X144 rfl rfl own_d_jdk_42_method_152_code_6 (pc' := 7) rfl ?_
  refine own_getF X144 (ww 31 rfl) F1 own_d_jdk_42_method_152_code_7 (pc' := 10) rfl fun T146 X146 => ?_
  refine own_goto X146 own_d_jdk_42_method_152_code_10 (pc' := 14) (by decide) (by decide) ?_
  exact own_retN X146 (t := .byte) (by decide) (by simp) own_d_jdk_42_method_152_code_14 rfl (by decide) (by decide) ⟨rfl, rfl⟩
theorem own_d_jdk_42_method_54_code_0 : decode jdk_42_method_54_code 0 = .ok (.aload_n 0, 1) := by decide +kernel
theorem own_d_jdk_42_method_54_code_1 : decode jdk_42_method_54_code 1 = .ok (.getfield 9, 3) := by decide +kernel
theorem own_d_jdk_42_method_54_code_4 : decode jdk_42_method_54_code 4 = .ok (.arraylength, 1) := by decide +kernel
theorem own_d_jdk_42_method_54_code_5 : decode jdk_42_method_54_code 5 = .ok (.aload_n 0, 1) := by decide +kernel
theorem own_d_jdk_42_method_54_code_6 : decode jdk_42_method_54_code 6 = .ok (.invokevirtual 335, 3) := by decide +kernel
theorem own_d_jdk_42_method_54_code_9 : decode jdk_42_method_54_code 9 = .ok (.ishr, 1) := by decide +kernel
theorem own_d_jdk_42_method_54_code_10 : decode jdk_42_method_54_code 10 = .ok (.ireturn, 1) := by decide +kernel
theorem own_pd12 : parseMethodDescriptor "()I" = some ⟨[], some .int⟩ := by decide +kernel
abbrev own_rm_own_slenL : Room := ({ frames := 1, cells := 0, slots := 0, locals := 13 } : Room)
set_option maxRecDepth 65536 in
set_option maxHeartbeats 40000000 in
theorem own_slenL (l : Launch) (Z : State) (a0 : Array Value) (hw : ∀ d ∈ tables_1, d.before a0 Z = true) (a1 b1 : Addr) (ln : Int32) (ds : List Int32) (h0 : Heap) (n0 : Nat) (Z0 : n0 ≤ h0.size) (A1 : Exa Z h0 a1 "java/lang/String") (F1 : Fld Z h0 a1 "java/lang/String" "coder" "B" (.int (0 : Int32))) (F2 : Fld Z h0 a1 "java/lang/String" "value" "[B" (.ref b1)) (V1 : own_Vec Z h0 b1 .byte (own_l8 ds))(f_ln : own_I 32 ((ds.length : Nat) : Int) ln)(hd : ds.length ≤ 16) (cs : Int32) (fm dv : Value) (G0 : own_Gs Z h0 cs fm dv) (hcs : ¬ cs = 0) (hfm : fm.isRef = true) (hdv : dv.isRef = true) :
    own_Met l Z ({ cls := "java/lang/String", name := "length", desc := "()I" } : Jvm.MethodName) jdk_42_method_54_code 1 (some .int) [] own_rm_own_slenL #[(.ref a1)] h0 n0 (fun v h => (∃ r, v = some (.int r) ∧ own_I 16 ((ds.length : Nat) : Int) r) ∧ h = h0) := by
  have ww := fun (i : Nat) {d : Jvm.Cond} (q : tables_1[i]? = some d) => hw d (List.mem_of_getElem? q)
  refine own_meet (plainFor_of_name own_pn1) Z0 (Ls0 := #[oA a1]) (by intro m; first | (simp [entryFrame, mkF, argsToLocals, Value.category]; done) | rfl) ?_
  intro p e s m below meth c T0 X0
  refine own_aloadN X0 rfl rfl own_d_jdk_42_method_54_code_0 (pc' := 1) rfl ?_
  refine own_getF X0 (ww 33 rfl) F2 own_d_jdk_42_method_54_code_1 (pc' := 4) rfl fun T147 X147 => ?_
  refine own_len X147 V1 (v := ln) (by rw [own_l8_len]; exact own_i32 f_ln) own_d_jdk_42_method_54_code_4 (pc' := 5) rfl ?_
  refine own_aloadN X147 rfl rfl own_d_jdk_42_method_54_code_5 (pc' := 6) rfl ?_
  refine own_virtual X147 (own_coL l Z a0 hw a1 b1 _ n0 X147.le F1 cs fm dv G0 hcs hfm hdv) (C := "java/lang/String") rfl (ww 141 rfl) (ww 142 rfl) (ww 144 rfl) (ww 143 rfl) (ww 7 rfl) (ww 145 rfl) (by decide) rfl (by decide) (W := 1) (Nat.le_of_eq rfl) (by decide) (cells' := 0) (slots' := 0) rfl rfl (by decide) (by decide) A1 (argsL := []) (rest := [(.int ln)]) (lenOf own_pd11 rfl) rfl rfl own_d_jdk_42_method_54_code_6 (pc' := 9) rfl ?_
  rintro _ T148 h148 X148 ⟨rfl, e148⟩
  subst e148
  show own_Goal p e below _ T148 (mkF m 9 #[oA a1] [(.int (0 : Int32)), (.int ln)])
  obtain ⟨i149, e149⟩ : ∃ v, ln >>> ((0 : Int32) &&& 31) = v := ⟨_, rfl⟩
  have f149 := own_shr0_I f_ln e149
  refine own_ishr X148 e149 own_d_jdk_42_method_54_code_9 (pc' := 10) rfl ?_
  exact own_retI X148  own_d_jdk_42_method_54_code_10 rfl (by decide) (by decide) ⟨⟨_, rfl, f149.re rfl (by omega)⟩, rfl⟩
abbrev own_rm_own_coU : Room := ({ frames := 0, cells := 0, slots := 0, locals := 0 } : Room)
set_option maxRecDepth 65536 in
set_option maxHeartbeats 40000000 in
theorem own_coU (l : Launch) (Z : State) (a0 : Array Value) (hw : ∀ d ∈ tables_1, d.before a0 Z = true) (a1 b1 : Addr) (h0 : Heap) (n0 : Nat) (Z0 : n0 ≤ h0.size) (F1 : Fld Z h0 a1 "java/lang/String" "coder" "B" (.int (1 : Int32))) (cs : Int32) (fm dv : Value) (G0 : own_Gs Z h0 cs fm dv) (hcs : ¬ cs = 0) (hfm : fm.isRef = true) (hdv : dv.isRef = true) :
    own_Met l Z ({ cls := "java/lang/String", name := "coder", desc := "()B" } : Jvm.MethodName) jdk_42_method_152_code 1 (some .byte) [] own_rm_own_coU #[(.ref a1)] h0 n0 (fun v h => v = some (.int 1) ∧ h = h0) := by
  have ww := fun (i : Nat) {d : Jvm.Cond} (q : tables_1[i]? = some d) => hw d (List.mem_of_getElem? q)
  refine own_meet (plainFor_of_name own_pn1) Z0 (Ls0 := #[oA a1]) (by intro m; first | (simp [entryFrame, mkF, argsToLocals, Value.category]; done) | rfl) ?_
  intro p e s m below meth c T0 X0
  refine own_getS X0 (ww 19 rfl) G0.1 own_d_jdk_42_method_152_code_0 (pc' := 3) rfl fun T150 X150 => ?_
  have c151 : ¬ (cs = 0) := hcs
  refine own_ifF X150 (own_z_ne c151).1 own_d_jdk_42_method_152_code_3 (pc' := 6) rfl ?_
  refine own_aloadN X150 rfl rfl own_d_jdk_42_method_152_code_6 (pc' := 7) rfl ?_
  refine own_getF X150 (ww 31 rfl) F1 own_d_jdk_42_method_152_code_7 (pc' := 10) rfl fun T152 X152 => ?_
  refine own_goto X152 own_d_jdk_42_method_152_code_10 (pc' := 14) (by decide) (by decide) ?_
  exact own_retN X152 (t := .byte) (by decide) (by simp) own_d_jdk_42_method_152_code_14 rfl (by decide) (by decide) ⟨rfl, rfl⟩
abbrev own_rm_own_slenU : Room := ({ frames := 1, cells := 0, slots := 0, locals := 13 } : Room)
set_option maxRecDepth 65536 in
set_option maxHeartbeats 40000000 in
theorem own_slenU (l : Launch) (Z : State) (a0 : Array Value) (hw : ∀ d ∈ tables_1, d.before a0 Z = true) (a1 b1 : Addr) (ln : Int32) (ds : List Int32) (h0 : Heap) (n0 : Nat) (Z0 : n0 ≤ h0.size) (A1 : Exa Z h0 a1 "java/lang/String") (F1 : Fld Z h0 a1 "java/lang/String" "coder" "B" (.int (1 : Int32))) (F2 : Fld Z h0 a1 "java/lang/String" "value" "[B" (.ref b1)) (V1 : own_Vec Z h0 b1 .byte (own_u16 ds))(f_ln : own_I 32 (2 * ((ds.length : Nat) : Int)) ln)(hd : ds.length ≤ 16) (cs : Int32) (fm dv : Value) (G0 : own_Gs Z h0 cs fm dv) (hcs : ¬ cs = 0) (hfm : fm.isRef = true) (hdv : dv.isRef = true) :
    own_Met l Z ({ cls := "java/lang/String", name := "length", desc := "()I" } : Jvm.MethodName) jdk_42_method_54_code 1 (some .int) [] own_rm_own_slenU #[(.ref a1)] h0 n0 (fun v h => (∃ r, v = some (.int r) ∧ own_I 16 ((ds.length : Nat) : Int) r) ∧ h = h0) := by
  have ww := fun (i : Nat) {d : Jvm.Cond} (q : tables_1[i]? = some d) => hw d (List.mem_of_getElem? q)
  refine own_meet (plainFor_of_name own_pn1) Z0 (Ls0 := #[oA a1]) (by intro m; first | (simp [entryFrame, mkF, argsToLocals, Value.category]; done) | rfl) ?_
  intro p e s m below meth c T0 X0
  refine own_aloadN X0 rfl rfl own_d_jdk_42_method_54_code_0 (pc' := 1) rfl ?_
  refine own_getF X0 (ww 33 rfl) F2 own_d_jdk_42_method_54_code_1 (pc' := 4) rfl fun T153 X153 => ?_
  refine own_len X153 V1 (v := ln) (by rw [own_u16_len]; exact own_i32 (f_ln.of_eq (by omega))) own_d_jdk_42_method_54_code_4 (pc' := 5) rfl ?_
  refine own_aloadN X153 rfl rfl own_d_jdk_42_method_54_code_5 (pc' := 6) rfl ?_
  refine own_virtual X153 (own_coU l Z a0 hw a1 b1 _ n0 X153.le F1 cs fm dv G0 hcs hfm hdv) (C := "java/lang/String") rfl (ww 141 rfl) (ww 142 rfl) (ww 144 rfl) (ww 143 rfl) (ww 7 rfl) (ww 145 rfl) (by decide) rfl (by decide) (W := 1) (Nat.le_of_eq rfl) (by decide) (cells' := 0) (slots' := 0) rfl rfl (by decide) (by decide) A1 (argsL := []) (rest := [(.int ln)]) (lenOf own_pd11 rfl) rfl rfl own_d_jdk_42_method_54_code_6 (pc' := 9) rfl ?_
  rintro _ T154 h154 X154 ⟨rfl, e154⟩
  subst e154
  show own_Goal p e below _ T154 (mkF m 9 #[oA a1] [(.int (1 : Int32)), (.int ln)])
  obtain ⟨i155, e155⟩ : ∃ v, ln >>> ((1 : Int32) &&& 31) = v := ⟨_, rfl⟩
  have f155 := own_shr1_I f_ln e155
  refine own_ishr X154 e155 own_d_jdk_42_method_54_code_9 (pc' := 10) rfl ?_
  exact own_retI X154  own_d_jdk_42_method_54_code_10 rfl (by decide) (by decide) ⟨⟨_, rfl, f155.re rfl (by omega)⟩, rfl⟩
theorem own_d_jdk_68_method_9_code_0 : decode jdk_68_method_9_code 0 = .ok (.aload_n 0, 1) := by decide +kernel
theorem own_d_jdk_68_method_9_code_1 : decode jdk_68_method_9_code 1 = .ok (.getfield 15, 3) := by decide +kernel
theorem own_d_jdk_68_method_9_code_4 : decode jdk_68_method_9_code 4 = .ok (.arraylength, 1) := by decide +kernel
theorem own_d_jdk_68_method_9_code_5 : decode jdk_68_method_9_code 5 = .ok (.aload_n 0, 1) := by decide +kernel
theorem own_d_jdk_68_method_9_code_6 : decode jdk_68_method_9_code 6 = .ok (.getfield 22, 3) := by decide +kernel
theorem own_d_jdk_68_method_9_code_9 : decode jdk_68_method_9_code 9 = .ok (.ishr, 1) := by decide +kernel
theorem own_d_jdk_68_method_9_code_10 : decode jdk_68_method_9_code 10 = .ok (.istore_n 2, 1) := by decide +kernel
theorem own_d_jdk_68_method_9_code_11 : decode jdk_68_method_9_code 11 = .ok (.iload_n 1, 1) := by decide +kernel
theorem own_d_jdk_68_method_9_code_12 : decode jdk_68_method_9_code 12 = .ok (.iload_n 2, 1) := by decide +kernel
theorem own_d_jdk_68_method_9_code_13 : decode jdk_68_method_9_code 13 = .ok (.isub, 1) := by decide +kernel
theorem own_d_jdk_68_method_9_code_14 : decode jdk_68_method_9_code 14 = .ok (.ifCond .le 24, 3) := by decide +kernel
theorem own_d_jdk_68_method_9_code_17 : decode jdk_68_method_9_code 17 = .ok (.aload_n 0, 1) := by decide +kernel
theorem own_d_jdk_68_method_9_code_18 : decode jdk_68_method_9_code 18 = .ok (.aload_n 0, 1) := by decide +kernel
theorem own_d_jdk_68_method_9_code_19 : decode jdk_68_method_9_code 19 = .ok (.getfield 15, 3) := by decide +kernel
theorem own_d_jdk_68_method_9_code_22 : decode jdk_68_method_9_code 22 = .ok (.aload_n 0, 1) := by decide +kernel
theorem own_d_jdk_68_method_9_code_23 : decode jdk_68_method_9_code 23 = .ok (.iload_n 1, 1) := by decide +kernel
theorem own_d_jdk_68_method_9_code_24 : decode jdk_68_method_9_code 24 = .ok (.invokevirtual 104, 3) := by decide +kernel
theorem own_d_jdk_68_method_9_code_27 : decode jdk_68_method_9_code 27 = .ok (.aload_n 0, 1) := by decide +kernel
theorem own_d_jdk_68_method_9_code_28 : decode jdk_68_method_9_code 28 = .ok (.getfield 22, 3) := by decide +kernel
theorem own_d_jdk_68_method_9_code_31 : decode jdk_68_method_9_code 31 = .ok (.ishl, 1) := by decide +kernel
theorem own_d_jdk_68_method_9_code_32 : decode jdk_68_method_9_code 32 = .ok (.invokestatic 108, 3) := by decide +kernel
theorem own_d_jdk_68_method_9_code_35 : decode jdk_68_method_9_code 35 = .ok (.putfield 15, 3) := by decide +kernel
theorem own_d_jdk_68_method_9_code_38 : decode jdk_68_method_9_code 38 = .ok (.return_, 1) := by decide +kernel
theorem own_pd13 : parseMethodDescriptor "(I)V" = some ⟨[.int], none⟩ := by decide +kernel
theorem own_pn3 : plainName "java/lang/AbstractStringBuilder" = true := by first | (simp [plainName, overriddenIn]; done) | decide +kernel
abbrev own_rm_own_ensL : Room := ({ frames := 0, cells := 0, slots := 0, locals := 0 } : Room)
set_option maxRecDepth 65536 in
set_option maxHeartbeats 40000000 in
theorem own_ensL (l : Launch) (Z : State) (a0 : Array Value) (hw : ∀ d ∈ tables_1, d.before a0 Z = true) (a1 b1 : Addr) (n1 : Int32) (cs_ : List Int32) (pad : List Value) (x0 : Int32) (k : Nat) (h0 : Heap) (n0 : Nat) (Z0 : n0 ≤ h0.size) (ge1 : n0 ≤ a1) (gb1 : n0 ≤ b1) (A1 : Exa Z h0 a1 "java/lang/StringBuilder") (F1 : Fld Z h0 a1 "java/lang/AbstractStringBuilder" "count" "I" (.int n1)) (F2 : Fld Z h0 a1 "java/lang/AbstractStringBuilder" "coder" "B" (.int (0 : Int32))) (F3 : Fld Z h0 a1 "java/lang/AbstractStringBuilder" "value" "[B" (.ref b1)) (F4 : Fld Z h0 a1 "java/lang/AbstractStringBuilder" "maybeLatin1" "Z" (.int (0 : Int32))) (V1 : own_Vec Z h0 b1 .byte (own_l8 cs_ ++ pad)) (hvl : (own_l8 cs_ ++ pad).length = 16) (hpf : pad.all (fits .byte) = true) (f_n1 : own_I 16 ((cs_.length : Nat) : Int) n1) (N1 : a1 ≠ b1) (f_x0 : own_I 32 ((k : Nat) : Int) x0) (hk : k ≤ 16) :
    own_Met l Z ({ cls := "java/lang/AbstractStringBuilder", name := "ensureCapacityInternal", desc := "(I)V" } : Jvm.MethodName) jdk_68_method_9_code 3 none [] own_rm_own_ensL #[(.ref a1), (.int x0)] h0 n0 (fun v h => v = none ∧ h = h0) := by
  have ww := fun (i : Nat) {d : Jvm.Cond} (q : tables_1[i]? = some d) => hw d (List.mem_of_getElem? q)
  refine own_meet (plainFor_of_name own_pn3) Z0 (Ls0 := #[oA a1, oI x0, oU]) (by intro m; first | (simp [entryFrame, mkF, argsToLocals, Value.category]; done) | rfl) ?_
  intro p e s m below meth c T0 X0
  refine own_aloadN X0 rfl rfl own_d_jdk_68_method_9_code_0 (pc' := 1) rfl ?_
  refine own_getF X0 (ww 122 rfl) F3 own_d_jdk_68_method_9_code_1 (pc' := 4) rfl fun T156 X156 => ?_
  refine own_len X156 V1 (v := (16 : Int32)) (show (own_l8 cs_ ++ pad).length.toInt32 = _ by rw [hvl]; decide) own_d_jdk_68_method_9_code_4 (pc' := 5) rfl ?_
  refine own_aloadN X156 rfl rfl own_d_jdk_68_method_9_code_5 (pc' := 6) rfl ?_
  refine own_getF X156 (ww 124 rfl) F2 own_d_jdk_68_method_9_code_6 (pc' := 9) rfl fun T157 X157 => ?_
  refine own_ishr X157 (v := (16 : Int32)) (by decide) own_d_jdk_68_method_9_code_9 (pc' := 10) rfl ?_
  refine own_istoreN X157 (Ls' := #[oA a1, oI x0, oI 16]) rfl own_d_jdk_68_method_9_code_10 (pc' := 11) rfl ?_
  refine own_iloadN X157 rfl own_d_jdk_68_method_9_code_11 (pc' := 12) rfl ?_
  refine own_iloadN X157 rfl own_d_jdk_68_method_9_code_12 (pc' := 13) rfl ?_
  obtain ⟨i158, e158⟩ : ∃ v, x0 - (16 : Int32) = v := ⟨_, rfl⟩
  have f159 : own_I 16 (16 : Int) (16 : Int32) := own_I.lit (by decide) (by decide)
  have f158 : own_I 48 (((k : Nat) : Int) - (16 : Int)) i158 := f_x0.sub f159 e158 (by decide) (by decide)
  refine own_isub X157 e158 own_d_jdk_68_method_9_code_13 (pc' := 14) rfl ?_
  have c160 : ¬ (0 < i158) := own_nlt32 (by rw [f158.1, show (0 : Int32).toInt = 0 by decide]; omega)
  refine own_ifT X157 (own_z_ngt c160).2 own_d_jdk_68_method_9_code_14 (pc' := 38) (by decide) (by decide) ?_
  exact own_retV X157  own_d_jdk_68_method_9_code_38 rfl (by decide) (by decide) ⟨rfl, rfl⟩
theorem own_d_jdk_68_method_68_code_0 : decode jdk_68_method_68_code 0 = .ok (.getstatic 18, 3) := by decide +kernel
theorem own_d_jdk_68_method_68_code_3 : decode jdk_68_method_68_code 3 = .ok (.ifCond .eq 14, 3) := by decide +kernel
theorem own_d_jdk_68_method_68_code_6 : decode jdk_68_method_68_code 6 = .ok (.aload_n 0, 1) := by decide +kernel
theorem own_d_jdk_68_method_68_code_7 : decode jdk_68_method_68_code 7 = .ok (.getfield 22, 3) := by decide +kernel
theorem own_d_jdk_68_method_68_code_10 : decode jdk_68_method_68_code 10 = .ok (.ifCond .ne 7, 3) := by decide +kernel
theorem own_d_jdk_68_method_68_code_13 : decode jdk_68_method_68_code 13 = .ok (.iconst 1, 1) := by decide +kernel
theorem own_d_jdk_68_method_68_code_14 : decode jdk_68_method_68_code 14 = .ok (.goto 4, 3) := by decide +kernel
theorem own_d_jdk_68_method_68_code_17 : decode jdk_68_method_68_code 17 = .ok (.iconst 0, 1) := by decide +kernel
theorem own_d_jdk_68_method_68_code_18 : decode jdk_68_method_68_code 18 = .ok (.ireturn, 1) := by decide +kernel
theorem own_pd14 : parseMethodDescriptor "()Z" = some ⟨[], some .boolean⟩ := by decide +kernel
abbrev own_rm_own_islL : Room := ({ frames := 0, cells := 0, slots := 0, locals := 0 } : Room)
set_option maxRecDepth 65536 in
set_option maxHeartbeats 40000000 in
theorem own_islL (l : Launch) (Z : State) (a0 : Array Value) (hw : ∀ d ∈ tables_1, d.before a0 Z = true) (a1 : Addr) (h0 : Heap) (n0 : Nat) (Z0 : n0 ≤ h0.size) (F2 : Fld Z h0 a1 "java/lang/AbstractStringBuilder" "coder" "B" (.int (0 : Int32))) (cs : Int32) (fm dv : Value) (G0 : own_Gs Z h0 cs fm dv) (hcs : ¬ cs = 0) (hfm : fm.isRef = true) (hdv : dv.isRef = true) :
    own_Met l Z ({ cls := "java/lang/AbstractStringBuilder", name := "isLatin1", desc := "()Z" } : Jvm.MethodName) jdk_68_method_68_code 1 (some .boolean) [] own_rm_own_islL #[(.ref a1)] h0 n0 (fun v h => v = some (.int 1) ∧ h = h0) := by
  have ww := fun (i : Nat) {d : Jvm.Cond} (q : tables_1[i]? = some d) => hw d (List.mem_of_getElem? q)
  refine own_meet (plainFor_of_name own_pn3) Z0 (Ls0 := #[oA a1]) (by intro m; first | (simp [entryFrame, mkF, argsToLocals, Value.category]; done) | rfl) ?_
  intro p e s m below meth c T0 X0
  refine own_getS X0 (ww 121 rfl) G0.1 own_d_jdk_68_method_68_code_0 (pc' := 3) rfl fun T161 X161 => ?_
  have c162 : ¬ (cs = 0) := hcs
  refine own_ifF X161 (own_z_ne c162).1 own_d_jdk_68_method_68_code_3 (pc' := 6) rfl ?_
  refine own_aloadN X161 rfl rfl own_d_jdk_68_method_68_code_6 (pc' := 7) rfl ?_
  refine own_getF X161 (ww 124 rfl) F2 own_d_jdk_68_method_68_code_7 (pc' := 10) rfl fun T163 X163 => ?_
  refine own_ifF X163 (by decide) own_d_jdk_68_method_68_code_10 (pc' := 13) rfl ?_
  refine own_iconst X163 (v := (1 : Int32)) (by decide) own_d_jdk_68_method_68_code_13 (pc' := 14) rfl ?_
  refine own_goto X163 own_d_jdk_68_method_68_code_14 (pc' := 18) (by decide) (by decide) ?_
  exact own_retZ X163 (by decide) own_d_jdk_68_method_68_code_18 rfl (by decide) (by decide) ⟨rfl, rfl⟩
abbrev own_rm_own_ensU : Room := ({ frames := 0, cells := 0, slots := 0, locals := 0 } : Room)
set_option maxRecDepth 65536 in
set_option maxHeartbeats 40000000 in
theorem own_ensU (l : Launch) (Z : State) (a0 : Array Value) (hw : ∀ d ∈ tables_1, d.before a0 Z = true) (a1 b1 : Addr) (n1 : Int32) (cs_ : List Int32) (pad : List Value) (x0 : Int32) (k : Nat) (h0 : Heap) (n0 : Nat) (Z0 : n0 ≤ h0.size) (ge1 : n0 ≤ a1) (gb1 : n0 ≤ b1) (A1 : Exa Z h0 a1 "java/lang/StringBuilder") (F1 : Fld Z h0 a1 "java/lang/AbstractStringBuilder" "count" "I" (.int n1)) (F2 : Fld Z h0 a1 "java/lang/AbstractStringBuilder" "coder" "B" (.int (1 : Int32))) (F3 : Fld Z h0 a1 "java/lang/AbstractStringBuilder" "value" "[B" (.ref b1)) (F4 : Fld Z h0 a1 "java/lang/AbstractStringBuilder" "maybeLatin1" "Z" (.int (0 : Int32))) (V1 : own_Vec Z h0 b1 .byte (own_u16 cs_ ++ pad)) (hvl : (own_u16 cs_ ++ pad).length = 32) (hpf : pad.all (fits .byte) = true) (f_n1 : own_I 16 ((cs_.length : Nat) : Int) n1) (N1 : a1 ≠ b1) (f_x0 : own_I 32 ((k : Nat) : Int) x0) (hk : k ≤ 16) :
    own_Met l Z ({ cls := "java/lang/AbstractStringBuilder", name := "ensureCapacityInternal", desc := "(I)V" } : Jvm.MethodName) jdk_68_method_9_code 3 none [] own_rm_own_ensU #[(.ref a1), (.int x0)] h0 n0 (fun v h => v = none ∧ h = h0) := by
  have ww := fun (i : Nat) {d : Jvm.Cond} (q : tables_1[i]? = some d) => hw d (List.mem_of_getElem? q)
  refine own_meet (plainFor_of_name own_pn3) Z0 (Ls0 := #[oA a1, oI x0, oU]) (by intro m; first | (simp [entryFrame, mkF, argsToLocals, Value.category]; done) | rfl) ?_
  intro p e s m below meth c T0 X0
  refine own_aloadN X0 rfl rfl own_d_jdk_68_method_9_code_0 (pc' := 1) rfl ?_
  refine own_getF X0 (ww 122 rfl) F3 own_d_jdk_68_method_9_code_1 (pc' := 4) rfl fun T164 X164 => ?_
  refine own_len X164 V1 (v := (32 : Int32)) (show (own_u16 cs_ ++ pad).length.toInt32 = _ by rw [hvl]; decide) own_d_jdk_68_method_9_code_4 (pc' := 5) rfl ?_
  refine own_aloadN X164 rfl rfl own_d_jdk_68_method_9_code_5 (pc' := 6) rfl ?_
  refine own_getF X164 (ww 124 rfl) F2 own_d_jdk_68_method_9_code_6 (pc' := 9) rfl fun T165 X165 => ?_
  refine own_ishr X165 (v := (16 : Int32)) (by decide) own_d_jdk_68_method_9_code_9 (pc' := 10) rfl ?_
  refine own_istoreN X165 (Ls' := #[oA a1, oI x0, oI 16]) rfl own_d_jdk_68_method_9_code_10 (pc' := 11) rfl ?_
  refine own_iloadN X165 rfl own_d_jdk_68_method_9_code_11 (pc' := 12) rfl ?_
  refine own_iloadN X165 rfl own_d_jdk_68_method_9_code_12 (pc' := 13) rfl ?_
  obtain ⟨i166, e166⟩ : ∃ v, x0 - (16 : Int32) = v := ⟨_, rfl⟩
  have f167 : own_I 16 (16 : Int) (16 : Int32) := own_I.lit (by decide) (by decide)
  have f166 : own_I 48 (((k : Nat) : Int) - (16 : Int)) i166 := f_x0.sub f167 e166 (by decide) (by decide)
  refine own_isub X165 e166 own_d_jdk_68_method_9_code_13 (pc' := 14) rfl ?_
  have c168 : ¬ (0 < i166) := own_nlt32 (by rw [f166.1, show (0 : Int32).toInt = 0 by decide]; omega)
  refine own_ifT X165 (own_z_ngt c168).2 own_d_jdk_68_method_9_code_14 (pc' := 38) (by decide) (by decide) ?_
  exact own_retV X165  own_d_jdk_68_method_9_code_38 rfl (by decide) (by decide) ⟨rfl, rfl⟩
abbrev own_rm_own_islU : Room := ({ frames := 0, cells := 0, slots := 0, locals := 0 } : Room)
set_option maxRecDepth 65536 in
set_option maxHeartbeats 40000000 in
theorem own_islU (l : Launch) (Z : State) (a0 : Array Value) (hw : ∀ d ∈ tables_1, d.before a0 Z = true) (a1 : Addr) (h0 : Heap) (n0 : Nat) (Z0 : n0 ≤ h0.size) (F2 : Fld Z h0 a1 "java/lang/AbstractStringBuilder" "coder" "B" (.int (1 : Int32))) (cs : Int32) (fm dv : Value) (G0 : own_Gs Z h0 cs fm dv) (hcs : ¬ cs = 0) (hfm : fm.isRef = true) (hdv : dv.isRef = true) :
    own_Met l Z ({ cls := "java/lang/AbstractStringBuilder", name := "isLatin1", desc := "()Z" } : Jvm.MethodName) jdk_68_method_68_code 1 (some .boolean) [] own_rm_own_islU #[(.ref a1)] h0 n0 (fun v h => v = some (.int 0) ∧ h = h0) := by
  have ww := fun (i : Nat) {d : Jvm.Cond} (q : tables_1[i]? = some d) => hw d (List.mem_of_getElem? q)
  refine own_meet (plainFor_of_name own_pn3) Z0 (Ls0 := #[oA a1]) (by intro m; first | (simp [entryFrame, mkF, argsToLocals, Value.category]; done) | rfl) ?_
  intro p e s m below meth c T0 X0
  refine own_getS X0 (ww 121 rfl) G0.1 own_d_jdk_68_method_68_code_0 (pc' := 3) rfl fun T169 X169 => ?_
  have c170 : ¬ (cs = 0) := hcs
  refine own_ifF X169 (own_z_ne c170).1 own_d_jdk_68_method_68_code_3 (pc' := 6) rfl ?_
  refine own_aloadN X169 rfl rfl own_d_jdk_68_method_68_code_6 (pc' := 7) rfl ?_
  refine own_getF X169 (ww 124 rfl) F2 own_d_jdk_68_method_68_code_7 (pc' := 10) rfl fun T171 X171 => ?_
  refine own_ifT X171 (by decide) own_d_jdk_68_method_68_code_10 (pc' := 17) (by decide) (by decide) ?_
  refine own_iconst X171 (v := (0 : Int32)) (by decide) own_d_jdk_68_method_68_code_17 (pc' := 18) rfl ?_
  exact own_retZ X171 (by decide) own_d_jdk_68_method_68_code_18 rfl (by decide) (by decide) ⟨rfl, rfl⟩
theorem own_d_jdk_41_method_13_code_0 : decode jdk_41_method_13_code 0 = .ok (.iload_n 2, 1) := by decide +kernel
theorem own_d_jdk_41_method_13_code_1 : decode jdk_41_method_13_code 1 = .ok (.iload_n 0, 1) := by decide +kernel
theorem own_d_jdk_41_method_13_code_2 : decode jdk_41_method_13_code 2 = .ok (.ior, 1) := by decide +kernel
theorem own_d_jdk_41_method_13_code_3 : decode jdk_41_method_13_code 3 = .ok (.iload_n 1, 1) := by decide +kernel
theorem own_d_jdk_41_method_13_code_4 : decode jdk_41_method_13_code 4 = .ok (.ior, 1) := by decide +kernel
theorem own_d_jdk_41_method_13_code_5 : decode jdk_41_method_13_code 5 = .ok (.ifCond .lt 10, 3) := by decide +kernel
theorem own_d_jdk_41_method_13_code_8 : decode jdk_41_method_13_code 8 = .ok (.iload_n 1, 1) := by decide +kernel
theorem own_d_jdk_41_method_13_code_9 : decode jdk_41_method_13_code 9 = .ok (.iload_n 2, 1) := by decide +kernel
theorem own_d_jdk_41_method_13_code_10 : decode jdk_41_method_13_code 10 = .ok (.iload_n 0, 1) := by decide +kernel
theorem own_d_jdk_41_method_13_code_11 : decode jdk_41_method_13_code 11 = .ok (.isub, 1) := by decide +kernel
theorem own_d_jdk_41_method_13_code_12 : decode jdk_41_method_13_code 12 = .ok (.if_icmp .le 11, 3) := by decide +kernel
theorem own_d_jdk_41_method_13_code_15 : decode jdk_41_method_13_code 15 = .ok (.aload_n 3, 1) := by decide +kernel
theorem own_d_jdk_41_method_13_code_16 : decode jdk_41_method_13_code 16 = .ok (.iload_n 0, 1) := by decide +kernel
theorem own_d_jdk_41_method_13_code_17 : decode jdk_41_method_13_code 17 = .ok (.iload_n 1, 1) := by decide +kernel
theorem own_d_jdk_41_method_13_code_18 : decode jdk_41_method_13_code 18 = .ok (.iload_n 2, 1) := by decide +kernel
theorem own_d_jdk_41_method_13_code_19 : decode jdk_41_method_13_code 19 = .ok (.invokestatic 103, 3) := by decide +kernel
theorem own_d_jdk_41_method_13_code_22 : decode jdk_41_method_13_code 22 = .ok (.athrow, 1) := by decide +kernel
theorem own_d_jdk_41_method_13_code_23 : decode jdk_41_method_13_code 23 = .ok (.iload_n 0, 1) := by decide +kernel
theorem own_d_jdk_41_method_13_code_24 : decode jdk_41_method_13_code 24 = .ok (.ireturn, 1) := by decide +kernel
theorem own_pd15 : parseMethodDescriptor "(IIILjava/util/function/BiFunction;)I" = some ⟨[.int, .int, .int, (.object "java/util/function/BiFunction")], some .int⟩ := by decide +kernel
theorem own_pn4 : plainName "jdk/internal/util/Preconditions" = true := by first | (simp [plainName, overriddenIn]; done) | decide +kernel
abbrev own_rm_own_cfs : Room := ({ frames := 0, cells := 0, slots := 0, locals := 0 } : Room)
set_option maxRecDepth 65536 in
set_option maxHeartbeats 40000000 in
theorem own_cfs (l : Launch) (Z : State) (a0 : Array Value) (hw : ∀ d ∈ tables_1, d.before a0 Z = true) (x0 nn : Int32) (k nk : Nat) (fm : Value) (h0 : Heap) (n0 : Nat) (Z0 : n0 ≤ h0.size) (f_x0 : own_I 16 ((k : Nat) : Int) x0) (f_nn : own_I 16 ((nk : Nat) : Int) nn) (hkn : k + nk ≤ 16)(hfm : fm.isRef = true) :
    own_Met l Z ({ cls := "jdk/internal/util/Preconditions", name := "checkFromIndexSize", desc := "(IIILjava/util/function/BiFunction;)I" } : Jvm.MethodName) jdk_41_method_13_code 4 (some .int) [] own_rm_own_cfs #[(.int x0), (.int nn), (.int (16 : Int32)), fm] h0 n0 (fun v h => v = some (.int x0) ∧ h = h0) := by
  have ww := fun (i : Nat) {d : Jvm.Cond} (q : tables_1[i]? = some d) => hw d (List.mem_of_getElem? q)
  refine own_meet (plainFor_of_name own_pn4) Z0 (Ls0 := #[oI x0, oI nn, oI 16, .val fm]) (by intro m; cases fm <;> first | rfl | (exact absurd hfm (by simp [Value.isRef]))) ?_
  intro p e s m below meth c T0 X0
  refine own_iloadN X0 rfl own_d_jdk_41_method_13_code_0 (pc' := 1) rfl ?_
  refine own_iloadN X0 rfl own_d_jdk_41_method_13_code_1 (pc' := 2) rfl ?_
  obtain ⟨i172, e172⟩ : ∃ v, (16 : Int32) ||| x0 = v := ⟨_, rfl⟩
  refine own_ior X0 e172 own_d_jdk_41_method_13_code_2 (pc' := 3) rfl ?_
  refine own_iloadN X0 rfl own_d_jdk_41_method_13_code_3 (pc' := 4) rfl ?_
  obtain ⟨i173, e173⟩ : ∃ v, i172 ||| nn = v := ⟨_, rfl⟩
  refine own_ior X0 e173 own_d_jdk_41_method_13_code_4 (pc' := 5) rfl ?_
  have c174 : ¬ (i173 < 0) := own_nlt0 (own_or_nn (own_or_nn (by decide) (by rw [f_x0.1]; omega) e172) (by rw [f_nn.1]; omega) e173)
  refine own_ifF X0 (own_z_nlt c174).1 own_d_jdk_41_method_13_code_5 (pc' := 8) rfl ?_
  refine own_iloadN X0 rfl own_d_jdk_41_method_13_code_8 (pc' := 9) rfl ?_
  refine own_iloadN X0 rfl own_d_jdk_41_method_13_code_9 (pc' := 10) rfl ?_
  refine own_iloadN X0 rfl own_d_jdk_41_method_13_code_10 (pc' := 11) rfl ?_
  obtain ⟨i175, e175⟩ : ∃ v, (16 : Int32) - x0 = v := ⟨_, rfl⟩
  have f176 : own_I 16 (16 : Int) (16 : Int32) := own_I.lit (by decide) (by decide)
  have f175 : own_I 32 ((16 : Int) - ((k : Nat) : Int)) i175 := f176.sub f_x0 e175 (by decide) (by decide)
  refine own_isub X0 e175 own_d_jdk_41_method_13_code_11 (pc' := 12) rfl ?_
  have c177 : ¬ (i175 < nn) := own_nlt32 (by rw [f175.1, f_nn.1]; omega)
  refine own_icmpT X0 (own_i_ngt c177).2 own_d_jdk_41_method_13_code_12 (pc' := 23) (by decide) (by decide) ?_
  refine own_iloadN X0 rfl own_d_jdk_41_method_13_code_23 (pc' := 24) rfl ?_
  exact own_retI X0  own_d_jdk_41_method_13_code_24 rfl (by decide) (by decide) ⟨rfl, rfl⟩
theorem own_d_jdk_42_method_157_code_0 : decode jdk_42_method_157_code 0 = .ok (.iload_n 0, 1) := by decide +kernel
theorem own_d_jdk_42_method_157_code_1 : decode jdk_42_method_157_code 1 = .ok (.iload_n 1, 1) := by decide +kernel
theorem own_d_jdk_42_method_157_code_2 : decode jdk_42_method_157_code 2 = .ok (.iload_n 2, 1) := by decide +kernel
theorem own_d_jdk_42_method_157_code_3 : decode jdk_42_method_157_code 3 = .ok (.getstatic 1053, 3) := by decide +kernel
theorem own_d_jdk_42_method_157_code_6 : decode jdk_42_method_157_code 6 = .ok (.invokestatic 1065, 3) := by decide +kernel
theorem own_d_jdk_42_method_157_code_9 : decode jdk_42_method_157_code 9 = .ok (.ireturn, 1) := by decide +kernel
theorem own_pd16 : parseMethodDescriptor "(III)I" = some ⟨[.int, .int, .int], some .int⟩ := by decide +kernel
abbrev own_rm_own_cb2 : Room := ({ frames := 1, cells := 0, slots := 0, locals := 15 } : Room)
set_option maxRecDepth 65536 in
set_option maxHeartbeats 40000000 in
theorem own_cb2 (l : Launch) (Z : State) (a0 : Array Value) (hw : ∀ d ∈ tables_1, d.before a0 Z = true) (x0 nn : Int32) (k nk : Nat) (h0 : Heap) (n0 : Nat) (Z0 : n0 ≤ h0.size) (f_x0 : own_I 16 ((k : Nat) : Int) x0) (f_nn : own_I 16 ((nk : Nat) : Int) nn) (hkn : k + nk ≤ 16)(cs : Int32) (fm dv : Value) (G0 : own_Gs Z h0 cs fm dv) (hcs : ¬ cs = 0) (hfm : fm.isRef = true) (hdv : dv.isRef = true) :
    own_Met l Z ({ cls := "java/lang/String", name := "checkBoundsOffCount", desc := "(III)I" } : Jvm.MethodName) jdk_42_method_157_code 3 (some .int) [] own_rm_own_cb2 #[(.int x0), (.int nn), (.int (16 : Int32))] h0 n0 (fun v h => v = some (.int x0) ∧ h = h0) := by
  have ww := fun (i : Nat) {d : Jvm.Cond} (q : tables_1[i]? = some d) => hw d (List.mem_of_getElem? q)
  refine own_meet (plainFor_of_name own_pn1) Z0 (Ls0 := #[oI x0, oI nn, oI 16]) (by intro m; first | (simp [entryFrame, mkF, argsToLocals, Value.category]; done) | rfl) ?_
  intro p e s m below meth c T0 X0
  refine own_iloadN X0 rfl own_d_jdk_42_method_157_code_0 (pc' := 1) rfl ?_
  refine own_iloadN X0 rfl own_d_jdk_42_method_157_code_1 (pc' := 2) rfl ?_
  refine own_iloadN X0 rfl own_d_jdk_42_method_157_code_2 (pc' := 3) rfl ?_
  refine own_getS X0 (ww 331 rfl) G0.2.2.2.2.1 own_d_jdk_42_method_157_code_3 (pc' := 6) rfl fun T178 X178 => ?_
  refine own_callS X178 (own_cfs l Z a0 hw x0 nn k nk fm _ n0 X178.le f_x0 f_nn hkn hfm) (ww 333 rfl) (ww 334 rfl) (ww 332 rfl) (ww 335 rfl) (by decide) rfl (by decide) (W := 0) (Nat.le_of_eq rfl) (by decide) (cells' := 0) (slots' := 0) rfl rfl (by decide) (by decide) (argsL := [(.int x0), (.int nn), (.int (16 : Int32)), fm]) (rest := []) (lenOf own_pd15 rfl) rfl rfl own_d_jdk_42_method_157_code_6 (pc' := 9) rfl ?_
  rintro _ T179 h179 X179 ⟨rfl, e179⟩
  subst e179
  show own_Goal p e below _ T179 (mkF m 9 #[oI x0, oI nn, oI 16] [(.int x0)])
  exact own_retI X179  own_d_jdk_42_method_157_code_9 rfl (by decide) (by decide) ⟨rfl, rfl⟩
theorem own_d_jdk_52_method_6_code_0 : decode jdk_52_method_6_code 0 = .ok (.aload_n 0, 1) := by decide +kernel
theorem own_d_jdk_52_method_6_code_1 : decode jdk_52_method_6_code 1 = .ok (.arraylength, 1) := by decide +kernel
theorem own_d_jdk_52_method_6_code_2 : decode jdk_52_method_6_code 2 = .ok (.iconst 1, 1) := by decide +kernel
theorem own_d_jdk_52_method_6_code_3 : decode jdk_52_method_6_code 3 = .ok (.ishr, 1) := by decide +kernel
theorem own_d_jdk_52_method_6_code_4 : decode jdk_52_method_6_code 4 = .ok (.ireturn, 1) := by decide +kernel
theorem own_pd17 : parseMethodDescriptor "([B)I" = some ⟨[(.array .byte)], some .int⟩ := by decide +kernel
abbrev own_rm_own_u16l : Room := ({ frames := 0, cells := 0, slots := 0, locals := 0 } : Room)
set_option maxRecDepth 65536 in
set_option maxHeartbeats 40000000 in
theorem own_u16l (l : Launch) (Z : State) (a0 : Array Value) (hw : ∀ d ∈ tables_1, d.before a0 Z = true) (b1 : Addr) (vs : List Value) (h0 : Heap) (n0 : Nat) (Z0 : n0 ≤ h0.size) (V1 : own_Vec Z h0 b1 .byte vs) (hvl : vs.length = 32) :
    own_Met l Z ({ cls := "java/lang/StringUTF16", name := "length", desc := "([B)I" } : Jvm.MethodName) jdk_52_method_6_code 1 (some .int) [] own_rm_own_u16l #[(.ref b1)] h0 n0 (fun v h => v = some (.int 16) ∧ h = h0) := by
  have ww := fun (i : Nat) {d : Jvm.Cond} (q : tables_1[i]? = some d) => hw d (List.mem_of_getElem? q)
  refine own_meet (plainFor_of_name own_pn0) Z0 (Ls0 := #[oA b1]) (by intro m; first | (simp [entryFrame, mkF, argsToLocals, Value.category]; done) | rfl) ?_
  intro p e s m below meth c T0 X0
  refine own_aloadN X0 rfl rfl own_d_jdk_52_method_6_code_0 (pc' := 1) rfl ?_
  refine own_len X0 V1 (v := (32 : Int32)) (show vs.length.toInt32 = _ by rw [hvl]; decide) own_d_jdk_52_method_6_code_1 (pc' := 2) rfl ?_
  refine own_iconst X0 (v := (1 : Int32)) (by decide) own_d_jdk_52_method_6_code_2 (pc' := 3) rfl ?_
  refine own_ishr X0 (v := (16 : Int32)) (by decide) own_d_jdk_52_method_6_code_3 (pc' := 4) rfl ?_
  exact own_retI X0  own_d_jdk_52_method_6_code_4 rfl (by decide) (by decide) ⟨rfl, rfl⟩
theorem own_d_jdk_52_method_94_code_0 : decode jdk_52_method_94_code 0 = .ok (.iload_n 0, 1) := by decide +kernel
theorem own_d_jdk_52_method_94_code_1 : decode jdk_52_method_94_code 1 = .ok (.iload_n 1, 1) := by decide +kernel
theorem own_d_jdk_52_method_94_code_2 : decode jdk_52_method_94_code 2 = .ok (.aload_n 2, 1) := by decide +kernel
theorem own_d_jdk_52_method_94_code_3 : decode jdk_52_method_94_code 3 = .ok (.invokestatic 48, 3) := by decide +kernel
theorem own_d_jdk_52_method_94_code_6 : decode jdk_52_method_94_code 6 = .ok (.invokestatic 419, 3) := by decide +kernel
theorem own_d_jdk_52_method_94_code_9 : decode jdk_52_method_94_code 9 = .ok (.pop, 1) := by decide +kernel
theorem own_d_jdk_52_method_94_code_10 : decode jdk_52_method_94_code 10 = .ok (.return_, 1) := by decide +kernel
theorem own_pd18 : parseMethodDescriptor "(II[B)V" = some ⟨[.int, .int, (.array .byte)], none⟩ := by decide +kernel
abbrev own_rm_own_cb1 : Room := ({ frames := 2, cells := 0, slots := 0, locals := 29 } : Room)
set_option maxRecDepth 65536 in
set_option maxHeartbeats 40000000 in
theorem own_cb1 (l : Launch) (Z : State) (a0 : Array Value) (hw : ∀ d ∈ tables_1, d.before a0 Z = true) (x0 nn : Int32) (k nk : Nat) (b1 : Addr) (vs : List Value) (h0 : Heap) (n0 : Nat) (Z0 : n0 ≤ h0.size) (f_x0 : own_I 16 ((k : Nat) : Int) x0) (f_nn : own_I 16 ((nk : Nat) : Int) nn) (hkn : k + nk ≤ 16)(V1 : own_Vec Z h0 b1 .byte vs) (hvl : vs.length = 32) (cs : Int32) (fm dv : Value) (G0 : own_Gs Z h0 cs fm dv) (hcs : ¬ cs = 0) (hfm : fm.isRef = true) (hdv : dv.isRef = true) :
    own_Met l Z ({ cls := "java/lang/StringUTF16", name := "checkBoundsOffCount", desc := "(II[B)V" } : Jvm.MethodName) jdk_52_method_94_code 3 none [] own_rm_own_cb1 #[(.int x0), (.int nn), (.ref b1)] h0 n0 (fun v h => v = none ∧ h = h0) := by
  have ww := fun (i : Nat) {d : Jvm.Cond} (q : tables_1[i]? = some d) => hw d (List.mem_of_getElem? q)
  refine own_meet (plainFor_of_name own_pn0) Z0 (Ls0 := #[oI x0, oI nn, oA b1]) (by intro m; first | (simp [entryFrame, mkF, argsToLocals, Value.category]; done) | rfl) ?_
  intro p e s m below meth c T0 X0
  refine own_iloadN X0 rfl own_d_jdk_52_method_94_code_0 (pc' := 1) rfl ?_
  refine own_iloadN X0 rfl own_d_jdk_52_method_94_code_1 (pc' := 2) rfl ?_
  refine own_aloadN X0 rfl rfl own_d_jdk_52_method_94_code_2 (pc' := 3) rfl ?_
  refine own_callS X0 (own_u16l l Z a0 hw b1 vs _ n0 X0.le V1 hvl) (ww 325 rfl) (ww 326 rfl) (ww 22 rfl) (ww 327 rfl) (by decide) rfl (by decide) (W := 2) (Nat.le_of_eq rfl) (by decide) (cells' := 0) (slots' := 0) rfl rfl (by decide) (by decide) (argsL := [(.ref b1)]) (rest := [(.int nn), (.int x0)]) (lenOf own_pd17 rfl) rfl rfl own_d_jdk_52_method_94_code_3 (pc' := 6) rfl ?_
  rintro _ T180 h180 X180 ⟨rfl, e180⟩
  subst e180
  show own_Goal p e below _ T180 (mkF m 6 #[oI x0, oI nn, oA b1] [(.int (16 : Int32)), (.int nn), (.int x0)])
  refine own_callS X180 (own_cb2 l Z a0 hw x0 nn k nk _ n0 X180.le f_x0 f_nn hkn cs fm dv G0 hcs hfm hdv) (ww 328 rfl) (ww 329 rfl) (ww 7 rfl) (ww 330 rfl) (by decide) rfl (by decide) (W := 0) (Nat.le_of_eq rfl) (by decide) (cells' := 0) (slots' := 0) rfl rfl (by decide) (by decide) (argsL := [(.int x0), (.int nn), (.int (16 : Int32))]) (rest := []) (lenOf own_pd16 rfl) rfl rfl own_d_jdk_52_method_94_code_6 (pc' := 9) rfl ?_
  rintro _ T181 h181 X181 ⟨rfl, e181⟩
  subst e181
  show own_Goal p e below _ T181 (mkF m 9 #[oI x0, oI nn, oA b1] [(.int x0)])
  refine own_pop X181 rfl own_d_jdk_52_method_94_code_9 (pc' := 10) rfl ?_
  exact own_retV X181  own_d_jdk_52_method_94_code_10 rfl (by decide) (by decide) ⟨rfl, rfl⟩
abbrev own_rm_own_inf : Room := ({ frames := 4, cells := 0, slots := 0, locals := 72 } : Room)
theorem own_d_jdk_52_method_86_code_0 : decode jdk_52_method_86_code 0 = .ok (.iload_n 3, 1) := by decide +kernel
theorem own_d_jdk_52_method_86_code_1 : decode jdk_52_method_86_code 1 = .ok (.iload 4, 2) := by decide +kernel
theorem own_d_jdk_52_method_86_code_3 : decode jdk_52_method_86_code 3 = .ok (.aload_n 2, 1) := by decide +kernel
theorem own_d_jdk_52_method_86_code_4 : decode jdk_52_method_86_code 4 = .ok (.invokestatic 173, 3) := by decide +kernel
theorem own_d_jdk_52_method_86_code_7 : decode jdk_52_method_86_code 7 = .ok (.iconst 0, 1) := by decide +kernel
theorem own_d_jdk_52_method_86_code_8 : decode jdk_52_method_86_code 8 = .ok (.istore 5, 2) := by decide +kernel
theorem own_d_jdk_52_method_86_code_10 : decode jdk_52_method_86_code 10 = .ok (.iload 5, 2) := by decide +kernel
theorem own_d_jdk_52_method_86_code_12 : decode jdk_52_method_86_code 12 = .ok (.iload 4, 2) := by decide +kernel
theorem own_d_jdk_52_method_86_code_14 : decode jdk_52_method_86_code 14 = .ok (.if_icmp .ge 27, 3) := by decide +kernel
theorem own_d_jdk_52_method_86_code_17 : decode jdk_52_method_86_code 17 = .ok (.aload_n 2, 1) := by decide +kernel
theorem own_d_jdk_52_method_86_code_18 : decode jdk_52_method_86_code 18 = .ok (.iload_n 3, 1) := by decide +kernel
theorem own_d_jdk_52_method_86_code_19 : decode jdk_52_method_86_code 19 = .ok (.iinc 3 1, 3) := by decide +kernel
theorem own_d_jdk_52_method_86_code_22 : decode jdk_52_method_86_code 22 = .ok (.aload_n 0, 1) := by decide +kernel
theorem own_d_jdk_52_method_86_code_23 : decode jdk_52_method_86_code 23 = .ok (.iload_n 1, 1) := by decide +kernel
theorem own_d_jdk_52_method_86_code_24 : decode jdk_52_method_86_code 24 = .ok (.iinc 1 1, 3) := by decide +kernel
theorem own_d_jdk_52_method_86_code_27 : decode jdk_52_method_86_code 27 = .ok (.baload, 1) := by decide +kernel
theorem own_d_jdk_52_method_86_code_28 : decode jdk_52_method_86_code 28 = .ok (.sipush 255, 3) := by decide +kernel
theorem own_d_jdk_52_method_86_code_31 : decode jdk_52_method_86_code 31 = .ok (.iand, 1) := by decide +kernel
theorem own_d_jdk_52_method_86_code_32 : decode jdk_52_method_86_code 32 = .ok (.invokestatic 111, 3) := by decide +kernel
theorem own_d_jdk_52_method_86_code_35 : decode jdk_52_method_86_code 35 = .ok (.iinc 5 1, 3) := by decide +kernel
theorem own_d_jdk_52_method_86_code_38 : decode jdk_52_method_86_code 38 = .ok (.goto (-28), 3) := by decide +kernel
theorem own_d_jdk_52_method_86_code_41 : decode jdk_52_method_86_code 41 = .ok (.return_, 1) := by decide +kernel
theorem own_pd19 : parseMethodDescriptor "([BI[BII)V" = some ⟨[(.array .byte), .int, (.array .byte), .int, .int], none⟩ := by decide +kernel
set_option maxRecDepth 65536 in
set_option maxHeartbeats 40000000 in
theorem own_inf_loop (l : Launch) (Z : State) (a0 : Array Value) (hw : ∀ d ∈ tables_1, d.before a0 Z = true) (b1 b2 : Addr) (nn : Int32) (es : List Int32) (k : Nat) (A Cc Qq : List Value) (hA : A.length = 2 * k) (hlat : ∀ c ∈ es, 0 ≤ c.toInt ∧ c.toInt ≤ 255) (hkn : k + es.length ≤ 16) (N1 : b1 ≠ b2) (cs : Int32) (fm dv : Value) (hcs : ¬ cs = 0) (hfm : fm.isRef = true) (hdv : dv.isRef = true) (h0 : Heap) (n0 : Nat) (ge2 : n0 ≤ b2) {p : Program} {e : Env} {s : State} {m : MethodId} {below : List Frame} {meth : Method} {c : Code} {args : Array Value} :
    ∀ (rem : List Int32) (done : List Int32) (x y : Int32) (B : List Value) (T0 : State) (hL : Heap), own_St p l e own_rm_own_inf s m args below meth c Z "java/lang/StringUTF16" jdk_52_method_86_code 6 none "inflate" n0 T0 hL 0 0 → es = done ++ rem → own_I 16 ((done.length : Nat) : Int) x → own_I 16 (((k + done.length : Nat)) : Int) y → own_I 16 ((es.length : Nat) : Int) nn → own_Vec Z hL b1 .byte (own_l8 es ++ Qq) → own_Vec Z hL b2 .byte (A ++ own_u16 done ++ B ++ Cc) → B.length = 2 * rem.length → Keep h0 hL [b2] → own_Gs Z hL cs fm dv → own_Goal p e below (own_Fin below s own_rm_own_inf n0 (fun v h => v = none ∧ own_Vec Z h b2 .byte (A ++ own_u16 es ++ Cc) ∧ Keep h0 h [b2])) T0 (mkF m 10 #[oA b1, oI x, oA b2, oI y, oI nn, oI x] []) := by
  have ww := fun (i : Nat) {d : Jvm.Cond} (q : tables_1[i]? = some d) => hw d (List.mem_of_getElem? q)
  intro rem
  induction rem with
  | nil =>
    intro done x y B T0 hL X0 hes f_x f_y f_nn V1 V2 hB K0 G0
    refine own_iload X0 rfl own_d_jdk_52_method_86_code_10 (pc' := 12) rfl ?_
    refine own_iload X0 rfl own_d_jdk_52_method_86_code_12 (pc' := 14) rfl ?_
    have c182 : ¬ (x < nn) := own_nlt32 (by rw [f_x.1, f_nn.1, hes]; simp)
    refine own_icmpT X0 (own_i_nlt c182).2 own_d_jdk_52_method_86_code_14 (pc' := 41) (by decide) (by decide) ?_
    exact own_retV X0  own_d_jdk_52_method_86_code_41 rfl (by decide) (by decide) ⟨rfl, V2.eq (own_inf_nil hB hes), K0⟩
  | cons cc rem ih =>
    intro done x y B T0 hL X0 hes f_x f_y f_nn V1 V2 hB K0 G0
    obtain ⟨p0, p1, B, rfl⟩ := own_two hB
    refine own_iload X0 rfl own_d_jdk_52_method_86_code_10 (pc' := 12) rfl ?_
    refine own_iload X0 rfl own_d_jdk_52_method_86_code_12 (pc' := 14) rfl ?_
    have c183 : x < nn := own_lt32 (by rw [f_x.1, f_nn.1, hes]; simp; omega)
    refine own_icmpF X0 (own_i_lt c183).2 own_d_jdk_52_method_86_code_14 (pc' := 17) rfl ?_
    refine own_aloadN X0 rfl rfl own_d_jdk_52_method_86_code_17 (pc' := 18) rfl ?_
    refine own_iloadN X0 rfl own_d_jdk_52_method_86_code_18 (pc' := 19) rfl ?_
    obtain ⟨i184, e184⟩ : ∃ v, y + Int32.ofInt 1 = v := ⟨_, rfl⟩
    have f184 : own_I 17 (((k + done.length : Nat) : Int) + 1) i184 := f_y.add (own_I.lit (x := Int32.ofInt 1) (i := 1) (B := 1) (by decide) (by decide)) e184 (by decide) (by decide)
    refine own_iinc X0 (Ls' := #[oA b1, oI x, oA b2, oI i184, oI nn, oI x]) rfl e184 rfl own_d_jdk_52_method_86_code_19 (pc' := 22) rfl ?_
    refine own_aloadN X0 rfl rfl own_d_jdk_52_method_86_code_22 (pc' := 23) rfl ?_
    refine own_iloadN X0 rfl own_d_jdk_52_method_86_code_23 (pc' := 24) rfl ?_
    obtain ⟨i185, e185⟩ : ∃ v, x + Int32.ofInt 1 = v := ⟨_, rfl⟩
    have f185 : own_I 17 (((done.length : Nat) : Int) + 1) i185 := f_x.add (own_I.lit (x := Int32.ofInt 1) (i := 1) (B := 1) (by decide) (by decide)) e185 (by decide) (by decide)
    refine own_iinc X0 (Ls' := #[oA b1, oI i185, oA b2, oI i184, oI nn, oI x]) rfl e185 rfl own_d_jdk_52_method_86_code_24 (pc' := 27) rfl ?_
    have ix186 := own_idx f_x (k := done.length) (by omega)
    refine own_baload X0 V1 (i := done.length) ix186.1 ix186.2 (v := .int (own_b cc)) (by rw [hes]; simp [own_l8]) own_d_jdk_52_method_86_code_27 (pc' := 28) rfl ?_
    refine own_sipush X0 (v := (255 : Int32)) (by decide) own_d_jdk_52_method_86_code_28 (pc' := 31) rfl ?_
    obtain ⟨i187, e187⟩ : ∃ v, (own_b cc) &&& (255 : Int32) = v := ⟨_, rfl⟩
    have f187 : own_I 255 i187.toInt i187 := own_I.and e187 (by decide)
    have nn187 := own_and_nn (M := 255) e187 (by decide)
    refine own_iand X0 e187 own_d_jdk_52_method_86_code_31 (pc' := 32) rfl ?_
    have hv : i187 = cc := own_b255 (hlat cc (by rw [hes]; simp)) e187
    refine own_callS X0 (own_pc l Z a0 hw b2 y i187 (k + done.length) _ _ n0 X0.le ge2 V2 (by simp [own_u16_len, hA]; omega) f_y cs fm dv G0 hcs hfm hdv) (ww 300 rfl) (ww 301 rfl) (ww 22 rfl) (ww 302 rfl) (by decide) rfl (by decide) (W := 0) (Nat.le_of_eq rfl) (by decide) (cells' := 0) (slots' := 0) rfl rfl (by decide) (by decide) (argsL := [(.ref b2), (.int y), (.int i187)]) (rest := []) (lenOf own_pd2 rfl) rfl rfl own_d_jdk_52_method_86_code_32 (pc' := 35) rfl ?_
    rintro _ T188 h188 X188 ⟨rfl, V188, K188⟩
    have S189 := G0.keep K188 (own_nsV V2 own_ns0)
    have V190 := V1.keep K188 (ninS N1 nin0)
    have K191 := K0.trans K188 (own_mem1 (Or.inl (by simp)))
    rw [hv, own_inf_step _ _ _ _ _ _ _ hA] at V188
    show own_Goal p e below _ T188 (mkF m 35 #[oA b1, oI i185, oA b2, oI i184, oI nn, oI x] [])
    obtain ⟨i192, e192⟩ : ∃ v, x + Int32.ofInt 1 = v := ⟨_, rfl⟩
    have f192 : own_I 17 (((done.length : Nat) : Int) + 1) i192 := f_x.add (own_I.lit (x := Int32.ofInt 1) (i := 1) (B := 1) (by decide) (by decide)) e192 (by decide) (by decide)
    refine own_iinc X188 (Ls' := #[oA b1, oI i185, oA b2, oI i184, oI nn, oI i192]) rfl e192 rfl own_d_jdk_52_method_86_code_35 (pc' := 38) rfl ?_
    refine own_goto X188 own_d_jdk_52_method_86_code_38 (pc' := 10) (by decide) (by decide) ?_
    subst e185 e184 e192
    exact ih (done ++ [cc]) _ _ B _ _ X188 (by rw [hes]; simp) (f185.re (by simp) (by have := f_nn.2; rw [hes] at this; simp at this ⊢; omega)) (f184.re (by simp; omega) (by have := hkn; rw [hes] at this; simp at this ⊢; omega)) f_nn V190 V188 (by simp at hB; omega) K191 S189
set_option maxRecDepth 65536 in
set_option maxHeartbeats 40000000 in
theorem own_inf_ (l : Launch) (Z : State) (a0 : Array Value) (hw : ∀ d ∈ tables_1, d.before a0 Z = true) (b1 b2 : Addr) (x0 nn : Int32) (es : List Int32) (k : Nat) (A B Cc Qq : List Value) (h0 : Heap) (n0 : Nat) (Z0 : n0 ≤ h0.size) (ge2 : n0 ≤ b2) (hA : A.length = 2 * k) (hB : B.length = 2 * es.length) (hlat : ∀ c ∈ es, 0 ≤ c.toInt ∧ c.toInt ≤ 255) (hkn : k + es.length ≤ 16) (N1 : b1 ≠ b2) (f_x0 : own_I 16 ((k : Nat) : Int) x0) (f_nn : own_I 16 ((es.length : Nat) : Int) nn) (V1 : own_Vec Z h0 b1 .byte (own_l8 es ++ Qq)) (V2 : own_Vec Z h0 b2 .byte (A ++ B ++ Cc)) (hvl : (A ++ B ++ Cc).length = 32) (cs : Int32) (fm dv : Value) (G0 : own_Gs Z h0 cs fm dv) (hcs : ¬ cs = 0) (hfm : fm.isRef = true) (hdv : dv.isRef = true) :
    own_Met l Z ({ cls := "java/lang/StringUTF16", name := "inflate", desc := "([BI[BII)V" } : Jvm.MethodName) jdk_52_method_86_code 6 none [] own_rm_own_inf #[(.ref b1), (.int (0 : Int32)), (.ref b2), (.int x0), (.int nn)] h0 n0 (fun v h => v = none ∧ own_Vec Z h b2 .byte (A ++ own_u16 es ++ Cc) ∧ Keep h0 h [b2]) := by
  have ww := fun (i : Nat) {d : Jvm.Cond} (q : tables_1[i]? = some d) => hw d (List.mem_of_getElem? q)
  refine own_meet (plainFor_of_name own_pn0) Z0 (Ls0 := #[oA b1, oI 0, oA b2, oI x0, oI nn, oU]) (by intro m; first | (simp [entryFrame, mkF, argsToLocals, Value.category]; done) | rfl) ?_
  intro p e s m below meth c T0 X0
  refine own_iloadN X0 rfl own_d_jdk_52_method_86_code_0 (pc' := 1) rfl ?_
  refine own_iload X0 rfl own_d_jdk_52_method_86_code_1 (pc' := 3) rfl ?_
  refine own_aloadN X0 rfl rfl own_d_jdk_52_method_86_code_3 (pc' := 4) rfl ?_
  refine own_callS X0 (own_cb1 l Z a0 hw x0 nn k es.length b2 _ _ n0 X0.le f_x0 f_nn hkn V2 hvl cs fm dv G0 hcs hfm hdv) (ww 322 rfl) (ww 323 rfl) (ww 22 rfl) (ww 324 rfl) (by decide) rfl (by decide) (W := 0) (Nat.le_of_eq rfl) (by decide) (cells' := 0) (slots' := 0) rfl rfl (by decide) (by decide) (argsL := [(.int x0), (.int nn), (.ref b2)]) (rest := []) (lenOf own_pd18 rfl) rfl rfl own_d_jdk_52_method_86_code_4 (pc' := 7) rfl ?_
  rintro _ T193 h193 X193 ⟨rfl, e193⟩
  subst e193
  show own_Goal p e below _ T193 (mkF m 7 #[oA b1, oI 0, oA b2, oI x0, oI nn, oU] [])
  refine own_iconst X193 (v := (0 : Int32)) (by decide) own_d_jdk_52_method_86_code_7 (pc' := 8) rfl ?_
  refine own_istore X193 (Ls' := #[oA b1, oI 0, oA b2, oI x0, oI nn, oI 0]) rfl own_d_jdk_52_method_86_code_8 (pc' := 10) rfl ?_
  exact own_inf_loop l Z a0 hw b1 b2 nn es k A Cc Qq hA hlat hkn N1 cs fm dv hcs hfm hdv _ n0 ge2 es [] _ _ B _ _ X193 rfl (own_I.lit (by decide) (by decide)) (f_x0.of_eq (by simp)) f_nn V1 (V2.eq (by simp [own_u16])) hB (Keep.refl _ [b2]) G0
theorem own_d_jdk_43_method_50_code_0 : decode jdk_43_method_50_code 0 = .ok (.aload_n 0, 1) := by decide +kernel
theorem own_d_jdk_43_method_50_code_1 : decode jdk_43_method_50_code 1 = .ok (.iload_n 1, 1) := by decide +kernel
theorem own_d_jdk_43_method_50_code_2 : decode jdk_43_method_50_code 2 = .ok (.aload_n 2, 1) := by decide +kernel
theorem own_d_jdk_43_method_50_code_3 : decode jdk_43_method_50_code 3 = .ok (.iload_n 3, 1) := by decide +kernel
theorem own_d_jdk_43_method_50_code_4 : decode jdk_43_method_50_code 4 = .ok (.iload 4, 2) := by decide +kernel
theorem own_d_jdk_43_method_50_code_6 : decode jdk_43_method_50_code 6 = .ok (.invokestatic 240, 3) := by decide +kernel
theorem own_d_jdk_43_method_50_code_9 : decode jdk_43_method_50_code 9 = .ok (.return_, 1) := by decide +kernel
abbrev own_rm_own_inl : Room := ({ frames := 5, cells := 0, slots := 0, locals := 89 } : Room)
set_option maxRecDepth 65536 in
set_option maxHeartbeats 40000000 in
theorem own_inl (l : Launch) (Z : State) (a0 : Array Value) (hw : ∀ d ∈ tables_1, d.before a0 Z = true) (b1 b2 : Addr) (x0 nn : Int32) (es : List Int32) (k : Nat) (A B Cc Qq : List Value) (h0 : Heap) (n0 : Nat) (Z0 : n0 ≤ h0.size) (ge2 : n0 ≤ b2) (hA : A.length = 2 * k) (hB : B.length = 2 * es.length) (hlat : ∀ c ∈ es, 0 ≤ c.toInt ∧ c.toInt ≤ 255) (hkn : k + es.length ≤ 16) (N1 : b1 ≠ b2) (f_x0 : own_I 16 ((k : Nat) : Int) x0) (f_nn : own_I 16 ((es.length : Nat) : Int) nn) (V1 : own_Vec Z h0 b1 .byte (own_l8 es ++ Qq)) (V2 : own_Vec Z h0 b2 .byte (A ++ B ++ Cc)) (hvl : (A ++ B ++ Cc).length = 32) (cs : Int32) (fm dv : Value) (G0 : own_Gs Z h0 cs fm dv) (hcs : ¬ cs = 0) (hfm : fm.isRef = true) (hdv : dv.isRef = true) :
    own_Met l Z ({ cls := "java/lang/StringLatin1", name := "inflate", desc := "([BI[BII)V" } : Jvm.MethodName) jdk_43_method_50_code 5 none [] own_rm_own_inl #[(.ref b1), (.int (0 : Int32)), (.ref b2), (.int x0), (.int nn)] h0 n0 (fun v h => v = none ∧ own_Vec Z h b2 .byte (A ++ own_u16 es ++ Cc) ∧ Keep h0 h [b2]) := by
  have ww := fun (i : Nat) {d : Jvm.Cond} (q : tables_1[i]? = some d) => hw d (List.mem_of_getElem? q)
  refine own_meet (plainFor_of_name own_pn2) Z0 (Ls0 := #[oA b1, oI 0, oA b2, oI x0, oI nn]) (by intro m; first | (simp [entryFrame, mkF, argsToLocals, Value.category]; done) | rfl) ?_
  intro p e s m below meth c T0 X0
  refine own_aloadN X0 rfl rfl own_d_jdk_43_method_50_code_0 (pc' := 1) rfl ?_
  refine own_iloadN X0 rfl own_d_jdk_43_method_50_code_1 (pc' := 2) rfl ?_
  refine own_aloadN X0 rfl rfl own_d_jdk_43_method_50_code_2 (pc' := 3) rfl ?_
  refine own_iloadN X0 rfl own_d_jdk_43_method_50_code_3 (pc' := 4) rfl ?_
  refine own_iload X0 rfl own_d_jdk_43_method_50_code_4 (pc' := 6) rfl ?_
  refine own_callS X0 (own_inf_ l Z a0 hw b1 b2 x0 nn es k A B Cc Qq _ n0 X0.le ge2 hA hB hlat hkn N1 f_x0 f_nn V1 V2 hvl cs fm dv G0 hcs hfm hdv) (ww 319 rfl) (ww 320 rfl) (ww 22 rfl) (ww 321 rfl) (by decide) rfl (by decide) (W := 0) (Nat.le_of_eq rfl) (by decide) (cells' := 0) (slots' := 0) rfl rfl (by decide) (by decide) (argsL := [(.ref b1), (.int (0 : Int32)), (.ref b2), (.int x0), (.int nn)]) (rest := []) (lenOf own_pd19 rfl) rfl rfl own_d_jdk_43_method_50_code_6 (pc' := 9) rfl ?_
  rintro _ T194 h194 X194 ⟨rfl, V194, K194⟩
  show own_Goal p e below _ T194 (mkF m 9 #[oA b1, oI 0, oA b2, oI x0, oI nn] [])
  exact own_retV X194  own_d_jdk_43_method_50_code_9 rfl (by decide) (by decide) ⟨rfl, V194, K194⟩
theorem own_d_jdk_68_method_11_code_0 : decode jdk_68_method_11_code 0 = .ok (.aload_n 0, 1) := by decide +kernel
theorem own_d_jdk_68_method_11_code_1 : decode jdk_68_method_11_code 1 = .ok (.invokevirtual 83, 3) := by decide +kernel
theorem own_d_jdk_68_method_11_code_4 : decode jdk_68_method_11_code 4 = .ok (.ifCond .ne 4, 3) := by decide +kernel
theorem own_d_jdk_68_method_11_code_7 : decode jdk_68_method_11_code 7 = .ok (.return_, 1) := by decide +kernel
theorem own_d_jdk_68_method_11_code_8 : decode jdk_68_method_11_code 8 = .ok (.aload_n 0, 1) := by decide +kernel
theorem own_d_jdk_68_method_11_code_9 : decode jdk_68_method_11_code 9 = .ok (.getfield 15, 3) := by decide +kernel
theorem own_d_jdk_68_method_11_code_12 : decode jdk_68_method_11_code 12 = .ok (.arraylength, 1) := by decide +kernel
theorem own_d_jdk_68_method_11_code_13 : decode jdk_68_method_11_code 13 = .ok (.invokestatic 26, 3) := by decide +kernel
theorem own_d_jdk_68_method_11_code_16 : decode jdk_68_method_11_code 16 = .ok (.astore_n 1, 1) := by decide +kernel
theorem own_d_jdk_68_method_11_code_17 : decode jdk_68_method_11_code 17 = .ok (.aload_n 0, 1) := by decide +kernel
theorem own_d_jdk_68_method_11_code_18 : decode jdk_68_method_11_code 18 = .ok (.getfield 15, 3) := by decide +kernel
theorem own_d_jdk_68_method_11_code_21 : decode jdk_68_method_11_code 21 = .ok (.iconst 0, 1) := by decide +kernel
theorem own_d_jdk_68_method_11_code_22 : decode jdk_68_method_11_code 22 = .ok (.aload_n 1, 1) := by decide +kernel
theorem own_d_jdk_68_method_11_code_23 : decode jdk_68_method_11_code 23 = .ok (.iconst 0, 1) := by decide +kernel
theorem own_d_jdk_68_method_11_code_24 : decode jdk_68_method_11_code 24 = .ok (.aload_n 0, 1) := by decide +kernel
theorem own_d_jdk_68_method_11_code_25 : decode jdk_68_method_11_code 25 = .ok (.getfield 79, 3) := by decide +kernel
theorem own_d_jdk_68_method_11_code_28 : decode jdk_68_method_11_code 28 = .ok (.invokestatic 125, 3) := by decide +kernel
theorem own_d_jdk_68_method_11_code_31 : decode jdk_68_method_11_code 31 = .ok (.aload_n 0, 1) := by decide +kernel
theorem own_d_jdk_68_method_11_code_32 : decode jdk_68_method_11_code 32 = .ok (.aload_n 1, 1) := by decide +kernel
theorem own_d_jdk_68_method_11_code_33 : decode jdk_68_method_11_code 33 = .ok (.putfield 15, 3) := by decide +kernel
theorem own_d_jdk_68_method_11_code_36 : decode jdk_68_method_11_code 36 = .ok (.aload_n 0, 1) := by decide +kernel
theorem own_d_jdk_68_method_11_code_37 : decode jdk_68_method_11_code 37 = .ok (.iconst 1, 1) := by decide +kernel
theorem own_d_jdk_68_method_11_code_38 : decode jdk_68_method_11_code 38 = .ok (.putfield 22, 3) := by decide +kernel
theorem own_d_jdk_68_method_11_code_41 : decode jdk_68_method_11_code 41 = .ok (.return_, 1) := by decide +kernel
theorem own_pd20 : parseMethodDescriptor "()V" = some ⟨[], none⟩ := by decide +kernel
abbrev own_rm_own_iflU : Room := ({ frames := 1, cells := 0, slots := 0, locals := 12 } : Room)
set_option maxRecDepth 65536 in
set_option maxHeartbeats 40000000 in
theorem own_iflU (l : Launch) (Z : State) (a0 : Array Value) (hw : ∀ d ∈ tables_1, d.before a0 Z = true) (a1 b1 : Addr) (n1 : Int32) (cs_ : List Int32) (pad : List Value) (h0 : Heap) (n0 : Nat) (Z0 : n0 ≤ h0.size) (ge1 : n0 ≤ a1) (gb1 : n0 ≤ b1) (A1 : Exa Z h0 a1 "java/lang/StringBuilder") (F1 : Fld Z h0 a1 "java/lang/AbstractStringBuilder" "count" "I" (.int n1)) (F2 : Fld Z h0 a1 "java/lang/AbstractStringBuilder" "coder" "B" (.int (1 : Int32))) (F3 : Fld Z h0 a1 "java/lang/AbstractStringBuilder" "value" "[B" (.ref b1)) (F4 : Fld Z h0 a1 "java/lang/AbstractStringBuilder" "maybeLatin1" "Z" (.int (0 : Int32))) (V1 : own_Vec Z h0 b1 .byte (own_u16 cs_ ++ pad)) (hvl : (own_u16 cs_ ++ pad).length = 32) (hpf : pad.all (fits .byte) = true) (f_n1 : own_I 16 ((cs_.length : Nat) : Int) n1) (N1 : a1 ≠ b1) (cs : Int32) (fm dv : Value) (G0 : own_Gs Z h0 cs fm dv) (hcs : ¬ cs = 0) (hfm : fm.isRef = true) (hdv : dv.isRef = true) :
    own_Met l Z ({ cls := "java/lang/AbstractStringBuilder", name := "inflate", desc := "()V" } : Jvm.MethodName) jdk_68_method_11_code 2 none [] own_rm_own_iflU #[(.ref a1)] h0 n0 (fun v h => v = none ∧ h = h0) := by
  have ww := fun (i : Nat) {d : Jvm.Cond} (q : tables_1[i]? = some d) => hw d (List.mem_of_getElem? q)
  refine own_meet (plainFor_of_name own_pn3) Z0 (Ls0 := #[oA a1, oU]) (by intro m; first | (simp [entryFrame, mkF, argsToLocals, Value.category]; done) | rfl) ?_
  intro p e s m below meth c T0 X0
  refine own_aloadN X0 rfl rfl own_d_jdk_68_method_11_code_0 (pc' := 1) rfl ?_
  refine own_virtual X0 (own_islU l Z a0 hw a1 _ n0 X0.le F2 cs fm dv G0 hcs hfm hdv) (C := "java/lang/StringBuilder") rfl (ww 314 rfl) (ww 201 rfl) (ww 203 rfl) (ww 202 rfl) (ww 118 rfl) (ww 204 rfl) (by decide) rfl (by decide) (W := 0) (Nat.le_of_eq rfl) (by decide) (cells' := 0) (slots' := 0) rfl rfl (by decide) (by decide) A1 (argsL := []) (rest := []) (lenOf own_pd14 rfl) rfl rfl own_d_jdk_68_method_11_code_1 (pc' := 4) rfl ?_
  rintro _ T195 h195 X195 ⟨rfl, e195⟩
  subst e195
  show own_Goal p e below _ T195 (mkF m 4 #[oA a1, oU] [(.int (0 : Int32))])
  refine own_ifF X195 (by decide) own_d_jdk_68_method_11_code_4 (pc' := 7) rfl ?_
  exact own_retV X195  own_d_jdk_68_method_11_code_7 rfl (by decide) (by decide) ⟨rfl, rfl⟩
abbrev own_rm_own_iflL : Room := ({ frames := 6, cells := 1, slots := 32, locals := 105 } : Room)
set_option maxRecDepth 65536 in
set_option maxHeartbeats 40000000 in
theorem own_iflL (l : Launch) (Z : State) (a0 : Array Value) (hw : ∀ d ∈ tables_1, d.before a0 Z = true) (a1 b1 : Addr) (n1 : Int32) (cs_ : List Int32) (pad : List Value) (h0 : Heap) (n0 : Nat) (Z0 : n0 ≤ h0.size) (ge1 : n0 ≤ a1) (gb1 : n0 ≤ b1) (A1 : Exa Z h0 a1 "java/lang/StringBuilder") (F1 : Fld Z h0 a1 "java/lang/AbstractStringBuilder" "count" "I" (.int n1)) (F2 : Fld Z h0 a1 "java/lang/AbstractStringBuilder" "coder" "B" (.int (0 : Int32))) (F3 : Fld Z h0 a1 "java/lang/AbstractStringBuilder" "value" "[B" (.ref b1)) (F4 : Fld Z h0 a1 "java/lang/AbstractStringBuilder" "maybeLatin1" "Z" (.int (0 : Int32))) (V1 : own_Vec Z h0 b1 .byte (own_l8 cs_ ++ pad)) (hvl : (own_l8 cs_ ++ pad).length = 16) (hpf : pad.all (fits .byte) = true) (f_n1 : own_I 16 ((cs_.length : Nat) : Int) n1) (N1 : a1 ≠ b1) (hlc : own_lat cs_ = true) (hcc : own_ch cs_) (cs : Int32) (fm dv : Value) (G0 : own_Gs Z h0 cs fm dv) (hcs : ¬ cs = 0) (hfm : fm.isRef = true) (hdv : dv.isRef = true) :
    own_Met l Z ({ cls := "java/lang/AbstractStringBuilder", name := "inflate", desc := "()V" } : Jvm.MethodName) jdk_68_method_11_code 2 none [] own_rm_own_iflL #[(.ref a1)] h0 n0 (fun v h => v = none ∧ (∃ b, h0.size ≤ b ∧ own_SB Z h a1 b false cs_) ∧ Keep h0 h [a1]) := by
  have ww := fun (i : Nat) {d : Jvm.Cond} (q : tables_1[i]? = some d) => hw d (List.mem_of_getElem? q)
  refine own_meet (plainFor_of_name own_pn3) Z0 (Ls0 := #[oA a1, oU]) (by intro m; first | (simp [entryFrame, mkF, argsToLocals, Value.category]; done) | rfl) ?_
  intro p e s m below meth c T0 X0
  have K0 := Keep.refl h0 [a1]
  refine own_aloadN X0 rfl rfl own_d_jdk_68_method_11_code_0 (pc' := 1) rfl ?_
  refine own_virtual X0 (own_islL l Z a0 hw a1 _ n0 X0.le F2 cs fm dv G0 hcs hfm hdv) (C := "java/lang/StringBuilder") rfl (ww 314 rfl) (ww 201 rfl) (ww 203 rfl) (ww 202 rfl) (ww 118 rfl) (ww 204 rfl) (by decide) rfl (by decide) (W := 0) (Nat.le_of_eq rfl) (by decide) (cells' := 0) (slots' := 0) rfl rfl (by decide) (by decide) A1 (argsL := []) (rest := []) (lenOf own_pd14 rfl) rfl rfl own_d_jdk_68_method_11_code_1 (pc' := 4) rfl ?_
  rintro _ T196 h196 X196 ⟨rfl, e196⟩
  subst e196
  show own_Goal p e below _ T196 (mkF m 4 #[oA a1, oU] [(.int (1 : Int32))])
  refine own_ifT X196 (by decide) own_d_jdk_68_method_11_code_4 (pc' := 8) (by decide) (by decide) ?_
  refine own_aloadN X196 rfl rfl own_d_jdk_68_method_11_code_8 (pc' := 9) rfl ?_
  refine own_getF X196 (ww 122 rfl) F3 own_d_jdk_68_method_11_code_9 (pc' := 12) rfl fun T197 X197 => ?_
  refine own_len X197 V1 (v := (16 : Int32)) (show (own_l8 cs_ ++ pad).length.toInt32 = _ by rw [hvl]; decide) own_d_jdk_68_method_11_code_12 (pc' := 13) rfl ?_
  refine own_callS X197 (own_nbf l Z a0 hw (16 : Int32) 16 _ n0 X197.le (own_I.lit (by decide) (by decide))) (ww 315 rfl) (ww 294 rfl) (ww 22 rfl) (ww 295 rfl) (by decide) rfl (by decide) (W := 0) (Nat.le_of_eq rfl) (by decide) (cells' := 1) (slots' := 32) rfl rfl (by decide) (by decide) (argsL := [(.int (16 : Int32))]) (rest := []) (lenOf own_pd1 rfl) rfl rfl own_d_jdk_68_method_11_code_13 (pc' := 16) rfl ?_
  rintro _ T198 h198 X198 ⟨b198, rfl, V198, sz198, K198⟩
  have S199 := G0.keep K198 own_ns0
  have A200 := A1.keep K198
  have F201 := F1.keep K198 nin0
  have F202 := F2.keep K198 nin0
  have F203 := F3.keep K198 nin0
  have F204 := F4.keep K198 nin0
  have V205 := V1.keep K198 nin0
  have K206 := K0.trans K198 own_mem0
  have nea198 : a1 ≠ b198 := own_ne_newE A1 sz198
  have neb198 : b1 ≠ b198 := own_ne_new V1 sz198
  show own_Goal p e below _ T198 (mkF m 16 #[oA a1, oU] [(.ref b198)])
  refine own_astoreN X198 (Ls' := #[oA a1, oA b198]) rfl rfl own_d_jdk_68_method_11_code_16 (pc' := 17) rfl ?_
  refine own_aloadN X198 rfl rfl own_d_jdk_68_method_11_code_17 (pc' := 18) rfl ?_
  refine own_getF X198 (ww 122 rfl) F203 own_d_jdk_68_method_11_code_18 (pc' := 21) rfl fun T207 X207 => ?_
  refine own_iconst X207 (v := (0 : Int32)) (by decide) own_d_jdk_68_method_11_code_21 (pc' := 22) rfl ?_
  refine own_aloadN X207 rfl rfl own_d_jdk_68_method_11_code_22 (pc' := 23) rfl ?_
  refine own_iconst X207 (v := (0 : Int32)) (by decide) own_d_jdk_68_method_11_code_23 (pc' := 24) rfl ?_
  refine own_aloadN X207 rfl rfl own_d_jdk_68_method_11_code_24 (pc' := 25) rfl ?_
  refine own_getF X207 (ww 146 rfl) F201 own_d_jdk_68_method_11_code_25 (pc' := 28) rfl fun T208 X208 => ?_
  have hc16 : cs_.length ≤ 16 := by have := f_n1.2; omega
  refine own_callS X208 (own_inl l Z a0 hw b1 b198 (0 : Int32) n1 cs_ 0 [] (List.replicate (2 * cs_.length) (Value.int 0)) (List.replicate (32 - 2 * cs_.length) (Value.int 0)) pad _ n0 X208.le (Nat.le_trans Z0 sz198) rfl (by simp) (own_lat_all hlc hcc) (by omega) neb198 (own_I.lit (by decide) (by decide)) f_n1 V205 (V198.eq (by rw [List.nil_append, List.replicate_append_replicate]; congr 1; omega)) (by simp; omega) cs fm dv S199 hcs hfm hdv) (ww 316 rfl) (ww 317 rfl) (ww 288 rfl) (ww 318 rfl) (by decide) rfl (by decide) (W := 0) (Nat.le_of_eq rfl) (by decide) (cells' := 1) (slots' := 32) rfl rfl (by decide) (by decide) (argsL := [(.ref b1), (.int (0 : Int32)), (.ref b198), (.int (0 : Int32)), (.int n1)]) (rest := []) (lenOf own_pd19 rfl) rfl rfl own_d_jdk_68_method_11_code_28 (pc' := 31) rfl ?_
  rintro _ T209 h209 X209 ⟨rfl, V209, K209⟩
  have S210 := S199.keep K209 (own_nsV V198 own_ns0)
  have A211 := A200.keep K209
  have F212 := F201.keep K209 (ninS nea198 nin0)
  have F213 := F202.keep K209 (ninS nea198 nin0)
  have F214 := F203.keep K209 (ninS nea198 nin0)
  have F215 := F204.keep K209 (ninS nea198 nin0)
  have V216 := V205.keep K209 (ninS neb198 nin0)
  have K217 := K206.trans K209 (own_mem1 (Or.inr sz198))
  show own_Goal p e below _ T209 (mkF m 31 #[oA a1, oA b198] [])
  refine own_aloadN X209 rfl rfl own_d_jdk_68_method_11_code_31 (pc' := 32) rfl ?_
  refine own_aloadN X209 rfl rfl own_d_jdk_68_method_11_code_32 (pc' := 33) rfl ?_
  refine own_putF X209 (ww 122 rfl) F214 A211 (Or.inl (ww 123 rfl)) (ww 109 rfl) (ty := (.array .byte)) (by decide) rfl rfl ge1 own_d_jdk_68_method_11_code_33 (pc' := 36) rfl fun T218 h218 X218 W218 => ?_
  have A219 := A211.wr W218
  have V220 := V216.other W218 N1.symm
  have V221 := V209.other W218 nea198.symm
  have S222 := S210.wr W218
  have K223 := K217.wr W218 (Or.inl (by simp))
  have F224 := F214.same W218
  have F225 := F212.other W218 (Or.inr (slot_ne (C := "java/lang/StringBuilder") (Or.inl (ww 147 rfl)) (Or.inl (ww 123 rfl)) (by decide) (t := .int) (t' := (.array .byte)) (by decide) (by decide)))
  have F226 := F213.other W218 (Or.inr (slot_ne (C := "java/lang/StringBuilder") (Or.inl (ww 125 rfl)) (Or.inl (ww 123 rfl)) (by decide) (t := .byte) (t' := (.array .byte)) (by decide) (by decide)))
  have F227 := F215.other W218 (Or.inr (slot_ne (C := "java/lang/StringBuilder") (Or.inl (ww 337 rfl)) (Or.inl (ww 123 rfl)) (by decide) (t := .boolean) (t' := (.array .byte)) (by decide) (by decide)))
  refine own_aloadN X218 rfl rfl own_d_jdk_68_method_11_code_36 (pc' := 37) rfl ?_
  refine own_iconst X218 (v := (1 : Int32)) (by decide) own_d_jdk_68_method_11_code_37 (pc' := 38) rfl ?_
  refine own_putF X218 (ww 124 rfl) F226 A219 (Or.inl (ww 125 rfl)) (ww 109 rfl) (ty := .byte) (by decide) rfl rfl ge1 own_d_jdk_68_method_11_code_38 (pc' := 41) rfl fun T228 h228 X228 W228 => ?_
  have A229 := A219.wr W228
  have V230 := V220.other W228 N1.symm
  have V231 := V221.other W228 nea198.symm
  have S232 := S222.wr W228
  have K233 := K223.wr W228 (Or.inl (by simp))
  have F234 := F226.same W228
  have F235 := F224.other W228 (Or.inr (slot_ne (C := "java/lang/StringBuilder") (Or.inl (ww 123 rfl)) (Or.inl (ww 125 rfl)) (by decide) (t := (.array .byte)) (t' := .byte) (by decide) (by decide)))
  have F236 := F225.other W228 (Or.inr (slot_ne (C := "java/lang/StringBuilder") (Or.inl (ww 147 rfl)) (Or.inl (ww 125 rfl)) (by decide) (t := .int) (t' := .byte) (by decide) (by decide)))
  have F237 := F227.other W228 (Or.inr (slot_ne (C := "java/lang/StringBuilder") (Or.inl (ww 337 rfl)) (Or.inl (ww 125 rfl)) (by decide) (t := .boolean) (t' := .byte) (by decide) (by decide)))
  exact own_retV X228  own_d_jdk_68_method_11_code_41 rfl (by decide) (by decide) ⟨rfl, ⟨_, sz198, ⟨A229, ⟨n1, f_n1, F236⟩, F234, F235, F237, _, (V231 : own_Vec Z _ _ .byte (own_u16 cs_ ++ List.replicate (32 - 2 * cs_.length) (Value.int 0))), (by simp [own_u16_len, own_en]; omega), own_all_rep _⟩⟩, K233⟩
theorem own_d_jdk_68_method_71_code_0 : decode jdk_68_method_71_code 0 = .ok (.getstatic 18, 3) := by decide +kernel
theorem own_d_jdk_68_method_71_code_3 : decode jdk_68_method_71_code 3 = .ok (.ifCond .eq 18, 3) := by decide +kernel
theorem own_d_jdk_68_method_71_code_6 : decode jdk_68_method_71_code 6 = .ok (.aload_n 0, 1) := by decide +kernel
theorem own_d_jdk_68_method_71_code_7 : decode jdk_68_method_71_code 7 = .ok (.getfield 22, 3) := by decide +kernel
theorem own_d_jdk_68_method_71_code_10 : decode jdk_68_method_71_code 10 = .ok (.aload_n 1, 1) := by decide +kernel
theorem own_d_jdk_68_method_71_code_11 : decode jdk_68_method_71_code 11 = .ok (.invokevirtual 40, 3) := by decide +kernel
theorem own_d_jdk_68_method_71_code_14 : decode jdk_68_method_71_code 14 = .ok (.if_icmp .eq 7, 3) := by decide +kernel
theorem own_d_jdk_68_method_71_code_17 : decode jdk_68_method_71_code 17 = .ok (.aload_n 0, 1) := by decide +kernel
theorem own_d_jdk_68_method_71_code_18 : decode jdk_68_method_71_code 18 = .ok (.invokevirtual 195, 3) := by decide +kernel
theorem own_d_jdk_68_method_71_code_21 : decode jdk_68_method_71_code 21 = .ok (.return_, 1) := by decide +kernel
theorem own_pd21 : parseMethodDescriptor "(Ljava/lang/String;)V" = some ⟨[(.object "java/lang/String")], none⟩ := by decide +kernel
abbrev own_rm_own_ifnLL : Room := ({ frames := 1, cells := 0, slots := 0, locals := 13 } : Room)
set_option maxRecDepth 65536 in
set_option maxHeartbeats 40000000 in
theorem own_ifnLL (l : Launch) (Z : State) (a0 : Array Value) (hw : ∀ d ∈ tables_1, d.before a0 Z = true) (a1 b1 : Addr) (n1 : Int32) (cs_ : List Int32) (pad : List Value) (d1 w1 : Addr) (ln : Int32) (ds : List Int32) (h0 : Heap) (n0 : Nat) (Z0 : n0 ≤ h0.size) (ge1 : n0 ≤ a1) (gb1 : n0 ≤ b1) (A1 : Exa Z h0 a1 "java/lang/StringBuilder") (F1 : Fld Z h0 a1 "java/lang/AbstractStringBuilder" "count" "I" (.int n1)) (F2 : Fld Z h0 a1 "java/lang/AbstractStringBuilder" "coder" "B" (.int (0 : Int32))) (F3 : Fld Z h0 a1 "java/lang/AbstractStringBuilder" "value" "[B" (.ref b1)) (F4 : Fld Z h0 a1 "java/lang/AbstractStringBuilder" "maybeLatin1" "Z" (.int (0 : Int32))) (V1 : own_Vec Z h0 b1 .byte (own_l8 cs_ ++ pad)) (hvl : (own_l8 cs_ ++ pad).length = 16) (hpf : pad.all (fits .byte) = true) (f_n1 : own_I 16 ((cs_.length : Nat) : Int) n1) (N1 : a1 ≠ b1) (A2 : Exa Z h0 d1 "java/lang/String") (H1 : Fld Z h0 d1 "java/lang/String" "coder" "B" (.int (0 : Int32))) (H2 : Fld Z h0 d1 "java/lang/String" "value" "[B" (.ref w1)) (V2 : own_Vec Z h0 w1 .byte (own_l8 ds))(f_ln : own_I 32 ((ds.length : Nat) : Int) ln)(hd16 : cs_.length + ds.length ≤ 16) (N2 : w1 ≠ b1) (cs : Int32) (fm dv : Value) (G0 : own_Gs Z h0 cs fm dv) (hcs : ¬ cs = 0) (hfm : fm.isRef = true) (hdv : dv.isRef = true) :
    own_Met l Z ({ cls := "java/lang/AbstractStringBuilder", name := "inflateIfNeededFor", desc := "(Ljava/lang/String;)V" } : Jvm.MethodName) jdk_68_method_71_code 2 none [] own_rm_own_ifnLL #[(.ref a1), (.ref d1)] h0 n0 (fun v h => v = none ∧ h = h0) := by
  have ww := fun (i : Nat) {d : Jvm.Cond} (q : tables_1[i]? = some d) => hw d (List.mem_of_getElem? q)
  refine own_meet (plainFor_of_name own_pn3) Z0 (Ls0 := #[oA a1, oA d1]) (by intro m; first | (simp [entryFrame, mkF, argsToLocals, Value.category]; done) | rfl) ?_
  intro p e s m below meth c T0 X0
  refine own_getS X0 (ww 121 rfl) G0.1 own_d_jdk_68_method_71_code_0 (pc' := 3) rfl fun T238 X238 => ?_
  have c239 : ¬ (cs = 0) := hcs
  refine own_ifF X238 (own_z_ne c239).1 own_d_jdk_68_method_71_code_3 (pc' := 6) rfl ?_
  refine own_aloadN X238 rfl rfl own_d_jdk_68_method_71_code_6 (pc' := 7) rfl ?_
  refine own_getF X238 (ww 124 rfl) F2 own_d_jdk_68_method_71_code_7 (pc' := 10) rfl fun T240 X240 => ?_
  refine own_aloadN X240 rfl rfl own_d_jdk_68_method_71_code_10 (pc' := 11) rfl ?_
  refine own_virtual X240 (own_coL l Z a0 hw d1 w1 _ n0 X240.le H1 cs fm dv G0 hcs hfm hdv) (C := "java/lang/String") rfl (ww 163 rfl) (ww 142 rfl) (ww 144 rfl) (ww 143 rfl) (ww 7 rfl) (ww 145 rfl) (by decide) rfl (by decide) (W := 1) (Nat.le_of_eq rfl) (by decide) (cells' := 0) (slots' := 0) rfl rfl (by decide) (by decide) A2 (argsL := []) (rest := [(.int (0 : Int32))]) (lenOf own_pd11 rfl) rfl rfl own_d_jdk_68_method_71_code_11 (pc' := 14) rfl ?_
  rintro _ T241 h241 X241 ⟨rfl, e241⟩
  subst e241
  show own_Goal p e below _ T241 (mkF m 14 #[oA a1, oA d1] [(.int (0 : Int32)), (.int (0 : Int32))])
  refine own_icmpT X241 (by decide) own_d_jdk_68_method_71_code_14 (pc' := 21) (by decide) (by decide) ?_
  exact own_retV X241  own_d_jdk_68_method_71_code_21 rfl (by decide) (by decide) ⟨rfl, rfl⟩
abbrev own_rm_own_ifnLU : Room := ({ frames := 7, cells := 1, slots := 32, locals := 118 } : Room)
set_option maxRecDepth 65536 in
set_option maxHeartbeats 40000000 in
theorem own_ifnLU (l : Launch) (Z : State) (a0 : Array Value) (hw : ∀ d ∈ tables_1, d.before a0 Z = true) (a1 b1 : Addr) (n1 : Int32) (cs_ : List Int32) (pad : List Value) (d1 w1 : Addr) (ln : Int32) (ds : List Int32) (h0 : Heap) (n0 : Nat) (Z0 : n0 ≤ h0.size) (ge1 : n0 ≤ a1) (gb1 : n0 ≤ b1) (A1 : Exa Z h0 a1 "java/lang/StringBuilder") (F1 : Fld Z h0 a1 "java/lang/AbstractStringBuilder" "count" "I" (.int n1)) (F2 : Fld Z h0 a1 "java/lang/AbstractStringBuilder" "coder" "B" (.int (0 : Int32))) (F3 : Fld Z h0 a1 "java/lang/AbstractStringBuilder" "value" "[B" (.ref b1)) (F4 : Fld Z h0 a1 "java/lang/AbstractStringBuilder" "maybeLatin1" "Z" (.int (0 : Int32))) (V1 : own_Vec Z h0 b1 .byte (own_l8 cs_ ++ pad)) (hvl : (own_l8 cs_ ++ pad).length = 16) (hpf : pad.all (fits .byte) = true) (f_n1 : own_I 16 ((cs_.length : Nat) : Int) n1) (N1 : a1 ≠ b1) (A2 : Exa Z h0 d1 "java/lang/String") (H1 : Fld Z h0 d1 "java/lang/String" "coder" "B" (.int (1 : Int32))) (H2 : Fld Z h0 d1 "java/lang/String" "value" "[B" (.ref w1)) (V2 : own_Vec Z h0 w1 .byte (own_u16 ds))(f_ln : own_I 32 (2 * ((ds.length : Nat) : Int)) ln)(hd16 : cs_.length + ds.length ≤ 16) (N2 : w1 ≠ b1) (hlc : own_lat cs_ = true) (hcc : own_ch cs_) (cs : Int32) (fm dv : Value) (G0 : own_Gs Z h0 cs fm dv) (hcs : ¬ cs = 0) (hfm : fm.isRef = true) (hdv : dv.isRef = true) :
    own_Met l Z ({ cls := "java/lang/AbstractStringBuilder", name := "inflateIfNeededFor", desc := "(Ljava/lang/String;)V" } : Jvm.MethodName) jdk_68_method_71_code 2 none [] own_rm_own_ifnLU #[(.ref a1), (.ref d1)] h0 n0 (fun v h => v = none ∧ (∃ b, h0.size ≤ b ∧ own_SB Z h a1 b false cs_) ∧ Keep h0 h [a1]) := by
  have ww := fun (i : Nat) {d : Jvm.Cond} (q : tables_1[i]? = some d) => hw d (List.mem_of_getElem? q)
  refine own_meet (plainFor_of_name own_pn3) Z0 (Ls0 := #[oA a1, oA d1]) (by intro m; first | (simp [entryFrame, mkF, argsToLocals, Value.category]; done) | rfl) ?_
  intro p e s m below meth c T0 X0
  refine own_getS X0 (ww 121 rfl) G0.1 own_d_jdk_68_method_71_code_0 (pc' := 3) rfl fun T242 X242 => ?_
  have c243 : ¬ (cs = 0) := hcs
  refine own_ifF X242 (own_z_ne c243).1 own_d_jdk_68_method_71_code_3 (pc' := 6) rfl ?_
  refine own_aloadN X242 rfl rfl own_d_jdk_68_method_71_code_6 (pc' := 7) rfl ?_
  refine own_getF X242 (ww 124 rfl) F2 own_d_jdk_68_method_71_code_7 (pc' := 10) rfl fun T244 X244 => ?_
  refine own_aloadN X244 rfl rfl own_d_jdk_68_method_71_code_10 (pc' := 11) rfl ?_
  refine own_virtual X244 (own_coU l Z a0 hw d1 w1 _ n0 X244.le H1 cs fm dv G0 hcs hfm hdv) (C := "java/lang/String") rfl (ww 163 rfl) (ww 142 rfl) (ww 144 rfl) (ww 143 rfl) (ww 7 rfl) (ww 145 rfl) (by decide) rfl (by decide) (W := 1) (Nat.le_of_eq rfl) (by decide) (cells' := 0) (slots' := 0) rfl rfl (by decide) (by decide) A2 (argsL := []) (rest := [(.int (0 : Int32))]) (lenOf own_pd11 rfl) rfl rfl own_d_jdk_68_method_71_code_11 (pc' := 14) rfl ?_
  rintro _ T245 h245 X245 ⟨rfl, e245⟩
  subst e245
  show own_Goal p e below _ T245 (mkF m 14 #[oA a1, oA d1] [(.int (1 : Int32)), (.int (0 : Int32))])
  refine own_icmpF X245 (by decide) own_d_jdk_68_method_71_code_14 (pc' := 17) rfl ?_
  refine own_aloadN X245 rfl rfl own_d_jdk_68_method_71_code_17 (pc' := 18) rfl ?_
  refine own_virtual X245 (own_iflL l Z a0 hw a1 b1 n1 cs_ pad _ n0 X245.le ge1 gb1 A1 F1 F2 F3 F4 V1 hvl hpf f_n1 N1 hlc hcc cs fm dv G0 hcs hfm hdv) (C := "java/lang/StringBuilder") rfl (ww 309 rfl) (own_declares (ww 310 rfl) (ww 313 rfl)) (ww 312 rfl) (ww 310 rfl) (ww 118 rfl) (ww 313 rfl) (by decide) rfl (by decide) (W := 0) (Nat.le_of_eq rfl) (by decide) (cells' := 1) (slots' := 32) rfl rfl (by decide) (by decide) A1 (argsL := []) (rest := []) (lenOf own_pd20 rfl) rfl rfl own_d_jdk_68_method_71_code_18 (pc' := 21) rfl ?_
  rintro _ T246 h246 X246 ⟨rfl, D246, K246⟩
  show own_Goal p e below _ T246 (mkF m 21 #[oA a1, oA d1] [])
  exact own_retV X246  own_d_jdk_68_method_71_code_21 rfl (by decide) (by decide) ⟨rfl, D246, K246⟩
abbrev own_rm_own_ifnUL : Room := ({ frames := 2, cells := 0, slots := 0, locals := 25 } : Room)
set_option maxRecDepth 65536 in
set_option maxHeartbeats 40000000 in
theorem own_ifnUL (l : Launch) (Z : State) (a0 : Array Value) (hw : ∀ d ∈ tables_1, d.before a0 Z = true) (a1 b1 : Addr) (n1 : Int32) (cs_ : List Int32) (pad : List Value) (d1 w1 : Addr) (ln : Int32) (ds : List Int32) (h0 : Heap) (n0 : Nat) (Z0 : n0 ≤ h0.size) (ge1 : n0 ≤ a1) (gb1 : n0 ≤ b1) (A1 : Exa Z h0 a1 "java/lang/StringBuilder") (F1 : Fld Z h0 a1 "java/lang/AbstractStringBuilder" "count" "I" (.int n1)) (F2 : Fld Z h0 a1 "java/lang/AbstractStringBuilder" "coder" "B" (.int (1 : Int32))) (F3 : Fld Z h0 a1 "java/lang/AbstractStringBuilder" "value" "[B" (.ref b1)) (F4 : Fld Z h0 a1 "java/lang/AbstractStringBuilder" "maybeLatin1" "Z" (.int (0 : Int32))) (V1 : own_Vec Z h0 b1 .byte (own_u16 cs_ ++ pad)) (hvl : (own_u16 cs_ ++ pad).length = 32) (hpf : pad.all (fits .byte) = true) (f_n1 : own_I 16 ((cs_.length : Nat) : Int) n1) (N1 : a1 ≠ b1) (A2 : Exa Z h0 d1 "java/lang/String") (H1 : Fld Z h0 d1 "java/lang/String" "coder" "B" (.int (0 : Int32))) (H2 : Fld Z h0 d1 "java/lang/String" "value" "[B" (.ref w1)) (V2 : own_Vec Z h0 w1 .byte (own_l8 ds))(f_ln : own_I 32 ((ds.length : Nat) : Int) ln)(hd16 : cs_.length + ds.length ≤ 16) (N2 : w1 ≠ b1) (cs : Int32) (fm dv : Value) (G0 : own_Gs Z h0 cs fm dv) (hcs : ¬ cs = 0) (hfm : fm.isRef = true) (hdv : dv.isRef = true) :
    own_Met l Z ({ cls := "java/lang/AbstractStringBuilder", name := "inflateIfNeededFor", desc := "(Ljava/lang/String;)V" } : Jvm.MethodName) jdk_68_method_71_code 2 none [] own_rm_own_ifnUL #[(.ref a1), (.ref d1)] h0 n0 (fun v h => v = none ∧ h = h0) := by
  have ww := fun (i : Nat) {d : Jvm.Cond} (q : tables_1[i]? = some d) => hw d (List.mem_of_getElem? q)
  refine own_meet (plainFor_of_name own_pn3) Z0 (Ls0 := #[oA a1, oA d1]) (by intro m; first | (simp [entryFrame, mkF, argsToLocals, Value.category]; done) | rfl) ?_
  intro p e s m below meth c T0 X0
  refine own_getS X0 (ww 121 rfl) G0.1 own_d_jdk_68_method_71_code_0 (pc' := 3) rfl fun T247 X247 => ?_
  have c248 : ¬ (cs = 0) := hcs
  refine own_ifF X247 (own_z_ne c248).1 own_d_jdk_68_method_71_code_3 (pc' := 6) rfl ?_
  refine own_aloadN X247 rfl rfl own_d_jdk_68_method_71_code_6 (pc' := 7) rfl ?_
  refine own_getF X247 (ww 124 rfl) F2 own_d_jdk_68_method_71_code_7 (pc' := 10) rfl fun T249 X249 => ?_
  refine own_aloadN X249 rfl rfl own_d_jdk_68_method_71_code_10 (pc' := 11) rfl ?_
  refine own_virtual X249 (own_coL l Z a0 hw d1 w1 _ n0 X249.le H1 cs fm dv G0 hcs hfm hdv) (C := "java/lang/String") rfl (ww 163 rfl) (ww 142 rfl) (ww 144 rfl) (ww 143 rfl) (ww 7 rfl) (ww 145 rfl) (by decide) rfl (by decide) (W := 1) (Nat.le_of_eq rfl) (by decide) (cells' := 0) (slots' := 0) rfl rfl (by decide) (by decide) A2 (argsL := []) (rest := [(.int (1 : Int32))]) (lenOf own_pd11 rfl) rfl rfl own_d_jdk_68_method_71_code_11 (pc' := 14) rfl ?_
  rintro _ T250 h250 X250 ⟨rfl, e250⟩
  subst e250
  show own_Goal p e below _ T250 (mkF m 14 #[oA a1, oA d1] [(.int (0 : Int32)), (.int (1 : Int32))])
  refine own_icmpF X250 (by decide) own_d_jdk_68_method_71_code_14 (pc' := 17) rfl ?_
  refine own_aloadN X250 rfl rfl own_d_jdk_68_method_71_code_17 (pc' := 18) rfl ?_
  refine own_virtual X250 (own_iflU l Z a0 hw a1 b1 n1 cs_ pad _ n0 X250.le ge1 gb1 A1 F1 F2 F3 F4 V1 hvl hpf f_n1 N1 cs fm dv G0 hcs hfm hdv) (C := "java/lang/StringBuilder") rfl (ww 309 rfl) (own_declares (ww 310 rfl) (ww 313 rfl)) (ww 312 rfl) (ww 310 rfl) (ww 118 rfl) (ww 313 rfl) (by decide) rfl (by decide) (W := 0) (Nat.le_of_eq rfl) (by decide) (cells' := 0) (slots' := 0) rfl rfl (by decide) (by decide) A1 (argsL := []) (rest := []) (lenOf own_pd20 rfl) rfl rfl own_d_jdk_68_method_71_code_18 (pc' := 21) rfl ?_
  rintro _ T251 h251 X251 ⟨rfl, e251⟩
  subst e251
  show own_Goal p e below _ T251 (mkF m 21 #[oA a1, oA d1] [])
  exact own_retV X251  own_d_jdk_68_method_71_code_21 rfl (by decide) (by decide) ⟨rfl, rfl⟩
abbrev own_rm_own_ifnUU : Room := ({ frames := 1, cells := 0, slots := 0, locals := 13 } : Room)
set_option maxRecDepth 65536 in
set_option maxHeartbeats 40000000 in
theorem own_ifnUU (l : Launch) (Z : State) (a0 : Array Value) (hw : ∀ d ∈ tables_1, d.before a0 Z = true) (a1 b1 : Addr) (n1 : Int32) (cs_ : List Int32) (pad : List Value) (d1 w1 : Addr) (ln : Int32) (ds : List Int32) (h0 : Heap) (n0 : Nat) (Z0 : n0 ≤ h0.size) (ge1 : n0 ≤ a1) (gb1 : n0 ≤ b1) (A1 : Exa Z h0 a1 "java/lang/StringBuilder") (F1 : Fld Z h0 a1 "java/lang/AbstractStringBuilder" "count" "I" (.int n1)) (F2 : Fld Z h0 a1 "java/lang/AbstractStringBuilder" "coder" "B" (.int (1 : Int32))) (F3 : Fld Z h0 a1 "java/lang/AbstractStringBuilder" "value" "[B" (.ref b1)) (F4 : Fld Z h0 a1 "java/lang/AbstractStringBuilder" "maybeLatin1" "Z" (.int (0 : Int32))) (V1 : own_Vec Z h0 b1 .byte (own_u16 cs_ ++ pad)) (hvl : (own_u16 cs_ ++ pad).length = 32) (hpf : pad.all (fits .byte) = true) (f_n1 : own_I 16 ((cs_.length : Nat) : Int) n1) (N1 : a1 ≠ b1) (A2 : Exa Z h0 d1 "java/lang/String") (H1 : Fld Z h0 d1 "java/lang/String" "coder" "B" (.int (1 : Int32))) (H2 : Fld Z h0 d1 "java/lang/String" "value" "[B" (.ref w1)) (V2 : own_Vec Z h0 w1 .byte (own_u16 ds))(f_ln : own_I 32 (2 * ((ds.length : Nat) : Int)) ln)(hd16 : cs_.length + ds.length ≤ 16) (N2 : w1 ≠ b1) (cs : Int32) (fm dv : Value) (G0 : own_Gs Z h0 cs fm dv) (hcs : ¬ cs = 0) (hfm : fm.isRef = true) (hdv : dv.isRef = true) :
    own_Met l Z ({ cls := "java/lang/AbstractStringBuilder", name := "inflateIfNeededFor", desc := "(Ljava/lang/String;)V" } : Jvm.MethodName) jdk_68_method_71_code 2 none [] own_rm_own_ifnUU #[(.ref a1), (.ref d1)] h0 n0 (fun v h => v = none ∧ h = h0) := by
  have ww := fun (i : Nat) {d : Jvm.Cond} (q : tables_1[i]? = some d) => hw d (List.mem_of_getElem? q)
  refine own_meet (plainFor_of_name own_pn3) Z0 (Ls0 := #[oA a1, oA d1]) (by intro m; first | (simp [entryFrame, mkF, argsToLocals, Value.category]; done) | rfl) ?_
  intro p e s m below meth c T0 X0
  refine own_getS X0 (ww 121 rfl) G0.1 own_d_jdk_68_method_71_code_0 (pc' := 3) rfl fun T252 X252 => ?_
  have c253 : ¬ (cs = 0) := hcs
  refine own_ifF X252 (own_z_ne c253).1 own_d_jdk_68_method_71_code_3 (pc' := 6) rfl ?_
  refine own_aloadN X252 rfl rfl own_d_jdk_68_method_71_code_6 (pc' := 7) rfl ?_
  refine own_getF X252 (ww 124 rfl) F2 own_d_jdk_68_method_71_code_7 (pc' := 10) rfl fun T254 X254 => ?_
  refine own_aloadN X254 rfl rfl own_d_jdk_68_method_71_code_10 (pc' := 11) rfl ?_
  refine own_virtual X254 (own_coU l Z a0 hw d1 w1 _ n0 X254.le H1 cs fm dv G0 hcs hfm hdv) (C := "java/lang/String") rfl (ww 163 rfl) (ww 142 rfl) (ww 144 rfl) (ww 143 rfl) (ww 7 rfl) (ww 145 rfl) (by decide) rfl (by decide) (W := 1) (Nat.le_of_eq rfl) (by decide) (cells' := 0) (slots' := 0) rfl rfl (by decide) (by decide) A2 (argsL := []) (rest := [(.int (1 : Int32))]) (lenOf own_pd11 rfl) rfl rfl own_d_jdk_68_method_71_code_11 (pc' := 14) rfl ?_
  rintro _ T255 h255 X255 ⟨rfl, e255⟩
  subst e255
  show own_Goal p e below _ T255 (mkF m 14 #[oA a1, oA d1] [(.int (1 : Int32)), (.int (1 : Int32))])
  refine own_icmpT X255 (by decide) own_d_jdk_68_method_71_code_14 (pc' := 21) (by decide) (by decide) ?_
  exact own_retV X255  own_d_jdk_68_method_71_code_21 rfl (by decide) (by decide) ⟨rfl, rfl⟩
theorem own_d_jdk_42_method_147_code_0 : decode jdk_42_method_147_code 0 = .ok (.aload_n 0, 1) := by decide +kernel
theorem own_d_jdk_42_method_147_code_1 : decode jdk_42_method_147_code 1 = .ok (.invokevirtual 335, 3) := by decide +kernel
theorem own_d_jdk_42_method_147_code_4 : decode jdk_42_method_147_code 4 = .ok (.iload_n 3, 1) := by decide +kernel
theorem own_d_jdk_42_method_147_code_5 : decode jdk_42_method_147_code 5 = .ok (.if_icmp .ne 23, 3) := by decide +kernel
theorem own_d_jdk_42_method_147_code_8 : decode jdk_42_method_147_code 8 = .ok (.aload_n 0, 1) := by decide +kernel
theorem own_d_jdk_42_method_147_code_9 : decode jdk_42_method_147_code 9 = .ok (.getfield 9, 3) := by decide +kernel
theorem own_d_jdk_42_method_147_code_12 : decode jdk_42_method_147_code 12 = .ok (.iconst 0, 1) := by decide +kernel
theorem own_d_jdk_42_method_147_code_13 : decode jdk_42_method_147_code 13 = .ok (.aload_n 1, 1) := by decide +kernel
theorem own_d_jdk_42_method_147_code_14 : decode jdk_42_method_147_code 14 = .ok (.iload_n 2, 1) := by decide +kernel
theorem own_d_jdk_42_method_147_code_15 : decode jdk_42_method_147_code 15 = .ok (.iload_n 3, 1) := by decide +kernel
theorem own_d_jdk_42_method_147_code_16 : decode jdk_42_method_147_code 16 = .ok (.ishl, 1) := by decide +kernel
theorem own_d_jdk_42_method_147_code_17 : decode jdk_42_method_147_code 17 = .ok (.aload_n 0, 1) := by decide +kernel
theorem own_d_jdk_42_method_147_code_18 : decode jdk_42_method_147_code 18 = .ok (.getfield 9, 3) := by decide +kernel
theorem own_d_jdk_42_method_147_code_21 : decode jdk_42_method_147_code 21 = .ok (.arraylength, 1) := by decide +kernel
theorem own_d_jdk_42_method_147_code_22 : decode jdk_42_method_147_code 22 = .ok (.invokestatic 212, 3) := by decide +kernel
theorem own_d_jdk_42_method_147_code_25 : decode jdk_42_method_147_code 25 = .ok (.goto 18, 3) := by decide +kernel
theorem own_d_jdk_42_method_147_code_28 : decode jdk_42_method_147_code 28 = .ok (.aload_n 0, 1) := by decide +kernel
theorem own_d_jdk_42_method_147_code_29 : decode jdk_42_method_147_code 29 = .ok (.getfield 9, 3) := by decide +kernel
theorem own_d_jdk_42_method_147_code_32 : decode jdk_42_method_147_code 32 = .ok (.iconst 0, 1) := by decide +kernel
theorem own_d_jdk_42_method_147_code_33 : decode jdk_42_method_147_code 33 = .ok (.aload_n 1, 1) := by decide +kernel
theorem own_d_jdk_42_method_147_code_34 : decode jdk_42_method_147_code 34 = .ok (.iload_n 2, 1) := by decide +kernel
theorem own_d_jdk_42_method_147_code_35 : decode jdk_42_method_147_code 35 = .ok (.aload_n 0, 1) := by decide +kernel
theorem own_d_jdk_42_method_147_code_36 : decode jdk_42_method_147_code 36 = .ok (.getfield 9, 3) := by decide +kernel
theorem own_d_jdk_42_method_147_code_39 : decode jdk_42_method_147_code 39 = .ok (.arraylength, 1) := by decide +kernel
theorem own_d_jdk_42_method_147_code_40 : decode jdk_42_method_147_code 40 = .ok (.invokestatic 106, 3) := by decide +kernel
theorem own_d_jdk_42_method_147_code_43 : decode jdk_42_method_147_code 43 = .ok (.return_, 1) := by decide +kernel
theorem own_pd22 : parseMethodDescriptor "([BIB)V" = some ⟨[(.array .byte), .int, .byte], none⟩ := by decide +kernel
abbrev own_rm_own_gbLL : Room := ({ frames := 1, cells := 0, slots := 0, locals := 40 } : Room)
set_option maxRecDepth 65536 in
set_option maxHeartbeats 40000000 in
theorem own_gbLL (l : Launch) (Z : State) (a0 : Array Value) (hw : ∀ d ∈ tables_1, d.before a0 Z = true) (b1 : Addr) (n1 : Int32) (cs_ : List Int32) (pad : List Value) (d1 w1 : Addr) (ln : Int32) (ds : List Int32) (h0 : Heap) (n0 : Nat) (Z0 : n0 ≤ h0.size) (gb1 : n0 ≤ b1) (V1 : own_Vec Z h0 b1 .byte (own_l8 cs_ ++ pad)) (hvl : (own_l8 cs_ ++ pad).length = 16) (hpf : pad.all (fits .byte) = true) (f_n1 : own_I 16 ((cs_.length : Nat) : Int) n1) (A2 : Exa Z h0 d1 "java/lang/String") (H1 : Fld Z h0 d1 "java/lang/String" "coder" "B" (.int (0 : Int32))) (H2 : Fld Z h0 d1 "java/lang/String" "value" "[B" (.ref w1)) (V2 : own_Vec Z h0 w1 .byte (own_l8 ds))(f_ln : own_I 32 ((ds.length : Nat) : Int) ln)(hd16 : cs_.length + ds.length ≤ 16) (N2 : w1 ≠ b1) (cs : Int32) (fm dv : Value) (G0 : own_Gs Z h0 cs fm dv) (hcs : ¬ cs = 0) (hfm : fm.isRef = true) (hdv : dv.isRef = true) :
    own_Met l Z ({ cls := "java/lang/String", name := "getBytes", desc := "([BIB)V" } : Jvm.MethodName) jdk_42_method_147_code 4 none [] own_rm_own_gbLL #[(.ref d1), (.ref b1), (.int n1), (.int (0 : Int32))] h0 n0 (fun v h => v = none ∧ (∃ pd, own_Vec Z h b1 .byte (own_l8 (cs_ ++ ds) ++ pd) ∧ (own_l8 (cs_ ++ ds) ++ pd).length = 16 ∧ pd.all (fits .byte) = true) ∧ Keep h0 h [b1]) := by
  have ww := fun (i : Nat) {d : Jvm.Cond} (q : tables_1[i]? = some d) => hw d (List.mem_of_getElem? q)
  refine own_meet (plainFor_of_name own_pn1) Z0 (Ls0 := #[oA d1, oA b1, oI n1, oI 0]) (by intro m; first | (simp [entryFrame, mkF, argsToLocals, Value.category]; done) | rfl) ?_
  intro p e s m below meth c T0 X0
  have K0 := Keep.refl h0 [b1]
  refine own_aloadN X0 rfl rfl own_d_jdk_42_method_147_code_0 (pc' := 1) rfl ?_
  refine own_virtual X0 (own_coL l Z a0 hw d1 w1 _ n0 X0.le H1 cs fm dv G0 hcs hfm hdv) (C := "java/lang/String") rfl (ww 141 rfl) (ww 142 rfl) (ww 144 rfl) (ww 143 rfl) (ww 7 rfl) (ww 145 rfl) (by decide) rfl (by decide) (W := 0) (Nat.le_of_eq rfl) (by decide) (cells' := 0) (slots' := 0) rfl rfl (by decide) (by decide) A2 (argsL := []) (rest := []) (lenOf own_pd11 rfl) rfl rfl own_d_jdk_42_method_147_code_1 (pc' := 4) rfl ?_
  rintro _ T256 h256 X256 ⟨rfl, e256⟩
  subst e256
  show own_Goal p e below _ T256 (mkF m 4 #[oA d1, oA b1, oI n1, oI 0] [(.int (0 : Int32))])
  refine own_iloadN X256 rfl own_d_jdk_42_method_147_code_4 (pc' := 5) rfl ?_
  refine own_icmpF X256 (by decide) own_d_jdk_42_method_147_code_5 (pc' := 8) rfl ?_
  refine own_aloadN X256 rfl rfl own_d_jdk_42_method_147_code_8 (pc' := 9) rfl ?_
  refine own_getF X256 (ww 33 rfl) H2 own_d_jdk_42_method_147_code_9 (pc' := 12) rfl fun T257 X257 => ?_
  refine own_iconst X257 (v := (0 : Int32)) (by decide) own_d_jdk_42_method_147_code_12 (pc' := 13) rfl ?_
  refine own_aloadN X257 rfl rfl own_d_jdk_42_method_147_code_13 (pc' := 14) rfl ?_
  refine own_iloadN X257 rfl own_d_jdk_42_method_147_code_14 (pc' := 15) rfl ?_
  refine own_iloadN X257 rfl own_d_jdk_42_method_147_code_15 (pc' := 16) rfl ?_
  obtain ⟨i258, e258⟩ : ∃ v, n1 <<< ((0 : Int32) &&& 31) = v := ⟨_, rfl⟩
  refine own_ishl X257 e258 own_d_jdk_42_method_147_code_16 (pc' := 17) rfl ?_
  have f258 := own_shl0_I f_n1 e258
  refine own_aloadN X257 rfl rfl own_d_jdk_42_method_147_code_17 (pc' := 18) rfl ?_
  refine own_getF X257 (ww 33 rfl) H2 own_d_jdk_42_method_147_code_18 (pc' := 21) rfl fun T259 X259 => ?_
  refine own_len X259 V2 (v := ln) (by rw [own_l8_len]; exact own_i32 f_ln) own_d_jdk_42_method_147_code_21 (pc' := 22) rfl ?_
  have hpl : (own_l8 ds).length ≤ pad.length := by have q := hvl; simp [own_l8_len, own_u16_len] at q ⊢; omega
  refine own_cpy X259 (ww 169 rfl) (ww 172 rfl) (ww 170 rfl) (ww 171 rfl) (P := own_l8 ds) (Q := []) (A := own_l8 cs_) (B := pad.take (own_l8 ds).length) (C := pad.drop (own_l8 ds).length) (V2.eq (by simp)) (V1.eq (by simp [List.take_append_drop])) (own_all_app (own_fit_l8 ds) rfl) (own_all_app (own_all_app (own_fit_l8 cs_) (own_all_take hpf _)) (own_all_drop hpf _)) (by simp; omega) ⟨by simp [own_l8_len, own_u16_len]; omega, by have q := hvl; simp at q ⊢; omega⟩ ⟨by decide, by decide⟩ (own_idx f258 (by simp [own_l8_len, own_u16_len])) (own_idx f_ln (by simp [own_l8_len, own_u16_len])) gb1 rfl (by decide) (W := 0) (Nat.le_of_eq rfl) (by decide) own_d_jdk_42_method_147_code_22 (pc' := 25) rfl fun T260 h260 X260 K260 V260 => ?_
  have S262 := G0.keep K260 (own_nsV V1 own_ns0)
  have K263 := K0.trans K260 (own_mem1 (Or.inl (by simp)))
  refine own_goto X260 own_d_jdk_42_method_147_code_25 (pc' := 43) (by decide) (by decide) ?_
  exact own_retV X260  own_d_jdk_42_method_147_code_43 rfl (by decide) (by decide) ⟨rfl, ⟨pad.drop (own_l8 ds).length, V260.eq (by rw [own_l8_app]), by have q := hvl; simp [own_l8_len, own_u16_len] at q ⊢; omega, own_all_drop hpf _⟩, K263⟩
abbrev own_rm_own_gbUU : Room := ({ frames := 1, cells := 0, slots := 0, locals := 40 } : Room)
set_option maxRecDepth 65536 in
set_option maxHeartbeats 40000000 in
theorem own_gbUU (l : Launch) (Z : State) (a0 : Array Value) (hw : ∀ d ∈ tables_1, d.before a0 Z = true) (b1 : Addr) (n1 : Int32) (cs_ : List Int32) (pad : List Value) (d1 w1 : Addr) (ln : Int32) (ds : List Int32) (h0 : Heap) (n0 : Nat) (Z0 : n0 ≤ h0.size) (gb1 : n0 ≤ b1) (V1 : own_Vec Z h0 b1 .byte (own_u16 cs_ ++ pad)) (hvl : (own_u16 cs_ ++ pad).length = 32) (hpf : pad.all (fits .byte) = true) (f_n1 : own_I 16 ((cs_.length : Nat) : Int) n1) (A2 : Exa Z h0 d1 "java/lang/String") (H1 : Fld Z h0 d1 "java/lang/String" "coder" "B" (.int (1 : Int32))) (H2 : Fld Z h0 d1 "java/lang/String" "value" "[B" (.ref w1)) (V2 : own_Vec Z h0 w1 .byte (own_u16 ds))(f_ln : own_I 32 (2 * ((ds.length : Nat) : Int)) ln)(hd16 : cs_.length + ds.length ≤ 16) (N2 : w1 ≠ b1) (cs : Int32) (fm dv : Value) (G0 : own_Gs Z h0 cs fm dv) (hcs : ¬ cs = 0) (hfm : fm.isRef = true) (hdv : dv.isRef = true) :
    own_Met l Z ({ cls := "java/lang/String", name := "getBytes", desc := "([BIB)V" } : Jvm.MethodName) jdk_42_method_147_code 4 none [] own_rm_own_gbUU #[(.ref d1), (.ref b1), (.int n1), (.int (1 : Int32))] h0 n0 (fun v h => v = none ∧ (∃ pd, own_Vec Z h b1 .byte (own_u16 (cs_ ++ ds) ++ pd) ∧ (own_u16 (cs_ ++ ds) ++ pd).length = 32 ∧ pd.all (fits .byte) = true) ∧ Keep h0 h [b1]) := by
  have ww := fun (i : Nat) {d : Jvm.Cond} (q : tables_1[i]? = some d) => hw d (List.mem_of_getElem? q)
  refine own_meet (plainFor_of_name own_pn1) Z0 (Ls0 := #[oA d1, oA b1, oI n1, oI 1]) (by intro m; first | (simp [entryFrame, mkF, argsToLocals, Value.category]; done) | rfl) ?_
  intro p e s m below meth c T0 X0
  have K0 := Keep.refl h0 [b1]
  refine own_aloadN X0 rfl rfl own_d_jdk_42_method_147_code_0 (pc' := 1) rfl ?_
  refine own_virtual X0 (own_coU l Z a0 hw d1 w1 _ n0 X0.le H1 cs fm dv G0 hcs hfm hdv) (C := "java/lang/String") rfl (ww 141 rfl) (ww 142 rfl) (ww 144 rfl) (ww 143 rfl) (ww 7 rfl) (ww 145 rfl) (by decide) rfl (by decide) (W := 0) (Nat.le_of_eq rfl) (by decide) (cells' := 0) (slots' := 0) rfl rfl (by decide) (by decide) A2 (argsL := []) (rest := []) (lenOf own_pd11 rfl) rfl rfl own_d_jdk_42_method_147_code_1 (pc' := 4) rfl ?_
  rintro _ T264 h264 X264 ⟨rfl, e264⟩
  subst e264
  show own_Goal p e below _ T264 (mkF m 4 #[oA d1, oA b1, oI n1, oI 1] [(.int (1 : Int32))])
  refine own_iloadN X264 rfl own_d_jdk_42_method_147_code_4 (pc' := 5) rfl ?_
  refine own_icmpF X264 (by decide) own_d_jdk_42_method_147_code_5 (pc' := 8) rfl ?_
  refine own_aloadN X264 rfl rfl own_d_jdk_42_method_147_code_8 (pc' := 9) rfl ?_
  refine own_getF X264 (ww 33 rfl) H2 own_d_jdk_42_method_147_code_9 (pc' := 12) rfl fun T265 X265 => ?_
  refine own_iconst X265 (v := (0 : Int32)) (by decide) own_d_jdk_42_method_147_code_12 (pc' := 13) rfl ?_
  refine own_aloadN X265 rfl rfl own_d_jdk_42_method_147_code_13 (pc' := 14) rfl ?_
  refine own_iloadN X265 rfl own_d_jdk_42_method_147_code_14 (pc' := 15) rfl ?_
  refine own_iloadN X265 rfl own_d_jdk_42_method_147_code_15 (pc' := 16) rfl ?_
  obtain ⟨i266, e266⟩ : ∃ v, n1 <<< ((1 : Int32) &&& 31) = v := ⟨_, rfl⟩
  refine own_ishl X265 e266 own_d_jdk_42_method_147_code_16 (pc' := 17) rfl ?_
  have f266 := own_I.shl1 (C := 32) f_n1 e266 (by decide) (by decide)
  refine own_aloadN X265 rfl rfl own_d_jdk_42_method_147_code_17 (pc' := 18) rfl ?_
  refine own_getF X265 (ww 33 rfl) H2 own_d_jdk_42_method_147_code_18 (pc' := 21) rfl fun T267 X267 => ?_
  refine own_len X267 V2 (v := ln) (by rw [own_u16_len]; exact own_i32 (f_ln.of_eq (by omega))) own_d_jdk_42_method_147_code_21 (pc' := 22) rfl ?_
  have hpl : (own_u16 ds).length ≤ pad.length := by have q := hvl; simp [own_l8_len, own_u16_len] at q ⊢; omega
  refine own_cpy X267 (ww 169 rfl) (ww 172 rfl) (ww 170 rfl) (ww 171 rfl) (P := own_u16 ds) (Q := []) (A := own_u16 cs_) (B := pad.take (own_u16 ds).length) (C := pad.drop (own_u16 ds).length) (V2.eq (by simp)) (V1.eq (by simp [List.take_append_drop])) (own_all_app (own_fit_u16 ds) rfl) (own_all_app (own_all_app (own_fit_u16 cs_) (own_all_take hpf _)) (own_all_drop hpf _)) (by simp; omega) ⟨by simp [own_l8_len, own_u16_len]; omega, by have q := hvl; simp at q ⊢; omega⟩ ⟨by decide, by decide⟩ (own_idx f266 (by simp [own_l8_len, own_u16_len])) (own_idx f_ln (by simp [own_l8_len, own_u16_len])) gb1 rfl (by decide) (W := 0) (Nat.le_of_eq rfl) (by decide) own_d_jdk_42_method_147_code_22 (pc' := 25) rfl fun T268 h268 X268 K268 V268 => ?_
  have S270 := G0.keep K268 (own_nsV V1 own_ns0)
  have K271 := K0.trans K268 (own_mem1 (Or.inl (by simp)))
  refine own_goto X268 own_d_jdk_42_method_147_code_25 (pc' := 43) (by decide) (by decide) ?_
  exact own_retV X268  own_d_jdk_42_method_147_code_43 rfl (by decide) (by decide) ⟨rfl, ⟨pad.drop (own_u16 ds).length, V268.eq (by rw [own_u16_app]), by have q := hvl; simp [own_l8_len, own_u16_len] at q ⊢; omega, own_all_drop hpf _⟩, K271⟩
abbrev own_rm_own_gbLU : Room := ({ frames := 6, cells := 0, slots := 0, locals := 105 } : Room)
set_option maxRecDepth 65536 in
set_option maxHeartbeats 40000000 in
theorem own_gbLU (l : Launch) (Z : State) (a0 : Array Value) (hw : ∀ d ∈ tables_1, d.before a0 Z = true) (b1 : Addr) (n1 : Int32) (cs_ : List Int32) (pad : List Value) (d1 w1 : Addr) (ln : Int32) (ds : List Int32) (h0 : Heap) (n0 : Nat) (Z0 : n0 ≤ h0.size) (gb1 : n0 ≤ b1) (V1 : own_Vec Z h0 b1 .byte (own_u16 cs_ ++ pad)) (hvl : (own_u16 cs_ ++ pad).length = 32) (hpf : pad.all (fits .byte) = true) (f_n1 : own_I 16 ((cs_.length : Nat) : Int) n1) (A2 : Exa Z h0 d1 "java/lang/String") (H1 : Fld Z h0 d1 "java/lang/String" "coder" "B" (.int (0 : Int32))) (H2 : Fld Z h0 d1 "java/lang/String" "value" "[B" (.ref w1)) (V2 : own_Vec Z h0 w1 .byte (own_l8 ds))(f_ln : own_I 32 ((ds.length : Nat) : Int) ln)(hd16 : cs_.length + ds.length ≤ 16) (N2 : w1 ≠ b1) (hld : own_lat ds = true) (hcd : own_ch ds) (cs : Int32) (fm dv : Value) (G0 : own_Gs Z h0 cs fm dv) (hcs : ¬ cs = 0) (hfm : fm.isRef = true) (hdv : dv.isRef = true) :
    own_Met l Z ({ cls := "java/lang/String", name := "getBytes", desc := "([BIB)V" } : Jvm.MethodName) jdk_42_method_147_code 4 none [] own_rm_own_gbLU #[(.ref d1), (.ref b1), (.int n1), (.int (1 : Int32))] h0 n0 (fun v h => v = none ∧ (∃ pd, own_Vec Z h b1 .byte (own_u16 (cs_ ++ ds) ++ pd) ∧ (own_u16 (cs_ ++ ds) ++ pd).length = 32 ∧ pd.all (fits .byte) = true) ∧ Keep h0 h [b1]) := by
  have ww := fun (i : Nat) {d : Jvm.Cond} (q : tables_1[i]? = some d) => hw d (List.mem_of_getElem? q)
  refine own_meet (plainFor_of_name own_pn1) Z0 (Ls0 := #[oA d1, oA b1, oI n1, oI 1]) (by intro m; first | (simp [entryFrame, mkF, argsToLocals, Value.category]; done) | rfl) ?_
  intro p e s m below meth c T0 X0
  have K0 := Keep.refl h0 [b1]
  refine own_aloadN X0 rfl rfl own_d_jdk_42_method_147_code_0 (pc' := 1) rfl ?_
  refine own_virtual X0 (own_coL l Z a0 hw d1 w1 _ n0 X0.le H1 cs fm dv G0 hcs hfm hdv) (C := "java/lang/String") rfl (ww 141 rfl) (ww 142 rfl) (ww 144 rfl) (ww 143 rfl) (ww 7 rfl) (ww 145 rfl) (by decide) rfl (by decide) (W := 0) (Nat.le_of_eq rfl) (by decide) (cells' := 0) (slots' := 0) rfl rfl (by decide) (by decide) A2 (argsL := []) (rest := []) (lenOf own_pd11 rfl) rfl rfl own_d_jdk_42_method_147_code_1 (pc' := 4) rfl ?_
  rintro _ T272 h272 X272 ⟨rfl, e272⟩
  subst e272
  show own_Goal p e below _ T272 (mkF m 4 #[oA d1, oA b1, oI n1, oI 1] [(.int (0 : Int32))])
  refine own_iloadN X272 rfl own_d_jdk_42_method_147_code_4 (pc' := 5) rfl ?_
  refine own_icmpT X272 (by decide) own_d_jdk_42_method_147_code_5 (pc' := 28) (by decide) (by decide) ?_
  refine own_aloadN X272 rfl rfl own_d_jdk_42_method_147_code_28 (pc' := 29) rfl ?_
  refine own_getF X272 (ww 33 rfl) H2 own_d_jdk_42_method_147_code_29 (pc' := 32) rfl fun T273 X273 => ?_
  refine own_iconst X273 (v := (0 : Int32)) (by decide) own_d_jdk_42_method_147_code_32 (pc' := 33) rfl ?_
  refine own_aloadN X273 rfl rfl own_d_jdk_42_method_147_code_33 (pc' := 34) rfl ?_
  refine own_iloadN X273 rfl own_d_jdk_42_method_147_code_34 (pc' := 35) rfl ?_
  refine own_aloadN X273 rfl rfl own_d_jdk_42_method_147_code_35 (pc' := 36) rfl ?_
  refine own_getF X273 (ww 33 rfl) H2 own_d_jdk_42_method_147_code_36 (pc' := 39) rfl fun T274 X274 => ?_
  refine own_len X274 V2 (v := ln) (by rw [own_l8_len]; exact own_i32 f_ln) own_d_jdk_42_method_147_code_39 (pc' := 40) rfl ?_
  have hpl : 2 * ds.length ≤ pad.length := by have q := hvl; simp [own_u16_len] at q ⊢; omega
  refine own_callS X274 (own_inl l Z a0 hw w1 b1 n1 ln ds cs_.length (own_u16 cs_) (pad.take (2 * ds.length)) (pad.drop (2 * ds.length)) [] _ n0 X274.le gb1 (own_u16_len cs_) (by simp; omega) (own_lat_all hld hcd) hd16 N2 f_n1 (f_ln.re rfl (by omega)) (V2.eq (by simp)) (V1.eq (by simp [List.take_append_drop])) (by simpa [List.take_append_drop] using hvl) cs fm dv G0 hcs hfm hdv) (ww 338 rfl) (ww 317 rfl) (ww 288 rfl) (ww 318 rfl) (by decide) rfl (by decide) (W := 0) (Nat.le_of_eq rfl) (by decide) (cells' := 0) (slots' := 0) rfl rfl (by decide) (by decide) (argsL := [(.ref w1), (.int (0 : Int32)), (.ref b1), (.int n1), (.int ln)]) (rest := []) (lenOf own_pd19 rfl) rfl rfl own_d_jdk_42_method_147_code_40 (pc' := 43) rfl ?_
  rintro _ T275 h275 X275 ⟨rfl, V275, K275⟩
  show own_Goal p e below _ T275 (mkF m 43 #[oA d1, oA b1, oI n1, oI 1] [])
  exact own_retV X275  own_d_jdk_42_method_147_code_43 rfl (by decide) (by decide) ⟨rfl, ⟨pad.drop (2 * ds.length), V275.eq (by rw [own_u16_app]), by have q := hvl; simp [own_l8_len, own_u16_len] at q ⊢; omega, own_all_drop hpf _⟩, K275⟩
theorem own_d_jdk_68_method_73_code_0 : decode jdk_68_method_73_code 0 = .ok (.aload_n 0, 1) := by decide +kernel
theorem own_d_jdk_68_method_73_code_1 : decode jdk_68_method_73_code 1 = .ok (.aload_n 2, 1) := by decide +kernel
theorem own_d_jdk_68_method_73_code_2 : decode jdk_68_method_73_code 2 = .ok (.invokevirtual 397, 3) := by decide +kernel
theorem own_d_jdk_68_method_73_code_5 : decode jdk_68_method_73_code 5 = .ok (.aload_n 2, 1) := by decide +kernel
theorem own_d_jdk_68_method_73_code_6 : decode jdk_68_method_73_code 6 = .ok (.aload_n 0, 1) := by decide +kernel
theorem own_d_jdk_68_method_73_code_7 : decode jdk_68_method_73_code 7 = .ok (.getfield 15, 3) := by decide +kernel
theorem own_d_jdk_68_method_73_code_10 : decode jdk_68_method_73_code 10 = .ok (.iload_n 1, 1) := by decide +kernel
theorem own_d_jdk_68_method_73_code_11 : decode jdk_68_method_73_code 11 = .ok (.aload_n 0, 1) := by decide +kernel
theorem own_d_jdk_68_method_73_code_12 : decode jdk_68_method_73_code 12 = .ok (.getfield 22, 3) := by decide +kernel
theorem own_d_jdk_68_method_73_code_15 : decode jdk_68_method_73_code 15 = .ok (.invokevirtual 399, 3) := by decide +kernel
theorem own_d_jdk_68_method_73_code_18 : decode jdk_68_method_73_code 18 = .ok (.return_, 1) := by decide +kernel
theorem own_pd23 : parseMethodDescriptor "(ILjava/lang/String;)V" = some ⟨[.int, (.object "java/lang/String")], none⟩ := by decide +kernel
abbrev own_rm_own_psaLL : Room := ({ frames := 2, cells := 0, slots := 0, locals := 55 } : Room)
set_option maxRecDepth 65536 in
set_option maxHeartbeats 40000000 in
theorem own_psaLL (l : Launch) (Z : State) (a0 : Array Value) (hw : ∀ d ∈ tables_1, d.before a0 Z = true) (a1 b1 : Addr) (n1 : Int32) (cs_ : List Int32) (pad : List Value) (d1 w1 : Addr) (ln : Int32) (ds : List Int32) (h0 : Heap) (n0 : Nat) (Z0 : n0 ≤ h0.size) (ge1 : n0 ≤ a1) (gb1 : n0 ≤ b1) (A1 : Exa Z h0 a1 "java/lang/StringBuilder") (F1 : Fld Z h0 a1 "java/lang/AbstractStringBuilder" "count" "I" (.int n1)) (F2 : Fld Z h0 a1 "java/lang/AbstractStringBuilder" "coder" "B" (.int (0 : Int32))) (F3 : Fld Z h0 a1 "java/lang/AbstractStringBuilder" "value" "[B" (.ref b1)) (F4 : Fld Z h0 a1 "java/lang/AbstractStringBuilder" "maybeLatin1" "Z" (.int (0 : Int32))) (V1 : own_Vec Z h0 b1 .byte (own_l8 cs_ ++ pad)) (hvl : (own_l8 cs_ ++ pad).length = 16) (hpf : pad.all (fits .byte) = true) (f_n1 : own_I 16 ((cs_.length : Nat) : Int) n1) (N1 : a1 ≠ b1) (A2 : Exa Z h0 d1 "java/lang/String") (H1 : Fld Z h0 d1 "java/lang/String" "coder" "B" (.int (0 : Int32))) (H2 : Fld Z h0 d1 "java/lang/String" "value" "[B" (.ref w1)) (V2 : own_Vec Z h0 w1 .byte (own_l8 ds))(f_ln : own_I 32 ((ds.length : Nat) : Int) ln)(hd16 : cs_.length + ds.length ≤ 16) (N2 : w1 ≠ b1) (hlc : own_lat cs_ = true) (hcc : own_ch cs_) (hld : own_lat ds = true) (hcd : own_ch ds) (N3 : a1 ≠ w1) (N4 : a1 ≠ d1) (N5 : d1 ≠ b1) (cs : Int32) (fm dv : Value) (G0 : own_Gs Z h0 cs fm dv) (hcs : ¬ cs = 0) (hfm : fm.isRef = true) (hdv : dv.isRef = true) :
    own_Met l Z ({ cls := "java/lang/AbstractStringBuilder", name := "putStringAt", desc := "(ILjava/lang/String;)V" } : Jvm.MethodName) jdk_68_method_73_code 3 none [] own_rm_own_psaLL #[(.ref a1), (.int n1), (.ref d1)] h0 n0 (fun v h => v = none ∧ (∃ b, (b = b1 ∨ h0.size ≤ b) ∧ n0 ≤ b ∧ a1 ≠ b ∧ own_SB2 Z h a1 b true n1 (cs_ ++ ds)) ∧ Keep h0 h [a1, b1]) := by
  have ww := fun (i : Nat) {d : Jvm.Cond} (q : tables_1[i]? = some d) => hw d (List.mem_of_getElem? q)
  refine own_meet (plainFor_of_name own_pn3) Z0 (Ls0 := #[oA a1, oI n1, oA d1]) (by intro m; first | (simp [entryFrame, mkF, argsToLocals, Value.category]; done) | rfl) ?_
  intro p e s m below meth c T0 X0
  have K0 := Keep.refl h0 [a1, b1]
  refine own_aloadN X0 rfl rfl own_d_jdk_68_method_73_code_0 (pc' := 1) rfl ?_
  refine own_aloadN X0 rfl rfl own_d_jdk_68_method_73_code_1 (pc' := 2) rfl ?_
  refine own_virtual X0 (own_ifnLL l Z a0 hw a1 b1 n1 cs_ pad d1 w1 ln ds _ n0 X0.le ge1 gb1 A1 F1 F2 F3 F4 V1 hvl hpf f_n1 N1 A2 H1 H2 V2 f_ln hd16 N2 cs fm dv G0 hcs hfm hdv) (C := "java/lang/StringBuilder") rfl (ww 158 rfl) (own_declares (ww 159 rfl) (ww 162 rfl)) (ww 161 rfl) (ww 159 rfl) (ww 118 rfl) (ww 162 rfl) (by decide) rfl (by decide) (W := 0) (Nat.le_of_eq rfl) (by decide) (cells' := 0) (slots' := 0) rfl rfl (by decide) (by decide) A1 (argsL := [(.ref d1)]) (rest := []) (lenOf own_pd21 rfl) rfl rfl own_d_jdk_68_method_73_code_2 (pc' := 5) rfl ?_
  rintro _ T276 h276 X276 ⟨rfl, e276⟩
  subst e276
  show own_Goal p e below _ T276 (mkF m 5 #[oA a1, oI n1, oA d1] [])
  refine own_aloadN X276 rfl rfl own_d_jdk_68_method_73_code_5 (pc' := 6) rfl ?_
  refine own_aloadN X276 rfl rfl own_d_jdk_68_method_73_code_6 (pc' := 7) rfl ?_
  refine own_getF X276 (ww 122 rfl) F3 own_d_jdk_68_method_73_code_7 (pc' := 10) rfl fun T277 X277 => ?_
  refine own_iloadN X277 rfl own_d_jdk_68_method_73_code_10 (pc' := 11) rfl ?_
  refine own_aloadN X277 rfl rfl own_d_jdk_68_method_73_code_11 (pc' := 12) rfl ?_
  refine own_getF X277 (ww 124 rfl) F2 own_d_jdk_68_method_73_code_12 (pc' := 15) rfl fun T278 X278 => ?_
  refine own_virtual X278 (own_gbLL l Z a0 hw b1 n1 cs_ pad d1 w1 ln ds _ n0 X278.le gb1 V1 hvl hpf f_n1 A2 H1 H2 V2 f_ln hd16 N2 cs fm dv G0 hcs hfm hdv) (C := "java/lang/String") rfl (ww 164 rfl) (ww 165 rfl) (ww 167 rfl) (ww 166 rfl) (ww 7 rfl) (ww 168 rfl) (by decide) rfl (by decide) (W := 0) (Nat.le_of_eq rfl) (by decide) (cells' := 0) (slots' := 0) rfl rfl (by decide) (by decide) A2 (argsL := [(.ref b1), (.int n1), (.int (0 : Int32))]) (rest := []) (lenOf own_pd22 rfl) rfl rfl own_d_jdk_68_method_73_code_15 (pc' := 18) rfl ?_
  rintro _ T279 h279 X279 ⟨rfl, D279, K279⟩
  have S280 := G0.keep K279 (own_nsV V1 own_ns0)
  have A281 := A1.keep K279
  have F282 := F1.keep K279 (ninS N1 nin0)
  have F283 := F2.keep K279 (ninS N1 nin0)
  have F284 := F3.keep K279 (ninS N1 nin0)
  have F285 := F4.keep K279 (ninS N1 nin0)
  have K286 := K0.trans K279 (own_mem1 (Or.inl (by simp)))
  obtain ⟨pe279, VE279, hl279, hf279⟩ := D279
  show own_Goal p e below _ T279 (mkF m 18 #[oA a1, oI n1, oA d1] [])
  exact own_retV X279  own_d_jdk_68_method_73_code_18 rfl (by decide) (by decide) ⟨rfl, ⟨_, Or.inl rfl, gb1, N1, ⟨A281, F282, F283, F284, F285, pe279, VE279, hl279, hf279⟩⟩, K286⟩
abbrev own_rm_own_psaLU : Room := ({ frames := 8, cells := 1, slots := 32, locals := 131 } : Room)
set_option maxRecDepth 65536 in
set_option maxHeartbeats 40000000 in
theorem own_psaLU (l : Launch) (Z : State) (a0 : Array Value) (hw : ∀ d ∈ tables_1, d.before a0 Z = true) (a1 b1 : Addr) (n1 : Int32) (cs_ : List Int32) (pad : List Value) (d1 w1 : Addr) (ln : Int32) (ds : List Int32) (h0 : Heap) (n0 : Nat) (Z0 : n0 ≤ h0.size) (ge1 : n0 ≤ a1) (gb1 : n0 ≤ b1) (A1 : Exa Z h0 a1 "java/lang/StringBuilder") (F1 : Fld Z h0 a1 "java/lang/AbstractStringBuilder" "count" "I" (.int n1)) (F2 : Fld Z h0 a1 "java/lang/AbstractStringBuilder" "coder" "B" (.int (0 : Int32))) (F3 : Fld Z h0 a1 "java/lang/AbstractStringBuilder" "value" "[B" (.ref b1)) (F4 : Fld Z h0 a1 "java/lang/AbstractStringBuilder" "maybeLatin1" "Z" (.int (0 : Int32))) (V1 : own_Vec Z h0 b1 .byte (own_l8 cs_ ++ pad)) (hvl : (own_l8 cs_ ++ pad).length = 16) (hpf : pad.all (fits .byte) = true) (f_n1 : own_I 16 ((cs_.length : Nat) : Int) n1) (N1 : a1 ≠ b1) (A2 : Exa Z h0 d1 "java/lang/String") (H1 : Fld Z h0 d1 "java/lang/String" "coder" "B" (.int (1 : Int32))) (H2 : Fld Z h0 d1 "java/lang/String" "value" "[B" (.ref w1)) (V2 : own_Vec Z h0 w1 .byte (own_u16 ds))(f_ln : own_I 32 (2 * ((ds.length : Nat) : Int)) ln)(hd16 : cs_.length + ds.length ≤ 16) (N2 : w1 ≠ b1) (hlc : own_lat cs_ = true) (hcc : own_ch cs_) (hcd : own_ch ds) (N3 : a1 ≠ w1) (N4 : a1 ≠ d1) (N5 : d1 ≠ b1) (cs : Int32) (fm dv : Value) (G0 : own_Gs Z h0 cs fm dv) (hcs : ¬ cs = 0) (hfm : fm.isRef = true) (hdv : dv.isRef = true) :
    own_Met l Z ({ cls := "java/lang/AbstractStringBuilder", name := "putStringAt", desc := "(ILjava/lang/String;)V" } : Jvm.MethodName) jdk_68_method_73_code 3 none [] own_rm_own_psaLU #[(.ref a1), (.int n1), (.ref d1)] h0 n0 (fun v h => v = none ∧ (∃ b, (b = b1 ∨ h0.size ≤ b) ∧ n0 ≤ b ∧ a1 ≠ b ∧ own_SB2 Z h a1 b false n1 (cs_ ++ ds)) ∧ Keep h0 h [a1, b1]) := by
  have ww := fun (i : Nat) {d : Jvm.Cond} (q : tables_1[i]? = some d) => hw d (List.mem_of_getElem? q)
  refine own_meet (plainFor_of_name own_pn3) Z0 (Ls0 := #[oA a1, oI n1, oA d1]) (by intro m; first | (simp [entryFrame, mkF, argsToLocals, Value.category]; done) | rfl) ?_
  intro p e s m below meth c T0 X0
  have K0 := Keep.refl h0 [a1, b1]
  refine own_aloadN X0 rfl rfl own_d_jdk_68_method_73_code_0 (pc' := 1) rfl ?_
  refine own_aloadN X0 rfl rfl own_d_jdk_68_method_73_code_1 (pc' := 2) rfl ?_
  refine own_virtual X0 (own_ifnLU l Z a0 hw a1 b1 n1 cs_ pad d1 w1 ln ds _ n0 X0.le ge1 gb1 A1 F1 F2 F3 F4 V1 hvl hpf f_n1 N1 A2 H1 H2 V2 f_ln hd16 N2 hlc hcc cs fm dv G0 hcs hfm hdv) (C := "java/lang/StringBuilder") rfl (ww 158 rfl) (own_declares (ww 159 rfl) (ww 162 rfl)) (ww 161 rfl) (ww 159 rfl) (ww 118 rfl) (ww 162 rfl) (by decide) rfl (by decide) (W := 0) (Nat.le_of_eq rfl) (by decide) (cells' := 1) (slots' := 32) rfl rfl (by decide) (by decide) A1 (argsL := [(.ref d1)]) (rest := []) (lenOf own_pd21 rfl) rfl rfl own_d_jdk_68_method_73_code_2 (pc' := 5) rfl ?_
  rintro _ T287 h287 X287 ⟨rfl, D287, K287⟩
  have S288 := G0.keep K287 (own_nsE A1 own_ns0)
  have A289 := A1.keep K287
  have A290 := A2.keep K287
  have F291 := H1.keep K287 (ninS N4.symm nin0)
  have F292 := H2.keep K287 (ninS N4.symm nin0)
  have V293 := V2.keep K287 (ninS N3.symm nin0)
  have K294 := K0.trans K287 (own_mem1 (Or.inl (by simp)))
  obtain ⟨B287, szB287, -, ⟨nb287, fnb287, G1_287⟩, G2_287, G3_287, G4_287, pd287, VB287, hvB287, hpB287⟩ := D287
  obtain rfl : n1 = nb287 := own_I.inj f_n1 fnb287
  have neA287 : a1 ≠ B287 := own_ne_newE A1 szB287
  have neW287 : w1 ≠ B287 := own_ne_new V2 szB287
  have neD287 : d1 ≠ B287 := own_ne_newE A2 szB287
  show own_Goal p e below _ T287 (mkF m 5 #[oA a1, oI n1, oA d1] [])
  refine own_aloadN X287 rfl rfl own_d_jdk_68_method_73_code_5 (pc' := 6) rfl ?_
  refine own_aloadN X287 rfl rfl own_d_jdk_68_method_73_code_6 (pc' := 7) rfl ?_
  refine own_getF X287 (ww 122 rfl) G3_287 own_d_jdk_68_method_73_code_7 (pc' := 10) rfl fun T295 X295 => ?_
  refine own_iloadN X295 rfl own_d_jdk_68_method_73_code_10 (pc' := 11) rfl ?_
  refine own_aloadN X295 rfl rfl own_d_jdk_68_method_73_code_11 (pc' := 12) rfl ?_
  refine own_getF X295 (ww 124 rfl) G2_287 own_d_jdk_68_method_73_code_12 (pc' := 15) rfl fun T296 X296 => ?_
  refine own_virtual X296 (own_gbUU l Z a0 hw B287 n1 cs_ pd287 d1 w1 ln ds _ n0 X296.le (Nat.le_trans Z0 szB287) VB287 hvB287 hpB287 f_n1 A290 F291 F292 V293 f_ln hd16 neW287 cs fm dv S288 hcs hfm hdv) (C := "java/lang/String") rfl (ww 164 rfl) (ww 165 rfl) (ww 167 rfl) (ww 166 rfl) (ww 7 rfl) (ww 168 rfl) (by decide) rfl (by decide) (W := 0) (Nat.le_of_eq rfl) (by decide) (cells' := 1) (slots' := 32) rfl rfl (by decide) (by decide) A290 (argsL := [(.ref B287), (.int n1), (.int (1 : Int32))]) (rest := []) (lenOf own_pd22 rfl) rfl rfl own_d_jdk_68_method_73_code_15 (pc' := 18) rfl ?_
  rintro _ T297 h297 X297 ⟨rfl, D297, K297⟩
  have S298 := S288.keep K297 (own_nsV VB287 own_ns0)
  have A299 := A289.keep K297
  have F300 := G1_287.keep K297 (ninS neA287 nin0)
  have F301 := G2_287.keep K297 (ninS neA287 nin0)
  have F302 := G3_287.keep K297 (ninS neA287 nin0)
  have F303 := G4_287.keep K297 (ninS neA287 nin0)
  have K304 := K294.trans K297 (own_mem1 (Or.inr szB287))
  obtain ⟨pe297, VE297, hl297, hf297⟩ := D297
  show own_Goal p e below _ T297 (mkF m 18 #[oA a1, oI n1, oA d1] [])
  exact own_retV X297  own_d_jdk_68_method_73_code_18 rfl (by decide) (by decide) ⟨rfl, ⟨_, Or.inr szB287, (Nat.le_trans Z0 szB287), neA287, ⟨A299, F300, F301, F302, F303, pe297, VE297, hl297, hf297⟩⟩, K304⟩
abbrev own_rm_own_psaUL : Room := ({ frames := 7, cells := 0, slots := 0, locals := 120 } : Room)
set_option maxRecDepth 65536 in
set_option maxHeartbeats 40000000 in
theorem own_psaUL (l : Launch) (Z : State) (a0 : Array Value) (hw : ∀ d ∈ tables_1, d.before a0 Z = true) (a1 b1 : Addr) (n1 : Int32) (cs_ : List Int32) (pad : List Value) (d1 w1 : Addr) (ln : Int32) (ds : List Int32) (h0 : Heap) (n0 : Nat) (Z0 : n0 ≤ h0.size) (ge1 : n0 ≤ a1) (gb1 : n0 ≤ b1) (A1 : Exa Z h0 a1 "java/lang/StringBuilder") (F1 : Fld Z h0 a1 "java/lang/AbstractStringBuilder" "count" "I" (.int n1)) (F2 : Fld Z h0 a1 "java/lang/AbstractStringBuilder" "coder" "B" (.int (1 : Int32))) (F3 : Fld Z h0 a1 "java/lang/AbstractStringBuilder" "value" "[B" (.ref b1)) (F4 : Fld Z h0 a1 "java/lang/AbstractStringBuilder" "maybeLatin1" "Z" (.int (0 : Int32))) (V1 : own_Vec Z h0 b1 .byte (own_u16 cs_ ++ pad)) (hvl : (own_u16 cs_ ++ pad).length = 32) (hpf : pad.all (fits .byte) = true) (f_n1 : own_I 16 ((cs_.length : Nat) : Int) n1) (N1 : a1 ≠ b1) (A2 : Exa Z h0 d1 "java/lang/String") (H1 : Fld Z h0 d1 "java/lang/String" "coder" "B" (.int (0 : Int32))) (H2 : Fld Z h0 d1 "java/lang/String" "value" "[B" (.ref w1)) (V2 : own_Vec Z h0 w1 .byte (own_l8 ds))(f_ln : own_I 32 ((ds.length : Nat) : Int) ln)(hd16 : cs_.length + ds.length ≤ 16) (N2 : w1 ≠ b1) (hld : own_lat ds = true) (hcd : own_ch ds) (N3 : a1 ≠ w1) (N4 : a1 ≠ d1) (N5 : d1 ≠ b1) (cs : Int32) (fm dv : Value) (G0 : own_Gs Z h0 cs fm dv) (hcs : ¬ cs = 0) (hfm : fm.isRef = true) (hdv : dv.isRef = true) :
    own_Met l Z ({ cls := "java/lang/AbstractStringBuilder", name := "putStringAt", desc := "(ILjava/lang/String;)V" } : Jvm.MethodName) jdk_68_method_73_code 3 none [] own_rm_own_psaUL #[(.ref a1), (.int n1), (.ref d1)] h0 n0 (fun v h => v = none ∧ (∃ b, (b = b1 ∨ h0.size ≤ b) ∧ n0 ≤ b ∧ a1 ≠ b ∧ own_SB2 Z h a1 b false n1 (cs_ ++ ds)) ∧ Keep h0 h [a1, b1]) := by
  have ww := fun (i : Nat) {d : Jvm.Cond} (q : tables_1[i]? = some d) => hw d (List.mem_of_getElem? q)
  refine own_meet (plainFor_of_name own_pn3) Z0 (Ls0 := #[oA a1, oI n1, oA d1]) (by intro m; first | (simp [entryFrame, mkF, argsToLocals, Value.category]; done) | rfl) ?_
  intro p e s m below meth c T0 X0
  have K0 := Keep.refl h0 [a1, b1]
  refine own_aloadN X0 rfl rfl own_d_jdk_68_method_73_code_0 (pc' := 1) rfl ?_
  refine own_aloadN X0 rfl rfl own_d_jdk_68_method_73_code_1 (pc' := 2) rfl ?_
  refine own_virtual X0 (own_ifnUL l Z a0 hw a1 b1 n1 cs_ pad d1 w1 ln ds _ n0 X0.le ge1 gb1 A1 F1 F2 F3 F4 V1 hvl hpf f_n1 N1 A2 H1 H2 V2 f_ln hd16 N2 cs fm dv G0 hcs hfm hdv) (C := "java/lang/StringBuilder") rfl (ww 158 rfl) (own_declares (ww 159 rfl) (ww 162 rfl)) (ww 161 rfl) (ww 159 rfl) (ww 118 rfl) (ww 162 rfl) (by decide) rfl (by decide) (W := 0) (Nat.le_of_eq rfl) (by decide) (cells' := 0) (slots' := 0) rfl rfl (by decide) (by decide) A1 (argsL := [(.ref d1)]) (rest := []) (lenOf own_pd21 rfl) rfl rfl own_d_jdk_68_method_73_code_2 (pc' := 5) rfl ?_
  rintro _ T305 h305 X305 ⟨rfl, e305⟩
  subst e305
  show own_Goal p e below _ T305 (mkF m 5 #[oA a1, oI n1, oA d1] [])
  refine own_aloadN X305 rfl rfl own_d_jdk_68_method_73_code_5 (pc' := 6) rfl ?_
  refine own_aloadN X305 rfl rfl own_d_jdk_68_method_73_code_6 (pc' := 7) rfl ?_
  refine own_getF X305 (ww 122 rfl) F3 own_d_jdk_68_method_73_code_7 (pc' := 10) rfl fun T306 X306 => ?_
  refine own_iloadN X306 rfl own_d_jdk_68_method_73_code_10 (pc' := 11) rfl ?_
  refine own_aloadN X306 rfl rfl own_d_jdk_68_method_73_code_11 (pc' := 12) rfl ?_
  refine own_getF X306 (ww 124 rfl) F2 own_d_jdk_68_method_73_code_12 (pc' := 15) rfl fun T307 X307 => ?_
  refine own_virtual X307 (own_gbLU l Z a0 hw b1 n1 cs_ pad d1 w1 ln ds _ n0 X307.le gb1 V1 hvl hpf f_n1 A2 H1 H2 V2 f_ln hd16 N2 hld hcd cs fm dv G0 hcs hfm hdv) (C := "java/lang/String") rfl (ww 164 rfl) (ww 165 rfl) (ww 167 rfl) (ww 166 rfl) (ww 7 rfl) (ww 168 rfl) (by decide) rfl (by decide) (W := 0) (Nat.le_of_eq rfl) (by decide) (cells' := 0) (slots' := 0) rfl rfl (by decide) (by decide) A2 (argsL := [(.ref b1), (.int n1), (.int (1 : Int32))]) (rest := []) (lenOf own_pd22 rfl) rfl rfl own_d_jdk_68_method_73_code_15 (pc' := 18) rfl ?_
  rintro _ T308 h308 X308 ⟨rfl, D308, K308⟩
  have S309 := G0.keep K308 (own_nsV V1 own_ns0)
  have A310 := A1.keep K308
  have F311 := F1.keep K308 (ninS N1 nin0)
  have F312 := F2.keep K308 (ninS N1 nin0)
  have F313 := F3.keep K308 (ninS N1 nin0)
  have F314 := F4.keep K308 (ninS N1 nin0)
  have K315 := K0.trans K308 (own_mem1 (Or.inl (by simp)))
  obtain ⟨pe308, VE308, hl308, hf308⟩ := D308
  show own_Goal p e below _ T308 (mkF m 18 #[oA a1, oI n1, oA d1] [])
  exact own_retV X308  own_d_jdk_68_method_73_code_18 rfl (by decide) (by decide) ⟨rfl, ⟨_, Or.inl rfl, gb1, N1, ⟨A310, F311, F312, F313, F314, pe308, VE308, hl308, hf308⟩⟩, K315⟩
abbrev own_rm_own_psaUU : Room := ({ frames := 2, cells := 0, slots := 0, locals := 55 } : Room)
set_option maxRecDepth 65536 in
set_option maxHeartbeats 40000000 in
theorem own_psaUU (l : Launch) (Z : State) (a0 : Array Value) (hw : ∀ d ∈ tables_1, d.before a0 Z = true) (a1 b1 : Addr) (n1 : Int32) (cs_ : List Int32) (pad : List Value) (d1 w1 : Addr) (ln : Int32) (ds : List Int32) (h0 : Heap) (n0 : Nat) (Z0 : n0 ≤ h0.size) (ge1 : n0 ≤ a1) (gb1 : n0 ≤ b1) (A1 : Exa Z h0 a1 "java/lang/StringBuilder") (F1 : Fld Z h0 a1 "java/lang/AbstractStringBuilder" "count" "I" (.int n1)) (F2 : Fld Z h0 a1 "java/lang/AbstractStringBuilder" "coder" "B" (.int (1 : Int32))) (F3 : Fld Z h0 a1 "java/lang/AbstractStringBuilder" "value" "[B" (.ref b1)) (F4 : Fld Z h0 a1 "java/lang/AbstractStringBuilder" "maybeLatin1" "Z" (.int (0 : Int32))) (V1 : own_Vec Z h0 b1 .byte (own_u16 cs_ ++ pad)) (hvl : (own_u16 cs_ ++ pad).length = 32) (hpf : pad.all (fits .byte) = true) (f_n1 : own_I 16 ((cs_.length : Nat) : Int) n1) (N1 : a1 ≠ b1) (A2 : Exa Z h0 d1 "java/lang/String") (H1 : Fld Z h0 d1 "java/lang/String" "coder" "B" (.int (1 : Int32))) (H2 : Fld Z h0 d1 "java/lang/String" "value" "[B" (.ref w1)) (V2 : own_Vec Z h0 w1 .byte (own_u16 ds))(f_ln : own_I 32 (2 * ((ds.length : Nat) : Int)) ln)(hd16 : cs_.length + ds.length ≤ 16) (N2 : w1 ≠ b1) (hcd : own_ch ds) (N3 : a1 ≠ w1) (N4 : a1 ≠ d1) (N5 : d1 ≠ b1) (cs : Int32) (fm dv : Value) (G0 : own_Gs Z h0 cs fm dv) (hcs : ¬ cs = 0) (hfm : fm.isRef = true) (hdv : dv.isRef = true) :
    own_Met l Z ({ cls := "java/lang/AbstractStringBuilder", name := "putStringAt", desc := "(ILjava/lang/String;)V" } : Jvm.MethodName) jdk_68_method_73_code 3 none [] own_rm_own_psaUU #[(.ref a1), (.int n1), (.ref d1)] h0 n0 (fun v h => v = none ∧ (∃ b, (b = b1 ∨ h0.size ≤ b) ∧ n0 ≤ b ∧ a1 ≠ b ∧ own_SB2 Z h a1 b false n1 (cs_ ++ ds)) ∧ Keep h0 h [a1, b1]) := by
  have ww := fun (i : Nat) {d : Jvm.Cond} (q : tables_1[i]? = some d) => hw d (List.mem_of_getElem? q)
  refine own_meet (plainFor_of_name own_pn3) Z0 (Ls0 := #[oA a1, oI n1, oA d1]) (by intro m; first | (simp [entryFrame, mkF, argsToLocals, Value.category]; done) | rfl) ?_
  intro p e s m below meth c T0 X0
  have K0 := Keep.refl h0 [a1, b1]
  refine own_aloadN X0 rfl rfl own_d_jdk_68_method_73_code_0 (pc' := 1) rfl ?_
  refine own_aloadN X0 rfl rfl own_d_jdk_68_method_73_code_1 (pc' := 2) rfl ?_
  refine own_virtual X0 (own_ifnUU l Z a0 hw a1 b1 n1 cs_ pad d1 w1 ln ds _ n0 X0.le ge1 gb1 A1 F1 F2 F3 F4 V1 hvl hpf f_n1 N1 A2 H1 H2 V2 f_ln hd16 N2 cs fm dv G0 hcs hfm hdv) (C := "java/lang/StringBuilder") rfl (ww 158 rfl) (own_declares (ww 159 rfl) (ww 162 rfl)) (ww 161 rfl) (ww 159 rfl) (ww 118 rfl) (ww 162 rfl) (by decide) rfl (by decide) (W := 0) (Nat.le_of_eq rfl) (by decide) (cells' := 0) (slots' := 0) rfl rfl (by decide) (by decide) A1 (argsL := [(.ref d1)]) (rest := []) (lenOf own_pd21 rfl) rfl rfl own_d_jdk_68_method_73_code_2 (pc' := 5) rfl ?_
  rintro _ T316 h316 X316 ⟨rfl, e316⟩
  subst e316
  show own_Goal p e below _ T316 (mkF m 5 #[oA a1, oI n1, oA d1] [])
  refine own_aloadN X316 rfl rfl own_d_jdk_68_method_73_code_5 (pc' := 6) rfl ?_
  refine own_aloadN X316 rfl rfl own_d_jdk_68_method_73_code_6 (pc' := 7) rfl ?_
  refine own_getF X316 (ww 122 rfl) F3 own_d_jdk_68_method_73_code_7 (pc' := 10) rfl fun T317 X317 => ?_
  refine own_iloadN X317 rfl own_d_jdk_68_method_73_code_10 (pc' := 11) rfl ?_
  refine own_aloadN X317 rfl rfl own_d_jdk_68_method_73_code_11 (pc' := 12) rfl ?_
  refine own_getF X317 (ww 124 rfl) F2 own_d_jdk_68_method_73_code_12 (pc' := 15) rfl fun T318 X318 => ?_
  refine own_virtual X318 (own_gbUU l Z a0 hw b1 n1 cs_ pad d1 w1 ln ds _ n0 X318.le gb1 V1 hvl hpf f_n1 A2 H1 H2 V2 f_ln hd16 N2 cs fm dv G0 hcs hfm hdv) (C := "java/lang/String") rfl (ww 164 rfl) (ww 165 rfl) (ww 167 rfl) (ww 166 rfl) (ww 7 rfl) (ww 168 rfl) (by decide) rfl (by decide) (W := 0) (Nat.le_of_eq rfl) (by decide) (cells' := 0) (slots' := 0) rfl rfl (by decide) (by decide) A2 (argsL := [(.ref b1), (.int n1), (.int (1 : Int32))]) (rest := []) (lenOf own_pd22 rfl) rfl rfl own_d_jdk_68_method_73_code_15 (pc' := 18) rfl ?_
  rintro _ T319 h319 X319 ⟨rfl, D319, K319⟩
  have S320 := G0.keep K319 (own_nsV V1 own_ns0)
  have A321 := A1.keep K319
  have F322 := F1.keep K319 (ninS N1 nin0)
  have F323 := F2.keep K319 (ninS N1 nin0)
  have F324 := F3.keep K319 (ninS N1 nin0)
  have F325 := F4.keep K319 (ninS N1 nin0)
  have K326 := K0.trans K319 (own_mem1 (Or.inl (by simp)))
  obtain ⟨pe319, VE319, hl319, hf319⟩ := D319
  show own_Goal p e below _ T319 (mkF m 18 #[oA a1, oI n1, oA d1] [])
  exact own_retV X319  own_d_jdk_68_method_73_code_18 rfl (by decide) (by decide) ⟨rfl, ⟨_, Or.inl rfl, gb1, N1, ⟨A321, F322, F323, F324, F325, pe319, VE319, hl319, hf319⟩⟩, K326⟩
theorem own_d_jdk_68_method_22_code_0 : decode jdk_68_method_22_code 0 = .ok (.aload_n 1, 1) := by decide +kernel
theorem own_d_jdk_68_method_22_code_1 : decode jdk_68_method_22_code 1 = .ok (.ifnonnull 8, 3) := by decide +kernel
theorem own_d_jdk_68_method_22_code_4 : decode jdk_68_method_22_code 4 = .ok (.aload_n 0, 1) := by decide +kernel
theorem own_d_jdk_68_method_22_code_5 : decode jdk_68_method_22_code 5 = .ok (.invokevirtual 204, 3) := by decide +kernel
theorem own_d_jdk_68_method_22_code_8 : decode jdk_68_method_22_code 8 = .ok (.areturn, 1) := by decide +kernel
theorem own_d_jdk_68_method_22_code_9 : decode jdk_68_method_22_code 9 = .ok (.aload_n 1, 1) := by decide +kernel
theorem own_d_jdk_68_method_22_code_10 : decode jdk_68_method_22_code 10 = .ok (.invokevirtual 32, 3) := by decide +kernel
theorem own_d_jdk_68_method_22_code_13 : decode jdk_68_method_22_code 13 = .ok (.istore_n 2, 1) := by decide +kernel
theorem own_d_jdk_68_method_22_code_14 : decode jdk_68_method_22_code 14 = .ok (.aload_n 0, 1) := by decide +kernel
theorem own_d_jdk_68_method_22_code_15 : decode jdk_68_method_22_code 15 = .ok (.aload_n 0, 1) := by decide +kernel
theorem own_d_jdk_68_method_22_code_16 : decode jdk_68_method_22_code 16 = .ok (.getfield 79, 3) := by decide +kernel
theorem own_d_jdk_68_method_22_code_19 : decode jdk_68_method_22_code 19 = .ok (.iload_n 2, 1) := by decide +kernel
theorem own_d_jdk_68_method_22_code_20 : decode jdk_68_method_22_code 20 = .ok (.iadd, 1) := by decide +kernel
theorem own_d_jdk_68_method_22_code_21 : decode jdk_68_method_22_code 21 = .ok (.invokevirtual 100, 3) := by decide +kernel
theorem own_d_jdk_68_method_22_code_24 : decode jdk_68_method_22_code 24 = .ok (.aload_n 0, 1) := by decide +kernel
theorem own_d_jdk_68_method_22_code_25 : decode jdk_68_method_22_code 25 = .ok (.aload_n 0, 1) := by decide +kernel
theorem own_d_jdk_68_method_22_code_26 : decode jdk_68_method_22_code 26 = .ok (.getfield 79, 3) := by decide +kernel
theorem own_d_jdk_68_method_22_code_29 : decode jdk_68_method_22_code 29 = .ok (.aload_n 1, 1) := by decide +kernel
theorem own_d_jdk_68_method_22_code_30 : decode jdk_68_method_22_code 30 = .ok (.invokevirtual 208, 3) := by decide +kernel
theorem own_d_jdk_68_method_22_code_33 : decode jdk_68_method_22_code 33 = .ok (.aload_n 0, 1) := by decide +kernel
theorem own_d_jdk_68_method_22_code_34 : decode jdk_68_method_22_code 34 = .ok (.dup, 1) := by decide +kernel
theorem own_d_jdk_68_method_22_code_35 : decode jdk_68_method_22_code 35 = .ok (.getfield 79, 3) := by decide +kernel
theorem own_d_jdk_68_method_22_code_38 : decode jdk_68_method_22_code 38 = .ok (.iload_n 2, 1) := by decide +kernel
theorem own_d_jdk_68_method_22_code_39 : decode jdk_68_method_22_code 39 = .ok (.iadd, 1) := by decide +kernel
theorem own_d_jdk_68_method_22_code_40 : decode jdk_68_method_22_code 40 = .ok (.putfield 79, 3) := by decide +kernel
theorem own_d_jdk_68_method_22_code_43 : decode jdk_68_method_22_code 43 = .ok (.aload_n 0, 1) := by decide +kernel
theorem own_d_jdk_68_method_22_code_44 : decode jdk_68_method_22_code 44 = .ok (.areturn, 1) := by decide +kernel
theorem own_pd24 : parseMethodDescriptor "(Ljava/lang/String;)Ljava/lang/AbstractStringBuilder;" = some ⟨[(.object "java/lang/String")], some (.object "java/lang/AbstractStringBuilder")⟩ := by decide +kernel
abbrev own_rm_own_aapLL : Room := ({ frames := 3, cells := 0, slots := 0, locals := 69 } : Room)
set_option maxRecDepth 65536 in
set_option maxHeartbeats 40000000 in
theorem own_aapLL (l : Launch) (Z : State) (a0 : Array Value) (hw : ∀ d ∈ tables_1, d.before a0 Z = true) (a1 b1 : Addr) (n1 : Int32) (cs_ : List Int32) (pad : List Value) (d1 w1 : Addr) (ln : Int32) (ds : List Int32) (h0 : Heap) (n0 : Nat) (Z0 : n0 ≤ h0.size) (ge1 : n0 ≤ a1) (gb1 : n0 ≤ b1) (A1 : Exa Z h0 a1 "java/lang/StringBuilder") (F1 : Fld Z h0 a1 "java/lang/AbstractStringBuilder" "count" "I" (.int n1)) (F2 : Fld Z h0 a1 "java/lang/AbstractStringBuilder" "coder" "B" (.int (0 : Int32))) (F3 : Fld Z h0 a1 "java/lang/AbstractStringBuilder" "value" "[B" (.ref b1)) (F4 : Fld Z h0 a1 "java/lang/AbstractStringBuilder" "maybeLatin1" "Z" (.int (0 : Int32))) (V1 : own_Vec Z h0 b1 .byte (own_l8 cs_ ++ pad)) (hvl : (own_l8 cs_ ++ pad).length = 16) (hpf : pad.all (fits .byte) = true) (f_n1 : own_I 16 ((cs_.length : Nat) : Int) n1) (N1 : a1 ≠ b1) (A2 : Exa Z h0 d1 "java/lang/String") (H1 : Fld Z h0 d1 "java/lang/String" "coder" "B" (.int (0 : Int32))) (H2 : Fld Z h0 d1 "java/lang/String" "value" "[B" (.ref w1)) (V2 : own_Vec Z h0 w1 .byte (own_l8 ds))(f_ln : own_I 32 ((ds.length : Nat) : Int) ln)(hd16 : cs_.length + ds.length ≤ 16) (N2 : w1 ≠ b1) (hlc : own_lat cs_ = true) (hcc : own_ch cs_) (hld : own_lat ds = true) (hcd : own_ch ds) (N3 : a1 ≠ w1) (N4 : a1 ≠ d1) (N5 : d1 ≠ b1) (cs : Int32) (fm dv : Value) (G0 : own_Gs Z h0 cs fm dv) (hcs : ¬ cs = 0) (hfm : fm.isRef = true) (hdv : dv.isRef = true) :
    own_Met l Z ({ cls := "java/lang/AbstractStringBuilder", name := "append", desc := "(Ljava/lang/String;)Ljava/lang/AbstractStringBuilder;" } : Jvm.MethodName) jdk_68_method_22_code 3 (some (.object "java/lang/AbstractStringBuilder")) [] own_rm_own_aapLL #[(.ref a1), (.ref d1)] h0 n0 (fun v h => ∃ b, v = some (.ref a1) ∧ (b = b1 ∨ h0.size ≤ b) ∧ n0 ≤ b ∧ a1 ≠ b ∧ own_SB Z h a1 b true (cs_ ++ ds) ∧ Keep h0 h [a1, b1]) := by
  have ww := fun (i : Nat) {d : Jvm.Cond} (q : tables_1[i]? = some d) => hw d (List.mem_of_getElem? q)
  refine own_meet (plainFor_of_name own_pn3) Z0 (Ls0 := #[oA a1, oA d1, oU]) (by intro m; first | (simp [entryFrame, mkF, argsToLocals, Value.category]; done) | rfl) ?_
  intro p e s m below meth c T0 X0
  have K0 := Keep.refl h0 [a1, b1]
  refine own_aloadN X0 rfl rfl own_d_jdk_68_method_22_code_0 (pc' := 1) rfl ?_
  refine own_ifnonnullT X0 own_d_jdk_68_method_22_code_1 (pc' := 9) (by decide) (by decide) ?_
  refine own_aloadN X0 rfl rfl own_d_jdk_68_method_22_code_9 (pc' := 10) rfl ?_
  refine own_virtual X0 (own_slenL l Z a0 hw d1 w1 ln ds _ n0 X0.le A2 H1 H2 V2 f_ln (by omega) cs fm dv G0 hcs hfm hdv) (C := "java/lang/String") rfl (ww 136 rfl) (ww 137 rfl) (ww 139 rfl) (ww 138 rfl) (ww 7 rfl) (ww 140 rfl) (by decide) rfl (by decide) (W := 0) (Nat.le_of_eq rfl) (by decide) (cells' := 0) (slots' := 0) rfl rfl (by decide) (by decide) A2 (argsL := []) (rest := []) (lenOf own_pd12 rfl) rfl rfl own_d_jdk_68_method_22_code_10 (pc' := 13) rfl ?_
  rintro _ T327 h327 X327 ⟨⟨r327, rfl, fr327⟩, e327⟩
  subst e327
  show own_Goal p e below _ T327 (mkF m 13 #[oA a1, oA d1, oU] [(.int r327)])
  refine own_istoreN X327 (Ls' := #[oA a1, oA d1, oI r327]) rfl own_d_jdk_68_method_22_code_13 (pc' := 14) rfl ?_
  refine own_aloadN X327 rfl rfl own_d_jdk_68_method_22_code_14 (pc' := 15) rfl ?_
  refine own_aloadN X327 rfl rfl own_d_jdk_68_method_22_code_15 (pc' := 16) rfl ?_
  refine own_getF X327 (ww 146 rfl) F1 own_d_jdk_68_method_22_code_16 (pc' := 19) rfl fun T328 X328 => ?_
  refine own_iloadN X328 rfl own_d_jdk_68_method_22_code_19 (pc' := 20) rfl ?_
  obtain ⟨i329, e329⟩ : ∃ v, n1 + r327 = v := ⟨_, rfl⟩
  have f329 : own_I 32 (((cs_.length : Nat) : Int) + ((ds.length : Nat) : Int)) i329 := f_n1.add fr327 e329 (by decide) (by decide)
  refine own_iadd X328 e329 own_d_jdk_68_method_22_code_20 (pc' := 21) rfl ?_
  refine own_virtual X328 (own_ensL l Z a0 hw a1 b1 n1 cs_ pad i329 (cs_.length + ds.length) _ n0 X328.le ge1 gb1 A1 F1 F2 F3 F4 V1 hvl hpf f_n1 N1 (f329.of_eq (by simp)) hd16) (C := "java/lang/StringBuilder") rfl (ww 148 rfl) (own_declares (ww 149 rfl) (ww 152 rfl)) (ww 151 rfl) (ww 149 rfl) (ww 118 rfl) (ww 152 rfl) (by decide) rfl (by decide) (W := 0) (Nat.le_of_eq rfl) (by decide) (cells' := 0) (slots' := 0) rfl rfl (by decide) (by decide) A1 (argsL := [(.int i329)]) (rest := []) (lenOf own_pd13 rfl) rfl rfl own_d_jdk_68_method_22_code_21 (pc' := 24) rfl ?_
  rintro _ T330 h330 X330 ⟨rfl, e330⟩
  subst e330
  show own_Goal p e below _ T330 (mkF m 24 #[oA a1, oA d1, oI r327] [])
  refine own_aloadN X330 rfl rfl own_d_jdk_68_method_22_code_24 (pc' := 25) rfl ?_
  refine own_aloadN X330 rfl rfl own_d_jdk_68_method_22_code_25 (pc' := 26) rfl ?_
  refine own_getF X330 (ww 146 rfl) F1 own_d_jdk_68_method_22_code_26 (pc' := 29) rfl fun T331 X331 => ?_
  refine own_aloadN X331 rfl rfl own_d_jdk_68_method_22_code_29 (pc' := 30) rfl ?_
  refine own_virtual X331 (own_psaLL l Z a0 hw a1 b1 n1 cs_ pad d1 w1 ln ds _ n0 X331.le ge1 gb1 A1 F1 F2 F3 F4 V1 hvl hpf f_n1 N1 A2 H1 H2 V2 f_ln hd16 N2 hlc hcc hld hcd N3 N4 N5 cs fm dv G0 hcs hfm hdv) (C := "java/lang/StringBuilder") rfl (ww 153 rfl) (own_declares (ww 154 rfl) (ww 157 rfl)) (ww 156 rfl) (ww 154 rfl) (ww 118 rfl) (ww 157 rfl) (by decide) rfl (by decide) (W := 0) (Nat.le_of_eq rfl) (by decide) (cells' := 0) (slots' := 0) rfl rfl (by decide) (by decide) A1 (argsL := [(.int n1), (.ref d1)]) (rest := []) (lenOf own_pd23 rfl) rfl rfl own_d_jdk_68_method_22_code_30 (pc' := 33) rfl ?_
  rintro _ T332 h332 X332 ⟨rfl, D332, K332⟩
  obtain ⟨B332, oB332, gB332, nB332, A332, G1_332, G2_332, G3_332, G4_332, pd332, VB332, hvB332, hpB332⟩ := D332
  show own_Goal p e below _ T332 (mkF m 33 #[oA a1, oA d1, oI r327] [])
  refine own_aloadN X332 rfl rfl own_d_jdk_68_method_22_code_33 (pc' := 34) rfl ?_
  refine own_dup X332 rfl own_d_jdk_68_method_22_code_34 (pc' := 35) rfl ?_
  refine own_getF X332 (ww 146 rfl) G1_332 own_d_jdk_68_method_22_code_35 (pc' := 38) rfl fun T333 X333 => ?_
  refine own_iloadN X333 rfl own_d_jdk_68_method_22_code_38 (pc' := 39) rfl ?_
  obtain ⟨i334, e334⟩ : ∃ v, n1 + r327 = v := ⟨_, rfl⟩
  have f334 : own_I 32 (((cs_.length : Nat) : Int) + ((ds.length : Nat) : Int)) i334 := f_n1.add fr327 e334 (by decide) (by decide)
  refine own_iadd X333 e334 own_d_jdk_68_method_22_code_39 (pc' := 40) rfl ?_
  refine own_putF X333 (ww 146 rfl) G1_332 A332 (Or.inl (ww 147 rfl)) (ww 109 rfl) (ty := .int) (by decide) rfl rfl ge1 own_d_jdk_68_method_22_code_40 (pc' := 43) rfl fun T335 h335 X335 W335 => ?_
  have A336 := A332.wr W335
  have V337 := VB332.other W335 nB332.symm
  have K338 := K332.wr W335 (Or.inl (by simp))
  have F339 := G1_332.same W335
  have F340 := G2_332.other W335 (Or.inr (slot_ne (C := "java/lang/StringBuilder") (Or.inl (ww 125 rfl)) (Or.inl (ww 147 rfl)) (by decide) (t := .byte) (t' := .int) (by decide) (by decide)))
  have F341 := G3_332.other W335 (Or.inr (slot_ne (C := "java/lang/StringBuilder") (Or.inl (ww 123 rfl)) (Or.inl (ww 147 rfl)) (by decide) (t := (.array .byte)) (t' := .int) (by decide) (by decide)))
  have F342 := G4_332.other W335 (Or.inr (slot_ne (C := "java/lang/StringBuilder") (Or.inl (ww 337 rfl)) (Or.inl (ww 147 rfl)) (by decide) (t := .boolean) (t' := .int) (by decide) (by decide)))
  refine own_aloadN X335 rfl rfl own_d_jdk_68_method_22_code_43 (pc' := 44) rfl ?_
  exact own_retA X335 (t := (.object "java/lang/AbstractStringBuilder")) rfl own_d_jdk_68_method_22_code_44 rfl (by decide) (by decide) ⟨_, rfl, oB332, gB332, nB332, ⟨A336, ⟨_, f334.re (by simp) (by simp; omega), F339⟩, F340, F341, F342, pd332, V337, hvB332, hpB332⟩, K338⟩
abbrev own_rm_own_sapLL : Room := ({ frames := 10, cells := 1, slots := 32, locals := 160 } : Room)
theorem own_d_jdk_67_method_7_code_0 : decode jdk_67_method_7_code 0 = .ok (.aload_n 0, 1) := by decide +kernel
theorem own_d_jdk_67_method_7_code_1 : decode jdk_67_method_7_code 1 = .ok (.aload_n 1, 1) := by decide +kernel
theorem own_d_jdk_67_method_7_code_2 : decode jdk_67_method_7_code 2 = .ok (.invokespecial 29, 3) := by decide +kernel
theorem own_d_jdk_67_method_7_code_5 : decode jdk_67_method_7_code 5 = .ok (.pop, 1) := by decide +kernel
theorem own_d_jdk_67_method_7_code_6 : decode jdk_67_method_7_code 6 = .ok (.aload_n 0, 1) := by decide +kernel
theorem own_d_jdk_67_method_7_code_7 : decode jdk_67_method_7_code 7 = .ok (.areturn, 1) := by decide +kernel
theorem own_pd25 : parseMethodDescriptor "(Ljava/lang/String;)Ljava/lang/StringBuilder;" = some ⟨[(.object "java/lang/String")], some (.object "java/lang/StringBuilder")⟩ := by decide +kernel
theorem own_pn5 : plainName "java/lang/StringBuilder" = true := by first | (simp [plainName, overriddenIn]; done) | decide +kernel
set_option maxRecDepth 65536 in
set_option maxHeartbeats 40000000 in
theorem own_sapLL (l : Launch) (Z : State) (a0 : Array Value) (hw : ∀ d ∈ tables_1, d.before a0 Z = true) (a1 b1 : Addr) (n1 : Int32) (cs_ : List Int32) (pad : List Value) (d1 w1 : Addr) (ln : Int32) (ds : List Int32) (h0 : Heap) (n0 : Nat) (Z0 : n0 ≤ h0.size) (ge1 : n0 ≤ a1) (gb1 : n0 ≤ b1) (A1 : Exa Z h0 a1 "java/lang/StringBuilder") (F1 : Fld Z h0 a1 "java/lang/AbstractStringBuilder" "count" "I" (.int n1)) (F2 : Fld Z h0 a1 "java/lang/AbstractStringBuilder" "coder" "B" (.int (0 : Int32))) (F3 : Fld Z h0 a1 "java/lang/AbstractStringBuilder" "value" "[B" (.ref b1)) (F4 : Fld Z h0 a1 "java/lang/AbstractStringBuilder" "maybeLatin1" "Z" (.int (0 : Int32))) (V1 : own_Vec Z h0 b1 .byte (own_l8 cs_ ++ pad)) (hvl : (own_l8 cs_ ++ pad).length = 16) (hpf : pad.all (fits .byte) = true) (f_n1 : own_I 16 ((cs_.length : Nat) : Int) n1) (N1 : a1 ≠ b1) (A2 : Exa Z h0 d1 "java/lang/String") (H1 : Fld Z h0 d1 "java/lang/String" "coder" "B" (.int (0 : Int32))) (H2 : Fld Z h0 d1 "java/lang/String" "value" "[B" (.ref w1)) (V2 : own_Vec Z h0 w1 .byte (own_l8 ds))(f_ln : own_I 32 ((ds.length : Nat) : Int) ln)(hd16 : cs_.length + ds.length ≤ 16) (N2 : w1 ≠ b1) (hlc : own_lat cs_ = true) (hcc : own_ch cs_) (hld : own_lat ds = true) (hcd : own_ch ds) (N3 : a1 ≠ w1) (N4 : a1 ≠ d1) (N5 : d1 ≠ b1) (cs : Int32) (fm dv : Value) (G0 : own_Gs Z h0 cs fm dv) (hcs : ¬ cs = 0) (hfm : fm.isRef = true) (hdv : dv.isRef = true) :
    own_Met l Z ({ cls := "java/lang/StringBuilder", name := "append", desc := "(Ljava/lang/String;)Ljava/lang/StringBuilder;" } : Jvm.MethodName) jdk_67_method_7_code 2 (some (.object "java/lang/StringBuilder")) [] own_rm_own_sapLL #[(.ref a1), (.ref d1)] h0 n0 (fun v h => ∃ b, v = some (.ref a1) ∧ (b = b1 ∨ h0.size ≤ b) ∧ n0 ≤ b ∧ a1 ≠ b ∧ own_SB Z h a1 b true (cs_ ++ ds) ∧ Keep h0 h [a1, b1]) := by
  have ww := fun (i : Nat) {d : Jvm.Cond} (q : tables_1[i]? = some d) => hw d (List.mem_of_getElem? q)
  refine own_meet (plainFor_of_name own_pn5) Z0 (Ls0 := #[oA a1, oA d1]) (by intro m; first | (simp [entryFrame, mkF, argsToLocals, Value.category]; done) | rfl) ?_
  intro p e s m below meth c T0 X0
  refine own_aloadN X0 rfl rfl own_d_jdk_67_method_7_code_0 (pc' := 1) rfl ?_
  refine own_aloadN X0 rfl rfl own_d_jdk_67_method_7_code_1 (pc' := 2) rfl ?_
  refine own_super X0 (own_aapLL l Z a0 hw a1 b1 n1 cs_ pad d1 w1 ln ds _ n0 X0.le ge1 gb1 A1 F1 F2 F3 F4 V1 hvl hpf f_n1 N1 A2 H1 H2 V2 f_ln hd16 N2 hlc hcc hld hcd N3 N4 N5 cs fm dv G0 hcs hfm hdv) (ww 131 rfl) (own_same (ww 132 rfl) (ww 151 rfl) rfl (by decide)) (ww 132 rfl) (ww 133 rfl) (by decide) (ww 118 rfl) (ww 135 rfl) rfl (by decide) (W := 0) (Nat.le_of_eq rfl) (by decide) (cells' := 0) (slots' := 0) rfl rfl (by decide) (by decide) A1 (argsL := [(.ref d1)]) (rest := []) (lenOf own_pd24 rfl) rfl rfl own_d_jdk_67_method_7_code_2 (pc' := 5) rfl ?_
  rintro _ T343 h343 X343 ⟨B343, rfl, oB343, gB343, nB343, D343, K343⟩
  show own_Goal p e below _ T343 (mkF m 5 #[oA a1, oA d1] [(.ref a1)])
  refine own_pop X343 rfl own_d_jdk_67_method_7_code_5 (pc' := 6) rfl ?_
  refine own_aloadN X343 rfl rfl own_d_jdk_67_method_7_code_6 (pc' := 7) rfl ?_
  exact own_retA X343 (t := (.object "java/lang/StringBuilder")) rfl own_d_jdk_67_method_7_code_7 rfl (by decide) (by decide) ⟨_, rfl, oB343, gB343, nB343, D343, K343⟩
abbrev own_rm_own_aapLU : Room := ({ frames := 9, cells := 1, slots := 32, locals := 145 } : Room)
set_option maxRecDepth 65536 in
set_option maxHeartbeats 40000000 in
theorem own_aapLU (l : Launch) (Z : State) (a0 : Array Value) (hw : ∀ d ∈ tables_1, d.before a0 Z = true) (a1 b1 : Addr) (n1 : Int32) (cs_ : List Int32) (pad : List Value) (d1 w1 : Addr) (ln : Int32) (ds : List Int32) (h0 : Heap) (n0 : Nat) (Z0 : n0 ≤ h0.size) (ge1 : n0 ≤ a1) (gb1 : n0 ≤ b1) (A1 : Exa Z h0 a1 "java/lang/StringBuilder") (F1 : Fld Z h0 a1 "java/lang/AbstractStringBuilder" "count" "I" (.int n1)) (F2 : Fld Z h0 a1 "java/lang/AbstractStringBuilder" "coder" "B" (.int (0 : Int32))) (F3 : Fld Z h0 a1 "java/lang/AbstractStringBuilder" "value" "[B" (.ref b1)) (F4 : Fld Z h0 a1 "java/lang/AbstractStringBuilder" "maybeLatin1" "Z" (.int (0 : Int32))) (V1 : own_Vec Z h0 b1 .byte (own_l8 cs_ ++ pad)) (hvl : (own_l8 cs_ ++ pad).length = 16) (hpf : pad.all (fits .byte) = true) (f_n1 : own_I 16 ((cs_.length : Nat) : Int) n1) (N1 : a1 ≠ b1) (A2 : Exa Z h0 d1 "java/lang/String") (H1 : Fld Z h0 d1 "java/lang/String" "coder" "B" (.int (1 : Int32))) (H2 : Fld Z h0 d1 "java/lang/String" "value" "[B" (.ref w1)) (V2 : own_Vec Z h0 w1 .byte (own_u16 ds))(f_ln : own_I 32 (2 * ((ds.length : Nat) : Int)) ln)(hd16 : cs_.length + ds.length ≤ 16) (N2 : w1 ≠ b1) (hlc : own_lat cs_ = true) (hcc : own_ch cs_) (hcd : own_ch ds) (N3 : a1 ≠ w1) (N4 : a1 ≠ d1) (N5 : d1 ≠ b1) (cs : Int32) (fm dv : Value) (G0 : own_Gs Z h0 cs fm dv) (hcs : ¬ cs = 0) (hfm : fm.isRef = true) (hdv : dv.isRef = true) :
    own_Met l Z ({ cls := "java/lang/AbstractStringBuilder", name := "append", desc := "(Ljava/lang/String;)Ljava/lang/AbstractStringBuilder;" } : Jvm.MethodName) jdk_68_method_22_code 3 (some (.object "java/lang/AbstractStringBuilder")) [] own_rm_own_aapLU #[(.ref a1), (.ref d1)] h0 n0 (fun v h => ∃ b, v = some (.ref a1) ∧ (b = b1 ∨ h0.size ≤ b) ∧ n0 ≤ b ∧ a1 ≠ b ∧ own_SB Z h a1 b false (cs_ ++ ds) ∧ Keep h0 h [a1, b1]) := by
  have ww := fun (i : Nat) {d : Jvm.Cond} (q : tables_1[i]? = some d) => hw d (List.mem_of_getElem? q)
  refine own_meet (plainFor_of_name own_pn3) Z0 (Ls0 := #[oA a1, oA d1, oU]) (by intro m; first | (simp [entryFrame, mkF, argsToLocals, Value.category]; done) | rfl) ?_
  intro p e s m below meth c T0 X0
  have K0 := Keep.refl h0 [a1, b1]
  refine own_aloadN X0 rfl rfl own_d_jdk_68_method_22_code_0 (pc' := 1) rfl ?_
  refine own_ifnonnullT X0 own_d_jdk_68_method_22_code_1 (pc' := 9) (by decide) (by decide) ?_
  refine own_aloadN X0 rfl rfl own_d_jdk_68_method_22_code_9 (pc' := 10) rfl ?_
  refine own_virtual X0 (own_slenU l Z a0 hw d1 w1 ln ds _ n0 X0.le A2 H1 H2 V2 f_ln (by omega) cs fm dv G0 hcs hfm hdv) (C := "java/lang/String") rfl (ww 136 rfl) (ww 137 rfl) (ww 139 rfl) (ww 138 rfl) (ww 7 rfl) (ww 140 rfl) (by decide) rfl (by decide) (W := 0) (Nat.le_of_eq rfl) (by decide) (cells' := 0) (slots' := 0) rfl rfl (by decide) (by decide) A2 (argsL := []) (rest := []) (lenOf own_pd12 rfl) rfl rfl own_d_jdk_68_method_22_code_10 (pc' := 13) rfl ?_
  rintro _ T344 h344 X344 ⟨⟨r344, rfl, fr344⟩, e344⟩
  subst e344
  show own_Goal p e below _ T344 (mkF m 13 #[oA a1, oA d1, oU] [(.int r344)])
  refine own_istoreN X344 (Ls' := #[oA a1, oA d1, oI r344]) rfl own_d_jdk_68_method_22_code_13 (pc' := 14) rfl ?_
  refine own_aloadN X344 rfl rfl own_d_jdk_68_method_22_code_14 (pc' := 15) rfl ?_
  refine own_aloadN X344 rfl rfl own_d_jdk_68_method_22_code_15 (pc' := 16) rfl ?_
  refine own_getF X344 (ww 146 rfl) F1 own_d_jdk_68_method_22_code_16 (pc' := 19) rfl fun T345 X345 => ?_
  refine own_iloadN X345 rfl own_d_jdk_68_method_22_code_19 (pc' := 20) rfl ?_
  obtain ⟨i346, e346⟩ : ∃ v, n1 + r344 = v := ⟨_, rfl⟩
  have f346 : own_I 32 (((cs_.length : Nat) : Int) + ((ds.length : Nat) : Int)) i346 := f_n1.add fr344 e346 (by decide) (by decide)
  refine own_iadd X345 e346 own_d_jdk_68_method_22_code_20 (pc' := 21) rfl ?_
  refine own_virtual X345 (own_ensL l Z a0 hw a1 b1 n1 cs_ pad i346 (cs_.length + ds.length) _ n0 X345.le ge1 gb1 A1 F1 F2 F3 F4 V1 hvl hpf f_n1 N1 (f346.of_eq (by simp)) hd16) (C := "java/lang/StringBuilder") rfl (ww 148 rfl) (own_declares (ww 149 rfl) (ww 152 rfl)) (ww 151 rfl) (ww 149 rfl) (ww 118 rfl) (ww 152 rfl) (by decide) rfl (by decide) (W := 0) (Nat.le_of_eq rfl) (by decide) (cells' := 0) (slots' := 0) rfl rfl (by decide) (by decide) A1 (argsL := [(.int i346)]) (rest := []) (lenOf own_pd13 rfl) rfl rfl own_d_jdk_68_method_22_code_21 (pc' := 24) rfl ?_
  rintro _ T347 h347 X347 ⟨rfl, e347⟩
  subst e347
  show own_Goal p e below _ T347 (mkF m 24 #[oA a1, oA d1, oI r344] [])
  refine own_aloadN X347 rfl rfl own_d_jdk_68_method_22_code_24 (pc' := 25) rfl ?_
  refine own_aloadN X347 rfl rfl own_d_jdk_68_method_22_code_25 (pc' := 26) rfl ?_
  refine own_getF X347 (ww 146 rfl) F1 own_d_jdk_68_method_22_code_26 (pc' := 29) rfl fun T348 X348 => ?_
  refine own_aloadN X348 rfl rfl own_d_jdk_68_method_22_code_29 (pc' := 30) rfl ?_
  refine own_virtual X348 (own_psaLU l Z a0 hw a1 b1 n1 cs_ pad d1 w1 ln ds _ n0 X348.le ge1 gb1 A1 F1 F2 F3 F4 V1 hvl hpf f_n1 N1 A2 H1 H2 V2 f_ln hd16 N2 hlc hcc hcd N3 N4 N5 cs fm dv G0 hcs hfm hdv) (C := "java/lang/StringBuilder") rfl (ww 153 rfl) (own_declares (ww 154 rfl) (ww 157 rfl)) (ww 156 rfl) (ww 154 rfl) (ww 118 rfl) (ww 157 rfl) (by decide) rfl (by decide) (W := 0) (Nat.le_of_eq rfl) (by decide) (cells' := 1) (slots' := 32) rfl rfl (by decide) (by decide) A1 (argsL := [(.int n1), (.ref d1)]) (rest := []) (lenOf own_pd23 rfl) rfl rfl own_d_jdk_68_method_22_code_30 (pc' := 33) rfl ?_
  rintro _ T349 h349 X349 ⟨rfl, D349, K349⟩
  obtain ⟨B349, oB349, gB349, nB349, A349, G1_349, G2_349, G3_349, G4_349, pd349, VB349, hvB349, hpB349⟩ := D349
  show own_Goal p e below _ T349 (mkF m 33 #[oA a1, oA d1, oI r344] [])
  refine own_aloadN X349 rfl rfl own_d_jdk_68_method_22_code_33 (pc' := 34) rfl ?_
  refine own_dup X349 rfl own_d_jdk_68_method_22_code_34 (pc' := 35) rfl ?_
  refine own_getF X349 (ww 146 rfl) G1_349 own_d_jdk_68_method_22_code_35 (pc' := 38) rfl fun T350 X350 => ?_
  refine own_iloadN X350 rfl own_d_jdk_68_method_22_code_38 (pc' := 39) rfl ?_
  obtain ⟨i351, e351⟩ : ∃ v, n1 + r344 = v := ⟨_, rfl⟩
  have f351 : own_I 32 (((cs_.length : Nat) : Int) + ((ds.length : Nat) : Int)) i351 := f_n1.add fr344 e351 (by decide) (by decide)
  refine own_iadd X350 e351 own_d_jdk_68_method_22_code_39 (pc' := 40) rfl ?_
  refine own_putF X350 (ww 146 rfl) G1_349 A349 (Or.inl (ww 147 rfl)) (ww 109 rfl) (ty := .int) (by decide) rfl rfl ge1 own_d_jdk_68_method_22_code_40 (pc' := 43) rfl fun T352 h352 X352 W352 => ?_
  have A353 := A349.wr W352
  have V354 := VB349.other W352 nB349.symm
  have K355 := K349.wr W352 (Or.inl (by simp))
  have F356 := G1_349.same W352
  have F357 := G2_349.other W352 (Or.inr (slot_ne (C := "java/lang/StringBuilder") (Or.inl (ww 125 rfl)) (Or.inl (ww 147 rfl)) (by decide) (t := .byte) (t' := .int) (by decide) (by decide)))
  have F358 := G3_349.other W352 (Or.inr (slot_ne (C := "java/lang/StringBuilder") (Or.inl (ww 123 rfl)) (Or.inl (ww 147 rfl)) (by decide) (t := (.array .byte)) (t' := .int) (by decide) (by decide)))
  have F359 := G4_349.other W352 (Or.inr (slot_ne (C := "java/lang/StringBuilder") (Or.inl (ww 337 rfl)) (Or.inl (ww 147 rfl)) (by decide) (t := .boolean) (t' := .int) (by decide) (by decide)))
  refine own_aloadN X352 rfl rfl own_d_jdk_68_method_22_code_43 (pc' := 44) rfl ?_
  exact own_retA X352 (t := (.object "java/lang/AbstractStringBuilder")) rfl own_d_jdk_68_method_22_code_44 rfl (by decide) (by decide) ⟨_, rfl, oB349, gB349, nB349, ⟨A353, ⟨_, f351.re (by simp) (by simp; omega), F356⟩, F357, F358, F359, pd349, V354, hvB349, hpB349⟩, K355⟩
abbrev own_rm_own_sapLU : Room := ({ frames := 10, cells := 1, slots := 32, locals := 160 } : Room)
set_option maxRecDepth 65536 in
set_option maxHeartbeats 40000000 in
theorem own_sapLU (l : Launch) (Z : State) (a0 : Array Value) (hw : ∀ d ∈ tables_1, d.before a0 Z = true) (a1 b1 : Addr) (n1 : Int32) (cs_ : List Int32) (pad : List Value) (d1 w1 : Addr) (ln : Int32) (ds : List Int32) (h0 : Heap) (n0 : Nat) (Z0 : n0 ≤ h0.size) (ge1 : n0 ≤ a1) (gb1 : n0 ≤ b1) (A1 : Exa Z h0 a1 "java/lang/StringBuilder") (F1 : Fld Z h0 a1 "java/lang/AbstractStringBuilder" "count" "I" (.int n1)) (F2 : Fld Z h0 a1 "java/lang/AbstractStringBuilder" "coder" "B" (.int (0 : Int32))) (F3 : Fld Z h0 a1 "java/lang/AbstractStringBuilder" "value" "[B" (.ref b1)) (F4 : Fld Z h0 a1 "java/lang/AbstractStringBuilder" "maybeLatin1" "Z" (.int (0 : Int32))) (V1 : own_Vec Z h0 b1 .byte (own_l8 cs_ ++ pad)) (hvl : (own_l8 cs_ ++ pad).length = 16) (hpf : pad.all (fits .byte) = true) (f_n1 : own_I 16 ((cs_.length : Nat) : Int) n1) (N1 : a1 ≠ b1) (A2 : Exa Z h0 d1 "java/lang/String") (H1 : Fld Z h0 d1 "java/lang/String" "coder" "B" (.int (1 : Int32))) (H2 : Fld Z h0 d1 "java/lang/String" "value" "[B" (.ref w1)) (V2 : own_Vec Z h0 w1 .byte (own_u16 ds))(f_ln : own_I 32 (2 * ((ds.length : Nat) : Int)) ln)(hd16 : cs_.length + ds.length ≤ 16) (N2 : w1 ≠ b1) (hlc : own_lat cs_ = true) (hcc : own_ch cs_) (hcd : own_ch ds) (N3 : a1 ≠ w1) (N4 : a1 ≠ d1) (N5 : d1 ≠ b1) (cs : Int32) (fm dv : Value) (G0 : own_Gs Z h0 cs fm dv) (hcs : ¬ cs = 0) (hfm : fm.isRef = true) (hdv : dv.isRef = true) :
    own_Met l Z ({ cls := "java/lang/StringBuilder", name := "append", desc := "(Ljava/lang/String;)Ljava/lang/StringBuilder;" } : Jvm.MethodName) jdk_67_method_7_code 2 (some (.object "java/lang/StringBuilder")) [] own_rm_own_sapLU #[(.ref a1), (.ref d1)] h0 n0 (fun v h => ∃ b, v = some (.ref a1) ∧ (b = b1 ∨ h0.size ≤ b) ∧ n0 ≤ b ∧ a1 ≠ b ∧ own_SB Z h a1 b false (cs_ ++ ds) ∧ Keep h0 h [a1, b1]) := by
  have ww := fun (i : Nat) {d : Jvm.Cond} (q : tables_1[i]? = some d) => hw d (List.mem_of_getElem? q)
  refine own_meet (plainFor_of_name own_pn5) Z0 (Ls0 := #[oA a1, oA d1]) (by intro m; first | (simp [entryFrame, mkF, argsToLocals, Value.category]; done) | rfl) ?_
  intro p e s m below meth c T0 X0
  refine own_aloadN X0 rfl rfl own_d_jdk_67_method_7_code_0 (pc' := 1) rfl ?_
  refine own_aloadN X0 rfl rfl own_d_jdk_67_method_7_code_1 (pc' := 2) rfl ?_
  refine own_super X0 (own_aapLU l Z a0 hw a1 b1 n1 cs_ pad d1 w1 ln ds _ n0 X0.le ge1 gb1 A1 F1 F2 F3 F4 V1 hvl hpf f_n1 N1 A2 H1 H2 V2 f_ln hd16 N2 hlc hcc hcd N3 N4 N5 cs fm dv G0 hcs hfm hdv) (ww 131 rfl) (own_same (ww 132 rfl) (ww 151 rfl) rfl (by decide)) (ww 132 rfl) (ww 133 rfl) (by decide) (ww 118 rfl) (ww 135 rfl) rfl (by decide) (W := 0) (Nat.le_of_eq rfl) (by decide) (cells' := 1) (slots' := 32) rfl rfl (by decide) (by decide) A1 (argsL := [(.ref d1)]) (rest := []) (lenOf own_pd24 rfl) rfl rfl own_d_jdk_67_method_7_code_2 (pc' := 5) rfl ?_
  rintro _ T360 h360 X360 ⟨B360, rfl, oB360, gB360, nB360, D360, K360⟩
  show own_Goal p e below _ T360 (mkF m 5 #[oA a1, oA d1] [(.ref a1)])
  refine own_pop X360 rfl own_d_jdk_67_method_7_code_5 (pc' := 6) rfl ?_
  refine own_aloadN X360 rfl rfl own_d_jdk_67_method_7_code_6 (pc' := 7) rfl ?_
  exact own_retA X360 (t := (.object "java/lang/StringBuilder")) rfl own_d_jdk_67_method_7_code_7 rfl (by decide) (by decide) ⟨_, rfl, oB360, gB360, nB360, D360, K360⟩
abbrev own_rm_own_aapUL : Room := ({ frames := 8, cells := 0, slots := 0, locals := 134 } : Room)
set_option maxRecDepth 65536 in
set_option maxHeartbeats 40000000 in
theorem own_aapUL (l : Launch) (Z : State) (a0 : Array Value) (hw : ∀ d ∈ tables_1, d.before a0 Z = true) (a1 b1 : Addr) (n1 : Int32) (cs_ : List Int32) (pad : List Value) (d1 w1 : Addr) (ln : Int32) (ds : List Int32) (h0 : Heap) (n0 : Nat) (Z0 : n0 ≤ h0.size) (ge1 : n0 ≤ a1) (gb1 : n0 ≤ b1) (A1 : Exa Z h0 a1 "java/lang/StringBuilder") (F1 : Fld Z h0 a1 "java/lang/AbstractStringBuilder" "count" "I" (.int n1)) (F2 : Fld Z h0 a1 "java/lang/AbstractStringBuilder" "coder" "B" (.int (1 : Int32))) (F3 : Fld Z h0 a1 "java/lang/AbstractStringBuilder" "value" "[B" (.ref b1)) (F4 : Fld Z h0 a1 "java/lang/AbstractStringBuilder" "maybeLatin1" "Z" (.int (0 : Int32))) (V1 : own_Vec Z h0 b1 .byte (own_u16 cs_ ++ pad)) (hvl : (own_u16 cs_ ++ pad).length = 32) (hpf : pad.all (fits .byte) = true) (f_n1 : own_I 16 ((cs_.length : Nat) : Int) n1) (N1 : a1 ≠ b1) (A2 : Exa Z h0 d1 "java/lang/String") (H1 : Fld Z h0 d1 "java/lang/String" "coder" "B" (.int (0 : Int32))) (H2 : Fld Z h0 d1 "java/lang/String" "value" "[B" (.ref w1)) (V2 : own_Vec Z h0 w1 .byte (own_l8 ds))(f_ln : own_I 32 ((ds.length : Nat) : Int) ln)(hd16 : cs_.length + ds.length ≤ 16) (N2 : w1 ≠ b1) (hld : own_lat ds = true) (hcd : own_ch ds) (N3 : a1 ≠ w1) (N4 : a1 ≠ d1) (N5 : d1 ≠ b1) (cs : Int32) (fm dv : Value) (G0 : own_Gs Z h0 cs fm dv) (hcs : ¬ cs = 0) (hfm : fm.isRef = true) (hdv : dv.isRef = true) :
    own_Met l Z ({ cls := "java/lang/AbstractStringBuilder", name := "append", desc := "(Ljava/lang/String;)Ljava/lang/AbstractStringBuilder;" } : Jvm.MethodName) jdk_68_method_22_code 3 (some (.object "java/lang/AbstractStringBuilder")) [] own_rm_own_aapUL #[(.ref a1), (.ref d1)] h0 n0 (fun v h => ∃ b, v = some (.ref a1) ∧ (b = b1 ∨ h0.size ≤ b) ∧ n0 ≤ b ∧ a1 ≠ b ∧ own_SB Z h a1 b false (cs_ ++ ds) ∧ Keep h0 h [a1, b1]) := by
  have ww := fun (i : Nat) {d : Jvm.Cond} (q : tables_1[i]? = some d) => hw d (List.mem_of_getElem? q)
  refine own_meet (plainFor_of_name own_pn3) Z0 (Ls0 := #[oA a1, oA d1, oU]) (by intro m; first | (simp [entryFrame, mkF, argsToLocals, Value.category]; done) | rfl) ?_
  intro p e s m below meth c T0 X0
  have K0 := Keep.refl h0 [a1, b1]
  refine own_aloadN X0 rfl rfl own_d_jdk_68_method_22_code_0 (pc' := 1) rfl ?_
  refine own_ifnonnullT X0 own_d_jdk_68_method_22_code_1 (pc' := 9) (by decide) (by decide) ?_
  refine own_aloadN X0 rfl rfl own_d_jdk_68_method_22_code_9 (pc' := 10) rfl ?_
  refine own_virtual X0 (own_slenL l Z a0 hw d1 w1 ln ds _ n0 X0.le A2 H1 H2 V2 f_ln (by omega) cs fm dv G0 hcs hfm hdv) (C := "java/lang/String") rfl (ww 136 rfl) (ww 137 rfl) (ww 139 rfl) (ww 138 rfl) (ww 7 rfl) (ww 140 rfl) (by decide) rfl (by decide) (W := 0) (Nat.le_of_eq rfl) (by decide) (cells' := 0) (slots' := 0) rfl rfl (by decide) (by decide) A2 (argsL := []) (rest := []) (lenOf own_pd12 rfl) rfl rfl own_d_jdk_68_method_22_code_10 (pc' := 13) rfl ?_
  rintro _ T361 h361 X361 ⟨⟨r361, rfl, fr361⟩, e361⟩
  subst e361
  show own_Goal p e below _ T361 (mkF m 13 #[oA a1, oA d1, oU] [(.int r361)])
  refine own_istoreN X361 (Ls' := #[oA a1, oA d1, oI r361]) rfl own_d_jdk_68_method_22_code_13 (pc' := 14) rfl ?_
  refine own_aloadN X361 rfl rfl own_d_jdk_68_method_22_code_14 (pc' := 15) rfl ?_
  refine own_aloadN X361 rfl rfl own_d_jdk_68_method_22_code_15 (pc' := 16) rfl ?_
  refine own_getF X361 (ww 146 rfl) F1 own_d_jdk_68_method_22_code_16 (pc' := 19) rfl fun T362 X362 => ?_
  refine own_iloadN X362 rfl own_d_jdk_68_method_22_code_19 (pc' := 20) rfl ?_
  obtain ⟨i363, e363⟩ : ∃ v, n1 + r361 = v := ⟨_, rfl⟩
  have f363 : own_I 32 (((cs_.length : Nat) : Int) + ((ds.length : Nat) : Int)) i363 := f_n1.add fr361 e363 (by decide) (by decide)
  refine own_iadd X362 e363 own_d_jdk_68_method_22_code_20 (pc' := 21) rfl ?_
  refine own_virtual X362 (own_ensU l Z a0 hw a1 b1 n1 cs_ pad i363 (cs_.length + ds.length) _ n0 X362.le ge1 gb1 A1 F1 F2 F3 F4 V1 hvl hpf f_n1 N1 (f363.of_eq (by simp)) hd16) (C := "java/lang/StringBuilder") rfl (ww 148 rfl) (own_declares (ww 149 rfl) (ww 152 rfl)) (ww 151 rfl) (ww 149 rfl) (ww 118 rfl) (ww 152 rfl) (by decide) rfl (by decide) (W := 0) (Nat.le_of_eq rfl) (by decide) (cells' := 0) (slots' := 0) rfl rfl (by decide) (by decide) A1 (argsL := [(.int i363)]) (rest := []) (lenOf own_pd13 rfl) rfl rfl own_d_jdk_68_method_22_code_21 (pc' := 24) rfl ?_
  rintro _ T364 h364 X364 ⟨rfl, e364⟩
  subst e364
  show own_Goal p e below _ T364 (mkF m 24 #[oA a1, oA d1, oI r361] [])
  refine own_aloadN X364 rfl rfl own_d_jdk_68_method_22_code_24 (pc' := 25) rfl ?_
  refine own_aloadN X364 rfl rfl own_d_jdk_68_method_22_code_25 (pc' := 26) rfl ?_
  refine own_getF X364 (ww 146 rfl) F1 own_d_jdk_68_method_22_code_26 (pc' := 29) rfl fun T365 X365 => ?_
  refine own_aloadN X365 rfl rfl own_d_jdk_68_method_22_code_29 (pc' := 30) rfl ?_
  refine own_virtual X365 (own_psaUL l Z a0 hw a1 b1 n1 cs_ pad d1 w1 ln ds _ n0 X365.le ge1 gb1 A1 F1 F2 F3 F4 V1 hvl hpf f_n1 N1 A2 H1 H2 V2 f_ln hd16 N2 hld hcd N3 N4 N5 cs fm dv G0 hcs hfm hdv) (C := "java/lang/StringBuilder") rfl (ww 153 rfl) (own_declares (ww 154 rfl) (ww 157 rfl)) (ww 156 rfl) (ww 154 rfl) (ww 118 rfl) (ww 157 rfl) (by decide) rfl (by decide) (W := 0) (Nat.le_of_eq rfl) (by decide) (cells' := 0) (slots' := 0) rfl rfl (by decide) (by decide) A1 (argsL := [(.int n1), (.ref d1)]) (rest := []) (lenOf own_pd23 rfl) rfl rfl own_d_jdk_68_method_22_code_30 (pc' := 33) rfl ?_
  rintro _ T366 h366 X366 ⟨rfl, D366, K366⟩
  obtain ⟨B366, oB366, gB366, nB366, A366, G1_366, G2_366, G3_366, G4_366, pd366, VB366, hvB366, hpB366⟩ := D366
  show own_Goal p e below _ T366 (mkF m 33 #[oA a1, oA d1, oI r361] [])
  refine own_aloadN X366 rfl rfl own_d_jdk_68_method_22_code_33 (pc' := 34) rfl ?_
  refine own_dup X366 rfl own_d_jdk_68_method_22_code_34 (pc' := 35) rfl ?_
  refine own_getF X366 (ww 146 rfl) G1_366 own_d_jdk_68_method_22_code_35 (pc' := 38) rfl fun T367 X367 => ?_
  refine own_iloadN X367 rfl own_d_jdk_68_method_22_code_38 (pc' := 39) rfl ?_
  obtain ⟨i368, e368⟩ : ∃ v, n1 + r361 = v := ⟨_, rfl⟩
  have f368 : own_I 32 (((cs_.length : Nat) : Int) + ((ds.length : Nat) : Int)) i368 := f_n1.add fr361 e368 (by decide) (by decide)
  refine own_iadd X367 e368 own_d_jdk_68_method_22_code_39 (pc' := 40) rfl ?_
  refine own_putF X367 (ww 146 rfl) G1_366 A366 (Or.inl (ww 147 rfl)) (ww 109 rfl) (ty := .int) (by decide) rfl rfl ge1 own_d_jdk_68_method_22_code_40 (pc' := 43) rfl fun T369 h369 X369 W369 => ?_
  have A370 := A366.wr W369
  have V371 := VB366.other W369 nB366.symm
  have K372 := K366.wr W369 (Or.inl (by simp))
  have F373 := G1_366.same W369
  have F374 := G2_366.other W369 (Or.inr (slot_ne (C := "java/lang/StringBuilder") (Or.inl (ww 125 rfl)) (Or.inl (ww 147 rfl)) (by decide) (t := .byte) (t' := .int) (by decide) (by decide)))
  have F375 := G3_366.other W369 (Or.inr (slot_ne (C := "java/lang/StringBuilder") (Or.inl (ww 123 rfl)) (Or.inl (ww 147 rfl)) (by decide) (t := (.array .byte)) (t' := .int) (by decide) (by decide)))
  have F376 := G4_366.other W369 (Or.inr (slot_ne (C := "java/lang/StringBuilder") (Or.inl (ww 337 rfl)) (Or.inl (ww 147 rfl)) (by decide) (t := .boolean) (t' := .int) (by decide) (by decide)))
  refine own_aloadN X369 rfl rfl own_d_jdk_68_method_22_code_43 (pc' := 44) rfl ?_
  exact own_retA X369 (t := (.object "java/lang/AbstractStringBuilder")) rfl own_d_jdk_68_method_22_code_44 rfl (by decide) (by decide) ⟨_, rfl, oB366, gB366, nB366, ⟨A370, ⟨_, f368.re (by simp) (by simp; omega), F373⟩, F374, F375, F376, pd366, V371, hvB366, hpB366⟩, K372⟩
abbrev own_rm_own_sapUL : Room := ({ frames := 10, cells := 1, slots := 32, locals := 160 } : Room)
set_option maxRecDepth 65536 in
set_option maxHeartbeats 40000000 in
theorem own_sapUL (l : Launch) (Z : State) (a0 : Array Value) (hw : ∀ d ∈ tables_1, d.before a0 Z = true) (a1 b1 : Addr) (n1 : Int32) (cs_ : List Int32) (pad : List Value) (d1 w1 : Addr) (ln : Int32) (ds : List Int32) (h0 : Heap) (n0 : Nat) (Z0 : n0 ≤ h0.size) (ge1 : n0 ≤ a1) (gb1 : n0 ≤ b1) (A1 : Exa Z h0 a1 "java/lang/StringBuilder") (F1 : Fld Z h0 a1 "java/lang/AbstractStringBuilder" "count" "I" (.int n1)) (F2 : Fld Z h0 a1 "java/lang/AbstractStringBuilder" "coder" "B" (.int (1 : Int32))) (F3 : Fld Z h0 a1 "java/lang/AbstractStringBuilder" "value" "[B" (.ref b1)) (F4 : Fld Z h0 a1 "java/lang/AbstractStringBuilder" "maybeLatin1" "Z" (.int (0 : Int32))) (V1 : own_Vec Z h0 b1 .byte (own_u16 cs_ ++ pad)) (hvl : (own_u16 cs_ ++ pad).length = 32) (hpf : pad.all (fits .byte) = true) (f_n1 : own_I 16 ((cs_.length : Nat) : Int) n1) (N1 : a1 ≠ b1) (A2 : Exa Z h0 d1 "java/lang/String") (H1 : Fld Z h0 d1 "java/lang/String" "coder" "B" (.int (0 : Int32))) (H2 : Fld Z h0 d1 "java/lang/String" "value" "[B" (.ref w1)) (V2 : own_Vec Z h0 w1 .byte (own_l8 ds))(f_ln : own_I 32 ((ds.length : Nat) : Int) ln)(hd16 : cs_.length + ds.length ≤ 16) (N2 : w1 ≠ b1) (hld : own_lat ds = true) (hcd : own_ch ds) (N3 : a1 ≠ w1) (N4 : a1 ≠ d1) (N5 : d1 ≠ b1) (cs : Int32) (fm dv : Value) (G0 : own_Gs Z h0 cs fm dv) (hcs : ¬ cs = 0) (hfm : fm.isRef = true) (hdv : dv.isRef = true) :
    own_Met l Z ({ cls := "java/lang/StringBuilder", name := "append", desc := "(Ljava/lang/String;)Ljava/lang/StringBuilder;" } : Jvm.MethodName) jdk_67_method_7_code 2 (some (.object "java/lang/StringBuilder")) [] own_rm_own_sapUL #[(.ref a1), (.ref d1)] h0 n0 (fun v h => ∃ b, v = some (.ref a1) ∧ (b = b1 ∨ h0.size ≤ b) ∧ n0 ≤ b ∧ a1 ≠ b ∧ own_SB Z h a1 b false (cs_ ++ ds) ∧ Keep h0 h [a1, b1]) := by
  have ww := fun (i : Nat) {d : Jvm.Cond} (q : tables_1[i]? = some d) => hw d (List.mem_of_getElem? q)
  refine own_meet (plainFor_of_name own_pn5) Z0 (Ls0 := #[oA a1, oA d1]) (by intro m; first | (simp [entryFrame, mkF, argsToLocals, Value.category]; done) | rfl) ?_
  intro p e s m below meth c T0 X0
  refine own_aloadN X0 rfl rfl own_d_jdk_67_method_7_code_0 (pc' := 1) rfl ?_
  refine own_aloadN X0 rfl rfl own_d_jdk_67_method_7_code_1 (pc' := 2) rfl ?_
  refine own_super X0 (own_aapUL l Z a0 hw a1 b1 n1 cs_ pad d1 w1 ln ds _ n0 X0.le ge1 gb1 A1 F1 F2 F3 F4 V1 hvl hpf f_n1 N1 A2 H1 H2 V2 f_ln hd16 N2 hld hcd N3 N4 N5 cs fm dv G0 hcs hfm hdv) (ww 131 rfl) (own_same (ww 132 rfl) (ww 151 rfl) rfl (by decide)) (ww 132 rfl) (ww 133 rfl) (by decide) (ww 118 rfl) (ww 135 rfl) rfl (by decide) (W := 0) (Nat.le_of_eq rfl) (by decide) (cells' := 0) (slots' := 0) rfl rfl (by decide) (by decide) A1 (argsL := [(.ref d1)]) (rest := []) (lenOf own_pd24 rfl) rfl rfl own_d_jdk_67_method_7_code_2 (pc' := 5) rfl ?_
  rintro _ T377 h377 X377 ⟨B377, rfl, oB377, gB377, nB377, D377, K377⟩
  show own_Goal p e below _ T377 (mkF m 5 #[oA a1, oA d1] [(.ref a1)])
  refine own_pop X377 rfl own_d_jdk_67_method_7_code_5 (pc' := 6) rfl ?_
  refine own_aloadN X377 rfl rfl own_d_jdk_67_method_7_code_6 (pc' := 7) rfl ?_
  exact own_retA X377 (t := (.object "java/lang/StringBuilder")) rfl own_d_jdk_67_method_7_code_7 rfl (by decide) (by decide) ⟨_, rfl, oB377, gB377, nB377, D377, K377⟩
abbrev own_rm_own_aapUU : Room := ({ frames := 3, cells := 0, slots := 0, locals := 69 } : Room)
set_option maxRecDepth 65536 in
set_option maxHeartbeats 40000000 in
theorem own_aapUU (l : Launch) (Z : State) (a0 : Array Value) (hw : ∀ d ∈ tables_1, d.before a0 Z = true) (a1 b1 : Addr) (n1 : Int32) (cs_ : List Int32) (pad : List Value) (d1 w1 : Addr) (ln : Int32) (ds : List Int32) (h0 : Heap) (n0 : Nat) (Z0 : n0 ≤ h0.size) (ge1 : n0 ≤ a1) (gb1 : n0 ≤ b1) (A1 : Exa Z h0 a1 "java/lang/StringBuilder") (F1 : Fld Z h0 a1 "java/lang/AbstractStringBuilder" "count" "I" (.int n1)) (F2 : Fld Z h0 a1 "java/lang/AbstractStringBuilder" "coder" "B" (.int (1 : Int32))) (F3 : Fld Z h0 a1 "java/lang/AbstractStringBuilder" "value" "[B" (.ref b1)) (F4 : Fld Z h0 a1 "java/lang/AbstractStringBuilder" "maybeLatin1" "Z" (.int (0 : Int32))) (V1 : own_Vec Z h0 b1 .byte (own_u16 cs_ ++ pad)) (hvl : (own_u16 cs_ ++ pad).length = 32) (hpf : pad.all (fits .byte) = true) (f_n1 : own_I 16 ((cs_.length : Nat) : Int) n1) (N1 : a1 ≠ b1) (A2 : Exa Z h0 d1 "java/lang/String") (H1 : Fld Z h0 d1 "java/lang/String" "coder" "B" (.int (1 : Int32))) (H2 : Fld Z h0 d1 "java/lang/String" "value" "[B" (.ref w1)) (V2 : own_Vec Z h0 w1 .byte (own_u16 ds))(f_ln : own_I 32 (2 * ((ds.length : Nat) : Int)) ln)(hd16 : cs_.length + ds.length ≤ 16) (N2 : w1 ≠ b1) (hcd : own_ch ds) (N3 : a1 ≠ w1) (N4 : a1 ≠ d1) (N5 : d1 ≠ b1) (cs : Int32) (fm dv : Value) (G0 : own_Gs Z h0 cs fm dv) (hcs : ¬ cs = 0) (hfm : fm.isRef = true) (hdv : dv.isRef = true) :
    own_Met l Z ({ cls := "java/lang/AbstractStringBuilder", name := "append", desc := "(Ljava/lang/String;)Ljava/lang/AbstractStringBuilder;" } : Jvm.MethodName) jdk_68_method_22_code 3 (some (.object "java/lang/AbstractStringBuilder")) [] own_rm_own_aapUU #[(.ref a1), (.ref d1)] h0 n0 (fun v h => ∃ b, v = some (.ref a1) ∧ (b = b1 ∨ h0.size ≤ b) ∧ n0 ≤ b ∧ a1 ≠ b ∧ own_SB Z h a1 b false (cs_ ++ ds) ∧ Keep h0 h [a1, b1]) := by
  have ww := fun (i : Nat) {d : Jvm.Cond} (q : tables_1[i]? = some d) => hw d (List.mem_of_getElem? q)
  refine own_meet (plainFor_of_name own_pn3) Z0 (Ls0 := #[oA a1, oA d1, oU]) (by intro m; first | (simp [entryFrame, mkF, argsToLocals, Value.category]; done) | rfl) ?_
  intro p e s m below meth c T0 X0
  have K0 := Keep.refl h0 [a1, b1]
  refine own_aloadN X0 rfl rfl own_d_jdk_68_method_22_code_0 (pc' := 1) rfl ?_
  refine own_ifnonnullT X0 own_d_jdk_68_method_22_code_1 (pc' := 9) (by decide) (by decide) ?_
  refine own_aloadN X0 rfl rfl own_d_jdk_68_method_22_code_9 (pc' := 10) rfl ?_
  refine own_virtual X0 (own_slenU l Z a0 hw d1 w1 ln ds _ n0 X0.le A2 H1 H2 V2 f_ln (by omega) cs fm dv G0 hcs hfm hdv) (C := "java/lang/String") rfl (ww 136 rfl) (ww 137 rfl) (ww 139 rfl) (ww 138 rfl) (ww 7 rfl) (ww 140 rfl) (by decide) rfl (by decide) (W := 0) (Nat.le_of_eq rfl) (by decide) (cells' := 0) (slots' := 0) rfl rfl (by decide) (by decide) A2 (argsL := []) (rest := []) (lenOf own_pd12 rfl) rfl rfl own_d_jdk_68_method_22_code_10 (pc' := 13) rfl ?_
  rintro _ T378 h378 X378 ⟨⟨r378, rfl, fr378⟩, e378⟩
  subst e378
  show own_Goal p e below _ T378 (mkF m 13 #[oA a1, oA d1, oU] [(.int r378)])
  refine own_istoreN X378 (Ls' := #[oA a1, oA d1, oI r378]) rfl own_d_jdk_68_method_22_code_13 (pc' := 14) rfl ?_
  refine own_aloadN X378 rfl rfl own_d_jdk_68_method_22_code_14 (pc' := 15) rfl ?_
  refine own_aloadN X378 rfl rfl own_d_jdk_68_method_22_code_15 (pc' := 16) rfl ?_
  refine own_getF X378 (ww 146 rfl) F1 own_d_jdk_68_method_22_code_16 (pc' := 19) rfl fun T379 X379 => ?_
  refine own_iloadN X379 rfl own_d_jdk_68_method_22_code_19 (pc' := 20) rfl ?_
  obtain ⟨i380, e380⟩ : ∃ v, n1 + r378 = v := ⟨_, rfl⟩
  have f380 : own_I 32 (((cs_.length : Nat) : Int) + ((ds.length : Nat) : Int)) i380 := f_n1.add fr378 e380 (by decide) (by decide)
  refine own_iadd X379 e380 own_d_jdk_68_method_22_code_20 (pc' := 21) rfl ?_
  refine own_virtual X379 (own_ensU l Z a0 hw a1 b1 n1 cs_ pad i380 (cs_.length + ds.length) _ n0 X379.le ge1 gb1 A1 F1 F2 F3 F4 V1 hvl hpf f_n1 N1 (f380.of_eq (by simp)) hd16) (C := "java/lang/StringBuilder") rfl (ww 148 rfl) (own_declares (ww 149 rfl) (ww 152 rfl)) (ww 151 rfl) (ww 149 rfl) (ww 118 rfl) (ww 152 rfl) (by decide) rfl (by decide) (W := 0) (Nat.le_of_eq rfl) (by decide) (cells' := 0) (slots' := 0) rfl rfl (by decide) (by decide) A1 (argsL := [(.int i380)]) (rest := []) (lenOf own_pd13 rfl) rfl rfl own_d_jdk_68_method_22_code_21 (pc' := 24) rfl ?_
  rintro _ T381 h381 X381 ⟨rfl, e381⟩
  subst e381
  show own_Goal p e below _ T381 (mkF m 24 #[oA a1, oA d1, oI r378] [])
  refine own_aloadN X381 rfl rfl own_d_jdk_68_method_22_code_24 (pc' := 25) rfl ?_
  refine own_aloadN X381 rfl rfl own_d_jdk_68_method_22_code_25 (pc' := 26) rfl ?_
  refine own_getF X381 (ww 146 rfl) F1 own_d_jdk_68_method_22_code_26 (pc' := 29) rfl fun T382 X382 => ?_
  refine own_aloadN X382 rfl rfl own_d_jdk_68_method_22_code_29 (pc' := 30) rfl ?_
  refine own_virtual X382 (own_psaUU l Z a0 hw a1 b1 n1 cs_ pad d1 w1 ln ds _ n0 X382.le ge1 gb1 A1 F1 F2 F3 F4 V1 hvl hpf f_n1 N1 A2 H1 H2 V2 f_ln hd16 N2 hcd N3 N4 N5 cs fm dv G0 hcs hfm hdv) (C := "java/lang/StringBuilder") rfl (ww 153 rfl) (own_declares (ww 154 rfl) (ww 157 rfl)) (ww 156 rfl) (ww 154 rfl) (ww 118 rfl) (ww 157 rfl) (by decide) rfl (by decide) (W := 0) (Nat.le_of_eq rfl) (by decide) (cells' := 0) (slots' := 0) rfl rfl (by decide) (by decide) A1 (argsL := [(.int n1), (.ref d1)]) (rest := []) (lenOf own_pd23 rfl) rfl rfl own_d_jdk_68_method_22_code_30 (pc' := 33) rfl ?_
  rintro _ T383 h383 X383 ⟨rfl, D383, K383⟩
  obtain ⟨B383, oB383, gB383, nB383, A383, G1_383, G2_383, G3_383, G4_383, pd383, VB383, hvB383, hpB383⟩ := D383
  show own_Goal p e below _ T383 (mkF m 33 #[oA a1, oA d1, oI r378] [])
  refine own_aloadN X383 rfl rfl own_d_jdk_68_method_22_code_33 (pc' := 34) rfl ?_
  refine own_dup X383 rfl own_d_jdk_68_method_22_code_34 (pc' := 35) rfl ?_
  refine own_getF X383 (ww 146 rfl) G1_383 own_d_jdk_68_method_22_code_35 (pc' := 38) rfl fun T384 X384 => ?_
  refine own_iloadN X384 rfl own_d_jdk_68_method_22_code_38 (pc' := 39) rfl ?_
  obtain ⟨i385, e385⟩ : ∃ v, n1 + r378 = v := ⟨_, rfl⟩
  have f385 : own_I 32 (((cs_.length : Nat) : Int) + ((ds.length : Nat) : Int)) i385 := f_n1.add fr378 e385 (by decide) (by decide)
  refine own_iadd X384 e385 own_d_jdk_68_method_22_code_39 (pc' := 40) rfl ?_
  refine own_putF X384 (ww 146 rfl) G1_383 A383 (Or.inl (ww 147 rfl)) (ww 109 rfl) (ty := .int) (by decide) rfl rfl ge1 own_d_jdk_68_method_22_code_40 (pc' := 43) rfl fun T386 h386 X386 W386 => ?_
  have A387 := A383.wr W386
  have V388 := VB383.other W386 nB383.symm
  have K389 := K383.wr W386 (Or.inl (by simp))
  have F390 := G1_383.same W386
  have F391 := G2_383.other W386 (Or.inr (slot_ne (C := "java/lang/StringBuilder") (Or.inl (ww 125 rfl)) (Or.inl (ww 147 rfl)) (by decide) (t := .byte) (t' := .int) (by decide) (by decide)))
  have F392 := G3_383.other W386 (Or.inr (slot_ne (C := "java/lang/StringBuilder") (Or.inl (ww 123 rfl)) (Or.inl (ww 147 rfl)) (by decide) (t := (.array .byte)) (t' := .int) (by decide) (by decide)))
  have F393 := G4_383.other W386 (Or.inr (slot_ne (C := "java/lang/StringBuilder") (Or.inl (ww 337 rfl)) (Or.inl (ww 147 rfl)) (by decide) (t := .boolean) (t' := .int) (by decide) (by decide)))
  refine own_aloadN X386 rfl rfl own_d_jdk_68_method_22_code_43 (pc' := 44) rfl ?_
  exact own_retA X386 (t := (.object "java/lang/AbstractStringBuilder")) rfl own_d_jdk_68_method_22_code_44 rfl (by decide) (by decide) ⟨_, rfl, oB383, gB383, nB383, ⟨A387, ⟨_, f385.re (by simp) (by simp; omega), F390⟩, F391, F392, F393, pd383, V388, hvB383, hpB383⟩, K389⟩
abbrev own_rm_own_sapUU : Room := ({ frames := 10, cells := 1, slots := 32, locals := 160 } : Room)
set_option maxRecDepth 65536 in
set_option maxHeartbeats 40000000 in
theorem own_sapUU (l : Launch) (Z : State) (a0 : Array Value) (hw : ∀ d ∈ tables_1, d.before a0 Z = true) (a1 b1 : Addr) (n1 : Int32) (cs_ : List Int32) (pad : List Value) (d1 w1 : Addr) (ln : Int32) (ds : List Int32) (h0 : Heap) (n0 : Nat) (Z0 : n0 ≤ h0.size) (ge1 : n0 ≤ a1) (gb1 : n0 ≤ b1) (A1 : Exa Z h0 a1 "java/lang/StringBuilder") (F1 : Fld Z h0 a1 "java/lang/AbstractStringBuilder" "count" "I" (.int n1)) (F2 : Fld Z h0 a1 "java/lang/AbstractStringBuilder" "coder" "B" (.int (1 : Int32))) (F3 : Fld Z h0 a1 "java/lang/AbstractStringBuilder" "value" "[B" (.ref b1)) (F4 : Fld Z h0 a1 "java/lang/AbstractStringBuilder" "maybeLatin1" "Z" (.int (0 : Int32))) (V1 : own_Vec Z h0 b1 .byte (own_u16 cs_ ++ pad)) (hvl : (own_u16 cs_ ++ pad).length = 32) (hpf : pad.all (fits .byte) = true) (f_n1 : own_I 16 ((cs_.length : Nat) : Int) n1) (N1 : a1 ≠ b1) (A2 : Exa Z h0 d1 "java/lang/String") (H1 : Fld Z h0 d1 "java/lang/String" "coder" "B" (.int (1 : Int32))) (H2 : Fld Z h0 d1 "java/lang/String" "value" "[B" (.ref w1)) (V2 : own_Vec Z h0 w1 .byte (own_u16 ds))(f_ln : own_I 32 (2 * ((ds.length : Nat) : Int)) ln)(hd16 : cs_.length + ds.length ≤ 16) (N2 : w1 ≠ b1) (hcd : own_ch ds) (N3 : a1 ≠ w1) (N4 : a1 ≠ d1) (N5 : d1 ≠ b1) (cs : Int32) (fm dv : Value) (G0 : own_Gs Z h0 cs fm dv) (hcs : ¬ cs = 0) (hfm : fm.isRef = true) (hdv : dv.isRef = true) :
    own_Met l Z ({ cls := "java/lang/StringBuilder", name := "append", desc := "(Ljava/lang/String;)Ljava/lang/StringBuilder;" } : Jvm.MethodName) jdk_67_method_7_code 2 (some (.object "java/lang/StringBuilder")) [] own_rm_own_sapUU #[(.ref a1), (.ref d1)] h0 n0 (fun v h => ∃ b, v = some (.ref a1) ∧ (b = b1 ∨ h0.size ≤ b) ∧ n0 ≤ b ∧ a1 ≠ b ∧ own_SB Z h a1 b false (cs_ ++ ds) ∧ Keep h0 h [a1, b1]) := by
  have ww := fun (i : Nat) {d : Jvm.Cond} (q : tables_1[i]? = some d) => hw d (List.mem_of_getElem? q)
  refine own_meet (plainFor_of_name own_pn5) Z0 (Ls0 := #[oA a1, oA d1]) (by intro m; first | (simp [entryFrame, mkF, argsToLocals, Value.category]; done) | rfl) ?_
  intro p e s m below meth c T0 X0
  refine own_aloadN X0 rfl rfl own_d_jdk_67_method_7_code_0 (pc' := 1) rfl ?_
  refine own_aloadN X0 rfl rfl own_d_jdk_67_method_7_code_1 (pc' := 2) rfl ?_
  refine own_super X0 (own_aapUU l Z a0 hw a1 b1 n1 cs_ pad d1 w1 ln ds _ n0 X0.le ge1 gb1 A1 F1 F2 F3 F4 V1 hvl hpf f_n1 N1 A2 H1 H2 V2 f_ln hd16 N2 hcd N3 N4 N5 cs fm dv G0 hcs hfm hdv) (ww 131 rfl) (own_same (ww 132 rfl) (ww 151 rfl) rfl (by decide)) (ww 132 rfl) (ww 133 rfl) (by decide) (ww 118 rfl) (ww 135 rfl) rfl (by decide) (W := 0) (Nat.le_of_eq rfl) (by decide) (cells' := 0) (slots' := 0) rfl rfl (by decide) (by decide) A1 (argsL := [(.ref d1)]) (rest := []) (lenOf own_pd24 rfl) rfl rfl own_d_jdk_67_method_7_code_2 (pc' := 5) rfl ?_
  rintro _ T394 h394 X394 ⟨B394, rfl, oB394, gB394, nB394, D394, K394⟩
  show own_Goal p e below _ T394 (mkF m 5 #[oA a1, oA d1] [(.ref a1)])
  refine own_pop X394 rfl own_d_jdk_67_method_7_code_5 (pc' := 6) rfl ?_
  refine own_aloadN X394 rfl rfl own_d_jdk_67_method_7_code_6 (pc' := 7) rfl ?_
  exact own_retA X394 (t := (.object "java/lang/StringBuilder")) rfl own_d_jdk_67_method_7_code_7 rfl (by decide) (by decide) ⟨_, rfl, oB394, gB394, nB394, D394, K394⟩
set_option maxRecDepth 65536 in
set_option maxHeartbeats 40000000 in
theorem own_app (l : Launch) (Z : State) (a0 : Array Value) (hw : ∀ d ∈ tables_1, d.before a0 Z = true) (a1 b1 d1 : Addr) (cs_ ds : List Int32) (h0 : Heap) (n0 : Nat) (Z0 : n0 ≤ h0.size) (ge1 : n0 ≤ a1) (gb1 : n0 ≤ b1) (B0 : own_SB Z h0 a1 b1 (own_lat cs_) cs_) (S0 : own_Str Z h0 d1 ds) (hcc : own_ch cs_) (hcd : own_ch ds) (hd2 : ds.length ≤ 2) (hd16 : cs_.length + ds.length ≤ 16) (cs : Int32) (fm dv : Value) (G0 : own_Gs Z h0 cs fm dv) (hcs : ¬ cs = 0) (hfm : fm.isRef = true) (hdv : dv.isRef = true) :
    own_Met l Z ({ cls := "java/lang/StringBuilder", name := "append", desc := "(Ljava/lang/String;)Ljava/lang/StringBuilder;" } : Jvm.MethodName) jdk_67_method_7_code 2 (some (.object "java/lang/StringBuilder")) [] own_rm_own_sapLL #[(.ref a1), (.ref d1)] h0 n0 (fun v h => ∃ b, v = some (.ref a1) ∧ (b = b1 ∨ h0.size ≤ b) ∧ n0 ≤ b ∧ a1 ≠ b ∧ own_SB Z h a1 b (own_lat (cs_ ++ ds)) (cs_ ++ ds) ∧ Keep h0 h [a1, b1]) := by
  have ww := fun (i : Nat) {d : Jvm.Cond} (q : tables_1[i]? = some d) => hw d (List.mem_of_getElem? q)
  obtain ⟨A1, ⟨n1, f_n1, F1⟩, F2, F3, F4, pad, V1, hvl, hpf⟩ := B0
  obtain ⟨A2, H1, w1, H2, V2⟩ := S0
  have N1 : a1 ≠ b1 := own_exavec A1 V1 (ww 109 rfl)
  have N3 : a1 ≠ w1 := own_exavec A1 V2 (ww 109 rfl)
  have N4 : a1 ≠ d1 := Exa.ne A1 A2 (by decide)
  have N5 : d1 ≠ b1 := own_exavec A2 V1 (ww 6 rfl)
  have N2 : w1 ≠ b1 := own_vecne V2 V1 (by rw [hvl, own_enc_len]; split <;> split <;> omega)
  rw [own_lat_app]
  cases hlc : own_lat cs_ <;> cases hld : own_lat ds <;> simp only [hlc, hld, own_cod, own_enc, own_en, if_true, if_false, Bool.false_eq_true, Bool.and_true, Bool.and_false, Bool.true_and, Bool.false_and, reduceIte] at F2 H1 V1 V2 hvl ⊢
  · exact own_sapUU l Z a0 hw a1 b1 n1 cs_ pad d1 w1 (Int32.ofNat (2 * ds.length)) ds h0 n0 Z0 ge1 gb1 A1 F1 F2 F3 F4 V1 hvl hpf f_n1 N1 A2 H1 H2 V2 ((own_ofNat (B := 32) (by omega) (by decide)).of_eq (by simp)) hd16 N2 hcd N3 N4 N5 cs fm dv G0 hcs hfm hdv
  · exact own_sapUL l Z a0 hw a1 b1 n1 cs_ pad d1 w1 (Int32.ofNat ds.length) ds h0 n0 Z0 ge1 gb1 A1 F1 F2 F3 F4 V1 hvl hpf f_n1 N1 A2 H1 H2 V2 (own_ofNat (by omega) (by decide)) hd16 N2 hld hcd N3 N4 N5 cs fm dv G0 hcs hfm hdv
  · exact own_sapLU l Z a0 hw a1 b1 n1 cs_ pad d1 w1 (Int32.ofNat (2 * ds.length)) ds h0 n0 Z0 ge1 gb1 A1 F1 F2 F3 F4 V1 hvl hpf f_n1 N1 A2 H1 H2 V2 ((own_ofNat (B := 32) (by omega) (by decide)).of_eq (by simp)) hd16 N2 hlc hcc hcd N3 N4 N5 cs fm dv G0 hcs hfm hdv
  · exact own_sapLL l Z a0 hw a1 b1 n1 cs_ pad d1 w1 (Int32.ofNat ds.length) ds h0 n0 Z0 ge1 gb1 A1 F1 F2 F3 F4 V1 hvl hpf f_n1 N1 A2 H1 H2 V2 (own_ofNat (by omega) (by decide)) hd16 N2 hlc hcc hld hcd N3 N4 N5 cs fm dv G0 hcs hfm hdv
theorem own_d_jdk_68_method_2_code_0 : decode jdk_68_method_2_code 0 = .ok (.aload_n 0, 1) := by decide +kernel
theorem own_d_jdk_68_method_2_code_1 : decode jdk_68_method_2_code 1 = .ok (.invokespecial 3, 3) := by decide +kernel
theorem own_d_jdk_68_method_2_code_4 : decode jdk_68_method_2_code 4 = .ok (.getstatic 18, 3) := by decide +kernel
theorem own_d_jdk_68_method_2_code_7 : decode jdk_68_method_2_code 7 = .ok (.ifCond .eq 18, 3) := by decide +kernel
theorem own_d_jdk_68_method_2_code_10 : decode jdk_68_method_2_code 10 = .ok (.aload_n 0, 1) := by decide +kernel
theorem own_d_jdk_68_method_2_code_11 : decode jdk_68_method_2_code 11 = .ok (.iload_n 1, 1) := by decide +kernel
theorem own_d_jdk_68_method_2_code_12 : decode jdk_68_method_2_code 12 = .ok (.newarray .byte, 2) := by decide +kernel
theorem own_d_jdk_68_method_2_code_14 : decode jdk_68_method_2_code 14 = .ok (.putfield 15, 3) := by decide +kernel
theorem own_d_jdk_68_method_2_code_17 : decode jdk_68_method_2_code 17 = .ok (.aload_n 0, 1) := by decide +kernel
theorem own_d_jdk_68_method_2_code_18 : decode jdk_68_method_2_code 18 = .ok (.iconst 0, 1) := by decide +kernel
theorem own_d_jdk_68_method_2_code_19 : decode jdk_68_method_2_code 19 = .ok (.putfield 22, 3) := by decide +kernel
theorem own_d_jdk_68_method_2_code_22 : decode jdk_68_method_2_code 22 = .ok (.goto 16, 3) := by decide +kernel
theorem own_d_jdk_68_method_2_code_25 : decode jdk_68_method_2_code 25 = .ok (.aload_n 0, 1) := by decide +kernel
theorem own_d_jdk_68_method_2_code_26 : decode jdk_68_method_2_code 26 = .ok (.iload_n 1, 1) := by decide +kernel
theorem own_d_jdk_68_method_2_code_27 : decode jdk_68_method_2_code 27 = .ok (.invokestatic 26, 3) := by decide +kernel
theorem own_d_jdk_68_method_2_code_30 : decode jdk_68_method_2_code 30 = .ok (.putfield 15, 3) := by decide +kernel
theorem own_d_jdk_68_method_2_code_33 : decode jdk_68_method_2_code 33 = .ok (.aload_n 0, 1) := by decide +kernel
theorem own_d_jdk_68_method_2_code_34 : decode jdk_68_method_2_code 34 = .ok (.iconst 1, 1) := by decide +kernel
theorem own_d_jdk_68_method_2_code_35 : decode jdk_68_method_2_code 35 = .ok (.putfield 22, 3) := by decide +kernel
theorem own_d_jdk_68_method_2_code_38 : decode jdk_68_method_2_code 38 = .ok (.return_, 1) := by decide +kernel
abbrev own_rm_own_ai : Room := ({ frames := 1, cells := 1, slots := 16, locals := 12 } : Room)
set_option maxRecDepth 65536 in
set_option maxHeartbeats 40000000 in
theorem own_ai (l : Launch) (Z : State) (a0 : Array Value) (hw : ∀ d ∈ tables_1, d.before a0 Z = true) (a1 : Addr) (h0 : Heap) (n0 : Nat) (Z0 : n0 ≤ h0.size) (ge1 : n0 ≤ a1) (A1 : Exa Z h0 a1 "java/lang/StringBuilder") (F1 : Fld Z h0 a1 "java/lang/AbstractStringBuilder" "value" "[B" .null) (F2 : Fld Z h0 a1 "java/lang/AbstractStringBuilder" "coder" "B" (.int (0 : Int32))) (F3 : Fld Z h0 a1 "java/lang/AbstractStringBuilder" "count" "I" (.int (0 : Int32))) (F4 : Fld Z h0 a1 "java/lang/AbstractStringBuilder" "maybeLatin1" "Z" (.int (0 : Int32))) (cs : Int32) (fm dv : Value) (G0 : own_Gs Z h0 cs fm dv) (hcs : ¬ cs = 0) (hfm : fm.isRef = true) (hdv : dv.isRef = true) :
    own_Met l Z ({ cls := "java/lang/AbstractStringBuilder", name := "<init>", desc := "(I)V" } : Jvm.MethodName) jdk_68_method_2_code 2 none [] own_rm_own_ai #[(.ref a1), (.int (16 : Int32))] h0 n0 (fun v h => v = none ∧ (∃ b, h0.size ≤ b ∧ own_SB Z h a1 b true []) ∧ Keep h0 h [a1]) := by
  have ww := fun (i : Nat) {d : Jvm.Cond} (q : tables_1[i]? = some d) => hw d (List.mem_of_getElem? q)
  refine own_meet (plainFor_of_name own_pn3) Z0 (Ls0 := #[oA a1, oI 16]) (by intro m; first | (simp [entryFrame, mkF, argsToLocals, Value.category]; done) | rfl) ?_
  intro p e s m below meth c T0 X0
  have K0 := Keep.refl h0 [a1]
  refine own_aloadN X0 rfl rfl own_d_jdk_68_method_2_code_0 (pc' := 1) rfl ?_
  refine own_initO X0 (ww 120 rfl) (ww 17 rfl) (ww 18 rfl) rfl (by decide) (W := 0) (Nat.le_of_eq rfl) (by decide) own_d_jdk_68_method_2_code_1 (pc' := 4) rfl fun T395 X395 => ?_
  refine own_getS X395 (ww 121 rfl) G0.1 own_d_jdk_68_method_2_code_4 (pc' := 7) rfl fun T396 X396 => ?_
  have c397 : ¬ (cs = 0) := hcs
  refine own_ifF X396 (own_z_ne c397).1 own_d_jdk_68_method_2_code_7 (pc' := 10) rfl ?_
  refine own_aloadN X396 rfl rfl own_d_jdk_68_method_2_code_10 (pc' := 11) rfl ?_
  refine own_iloadN X396 rfl own_d_jdk_68_method_2_code_11 (pc' := 12) rfl ?_
  refine own_newarray X396 (ty := .byte) rfl (ww 24 rfl) (n := 16) (vs := [(.int (0 : Int32)), (.int (0 : Int32)), (.int (0 : Int32)), (.int (0 : Int32)), (.int (0 : Int32)), (.int (0 : Int32)), (.int (0 : Int32)), (.int (0 : Int32)), (.int (0 : Int32)), (.int (0 : Int32)), (.int (0 : Int32)), (.int (0 : Int32)), (.int (0 : Int32)), (.int (0 : Int32)), (.int (0 : Int32)), (.int (0 : Int32))]) (by decide) (by decide) (by decide) rfl (cells' := 1) (slots' := 16) rfl rfl (by decide) (by decide) own_d_jdk_68_method_2_code_12 (pc' := 14) rfl fun a398 T398 h398 g398 ge398 X398 E398 V398 => ?_
  have ne399 : a1 ≠ a398 := own_lt_ne A1.lt g398
  have sz400 := own_ge K0 g398
  have A401 := A1.ext E398
  have F402 := F1.ext E398
  have F403 := F2.ext E398
  have F404 := F3.ext E398
  have F405 := F4.ext E398
  have S406 := G0.ext E398
  have K407 := K0.ext E398
  refine own_putF X398 (ww 122 rfl) F402 A401 (Or.inl (ww 123 rfl)) (ww 109 rfl) (ty := (.array .byte)) (by decide) rfl rfl ge1 own_d_jdk_68_method_2_code_14 (pc' := 17) rfl fun T408 h408 X408 W408 => ?_
  have A409 := A401.wr W408
  have V410 := V398.other W408 ne399.symm
  have S411 := S406.wr W408
  have K412 := K407.wr W408 (Or.inl (by simp))
  have F413 := F402.same W408
  have F414 := F403.other W408 (Or.inr (slot_ne (C := "java/lang/StringBuilder") (Or.inl (ww 125 rfl)) (Or.inl (ww 123 rfl)) (by decide) (t := .byte) (t' := (.array .byte)) (by decide) (by decide)))
  have F415 := F404.other W408 (Or.inr (slot_ne (C := "java/lang/StringBuilder") (Or.inl (ww 147 rfl)) (Or.inl (ww 123 rfl)) (by decide) (t := .int) (t' := (.array .byte)) (by decide) (by decide)))
  have F416 := F405.other W408 (Or.inr (slot_ne (C := "java/lang/StringBuilder") (Or.inl (ww 337 rfl)) (Or.inl (ww 123 rfl)) (by decide) (t := .boolean) (t' := (.array .byte)) (by decide) (by decide)))
  refine own_aloadN X408 rfl rfl own_d_jdk_68_method_2_code_17 (pc' := 18) rfl ?_
  refine own_iconst X408 (v := (0 : Int32)) (by decide) own_d_jdk_68_method_2_code_18 (pc' := 19) rfl ?_
  refine own_putF X408 (ww 124 rfl) F414 A409 (Or.inl (ww 125 rfl)) (ww 109 rfl) (ty := .byte) (by decide) rfl rfl ge1 own_d_jdk_68_method_2_code_19 (pc' := 22) rfl fun T417 h417 X417 W417 => ?_
  have A418 := A409.wr W417
  have V419 := V410.other W417 ne399.symm
  have S420 := S411.wr W417
  have K421 := K412.wr W417 (Or.inl (by simp))
  have F422 := F414.same W417
  have F423 := F413.other W417 (Or.inr (slot_ne (C := "java/lang/StringBuilder") (Or.inl (ww 123 rfl)) (Or.inl (ww 125 rfl)) (by decide) (t := (.array .byte)) (t' := .byte) (by decide) (by decide)))
  have F424 := F415.other W417 (Or.inr (slot_ne (C := "java/lang/StringBuilder") (Or.inl (ww 147 rfl)) (Or.inl (ww 125 rfl)) (by decide) (t := .int) (t' := .byte) (by decide) (by decide)))
  have F425 := F416.other W417 (Or.inr (slot_ne (C := "java/lang/StringBuilder") (Or.inl (ww 337 rfl)) (Or.inl (ww 125 rfl)) (by decide) (t := .boolean) (t' := .byte) (by decide) (by decide)))
  refine own_goto X417 own_d_jdk_68_method_2_code_22 (pc' := 38) (by decide) (by decide) ?_
  exact own_retV X417  own_d_jdk_68_method_2_code_38 rfl (by decide) (by decide) ⟨rfl, ⟨_, sz400, ⟨A418, ⟨0, own_I.lit (by decide) (by decide), F424⟩, F422, F423, F425, List.replicate 16 (Value.int 0), V419.eq rfl, rfl, own_all_rep _⟩⟩, K421⟩
theorem own_d_jdk_67_method_1_code_0 : decode jdk_67_method_1_code 0 = .ok (.aload_n 0, 1) := by decide +kernel
theorem own_d_jdk_67_method_1_code_1 : decode jdk_67_method_1_code 1 = .ok (.bipush 16, 2) := by decide +kernel
theorem own_d_jdk_67_method_1_code_3 : decode jdk_67_method_1_code 3 = .ok (.invokespecial 1, 3) := by decide +kernel
theorem own_d_jdk_67_method_1_code_6 : decode jdk_67_method_1_code 6 = .ok (.return_, 1) := by decide +kernel
abbrev own_rm_own_bi : Room := ({ frames := 2, cells := 1, slots := 16, locals := 25 } : Room)
set_option maxRecDepth 65536 in
set_option maxHeartbeats 40000000 in
theorem own_bi (l : Launch) (Z : State) (a0 : Array Value) (hw : ∀ d ∈ tables_1, d.before a0 Z = true) (a1 : Addr) (h0 : Heap) (n0 : Nat) (Z0 : n0 ≤ h0.size) (ge1 : n0 ≤ a1) (A1 : Exa Z h0 a1 "java/lang/StringBuilder") (F1 : Fld Z h0 a1 "java/lang/AbstractStringBuilder" "value" "[B" .null) (F2 : Fld Z h0 a1 "java/lang/AbstractStringBuilder" "coder" "B" (.int (0 : Int32))) (F3 : Fld Z h0 a1 "java/lang/AbstractStringBuilder" "count" "I" (.int (0 : Int32))) (F4 : Fld Z h0 a1 "java/lang/AbstractStringBuilder" "maybeLatin1" "Z" (.int (0 : Int32))) (cs : Int32) (fm dv : Value) (G0 : own_Gs Z h0 cs fm dv) (hcs : ¬ cs = 0) (hfm : fm.isRef = true) (hdv : dv.isRef = true) :
    own_Met l Z ({ cls := "java/lang/StringBuilder", name := "<init>", desc := "()V" } : Jvm.MethodName) jdk_67_method_1_code 1 none [] own_rm_own_bi #[(.ref a1)] h0 n0 (fun v h => v = none ∧ (∃ b, h0.size ≤ b ∧ own_SB Z h a1 b true []) ∧ Keep h0 h [a1]) := by
  have ww := fun (i : Nat) {d : Jvm.Cond} (q : tables_1[i]? = some d) => hw d (List.mem_of_getElem? q)
  refine own_meet (plainFor_of_name own_pn5) Z0 (Ls0 := #[oA a1]) (by intro m; first | (simp [entryFrame, mkF, argsToLocals, Value.category]; done) | rfl) ?_
  intro p e s m below meth c T0 X0
  refine own_aloadN X0 rfl rfl own_d_jdk_67_method_1_code_0 (pc' := 1) rfl ?_
  refine own_bipush X0 (v := (16 : Int32)) (by decide) own_d_jdk_67_method_1_code_1 (pc' := 3) rfl ?_
  refine own_special X0 (own_ai l Z a0 hw a1 _ n0 X0.le ge1 A1 F1 F2 F3 F4 cs fm dv G0 hcs hfm hdv) rfl rfl (ww 114 rfl) (ww 115 rfl) (ww 118 rfl) (ww 119 rfl) (by decide) rfl (by decide) (W := 0) (Nat.le_of_eq rfl) (by decide) (cells' := 1) (slots' := 16) rfl rfl (by decide) (by decide) (argsL := [(.int (16 : Int32))]) (rest := []) (lenOf own_pd13 rfl) rfl rfl own_d_jdk_67_method_1_code_3 (pc' := 6) rfl ?_
  rintro _ T426 h426 X426 ⟨rfl, D426, K426⟩
  show own_Goal p e below _ T426 (mkF m 6 #[oA a1] [])
  exact own_retV X426  own_d_jdk_67_method_1_code_6 rfl (by decide) (by decide) ⟨rfl, D426, K426⟩
theorem own_d_jdk_29_method_69_code_0 : decode jdk_29_method_69_code 0 = .ok (.iload_n 0, 1) := by decide +kernel
theorem own_d_jdk_29_method_69_code_1 : decode jdk_29_method_69_code 1 = .ok (.iload_n 1, 1) := by decide +kernel
theorem own_d_jdk_29_method_69_code_2 : decode jdk_29_method_69_code 2 = .ok (.if_icmp .gt 7, 3) := by decide +kernel
theorem own_d_jdk_29_method_69_code_5 : decode jdk_29_method_69_code 5 = .ok (.iload_n 0, 1) := by decide +kernel
theorem own_d_jdk_29_method_69_code_6 : decode jdk_29_method_69_code 6 = .ok (.goto 4, 3) := by decide +kernel
theorem own_d_jdk_29_method_69_code_9 : decode jdk_29_method_69_code 9 = .ok (.iload_n 1, 1) := by decide +kernel
theorem own_d_jdk_29_method_69_code_10 : decode jdk_29_method_69_code 10 = .ok (.ireturn, 1) := by decide +kernel
theorem own_pd26 : parseMethodDescriptor "(II)I" = some ⟨[.int, .int], some .int⟩ := by decide +kernel
abbrev own_rm_own_min : Room := ({ frames := 0, cells := 0, slots := 0, locals := 0 } : Room)
set_option maxRecDepth 65536 in
set_option maxHeartbeats 40000000 in
theorem own_min (l : Launch) (Z : State) (a0 : Array Value) (hw : ∀ d ∈ tables_1, d.before a0 Z = true) (y0 x0 : Int32) (k : Nat) (h0 : Heap) (n0 : Nat) (Z0 : n0 ≤ h0.size) (f_x0 : own_I 32 ((k : Nat) : Int) x0) (hlt : x0 < y0) :
    own_Met l Z ({ cls := "java/lang/Math", name := "min", desc := "(II)I" } : Jvm.MethodName) jdk_29_method_69_code 2 (some .int) [] own_rm_own_min #[(.int y0), (.int x0)] h0 n0 (fun v h => v = some (.int x0) ∧ h = h0) := by
  have ww := fun (i : Nat) {d : Jvm.Cond} (q : tables_1[i]? = some d) => hw d (List.mem_of_getElem? q)
  refine own_meet (by decide +kernel) Z0 (Ls0 := #[oI y0, oI x0]) (by intro m; first | (simp [entryFrame, mkF, argsToLocals, Value.category]; done) | rfl) ?_
  intro p e s m below meth c T0 X0
  refine own_iloadN X0 rfl own_d_jdk_29_method_69_code_0 (pc' := 1) rfl ?_
  refine own_iloadN X0 rfl own_d_jdk_29_method_69_code_1 (pc' := 2) rfl ?_
  have c427 : x0 < y0 := hlt
  refine own_icmpT X0 (own_i_gt c427).1 own_d_jdk_29_method_69_code_2 (pc' := 9) (by decide) (by decide) ?_
  refine own_iloadN X0 rfl own_d_jdk_29_method_69_code_9 (pc' := 10) rfl ?_
  exact own_retI X0  own_d_jdk_29_method_69_code_10 rfl (by decide) (by decide) ⟨rfl, rfl⟩
theorem own_d_jdk_65_method_131_code_0 : decode jdk_65_method_131_code 0 = .ok (.iload_n 1, 1) := by decide +kernel
theorem own_d_jdk_65_method_131_code_1 : decode jdk_65_method_131_code 1 = .ok (.iload_n 0, 1) := by decide +kernel
theorem own_d_jdk_65_method_131_code_2 : decode jdk_65_method_131_code 2 = .ok (.if_icmp .ge 35, 3) := by decide +kernel
theorem own_d_jdk_65_method_131_code_5 : decode jdk_65_method_131_code 5 = .ok (.new 43, 3) := by decide +kernel
theorem own_d_jdk_65_method_131_code_8 : decode jdk_65_method_131_code 8 = .ok (.dup, 1) := by decide +kernel
theorem own_d_jdk_65_method_131_code_9 : decode jdk_65_method_131_code 9 = .ok (.new 45, 3) := by decide +kernel
theorem own_d_jdk_65_method_131_code_12 : decode jdk_65_method_131_code 12 = .ok (.dup, 1) := by decide +kernel
theorem own_d_jdk_65_method_131_code_13 : decode jdk_65_method_131_code 13 = .ok (.invokespecial 47, 3) := by decide +kernel
theorem own_d_jdk_65_method_131_code_16 : decode jdk_65_method_131_code 16 = .ok (.iload_n 0, 1) := by decide +kernel
theorem own_d_jdk_65_method_131_code_17 : decode jdk_65_method_131_code 17 = .ok (.invokevirtual 54, 3) := by decide +kernel
theorem own_d_jdk_65_method_131_code_20 : decode jdk_65_method_131_code 20 = .ok (.ldc_w 337, 3) := by decide +kernel
theorem own_d_jdk_65_method_131_code_23 : decode jdk_65_method_131_code 23 = .ok (.invokevirtual 50, 3) := by decide +kernel
theorem own_d_jdk_65_method_131_code_26 : decode jdk_65_method_131_code 26 = .ok (.iload_n 1, 1) := by decide +kernel
theorem own_d_jdk_65_method_131_code_27 : decode jdk_65_method_131_code 27 = .ok (.invokevirtual 54, 3) := by decide +kernel
theorem own_d_jdk_65_method_131_code_30 : decode jdk_65_method_131_code 30 = .ok (.invokevirtual 61, 3) := by decide +kernel
theorem own_d_jdk_65_method_131_code_33 : decode jdk_65_method_131_code 33 = .ok (.invokespecial 65, 3) := by decide +kernel
theorem own_d_jdk_65_method_131_code_36 : decode jdk_65_method_131_code 36 = .ok (.athrow, 1) := by decide +kernel
theorem own_d_jdk_65_method_131_code_37 : decode jdk_65_method_131_code 37 = .ok (.return_, 1) := by decide +kernel
theorem own_pd27 : parseMethodDescriptor "(II)V" = some ⟨[.int, .int], none⟩ := by decide +kernel
theorem own_pn6 : plainName "java/util/Arrays" = true := by first | (simp [plainName, overriddenIn]; done) | decide +kernel
abbrev own_rm_own_ckl : Room := ({ frames := 0, cells := 0, slots := 0, locals := 0 } : Room)
set_option maxRecDepth 65536 in
set_option maxHeartbeats 40000000 in
theorem own_ckl (l : Launch) (Z : State) (a0 : Array Value) (hw : ∀ d ∈ tables_1, d.before a0 Z = true) (x0 : Int32) (k : Nat) (h0 : Heap) (n0 : Nat) (Z0 : n0 ≤ h0.size) (f_x0 : own_I 32 ((k : Nat) : Int) x0) :
    own_Met l Z ({ cls := "java/util/Arrays", name := "checkLength", desc := "(II)V" } : Jvm.MethodName) jdk_65_method_131_code 2 none [] own_rm_own_ckl #[(.int (0 : Int32)), (.int x0)] h0 n0 (fun v h => v = none ∧ h = h0) := by
  have ww := fun (i : Nat) {d : Jvm.Cond} (q : tables_1[i]? = some d) => hw d (List.mem_of_getElem? q)
  refine own_meet (plainFor_of_name own_pn6) Z0 (Ls0 := #[oI 0, oI x0]) (by intro m; first | (simp [entryFrame, mkF, argsToLocals, Value.category]; done) | rfl) ?_
  intro p e s m below meth c T0 X0
  refine own_iloadN X0 rfl own_d_jdk_65_method_131_code_0 (pc' := 1) rfl ?_
  refine own_iloadN X0 rfl own_d_jdk_65_method_131_code_1 (pc' := 2) rfl ?_
  have c428 : ¬ (x0 < (0 : Int32)) := (own_idx f_x0 (k := k) rfl).2
  refine own_icmpT X0 (own_i_nlt c428).2 own_d_jdk_65_method_131_code_2 (pc' := 37) (by decide) (by decide) ?_
  exact own_retV X0  own_d_jdk_65_method_131_code_37 rfl (by decide) (by decide) ⟨rfl, rfl⟩
theorem own_d_jdk_65_method_133_code_0 : decode jdk_65_method_133_code 0 = .ok (.iload_n 1, 1) := by decide +kernel
theorem own_d_jdk_65_method_133_code_1 : decode jdk_65_method_133_code 1 = .ok (.iload_n 2, 1) := by decide +kernel
theorem own_d_jdk_65_method_133_code_2 : decode jdk_65_method_133_code 2 = .ok (.invokestatic 343, 3) := by decide +kernel
theorem own_d_jdk_65_method_133_code_5 : decode jdk_65_method_133_code 5 = .ok (.iload_n 2, 1) := by decide +kernel
theorem own_d_jdk_65_method_133_code_6 : decode jdk_65_method_133_code 6 = .ok (.iload_n 1, 1) := by decide +kernel
theorem own_d_jdk_65_method_133_code_7 : decode jdk_65_method_133_code 7 = .ok (.isub, 1) := by decide +kernel
theorem own_d_jdk_65_method_133_code_8 : decode jdk_65_method_133_code 8 = .ok (.istore_n 3, 1) := by decide +kernel
theorem own_d_jdk_65_method_133_code_9 : decode jdk_65_method_133_code 9 = .ok (.iload_n 3, 1) := by decide +kernel
theorem own_d_jdk_65_method_133_code_10 : decode jdk_65_method_133_code 10 = .ok (.newarray .byte, 2) := by decide +kernel
theorem own_d_jdk_65_method_133_code_12 : decode jdk_65_method_133_code 12 = .ok (.astore 4, 2) := by decide +kernel
theorem own_d_jdk_65_method_133_code_14 : decode jdk_65_method_133_code 14 = .ok (.aload_n 0, 1) := by decide +kernel
theorem own_d_jdk_65_method_133_code_15 : decode jdk_65_method_133_code 15 = .ok (.iload_n 1, 1) := by decide +kernel
theorem own_d_jdk_65_method_133_code_16 : decode jdk_65_method_133_code 16 = .ok (.aload 4, 2) := by decide +kernel
theorem own_d_jdk_65_method_133_code_18 : decode jdk_65_method_133_code 18 = .ok (.iconst 0, 1) := by decide +kernel
theorem own_d_jdk_65_method_133_code_19 : decode jdk_65_method_133_code 19 = .ok (.aload_n 0, 1) := by decide +kernel
theorem own_d_jdk_65_method_133_code_20 : decode jdk_65_method_133_code 20 = .ok (.arraylength, 1) := by decide +kernel
theorem own_d_jdk_65_method_133_code_21 : decode jdk_65_method_133_code 21 = .ok (.iload_n 1, 1) := by decide +kernel
theorem own_d_jdk_65_method_133_code_22 : decode jdk_65_method_133_code 22 = .ok (.isub, 1) := by decide +kernel
theorem own_d_jdk_65_method_133_code_23 : decode jdk_65_method_133_code 23 = .ok (.iload_n 3, 1) := by decide +kernel
theorem own_d_jdk_65_method_133_code_24 : decode jdk_65_method_133_code 24 = .ok (.invokestatic 304, 3) := by decide +kernel
theorem own_d_jdk_65_method_133_code_27 : decode jdk_65_method_133_code 27 = .ok (.invokestatic 150, 3) := by decide +kernel
theorem own_d_jdk_65_method_133_code_30 : decode jdk_65_method_133_code 30 = .ok (.aload 4, 2) := by decide +kernel
theorem own_d_jdk_65_method_133_code_32 : decode jdk_65_method_133_code 32 = .ok (.areturn, 1) := by decide +kernel
theorem own_pd28 : parseMethodDescriptor "([BII)[B" = some ⟨[(.array .byte), .int, .int], some (.array .byte)⟩ := by decide +kernel
abbrev own_rm_own_crbL : Room := ({ frames := 1, cells := 1, slots := 16, locals := 40 } : Room)
set_option maxRecDepth 65536 in
set_option maxHeartbeats 40000000 in
theorem own_crbL (l : Launch) (Z : State) (a0 : Array Value) (hw : ∀ d ∈ tables_1, d.before a0 Z = true) (b1 : Addr) (x0 : Int32) (P Qq : List Value) (h0 : Heap) (n0 : Nat) (Z0 : n0 ≤ h0.size) (V1 : own_Vec Z h0 b1 .byte (P ++ Qq)) (hvl : (P ++ Qq).length = 16) (hfa : (P ++ Qq).all (fits .byte) = true) (f_x0 : own_I 32 ((P.length : Nat) : Int) x0) (hlt : P.length < 16)  :
    own_Met l Z ({ cls := "java/util/Arrays", name := "copyOfRangeByte", desc := "([BII)[B" } : Jvm.MethodName) jdk_65_method_133_code 5 (some (.array .byte)) [] own_rm_own_crbL #[(.ref b1), (.int (0 : Int32)), (.int x0)] h0 n0 (fun v h => ∃ b, v = some (.ref b) ∧ own_Vec Z h b .byte P ∧ h0.size ≤ b ∧ Keep h0 h []) := by
  have ww := fun (i : Nat) {d : Jvm.Cond} (q : tables_1[i]? = some d) => hw d (List.mem_of_getElem? q)
  refine own_meet (plainFor_of_name own_pn6) Z0 (Ls0 := #[oA b1, oI 0, oI x0, oU, oU]) (by intro m; first | (simp [entryFrame, mkF, argsToLocals, Value.category]; done) | rfl) ?_
  intro p e s m below meth c T0 X0
  have K0 := Keep.refl h0 []
  refine own_iloadN X0 rfl own_d_jdk_65_method_133_code_0 (pc' := 1) rfl ?_
  refine own_iloadN X0 rfl own_d_jdk_65_method_133_code_1 (pc' := 2) rfl ?_
  refine own_callS X0 (own_ckl l Z a0 hw x0 P.length _ n0 X0.le f_x0) (ww 212 rfl) (ww 213 rfl) (ww 207 rfl) (ww 214 rfl) (by decide) rfl (by decide) (W := 0) (Nat.le_of_eq rfl) (by decide) (cells' := 0) (slots' := 0) rfl rfl (by decide) (by decide) (argsL := [(.int (0 : Int32)), (.int x0)]) (rest := []) (lenOf own_pd27 rfl) rfl rfl own_d_jdk_65_method_133_code_2 (pc' := 5) rfl ?_
  rintro _ T429 h429 X429 ⟨rfl, e429⟩
  subst e429
  show own_Goal p e below _ T429 (mkF m 5 #[oA b1, oI 0, oI x0, oU, oU] [])
  refine own_iloadN X429 rfl own_d_jdk_65_method_133_code_5 (pc' := 6) rfl ?_
  refine own_iloadN X429 rfl own_d_jdk_65_method_133_code_6 (pc' := 7) rfl ?_
  obtain ⟨i430, e430⟩ : ∃ v, x0 - (0 : Int32) = v := ⟨_, rfl⟩
  have f431 : own_I 0 (0 : Int) (0 : Int32) := own_I.lit (by decide) (by decide)
  have f430 : own_I 32 (((P.length : Nat) : Int) - (0 : Int)) i430 := f_x0.sub f431 e430 (by decide) (by decide)
  refine own_isub X429 e430 own_d_jdk_65_method_133_code_7 (pc' := 8) rfl ?_
  refine own_istoreN X429 (Ls' := #[oA b1, oI 0, oI x0, oI i430, oU]) rfl own_d_jdk_65_method_133_code_8 (pc' := 9) rfl ?_
  refine own_iloadN X429 rfl own_d_jdk_65_method_133_code_9 (pc' := 10) rfl ?_
  have ix433 := own_idx f430 (k := P.length) (by omega)
  refine own_newarrayC X429 (ty := .byte) rfl (ww 24 rfl) (n := P.length) (cap := 16) ix433.1 ix433.2 (by omega) (by decide) (cells' := 1) (slots' := 16) rfl rfl (by decide) (by decide) own_d_jdk_65_method_133_code_10 (pc' := 12) rfl fun a432 T432 h432 g432 ge432 X432 E432 V432 => ?_
  have ne434 : b1 ≠ a432 := own_lt_ne V1.lt g432
  have sz435 := own_ge K0 g432
  have V436 := V1.ext E432
  have K437 := K0.ext E432
  refine own_astore X432 (Ls' := #[oA b1, oI 0, oI x0, oI i430, oA a432]) rfl rfl own_d_jdk_65_method_133_code_12 (pc' := 14) rfl ?_
  refine own_aloadN X432 rfl rfl own_d_jdk_65_method_133_code_14 (pc' := 15) rfl ?_
  refine own_iloadN X432 rfl own_d_jdk_65_method_133_code_15 (pc' := 16) rfl ?_
  refine own_aload X432 rfl rfl own_d_jdk_65_method_133_code_16 (pc' := 18) rfl ?_
  refine own_iconst X432 (v := (0 : Int32)) (by decide) own_d_jdk_65_method_133_code_18 (pc' := 19) rfl ?_
  refine own_aloadN X432 rfl rfl own_d_jdk_65_method_133_code_19 (pc' := 20) rfl ?_
  refine own_len X432 V436 (v := (16 : Int32)) (show (P ++ Qq).length.toInt32 = _ by rw [hvl]; decide) own_d_jdk_65_method_133_code_20 (pc' := 21) rfl ?_
  refine own_iloadN X432 rfl own_d_jdk_65_method_133_code_21 (pc' := 22) rfl ?_
  refine own_isub X432 (v := (16 : Int32)) (by decide) own_d_jdk_65_method_133_code_22 (pc' := 23) rfl ?_
  refine own_iloadN X432 rfl own_d_jdk_65_method_133_code_23 (pc' := 24) rfl ?_
  refine own_callS X432 (own_min l Z a0 hw (16 : Int32) i430 P.length _ n0 X432.le (f430.re (by omega) (by omega)) (own_lt32 (by rw [f430.1, show (16 : Int32).toInt = 16 by decide]; omega))) (ww 215 rfl) (ww 216 rfl) (ww 217 rfl) (ww 218 rfl) (by decide) rfl (by decide) (W := 4) (Nat.le_of_eq rfl) (by decide) (cells' := 1) (slots' := 16) rfl rfl (by decide) (by decide) (argsL := [(.int (16 : Int32)), (.int i430)]) (rest := [(.int (0 : Int32)), (.ref a432), (.int (0 : Int32)), (.ref b1)]) (lenOf own_pd26 rfl) rfl rfl own_d_jdk_65_method_133_code_24 (pc' := 27) rfl ?_
  rintro _ T438 h438 X438 ⟨rfl, e438⟩
  subst e438
  show own_Goal p e below _ T438 (mkF m 27 #[oA b1, oI 0, oI x0, oI i430, oA a432] [(.int i430), (.int (0 : Int32)), (.ref a432), (.int (0 : Int32)), (.ref b1)])
  refine own_cpy X438 (ww 219 rfl) (ww 172 rfl) (ww 170 rfl) (ww 171 rfl) (P := P) (Q := Qq) (A := []) (B := List.replicate P.length (Value.int 0)) (C := []) V436 (V432.eq (by simp [defaultValue])) hfa (own_all_app (own_all_app rfl (own_all_rep _)) rfl) (by simp) ⟨by rw [hvl]; decide, by simp; omega⟩ ⟨by decide, by decide⟩ ⟨by decide, by decide⟩ (own_idx f430 (by omega)) ge432 rfl (by decide) (W := 0) (Nat.le_of_eq rfl) (by decide) own_d_jdk_65_method_133_code_27 (pc' := 30) rfl fun T439 h439 X439 K439 V439 => ?_
  have V440 := V436.keep K439 (ninS ne434 nin0)
  have K441 := K437.trans K439 (own_mem1 (Or.inr sz435))
  refine own_aload X439 rfl rfl own_d_jdk_65_method_133_code_30 (pc' := 32) rfl ?_
  exact own_retA X439 (t := (.array .byte)) rfl own_d_jdk_65_method_133_code_32 rfl (by decide) (by decide) ⟨_, rfl, V439.eq (by simp), sz435, K441⟩
theorem own_d_jdk_65_method_132_code_0 : decode jdk_65_method_132_code 0 = .ok (.iload_n 1, 1) := by decide +kernel
theorem own_d_jdk_65_method_132_code_1 : decode jdk_65_method_132_code 1 = .ok (.ifCond .ne 9, 3) := by decide +kernel
theorem own_d_jdk_65_method_132_code_4 : decode jdk_65_method_132_code 4 = .ok (.iload_n 2, 1) := by decide +kernel
theorem own_d_jdk_65_method_132_code_5 : decode jdk_65_method_132_code 5 = .ok (.aload_n 0, 1) := by decide +kernel
theorem own_d_jdk_65_method_132_code_6 : decode jdk_65_method_132_code 6 = .ok (.arraylength, 1) := by decide +kernel
theorem own_d_jdk_65_method_132_code_7 : decode jdk_65_method_132_code 7 = .ok (.if_icmp .eq 10, 3) := by decide +kernel
theorem own_d_jdk_65_method_132_code_10 : decode jdk_65_method_132_code 10 = .ok (.aload_n 0, 1) := by decide +kernel
theorem own_d_jdk_65_method_132_code_11 : decode jdk_65_method_132_code 11 = .ok (.iload_n 1, 1) := by decide +kernel
theorem own_d_jdk_65_method_132_code_12 : decode jdk_65_method_132_code 12 = .ok (.iload_n 2, 1) := by decide +kernel
theorem own_d_jdk_65_method_132_code_13 : decode jdk_65_method_132_code 13 = .ok (.invokestatic 339, 3) := by decide +kernel
theorem own_d_jdk_65_method_132_code_16 : decode jdk_65_method_132_code 16 = .ok (.areturn, 1) := by decide +kernel
theorem own_d_jdk_65_method_132_code_17 : decode jdk_65_method_132_code 17 = .ok (.aload_n 0, 1) := by decide +kernel
theorem own_d_jdk_65_method_132_code_18 : decode jdk_65_method_132_code 18 = .ok (.invokevirtual 310, 3) := by decide +kernel
theorem own_d_jdk_65_method_132_code_21 : decode jdk_65_method_132_code 21 = .ok (.checkcast 311, 3) := by decide +kernel
theorem own_d_jdk_65_method_132_code_24 : decode jdk_65_method_132_code 24 = .ok (.areturn, 1) := by decide +kernel
abbrev own_rm_own_crL : Room := ({ frames := 2, cells := 1, slots := 16, locals := 56 } : Room)
set_option maxRecDepth 65536 in
set_option maxHeartbeats 40000000 in
theorem own_crL (l : Launch) (Z : State) (a0 : Array Value) (hw : ∀ d ∈ tables_1, d.before a0 Z = true) (b1 : Addr) (x0 : Int32) (P Qq : List Value) (h0 : Heap) (n0 : Nat) (Z0 : n0 ≤ h0.size) (V1 : own_Vec Z h0 b1 .byte (P ++ Qq)) (hvl : (P ++ Qq).length = 16) (hfa : (P ++ Qq).all (fits .byte) = true) (f_x0 : own_I 32 ((P.length : Nat) : Int) x0) (hlt : P.length < 16)  :
    own_Met l Z ({ cls := "java/util/Arrays", name := "copyOfRange", desc := "([BII)[B" } : Jvm.MethodName) jdk_65_method_132_code 3 (some (.array .byte)) [] own_rm_own_crL #[(.ref b1), (.int (0 : Int32)), (.int x0)] h0 n0 (fun v h => ∃ b, v = some (.ref b) ∧ own_Vec Z h b .byte P ∧ h0.size ≤ b ∧ Keep h0 h []) := by
  have ww := fun (i : Nat) {d : Jvm.Cond} (q : tables_1[i]? = some d) => hw d (List.mem_of_getElem? q)
  refine own_meet (plainFor_of_name own_pn6) Z0 (Ls0 := #[oA b1, oI 0, oI x0]) (by intro m; first | (simp [entryFrame, mkF, argsToLocals, Value.category]; done) | rfl) ?_
  intro p e s m below meth c T0 X0
  refine own_iloadN X0 rfl own_d_jdk_65_method_132_code_0 (pc' := 1) rfl ?_
  refine own_ifF X0 (by decide) own_d_jdk_65_method_132_code_1 (pc' := 4) rfl ?_
  refine own_iloadN X0 rfl own_d_jdk_65_method_132_code_4 (pc' := 5) rfl ?_
  refine own_aloadN X0 rfl rfl own_d_jdk_65_method_132_code_5 (pc' := 6) rfl ?_
  refine own_len X0 V1 (v := (16 : Int32)) (show (P ++ Qq).length.toInt32 = _ by rw [hvl]; decide) own_d_jdk_65_method_132_code_6 (pc' := 7) rfl ?_
  have c442 : ¬ (x0 = (16 : Int32)) := fun q => by have h1 := f_x0.1; rw [q, show (16 : Int32).toInt = 16 by decide] at h1; omega
  refine own_icmpF X0 (own_i_ne c442).1 own_d_jdk_65_method_132_code_7 (pc' := 10) rfl ?_
  refine own_aloadN X0 rfl rfl own_d_jdk_65_method_132_code_10 (pc' := 11) rfl ?_
  refine own_iloadN X0 rfl own_d_jdk_65_method_132_code_11 (pc' := 12) rfl ?_
  refine own_iloadN X0 rfl own_d_jdk_65_method_132_code_12 (pc' := 13) rfl ?_
  refine own_callS X0 (own_crbL l Z a0 hw b1 x0 P Qq _ n0 X0.le V1 hvl hfa f_x0 hlt) (ww 209 rfl) (ww 210 rfl) (ww 207 rfl) (ww 211 rfl) (by decide) rfl (by decide) (W := 0) (Nat.le_of_eq rfl) (by decide) (cells' := 1) (slots' := 16) rfl rfl (by decide) (by decide) (argsL := [(.ref b1), (.int (0 : Int32)), (.int x0)]) (rest := []) (lenOf own_pd28 rfl) rfl rfl own_d_jdk_65_method_132_code_13 (pc' := 16) rfl ?_
  rintro _ T443 h443 X443 ⟨b443, rfl, D443, sz443, K443⟩
  show own_Goal p e below _ T443 (mkF m 16 #[oA b1, oI 0, oI x0] [(.ref b443)])
  exact own_retA X443 (t := (.array .byte)) rfl own_d_jdk_65_method_132_code_16 rfl (by decide) (by decide) ⟨_, rfl, D443, sz443, K443⟩
abbrev own_rm_own_crbU : Room := ({ frames := 1, cells := 1, slots := 32, locals := 40 } : Room)
set_option maxRecDepth 65536 in
set_option maxHeartbeats 40000000 in
theorem own_crbU (l : Launch) (Z : State) (a0 : Array Value) (hw : ∀ d ∈ tables_1, d.before a0 Z = true) (b1 : Addr) (x0 : Int32) (P Qq : List Value) (h0 : Heap) (n0 : Nat) (Z0 : n0 ≤ h0.size) (V1 : own_Vec Z h0 b1 .byte (P ++ Qq)) (hvl : (P ++ Qq).length = 32) (hfa : (P ++ Qq).all (fits .byte) = true) (f_x0 : own_I 32 ((P.length : Nat) : Int) x0) (hlt : P.length < 32)  :
    own_Met l Z ({ cls := "java/util/Arrays", name := "copyOfRangeByte", desc := "([BII)[B" } : Jvm.MethodName) jdk_65_method_133_code 5 (some (.array .byte)) [] own_rm_own_crbU #[(.ref b1), (.int (0 : Int32)), (.int x0)] h0 n0 (fun v h => ∃ b, v = some (.ref b) ∧ own_Vec Z h b .byte P ∧ h0.size ≤ b ∧ Keep h0 h []) := by
  have ww := fun (i : Nat) {d : Jvm.Cond} (q : tables_1[i]? = some d) => hw d (List.mem_of_getElem? q)
  refine own_meet (plainFor_of_name own_pn6) Z0 (Ls0 := #[oA b1, oI 0, oI x0, oU, oU]) (by intro m; first | (simp [entryFrame, mkF, argsToLocals, Value.category]; done) | rfl) ?_
  intro p e s m below meth c T0 X0
  have K0 := Keep.refl h0 []
  refine own_iloadN X0 rfl own_d_jdk_65_method_133_code_0 (pc' := 1) rfl ?_
  refine own_iloadN X0 rfl own_d_jdk_65_method_133_code_1 (pc' := 2) rfl ?_
  refine own_callS X0 (own_ckl l Z a0 hw x0 P.length _ n0 X0.le f_x0) (ww 212 rfl) (ww 213 rfl) (ww 207 rfl) (ww 214 rfl) (by decide) rfl (by decide) (W := 0) (Nat.le_of_eq rfl) (by decide) (cells' := 0) (slots' := 0) rfl rfl (by decide) (by decide) (argsL := [(.int (0 : Int32)), (.int x0)]) (rest := []) (lenOf own_pd27 rfl) rfl rfl own_d_jdk_65_method_133_code_2 (pc' := 5) rfl ?_
  rintro _ T444 h444 X444 ⟨rfl, e444⟩
  subst e444
  show own_Goal p e below _ T444 (mkF m 5 #[oA b1, oI 0, oI x0, oU, oU] [])
  refine own_iloadN X444 rfl own_d_jdk_65_method_133_code_5 (pc' := 6) rfl ?_
  refine own_iloadN X444 rfl own_d_jdk_65_method_133_code_6 (pc' := 7) rfl ?_
  obtain ⟨i445, e445⟩ : ∃ v, x0 - (0 : Int32) = v := ⟨_, rfl⟩
  have f446 : own_I 0 (0 : Int) (0 : Int32) := own_I.lit (by decide) (by decide)
  have f445 : own_I 32 (((P.length : Nat) : Int) - (0 : Int)) i445 := f_x0.sub f446 e445 (by decide) (by decide)
  refine own_isub X444 e445 own_d_jdk_65_method_133_code_7 (pc' := 8) rfl ?_
  refine own_istoreN X444 (Ls' := #[oA b1, oI 0, oI x0, oI i445, oU]) rfl own_d_jdk_65_method_133_code_8 (pc' := 9) rfl ?_
  refine own_iloadN X444 rfl own_d_jdk_65_method_133_code_9 (pc' := 10) rfl ?_
  have ix448 := own_idx f445 (k := P.length) (by omega)
  refine own_newarrayC X444 (ty := .byte) rfl (ww 24 rfl) (n := P.length) (cap := 32) ix448.1 ix448.2 (by omega) (by decide) (cells' := 1) (slots' := 32) rfl rfl (by decide) (by decide) own_d_jdk_65_method_133_code_10 (pc' := 12) rfl fun a447 T447 h447 g447 ge447 X447 E447 V447 => ?_
  have ne449 : b1 ≠ a447 := own_lt_ne V1.lt g447
  have sz450 := own_ge K0 g447
  have V451 := V1.ext E447
  have K452 := K0.ext E447
  refine own_astore X447 (Ls' := #[oA b1, oI 0, oI x0, oI i445, oA a447]) rfl rfl own_d_jdk_65_method_133_code_12 (pc' := 14) rfl ?_
  refine own_aloadN X447 rfl rfl own_d_jdk_65_method_133_code_14 (pc' := 15) rfl ?_
  refine own_iloadN X447 rfl own_d_jdk_65_method_133_code_15 (pc' := 16) rfl ?_
  refine own_aload X447 rfl rfl own_d_jdk_65_method_133_code_16 (pc' := 18) rfl ?_
  refine own_iconst X447 (v := (0 : Int32)) (by decide) own_d_jdk_65_method_133_code_18 (pc' := 19) rfl ?_
  refine own_aloadN X447 rfl rfl own_d_jdk_65_method_133_code_19 (pc' := 20) rfl ?_
  refine own_len X447 V451 (v := (32 : Int32)) (show (P ++ Qq).length.toInt32 = _ by rw [hvl]; decide) own_d_jdk_65_method_133_code_20 (pc' := 21) rfl ?_
  refine own_iloadN X447 rfl own_d_jdk_65_method_133_code_21 (pc' := 22) rfl ?_
  refine own_isub X447 (v := (32 : Int32)) (by decide) own_d_jdk_65_method_133_code_22 (pc' := 23) rfl ?_
  refine own_iloadN X447 rfl own_d_jdk_65_method_133_code_23 (pc' := 24) rfl ?_
  refine own_callS X447 (own_min l Z a0 hw (32 : Int32) i445 P.length _ n0 X447.le (f445.re (by omega) (by omega)) (own_lt32 (by rw [f445.1, show (32 : Int32).toInt = 32 by decide]; omega))) (ww 215 rfl) (ww 216 rfl) (ww 217 rfl) (ww 218 rfl) (by decide) rfl (by decide) (W := 4) (Nat.le_of_eq rfl) (by decide) (cells' := 1) (slots' := 32) rfl rfl (by decide) (by decide) (argsL := [(.int (32 : Int32)), (.int i445)]) (rest := [(.int (0 : Int32)), (.ref a447), (.int (0 : Int32)), (.ref b1)]) (lenOf own_pd26 rfl) rfl rfl own_d_jdk_65_method_133_code_24 (pc' := 27) rfl ?_
  rintro _ T453 h453 X453 ⟨rfl, e453⟩
  subst e453
  show own_Goal p e below _ T453 (mkF m 27 #[oA b1, oI 0, oI x0, oI i445, oA a447] [(.int i445), (.int (0 : Int32)), (.ref a447), (.int (0 : Int32)), (.ref b1)])
  refine own_cpy X453 (ww 219 rfl) (ww 172 rfl) (ww 170 rfl) (ww 171 rfl) (P := P) (Q := Qq) (A := []) (B := List.replicate P.length (Value.int 0)) (C := []) V451 (V447.eq (by simp [defaultValue])) hfa (own_all_app (own_all_app rfl (own_all_rep _)) rfl) (by simp) ⟨by rw [hvl]; decide, by simp; omega⟩ ⟨by decide, by decide⟩ ⟨by decide, by decide⟩ (own_idx f445 (by omega)) ge447 rfl (by decide) (W := 0) (Nat.le_of_eq rfl) (by decide) own_d_jdk_65_method_133_code_27 (pc' := 30) rfl fun T454 h454 X454 K454 V454 => ?_
  have V455 := V451.keep K454 (ninS ne449 nin0)
  have K456 := K452.trans K454 (own_mem1 (Or.inr sz450))
  refine own_aload X454 rfl rfl own_d_jdk_65_method_133_code_30 (pc' := 32) rfl ?_
  exact own_retA X454 (t := (.array .byte)) rfl own_d_jdk_65_method_133_code_32 rfl (by decide) (by decide) ⟨_, rfl, V454.eq (by simp), sz450, K456⟩
abbrev own_rm_own_crU : Room := ({ frames := 2, cells := 1, slots := 32, locals := 56 } : Room)
set_option maxRecDepth 65536 in
set_option maxHeartbeats 40000000 in
theorem own_crU (l : Launch) (Z : State) (a0 : Array Value) (hw : ∀ d ∈ tables_1, d.before a0 Z = true) (b1 : Addr) (x0 : Int32) (P Qq : List Value) (h0 : Heap) (n0 : Nat) (Z0 : n0 ≤ h0.size) (V1 : own_Vec Z h0 b1 .byte (P ++ Qq)) (hvl : (P ++ Qq).length = 32) (hfa : (P ++ Qq).all (fits .byte) = true) (f_x0 : own_I 32 ((P.length : Nat) : Int) x0) (hlt : P.length < 32)  :
    own_Met l Z ({ cls := "java/util/Arrays", name := "copyOfRange", desc := "([BII)[B" } : Jvm.MethodName) jdk_65_method_132_code 3 (some (.array .byte)) [] own_rm_own_crU #[(.ref b1), (.int (0 : Int32)), (.int x0)] h0 n0 (fun v h => ∃ b, v = some (.ref b) ∧ own_Vec Z h b .byte P ∧ h0.size ≤ b ∧ Keep h0 h []) := by
  have ww := fun (i : Nat) {d : Jvm.Cond} (q : tables_1[i]? = some d) => hw d (List.mem_of_getElem? q)
  refine own_meet (plainFor_of_name own_pn6) Z0 (Ls0 := #[oA b1, oI 0, oI x0]) (by intro m; first | (simp [entryFrame, mkF, argsToLocals, Value.category]; done) | rfl) ?_
  intro p e s m below meth c T0 X0
  refine own_iloadN X0 rfl own_d_jdk_65_method_132_code_0 (pc' := 1) rfl ?_
  refine own_ifF X0 (by decide) own_d_jdk_65_method_132_code_1 (pc' := 4) rfl ?_
  refine own_iloadN X0 rfl own_d_jdk_65_method_132_code_4 (pc' := 5) rfl ?_
  refine own_aloadN X0 rfl rfl own_d_jdk_65_method_132_code_5 (pc' := 6) rfl ?_
  refine own_len X0 V1 (v := (32 : Int32)) (show (P ++ Qq).length.toInt32 = _ by rw [hvl]; decide) own_d_jdk_65_method_132_code_6 (pc' := 7) rfl ?_
  have c457 : ¬ (x0 = (32 : Int32)) := fun q => by have h1 := f_x0.1; rw [q, show (32 : Int32).toInt = 32 by decide] at h1; omega
  refine own_icmpF X0 (own_i_ne c457).1 own_d_jdk_65_method_132_code_7 (pc' := 10) rfl ?_
  refine own_aloadN X0 rfl rfl own_d_jdk_65_method_132_code_10 (pc' := 11) rfl ?_
  refine own_iloadN X0 rfl own_d_jdk_65_method_132_code_11 (pc' := 12) rfl ?_
  refine own_iloadN X0 rfl own_d_jdk_65_method_132_code_12 (pc' := 13) rfl ?_
  refine own_callS X0 (own_crbU l Z a0 hw b1 x0 P Qq _ n0 X0.le V1 hvl hfa f_x0 hlt) (ww 209 rfl) (ww 210 rfl) (ww 207 rfl) (ww 211 rfl) (by decide) rfl (by decide) (W := 0) (Nat.le_of_eq rfl) (by decide) (cells' := 1) (slots' := 32) rfl rfl (by decide) (by decide) (argsL := [(.ref b1), (.int (0 : Int32)), (.int x0)]) (rest := []) (lenOf own_pd28 rfl) rfl rfl own_d_jdk_65_method_132_code_13 (pc' := 16) rfl ?_
  rintro _ T458 h458 X458 ⟨b458, rfl, D458, sz458, K458⟩
  show own_Goal p e below _ T458 (mkF m 16 #[oA b1, oI 0, oI x0] [(.ref b458)])
  exact own_retA X458 (t := (.array .byte)) rfl own_d_jdk_65_method_132_code_16 rfl (by decide) (by decide) ⟨_, rfl, D458, sz458, K458⟩
theorem own_d_jdk_68_method_64_code_0 : decode jdk_68_method_64_code 0 = .ok (.aload_n 0, 1) := by decide +kernel
theorem own_d_jdk_68_method_64_code_1 : decode jdk_68_method_64_code 1 = .ok (.getfield 15, 3) := by decide +kernel
theorem own_d_jdk_68_method_64_code_4 : decode jdk_68_method_64_code 4 = .ok (.areturn, 1) := by decide +kernel
theorem own_pd29 : parseMethodDescriptor "()[B" = some ⟨[], some (.array .byte)⟩ := by decide +kernel
abbrev own_rm_own_gv : Room := ({ frames := 0, cells := 0, slots := 0, locals := 0 } : Room)
set_option maxRecDepth 65536 in
set_option maxHeartbeats 40000000 in
theorem own_gv (l : Launch) (Z : State) (a0 : Array Value) (hw : ∀ d ∈ tables_1, d.before a0 Z = true) (a1 b1 : Addr) (h0 : Heap) (n0 : Nat) (Z0 : n0 ≤ h0.size) (A1 : Exa Z h0 a1 "java/lang/StringBuilder") (F3 : Fld Z h0 a1 "java/lang/AbstractStringBuilder" "value" "[B" (.ref b1)) :
    own_Met l Z ({ cls := "java/lang/AbstractStringBuilder", name := "getValue", desc := "()[B" } : Jvm.MethodName) jdk_68_method_64_code 1 (some (.array .byte)) [] own_rm_own_gv #[(.ref a1)] h0 n0 (fun v h => v = some (.ref b1) ∧ h = h0) := by
  have ww := fun (i : Nat) {d : Jvm.Cond} (q : tables_1[i]? = some d) => hw d (List.mem_of_getElem? q)
  refine own_meet (plainFor_of_name own_pn3) Z0 (Ls0 := #[oA a1]) (by intro m; first | (simp [entryFrame, mkF, argsToLocals, Value.category]; done) | rfl) ?_
  intro p e s m below meth c T0 X0
  refine own_aloadN X0 rfl rfl own_d_jdk_68_method_64_code_0 (pc' := 1) rfl ?_
  refine own_getF X0 (ww 122 rfl) F3 own_d_jdk_68_method_64_code_1 (pc' := 4) rfl fun T459 X459 => ?_
  exact own_retA X459 (t := (.array .byte)) rfl own_d_jdk_68_method_64_code_4 rfl (by decide) (by decide) ⟨rfl, rfl⟩
theorem own_d_jdk_68_method_6_code_0 : decode jdk_68_method_6_code 0 = .ok (.aload_n 0, 1) := by decide +kernel
theorem own_d_jdk_68_method_6_code_1 : decode jdk_68_method_6_code 1 = .ok (.getfield 79, 3) := by decide +kernel
theorem own_d_jdk_68_method_6_code_4 : decode jdk_68_method_6_code 4 = .ok (.ireturn, 1) := by decide +kernel
abbrev own_rm_own_al : Room := ({ frames := 0, cells := 0, slots := 0, locals := 0 } : Room)
set_option maxRecDepth 65536 in
set_option maxHeartbeats 40000000 in
theorem own_al (l : Launch) (Z : State) (a0 : Array Value) (hw : ∀ d ∈ tables_1, d.before a0 Z = true) (a1 : Addr) (n1 : Int32) (h0 : Heap) (n0 : Nat) (Z0 : n0 ≤ h0.size) (A1 : Exa Z h0 a1 "java/lang/StringBuilder") (F1 : Fld Z h0 a1 "java/lang/AbstractStringBuilder" "count" "I" (.int n1)) :
    own_Met l Z ({ cls := "java/lang/AbstractStringBuilder", name := "length", desc := "()I" } : Jvm.MethodName) jdk_68_method_6_code 1 (some .int) [] own_rm_own_al #[(.ref a1)] h0 n0 (fun v h => v = some (.int n1) ∧ h = h0) := by
  have ww := fun (i : Nat) {d : Jvm.Cond} (q : tables_1[i]? = some d) => hw d (List.mem_of_getElem? q)
  refine own_meet (plainFor_of_name own_pn3) Z0 (Ls0 := #[oA a1]) (by intro m; first | (simp [entryFrame, mkF, argsToLocals, Value.category]; done) | rfl) ?_
  intro p e s m below meth c T0 X0
  refine own_aloadN X0 rfl rfl own_d_jdk_68_method_6_code_0 (pc' := 1) rfl ?_
  refine own_getF X0 (ww 146 rfl) F1 own_d_jdk_68_method_6_code_1 (pc' := 4) rfl fun T460 X460 => ?_
  exact own_retI X460  own_d_jdk_68_method_6_code_4 rfl (by decide) (by decide) ⟨rfl, rfl⟩
theorem own_d_jdk_67_method_93_code_0 : decode jdk_67_method_93_code 0 = .ok (.aload_n 0, 1) := by decide +kernel
theorem own_d_jdk_67_method_93_code_1 : decode jdk_67_method_93_code 1 = .ok (.invokespecial 343, 3) := by decide +kernel
theorem own_d_jdk_67_method_93_code_4 : decode jdk_67_method_93_code 4 = .ok (.ireturn, 1) := by decide +kernel
abbrev own_rm_own_bl : Room := ({ frames := 1, cells := 0, slots := 0, locals := 12 } : Room)
set_option maxRecDepth 65536 in
set_option maxHeartbeats 40000000 in
theorem own_bl (l : Launch) (Z : State) (a0 : Array Value) (hw : ∀ d ∈ tables_1, d.before a0 Z = true) (a1 : Addr) (n1 : Int32) (h0 : Heap) (n0 : Nat) (Z0 : n0 ≤ h0.size) (A1 : Exa Z h0 a1 "java/lang/StringBuilder") (F1 : Fld Z h0 a1 "java/lang/AbstractStringBuilder" "count" "I" (.int n1)) :
    own_Met l Z ({ cls := "java/lang/StringBuilder", name := "length", desc := "()I" } : Jvm.MethodName) jdk_67_method_93_code 1 (some .int) [] own_rm_own_bl #[(.ref a1)] h0 n0 (fun v h => v = some (.int n1) ∧ h = h0) := by
  have ww := fun (i : Nat) {d : Jvm.Cond} (q : tables_1[i]? = some d) => hw d (List.mem_of_getElem? q)
  refine own_meet (plainFor_of_name own_pn5) Z0 (Ls0 := #[oA a1]) (by intro m; first | (simp [entryFrame, mkF, argsToLocals, Value.category]; done) | rfl) ?_
  intro p e s m below meth c T0 X0
  refine own_aloadN X0 rfl rfl own_d_jdk_67_method_93_code_0 (pc' := 1) rfl ?_
  refine own_super X0 (own_al l Z a0 hw a1 n1 _ n0 X0.le A1 F1) (ww 198 rfl) (own_same (ww 194 rfl) (ww 151 rfl) rfl (by decide)) (ww 194 rfl) (ww 133 rfl) (by decide) (ww 118 rfl) (ww 199 rfl) rfl (by decide) (W := 0) (Nat.le_of_eq rfl) (by decide) (cells' := 0) (slots' := 0) rfl rfl (by decide) (by decide) A1 (argsL := []) (rest := []) (lenOf own_pd12 rfl) rfl rfl own_d_jdk_67_method_93_code_1 (pc' := 4) rfl ?_
  rintro _ T461 h461 X461 ⟨rfl, e461⟩
  subst e461
  show own_Goal p e below _ T461 (mkF m 4 #[oA a1] [(.int n1)])
  exact own_retI X461  own_d_jdk_67_method_93_code_4 rfl (by decide) (by decide) ⟨rfl, rfl⟩
theorem own_d_jdk_42_method_150_code_0 : decode jdk_42_method_150_code 0 = .ok (.aload_n 0, 1) := by decide +kernel
theorem own_d_jdk_42_method_150_code_1 : decode jdk_42_method_150_code 1 = .ok (.invokespecial 1, 3) := by decide +kernel
theorem own_d_jdk_42_method_150_code_4 : decode jdk_42_method_150_code 4 = .ok (.aload_n 1, 1) := by decide +kernel
theorem own_d_jdk_42_method_150_code_5 : decode jdk_42_method_150_code 5 = .ok (.invokevirtual 552, 3) := by decide +kernel
theorem own_d_jdk_42_method_150_code_8 : decode jdk_42_method_150_code 8 = .ok (.astore_n 3, 1) := by decide +kernel
theorem own_d_jdk_42_method_150_code_9 : decode jdk_42_method_150_code 9 = .ok (.aload_n 1, 1) := by decide +kernel
theorem own_d_jdk_42_method_150_code_10 : decode jdk_42_method_150_code 10 = .ok (.invokevirtual 549, 3) := by decide +kernel
theorem own_d_jdk_42_method_150_code_13 : decode jdk_42_method_150_code 13 = .ok (.istore 4, 2) := by decide +kernel
theorem own_d_jdk_42_method_150_code_15 : decode jdk_42_method_150_code 15 = .ok (.aload_n 1, 1) := by decide +kernel
theorem own_d_jdk_42_method_150_code_16 : decode jdk_42_method_150_code 16 = .ok (.invokevirtual 1047, 3) := by decide +kernel
theorem own_d_jdk_42_method_150_code_19 : decode jdk_42_method_150_code 19 = .ok (.ifCond .eq 22, 3) := by decide +kernel
theorem own_d_jdk_42_method_150_code_22 : decode jdk_42_method_150_code 22 = .ok (.aload_n 0, 1) := by decide +kernel
theorem own_d_jdk_42_method_150_code_23 : decode jdk_42_method_150_code 23 = .ok (.iconst 0, 1) := by decide +kernel
theorem own_d_jdk_42_method_150_code_24 : decode jdk_42_method_150_code 24 = .ok (.putfield 15, 3) := by decide +kernel
theorem own_d_jdk_42_method_150_code_27 : decode jdk_42_method_150_code 27 = .ok (.aload_n 0, 1) := by decide +kernel
theorem own_d_jdk_42_method_150_code_28 : decode jdk_42_method_150_code 28 = .ok (.aload_n 3, 1) := by decide +kernel
theorem own_d_jdk_42_method_150_code_29 : decode jdk_42_method_150_code 29 = .ok (.iconst 0, 1) := by decide +kernel
theorem own_d_jdk_42_method_150_code_30 : decode jdk_42_method_150_code 30 = .ok (.iload 4, 2) := by decide +kernel
theorem own_d_jdk_42_method_150_code_32 : decode jdk_42_method_150_code 32 = .ok (.invokestatic 54, 3) := by decide +kernel
theorem own_d_jdk_42_method_150_code_35 : decode jdk_42_method_150_code 35 = .ok (.putfield 9, 3) := by decide +kernel
theorem own_d_jdk_42_method_150_code_38 : decode jdk_42_method_150_code 38 = .ok (.goto 59, 3) := by decide +kernel
theorem own_d_jdk_42_method_150_code_41 : decode jdk_42_method_150_code 41 = .ok (.getstatic 38, 3) := by decide +kernel
theorem own_d_jdk_42_method_150_code_44 : decode jdk_42_method_150_code 44 = .ok (.ifCond .eq 35, 3) := by decide +kernel
theorem own_d_jdk_42_method_150_code_47 : decode jdk_42_method_150_code 47 = .ok (.aload_n 1, 1) := by decide +kernel
theorem own_d_jdk_42_method_150_code_48 : decode jdk_42_method_150_code 48 = .ok (.getfield 1048, 3) := by decide +kernel
theorem own_d_jdk_42_method_150_code_51 : decode jdk_42_method_150_code 51 = .ok (.ifCond .eq 28, 3) := by decide +kernel
theorem own_d_jdk_42_method_150_code_54 : decode jdk_42_method_150_code 54 = .ok (.aload_n 0, 1) := by decide +kernel
theorem own_d_jdk_42_method_150_code_55 : decode jdk_42_method_150_code 55 = .ok (.aload_n 3, 1) := by decide +kernel
theorem own_d_jdk_42_method_150_code_56 : decode jdk_42_method_150_code 56 = .ok (.iconst 0, 1) := by decide +kernel
theorem own_d_jdk_42_method_150_code_57 : decode jdk_42_method_150_code 57 = .ok (.iload 4, 2) := by decide +kernel
theorem own_d_jdk_42_method_150_code_59 : decode jdk_42_method_150_code 59 = .ok (.invokestatic 1051, 3) := by decide +kernel
theorem own_d_jdk_42_method_150_code_62 : decode jdk_42_method_150_code 62 = .ok (.putfield 9, 3) := by decide +kernel
theorem own_d_jdk_42_method_150_code_65 : decode jdk_42_method_150_code 65 = .ok (.aload_n 0, 1) := by decide +kernel
theorem own_d_jdk_42_method_150_code_66 : decode jdk_42_method_150_code 66 = .ok (.aload_n 0, 1) := by decide +kernel
theorem own_d_jdk_42_method_150_code_67 : decode jdk_42_method_150_code 67 = .ok (.getfield 9, 3) := by decide +kernel
theorem own_d_jdk_42_method_150_code_70 : decode jdk_42_method_150_code 70 = .ok (.iload 4, 2) := by decide +kernel
theorem own_d_jdk_42_method_150_code_72 : decode jdk_42_method_150_code 72 = .ok (.invokestatic 47, 3) := by decide +kernel
theorem own_d_jdk_42_method_150_code_75 : decode jdk_42_method_150_code 75 = .ok (.putfield 15, 3) := by decide +kernel
theorem own_d_jdk_42_method_150_code_78 : decode jdk_42_method_150_code 78 = .ok (.return_, 1) := by decide +kernel
theorem own_d_jdk_42_method_150_code_79 : decode jdk_42_method_150_code 79 = .ok (.aload_n 0, 1) := by decide +kernel
theorem own_d_jdk_42_method_150_code_80 : decode jdk_42_method_150_code 80 = .ok (.iconst 1, 1) := by decide +kernel
theorem own_d_jdk_42_method_150_code_81 : decode jdk_42_method_150_code 81 = .ok (.putfield 15, 3) := by decide +kernel
theorem own_d_jdk_42_method_150_code_84 : decode jdk_42_method_150_code 84 = .ok (.aload_n 0, 1) := by decide +kernel
theorem own_d_jdk_42_method_150_code_85 : decode jdk_42_method_150_code 85 = .ok (.aload_n 3, 1) := by decide +kernel
theorem own_d_jdk_42_method_150_code_86 : decode jdk_42_method_150_code 86 = .ok (.iconst 0, 1) := by decide +kernel
theorem own_d_jdk_42_method_150_code_87 : decode jdk_42_method_150_code 87 = .ok (.iload 4, 2) := by decide +kernel
theorem own_d_jdk_42_method_150_code_89 : decode jdk_42_method_150_code 89 = .ok (.iconst 1, 1) := by decide +kernel
theorem own_d_jdk_42_method_150_code_90 : decode jdk_42_method_150_code 90 = .ok (.ishl, 1) := by decide +kernel
theorem own_d_jdk_42_method_150_code_91 : decode jdk_42_method_150_code 91 = .ok (.invokestatic 54, 3) := by decide +kernel
theorem own_d_jdk_42_method_150_code_94 : decode jdk_42_method_150_code 94 = .ok (.putfield 9, 3) := by decide +kernel
theorem own_d_jdk_42_method_150_code_97 : decode jdk_42_method_150_code 97 = .ok (.return_, 1) := by decide +kernel
theorem own_pd30 : parseMethodDescriptor "(Ljava/lang/AbstractStringBuilder;Ljava/lang/Void;)V" = some ⟨[(.object "java/lang/AbstractStringBuilder"), (.object "java/lang/Void")], none⟩ := by decide +kernel
abbrev own_rm_own_svL : Room := ({ frames := 3, cells := 1, slots := 16, locals := 71 } : Room)
set_option maxRecDepth 65536 in
set_option maxHeartbeats 40000000 in
theorem own_svL (l : Launch) (Z : State) (a0 : Array Value) (hw : ∀ d ∈ tables_1, d.before a0 Z = true) (s1 : Addr) (a1 b1 : Addr) (n1 : Int32) (cs_ : List Int32) (pad : List Value) (h0 : Heap) (n0 : Nat) (Z0 : n0 ≤ h0.size) (gs1 : n0 ≤ s1) (AS : Exa Z h0 s1 "java/lang/String") (FS1 : Fld Z h0 s1 "java/lang/String" "coder" "B" (.int (0 : Int32))) (FS2 : Fld Z h0 s1 "java/lang/String" "value" "[B" .null) (ge1 : n0 ≤ a1) (gb1 : n0 ≤ b1) (A1 : Exa Z h0 a1 "java/lang/StringBuilder") (F1 : Fld Z h0 a1 "java/lang/AbstractStringBuilder" "count" "I" (.int n1)) (F2 : Fld Z h0 a1 "java/lang/AbstractStringBuilder" "coder" "B" (.int (0 : Int32))) (F3 : Fld Z h0 a1 "java/lang/AbstractStringBuilder" "value" "[B" (.ref b1)) (F4 : Fld Z h0 a1 "java/lang/AbstractStringBuilder" "maybeLatin1" "Z" (.int (0 : Int32))) (V1 : own_Vec Z h0 b1 .byte (own_l8 cs_ ++ pad)) (hvl : (own_l8 cs_ ++ pad).length = 16) (hpf : pad.all (fits .byte) = true) (f_n1 : own_I 16 ((cs_.length : Nat) : Int) n1) (N1 : a1 ≠ b1) (hl : own_lat cs_ = true) (h10 : cs_.length ≤ 10) (NS1 : s1 ≠ a1) (NS2 : s1 ≠ b1) (cs : Int32) (fm dv : Value) (G0 : own_Gs Z h0 cs fm dv) (hcs : ¬ cs = 0) (hfm : fm.isRef = true) (hdv : dv.isRef = true) :
    own_Met l Z ({ cls := "java/lang/String", name := "<init>", desc := "(Ljava/lang/AbstractStringBuilder;Ljava/lang/Void;)V" } : Jvm.MethodName) jdk_42_method_150_code 5 none [] own_rm_own_svL #[(.ref s1), (.ref a1), .null] h0 n0 (fun v h => v = none ∧ own_Str Z h s1 cs_ ∧ Keep h0 h [s1]) := by
  have ww := fun (i : Nat) {d : Jvm.Cond} (q : tables_1[i]? = some d) => hw d (List.mem_of_getElem? q)
  refine own_meet (plainFor_of_name own_pn1) Z0 (Ls0 := #[oA s1, oA a1, .val .null, oU, oU]) (by intro m; first | (simp [entryFrame, mkF, argsToLocals, Value.category]; done) | rfl) ?_
  intro p e s m below meth c T0 X0
  have K0 := Keep.refl h0 [s1]
  refine own_aloadN X0 rfl rfl own_d_jdk_42_method_150_code_0 (pc' := 1) rfl ?_
  refine own_initO X0 (ww 16 rfl) (ww 17 rfl) (ww 18 rfl) rfl (by decide) (W := 0) (Nat.le_of_eq rfl) (by decide) own_d_jdk_42_method_150_code_1 (pc' := 4) rfl fun T462 X462 => ?_
  refine own_aloadN X462 rfl rfl own_d_jdk_42_method_150_code_4 (pc' := 5) rfl ?_
  refine own_virtual X462 (own_gv l Z a0 hw a1 b1 _ n0 X462.le A1 F3) (C := "java/lang/StringBuilder") rfl (ww 187 rfl) (ww 188 rfl) (ww 190 rfl) (ww 189 rfl) (ww 118 rfl) (ww 191 rfl) (by decide) rfl (by decide) (W := 0) (Nat.le_of_eq rfl) (by decide) (cells' := 0) (slots' := 0) rfl rfl (by decide) (by decide) A1 (argsL := []) (rest := []) (lenOf own_pd29 rfl) rfl rfl own_d_jdk_42_method_150_code_5 (pc' := 8) rfl ?_
  rintro _ T463 h463 X463 ⟨rfl, e463⟩
  subst e463
  show own_Goal p e below _ T463 (mkF m 8 #[oA s1, oA a1, .val .null, oU, oU] [(.ref b1)])
  refine own_astoreN X463 (Ls' := #[oA s1, oA a1, .val .null, oA b1, oU]) rfl rfl own_d_jdk_42_method_150_code_8 (pc' := 9) rfl ?_
  refine own_aloadN X463 rfl rfl own_d_jdk_42_method_150_code_9 (pc' := 10) rfl ?_
  refine own_virtual2 X463 (own_bl l Z a0 hw a1 n1 _ n0 X463.le A1 F1) (ww 192 rfl) (ww 193 rfl) (ww 195 rfl) (ww 151 rfl) rfl (ww 196 rfl) (ww 110 rfl) (ww 197 rfl) (by decide) rfl (by decide) (W := 0) (Nat.le_of_eq rfl) (by decide) (cells' := 0) (slots' := 0) rfl rfl (by decide) (by decide) A1 (argsL := []) (rest := []) (lenOf own_pd12 rfl) rfl rfl own_d_jdk_42_method_150_code_10 (pc' := 13) rfl ?_
  rintro _ T464 h464 X464 ⟨rfl, e464⟩
  subst e464
  show own_Goal p e below _ T464 (mkF m 13 #[oA s1, oA a1, .val .null, oA b1, oU] [(.int n1)])
  refine own_istore X464 (Ls' := #[oA s1, oA a1, .val .null, oA b1, oI n1]) rfl own_d_jdk_42_method_150_code_13 (pc' := 15) rfl ?_
  refine own_aloadN X464 rfl rfl own_d_jdk_42_method_150_code_15 (pc' := 16) rfl ?_
  refine own_virtual X464 (own_islL l Z a0 hw a1 _ n0 X464.le F2 cs fm dv G0 hcs hfm hdv) (C := "java/lang/StringBuilder") rfl (ww 200 rfl) (ww 201 rfl) (ww 203 rfl) (ww 202 rfl) (ww 118 rfl) (ww 204 rfl) (by decide) rfl (by decide) (W := 0) (Nat.le_of_eq rfl) (by decide) (cells' := 0) (slots' := 0) rfl rfl (by decide) (by decide) A1 (argsL := []) (rest := []) (lenOf own_pd14 rfl) rfl rfl own_d_jdk_42_method_150_code_16 (pc' := 19) rfl ?_
  rintro _ T465 h465 X465 ⟨rfl, e465⟩
  subst e465
  show own_Goal p e below _ T465 (mkF m 19 #[oA s1, oA a1, .val .null, oA b1, oI n1] [(.int (1 : Int32))])
  refine own_ifF X465 (by decide) own_d_jdk_42_method_150_code_19 (pc' := 22) rfl ?_
  refine own_aloadN X465 rfl rfl own_d_jdk_42_method_150_code_22 (pc' := 23) rfl ?_
  refine own_iconst X465 (v := (0 : Int32)) (by decide) own_d_jdk_42_method_150_code_23 (pc' := 24) rfl ?_
  refine own_putF X465 (ww 31 rfl) FS1 AS (Or.inr ⟨(ww 32 rfl), rfl, rfl⟩) (ww 6 rfl) (ty := .byte) (by decide) rfl rfl gs1 own_d_jdk_42_method_150_code_24 (pc' := 27) rfl fun T466 h466 X466 W466 => ?_
  have A467 := AS.wr W466
  have A468 := A1.wr W466
  have F469 := F1.other W466 (Or.inl NS1.symm)
  have F470 := F2.other W466 (Or.inl NS1.symm)
  have F471 := F3.other W466 (Or.inl NS1.symm)
  have F472 := F4.other W466 (Or.inl NS1.symm)
  have V473 := V1.other W466 NS2.symm
  have S474 := G0.wr W466
  have K475 := K0.wr W466 (Or.inl (by simp))
  have F476 := FS1.same W466
  have F477 := FS2.other W466 (Or.inr (slot_ne (C := "java/lang/String") (Or.inr (ww 34 rfl)) (Or.inr (ww 32 rfl)) (by decide) (t := (.array .byte)) (t' := .byte) (by decide) (by decide)))
  refine own_aloadN X466 rfl rfl own_d_jdk_42_method_150_code_27 (pc' := 28) rfl ?_
  refine own_aloadN X466 rfl rfl own_d_jdk_42_method_150_code_28 (pc' := 29) rfl ?_
  refine own_iconst X466 (v := (0 : Int32)) (by decide) own_d_jdk_42_method_150_code_29 (pc' := 30) rfl ?_
  refine own_iload X466 rfl own_d_jdk_42_method_150_code_30 (pc' := 32) rfl ?_
  refine own_callS X466 (own_crL l Z a0 hw b1 n1 (own_l8 cs_) pad _ n0 X466.le V473 hvl (own_all_app (own_fit_l8 cs_) hpf) (f_n1.re (by simp [own_l8_len, own_u16_len]) (by simp [own_l8_len, own_u16_len]; omega)) (by simp [own_l8_len, own_u16_len]; omega)) (ww 205 rfl) (ww 206 rfl) (ww 207 rfl) (ww 208 rfl) (by decide) rfl (by decide) (W := 1) (Nat.le_of_eq rfl) (by decide) (cells' := 1) (slots' := 16) rfl rfl (by decide) (by decide) (argsL := [(.ref b1), (.int (0 : Int32)), (.int n1)]) (rest := [(.ref s1)]) (lenOf own_pd28 rfl) rfl rfl own_d_jdk_42_method_150_code_32 (pc' := 35) rfl ?_
  rintro _ T478 h478 X478 ⟨b478_, rfl, V478, sz478, K478⟩
  have S479 := S474.keep K478 own_ns0
  have A480 := A467.keep K478
  have F481 := F476.keep K478 nin0
  have F482 := F477.keep K478 nin0
  have K483 := K475.trans K478 own_mem0
  have ne478 : s1 ≠ b478_ := own_ne_newE A467 sz478
  show own_Goal p e below _ T478 (mkF m 35 #[oA s1, oA a1, .val .null, oA b1, oI n1] [(.ref b478_), (.ref s1)])
  refine own_putF X478 (ww 33 rfl) F482 A480 (Or.inr ⟨(ww 34 rfl), rfl, rfl⟩) (ww 6 rfl) (ty := (.array .byte)) (by decide) rfl rfl gs1 own_d_jdk_42_method_150_code_35 (pc' := 38) rfl fun T484 h484 X484 W484 => ?_
  have A485 := A480.wr W484
  have V486 := V478.other W484 ne478.symm
  have S487 := S479.wr W484
  have K488 := K483.wr W484 (Or.inl (by simp))
  have F489 := F482.same W484
  have F490 := F481.other W484 (Or.inr (slot_ne (C := "java/lang/String") (Or.inr (ww 32 rfl)) (Or.inr (ww 34 rfl)) (by decide) (t := .byte) (t' := (.array .byte)) (by decide) (by decide)))
  refine own_goto X484 own_d_jdk_42_method_150_code_38 (pc' := 97) (by decide) (by decide) ?_
  exact own_retV X484  own_d_jdk_42_method_150_code_97 rfl (by decide) (by decide) ⟨rfl, ⟨A485, (by unfold own_cod; rw [hl]; exact F490), _, F489, V486.eq (by unfold own_enc; rw [hl]; rfl)⟩, K488⟩
abbrev own_rm_own_svU : Room := ({ frames := 3, cells := 1, slots := 32, locals := 71 } : Room)
set_option maxRecDepth 65536 in
set_option maxHeartbeats 40000000 in
theorem own_svU (l : Launch) (Z : State) (a0 : Array Value) (hw : ∀ d ∈ tables_1, d.before a0 Z = true) (s1 : Addr) (a1 b1 : Addr) (n1 : Int32) (cs_ : List Int32) (pad : List Value) (h0 : Heap) (n0 : Nat) (Z0 : n0 ≤ h0.size) (gs1 : n0 ≤ s1) (AS : Exa Z h0 s1 "java/lang/String") (FS1 : Fld Z h0 s1 "java/lang/String" "coder" "B" (.int (0 : Int32))) (FS2 : Fld Z h0 s1 "java/lang/String" "value" "[B" .null) (ge1 : n0 ≤ a1) (gb1 : n0 ≤ b1) (A1 : Exa Z h0 a1 "java/lang/StringBuilder") (F1 : Fld Z h0 a1 "java/lang/AbstractStringBuilder" "count" "I" (.int n1)) (F2 : Fld Z h0 a1 "java/lang/AbstractStringBuilder" "coder" "B" (.int (1 : Int32))) (F3 : Fld Z h0 a1 "java/lang/AbstractStringBuilder" "value" "[B" (.ref b1)) (F4 : Fld Z h0 a1 "java/lang/AbstractStringBuilder" "maybeLatin1" "Z" (.int (0 : Int32))) (V1 : own_Vec Z h0 b1 .byte (own_u16 cs_ ++ pad)) (hvl : (own_u16 cs_ ++ pad).length = 32) (hpf : pad.all (fits .byte) = true) (f_n1 : own_I 16 ((cs_.length : Nat) : Int) n1) (N1 : a1 ≠ b1) (hl : own_lat cs_ = false) (h10 : cs_.length ≤ 10) (NS1 : s1 ≠ a1) (NS2 : s1 ≠ b1) (cs : Int32) (fm dv : Value) (G0 : own_Gs Z h0 cs fm dv) (hcs : ¬ cs = 0) (hfm : fm.isRef = true) (hdv : dv.isRef = true) :
    own_Met l Z ({ cls := "java/lang/String", name := "<init>", desc := "(Ljava/lang/AbstractStringBuilder;Ljava/lang/Void;)V" } : Jvm.MethodName) jdk_42_method_150_code 5 none [] own_rm_own_svU #[(.ref s1), (.ref a1), .null] h0 n0 (fun v h => v = none ∧ own_Str Z h s1 cs_ ∧ Keep h0 h [s1]) := by
  have ww := fun (i : Nat) {d : Jvm.Cond} (q : tables_1[i]? = some d) => hw d (List.mem_of_getElem? q)
  refine own_meet (plainFor_of_name own_pn1) Z0 (Ls0 := #[oA s1, oA a1, .val .null, oU, oU]) (by intro m; first | (simp [entryFrame, mkF, argsToLocals, Value.category]; done) | rfl) ?_
  intro p e s m below meth c T0 X0
  have K0 := Keep.refl h0 [s1]
  refine own_aloadN X0 rfl rfl own_d_jdk_42_method_150_code_0 (pc' := 1) rfl ?_
  refine own_initO X0 (ww 16 rfl) (ww 17 rfl) (ww 18 rfl) rfl (by decide) (W := 0) (Nat.le_of_eq rfl) (by decide) own_d_jdk_42_method_150_code_1 (pc' := 4) rfl fun T491 X491 => ?_
  refine own_aloadN X491 rfl rfl own_d_jdk_42_method_150_code_4 (pc' := 5) rfl ?_
  refine own_virtual X491 (own_gv l Z a0 hw a1 b1 _ n0 X491.le A1 F3) (C := "java/lang/StringBuilder") rfl (ww 187 rfl) (ww 188 rfl) (ww 190 rfl) (ww 189 rfl) (ww 118 rfl) (ww 191 rfl) (by decide) rfl (by decide) (W := 0) (Nat.le_of_eq rfl) (by decide) (cells' := 0) (slots' := 0) rfl rfl (by decide) (by decide) A1 (argsL := []) (rest := []) (lenOf own_pd29 rfl) rfl rfl own_d_jdk_42_method_150_code_5 (pc' := 8) rfl ?_
  rintro _ T492 h492 X492 ⟨rfl, e492⟩
  subst e492
  show own_Goal p e below _ T492 (mkF m 8 #[oA s1, oA a1, .val .null, oU, oU] [(.ref b1)])
  refine own_astoreN X492 (Ls' := #[oA s1, oA a1, .val .null, oA b1, oU]) rfl rfl own_d_jdk_42_method_150_code_8 (pc' := 9) rfl ?_
  refine own_aloadN X492 rfl rfl own_d_jdk_42_method_150_code_9 (pc' := 10) rfl ?_
  refine own_virtual2 X492 (own_bl l Z a0 hw a1 n1 _ n0 X492.le A1 F1) (ww 192 rfl) (ww 193 rfl) (ww 195 rfl) (ww 151 rfl) rfl (ww 196 rfl) (ww 110 rfl) (ww 197 rfl) (by decide) rfl (by decide) (W := 0) (Nat.le_of_eq rfl) (by decide) (cells' := 0) (slots' := 0) rfl rfl (by decide) (by decide) A1 (argsL := []) (rest := []) (lenOf own_pd12 rfl) rfl rfl own_d_jdk_42_method_150_code_10 (pc' := 13) rfl ?_
  rintro _ T493 h493 X493 ⟨rfl, e493⟩
  subst e493
  show own_Goal p e below _ T493 (mkF m 13 #[oA s1, oA a1, .val .null, oA b1, oU] [(.int n1)])
  refine own_istore X493 (Ls' := #[oA s1, oA a1, .val .null, oA b1, oI n1]) rfl own_d_jdk_42_method_150_code_13 (pc' := 15) rfl ?_
  refine own_aloadN X493 rfl rfl own_d_jdk_42_method_150_code_15 (pc' := 16) rfl ?_
  refine own_virtual X493 (own_islU l Z a0 hw a1 _ n0 X493.le F2 cs fm dv G0 hcs hfm hdv) (C := "java/lang/StringBuilder") rfl (ww 200 rfl) (ww 201 rfl) (ww 203 rfl) (ww 202 rfl) (ww 118 rfl) (ww 204 rfl) (by decide) rfl (by decide) (W := 0) (Nat.le_of_eq rfl) (by decide) (cells' := 0) (slots' := 0) rfl rfl (by decide) (by decide) A1 (argsL := []) (rest := []) (lenOf own_pd14 rfl) rfl rfl own_d_jdk_42_method_150_code_16 (pc' := 19) rfl ?_
  rintro _ T494 h494 X494 ⟨rfl, e494⟩
  subst e494
  show own_Goal p e below _ T494 (mkF m 19 #[oA s1, oA a1, .val .null, oA b1, oI n1] [(.int (0 : Int32))])
  refine own_ifT X494 (by decide) own_d_jdk_42_method_150_code_19 (pc' := 41) (by decide) (by decide) ?_
  refine own_getS X494 (ww 19 rfl) G0.1 own_d_jdk_42_method_150_code_41 (pc' := 44) rfl fun T495 X495 => ?_
  have c496 : ¬ (cs = 0) := hcs
  refine own_ifF X495 (own_z_ne c496).1 own_d_jdk_42_method_150_code_44 (pc' := 47) rfl ?_
  refine own_aloadN X495 rfl rfl own_d_jdk_42_method_150_code_47 (pc' := 48) rfl ?_
  refine own_getF X495 (ww 336 rfl) F4 own_d_jdk_42_method_150_code_48 (pc' := 51) rfl fun T497 X497 => ?_
  refine own_ifT X497 (by decide) own_d_jdk_42_method_150_code_51 (pc' := 79) (by decide) (by decide) ?_
  refine own_aloadN X497 rfl rfl own_d_jdk_42_method_150_code_79 (pc' := 80) rfl ?_
  refine own_iconst X497 (v := (1 : Int32)) (by decide) own_d_jdk_42_method_150_code_80 (pc' := 81) rfl ?_
  refine own_putF X497 (ww 31 rfl) FS1 AS (Or.inr ⟨(ww 32 rfl), rfl, rfl⟩) (ww 6 rfl) (ty := .byte) (by decide) rfl rfl gs1 own_d_jdk_42_method_150_code_81 (pc' := 84) rfl fun T498 h498 X498 W498 => ?_
  have A499 := AS.wr W498
  have A500 := A1.wr W498
  have F501 := F1.other W498 (Or.inl NS1.symm)
  have F502 := F2.other W498 (Or.inl NS1.symm)
  have F503 := F3.other W498 (Or.inl NS1.symm)
  have F504 := F4.other W498 (Or.inl NS1.symm)
  have V505 := V1.other W498 NS2.symm
  have S506 := G0.wr W498
  have K507 := K0.wr W498 (Or.inl (by simp))
  have F508 := FS1.same W498
  have F509 := FS2.other W498 (Or.inr (slot_ne (C := "java/lang/String") (Or.inr (ww 34 rfl)) (Or.inr (ww 32 rfl)) (by decide) (t := (.array .byte)) (t' := .byte) (by decide) (by decide)))
  refine own_aloadN X498 rfl rfl own_d_jdk_42_method_150_code_84 (pc' := 85) rfl ?_
  refine own_aloadN X498 rfl rfl own_d_jdk_42_method_150_code_85 (pc' := 86) rfl ?_
  refine own_iconst X498 (v := (0 : Int32)) (by decide) own_d_jdk_42_method_150_code_86 (pc' := 87) rfl ?_
  refine own_iload X498 rfl own_d_jdk_42_method_150_code_87 (pc' := 89) rfl ?_
  refine own_iconst X498 (v := (1 : Int32)) (by decide) own_d_jdk_42_method_150_code_89 (pc' := 90) rfl ?_
  obtain ⟨i510, e510⟩ : ∃ v, n1 <<< ((1 : Int32) &&& 31) = v := ⟨_, rfl⟩
  refine own_ishl X498 e510 own_d_jdk_42_method_150_code_90 (pc' := 91) rfl ?_
  have f510 := own_I.shl1 (C := 32) f_n1 e510 (by decide) (by decide)
  refine own_callS X498 (own_crU l Z a0 hw b1 i510 (own_u16 cs_) pad _ n0 X498.le V505 hvl (own_all_app (own_fit_u16 cs_) hpf) (f510.re (by simp [own_l8_len, own_u16_len]) (by simp [own_l8_len, own_u16_len]; omega)) (by simp [own_l8_len, own_u16_len]; omega)) (ww 205 rfl) (ww 206 rfl) (ww 207 rfl) (ww 208 rfl) (by decide) rfl (by decide) (W := 1) (Nat.le_of_eq rfl) (by decide) (cells' := 1) (slots' := 32) rfl rfl (by decide) (by decide) (argsL := [(.ref b1), (.int (0 : Int32)), (.int i510)]) (rest := [(.ref s1)]) (lenOf own_pd28 rfl) rfl rfl own_d_jdk_42_method_150_code_91 (pc' := 94) rfl ?_
  rintro _ T511 h511 X511 ⟨b511_, rfl, V511, sz511, K511⟩
  have S512 := S506.keep K511 own_ns0
  have A513 := A499.keep K511
  have F514 := F508.keep K511 nin0
  have F515 := F509.keep K511 nin0
  have K516 := K507.trans K511 own_mem0
  have ne511 : s1 ≠ b511_ := own_ne_newE A499 sz511
  show own_Goal p e below _ T511 (mkF m 94 #[oA s1, oA a1, .val .null, oA b1, oI n1] [(.ref b511_), (.ref s1)])
  refine own_putF X511 (ww 33 rfl) F515 A513 (Or.inr ⟨(ww 34 rfl), rfl, rfl⟩) (ww 6 rfl) (ty := (.array .byte)) (by decide) rfl rfl gs1 own_d_jdk_42_method_150_code_94 (pc' := 97) rfl fun T517 h517 X517 W517 => ?_
  have A518 := A513.wr W517
  have V519 := V511.other W517 ne511.symm
  have S520 := S512.wr W517
  have K521 := K516.wr W517 (Or.inl (by simp))
  have F522 := F515.same W517
  have F523 := F514.other W517 (Or.inr (slot_ne (C := "java/lang/String") (Or.inr (ww 32 rfl)) (Or.inr (ww 34 rfl)) (by decide) (t := .byte) (t' := (.array .byte)) (by decide) (by decide)))
  exact own_retV X517  own_d_jdk_42_method_150_code_97 rfl (by decide) (by decide) ⟨rfl, ⟨A518, (by unfold own_cod; rw [hl]; exact F523), _, F522, V519.eq (by unfold own_enc; rw [hl]; rfl)⟩, K521⟩
theorem own_d_jdk_42_method_53_code_0 : decode jdk_42_method_53_code 0 = .ok (.aload_n 0, 1) := by decide +kernel
theorem own_d_jdk_42_method_53_code_1 : decode jdk_42_method_53_code 1 = .ok (.aload_n 1, 1) := by decide +kernel
theorem own_d_jdk_42_method_53_code_2 : decode jdk_42_method_53_code 2 = .ok (.aconst_null, 1) := by decide +kernel
theorem own_d_jdk_42_method_53_code_3 : decode jdk_42_method_53_code 3 = .ok (.invokespecial 489, 3) := by decide +kernel
theorem own_d_jdk_42_method_53_code_6 : decode jdk_42_method_53_code 6 = .ok (.return_, 1) := by decide +kernel
theorem own_pd31 : parseMethodDescriptor "(Ljava/lang/StringBuilder;)V" = some ⟨[(.object "java/lang/StringBuilder")], none⟩ := by decide +kernel
abbrev own_rm_own_ssbL : Room := ({ frames := 4, cells := 1, slots := 16, locals := 87 } : Room)
set_option maxRecDepth 65536 in
set_option maxHeartbeats 40000000 in
theorem own_ssbL (l : Launch) (Z : State) (a0 : Array Value) (hw : ∀ d ∈ tables_1, d.before a0 Z = true) (s1 : Addr) (a1 b1 : Addr) (n1 : Int32) (cs_ : List Int32) (pad : List Value) (h0 : Heap) (n0 : Nat) (Z0 : n0 ≤ h0.size) (gs1 : n0 ≤ s1) (AS : Exa Z h0 s1 "java/lang/String") (FS1 : Fld Z h0 s1 "java/lang/String" "coder" "B" (.int (0 : Int32))) (FS2 : Fld Z h0 s1 "java/lang/String" "value" "[B" .null) (ge1 : n0 ≤ a1) (gb1 : n0 ≤ b1) (A1 : Exa Z h0 a1 "java/lang/StringBuilder") (F1 : Fld Z h0 a1 "java/lang/AbstractStringBuilder" "count" "I" (.int n1)) (F2 : Fld Z h0 a1 "java/lang/AbstractStringBuilder" "coder" "B" (.int (0 : Int32))) (F3 : Fld Z h0 a1 "java/lang/AbstractStringBuilder" "value" "[B" (.ref b1)) (F4 : Fld Z h0 a1 "java/lang/AbstractStringBuilder" "maybeLatin1" "Z" (.int (0 : Int32))) (V1 : own_Vec Z h0 b1 .byte (own_l8 cs_ ++ pad)) (hvl : (own_l8 cs_ ++ pad).length = 16) (hpf : pad.all (fits .byte) = true) (f_n1 : own_I 16 ((cs_.length : Nat) : Int) n1) (N1 : a1 ≠ b1) (hl : own_lat cs_ = true) (h10 : cs_.length ≤ 10) (NS1 : s1 ≠ a1) (NS2 : s1 ≠ b1) (cs : Int32) (fm dv : Value) (G0 : own_Gs Z h0 cs fm dv) (hcs : ¬ cs = 0) (hfm : fm.isRef = true) (hdv : dv.isRef = true) :
    own_Met l Z ({ cls := "java/lang/String", name := "<init>", desc := "(Ljava/lang/StringBuilder;)V" } : Jvm.MethodName) jdk_42_method_53_code 2 none [] own_rm_own_ssbL #[(.ref s1), (.ref a1)] h0 n0 (fun v h => v = none ∧ own_Str Z h s1 cs_ ∧ Keep h0 h [s1]) := by
  have ww := fun (i : Nat) {d : Jvm.Cond} (q : tables_1[i]? = some d) => hw d (List.mem_of_getElem? q)
  refine own_meet (plainFor_of_name own_pn1) Z0 (Ls0 := #[oA s1, oA a1]) (by intro m; first | (simp [entryFrame, mkF, argsToLocals, Value.category]; done) | rfl) ?_
  intro p e s m below meth c T0 X0
  refine own_aloadN X0 rfl rfl own_d_jdk_42_method_53_code_0 (pc' := 1) rfl ?_
  refine own_aloadN X0 rfl rfl own_d_jdk_42_method_53_code_1 (pc' := 2) rfl ?_
  refine own_aconst_null X0  own_d_jdk_42_method_53_code_2 (pc' := 3) rfl ?_
  refine own_special X0 (own_svL l Z a0 hw s1 a1 b1 n1 cs_ pad _ n0 X0.le gs1 AS FS1 FS2 ge1 gb1 A1 F1 F2 F3 F4 V1 hvl hpf f_n1 N1 hl h10 NS1 NS2 cs fm dv G0 hcs hfm hdv) rfl rfl (ww 184 rfl) (ww 185 rfl) (ww 7 rfl) (ww 186 rfl) (by decide) rfl (by decide) (W := 0) (Nat.le_of_eq rfl) (by decide) (cells' := 1) (slots' := 16) rfl rfl (by decide) (by decide) (argsL := [(.ref a1), .null]) (rest := []) (lenOf own_pd30 rfl) rfl rfl own_d_jdk_42_method_53_code_3 (pc' := 6) rfl ?_
  rintro _ T524 h524 X524 ⟨rfl, D524, K524⟩
  show own_Goal p e below _ T524 (mkF m 6 #[oA s1, oA a1] [])
  exact own_retV X524  own_d_jdk_42_method_53_code_6 rfl (by decide) (by decide) ⟨rfl, D524, K524⟩
abbrev own_rm_own_tsL : Room := ({ frames := 8, cells := 2, slots := 40, locals := 110 } : Room)
theorem own_d_jdk_67_method_42_code_0 : decode jdk_67_method_42_code 0 = .ok (.new 18, 3) := by decide +kernel
theorem own_d_jdk_67_method_42_code_3 : decode jdk_67_method_42_code 3 = .ok (.dup, 1) := by decide +kernel
theorem own_d_jdk_67_method_42_code_4 : decode jdk_67_method_42_code 4 = .ok (.aload_n 0, 1) := by decide +kernel
theorem own_d_jdk_67_method_42_code_5 : decode jdk_67_method_42_code 5 = .ok (.invokespecial 137, 3) := by decide +kernel
theorem own_d_jdk_67_method_42_code_8 : decode jdk_67_method_42_code 8 = .ok (.areturn, 1) := by decide +kernel
theorem own_pd32 : parseMethodDescriptor "()Ljava/lang/String;" = some ⟨[], some (.object "java/lang/String")⟩ := by decide +kernel
set_option maxRecDepth 65536 in
set_option maxHeartbeats 40000000 in
theorem own_tsL (l : Launch) (Z : State) (a0 : Array Value) (hw : ∀ d ∈ tables_1, d.before a0 Z = true) (a1 b1 : Addr) (n1 : Int32) (cs_ : List Int32) (pad : List Value) (h0 : Heap) (n0 : Nat) (Z0 : n0 ≤ h0.size) (ge1 : n0 ≤ a1) (gb1 : n0 ≤ b1) (A1 : Exa Z h0 a1 "java/lang/StringBuilder") (F1 : Fld Z h0 a1 "java/lang/AbstractStringBuilder" "count" "I" (.int n1)) (F2 : Fld Z h0 a1 "java/lang/AbstractStringBuilder" "coder" "B" (.int (0 : Int32))) (F3 : Fld Z h0 a1 "java/lang/AbstractStringBuilder" "value" "[B" (.ref b1)) (F4 : Fld Z h0 a1 "java/lang/AbstractStringBuilder" "maybeLatin1" "Z" (.int (0 : Int32))) (V1 : own_Vec Z h0 b1 .byte (own_l8 cs_ ++ pad)) (hvl : (own_l8 cs_ ++ pad).length = 16) (hpf : pad.all (fits .byte) = true) (f_n1 : own_I 16 ((cs_.length : Nat) : Int) n1) (N1 : a1 ≠ b1) (hl : own_lat cs_ = true) (h10 : cs_.length ≤ 10) (cs : Int32) (fm dv : Value) (G0 : own_Gs Z h0 cs fm dv) (hcs : ¬ cs = 0) (hfm : fm.isRef = true) (hdv : dv.isRef = true) :
    own_Met l Z ({ cls := "java/lang/StringBuilder", name := "toString", desc := "()Ljava/lang/String;" } : Jvm.MethodName) jdk_67_method_42_code 1 (some (.object "java/lang/String")) [] own_rm_own_tsL #[(.ref a1)] h0 n0 (fun v h => ∃ r, v = some (.ref r) ∧ h0.size ≤ r ∧ own_Str Z h r cs_ ∧ Keep h0 h []) := by
  have ww := fun (i : Nat) {d : Jvm.Cond} (q : tables_1[i]? = some d) => hw d (List.mem_of_getElem? q)
  refine own_meet (plainFor_of_name own_pn5) Z0 (Ls0 := #[oA a1]) (by intro m; first | (simp [entryFrame, mkF, argsToLocals, Value.category]; done) | rfl) ?_
  intro p e s m below meth c T0 X0
  have K0 := Keep.refl h0 []
  refine own_new X0 (ww 180 rfl) (ww 6 rfl) (ww 7 rfl) (cells' := 1) (slots' := 4) rfl rfl (by decide) (by decide) own_d_jdk_67_method_42_code_0 (pc' := 3) rfl fun a525 T525 h525 g525 ge525 X525 E525 A525 D525 => ?_
  have ne526 : a1 ≠ a525 := own_lt_ne A1.lt g525
  have ne527 : b1 ≠ a525 := own_lt_ne V1.lt g525
  have sz528 := own_ge K0 g525
  have A529 := A1.ext E525
  have F530 := F1.ext E525
  have F531 := F2.ext E525
  have F532 := F3.ext E525
  have F533 := F4.ext E525
  have V534 := V1.ext E525
  have S535 := G0.ext E525
  have K536 := K0.ext E525
  have F537 : Fld Z h525 a525 "java/lang/String" "coder" "B" (.int (0 : Int32)) := D525 (Or.inr (ww 32 rfl)) (ty := .byte) (by decide)
  have F538 : Fld Z h525 a525 "java/lang/String" "value" "[B" .null := D525 (Or.inr (ww 34 rfl)) (ty := (.array .byte)) (by decide)
  refine own_dup X525 rfl own_d_jdk_67_method_42_code_3 (pc' := 4) rfl ?_
  refine own_aloadN X525 rfl rfl own_d_jdk_67_method_42_code_4 (pc' := 5) rfl ?_
  refine own_special X525 (own_ssbL l Z a0 hw a525 a1 b1 n1 cs_ pad _ n0 X525.le ge525 A525 F537 F538 ge1 gb1 A529 F530 F531 F532 F533 V534 hvl hpf f_n1 N1 hl h10 ne526.symm ne527.symm cs fm dv S535 hcs hfm hdv) rfl rfl (ww 181 rfl) (ww 182 rfl) (ww 7 rfl) (ww 183 rfl) (by decide) rfl (by decide) (W := 1) (Nat.le_of_eq rfl) (by decide) (cells' := 2) (slots' := 20) rfl rfl (by decide) (by decide) (argsL := [(.ref a1)]) (rest := [(.ref a525)]) (lenOf own_pd31 rfl) rfl rfl own_d_jdk_67_method_42_code_5 (pc' := 8) rfl ?_
  rintro _ T539 h539 X539 ⟨rfl, D539, K539⟩
  have K540 := K536.trans K539 (own_mem1 (Or.inr sz528))
  show own_Goal p e below _ T539 (mkF m 8 #[oA a1] [(.ref a525)])
  exact own_retA X539 (t := (.object "java/lang/String")) rfl own_d_jdk_67_method_42_code_8 rfl (by decide) (by decide) ⟨_, rfl, sz528, D539, K540⟩
abbrev own_rm_own_ssbU : Room := ({ frames := 4, cells := 1, slots := 32, locals := 87 } : Room)
set_option maxRecDepth 65536 in
set_option maxHeartbeats 40000000 in
theorem own_ssbU (l : Launch) (Z : State) (a0 : Array Value) (hw : ∀ d ∈ tables_1, d.before a0 Z = true) (s1 : Addr) (a1 b1 : Addr) (n1 : Int32) (cs_ : List Int32) (pad : List Value) (h0 : Heap) (n0 : Nat) (Z0 : n0 ≤ h0.size) (gs1 : n0 ≤ s1) (AS : Exa Z h0 s1 "java/lang/String") (FS1 : Fld Z h0 s1 "java/lang/String" "coder" "B" (.int (0 : Int32))) (FS2 : Fld Z h0 s1 "java/lang/String" "value" "[B" .null) (ge1 : n0 ≤ a1) (gb1 : n0 ≤ b1) (A1 : Exa Z h0 a1 "java/lang/StringBuilder") (F1 : Fld Z h0 a1 "java/lang/AbstractStringBuilder" "count" "I" (.int n1)) (F2 : Fld Z h0 a1 "java/lang/AbstractStringBuilder" "coder" "B" (.int (1 : Int32))) (F3 : Fld Z h0 a1 "java/lang/AbstractStringBuilder" "value" "[B" (.ref b1)) (F4 : Fld Z h0 a1 "java/lang/AbstractStringBuilder" "maybeLatin1" "Z" (.int (0 : Int32))) (V1 : own_Vec Z h0 b1 .byte (own_u16 cs_ ++ pad)) (hvl : (own_u16 cs_ ++ pad).length = 32) (hpf : pad.all (fits .byte) = true) (f_n1 : own_I 16 ((cs_.length : Nat) : Int) n1) (N1 : a1 ≠ b1) (hl : own_lat cs_ = false) (h10 : cs_.length ≤ 10) (NS1 : s1 ≠ a1) (NS2 : s1 ≠ b1) (cs : Int32) (fm dv : Value) (G0 : own_Gs Z h0 cs fm dv) (hcs : ¬ cs = 0) (hfm : fm.isRef = true) (hdv : dv.isRef = true) :
    own_Met l Z ({ cls := "java/lang/String", name := "<init>", desc := "(Ljava/lang/StringBuilder;)V" } : Jvm.MethodName) jdk_42_method_53_code 2 none [] own_rm_own_ssbU #[(.ref s1), (.ref a1)] h0 n0 (fun v h => v = none ∧ own_Str Z h s1 cs_ ∧ Keep h0 h [s1]) := by
  have ww := fun (i : Nat) {d : Jvm.Cond} (q : tables_1[i]? = some d) => hw d (List.mem_of_getElem? q)
  refine own_meet (plainFor_of_name own_pn1) Z0 (Ls0 := #[oA s1, oA a1]) (by intro m; first | (simp [entryFrame, mkF, argsToLocals, Value.category]; done) | rfl) ?_
  intro p e s m below meth c T0 X0
  refine own_aloadN X0 rfl rfl own_d_jdk_42_method_53_code_0 (pc' := 1) rfl ?_
  refine own_aloadN X0 rfl rfl own_d_jdk_42_method_53_code_1 (pc' := 2) rfl ?_
  refine own_aconst_null X0  own_d_jdk_42_method_53_code_2 (pc' := 3) rfl ?_
  refine own_special X0 (own_svU l Z a0 hw s1 a1 b1 n1 cs_ pad _ n0 X0.le gs1 AS FS1 FS2 ge1 gb1 A1 F1 F2 F3 F4 V1 hvl hpf f_n1 N1 hl h10 NS1 NS2 cs fm dv G0 hcs hfm hdv) rfl rfl (ww 184 rfl) (ww 185 rfl) (ww 7 rfl) (ww 186 rfl) (by decide) rfl (by decide) (W := 0) (Nat.le_of_eq rfl) (by decide) (cells' := 1) (slots' := 32) rfl rfl (by decide) (by decide) (argsL := [(.ref a1), .null]) (rest := []) (lenOf own_pd30 rfl) rfl rfl own_d_jdk_42_method_53_code_3 (pc' := 6) rfl ?_
  rintro _ T541 h541 X541 ⟨rfl, D541, K541⟩
  show own_Goal p e below _ T541 (mkF m 6 #[oA s1, oA a1] [])
  exact own_retV X541  own_d_jdk_42_method_53_code_6 rfl (by decide) (by decide) ⟨rfl, D541, K541⟩
abbrev own_rm_own_tsU : Room := ({ frames := 8, cells := 2, slots := 40, locals := 110 } : Room)
set_option maxRecDepth 65536 in
set_option maxHeartbeats 40000000 in
theorem own_tsU (l : Launch) (Z : State) (a0 : Array Value) (hw : ∀ d ∈ tables_1, d.before a0 Z = true) (a1 b1 : Addr) (n1 : Int32) (cs_ : List Int32) (pad : List Value) (h0 : Heap) (n0 : Nat) (Z0 : n0 ≤ h0.size) (ge1 : n0 ≤ a1) (gb1 : n0 ≤ b1) (A1 : Exa Z h0 a1 "java/lang/StringBuilder") (F1 : Fld Z h0 a1 "java/lang/AbstractStringBuilder" "count" "I" (.int n1)) (F2 : Fld Z h0 a1 "java/lang/AbstractStringBuilder" "coder" "B" (.int (1 : Int32))) (F3 : Fld Z h0 a1 "java/lang/AbstractStringBuilder" "value" "[B" (.ref b1)) (F4 : Fld Z h0 a1 "java/lang/AbstractStringBuilder" "maybeLatin1" "Z" (.int (0 : Int32))) (V1 : own_Vec Z h0 b1 .byte (own_u16 cs_ ++ pad)) (hvl : (own_u16 cs_ ++ pad).length = 32) (hpf : pad.all (fits .byte) = true) (f_n1 : own_I 16 ((cs_.length : Nat) : Int) n1) (N1 : a1 ≠ b1) (hl : own_lat cs_ = false) (h10 : cs_.length ≤ 10) (cs : Int32) (fm dv : Value) (G0 : own_Gs Z h0 cs fm dv) (hcs : ¬ cs = 0) (hfm : fm.isRef = true) (hdv : dv.isRef = true) :
    own_Met l Z ({ cls := "java/lang/StringBuilder", name := "toString", desc := "()Ljava/lang/String;" } : Jvm.MethodName) jdk_67_method_42_code 1 (some (.object "java/lang/String")) [] own_rm_own_tsU #[(.ref a1)] h0 n0 (fun v h => ∃ r, v = some (.ref r) ∧ h0.size ≤ r ∧ own_Str Z h r cs_ ∧ Keep h0 h []) := by
  have ww := fun (i : Nat) {d : Jvm.Cond} (q : tables_1[i]? = some d) => hw d (List.mem_of_getElem? q)
  refine own_meet (plainFor_of_name own_pn5) Z0 (Ls0 := #[oA a1]) (by intro m; first | (simp [entryFrame, mkF, argsToLocals, Value.category]; done) | rfl) ?_
  intro p e s m below meth c T0 X0
  have K0 := Keep.refl h0 []
  refine own_new X0 (ww 180 rfl) (ww 6 rfl) (ww 7 rfl) (cells' := 1) (slots' := 4) rfl rfl (by decide) (by decide) own_d_jdk_67_method_42_code_0 (pc' := 3) rfl fun a542 T542 h542 g542 ge542 X542 E542 A542 D542 => ?_
  have ne543 : a1 ≠ a542 := own_lt_ne A1.lt g542
  have ne544 : b1 ≠ a542 := own_lt_ne V1.lt g542
  have sz545 := own_ge K0 g542
  have A546 := A1.ext E542
  have F547 := F1.ext E542
  have F548 := F2.ext E542
  have F549 := F3.ext E542
  have F550 := F4.ext E542
  have V551 := V1.ext E542
  have S552 := G0.ext E542
  have K553 := K0.ext E542
  have F554 : Fld Z h542 a542 "java/lang/String" "coder" "B" (.int (0 : Int32)) := D542 (Or.inr (ww 32 rfl)) (ty := .byte) (by decide)
  have F555 : Fld Z h542 a542 "java/lang/String" "value" "[B" .null := D542 (Or.inr (ww 34 rfl)) (ty := (.array .byte)) (by decide)
  refine own_dup X542 rfl own_d_jdk_67_method_42_code_3 (pc' := 4) rfl ?_
  refine own_aloadN X542 rfl rfl own_d_jdk_67_method_42_code_4 (pc' := 5) rfl ?_
  refine own_special X542 (own_ssbU l Z a0 hw a542 a1 b1 n1 cs_ pad _ n0 X542.le ge542 A542 F554 F555 ge1 gb1 A546 F547 F548 F549 F550 V551 hvl hpf f_n1 N1 hl h10 ne543.symm ne544.symm cs fm dv S552 hcs hfm hdv) rfl rfl (ww 181 rfl) (ww 182 rfl) (ww 7 rfl) (ww 183 rfl) (by decide) rfl (by decide) (W := 1) (Nat.le_of_eq rfl) (by decide) (cells' := 2) (slots' := 36) rfl rfl (by decide) (by decide) (argsL := [(.ref a1)]) (rest := [(.ref a542)]) (lenOf own_pd31 rfl) rfl rfl own_d_jdk_67_method_42_code_5 (pc' := 8) rfl ?_
  rintro _ T556 h556 X556 ⟨rfl, D556, K556⟩
  have K557 := K553.trans K556 (own_mem1 (Or.inr sz545))
  show own_Goal p e below _ T556 (mkF m 8 #[oA a1] [(.ref a542)])
  exact own_retA X556 (t := (.object "java/lang/String")) rfl own_d_jdk_67_method_42_code_8 rfl (by decide) (by decide) ⟨_, rfl, sz545, D556, K557⟩
set_option maxRecDepth 65536 in
set_option maxHeartbeats 40000000 in
theorem own_tos (l : Launch) (Z : State) (a0 : Array Value) (hw : ∀ d ∈ tables_1, d.before a0 Z = true) (a1 b1 : Addr) (cs_ : List Int32) (h0 : Heap) (n0 : Nat) (Z0 : n0 ≤ h0.size) (ge1 : n0 ≤ a1) (gb1 : n0 ≤ b1) (B0 : own_SB Z h0 a1 b1 (own_lat cs_) cs_) (h10 : cs_.length ≤ 10) (cs : Int32) (fm dv : Value) (G0 : own_Gs Z h0 cs fm dv) (hcs : ¬ cs = 0) (hfm : fm.isRef = true) (hdv : dv.isRef = true) :
    own_Met l Z ({ cls := "java/lang/StringBuilder", name := "toString", desc := "()Ljava/lang/String;" } : Jvm.MethodName) jdk_67_method_42_code 1 (some (.object "java/lang/String")) [] own_rm_own_tsL #[(.ref a1)] h0 n0 (fun v h => ∃ r, v = some (.ref r) ∧ h0.size ≤ r ∧ own_Str Z h r cs_ ∧ Keep h0 h []) := by
  have ww := fun (i : Nat) {d : Jvm.Cond} (q : tables_1[i]? = some d) => hw d (List.mem_of_getElem? q)
  obtain ⟨A1, ⟨n1, f_n1, F1⟩, F2, F3, F4, pad, V1, hvl, hpf⟩ := B0
  have N1 : a1 ≠ b1 := own_exavec A1 V1 (ww 109 rfl)
  cases hl : own_lat cs_ <;> simp only [hl, own_en, if_true, if_false, Bool.false_eq_true, reduceIte] at F2 V1 hvl
  · exact own_tsU l Z a0 hw a1 b1 n1 cs_ pad h0 n0 Z0 ge1 gb1 A1 F1 F2 F3 F4 V1 hvl hpf f_n1 N1 hl h10 cs fm dv G0 hcs hfm hdv
  · exact own_tsL l Z a0 hw a1 b1 n1 cs_ pad h0 n0 Z0 ge1 gb1 A1 F1 F2 F3 F4 V1 hvl hpf f_n1 N1 hl h10 cs fm dv G0 hcs hfm hdv
theorem own_d_method_3_code_0 : decode method_3_code 0 = .ok (.iload_n 2, 1) := by decide +kernel
theorem own_d_method_3_code_1 : decode method_3_code 1 = .ok (.ifCond .le 7, 3) := by decide +kernel
theorem own_d_method_3_code_4 : decode method_3_code 4 = .ok (.aload_n 0, 1) := by decide +kernel
theorem own_d_method_3_code_5 : decode method_3_code 5 = .ok (.iload_n 1, 1) := by decide +kernel
theorem own_d_method_3_code_6 : decode method_3_code 6 = .ok (.iload_n 3, 1) := by decide +kernel
theorem own_d_method_3_code_7 : decode method_3_code 7 = .ok (.castore, 1) := by decide +kernel
theorem own_d_method_3_code_8 : decode method_3_code 8 = .ok (.iload_n 2, 1) := by decide +kernel
theorem own_d_method_3_code_9 : decode method_3_code 9 = .ok (.iconst 1, 1) := by decide +kernel
theorem own_d_method_3_code_10 : decode method_3_code 10 = .ok (.if_icmp .le 10, 3) := by decide +kernel
theorem own_d_method_3_code_13 : decode method_3_code 13 = .ok (.aload_n 0, 1) := by decide +kernel
theorem own_d_method_3_code_14 : decode method_3_code 14 = .ok (.iload_n 1, 1) := by decide +kernel
theorem own_d_method_3_code_15 : decode method_3_code 15 = .ok (.iconst 1, 1) := by decide +kernel
theorem own_d_method_3_code_16 : decode method_3_code 16 = .ok (.iadd, 1) := by decide +kernel
theorem own_d_method_3_code_17 : decode method_3_code 17 = .ok (.iload 4, 2) := by decide +kernel
theorem own_d_method_3_code_19 : decode method_3_code 19 = .ok (.castore, 1) := by decide +kernel
theorem own_d_method_3_code_20 : decode method_3_code 20 = .ok (.iload_n 1, 1) := by decide +kernel
theorem own_d_method_3_code_21 : decode method_3_code 21 = .ok (.iload_n 2, 1) := by decide +kernel
theorem own_d_method_3_code_22 : decode method_3_code 22 = .ok (.iadd, 1) := by decide +kernel
theorem own_d_method_3_code_23 : decode method_3_code 23 = .ok (.ireturn, 1) := by decide +kernel
theorem own_pd33 : parseMethodDescriptor "([CIICC)I" = some ⟨[(.array .char), .int, .int, .char, .char], some .int⟩ := by decide +kernel
theorem own_pn7 : plainName "com/example/arborview/arborview/cli/ArgumentsErrorPinLaw" = true := by first | (simp [plainName, overriddenIn]; done) | decide +kernel
abbrev own_rm_own_put0 : Room := ({ frames := 0, cells := 0, slots := 0, locals := 0 } : Room)
set_option maxRecDepth 65536 in
set_option maxHeartbeats 40000000 in
theorem own_put0 (l : Launch) (Z : State) (a0 : Array Value) (hw : ∀ d ∈ tables_1, d.before a0 Z = true) (a1 : Addr) (x0 g0 g1 : Int32) (D R : List Value) (h0 : Heap) (n0 : Nat) (Z0 : n0 ≤ h0.size) (ge1 : n0 ≤ a1) (V1 : own_Vec Z h0 a1 .char (D ++ R)) (f_x0 : own_I 16 ((D.length : Nat) : Int) x0) (hd14 : D.length ≤ 14) (hg0 : 0 ≤ g0.toInt ∧ g0.toInt ≤ 65535) (hg1 : 0 ≤ g1.toInt ∧ g1.toInt ≤ 65535) :
    own_Met l Z ({ cls := "com/example/arborview/arborview/cli/ArgumentsErrorPinLaw", name := "put", desc := "([CIICC)I" } : Jvm.MethodName) method_3_code 5 (some .int) [] own_rm_own_put0 #[(.ref a1), (.int x0), (.int (0 : Int32)), (.int g0), (.int g1)] h0 n0 (fun v h => (∃ r, v = some (.int r) ∧ own_I 16 ((D.length + 0 : Nat) : Int) r) ∧ own_Vec Z h a1 .char (D ++ R) ∧ Keep h0 h [a1]) := by
  have ww := fun (i : Nat) {d : Jvm.Cond} (q : tables_1[i]? = some d) => hw d (List.mem_of_getElem? q)
  refine own_meet (plainFor_of_name own_pn7) Z0 (Ls0 := #[oA a1, oI x0, oI 0, oI g0, oI g1]) (by intro m; first | (simp [entryFrame, mkF, argsToLocals, Value.category]; done) | rfl) ?_
  intro p e s m below meth c T0 X0
  have K0 := Keep.refl h0 [a1]
  refine own_iloadN X0 rfl own_d_method_3_code_0 (pc' := 1) rfl ?_
  refine own_ifT X0 (by decide) own_d_method_3_code_1 (pc' := 8) (by decide) (by decide) ?_
  refine own_iloadN X0 rfl own_d_method_3_code_8 (pc' := 9) rfl ?_
  refine own_iconst X0 (v := (1 : Int32)) (by decide) own_d_method_3_code_9 (pc' := 10) rfl ?_
  refine own_icmpT X0 (by decide) own_d_method_3_code_10 (pc' := 20) (by decide) (by decide) ?_
  refine own_iloadN X0 rfl own_d_method_3_code_20 (pc' := 21) rfl ?_
  refine own_iloadN X0 rfl own_d_method_3_code_21 (pc' := 22) rfl ?_
  obtain ⟨i558, e558⟩ : ∃ v, x0 + (0 : Int32) = v := ⟨_, rfl⟩
  have f559 : own_I 0 (0 : Int) (0 : Int32) := own_I.lit (by decide) (by decide)
  have f558 : own_I 16 (((D.length : Nat) : Int) + (0 : Int)) i558 := f_x0.add f559 e558 (by decide) (by decide)
  refine own_iadd X0 e558 own_d_method_3_code_22 (pc' := 23) rfl ?_
  exact own_retI X0  own_d_method_3_code_23 rfl (by decide) (by decide) ⟨⟨_, rfl, f558.re (by simp) (by omega)⟩, V1, K0⟩
abbrev own_rm_own_put1 : Room := ({ frames := 0, cells := 0, slots := 0, locals := 0 } : Room)
set_option maxRecDepth 65536 in
set_option maxHeartbeats 40000000 in
theorem own_put1 (l : Launch) (Z : State) (a0 : Array Value) (hw : ∀ d ∈ tables_1, d.before a0 Z = true) (a1 : Addr) (x0 g0 g1 : Int32) (D R : List Value) (q0 : Value) (h0 : Heap) (n0 : Nat) (Z0 : n0 ≤ h0.size) (ge1 : n0 ≤ a1) (V1 : own_Vec Z h0 a1 .char (D ++ q0 :: R)) (f_x0 : own_I 16 ((D.length : Nat) : Int) x0) (hd14 : D.length ≤ 14) (hg0 : 0 ≤ g0.toInt ∧ g0.toInt ≤ 65535) (hg1 : 0 ≤ g1.toInt ∧ g1.toInt ≤ 65535) :
    own_Met l Z ({ cls := "com/example/arborview/arborview/cli/ArgumentsErrorPinLaw", name := "put", desc := "([CIICC)I" } : Jvm.MethodName) method_3_code 5 (some .int) [] own_rm_own_put1 #[(.ref a1), (.int x0), (.int (1 : Int32)), (.int g0), (.int g1)] h0 n0 (fun v h => (∃ r, v = some (.int r) ∧ own_I 16 ((D.length + 1 : Nat) : Int) r) ∧ own_Vec Z h a1 .char (D ++ Value.int g0 :: R) ∧ Keep h0 h [a1]) := by
  have ww := fun (i : Nat) {d : Jvm.Cond} (q : tables_1[i]? = some d) => hw d (List.mem_of_getElem? q)
  refine own_meet (plainFor_of_name own_pn7) Z0 (Ls0 := #[oA a1, oI x0, oI 1, oI g0, oI g1]) (by intro m; first | (simp [entryFrame, mkF, argsToLocals, Value.category]; done) | rfl) ?_
  intro p e s m below meth c T0 X0
  have K0 := Keep.refl h0 [a1]
  refine own_iloadN X0 rfl own_d_method_3_code_0 (pc' := 1) rfl ?_
  refine own_ifF X0 (by decide) own_d_method_3_code_1 (pc' := 4) rfl ?_
  refine own_aloadN X0 rfl rfl own_d_method_3_code_4 (pc' := 5) rfl ?_
  refine own_iloadN X0 rfl own_d_method_3_code_5 (pc' := 6) rfl ?_
  refine own_iloadN X0 rfl own_d_method_3_code_6 (pc' := 7) rfl ?_
  have ix561 := own_idx f_x0 (k := D.length) (by omega)
  refine own_castore X0 V1 ge1 (own_char16 hg0) (i := D.length) ix561.1 ix561.2 (by simp) own_d_method_3_code_7 (pc' := 8) rfl fun T560 h560 X560 W560 V560 => ?_
  have K562 := K0.wr W560 (Or.inl (by simp))
  replace V560 := V560.eq (vs' := (D ++ Value.int g0 :: R)) (own_set_mid _ _ _ _ rfl)
  refine own_iloadN X560 rfl own_d_method_3_code_8 (pc' := 9) rfl ?_
  refine own_iconst X560 (v := (1 : Int32)) (by decide) own_d_method_3_code_9 (pc' := 10) rfl ?_
  refine own_icmpT X560 (by decide) own_d_method_3_code_10 (pc' := 20) (by decide) (by decide) ?_
  refine own_iloadN X560 rfl own_d_method_3_code_20 (pc' := 21) rfl ?_
  refine own_iloadN X560 rfl own_d_method_3_code_21 (pc' := 22) rfl ?_
  obtain ⟨i563, e563⟩ : ∃ v, x0 + (1 : Int32) = v := ⟨_, rfl⟩
  have f564 : own_I 1 (1 : Int) (1 : Int32) := own_I.lit (by decide) (by decide)
  have f563 : own_I 17 (((D.length : Nat) : Int) + (1 : Int)) i563 := f_x0.add f564 e563 (by decide) (by decide)
  refine own_iadd X560 e563 own_d_method_3_code_22 (pc' := 23) rfl ?_
  exact own_retI X560  own_d_method_3_code_23 rfl (by decide) (by decide) ⟨⟨_, rfl, f563.re (by simp) (by omega)⟩, V560, K562⟩
abbrev own_rm_own_put2 : Room := ({ frames := 0, cells := 0, slots := 0, locals := 0 } : Room)
set_option maxRecDepth 65536 in
set_option maxHeartbeats 40000000 in
theorem own_put2 (l : Launch) (Z : State) (a0 : Array Value) (hw : ∀ d ∈ tables_1, d.before a0 Z = true) (a1 : Addr) (x0 g0 g1 : Int32) (D R : List Value) (q0 : Value) (q1 : Value) (h0 : Heap) (n0 : Nat) (Z0 : n0 ≤ h0.size) (ge1 : n0 ≤ a1) (V1 : own_Vec Z h0 a1 .char (D ++ q0 :: q1 :: R)) (f_x0 : own_I 16 ((D.length : Nat) : Int) x0) (hd14 : D.length ≤ 14) (hg0 : 0 ≤ g0.toInt ∧ g0.toInt ≤ 65535) (hg1 : 0 ≤ g1.toInt ∧ g1.toInt ≤ 65535) :
    own_Met l Z ({ cls := "com/example/arborview/arborview/cli/ArgumentsErrorPinLaw", name := "put", desc := "([CIICC)I" } : Jvm.MethodName) method_3_code 5 (some .int) [] own_rm_own_put2 #[(.ref a1), (.int x0), (.int (2 : Int32)), (.int g0), (.int g1)] h0 n0 (fun v h => (∃ r, v = some (.int r) ∧ own_I 16 ((D.length + 2 : Nat) : Int) r) ∧ own_Vec Z h a1 .char (D ++ Value.int g0 :: Value.int g1 :: R) ∧ Keep h0 h [a1]) := by
  have ww := fun (i : Nat) {d : Jvm.Cond} (q : tables_1[i]? = some d) => hw d (List.mem_of_getElem? q)
  refine own_meet (plainFor_of_name own_pn7) Z0 (Ls0 := #[oA a1, oI x0, oI 2, oI g0, oI g1]) (by intro m; first | (simp [entryFrame, mkF, argsToLocals, Value.category]; done) | rfl) ?_
  intro p e s m below meth c T0 X0
  have K0 := Keep.refl h0 [a1]
  refine own_iloadN X0 rfl own_d_method_3_code_0 (pc' := 1) rfl ?_
  refine own_ifF X0 (by decide) own_d_method_3_code_1 (pc' := 4) rfl ?_
  refine own_aloadN X0 rfl rfl own_d_method_3_code_4 (pc' := 5) rfl ?_
  refine own_iloadN X0 rfl own_d_method_3_code_5 (pc' := 6) rfl ?_
  refine own_iloadN X0 rfl own_d_method_3_code_6 (pc' := 7) rfl ?_
  have ix566 := own_idx f_x0 (k := D.length) (by omega)
  refine own_castore X0 V1 ge1 (own_char16 hg0) (i := D.length) ix566.1 ix566.2 (by simp) own_d_method_3_code_7 (pc' := 8) rfl fun T565 h565 X565 W565 V565 => ?_
  have K567 := K0.wr W565 (Or.inl (by simp))
  replace V565 := V565.eq (vs' := (D ++ Value.int g0 :: q1 :: R)) (own_set_mid _ _ _ _ rfl)
  refine own_iloadN X565 rfl own_d_method_3_code_8 (pc' := 9) rfl ?_
  refine own_iconst X565 (v := (1 : Int32)) (by decide) own_d_method_3_code_9 (pc' := 10) rfl ?_
  refine own_icmpF X565 (by decide) own_d_method_3_code_10 (pc' := 13) rfl ?_
  refine own_aloadN X565 rfl rfl own_d_method_3_code_13 (pc' := 14) rfl ?_
  refine own_iloadN X565 rfl own_d_method_3_code_14 (pc' := 15) rfl ?_
  refine own_iconst X565 (v := (1 : Int32)) (by decide) own_d_method_3_code_15 (pc' := 16) rfl ?_
  obtain ⟨i568, e568⟩ : ∃ v, x0 + (1 : Int32) = v := ⟨_, rfl⟩
  have f569 : own_I 1 (1 : Int) (1 : Int32) := own_I.lit (by decide) (by decide)
  have f568 : own_I 17 (((D.length : Nat) : Int) + (1 : Int)) i568 := f_x0.add f569 e568 (by decide) (by decide)
  refine own_iadd X565 e568 own_d_method_3_code_16 (pc' := 17) rfl ?_
  refine own_iload X565 rfl own_d_method_3_code_17 (pc' := 19) rfl ?_
  have ix571 := own_idx f568 (k := D.length + 1) (by omega)
  refine own_castore X565 V565 ge1 (own_char16 hg1) (i := D.length + 1) ix571.1 ix571.2 (by simp) own_d_method_3_code_19 (pc' := 20) rfl fun T570 h570 X570 W570 V570 => ?_
  have K572 := K567.wr W570 (Or.inl (by simp))
  replace V570 := V570.eq (vs' := (D ++ Value.int g0 :: Value.int g1 :: R)) (own_set_mid2 _ _ _ _ _ rfl)
  refine own_iloadN X570 rfl own_d_method_3_code_20 (pc' := 21) rfl ?_
  refine own_iloadN X570 rfl own_d_method_3_code_21 (pc' := 22) rfl ?_
  obtain ⟨i573, e573⟩ : ∃ v, x0 + (2 : Int32) = v := ⟨_, rfl⟩
  have f574 : own_I 2 (2 : Int) (2 : Int32) := own_I.lit (by decide) (by decide)
  have f573 : own_I 18 (((D.length : Nat) : Int) + (2 : Int)) i573 := f_x0.add f574 e573 (by decide) (by decide)
  refine own_iadd X570 e573 own_d_method_3_code_22 (pc' := 23) rfl ?_
  exact own_retI X570  own_d_method_3_code_23 rfl (by decide) (by decide) ⟨⟨_, rfl, f573.re (by simp) (by omega)⟩, V570, K572⟩
theorem own_d_jdk_22_method_1_code_0 : decode jdk_22_method_1_code 0 = .ok (.aload_n 0, 1) := by decide +kernel
theorem own_d_jdk_22_method_1_code_1 : decode jdk_22_method_1_code 1 = .ok (.invokespecial 1, 3) := by decide +kernel
theorem own_d_jdk_22_method_1_code_4 : decode jdk_22_method_1_code 4 = .ok (.return_, 1) := by decide +kernel
theorem own_pn8 : plainName "java/util/AbstractCollection" = true := by first | (simp [plainName, overriddenIn]; done) | decide +kernel
abbrev own_rm_own_aci : Room := ({ frames := 1, cells := 0, slots := 0, locals := 12 } : Room)
set_option maxRecDepth 65536 in
set_option maxHeartbeats 40000000 in
theorem own_aci (l : Launch) (Z : State) (a0 : Array Value) (hw : ∀ d ∈ tables_1, d.before a0 Z = true) (a1 : Addr) (h0 : Heap) (n0 : Nat) (Z0 : n0 ≤ h0.size)  :
    own_Met l Z ({ cls := "java/util/AbstractCollection", name := "<init>", desc := "()V" } : Jvm.MethodName) jdk_22_method_1_code 1 none [] own_rm_own_aci #[(.ref a1)] h0 n0 (fun v h => v = none ∧ h = h0) := by
  have ww := fun (i : Nat) {d : Jvm.Cond} (q : tables_1[i]? = some d) => hw d (List.mem_of_getElem? q)
  refine own_meet (plainFor_of_name own_pn8) Z0 (Ls0 := #[oA a1]) (by intro m; first | (simp [entryFrame, mkF, argsToLocals, Value.category]; done) | rfl) ?_
  intro p e s m below meth c T0 X0
  refine own_aloadN X0 rfl rfl own_d_jdk_22_method_1_code_0 (pc' := 1) rfl ?_
  refine own_initO X0 (ww 59 rfl) (ww 17 rfl) (ww 18 rfl) rfl (by decide) (W := 0) (Nat.le_of_eq rfl) (by decide) own_d_jdk_22_method_1_code_1 (pc' := 4) rfl fun T575 X575 => ?_
  exact own_retV X575  own_d_jdk_22_method_1_code_4 rfl (by decide) (by decide) ⟨rfl, rfl⟩
theorem own_d_jdk_39_method_1_code_0 : decode jdk_39_method_1_code 0 = .ok (.aload_n 0, 1) := by decide +kernel
theorem own_d_jdk_39_method_1_code_1 : decode jdk_39_method_1_code 1 = .ok (.invokespecial 1, 3) := by decide +kernel
theorem own_d_jdk_39_method_1_code_4 : decode jdk_39_method_1_code 4 = .ok (.aload_n 0, 1) := by decide +kernel
theorem own_d_jdk_39_method_1_code_5 : decode jdk_39_method_1_code 5 = .ok (.iconst 0, 1) := by decide +kernel
theorem own_d_jdk_39_method_1_code_6 : decode jdk_39_method_1_code 6 = .ok (.putfield 7, 3) := by decide +kernel
theorem own_d_jdk_39_method_1_code_9 : decode jdk_39_method_1_code 9 = .ok (.return_, 1) := by decide +kernel
theorem own_pn9 : plainName "java/util/AbstractList" = true := by first | (simp [plainName, overriddenIn]; done) | decide +kernel
abbrev own_rm_own_ali : Room := ({ frames := 2, cells := 0, slots := 0, locals := 24 } : Room)
set_option maxRecDepth 65536 in
set_option maxHeartbeats 40000000 in
theorem own_ali (l : Launch) (Z : State) (a0 : Array Value) (hw : ∀ d ∈ tables_1, d.before a0 Z = true) (a1 : Addr) (h0 : Heap) (n0 : Nat) (Z0 : n0 ≤ h0.size) (ge1 : n0 ≤ a1) (A1 : Exa Z h0 a1 "java/util/ArrayList") (F1 : Fld Z h0 a1 "java/util/AbstractList" "modCount" "I" (.int (0 : Int32))) (F2 : Fld Z h0 a1 "java/util/ArrayList" "elementData" "[Ljava/lang/Object;" .null)  :
    own_Met l Z ({ cls := "java/util/AbstractList", name := "<init>", desc := "()V" } : Jvm.MethodName) jdk_39_method_1_code 1 none [] own_rm_own_ali #[(.ref a1)] h0 n0 (fun v h => v = none ∧ Fld Z h a1 "java/util/AbstractList" "modCount" "I" (.int (0 : Int32)) ∧ Fld Z h a1 "java/util/ArrayList" "elementData" "[Ljava/lang/Object;" .null ∧ Keep h0 h [a1]) := by
  have ww := fun (i : Nat) {d : Jvm.Cond} (q : tables_1[i]? = some d) => hw d (List.mem_of_getElem? q)
  refine own_meet (plainFor_of_name own_pn9) Z0 (Ls0 := #[oA a1]) (by intro m; first | (simp [entryFrame, mkF, argsToLocals, Value.category]; done) | rfl) ?_
  intro p e s m below meth c T0 X0
  have K0 := Keep.refl h0 [a1]
  refine own_aloadN X0 rfl rfl own_d_jdk_39_method_1_code_0 (pc' := 1) rfl ?_
  refine own_special X0 (own_aci l Z a0 hw a1 _ n0 X0.le) rfl rfl (ww 53 rfl) (ww 54 rfl) (ww 57 rfl) (ww 58 rfl) (by decide) rfl (by decide) (W := 0) (Nat.le_of_eq rfl) (by decide) (cells' := 0) (slots' := 0) rfl rfl (by decide) (by decide) (argsL := []) (rest := []) (lenOf own_pd20 rfl) rfl rfl own_d_jdk_39_method_1_code_1 (pc' := 4) rfl ?_
  rintro _ T576 h576 X576 ⟨rfl, e576⟩
  subst e576
  show own_Goal p e below _ T576 (mkF m 4 #[oA a1] [])
  refine own_aloadN X576 rfl rfl own_d_jdk_39_method_1_code_4 (pc' := 5) rfl ?_
  refine own_iconst X576 (v := (0 : Int32)) (by decide) own_d_jdk_39_method_1_code_5 (pc' := 6) rfl ?_
  refine own_putF X576 (ww 60 rfl) F1 A1 (Or.inl (ww 61 rfl)) (ww 42 rfl) (ty := .int) (by decide) rfl rfl ge1 own_d_jdk_39_method_1_code_6 (pc' := 9) rfl fun T577 h577 X577 W577 => ?_
  have A578 := A1.wr W577
  have K579 := K0.wr W577 (Or.inl (by simp))
  have F580 := F1.same W577
  have F581 := F2.other W577 (Or.inr (slot_ne (C := "java/util/ArrayList") (Or.inl (ww 64 rfl)) (Or.inl (ww 61 rfl)) (by decide) (t := (.array (.object "java/lang/Object"))) (t' := .int) (by decide) (by decide)))
  exact own_retV X577  own_d_jdk_39_method_1_code_9 rfl (by decide) (by decide) ⟨rfl, F580, F581, K579⟩
theorem own_d_jdk_38_method_2_code_0 : decode jdk_38_method_2_code 0 = .ok (.aload_n 0, 1) := by decide +kernel
theorem own_d_jdk_38_method_2_code_1 : decode jdk_38_method_2_code 1 = .ok (.invokespecial 1, 3) := by decide +kernel
theorem own_d_jdk_38_method_2_code_4 : decode jdk_38_method_2_code 4 = .ok (.aload_n 0, 1) := by decide +kernel
theorem own_d_jdk_38_method_2_code_5 : decode jdk_38_method_2_code 5 = .ok (.getstatic 39, 3) := by decide +kernel
theorem own_d_jdk_38_method_2_code_8 : decode jdk_38_method_2_code 8 = .ok (.putfield 9, 3) := by decide +kernel
theorem own_d_jdk_38_method_2_code_11 : decode jdk_38_method_2_code 11 = .ok (.return_, 1) := by decide +kernel
theorem own_pn10 : plainName "java/util/ArrayList" = true := by first | (simp [plainName, overriddenIn]; done) | decide +kernel
abbrev own_rm_own_ari : Room := ({ frames := 3, cells := 0, slots := 0, locals := 36 } : Room)
set_option maxRecDepth 65536 in
set_option maxHeartbeats 40000000 in
theorem own_ari (l : Launch) (Z : State) (a0 : Array Value) (hw : ∀ d ∈ tables_1, d.before a0 Z = true) (a1 : Addr) (h0 : Heap) (n0 : Nat) (Z0 : n0 ≤ h0.size) (ge1 : n0 ≤ a1) (A1 : Exa Z h0 a1 "java/util/ArrayList") (F1 : Fld Z h0 a1 "java/util/AbstractList" "modCount" "I" (.int (0 : Int32))) (F2 : Fld Z h0 a1 "java/util/ArrayList" "elementData" "[Ljava/lang/Object;" .null) (cs : Int32) (fm dv : Value) (G0 : own_Gs Z h0 cs fm dv) (hcs : ¬ cs = 0) (hfm : fm.isRef = true) (hdv : dv.isRef = true) :
    own_Met l Z ({ cls := "java/util/ArrayList", name := "<init>", desc := "()V" } : Jvm.MethodName) jdk_38_method_2_code 1 none [] own_rm_own_ari #[(.ref a1)] h0 n0 (fun v h => v = none ∧ Exa Z h a1 "java/util/ArrayList" ∧ Fld Z h a1 "java/util/AbstractList" "modCount" "I" (.int (0 : Int32)) ∧ Keep h0 h [a1]) := by
  have ww := fun (i : Nat) {d : Jvm.Cond} (q : tables_1[i]? = some d) => hw d (List.mem_of_getElem? q)
  refine own_meet (plainFor_of_name own_pn10) Z0 (Ls0 := #[oA a1]) (by intro m; first | (simp [entryFrame, mkF, argsToLocals, Value.category]; done) | rfl) ?_
  intro p e s m below meth c T0 X0
  have K0 := Keep.refl h0 [a1]
  refine own_aloadN X0 rfl rfl own_d_jdk_38_method_2_code_0 (pc' := 1) rfl ?_
  refine own_special X0 (own_ali l Z a0 hw a1 _ n0 X0.le ge1 A1 F1 F2) rfl rfl (ww 47 rfl) (ww 48 rfl) (ww 51 rfl) (ww 52 rfl) (by decide) rfl (by decide) (W := 0) (Nat.le_of_eq rfl) (by decide) (cells' := 0) (slots' := 0) rfl rfl (by decide) (by decide) (argsL := []) (rest := []) (lenOf own_pd20 rfl) rfl rfl own_d_jdk_38_method_2_code_1 (pc' := 4) rfl ?_
  rintro _ T582 h582 X582 ⟨rfl, F582a, F582b, K582⟩
  have S583 := G0.keep K582 (own_nsE A1 own_ns0)
  have A584 := A1.keep K582
  have K585 := K0.trans K582 (own_mem1 (Or.inl (by simp)))
  show own_Goal p e below _ T582 (mkF m 4 #[oA a1] [])
  refine own_aloadN X582 rfl rfl own_d_jdk_38_method_2_code_4 (pc' := 5) rfl ?_
  refine own_getS X582 (ww 62 rfl) S583.2.2.2.2.2 own_d_jdk_38_method_2_code_5 (pc' := 8) rfl fun T586 X586 => ?_
  refine own_putF X586 (ww 63 rfl) F582b A584 (Or.inl (ww 64 rfl)) (ww 42 rfl) (ty := (.array (.object "java/lang/Object"))) (by decide) (own_nref hdv) (own_fref hdv) ge1 own_d_jdk_38_method_2_code_8 (pc' := 11) rfl fun T587 h587 X587 W587 => ?_
  have A588 := A584.wr W587
  have S589 := S583.wr W587
  have K590 := K585.wr W587 (Or.inl (by simp))
  have F591 := F582b.same W587
  have F592 := F582a.other W587 (Or.inr (slot_ne (C := "java/util/ArrayList") (Or.inl (ww 61 rfl)) (Or.inl (ww 64 rfl)) (by decide) (t := .int) (t' := (.array (.object "java/lang/Object"))) (by decide) (by decide)))
  exact own_retV X587  own_d_jdk_38_method_2_code_11 rfl (by decide) (by decide) ⟨rfl, A588, F592, K590⟩
theorem own_d_jdk_49_method_1_code_0 : decode jdk_49_method_1_code 0 = .ok (.aload_n 0, 1) := by decide +kernel
theorem own_d_jdk_49_method_1_code_1 : decode jdk_49_method_1_code 1 = .ok (.aload_n 1, 1) := by decide +kernel
theorem own_d_jdk_49_method_1_code_2 : decode jdk_49_method_1_code 2 = .ok (.putfield 1, 3) := by decide +kernel
theorem own_d_jdk_49_method_1_code_5 : decode jdk_49_method_1_code 5 = .ok (.aload_n 0, 1) := by decide +kernel
theorem own_d_jdk_49_method_1_code_6 : decode jdk_49_method_1_code 6 = .ok (.invokespecial 7, 3) := by decide +kernel
theorem own_d_jdk_49_method_1_code_9 : decode jdk_49_method_1_code 9 = .ok (.aload_n 0, 1) := by decide +kernel
theorem own_d_jdk_49_method_1_code_10 : decode jdk_49_method_1_code 10 = .ok (.iconst (-1), 1) := by decide +kernel
theorem own_d_jdk_49_method_1_code_11 : decode jdk_49_method_1_code 11 = .ok (.putfield 13, 3) := by decide +kernel
theorem own_d_jdk_49_method_1_code_14 : decode jdk_49_method_1_code 14 = .ok (.aload_n 0, 1) := by decide +kernel
theorem own_d_jdk_49_method_1_code_15 : decode jdk_49_method_1_code 15 = .ok (.aload_n 0, 1) := by decide +kernel
theorem own_d_jdk_49_method_1_code_16 : decode jdk_49_method_1_code 16 = .ok (.getfield 1, 3) := by decide +kernel
theorem own_d_jdk_49_method_1_code_19 : decode jdk_49_method_1_code 19 = .ok (.getfield 17, 3) := by decide +kernel
theorem own_d_jdk_49_method_1_code_22 : decode jdk_49_method_1_code 22 = .ok (.putfield 22, 3) := by decide +kernel
theorem own_d_jdk_49_method_1_code_25 : decode jdk_49_method_1_code 25 = .ok (.return_, 1) := by decide +kernel
theorem own_pd34 : parseMethodDescriptor "(Ljava/util/ArrayList;)V" = some ⟨[(.object "java/util/ArrayList")], none⟩ := by decide +kernel
theorem own_pn11 : plainName "java/util/ArrayList$Itr" = true := by first | (simp [plainName, overriddenIn]; done) | decide +kernel
abbrev own_rm_own_iti : Room := ({ frames := 1, cells := 0, slots := 0, locals := 12 } : Room)
set_option maxRecDepth 65536 in
set_option maxHeartbeats 40000000 in
theorem own_iti (l : Launch) (Z : State) (a0 : Array Value) (hw : ∀ d ∈ tables_1, d.before a0 Z = true) (i1 a1 : Addr) (h0 : Heap) (n0 : Nat) (Z0 : n0 ≤ h0.size) (ge2 : n0 ≤ i1) (A2 : Exa Z h0 i1 "java/util/ArrayList$Itr") (J1 : Fld Z h0 i1 "java/util/ArrayList$Itr" "this$0" "Ljava/util/ArrayList;" .null) (J2 : Fld Z h0 i1 "java/util/ArrayList$Itr" "lastRet" "I" (.int (0 : Int32))) (J3 : Fld Z h0 i1 "java/util/ArrayList$Itr" "expectedModCount" "I" (.int (0 : Int32))) (A1 : Exa Z h0 a1 "java/util/ArrayList") (F1 : Fld Z h0 a1 "java/util/AbstractList" "modCount" "I" (.int (0 : Int32))) (NI : i1 ≠ a1)  :
    own_Met l Z ({ cls := "java/util/ArrayList$Itr", name := "<init>", desc := "(Ljava/util/ArrayList;)V" } : Jvm.MethodName) jdk_49_method_1_code 2 none [] own_rm_own_iti #[(.ref i1), (.ref a1)] h0 n0 (fun v h => v = none ∧ Keep h0 h [i1]) := by
  have ww := fun (i : Nat) {d : Jvm.Cond} (q : tables_1[i]? = some d) => hw d (List.mem_of_getElem? q)
  refine own_meet (plainFor_of_name own_pn11) Z0 (Ls0 := #[oA i1, oA a1]) (by intro m; first | (simp [entryFrame, mkF, argsToLocals, Value.category]; done) | rfl) ?_
  intro p e s m below meth c T0 X0
  have K0 := Keep.refl h0 [i1]
  refine own_aloadN X0 rfl rfl own_d_jdk_49_method_1_code_0 (pc' := 1) rfl ?_
  refine own_aloadN X0 rfl rfl own_d_jdk_49_method_1_code_1 (pc' := 2) rfl ?_
  refine own_putF X0 (ww 89 rfl) J1 A2 (Or.inr ⟨(ww 90 rfl), rfl, rfl⟩) (ww 83 rfl) (ty := (.object "java/util/ArrayList")) (by decide) rfl rfl ge2 own_d_jdk_49_method_1_code_2 (pc' := 5) rfl fun T593 h593 X593 W593 => ?_
  have A594 := A2.wr W593
  have A595 := A1.wr W593
  have F596 := F1.other W593 (Or.inl NI.symm)
  have K597 := K0.wr W593 (Or.inl (by simp))
  have F598 := J1.same W593
  have F599 := J2.other W593 (Or.inr (slot_ne (C := "java/util/ArrayList$Itr") (Or.inl (ww 93 rfl)) (Or.inr (ww 90 rfl)) (by decide) (t := .int) (t' := (.object "java/util/ArrayList")) (by decide) (by decide)))
  have F600 := J3.other W593 (Or.inr (slot_ne (C := "java/util/ArrayList$Itr") (Or.inl (ww 97 rfl)) (Or.inr (ww 90 rfl)) (by decide) (t := .int) (t' := (.object "java/util/ArrayList")) (by decide) (by decide)))
  refine own_aloadN X593 rfl rfl own_d_jdk_49_method_1_code_5 (pc' := 6) rfl ?_
  refine own_initO X593 (ww 91 rfl) (ww 17 rfl) (ww 18 rfl) rfl (by decide) (W := 0) (Nat.le_of_eq rfl) (by decide) own_d_jdk_49_method_1_code_6 (pc' := 9) rfl fun T601 X601 => ?_
  refine own_aloadN X601 rfl rfl own_d_jdk_49_method_1_code_9 (pc' := 10) rfl ?_
  refine own_iconst X601 (v := (-1 : Int32)) (by decide) own_d_jdk_49_method_1_code_10 (pc' := 11) rfl ?_
  refine own_putF X601 (ww 92 rfl) F599 A594 (Or.inl (ww 93 rfl)) (ww 83 rfl) (ty := .int) (by decide) rfl rfl ge2 own_d_jdk_49_method_1_code_11 (pc' := 14) rfl fun T602 h602 X602 W602 => ?_
  have A603 := A594.wr W602
  have A604 := A595.wr W602
  have F605 := F596.other W602 (Or.inl NI.symm)
  have K606 := K597.wr W602 (Or.inl (by simp))
  have F607 := F599.same W602
  have F608 := F598.other W602 (Or.inr (slot_ne (C := "java/util/ArrayList$Itr") (Or.inr (ww 90 rfl)) (Or.inl (ww 93 rfl)) (by decide) (t := (.object "java/util/ArrayList")) (t' := .int) (by decide) (by decide)))
  have F609 := F600.other W602 (Or.inr (slot_ne (C := "java/util/ArrayList$Itr") (Or.inl (ww 97 rfl)) (Or.inl (ww 93 rfl)) (by decide) (t := .int) (t' := .int) (by decide) (by decide)))
  refine own_aloadN X602 rfl rfl own_d_jdk_49_method_1_code_14 (pc' := 15) rfl ?_
  refine own_aloadN X602 rfl rfl own_d_jdk_49_method_1_code_15 (pc' := 16) rfl ?_
  refine own_getF X602 (ww 89 rfl) F608 own_d_jdk_49_method_1_code_16 (pc' := 19) rfl fun T610 X610 => ?_
  refine own_getFV X610 (ww 94 rfl) (Via.of (ww 95 rfl)) F605 own_d_jdk_49_method_1_code_19 (pc' := 22) rfl fun T611 X611 => ?_
  refine own_putF X611 (ww 96 rfl) F609 A603 (Or.inl (ww 97 rfl)) (ww 83 rfl) (ty := .int) (by decide) rfl rfl ge2 own_d_jdk_49_method_1_code_22 (pc' := 25) rfl fun T612 h612 X612 W612 => ?_
  have A613 := A603.wr W612
  have A614 := A604.wr W612
  have F615 := F605.other W612 (Or.inl NI.symm)
  have K616 := K606.wr W612 (Or.inl (by simp))
  have F617 := F609.same W612
  have F618 := F607.other W612 (Or.inr (slot_ne (C := "java/util/ArrayList$Itr") (Or.inl (ww 93 rfl)) (Or.inl (ww 97 rfl)) (by decide) (t := .int) (t' := .int) (by decide) (by decide)))
  have F619 := F608.other W612 (Or.inr (slot_ne (C := "java/util/ArrayList$Itr") (Or.inr (ww 90 rfl)) (Or.inl (ww 97 rfl)) (by decide) (t := (.object "java/util/ArrayList")) (t' := .int) (by decide) (by decide)))
  exact own_retV X612  own_d_jdk_49_method_1_code_25 rfl (by decide) (by decide) ⟨rfl, K616⟩
theorem own_d_jdk_38_method_55_code_0 : decode jdk_38_method_55_code 0 = .ok (.new 267, 3) := by decide +kernel
theorem own_d_jdk_38_method_55_code_3 : decode jdk_38_method_55_code 3 = .ok (.dup, 1) := by decide +kernel
theorem own_d_jdk_38_method_55_code_4 : decode jdk_38_method_55_code 4 = .ok (.aload_n 0, 1) := by decide +kernel
theorem own_d_jdk_38_method_55_code_5 : decode jdk_38_method_55_code 5 = .ok (.invokespecial 269, 3) := by decide +kernel
theorem own_d_jdk_38_method_55_code_8 : decode jdk_38_method_55_code 8 = .ok (.areturn, 1) := by decide +kernel
theorem own_pd35 : parseMethodDescriptor "()Ljava/util/Iterator;" = some ⟨[], some (.object "java/util/Iterator")⟩ := by decide +kernel
abbrev own_rm_own_itr : Room := ({ frames := 2, cells := 1, slots := 4, locals := 26 } : Room)
set_option maxRecDepth 65536 in
set_option maxHeartbeats 40000000 in
theorem own_itr (l : Launch) (Z : State) (a0 : Array Value) (hw : ∀ d ∈ tables_1, d.before a0 Z = true) (a1 : Addr) (h0 : Heap) (n0 : Nat) (Z0 : n0 ≤ h0.size) (A1 : Exa Z h0 a1 "java/util/ArrayList") (F1 : Fld Z h0 a1 "java/util/AbstractList" "modCount" "I" (.int (0 : Int32)))  :
    own_Met l Z ({ cls := "java/util/ArrayList", name := "iterator", desc := "()Ljava/util/Iterator;" } : Jvm.MethodName) jdk_38_method_55_code 1 (some (.object "java/util/Iterator")) [] own_rm_own_itr #[(.ref a1)] h0 n0 (fun v h => ∃ r, v = some (.ref r) ∧ Keep h0 h []) := by
  have ww := fun (i : Nat) {d : Jvm.Cond} (q : tables_1[i]? = some d) => hw d (List.mem_of_getElem? q)
  refine own_meet (plainFor_of_name own_pn10) Z0 (Ls0 := #[oA a1]) (by intro m; first | (simp [entryFrame, mkF, argsToLocals, Value.category]; done) | rfl) ?_
  intro p e s m below meth c T0 X0
  have K0 := Keep.refl h0 []
  refine own_new X0 (ww 82 rfl) (ww 83 rfl) (ww 84 rfl) (cells' := 1) (slots' := 4) rfl rfl (by decide) (by decide) own_d_jdk_38_method_55_code_0 (pc' := 3) rfl fun a620 T620 h620 g620 ge620 X620 E620 A620 D620 => ?_
  have ne621 : a1 ≠ a620 := own_lt_ne A1.lt g620
  have sz622 := own_ge K0 g620
  have A623 := A1.ext E620
  have F624 := F1.ext E620
  have K625 := K0.ext E620
  have F626 : Fld Z h620 a620 "java/util/ArrayList$Itr" "this$0" "Ljava/util/ArrayList;" .null := D620 (Or.inr (ww 90 rfl)) (ty := (.object "java/util/ArrayList")) (by decide)
  have F627 : Fld Z h620 a620 "java/util/ArrayList$Itr" "lastRet" "I" (.int (0 : Int32)) := D620 (Or.inl (ww 93 rfl)) (ty := .int) (by decide)
  have F628 : Fld Z h620 a620 "java/util/ArrayList$Itr" "expectedModCount" "I" (.int (0 : Int32)) := D620 (Or.inl (ww 97 rfl)) (ty := .int) (by decide)
  refine own_dup X620 rfl own_d_jdk_38_method_55_code_3 (pc' := 4) rfl ?_
  refine own_aloadN X620 rfl rfl own_d_jdk_38_method_55_code_4 (pc' := 5) rfl ?_
  refine own_special X620 (own_iti l Z a0 hw a620 a1 _ n0 X620.le ge620 A620 F626 F627 F628 A623 F624 ne621.symm) rfl rfl (ww 85 rfl) (ww 86 rfl) (ww 84 rfl) (ww 88 rfl) (by decide) rfl (by decide) (W := 1) (Nat.le_of_eq rfl) (by decide) (cells' := 1) (slots' := 4) rfl rfl (by decide) (by decide) (argsL := [(.ref a1)]) (rest := [(.ref a620)]) (lenOf own_pd34 rfl) rfl rfl own_d_jdk_38_method_55_code_5 (pc' := 8) rfl ?_
  rintro _ T629 h629 X629 ⟨rfl, K629⟩
  have K630 := K625.trans K629 (own_mem1 (Or.inr sz622))
  show own_Goal p e below _ T629 (mkF m 8 #[oA a1] [(.ref a620)])
  exact own_retA X629 (t := (.object "java/util/Iterator")) rfl own_d_jdk_38_method_55_code_8 rfl (by decide) (by decide) ⟨_, rfl, K630⟩
section OwnLit
variable {p : Program} {l : Launch} {e : Env} {R : Room} {s : State} {m : MethodId} {args : Array Value} {below : List Frame} {meth : Method} {c : Code} {Z : State} {own : String} {bytes : ByteArray} {ml : Nat} {rt : Option FieldType} {nm : String} {n0 : Nat} {T : State} {h : Heap} {cells slots : Nat} {Q : Option Value → Heap → Prop} {Φ : State → Outcome → Prop} {pc pc' : Nat} {Ls : Array Slot} {rest : List Value} {a0 : Array Value} {vm0 : Vm} {k0 : Nat} {Qv : Option Value → Heap → Vm → Prop}
def own_FinV (below : List Frame) (s : State) (R : Room) (n0 : Nat) (Qv : Option Value → Heap → Vm → Prop) : State → Outcome → Prop := fun s₂ o =>
  s₂.status = .running ∧ Ended s₂ below o ∧ ∃ v L, o = .returned v ∧ ((Qv v s₂.heap s₂.vm ∧ n0 ≤ s₂.heap.size) ∧ Fr n0 L) ∧ ReturnedEndW s o s₂ L R.cells R.slots
theorem own_St.mono {n : Nat} (X : own_St p l e R s m args below meth c Z own bytes ml rt nm n T h cells slots) (q : n0 ≤ n) : own_St p l e R s m args below meth c Z own bytes ml rt nm n0 T h cells slots := by
  obtain ⟨locs, X, N, e1, n1, r⟩ := X
  exact ⟨locs, X, fun y hy => Nat.le_trans q (N y hy), e1, Nat.le_trans q n1, r⟩
theorem own_St.more {cells' slots' : Nat} (X : own_St p l e R s m args below meth c Z own bytes ml rt nm n0 T h cells slots) (hc : cells ≤ cells') (hs : slots ≤ slots') : own_St p l e R s m args below meth c Z own bytes ml rt nm n0 T h cells' slots' := by
  obtain ⟨locs, X, r⟩ := X
  exact ⟨locs, X.more hc hs, r⟩
/-- the empty literal: not yet loaded by this law, or booked and known -/
def own_Lt (Z : State) (h : Heap) (vm : Vm) : Prop := IB Z vm [] ∨ (IB Z vm [""] ∧ ∃ a b, Lit (Z.setVm vm) "java/lang/String" 7 a ∧ Exa Z h a "java/lang/String" ∧ Fld Z h a "java/lang/String" "coder" "B" (.int 0) ∧ Fld Z h a "java/lang/String" "value" "[B" (.ref b) ∧ own_Vec Z h b .byte [])
theorem own_Lt.ib (L : own_Lt Z h vm0) : IB Z vm0 [""] := by
  rcases L with ⟨more, e, q⟩ | q
  · exact ⟨more, e, fun x hx => by obtain ⟨t, ht, -⟩ := q x hx; exact nomatch ht⟩
  · exact q.1
theorem own_IBwarm {Ts : List String} {vm1 : Vm} (I : IB Z vm0 Ts) (W : (s.setVm vm0).WarmedH vm1) : IB Z vm1 Ts := by
  obtain ⟨more, e, q⟩ := I
  exact ⟨more, W.interned_eq.trans e, q⟩
theorem own_Lt.warm {vm1 : Vm} (L : own_Lt Z h vm0) (W : (s.setVm vm0).WarmedH vm1) : own_Lt Z h vm1 := by
  rcases L with I | ⟨I, a, b, q, r⟩
  · exact Or.inl (own_IBwarm I W)
  · exact Or.inr ⟨own_IBwarm I W, a, b, (Lit.stays (s := s) (show Lit (s.setVm vm0) _ _ _ from q) W.wide :), r⟩
theorem own_Lt.keep0 {h' : Heap} (L : own_Lt Z h vm0) (K : Keep h h' []) : own_Lt Z h' vm0 := by
  rcases L with I | ⟨I, a, b, q, A, F1, F2, V⟩
  · exact Or.inl I
  · exact Or.inr ⟨I, a, b, q, A.keep K, F1.keep K nin0, F2.keep K nin0, V.keep K nin0⟩
theorem own_Lt.ext {h' : Heap} (L : own_Lt Z h vm0) (E : Ext h h') : own_Lt Z h' vm0 := L.keep0 ((Keep.refl h []).ext E)
theorem own_Str.keep0 {h' : Heap} {a : Addr} {cs : List Int32} (F : own_Str Z h a cs) (K : Keep h h' []) : own_Str Z h' a cs := by
  obtain ⟨A, F1, b, F2, V⟩ := F
  exact ⟨A.keep K, F1.keep K nin0, b, F2.keep K nin0, V.keep K nin0⟩
theorem own_SB.keep0 {h' : Heap} {a b : Addr} {lat : Bool} {cs : List Int32} (F : own_SB Z h a b lat cs) (K : Keep h h' []) : own_SB Z h' a b lat cs := by
  obtain ⟨A, ⟨n, f, F1⟩, F2, F3, F4, pad, V, r⟩ := F
  exact ⟨A.keep K, ⟨n, f, F1.keep K nin0⟩, F2.keep K nin0, F3.keep K nin0, F4.keep K nin0, pad, V.keep K nin0, r⟩
theorem own_hk_keep {h' : Heap} {ws : List Addr} (hk : k0 ≤ h.size) (K : Keep h h' ws) : k0 ≤ h'.size := Nat.le_trans hk K.1
theorem own_fldne {a a' : Addr} {O n d : String} {v v' : Value} (F : Fld Z h a O n d v) (F' : Fld Z h a' O n d v') (hne : v ≠ v') : a ≠ a' := fun q => by
  subst q
  obtain ⟨c1, cf, k, i, f, g1, g2, -, -, -, -, g7⟩ := F
  obtain ⟨c2, cf', k', i', f', r1, r2, -, -, -, -, r7⟩ := F'
  cases g1.symm.trans r1
  cases g2.symm.trans r2
  exact hne (Option.some.inj (g7.symm.trans r7))
theorem own_retVV (X : own_St p l e R (s.setVm vm0) m args below meth c Z own bytes ml rt nm n0 T h cells slots) (hS : s.Since vm0 k0) (hk : k0 ≤ h.size) (hd : decode bytes pc = .ok (.return_, 1)) (hr : rt = none) (hc : cells ≤ R.cells) (hs : slots ≤ R.slots) (q : ∀ vm', (s.setVm vm0).WarmedH vm' → Qv none h vm') : own_Goal p e below (own_FinV below s R n0 Qv) T (mkF m pc Ls []) := by
  obtain ⟨locs, X, N, e1, n1, hx, hZ, hown, hby, -, hrt, hlk, -⟩ := X
  obtain ⟨fs, hl, hrun, hended, hr1, hW, hB, hsame⟩ := X.leaveW hS (by rw [e1]; exact hk) (v := none) (fun _ => rfl) hlk
  exact ⟨_, _, X.returnOut hx (hrt.trans hr) (hb hby hd) hl, hrun, hended, _, _, rfl, ⟨⟨by show Qv _ T.heap T.vm; rw [e1]; exact q _ X.warmed, by show n0 ≤ T.heap.size; rw [e1]; exact n1⟩, N⟩, hr1, hW, hB, hsame.mono hc hs⟩
theorem own_retAV (X : own_St p l e R (s.setVm vm0) m args below meth c Z own bytes ml rt nm n0 T h cells slots) (hS : s.Since vm0 k0) (hk : k0 ≤ h.size) {b : Addr} {t : FieldType} (ht : t.isReference = true) (hd : decode bytes pc = .ok (.areturn, 1)) (hr : rt = some t) (hc : cells ≤ R.cells) (hs : slots ≤ R.slots) (q : ∀ vm', (s.setVm vm0).WarmedH vm' → Qv (some (.ref b)) h vm') : own_Goal p e below (own_FinV below s R n0 Qv) T (mkF m pc Ls (.ref b :: rest)) := by
  obtain ⟨locs, X, N, e1, n1, hx, hZ, hown, hby, -, hrt, hlk, -⟩ := X
  obtain ⟨fs, hl, hrun, hended, hr1, hW, hB, hsame⟩ := X.leaveW hS (by rw [e1]; exact hk) (v := some (.ref b)) (fun z => by rw [hrt, hr] at z; cases z) hlk
  have hn : narrow t (.ref b) = .ref b := by cases t <;> rfl
  exact ⟨_, _, retOut X hx (hrt.trans hr) hn (Or.inr (Or.inr (Or.inr (Or.inr ⟨rfl, ht, rfl⟩)))) (hb hby hd) hl, hrun, hended, _, _, rfl, ⟨⟨by show Qv _ T.heap T.vm; rw [e1]; exact q _ X.warmed, by show n0 ≤ T.heap.size; rw [e1]; exact n1⟩, N⟩, hr1, hW, hB, hsame.mono hc hs⟩
theorem own_retZV (X : own_St p l e R (s.setVm vm0) m args below meth c Z own bytes ml rt nm n0 T h cells slots) (hS : s.Since vm0 k0) (hk : k0 ≤ h.size) {v : Int32} (hv : v = 0 ∨ v = 1) (hd : decode bytes pc = .ok (.ireturn, 1)) (hr : rt = some .boolean) (hc : cells ≤ R.cells) (hs : slots ≤ R.slots) (q : ∀ vm', (s.setVm vm0).WarmedH vm' → Qv (some (.int v)) h vm') : own_Goal p e below (own_FinV below s R n0 Qv) T (mkF m pc Ls (.int v :: rest)) := by
  obtain ⟨locs, X, N, e1, n1, hx, hZ, hown, hby, -, hrt, hlk, -⟩ := X
  obtain ⟨fs, hl, hrun, hended, hr1, hW, hB, hsame⟩ := X.leaveW hS (by rw [e1]; exact hk) (v := some (.int v)) (fun z => by rw [hrt, hr] at z; cases z) hlk
  have hn : nar .boolean v = v := by rcases hv with rfl | rfl <;> rfl
  exact ⟨_, _, retN X hx (t := .boolean) (hrt.trans hr) (by simp) (hb hby hd) (by rw [hn]; exact hl), hrun, hended, _, _, rfl, ⟨⟨by show Qv _ T.heap T.vm; rw [e1]; exact q _ X.warmed, by show n0 ≤ T.heap.size; rw [e1]; exact n1⟩, N⟩, hr1, hW, hB, hsame.mono hc hs⟩
/-- a callee's contract: wide, over a VM of which PV is known, with known frames beneath -/
def own_MetV (l : Launch) (Z : State) (y : MethodName) (bytes : ByteArray) (ml : Nat) (rt : Option FieldType) (ws : List Jvm.Cond) (rm : Room) (as' : Array Value) (h0 : Heap) (n0 : Nat) (PV : Vm → Prop) (Qv : Option Value → Heap → Vm → Prop) : Prop :=
  MetFree l y (head1 (Jvm.Cond.code y bytes ml rt :: ws) rm) (fun a U => a = as' ∧ Z.Warmed39 U.vm ∧ U.heap = h0 ∧ PV U.vm) (fun _ _ bl s _ => s.vm.MethodsKnown ∧ s.vm.FramesKnown bl) (fun _ U o U' => ∃ v L, o = .returned v ∧ ((Qv v U'.heap U'.vm ∧ n0 ≤ U'.heap.size) ∧ Fr n0 L) ∧ ReturnedEndW U o U' L rm.cells rm.slots)
theorem own_MetV.mono {y : MethodName} {ws : List Jvm.Cond} {rm : Room} {as' : Array Value} {h0 : Heap} {n : Nat} {PV : Vm → Prop} (M : own_MetV l Z y bytes ml rt ws rm as' h0 n PV Qv) (q : n0 ≤ n) : own_MetV l Z y bytes ml rt ws rm as' h0 n0 PV Qv :=
  MetFree.mono M (fun _ _ z => z) (fun _ _ _ _ _ z => z) (fun _ _ _ _ _ ⟨v, L, r1, ⟨⟨r2, r3⟩, r4⟩, r5⟩ => ⟨v, L, r1, ⟨⟨r2, Nat.le_trans q r3⟩, fun y hy => Nat.le_trans q (r4 y hy)⟩, r5⟩)
theorem own_meetV {y : MethodName} {ws : List Jvm.Cond} {rm : Room} {as' : Array Value} {h0 : Heap} {PV : Vm → Prop} (hpn : plainFor y = true) (hle : n0 ≤ h0.size) {Ls0 : Array Slot} (hef : ∀ m, entryFrame m as' ml = mkF m 0 Ls0 [])
    (body : ∀ (p : Program) (e : Env) (s : State) (m : MethodId) (below : List Frame) (meth : Method) (c : Code) (T : State) (vm0 : Vm) (k0 : Nat), s.heap = h0 → (s.vm.MethodsKnown ∧ s.vm.FramesKnown below) → s.Since vm0 k0 → k0 ≤ h0.size → PV vm0 → Stand p l e rm (s.setVm vm0) m as' below meth c T [] 0 0 → (∀ n, n ≤ h0.size → own_St p l e rm (s.setVm vm0) m as' below meth c Z y.cls bytes ml rt y.name n T h0 0 0) → own_Goal p e below (own_FinV below s rm n0 Qv) T (mkF m 0 Ls0 [])) : own_MetV l Z y bytes ml rt ws rm as' h0 n0 PV Qv := by
  refine MetFree.of_bodySF hpn hisR ?_
  intro p e s m args below meth c s₁ Bd hml0 hP hK
  obtain ⟨rfl, hZ, hh, hv⟩ := hP
  have e0 : s₁.heap = h0 := by rw [← hh, Bd.state]; rfl
  obtain ⟨s2, o, st, r1, r2, r3⟩ := body p e s m below meth c s₁ s.vm 0 hh hK ((State.WarmedH.refl s).since 0) (Nat.zero_le _) hv (Stand.of_body Bd) (fun n hn => ⟨[], Stand.of_body Bd, Fr.nil n, e0, hn, Bd.exec, hZ, findClass_of_methodNamed Bd.named, Bd.bytes, hml0, Bd.returns, Bd.notSynchronized, (name_of_methodNamed Bd.named Bd.method).1⟩)
  exact ⟨s2, o, castTop (hef m) st, r1, r2, r3⟩
theorem own_backV {y : MethodName} {rm : Room} {len W : Nat} {as' : Array Value} {PV : Vm → Prop} (hM : own_MetV l Z y bytes ml rt [] rm as' h n0 PV Qv) (hZ : Z.Warmed39 s.vm) (wc : (Jvm.Cond.code y bytes ml rt).before a0 Z = true) (wz : (Jvm.Cond.initialized y.cls).before a0 Z = true) (hf : rm.frames + 1 ≤ R.frames) (hl : W + (ml + 11) + rm.locals ≤ R.locals) (hTK : s.vm.MethodsKnown) (hBelow : s.vm.FramesKnown below) (hpv : ∀ vm', s.WarmedH vm' → PV vm') :
    BackS l R p e below s args y len W (fun A a => a = as' ∧ A.U.heap = h ∧ A.cells + rm.cells ≤ R.cells ∧ A.slots + rm.slots ≤ R.slots)
      (fun A _ v B => ∃ L, ((Qv v B.U.heap B.U.vm ∧ n0 ≤ B.U.heap.size) ∧ Fr n0 L) ∧ B.locs = A.locs ++ L ∧ B.cells = A.cells + rm.cells ∧ B.slots = A.slots + rm.slots) :=
  BackS.of_freeWG (bytes := bytes) (maxL := ml) (ret := rt) (E := fun _ _ o t L k n => k = rm.cells ∧ n = rm.slots ∧ ∃ v, o = .returned v ∧ ((Qv v t.heap t.vm ∧ n0 ≤ t.heap.size) ∧ Fr n0 L)) hM hf hl
    (fun m meth c A a Y hp => have hU : Z.Warmed39 A.U.vm := wtrans hZ Y.warmed
      ⟨by show (Jvm.Cond.and _ .tt).before a A.U = true; rw [Cond.before_and, mv hU wc]; rfl, mv hU wc, mv hU wz, hp.2.2.1, hp.2.2.2⟩)
    (fun m meth c A a g mk Y hp => ⟨hp.1, wtrans hZ Y.warmed, hp.2.1, hpv _ Y.warmed⟩)
    (fun m meth c A a g mk Y _ hg => known_frames Y hg hTK hBelow)
    (fun _ _ _ _ ⟨v, L, h1, h2, h3⟩ => ⟨L, _, _, h3, rfl, rfl, v, h1, h2⟩)
    (fun m meth c A a g mk v t L k n Y hp _ _ ⟨e1, e2, v', e3, e4⟩ => by cases e3; subst e1 e2; exact ⟨L, e4, rfl, rfl, rfl⟩)
theorem own_callV (X : own_St p l e R (s.setVm vm0) m args below meth c Z own bytes ml rt nm n0 T h cells slots) (hS : s.Since vm0 k0) (hk : k0 ≤ h.size) {y : MethodName} {yb : ByteArray} {yl : Nat} {yr : Option FieldType} {rm : Room} {as' : Array Value} {PV : Vm → Prop} {Q' : Option Value → Heap → Vm → Prop} (M : own_MetV l Z y yb yl yr [] rm as' h n0 PV Q') (Kn : s.vm.MethodsKnown ∧ s.vm.FramesKnown below) (hpv : ∀ vm', (s.setVm vm0).WarmedH vm' → PV vm') {i : Nat} (w1 : (Jvm.Cond.methodLink own i y).before a0 Z = true) (w2 : (Jvm.Cond.static y).before a0 Z = true) (w3 : (Jvm.Cond.initialized y.cls).before a0 Z = true) (w4 : (Jvm.Cond.code y yb yl yr).before a0 Z = true) (hy : y.cls ≠ "java/lang/invoke/MethodHandle" ∧ y.cls ≠ "java/lang/invoke/VarHandle") (hsz : Ls.size = ml) (hf : rm.frames + 1 ≤ R.frames) {W : Nat} (hW : (rest.map fun v => v.category).sum ≤ W) (hl : W + (yl + 11) + rm.locals ≤ R.locals) {cells' slots' : Nat} (hc' : cells + rm.cells = cells') (hs' : slots + rm.slots = slots') (hc : cells' ≤ R.cells) (hs : slots' ≤ R.slots) {argsL stk : List Value} (hlen : ∀ sig, parseMethodDescriptor y.desc = some sig → argsL.length = sig.parameters.length) (hst : stk = argsL.reverse ++ rest) (has : argsL.toArray = as') (hd : decode bytes pc = .ok (.invokestatic i, 3)) (hp : pc + 3 = pc')
    (k : ∀ v T' h' vm1 k1, s.Since vm1 k1 → k1 ≤ h'.size → own_St p l e R (s.setVm vm1) m args below meth c Z own bytes ml rt nm n0 T' h' cells' slots' → Q' v h' vm1 → own_Goal p e below Φ T' (mkF m pc' Ls (v.toList ++ rest))) : own_Goal p e below Φ T (mkF m pc Ls stk) := by
  subst hp hst has hc' hs'
  obtain ⟨locs, X, N, e1, n1, hx, hZ, hown, hby, hml, r0⟩ := X
  obtain ⟨v, vm1, ⟨T', L', k', n'⟩, -, X', hS', hgr, ⟨Lc, ⟨⟨hQ, hG⟩, NL⟩, l1, y1, z1⟩, st⟩ := callSS X hx (y := y) hown (mvT hZ w1) (mvT hZ w2) (mvT hZ w3) (mvT hZ w4) hy (own_backV (W := W) M hZ w4 w3 hf hl (Vm.MethodsKnown.alikeC hS.1.alike Kn.1) (Vm.FramesKnown.alikeC hS.1.alike Kn.2) hpv) (g := mkF m pc Ls (argsL.reverse ++ rest)) rfl (hsz.trans hml.symm) (argsL := argsL) (rest := rest) hlen rfl (by show 2 * 0 + _ ≤ _; omega) (hb hby hd) (fun _ _ => ⟨rfl, e1, hc, hs⟩)
  dsimp only [Pt.U, Pt.locs, Pt.cells, Pt.slots] at X' l1 y1 z1 st hQ hG hS' hgr
  subst l1 y1 z1
  obtain ⟨X2, hS2, hZ2, hown2⟩ := rebS hS (n1 := T.heap.size) (by rw [e1]; exact hk) X' hS' hgr hZ hown
  exact own_step (fun t b => st.trans b) (k v T' _ T'.vm _ hS2 (Nat.le_refl _) ⟨_, X2, Fr.app N NL, rfl, hG, hx, hZ2, hown2, hby, hml, r0⟩ hQ)
theorem own_specialV (X : own_St p l e R (s.setVm vm0) m args below meth c Z own bytes ml rt nm n0 T h cells slots) (hS : s.Since vm0 k0) (hk : k0 ≤ h.size) {y : MethodName} {yb : ByteArray} {yl : Nat} {yr : Option FieldType} {rm : Room} {as' : Array Value} {PV : Vm → Prop} {Q' : Option Value → Heap → Vm → Prop} (M : own_MetV l Z y yb yl yr [] rm as' h n0 PV Q') (Kn : s.vm.MethodsKnown ∧ s.vm.FramesKnown below) (hpv : ∀ vm', (s.setVm vm0).WarmedH vm' → PV vm') (hy1 : y.name = "<init>") (hyr : yr = none) {i : Nat} (w1 : (Jvm.Cond.methodLink own i y).before a0 Z = true) (w2 : (Jvm.Cond.instanceMethod y).before a0 Z = true) (w3 : (Jvm.Cond.initialized y.cls).before a0 Z = true) (w4 : (Jvm.Cond.code y yb yl yr).before a0 Z = true) (hy : y.cls ≠ "java/lang/invoke/MethodHandle" ∧ y.cls ≠ "java/lang/invoke/VarHandle") (hsz : Ls.size = ml) (hf : rm.frames + 1 ≤ R.frames) {W : Nat} (hW : (rest.map fun v => v.category).sum ≤ W) (hl : W + (yl + 11) + rm.locals ≤ R.locals) {cells' slots' : Nat} (hc' : cells + rm.cells = cells') (hs' : slots + rm.slots = slots') (hc : cells' ≤ R.cells) (hs : slots' ≤ R.slots) {a : Addr} {argsL stk : List Value} (hlen : ∀ sig, parseMethodDescriptor y.desc = some sig → argsL.length = sig.parameters.length) (hst : stk = argsL.reverse ++ .ref a :: rest) (has : (.ref a :: argsL).toArray = as') (hd : decode bytes pc = .ok (.invokespecial i, 3)) (hp : pc + 3 = pc')
    (k : ∀ v T' h' vm1 k1, s.Since vm1 k1 → k1 ≤ h'.size → own_St p l e R (s.setVm vm1) m args below meth c Z own bytes ml rt nm n0 T' h' cells' slots' → Q' v h' vm1 → own_Goal p e below Φ T' (mkF m pc' Ls (v.toList ++ rest))) : own_Goal p e below Φ T (mkF m pc Ls stk) := by
  subst hp hst has hc' hs' hyr
  obtain ⟨locs, X, N, e1, n1, hx, hZ, hown, hby, hml, r0⟩ := X
  obtain ⟨v, vm1, ⟨T', L', k', n'⟩, -, X', hS', hgr, ⟨Lc, ⟨⟨hQ, hG⟩, NL⟩, l1, y1, z1⟩, st⟩ := X.specialBackS hx (y := y) hy1 hown (mvT hZ w1) (mvT hZ w2) (mvT hZ w4) hy (own_backV (W := W) M hZ w4 w3 hf hl (Vm.MethodsKnown.alikeC hS.1.alike Kn.1) (Vm.FramesKnown.alikeC hS.1.alike Kn.2) hpv) (g := mkF m pc Ls (argsL.reverse ++ .ref a :: rest)) rfl (hsz.trans hml.symm) (Steps.refl _) (a := a) (argsL := argsL) (rest := rest) hlen rfl (by show 2 * 0 + _ ≤ _; omega) (hb hby hd) (fun _ _ => ⟨rfl, e1, hc, hs⟩)
  dsimp only [Pt.U, Pt.locs, Pt.cells, Pt.slots] at X' l1 y1 z1 st hQ hG hS' hgr
  subst l1 y1 z1
  obtain ⟨X2, hS2, hZ2, hown2⟩ := rebS hS (n1 := T.heap.size) (by rw [e1]; exact hk) X' hS' hgr hZ hown
  exact own_step (fun t b => st.trans b) (k v T' _ T'.vm _ hS2 (Nat.le_refl _) ⟨_, X2, Fr.app N NL, rfl, hG, hx, hZ2, hown2, hby, hml, r0⟩ hQ)
theorem own_virtualV (X : own_St p l e R (s.setVm vm0) m args below meth c Z own bytes ml rt nm n0 T h cells slots) (hS : s.Since vm0 k0) (hk : k0 ≤ h.size) {y : MethodName} {yb : ByteArray} {yl : Nat} {yr : Option FieldType} {rm : Room} {as' : Array Value} {PV : Vm → Prop} {Q' : Option Value → Heap → Vm → Prop} (M : own_MetV l Z y yb yl yr [] rm as' h n0 PV Q') (Kn : s.vm.MethodsKnown ∧ s.vm.FramesKnown below) (hpv : ∀ vm', (s.setVm vm0).WarmedH vm' → PV vm') {C : String} {z : MethodName} {i : Nat} (hz : y = z) (w1 : (Jvm.Cond.methodLink own i z).before a0 Z = true) (wd : (Jvm.Cond.declares z).before a0 Z = true) (wsl : (Jvm.Cond.selects C z y).before a0 Z = true) (w2 : (Jvm.Cond.instanceMethod y).before a0 Z = true) (w3 : (Jvm.Cond.initialized y.cls).before a0 Z = true) (w4 : (Jvm.Cond.code y yb yl yr).before a0 Z = true) (hy : y.cls ≠ "java/lang/invoke/MethodHandle" ∧ y.cls ≠ "java/lang/invoke/VarHandle") (hsz : Ls.size = ml) (hf : rm.frames + 1 ≤ R.frames) {W : Nat} (hW : (rest.map fun v => v.category).sum ≤ W) (hl : W + (yl + 11) + rm.locals ≤ R.locals) {cells' slots' : Nat} (hc' : cells + rm.cells = cells') (hs' : slots + rm.slots = slots') (hc : cells' ≤ R.cells) (hs : slots' ≤ R.slots) {a : Addr} (E : Exa Z h a C) {argsL stk : List Value} (hlen : ∀ sig, parseMethodDescriptor y.desc = some sig → argsL.length = sig.parameters.length) (hst : stk = argsL.reverse ++ .ref a :: rest) (has : (.ref a :: argsL).toArray = as') (hd : decode bytes pc = .ok (.invokevirtual i, 3)) (hp : pc + 3 = pc')
    (k : ∀ v T' h' vm1 k1, s.Since vm1 k1 → k1 ≤ h'.size → own_St p l e R (s.setVm vm1) m args below meth c Z own bytes ml rt nm n0 T' h' cells' slots' → Q' v h' vm1 → own_Goal p e below Φ T' (mkF m pc' Ls (v.toList ++ rest))) : own_Goal p e below Φ T (mkF m pc Ls stk) := by
  subst hp hst has hc' hs' hz
  obtain ⟨locs, X, N, e1, n1, hx, hZ, hown, hby, hml, r0⟩ := X
  obtain ⟨cq, kq, qa, qb, qc⟩ := isOf (T := T) hZ e1 E
  obtain ⟨v, vm1, ⟨T', L', k', n'⟩, -, X', hS', hgr, ⟨Lc, ⟨⟨hQ, hG⟩, NL⟩, l1, y1, z1⟩, st⟩ := X.virtualBackS hx (y := y) (z := y) hown (mvT hZ w1) (mvT hZ wd) (notFace_of_selects (args := #[]) (mvT hZ wsl)) (mvT hZ wsl) (mvT hZ w2) hy (own_backV (W := W) M hZ w4 w3 hf hl (Vm.MethodsKnown.alikeC hS.1.alike Kn.1) (Vm.FramesKnown.alikeC hS.1.alike Kn.2) hpv) qa qc (g := mkF m pc Ls (argsL.reverse ++ .ref a :: rest)) rfl (hsz.trans hml.symm) (Steps.refl _) (argsL := argsL) (rest := rest) hlen rfl (by show 2 * 0 + _ ≤ _; omega) (hb hby hd) (fun _ _ => ⟨rfl, e1, hc, hs⟩)
  dsimp only [Pt.U, Pt.locs, Pt.cells, Pt.slots] at X' l1 y1 z1 st hQ hG hS' hgr
  subst l1 y1 z1
  obtain ⟨X2, hS2, hZ2, hown2⟩ := rebS hS (n1 := T.heap.size) (by rw [e1]; exact hk) X' hS' hgr hZ hown
  exact own_step (fun t b => st.trans b) (k v T' _ T'.vm _ hS2 (Nat.le_refl _) ⟨_, X2, Fr.app N NL, rfl, hG, hx, hZ2, hown2, hby, hml, r0⟩ hQ)
theorem own_ldcL (X : own_St p l e R (s.setVm vm0) m args below meth c Z own bytes ml rt nm n0 T h cells slots) (hS : s.Since vm0 k0) (hk : k0 ≤ h.size) (hs0 : s.heap.size = n0) (hkeep : ∀ (b : Addr) (cl : Cell), Z.heap[b]? = some cl → s.heap[b]? = some cl) (I : IB Z vm0 []) {i : Nat} (hh : Jvm.Lit.constHeld Z own i) (hcw : Jvm.Lit.compactW.before a0 Z = true)
    (w : (Jvm.Cond.stringLink own i "").before a0 Z = true) (wS : ∀ d ∈ Bundle.stringAtoms, d.before a0 Z = true) {cells' slots' : Nat} (hc' : cells + 2 = cells') (hs' : slots + 4 = slots') (hc : cells' ≤ R.cells) (hs : slots' ≤ R.slots) (hd : decode bytes pc = .ok (.ldc i, 2)) (hp : pc + 2 = pc')
    (k : ∀ a b T' h' vm1 k1, s.Since vm1 k1 → k1 ≤ h'.size → own_St p l e R (s.setVm vm1) m args below meth c Z own bytes ml rt nm n0 T' h' cells' slots' → Ext h h' → Exa Z h' a "java/lang/String" → Fld Z h' a "java/lang/String" "coder" "B" (.int 0) → Fld Z h' a "java/lang/String" "value" "[B" (.ref b) → own_Vec Z h' b .byte [] → IB Z vm1 [""] → Lit (s.setVm vm1) own i a → own_Goal p e below Φ T' (mkF m pc' Ls (.ref a :: rest))) : own_Goal p e below Φ T (mkF m pc Ls rest) := by
  subst hp hc' hs' hs0
  obtain ⟨locs, X, N, e1, n1, hx, hZ, hown, hby, r0⟩ := X
  obtain ⟨a, T', h', k1, b, kc, X', e', E, hS', hk', hZ', hown', A, F1, F2, V, -, -, I', L', st⟩ := ldcSVL X hx hZ hown w wS e1 hS hk N hkeep I (by simp) hh hcw (vs := []) (z := 0) ⟨by simp, by simp⟩ (by decide) (by decide) (g := mkF m pc Ls rest) rfl (hb hby hd) (n := 0) (by simp) (by decide) hc hs
  exact own_step st (k a b T' h' T'.vm k1 hS' hk' ⟨_, X', N, e', Nat.le_trans n1 E.1, hx, hZ', hown', hby, r0⟩ E A F1 F2 (own_Vec.ofArv V (by decide)) I' L')
theorem own_ldcR (X : own_St p l e R (s.setVm vm0) m args below meth c Z own bytes ml rt nm n0 T h cells slots) {i : Nat} {text : String} (w : (Jvm.Cond.stringLink own i text).before a0 Z = true) {a : Addr} (L : Lit (s.setVm vm0) own i a) (hd : decode bytes pc = .ok (.ldc i, 2)) (hp : pc + 2 = pc') (k : own_Goal p e below Φ T (mkF m pc' Ls (.ref a :: rest))) : own_Goal p e below Φ T (mkF m pc Ls rest) := by
  subst hp
  obtain ⟨locs, X, N, e1, n1, hx, hZ, hown, hby, r0⟩ := X
  exact own_step (ldcAgain X hx hZ hown w L (g := mkF m pc Ls rest) rfl (hb hby hd)) k
theorem own_newU (X : own_St p l e R s m args below meth c Z own bytes ml rt nm n0 T h cells slots) {i : Nat} {C : String} {n : Nat} (w : (Jvm.Cond.classLink own i C).before a0 Z = true) (wi : (Jvm.Cond.instantiable C n).before a0 Z = true) (wz : (Jvm.Cond.initialized C).before a0 Z = true) {cells' slots' : Nat} (hc' : cells + 1 = cells') (hs' : slots + n = slots') (hc : cells' ≤ R.cells) (hs : slots' ≤ R.slots) (hd : decode bytes pc = .ok (.new i, 3)) (hp : pc + 3 = pc')
    (k : ∀ a T' h', a = h.size → n0 ≤ a → own_St p l e R s m args below meth c Z own bytes ml rt nm n0 T' h' cells' slots' → Ext h h' → Exa Z h' a C → (∀ {O nm d : String} {ty : FieldType}, Laid Z a0 C O nm d → parseFieldDescriptor d = some ty → Fld Z h' a O nm d (defaultValue ty)) → Unt h' a → own_Goal p e below Φ T' (mkF m pc' Ls (.ref a :: rest))) : own_Goal p e below Φ T (mkF m pc Ls rest) := by
  subst hp hc' hs'
  obtain ⟨locs, X, N, e1, n1, hx, hZ, hown, hby, r0⟩ := X
  obtain ⟨T', h', X', e', E, A, D, U, st⟩ := newO X hx hZ hown w wi wz e1 (g := mkF m pc Ls _) rfl (hb hby hd) hc hs
  exact own_step st (k _ T' h' rfl n1 ⟨_, X', N, e', Nat.le_trans n1 E.1, hx, hZ, hown, hby, r0⟩ E A D U)
theorem own_all_cons {d : Jvm.Cond} {L : List Jvm.Cond} (h1 : d.before a0 Z = true) (h2 : ∀ x ∈ L, x.before a0 Z = true) : ∀ x ∈ d :: L, x.before a0 Z = true := fun x hx => (List.mem_cons.mp hx).elim (fun q => q ▸ h1) (h2 x)
theorem own_all_nil : ∀ x ∈ ([] : List Jvm.Cond), x.before a0 Z = true := fun _ q => nomatch q
end OwnLit
theorem own_d_prog_25_method_1_code_0 : decode prog_25_method_1_code 0 = .ok (.aload_n 0, 1) := by decide +kernel
theorem own_d_prog_25_method_1_code_1 : decode prog_25_method_1_code 1 = .ok (.invokespecial 1, 3) := by decide +kernel
theorem own_d_prog_25_method_1_code_4 : decode prog_25_method_1_code 4 = .ok (.aload_n 0, 1) := by decide +kernel
theorem own_d_prog_25_method_1_code_5 : decode prog_25_method_1_code 5 = .ok (.aload_n 1, 1) := by decide +kernel
theorem own_d_prog_25_method_1_code_6 : decode prog_25_method_1_code 6 = .ok (.putfield 7, 3) := by decide +kernel
theorem own_d_prog_25_method_1_code_9 : decode prog_25_method_1_code 9 = .ok (.aload_n 0, 1) := by decide +kernel
theorem own_d_prog_25_method_1_code_10 : decode prog_25_method_1_code 10 = .ok (.aload_n 2, 1) := by decide +kernel
theorem own_d_prog_25_method_1_code_11 : decode prog_25_method_1_code 11 = .ok (.putfield 13, 3) := by decide +kernel
theorem own_d_prog_25_method_1_code_14 : decode prog_25_method_1_code 14 = .ok (.aload_n 0, 1) := by decide +kernel
theorem own_d_prog_25_method_1_code_15 : decode prog_25_method_1_code 15 = .ok (.aload_n 3, 1) := by decide +kernel
theorem own_d_prog_25_method_1_code_16 : decode prog_25_method_1_code 16 = .ok (.invokeinterface 16 1, 5) := by decide +kernel
theorem own_d_prog_25_method_1_code_21 : decode prog_25_method_1_code 21 = .ok (.putfield 22, 3) := by decide +kernel
theorem own_d_prog_25_method_1_code_24 : decode prog_25_method_1_code 24 = .ok (.return_, 1) := by decide +kernel
theorem own_pd36 : parseMethodDescriptor "(Ljava/lang/String;Ljava/lang/String;Ljava/util/List;)V" = some ⟨[(.object "java/lang/String"), (.object "java/lang/String"), (.object "java/util/List")], none⟩ := by decide +kernel
theorem own_pn12 : plainName "com/example/arborview/arborview/cli/Arguments" = true := by first | (simp [plainName, overriddenIn]; done) | decide +kernel
abbrev own_rm_own_agi : Room := ({ frames := 3, cells := 1, slots := 4, locals := 39 } : Room)
set_option maxRecDepth 65536 in
set_option maxHeartbeats 40000000 in
theorem own_agi (l : Launch) (Z : State) (a0 : Array Value) (hw : ∀ d ∈ tables_1, d.before a0 Z = true) (a1 s1 s2 l1 : Addr) (h0 : Heap) (n0 : Nat) (Z0 : n0 ≤ h0.size) (ge1 : n0 ≤ a1) (A1 : Exa Z h0 a1 "com/example/arborview/arborview/cli/Arguments") (F1 : Fld Z h0 a1 "com/example/arborview/arborview/cli/Arguments" "subcommand" "Ljava/lang/String;" .null) (F2 : Fld Z h0 a1 "com/example/arborview/arborview/cli/Arguments" "usage" "Ljava/lang/String;" .null) (F3 : Fld Z h0 a1 "com/example/arborview/arborview/cli/Arguments" "rest" "Ljava/util/Iterator;" .null) (A2 : Exa Z h0 l1 "java/util/ArrayList") (F4 : Fld Z h0 l1 "java/util/AbstractList" "modCount" "I" (.int (0 : Int32))) (NL : a1 ≠ l1) :
    own_Met l Z ({ cls := "com/example/arborview/arborview/cli/Arguments", name := "<init>", desc := "(Ljava/lang/String;Ljava/lang/String;Ljava/util/List;)V" } : Jvm.MethodName) prog_25_method_1_code 4 none [] own_rm_own_agi #[(.ref a1), (.ref s1), (.ref s2), (.ref l1)] h0 n0 (fun v h => v = none ∧ Exa Z h a1 "com/example/arborview/arborview/cli/Arguments" ∧ Fld Z h a1 "com/example/arborview/arborview/cli/Arguments" "subcommand" "Ljava/lang/String;" (.ref s1) ∧ Fld Z h a1 "com/example/arborview/arborview/cli/Arguments" "usage" "Ljava/lang/String;" (.ref s2) ∧ Keep h0 h [a1]) := by
  have ww := fun (i : Nat) {d : Jvm.Cond} (q : tables_1[i]? = some d) => hw d (List.mem_of_getElem? q)
  refine own_meet (plainFor_of_name own_pn12) Z0 (Ls0 := #[oA a1, oA s1, oA s2, oA l1]) (by intro m; first | (simp [entryFrame, mkF, argsToLocals, Value.category]; done) | rfl) ?_
  intro p e s m below meth c T0 X0
  have K0 := Keep.refl h0 [a1]
  refine own_aloadN X0 rfl rfl own_d_prog_25_method_1_code_0 (pc' := 1) rfl ?_
  refine own_initO X0 (ww 68 rfl) (ww 17 rfl) (ww 18 rfl) rfl (by decide) (W := 0) (Nat.le_of_eq rfl) (by decide) own_d_prog_25_method_1_code_1 (pc' := 4) rfl fun T631 X631 => ?_
  refine own_aloadN X631 rfl rfl own_d_prog_25_method_1_code_4 (pc' := 5) rfl ?_
  refine own_aloadN X631 rfl rfl own_d_prog_25_method_1_code_5 (pc' := 6) rfl ?_
  refine own_putF X631 (ww 69 rfl) F1 A1 (Or.inr ⟨(ww 70 rfl), rfl, rfl⟩) (ww 39 rfl) (ty := (.object "java/lang/String")) (by decide) rfl rfl ge1 own_d_prog_25_method_1_code_6 (pc' := 9) rfl fun T632 h632 X632 W632 => ?_
  have A633 := A1.wr W632
  have A634 := A2.wr W632
  have F635 := F4.other W632 (Or.inl NL.symm)
  have K636 := K0.wr W632 (Or.inl (by simp))
  have F637 := F1.same W632
  have F638 := F2.other W632 (Or.inr (slot_ne (C := "com/example/arborview/arborview/cli/Arguments") (Or.inr (ww 72 rfl)) (Or.inr (ww 70 rfl)) (by decide) (t := (.object "java/lang/String")) (t' := (.object "java/lang/String")) (by decide) (by decide)))
  have F639 := F3.other W632 (Or.inr (slot_ne (C := "com/example/arborview/arborview/cli/Arguments") (Or.inr (ww 99 rfl)) (Or.inr (ww 70 rfl)) (by decide) (t := (.object "java/util/Iterator")) (t' := (.object "java/lang/String")) (by decide) (by decide)))
  refine own_aloadN X632 rfl rfl own_d_prog_25_method_1_code_9 (pc' := 10) rfl ?_
  refine own_aloadN X632 rfl rfl own_d_prog_25_method_1_code_10 (pc' := 11) rfl ?_
  refine own_putF X632 (ww 71 rfl) F638 A633 (Or.inr ⟨(ww 72 rfl), rfl, rfl⟩) (ww 39 rfl) (ty := (.object "java/lang/String")) (by decide) rfl rfl ge1 own_d_prog_25_method_1_code_11 (pc' := 14) rfl fun T640 h640 X640 W640 => ?_
  have A641 := A633.wr W640
  have A642 := A634.wr W640
  have F643 := F635.other W640 (Or.inl NL.symm)
  have K644 := K636.wr W640 (Or.inl (by simp))
  have F645 := F638.same W640
  have F646 := F637.other W640 (Or.inr (slot_ne (C := "com/example/arborview/arborview/cli/Arguments") (Or.inr (ww 70 rfl)) (Or.inr (ww 72 rfl)) (by decide) (t := (.object "java/lang/String")) (t' := (.object "java/lang/String")) (by decide) (by decide)))
  have F647 := F639.other W640 (Or.inr (slot_ne (C := "com/example/arborview/arborview/cli/Arguments") (Or.inr (ww 99 rfl)) (Or.inr (ww 72 rfl)) (by decide) (t := (.object "java/util/Iterator")) (t' := (.object "java/lang/String")) (by decide) (by decide)))
  refine own_aloadN X640 rfl rfl own_d_prog_25_method_1_code_14 (pc' := 15) rfl ?_
  refine own_aloadN X640 rfl rfl own_d_prog_25_method_1_code_15 (pc' := 16) rfl ?_
  refine own_iface X640 (own_itr l Z a0 hw l1 _ n0 X640.le A642 F643) (ww 73 rfl) (ww 74 rfl) (ww 75 rfl) rfl (ww 76 rfl) (ww 77 rfl) (ww 78 rfl) (ww 79 rfl) (ww 80 rfl) (ww 43 rfl) (ww 81 rfl) (by decide) rfl (by decide) (W := 1) (Nat.le_of_eq rfl) (by decide) (cells' := 1) (slots' := 4) rfl rfl (by decide) (by decide) A642 (argsL := []) (rest := [(.ref a1)]) (lenOf own_pd35 rfl) rfl rfl own_d_prog_25_method_1_code_16 (pc' := 21) rfl ?_
  rintro _ T648 h648 X648 ⟨r648, rfl, K648⟩
  have A649 := A641.keep K648
  have F650 := F645.keep K648 nin0
  have F651 := F646.keep K648 nin0
  have F652 := F647.keep K648 nin0
  have A653 := A642.keep K648
  have F654 := F643.keep K648 nin0
  have K655 := K644.trans K648 own_mem0
  show own_Goal p e below _ T648 (mkF m 21 #[oA a1, oA s1, oA s2, oA l1] [(.ref r648), (.ref a1)])
  refine own_putF X648 (ww 98 rfl) F652 A649 (Or.inr ⟨(ww 99 rfl), rfl, rfl⟩) (ww 39 rfl) (ty := (.object "java/util/Iterator")) (by decide) rfl rfl ge1 own_d_prog_25_method_1_code_21 (pc' := 24) rfl fun T656 h656 X656 W656 => ?_
  have A657 := A649.wr W656
  have A658 := A653.wr W656
  have F659 := F654.other W656 (Or.inl NL.symm)
  have K660 := K655.wr W656 (Or.inl (by simp))
  have F661 := F652.same W656
  have F662 := F650.other W656 (Or.inr (slot_ne (C := "com/example/arborview/arborview/cli/Arguments") (Or.inr (ww 72 rfl)) (Or.inr (ww 99 rfl)) (by decide) (t := (.object "java/lang/String")) (t' := (.object "java/util/Iterator")) (by decide) (by decide)))
  have F663 := F651.other W656 (Or.inr (slot_ne (C := "com/example/arborview/arborview/cli/Arguments") (Or.inr (ww 70 rfl)) (Or.inr (ww 99 rfl)) (by decide) (t := (.object "java/lang/String")) (t' := (.object "java/util/Iterator")) (by decide) (by decide)))
  exact own_retV X656  own_d_prog_25_method_1_code_24 rfl (by decide) (by decide) ⟨rfl, A657, F663, F662, K660⟩
theorem own_wS {Z : State} {a0 : Array Value} (hw : ∀ d ∈ tables_1, d.before a0 Z = true) : ∀ d ∈ Bundle.stringAtoms, d.before a0 Z = true := by
  have ww := fun (i : Nat) {d : Jvm.Cond} (q : tables_1[i]? = some d) => hw d (List.mem_of_getElem? q)
  exact own_all_cons (ww 7 rfl) (own_all_cons (ww 6 rfl) (own_all_cons (ww 24 rfl) (own_all_cons (ww 34 rfl) (own_all_cons (ww 32 rfl) (own_all_cons (ww 36 rfl) (own_all_cons (ww 37 rfl) own_all_nil))))))
theorem own_ch0 : own_ch [] := fun _ q => nomatch q
theorem own_ch1 {c : Int32} (h : 0 ≤ c.toInt ∧ c.toInt ≤ 65535) : own_ch [c] := fun x hx => by cases List.mem_singleton.mp hx; exact h
theorem own_ch2 {c d : Int32} (h : 0 ≤ c.toInt ∧ c.toInt ≤ 65535) (h' : 0 ≤ d.toInt ∧ d.toInt ≤ 65535) : own_ch [c, d] := fun x hx => by
  rcases List.mem_cons.mp hx with rfl | hx
  · exact h
  · cases List.mem_singleton.mp hx; exact h'
def own_tk (n : Nat) (c d : Int32) : List Int32 := [c, d].take n
theorem own_tk_len {n : Nat} (h : n ≤ 2) (c d : Int32) : (own_tk n c d).length = n := by simp [own_tk]; omega
theorem own_tk_ch {n : Nat} {c d : Int32} (h : 0 ≤ c.toInt ∧ c.toInt ≤ 65535) (h' : 0 ≤ d.toInt ∧ d.toInt ≤ 65535) : own_ch (own_tk n c d) := fun x hx => own_ch2 h h' x (List.mem_of_mem_take hx)
abbrev own_rm_own_s4e : Room := ({ frames := 1, cells := 2, slots := 4, locals := 12 } : Room)
set_option maxRecDepth 65536 in
set_option maxHeartbeats 40000000 in
theorem own_s4t (l : Launch) (Z : State) (a0 : Array Value) (hw : ∀ d ∈ tables_1, d.before a0 Z = true) (a1 a2 aL bL : Addr) (h0 : Heap) (n0 : Nat) {p : Program} {e : Env} {s : State} {m : MethodId} {below : List Frame} {meth : Method} {c : Code} {vm0 : Vm} {k0 : Nat} (T0 : State) (hL : Heap) (hS0 : s.Since vm0 k0) (hk0 : k0 ≤ hL.size)
    (X0 : own_St p l e own_rm_own_s4e (s.setVm vm0) m #[(.ref a1), (.ref a2), (.int (0 : Int32)), (.int (0 : Int32)), .null] below meth c Z "java/lang/String" jdk_42_method_149_code 6 none "<init>" n0 T0 hL 2 4) (ge1 : n0 ≤ a1) (K0 : Keep h0 hL [a1]) (A1 : Exa Z hL a1 "java/lang/String") (F1 : Fld Z hL a1 "java/lang/String" "coder" "B" (.int (0 : Int32))) (F2 : Fld Z hL a1 "java/lang/String" "value" "[B" .null) (A2 : Exa Z hL aL "java/lang/String") (F3 : Fld Z hL aL "java/lang/String" "coder" "B" (.int (0 : Int32))) (F4 : Fld Z hL aL "java/lang/String" "value" "[B" (.ref bL)) (V4 : own_Vec Z hL bL .byte []) (I0 : IB Z vm0 [""]) (L0 : Lit (s.setVm vm0) "java/lang/String" 7 aL) :
    own_Goal p e below (own_FinV below s own_rm_own_s4e n0 (fun v h vm => v = none ∧ own_Str Z h a1 [] ∧ Keep h0 h [a1] ∧ own_Lt Z h vm)) T0 (mkF m 11 #[oA a1, oA a2, oI 0, oI 0, .val .null, oU] [(.ref aL), (.ref a1)]) := by
  have ww := fun (i : Nat) {d : Jvm.Cond} (q : tables_1[i]? = some d) => hw d (List.mem_of_getElem? q)
  have N1 : a1 ≠ aL := own_fldne F2 F4 (by simp)
  have N2 : a1 ≠ bL := own_exavec A1 V4 (ww 6 rfl)
  refine own_getF X0 (ww 33 rfl) F4 own_d_jdk_42_method_149_code_11 (pc' := 14) rfl fun T664 X664 => ?_
  refine own_putF X664 (ww 33 rfl) F2 A1 (Or.inr ⟨(ww 34 rfl), rfl, rfl⟩) (ww 6 rfl) (ty := (.array .byte)) (by decide) rfl rfl ge1 own_d_jdk_42_method_149_code_14 (pc' := 17) rfl fun T665 h665 X665 W665 => ?_
  have A666 := A1.wr W665
  have A667 := A2.wr W665
  have F668 := F3.other W665 (Or.inl N1.symm)
  have F669 := F4.other W665 (Or.inl N1.symm)
  have V670 := V4.other W665 N2.symm
  have hk671 := own_hk_wr hk0 W665
  have K672 := K0.wr W665 (Or.inl (by simp))
  have F673 := F2.same W665
  have F674 := F1.other W665 (Or.inr (slot_ne (C := "java/lang/String") (Or.inr (ww 32 rfl)) (Or.inr (ww 34 rfl)) (by decide) (t := .byte) (t' := (.array .byte)) (by decide) (by decide)))
  refine own_aloadN X665 rfl rfl own_d_jdk_42_method_149_code_17 (pc' := 18) rfl ?_
  refine own_ldcR X665 (ww 35 rfl) L0 own_d_jdk_42_method_149_code_18 (pc' := 20) rfl ?_
  refine own_getF X665 (ww 31 rfl) F668 own_d_jdk_42_method_149_code_20 (pc' := 23) rfl fun T675 X675 => ?_
  refine own_putF X675 (ww 31 rfl) F674 A666 (Or.inr ⟨(ww 32 rfl), rfl, rfl⟩) (ww 6 rfl) (ty := .byte) (by decide) rfl rfl ge1 own_d_jdk_42_method_149_code_23 (pc' := 26) rfl fun T676 h676 X676 W676 => ?_
  have A677 := A666.wr W676
  have A678 := A667.wr W676
  have F679 := F668.other W676 (Or.inl N1.symm)
  have F680 := F669.other W676 (Or.inl N1.symm)
  have V681 := V670.other W676 N2.symm
  have hk682 := own_hk_wr hk671 W676
  have K683 := K672.wr W676 (Or.inl (by simp))
  have F684 := F674.same W676
  have F685 := F673.other W676 (Or.inr (slot_ne (C := "java/lang/String") (Or.inr (ww 34 rfl)) (Or.inr (ww 32 rfl)) (by decide) (t := (.array .byte)) (t' := .byte) (by decide) (by decide)))
  exact own_retVV X676 hS0 hk682  own_d_jdk_42_method_149_code_26 rfl (by decide) (by decide) (fun vm' W' => ⟨rfl, ⟨A677, F684, bL, F685, V681⟩, K683, own_Lt.warm (Or.inr ⟨I0, aL, bL, (show Lit (Z.setVm vm0) _ _ _ from L0), A678, F679, F680, V681⟩) W'⟩)
set_option maxRecDepth 65536 in
set_option maxHeartbeats 40000000 in
theorem own_s4e (l : Launch) (Z : State) (a0 : Array Value) (hw : ∀ d ∈ tables_1, d.before a0 Z = true) (a1 a2 : Addr) (h0 : Heap) (n0 : Nat) (Z0 : n0 ≤ h0.size) (ge1 : n0 ≤ a1) (A1 : Exa Z h0 a1 "java/lang/String") (F1 : Fld Z h0 a1 "java/lang/String" "coder" "B" (.int (0 : Int32))) (F2 : Fld Z h0 a1 "java/lang/String" "value" "[B" .null) (KZ : Keep Z.heap h0 []) (hh7 : Jvm.Lit.constHeld Z "java/lang/String" 7) (hcw : Jvm.Lit.compactW.before a0 Z = true) :
    own_MetV l Z ({ cls := "java/lang/String", name := "<init>", desc := "([CIILjava/lang/Void;)V" } : Jvm.MethodName) jdk_42_method_149_code 6 none [] own_rm_own_s4e #[(.ref a1), (.ref a2), (.int (0 : Int32)), (.int (0 : Int32)), .null] h0 n0 (own_Lt Z h0) (fun v h vm => v = none ∧ own_Str Z h a1 [] ∧ Keep h0 h [a1] ∧ own_Lt Z h vm) := by
  have ww := fun (i : Nat) {d : Jvm.Cond} (q : tables_1[i]? = some d) => hw d (List.mem_of_getElem? q)
  refine own_meetV (plainFor_of_name own_pn1) Z0 (Ls0 := #[oA a1, oA a2, oI 0, oI 0, .val .null, oU]) (by intro m; first | (simp [entryFrame, mkF, argsToLocals, Value.category]; done) | rfl) ?_
  intro p e s m below meth c T0 vm0 k0 hsh Kn hS0 hk0 P0 X00 XX0
  have X0 := XX0 h0.size (Nat.le_refl _)
  refine own_aloadN X0 rfl rfl own_d_jdk_42_method_149_code_0 (pc' := 1) rfl ?_
  refine own_initO X0 (ww 16 rfl) (ww 17 rfl) (ww 18 rfl) rfl (by decide) (W := 0) (Nat.le_of_eq rfl) (by decide) own_d_jdk_42_method_149_code_1 (pc' := 4) rfl fun T1 X1 => ?_
  refine own_iloadN X1 rfl own_d_jdk_42_method_149_code_4 (pc' := 5) rfl ?_
  refine own_ifF X1 (by decide) own_d_jdk_42_method_149_code_5 (pc' := 8) rfl ?_
  refine own_aloadN X1 rfl rfl own_d_jdk_42_method_149_code_8 (pc' := 9) rfl ?_
  rcases P0 with I | ⟨I, aL, bL, L0, A2, F3, F4, V4⟩
  · refine own_ldcL X1 hS0 hk0 (by rw [hsh]) (fun b cl q => by rw [hsh]; exact KZ.2.1 b cl q nin0) I hh7 hcw (ww 35 rfl) (own_wS hw) (cells' := 2) (slots' := 4) rfl rfl (by decide) (by decide) own_d_jdk_42_method_149_code_9 (pc' := 11) rfl fun aL bL T2 h2 vm2 k2 hS2 hk2 X2 E2 A2 F3 F4 V4 I2 L2 => ?_
    exact own_s4t l Z a0 hw a1 a2 aL bL h0 n0 T2 h2 hS2 hk2 (X2.mono Z0) ge1 ((Keep.refl h0 [a1]).ext E2) (A1.ext E2) (F1.ext E2) (F2.ext E2) A2 F3 F4 V4 I2 L2
  · refine own_ldcR X1 (ww 35 rfl) (show Lit (s.setVm vm0) _ _ _ from L0) own_d_jdk_42_method_149_code_9 (pc' := 11) rfl ?_
    exact own_s4t l Z a0 hw a1 a2 aL bL h0 n0 T1 h0 hS0 hk0 ((X1.mono Z0).more (by decide) (by decide)) ge1 (Keep.refl h0 [a1]) A1 F1 F2 A2 F3 F4 V4 I L0
abbrev own_rm_own_s1e : Room := ({ frames := 2, cells := 2, slots := 4, locals := 29 } : Room)
set_option maxRecDepth 65536 in
set_option maxHeartbeats 40000000 in
theorem own_s1e (l : Launch) (Z : State) (a0 : Array Value) (hw : ∀ d ∈ tables_1, d.before a0 Z = true) (a1 a2 : Addr) (h0 : Heap) (n0 : Nat) (Z0 : n0 ≤ h0.size) (ge1 : n0 ≤ a1) (A1 : Exa Z h0 a1 "java/lang/String") (F1 : Fld Z h0 a1 "java/lang/String" "coder" "B" (.int (0 : Int32))) (F2 : Fld Z h0 a1 "java/lang/String" "value" "[B" .null) (V1 : own_Vec Z h0 a2 .char []) (KZ : Keep Z.heap h0 []) (hh7 : Jvm.Lit.constHeld Z "java/lang/String" 7) (hcw : Jvm.Lit.compactW.before a0 Z = true) :
    own_MetV l Z ({ cls := "java/lang/String", name := "<init>", desc := "([C)V" } : Jvm.MethodName) jdk_42_method_3_code 2 none [] own_rm_own_s1e #[(.ref a1), (.ref a2)] h0 n0 (own_Lt Z h0) (fun v h vm => v = none ∧ own_Str Z h a1 [] ∧ Keep h0 h [a1] ∧ own_Lt Z h vm) := by
  have ww := fun (i : Nat) {d : Jvm.Cond} (q : tables_1[i]? = some d) => hw d (List.mem_of_getElem? q)
  refine own_meetV (plainFor_of_name own_pn1) Z0 (Ls0 := #[oA a1, oA a2]) (by intro m; first | (simp [entryFrame, mkF, argsToLocals, Value.category]; done) | rfl) ?_
  intro p e s m below meth c T0 vm0 k0 hsh Kn hS0 hk0 P0 X00 XX0
  have X0 := XX0 n0 Z0
  refine own_aloadN X0 rfl rfl own_d_jdk_42_method_3_code_0 (pc' := 1) rfl ?_
  refine own_aloadN X0 rfl rfl own_d_jdk_42_method_3_code_1 (pc' := 2) rfl ?_
  refine own_iconst X0 (v := (0 : Int32)) (by decide) own_d_jdk_42_method_3_code_2 (pc' := 3) rfl ?_
  refine own_aloadN X0 rfl rfl own_d_jdk_42_method_3_code_3 (pc' := 4) rfl ?_
  refine own_len X0 V1 (v := (0 : Int32)) (show (0 : Nat).toInt32 = (0 : Int32) by decide) own_d_jdk_42_method_3_code_4 (pc' := 5) rfl ?_
  refine own_aconst_null X0  own_d_jdk_42_method_3_code_5 (pc' := 6) rfl ?_
  refine own_specialV X0 hS0 hk0 (own_s4e l Z a0 hw a1 a2 _ n0 X0.le ge1 A1 F1 F2 KZ hh7 hcw) Kn (fun vm' W' => own_Lt.warm P0 W') rfl rfl (ww 12 rfl) (ww 13 rfl) (ww 7 rfl) (ww 15 rfl) (by decide) rfl (by decide) (W := 0) (Nat.le_of_eq rfl) (by decide) (cells' := 2) (slots' := 4) rfl rfl (by decide) (by decide) (argsL := [(.ref a2), (.int (0 : Int32)), (.int (0 : Int32)), .null]) (rest := []) (lenOf own_pd7 rfl) rfl rfl own_d_jdk_42_method_3_code_6 (pc' := 9) rfl ?_
  rintro _ T686 h686 vm686 k686 hS686 hk686 X686 ⟨rfl, D686, K686, L686⟩
  show own_Goal p e below _ T686 (mkF m 9 #[oA a1, oA a2] [])
  exact own_retVV X686 hS686 hk686  own_d_jdk_42_method_3_code_9 rfl (by decide) (by decide) (fun vm' W' => ⟨rfl, D686, K686, own_Lt.warm L686 W'⟩)
abbrev own_rm_own_mk0 : Room := ({ frames := 6, cells := 4, slots := 56, locals := 122 } : Room)
theorem own_d_method_2_code_0 : decode method_2_code 0 = .ok (.iload_n 2, 1) := by decide +kernel
theorem own_d_method_2_code_1 : decode method_2_code 1 = .ok (.ifCond .ne 14, 3) := by decide +kernel
theorem own_d_method_2_code_4 : decode method_2_code 4 = .ok (.new 7, 3) := by decide +kernel
theorem own_d_method_2_code_7 : decode method_2_code 7 = .ok (.dup, 1) := by decide +kernel
theorem own_d_method_2_code_8 : decode method_2_code 8 = .ok (.iconst 0, 1) := by decide +kernel
theorem own_d_method_2_code_9 : decode method_2_code 9 = .ok (.newarray .char, 2) := by decide +kernel
theorem own_d_method_2_code_11 : decode method_2_code 11 = .ok (.invokespecial 9, 3) := by decide +kernel
theorem own_d_method_2_code_14 : decode method_2_code 14 = .ok (.areturn, 1) := by decide +kernel
theorem own_d_method_2_code_15 : decode method_2_code 15 = .ok (.iload_n 2, 1) := by decide +kernel
theorem own_d_method_2_code_16 : decode method_2_code 16 = .ok (.iconst 1, 1) := by decide +kernel
theorem own_d_method_2_code_17 : decode method_2_code 17 = .ok (.if_icmp .ne 18, 3) := by decide +kernel
theorem own_d_method_2_code_20 : decode method_2_code 20 = .ok (.new 7, 3) := by decide +kernel
theorem own_d_method_2_code_23 : decode method_2_code 23 = .ok (.dup, 1) := by decide +kernel
theorem own_d_method_2_code_24 : decode method_2_code 24 = .ok (.iconst 1, 1) := by decide +kernel
theorem own_d_method_2_code_25 : decode method_2_code 25 = .ok (.newarray .char, 2) := by decide +kernel
theorem own_d_method_2_code_27 : decode method_2_code 27 = .ok (.dup, 1) := by decide +kernel
theorem own_d_method_2_code_28 : decode method_2_code 28 = .ok (.iconst 0, 1) := by decide +kernel
theorem own_d_method_2_code_29 : decode method_2_code 29 = .ok (.iload_n 0, 1) := by decide +kernel
theorem own_d_method_2_code_30 : decode method_2_code 30 = .ok (.castore, 1) := by decide +kernel
theorem own_d_method_2_code_31 : decode method_2_code 31 = .ok (.invokespecial 9, 3) := by decide +kernel
theorem own_d_method_2_code_34 : decode method_2_code 34 = .ok (.areturn, 1) := by decide +kernel
theorem own_d_method_2_code_35 : decode method_2_code 35 = .ok (.new 7, 3) := by decide +kernel
theorem own_d_method_2_code_38 : decode method_2_code 38 = .ok (.dup, 1) := by decide +kernel
theorem own_d_method_2_code_39 : decode method_2_code 39 = .ok (.iconst 2, 1) := by decide +kernel
theorem own_d_method_2_code_40 : decode method_2_code 40 = .ok (.newarray .char, 2) := by decide +kernel
theorem own_d_method_2_code_42 : decode method_2_code 42 = .ok (.dup, 1) := by decide +kernel
theorem own_d_method_2_code_43 : decode method_2_code 43 = .ok (.iconst 0, 1) := by decide +kernel
theorem own_d_method_2_code_44 : decode method_2_code 44 = .ok (.iload_n 0, 1) := by decide +kernel
theorem own_d_method_2_code_45 : decode method_2_code 45 = .ok (.castore, 1) := by decide +kernel
theorem own_d_method_2_code_46 : decode method_2_code 46 = .ok (.dup, 1) := by decide +kernel
theorem own_d_method_2_code_47 : decode method_2_code 47 = .ok (.iconst 1, 1) := by decide +kernel
theorem own_d_method_2_code_48 : decode method_2_code 48 = .ok (.iload_n 1, 1) := by decide +kernel
theorem own_d_method_2_code_49 : decode method_2_code 49 = .ok (.castore, 1) := by decide +kernel
theorem own_d_method_2_code_50 : decode method_2_code 50 = .ok (.invokespecial 9, 3) := by decide +kernel
theorem own_d_method_2_code_53 : decode method_2_code 53 = .ok (.areturn, 1) := by decide +kernel
theorem own_pd37 : parseMethodDescriptor "(CCI)Ljava/lang/String;" = some ⟨[.char, .char, .int], some (.object "java/lang/String")⟩ := by decide +kernel
set_option maxRecDepth 65536 in
set_option maxHeartbeats 40000000 in
theorem own_mk0 (l : Launch) (Z : State) (a0 : Array Value) (hw : ∀ d ∈ tables_1, d.before a0 Z = true) (c0 c1 : Int32) (h0 : Heap) (n0 : Nat) (Z0 : n0 ≤ h0.size) (hc0 : 0 ≤ c0.toInt ∧ c0.toInt ≤ 65535) (hc1 : 0 ≤ c1.toInt ∧ c1.toInt ≤ 65535)  (KZ : Keep Z.heap h0 []) (hh7 : Jvm.Lit.constHeld Z "java/lang/String" 7) (hcw : Jvm.Lit.compactW.before a0 Z = true) (cs : Int32) (fm dv : Value) (G0 : own_Gs Z h0 cs fm dv) (hcs : ¬ cs = 0) (hfm : fm.isRef = true) (hdv : dv.isRef = true) :
    own_MetV l Z ({ cls := "com/example/arborview/arborview/cli/ArgumentsErrorPinLaw", name := "mk", desc := "(CCI)Ljava/lang/String;" } : Jvm.MethodName) method_2_code 3 (some (.object "java/lang/String")) [] own_rm_own_mk0 #[(.int c0), (.int c1), (.int (0 : Int32))] h0 n0 (own_Lt Z h0) (fun v h vm => ∃ r, v = some (.ref r) ∧ own_Str Z h r [] ∧ Keep h0 h [] ∧ own_Lt Z h vm) := by
  have ww := fun (i : Nat) {d : Jvm.Cond} (q : tables_1[i]? = some d) => hw d (List.mem_of_getElem? q)
  refine own_meetV (plainFor_of_name own_pn7) Z0 (Ls0 := #[oI c0, oI c1, oI 0]) (by intro m; first | (simp [entryFrame, mkF, argsToLocals, Value.category]; done) | rfl) ?_
  intro p e s m below meth c T0 vm0 k0 hsh Kn hS0 hk0 P0 X00 XX0
  have X0 := XX0 n0 Z0
  have K0 := Keep.refl h0 []
  refine own_iloadN X0 rfl own_d_method_2_code_0 (pc' := 1) rfl ?_
  refine own_ifF X0 (by decide) own_d_method_2_code_1 (pc' := 4) rfl ?_
  refine own_new X0 (ww 5 rfl) (ww 6 rfl) (ww 7 rfl) (cells' := 1) (slots' := 4) rfl rfl (by decide) (by decide) own_d_method_2_code_4 (pc' := 7) rfl fun a687 T687 h687 g687 ge687 X687 E687 A687 D687 => ?_
  have sz688 := own_ge K0 g687
  have S689 := G0.ext E687
  have hk690 := own_hk_ext hk0 E687
  have K691 := K0.ext E687
  have F692 : Fld Z h687 a687 "java/lang/String" "coder" "B" (.int (0 : Int32)) := D687 (Or.inr (ww 32 rfl)) (ty := .byte) (by decide)
  have F693 : Fld Z h687 a687 "java/lang/String" "value" "[B" .null := D687 (Or.inr (ww 34 rfl)) (ty := (.array .byte)) (by decide)
  refine own_dup X687 rfl own_d_method_2_code_7 (pc' := 8) rfl ?_
  refine own_iconst X687 (v := (0 : Int32)) (by decide) own_d_method_2_code_8 (pc' := 9) rfl ?_
  refine own_newarray X687 (ty := .char) rfl (ww 8 rfl) (n := 0) (vs := []) (by decide) (by decide) (by decide) rfl (cells' := 2) (slots' := 4) rfl rfl (by decide) (by decide) own_d_method_2_code_9 (pc' := 11) rfl fun a694 T694 h694 g694 ge694 X694 E694 V694 => ?_
  have ne695 : a687 ≠ a694 := own_lt_ne A687.lt g694
  have sz696 := own_ge K691 g694
  have A697 := A687.ext E694
  have F698 := F692.ext E694
  have F699 := F693.ext E694
  have S700 := S689.ext E694
  have hk701 := own_hk_ext hk690 E694
  have K702 := K691.ext E694
  refine own_specialV X694 hS0 hk701 (own_s1e l Z a0 hw a687 a694 _ n0 X694.le ge687 A697 F698 F699 V694 (KZ.trans K702 own_mem0) hh7 hcw) Kn (fun vm' W' => own_Lt.warm (own_Lt.keep0 P0 K702) W') rfl rfl (ww 9 rfl) (ww 10 rfl) (ww 7 rfl) (ww 11 rfl) (by decide) rfl (by decide) (W := 1) (Nat.le_of_eq rfl) (by decide) (cells' := 4) (slots' := 8) rfl rfl (by decide) (by decide) (argsL := [(.ref a694)]) (rest := [(.ref a687)]) (lenOf own_pd8 rfl) rfl rfl own_d_method_2_code_11 (pc' := 14) rfl ?_
  rintro _ T703 h703 vm703 k703 hS703 hk703 X703 ⟨rfl, D703, K703, L703⟩
  have K704 := K702.trans K703 (own_mem1 (Or.inr sz688))
  show own_Goal p e below _ T703 (mkF m 14 #[oI c0, oI c1, oI 0] [(.ref a687)])
  exact own_retAV X703 hS703 hk703 (t := (.object "java/lang/String")) rfl own_d_method_2_code_14 rfl (by decide) (by decide) (fun vm' W' => ⟨_, rfl, D703, K704, own_Lt.warm L703 W'⟩)
abbrev own_rm_own_mk1 : Room := ({ frames := 6, cells := 4, slots := 56, locals := 122 } : Room)
set_option maxRecDepth 65536 in
set_option maxHeartbeats 40000000 in
theorem own_mk1 (l : Launch) (Z : State) (a0 : Array Value) (hw : ∀ d ∈ tables_1, d.before a0 Z = true) (c0 c1 : Int32) (h0 : Heap) (n0 : Nat) (Z0 : n0 ≤ h0.size) (hc0 : 0 ≤ c0.toInt ∧ c0.toInt ≤ 65535) (hc1 : 0 ≤ c1.toInt ∧ c1.toInt ≤ 65535)  (KZ : Keep Z.heap h0 []) (hh7 : Jvm.Lit.constHeld Z "java/lang/String" 7) (hcw : Jvm.Lit.compactW.before a0 Z = true) (cs : Int32) (fm dv : Value) (G0 : own_Gs Z h0 cs fm dv) (hcs : ¬ cs = 0) (hfm : fm.isRef = true) (hdv : dv.isRef = true) :
    own_MetV l Z ({ cls := "com/example/arborview/arborview/cli/ArgumentsErrorPinLaw", name := "mk", desc := "(CCI)Ljava/lang/String;" } : Jvm.MethodName) method_2_code 3 (some (.object "java/lang/String")) [] own_rm_own_mk1 #[(.int c0), (.int c1), (.int (1 : Int32))] h0 n0 (own_Lt Z h0) (fun v h vm => ∃ r, v = some (.ref r) ∧ own_Str Z h r [c0] ∧ Keep h0 h [] ∧ own_Lt Z h vm) := by
  have ww := fun (i : Nat) {d : Jvm.Cond} (q : tables_1[i]? = some d) => hw d (List.mem_of_getElem? q)
  refine own_meetV (plainFor_of_name own_pn7) Z0 (Ls0 := #[oI c0, oI c1, oI 1]) (by intro m; first | (simp [entryFrame, mkF, argsToLocals, Value.category]; done) | rfl) ?_
  intro p e s m below meth c T0 vm0 k0 hsh Kn hS0 hk0 P0 X00 XX0
  have X0 := XX0 n0 Z0
  have K0 := Keep.refl h0 []
  refine own_iloadN X0 rfl own_d_method_2_code_0 (pc' := 1) rfl ?_
  refine own_ifT X0 (by decide) own_d_method_2_code_1 (pc' := 15) (by decide) (by decide) ?_
  refine own_iloadN X0 rfl own_d_method_2_code_15 (pc' := 16) rfl ?_
  refine own_iconst X0 (v := (1 : Int32)) (by decide) own_d_method_2_code_16 (pc' := 17) rfl ?_
  refine own_icmpF X0 (by decide) own_d_method_2_code_17 (pc' := 20) rfl ?_
  refine own_new X0 (ww 5 rfl) (ww 6 rfl) (ww 7 rfl) (cells' := 1) (slots' := 4) rfl rfl (by decide) (by decide) own_d_method_2_code_20 (pc' := 23) rfl fun a705 T705 h705 g705 ge705 X705 E705 A705 D705 => ?_
  have sz706 := own_ge K0 g705
  have S707 := G0.ext E705
  have hk708 := own_hk_ext hk0 E705
  have K709 := K0.ext E705
  have F710 : Fld Z h705 a705 "java/lang/String" "coder" "B" (.int (0 : Int32)) := D705 (Or.inr (ww 32 rfl)) (ty := .byte) (by decide)
  have F711 : Fld Z h705 a705 "java/lang/String" "value" "[B" .null := D705 (Or.inr (ww 34 rfl)) (ty := (.array .byte)) (by decide)
  refine own_dup X705 rfl own_d_method_2_code_23 (pc' := 24) rfl ?_
  refine own_iconst X705 (v := (1 : Int32)) (by decide) own_d_method_2_code_24 (pc' := 25) rfl ?_
  refine own_newarray X705 (ty := .char) rfl (ww 8 rfl) (n := 1) (vs := [(.int (0 : Int32))]) (by decide) (by decide) (by decide) rfl (cells' := 2) (slots' := 5) rfl rfl (by decide) (by decide) own_d_method_2_code_25 (pc' := 27) rfl fun a712 T712 h712 g712 ge712 X712 E712 V712 => ?_
  have ne713 : a705 ≠ a712 := own_lt_ne A705.lt g712
  have sz714 := own_ge K709 g712
  have A715 := A705.ext E712
  have F716 := F710.ext E712
  have F717 := F711.ext E712
  have S718 := S707.ext E712
  have hk719 := own_hk_ext hk708 E712
  have K720 := K709.ext E712
  refine own_dup X712 rfl own_d_method_2_code_27 (pc' := 28) rfl ?_
  refine own_iconst X712 (v := (0 : Int32)) (by decide) own_d_method_2_code_28 (pc' := 29) rfl ?_
  refine own_iloadN X712 rfl own_d_method_2_code_29 (pc' := 30) rfl ?_
  refine own_castore X712 V712  ge712 (own_char16 hc0) (i := 0) (by decide) (by decide) (show 0 < 1 by decide) own_d_method_2_code_30 (pc' := 31) rfl fun T721 h721 X721 W721 V721 => ?_
  have A722 := A715.wr W721
  have F723 := F716.other W721 (Or.inl ne713)
  have F724 := F717.other W721 (Or.inl ne713)
  have S725 := S718.wr W721
  have hk726 := own_hk_wr hk719 W721
  have K727 := K720.wr W721 (Or.inr sz714)
  replace V721 : own_Vec Z h721 a712 .char [(.int c0)] := V721
  refine own_special X721 (own_s1 l Z a0 hw a705 a712 (1 : Int32) [c0] _ n0 X721.le ge705 A722 F723 F724 V721 ((own_I.lit (B := 16) (i := 1) (x := (1 : Int32)) (by decide) (by decide)).of_eq rfl) (own_ch1 hc0) (Nat.succ_pos _) cs fm dv S725 hcs hfm hdv) rfl rfl (ww 9 rfl) (ww 10 rfl) (ww 7 rfl) (ww 11 rfl) (by decide) rfl (by decide) (W := 1) (Nat.le_of_eq rfl) (by decide) (cells' := 4) (slots' := 53) rfl rfl (by decide) (by decide) (argsL := [(.ref a712)]) (rest := [(.ref a705)]) (lenOf own_pd8 rfl) rfl rfl own_d_method_2_code_31 (pc' := 34) rfl ?_
  rintro _ T728 h728 X728 ⟨rfl, D728, K728⟩
  have K729 := K727.trans K728 (own_mem1 (Or.inr sz706))
  have hk729 := own_hk_keep hk726 K728
  show own_Goal p e below _ T728 (mkF m 34 #[oI c0, oI c1, oI 1] [(.ref a705)])
  exact own_retAV X728 hS0 hk729 (t := (.object "java/lang/String")) rfl own_d_method_2_code_34 rfl (by decide) (by decide) (fun vm' W' => ⟨_, rfl, D728, K729, own_Lt.warm (own_Lt.keep0 P0 K729) W'⟩)
abbrev own_rm_own_mk2 : Room := ({ frames := 6, cells := 4, slots := 56, locals := 122 } : Room)
set_option maxRecDepth 65536 in
set_option maxHeartbeats 40000000 in
theorem own_mk2 (l : Launch) (Z : State) (a0 : Array Value) (hw : ∀ d ∈ tables_1, d.before a0 Z = true) (c0 c1 : Int32) (h0 : Heap) (n0 : Nat) (Z0 : n0 ≤ h0.size) (hc0 : 0 ≤ c0.toInt ∧ c0.toInt ≤ 65535) (hc1 : 0 ≤ c1.toInt ∧ c1.toInt ≤ 65535)  (KZ : Keep Z.heap h0 []) (hh7 : Jvm.Lit.constHeld Z "java/lang/String" 7) (hcw : Jvm.Lit.compactW.before a0 Z = true) (cs : Int32) (fm dv : Value) (G0 : own_Gs Z h0 cs fm dv) (hcs : ¬ cs = 0) (hfm : fm.isRef = true) (hdv : dv.isRef = true) :
    own_MetV l Z ({ cls := "com/example/arborview/arborview/cli/ArgumentsErrorPinLaw", name := "mk", desc := "(CCI)Ljava/lang/String;" } : Jvm.MethodName) method_2_code 3 (some (.object "java/lang/String")) [] own_rm_own_mk2 #[(.int c0), (.int c1), (.int (2 : Int32))] h0 n0 (own_Lt Z h0) (fun v h vm => ∃ r, v = some (.ref r) ∧ own_Str Z h r [c0, c1] ∧ Keep h0 h [] ∧ own_Lt Z h vm) := by
  have ww := fun (i : Nat) {d : Jvm.Cond} (q : tables_1[i]? = some d) => hw d (List.mem_of_getElem? q)
  refine own_meetV (plainFor_of_name own_pn7) Z0 (Ls0 := #[oI c0, oI c1, oI 2]) (by intro m; first | (simp [entryFrame, mkF, argsToLocals, Value.category]; done) | rfl) ?_
  intro p e s m below meth c T0 vm0 k0 hsh Kn hS0 hk0 P0 X00 XX0
  have X0 := XX0 n0 Z0
  have K0 := Keep.refl h0 []
  refine own_iloadN X0 rfl own_d_method_2_code_0 (pc' := 1) rfl ?_
  refine own_ifT X0 (by decide) own_d_method_2_code_1 (pc' := 15) (by decide) (by decide) ?_
  refine own_iloadN X0 rfl own_d_method_2_code_15 (pc' := 16) rfl ?_
  refine own_iconst X0 (v := (1 : Int32)) (by decide) own_d_method_2_code_16 (pc' := 17) rfl ?_
  refine own_icmpT X0 (by decide) own_d_method_2_code_17 (pc' := 35) (by decide) (by decide) ?_
  refine own_new X0 (ww 5 rfl) (ww 6 rfl) (ww 7 rfl) (cells' := 1) (slots' := 4) rfl rfl (by decide) (by decide) own_d_method_2_code_35 (pc' := 38) rfl fun a730 T730 h730 g730 ge730 X730 E730 A730 D730 => ?_
  have sz731 := own_ge K0 g730
  have S732 := G0.ext E730
  have hk733 := own_hk_ext hk0 E730
  have K734 := K0.ext E730
  have F735 : Fld Z h730 a730 "java/lang/String" "coder" "B" (.int (0 : Int32)) := D730 (Or.inr (ww 32 rfl)) (ty := .byte) (by decide)
  have F736 : Fld Z h730 a730 "java/lang/String" "value" "[B" .null := D730 (Or.inr (ww 34 rfl)) (ty := (.array .byte)) (by decide)
  refine own_dup X730 rfl own_d_method_2_code_38 (pc' := 39) rfl ?_
  refine own_iconst X730 (v := (2 : Int32)) (by decide) own_d_method_2_code_39 (pc' := 40) rfl ?_
  refine own_newarray X730 (ty := .char) rfl (ww 8 rfl) (n := 2) (vs := [(.int (0 : Int32)), (.int (0 : Int32))]) (by decide) (by decide) (by decide) rfl (cells' := 2) (slots' := 6) rfl rfl (by decide) (by decide) own_d_method_2_code_40 (pc' := 42) rfl fun a737 T737 h737 g737 ge737 X737 E737 V737 => ?_
  have ne738 : a730 ≠ a737 := own_lt_ne A730.lt g737
  have sz739 := own_ge K734 g737
  have A740 := A730.ext E737
  have F741 := F735.ext E737
  have F742 := F736.ext E737
  have S743 := S732.ext E737
  have hk744 := own_hk_ext hk733 E737
  have K745 := K734.ext E737
  refine own_dup X737 rfl own_d_method_2_code_42 (pc' := 43) rfl ?_
  refine own_iconst X737 (v := (0 : Int32)) (by decide) own_d_method_2_code_43 (pc' := 44) rfl ?_
  refine own_iloadN X737 rfl own_d_method_2_code_44 (pc' := 45) rfl ?_
  refine own_castore X737 V737  ge737 (own_char16 hc0) (i := 0) (by decide) (by decide) (show 0 < 2 by decide) own_d_method_2_code_45 (pc' := 46) rfl fun T746 h746 X746 W746 V746 => ?_
  have A747 := A740.wr W746
  have F748 := F741.other W746 (Or.inl ne738)
  have F749 := F742.other W746 (Or.inl ne738)
  have S750 := S743.wr W746
  have hk751 := own_hk_wr hk744 W746
  have K752 := K745.wr W746 (Or.inr sz739)
  replace V746 : own_Vec Z h746 a737 .char [(.int c0), (.int (0 : Int32))] := V746
  refine own_dup X746 rfl own_d_method_2_code_46 (pc' := 47) rfl ?_
  refine own_iconst X746 (v := (1 : Int32)) (by decide) own_d_method_2_code_47 (pc' := 48) rfl ?_
  refine own_iloadN X746 rfl own_d_method_2_code_48 (pc' := 49) rfl ?_
  refine own_castore X746 V746  ge737 (own_char16 hc1) (i := 1) (by decide) (by decide) (show 1 < 2 by decide) own_d_method_2_code_49 (pc' := 50) rfl fun T753 h753 X753 W753 V753 => ?_
  have A754 := A747.wr W753
  have F755 := F748.other W753 (Or.inl ne738)
  have F756 := F749.other W753 (Or.inl ne738)
  have S757 := S750.wr W753
  have hk758 := own_hk_wr hk751 W753
  have K759 := K752.wr W753 (Or.inr sz739)
  replace V753 : own_Vec Z h753 a737 .char [(.int c0), (.int c1)] := V753
  refine own_special X753 (own_s1 l Z a0 hw a730 a737 (2 : Int32) [c0, c1] _ n0 X753.le ge730 A754 F755 F756 V753 ((own_I.lit (B := 16) (i := 2) (x := (2 : Int32)) (by decide) (by decide)).of_eq rfl) (own_ch2 hc0 hc1) (Nat.succ_pos _) cs fm dv S757 hcs hfm hdv) rfl rfl (ww 9 rfl) (ww 10 rfl) (ww 7 rfl) (ww 11 rfl) (by decide) rfl (by decide) (W := 1) (Nat.le_of_eq rfl) (by decide) (cells' := 4) (slots' := 54) rfl rfl (by decide) (by decide) (argsL := [(.ref a737)]) (rest := [(.ref a730)]) (lenOf own_pd8 rfl) rfl rfl own_d_method_2_code_50 (pc' := 53) rfl ?_
  rintro _ T760 h760 X760 ⟨rfl, D760, K760⟩
  have K761 := K759.trans K760 (own_mem1 (Or.inr sz731))
  have hk761 := own_hk_keep hk758 K760
  show own_Goal p e below _ T760 (mkF m 53 #[oI c0, oI c1, oI 2] [(.ref a730)])
  exact own_retAV X760 hS0 hk761 (t := (.object "java/lang/String")) rfl own_d_method_2_code_53 rfl (by decide) (by decide) (fun vm' W' => ⟨_, rfl, D760, K761, own_Lt.warm (own_Lt.keep0 P0 K761) W'⟩)
set_option maxRecDepth 65536 in
set_option maxHeartbeats 40000000 in
theorem own_mk (l : Launch) (Z : State) (a0 : Array Value) (hw : ∀ d ∈ tables_1, d.before a0 Z = true) (c0 c1 x0 : Int32) (n : Nat) (hn2 : n ≤ 2) (f_x0 : own_I 2 (n : Int) x0) (h0 : Heap) (n0 : Nat) (Z0 : n0 ≤ h0.size) (hc0 : 0 ≤ c0.toInt ∧ c0.toInt ≤ 65535) (hc1 : 0 ≤ c1.toInt ∧ c1.toInt ≤ 65535)  (KZ : Keep Z.heap h0 []) (hh7 : Jvm.Lit.constHeld Z "java/lang/String" 7) (hcw : Jvm.Lit.compactW.before a0 Z = true) (cs : Int32) (fm dv : Value) (G0 : own_Gs Z h0 cs fm dv) (hcs : ¬ cs = 0) (hfm : fm.isRef = true) (hdv : dv.isRef = true) :
    own_MetV l Z ({ cls := "com/example/arborview/arborview/cli/ArgumentsErrorPinLaw", name := "mk", desc := "(CCI)Ljava/lang/String;" } : Jvm.MethodName) method_2_code 3 (some (.object "java/lang/String")) [] own_rm_own_mk0 #[(.int c0), (.int c1), (.int x0)] h0 n0 (own_Lt Z h0) (fun v h vm => ∃ r, v = some (.ref r) ∧ own_Str Z h r (own_tk n c0 c1) ∧ Keep h0 h [] ∧ own_Lt Z h vm) := by
  rcases n with _ | _ | _ | n
  · have e : x0 = 0 := Int32.toInt_inj.mp (f_x0.1.trans rfl)
    subst e; exact own_mk0 l Z a0 hw c0 c1 h0 n0 Z0 hc0 hc1 KZ hh7 hcw cs fm dv G0 hcs hfm hdv
  · have e : x0 = 1 := Int32.toInt_inj.mp (f_x0.1.trans rfl)
    subst e; exact own_mk1 l Z a0 hw c0 c1 h0 n0 Z0 hc0 hc1 KZ hh7 hcw cs fm dv G0 hcs hfm hdv
  · have e : x0 = 2 := Int32.toInt_inj.mp (f_x0.1.trans rfl)
    subst e; exact own_mk2 l Z a0 hw c0 c1 h0 n0 Z0 hc0 hc1 KZ hh7 hcw cs fm dv G0 hcs hfm hdv
  · omega
set_option maxRecDepth 65536 in
set_option maxHeartbeats 40000000 in
theorem own_put (l : Launch) (Z : State) (a0 : Array Value) (hw : ∀ d ∈ tables_1, d.before a0 Z = true) (a1 : Addr) (x0 xl g0 g1 : Int32) (n : Nat) (D R : List Value) (hn2 : n ≤ 2) (f_xl : own_I 2 (n : Int) xl) (hR : n ≤ R.length) (h0 : Heap) (n0 : Nat) (Z0 : n0 ≤ h0.size) (ge1 : n0 ≤ a1) (V1 : own_Vec Z h0 a1 .char (D ++ R)) (f_x0 : own_I 16 ((D.length : Nat) : Int) x0) (hd14 : D.length ≤ 14) (hg0 : 0 ≤ g0.toInt ∧ g0.toInt ≤ 65535) (hg1 : 0 ≤ g1.toInt ∧ g1.toInt ≤ 65535) :
    own_Met l Z ({ cls := "com/example/arborview/arborview/cli/ArgumentsErrorPinLaw", name := "put", desc := "([CIICC)I" } : Jvm.MethodName) method_3_code 5 (some .int) [] own_rm_own_put0 #[(.ref a1), (.int x0), (.int xl), (.int g0), (.int g1)] h0 n0 (fun v h => (∃ r, v = some (.int r) ∧ own_I 16 ((D.length + n : Nat) : Int) r) ∧ own_Vec Z h a1 .char (D ++ (own_cv (own_tk n g0 g1) ++ R.drop n)) ∧ Keep h0 h [a1]) := by
  rcases n with _ | _ | _ | n
  · have e : xl = 0 := Int32.toInt_inj.mp (f_xl.1.trans rfl)
    subst e; exact own_put0 l Z a0 hw a1 x0 g0 g1 D R h0 n0 Z0 ge1 V1 f_x0 hd14 hg0 hg1
  · have e : xl = 1 := Int32.toInt_inj.mp (f_xl.1.trans rfl)
    subst e
    match R, hR, V1 with
    | q0 :: R, _, V1 => exact own_put1 l Z a0 hw a1 x0 g0 g1 D R q0 h0 n0 Z0 ge1 V1 f_x0 hd14 hg0 hg1
  · have e : xl = 2 := Int32.toInt_inj.mp (f_xl.1.trans rfl)
    subst e
    match R, hR, V1 with
    | q0 :: q1 :: R, _, V1 => exact own_put2 l Z a0 hw a1 x0 g0 g1 D R q0 q1 h0 n0 Z0 ge1 V1 f_x0 hd14 hg0 hg1
    | [_], h, _ => simp at h
  · omega
section OwnThr
open LibCode.Throwable
/-- Throwable's tables out of words that speak of a subclass rc's layout (the sheet has no word on Throwable's own layout of suppressedExceptions) -/
theorem own_links {args : Array Value} {s : State} {pl : Platform} {rc : String} {cX : ClassId} {kX : Class} (howns : pl.frameOwnsMonitors = true) (hfin : pl.finalization = false) (hpl : pl.magicAccessors = ({} : Platform).magicAccessors)
    (hcX : s.vm.findClass rc = some cX) (hkX : s.vm.classes[cX]? = some kX)
    (wInit : (Jvm.Cond.initialized Bundle.tN).before args s = true) (wSup : (Jvm.Cond.superclass Bundle.tN "java/lang/Object").before args s = true) (wF : (Jvm.Cond.instanceMethod Bundle.tFill).before args s = true) (wFc : (Jvm.Cond.codeSync Bundle.tFill Fill.code 1 (some (.object Bundle.tN))).before args s = true) (wN : (Jvm.Cond.instanceMethod Bundle.tFill0).before args s = true) (wNn : (Jvm.Cond.native Bundle.tFill0).before args s = true)
    (wI : (Jvm.Cond.instanceMethod Bundle.tInit0).before args s = true) (wIc : (Jvm.Cond.code Bundle.tInit0 Init0.code 1 none).before args s = true) (wO : (Jvm.Cond.instanceMethod Bundle.oInit).before args s = true) (wOc : (Jvm.Cond.code Bundle.oInit ⟨#[0xb1]⟩ 1 none).before args s = true)
    (l1 : (Jvm.Cond.methodLink Bundle.tN 1 Bundle.oInit).before args s = true) (l27 : (Jvm.Cond.methodLink Bundle.tN 27 Bundle.tFill).before args s = true) (l202 : (Jvm.Cond.methodLink Bundle.tN 202 Bundle.tFill0).before args s = true)
    (f7 : (Jvm.Cond.fieldLink Bundle.tN 7 Bundle.tN "cause" "Ljava/lang/Throwable;").before args s = true) (y7 : (Jvm.Cond.lays rc Bundle.tN "cause" "Ljava/lang/Throwable;").before args s = true) (f17 : (Jvm.Cond.fieldLink Bundle.tN 17 Bundle.tN "stackTrace" Bundle.steD).before args s = true) (y17 : (Jvm.Cond.lays rc Bundle.tN "stackTrace" Bundle.steD).before args s = true) (f24 : (Jvm.Cond.fieldLink Bundle.tN 24 Bundle.tN "suppressedExceptions" Bundle.listD).before args s = true) (y24 : (Jvm.Cond.lays rc Bundle.tN "suppressedExceptions" Bundle.listD).before args s = true)
    (f13 : (Jvm.Cond.fieldLink Bundle.tN 13 Bundle.tN "UNASSIGNED_STACK" Bundle.steD).before args s = true) (y13 : (Jvm.Cond.laysStatic Bundle.tN "UNASSIGNED_STACK" Bundle.steD).before args s = true) (f20 : (Jvm.Cond.fieldLink Bundle.tN 20 Bundle.tN "SUPPRESSED_SENTINEL" Bundle.listD).before args s = true) (y20 : (Jvm.Cond.laysStatic Bundle.tN "SUPPRESSED_SENTINEL" Bundle.listD).before args s = true) (yM : (Jvm.Cond.lays rc Bundle.tN "detailMessage" "Ljava/lang/String;").before args s = true) :
    ∃ (T : ThrowableC) (Z : Init0T), T.Links pl s ∧ Bundle.Ties T Z s := by
  obtain ⟨⟨c, j0⟩, mN, hnN, hmN, hnat, hnoc, hnlk, hsN⟩ := Cond.native_spec (o := none) (idx := []) wNn
  have hc : s.vm.findClass Bundle.tN = some c := findClass_of_methodNamed hnN
  obtain ⟨k, hk, hname⟩ := Vm.findClass_spec hc
  obtain ⟨_, kk, _, _, hkk, _, _, hord, _, hni⟩ := Cond.superclass_spec hc wSup
  cases hk.symm.trans hkk
  obtain ⟨jF, mF, hnF, hmF, hatF, hstF, habF, -, -⟩ := Cond.ownMethod (x := Bundle.tFill) hc hk wF
  obtain ⟨mF', cF, hmF', hcF, hbF, hlF, hrF, hlkF, -, hsF⟩ := Cond.codeSync_spec hnF wFc
  cases hmF.symm.trans hmF'
  obtain ⟨jN, mN', hnN', hmN', hatN, hstN, habN, hnmN, hdsN⟩ := Cond.ownMethod (x := Bundle.tFill0) hc hk wN
  have ej : j0 = jN := by have := Option.some.inj (hnN.symm.trans hnN'); simpa using this
  subst ej
  cases hmN.symm.trans hmN'
  obtain ⟨jI, mI, hnI, hmI, hatI, -, -, -, -⟩ := Cond.ownMethod (x := Bundle.tInit0) hc hk wI
  obtain ⟨mI', cI, hmI', hcI, hbI, hlI, -, hlkI, -, -⟩ := Cond.code_spec hnI wIc
  cases hmI.symm.trans hmI'
  obtain ⟨mO, xO, hnO, hmO, hstO, habO⟩ := Cond.instanceMethod_spec wO
  obtain ⟨xO', cO, hmO', hcO, hbO, hlO, -, hlkO, -, hsO⟩ := Cond.code_spec hnO wOc
  cases hmO.symm.trans hmO'
  obtain ⟨kO, hkO, hnameO⟩ := Vm.findClass_spec (findClass_of_methodNamed hnO)
  obtain ⟨hnmO, hdsO⟩ := name_of_methodNamed hnO hmO
  obtain ⟨a1, b1, cf, m1, r1, hcf, p1⟩ := Cond.linkedMethod hc hk hnO l1 pl hpl
  obtain ⟨a27, b27, cf2, m27, r27, hcf2, p27⟩ := Cond.linkedMethod hc hk hnF l27 pl hpl
  cases hcf.symm.trans hcf2
  obtain ⟨a202, b202, cf3, m202, r202, hcf3, p202⟩ := Cond.linkedMethod hc hk hnN l202 pl hpl
  cases hcf.symm.trans hcf3
  obtain ⟨c7, i7, x7, k7, g7, t7, s7, n7, e7, ty7, q7⟩ := Cond.ownField (t := .object Bundle.tN) hc hk (by decide +kernel) f7 y7 pl hpl
  obtain ⟨c17, i17, x17, k17, g17, t17, s17, n17, e17, ty17, q17⟩ := Cond.ownField (t := .array (.object "java/lang/StackTraceElement")) hc hk (by decide +kernel) f17 y17 pl hpl
  obtain ⟨c24, i24, x24, k24, g24, t24, s24, n24, e24, ty24, q24⟩ := Cond.ownField (t := .object "java/util/List") hc hk (by decide +kernel) f24 y24 pl hpl
  obtain ⟨c13, i13, x13, aS, cS, k13, g13, t13, s13, -, -, hsta, hcS, hisS, -, -, q13⟩ := Cond.ownStatic (t := .array (.object "java/lang/StackTraceElement")) hc hk (by decide +kernel) f13 y13 pl hpl
  obtain ⟨c20, i20, x20, _, _, k20, g20, t20, s20, -, -, -, -, -, -, -, q20⟩ := Cond.ownStatic (t := .object "java/util/List") hc hk (by decide +kernel) f20 y20 pl hpl
  obtain ⟨_, _, cM, kM, iM, xM, _, _, qM, sM, nM, _⟩ := Cond.lays_spec yM
  cases hc.symm.trans (Cond.lays_declared yM qM)
  cases hk.symm.trans (State.fieldFound?_spec qM).1
  have tyM := (State.fieldFound?_type qM (t := .object "java/lang/String") (by decide +kernel)).2
  obtain ⟨-, d17, D17, N17⟩ := Cond.laysAt hcX hkX q17 y17
  obtain ⟨-, d24, D24, N24⟩ := Cond.laysAt hcX hkX q24 y24
  have apart : x17.slot ≠ x24.slot := Cond.laysApart D17 D24 N17 N24 (by rw [e17, e24]; decide)
  have pF : mF.sig.parameters = [] := by
    have q : (parseMethodDescriptor Bundle.tFill.desc).map (·.parameters) = some [] := by decide +kernel
    rw [hsF] at q; simpa using q
  have pN : mN.sig.parameters = [.int] := by
    have q : (parseMethodDescriptor Bundle.tFill0.desc).map (·.parameters) = some [.int] := by decide +kernel
    rw [hsN] at q; simpa using q
  have pO : xO.sig.parameters.length = 0 := by
    have q : (parseMethodDescriptor Bundle.oInit.desc).map (·.parameters) = some [] := by decide +kernel
    rw [hsO] at q
    have q2 : xO.sig.parameters = [] := by simpa using q
    rw [q2]; rfl
  refine ⟨{ cT := c, kT := k, cO := c, aS := aS, fillIdx := jF, fill0Idx := j0, initSIdx := jI, obj := mO, kObj := kO, methFill := mF, methFill0 := mN, methInitS := mI, methObj := xO, codeFill := cF, codeInitS := cI, codeObj := cO,
              fBack := x7, fDepth := x7, fStack := x17, fCause := x7, fSupp := x24, fMsg := xM, fUnassigned := x13, fSentinel := x20, cfT := cf, ci1 := a1, n1 := b1, ci27 := a27, n27 := b27, ci202 := a202, n202 := b202,
              ci7 := c7, i7 := i7, ci13 := c13, i13 := i13, ci17 := c17, i17 := i17, ci20 := c20, i20 := i20, ci24 := c24, i24 := i24 }, { idx := jI, meth := mI, code := cI }, ?_,
    ⟨hc, hnF, hnN, hnI, hlO, hord, q7, q17, q24, q13, q20, ⟨iM, qM⟩, tyM, e7, e17, e24, ty7, ty17, ty24, cS, hcS, hisS⟩⟩
  exact { owns := howns, noFinalization := hfin, cls := hk, name := hname, boot := Vm.findClass_boot hc hk, notInterface := hni, initialized := Cond.initialized_spec hc hk wInit, statics := hsta,
          fillAt := hatF, fillCode := hcF, fillBytes := hbF, fillLocals := hlF, fillLocks := hlkF, fillStatic := hstF, fillAbstract := habF, fillReturns := hrF, fillParams := pF,
          fill0At := hatN, fill0Name := hnmN, fill0Desc := hdsN, fill0Params := pN, fill0Static := hstN, fill0Native := hnat, fill0Code := hnoc, fill0Locks := hnlk, fill0Abstract := habN,
          stackInstance := s17, stackNotFinal := n17, unassignedStatic := s13,
          objClass := hkO, objClassName := hnameO, objMethod := hmO, objName := hnmO, objStatic := hstO, objAbstract := habO, objFound := by rw [hdsO]; exact lookupSpecial_of_named hnO hmO hstO, objParams := pO,
          objCode := hcO, objBytes := hbO, objLocks := hlkO, causeInstance := s7, causeNotFinal := n7, sentinelStatic := s20, suppInstance := s24, suppNotFinal := n24, msgInstance := sM, msgNotFinal := nM, stackApartSupp := apart,
          file := hcf, mlink1 := m1, mright1 := r1, pool1 := p1, mlink27 := m27, mright27 := r27, pool27 := p27, mlink202 := m202, mright202 := r202, pool202 := p202,
          link7 := k7, right7 := g7, at7 := t7, link13 := k13, right13 := g13, at13 := t13, link17 := k17, right17 := g17, at17 := t17, link20 := k20, right20 := g20, at20 := t20, link24 := k24, right24 := g24, at24 := t24 }
section
variable {p : Program} {l : Launch} {e : Env} {R : Room} {s : State} {m : MethodId} {args : Array Value} {below : List Frame} {meth : Method} {c : Code} {T : State} {locs : List Loc} {cells slots : Nat} {Z : State} {a0 : Array Value} {h : Heap}
/-- only the object a has been written -/
theorem own_keepA {a : Addr} (X : Stand p l e R s m args below meth c T locs cells slots) (N : ∀ y ∈ locs, y.base = a) : Keep s.heap T.heap [a] := by
  refine ⟨X.same.2.1, fun x cl q ne => ?_, fun x cl q => ?_⟩
  · obtain ⟨c', h1, h2, -, h4⟩ := X.same.2.2.2.2.2 x cl q
    have hsl : c'.slots = cl.slots := Array.ext_getElem? fun i => h4 i fun hm => ne (List.mem_singleton.mpr (N _ hm))
    have hcc : c' = cl := by rw [h2, hsl]
    rw [← hcc]; exact h1
  · obtain ⟨c', h1, h2, h3, -⟩ := X.same.2.2.2.2.2 x cl q
    exact ⟨c', h1, by rw [h2], by rw [h2], h3⟩
theorem own_slotS {O n d : String} {a : Addr} {v : Value} {cell : Cell} {cf : ClassId} {k : Class} {i : Nat} {f : Field} (hZ : Z.Warmed39 s.vm) (F : Fld Z h a O n d v) (hc : h[a]? = some cell) (q : s.fieldFound? O n d = some (cf, k, i, f)) : cell.slots[f.slot]? = some v := by
  obtain ⟨c2, cf2, k2, i2, f2, b1, b2, -, -, -, -, b7⟩ := F
  cases hc.symm.trans b1
  obtain ⟨k', z, -⟩ := State.fieldFound?_setVm (s := Z) hZ.alike b2
  have e1 := Option.some.inj ((show s.fieldFound? O n d = _ from z).symm.trans q)
  have e2 : f2 = f := congrArg (fun t => t.2.2.2) e1
  rw [← e2]; exact b7
end
end OwnThr
section OwnThr2
theorem own_b0 {a : Addr} : ∀ y ∈ ([] : List Loc), y.base = a := fun _ q => nomatch q
theorem own_bs {a : Addr} {locs : List Loc} {sl : Nat} (N : ∀ y ∈ locs, y.base = a) : ∀ y ∈ locs ++ [⟨a, sl⟩], y.base = a := fun y hy => (List.mem_append.mp hy).elim (N y) (fun q => by cases List.mem_singleton.mp q; rfl)
theorem own_bapp {a : Addr} {locs L : List Loc} (N : ∀ y ∈ locs, y.base = a) (N' : ∀ y ∈ L, y.base = a) : ∀ y ∈ locs ++ L, y.base = a := fun y hy => (List.mem_append.mp hy).elim (N y) (N' y)
theorem own_frb {a : Addr} {n0 : Nat} {locs : List Loc} (N : ∀ y ∈ locs, y.base = a) (q : n0 ≤ a) : Fr n0 locs := fun y hy => by rw [N y hy]; exact q
theorem own_nrefO {n : String} {v : Value} (h : v.isRef = true) : narrow (.object n) v = v := by cases v <;> first | rfl | (exact absurd h (by simp [Value.isRef]))
theorem own_frefO {n : String} {v : Value} (h : v.isRef = true) : fits (.object n) v = true := by cases v <;> first | rfl | (exact absurd h (by simp [Value.isRef]))
end OwnThr2
section OwnThr3
variable {Z : State} {h h' : Heap} {a0 : Array Value}
theorem own_Str.keepE {a x : Addr} {cs : List Int32} {C : String} {n : Nat} (F : own_Str Z h a cs) (E : Exa Z h x C) (hC : "java/lang/String" ≠ C) (wi : (Jvm.Cond.instantiable C n).before a0 Z = true) (K : Keep h h' [x]) : own_Str Z h' a cs := by
  obtain ⟨A, F1, b, F2, V⟩ := F
  have n1 : a ≠ x := Exa.ne A E hC
  have n2 : b ≠ x := (own_exavec E V wi).symm
  exact ⟨A.keep K, F1.keep K (ninS n1 nin0), b, F2.keep K (ninS n1 nin0), V.keep K (ninS n2 nin0)⟩
theorem own_lit58 : own_enc [58, 32] = [.int 58, .int 32] ∧ own_cod [58, 32] = 0 := ⟨by first | rfl | decide +kernel, by first | rfl | decide +kernel⟩
theorem own_lit59 : own_enc [59, 32] = [.int 59, .int 32] ∧ own_cod [59, 32] = 0 := ⟨by first | rfl | decide +kernel, by first | rfl | decide +kernel⟩
theorem own_ch58 : own_ch [58, 32] := own_ch2 (by decide) (by decide)
theorem own_ch59 : own_ch [59, 32] := own_ch2 (by decide) (by decide)
end OwnThr3
set_option maxRecDepth 65536 in
set_option maxHeartbeats 40000000 in
theorem own_fill {p : Program} {l : Launch} {e : Env} {R : Room} {s : State} {m : MethodId} {args : Array Value} {below : List Frame} {meth : Method} {c : Code} {T : State} {locs : List Loc} {cells slots : Nat} {Z : State} {a0 : Array Value} {h : Heap} (X : Stand p l e R s m args below meth c T locs cells slots) (hx : p.tables.exec = Jvm.exec) (hl0 : l.stackTraces = true) (hw : ∀ d ∈ tables_1, d.before a0 Z = true) (hZ : Z.Warmed39 s.vm) (hown : s.vm.findClass "java/lang/Throwable" = some m.cls) (hT0 : ThS Z s.heap) (hTK : s.vm.MethodsKnown) (hBelow : s.vm.FramesKnown below) (eT : T.heap = h) {a : Addr} {us : Value} (hus : us.isRef = true) (A1 : Exa Z h a "com/example/arborview/arborview/cli/CommandException") (U1 : Unt h a) (F2 : Fld Z h a "java/lang/Throwable" "stackTrace" "[Ljava/lang/StackTraceElement;" us) (F4 : Fld Z h a "java/lang/Throwable" "backtrace" "Ljava/lang/Object;" .null) (SU : Sta Z h "java/lang/Throwable" "UNASSIGNED_STACK" "[Ljava/lang/StackTraceElement;" us)
    {g : JFrame} (hg : g.method = m) (hsize : g.locals.size = c.maxLocals) {rest : List Value} (hs : g.stack = .ref a :: rest) {W : Nat} (hW : 2 * g.monitorRoom + (rest.map fun v => v.category).sum ≤ W) (hd : decode c.code g.pc = .ok (.invokevirtual 27, 3)) (hf : 3 ≤ R.frames) (hlo : W + 42 ≤ R.locals) (hc : cells + 1 ≤ R.cells) (hsl : slots + 2752 ≤ R.slots) :
    ∃ (T' : State) (h' : Heap) (L3 : List Loc), (∀ y ∈ L3, y.base = a) ∧ Stand p l e R s m args below meth c T' (locs ++ L3) (cells + 1) (slots + 2752) ∧ T'.heap = h' ∧ Exa Z h' a "com/example/arborview/arborview/cli/CommandException" ∧ (∀ v, Fld Z h a "java/lang/Throwable" "detailMessage" "Ljava/lang/String;" v → Fld Z h' a "java/lang/Throwable" "detailMessage" "Ljava/lang/String;" v) ∧
      Steps p.tables e below (T.setTop g) (T'.setTop { g with pc := g.pc + 3, stack := .ref a :: rest }) := by
  have ww := fun (i : Nat) {d : Jvm.Cond} (q : tables_1[i]? = some d) => hw d (List.mem_of_getElem? q)
  have mw : ∀ {d : Jvm.Cond}, xOk d = true → d.before a0 Z = true → d.before args s = true := fun ok w => mvX hT0 hZ ok w
  obtain ⟨cell, k1, q1, q2, q3, q4, q5⟩ := id A1
  obtain ⟨cu, u1, u2, u3⟩ := U1
  cases q1.symm.trans u1
  obtain ⟨cI, kI, i1, i2, i3, -⟩ := Cond.instantiable_spec (ww 106 rfl)
  cases q2.symm.trans i1
  cases q3.symm.trans i2
  have hal := hZ.alike
  have hfound : s.vm.findClass "com/example/arborview/arborview/cli/CommandException" = some cell.cls := by rw [hal.findClass]; exact q2
  obtain ⟨kX, hk, hkX⟩ := hal.2.2 _ _ q3
  have hord : kX.kind = .ordinary := by rw [hkX]; exact i3
  have hsz : cell.slots.size = kX.instanceTypes.size := by rw [hkX]; exact q5 i3
  have htr : e.platform.stackTraces = true := by rw [X.admits.platform]; exact hl0
  have howns : e.platform.frameOwnsMonitors = true := by rw [X.admits.platform]
  have hfin : e.platform.finalization = false := by rw [X.admits.platform]
  have hpl : e.platform.magicAccessors = ({} : Platform).magicAccessors := by rw [X.admits.platform]
  obtain ⟨Th, Z1, L, Y⟩ := own_links (args := args) (s := s) (pl := e.platform) (rc := "com/example/arborview/arborview/cli/CommandException") howns hfin hpl hfound hk (mw rfl (ww 232 rfl)) (mw rfl (ww 250 rfl)) (mw rfl (ww 245 rfl)) (mw rfl (ww 251 rfl)) (mw rfl (ww 252 rfl)) (mw rfl (ww 253 rfl)) (mw rfl (ww 254 rfl)) (mw rfl (ww 255 rfl)) (mw rfl (ww 17 rfl)) (mw rfl (ww 18 rfl)) (mw rfl (ww 234 rfl)) (mw rfl (ww 243 rfl)) (mw rfl (ww 256 rfl)) (mw rfl (ww 235 rfl)) (mw rfl (ww 236 rfl)) (mw rfl (ww 238 rfl)) (mw rfl (ww 239 rfl)) (mw rfl (ww 241 rfl)) (mw rfl (ww 242 rfl)) (mw rfl (ww 237 rfl)) (mw rfl (ww 263 rfl)) (mw rfl (ww 240 rfl)) (mw rfl (ww 264 rfl)) (mw rfl (ww 266 rfl))
  have hsel0 : selectMethod e.platform s.vm cell.cls Th.fill0 = .method Th.fill0 := by
    have w265 : (Jvm.Cond.selects "com/example/arborview/arborview/cli/CommandException" Bundle.tFill0 Bundle.tFill0).before args s = true := (mw rfl (ww 265 rfl))
    obtain ⟨c2, r2, m2, z1, z2, z3, z4, -⟩ := Cond.selects_spec w265
    cases Option.some.inj (z1.symm.trans hfound)
    cases Option.some.inj (z2.symm.trans (State.methodFound?_of_named Y.fill0 (by decide)))
    cases Option.some.inj (z3.symm.trans Y.fill0)
    rw [Launch.admits_selectMethod X.admits]; exact z4
  obtain ⟨cfS, iS, kS, fS, sa, cellS, g1, g2, g3, g4, g5, g6, g7⟩ := SU
  obtain ⟨kS', z1, ek⟩ := State.fieldFound?_setVm (s := Z) hal g1
  have e1 := Option.some.inj ((show s.fieldFound? Bundle.tN "UNASSIGNED_STACK" Bundle.steD = _ from z1).symm.trans Y.unassigned)
  have ef : fS = Th.fUnassigned := congrArg (fun t => t.2.2.2) e1
  have eK : kS' = Th.kT := congrArg (fun t => t.2.1) e1
  have eS : Th.kT.statics = some sa := by rw [← eK, ek]; exact g4
  have eA : sa = Th.aS := Option.some.inj (eS.symm.trans L.statics)
  rw [ef] at g7
  rw [eA] at g5
  have hneS : Th.aS ≠ a := fun q => by rw [q] at g5; cases q1.symm.trans g5; rw [u2] at g6; cases g6
  have hknS : cellS.vm ≠ .unknown := fun q => by rw [q] at g6; cases g6
  have w261 : (Jvm.Cond.fieldLink Bundle.tN 198 Bundle.tN "backtrace" "Ljava/lang/Object;").before args s = true := (mw rfl (ww 261 rfl))
  have w262 : (Jvm.Cond.lays Bundle.tN Bundle.tN "backtrace" "Ljava/lang/Object;").before args s = true := (mw rfl (ww 262 rfl))
  obtain ⟨ci198, i198, fB, hk198, hg198, ha198, hsB, -, hnB, htB, hffB⟩ := Cond.ownField (t := .object "java/lang/Object") Y.found L.cls (by decide +kernel) w261 w262 e.platform hpl
  have w268 : (Jvm.Cond.lays "com/example/arborview/arborview/cli/CommandException" Bundle.tN "depth" "I").before args s = true := (mw rfl (ww 268 rfl))
  obtain ⟨_, _, cD, kD, iD, fD, -, -, hffD, hstD, -, -, -, -⟩ := Cond.lays_spec w268
  cases Option.some.inj ((Cond.lays_declared w268 hffD).symm.trans Y.found)
  obtain ⟨hkD, hatD⟩ := State.fieldFound?_spec hffD
  cases Option.some.inj (hkD.symm.trans L.cls)
  obtain ⟨hnD, htD⟩ := State.fieldFound?_type hffD (t := .int) (by decide +kernel)
  have hfb := Cond.soleField_find Y.found L.cls (mw rfl (ww 248 rfl)) ha198 hnB hsB
  have hfd := Cond.soleField_find Y.found L.cls (mw rfl (ww 249 rfl)) hatD hnD hstD
  have w247 : (Jvm.Cond.arrayOver (.object "java/lang/Object")).before args s = true := (mw rfl (ww 247 rfl))
  obtain ⟨comp, cO, kO, -, -, hkO, hkindO, hO⟩ := Cond.arrayOver_spec w247
  obtain ⟨iM, hffM⟩ := Y.msg
  obtain ⟨tyS, dS, hdS, hdnS⟩ := Cond.laysAt hfound hk Y.stack (mw rfl (ww 239 rfl))
  obtain ⟨tyM, dM, hdM, hdnM⟩ := Cond.laysAt hfound hk hffM (mw rfl (ww 266 rfl))
  obtain ⟨tyB, dB, hdB, hdnB⟩ := Cond.laysAt hfound hk hffB (mw rfl (ww 267 rfl))
  obtain ⟨tyD, dD, hdD, hdnD⟩ := Cond.laysAt hfound hk hffD w268
  have nmM : Th.fMsg.name = "detailMessage" := (State.fieldFound?_type hffM (t := .object "java/lang/String") (by decide +kernel)).1
  have mS := Cond.laysApart hdM hdS hdnM hdnS (by rw [nmM, Y.stackName]; decide)
  have mB := Cond.laysApart hdM hdB hdnM hdnB (by rw [nmM, hnB]; decide)
  have mD := Cond.laysApart hdM hdD hdnM hdnD (by rw [nmM, hnD]; decide)
  have tk : ∀ {f : Field} {v : Value}, kX.instanceTypes[f.slot]? = some f.type → fits f.type v = true → Jvm.Takes s cell f v := fun {f v} h1 h2 => by
    obtain ⟨t1, t2⟩ := Takes.of_laid (v := v) hk hord h1 h2
    exact ⟨by rw [hsz]; simpa using t1, by rw [u2]; exact t2⟩
  have fS' : fits Th.fStack.type us = true := by rw [Y.stackType]; exact own_fref hus
  have hSE : (Jvm.Cond.selects "com/example/arborview/arborview/cli/CommandException" Bundle.tFill Bundle.tFill).before args s = true := (mw rfl (ww 246 rfl))
  obtain ⟨v6, vm6, ⟨T6, L6, c6, n6⟩, hW6, X6, ⟨hv6, C6, n, hn, hD6, r1, r2, r3, r4, hL6, hc6, hn6⟩, come⟩ := X.virtualBack hx (own := "java/lang/Throwable") (C := "com/example/arborview/arborview/cli/CommandException") (index := 27) (y := Bundle.tFill) (z := Bundle.tFill) hown (mw rfl (ww 243 rfl)) (mw rfl (ww 244 rfl)) (notFace_of_selects hSE) hSE (mw rfl (ww 245 rfl)) (by decide)
    (Jvm.Free.Exc.fillPaysAny (l := l) (W := W) hx htr Th L Y.fill (u0 := ⟨us, hus⟩) (self := a) (cell := cell) (cellS := cellS) (fun _ => by rw [u2]; simp) (by rw [u2]; simp) (by rw [u3]) (by rw [u3]) (own_slotS hZ F2 q1 Y.stack) hsel0 hneS hknS g7 (tk tyS fS')
      ⟨{ ci198 := ci198, i198 := i198, fBack := fB }, ⟨hk198, hg198, ha198, hsB⟩, own_slotS hZ F4 q1 hffB⟩ hTK hBelow Y.found hO hkO hkindO hfb hfd (fun x => tk tyB (by rw [htB]; rfl)) (fun x => tk tyD (by rw [htD]; rfl)) (by omega) hlo)
    (b := a) (cB := cell.cls) hfound ⟨cell, by rw [eT]; exact q1, rfl, by rw [u2]; rfl⟩ (g := g) hg hsize (Steps.refl _) (argsL := []) (rest := rest)
    (fun sig hsig => by rw [show parseMethodDescriptor Bundle.tFill.desc = some ⟨[], some (.object Bundle.tN)⟩ from by decide +kernel] at hsig; rw [← Option.some.inj hsig]; rfl) hs hW hd
    (fun vmx hWx => ⟨rfl, hc, hsl, by show T.heap[a]? = _; rw [eT]; exact q1, by show T.heap[Th.aS]? = _; rw [eT]; exact g5⟩)
  dsimp only [Pt.U, Pt.locs, Pt.cells, Pt.slots] at X6 hD6 hL6 hc6 hn6 come
  subst hv6 hL6 hc6 hn6
  refine ⟨T6, T6.heap, [⟨a, fB.slot⟩, ⟨a, fD.slot⟩, ⟨a, Th.fStack.slot⟩], ?_, X6.more (Nat.le_refl _) (Nat.add_le_add_left hn _), rfl, ⟨C6, k1, hD6, by rw [r1]; exact q2, by rw [r1]; exact q3, by rw [r2, u2]; rfl, fun o => by rw [r3]; exact q5 o⟩, fun v F => ?_, come⟩
  · intro y hy
    simp only [List.mem_cons, List.not_mem_nil, or_false] at hy
    rcases hy with rfl | rfl | rfl <;> rfl
  · have hs0 := own_slotS hZ F q1 hffM
    obtain ⟨c2, cf2, k2, i2', f2, b1, b2, b3, b4, b5, b6, b7⟩ := F
    cases q1.symm.trans b1
    obtain ⟨k', z, -⟩ := State.fieldFound?_setVm (s := Z) hal b2
    have e2 : f2 = Th.fMsg := congrArg (fun t => t.2.2.2) (Option.some.inj ((show s.fieldFound? Bundle.tN "detailMessage" "Ljava/lang/String;" = _ from z).symm.trans hffM))
    exact ⟨C6, cf2, k2, i2', f2, hD6, b2, b3, by rw [r2, u2]; simp, by rw [r2, u2]; rfl, by rw [r1]; exact b6, by rw [e2]; exact (r4 _ mB mD mS).trans hs0⟩
theorem own_d_jdk_78_method_2_code_0 : decode jdk_78_method_2_code 0 = .ok (.aload_n 0, 1) := by decide +kernel
theorem own_d_jdk_78_method_2_code_1 : decode jdk_78_method_2_code 1 = .ok (.invokespecial 1, 3) := by decide +kernel
theorem own_d_jdk_78_method_2_code_4 : decode jdk_78_method_2_code 4 = .ok (.aload_n 0, 1) := by decide +kernel
theorem own_d_jdk_78_method_2_code_5 : decode jdk_78_method_2_code 5 = .ok (.aload_n 0, 1) := by decide +kernel
theorem own_d_jdk_78_method_2_code_6 : decode jdk_78_method_2_code 6 = .ok (.putfield 7, 3) := by decide +kernel
theorem own_d_jdk_78_method_2_code_9 : decode jdk_78_method_2_code 9 = .ok (.aload_n 0, 1) := by decide +kernel
theorem own_d_jdk_78_method_2_code_10 : decode jdk_78_method_2_code 10 = .ok (.getstatic 13, 3) := by decide +kernel
theorem own_d_jdk_78_method_2_code_13 : decode jdk_78_method_2_code 13 = .ok (.putfield 17, 3) := by decide +kernel
theorem own_d_jdk_78_method_2_code_16 : decode jdk_78_method_2_code 16 = .ok (.aload_n 0, 1) := by decide +kernel
theorem own_d_jdk_78_method_2_code_17 : decode jdk_78_method_2_code 17 = .ok (.getstatic 20, 3) := by decide +kernel
theorem own_d_jdk_78_method_2_code_20 : decode jdk_78_method_2_code 20 = .ok (.putfield 24, 3) := by decide +kernel
theorem own_d_jdk_78_method_2_code_23 : decode jdk_78_method_2_code 23 = .ok (.aload_n 0, 1) := by decide +kernel
theorem own_d_jdk_78_method_2_code_24 : decode jdk_78_method_2_code 24 = .ok (.invokevirtual 27, 3) := by decide +kernel
theorem own_d_jdk_78_method_2_code_27 : decode jdk_78_method_2_code 27 = .ok (.pop, 1) := by decide +kernel
theorem own_d_jdk_78_method_2_code_28 : decode jdk_78_method_2_code 28 = .ok (.aload_n 0, 1) := by decide +kernel
theorem own_d_jdk_78_method_2_code_29 : decode jdk_78_method_2_code 29 = .ok (.aload_n 1, 1) := by decide +kernel
theorem own_d_jdk_78_method_2_code_30 : decode jdk_78_method_2_code 30 = .ok (.putfield 31, 3) := by decide +kernel
theorem own_d_jdk_78_method_2_code_33 : decode jdk_78_method_2_code 33 = .ok (.return_, 1) := by decide +kernel
abbrev own_rm_own_thr : Room := ({ frames := 3, cells := 1, slots := 2752, locals := 42 } : Room)
theorem own_pn13 : plainName "java/lang/Throwable" = true := by first | (simp [plainName, overriddenIn]; done) | decide +kernel
set_option maxRecDepth 65536 in
set_option maxHeartbeats 40000000 in
theorem own_thr (l : Launch) (Z : State) (a0 : Array Value) (hw : ∀ d ∈ tables_1, d.before a0 Z = true) (a r : Addr) (us ss : Value) (h0 : Heap) (n0 : Nat) (Z0 : n0 ≤ h0.size) (hl0 : l.stackTraces = true) (ge1 : n0 ≤ a) (A1 : Exa Z h0 a "com/example/arborview/arborview/cli/CommandException") (U1 : Unt h0 a) (F1 : Fld Z h0 a "java/lang/Throwable" "cause" "Ljava/lang/Throwable;" .null) (F2 : Fld Z h0 a "java/lang/Throwable" "stackTrace" "[Ljava/lang/StackTraceElement;" .null) (F3 : Fld Z h0 a "java/lang/Throwable" "suppressedExceptions" "Ljava/util/List;" .null) (F4 : Fld Z h0 a "java/lang/Throwable" "backtrace" "Ljava/lang/Object;" .null) (F5 : Fld Z h0 a "java/lang/Throwable" "detailMessage" "Ljava/lang/String;" .null) (SU : Sta Z h0 "java/lang/Throwable" "UNASSIGNED_STACK" "[Ljava/lang/StackTraceElement;" us) (SS : Sta Z h0 "java/lang/Throwable" "SUPPRESSED_SENTINEL" "Ljava/util/List;" ss) (hus : us.isRef = true) (hss : ss.isRef = true) (hT : ThS Z h0) :
    own_MetV l Z ({ cls := "java/lang/Throwable", name := "<init>", desc := "(Ljava/lang/String;)V" } : Jvm.MethodName) jdk_78_method_2_code 2 none [] own_rm_own_thr #[(.ref a), (.ref r)] h0 n0 (fun _ => True) (fun v h _ => v = none ∧ Fld Z h a "java/lang/Throwable" "detailMessage" "Ljava/lang/String;" (.ref r) ∧ Keep h0 h [a]) := by
  have ww := fun (i : Nat) {d : Jvm.Cond} (q : tables_1[i]? = some d) => hw d (List.mem_of_getElem? q)
  refine own_meetV (plainFor_of_name own_pn13) Z0 (Ls0 := #[oA a, oA r]) (by intro m; first | (simp [entryFrame, mkF, argsToLocals, Value.category]; done) | rfl) ?_
  intro p e s m below meth c T0 vm0 k0 hsh Kn hS0 hk0 P0 X00 XX0
  have Y0 := XX0 n0 Z0
  obtain ⟨_, _, _, e0, _, hx, hZ, hown, hby, hml, hrt, hlk, hnm⟩ := id Y0
  refine own_aloadN Y0 rfl rfl own_d_jdk_78_method_2_code_0 (pc' := 1) rfl ?_
  obtain ⟨T1, X1, e1, st1⟩ := initO X00 hx hZ hown (ww 234 rfl) (ww 17 rfl) (ww 18 rfl) e0 (g := mkF m 1 #[oA a, oA r] [.ref a]) (rest := []) rfl hml.symm rfl (hb hby own_d_jdk_78_method_2_code_1) (by decide) (W := 0) (Nat.le_of_eq rfl) (by decide)
  refine own_step st1 ?_
  have Y1 : own_St p l e own_rm_own_thr (s.setVm vm0) m _ below meth c Z _ _ 2 none _ n0 T1 h0 0 0 := ⟨_, X1, own_frb own_b0 ge1, e1, Z0, hx, hZ, hown, hby, hml, hrt, hlk, hnm⟩
  show own_Goal p e below _ T1 (mkF m 4 #[oA a, oA r] [])
  refine own_aloadN Y1 rfl rfl own_d_jdk_78_method_2_code_4 (pc' := 5) rfl ?_
  refine own_aloadN Y1 rfl rfl own_d_jdk_78_method_2_code_5 (pc' := 6) rfl ?_
  obtain ⟨T2, h2, X2, e2, W2, st2⟩ := putF X1 hx hZ hown (host := "") (Or.inl (ww 235 rfl)) Via.refl e1 F1 A1 (Or.inl (ww 236 rfl)) (ww 106 rfl) (ty := .object "java/lang/Throwable") (by decide) (v := .ref a) rfl rfl (g := mkF m 6 #[oA a, oA r] [.ref a, .ref a]) rfl (rest := []) rfl (hb hby own_d_jdk_78_method_2_code_6)
  refine own_step st2 ?_
  have Z2 : n0 ≤ h2.size := by rw [W2.size]; exact Z0
  have B2 := own_bs (sl := RoadKit.slotOf Z "java/lang/Throwable" "cause" "Ljava/lang/Throwable;") (own_b0 (a := a))
  have Y2 : own_St p l e own_rm_own_thr (s.setVm vm0) m _ below meth c Z _ _ 2 none _ n0 T2 h2 0 0 := ⟨_, X2, own_frb B2 ge1, e2, Z2, hx, hZ, hown, hby, hml, hrt, hlk, hnm⟩
  show own_Goal p e below _ T2 (mkF m 9 #[oA a, oA r] [])
  have A2 := A1.wr W2
  have U2 := U1.wr W2
  have SU2 := SU.wr W2
  have SS2 := SS.wr W2
  have F22 := (F2.other W2 (Or.inr (slot_ne (C := "com/example/arborview/arborview/cli/CommandException") (Or.inl (ww 239 rfl)) (Or.inl (ww 236 rfl)) (by decide) (t := (.array (.object "java/lang/StackTraceElement"))) (t' := (.object "java/lang/Throwable")) (by decide) (by decide))))
  have F32 := (F3.other W2 (Or.inr (slot_ne (C := "com/example/arborview/arborview/cli/CommandException") (Or.inl (ww 242 rfl)) (Or.inl (ww 236 rfl)) (by decide) (t := (.object "java/util/List")) (t' := (.object "java/lang/Throwable")) (by decide) (by decide))))
  have F42 := (F4.other W2 (Or.inr (slot_ne (C := "com/example/arborview/arborview/cli/CommandException") (Or.inl (ww 267 rfl)) (Or.inl (ww 236 rfl)) (by decide) (t := (.object "java/lang/Object")) (t' := (.object "java/lang/Throwable")) (by decide) (by decide))))
  have F52 := (F5.other W2 (Or.inr (slot_ne (C := "com/example/arborview/arborview/cli/CommandException") (Or.inl (ww 266 rfl)) (Or.inl (ww 236 rfl)) (by decide) (t := (.object "java/lang/String")) (t' := (.object "java/lang/Throwable")) (by decide) (by decide))))
  refine own_aloadN Y2 rfl rfl own_d_jdk_78_method_2_code_9 (pc' := 10) rfl ?_
  obtain ⟨T3, X3, e3, st3⟩ := getS X2 hx hZ hown (host := "") (ww 237 rfl) Via.refl e2 SU2 (g := mkF m 10 #[oA a, oA r] [.ref a]) rfl (hb hby own_d_jdk_78_method_2_code_10)
  refine own_step st3 ?_
  obtain ⟨T4, h4, X4, e4, W4, st4⟩ := putF X3 hx hZ hown (host := "") (Or.inl (ww 238 rfl)) Via.refl e3 F22 A2 (Or.inl (ww 239 rfl)) (ww 106 rfl) (ty := .array (.object "java/lang/StackTraceElement")) (by decide) (v := us) (own_nref hus) (own_fref hus) (g := mkF m 13 #[oA a, oA r] [us, .ref a]) rfl (rest := []) rfl (hb hby own_d_jdk_78_method_2_code_13)
  refine own_step st4 ?_
  have Z4 : n0 ≤ h4.size := by rw [W4.size]; exact Z2
  have B4 := own_bs (sl := RoadKit.slotOf Z "java/lang/Throwable" "stackTrace" "[Ljava/lang/StackTraceElement;") B2
  have Y4 : own_St p l e own_rm_own_thr (s.setVm vm0) m _ below meth c Z _ _ 2 none _ n0 T4 h4 0 0 := ⟨_, X4, own_frb B4 ge1, e4, Z4, hx, hZ, hown, hby, hml, hrt, hlk, hnm⟩
  show own_Goal p e below _ T4 (mkF m 16 #[oA a, oA r] [])
  have A4 := A2.wr W4
  have U4 := U2.wr W4
  have SU4 := SU2.wr W4
  have SS4 := SS2.wr W4
  have F24 := F22.same W4
  have F34 := (F32.other W4 (Or.inr (slot_ne (C := "com/example/arborview/arborview/cli/CommandException") (Or.inl (ww 242 rfl)) (Or.inl (ww 239 rfl)) (by decide) (t := (.object "java/util/List")) (t' := (.array (.object "java/lang/StackTraceElement"))) (by decide) (by decide))))
  have F44 := (F42.other W4 (Or.inr (slot_ne (C := "com/example/arborview/arborview/cli/CommandException") (Or.inl (ww 267 rfl)) (Or.inl (ww 239 rfl)) (by decide) (t := (.object "java/lang/Object")) (t' := (.array (.object "java/lang/StackTraceElement"))) (by decide) (by decide))))
  have F54 := (F52.other W4 (Or.inr (slot_ne (C := "com/example/arborview/arborview/cli/CommandException") (Or.inl (ww 266 rfl)) (Or.inl (ww 239 rfl)) (by decide) (t := (.object "java/lang/String")) (t' := (.array (.object "java/lang/StackTraceElement"))) (by decide) (by decide))))
  refine own_aloadN Y4 rfl rfl own_d_jdk_78_method_2_code_16 (pc' := 17) rfl ?_
  obtain ⟨T5, X5, e5, st5⟩ := getS X4 hx hZ hown (host := "") (ww 240 rfl) Via.refl e4 SS4 (g := mkF m 17 #[oA a, oA r] [.ref a]) rfl (hb hby own_d_jdk_78_method_2_code_17)
  refine own_step st5 ?_
  obtain ⟨T6, h6, X6, e6, W6, st6⟩ := putF X5 hx hZ hown (host := "") (Or.inl (ww 241 rfl)) Via.refl e5 F34 A4 (Or.inl (ww 242 rfl)) (ww 106 rfl) (ty := .object "java/util/List") (by decide) (v := ss) (own_nrefO hss) (own_frefO hss) (g := mkF m 20 #[oA a, oA r] [ss, .ref a]) rfl (rest := []) rfl (hb hby own_d_jdk_78_method_2_code_20)
  refine own_step st6 ?_
  have Z6 : n0 ≤ h6.size := by rw [W6.size]; exact Z4
  have B6 := own_bs (sl := RoadKit.slotOf Z "java/lang/Throwable" "suppressedExceptions" "Ljava/util/List;") B4
  have Y6 : own_St p l e own_rm_own_thr (s.setVm vm0) m _ below meth c Z _ _ 2 none _ n0 T6 h6 0 0 := ⟨_, X6, own_frb B6 ge1, e6, Z6, hx, hZ, hown, hby, hml, hrt, hlk, hnm⟩
  show own_Goal p e below _ T6 (mkF m 23 #[oA a, oA r] [])
  have A6 := A4.wr W6
  have U6 := U4.wr W6
  have SU6 := SU4.wr W6
  have F26 := (F24.other W6 (Or.inr (slot_ne (C := "com/example/arborview/arborview/cli/CommandException") (Or.inl (ww 239 rfl)) (Or.inl (ww 242 rfl)) (by decide) (t := (.array (.object "java/lang/StackTraceElement"))) (t' := (.object "java/util/List")) (by decide) (by decide))))
  have F46 := (F44.other W6 (Or.inr (slot_ne (C := "com/example/arborview/arborview/cli/CommandException") (Or.inl (ww 267 rfl)) (Or.inl (ww 242 rfl)) (by decide) (t := (.object "java/lang/Object")) (t' := (.object "java/util/List")) (by decide) (by decide))))
  have F56 := (F54.other W6 (Or.inr (slot_ne (C := "com/example/arborview/arborview/cli/CommandException") (Or.inl (ww 266 rfl)) (Or.inl (ww 242 rfl)) (by decide) (t := (.object "java/lang/String")) (t' := (.object "java/util/List")) (by decide) (by decide))))
  refine own_aloadN Y6 rfl rfl own_d_jdk_78_method_2_code_23 (pc' := 24) rfl ?_
  obtain ⟨T7, h7, L7, hL7, X7, e7, A7, F7, st7⟩ := own_fill X6 hx hl0 hw hZ hown (show ThS Z s.heap by rw [hsh]; exact hT) (Vm.MethodsKnown.alikeC hS0.1.alike Kn.1) (Vm.FramesKnown.alikeC hS0.1.alike Kn.2) e6 hus A6 U6 F26 F46 SU6 (g := mkF m 24 #[oA a, oA r] [.ref a]) rfl hml.symm (rest := []) rfl (W := 0) (Nat.le_of_eq rfl) (hb hby own_d_jdk_78_method_2_code_24) (by decide) (by decide) (by decide) (by decide)
  refine own_step (fun t b => st7.trans b) ?_
  have B7 := own_bapp B6 hL7
  have K7 := own_keepA X7 B7
  have Z7 : n0 ≤ h7.size := by rw [← e7]; exact Nat.le_trans (by rw [show (s.setVm vm0).heap = h0 from hsh]; exact Z0) K7.1
  have Y7 : own_St p l e own_rm_own_thr (s.setVm vm0) m _ below meth c Z _ _ 2 none _ n0 T7 h7 1 2752 := ⟨_, X7, own_frb B7 ge1, e7, Z7, hx, hZ, hown, hby, hml, hrt, hlk, hnm⟩
  show own_Goal p e below _ T7 (mkF m 27 #[oA a, oA r] [.ref a])
  refine own_pop Y7 rfl own_d_jdk_78_method_2_code_27 (pc' := 28) rfl ?_
  refine own_aloadN Y7 rfl rfl own_d_jdk_78_method_2_code_28 (pc' := 29) rfl ?_
  refine own_aloadN Y7 rfl rfl own_d_jdk_78_method_2_code_29 (pc' := 30) rfl ?_
  obtain ⟨T8, h8, X8, e8, W8, st8⟩ := putF X7 hx hZ hown (host := "") (Or.inl (ww 270 rfl)) Via.refl e7 (F7 _ F56) A7 (Or.inl (ww 266 rfl)) (ww 106 rfl) (ty := .object "java/lang/String") (by decide) (v := .ref r) rfl rfl (g := mkF m 30 #[oA a, oA r] [.ref r, .ref a]) rfl (rest := []) rfl (hb hby own_d_jdk_78_method_2_code_30)
  refine own_step st8 ?_
  have Z8 : n0 ≤ h8.size := by rw [W8.size]; exact Z7
  have B8 := own_bs (sl := RoadKit.slotOf Z "java/lang/Throwable" "detailMessage" "Ljava/lang/String;") B7
  have K8' := own_keepA X8 B8
  rw [e8, show (s.setVm vm0).heap = h0 from hsh] at K8'
  have K8 : Keep h0 h8 [a] := K8'
  have Y8 : own_St p l e own_rm_own_thr (s.setVm vm0) m _ below meth c Z _ _ 2 none _ n0 T8 h8 1 2752 := ⟨_, X8, own_frb B8 ge1, e8, Z8, hx, hZ, hown, hby, hml, hrt, hlk, hnm⟩
  show own_Goal p e below _ T8 (mkF m 33 #[oA a, oA r] [])
  exact own_retVV Y8 hS0 (Nat.le_trans hk0 K8.1) own_d_jdk_78_method_2_code_33 rfl (by decide) (by decide) (fun vm' W' => ⟨rfl, (F7 _ F56).same W8, K8⟩)
theorem own_d_jdk_59_method_2_code_0 : decode jdk_59_method_2_code 0 = .ok (.aload_n 0, 1) := by decide +kernel
theorem own_d_jdk_59_method_2_code_1 : decode jdk_59_method_2_code 1 = .ok (.aload_n 1, 1) := by decide +kernel
theorem own_d_jdk_59_method_2_code_2 : decode jdk_59_method_2_code 2 = .ok (.invokespecial 7, 3) := by decide +kernel
theorem own_d_jdk_59_method_2_code_5 : decode jdk_59_method_2_code 5 = .ok (.return_, 1) := by decide +kernel
theorem own_pn14 : plainName "java/lang/Exception" = true := by first | (simp [plainName, overriddenIn]; done) | decide +kernel
abbrev own_rm_own_exi : Room := ({ frames := 4, cells := 1, slots := 2752, locals := 55 } : Room)
set_option maxRecDepth 65536 in
set_option maxHeartbeats 40000000 in
theorem own_exi (l : Launch) (Z : State) (a0 : Array Value) (hw : ∀ d ∈ tables_1, d.before a0 Z = true) (a r : Addr) (us ss : Value) (h0 : Heap) (n0 : Nat) (Z0 : n0 ≤ h0.size) (hl0 : l.stackTraces = true) (ge1 : n0 ≤ a) (A1 : Exa Z h0 a "com/example/arborview/arborview/cli/CommandException") (U1 : Unt h0 a) (F1 : Fld Z h0 a "java/lang/Throwable" "cause" "Ljava/lang/Throwable;" .null) (F2 : Fld Z h0 a "java/lang/Throwable" "stackTrace" "[Ljava/lang/StackTraceElement;" .null) (F3 : Fld Z h0 a "java/lang/Throwable" "suppressedExceptions" "Ljava/util/List;" .null) (F4 : Fld Z h0 a "java/lang/Throwable" "backtrace" "Ljava/lang/Object;" .null) (F5 : Fld Z h0 a "java/lang/Throwable" "detailMessage" "Ljava/lang/String;" .null) (SU : Sta Z h0 "java/lang/Throwable" "UNASSIGNED_STACK" "[Ljava/lang/StackTraceElement;" us) (SS : Sta Z h0 "java/lang/Throwable" "SUPPRESSED_SENTINEL" "Ljava/util/List;" ss) (hus : us.isRef = true) (hss : ss.isRef = true) (hT : ThS Z h0) :
    own_MetV l Z ({ cls := "java/lang/Exception", name := "<init>", desc := "(Ljava/lang/String;)V" } : Jvm.MethodName) jdk_59_method_2_code 2 none [] own_rm_own_exi #[(.ref a), (.ref r)] h0 n0 (fun _ => True) (fun v h _ => v = none ∧ Fld Z h a "java/lang/Throwable" "detailMessage" "Ljava/lang/String;" (.ref r) ∧ Keep h0 h [a]) := by
  have ww := fun (i : Nat) {d : Jvm.Cond} (q : tables_1[i]? = some d) => hw d (List.mem_of_getElem? q)
  refine own_meetV (plainFor_of_name own_pn14) Z0 (Ls0 := #[oA a, oA r]) (by intro m; first | (simp [entryFrame, mkF, argsToLocals, Value.category]; done) | rfl) ?_
  intro p e s m below meth c T0 vm0 k0 hsh Kn hS0 hk0 P0 X00 XX0
  have X0 := XX0 n0 Z0
  refine own_aloadN X0 rfl rfl own_d_jdk_59_method_2_code_0 (pc' := 1) rfl ?_
  refine own_aloadN X0 rfl rfl own_d_jdk_59_method_2_code_1 (pc' := 2) rfl ?_
  refine own_specialV X0 hS0 hk0 (own_thr l Z a0 hw a r us ss _ n0 X0.le hl0 ge1 A1 U1 F1 F2 F3 F4 F5 SU SS hus hss hT) Kn (fun _ _ => trivial) rfl rfl (ww 228 rfl) (ww 229 rfl) (ww 232 rfl) (ww 233 rfl) (by decide) rfl (by decide) (W := 0) (Nat.le_of_eq rfl) (by decide) (cells' := 1) (slots' := 2752) rfl rfl (by decide) (by decide) (argsL := [(.ref r)]) (rest := []) (lenOf own_pd21 rfl) rfl rfl own_d_jdk_59_method_2_code_2 (pc' := 5) rfl ?_
  rintro _ T762 h762 vm762 k762 hS762 hk762 X762 ⟨rfl, D762, K762⟩
  show own_Goal p e below _ T762 (mkF m 5 #[oA a, oA r] [])
  exact own_retVV X762 hS762 hk762  own_d_jdk_59_method_2_code_5 rfl (by decide) (by decide) (fun vm' W' => ⟨rfl, D762, K762⟩)
theorem own_d_prog_32_method_1_code_0 : decode prog_32_method_1_code 0 = .ok (.aload_n 0, 1) := by decide +kernel
theorem own_d_prog_32_method_1_code_1 : decode prog_32_method_1_code 1 = .ok (.aload_n 1, 1) := by decide +kernel
theorem own_d_prog_32_method_1_code_2 : decode prog_32_method_1_code 2 = .ok (.invokespecial 1, 3) := by decide +kernel
theorem own_d_prog_32_method_1_code_5 : decode prog_32_method_1_code 5 = .ok (.return_, 1) := by decide +kernel
theorem own_pn15 : plainName "com/example/arborview/arborview/cli/CommandException" = true := by first | (simp [plainName, overriddenIn]; done) | decide +kernel
abbrev own_rm_own_cei : Room := ({ frames := 5, cells := 1, slots := 2752, locals := 68 } : Room)
set_option maxRecDepth 65536 in
set_option maxHeartbeats 40000000 in
theorem own_cei (l : Launch) (Z : State) (a0 : Array Value) (hw : ∀ d ∈ tables_1, d.before a0 Z = true) (a r : Addr) (us ss : Value) (h0 : Heap) (n0 : Nat) (Z0 : n0 ≤ h0.size) (hl0 : l.stackTraces = true) (ge1 : n0 ≤ a) (A1 : Exa Z h0 a "com/example/arborview/arborview/cli/CommandException") (U1 : Unt h0 a) (F1 : Fld Z h0 a "java/lang/Throwable" "cause" "Ljava/lang/Throwable;" .null) (F2 : Fld Z h0 a "java/lang/Throwable" "stackTrace" "[Ljava/lang/StackTraceElement;" .null) (F3 : Fld Z h0 a "java/lang/Throwable" "suppressedExceptions" "Ljava/util/List;" .null) (F4 : Fld Z h0 a "java/lang/Throwable" "backtrace" "Ljava/lang/Object;" .null) (F5 : Fld Z h0 a "java/lang/Throwable" "detailMessage" "Ljava/lang/String;" .null) (SU : Sta Z h0 "java/lang/Throwable" "UNASSIGNED_STACK" "[Ljava/lang/StackTraceElement;" us) (SS : Sta Z h0 "java/lang/Throwable" "SUPPRESSED_SENTINEL" "Ljava/util/List;" ss) (hus : us.isRef = true) (hss : ss.isRef = true) (hT : ThS Z h0) :
    own_MetV l Z ({ cls := "com/example/arborview/arborview/cli/CommandException", name := "<init>", desc := "(Ljava/lang/String;)V" } : Jvm.MethodName) prog_32_method_1_code 2 none [] own_rm_own_cei #[(.ref a), (.ref r)] h0 n0 (fun _ => True) (fun v h _ => v = none ∧ Fld Z h a "java/lang/Throwable" "detailMessage" "Ljava/lang/String;" (.ref r) ∧ Keep h0 h [a]) := by
  have ww := fun (i : Nat) {d : Jvm.Cond} (q : tables_1[i]? = some d) => hw d (List.mem_of_getElem? q)
  refine own_meetV (plainFor_of_name own_pn15) Z0 (Ls0 := #[oA a, oA r]) (by intro m; first | (simp [entryFrame, mkF, argsToLocals, Value.category]; done) | rfl) ?_
  intro p e s m below meth c T0 vm0 k0 hsh Kn hS0 hk0 P0 X00 XX0
  have X0 := XX0 n0 Z0
  refine own_aloadN X0 rfl rfl own_d_prog_32_method_1_code_0 (pc' := 1) rfl ?_
  refine own_aloadN X0 rfl rfl own_d_prog_32_method_1_code_1 (pc' := 2) rfl ?_
  refine own_specialV X0 hS0 hk0 (own_exi l Z a0 hw a r us ss _ n0 X0.le hl0 ge1 A1 U1 F1 F2 F3 F4 F5 SU SS hus hss hT) Kn (fun _ _ => trivial) rfl rfl (ww 223 rfl) (ww 224 rfl) (ww 226 rfl) (ww 227 rfl) (by decide) rfl (by decide) (W := 0) (Nat.le_of_eq rfl) (by decide) (cells' := 1) (slots' := 2752) rfl rfl (by decide) (by decide) (argsL := [(.ref r)]) (rest := []) (lenOf own_pd21 rfl) rfl rfl own_d_prog_32_method_1_code_2 (pc' := 5) rfl ?_
  rintro _ T763 h763 vm763 k763 hS763 hk763 X763 ⟨rfl, D763, K763⟩
  show own_Goal p e below _ T763 (mkF m 5 #[oA a, oA r] [])
  exact own_retVV X763 hS763 hk763  own_d_prog_32_method_1_code_5 rfl (by decide) (by decide) (fun vm' W' => ⟨rfl, D763, K763⟩)
theorem own_d_jdk_78_method_6_code_0 : decode jdk_78_method_6_code 0 = .ok (.aload_n 0, 1) := by decide +kernel
theorem own_d_jdk_78_method_6_code_1 : decode jdk_78_method_6_code 1 = .ok (.getfield 31, 3) := by decide +kernel
theorem own_d_jdk_78_method_6_code_4 : decode jdk_78_method_6_code 4 = .ok (.areturn, 1) := by decide +kernel
abbrev own_rm_own_gm : Room := ({ frames := 0, cells := 0, slots := 0, locals := 0 } : Room)
set_option maxRecDepth 65536 in
set_option maxHeartbeats 40000000 in
theorem own_gm (l : Launch) (Z : State) (a0 : Array Value) (hw : ∀ d ∈ tables_1, d.before a0 Z = true) (a r : Addr) (h0 : Heap) (n0 : Nat) (Z0 : n0 ≤ h0.size) (F1 : Fld Z h0 a "java/lang/Throwable" "detailMessage" "Ljava/lang/String;" (.ref r)) :
    own_Met l Z ({ cls := "java/lang/Throwable", name := "getMessage", desc := "()Ljava/lang/String;" } : Jvm.MethodName) jdk_78_method_6_code 1 (some (.object "java/lang/String")) [] own_rm_own_gm #[(.ref a)] h0 n0 (fun v h => v = some (.ref r) ∧ h = h0) := by
  have ww := fun (i : Nat) {d : Jvm.Cond} (q : tables_1[i]? = some d) => hw d (List.mem_of_getElem? q)
  refine own_meet (plainFor_of_name own_pn13) Z0 (Ls0 := #[oA a]) (by intro m; first | (simp [entryFrame, mkF, argsToLocals, Value.category]; done) | rfl) ?_
  intro p e s m below meth c T0 X0
  refine own_aloadN X0 rfl rfl own_d_jdk_78_method_6_code_0 (pc' := 1) rfl ?_
  refine own_getF X0 (ww 270 rfl) F1 own_d_jdk_78_method_6_code_1 (pc' := 4) rfl fun T764 X764 => ?_
  exact own_retA X764 (t := (.object "java/lang/String")) rfl own_d_jdk_78_method_6_code_4 rfl (by decide) (by decide) ⟨rfl, rfl⟩
theorem own_d_prog_25_method_7_code_0 : decode prog_25_method_7_code 0 = .ok (.new 73, 3) := by decide +kernel
theorem own_d_prog_25_method_7_code_3 : decode prog_25_method_7_code 3 = .ok (.dup, 1) := by decide +kernel
theorem own_d_prog_25_method_7_code_4 : decode prog_25_method_7_code 4 = .ok (.new 38, 3) := by decide +kernel
theorem own_d_prog_25_method_7_code_7 : decode prog_25_method_7_code 7 = .ok (.dup, 1) := by decide +kernel
theorem own_d_prog_25_method_7_code_8 : decode prog_25_method_7_code 8 = .ok (.invokespecial 40, 3) := by decide +kernel
theorem own_d_prog_25_method_7_code_11 : decode prog_25_method_7_code 11 = .ok (.aload_n 0, 1) := by decide +kernel
theorem own_d_prog_25_method_7_code_12 : decode prog_25_method_7_code 12 = .ok (.getfield 7, 3) := by decide +kernel
theorem own_d_prog_25_method_7_code_15 : decode prog_25_method_7_code 15 = .ok (.invokevirtual 41, 3) := by decide +kernel
theorem own_d_prog_25_method_7_code_18 : decode prog_25_method_7_code 18 = .ok (.ldc 111, 2) := by decide +kernel
theorem own_d_prog_25_method_7_code_20 : decode prog_25_method_7_code 20 = .ok (.invokevirtual 41, 3) := by decide +kernel
theorem own_d_prog_25_method_7_code_23 : decode prog_25_method_7_code 23 = .ok (.aload_n 1, 1) := by decide +kernel
theorem own_d_prog_25_method_7_code_24 : decode prog_25_method_7_code 24 = .ok (.invokevirtual 41, 3) := by decide +kernel
theorem own_d_prog_25_method_7_code_27 : decode prog_25_method_7_code 27 = .ok (.ldc 113, 2) := by decide +kernel
theorem own_d_prog_25_method_7_code_29 : decode prog_25_method_7_code 29 = .ok (.invokevirtual 41, 3) := by decide +kernel
theorem own_d_prog_25_method_7_code_32 : decode prog_25_method_7_code 32 = .ok (.aload_n 0, 1) := by decide +kernel
theorem own_d_prog_25_method_7_code_33 : decode prog_25_method_7_code 33 = .ok (.getfield 13, 3) := by decide +kernel
theorem own_d_prog_25_method_7_code_36 : decode prog_25_method_7_code 36 = .ok (.invokevirtual 41, 3) := by decide +kernel
theorem own_d_prog_25_method_7_code_39 : decode prog_25_method_7_code 39 = .ok (.invokevirtual 47, 3) := by decide +kernel
theorem own_d_prog_25_method_7_code_42 : decode prog_25_method_7_code 42 = .ok (.invokespecial 115, 3) := by decide +kernel
theorem own_d_prog_25_method_7_code_45 : decode prog_25_method_7_code 45 = .ok (.areturn, 1) := by decide +kernel
theorem own_pd38 : parseMethodDescriptor "(Ljava/lang/String;)Lcom/example/arborview/arborview/cli/CommandException;" = some ⟨[(.object "java/lang/String")], some (.object "com/example/arborview/arborview/cli/CommandException")⟩ := by decide +kernel
abbrev own_rm_own_err : Room := ({ frames := 11, cells := 15, slots := 3002, locals := 175 } : Room)
set_option maxRecDepth 65536 in
set_option maxHeartbeats 40000000 in
theorem own_err (l : Launch) (Z : State) (a0 : Array Value) (hw : ∀ d ∈ tables_1, d.before a0 Z = true) (a1 s1 s2 r1 : Addr) (d1 d2 d3 : List Int32) (h0 : Heap) (n0 : Nat) (Z0 : n0 ≤ h0.size) (hn : h0.size = n0) (A0 : Exa Z h0 a1 "com/example/arborview/arborview/cli/Arguments") (F1 : Fld Z h0 a1 "com/example/arborview/arborview/cli/Arguments" "subcommand" "Ljava/lang/String;" (.ref s1)) (F2 : Fld Z h0 a1 "com/example/arborview/arborview/cli/Arguments" "usage" "Ljava/lang/String;" (.ref s2)) (S1 : own_Str Z h0 s1 d1) (S2 : own_Str Z h0 r1 d2) (S3 : own_Str Z h0 s2 d3) (hc1 : own_ch d1) (hc2 : own_ch d2) (hc3 : own_ch d3) (hl1 : d1.length ≤ 2) (hl2 : d2.length ≤ 2) (hl3 : d3.length ≤ 2) (KZ : Keep Z.heap h0 []) (hh111 : Jvm.Lit.constHeld Z "com/example/arborview/arborview/cli/Arguments" 111) (hh113 : Jvm.Lit.constHeld Z "com/example/arborview/arborview/cli/Arguments" 113) (hcw : Jvm.Lit.compactW.before a0 Z = true) (us ss : Value) (SUz : Sta Z Z.heap "java/lang/Throwable" "UNASSIGNED_STACK" "[Ljava/lang/StackTraceElement;" us) (SSz : Sta Z Z.heap "java/lang/Throwable" "SUPPRESSED_SENTINEL" "Ljava/util/List;" ss) (hus : us.isRef = true) (hss : ss.isRef = true) (hl0 : l.stackTraces = true) (cs : Int32) (fm dv : Value) (G0 : own_Gs Z h0 cs fm dv) (hcs : ¬ cs = 0) (hfm : fm.isRef = true) (hdv : dv.isRef = true) :
    own_MetV l Z ({ cls := "com/example/arborview/arborview/cli/Arguments", name := "error", desc := "(Ljava/lang/String;)Lcom/example/arborview/arborview/cli/CommandException;" } : Jvm.MethodName) prog_25_method_7_code 2 (some (.object "com/example/arborview/arborview/cli/CommandException")) [] own_rm_own_err #[(.ref a1), (.ref r1)] h0 n0 (fun vm => IB Z vm [""]) (fun v h _ => ∃ x r, v = some (.ref x) ∧ Exa Z h x "com/example/arborview/arborview/cli/CommandException" ∧ Fld Z h x "java/lang/Throwable" "detailMessage" "Ljava/lang/String;" (.ref r) ∧ own_Str Z h r ([] ++ d1 ++ [58, 32] ++ d2 ++ [59, 32] ++ d3) ∧ Keep h0 h []) := by
  have ww := fun (i : Nat) {d : Jvm.Cond} (q : tables_1[i]? = some d) => hw d (List.mem_of_getElem? q)
  refine own_meetV (plainFor_of_name own_pn12) Z0 (Ls0 := #[oA a1, oA r1]) (by intro m; first | (simp [entryFrame, mkF, argsToLocals, Value.category]; done) | rfl) ?_
  intro p e s m below meth c T0 vm0 k0 hsh Kn hS0 hk0 P0 X00 XX0
  have X0 := XX0 n0 Z0
  have K0 := Keep.refl h0 []
  refine own_newU X0 (ww 105 rfl) (ww 106 rfl) (ww 107 rfl) (cells' := 1) (slots' := 6) rfl rfl (by decide) (by decide) own_d_prog_25_method_7_code_0 (pc' := 3) rfl fun a765 T765 h765 g765 ge765 X765 E765 A765 D765 U765 => ?_
  have sz766 := own_ge K0 g765
  have hk767 := own_hk_ext hk0 E765
  have K768 := K0.ext E765
  have F769 : Fld Z h765 a765 "java/lang/Throwable" "cause" "Ljava/lang/Throwable;" .null := D765 (Or.inl (ww 236 rfl)) (ty := (.object "java/lang/Throwable")) (by decide)
  have F770 : Fld Z h765 a765 "java/lang/Throwable" "stackTrace" "[Ljava/lang/StackTraceElement;" .null := D765 (Or.inl (ww 239 rfl)) (ty := (.array (.object "java/lang/StackTraceElement"))) (by decide)
  have F771 : Fld Z h765 a765 "java/lang/Throwable" "suppressedExceptions" "Ljava/util/List;" .null := D765 (Or.inl (ww 242 rfl)) (ty := (.object "java/util/List")) (by decide)
  have F772 : Fld Z h765 a765 "java/lang/Throwable" "detailMessage" "Ljava/lang/String;" .null := D765 (Or.inl (ww 266 rfl)) (ty := (.object "java/lang/String")) (by decide)
  have F773 : Fld Z h765 a765 "java/lang/Throwable" "backtrace" "Ljava/lang/Object;" .null := D765 (Or.inl (ww 267 rfl)) (ty := (.object "java/lang/Object")) (by decide)
  have F774 : Fld Z h765 a765 "java/lang/Throwable" "depth" "I" (.int (0 : Int32)) := D765 (Or.inl (ww 268 rfl)) (ty := .int) (by decide)
  have S1x := own_Str.keep0 S1 K768
  have S2x := own_Str.keep0 S2 K768
  have S3x := own_Str.keep0 S3 K768
  have F1x := F1.keep K768 nin0
  have F2x := F2.keep K768 nin0
  have Gx := own_Gs.keep G0 K768 own_ns0
  have KZx := KZ.trans K768 own_mem0
  have KB := Keep.refl h765 []
  refine own_dup X765 rfl own_d_prog_25_method_7_code_3 (pc' := 4) rfl ?_
  refine own_new X765 (ww 108 rfl) (ww 109 rfl) (ww 110 rfl) (cells' := 2) (slots' := 10) rfl rfl (by decide) (by decide) own_d_prog_25_method_7_code_4 (pc' := 7) rfl fun a775 T775 h775 g775 ge775 X775 E775 A775 D775 => ?_
  have sz776 := own_ge KB g775
  have hk777 := own_hk_ext hk767 E775
  have K778 := KB.ext E775
  have F779 : Fld Z h775 a775 "java/lang/AbstractStringBuilder" "value" "[B" .null := D775 (Or.inl (ww 123 rfl)) (ty := (.array .byte)) (by decide)
  have F780 : Fld Z h775 a775 "java/lang/AbstractStringBuilder" "coder" "B" (.int (0 : Int32)) := D775 (Or.inl (ww 125 rfl)) (ty := .byte) (by decide)
  have F781 : Fld Z h775 a775 "java/lang/AbstractStringBuilder" "count" "I" (.int (0 : Int32)) := D775 (Or.inl (ww 147 rfl)) (ty := .int) (by decide)
  have F782 : Fld Z h775 a775 "java/lang/AbstractStringBuilder" "maybeLatin1" "Z" (.int (0 : Int32)) := D775 (Or.inl (ww 337 rfl)) (ty := .boolean) (by decide)
  refine own_dup X775 rfl own_d_prog_25_method_7_code_7 (pc' := 8) rfl ?_
  refine own_special X775 (own_bi l Z a0 hw a775 _ n0 X775.le ge775 A775 F779 F780 F781 F782 cs fm dv (own_Gs.keep Gx K778 own_ns0) hcs hfm hdv) rfl rfl (ww 111 rfl) (ww 112 rfl) (ww 110 rfl) (ww 113 rfl) (by decide) rfl (by decide) (W := 3) (Nat.le_of_eq rfl) (by decide) (cells' := 3) (slots' := 26) rfl rfl (by decide) (by decide) (argsL := []) (rest := [(.ref a775), (.ref a765), (.ref a765)]) (lenOf own_pd20 rfl) rfl rfl own_d_prog_25_method_7_code_8 (pc' := 11) rfl ?_
  rintro _ T783 h783 X783 ⟨rfl, ⟨b783, sb783, D783⟩, K783⟩
  have K784 := K778.trans K783 (own_mem1 (Or.inr sz776))
  have hk784 := own_hk_keep hk777 K783
  have gb785 := Nat.le_trans X775.le sb783
  have nb785 := Nat.le_trans K778.1 sb783
  show own_Goal p e below _ T783 (mkF m 11 #[oA a1, oA r1] [(.ref a775), (.ref a765), (.ref a765)])
  refine own_aloadN X783 rfl rfl own_d_prog_25_method_7_code_11 (pc' := 12) rfl ?_
  have FG786 := F1x.keep K784 nin0
  refine own_getF X783 (ww 69 rfl) FG786 own_d_prog_25_method_7_code_12 (pc' := 15) rfl fun T787 X787 => ?_
  refine own_virtual X787 (own_app l Z a0 hw a775 b783 s1 [] d1 _ n0 X787.le ge775 gb785 D783 (own_Str.keep0 S1x K784) own_ch0 hc1 hl1 (by simp only [List.length_append, List.length_cons, List.length_nil]; omega) cs fm dv (own_Gs.keep Gx K784 own_ns0) hcs hfm hdv) (C := "java/lang/StringBuilder") rfl (ww 126 rfl) (ww 127 rfl) (ww 129 rfl) (ww 128 rfl) (ww 110 rfl) (ww 130 rfl) (by decide) rfl (by decide) (W := 2) (Nat.le_of_eq rfl) (by decide) (cells' := 4) (slots' := 58) rfl rfl (by decide) (by decide) D783.1 (argsL := [(.ref s1)]) (rest := [(.ref a765), (.ref a765)]) (lenOf own_pd25 rfl) rfl rfl own_d_prog_25_method_7_code_15 (pc' := 18) rfl ?_
  rintro _ T788 h788 X788 ⟨b788, rfl, hb788, gb788, _, D788, K788⟩
  have K789 := K784.trans K788 (own_mem2 (Or.inr sz776) (Or.inr nb785))
  have hk789 := own_hk_keep hk784 K788
  have nb790 := hb788.elim (fun q => by rw [q]; exact nb785) (fun q => Nat.le_trans K784.1 q)
  show own_Goal p e below _ T788 (mkF m 18 #[oA a1, oA r1] [(.ref a775), (.ref a765), (.ref a765)])
  refine own_ldcSV X788 hS0 hk789 (by rw [hsh]; exact hn) (fun b cl q => by rw [hsh]; exact KZ.2.1 b cl q nin0) P0 (text := ": ") (by decide) hh111 hcw (vs := [.int (58 : Int32), .int (32 : Int32)]) (z := 2) ⟨by decide, by decide⟩ (by decide) (by decide) (ww 173 rfl) (own_wS hw) (n := 8) (by decide) (by decide) (cells' := 6) (slots' := 70) rfl rfl (by decide) (by decide) own_d_prog_25_method_7_code_18 (pc' := 20) rfl fun a791 b791 T791 h791 vm791 k791 hS791 hkn791 X791 E791 A791 F791a F791b V791 I791 => ?_
  have SL791 : own_Str Z h791 a791 [58, 32] := ⟨A791, by rw [own_lit58.2]; exact F791a, b791, F791b, V791.eq own_lit58.1.symm⟩
  have K791 := K789.ext E791
  have DD791 := own_SB.keep0 D788 ((Keep.refl _ []).ext E791)
  refine own_virtual X791 (own_app l Z a0 hw a775 b788 a791 ([] ++ d1) [58, 32] _ n0 X791.le ge775 gb788 DD791 SL791 (own_ch_app own_ch0 hc1) own_ch58 (by decide) (by simp only [List.length_append, List.length_cons, List.length_nil]; omega) cs fm dv (own_Gs.keep Gx K791 own_ns0) hcs hfm hdv) (C := "java/lang/StringBuilder") rfl (ww 126 rfl) (ww 127 rfl) (ww 129 rfl) (ww 128 rfl) (ww 110 rfl) (ww 130 rfl) (by decide) rfl (by decide) (W := 2) (Nat.le_of_eq rfl) (by decide) (cells' := 7) (slots' := 102) rfl rfl (by decide) (by decide) DD791.1 (argsL := [(.ref a791)]) (rest := [(.ref a765), (.ref a765)]) (lenOf own_pd25 rfl) rfl rfl own_d_prog_25_method_7_code_20 (pc' := 23) rfl ?_
  rintro _ T792 h792 X792 ⟨b792, rfl, hb792, gb792, _, D792, K792⟩
  have K793 := K791.trans K792 (own_mem2 (Or.inr sz776) (Or.inr nb790))
  have hk793 := own_hk_keep hkn791 K792
  have nb794 := hb792.elim (fun q => by rw [q]; exact nb790) (fun q => Nat.le_trans K791.1 q)
  show own_Goal p e below _ T792 (mkF m 23 #[oA a1, oA r1] [(.ref a775), (.ref a765), (.ref a765)])
  refine own_aloadN X792 rfl rfl own_d_prog_25_method_7_code_23 (pc' := 24) rfl ?_
  refine own_virtual X792 (own_app l Z a0 hw a775 b792 r1 (([] ++ d1) ++ [58, 32]) d2 _ n0 X792.le ge775 gb792 D792 (own_Str.keep0 S2x K793) (own_ch_app (own_ch_app own_ch0 hc1) own_ch58) hc2 hl2 (by simp only [List.length_append, List.length_cons, List.length_nil]; omega) cs fm dv (own_Gs.keep Gx K793 own_ns0) hcs hfm hdv) (C := "java/lang/StringBuilder") rfl (ww 126 rfl) (ww 127 rfl) (ww 129 rfl) (ww 128 rfl) (ww 110 rfl) (ww 130 rfl) (by decide) rfl (by decide) (W := 2) (Nat.le_of_eq rfl) (by decide) (cells' := 8) (slots' := 134) rfl rfl (by decide) (by decide) D792.1 (argsL := [(.ref r1)]) (rest := [(.ref a765), (.ref a765)]) (lenOf own_pd25 rfl) rfl rfl own_d_prog_25_method_7_code_24 (pc' := 27) rfl ?_
  rintro _ T795 h795 X795 ⟨b795, rfl, hb795, gb795, _, D795, K795⟩
  have K796 := K793.trans K795 (own_mem2 (Or.inr sz776) (Or.inr nb794))
  have hk796 := own_hk_keep hk793 K795
  have nb797 := hb795.elim (fun q => by rw [q]; exact nb794) (fun q => Nat.le_trans K793.1 q)
  show own_Goal p e below _ T795 (mkF m 27 #[oA a1, oA r1] [(.ref a775), (.ref a765), (.ref a765)])
  refine own_ldcSV X795 hS791 hk796 (by rw [hsh]; exact hn) (fun b cl q => by rw [hsh]; exact KZ.2.1 b cl q nin0) I791 (text := "; ") (by decide) hh113 hcw (vs := [.int (59 : Int32), .int (32 : Int32)]) (z := 2) ⟨by decide, by decide⟩ (by decide) (by decide) (ww 174 rfl) (own_wS hw) (n := 8) (by decide) (by decide) (cells' := 10) (slots' := 146) rfl rfl (by decide) (by decide) own_d_prog_25_method_7_code_27 (pc' := 29) rfl fun a798 b798 T798 h798 vm798 k798 hS798 hkn798 X798 E798 A798 F798a F798b V798 I798 => ?_
  have SL798 : own_Str Z h798 a798 [59, 32] := ⟨A798, by rw [own_lit59.2]; exact F798a, b798, F798b, V798.eq own_lit59.1.symm⟩
  have K798 := K796.ext E798
  have DD798 := own_SB.keep0 D795 ((Keep.refl _ []).ext E798)
  refine own_virtual X798 (own_app l Z a0 hw a775 b795 a798 ((([] ++ d1) ++ [58, 32]) ++ d2) [59, 32] _ n0 X798.le ge775 gb795 DD798 SL798 (own_ch_app (own_ch_app (own_ch_app own_ch0 hc1) own_ch58) hc2) own_ch59 (by decide) (by simp only [List.length_append, List.length_cons, List.length_nil]; omega) cs fm dv (own_Gs.keep Gx K798 own_ns0) hcs hfm hdv) (C := "java/lang/StringBuilder") rfl (ww 126 rfl) (ww 127 rfl) (ww 129 rfl) (ww 128 rfl) (ww 110 rfl) (ww 130 rfl) (by decide) rfl (by decide) (W := 2) (Nat.le_of_eq rfl) (by decide) (cells' := 11) (slots' := 178) rfl rfl (by decide) (by decide) DD798.1 (argsL := [(.ref a798)]) (rest := [(.ref a765), (.ref a765)]) (lenOf own_pd25 rfl) rfl rfl own_d_prog_25_method_7_code_29 (pc' := 32) rfl ?_
  rintro _ T799 h799 X799 ⟨b799, rfl, hb799, gb799, _, D799, K799⟩
  have K800 := K798.trans K799 (own_mem2 (Or.inr sz776) (Or.inr nb797))
  have hk800 := own_hk_keep hkn798 K799
  have nb801 := hb799.elim (fun q => by rw [q]; exact nb797) (fun q => Nat.le_trans K798.1 q)
  show own_Goal p e below _ T799 (mkF m 32 #[oA a1, oA r1] [(.ref a775), (.ref a765), (.ref a765)])
  refine own_aloadN X799 rfl rfl own_d_prog_25_method_7_code_32 (pc' := 33) rfl ?_
  have FG802 := F2x.keep K800 nin0
  refine own_getF X799 (ww 71 rfl) FG802 own_d_prog_25_method_7_code_33 (pc' := 36) rfl fun T803 X803 => ?_
  refine own_virtual X803 (own_app l Z a0 hw a775 b799 s2 (((([] ++ d1) ++ [58, 32]) ++ d2) ++ [59, 32]) d3 _ n0 X803.le ge775 gb799 D799 (own_Str.keep0 S3x K800) (own_ch_app (own_ch_app (own_ch_app (own_ch_app own_ch0 hc1) own_ch58) hc2) own_ch59) hc3 hl3 (by simp only [List.length_append, List.length_cons, List.length_nil]; omega) cs fm dv (own_Gs.keep Gx K800 own_ns0) hcs hfm hdv) (C := "java/lang/StringBuilder") rfl (ww 126 rfl) (ww 127 rfl) (ww 129 rfl) (ww 128 rfl) (ww 110 rfl) (ww 130 rfl) (by decide) rfl (by decide) (W := 2) (Nat.le_of_eq rfl) (by decide) (cells' := 12) (slots' := 210) rfl rfl (by decide) (by decide) D799.1 (argsL := [(.ref s2)]) (rest := [(.ref a765), (.ref a765)]) (lenOf own_pd25 rfl) rfl rfl own_d_prog_25_method_7_code_36 (pc' := 39) rfl ?_
  rintro _ T804 h804 X804 ⟨b804, rfl, hb804, gb804, _, D804, K804⟩
  have K805 := K800.trans K804 (own_mem2 (Or.inr sz776) (Or.inr nb801))
  have hk805 := own_hk_keep hk800 K804
  have nb806 := hb804.elim (fun q => by rw [q]; exact nb801) (fun q => Nat.le_trans K800.1 q)
  show own_Goal p e below _ T804 (mkF m 39 #[oA a1, oA r1] [(.ref a775), (.ref a765), (.ref a765)])
  refine own_virtual X804 (own_tos l Z a0 hw a775 b804 ((((([] ++ d1) ++ [58, 32]) ++ d2) ++ [59, 32]) ++ d3) _ n0 X804.le ge775 gb804 D804 (by simp only [List.length_append, List.length_cons, List.length_nil]; omega) cs fm dv (own_Gs.keep Gx K805 own_ns0) hcs hfm hdv) (C := "java/lang/StringBuilder") rfl (ww 175 rfl) (ww 176 rfl) (ww 178 rfl) (ww 177 rfl) (ww 110 rfl) (ww 179 rfl) (by decide) rfl (by decide) (W := 2) (Nat.le_of_eq rfl) (by decide) (cells' := 14) (slots' := 250) rfl rfl (by decide) (by decide) D804.1 (argsL := []) (rest := [(.ref a765), (.ref a765)]) (lenOf own_pd32 rfl) rfl rfl own_d_prog_25_method_7_code_39 (pc' := 42) rfl ?_
  rintro _ T807 h807 X807 ⟨r807, rfl, _, D807, K807⟩
  have K808 := K805.trans K807 own_mem0
  have hk808 := own_hk_keep hk805 K807
  show own_Goal p e below _ T807 (mkF m 42 #[oA a1, oA r1] [(.ref r807), (.ref a765), (.ref a765)])
  have EX809 := A765.keep K808
  have KZ809 := KZx.trans K808 own_mem0
  refine own_specialV X807 hS798 hk808 (own_cei l Z a0 hw a765 r807 us ss _ n0 X807.le hl0 ge765 EX809 (Unt.keep K808 nin0 U765) (F769.keep K808 nin0) (F770.keep K808 nin0) (F771.keep K808 nin0) (F773.keep K808 nin0) (F772.keep K808 nin0) (own_staK SUz KZ809 own_ns0) (own_staK SSz KZ809 own_ns0) hus hss (ThS.keep KZ809 (fun _ q => nomatch q) ThS.start)) Kn (fun _ _ => trivial) rfl rfl (ww 220 rfl) (ww 221 rfl) (ww 107 rfl) (ww 222 rfl) (by decide) rfl (by decide) (W := 1) (Nat.le_of_eq rfl) (by decide) (cells' := 15) (slots' := 3002) rfl rfl (by decide) (by decide) (argsL := [(.ref r807)]) (rest := [(.ref a765)]) (lenOf own_pd21 rfl) rfl rfl own_d_prog_25_method_7_code_42 (pc' := 45) rfl ?_
  rintro _ T810 h810 vm810 k810 hS810 hk810 X810 ⟨rfl, D810, K810⟩
  have SR810 := own_Str.keepE D807 EX809 (by decide) (ww 106 rfl) K810
  have EY810 := EX809.keep K810
  have KF810 := (K768.trans K808 own_mem0).trans K810 (own_mem1 (Or.inr sz766))
  show own_Goal p e below _ T810 (mkF m 45 #[oA a1, oA r1] [(.ref a765)])
  exact own_retAV X810 hS810 hk810 (t := (.object "com/example/arborview/arborview/cli/CommandException")) rfl own_d_prog_25_method_7_code_45 rfl (by decide) (by decide) (fun vm' W' => ⟨_, r807, rfl, EY810, D810, SR810, KF810⟩)
section OwnLaw934
theorem own_rem3 {x v w : Int32} (e1 : x &&& 3 = v) (e2 : v % 3 = w) : ∃ n : Nat, n ≤ 2 ∧ own_I 2 (n : Int) w := by
  have nn := own_and_nn (M := 3) e1 (by decide)
  have q : v = 0 ∨ v = 1 ∨ v = 2 ∨ v = 3 := by
    have h : v.toInt = 0 ∨ v.toInt = 1 ∨ v.toInt = 2 ∨ v.toInt = 3 := by omega
    rcases h with h | h | h | h
    · exact Or.inl (Int32.toInt_inj.mp (by rw [h]; decide))
    · exact Or.inr (Or.inl (Int32.toInt_inj.mp (by rw [h]; decide)))
    · exact Or.inr (Or.inr (Or.inl (Int32.toInt_inj.mp (by rw [h]; decide))))
    · exact Or.inr (Or.inr (Or.inr (Int32.toInt_inj.mp (by rw [h]; decide))))
  subst e2
  clear e1 nn
  rcases q with rfl | rfl | rfl | rfl
  · exact ⟨0, by decide, own_I.lit (by decide) (by decide)⟩
  · exact ⟨1, by decide, own_I.lit (by decide) (by decide)⟩
  · exact ⟨2, by decide, own_I.lit (by decide) (by decide)⟩
  · exact ⟨0, by decide, own_I.lit (by decide) (by decide)⟩
theorem own_i2c_rng {x v : Int32} (e : x.toUInt32.toUInt16.toUInt32.toInt32 = v) : 0 ≤ v.toInt ∧ v.toInt ≤ 65535 := by
  have hb : v.toBitVec.toNat < 65536 := by
    rw [← e]
    show x.toUInt32.toUInt16.toUInt32.toNat < 65536
    rw [UInt16.toNat_toUInt32]
    exact x.toUInt32.toUInt16.toNat_lt
  have h1 : v.toInt = v.toBitVec.toInt := rfl
  rw [h1, BitVec.toInt_eq_toNat_cond]
  split <;> omega
theorem own_cvtk_len {n : Nat} (h : n ≤ 2) (c d : Int32) : (own_cv (own_tk n c d)).length = n := by rw [own_cv_len, own_tk_len h]
theorem own_put_eq {D C : List Value} {n N M : Nat} (h : N - n = M + 2) : D ++ (C ++ (List.replicate N (Value.int 0)).drop n) = (D ++ C) ++ Value.int 0 :: Value.int 0 :: List.replicate M (Value.int 0) := by
  rw [List.drop_replicate, h, List.replicate_succ, List.replicate_succ, List.append_assoc]
theorem own_put_eq0 {D C : List Value} {n : Nat} : D ++ (C ++ (List.replicate n (Value.int 0)).drop n) = D ++ C := by rw [List.drop_replicate, Nat.sub_self]; simp
theorem own_two_eq {D R : List Value} {x y : Value} : D ++ x :: y :: R = (D ++ [x, y]) ++ R := by simp
theorem own_vecty {Z : State} {h : Heap} {a b : Addr} {ty ty' : FieldType} {vs vs' : List Value} (F : own_Vec Z h a ty vs) (G : own_Vec Z h b ty' vs') (hne : ty ≠ ty') : a ≠ b := fun q => by
  subst q
  obtain ⟨c1, ⟨g1, ⟨-, k1, hk1, o1, hd1⟩, -⟩, -⟩ := F
  obtain ⟨c2, ⟨g2, ⟨-, k2, hk2, o2, hd2⟩, -⟩, -⟩ := G
  cases g1.symm.trans g2
  cases hk1.symm.trans hk2
  cases hd1.symm.trans hd2
  exact hne rfl
theorem own_Str.keepV {Z : State} {h h' : Heap} {a0 : Array Value} {a x : Addr} {cs : List Int32} {vs : List Value} {n : Nat} (F : own_Str Z h a cs) (G : own_Vec Z h x .char vs) (wi : (Jvm.Cond.instantiable "java/lang/String" n).before a0 Z = true) (K : Keep h h' [x]) : own_Str Z h' a cs := by
  obtain ⟨A, F1, b, F2, V⟩ := F
  have n1 : a ≠ x := own_exavec A G wi
  have n2 : b ≠ x := own_vecty V G (by simp)
  exact ⟨A.keep K, F1.keep K (ninS n1 nin0), b, F2.keep K (ninS n1 nin0), V.keep K (ninS n2 nin0)⟩
end OwnLaw934
section OwnEqv
variable {args : Array Value} {first s : State} {o : Option Outcome} {idx : List Nat} {t : Jvm.Term} {c : Int32}
theorem own_eqv (h : (Jvm.Cond.eq t (Jvm.Term.int c)).value args first o s idx = some true) : t.eval args first o idx s = some (.int c) := by
  obtain ⟨x, y, ha, hb, -, k2⟩ := cmp_v (Or.inl h)
  cases (Term.int_eval c).symm.trans hb
  obtain ⟨z, rfl⟩ := k2
  have q := gotT (Cond.eq_ints ha (Term.int_eval c)) h
  subst q; exact ha
end OwnEqv
set_option maxRecDepth 65536 in
set_option maxHeartbeats 40000000 in
theorem own_law (l : Launch) (Z : State) (a0 : Array Value) (hw : ∀ d ∈ tables_1, d.before a0 Z = true) (ws : List Jvm.Cond) (p0 p1 p2 p3 : Int32) (h0 : Heap) (n0 : Nat) (Z0 : n0 ≤ h0.size) (hZh : Z.heap = h0) (hh7 : Jvm.Lit.constHeld Z "java/lang/String" 7) (hh111 : Jvm.Lit.constHeld Z "com/example/arborview/arborview/cli/Arguments" 111) (hh113 : Jvm.Lit.constHeld Z "com/example/arborview/arborview/cli/Arguments" 113) (hcw : Jvm.Lit.compactW.before a0 Z = true) (us ss : Value) (SUz : Sta Z Z.heap "java/lang/Throwable" "UNASSIGNED_STACK" "[Ljava/lang/StackTraceElement;" us) (SSz : Sta Z Z.heap "java/lang/Throwable" "SUPPRESSED_SENTINEL" "Ljava/util/List;" ss) (hus : us.isRef = true) (hss : ss.isRef = true) (hl0 : l.stackTraces = true) (cs : Int32) (fm dv : Value) (G0 : own_Gs Z h0 cs fm dv) (hcs : ¬ cs = 0) (hfm : fm.isRef = true) (hdv : dv.isRef = true) :
    own_MetV l Z x code maxLocals ret ws room_1 #[(.int p0), (.int p1), (.int p2), (.int p3)] h0 n0 (own_Lt Z h0) (fun v _ _ => v = some (.int 1)) := by
  have ww := fun (i : Nat) {d : Jvm.Cond} (q : tables_1[i]? = some d) => hw d (List.mem_of_getElem? q)
  refine own_meetV (plainFor_of_name own_pn7) Z0 (Ls0 := #[oI p0, oI p1, oI p2, oI p3, oU, oU, oU, oU, oU, oU, oU, oU, oU, oU, oU, oU, oU, oU, oU, oU, oU]) (by intro m; first | (simp [entryFrame, mkF, argsToLocals, Value.category, maxLocals]; done) | rfl) ?_
  intro p e s m below meth c T0 vm0 k0 hsh Kn hS0 hk0 P0 X00 XX0
  have X0 := XX0 n0 Z0
  have K0 := Keep.refl h0 []
  have KZ0 : Keep Z.heap h0 [] := by rw [hZh]; exact Keep.refl _ _
  refine own_iloadN X0 rfl at_0 (pc' := 1) rfl ?_
  refine own_iconst X0 (v := (3 : Int32)) (by decide) at_1 (pc' := 2) rfl ?_
  obtain ⟨i811, e811⟩ : ∃ v, p3 &&& (3 : Int32) = v := ⟨_, rfl⟩
  have f811 : own_I 3 i811.toInt i811 := own_I.and e811 (by decide)
  have nn811 := own_and_nn (M := 3) e811 (by decide)
  refine own_iand X0 e811 at_2 (pc' := 3) rfl ?_
  refine own_iconst X0 (v := (3 : Int32)) (by decide) at_3 (pc' := 4) rfl ?_
  obtain ⟨i812, e812⟩ : ∃ v, i811 % (3 : Int32) = v := ⟨_, rfl⟩
  refine own_irem X0 (by decide) e812 at_4 (pc' := 5) rfl ?_
  obtain ⟨n1, hn1, fl1⟩ := own_rem3 e811 e812
  refine own_istore X0 (Ls' := #[oI p0, oI p1, oI p2, oI p3, oI i812, oU, oU, oU, oU, oU, oU, oU, oU, oU, oU, oU, oU, oU, oU, oU, oU]) rfl at_5 (pc' := 7) rfl ?_
  refine own_iloadN X0 rfl at_7 (pc' := 8) rfl ?_
  refine own_iconst X0 (v := (2 : Int32)) (by decide) at_8 (pc' := 9) rfl ?_
  obtain ⟨i813, e813⟩ : ∃ v, XT.ushr p3 (2 : Int32) = v := ⟨_, rfl⟩
  refine own_iushr X0 e813 at_9 (pc' := 10) rfl ?_
  refine own_iconst X0 (v := (3 : Int32)) (by decide) at_10 (pc' := 11) rfl ?_
  obtain ⟨i814, e814⟩ : ∃ v, i813 &&& (3 : Int32) = v := ⟨_, rfl⟩
  have f814 : own_I 3 i814.toInt i814 := own_I.and e814 (by decide)
  have nn814 := own_and_nn (M := 3) e814 (by decide)
  refine own_iand X0 e814 at_11 (pc' := 12) rfl ?_
  refine own_iconst X0 (v := (3 : Int32)) (by decide) at_12 (pc' := 13) rfl ?_
  obtain ⟨i815, e815⟩ : ∃ v, i814 % (3 : Int32) = v := ⟨_, rfl⟩
  refine own_irem X0 (by decide) e815 at_13 (pc' := 14) rfl ?_
  obtain ⟨n2, hn2, fl2⟩ := own_rem3 e814 e815
  refine own_istore X0 (Ls' := #[oI p0, oI p1, oI p2, oI p3, oI i812, oI i815, oU, oU, oU, oU, oU, oU, oU, oU, oU, oU, oU, oU, oU, oU, oU]) rfl at_14 (pc' := 16) rfl ?_
  refine own_iloadN X0 rfl at_16 (pc' := 17) rfl ?_
  refine own_iconst X0 (v := (4 : Int32)) (by decide) at_17 (pc' := 18) rfl ?_
  obtain ⟨i816, e816⟩ : ∃ v, XT.ushr p3 (4 : Int32) = v := ⟨_, rfl⟩
  refine own_iushr X0 e816 at_18 (pc' := 19) rfl ?_
  refine own_iconst X0 (v := (3 : Int32)) (by decide) at_19 (pc' := 20) rfl ?_
  obtain ⟨i817, e817⟩ : ∃ v, i816 &&& (3 : Int32) = v := ⟨_, rfl⟩
  have f817 : own_I 3 i817.toInt i817 := own_I.and e817 (by decide)
  have nn817 := own_and_nn (M := 3) e817 (by decide)
  refine own_iand X0 e817 at_20 (pc' := 21) rfl ?_
  refine own_iconst X0 (v := (3 : Int32)) (by decide) at_21 (pc' := 22) rfl ?_
  obtain ⟨i818, e818⟩ : ∃ v, i817 % (3 : Int32) = v := ⟨_, rfl⟩
  refine own_irem X0 (by decide) e818 at_22 (pc' := 23) rfl ?_
  obtain ⟨n3, hn3, fl3⟩ := own_rem3 e817 e818
  refine own_istore X0 (Ls' := #[oI p0, oI p1, oI p2, oI p3, oI i812, oI i815, oI i818, oU, oU, oU, oU, oU, oU, oU, oU, oU, oU, oU, oU, oU, oU]) rfl at_23 (pc' := 25) rfl ?_
  refine own_iloadN X0 rfl at_25 (pc' := 26) rfl ?_
  refine own_ldcI X0 (v := (65535 : Int32)) (ww 0 rfl) at_26 (pc' := 28) rfl ?_
  obtain ⟨i819, e819⟩ : ∃ v, p0 &&& (65535 : Int32) = v := ⟨_, rfl⟩
  have f819 : own_I 65535 i819.toInt i819 := own_I.and e819 (by decide)
  have nn819 := own_and_nn (M := 65535) e819 (by decide)
  refine own_iand X0 e819 at_28 (pc' := 29) rfl ?_
  obtain ⟨i820, e820⟩ : ∃ v, i819.toUInt32.toUInt16.toUInt32.toInt32 = v := ⟨_, rfl⟩
  refine own_i2c X0 e820 at_29 (pc' := 30) rfl ?_
  have hr_i820 := own_i2c_rng e820
  refine own_istore X0 (Ls' := #[oI p0, oI p1, oI p2, oI p3, oI i812, oI i815, oI i818, oI i820, oU, oU, oU, oU, oU, oU, oU, oU, oU, oU, oU, oU, oU]) rfl at_30 (pc' := 32) rfl ?_
  refine own_iloadN X0 rfl at_32 (pc' := 33) rfl ?_
  refine own_bipush X0 (v := (16 : Int32)) (by decide) at_33 (pc' := 35) rfl ?_
  obtain ⟨i821, e821⟩ : ∃ v, XT.ushr p0 (16 : Int32) = v := ⟨_, rfl⟩
  refine own_iushr X0 e821 at_35 (pc' := 36) rfl ?_
  obtain ⟨i822, e822⟩ : ∃ v, i821.toUInt32.toUInt16.toUInt32.toInt32 = v := ⟨_, rfl⟩
  refine own_i2c X0 e822 at_36 (pc' := 37) rfl ?_
  have hr_i822 := own_i2c_rng e822
  refine own_istore X0 (Ls' := #[oI p0, oI p1, oI p2, oI p3, oI i812, oI i815, oI i818, oI i820, oI i822, oU, oU, oU, oU, oU, oU, oU, oU, oU, oU, oU, oU]) rfl at_37 (pc' := 39) rfl ?_
  refine own_iloadN X0 rfl at_39 (pc' := 40) rfl ?_
  refine own_ldcI X0 (v := (65535 : Int32)) (ww 0 rfl) at_40 (pc' := 42) rfl ?_
  obtain ⟨i823, e823⟩ : ∃ v, p1 &&& (65535 : Int32) = v := ⟨_, rfl⟩
  have f823 : own_I 65535 i823.toInt i823 := own_I.and e823 (by decide)
  have nn823 := own_and_nn (M := 65535) e823 (by decide)
  refine own_iand X0 e823 at_42 (pc' := 43) rfl ?_
  obtain ⟨i824, e824⟩ : ∃ v, i823.toUInt32.toUInt16.toUInt32.toInt32 = v := ⟨_, rfl⟩
  refine own_i2c X0 e824 at_43 (pc' := 44) rfl ?_
  have hr_i824 := own_i2c_rng e824
  refine own_istore X0 (Ls' := #[oI p0, oI p1, oI p2, oI p3, oI i812, oI i815, oI i818, oI i820, oI i822, oI i824, oU, oU, oU, oU, oU, oU, oU, oU, oU, oU, oU]) rfl at_44 (pc' := 46) rfl ?_
  refine own_iloadN X0 rfl at_46 (pc' := 47) rfl ?_
  refine own_bipush X0 (v := (16 : Int32)) (by decide) at_47 (pc' := 49) rfl ?_
  obtain ⟨i825, e825⟩ : ∃ v, XT.ushr p1 (16 : Int32) = v := ⟨_, rfl⟩
  refine own_iushr X0 e825 at_49 (pc' := 50) rfl ?_
  obtain ⟨i826, e826⟩ : ∃ v, i825.toUInt32.toUInt16.toUInt32.toInt32 = v := ⟨_, rfl⟩
  refine own_i2c X0 e826 at_50 (pc' := 51) rfl ?_
  have hr_i826 := own_i2c_rng e826
  refine own_istore X0 (Ls' := #[oI p0, oI p1, oI p2, oI p3, oI i812, oI i815, oI i818, oI i820, oI i822, oI i824, oI i826, oU, oU, oU, oU, oU, oU, oU, oU, oU, oU]) rfl at_51 (pc' := 53) rfl ?_
  refine own_iloadN X0 rfl at_53 (pc' := 54) rfl ?_
  refine own_ldcI X0 (v := (65535 : Int32)) (ww 0 rfl) at_54 (pc' := 56) rfl ?_
  obtain ⟨i827, e827⟩ : ∃ v, p2 &&& (65535 : Int32) = v := ⟨_, rfl⟩
  have f827 : own_I 65535 i827.toInt i827 := own_I.and e827 (by decide)
  have nn827 := own_and_nn (M := 65535) e827 (by decide)
  refine own_iand X0 e827 at_56 (pc' := 57) rfl ?_
  obtain ⟨i828, e828⟩ : ∃ v, i827.toUInt32.toUInt16.toUInt32.toInt32 = v := ⟨_, rfl⟩
  refine own_i2c X0 e828 at_57 (pc' := 58) rfl ?_
  have hr_i828 := own_i2c_rng e828
  refine own_istore X0 (Ls' := #[oI p0, oI p1, oI p2, oI p3, oI i812, oI i815, oI i818, oI i820, oI i822, oI i824, oI i826, oI i828, oU, oU, oU, oU, oU, oU, oU, oU, oU]) rfl at_58 (pc' := 60) rfl ?_
  refine own_iloadN X0 rfl at_60 (pc' := 61) rfl ?_
  refine own_bipush X0 (v := (16 : Int32)) (by decide) at_61 (pc' := 63) rfl ?_
  obtain ⟨i829, e829⟩ : ∃ v, XT.ushr p2 (16 : Int32) = v := ⟨_, rfl⟩
  refine own_iushr X0 e829 at_63 (pc' := 64) rfl ?_
  obtain ⟨i830, e830⟩ : ∃ v, i829.toUInt32.toUInt16.toUInt32.toInt32 = v := ⟨_, rfl⟩
  refine own_i2c X0 e830 at_64 (pc' := 65) rfl ?_
  have hr_i830 := own_i2c_rng e830
  refine own_istore X0 (Ls' := #[oI p0, oI p1, oI p2, oI p3, oI i812, oI i815, oI i818, oI i820, oI i822, oI i824, oI i826, oI i828, oI i830, oU, oU, oU, oU, oU, oU, oU, oU]) rfl at_65 (pc' := 67) rfl ?_
  refine own_iload X0 rfl at_67 (pc' := 69) rfl ?_
  refine own_iload X0 rfl at_69 (pc' := 71) rfl ?_
  refine own_iload X0 rfl at_71 (pc' := 73) rfl ?_
  refine own_callV X0 hS0 hk0 (own_mk l Z a0 hw i820 i822 i812 n1 hn1 fl1 _ n0 X0.le hr_i820 hr_i822 (KZ0.trans K0 own_mem0) hh7 hcw cs fm dv G0 hcs hfm hdv) Kn (fun vm' W' => own_Lt.warm P0 W') (ww 1 rfl) (ww 2 rfl) (ww 3 rfl) (ww 4 rfl) (by decide) rfl (by decide) (W := 0) (Nat.le_of_eq rfl) (by decide) (cells' := 4) (slots' := 56) rfl rfl (by decide) (by decide) (argsL := [(.int i820), (.int i822), (.int i812)]) (rest := []) (lenOf own_pd37 rfl) rfl rfl at_73 (pc' := 76) rfl ?_
  rintro _ T831 h831 vm831 k831 hS831 hk831 X831 ⟨r831, rfl, S831_, K831, L831⟩
  have S832 := G0.keep K831 own_ns0
  have K833 := K0.trans K831 own_mem0
  have lt1 := own_tk_len hn1 i820 i822
  show own_Goal p e below _ T831 (mkF m 76 #[oI p0, oI p1, oI p2, oI p3, oI i812, oI i815, oI i818, oI i820, oI i822, oI i824, oI i826, oI i828, oI i830, oU, oU, oU, oU, oU, oU, oU, oU] [(.ref r831)])
  refine own_astore X831 (Ls' := #[oI p0, oI p1, oI p2, oI p3, oI i812, oI i815, oI i818, oI i820, oI i822, oI i824, oI i826, oI i828, oI i830, oA r831, oU, oU, oU, oU, oU, oU, oU]) rfl rfl at_76 (pc' := 78) rfl ?_
  refine own_iload X831 rfl at_78 (pc' := 80) rfl ?_
  refine own_iload X831 rfl at_80 (pc' := 82) rfl ?_
  refine own_iload X831 rfl at_82 (pc' := 84) rfl ?_
  refine own_callV X831 hS831 hk831 (own_mk l Z a0 hw i824 i826 i815 n2 hn2 fl2 _ n0 X831.le hr_i824 hr_i826 (KZ0.trans K833 own_mem0) hh7 hcw cs fm dv S832 hcs hfm hdv) Kn (fun vm' W' => own_Lt.warm L831 W') (ww 1 rfl) (ww 2 rfl) (ww 3 rfl) (ww 4 rfl) (by decide) rfl (by decide) (W := 0) (Nat.le_of_eq rfl) (by decide) (cells' := 8) (slots' := 112) rfl rfl (by decide) (by decide) (argsL := [(.int i824), (.int i826), (.int i815)]) (rest := []) (lenOf own_pd37 rfl) rfl rfl at_84 (pc' := 87) rfl ?_
  rintro _ T834 h834 vm834 k834 hS834 hk834 X834 ⟨r834, rfl, S834_, K834, L834⟩
  have S835 := S832.keep K834 own_ns0
  have K836 := K833.trans K834 own_mem0
  have S837_ := own_Str.keep0 S831_ K834
  have lt2 := own_tk_len hn2 i824 i826
  show own_Goal p e below _ T834 (mkF m 87 #[oI p0, oI p1, oI p2, oI p3, oI i812, oI i815, oI i818, oI i820, oI i822, oI i824, oI i826, oI i828, oI i830, oA r831, oU, oU, oU, oU, oU, oU, oU] [(.ref r834)])
  refine own_astore X834 (Ls' := #[oI p0, oI p1, oI p2, oI p3, oI i812, oI i815, oI i818, oI i820, oI i822, oI i824, oI i826, oI i828, oI i830, oA r831, oA r834, oU, oU, oU, oU, oU, oU]) rfl rfl at_87 (pc' := 89) rfl ?_
  refine own_iload X834 rfl at_89 (pc' := 91) rfl ?_
  refine own_iload X834 rfl at_91 (pc' := 93) rfl ?_
  refine own_iload X834 rfl at_93 (pc' := 95) rfl ?_
  refine own_callV X834 hS834 hk834 (own_mk l Z a0 hw i828 i830 i818 n3 hn3 fl3 _ n0 X834.le hr_i828 hr_i830 (KZ0.trans K836 own_mem0) hh7 hcw cs fm dv S835 hcs hfm hdv) Kn (fun vm' W' => own_Lt.warm L834 W') (ww 1 rfl) (ww 2 rfl) (ww 3 rfl) (ww 4 rfl) (by decide) rfl (by decide) (W := 0) (Nat.le_of_eq rfl) (by decide) (cells' := 12) (slots' := 168) rfl rfl (by decide) (by decide) (argsL := [(.int i828), (.int i830), (.int i818)]) (rest := []) (lenOf own_pd37 rfl) rfl rfl at_95 (pc' := 98) rfl ?_
  rintro _ T838 h838 vm838 k838 hS838 hk838 X838 ⟨r838, rfl, S838_, K838, L838⟩
  have S839 := S835.keep K838 own_ns0
  have K840 := K836.trans K838 own_mem0
  have S841_ := own_Str.keep0 S837_ K838
  have S842_ := own_Str.keep0 S834_ K838
  have lt3 := own_tk_len hn3 i828 i830
  show own_Goal p e below _ T838 (mkF m 98 #[oI p0, oI p1, oI p2, oI p3, oI i812, oI i815, oI i818, oI i820, oI i822, oI i824, oI i826, oI i828, oI i830, oA r831, oA r834, oU, oU, oU, oU, oU, oU] [(.ref r838)])
  refine own_astore X838 (Ls' := #[oI p0, oI p1, oI p2, oI p3, oI i812, oI i815, oI i818, oI i820, oI i822, oI i824, oI i826, oI i828, oI i830, oA r831, oA r834, oA r838, oU, oU, oU, oU, oU]) rfl rfl at_98 (pc' := 100) rfl ?_
  have KZ3 := KZ0.trans K840 own_mem0
  have KR3 := Keep.refl h838 []
  refine own_iload X838 rfl at_100 (pc' := 102) rfl ?_
  refine own_iload X838 rfl at_102 (pc' := 104) rfl ?_
  obtain ⟨i843, e843⟩ : ∃ v, i812 + i815 = v := ⟨_, rfl⟩
  have f843 : own_I 4 (((n1 : Nat) : Int) + ((n2 : Nat) : Int)) i843 := fl1.add fl2 e843 (by decide) (by decide)
  refine own_iadd X838 e843 at_104 (pc' := 105) rfl ?_
  refine own_iload X838 rfl at_105 (pc' := 107) rfl ?_
  obtain ⟨i844, e844⟩ : ∃ v, i843 + i818 = v := ⟨_, rfl⟩
  have f844 : own_I 6 ((((n1 : Nat) : Int) + ((n2 : Nat) : Int)) + ((n3 : Nat) : Int)) i844 := f843.add fl3 e844 (by decide) (by decide)
  refine own_iadd X838 e844 at_107 (pc' := 108) rfl ?_
  refine own_iconst X838 (v := (4 : Int32)) (by decide) at_108 (pc' := 109) rfl ?_
  obtain ⟨i845, e845⟩ : ∃ v, i844 + (4 : Int32) = v := ⟨_, rfl⟩
  have f846 : own_I 4 (4 : Int) (4 : Int32) := own_I.lit (by decide) (by decide)
  have f845 : own_I 10 (((((n1 : Nat) : Int) + ((n2 : Nat) : Int)) + ((n3 : Nat) : Int)) + (4 : Int)) i845 := f844.add f846 e845 (by decide) (by decide)
  refine own_iadd X838 e845 at_109 (pc' := 110) rfl ?_
  have ix848 := own_idx f845 (k := n1 + n2 + n3 + 4) (by omega)
  refine own_newarrayC X838 (ty := .char) rfl (ww 8 rfl) (n := n1 + n2 + n3 + 4) (cap := 10) ix848.1 ix848.2 (by omega) (by decide) (cells' := 13) (slots' := 178) rfl rfl (by decide) (by decide) at_110 (pc' := 112) rfl fun a847 T847 h847 g847 ge847 X847 E847 V847 => ?_
  have sz849 := own_ge KR3 g847
  have S850 := S839.ext E847
  have hk851 := own_hk_ext hk838 E847
  have K852 := KR3.ext E847
  refine own_astore X847 (Ls' := #[oI p0, oI p1, oI p2, oI p3, oI i812, oI i815, oI i818, oI i820, oI i822, oI i824, oI i826, oI i828, oI i830, oA r831, oA r834, oA r838, oA a847, oU, oU, oU, oU]) rfl rfl at_112 (pc' := 114) rfl ?_
  refine own_new X847 (ww 38 rfl) (ww 39 rfl) (ww 40 rfl) (cells' := 14) (slots' := 181) rfl rfl (by decide) (by decide) at_114 (pc' := 117) rfl fun a853 T853 h853 g853 ge853 X853 E853 A853 D853 => ?_
  have ne854 : a847 ≠ a853 := own_lt_ne V847.lt g853
  have sz855 := own_ge K852 g853
  have V856 := V847.ext E853
  have S857 := S850.ext E853
  have hk858 := own_hk_ext hk851 E853
  have K859 := K852.ext E853
  have F860 : Fld Z h853 a853 "com/example/arborview/arborview/cli/Arguments" "subcommand" "Ljava/lang/String;" .null := D853 (Or.inr (ww 70 rfl)) (ty := (.object "java/lang/String")) (by decide)
  have F861 : Fld Z h853 a853 "com/example/arborview/arborview/cli/Arguments" "usage" "Ljava/lang/String;" .null := D853 (Or.inr (ww 72 rfl)) (ty := (.object "java/lang/String")) (by decide)
  have F862 : Fld Z h853 a853 "com/example/arborview/arborview/cli/Arguments" "rest" "Ljava/util/Iterator;" .null := D853 (Or.inr (ww 99 rfl)) (ty := (.object "java/util/Iterator")) (by decide)
  refine own_dup X853 rfl at_117 (pc' := 118) rfl ?_
  refine own_aload X853 rfl rfl at_118 (pc' := 120) rfl ?_
  refine own_aload X853 rfl rfl at_120 (pc' := 122) rfl ?_
  refine own_new X853 (ww 41 rfl) (ww 42 rfl) (ww 43 rfl) (cells' := 15) (slots' := 184) rfl rfl (by decide) (by decide) at_122 (pc' := 125) rfl fun a863 T863 h863 g863 ge863 X863 E863 A863 D863 => ?_
  have ne864 : a847 ≠ a863 := own_lt_ne V856.lt g863
  have ne865 : a853 ≠ a863 := own_lt_ne A853.lt g863
  have sz866 := own_ge K859 g863
  have V867 := V856.ext E863
  have A868 := A853.ext E863
  have F869 := F860.ext E863
  have F870 := F861.ext E863
  have F871 := F862.ext E863
  have S872 := S857.ext E863
  have hk873 := own_hk_ext hk858 E863
  have K874 := K859.ext E863
  have F875 : Fld Z h863 a863 "java/util/AbstractList" "modCount" "I" (.int (0 : Int32)) := D863 (Or.inl (ww 61 rfl)) (ty := .int) (by decide)
  have F876 : Fld Z h863 a863 "java/util/ArrayList" "elementData" "[Ljava/lang/Object;" .null := D863 (Or.inl (ww 64 rfl)) (ty := (.array (.object "java/lang/Object"))) (by decide)
  refine own_dup X863 rfl at_125 (pc' := 126) rfl ?_
  refine own_special X863 (own_ari l Z a0 hw a863 _ n0 X863.le ge863 A863 F875 F876 cs fm dv S872 hcs hfm hdv) rfl rfl (ww 44 rfl) (ww 45 rfl) (ww 43 rfl) (ww 46 rfl) (by decide) rfl (by decide) (W := 5) (Nat.le_of_eq rfl) (by decide) (cells' := 15) (slots' := 184) rfl rfl (by decide) (by decide) (argsL := []) (rest := [(.ref a863), (.ref r838), (.ref r831), (.ref a853), (.ref a853)]) (lenOf own_pd20 rfl) rfl rfl at_126 (pc' := 129) rfl ?_
  rintro _ T877 h877 X877 ⟨rfl, A877, F877, K877⟩
  have S878 := S872.keep K877 (own_nsE A863 own_ns0)
  have V879 := V867.keep K877 (ninS ne864 nin0)
  have A880 := A868.keep K877
  have F881 := F869.keep K877 (ninS ne865 nin0)
  have F882 := F870.keep K877 (ninS ne865 nin0)
  have F883 := F871.keep K877 (ninS ne865 nin0)
  have A884 := A863.keep K877
  have hk885 := own_hk_keep hk873 K877
  have K886 := K874.trans K877 (own_mem1 (Or.inr sz866))
  show own_Goal p e below _ T877 (mkF m 129 #[oI p0, oI p1, oI p2, oI p3, oI i812, oI i815, oI i818, oI i820, oI i822, oI i824, oI i826, oI i828, oI i830, oA r831, oA r834, oA r838, oA a847, oU, oU, oU, oU] [(.ref a863), (.ref r838), (.ref r831), (.ref a853), (.ref a853)])
  refine own_special X877 (own_agi l Z a0 hw a853 r831 r838 a863 _ n0 X877.le ge853 A880 F881 F882 F883 A877 F877 ne865) rfl rfl (ww 65 rfl) (ww 66 rfl) (ww 40 rfl) (ww 67 rfl) (by decide) rfl (by decide) (W := 1) (Nat.le_of_eq rfl) (by decide) (cells' := 16) (slots' := 188) rfl rfl (by decide) (by decide) (argsL := [(.ref r831), (.ref r838), (.ref a863)]) (rest := [(.ref a853)]) (lenOf own_pd36 rfl) rfl rfl at_129 (pc' := 132) rfl ?_
  rintro _ T887 h887 X887 ⟨rfl, A887, F887a, F887b, K887⟩
  have S888 := S878.keep K887 (own_nsE A880 own_ns0)
  have V889 := V879.keep K887 (ninS ne854 nin0)
  have A890 := A880.keep K887
  have A891 := A877.keep K887
  have F892 := F877.keep K887 (ninS ne865.symm nin0)
  have hk893 := own_hk_keep hk885 K887
  have K894 := K886.trans K887 (own_mem1 (Or.inr sz855))
  show own_Goal p e below _ T887 (mkF m 132 #[oI p0, oI p1, oI p2, oI p3, oI i812, oI i815, oI i818, oI i820, oI i822, oI i824, oI i826, oI i828, oI i830, oA r831, oA r834, oA r838, oA a847, oU, oU, oU, oU] [(.ref a853)])
  refine own_astore X887 (Ls' := #[oI p0, oI p1, oI p2, oI p3, oI i812, oI i815, oI i818, oI i820, oI i822, oI i824, oI i826, oI i828, oI i830, oA r831, oA r834, oA r838, oA a847, oA a853, oU, oU, oU]) rfl rfl at_132 (pc' := 134) rfl ?_
  refine own_aload X887 rfl rfl at_134 (pc' := 136) rfl ?_
  refine own_aload X887 rfl rfl at_136 (pc' := 138) rfl ?_
  refine own_virtualV X887 hS838 hk893 (own_MetV.mono (own_err l Z a0 hw a853 r831 r838 r834 (own_tk n1 i820 i822) (own_tk n2 i824 i826) (own_tk n3 i828 i830) _ _ (Nat.le_refl _) rfl A887 F887a F887b (own_Str.keep0 S841_ K894) (own_Str.keep0 S842_ K894) (own_Str.keep0 S838_ K894) (own_tk_ch hr_i820 hr_i822) (own_tk_ch hr_i824 hr_i826) (own_tk_ch hr_i828 hr_i830) (by omega) (by omega) (by omega) (KZ3.trans K894 own_mem0) hh111 hh113 hcw us ss SUz SSz hus hss hl0 cs fm dv S888 hcs hfm hdv) X887.le) Kn (fun vm' W' => own_IBwarm (own_Lt.ib L838) W') (C := "com/example/arborview/arborview/cli/Arguments") rfl (ww 100 rfl) (ww 101 rfl) (ww 103 rfl) (ww 102 rfl) (ww 40 rfl) (ww 104 rfl) (by decide) rfl (by decide) (W := 0) (Nat.le_of_eq rfl) (by decide) (cells' := 31) (slots' := 3190) rfl rfl (by decide) (by decide) A887 (argsL := [(.ref r834)]) (rest := []) (lenOf own_pd38 rfl) rfl rfl at_138 (pc' := 141) rfl ?_
  rintro _ T895 h895 vm895 k895 hS895 hk895 X895 ⟨x895, r895, rfl, EX895, FX895, SM895, K895⟩
  have S896 := S888.keep K895 own_ns0
  have V897 := V889.keep K895 nin0
  have A898 := A887.keep K895
  have F899 := F887a.keep K895 nin0
  have F900 := F887b.keep K895 nin0
  have K901 := K894.trans K895 own_mem0
  have nx895 : x895 ≠ a847 := own_exavec EX895 V897 (ww 106 rfl)
  have KR4 := Keep.refl h895 [a847]
  show own_Goal p e below _ T895 (mkF m 141 #[oI p0, oI p1, oI p2, oI p3, oI i812, oI i815, oI i818, oI i820, oI i822, oI i824, oI i826, oI i828, oI i830, oA r831, oA r834, oA r838, oA a847, oA a853, oU, oU, oU] [(.ref x895)])
  refine own_astore X895 (Ls' := #[oI p0, oI p1, oI p2, oI p3, oI i812, oI i815, oI i818, oI i820, oI i822, oI i824, oI i826, oI i828, oI i830, oA r831, oA r834, oA r838, oA a847, oA a853, oA x895, oU, oU]) rfl rfl at_141 (pc' := 143) rfl ?_
  refine own_aload X895 rfl rfl at_143 (pc' := 145) rfl ?_
  refine own_ifnonnullT X895 at_145 (pc' := 150) (by decide) (by decide) ?_
  refine own_aload X895 rfl rfl at_150 (pc' := 152) rfl ?_
  refine own_virtUp X895 (own_gm l Z a0 hw x895 r895 _ n0 X895.le FX895) (ww 271 rfl) (ww 272 rfl) (ww 273 rfl) (by decide) (ww 275 rfl) (ww 274 rfl) (ww 232 rfl) (ww 276 rfl) rfl (by decide) (W := 0) (Nat.le_of_eq rfl) (by decide) (cells' := 31) (slots' := 3190) rfl rfl (by decide) (by decide) EX895 (argsL := []) (rest := []) (lenOf own_pd32 rfl) rfl rfl at_152 (pc' := 155) rfl ?_
  rintro _ T902 h902 X902 ⟨rfl, e902⟩
  subst e902
  show own_Goal p e below _ T902 (mkF m 155 #[oI p0, oI p1, oI p2, oI p3, oI i812, oI i815, oI i818, oI i820, oI i822, oI i824, oI i826, oI i828, oI i830, oA r831, oA r834, oA r838, oA a847, oA a853, oA x895, oU, oU] [(.ref r895)])
  refine own_astore X902 (Ls' := #[oI p0, oI p1, oI p2, oI p3, oI i812, oI i815, oI i818, oI i820, oI i822, oI i824, oI i826, oI i828, oI i830, oA r831, oA r834, oA r838, oA a847, oA a853, oA x895, oA r895, oU]) rfl rfl at_155 (pc' := 157) rfl ?_
  refine own_aload X902 rfl rfl at_157 (pc' := 159) rfl ?_
  refine own_iconst X902 (v := (0 : Int32)) (by decide) at_159 (pc' := 160) rfl ?_
  refine own_iload X902 rfl at_160 (pc' := 162) rfl ?_
  refine own_iload X902 rfl at_162 (pc' := 164) rfl ?_
  refine own_iload X902 rfl at_164 (pc' := 166) rfl ?_
  have f903 : own_I 0 (0 : Int) (0 : Int32) := own_I.lit (by decide) (by decide)
  refine own_callS X902 (own_put l Z a0 hw a847 (0 : Int32) i812 i820 i822 n1 ([] : List Value) (List.replicate (n1 + n2 + n3 + 4) (Value.int 0)) hn1 fl1 (by rw [List.length_replicate]; omega) _ n0 X902.le ge847 V897 (f903.re rfl (by decide)) (by simp) hr_i820 hr_i822) (ww 277 rfl) (ww 278 rfl) (ww 3 rfl) (ww 279 rfl) (by decide) rfl (by decide) (W := 0) (Nat.le_of_eq rfl) (by decide) (cells' := 31) (slots' := 3190) rfl rfl (by decide) (by decide) (argsL := [(.ref a847), (.int (0 : Int32)), (.int i812), (.int i820), (.int i822)]) (rest := []) (lenOf own_pd33 rfl) rfl rfl at_166 (pc' := 169) rfl ?_
  rintro _ T904 h904 X904 ⟨⟨r904, rfl, fr904⟩, V904, K904⟩
  have S905 := S896.keep K904 (own_nsV V897 own_ns0)
  have hk906 := own_hk_keep hk895 K904
  have K907 := KR4.trans K904 (own_mem1 (Or.inl (by simp)))
  replace V904 := V904.eq (own_put_eq (M := n2 + n3 + 2) (by omega))
  obtain ⟨P1, eP1⟩ : ∃ D, ([] : List Value) ++ (own_cv (own_tk n1 i820 i822)) = D := ⟨_, rfl⟩
  rw [eP1] at V904
  have lP1 : P1.length = n1 := by rw [← eP1, List.length_append, own_cvtk_len hn1]; simp
  have fP1 : own_I 16 ((P1.length : Nat) : Int) r904 := fr904.of_eq (by rw [lP1]; simp)
  show own_Goal p e below _ T904 (mkF m 169 #[oI p0, oI p1, oI p2, oI p3, oI i812, oI i815, oI i818, oI i820, oI i822, oI i824, oI i826, oI i828, oI i830, oA r831, oA r834, oA r838, oA a847, oA a853, oA x895, oA r895, oU] [(.int r904)])
  refine own_istore X904 (Ls' := #[oI p0, oI p1, oI p2, oI p3, oI i812, oI i815, oI i818, oI i820, oI i822, oI i824, oI i826, oI i828, oI i830, oA r831, oA r834, oA r838, oA a847, oA a853, oA x895, oA r895, oI r904]) rfl at_169 (pc' := 171) rfl ?_
  refine own_aload X904 rfl rfl at_171 (pc' := 173) rfl ?_
  refine own_iload X904 rfl at_173 (pc' := 175) rfl ?_
  refine own_bipush X904 (v := (58 : Int32)) (by decide) at_175 (pc' := 177) rfl ?_
  have ix909 := own_idx fP1 (k := P1.length) (by omega)
  refine own_castore X904 V904 ge847 (own_char16 (x := (58 : Int32)) (by decide)) (i := P1.length) ix909.1 ix909.2 (by simp) at_177 (pc' := 178) rfl fun T908 h908 X908 W908 V908 => ?_
  have S910 := S905.wr W908
  have hk911 := own_hk_wr hk906 W908
  have K912 := K907.wr W908 (Or.inl (by simp))
  replace V908 := V908.eq (vs' := (P1 ++ Value.int 58 :: Value.int 0 :: List.replicate (n2 + n3 + 2) (Value.int 0))) (own_set_mid _ _ _ _ rfl)
  refine own_aload X908 rfl rfl at_178 (pc' := 180) rfl ?_
  refine own_iload X908 rfl at_180 (pc' := 182) rfl ?_
  refine own_iconst X908 (v := (1 : Int32)) (by decide) at_182 (pc' := 183) rfl ?_
  obtain ⟨i913, e913⟩ : ∃ v, r904 + (1 : Int32) = v := ⟨_, rfl⟩
  have f914 : own_I 1 (1 : Int) (1 : Int32) := own_I.lit (by decide) (by decide)
  have f913 : own_I 17 (((P1.length : Nat) : Int) + (1 : Int)) i913 := fP1.add f914 e913 (by decide) (by decide)
  refine own_iadd X908 e913 at_183 (pc' := 184) rfl ?_
  refine own_bipush X908 (v := (32 : Int32)) (by decide) at_184 (pc' := 186) rfl ?_
  have ix916 := own_idx f913 (k := P1.length + 1) (by omega)
  refine own_castore X908 V908 ge847 (own_char16 (x := (32 : Int32)) (by decide)) (i := P1.length + 1) ix916.1 ix916.2 (by simp) at_186 (pc' := 187) rfl fun T915 h915 X915 W915 V915 => ?_
  have S917 := S910.wr W915
  have hk918 := own_hk_wr hk911 W915
  have K919 := K912.wr W915 (Or.inl (by simp))
  replace V915 := V915.eq (vs' := (P1 ++ Value.int 58 :: Value.int 32 :: List.replicate (n2 + n3 + 2) (Value.int 0))) (own_set_mid2 _ _ _ _ _ rfl)
  refine own_iload X915 rfl at_187 (pc' := 189) rfl ?_
  refine own_iconst X915 (v := (2 : Int32)) (by decide) at_189 (pc' := 190) rfl ?_
  obtain ⟨i920, e920⟩ : ∃ v, r904 + (2 : Int32) = v := ⟨_, rfl⟩
  have f921 : own_I 2 (2 : Int) (2 : Int32) := own_I.lit (by decide) (by decide)
  have f920 : own_I 18 (((P1.length : Nat) : Int) + (2 : Int)) i920 := fP1.add f921 e920 (by decide) (by decide)
  refine own_iadd X915 e920 at_190 (pc' := 191) rfl ?_
  refine own_istore X915 (Ls' := #[oI p0, oI p1, oI p2, oI p3, oI i812, oI i815, oI i818, oI i820, oI i822, oI i824, oI i826, oI i828, oI i830, oA r831, oA r834, oA r838, oA a847, oA a853, oA x895, oA r895, oI i920]) rfl at_191 (pc' := 193) rfl ?_
  refine own_aload X915 rfl rfl at_193 (pc' := 195) rfl ?_
  refine own_iload X915 rfl at_195 (pc' := 197) rfl ?_
  refine own_iload X915 rfl at_197 (pc' := 199) rfl ?_
  refine own_iload X915 rfl at_199 (pc' := 201) rfl ?_
  refine own_iload X915 rfl at_201 (pc' := 203) rfl ?_
  obtain ⟨Q2, eQ2⟩ : ∃ D, P1 ++ [Value.int 58, Value.int 32] = D := ⟨_, rfl⟩
  have VQ2 := V915.eq own_two_eq
  rw [eQ2] at VQ2
  have lQ2 : Q2.length = n1 + 2 := by rw [← eQ2, List.length_append, lP1]; rfl
  refine own_callS X915 (own_put l Z a0 hw a847 i920 i815 i824 i826 n2 Q2 (List.replicate (n2 + n3 + 2) (Value.int 0)) hn2 fl2 (by rw [List.length_replicate]; omega) _ n0 X915.le ge847 VQ2 (f920.re (by rw [lP1, lQ2] ; omega) (by rw [lQ2]; omega)) (by rw [lQ2]; omega) hr_i824 hr_i826) (ww 277 rfl) (ww 278 rfl) (ww 3 rfl) (ww 279 rfl) (by decide) rfl (by decide) (W := 0) (Nat.le_of_eq rfl) (by decide) (cells' := 31) (slots' := 3190) rfl rfl (by decide) (by decide) (argsL := [(.ref a847), (.int i920), (.int i815), (.int i824), (.int i826)]) (rest := []) (lenOf own_pd33 rfl) rfl rfl at_203 (pc' := 206) rfl ?_
  rintro _ T922 h922 X922 ⟨⟨r922, rfl, fr922⟩, V922, K922⟩
  have S923 := S917.keep K922 (own_nsV V915 own_ns0)
  have hk924 := own_hk_keep hk918 K922
  have K925 := K919.trans K922 (own_mem1 (Or.inl (by simp)))
  replace V922 := V922.eq (own_put_eq (M := n3) (by omega))
  obtain ⟨P2, eP2⟩ : ∃ D, Q2 ++ (own_cv (own_tk n2 i824 i826)) = D := ⟨_, rfl⟩
  rw [eP2] at V922
  have lP2 : P2.length = n1 + 2 + n2 := by rw [← eP2, List.length_append, own_cvtk_len hn2, lQ2]
  have fP2 : own_I 16 ((P2.length : Nat) : Int) r922 := fr922.of_eq (by rw [lP2, lQ2])
  show own_Goal p e below _ T922 (mkF m 206 #[oI p0, oI p1, oI p2, oI p3, oI i812, oI i815, oI i818, oI i820, oI i822, oI i824, oI i826, oI i828, oI i830, oA r831, oA r834, oA r838, oA a847, oA a853, oA x895, oA r895, oI i920] [(.int r922)])
  refine own_istore X922 (Ls' := #[oI p0, oI p1, oI p2, oI p3, oI i812, oI i815, oI i818, oI i820, oI i822, oI i824, oI i826, oI i828, oI i830, oA r831, oA r834, oA r838, oA a847, oA a853, oA x895, oA r895, oI r922]) rfl at_206 (pc' := 208) rfl ?_
  refine own_aload X922 rfl rfl at_208 (pc' := 210) rfl ?_
  refine own_iload X922 rfl at_210 (pc' := 212) rfl ?_
  refine own_bipush X922 (v := (59 : Int32)) (by decide) at_212 (pc' := 214) rfl ?_
  have ix927 := own_idx fP2 (k := P2.length) (by omega)
  refine own_castore X922 V922 ge847 (own_char16 (x := (59 : Int32)) (by decide)) (i := P2.length) ix927.1 ix927.2 (by simp) at_214 (pc' := 215) rfl fun T926 h926 X926 W926 V926 => ?_
  have S928 := S923.wr W926
  have hk929 := own_hk_wr hk924 W926
  have K930 := K925.wr W926 (Or.inl (by simp))
  replace V926 := V926.eq (vs' := (P2 ++ Value.int 59 :: Value.int 0 :: List.replicate (n3) (Value.int 0))) (own_set_mid _ _ _ _ rfl)
  refine own_aload X926 rfl rfl at_215 (pc' := 217) rfl ?_
  refine own_iload X926 rfl at_217 (pc' := 219) rfl ?_
  refine own_iconst X926 (v := (1 : Int32)) (by decide) at_219 (pc' := 220) rfl ?_
  obtain ⟨i931, e931⟩ : ∃ v, r922 + (1 : Int32) = v := ⟨_, rfl⟩
  have f932 : own_I 1 (1 : Int) (1 : Int32) := own_I.lit (by decide) (by decide)
  have f931 : own_I 17 (((P2.length : Nat) : Int) + (1 : Int)) i931 := fP2.add f932 e931 (by decide) (by decide)
  refine own_iadd X926 e931 at_220 (pc' := 221) rfl ?_
  refine own_bipush X926 (v := (32 : Int32)) (by decide) at_221 (pc' := 223) rfl ?_
  have ix934 := own_idx f931 (k := P2.length + 1) (by omega)
  refine own_castore X926 V926 ge847 (own_char16 (x := (32 : Int32)) (by decide)) (i := P2.length + 1) ix934.1 ix934.2 (by simp) at_223 (pc' := 224) rfl fun T933 h933 X933 W933 V933 => ?_
  have S935 := S928.wr W933
  have hk936 := own_hk_wr hk929 W933
  have K937 := K930.wr W933 (Or.inl (by simp))
  replace V933 := V933.eq (vs' := (P2 ++ Value.int 59 :: Value.int 32 :: List.replicate (n3) (Value.int 0))) (own_set_mid2 _ _ _ _ _ rfl)
  refine own_iload X933 rfl at_224 (pc' := 226) rfl ?_
  refine own_iconst X933 (v := (2 : Int32)) (by decide) at_226 (pc' := 227) rfl ?_
  obtain ⟨i938, e938⟩ : ∃ v, r922 + (2 : Int32) = v := ⟨_, rfl⟩
  have f939 : own_I 2 (2 : Int) (2 : Int32) := own_I.lit (by decide) (by decide)
  have f938 : own_I 18 (((P2.length : Nat) : Int) + (2 : Int)) i938 := fP2.add f939 e938 (by decide) (by decide)
  refine own_iadd X933 e938 at_227 (pc' := 228) rfl ?_
  refine own_istore X933 (Ls' := #[oI p0, oI p1, oI p2, oI p3, oI i812, oI i815, oI i818, oI i820, oI i822, oI i824, oI i826, oI i828, oI i830, oA r831, oA r834, oA r838, oA a847, oA a853, oA x895, oA r895, oI i938]) rfl at_228 (pc' := 230) rfl ?_
  refine own_aload X933 rfl rfl at_230 (pc' := 232) rfl ?_
  refine own_iload X933 rfl at_232 (pc' := 234) rfl ?_
  refine own_iload X933 rfl at_234 (pc' := 236) rfl ?_
  refine own_iload X933 rfl at_236 (pc' := 238) rfl ?_
  refine own_iload X933 rfl at_238 (pc' := 240) rfl ?_
  obtain ⟨Q3, eQ3⟩ : ∃ D, P2 ++ [Value.int 59, Value.int 32] = D := ⟨_, rfl⟩
  have VQ3 := V933.eq own_two_eq
  rw [eQ3] at VQ3
  have lQ3 : Q3.length = n1 + 2 + n2 + 2 := by rw [← eQ3, List.length_append, lP2]; rfl
  refine own_callS X933 (own_put l Z a0 hw a847 i938 i818 i828 i830 n3 Q3 (List.replicate (n3) (Value.int 0)) hn3 fl3 (by rw [List.length_replicate]; omega) _ n0 X933.le ge847 VQ3 (f938.re (by rw [lP2, lQ3] ; omega) (by rw [lQ3]; omega)) (by rw [lQ3]; omega) hr_i828 hr_i830) (ww 277 rfl) (ww 278 rfl) (ww 3 rfl) (ww 279 rfl) (by decide) rfl (by decide) (W := 0) (Nat.le_of_eq rfl) (by decide) (cells' := 31) (slots' := 3190) rfl rfl (by decide) (by decide) (argsL := [(.ref a847), (.int i938), (.int i818), (.int i828), (.int i830)]) (rest := []) (lenOf own_pd33 rfl) rfl rfl at_240 (pc' := 243) rfl ?_
  rintro _ T940 h940 X940 ⟨⟨r940, rfl, fr940⟩, V940, K940⟩
  have S941 := S935.keep K940 (own_nsV V933 own_ns0)
  have hk942 := own_hk_keep hk936 K940
  have K943 := K937.trans K940 (own_mem1 (Or.inl (by simp)))
  replace V940 := V940.eq own_put_eq0
  obtain ⟨P3, eP3⟩ : ∃ D, Q3 ++ (own_cv (own_tk n3 i828 i830)) = D := ⟨_, rfl⟩
  rw [eP3] at V940
  have lP3 : P3.length = n1 + 2 + n2 + 2 + n3 := by rw [← eP3, List.length_append, own_cvtk_len hn3, lQ3]
  have fP3 : own_I 16 ((P3.length : Nat) : Int) r940 := fr940.of_eq (by rw [lP3, lQ3])
  have fL : own_I 16 ((P3.length : Nat) : Int) i845 := f845.re (by rw [lP3]; omega) (by rw [lP3]; omega)
  show own_Goal p e below _ T940 (mkF m 243 #[oI p0, oI p1, oI p2, oI p3, oI i812, oI i815, oI i818, oI i820, oI i822, oI i824, oI i826, oI i828, oI i830, oA r831, oA r834, oA r838, oA a847, oA a853, oA x895, oA r895, oI i938] [(.int r940)])
  refine own_istore X940 (Ls' := #[oI p0, oI p1, oI p2, oI p3, oI i812, oI i815, oI i818, oI i820, oI i822, oI i824, oI i826, oI i828, oI i830, oA r831, oA r834, oA r838, oA a847, oA a853, oA x895, oA r895, oI r940]) rfl at_243 (pc' := 245) rfl ?_
  refine own_iload X940 rfl at_245 (pc' := 247) rfl ?_
  refine own_aload X940 rfl rfl at_247 (pc' := 249) rfl ?_
  refine own_len X940 V940 (v := i845) (own_i32 fL) at_249 (pc' := 250) rfl ?_
  have c944 : r940 = i845 := own_I.inj fP3 fL
  refine own_icmpF X940 (own_i_eq c944).2 at_250 (pc' := 253) rfl ?_
  refine own_new X940 (ww 5 rfl) (ww 6 rfl) (ww 7 rfl) (cells' := 32) (slots' := 3194) rfl rfl (by decide) (by decide) at_253 (pc' := 256) rfl fun a945 T945 h945 g945 ge945 X945 E945 A945 D945 => ?_
  have ne946 : a847 ≠ a945 := own_lt_ne V940.lt g945
  have sz947 := own_ge K943 g945
  have V948 := V940.ext E945
  have S949 := S941.ext E945
  have hk950 := own_hk_ext hk942 E945
  have K951 := K943.ext E945
  have F952 : Fld Z h945 a945 "java/lang/String" "coder" "B" (.int (0 : Int32)) := D945 (Or.inr (ww 32 rfl)) (ty := .byte) (by decide)
  have F953 : Fld Z h945 a945 "java/lang/String" "value" "[B" .null := D945 (Or.inr (ww 34 rfl)) (ty := (.array .byte)) (by decide)
  refine own_dup X945 rfl at_256 (pc' := 257) rfl ?_
  refine own_aload X945 rfl rfl at_257 (pc' := 259) rfl ?_
  have eF : P3 = own_cv ([] ++ (own_tk n1 i820 i822) ++ [58, 32] ++ (own_tk n2 i824 i826) ++ [59, 32] ++ (own_tk n3 i828 i830)) := by rw [← eP3, ← eQ3, ← eP2, ← eQ2, ← eP1]; simp [own_cv]
  have VF := V948.eq eF
  have fF : own_I 16 (((([] ++ (own_tk n1 i820 i822) ++ [58, 32] ++ (own_tk n2 i824 i826) ++ [59, 32] ++ (own_tk n3 i828 i830))).length : Nat) : Int) i845 := fL.of_eq (by rw [eF, own_cv_len])
  refine own_special X945 (own_s1 l Z a0 hw a945 a847 i845 ([] ++ (own_tk n1 i820 i822) ++ [58, 32] ++ (own_tk n2 i824 i826) ++ [59, 32] ++ (own_tk n3 i828 i830)) _ n0 X945.le ge945 A945 F952 F953 VF fF (own_ch_app (own_ch_app (own_ch_app (own_ch_app (own_ch_app own_ch0 (own_tk_ch hr_i820 hr_i822)) own_ch58) (own_tk_ch hr_i824 hr_i826)) own_ch59) (own_tk_ch hr_i828 hr_i830)) (by simp only [List.length_append, List.length_cons, List.length_nil]; omega) cs fm dv S949 hcs hfm hdv) rfl rfl (ww 9 rfl) (ww 10 rfl) (ww 7 rfl) (ww 11 rfl) (by decide) rfl (by decide) (W := 1) (Nat.le_of_eq rfl) (by decide) (cells' := 34) (slots' := 3242) rfl rfl (by decide) (by decide) (argsL := [(.ref a847)]) (rest := [(.ref a945)]) (lenOf own_pd8 rfl) rfl rfl at_259 (pc' := 262) rfl ?_
  rintro _ T954 h954 X954 ⟨rfl, D954, K954⟩
  have S955 := S949.keep K954 (own_nsE A945 own_ns0)
  have V956 := V948.keep K954 (ninS ne946 nin0)
  have A957 := A945.keep K954
  have hk958 := own_hk_keep hk950 K954
  have K959 := K951.trans K954 (own_mem1 (Or.inr sz947))
  have SMf := own_Str.keepV SM895 V897 (ww 6 rfl) K959
  show own_Goal p e below _ T954 (mkF m 262 #[oI p0, oI p1, oI p2, oI p3, oI i812, oI i815, oI i818, oI i820, oI i822, oI i824, oI i826, oI i828, oI i830, oA r831, oA r834, oA r838, oA a847, oA a853, oA x895, oA r895, oI r940] [(.ref a945)])
  refine own_aload X954 rfl rfl at_262 (pc' := 264) rfl ?_
  refine own_virtual X954 (own_equ l Z a0 hw a945 r895 ([] ++ (own_tk n1 i820 i822) ++ [58, 32] ++ (own_tk n2 i824 i826) ++ [59, 32] ++ (own_tk n3 i828 i830)) _ n0 X954.le D954 SMf (by simp only [List.length_append, List.length_cons, List.length_nil]; omega) cs fm dv S955 hcs hfm hdv) (C := "java/lang/String") rfl (ww 280 rfl) (ww 281 rfl) (ww 283 rfl) (ww 282 rfl) (ww 7 rfl) (ww 284 rfl) (by decide) rfl (by decide) (W := 0) (Nat.le_of_eq rfl) (by decide) (cells' := 34) (slots' := 3242) rfl rfl (by decide) (by decide) D954.1 (argsL := [(.ref r895)]) (rest := []) (lenOf own_pd10 rfl) rfl rfl at_264 (pc' := 267) rfl ?_
  rintro _ T960 h960 X960 ⟨rfl, e960⟩
  subst e960
  show own_Goal p e below _ T960 (mkF m 267 #[oI p0, oI p1, oI p2, oI p3, oI i812, oI i815, oI i818, oI i820, oI i822, oI i824, oI i826, oI i828, oI i830, oA r831, oA r834, oA r838, oA a847, oA a853, oA x895, oA r895, oI r940] [(.int (1 : Int32))])
  refine own_ifF X960 (by decide) at_267 (pc' := 270) rfl ?_
  refine own_iconst X960 (v := (1 : Int32)) (by decide) at_270 (pc' := 271) rfl ?_
  refine own_goto X960 at_271 (pc' := 275) (by decide) (by decide) ?_
  exact own_retZV X960 hS895 hk958 (by decide) at_275 rfl (by decide) (by decide) (fun vm' W' => rfl)
set_option maxRecDepth 65536 in
set_option maxHeartbeats 40000000 in
theorem comes_1 {Post : Tables → Env → Array Value → State → Outcome → State → Prop} (hpost : ∀ tb e args s v u, (limb_1_1.after args s (.returned v) u = true ∧ limb_1_2.after args s (.returned v) u = true ∧ True) → FramedW s (.returned v) u (Jvm.fieldLocs frame_1_writes args s ++ Jvm.arrayLocs frame_1_arrays args s ++ Jvm.staticLocs frame_1_statics s) 72 9024 → Post tb e args s (.returned v) u) :
    ArmFor flags0 classFile x code maxLocals ret World_1 tables_1 room_1 Calls_1 rest_1 Pre_1 Post := by
  intro l hfl _ _ p e ha hc hk s m args below hf hA hF happ hP
  obtain ⟨hcalls, hrest, hpre⟩ := hP
  obtain ⟨-, -, -, hnamed, -, -, -, hat⟩ := (Spec.applies_iff hf).mp happ
  obtain ⟨hg, hn⟩ := and_e (Cond.before_iff.mp (show (Jvm.Cond.and given_1 narrow_1).before args s = true from hpre))
  obtain ⟨h1, g0⟩ := and_e hg
  obtain ⟨k0, g1⟩ := and_e g0
  obtain ⟨k1, g2⟩ := and_e g1
  obtain ⟨k2, g3⟩ := and_e g2
  obtain ⟨w0, w1, w2, w3, rfl⟩ : ∃ w0 w1 w2 w3 : Value, args = #[w0, w1, w2, w3] := by
    have hs : args.size = 4 := by simpa [Cond.value, given_1] using h1
    obtain ⟨L⟩ := args
    match L, hs with
    | [w0, w1, w2, w3], _ => exact ⟨w0, w1, w2, w3, rfl⟩
  have hw := fun d (hd : d ∈ tables_1) => atoms_spec (ws := Jvm.Cond.code x code maxLocals ret :: tables_1) hat d (List.mem_cons_of_mem _ hd)
  obtain ⟨p0, e0⟩ := is_v k0
  obtain rfl : w0 = (.int p0) := Option.some.inj e0
  obtain ⟨p1, e1⟩ := is_v k1
  obtain rfl : w1 = (.int p1) := Option.some.inj e1
  obtain ⟨p2, e2⟩ := is_v k2
  obtain rfl : w2 = (.int p2) := Option.some.inj e2
  obtain ⟨p3, e3⟩ := is_v g3
  obtain rfl : w3 = (.int p3) := Option.some.inj e3
  obtain ⟨hsets, hown0⟩ := atoms_of _ (rest_1_c_eq ▸ (show rest_1_c.before _ s = true from hrest))
  have hs := fun (i : Nat) {d : Jvm.Cond} (q : jdkStatics_1[i]? = some d) => hsets d (List.mem_of_getElem? q)
  have n5 := not_v (Cond.before_iff.mp (hs 2 rfl))
  obtain ⟨cs, e10⟩ := is_v (Cond.before_iff.mp (hs 1 rfl))
  have G1 : Sta s s.heap "java/lang/String" "COMPACT_STRINGS" "Z" (.int cs) := Sta.start e10 (Or.inl (hs 0 rfl))
  have hcs : ¬ (cs = (0 : Int32)) := gotF (Cond.eq_ints e10 (Term.int_eval (0))) n5
  have hcw : Jvm.Lit.compactW.before _ s = true := hs 2 rfl
  have G2 : Sta s s.heap "java/lang/StringUTF16" "$assertionsDisabled" "Z" (.int 1) := Sta.start (own_eqv (Cond.before_iff.mp (hs 41 rfl))) (Or.inl (hs 40 rfl))
  have G3 : Sta s s.heap "java/lang/StringUTF16" "HI_BYTE_SHIFT" "I" (.int 0) := Sta.start (own_eqv (Cond.before_iff.mp (hs 44 rfl))) (Or.inl (hs 43 rfl))
  have G4 : Sta s s.heap "java/lang/StringUTF16" "LO_BYTE_SHIFT" "I" (.int 8) := Sta.start (own_eqv (Cond.before_iff.mp (hs 47 rfl))) (Or.inl (hs 46 rfl))
  obtain ⟨fm, e11, hfm⟩ := isR_v (Cond.before_iff.mp (hs 8 rfl))
  have G5 : Sta s s.heap "jdk/internal/util/Preconditions" "SIOOBE_FORMATTER" "Ljava/util/function/BiFunction;" fm := Sta.start e11 (Or.inl (hs 7 rfl))
  obtain ⟨dx, e12⟩ := arr_v (Cond.before_iff.mp (hs 15 rfl))
  have G6 : Sta s s.heap "java/util/ArrayList" "DEFAULTCAPACITY_EMPTY_ELEMENTDATA" "[Ljava/lang/Object;" (.ref dx) := Sta.start e12 (Or.inr ⟨hw _ (List.mem_of_getElem? (i := 43) rfl), hs 11 rfl⟩)
  obtain ⟨us, e13, hus⟩ := isR_v (Cond.before_iff.mp (hs 25 rfl))
  have SUz : Sta s s.heap "java/lang/Throwable" "UNASSIGNED_STACK" "[Ljava/lang/StackTraceElement;" us := Sta.start e13 (Or.inl (hs 24 rfl))
  obtain ⟨ss, e14, hss⟩ := isR_v (Cond.before_iff.mp (hs 30 rfl))
  have SSz : Sta s s.heap "java/lang/Throwable" "SUPPRESSED_SENTINEL" "Ljava/util/List;" ss := Sta.start e14 (Or.inl (hs 29 rfl))
  have hh7 : Jvm.Lit.constHeld s "java/lang/String" 7 := hcalls.2.2.1 ("java/lang/String", 7) (List.mem_of_getElem? (i := 2) rfl)
  have hh111 : Jvm.Lit.constHeld s "com/example/arborview/arborview/cli/Arguments" 111 := hcalls.2.2.1 ("com/example/arborview/arborview/cli/Arguments", 111) (List.mem_of_getElem? (i := 0) rfl)
  have hh113 : Jvm.Lit.constHeld s "com/example/arborview/arborview/cli/Arguments" 113 := hcalls.2.2.1 ("com/example/arborview/arborview/cli/Arguments", 113) (List.mem_of_getElem? (i := 1) rfl)
  have hl0 : l.stackTraces = true := by
    have q : l.stackTraces = !l.flags.contains noTraceFlag := rfl
    rw [q, hfl]; decide
  obtain ⟨n, o, h1, h2, h3, _, L, rfl, ⟨⟨rfl, -⟩, N⟩, hq⟩ := own_law l s _ hw tables_1 p0 p1 p2 p3 s.heap s.heap.size (Nat.le_refl _) rfl hh7 hh111 hh113 hcw us ss SUz SSz hus hss hl0 cs fm (.ref dx) ⟨G1, G2, G3, G4, G5, G6⟩ hcs hfm rfl p e ha hc hk s m _ below hf ((Spec.applies_iff_loose hf).mp happ).1 ⟨rfl, State.Warmed39.refl s, rfl, Or.inl IB.start⟩ ⟨MethodsKnown_of_tablesKnown hcalls.2.1, FramesKnown_of_framesKnown hcalls.1 hf⟩
  refine ⟨n, _, h1, h2, h3, hpost _ _ _ _ _ _ ⟨Cond.after_iff.mpr rfl, Cond.after_iff.mpr (eq_i res_at (Term.int_eval (1)) rfl), trivial⟩ ⟨hq.1, hq.2.1, hq.2.2.1, (hq.2.2.2.sift fun y hy => Or.inr (N y hy)).mono (by decide) (by decide)⟩⟩
theorem main_1_1 : Claimed_1_1 := comes_1 fun _ _ _ _ _ _ h hF => ⟨h.1, hF⟩
theorem main_1_2 : Claimed_1_2 := comes_1 fun _ _ _ _ _ _ h hF => ⟨h.2.1, hF⟩
end Jvm.Pilot.@@N@@
namespace Jvm.Pilot.@@N@@
open Jvm Jvm.ClassFile Sem Op Lib Jvm.Free Jvm.Stand Jvm.Pilot.@@N@@.Jvm.D
/-! MADE BY PROGRAM (witnessworld.py) out of the Statement's table words and the real class files: 45 classes; the members and pool entries that the words name. The judged class is class 1, her method 3. -/
namespace start1
open Jvm.ClassFile
def u (s : String) : CpInfo := .utf8 (stringToUtf16 s)
/-- a pool by its gaps: so many unusable entries, then the entry; so many at the end -/
def gap : Nat → List CpInfo → List CpInfo
  | 0, r => r
  | n + 1, r => .unusable :: gap n r
def poolList (es : List (Nat × CpInfo)) (last : Nat) : List CpInfo := es.foldr (fun e r => gap e.1 (e.2 :: r)) (gap last [])
def pool (es : List (Nat × CpInfo)) (last : Nat) : Array CpInfo := ⟨poolList es last⟩
def fileOf (pool : Array CpInfo) (this : Nat) (attrs : Array Attribute := #[]) (ms : Array MethodInfo := #[]) (fl : Nat := 33) (sup : Nat := 0) (ifs : Array Nat := #[]) (fds : Array FieldInfo := #[]) : ClassFile where
  minorVersion := 0
  majorVersion := 65
  constantPool := pool
  accessFlags := fl
  thisClass := this
  superClass := sup
  interfaces := ifs
  fields := fds
  methods := ms
  attributes := attrs
def plain (name : String) (sup : Option ClassId) : Class where
  name := name
  kind := .ordinary
  loader := none
  accessFlags := 33
  super := sup
  interfaces := #[]
  cf := none
  fields := #[]
  methods := #[]
  instanceTypes := #[]
  staticTypes := #[]
  resolved := #[]
  callSites := []
  init := .initialized
  statics := none
  mirror := none

def pool0 : Array CpInfo := pool [(5, u "<init>"), (0, u "()V"), (1, .class_ 10), (1, u "java/lang/Object")] 113

def k0c0 : Code := { maxStack := 0, maxLocals := 1, code := object_method_1_code, exceptionTable := #[], attributes := #[] }
def k0m0 : Method := { name := "<init>", desc := "()V", sig := { parameters := [], returnType := none }, accessFlags := 1, code := some k0c0 }
/-- java/lang/Object -/
def k0 : Class := { plain "java/lang/Object" none with
  accessFlags := 33
  interfaces := #[]
  cf := some (fileOf pool0 8 #[] #[{ accessFlags := 1, nameIndex := 5, descriptorIndex := 6, attributes := #[] }] 33 0 #[] #[])
  fields := #[]
  methods := #[k0m0]
  instanceTypes := #[]
  staticTypes := #[]
  resolved := Array.replicate 124 none
  statics := none }

def pool1 : Array CpInfo := pool [(2, .class_ 4), (0, .nameAndType 5 6), (0, u "java/lang/Object"), (0, u "<init>"), (0, u "()V"), (0, .class_ 8), (0, u "java/lang/String"), (0, .methodref 7 10), (0, .nameAndType 5 11), (0, u "([C)V"), (0, .integer 65535), (0, .methodref 14 15), (0, .class_ 16), (0, .nameAndType 17 18), (0, u "com/example/arborview/arborview/cli/ArgumentsErrorPinLaw"), (0, u "mk"), (0, u "(CCI)Ljava/lang/String;"), (0, .class_ 20), (0, u "com/example/arborview/arborview/cli/Arguments"), (0, .class_ 22), (0, u "java/util/ArrayList"), (0, .methodref 21 3), (0, .methodref 19 25), (0, .nameAndType 5 26), (0, u "(Ljava/lang/String;Ljava/lang/String;Ljava/util/List;)V"), (0, .methodref 19 28), (0, .nameAndType 29 30), (0, u "error"), (0, u "(Ljava/lang/String;)Lcom/example/arborview/arborview/cli/CommandException;"), (0, .methodref 32 33), (0, .class_ 34), (0, .nameAndType 35 36), (0, u "com/example/arborview/arborview/cli/CommandException"), (0, u "getMessage"), (0, u "()Ljava/lang/String;"), (0, .methodref 14 38), (0, .nameAndType 39 40), (0, u "put"), (0, u "([CIICC)I"), (0, .methodref 7 42), (0, .nameAndType 43 44), (0, u "equals"), (0, u "(Ljava/lang/Object;)Z"), (3, u "law"), (0, u "(IIII)Z")] 4

def k1m0 : Method := { name := "<init>", desc := "()V", sig := { parameters := [], returnType := none }, accessFlags := 1, code := none }
def k1c1 : Code := { maxStack := 6, maxLocals := 3, code := method_2_code, exceptionTable := #[], attributes := #[] }
def k1m1 : Method := { name := "mk", desc := "(CCI)Ljava/lang/String;", sig := { parameters := [.char, .char, .int], returnType := some (.object "java/lang/String") }, accessFlags := 10, code := some k1c1 }
def k1c2 : Code := { maxStack := 3, maxLocals := 5, code := method_3_code, exceptionTable := #[], attributes := #[] }
def k1m2 : Method := { name := "put", desc := "([CIICC)I", sig := { parameters := [(.array .char), .int, .int, .char, .char], returnType := some .int }, accessFlags := 10, code := some k1c2 }
def k1c3 : Code := { maxStack := 6, maxLocals := 21, code := code, exceptionTable := #[], attributes := #[] }
def k1m3 : Method := { name := "law", desc := "(IIII)Z", sig := { parameters := [.int, .int, .int, .int], returnType := some .boolean }, accessFlags := 9, code := some k1c3 }
/-- com/example/arborview/arborview/cli/ArgumentsErrorPinLaw -/
def k1 : Class := { plain "com/example/arborview/arborview/cli/ArgumentsErrorPinLaw" (some 0) with
  accessFlags := 49
  interfaces := #[]
  cf := some (fileOf pool1 14 #[] #[{ accessFlags := 1, nameIndex := 5, descriptorIndex := 6, attributes := #[] }, { accessFlags := 10, nameIndex := 17, descriptorIndex := 18, attributes := #[] }, { accessFlags := 10, nameIndex := 39, descriptorIndex := 40, attributes := #[] }, { accessFlags := 9, nameIndex := 48, descriptorIndex := 49, attributes := #[] }] 49 2 #[] #[])
  fields := #[]
  methods := #[k1m0, k1m1, k1m2, k1m3]
  instanceTypes := #[]
  staticTypes := #[]
  resolved := Array.replicate 54 none
  statics := none }

def pool2 : Array CpInfo := pool [(1, .class_ 2), (0, u "java/io/Serializable"), (0, .class_ 4), (0, u "java/lang/Object")] 2

/-- java/io/Serializable -/
def k2 : Class := { plain "java/io/Serializable" (some 0) with
  accessFlags := 1537
  interfaces := #[]
  cf := some (fileOf pool2 1 #[] #[] 1537 3 #[] #[])
  fields := #[]
  methods := #[]
  instanceTypes := #[]
  staticTypes := #[]
  resolved := Array.replicate 7 none
  statics := none }

def pool3 : Array CpInfo := pool [(1, .class_ 2), (0, u "java/lang/Comparable"), (0, .class_ 4), (0, u "java/lang/Object")] 7

/-- java/lang/Comparable -/
def k3 : Class := { plain "java/lang/Comparable" (some 0) with
  accessFlags := 1537
  interfaces := #[]
  cf := some (fileOf pool3 1 #[] #[] 1537 3 #[] #[])
  fields := #[]
  methods := #[]
  instanceTypes := #[]
  staticTypes := #[]
  resolved := Array.replicate 12 none
  statics := none }

def pool4 : Array CpInfo := pool [(2, .class_ 4), (1, u "java/lang/CharSequence"), (42, .class_ 48), (0, u "java/lang/CharSequence$1CodePointIterator"), (10, .class_ 60), (0, u "java/lang/CharSequence$1CharIterator"), (5, .class_ 67), (0, u "java/lang/Object")] 63

/-- java/lang/CharSequence -/
def k4 : Class := { plain "java/lang/CharSequence" (some 0) with
  accessFlags := 1537
  interfaces := #[]
  cf := some (fileOf pool4 2 #[.nestMembers #[47, 59]] #[] 1537 66 #[] #[])
  fields := #[]
  methods := #[]
  instanceTypes := #[]
  staticTypes := #[]
  resolved := Array.replicate 131 none
  statics := none }

def pool5 : Array CpInfo := pool [(1, .class_ 2), (0, u "java/lang/constant/Constable"), (0, .class_ 4), (0, u "java/lang/Object")] 6

/-- java/lang/constant/Constable -/
def k5 : Class := { plain "java/lang/constant/Constable" (some 0) with
  accessFlags := 1537
  interfaces := #[]
  cf := some (fileOf pool5 1 #[] #[] 1537 3 #[] #[])
  fields := #[]
  methods := #[]
  instanceTypes := #[]
  staticTypes := #[]
  resolved := Array.replicate 11 none
  statics := none }

def pool6 : Array CpInfo := pool [(1, .class_ 2), (0, u "java/lang/constant/ConstantDesc"), (0, .class_ 4), (0, u "java/lang/Object")] 32

/-- java/lang/constant/ConstantDesc -/
def k6 : Class := { plain "java/lang/constant/ConstantDesc" (some 0) with
  accessFlags := 1537
  interfaces := #[]
  cf := some (fileOf pool6 1 #[] #[] 1537 3 #[] #[])
  fields := #[]
  methods := #[]
  instanceTypes := #[]
  staticTypes := #[]
  resolved := Array.replicate 37 none
  statics := none }

def pool7 : Array CpInfo := pool [(1, .methodref 2 3), (0, .class_ 4), (0, .nameAndType 5 6), (0, u "java/lang/Object"), (0, u "<init>"), (0, u "()V"), (0, .string 8), (0, u ""), (0, .fieldref 10 11), (0, .class_ 12), (0, .nameAndType 13 14), (0, u "java/lang/String"), (0, u "value"), (0, u "[B"), (0, .fieldref 10 16), (0, .nameAndType 17 18), (0, u "coder"), (0, u "B"), (2, u "hash"), (0, u "I"), (2, u "hashIsZero"), (0, u "Z"), (0, .methodref 10 28), (0, .nameAndType 5 29), (0, u "([CIILjava/lang/Void;)V"), (6, u "checkBoundsOffCount"), (0, u "(III)I"), (0, .fieldref 10 39), (0, .nameAndType 40 26), (0, u "COMPACT_STRINGS"), (1, .class_ 44), (1, u "java/lang/StringUTF16"), (0, u "compress"), (1, .methodref 42 48), (0, .nameAndType 49 50), (0, u "coderFromArrayLen"), (0, u "([BI)B"), (3, .methodref 55 56), (0, .class_ 57), (0, .nameAndType 58 59), (0, u "java/util/Arrays"), (0, u "copyOfRange"), (0, u "([BII)[B"), (46, .methodref 107 108), (0, .class_ 109), (0, .nameAndType 110 111), (0, u "java/lang/StringLatin1"), (0, u "inflate"), (0, u "([BI[BII)V"), (30, u "()Z"), (34, .methodref 42 178), (0, .nameAndType 45 179), (0, u "([CII)[B"), (13, .class_ 195), (1, u "java/lang/System"), (16, .methodref 193 213), (0, .nameAndType 214 215), (0, u "arraycopy"), (0, u "(Ljava/lang/Object;ILjava/lang/Object;II)V"), (118, u "()I"), (0, .methodref 10 336), (0, .nameAndType 17 337), (0, u "()B"), (2, u "()[B"), (148, .methodref 10 490), (0, .nameAndType 5 491), (0, u "(Ljava/lang/AbstractStringBuilder;Ljava/lang/Void;)V"), (1, .nameAndType 494 142), (0, u "isLatin1"), (11, .nameAndType 507 334), (0, u "length"), (24, u "getBytes"), (8, .methodref 107 542), (0, .nameAndType 543 544), (0, u "equals"), (0, u "([B[B)Z"), (4, .methodref 550 506), (0, .class_ 551), (0, u "java/lang/AbstractStringBuilder"), (0, .methodref 550 553), (0, .nameAndType 554 340), (0, u "getValue"), (18, u "(Ljava/lang/Object;)Z"), (1, .class_ 576), (0, u "java/lang/CharSequence"), (22, u "CASE_INSENSITIVE_ORDER"), (0, u "Ljava/util/Comparator;"), (220, u "([BIB)V"), (188, u "([C)V"), (36, .methodref 550 493), (0, .fieldref 550 1049), (0, .nameAndType 1050 26), (0, u "maybeLatin1"), (2, .fieldref 1054 1055), (0, .class_ 1056), (0, .nameAndType 1057 1058), (0, u "jdk/internal/util/Preconditions"), (0, u "SIOOBE_FORMATTER"), (0, u "Ljava/util/function/BiFunction;"), (5, u "(IIILjava/util/function/BiFunction;)I"), (0, .methodref 1054 1066), (0, .nameAndType 1067 1064), (0, u "checkFromIndexSize"), (33, u "serialPersistentFields"), (0, u "[Ljava/io/ObjectStreamField;"), (0, .class_ 1104), (0, u "java/lang/String$CaseInsensitiveComparator"), (1, .class_ 1107), (0, u "java/io/Serializable"), (0, .class_ 1109), (0, u "java/lang/Comparable"), (0, .class_ 1111), (0, u "java/lang/constant/Constable"), (0, .class_ 1113), (0, u "java/lang/constant/ConstantDesc"), (2, u "serialVersionUID"), (0, u "J"), (3, u "REPL"), (0, u "C"), (2, u "LATIN1"), (1, u "UTF16"), (105, u "(Ljava/lang/StringBuilder;)V")] 217

def k7m0 : Method := { name := "<init>", desc := "()V", sig := { parameters := [], returnType := none }, accessFlags := 1, code := none }
def k7c1 : Code := { maxStack := 5, maxLocals := 2, code := jdk_42_method_3_code, exceptionTable := #[], attributes := #[] }
def k7m1 : Method := { name := "<init>", desc := "([C)V", sig := { parameters := [(.array .char)], returnType := none }, accessFlags := 1, code := some k7c1 }
def k7c2 : Code := { maxStack := 3, maxLocals := 2, code := jdk_42_method_53_code, exceptionTable := #[], attributes := #[] }
def k7m2 : Method := { name := "<init>", desc := "(Ljava/lang/StringBuilder;)V", sig := { parameters := [(.object "java/lang/StringBuilder")], returnType := none }, accessFlags := 1, code := some k7c2 }
def k7c3 : Code := { maxStack := 2, maxLocals := 1, code := jdk_42_method_54_code, exceptionTable := #[], attributes := #[] }
def k7m3 : Method := { name := "length", desc := "()I", sig := { parameters := [], returnType := some .int }, accessFlags := 1, code := some k7c3 }
def k7c4 : Code := { maxStack := 2, maxLocals := 3, code := jdk_42_method_66_code, exceptionTable := #[], attributes := #[] }
def k7m4 : Method := { name := "equals", desc := "(Ljava/lang/Object;)Z", sig := { parameters := [(.object "java/lang/Object")], returnType := some .boolean }, accessFlags := 1, code := some k7c4 }
def k7c5 : Code := { maxStack := 5, maxLocals := 4, code := jdk_42_method_147_code, exceptionTable := #[], attributes := #[] }
def k7m5 : Method := { name := "getBytes", desc := "([BIB)V", sig := { parameters := [(.array .byte), .int, .byte], returnType := none }, accessFlags := 0, code := some k7c5 }
def k7c6 : Code := { maxStack := 4, maxLocals := 6, code := jdk_42_method_149_code, exceptionTable := #[], attributes := #[] }
def k7m6 : Method := { name := "<init>", desc := "([CIILjava/lang/Void;)V", sig := { parameters := [(.array .char), .int, .int, (.object "java/lang/Void")], returnType := none }, accessFlags := 2, code := some k7c6 }
def k7c7 : Code := { maxStack := 5, maxLocals := 5, code := jdk_42_method_150_code, exceptionTable := #[], attributes := #[] }
def k7m7 : Method := { name := "<init>", desc := "(Ljava/lang/AbstractStringBuilder;Ljava/lang/Void;)V", sig := { parameters := [(.object "java/lang/AbstractStringBuilder"), (.object "java/lang/Void")], returnType := none }, accessFlags := 0, code := some k7c7 }
def k7c8 : Code := { maxStack := 1, maxLocals := 1, code := jdk_42_method_152_code, exceptionTable := #[], attributes := #[] }
def k7m8 : Method := { name := "coder", desc := "()B", sig := { parameters := [], returnType := some .byte }, accessFlags := 0, code := some k7c8 }
def k7c9 : Code := { maxStack := 4, maxLocals := 3, code := jdk_42_method_157_code, exceptionTable := #[], attributes := #[] }
def k7m9 : Method := { name := "checkBoundsOffCount", desc := "(III)I", sig := { parameters := [.int, .int, .int], returnType := some .int }, accessFlags := 8, code := some k7c9 }
/-- java/lang/String -/
def k7 : Class := { plain "java/lang/String" (some 0) with
  accessFlags := 49
  interfaces := #[2, 3, 4, 5, 6]
  cf := some (fileOf pool7 10 #[.nestMembers #[1103]] #[{ accessFlags := 1, nameIndex := 5, descriptorIndex := 6, attributes := #[] }, { accessFlags := 1, nameIndex := 5, descriptorIndex := 1010, attributes := #[] }, { accessFlags := 1, nameIndex := 5, descriptorIndex := 1233, attributes := #[] }, { accessFlags := 1, nameIndex := 507, descriptorIndex := 334, attributes := #[] }, { accessFlags := 1, nameIndex := 543, descriptorIndex := 573, attributes := #[] }, { accessFlags := 0, nameIndex := 532, descriptorIndex := 821, attributes := #[] }, { accessFlags := 2, nameIndex := 5, descriptorIndex := 29, attributes := #[] }, { accessFlags := 0, nameIndex := 5, descriptorIndex := 491, attributes := #[] }, { accessFlags := 0, nameIndex := 17, descriptorIndex := 337, attributes := #[] }, { accessFlags := 8, nameIndex := 36, descriptorIndex := 37, attributes := #[] }] 49 2 #[1106, 1108, 575, 1110, 1112] #[{ accessFlags := 18, nameIndex := 13, descriptorIndex := 14, attributes := #[] }, { accessFlags := 18, nameIndex := 17, descriptorIndex := 18, attributes := #[] }, { accessFlags := 2, nameIndex := 21, descriptorIndex := 22, attributes := #[] }, { accessFlags := 2, nameIndex := 25, descriptorIndex := 26, attributes := #[] }, { accessFlags := 26, nameIndex := 1116, descriptorIndex := 1117, attributes := #[] }, { accessFlags := 24, nameIndex := 40, descriptorIndex := 26, attributes := #[] }, { accessFlags := 26, nameIndex := 1101, descriptorIndex := 1102, attributes := #[] }, { accessFlags := 26, nameIndex := 1121, descriptorIndex := 1122, attributes := #[] }, { accessFlags := 25, nameIndex := 599, descriptorIndex := 600, attributes := #[] }, { accessFlags := 24, nameIndex := 1125, descriptorIndex := 18, attributes := #[] }, { accessFlags := 24, nameIndex := 1127, descriptorIndex := 18, attributes := #[] }])
  fields := #[{ name := "value", type := (.array .byte), accessFlags := 18, slot := 0, constantValue := 0 }, { name := "coder", type := .byte, accessFlags := 18, slot := 1, constantValue := 0 }, { name := "hash", type := .int, accessFlags := 2, slot := 2, constantValue := 0 }, { name := "hashIsZero", type := .boolean, accessFlags := 2, slot := 3, constantValue := 0 }, { name := "serialVersionUID", type := .long, accessFlags := 26, slot := 0, constantValue := 0 }, { name := "COMPACT_STRINGS", type := .boolean, accessFlags := 24, slot := 1, constantValue := 0 }, { name := "serialPersistentFields", type := (.array (.object "java/io/ObjectStreamField")), accessFlags := 26, slot := 2, constantValue := 0 }, { name := "REPL", type := .char, accessFlags := 26, slot := 3, constantValue := 0 }, { name := "CASE_INSENSITIVE_ORDER", type := (.object "java/util/Comparator"), accessFlags := 25, slot := 4, constantValue := 0 }, { name := "LATIN1", type := .byte, accessFlags := 24, slot := 5, constantValue := 0 }, { name := "UTF16", type := .byte, accessFlags := 24, slot := 6, constantValue := 0 }]
  methods := #[k7m0, k7m1, k7m2, k7m3, k7m4, k7m5, k7m6, k7m7, k7m8, k7m9]
  instanceTypes := #[(.array .byte), .byte, .int, .boolean]
  staticTypes := #[.long, .boolean, (.array (.object "java/io/ObjectStreamField")), .char, (.object "java/util/Comparator"), .byte, .byte]
  resolved := Array.replicate 1451 none
  statics := some 0 }

def pool8 : Array CpInfo := pool [(3, .class_ 4), (0, u "java/lang/String"), (1, .class_ 8), (1, u "java/lang/Object"), (0, u "<init>"), (0, u "()V"), (0, .methodref 12 13), (0, .class_ 14), (0, .nameAndType 15 16), (0, u "java/lang/StringUTF16"), (0, u "newBytesLength"), (0, u "(I)I"), (3, .integer 1073741823), (23, .fieldref 12 45), (0, .nameAndType 46 47), (0, u "$assertionsDisabled"), (0, u "Z"), (0, .methodref 12 49), (0, .nameAndType 50 51), (0, u "length"), (0, u "([B)I"), (7, .fieldref 12 60), (0, .nameAndType 61 62), (0, u "HI_BYTE_SHIFT"), (0, u "I"), (0, .fieldref 12 64), (0, .nameAndType 65 62), (0, u "LO_BYTE_SHIFT"), (5, .methodref 12 72), (0, .nameAndType 73 74), (0, u "getChar"), (0, u "([BI)C"), (24, u "(II[B)V"), (7, .methodref 12 108), (0, .nameAndType 109 110), (0, u "newBytesFor"), (0, u "(I)[B"), (0, .methodref 12 112), (0, .nameAndType 113 114), (0, u "putChar"), (0, u "([BII)V"), (0, .methodref 12 116), (0, .nameAndType 117 118), (0, u "compress"), (0, u "([CI[BII)I"), (0, .methodref 12 120), (0, .nameAndType 121 122), (0, u "toBytes"), (0, u "([CII)[B"), (17, u "inflate"), (0, u "([BI[BII)V"), (31, .methodref 12 174), (0, .nameAndType 175 99), (0, u "checkBoundsOffCount"), (85, u "coderFromArrayLen"), (0, u "([BI)B"), (18, u "(III)I"), (87, .class_ 371), (1, u "java/lang/StringUTF16$LinesSpliterator"), (47, .methodref 3 420), (0, .nameAndType 175 281), (9, u "MAX_LENGTH"), (196, .class_ 628), (0, u "java/lang/StringUTF16$CodePointsSpliterator"), (0, .class_ 630), (0, u "java/lang/StringUTF16$CharsSpliterator")] 4

def k8m0 : Method := { name := "<init>", desc := "()V", sig := { parameters := [], returnType := none }, accessFlags := 0, code := none }
def k8c1 : Code := { maxStack := 1, maxLocals := 1, code := jdk_52_method_2_code, exceptionTable := #[], attributes := #[] }
def k8m1 : Method := { name := "newBytesFor", desc := "(I)[B", sig := { parameters := [.int], returnType := some (.array .byte) }, accessFlags := 9, code := some k8c1 }
def k8c2 : Code := { maxStack := 4, maxLocals := 1, code := jdk_52_method_3_code, exceptionTable := #[], attributes := #[] }
def k8m2 : Method := { name := "newBytesLength", desc := "(I)I", sig := { parameters := [.int], returnType := some .int }, accessFlags := 9, code := some k8c2 }
def k8c3 : Code := { maxStack := 4, maxLocals := 3, code := jdk_52_method_4_code, exceptionTable := #[], attributes := #[] }
def k8m3 : Method := { name := "putChar", desc := "([BII)V", sig := { parameters := [(.array .byte), .int, .int], returnType := none }, accessFlags := 8, code := some k8c3 }
def k8c4 : Code := { maxStack := 3, maxLocals := 2, code := jdk_52_method_5_code, exceptionTable := #[], attributes := #[] }
def k8m4 : Method := { name := "getChar", desc := "([BI)C", sig := { parameters := [(.array .byte), .int], returnType := some .char }, accessFlags := 8, code := some k8c4 }
def k8c5 : Code := { maxStack := 2, maxLocals := 1, code := jdk_52_method_6_code, exceptionTable := #[], attributes := #[] }
def k8m5 : Method := { name := "length", desc := "([B)I", sig := { parameters := [(.array .byte)], returnType := some .int }, accessFlags := 9, code := some k8c5 }
def k8c6 : Code := { maxStack := 4, maxLocals := 5, code := jdk_52_method_14_code, exceptionTable := #[], attributes := #[] }
def k8m6 : Method := { name := "toBytes", desc := "([CII)[B", sig := { parameters := [(.array .char), .int, .int], returnType := some (.array .byte) }, accessFlags := 9, code := some k8c6 }
def k8c7 : Code := { maxStack := 2, maxLocals := 2, code := jdk_52_method_15_code, exceptionTable := #[], attributes := #[] }
def k8m7 : Method := { name := "coderFromArrayLen", desc := "([BI)B", sig := { parameters := [(.array .byte), .int], returnType := some .byte }, accessFlags := 8, code := some k8c7 }
def k8c8 : Code := { maxStack := 5, maxLocals := 6, code := jdk_52_method_16_code, exceptionTable := #[], attributes := #[] }
def k8m8 : Method := { name := "compress", desc := "([CII)[B", sig := { parameters := [(.array .char), .int, .int], returnType := some (.array .byte) }, accessFlags := 9, code := some k8c8 }
def k8c9 : Code := { maxStack := 3, maxLocals := 7, code := jdk_52_method_21_code, exceptionTable := #[], attributes := #[] }
def k8m9 : Method := { name := "compress", desc := "([CI[BII)I", sig := { parameters := [(.array .char), .int, (.array .byte), .int, .int], returnType := some .int }, accessFlags := 9, code := some k8c9 }
def k8c10 : Code := { maxStack := 4, maxLocals := 6, code := jdk_52_method_86_code, exceptionTable := #[], attributes := #[] }
def k8m10 : Method := { name := "inflate", desc := "([BI[BII)V", sig := { parameters := [(.array .byte), .int, (.array .byte), .int, .int], returnType := none }, accessFlags := 9, code := some k8c10 }
def k8c11 : Code := { maxStack := 3, maxLocals := 3, code := jdk_52_method_94_code, exceptionTable := #[], attributes := #[] }
def k8m11 : Method := { name := "checkBoundsOffCount", desc := "(II[B)V", sig := { parameters := [.int, .int, (.array .byte)], returnType := none }, accessFlags := 9, code := some k8c11 }
/-- java/lang/StringUTF16 -/
def k8 : Class := { plain "java/lang/StringUTF16" (some 0) with
  accessFlags := 48
  interfaces := #[]
  cf := some (fileOf pool8 12 #[.nestMembers #[627, 629, 369]] #[{ accessFlags := 0, nameIndex := 9, descriptorIndex := 10, attributes := #[] }, { accessFlags := 9, nameIndex := 109, descriptorIndex := 110, attributes := #[] }, { accessFlags := 9, nameIndex := 15, descriptorIndex := 16, attributes := #[] }, { accessFlags := 8, nameIndex := 113, descriptorIndex := 114, attributes := #[] }, { accessFlags := 8, nameIndex := 73, descriptorIndex := 74, attributes := #[] }, { accessFlags := 9, nameIndex := 50, descriptorIndex := 51, attributes := #[] }, { accessFlags := 9, nameIndex := 121, descriptorIndex := 122, attributes := #[] }, { accessFlags := 8, nameIndex := 261, descriptorIndex := 262, attributes := #[] }, { accessFlags := 9, nameIndex := 117, descriptorIndex := 122, attributes := #[] }, { accessFlags := 9, nameIndex := 117, descriptorIndex := 118, attributes := #[] }, { accessFlags := 9, nameIndex := 140, descriptorIndex := 141, attributes := #[] }, { accessFlags := 9, nameIndex := 175, descriptorIndex := 99, attributes := #[] }] 48 6 #[] #[{ accessFlags := 26, nameIndex := 61, descriptorIndex := 62, attributes := #[] }, { accessFlags := 26, nameIndex := 65, descriptorIndex := 62, attributes := #[] }, { accessFlags := 24, nameIndex := 430, descriptorIndex := 62, attributes := #[] }, { accessFlags := 4120, nameIndex := 46, descriptorIndex := 47, attributes := #[] }])
  fields := #[{ name := "HI_BYTE_SHIFT", type := .int, accessFlags := 26, slot := 0, constantValue := 0 }, { name := "LO_BYTE_SHIFT", type := .int, accessFlags := 26, slot := 1, constantValue := 0 }, { name := "MAX_LENGTH", type := .int, accessFlags := 24, slot := 2, constantValue := 0 }, { name := "$assertionsDisabled", type := .boolean, accessFlags := 4120, slot := 3, constantValue := 0 }]
  methods := #[k8m0, k8m1, k8m2, k8m3, k8m4, k8m5, k8m6, k8m7, k8m8, k8m9, k8m10, k8m11]
  instanceTypes := #[]
  staticTypes := #[.int, .int, .int, .boolean]
  resolved := Array.replicate 635 none
  statics := some 1 }

def pool9 : Array CpInfo := pool [(1, .methodref 2 3), (0, .class_ 4), (0, .nameAndType 5 6), (0, u "java/lang/Object"), (0, u "<init>"), (0, u "()V"), (0, .fieldref 8 9), (0, .class_ 10), (0, .nameAndType 11 12), (0, u "com/example/arborview/arborview/cli/Arguments"), (0, u "subcommand"), (0, u "Ljava/lang/String;"), (0, .fieldref 8 14), (0, .nameAndType 15 12), (0, u "usage"), (0, .interfaceMethodref 17 18), (0, .class_ 19), (0, .nameAndType 20 21), (0, u "java/util/List"), (0, u "iterator"), (0, u "()Ljava/util/Iterator;"), (0, .fieldref 8 23), (0, .nameAndType 24 25), (0, u "rest"), (0, u "Ljava/util/Iterator;"), (12, .class_ 39), (0, u "java/lang/StringBuilder"), (0, .methodref 38 3), (0, .methodref 38 42), (0, .nameAndType 43 44), (0, u "append"), (0, u "(Ljava/lang/String;)Ljava/lang/StringBuilder;"), (2, .methodref 38 48), (0, .nameAndType 49 50), (0, u "toString"), (0, u "()Ljava/lang/String;"), (2, u "error"), (0, u "(Ljava/lang/String;)Lcom/example/arborview/arborview/cli/CommandException;"), (2, u "WHOLE_NUMBER"), (0, u "Ljava/util/regex/Pattern;"), (14, .class_ 75), (1, u "com/example/arborview/arborview/cli/CommandException"), (7, .nameAndType 5 84), (0, u "(Ljava/lang/String;)V"), (26, .string 112), (0, u ": "), (0, .string 114), (0, u "; "), (0, .methodref 73 83), (8, u "(Ljava/lang/String;Ljava/lang/String;Ljava/util/List;)V")] 12

def k9c0 : Code := { maxStack := 2, maxLocals := 4, code := prog_25_method_1_code, exceptionTable := #[], attributes := #[] }
def k9m0 : Method := { name := "<init>", desc := "(Ljava/lang/String;Ljava/lang/String;Ljava/util/List;)V", sig := { parameters := [(.object "java/lang/String"), (.object "java/lang/String"), (.object "java/util/List")], returnType := none }, accessFlags := 0, code := some k9c0 }
def k9c1 : Code := { maxStack := 4, maxLocals := 2, code := prog_25_method_7_code, exceptionTable := #[], attributes := #[] }
def k9m1 : Method := { name := "error", desc := "(Ljava/lang/String;)Lcom/example/arborview/arborview/cli/CommandException;", sig := { parameters := [(.object "java/lang/String")], returnType := some (.object "com/example/arborview/arborview/cli/CommandException") }, accessFlags := 0, code := some k9c1 }
/-- com/example/arborview/arborview/cli/Arguments -/
def k9 : Class := { plain "com/example/arborview/arborview/cli/Arguments" (some 0) with
  accessFlags := 48
  interfaces := #[]
  cf := some (fileOf pool9 8 #[] #[{ accessFlags := 0, nameIndex := 5, descriptorIndex := 124, attributes := #[] }, { accessFlags := 0, nameIndex := 53, descriptorIndex := 54, attributes := #[] }] 48 2 #[] #[{ accessFlags := 26, nameIndex := 57, descriptorIndex := 58, attributes := #[] }, { accessFlags := 18, nameIndex := 11, descriptorIndex := 12, attributes := #[] }, { accessFlags := 18, nameIndex := 15, descriptorIndex := 12, attributes := #[] }, { accessFlags := 18, nameIndex := 24, descriptorIndex := 25, attributes := #[] }])
  fields := #[{ name := "WHOLE_NUMBER", type := (.object "java/util/regex/Pattern"), accessFlags := 26, slot := 0, constantValue := 0 }, { name := "subcommand", type := (.object "java/lang/String"), accessFlags := 18, slot := 0, constantValue := 0 }, { name := "usage", type := (.object "java/lang/String"), accessFlags := 18, slot := 1, constantValue := 0 }, { name := "rest", type := (.object "java/util/Iterator"), accessFlags := 18, slot := 2, constantValue := 0 }]
  methods := #[k9m0, k9m1]
  instanceTypes := #[(.object "java/lang/String"), (.object "java/lang/String"), (.object "java/util/Iterator")]
  staticTypes := #[(.object "java/util/regex/Pattern")]
  resolved := Array.replicate 137 none
  statics := none }

def pool10 : Array CpInfo := pool [(8, .class_ 10), (1, u "java/lang/Iterable"), (24, .class_ 36), (0, u "java/lang/Object")] 25

/-- java/lang/Iterable -/
def k10 : Class := { plain "java/lang/Iterable" (some 0) with
  accessFlags := 1537
  interfaces := #[]
  cf := some (fileOf pool10 8 #[] #[] 1537 35 #[] #[])
  fields := #[]
  methods := #[]
  instanceTypes := #[]
  staticTypes := #[]
  resolved := Array.replicate 62 none
  statics := none }

def pool11 : Array CpInfo := pool [(10, .class_ 12), (1, u "java/util/Collection"), (47, .class_ 61), (0, u "java/lang/Object"), (0, .class_ 63), (0, u "java/lang/Iterable")] 51

/-- java/util/Collection -/
def k11 : Class := { plain "java/util/Collection" (some 0) with
  accessFlags := 1537
  interfaces := #[10]
  cf := some (fileOf pool11 10 #[] #[] 1537 60 #[62] #[])
  fields := #[]
  methods := #[]
  instanceTypes := #[]
  staticTypes := #[]
  resolved := Array.replicate 115 none
  statics := none }

def pool12 : Array CpInfo := pool [(1, .methodref 2 3), (0, .class_ 4), (0, .nameAndType 5 6), (0, u "java/lang/Object"), (0, u "<init>"), (0, u "()V"), (1, .class_ 10), (1, u "java/util/AbstractCollection"), (66, .class_ 78), (0, u "java/util/Collection")] 81

def k12c0 : Code := { maxStack := 1, maxLocals := 1, code := jdk_22_method_1_code, exceptionTable := #[], attributes := #[] }
def k12m0 : Method := { name := "<init>", desc := "()V", sig := { parameters := [], returnType := none }, accessFlags := 4, code := some k12c0 }
/-- java/util/AbstractCollection -/
def k12 : Class := { plain "java/util/AbstractCollection" (some 0) with
  accessFlags := 1057
  interfaces := #[11]
  cf := some (fileOf pool12 8 #[] #[{ accessFlags := 4, nameIndex := 5, descriptorIndex := 6, attributes := #[] }] 1057 2 #[77] #[])
  fields := #[]
  methods := #[k12m0]
  instanceTypes := #[]
  staticTypes := #[]
  resolved := Array.replicate 160 none
  statics := none }

def pool13 : Array CpInfo := pool [(8, .class_ 10), (1, u "java/util/SequencedCollection"), (15, .class_ 27), (0, u "java/lang/Object"), (0, .class_ 29), (0, u "java/util/Collection")] 27

/-- java/util/SequencedCollection -/
def k13 : Class := { plain "java/util/SequencedCollection" (some 0) with
  accessFlags := 1537
  interfaces := #[11]
  cf := some (fileOf pool13 8 #[] #[] 1537 26 #[28] #[])
  fields := #[]
  methods := #[]
  instanceTypes := #[]
  staticTypes := #[]
  resolved := Array.replicate 57 none
  statics := none }

def pool14 : Array CpInfo := pool [(8, .class_ 10), (1, u "java/util/List"), (92, .class_ 104), (0, u "java/lang/Object"), (15, .class_ 121), (0, u "java/util/SequencedCollection"), (1, u "iterator"), (0, u "()Ljava/util/Iterator;")] 126

def k14m0 : Method := { name := "iterator", desc := "()Ljava/util/Iterator;", sig := { parameters := [], returnType := some (.object "java/util/Iterator") }, accessFlags := 1025, code := none }
/-- java/util/List -/
def k14 : Class := { plain "java/util/List" (some 0) with
  accessFlags := 1537
  interfaces := #[13]
  cf := some (fileOf pool14 8 #[] #[{ accessFlags := 1025, nameIndex := 123, descriptorIndex := 124, attributes := #[] }] 1537 103 #[120] #[])
  fields := #[]
  methods := #[k14m0]
  instanceTypes := #[]
  staticTypes := #[]
  resolved := Array.replicate 251 none
  statics := none }

def pool15 : Array CpInfo := pool [(1, .methodref 2 3), (0, .class_ 4), (0, .nameAndType 5 6), (0, u "java/util/AbstractCollection"), (0, u "<init>"), (0, u "()V"), (0, .fieldref 8 9), (0, .class_ 10), (0, .nameAndType 11 12), (0, u "java/util/AbstractList"), (0, u "modCount"), (0, u "I"), (64, .class_ 78), (0, u "java/util/AbstractList$Itr"), (3, .class_ 83), (0, u "java/util/AbstractList$ListItr"), (9, .class_ 94), (0, u "java/util/AbstractList$RandomAccessSubList"), (3, .class_ 99), (0, u "java/util/AbstractList$SubList"), (33, .class_ 134), (0, u "java/util/List"), (73, .class_ 209), (0, u "java/util/AbstractList$SubList$1"), (0, .class_ 211), (0, u "java/util/AbstractList$RandomAccessSpliterator")] 6

def k15c0 : Code := { maxStack := 2, maxLocals := 1, code := jdk_39_method_1_code, exceptionTable := #[], attributes := #[] }
def k15m0 : Method := { name := "<init>", desc := "()V", sig := { parameters := [], returnType := none }, accessFlags := 4, code := some k15c0 }
/-- java/util/AbstractList -/
def k15 : Class := { plain "java/util/AbstractList" (some 12) with
  accessFlags := 1057
  interfaces := #[14]
  cf := some (fileOf pool15 8 #[.nestMembers #[93, 98, 208, 210, 82, 77]] #[{ accessFlags := 4, nameIndex := 5, descriptorIndex := 6, attributes := #[] }] 1057 2 #[133] #[{ accessFlags := 132, nameIndex := 11, descriptorIndex := 12, attributes := #[] }])
  fields := #[{ name := "modCount", type := .int, accessFlags := 132, slot := 0, constantValue := 0 }]
  methods := #[k15m0]
  instanceTypes := #[.int]
  staticTypes := #[]
  resolved := Array.replicate 218 none
  statics := none }

def pool16 : Array CpInfo := pool [(1, .class_ 2), (0, u "java/util/RandomAccess"), (0, .class_ 4), (0, u "java/lang/Object")] 2

/-- java/util/RandomAccess -/
def k16 : Class := { plain "java/util/RandomAccess" (some 0) with
  accessFlags := 1537
  interfaces := #[]
  cf := some (fileOf pool16 1 #[] #[] 1537 3 #[] #[])
  fields := #[]
  methods := #[]
  instanceTypes := #[]
  staticTypes := #[]
  resolved := Array.replicate 7 none
  statics := none }

def pool17 : Array CpInfo := pool [(1, .class_ 2), (0, u "java/lang/Cloneable"), (0, .class_ 4), (0, u "java/lang/Object")] 2

/-- java/lang/Cloneable -/
def k17 : Class := { plain "java/lang/Cloneable" (some 0) with
  accessFlags := 1537
  interfaces := #[]
  cf := some (fileOf pool17 1 #[] #[] 1537 3 #[] #[])
  fields := #[]
  methods := #[]
  instanceTypes := #[]
  staticTypes := #[]
  resolved := Array.replicate 7 none
  statics := none }

def pool18 : Array CpInfo := pool [(1, .methodref 2 3), (0, .class_ 4), (0, .nameAndType 5 6), (0, u "java/util/AbstractList"), (0, u "<init>"), (0, u "()V"), (2, .fieldref 10 11), (0, .class_ 12), (0, .nameAndType 13 14), (0, u "java/util/ArrayList"), (0, u "elementData"), (0, u "[Ljava/lang/Object;"), (2, u "EMPTY_ELEMENTDATA"), (21, .fieldref 10 40), (0, .nameAndType 41 14), (0, u "DEFAULTCAPACITY_EMPTY_ELEMENTDATA"), (8, u "size"), (0, u "I"), (96, .class_ 149), (0, u "java/util/List"), (16, u "iterator"), (0, u "()Ljava/util/Iterator;"), (94, .class_ 263), (0, u "java/util/ArrayList$ListItr"), (3, .class_ 268), (0, u "java/util/ArrayList$Itr"), (0, .methodref 267 270), (0, .nameAndType 5 271), (0, u "(Ljava/util/ArrayList;)V"), (4, .class_ 277), (0, u "java/util/ArrayList$SubList"), (12, .class_ 291), (0, u "java/util/ArrayList$ArrayListSpliterator"), (37, .class_ 330), (0, u "java/util/RandomAccess"), (0, .class_ 332), (0, u "java/lang/Cloneable"), (0, .class_ 334), (0, u "java/io/Serializable"), (0, u "serialVersionUID"), (0, u "J"), (3, u "DEFAULT_CAPACITY"), (159, .class_ 501), (0, u "java/util/ArrayList$SubList$2"), (0, .class_ 503), (0, u "java/util/ArrayList$SubList$1")] 5

def k18c0 : Code := { maxStack := 2, maxLocals := 1, code := jdk_38_method_2_code, exceptionTable := #[], attributes := #[] }
def k18m0 : Method := { name := "<init>", desc := "()V", sig := { parameters := [], returnType := none }, accessFlags := 1, code := some k18c0 }
def k18c1 : Code := { maxStack := 3, maxLocals := 1, code := jdk_38_method_55_code, exceptionTable := #[], attributes := #[] }
def k18m1 : Method := { name := "iterator", desc := "()Ljava/util/Iterator;", sig := { parameters := [], returnType := some (.object "java/util/Iterator") }, accessFlags := 1, code := some k18c1 }
/-- java/util/ArrayList -/
def k18 : Class := { plain "java/util/ArrayList" (some 15) with
  accessFlags := 33
  interfaces := #[14, 16, 17, 2]
  cf := some (fileOf pool18 10 #[.nestMembers #[290, 276, 500, 502, 262, 267]] #[{ accessFlags := 1, nameIndex := 5, descriptorIndex := 6, attributes := #[] }, { accessFlags := 1, nameIndex := 166, descriptorIndex := 167, attributes := #[] }] 33 2 #[148, 329, 331, 333] #[{ accessFlags := 26, nameIndex := 335, descriptorIndex := 336, attributes := #[] }, { accessFlags := 26, nameIndex := 340, descriptorIndex := 51, attributes := #[] }, { accessFlags := 26, nameIndex := 17, descriptorIndex := 14, attributes := #[] }, { accessFlags := 26, nameIndex := 41, descriptorIndex := 14, attributes := #[] }, { accessFlags := 128, nameIndex := 13, descriptorIndex := 14, attributes := #[] }, { accessFlags := 2, nameIndex := 50, descriptorIndex := 51, attributes := #[] }])
  fields := #[{ name := "serialVersionUID", type := .long, accessFlags := 26, slot := 0, constantValue := 0 }, { name := "DEFAULT_CAPACITY", type := .int, accessFlags := 26, slot := 1, constantValue := 0 }, { name := "EMPTY_ELEMENTDATA", type := (.array (.object "java/lang/Object")), accessFlags := 26, slot := 2, constantValue := 0 }, { name := "DEFAULTCAPACITY_EMPTY_ELEMENTDATA", type := (.array (.object "java/lang/Object")), accessFlags := 26, slot := 3, constantValue := 0 }, { name := "elementData", type := (.array (.object "java/lang/Object")), accessFlags := 128, slot := 1, constantValue := 0 }, { name := "size", type := .int, accessFlags := 2, slot := 2, constantValue := 0 }]
  methods := #[k18m0, k18m1]
  instanceTypes := #[.int, (.array (.object "java/lang/Object")), .int]
  staticTypes := #[.long, .int, (.array (.object "java/lang/Object")), (.array (.object "java/lang/Object"))]
  resolved := Array.replicate 509 none
  statics := some 2 }

def pool19 : Array CpInfo := pool [(16, .class_ 18), (1, u "java/util/Iterator"), (12, .class_ 32), (0, u "java/lang/Object")] 20

/-- java/util/Iterator -/
def k19 : Class := { plain "java/util/Iterator" (some 0) with
  accessFlags := 1537
  interfaces := #[]
  cf := some (fileOf pool19 16 #[] #[] 1537 31 #[] #[])
  fields := #[]
  methods := #[]
  instanceTypes := #[]
  staticTypes := #[]
  resolved := Array.replicate 53 none
  statics := none }

def pool20 : Array CpInfo := pool [(1, .fieldref 2 3), (0, .class_ 4), (0, .nameAndType 5 6), (0, u "java/util/ArrayList$Itr"), (0, u "this$0"), (0, u "Ljava/util/ArrayList;"), (0, .methodref 8 9), (0, .class_ 10), (0, .nameAndType 11 12), (0, u "java/lang/Object"), (0, u "<init>"), (0, u "()V"), (0, .fieldref 2 14), (0, .nameAndType 15 16), (0, u "lastRet"), (0, u "I"), (0, .fieldref 18 19), (0, .class_ 20), (0, .nameAndType 21 16), (0, u "java/util/ArrayList"), (0, u "modCount"), (0, .fieldref 2 23), (0, .nameAndType 24 16), (0, u "expectedModCount"), (2, u "cursor"), (41, .class_ 70), (0, u "java/util/Iterator"), (0, u "(Ljava/util/ArrayList;)V")] 32

def k20c0 : Code := { maxStack := 2, maxLocals := 2, code := jdk_49_method_1_code, exceptionTable := #[], attributes := #[] }
def k20m0 : Method := { name := "<init>", desc := "(Ljava/util/ArrayList;)V", sig := { parameters := [(.object "java/util/ArrayList")], returnType := none }, accessFlags := 0, code := some k20c0 }
/-- java/util/ArrayList$Itr -/
def k20 : Class := { plain "java/util/ArrayList$Itr" (some 0) with
  accessFlags := 32
  interfaces := #[19]
  cf := some (fileOf pool20 2 #[.nestHost 18] #[{ accessFlags := 0, nameIndex := 11, descriptorIndex := 71, attributes := #[] }] 32 8 #[69] #[{ accessFlags := 0, nameIndex := 27, descriptorIndex := 16, attributes := #[] }, { accessFlags := 0, nameIndex := 15, descriptorIndex := 16, attributes := #[] }, { accessFlags := 0, nameIndex := 24, descriptorIndex := 16, attributes := #[] }, { accessFlags := 4112, nameIndex := 5, descriptorIndex := 6, attributes := #[] }])
  fields := #[{ name := "cursor", type := .int, accessFlags := 0, slot := 0, constantValue := 0 }, { name := "lastRet", type := .int, accessFlags := 0, slot := 1, constantValue := 0 }, { name := "expectedModCount", type := .int, accessFlags := 0, slot := 2, constantValue := 0 }, { name := "this$0", type := (.object "java/util/ArrayList"), accessFlags := 4112, slot := 3, constantValue := 0 }]
  methods := #[k20m0]
  instanceTypes := #[.int, .int, .int, (.object "java/util/ArrayList")]
  staticTypes := #[]
  resolved := Array.replicate 104 none
  statics := none }

def pool21 : Array CpInfo := pool [(1, .methodref 2 3), (0, .class_ 4), (0, .nameAndType 5 6), (0, u "java/lang/Object"), (0, u "<init>"), (0, u "()V"), (0, .fieldref 8 9), (0, .class_ 10), (0, .nameAndType 11 12), (0, u "java/lang/Throwable"), (0, u "cause"), (0, u "Ljava/lang/Throwable;"), (0, .fieldref 8 14), (0, .nameAndType 15 16), (0, u "UNASSIGNED_STACK"), (0, u "[Ljava/lang/StackTraceElement;"), (0, .fieldref 8 18), (0, .nameAndType 19 16), (0, u "stackTrace"), (0, .fieldref 8 21), (0, .nameAndType 22 23), (0, u "SUPPRESSED_SENTINEL"), (0, u "Ljava/util/List;"), (0, .fieldref 8 25), (0, .nameAndType 26 23), (0, u "suppressedExceptions"), (0, .methodref 8 28), (0, .nameAndType 29 30), (0, u "fillInStackTrace"), (0, u "()Ljava/lang/Throwable;"), (0, .fieldref 8 32), (0, .nameAndType 33 34), (0, u "detailMessage"), (0, u "Ljava/lang/String;"), (3, u "()Ljava/lang/String;"), (2, u "getMessage"), (51, .class_ 94), (0, u "java/lang/Throwable$WrappedPrintStream"), (6, .class_ 103), (1, u "java/lang/Throwable$PrintStreamOrWriter"), (61, u "$assertionsDisabled"), (0, u "Z"), (26, .class_ 194), (0, u "java/lang/Throwable$WrappedPrintWriter"), (3, .fieldref 8 199), (0, .nameAndType 200 201), (0, u "backtrace"), (0, u "Ljava/lang/Object;"), (0, .methodref 8 203), (0, .nameAndType 29 204), (0, u "(I)Ljava/lang/Throwable;"), (6, u "depth"), (0, u "I"), (10, u "(Ljava/lang/String;)V"), (45, .class_ 271), (1, u "java/lang/Throwable$SentinelHolder"), (32, u "EMPTY_THROWABLE_ARRAY"), (0, u "[Ljava/lang/Throwable;"), (12, .class_ 319), (0, u "java/io/Serializable"), (0, u "serialVersionUID"), (0, u "J"), (5, u "NULL_CAUSE_MESSAGE"), (0, u "SELF_SUPPRESSION_MESSAGE"), (0, u "CAUSE_CAPTION"), (0, u "SUPPRESSED_CAPTION")] 73

def k21c0 : Code := { maxStack := 2, maxLocals := 1, code := jdk_78_method_1_code, exceptionTable := #[], attributes := #[] }
def k21m0 : Method := { name := "<init>", desc := "()V", sig := { parameters := [], returnType := none }, accessFlags := 1, code := some k21c0 }
def k21c1 : Code := { maxStack := 2, maxLocals := 2, code := jdk_78_method_2_code, exceptionTable := #[], attributes := #[] }
def k21m1 : Method := { name := "<init>", desc := "(Ljava/lang/String;)V", sig := { parameters := [(.object "java/lang/String")], returnType := none }, accessFlags := 1, code := some k21c1 }
def k21c2 : Code := { maxStack := 1, maxLocals := 1, code := jdk_78_method_6_code, exceptionTable := #[], attributes := #[] }
def k21m2 : Method := { name := "getMessage", desc := "()Ljava/lang/String;", sig := { parameters := [], returnType := some (.object "java/lang/String") }, accessFlags := 1, code := some k21c2 }
def k21c3 : Code := { maxStack := 2, maxLocals := 1, code := ⟨#[0x2a, 0xb4, 0x00, 0x11, 0xc7, 0x00, 0x0a, 0x2a, 0xb4, 0x00, 0xc6, 0xc6, 0x00, 0x10, 0x2a, 0x03, 0xb6, 0x00, 0xca, 0x57, 0x2a, 0xb2, 0x00, 0x0d, 0xb5, 0x00, 0x11, 0x2a, 0xb0]⟩, exceptionTable := #[], attributes := #[] }
def k21m3 : Method := { name := "fillInStackTrace", desc := "()Ljava/lang/Throwable;", sig := { parameters := [], returnType := some (.object "java/lang/Throwable") }, accessFlags := 33, code := some k21c3 }
def k21m4 : Method := { name := "fillInStackTrace", desc := "(I)Ljava/lang/Throwable;", sig := { parameters := [.int], returnType := some (.object "java/lang/Throwable") }, accessFlags := 258, code := none }
/-- java/lang/Throwable -/
def k21 : Class := { plain "java/lang/Throwable" (some 0) with
  accessFlags := 33
  interfaces := #[2]
  cf := some (fileOf pool21 8 #[.nestMembers #[193, 93, 101, 269]] #[{ accessFlags := 1, nameIndex := 5, descriptorIndex := 6, attributes := #[] }, { accessFlags := 1, nameIndex := 5, descriptorIndex := 223, attributes := #[] }, { accessFlags := 1, nameIndex := 41, descriptorIndex := 38, attributes := #[] }, { accessFlags := 33, nameIndex := 29, descriptorIndex := 30, attributes := #[] }, { accessFlags := 258, nameIndex := 29, descriptorIndex := 204, attributes := #[] }] 33 2 #[318] #[{ accessFlags := 26, nameIndex := 320, descriptorIndex := 321, attributes := #[] }, { accessFlags := 130, nameIndex := 200, descriptorIndex := 201, attributes := #[] }, { accessFlags := 2, nameIndex := 33, descriptorIndex := 34, attributes := #[] }, { accessFlags := 26, nameIndex := 15, descriptorIndex := 16, attributes := #[] }, { accessFlags := 2, nameIndex := 11, descriptorIndex := 12, attributes := #[] }, { accessFlags := 2, nameIndex := 19, descriptorIndex := 16, attributes := #[] }, { accessFlags := 130, nameIndex := 211, descriptorIndex := 212, attributes := #[] }, { accessFlags := 26, nameIndex := 22, descriptorIndex := 23, attributes := #[] }, { accessFlags := 2, nameIndex := 26, descriptorIndex := 23, attributes := #[] }, { accessFlags := 26, nameIndex := 327, descriptorIndex := 34, attributes := #[] }, { accessFlags := 26, nameIndex := 328, descriptorIndex := 34, attributes := #[] }, { accessFlags := 26, nameIndex := 329, descriptorIndex := 34, attributes := #[] }, { accessFlags := 26, nameIndex := 330, descriptorIndex := 34, attributes := #[] }, { accessFlags := 26, nameIndex := 304, descriptorIndex := 305, attributes := #[] }, { accessFlags := 4120, nameIndex := 165, descriptorIndex := 166, attributes := #[] }])
  fields := #[{ name := "serialVersionUID", type := .long, accessFlags := 26, slot := 0, constantValue := 0 }, { name := "backtrace", type := (.object "java/lang/Object"), accessFlags := 130, slot := 0, constantValue := 0 }, { name := "detailMessage", type := (.object "java/lang/String"), accessFlags := 2, slot := 1, constantValue := 0 }, { name := "UNASSIGNED_STACK", type := (.array (.object "java/lang/StackTraceElement")), accessFlags := 26, slot := 1, constantValue := 0 }, { name := "cause", type := (.object "java/lang/Throwable"), accessFlags := 2, slot := 2, constantValue := 0 }, { name := "stackTrace", type := (.array (.object "java/lang/StackTraceElement")), accessFlags := 2, slot := 3, constantValue := 0 }, { name := "depth", type := .int, accessFlags := 130, slot := 4, constantValue := 0 }, { name := "SUPPRESSED_SENTINEL", type := (.object "java/util/List"), accessFlags := 26, slot := 2, constantValue := 0 }, { name := "suppressedExceptions", type := (.object "java/util/List"), accessFlags := 2, slot := 5, constantValue := 0 }, { name := "NULL_CAUSE_MESSAGE", type := (.object "java/lang/String"), accessFlags := 26, slot := 3, constantValue := 0 }, { name := "SELF_SUPPRESSION_MESSAGE", type := (.object "java/lang/String"), accessFlags := 26, slot := 4, constantValue := 0 }, { name := "CAUSE_CAPTION", type := (.object "java/lang/String"), accessFlags := 26, slot := 5, constantValue := 0 }, { name := "SUPPRESSED_CAPTION", type := (.object "java/lang/String"), accessFlags := 26, slot := 6, constantValue := 0 }, { name := "EMPTY_THROWABLE_ARRAY", type := (.array (.object "java/lang/Throwable")), accessFlags := 26, slot := 7, constantValue := 0 }, { name := "$assertionsDisabled", type := .boolean, accessFlags := 4120, slot := 8, constantValue := 0 }]
  methods := #[k21m0, k21m1, k21m2, k21m3, k21m4]
  instanceTypes := #[(.object "java/lang/Object"), (.object "java/lang/String"), (.object "java/lang/Throwable"), (.array (.object "java/lang/StackTraceElement")), .int, (.object "java/util/List")]
  staticTypes := #[.long, (.array (.object "java/lang/StackTraceElement")), (.object "java/util/List"), (.object "java/lang/String"), (.object "java/lang/String"), (.object "java/lang/String"), (.object "java/lang/String"), (.array (.object "java/lang/Throwable")), .boolean]
  resolved := Array.replicate 404 none
  statics := some 3 }

def pool22 : Array CpInfo := pool [(2, .class_ 4), (1, u "java/lang/Throwable"), (0, u "<init>"), (0, u "()V"), (0, .methodref 2 8), (0, .nameAndType 5 9), (0, u "(Ljava/lang/String;)V"), (9, .class_ 20), (0, u "java/lang/Exception"), (0, u "serialVersionUID"), (0, u "J")] 17

def k22m0 : Method := { name := "<init>", desc := "()V", sig := { parameters := [], returnType := none }, accessFlags := 1, code := none }
def k22c1 : Code := { maxStack := 2, maxLocals := 2, code := jdk_59_method_2_code, exceptionTable := #[], attributes := #[] }
def k22m1 : Method := { name := "<init>", desc := "(Ljava/lang/String;)V", sig := { parameters := [(.object "java/lang/String")], returnType := none }, accessFlags := 1, code := some k22c1 }
/-- java/lang/Exception -/
def k22 : Class := { plain "java/lang/Exception" (some 21) with
  accessFlags := 33
  interfaces := #[]
  cf := some (fileOf pool22 19 #[] #[{ accessFlags := 1, nameIndex := 5, descriptorIndex := 6, attributes := #[] }, { accessFlags := 1, nameIndex := 5, descriptorIndex := 9, attributes := #[] }] 33 2 #[] #[{ accessFlags := 24, nameIndex := 21, descriptorIndex := 22, attributes := #[] }])
  fields := #[{ name := "serialVersionUID", type := .long, accessFlags := 24, slot := 0, constantValue := 0 }]
  methods := #[k22m0, k22m1]
  instanceTypes := #[(.object "java/lang/Object"), (.object "java/lang/String"), (.object "java/lang/Throwable"), (.array (.object "java/lang/StackTraceElement")), .int, (.object "java/util/List")]
  staticTypes := #[.long]
  resolved := Array.replicate 40 none
  statics := none }

def pool23 : Array CpInfo := pool [(1, .methodref 2 3), (0, .class_ 4), (0, .nameAndType 5 6), (0, u "java/lang/Exception"), (0, u "<init>"), (0, u "(Ljava/lang/String;)V"), (46, .class_ 54), (0, u "com/example/arborview/arborview/cli/CommandException"), (0, u "EXIT_STATUS"), (0, u "I"), (2, u "serialVersionUID"), (0, u "J")] 9

def k23c0 : Code := { maxStack := 2, maxLocals := 2, code := prog_32_method_1_code, exceptionTable := #[], attributes := #[] }
def k23m0 : Method := { name := "<init>", desc := "(Ljava/lang/String;)V", sig := { parameters := [(.object "java/lang/String")], returnType := none }, accessFlags := 0, code := some k23c0 }
/-- com/example/arborview/arborview/cli/CommandException -/
def k23 : Class := { plain "com/example/arborview/arborview/cli/CommandException" (some 22) with
  accessFlags := 48
  interfaces := #[]
  cf := some (fileOf pool23 53 #[] #[{ accessFlags := 0, nameIndex := 5, descriptorIndex := 6, attributes := #[] }] 48 2 #[] #[{ accessFlags := 24, nameIndex := 55, descriptorIndex := 56, attributes := #[] }, { accessFlags := 26, nameIndex := 59, descriptorIndex := 60, attributes := #[] }])
  fields := #[{ name := "EXIT_STATUS", type := .int, accessFlags := 24, slot := 0, constantValue := 0 }, { name := "serialVersionUID", type := .long, accessFlags := 26, slot := 1, constantValue := 0 }]
  methods := #[k23m0]
  instanceTypes := #[(.object "java/lang/Object"), (.object "java/lang/String"), (.object "java/lang/Throwable"), (.array (.object "java/lang/StackTraceElement")), .int, (.object "java/util/List")]
  staticTypes := #[.int, .long]
  resolved := Array.replicate 70 none
  statics := none }

def pool24 : Array CpInfo := pool [(1, .class_ 2), (0, u "java/lang/Appendable"), (0, .class_ 4), (0, u "java/lang/Object")] 9

/-- java/lang/Appendable -/
def k24 : Class := { plain "java/lang/Appendable" (some 0) with
  accessFlags := 1537
  interfaces := #[]
  cf := some (fileOf pool24 1 #[] #[] 1537 3 #[] #[])
  fields := #[]
  methods := #[]
  instanceTypes := #[]
  staticTypes := #[]
  resolved := Array.replicate 14 none
  statics := none }

def pool25 : Array CpInfo := pool [(1, .class_ 2), (0, u "java/lang/String"), (0, .methodref 4 5), (0, .class_ 6), (0, .nameAndType 7 8), (0, u "java/lang/Object"), (0, u "<init>"), (0, u "()V"), (1, .class_ 12), (1, u "java/lang/AbstractStringBuilder"), (0, u "EMPTYVALUE"), (0, u "[B"), (0, .fieldref 10 16), (0, .nameAndType 17 14), (0, u "value"), (0, .fieldref 1 19), (0, .nameAndType 20 21), (0, u "COMPACT_STRINGS"), (0, u "Z"), (0, .fieldref 10 23), (0, .nameAndType 24 25), (0, u "coder"), (0, u "B"), (0, .methodref 27 28), (0, .class_ 29), (0, .nameAndType 30 31), (0, u "java/lang/StringUTF16"), (0, u "newBytesFor"), (0, u "(I)[B"), (0, .methodref 1 33), (0, .nameAndType 34 35), (0, u "length"), (0, u "()I"), (4, .methodref 1 41), (0, .nameAndType 24 42), (0, u "()B"), (2, u "append"), (0, u "(Ljava/lang/String;)Ljava/lang/AbstractStringBuilder;"), (1, .class_ 49), (0, u "java/lang/CharSequence"), (19, u "(Ljava/lang/String;)V"), (5, u "maybeLatin1"), (3, .fieldref 10 80), (0, .nameAndType 81 82), (0, u "count"), (0, u "I"), (0, .methodref 10 84), (0, .nameAndType 85 86), (0, u "isLatin1"), (0, u "()Z"), (1, .class_ 90), (1, u "java/lang/StringLatin1"), (9, .methodref 10 101), (0, .nameAndType 102 103), (0, u "ensureCapacityInternal"), (0, u "(I)V"), (21, .methodref 88 126), (0, .nameAndType 127 128), (0, u "inflate"), (0, u "([BI[BII)V"), (66, .methodref 10 196), (0, .nameAndType 127 8), (11, .methodref 10 209), (0, .nameAndType 210 211), (0, u "putStringAt"), (0, u "(ILjava/lang/String;)V"), (5, u "inflateIfNeededFor"), (2, .nameAndType 221 222), (0, u "getBytes"), (0, u "([BIB)V"), (174, .methodref 10 398), (0, .nameAndType 217 69), (0, .methodref 1 220), (3, u "()[B"), (40, .class_ 445), (0, u "java/lang/Appendable"), (106, u "getValue")] 56

def k25m0 : Method := { name := "<init>", desc := "()V", sig := { parameters := [], returnType := none }, accessFlags := 0, code := none }
def k25c1 : Code := { maxStack := 2, maxLocals := 2, code := jdk_68_method_2_code, exceptionTable := #[], attributes := #[] }
def k25m1 : Method := { name := "<init>", desc := "(I)V", sig := { parameters := [.int], returnType := none }, accessFlags := 0, code := some k25c1 }
def k25c2 : Code := { maxStack := 1, maxLocals := 1, code := jdk_68_method_6_code, exceptionTable := #[], attributes := #[] }
def k25m2 : Method := { name := "length", desc := "()I", sig := { parameters := [], returnType := some .int }, accessFlags := 1, code := some k25c2 }
def k25c3 : Code := { maxStack := 4, maxLocals := 3, code := jdk_68_method_9_code, exceptionTable := #[], attributes := #[] }
def k25m3 : Method := { name := "ensureCapacityInternal", desc := "(I)V", sig := { parameters := [.int], returnType := none }, accessFlags := 2, code := some k25c3 }
def k25c4 : Code := { maxStack := 5, maxLocals := 2, code := jdk_68_method_11_code, exceptionTable := #[], attributes := #[] }
def k25m4 : Method := { name := "inflate", desc := "()V", sig := { parameters := [], returnType := none }, accessFlags := 2, code := some k25c4 }
def k25c5 : Code := { maxStack := 3, maxLocals := 3, code := jdk_68_method_22_code, exceptionTable := #[], attributes := #[] }
def k25m5 : Method := { name := "append", desc := "(Ljava/lang/String;)Ljava/lang/AbstractStringBuilder;", sig := { parameters := [(.object "java/lang/String")], returnType := some (.object "java/lang/AbstractStringBuilder") }, accessFlags := 1, code := some k25c5 }
def k25c6 : Code := { maxStack := 1, maxLocals := 1, code := jdk_68_method_64_code, exceptionTable := #[], attributes := #[] }
def k25m6 : Method := { name := "getValue", desc := "()[B", sig := { parameters := [], returnType := some (.array .byte) }, accessFlags := 16, code := some k25c6 }
def k25c7 : Code := { maxStack := 1, maxLocals := 1, code := jdk_68_method_68_code, exceptionTable := #[], attributes := #[] }
def k25m7 : Method := { name := "isLatin1", desc := "()Z", sig := { parameters := [], returnType := some .boolean }, accessFlags := 16, code := some k25c7 }
def k25c8 : Code := { maxStack := 2, maxLocals := 2, code := jdk_68_method_71_code, exceptionTable := #[], attributes := #[] }
def k25m8 : Method := { name := "inflateIfNeededFor", desc := "(Ljava/lang/String;)V", sig := { parameters := [(.object "java/lang/String")], returnType := none }, accessFlags := 2, code := some k25c8 }
def k25c9 : Code := { maxStack := 4, maxLocals := 3, code := jdk_68_method_73_code, exceptionTable := #[], attributes := #[] }
def k25m9 : Method := { name := "putStringAt", desc := "(ILjava/lang/String;)V", sig := { parameters := [.int, (.object "java/lang/String")], returnType := none }, accessFlags := 2, code := some k25c9 }
/-- java/lang/AbstractStringBuilder -/
def k25 : Class := { plain "java/lang/AbstractStringBuilder" (some 0) with
  accessFlags := 1056
  interfaces := #[24, 4]
  cf := some (fileOf pool25 10 #[] #[{ accessFlags := 0, nameIndex := 7, descriptorIndex := 8, attributes := #[] }, { accessFlags := 0, nameIndex := 7, descriptorIndex := 103, attributes := #[] }, { accessFlags := 1, nameIndex := 34, descriptorIndex := 35, attributes := #[] }, { accessFlags := 2, nameIndex := 102, descriptorIndex := 103, attributes := #[] }, { accessFlags := 2, nameIndex := 127, descriptorIndex := 8, attributes := #[] }, { accessFlags := 1, nameIndex := 45, descriptorIndex := 46, attributes := #[] }, { accessFlags := 16, nameIndex := 552, descriptorIndex := 403, attributes := #[] }, { accessFlags := 16, nameIndex := 85, descriptorIndex := 86, attributes := #[] }, { accessFlags := 2, nameIndex := 217, descriptorIndex := 69, attributes := #[] }, { accessFlags := 2, nameIndex := 210, descriptorIndex := 211, attributes := #[] }] 1056 4 #[444, 48] #[{ accessFlags := 0, nameIndex := 17, descriptorIndex := 14, attributes := #[] }, { accessFlags := 0, nameIndex := 24, descriptorIndex := 25, attributes := #[] }, { accessFlags := 0, nameIndex := 75, descriptorIndex := 21, attributes := #[] }, { accessFlags := 0, nameIndex := 81, descriptorIndex := 82, attributes := #[] }, { accessFlags := 26, nameIndex := 13, descriptorIndex := 14, attributes := #[] }])
  fields := #[{ name := "value", type := (.array .byte), accessFlags := 0, slot := 0, constantValue := 0 }, { name := "coder", type := .byte, accessFlags := 0, slot := 1, constantValue := 0 }, { name := "maybeLatin1", type := .boolean, accessFlags := 0, slot := 2, constantValue := 0 }, { name := "count", type := .int, accessFlags := 0, slot := 3, constantValue := 0 }, { name := "EMPTYVALUE", type := (.array .byte), accessFlags := 26, slot := 0, constantValue := 0 }]
  methods := #[k25m0, k25m1, k25m2, k25m3, k25m4, k25m5, k25m6, k25m7, k25m8, k25m9]
  instanceTypes := #[(.array .byte), .byte, .boolean, .int]
  staticTypes := #[(.array .byte)]
  resolved := Array.replicate 609 none
  statics := none }

def pool26 : Array CpInfo := pool [(1, .methodref 2 3), (0, .class_ 4), (0, .nameAndType 5 6), (0, u "java/lang/AbstractStringBuilder"), (0, u "<init>"), (0, u "(I)V"), (11, .class_ 20), (1, u "java/lang/String"), (3, .class_ 26), (1, u "java/lang/StringBuilder"), (0, u "append"), (0, u "(Ljava/lang/String;)Ljava/lang/StringBuilder;"), (0, .methodref 2 30), (0, .nameAndType 27 31), (0, u "(Ljava/lang/String;)Ljava/lang/AbstractStringBuilder;"), (105, .methodref 18 138), (0, .nameAndType 5 139), (0, u "(Ljava/lang/StringBuilder;)V"), (5, u "()V"), (10, u "()I"), (186, .methodref 2 344), (0, .nameAndType 345 156), (0, u "length"), (3, .class_ 350), (0, u "java/lang/Appendable"), (0, .class_ 352), (0, u "java/io/Serializable"), (0, .class_ 354), (0, u "java/lang/Comparable"), (0, .class_ 356), (0, u "java/lang/CharSequence"), (0, u "serialVersionUID"), (0, u "J"), (40, u "toString"), (0, u "()Ljava/lang/String;")] 21

def k26c0 : Code := { maxStack := 2, maxLocals := 1, code := jdk_67_method_1_code, exceptionTable := #[], attributes := #[] }
def k26m0 : Method := { name := "<init>", desc := "()V", sig := { parameters := [], returnType := none }, accessFlags := 1, code := some k26c0 }
def k26c1 : Code := { maxStack := 2, maxLocals := 2, code := jdk_67_method_7_code, exceptionTable := #[], attributes := #[] }
def k26m1 : Method := { name := "append", desc := "(Ljava/lang/String;)Ljava/lang/StringBuilder;", sig := { parameters := [(.object "java/lang/String")], returnType := some (.object "java/lang/StringBuilder") }, accessFlags := 1, code := some k26c1 }
def k26c2 : Code := { maxStack := 3, maxLocals := 1, code := jdk_67_method_42_code, exceptionTable := #[], attributes := #[] }
def k26m2 : Method := { name := "toString", desc := "()Ljava/lang/String;", sig := { parameters := [], returnType := some (.object "java/lang/String") }, accessFlags := 1, code := some k26c2 }
def k26c3 : Code := { maxStack := 1, maxLocals := 1, code := jdk_67_method_93_code, exceptionTable := #[], attributes := #[] }
def k26m3 : Method := { name := "length", desc := "()I", sig := { parameters := [], returnType := some .int }, accessFlags := 4161, code := some k26c3 }
/-- java/lang/StringBuilder -/
def k26 : Class := { plain "java/lang/StringBuilder" (some 25) with
  accessFlags := 49
  interfaces := #[24, 2, 3, 4]
  cf := some (fileOf pool26 24 #[] #[{ accessFlags := 1, nameIndex := 5, descriptorIndex := 145, attributes := #[] }, { accessFlags := 1, nameIndex := 27, descriptorIndex := 28, attributes := #[] }, { accessFlags := 1, nameIndex := 399, descriptorIndex := 400, attributes := #[] }, { accessFlags := 4161, nameIndex := 345, descriptorIndex := 156, attributes := #[] }] 49 2 #[349, 351, 353, 355] #[{ accessFlags := 24, nameIndex := 357, descriptorIndex := 358, attributes := #[] }])
  fields := #[{ name := "serialVersionUID", type := .long, accessFlags := 24, slot := 0, constantValue := 0 }]
  methods := #[k26m0, k26m1, k26m2, k26m3]
  instanceTypes := #[(.array .byte), .byte, .boolean, .int]
  staticTypes := #[.long]
  resolved := Array.replicate 422 none
  statics := none }

def pool27 : Array CpInfo := pool [(2, .class_ 4), (1, u "java/lang/Object"), (0, u "<init>"), (0, u "()V"), (1, .class_ 10), (1, u "java/lang/System"), (0, u "allowSecurityManager"), (0, u "I"), (16, u "cons"), (0, u "Ljava/io/Console;"), (77, .class_ 110), (1, u "java/lang/System$CallersHolder"), (43, u "initialErrStream"), (0, u "Ljava/io/PrintStream;"), (19, u "security"), (0, u "Ljava/lang/SecurityManager;"), (31, .class_ 209), (0, u "java/lang/System$1"), (7, u "props"), (0, u "Ljava/util/Properties;"), (2, u "lineSeparator"), (0, u "Ljava/lang/String;"), (96, .class_ 321), (1, u "java/lang/System$LoggerFinder"), (5, .class_ 328), (0, u "java/lang/System$Logger"), (67, u "err"), (2, u "out"), (91, u "notSupportedJnuEncoding"), (15, u "in"), (17, u "initialIn"), (0, u "Ljava/io/InputStream;"), (35, u "bootLayer"), (0, u "Ljava/lang/ModuleLayer;"), (99, .class_ 664), (0, u "java/lang/System$2"), (9, u "NEVER"), (2, u "MAYBE"), (49, u "arraycopy"), (0, u "(Ljava/lang/Object;ILjava/lang/Object;II)V"), (72, .class_ 802), (0, u "java/lang/System$Logger$Level")] 31

def k27m0 : Method := { name := "<init>", desc := "()V", sig := { parameters := [], returnType := none }, accessFlags := 2, code := none }
def k27m1 : Method := { name := "arraycopy", desc := "(Ljava/lang/Object;ILjava/lang/Object;II)V", sig := { parameters := [(.object "java/lang/Object"), .int, (.object "java/lang/Object"), .int, .int], returnType := none }, accessFlags := 265, code := none }
/-- java/lang/System -/
def k27 : Class := { plain "java/lang/System" (some 0) with
  accessFlags := 49
  interfaces := #[]
  cf := some (fileOf pool27 8 #[.nestMembers #[319, 327, 801, 108, 663, 208]] #[{ accessFlags := 2, nameIndex := 5, descriptorIndex := 6, attributes := #[] }, { accessFlags := 265, nameIndex := 727, descriptorIndex := 728, attributes := #[] }] 49 2 #[] #[{ accessFlags := 25, nameIndex := 507, descriptorIndex := 526, attributes := #[] }, { accessFlags := 25, nameIndex := 399, descriptorIndex := 155, attributes := #[] }, { accessFlags := 25, nameIndex := 396, descriptorIndex := 155, attributes := #[] }, { accessFlags := 10, nameIndex := 525, descriptorIndex := 526, attributes := #[] }, { accessFlags := 26, nameIndex := 674, descriptorIndex := 12, attributes := #[] }, { accessFlags := 26, nameIndex := 677, descriptorIndex := 12, attributes := #[] }, { accessFlags := 10, nameIndex := 11, descriptorIndex := 12, attributes := #[] }, { accessFlags := 74, nameIndex := 175, descriptorIndex := 176, attributes := #[] }, { accessFlags := 10, nameIndex := 491, descriptorIndex := 222, attributes := #[] }, { accessFlags := 74, nameIndex := 29, descriptorIndex := 30, attributes := #[] }, { accessFlags := 74, nameIndex := 154, descriptorIndex := 155, attributes := #[] }, { accessFlags := 10, nameIndex := 217, descriptorIndex := 218, attributes := #[] }, { accessFlags := 10, nameIndex := 221, descriptorIndex := 222, attributes := #[] }, { accessFlags := 8, nameIndex := 562, descriptorIndex := 563, attributes := #[] }])
  fields := #[{ name := "in", type := (.object "java/io/InputStream"), accessFlags := 25, slot := 0, constantValue := 0 }, { name := "out", type := (.object "java/io/PrintStream"), accessFlags := 25, slot := 1, constantValue := 0 }, { name := "err", type := (.object "java/io/PrintStream"), accessFlags := 25, slot := 2, constantValue := 0 }, { name := "initialIn", type := (.object "java/io/InputStream"), accessFlags := 10, slot := 3, constantValue := 0 }, { name := "NEVER", type := .int, accessFlags := 26, slot := 4, constantValue := 0 }, { name := "MAYBE", type := .int, accessFlags := 26, slot := 5, constantValue := 0 }, { name := "allowSecurityManager", type := .int, accessFlags := 10, slot := 6, constantValue := 0 }, { name := "security", type := (.object "java/lang/SecurityManager"), accessFlags := 74, slot := 7, constantValue := 0 }, { name := "notSupportedJnuEncoding", type := (.object "java/lang/String"), accessFlags := 10, slot := 8, constantValue := 0 }, { name := "cons", type := (.object "java/io/Console"), accessFlags := 74, slot := 9, constantValue := 0 }, { name := "initialErrStream", type := (.object "java/io/PrintStream"), accessFlags := 74, slot := 10, constantValue := 0 }, { name := "props", type := (.object "java/util/Properties"), accessFlags := 10, slot := 11, constantValue := 0 }, { name := "lineSeparator", type := (.object "java/lang/String"), accessFlags := 10, slot := 12, constantValue := 0 }, { name := "bootLayer", type := (.object "java/lang/ModuleLayer"), accessFlags := 8, slot := 13, constantValue := 0 }]
  methods := #[k27m0, k27m1]
  instanceTypes := #[]
  staticTypes := #[(.object "java/io/InputStream"), (.object "java/io/PrintStream"), (.object "java/io/PrintStream"), (.object "java/io/InputStream"), .int, .int, .int, (.object "java/lang/SecurityManager"), (.object "java/lang/String"), (.object "java/io/Console"), (.object "java/io/PrintStream"), (.object "java/util/Properties"), (.object "java/lang/String"), (.object "java/lang/ModuleLayer")]
  resolved := Array.replicate 834 none
  statics := none }

def pool28 : Array CpInfo := pool [(2, .class_ 4), (1, u "java/lang/Object"), (0, u "<init>"), (0, u "()V"), (7, .class_ 16), (1, u "java/util/Arrays"), (57, .class_ 76), (1, u "java/util/Arrays$NaturalOrder"), (36, .class_ 115), (1, u "java/util/Arrays$LegacyMergeSort"), (1, u "Z"), (21, u "copyOfRange"), (10, .methodref 151 152), (0, .class_ 153), (0, .nameAndType 154 155), (0, u "java/lang/System"), (0, u "arraycopy"), (0, u "(Ljava/lang/Object;ILjava/lang/Object;II)V"), (148, .methodref 305 306), (0, .class_ 307), (0, .nameAndType 308 309), (0, u "java/lang/Math"), (0, u "min"), (0, u "(II)I"), (29, .methodref 14 340), (0, .nameAndType 341 342), (0, u "copyOfRangeByte"), (0, u "([BII)[B"), (0, .methodref 14 344), (0, .nameAndType 345 346), (0, u "checkLength"), (0, u "(II)V"), (28, .class_ 376), (0, u "java/util/Arrays$ArrayList"), (68, u "$assertionsDisabled"), (269, u "MIN_ARRAY_SORT_GRAN"), (0, u "I"), (2, u "INSERTIONSORT_THRESHOLD"), (255, .class_ 976), (0, u "java/util/Arrays$ArrayItr")] 52

def k28m0 : Method := { name := "<init>", desc := "()V", sig := { parameters := [], returnType := none }, accessFlags := 2, code := none }
def k28c1 : Code := { maxStack := 4, maxLocals := 2, code := jdk_65_method_131_code, exceptionTable := #[], attributes := #[] }
def k28m1 : Method := { name := "checkLength", desc := "(II)V", sig := { parameters := [.int, .int], returnType := none }, accessFlags := 10, code := some k28c1 }
def k28c2 : Code := { maxStack := 3, maxLocals := 3, code := jdk_65_method_132_code, exceptionTable := #[], attributes := #[] }
def k28m2 : Method := { name := "copyOfRange", desc := "([BII)[B", sig := { parameters := [(.array .byte), .int, .int], returnType := some (.array .byte) }, accessFlags := 9, code := some k28c2 }
def k28c3 : Code := { maxStack := 6, maxLocals := 5, code := jdk_65_method_133_code, exceptionTable := #[], attributes := #[] }
def k28m3 : Method := { name := "copyOfRangeByte", desc := "([BII)[B", sig := { parameters := [(.array .byte), .int, .int], returnType := some (.array .byte) }, accessFlags := 10, code := some k28c3 }
/-- java/util/Arrays -/
def k28 : Class := { plain "java/util/Arrays" (some 0) with
  accessFlags := 49
  interfaces := #[]
  cf := some (fileOf pool28 14 #[.nestMembers #[975, 375, 113, 74]] #[{ accessFlags := 2, nameIndex := 5, descriptorIndex := 6, attributes := #[] }, { accessFlags := 10, nameIndex := 345, descriptorIndex := 346, attributes := #[] }, { accessFlags := 9, nameIndex := 139, descriptorIndex := 342, attributes := #[] }, { accessFlags := 10, nameIndex := 341, descriptorIndex := 342, attributes := #[] }] 49 2 #[] #[{ accessFlags := 26, nameIndex := 715, descriptorIndex := 716, attributes := #[] }, { accessFlags := 26, nameIndex := 719, descriptorIndex := 716, attributes := #[] }, { accessFlags := 4120, nameIndex := 445, descriptorIndex := 117, attributes := #[] }])
  fields := #[{ name := "MIN_ARRAY_SORT_GRAN", type := .int, accessFlags := 26, slot := 0, constantValue := 0 }, { name := "INSERTIONSORT_THRESHOLD", type := .int, accessFlags := 26, slot := 1, constantValue := 0 }, { name := "$assertionsDisabled", type := .boolean, accessFlags := 4120, slot := 2, constantValue := 0 }]
  methods := #[k28m0, k28m1, k28m2, k28m3]
  instanceTypes := #[]
  staticTypes := #[.int, .int, .boolean]
  resolved := Array.replicate 1029 none
  statics := none }

def pool29 : Array CpInfo := pool [(1, .class_ 2), (0, u "java/lang/Math"), (1, .class_ 6), (1, u "java/lang/Object"), (0, u "<init>"), (0, u "()V"), (89, .class_ 100), (1, u "java/lang/Math$RandomNumberGeneratorHolder"), (71, u "negativeZeroFloatBits"), (0, u "J"), (2, u "negativeZeroDoubleBits"), (24, u "min"), (43, u "$assertionsDisabled"), (0, u "Z"), (88, u "(II)I"), (2, u "twoToTheDoubleScaleDown"), (0, u "D"), (4, u "twoToTheDoubleScaleUp"), (9, u "E"), (3, u "PI"), (2, u "TAU"), (2, u "DEGREES_TO_RADIANS"), (0, u "RADIANS_TO_DEGREES")] 94

def k29m0 : Method := { name := "<init>", desc := "()V", sig := { parameters := [], returnType := none }, accessFlags := 2, code := none }
def k29c1 : Code := { maxStack := 2, maxLocals := 2, code := jdk_29_method_69_code, exceptionTable := #[], attributes := #[] }
def k29m1 : Method := { name := "min", desc := "(II)I", sig := { parameters := [.int, .int], returnType := some .int }, accessFlags := 9, code := some k29c1 }
/-- java/lang/Math -/
def k29 : Class := { plain "java/lang/Math" (some 0) with
  accessFlags := 49
  interfaces := #[]
  cf := some (fileOf pool29 1 #[.nestMembers #[98]] #[{ accessFlags := 2, nameIndex := 7, descriptorIndex := 8, attributes := #[] }, { accessFlags := 9, nameIndex := 201, descriptorIndex := 335, attributes := #[] }] 49 4 #[] #[{ accessFlags := 25, nameIndex := 354, descriptorIndex := 339, attributes := #[] }, { accessFlags := 25, nameIndex := 358, descriptorIndex := 339, attributes := #[] }, { accessFlags := 25, nameIndex := 361, descriptorIndex := 339, attributes := #[] }, { accessFlags := 26, nameIndex := 364, descriptorIndex := 339, attributes := #[] }, { accessFlags := 26, nameIndex := 365, descriptorIndex := 339, attributes := #[] }, { accessFlags := 26, nameIndex := 172, descriptorIndex := 173, attributes := #[] }, { accessFlags := 26, nameIndex := 176, descriptorIndex := 173, attributes := #[] }, { accessFlags := 8, nameIndex := 344, descriptorIndex := 339, attributes := #[] }, { accessFlags := 8, nameIndex := 338, descriptorIndex := 339, attributes := #[] }, { accessFlags := 4120, nameIndex := 245, descriptorIndex := 246, attributes := #[] }])
  fields := #[{ name := "E", type := .double, accessFlags := 25, slot := 0, constantValue := 0 }, { name := "PI", type := .double, accessFlags := 25, slot := 1, constantValue := 0 }, { name := "TAU", type := .double, accessFlags := 25, slot := 2, constantValue := 0 }, { name := "DEGREES_TO_RADIANS", type := .double, accessFlags := 26, slot := 3, constantValue := 0 }, { name := "RADIANS_TO_DEGREES", type := .double, accessFlags := 26, slot := 4, constantValue := 0 }, { name := "negativeZeroFloatBits", type := .long, accessFlags := 26, slot := 5, constantValue := 0 }, { name := "negativeZeroDoubleBits", type := .long, accessFlags := 26, slot := 6, constantValue := 0 }, { name := "twoToTheDoubleScaleUp", type := .double, accessFlags := 8, slot := 7, constantValue := 0 }, { name := "twoToTheDoubleScaleDown", type := .double, accessFlags := 8, slot := 8, constantValue := 0 }, { name := "$assertionsDisabled", type := .boolean, accessFlags := 4120, slot := 9, constantValue := 0 }]
  methods := #[k29m0, k29m1]
  instanceTypes := #[]
  staticTypes := #[.double, .double, .double, .double, .double, .long, .long, .double, .double, .boolean]
  resolved := Array.replicate 460 none
  statics := none }

def pool30 : Array CpInfo := pool [(4, .class_ 6), (1, u "java/lang/Object"), (0, u "<init>"), (0, u "()V"), (5, .class_ 16), (1, u "java/lang/StringLatin1"), (0, u "inflate"), (2, .class_ 22), (1, u "java/lang/StringUTF16"), (3, .nameAndType 17 27), (0, u "([BI[BII)V"), (93, u "$assertionsDisabled"), (0, u "Z"), (98, .class_ 223), (1, u "java/lang/StringLatin1$LinesSpliterator"), (16, .methodref 20 26), (40, u "equals"), (0, u "([B[B)Z"), (107, .class_ 391), (0, u "java/lang/StringLatin1$CharsSpliterator")] 3

def k30m0 : Method := { name := "<init>", desc := "()V", sig := { parameters := [], returnType := none }, accessFlags := 0, code := none }
def k30c1 : Code := { maxStack := 3, maxLocals := 3, code := jdk_43_method_13_code, exceptionTable := #[], attributes := #[] }
def k30m1 : Method := { name := "equals", desc := "([B[B)Z", sig := { parameters := [(.array .byte), (.array .byte)], returnType := some .boolean }, accessFlags := 9, code := some k30c1 }
def k30c2 : Code := { maxStack := 5, maxLocals := 5, code := jdk_43_method_50_code, exceptionTable := #[], attributes := #[] }
def k30m2 : Method := { name := "inflate", desc := "([BI[BII)V", sig := { parameters := [(.array .byte), .int, (.array .byte), .int, .int], returnType := none }, accessFlags := 9, code := some k30c2 }
/-- java/lang/StringLatin1 -/
def k30 : Class := { plain "java/lang/StringLatin1" (some 0) with
  accessFlags := 48
  interfaces := #[]
  cf := some (fileOf pool30 14 #[.nestMembers #[390, 221]] #[{ accessFlags := 0, nameIndex := 7, descriptorIndex := 8, attributes := #[] }, { accessFlags := 9, nameIndex := 281, descriptorIndex := 282, attributes := #[] }, { accessFlags := 9, nameIndex := 17, descriptorIndex := 27, attributes := #[] }] 48 4 #[] #[{ accessFlags := 4120, nameIndex := 121, descriptorIndex := 122, attributes := #[] }])
  fields := #[{ name := "$assertionsDisabled", type := .boolean, accessFlags := 4120, slot := 0, constantValue := 0 }]
  methods := #[k30m0, k30m1, k30m2]
  instanceTypes := #[]
  staticTypes := #[.boolean]
  resolved := Array.replicate 395 none
  statics := none }

def pool31 : Array CpInfo := pool [(2, .class_ 4), (1, u "java/lang/Object"), (0, u "<init>"), (0, u "()V"), (17, .class_ 26), (1, u "jdk/internal/util/Preconditions"), (22, u "checkFromIndexSize"), (5, .class_ 56), (0, u "jdk/internal/util/Preconditions$4"), (57, .class_ 115), (0, u "jdk/internal/util/Preconditions$1"), (7, u "SIOOBE_FORMATTER"), (0, u "Ljava/util/function/BiFunction;"), (0, .class_ 126), (0, u "jdk/internal/util/Preconditions$2"), (3, u "AIOOBE_FORMATTER"), (0, .class_ 132), (0, u "jdk/internal/util/Preconditions$3"), (3, u "IOOBE_FORMATTER"), (46, u "(IIILjava/util/function/BiFunction;)I")] 10

def k31m0 : Method := { name := "<init>", desc := "()V", sig := { parameters := [], returnType := none }, accessFlags := 1, code := none }
def k31c1 : Code := { maxStack := 4, maxLocals := 4, code := jdk_41_method_13_code, exceptionTable := #[], attributes := #[] }
def k31m1 : Method := { name := "checkFromIndexSize", desc := "(IIILjava/util/function/BiFunction;)I", sig := { parameters := [.int, .int, .int, (.object "java/util/function/BiFunction")], returnType := some .int }, accessFlags := 9, code := some k31c1 }
/-- jdk/internal/util/Preconditions -/
def k31 : Class := { plain "jdk/internal/util/Preconditions" (some 0) with
  accessFlags := 33
  interfaces := #[]
  cf := some (fileOf pool31 24 #[.nestMembers #[55, 131, 125, 114]] #[{ accessFlags := 1, nameIndex := 5, descriptorIndex := 6, attributes := #[] }, { accessFlags := 9, nameIndex := 49, descriptorIndex := 183, attributes := #[] }] 33 2 #[] #[{ accessFlags := 25, nameIndex := 123, descriptorIndex := 124, attributes := #[] }, { accessFlags := 25, nameIndex := 130, descriptorIndex := 124, attributes := #[] }, { accessFlags := 25, nameIndex := 136, descriptorIndex := 124, attributes := #[] }])
  fields := #[{ name := "SIOOBE_FORMATTER", type := (.object "java/util/function/BiFunction"), accessFlags := 25, slot := 0, constantValue := 0 }, { name := "AIOOBE_FORMATTER", type := (.object "java/util/function/BiFunction"), accessFlags := 25, slot := 1, constantValue := 0 }, { name := "IOOBE_FORMATTER", type := (.object "java/util/function/BiFunction"), accessFlags := 25, slot := 2, constantValue := 0 }]
  methods := #[k31m0, k31m1]
  instanceTypes := #[]
  staticTypes := #[(.object "java/util/function/BiFunction"), (.object "java/util/function/BiFunction"), (.object "java/util/function/BiFunction")]
  resolved := Array.replicate 194 none
  statics := some 4 }

def pool32 : Array CpInfo := pool [(9, u "<init>"), (6, .class_ 18), (1, u "java/lang/Object"), (0, u "()V"), (1, .class_ 23), (1, u "jdk/internal/util/ArraysSupport"), (0, u "LOG2_ARRAY_LONG_INDEX_SCALE"), (0, u "I"), (2, u "U"), (0, u "Ljdk/internal/misc/Unsafe;"), (8, u "BIG_ENDIAN"), (0, u "Z"), (8, u "LOG2_BYTE_BIT_SIZE"), (4, u "LOG2_ARRAY_INT_INDEX_SCALE"), (54, u "JLA"), (0, u "Ljdk/internal/access/JavaLangAccess;"), (11, u "LOG2_ARRAY_BOOLEAN_INDEX_SCALE"), (9, u "LOG2_ARRAY_BYTE_INDEX_SCALE"), (5, u "LOG2_ARRAY_CHAR_INDEX_SCALE"), (5, u "LOG2_ARRAY_SHORT_INDEX_SCALE"), (18, u "LOG2_ARRAY_FLOAT_INDEX_SCALE"), (24, u "LOG2_ARRAY_DOUBLE_INDEX_SCALE"), (89, u "T_BOOLEAN"), (2, u "T_CHAR"), (1, u "T_FLOAT"), (1, u "T_DOUBLE"), (1, u "T_BYTE"), (1, u "T_SHORT"), (1, u "T_INT"), (1, u "T_LONG"), (1, u "SOFT_MAX_ARRAY_LENGTH")] 83

def k32m0 : Method := { name := "<init>", desc := "()V", sig := { parameters := [], returnType := none }, accessFlags := 2, code := none }
/-- jdk/internal/util/ArraysSupport -/
def k32 : Class := { plain "jdk/internal/util/ArraysSupport" (some 0) with
  accessFlags := 33
  interfaces := #[]
  cf := some (fileOf pool32 21 #[] #[{ accessFlags := 2, nameIndex := 9, descriptorIndex := 19, attributes := #[] }] 33 16 #[] #[{ accessFlags := 24, nameIndex := 28, descriptorIndex := 29, attributes := #[] }, { accessFlags := 26, nameIndex := 38, descriptorIndex := 39, attributes := #[] }, { accessFlags := 25, nameIndex := 121, descriptorIndex := 25, attributes := #[] }, { accessFlags := 25, nameIndex := 131, descriptorIndex := 25, attributes := #[] }, { accessFlags := 25, nameIndex := 137, descriptorIndex := 25, attributes := #[] }, { accessFlags := 25, nameIndex := 143, descriptorIndex := 25, attributes := #[] }, { accessFlags := 25, nameIndex := 53, descriptorIndex := 25, attributes := #[] }, { accessFlags := 25, nameIndex := 24, descriptorIndex := 25, attributes := #[] }, { accessFlags := 25, nameIndex := 162, descriptorIndex := 25, attributes := #[] }, { accessFlags := 25, nameIndex := 187, descriptorIndex := 25, attributes := #[] }, { accessFlags := 26, nameIndex := 48, descriptorIndex := 25, attributes := #[] }, { accessFlags := 25, nameIndex := 277, descriptorIndex := 25, attributes := #[] }, { accessFlags := 25, nameIndex := 280, descriptorIndex := 25, attributes := #[] }, { accessFlags := 25, nameIndex := 282, descriptorIndex := 25, attributes := #[] }, { accessFlags := 25, nameIndex := 284, descriptorIndex := 25, attributes := #[] }, { accessFlags := 25, nameIndex := 286, descriptorIndex := 25, attributes := #[] }, { accessFlags := 25, nameIndex := 288, descriptorIndex := 25, attributes := #[] }, { accessFlags := 25, nameIndex := 290, descriptorIndex := 25, attributes := #[] }, { accessFlags := 25, nameIndex := 292, descriptorIndex := 25, attributes := #[] }, { accessFlags := 26, nameIndex := 108, descriptorIndex := 109, attributes := #[] }, { accessFlags := 25, nameIndex := 294, descriptorIndex := 25, attributes := #[] }])
  fields := #[{ name := "U", type := (.object "jdk/internal/misc/Unsafe"), accessFlags := 24, slot := 0, constantValue := 0 }, { name := "BIG_ENDIAN", type := .boolean, accessFlags := 26, slot := 1, constantValue := 0 }, { name := "LOG2_ARRAY_BOOLEAN_INDEX_SCALE", type := .int, accessFlags := 25, slot := 2, constantValue := 0 }, { name := "LOG2_ARRAY_BYTE_INDEX_SCALE", type := .int, accessFlags := 25, slot := 3, constantValue := 0 }, { name := "LOG2_ARRAY_CHAR_INDEX_SCALE", type := .int, accessFlags := 25, slot := 4, constantValue := 0 }, { name := "LOG2_ARRAY_SHORT_INDEX_SCALE", type := .int, accessFlags := 25, slot := 5, constantValue := 0 }, { name := "LOG2_ARRAY_INT_INDEX_SCALE", type := .int, accessFlags := 25, slot := 6, constantValue := 0 }, { name := "LOG2_ARRAY_LONG_INDEX_SCALE", type := .int, accessFlags := 25, slot := 7, constantValue := 0 }, { name := "LOG2_ARRAY_FLOAT_INDEX_SCALE", type := .int, accessFlags := 25, slot := 8, constantValue := 0 }, { name := "LOG2_ARRAY_DOUBLE_INDEX_SCALE", type := .int, accessFlags := 25, slot := 9, constantValue := 0 }, { name := "LOG2_BYTE_BIT_SIZE", type := .int, accessFlags := 26, slot := 10, constantValue := 0 }, { name := "T_BOOLEAN", type := .int, accessFlags := 25, slot := 11, constantValue := 0 }, { name := "T_CHAR", type := .int, accessFlags := 25, slot := 12, constantValue := 0 }, { name := "T_FLOAT", type := .int, accessFlags := 25, slot := 13, constantValue := 0 }, { name := "T_DOUBLE", type := .int, accessFlags := 25, slot := 14, constantValue := 0 }, { name := "T_BYTE", type := .int, accessFlags := 25, slot := 15, constantValue := 0 }, { name := "T_SHORT", type := .int, accessFlags := 25, slot := 16, constantValue := 0 }, { name := "T_INT", type := .int, accessFlags := 25, slot := 17, constantValue := 0 }, { name := "T_LONG", type := .int, accessFlags := 25, slot := 18, constantValue := 0 }, { name := "JLA", type := (.object "jdk/internal/access/JavaLangAccess"), accessFlags := 26, slot := 19, constantValue := 0 }, { name := "SOFT_MAX_ARRAY_LENGTH", type := .int, accessFlags := 25, slot := 20, constantValue := 0 }]
  methods := #[k32m0]
  instanceTypes := #[]
  staticTypes := #[(.object "jdk/internal/misc/Unsafe"), .boolean, .int, .int, .int, .int, .int, .int, .int, .int, .int, .int, .int, .int, .int, .int, .int, .int, .int, (.object "jdk/internal/access/JavaLangAccess"), .int]
  resolved := Array.replicate 378 none
  statics := none }

def pool33 : Array CpInfo := pool [(2, .class_ 4), (1, u "java/lang/Object"), (0, u "<init>"), (0, u "()V"), (12, .class_ 20), (0, u "java/util/Collections"), (63, u "r"), (0, u "Ljava/util/Random;"), (80, .class_ 167), (0, u "java/util/Collections$UnmodifiableCollection"), (6, .class_ 175), (0, u "java/util/Collections$UnmodifiableSequencedCollection"), (6, .class_ 183), (0, u "java/util/Collections$UnmodifiableSet"), (6, .class_ 191), (0, u "java/util/Collections$UnmodifiableSequencedSet"), (6, .class_ 199), (0, u "java/util/Collections$UnmodifiableSortedSet"), (6, .class_ 207), (0, u "java/util/Collections$UnmodifiableNavigableSet"), (4, .class_ 213), (0, u "java/util/Collections$UnmodifiableList"), (1, .class_ 216), (0, u "java/util/Collections$UnmodifiableRandomAccessList"), (6, .class_ 224), (0, u "java/util/Collections$UnmodifiableMap"), (6, .class_ 232), (0, u "java/util/Collections$UnmodifiableSequencedMap"), (4, .class_ 238), (0, u "java/util/Collections$UnmodifiableSortedMap"), (6, .class_ 246), (0, u "java/util/Collections$UnmodifiableNavigableMap"), (3, .class_ 251), (0, u "java/util/Collections$SynchronizedCollection"), (4, .class_ 257), (0, u "java/util/Collections$SynchronizedSet"), (4, .class_ 263), (0, u "java/util/Collections$SynchronizedSortedSet"), (1, .class_ 266), (0, u "java/util/Collections$SynchronizedNavigableSet"), (1, .class_ 269), (0, u "java/util/Collections$SynchronizedRandomAccessList"), (1, .class_ 272), (0, u "java/util/Collections$SynchronizedList"), (5, .class_ 279), (0, u "java/util/Collections$SynchronizedMap"), (1, .class_ 282), (0, u "java/util/Collections$SynchronizedSortedMap"), (1, .class_ 285), (0, u "java/util/Collections$SynchronizedNavigableMap"), (1, .class_ 288), (0, u "java/util/Collections$CheckedCollection"), (11, .class_ 301), (0, u "java/util/Collections$CheckedQueue"), (3, .class_ 306), (0, u "java/util/Collections$CheckedSet"), (3, .class_ 311), (0, u "java/util/Collections$CheckedSortedSet"), (3, .class_ 316), (0, u "java/util/Collections$CheckedNavigableSet"), (3, .class_ 321), (0, u "java/util/Collections$CheckedRandomAccessList"), (3, .class_ 326), (0, u "java/util/Collections$CheckedList"), (1, .class_ 329), (0, u "java/util/Collections$CheckedMap"), (3, .class_ 334), (0, u "java/util/Collections$CheckedSortedMap"), (3, .class_ 339), (0, u "java/util/Collections$CheckedNavigableMap"), (4, .class_ 346), (1, u "java/util/Collections$EmptyIterator"), (3, .class_ 352), (1, u "java/util/Collections$EmptyListIterator"), (2, .class_ 357), (1, u "java/util/Collections$EmptyEnumeration"), (4, u "EMPTY_SET"), (0, u "Ljava/util/Set;"), (6, u "EMPTY_LIST"), (0, u "Ljava/util/List;"), (2, u "EMPTY_MAP"), (0, u "Ljava/util/Map;"), (4, .class_ 381), (0, u "java/util/Collections$SingletonSet"), (2, .class_ 385), (0, u "java/util/Collections$1"), (1, .class_ 388), (0, u "java/util/Collections$2"), (1, .class_ 391), (0, u "java/util/Collections$SingletonList"), (1, .class_ 394), (0, u "java/util/Collections$SingletonMap"), (22, .class_ 418), (0, u "java/util/Collections$CopiesList"), (4, .class_ 425), (1, u "java/util/Collections$ReverseComparator"), (8, .class_ 435), (0, u "java/util/Collections$ReverseComparator2"), (6, .class_ 443), (0, u "java/util/Collections$3"), (25, .class_ 470), (0, u "java/util/Collections$SetFromMap"), (2, .class_ 474), (0, u "java/util/Collections$SequencedSetFromMap"), (3, .class_ 479), (0, u "java/util/Collections$AsLIFOQueue"), (11, .class_ 492), (0, u "java/util/Collections$EmptySet"), (1, .class_ 495), (0, u "java/util/Collections$EmptyList"), (1, .class_ 498), (0, u "java/util/Collections$EmptyMap"), (1, u "BINARYSEARCH_THRESHOLD"), (0, u "I"), (2, u "REVERSE_THRESHOLD"), (1, u "SHUFFLE_THRESHOLD"), (1, u "FILL_THRESHOLD"), (1, u "ROTATE_THRESHOLD"), (1, u "COPY_THRESHOLD"), (1, u "REPLACEALL_THRESHOLD"), (1, u "INDEXOFSUBLIST_THRESHOLD"), (333, .class_ 851), (0, u "java/util/Collections$CheckedMap$CheckedEntrySet"), (0, .class_ 853), (0, u "java/util/Collections$CheckedMap$CheckedEntrySet$CheckedEntry"), (0, .class_ 855), (0, u "java/util/Collections$CheckedMap$CheckedEntrySet$1"), (0, .class_ 857), (0, u "java/util/Collections$CheckedList$1"), (0, .class_ 859), (0, u "java/util/Collections$CheckedCollection$1"), (0, .class_ 861), (0, u "java/util/Collections$UnmodifiableNavigableMap$EmptyNavigableMap"), (0, .class_ 863), (0, u "java/util/Collections$UnmodifiableMap$UnmodifiableEntrySet"), (0, .class_ 865), (0, u "java/util/Collections$UnmodifiableMap$UnmodifiableEntrySet$UnmodifiableEntry"), (0, .class_ 867), (0, u "java/util/Collections$UnmodifiableMap$UnmodifiableEntrySet$UnmodifiableEntrySetSpliterator"), (0, .class_ 869), (0, u "java/util/Collections$UnmodifiableMap$UnmodifiableEntrySet$1"), (0, .class_ 871), (0, u "java/util/Collections$UnmodifiableList$1"), (0, .class_ 873), (0, u "java/util/Collections$UnmodifiableNavigableSet$EmptyNavigableSet"), (0, .class_ 875), (0, u "java/util/Collections$UnmodifiableCollection$1")] 57

def k33m0 : Method := { name := "<init>", desc := "()V", sig := { parameters := [], returnType := none }, accessFlags := 2, code := none }
/-- java/util/Collections -/
def k33 : Class := { plain "java/util/Collections" (some 0) with
  accessFlags := 33
  interfaces := #[]
  cf := some (fileOf pool33 19 #[.nestMembers #[478, 473, 469, 434, 423, 417, 393, 390, 380, 497, 494, 491, 355, 350, 344, 338, 333, 328, 850, 852, 854, 320, 325, 856, 315, 310, 305, 300, 287, 858, 284, 281, 278, 268, 271, 265, 262, 256, 250, 245, 860, 237, 231, 223, 862, 864, 866, 868, 215, 212, 870, 206, 872, 198, 190, 182, 174, 166, 874, 442, 387, 384]] #[{ accessFlags := 2, nameIndex := 5, descriptorIndex := 6, attributes := #[] }] 33 2 #[] #[{ accessFlags := 26, nameIndex := 500, descriptorIndex := 501, attributes := #[] }, { accessFlags := 26, nameIndex := 504, descriptorIndex := 501, attributes := #[] }, { accessFlags := 26, nameIndex := 506, descriptorIndex := 501, attributes := #[] }, { accessFlags := 26, nameIndex := 508, descriptorIndex := 501, attributes := #[] }, { accessFlags := 26, nameIndex := 510, descriptorIndex := 501, attributes := #[] }, { accessFlags := 26, nameIndex := 512, descriptorIndex := 501, attributes := #[] }, { accessFlags := 26, nameIndex := 514, descriptorIndex := 501, attributes := #[] }, { accessFlags := 26, nameIndex := 516, descriptorIndex := 501, attributes := #[] }, { accessFlags := 10, nameIndex := 84, descriptorIndex := 85, attributes := #[] }, { accessFlags := 25, nameIndex := 362, descriptorIndex := 363, attributes := #[] }, { accessFlags := 25, nameIndex := 370, descriptorIndex := 371, attributes := #[] }, { accessFlags := 25, nameIndex := 374, descriptorIndex := 375, attributes := #[] }])
  fields := #[{ name := "BINARYSEARCH_THRESHOLD", type := .int, accessFlags := 26, slot := 0, constantValue := 0 }, { name := "REVERSE_THRESHOLD", type := .int, accessFlags := 26, slot := 1, constantValue := 0 }, { name := "SHUFFLE_THRESHOLD", type := .int, accessFlags := 26, slot := 2, constantValue := 0 }, { name := "FILL_THRESHOLD", type := .int, accessFlags := 26, slot := 3, constantValue := 0 }, { name := "ROTATE_THRESHOLD", type := .int, accessFlags := 26, slot := 4, constantValue := 0 }, { name := "COPY_THRESHOLD", type := .int, accessFlags := 26, slot := 5, constantValue := 0 }, { name := "REPLACEALL_THRESHOLD", type := .int, accessFlags := 26, slot := 6, constantValue := 0 }, { name := "INDEXOFSUBLIST_THRESHOLD", type := .int, accessFlags := 26, slot := 7, constantValue := 0 }, { name := "r", type := (.object "java/util/Random"), accessFlags := 10, slot := 8, constantValue := 0 }, { name := "EMPTY_SET", type := (.object "java/util/Set"), accessFlags := 25, slot := 9, constantValue := 0 }, { name := "EMPTY_LIST", type := (.object "java/util/List"), accessFlags := 25, slot := 10, constantValue := 0 }, { name := "EMPTY_MAP", type := (.object "java/util/Map"), accessFlags := 25, slot := 11, constantValue := 0 }]
  methods := #[k33m0]
  instanceTypes := #[]
  staticTypes := #[.int, .int, .int, .int, .int, .int, .int, .int, (.object "java/util/Random"), (.object "java/util/Set"), (.object "java/util/List"), (.object "java/util/Map")]
  resolved := Array.replicate 933 none
  statics := some 5 }

def pool34 : Array CpInfo := pool [(2, .class_ 4), (1, u "java/util/AbstractList"), (0, u "<init>"), (0, u "()V"), (1, .class_ 10), (1, u "java/util/Collections"), (54, .class_ 66), (0, u "java/util/Collections$EmptyList"), (0, .class_ 68), (0, u "java/util/RandomAccess"), (0, .class_ 70), (0, u "java/io/Serializable"), (0, u "serialVersionUID"), (0, u "J")] 77

def k34m0 : Method := { name := "<init>", desc := "()V", sig := { parameters := [], returnType := none }, accessFlags := 2, code := none }
/-- java/util/Collections$EmptyList -/
def k34 : Class := { plain "java/util/Collections$EmptyList" (some 15) with
  accessFlags := 32
  interfaces := #[16, 2]
  cf := some (fileOf pool34 65 #[.nestHost 8] #[{ accessFlags := 2, nameIndex := 5, descriptorIndex := 6, attributes := #[] }] 32 2 #[67, 69] #[{ accessFlags := 26, nameIndex := 71, descriptorIndex := 72, attributes := #[] }])
  fields := #[{ name := "serialVersionUID", type := .long, accessFlags := 26, slot := 0, constantValue := 0 }]
  methods := #[k34m0]
  instanceTypes := #[.int]
  staticTypes := #[.long]
  resolved := Array.replicate 150 none
  statics := none }

def pool35 : Array CpInfo := pool [(2, .class_ 4), (1, u "java/lang/StackTraceElement"), (0, u "<init>"), (2, .class_ 10), (1, u "java/lang/Object"), (0, u "()V"), (2, u "format"), (0, u "B"), (2, u "classLoaderName"), (0, u "Ljava/lang/String;"), (2, u "moduleName"), (2, u "moduleVersion"), (12, u "declaringClass"), (4, u "methodName"), (2, u "fileName"), (2, u "lineNumber"), (0, u "I"), (65, u "declaringClassObject"), (0, u "Ljava/lang/Class;"), (33, .class_ 153), (1, u "java/lang/StackTraceElement$HashedModules"), (17, .class_ 172), (0, u "java/io/Serializable"), (0, u "NATIVE_METHOD"), (1, u "UNKNOWN_SOURCE"), (2, u "BUILTIN_CLASS_LOADER"), (1, u "JDK_NON_UPGRADEABLE_MODULE"), (1, u "serialVersionUID"), (0, u "J")] 51

def k35m0 : Method := { name := "<init>", desc := "()V", sig := { parameters := [], returnType := none }, accessFlags := 2, code := none }
/-- java/lang/StackTraceElement -/
def k35 : Class := { plain "java/lang/StackTraceElement" (some 0) with
  accessFlags := 49
  interfaces := #[2]
  cf := some (fileOf pool35 2 #[.nestMembers #[151]] #[{ accessFlags := 2, nameIndex := 5, descriptorIndex := 11, attributes := #[] }] 49 8 #[171] #[{ accessFlags := 26, nameIndex := 173, descriptorIndex := 19, attributes := #[] }, { accessFlags := 26, nameIndex := 175, descriptorIndex := 19, attributes := #[] }, { accessFlags := 130, nameIndex := 116, descriptorIndex := 117, attributes := #[] }, { accessFlags := 2, nameIndex := 18, descriptorIndex := 19, attributes := #[] }, { accessFlags := 2, nameIndex := 22, descriptorIndex := 19, attributes := #[] }, { accessFlags := 2, nameIndex := 25, descriptorIndex := 19, attributes := #[] }, { accessFlags := 2, nameIndex := 38, descriptorIndex := 19, attributes := #[] }, { accessFlags := 2, nameIndex := 43, descriptorIndex := 19, attributes := #[] }, { accessFlags := 2, nameIndex := 46, descriptorIndex := 19, attributes := #[] }, { accessFlags := 2, nameIndex := 49, descriptorIndex := 50, attributes := #[] }, { accessFlags := 2, nameIndex := 14, descriptorIndex := 15, attributes := #[] }, { accessFlags := 26, nameIndex := 178, descriptorIndex := 15, attributes := #[] }, { accessFlags := 26, nameIndex := 180, descriptorIndex := 15, attributes := #[] }, { accessFlags := 26, nameIndex := 182, descriptorIndex := 183, attributes := #[] }])
  fields := #[{ name := "NATIVE_METHOD", type := (.object "java/lang/String"), accessFlags := 26, slot := 0, constantValue := 0 }, { name := "UNKNOWN_SOURCE", type := (.object "java/lang/String"), accessFlags := 26, slot := 1, constantValue := 0 }, { name := "declaringClassObject", type := (.object "java/lang/Class"), accessFlags := 130, slot := 0, constantValue := 0 }, { name := "classLoaderName", type := (.object "java/lang/String"), accessFlags := 2, slot := 1, constantValue := 0 }, { name := "moduleName", type := (.object "java/lang/String"), accessFlags := 2, slot := 2, constantValue := 0 }, { name := "moduleVersion", type := (.object "java/lang/String"), accessFlags := 2, slot := 3, constantValue := 0 }, { name := "declaringClass", type := (.object "java/lang/String"), accessFlags := 2, slot := 4, constantValue := 0 }, { name := "methodName", type := (.object "java/lang/String"), accessFlags := 2, slot := 5, constantValue := 0 }, { name := "fileName", type := (.object "java/lang/String"), accessFlags := 2, slot := 6, constantValue := 0 }, { name := "lineNumber", type := .int, accessFlags := 2, slot := 7, constantValue := 0 }, { name := "format", type := .byte, accessFlags := 2, slot := 8, constantValue := 0 }, { name := "BUILTIN_CLASS_LOADER", type := .byte, accessFlags := 26, slot := 2, constantValue := 0 }, { name := "JDK_NON_UPGRADEABLE_MODULE", type := .byte, accessFlags := 26, slot := 3, constantValue := 0 }, { name := "serialVersionUID", type := .long, accessFlags := 26, slot := 4, constantValue := 0 }]
  methods := #[k35m0]
  instanceTypes := #[(.object "java/lang/Class"), (.object "java/lang/String"), (.object "java/lang/String"), (.object "java/lang/String"), (.object "java/lang/String"), (.object "java/lang/String"), (.object "java/lang/String"), .int, .byte]
  staticTypes := #[(.object "java/lang/String"), (.object "java/lang/String"), .byte, .byte, .long]
  resolved := Array.replicate 235 none
  statics := none }

/-- the primitive byte -/
def k36 : Class := { plain "byte" none with kind := .primitive 'B', accessFlags := 0x411 }
/-- [B -/
def k37 : Class := { plain "[B" (some 0) with kind := .array 36 .byte, interfaces := #[17, 2], accessFlags := 1041 }

/-- the primitive char -/
def k38 : Class := { plain "char" none with kind := .primitive 'C', accessFlags := 0x411 }
/-- [C -/
def k39 : Class := { plain "[C" (some 0) with kind := .array 38 .char, interfaces := #[17, 2], accessFlags := 1041 }

/-- the primitive int -/
def k40 : Class := { plain "int" none with kind := .primitive 'I', accessFlags := 0x411 }
/-- [I -/
def k41 : Class := { plain "[I" (some 0) with kind := .array 40 .int, interfaces := #[17, 2], accessFlags := 1041 }

/-- [Ljava/lang/Object; -/
def k42 : Class := { plain "[Ljava/lang/Object;" (some 0) with kind := .array 0 (.object "java/lang/Object"), interfaces := #[17, 2], accessFlags := 1041 }

/-- [Ljava/lang/StackTraceElement; -/
def k43 : Class := { plain "[Ljava/lang/StackTraceElement;" (some 0) with kind := .array 35 (.object "java/lang/StackTraceElement"), interfaces := #[17, 2], accessFlags := 1041 }

/-- [Ljava/lang/Throwable; -/
def k44 : Class := { plain "[Ljava/lang/Throwable;" (some 0) with kind := .array 21 (.object "java/lang/Throwable"), interfaces := #[17, 2], accessFlags := 1041 }

def heap : Heap := #[{ cls := 7, slots := #[.long 0, .int 1, .null, .int 0, .null, .int 0, .int 0], vm := .statics 7 },
  { cls := 8, slots := #[.int 0, .int 8, .int 0, .int 1], vm := .statics 8 },
  { cls := 18, slots := #[.long 0, .int 0, .ref 6, .ref 7], vm := .statics 18 },
  { cls := 21, slots := #[.long 0, .ref 8, .ref 9, .null, .null, .null, .null, .ref 10, .int 1], vm := .statics 21 },
  { cls := 31, slots := #[.null, .null, .null], vm := .statics 31 },
  { cls := 33, slots := #[.int 0, .int 0, .int 0, .int 0, .int 0, .int 0, .int 0, .int 0, .null, .null, .ref 9, .null], vm := .statics 33 },
  { cls := 42, slots := #[], vm := .none },
  { cls := 42, slots := #[], vm := .none },
  { cls := 43, slots := #[], vm := .none },
  { cls := 34, slots := #[.int 0], vm := .none },
  { cls := 44, slots := #[], vm := .none }]
def classes : Array Class := #[k0, k1, k2, k3, k4, k5, k6, k7, k8, k9, k10, k11, k12, k13, k14, k15, k16, k17, k18, k19, k20, k21, k22, k23, k24, k25, k26, k27, k28, k29, k30, k31, k32, k33, k34, k35, k36, k37, k38, k39, k40, k41, k42, k43, k44]
def interned : List (Array UInt16 × Addr) := []
def slotsUsed : Nat := 40
def theMethod : MethodId := ⟨1, 3⟩
def args0 : Array Value := #[.int 4259905, .int 66, .int 67, .int 22]
def aboutOver (below : List Frame) : State where
  vm := { classes := classes, interned := interned.toArray }
  heap := heap
  slotsUsed := slotsUsed
  threads := #[{ frames := .invoking theMethod args0 :: below }]
def below0 : List Frame := [.native { method := ⟨0, 0⟩, args := #[] }]
def about1 : State := aboutOver below0
def p0 : Program := .bare "" "" ""
def e0 : Env := launch0.env 0 0 0
theorem w_frames : about1.frames = Frame.invoking theMethod args0 :: below0 := rfl
set_option maxRecDepth 65536 in
theorem w_args : argsFit about1.vm theMethod args0 = true := by decide +kernel
set_option maxRecDepth 65536 in
theorem w_heap : heapFits about1 = true := by decide +kernel
set_option maxRecDepth 65536 in
theorem w_runnable : about1.curStatus? = some .runnable := by decide +kernel
set_option maxRecDepth 65536 in
theorem w_alone : about1.alone = true := by decide +kernel
set_option maxRecDepth 65536 in
theorem w_named : about1.methodNamed? x = some theMethod := by decide +kernel
set_option maxRecDepth 65536 in
theorem w_hears : about1.hears theMethod below0 = true := by decide +kernel
set_option maxRecDepth 65536 in
theorem w_ripe : about1.ripe theMethod args0 below0 = true := by decide +kernel
theorem w_running : about1.status = .running := rfl
set_option maxRecDepth 65536 in
theorem w_room : about1.hasRoom e0.platform room_1 = true :=
  launch0.hasRoom_least _ room_1 (by decide +kernel) (by decide +kernel) (by decide +kernel) (by decide +kernel) (by decide +kernel) (by decide +kernel)
theorem allAtoms_all (ts : List Jvm.Cond) (a : Array Jvm.Value) (st : Jvm.State) : (allAtoms ts).before a st = ts.all (fun c => c.before a st) := by
  induction ts with
  | nil => rfl
  | cons c t ih =>
    show (Jvm.Cond.and c (allAtoms t)).before a st = _
    rw [Jvm.Cond.before_and, ih, List.all_cons]
def words1 : List Jvm.Cond := Jvm.Cond.code x code maxLocals ret :: tables_1
/-- a 'code' word, met by the world's own term for the bytes: nothing is compared byte by byte -/
theorem code_word {y : MethodName} {bytes : ByteArray} {mx : Nat} {rt : Option FieldType} {a : Array Value} {s : State} {m : MethodId} {meth : Method} {c : Code} (h1 : s.methodNamed? y = some m) (h2 : s.vm.method? m = some meth) (h3 : meth.code = some c) (h4 : c.code = bytes)
    (h5 : (c.maxLocals == mx && c.exceptionTable.isEmpty && decide (c.maxStack ≤ mostOperands) && decide (meth.sig.returnType = rt) && !meth.locks && decide (parseMethodDescriptor y.desc = some meth.sig)) = true) : (Jvm.Cond.code y bytes mx rt).before a s = true := by
  simp only [Bool.and_eq_true, beq_iff_eq, Bool.not_eq_true', decide_eq_true_eq] at h5
  obtain ⟨⟨⟨⟨⟨g1, g2⟩, g3⟩, g4⟩, g5⟩, g6⟩ := h5
  simp [Cond.before, Cond.holds, Cond.value, h1, h2, h3, h4, g1, g2, g3, g4, g5, g6]
def isCode : Jvm.Cond → Bool
  | .code _ _ _ _ => true
  | _ => false
theorem all_split {L : List Jvm.Cond} {P : Jvm.Cond → Bool} (h1 : L.all (fun c => isCode c || P c) = true) (h2 : ∀ c ∈ L.filter isCode, P c = true) : L.all P = true := by
  refine List.all_eq_true.mpr fun c hc => ?_
  have h := List.all_eq_true.mp h1 c hc
  rcases Bool.eq_false_or_eq_true (isCode c) with hi | hi
  · exact h2 c (List.mem_filter.mpr ⟨hc, hi⟩)
  · simpa [hi] using h
set_option maxRecDepth 65536 in
theorem w_c0 : (Jvm.Cond.code x code maxLocals ret).before args0 about1 = true := code_word (m := ⟨1, 3⟩) (meth := k1m3) (c := k1c3) (by decide +kernel) rfl rfl rfl (by decide +kernel)
set_option maxRecDepth 65536 in
theorem w_c1 : (Jvm.Cond.code ({ cls := "com/example/arborview/arborview/cli/ArgumentsErrorPinLaw", name := "mk", desc := "(CCI)Ljava/lang/String;" } : Jvm.MethodName) method_2_code (3 : Nat) (Option.some (Jvm.ClassFile.FieldType.object "java/lang/String"))).before args0 about1 = true := code_word (m := ⟨1, 1⟩) (meth := k1m1) (c := k1c1) (by decide +kernel) rfl rfl rfl (by decide +kernel)
set_option maxRecDepth 65536 in
theorem w_c2 : (Jvm.Cond.code ({ cls := "java/lang/String", name := "<init>", desc := "([C)V" } : Jvm.MethodName) jdk_42_method_3_code (2 : Nat) (Option.none : Option Jvm.ClassFile.FieldType)).before args0 about1 = true := code_word (m := ⟨7, 1⟩) (meth := k7m1) (c := k7c1) (by decide +kernel) rfl rfl rfl (by decide +kernel)
set_option maxRecDepth 65536 in
theorem w_c3 : (Jvm.Cond.code ({ cls := "java/lang/String", name := "<init>", desc := "([CIILjava/lang/Void;)V" } : Jvm.MethodName) jdk_42_method_149_code (6 : Nat) (Option.none : Option Jvm.ClassFile.FieldType)).before args0 about1 = true := code_word (m := ⟨7, 6⟩) (meth := k7m6) (c := k7c6) (by decide +kernel) rfl rfl rfl (by decide +kernel)
set_option maxRecDepth 65536 in
theorem w_c4 : (Jvm.Cond.code ({ cls := "java/lang/Object", name := "<init>", desc := "()V" } : Jvm.MethodName) object_method_1_code (1 : Nat) (Option.none : Option Jvm.ClassFile.FieldType)).before args0 about1 = true := code_word (m := ⟨0, 0⟩) (meth := k0m0) (c := k0c0) (by decide +kernel) rfl rfl rfl (by decide +kernel)
set_option maxRecDepth 65536 in
theorem w_c5 : (Jvm.Cond.code ({ cls := "java/lang/StringUTF16", name := "compress", desc := "([CII)[B" } : Jvm.MethodName) jdk_52_method_16_code (6 : Nat) (Option.some (Jvm.ClassFile.FieldType.array Jvm.ClassFile.FieldType.byte))).before args0 about1 = true := code_word (m := ⟨8, 8⟩) (meth := k8m8) (c := k8c8) (by decide +kernel) rfl rfl rfl (by decide +kernel)
set_option maxRecDepth 65536 in
theorem w_c6 : (Jvm.Cond.code ({ cls := "java/lang/StringUTF16", name := "compress", desc := "([CI[BII)I" } : Jvm.MethodName) jdk_52_method_21_code (7 : Nat) (Option.some Jvm.ClassFile.FieldType.int)).before args0 about1 = true := code_word (m := ⟨8, 9⟩) (meth := k8m9) (c := k8c9) (by decide +kernel) rfl rfl rfl (by decide +kernel)
set_option maxRecDepth 65536 in
theorem w_c7 : (Jvm.Cond.code ({ cls := "java/lang/StringUTF16", name := "coderFromArrayLen", desc := "([BI)B" } : Jvm.MethodName) jdk_52_method_15_code (2 : Nat) (Option.some Jvm.ClassFile.FieldType.byte)).before args0 about1 = true := code_word (m := ⟨8, 7⟩) (meth := k8m7) (c := k8c7) (by decide +kernel) rfl rfl rfl (by decide +kernel)
set_option maxRecDepth 65536 in
theorem w_c8 : (Jvm.Cond.code ({ cls := "java/util/ArrayList", name := "<init>", desc := "()V" } : Jvm.MethodName) jdk_38_method_2_code (1 : Nat) (Option.none : Option Jvm.ClassFile.FieldType)).before args0 about1 = true := code_word (m := ⟨18, 0⟩) (meth := k18m0) (c := k18c0) (by decide +kernel) rfl rfl rfl (by decide +kernel)
set_option maxRecDepth 65536 in
theorem w_c9 : (Jvm.Cond.code ({ cls := "java/util/AbstractList", name := "<init>", desc := "()V" } : Jvm.MethodName) jdk_39_method_1_code (1 : Nat) (Option.none : Option Jvm.ClassFile.FieldType)).before args0 about1 = true := code_word (m := ⟨15, 0⟩) (meth := k15m0) (c := k15c0) (by decide +kernel) rfl rfl rfl (by decide +kernel)
set_option maxRecDepth 65536 in
theorem w_c10 : (Jvm.Cond.code ({ cls := "java/util/AbstractCollection", name := "<init>", desc := "()V" } : Jvm.MethodName) jdk_22_method_1_code (1 : Nat) (Option.none : Option Jvm.ClassFile.FieldType)).before args0 about1 = true := code_word (m := ⟨12, 0⟩) (meth := k12m0) (c := k12c0) (by decide +kernel) rfl rfl rfl (by decide +kernel)
set_option maxRecDepth 65536 in
theorem w_c11 : (Jvm.Cond.code ({ cls := "com/example/arborview/arborview/cli/Arguments", name := "<init>", desc := "(Ljava/lang/String;Ljava/lang/String;Ljava/util/List;)V" } : Jvm.MethodName) prog_25_method_1_code (4 : Nat) (Option.none : Option Jvm.ClassFile.FieldType)).before args0 about1 = true := code_word (m := ⟨9, 0⟩) (meth := k9m0) (c := k9c0) (by decide +kernel) rfl rfl rfl (by decide +kernel)
set_option maxRecDepth 65536 in
theorem w_c12 : (Jvm.Cond.code ({ cls := "java/util/ArrayList", name := "iterator", desc := "()Ljava/util/Iterator;" } : Jvm.MethodName) jdk_38_method_55_code (1 : Nat) (Option.some (Jvm.ClassFile.FieldType.object "java/util/Iterator"))).before args0 about1 = true := code_word (m := ⟨18, 1⟩) (meth := k18m1) (c := k18c1) (by decide +kernel) rfl rfl rfl (by decide +kernel)
set_option maxRecDepth 65536 in
theorem w_c13 : (Jvm.Cond.code ({ cls := "java/util/ArrayList$Itr", name := "<init>", desc := "(Ljava/util/ArrayList;)V" } : Jvm.MethodName) jdk_49_method_1_code (2 : Nat) (Option.none : Option Jvm.ClassFile.FieldType)).before args0 about1 = true := code_word (m := ⟨20, 0⟩) (meth := k20m0) (c := k20c0) (by decide +kernel) rfl rfl rfl (by decide +kernel)
set_option maxRecDepth 65536 in
theorem w_c14 : (Jvm.Cond.code ({ cls := "com/example/arborview/arborview/cli/Arguments", name := "error", desc := "(Ljava/lang/String;)Lcom/example/arborview/arborview/cli/CommandException;" } : Jvm.MethodName) prog_25_method_7_code (2 : Nat) (Option.some (Jvm.ClassFile.FieldType.object "com/example/arborview/arborview/cli/CommandException"))).before args0 about1 = true := code_word (m := ⟨9, 1⟩) (meth := k9m1) (c := k9c1) (by decide +kernel) rfl rfl rfl (by decide +kernel)
set_option maxRecDepth 65536 in
theorem w_c15 : (Jvm.Cond.code ({ cls := "java/lang/StringBuilder", name := "<init>", desc := "()V" } : Jvm.MethodName) jdk_67_method_1_code (1 : Nat) (Option.none : Option Jvm.ClassFile.FieldType)).before args0 about1 = true := code_word (m := ⟨26, 0⟩) (meth := k26m0) (c := k26c0) (by decide +kernel) rfl rfl rfl (by decide +kernel)
set_option maxRecDepth 65536 in
theorem w_c16 : (Jvm.Cond.code ({ cls := "java/lang/AbstractStringBuilder", name := "<init>", desc := "(I)V" } : Jvm.MethodName) jdk_68_method_2_code (2 : Nat) (Option.none : Option Jvm.ClassFile.FieldType)).before args0 about1 = true := code_word (m := ⟨25, 1⟩) (meth := k25m1) (c := k25c1) (by decide +kernel) rfl rfl rfl (by decide +kernel)
set_option maxRecDepth 65536 in
theorem w_c17 : (Jvm.Cond.code ({ cls := "java/lang/StringBuilder", name := "append", desc := "(Ljava/lang/String;)Ljava/lang/StringBuilder;" } : Jvm.MethodName) jdk_67_method_7_code (2 : Nat) (Option.some (Jvm.ClassFile.FieldType.object "java/lang/StringBuilder"))).before args0 about1 = true := code_word (m := ⟨26, 1⟩) (meth := k26m1) (c := k26c1) (by decide +kernel) rfl rfl rfl (by decide +kernel)
set_option maxRecDepth 65536 in
theorem w_c18 : (Jvm.Cond.code ({ cls := "java/lang/AbstractStringBuilder", name := "append", desc := "(Ljava/lang/String;)Ljava/lang/AbstractStringBuilder;" } : Jvm.MethodName) jdk_68_method_22_code (3 : Nat) (Option.some (Jvm.ClassFile.FieldType.object "java/lang/AbstractStringBuilder"))).before args0 about1 = true := code_word (m := ⟨25, 5⟩) (meth := k25m5) (c := k25c5) (by decide +kernel) rfl rfl rfl (by decide +kernel)
set_option maxRecDepth 65536 in
theorem w_c19 : (Jvm.Cond.code ({ cls := "java/lang/String", name := "length", desc := "()I" } : Jvm.MethodName) jdk_42_method_54_code (1 : Nat) (Option.some Jvm.ClassFile.FieldType.int)).before args0 about1 = true := code_word (m := ⟨7, 3⟩) (meth := k7m3) (c := k7c3) (by decide +kernel) rfl rfl rfl (by decide +kernel)
set_option maxRecDepth 65536 in
theorem w_c20 : (Jvm.Cond.code ({ cls := "java/lang/String", name := "coder", desc := "()B" } : Jvm.MethodName) jdk_42_method_152_code (1 : Nat) (Option.some Jvm.ClassFile.FieldType.byte)).before args0 about1 = true := code_word (m := ⟨7, 8⟩) (meth := k7m8) (c := k7c8) (by decide +kernel) rfl rfl rfl (by decide +kernel)
set_option maxRecDepth 65536 in
theorem w_c21 : (Jvm.Cond.code ({ cls := "java/lang/AbstractStringBuilder", name := "ensureCapacityInternal", desc := "(I)V" } : Jvm.MethodName) jdk_68_method_9_code (3 : Nat) (Option.none : Option Jvm.ClassFile.FieldType)).before args0 about1 = true := code_word (m := ⟨25, 3⟩) (meth := k25m3) (c := k25c3) (by decide +kernel) rfl rfl rfl (by decide +kernel)
set_option maxRecDepth 65536 in
theorem w_c22 : (Jvm.Cond.code ({ cls := "java/lang/AbstractStringBuilder", name := "putStringAt", desc := "(ILjava/lang/String;)V" } : Jvm.MethodName) jdk_68_method_73_code (3 : Nat) (Option.none : Option Jvm.ClassFile.FieldType)).before args0 about1 = true := code_word (m := ⟨25, 9⟩) (meth := k25m9) (c := k25c9) (by decide +kernel) rfl rfl rfl (by decide +kernel)
set_option maxRecDepth 65536 in
theorem w_c23 : (Jvm.Cond.code ({ cls := "java/lang/AbstractStringBuilder", name := "inflateIfNeededFor", desc := "(Ljava/lang/String;)V" } : Jvm.MethodName) jdk_68_method_71_code (2 : Nat) (Option.none : Option Jvm.ClassFile.FieldType)).before args0 about1 = true := code_word (m := ⟨25, 8⟩) (meth := k25m8) (c := k25c8) (by decide +kernel) rfl rfl rfl (by decide +kernel)
set_option maxRecDepth 65536 in
theorem w_c24 : (Jvm.Cond.code ({ cls := "java/lang/String", name := "getBytes", desc := "([BIB)V" } : Jvm.MethodName) jdk_42_method_147_code (4 : Nat) (Option.none : Option Jvm.ClassFile.FieldType)).before args0 about1 = true := code_word (m := ⟨7, 5⟩) (meth := k7m5) (c := k7c5) (by decide +kernel) rfl rfl rfl (by decide +kernel)
set_option maxRecDepth 65536 in
theorem w_c25 : (Jvm.Cond.code ({ cls := "java/lang/StringBuilder", name := "toString", desc := "()Ljava/lang/String;" } : Jvm.MethodName) jdk_67_method_42_code (1 : Nat) (Option.some (Jvm.ClassFile.FieldType.object "java/lang/String"))).before args0 about1 = true := code_word (m := ⟨26, 2⟩) (meth := k26m2) (c := k26c2) (by decide +kernel) rfl rfl rfl (by decide +kernel)
set_option maxRecDepth 65536 in
theorem w_c26 : (Jvm.Cond.code ({ cls := "java/lang/String", name := "<init>", desc := "(Ljava/lang/StringBuilder;)V" } : Jvm.MethodName) jdk_42_method_53_code (2 : Nat) (Option.none : Option Jvm.ClassFile.FieldType)).before args0 about1 = true := code_word (m := ⟨7, 2⟩) (meth := k7m2) (c := k7c2) (by decide +kernel) rfl rfl rfl (by decide +kernel)
set_option maxRecDepth 65536 in
theorem w_c27 : (Jvm.Cond.code ({ cls := "java/lang/String", name := "<init>", desc := "(Ljava/lang/AbstractStringBuilder;Ljava/lang/Void;)V" } : Jvm.MethodName) jdk_42_method_150_code (5 : Nat) (Option.none : Option Jvm.ClassFile.FieldType)).before args0 about1 = true := code_word (m := ⟨7, 7⟩) (meth := k7m7) (c := k7c7) (by decide +kernel) rfl rfl rfl (by decide +kernel)
set_option maxRecDepth 65536 in
theorem w_c28 : (Jvm.Cond.code ({ cls := "java/lang/AbstractStringBuilder", name := "getValue", desc := "()[B" } : Jvm.MethodName) jdk_68_method_64_code (1 : Nat) (Option.some (Jvm.ClassFile.FieldType.array Jvm.ClassFile.FieldType.byte))).before args0 about1 = true := code_word (m := ⟨25, 6⟩) (meth := k25m6) (c := k25c6) (by decide +kernel) rfl rfl rfl (by decide +kernel)
set_option maxRecDepth 65536 in
theorem w_c29 : (Jvm.Cond.code ({ cls := "java/lang/StringBuilder", name := "length", desc := "()I" } : Jvm.MethodName) jdk_67_method_93_code (1 : Nat) (Option.some Jvm.ClassFile.FieldType.int)).before args0 about1 = true := code_word (m := ⟨26, 3⟩) (meth := k26m3) (c := k26c3) (by decide +kernel) rfl rfl rfl (by decide +kernel)
set_option maxRecDepth 65536 in
theorem w_c30 : (Jvm.Cond.code ({ cls := "java/lang/AbstractStringBuilder", name := "length", desc := "()I" } : Jvm.MethodName) jdk_68_method_6_code (1 : Nat) (Option.some Jvm.ClassFile.FieldType.int)).before args0 about1 = true := code_word (m := ⟨25, 2⟩) (meth := k25m2) (c := k25c2) (by decide +kernel) rfl rfl rfl (by decide +kernel)
set_option maxRecDepth 65536 in
theorem w_c31 : (Jvm.Cond.code ({ cls := "java/lang/AbstractStringBuilder", name := "isLatin1", desc := "()Z" } : Jvm.MethodName) jdk_68_method_68_code (1 : Nat) (Option.some Jvm.ClassFile.FieldType.boolean)).before args0 about1 = true := code_word (m := ⟨25, 7⟩) (meth := k25m7) (c := k25c7) (by decide +kernel) rfl rfl rfl (by decide +kernel)
set_option maxRecDepth 65536 in
theorem w_c32 : (Jvm.Cond.code ({ cls := "java/util/Arrays", name := "copyOfRange", desc := "([BII)[B" } : Jvm.MethodName) jdk_65_method_132_code (3 : Nat) (Option.some (Jvm.ClassFile.FieldType.array Jvm.ClassFile.FieldType.byte))).before args0 about1 = true := code_word (m := ⟨28, 2⟩) (meth := k28m2) (c := k28c2) (by decide +kernel) rfl rfl rfl (by decide +kernel)
set_option maxRecDepth 65536 in
theorem w_c33 : (Jvm.Cond.code ({ cls := "java/util/Arrays", name := "copyOfRangeByte", desc := "([BII)[B" } : Jvm.MethodName) jdk_65_method_133_code (5 : Nat) (Option.some (Jvm.ClassFile.FieldType.array Jvm.ClassFile.FieldType.byte))).before args0 about1 = true := code_word (m := ⟨28, 3⟩) (meth := k28m3) (c := k28c3) (by decide +kernel) rfl rfl rfl (by decide +kernel)
set_option maxRecDepth 65536 in
theorem w_c34 : (Jvm.Cond.code ({ cls := "java/util/Arrays", name := "checkLength", desc := "(II)V" } : Jvm.MethodName) jdk_65_method_131_code (2 : Nat) (Option.none : Option Jvm.ClassFile.FieldType)).before args0 about1 = true := code_word (m := ⟨28, 1⟩) (meth := k28m1) (c := k28c1) (by decide +kernel) rfl rfl rfl (by decide +kernel)
set_option maxRecDepth 65536 in
theorem w_c35 : (Jvm.Cond.code ({ cls := "java/lang/Math", name := "min", desc := "(II)I" } : Jvm.MethodName) jdk_29_method_69_code (2 : Nat) (Option.some Jvm.ClassFile.FieldType.int)).before args0 about1 = true := code_word (m := ⟨29, 1⟩) (meth := k29m1) (c := k29c1) (by decide +kernel) rfl rfl rfl (by decide +kernel)
set_option maxRecDepth 65536 in
theorem w_c36 : (Jvm.Cond.code ({ cls := "com/example/arborview/arborview/cli/CommandException", name := "<init>", desc := "(Ljava/lang/String;)V" } : Jvm.MethodName) prog_32_method_1_code (2 : Nat) (Option.none : Option Jvm.ClassFile.FieldType)).before args0 about1 = true := code_word (m := ⟨23, 0⟩) (meth := k23m0) (c := k23c0) (by decide +kernel) rfl rfl rfl (by decide +kernel)
set_option maxRecDepth 65536 in
theorem w_c37 : (Jvm.Cond.code ({ cls := "java/lang/Exception", name := "<init>", desc := "(Ljava/lang/String;)V" } : Jvm.MethodName) jdk_59_method_2_code (2 : Nat) (Option.none : Option Jvm.ClassFile.FieldType)).before args0 about1 = true := code_word (m := ⟨22, 1⟩) (meth := k22m1) (c := k22c1) (by decide +kernel) rfl rfl rfl (by decide +kernel)
set_option maxRecDepth 65536 in
theorem w_c38 : (Jvm.Cond.code ({ cls := "java/lang/Throwable", name := "<init>", desc := "(Ljava/lang/String;)V" } : Jvm.MethodName) jdk_78_method_2_code (2 : Nat) (Option.none : Option Jvm.ClassFile.FieldType)).before args0 about1 = true := code_word (m := ⟨21, 1⟩) (meth := k21m1) (c := k21c1) (by decide +kernel) rfl rfl rfl (by decide +kernel)
set_option maxRecDepth 65536 in
theorem w_c39 : (Jvm.Cond.code ({ cls := "java/lang/Throwable", name := "<init>", desc := "()V" } : Jvm.MethodName) jdk_78_method_1_code (1 : Nat) (Option.none : Option Jvm.ClassFile.FieldType)).before args0 about1 = true := code_word (m := ⟨21, 0⟩) (meth := k21m0) (c := k21c0) (by decide +kernel) rfl rfl rfl (by decide +kernel)
set_option maxRecDepth 65536 in
theorem w_c40 : (Jvm.Cond.code ({ cls := "java/lang/Throwable", name := "getMessage", desc := "()Ljava/lang/String;" } : Jvm.MethodName) jdk_78_method_6_code (1 : Nat) (Option.some (Jvm.ClassFile.FieldType.object "java/lang/String"))).before args0 about1 = true := code_word (m := ⟨21, 2⟩) (meth := k21m2) (c := k21c2) (by decide +kernel) rfl rfl rfl (by decide +kernel)
set_option maxRecDepth 65536 in
theorem w_c41 : (Jvm.Cond.code ({ cls := "com/example/arborview/arborview/cli/ArgumentsErrorPinLaw", name := "put", desc := "([CIICC)I" } : Jvm.MethodName) method_3_code (5 : Nat) (Option.some Jvm.ClassFile.FieldType.int)).before args0 about1 = true := code_word (m := ⟨1, 2⟩) (meth := k1m2) (c := k1c2) (by decide +kernel) rfl rfl rfl (by decide +kernel)
set_option maxRecDepth 65536 in
theorem w_c42 : (Jvm.Cond.code ({ cls := "java/lang/String", name := "equals", desc := "(Ljava/lang/Object;)Z" } : Jvm.MethodName) jdk_42_method_66_code (3 : Nat) (Option.some Jvm.ClassFile.FieldType.boolean)).before args0 about1 = true := code_word (m := ⟨7, 4⟩) (meth := k7m4) (c := k7c4) (by decide +kernel) rfl rfl rfl (by decide +kernel)
set_option maxRecDepth 65536 in
theorem w_c43 : (Jvm.Cond.code ({ cls := "java/lang/StringLatin1", name := "equals", desc := "([B[B)Z" } : Jvm.MethodName) jdk_43_method_13_code (3 : Nat) (Option.some Jvm.ClassFile.FieldType.boolean)).before args0 about1 = true := code_word (m := ⟨30, 1⟩) (meth := k30m1) (c := k30c1) (by decide +kernel) rfl rfl rfl (by decide +kernel)
set_option maxRecDepth 65536 in
theorem w_c44 : (Jvm.Cond.code ({ cls := "java/lang/StringUTF16", name := "toBytes", desc := "([CII)[B" } : Jvm.MethodName) jdk_52_method_14_code (5 : Nat) (Option.some (Jvm.ClassFile.FieldType.array Jvm.ClassFile.FieldType.byte))).before args0 about1 = true := code_word (m := ⟨8, 6⟩) (meth := k8m6) (c := k8c6) (by decide +kernel) rfl rfl rfl (by decide +kernel)
set_option maxRecDepth 65536 in
theorem w_c45 : (Jvm.Cond.code ({ cls := "java/lang/StringUTF16", name := "newBytesFor", desc := "(I)[B" } : Jvm.MethodName) jdk_52_method_2_code (1 : Nat) (Option.some (Jvm.ClassFile.FieldType.array Jvm.ClassFile.FieldType.byte))).before args0 about1 = true := code_word (m := ⟨8, 1⟩) (meth := k8m1) (c := k8c1) (by decide +kernel) rfl rfl rfl (by decide +kernel)
set_option maxRecDepth 65536 in
theorem w_c46 : (Jvm.Cond.code ({ cls := "java/lang/StringUTF16", name := "newBytesLength", desc := "(I)I" } : Jvm.MethodName) jdk_52_method_3_code (1 : Nat) (Option.some Jvm.ClassFile.FieldType.int)).before args0 about1 = true := code_word (m := ⟨8, 2⟩) (meth := k8m2) (c := k8c2) (by decide +kernel) rfl rfl rfl (by decide +kernel)
set_option maxRecDepth 65536 in
theorem w_c47 : (Jvm.Cond.code ({ cls := "java/lang/StringUTF16", name := "putChar", desc := "([BII)V" } : Jvm.MethodName) jdk_52_method_4_code (3 : Nat) (Option.none : Option Jvm.ClassFile.FieldType)).before args0 about1 = true := code_word (m := ⟨8, 3⟩) (meth := k8m3) (c := k8c3) (by decide +kernel) rfl rfl rfl (by decide +kernel)
set_option maxRecDepth 65536 in
theorem w_c48 : (Jvm.Cond.code ({ cls := "java/lang/StringUTF16", name := "getChar", desc := "([BI)C" } : Jvm.MethodName) jdk_52_method_5_code (2 : Nat) (Option.some Jvm.ClassFile.FieldType.char)).before args0 about1 = true := code_word (m := ⟨8, 4⟩) (meth := k8m4) (c := k8c4) (by decide +kernel) rfl rfl rfl (by decide +kernel)
set_option maxRecDepth 65536 in
theorem w_c49 : (Jvm.Cond.code ({ cls := "java/lang/AbstractStringBuilder", name := "inflate", desc := "()V" } : Jvm.MethodName) jdk_68_method_11_code (2 : Nat) (Option.none : Option Jvm.ClassFile.FieldType)).before args0 about1 = true := code_word (m := ⟨25, 4⟩) (meth := k25m4) (c := k25c4) (by decide +kernel) rfl rfl rfl (by decide +kernel)
set_option maxRecDepth 65536 in
theorem w_c50 : (Jvm.Cond.code ({ cls := "java/lang/StringLatin1", name := "inflate", desc := "([BI[BII)V" } : Jvm.MethodName) jdk_43_method_50_code (5 : Nat) (Option.none : Option Jvm.ClassFile.FieldType)).before args0 about1 = true := code_word (m := ⟨30, 2⟩) (meth := k30m2) (c := k30c2) (by decide +kernel) rfl rfl rfl (by decide +kernel)
set_option maxRecDepth 65536 in
theorem w_c51 : (Jvm.Cond.code ({ cls := "java/lang/StringUTF16", name := "inflate", desc := "([BI[BII)V" } : Jvm.MethodName) jdk_52_method_86_code (6 : Nat) (Option.none : Option Jvm.ClassFile.FieldType)).before args0 about1 = true := code_word (m := ⟨8, 10⟩) (meth := k8m10) (c := k8c10) (by decide +kernel) rfl rfl rfl (by decide +kernel)
set_option maxRecDepth 65536 in
theorem w_c52 : (Jvm.Cond.code ({ cls := "java/lang/StringUTF16", name := "checkBoundsOffCount", desc := "(II[B)V" } : Jvm.MethodName) jdk_52_method_94_code (3 : Nat) (Option.none : Option Jvm.ClassFile.FieldType)).before args0 about1 = true := code_word (m := ⟨8, 11⟩) (meth := k8m11) (c := k8c11) (by decide +kernel) rfl rfl rfl (by decide +kernel)
set_option maxRecDepth 65536 in
theorem w_c53 : (Jvm.Cond.code ({ cls := "java/lang/StringUTF16", name := "length", desc := "([B)I" } : Jvm.MethodName) jdk_52_method_6_code (1 : Nat) (Option.some Jvm.ClassFile.FieldType.int)).before args0 about1 = true := code_word (m := ⟨8, 5⟩) (meth := k8m5) (c := k8c5) (by decide +kernel) rfl rfl rfl (by decide +kernel)
set_option maxRecDepth 65536 in
theorem w_c54 : (Jvm.Cond.code ({ cls := "java/lang/String", name := "checkBoundsOffCount", desc := "(III)I" } : Jvm.MethodName) jdk_42_method_157_code (3 : Nat) (Option.some Jvm.ClassFile.FieldType.int)).before args0 about1 = true := code_word (m := ⟨7, 9⟩) (meth := k7m9) (c := k7c9) (by decide +kernel) rfl rfl rfl (by decide +kernel)
set_option maxRecDepth 65536 in
theorem w_c55 : (Jvm.Cond.code ({ cls := "jdk/internal/util/Preconditions", name := "checkFromIndexSize", desc := "(IIILjava/util/function/BiFunction;)I" } : Jvm.MethodName) jdk_41_method_13_code (4 : Nat) (Option.some Jvm.ClassFile.FieldType.int)).before args0 about1 = true := code_word (m := ⟨31, 1⟩) (meth := k31m1) (c := k31c1) (by decide +kernel) rfl rfl rfl (by decide +kernel)
def codes1 : List Jvm.Cond := [Jvm.Cond.code x code maxLocals ret, Jvm.Cond.code ({ cls := "com/example/arborview/arborview/cli/ArgumentsErrorPinLaw", name := "mk", desc := "(CCI)Ljava/lang/String;" } : Jvm.MethodName) method_2_code (3 : Nat) (Option.some (Jvm.ClassFile.FieldType.object "java/lang/String")), Jvm.Cond.code ({ cls := "java/lang/String", name := "<init>", desc := "([C)V" } : Jvm.MethodName) jdk_42_method_3_code (2 : Nat) (Option.none : Option Jvm.ClassFile.FieldType), Jvm.Cond.code ({ cls := "java/lang/String", name := "<init>", desc := "([CIILjava/lang/Void;)V" } : Jvm.MethodName) jdk_42_method_149_code (6 : Nat) (Option.none : Option Jvm.ClassFile.FieldType), Jvm.Cond.code ({ cls := "java/lang/Object", name := "<init>", desc := "()V" } : Jvm.MethodName) object_method_1_code (1 : Nat) (Option.none : Option Jvm.ClassFile.FieldType), Jvm.Cond.code ({ cls := "java/lang/StringUTF16", name := "compress", desc := "([CII)[B" } : Jvm.MethodName) jdk_52_method_16_code (6 : Nat) (Option.some (Jvm.ClassFile.FieldType.array Jvm.ClassFile.FieldType.byte)), Jvm.Cond.code ({ cls := "java/lang/StringUTF16", name := "compress", desc := "([CI[BII)I" } : Jvm.MethodName) jdk_52_method_21_code (7 : Nat) (Option.some Jvm.ClassFile.FieldType.int), Jvm.Cond.code ({ cls := "java/lang/StringUTF16", name := "coderFromArrayLen", desc := "([BI)B" } : Jvm.MethodName) jdk_52_method_15_code (2 : Nat) (Option.some Jvm.ClassFile.FieldType.byte), Jvm.Cond.code ({ cls := "java/util/ArrayList", name := "<init>", desc := "()V" } : Jvm.MethodName) jdk_38_method_2_code (1 : Nat) (Option.none : Option Jvm.ClassFile.FieldType), Jvm.Cond.code ({ cls := "java/util/AbstractList", name := "<init>", desc := "()V" } : Jvm.MethodName) jdk_39_method_1_code (1 : Nat) (Option.none : Option Jvm.ClassFile.FieldType), Jvm.Cond.code ({ cls := "java/util/AbstractCollection", name := "<init>", desc := "()V" } : Jvm.MethodName) jdk_22_method_1_code (1 : Nat) (Option.none : Option Jvm.ClassFile.FieldType), Jvm.Cond.code ({ cls := "com/example/arborview/arborview/cli/Arguments", name := "<init>", desc := "(Ljava/lang/String;Ljava/lang/String;Ljava/util/List;)V" } : Jvm.MethodName) prog_25_method_1_code (4 : Nat) (Option.none : Option Jvm.ClassFile.FieldType), Jvm.Cond.code ({ cls := "java/util/ArrayList", name := "iterator", desc := "()Ljava/util/Iterator;" } : Jvm.MethodName) jdk_38_method_55_code (1 : Nat) (Option.some (Jvm.ClassFile.FieldType.object "java/util/Iterator")), Jvm.Cond.code ({ cls := "java/util/ArrayList$Itr", name := "<init>", desc := "(Ljava/util/ArrayList;)V" } : Jvm.MethodName) jdk_49_method_1_code (2 : Nat) (Option.none : Option Jvm.ClassFile.FieldType), Jvm.Cond.code ({ cls := "com/example/arborview/arborview/cli/Arguments", name := "error", desc := "(Ljava/lang/String;)Lcom/example/arborview/arborview/cli/CommandException;" } : Jvm.MethodName) prog_25_method_7_code (2 : Nat) (Option.some (Jvm.ClassFile.FieldType.object "com/example/arborview/arborview/cli/CommandException")), Jvm.Cond.code ({ cls := "java/lang/StringBuilder", name := "<init>", desc := "()V" } : Jvm.MethodName) jdk_67_method_1_code (1 : Nat) (Option.none : Option Jvm.ClassFile.FieldType), Jvm.Cond.code ({ cls := "java/lang/AbstractStringBuilder", name := "<init>", desc := "(I)V" } : Jvm.MethodName) jdk_68_method_2_code (2 : Nat) (Option.none : Option Jvm.ClassFile.FieldType), Jvm.Cond.code ({ cls := "java/lang/StringBuilder", name := "append", desc := "(Ljava/lang/String;)Ljava/lang/StringBuilder;" } : Jvm.MethodName) jdk_67_method_7_code (2 : Nat) (Option.some (Jvm.ClassFile.FieldType.object "java/lang/StringBuilder")), Jvm.Cond.code ({ cls := "java/lang/AbstractStringBuilder", name := "append", desc := "(Ljava/lang/String;)Ljava/lang/AbstractStringBuilder;" } : Jvm.MethodName) jdk_68_method_22_code (3 : Nat) (Option.some (Jvm.ClassFile.FieldType.object "java/lang/AbstractStringBuilder")), Jvm.Cond.code ({ cls := "java/lang/String", name := "length", desc := "()I" } : Jvm.MethodName) jdk_42_method_54_code (1 : Nat) (Option.some Jvm.ClassFile.FieldType.int), Jvm.Cond.code ({ cls := "java/lang/String", name := "coder", desc := "()B" } : Jvm.MethodName) jdk_42_method_152_code (1 : Nat) (Option.some Jvm.ClassFile.FieldType.byte), Jvm.Cond.code ({ cls := "java/lang/AbstractStringBuilder", name := "ensureCapacityInternal", desc := "(I)V" } : Jvm.MethodName) jdk_68_method_9_code (3 : Nat) (Option.none : Option Jvm.ClassFile.FieldType), Jvm.Cond.code ({ cls := "java/lang/AbstractStringBuilder", name := "putStringAt", desc := "(ILjava/lang/String;)V" } : Jvm.MethodName) jdk_68_method_73_code (3 : Nat) (Option.none : Option Jvm.ClassFile.FieldType), Jvm.Cond.code ({ cls := "java/lang/AbstractStringBuilder", name := "inflateIfNeededFor", desc := "(Ljava/lang/String;)V" } : Jvm.MethodName) jdk_68_method_71_code (2 : Nat) (Option.none : Option Jvm.ClassFile.FieldType), Jvm.Cond.code ({ cls := "java/lang/String", name := "getBytes", desc := "([BIB)V" } : Jvm.MethodName) jdk_42_method_147_code (4 : Nat) (Option.none : Option Jvm.ClassFile.FieldType), Jvm.Cond.code ({ cls := "java/lang/StringBuilder", name := "toString", desc := "()Ljava/lang/String;" } : Jvm.MethodName) jdk_67_method_42_code (1 : Nat) (Option.some (Jvm.ClassFile.FieldType.object "java/lang/String")), Jvm.Cond.code ({ cls := "java/lang/String", name := "<init>", desc := "(Ljava/lang/StringBuilder;)V" } : Jvm.MethodName) jdk_42_method_53_code (2 : Nat) (Option.none : Option Jvm.ClassFile.FieldType), Jvm.Cond.code ({ cls := "java/lang/String", name := "<init>", desc := "(Ljava/lang/AbstractStringBuilder;Ljava/lang/Void;)V" } : Jvm.MethodName) jdk_42_method_150_code (5 : Nat) (Option.none : Option Jvm.ClassFile.FieldType), Jvm.Cond.code ({ cls := "java/lang/AbstractStringBuilder", name := "getValue", desc := "()[B" } : Jvm.MethodName) jdk_68_method_64_code (1 : Nat) (Option.some (Jvm.ClassFile.FieldType.array Jvm.ClassFile.FieldType.byte)), Jvm.Cond.code ({ cls := "java/lang/StringBuilder", name := "length", desc := "()I" } : Jvm.MethodName) jdk_67_method_93_code (1 : Nat) (Option.some Jvm.ClassFile.FieldType.int), Jvm.Cond.code ({ cls := "java/lang/AbstractStringBuilder", name := "length", desc := "()I" } : Jvm.MethodName) jdk_68_method_6_code (1 : Nat) (Option.some Jvm.ClassFile.FieldType.int), Jvm.Cond.code ({ cls := "java/lang/AbstractStringBuilder", name := "isLatin1", desc := "()Z" } : Jvm.MethodName) jdk_68_method_68_code (1 : Nat) (Option.some Jvm.ClassFile.FieldType.boolean), Jvm.Cond.code ({ cls := "java/util/Arrays", name := "copyOfRange", desc := "([BII)[B" } : Jvm.MethodName) jdk_65_method_132_code (3 : Nat) (Option.some (Jvm.ClassFile.FieldType.array Jvm.ClassFile.FieldType.byte)), Jvm.Cond.code ({ cls := "java/util/Arrays", name := "copyOfRangeByte", desc := "([BII)[B" } : Jvm.MethodName) jdk_65_method_133_code (5 : Nat) (Option.some (Jvm.ClassFile.FieldType.array Jvm.ClassFile.FieldType.byte)), Jvm.Cond.code ({ cls := "java/util/Arrays", name := "checkLength", desc := "(II)V" } : Jvm.MethodName) jdk_65_method_131_code (2 : Nat) (Option.none : Option Jvm.ClassFile.FieldType), Jvm.Cond.code ({ cls := "java/lang/Math", name := "min", desc := "(II)I" } : Jvm.MethodName) jdk_29_method_69_code (2 : Nat) (Option.some Jvm.ClassFile.FieldType.int), Jvm.Cond.code ({ cls := "com/example/arborview/arborview/cli/CommandException", name := "<init>", desc := "(Ljava/lang/String;)V" } : Jvm.MethodName) prog_32_method_1_code (2 : Nat) (Option.none : Option Jvm.ClassFile.FieldType), Jvm.Cond.code ({ cls := "java/lang/Exception", name := "<init>", desc := "(Ljava/lang/String;)V" } : Jvm.MethodName) jdk_59_method_2_code (2 : Nat) (Option.none : Option Jvm.ClassFile.FieldType), Jvm.Cond.code ({ cls := "java/lang/Throwable", name := "<init>", desc := "(Ljava/lang/String;)V" } : Jvm.MethodName) jdk_78_method_2_code (2 : Nat) (Option.none : Option Jvm.ClassFile.FieldType), Jvm.Cond.code ({ cls := "java/lang/Throwable", name := "<init>", desc := "()V" } : Jvm.MethodName) jdk_78_method_1_code (1 : Nat) (Option.none : Option Jvm.ClassFile.FieldType), Jvm.Cond.code ({ cls := "java/lang/Throwable", name := "getMessage", desc := "()Ljava/lang/String;" } : Jvm.MethodName) jdk_78_method_6_code (1 : Nat) (Option.some (Jvm.ClassFile.FieldType.object "java/lang/String")), Jvm.Cond.code ({ cls := "com/example/arborview/arborview/cli/ArgumentsErrorPinLaw", name := "put", desc := "([CIICC)I" } : Jvm.MethodName) method_3_code (5 : Nat) (Option.some Jvm.ClassFile.FieldType.int), Jvm.Cond.code ({ cls := "java/lang/String", name := "equals", desc := "(Ljava/lang/Object;)Z" } : Jvm.MethodName) jdk_42_method_66_code (3 : Nat) (Option.some Jvm.ClassFile.FieldType.boolean), Jvm.Cond.code ({ cls := "java/lang/StringLatin1", name := "equals", desc := "([B[B)Z" } : Jvm.MethodName) jdk_43_method_13_code (3 : Nat) (Option.some Jvm.ClassFile.FieldType.boolean), Jvm.Cond.code ({ cls := "java/lang/StringUTF16", name := "toBytes", desc := "([CII)[B" } : Jvm.MethodName) jdk_52_method_14_code (5 : Nat) (Option.some (Jvm.ClassFile.FieldType.array Jvm.ClassFile.FieldType.byte)), Jvm.Cond.code ({ cls := "java/lang/StringUTF16", name := "newBytesFor", desc := "(I)[B" } : Jvm.MethodName) jdk_52_method_2_code (1 : Nat) (Option.some (Jvm.ClassFile.FieldType.array Jvm.ClassFile.FieldType.byte)), Jvm.Cond.code ({ cls := "java/lang/StringUTF16", name := "newBytesLength", desc := "(I)I" } : Jvm.MethodName) jdk_52_method_3_code (1 : Nat) (Option.some Jvm.ClassFile.FieldType.int), Jvm.Cond.code ({ cls := "java/lang/StringUTF16", name := "putChar", desc := "([BII)V" } : Jvm.MethodName) jdk_52_method_4_code (3 : Nat) (Option.none : Option Jvm.ClassFile.FieldType), Jvm.Cond.code ({ cls := "java/lang/StringUTF16", name := "getChar", desc := "([BI)C" } : Jvm.MethodName) jdk_52_method_5_code (2 : Nat) (Option.some Jvm.ClassFile.FieldType.char), Jvm.Cond.code ({ cls := "java/lang/AbstractStringBuilder", name := "inflate", desc := "()V" } : Jvm.MethodName) jdk_68_method_11_code (2 : Nat) (Option.none : Option Jvm.ClassFile.FieldType), Jvm.Cond.code ({ cls := "java/lang/StringLatin1", name := "inflate", desc := "([BI[BII)V" } : Jvm.MethodName) jdk_43_method_50_code (5 : Nat) (Option.none : Option Jvm.ClassFile.FieldType), Jvm.Cond.code ({ cls := "java/lang/StringUTF16", name := "inflate", desc := "([BI[BII)V" } : Jvm.MethodName) jdk_52_method_86_code (6 : Nat) (Option.none : Option Jvm.ClassFile.FieldType), Jvm.Cond.code ({ cls := "java/lang/StringUTF16", name := "checkBoundsOffCount", desc := "(II[B)V" } : Jvm.MethodName) jdk_52_method_94_code (3 : Nat) (Option.none : Option Jvm.ClassFile.FieldType), Jvm.Cond.code ({ cls := "java/lang/StringUTF16", name := "length", desc := "([B)I" } : Jvm.MethodName) jdk_52_method_6_code (1 : Nat) (Option.some Jvm.ClassFile.FieldType.int), Jvm.Cond.code ({ cls := "java/lang/String", name := "checkBoundsOffCount", desc := "(III)I" } : Jvm.MethodName) jdk_42_method_157_code (3 : Nat) (Option.some Jvm.ClassFile.FieldType.int), Jvm.Cond.code ({ cls := "jdk/internal/util/Preconditions", name := "checkFromIndexSize", desc := "(IIILjava/util/function/BiFunction;)I" } : Jvm.MethodName) jdk_41_method_13_code (4 : Nat) (Option.some Jvm.ClassFile.FieldType.int)]
set_option maxRecDepth 65536 in
theorem codes_eq : words1.filter isCode = codes1 := rfl
theorem w_codes : ∀ c ∈ words1.filter isCode, c.before args0 about1 = true := by
  rw [codes_eq]
  intro c hc
  simp only [codes1, List.mem_cons, List.not_mem_nil, or_false] at hc
  rcases hc with rfl | rfl | rfl | rfl | rfl | rfl | rfl | rfl | rfl | rfl | rfl | rfl | rfl | rfl | rfl | rfl | rfl | rfl | rfl | rfl | rfl | rfl | rfl | rfl | rfl | rfl | rfl | rfl | rfl | rfl | rfl | rfl | rfl | rfl | rfl | rfl | rfl | rfl | rfl | rfl | rfl | rfl | rfl | rfl | rfl | rfl | rfl | rfl | rfl | rfl | rfl | rfl | rfl | rfl | rfl | rfl
  · exact w_c0
  · exact w_c1
  · exact w_c2
  · exact w_c3
  · exact w_c4
  · exact w_c5
  · exact w_c6
  · exact w_c7
  · exact w_c8
  · exact w_c9
  · exact w_c10
  · exact w_c11
  · exact w_c12
  · exact w_c13
  · exact w_c14
  · exact w_c15
  · exact w_c16
  · exact w_c17
  · exact w_c18
  · exact w_c19
  · exact w_c20
  · exact w_c21
  · exact w_c22
  · exact w_c23
  · exact w_c24
  · exact w_c25
  · exact w_c26
  · exact w_c27
  · exact w_c28
  · exact w_c29
  · exact w_c30
  · exact w_c31
  · exact w_c32
  · exact w_c33
  · exact w_c34
  · exact w_c35
  · exact w_c36
  · exact w_c37
  · exact w_c38
  · exact w_c39
  · exact w_c40
  · exact w_c41
  · exact w_c42
  · exact w_c43
  · exact w_c44
  · exact w_c45
  · exact w_c46
  · exact w_c47
  · exact w_c48
  · exact w_c49
  · exact w_c50
  · exact w_c51
  · exact w_c52
  · exact w_c53
  · exact w_c54
  · exact w_c55
set_option maxRecDepth 65536 in
theorem w_t1 : (words1.take 24).all (fun c => isCode c || c.before args0 about1) = true := by decide +kernel
set_option maxRecDepth 65536 in
theorem w_t2 : ((words1.drop 24).take 24).all (fun c => isCode c || c.before args0 about1) = true := by decide +kernel
set_option maxRecDepth 65536 in
theorem w_t3 : (((words1.drop 24).drop 24).take 24).all (fun c => isCode c || c.before args0 about1) = true := by decide +kernel
set_option maxRecDepth 65536 in
theorem w_t4 : ((((words1.drop 24).drop 24).drop 24).take 24).all (fun c => isCode c || c.before args0 about1) = true := by decide +kernel
set_option maxRecDepth 65536 in
theorem w_t5 : (((((words1.drop 24).drop 24).drop 24).drop 24).take 24).all (fun c => isCode c || c.before args0 about1) = true := by decide +kernel
set_option maxRecDepth 65536 in
theorem w_t6 : ((((((words1.drop 24).drop 24).drop 24).drop 24).drop 24).take 24).all (fun c => isCode c || c.before args0 about1) = true := by decide +kernel
set_option maxRecDepth 65536 in
theorem w_t7 : (((((((words1.drop 24).drop 24).drop 24).drop 24).drop 24).drop 24).take 24).all (fun c => isCode c || c.before args0 about1) = true := by decide +kernel
set_option maxRecDepth 65536 in
theorem w_t8 : ((((((((words1.drop 24).drop 24).drop 24).drop 24).drop 24).drop 24).drop 24).take 24).all (fun c => isCode c || c.before args0 about1) = true := by decide +kernel
set_option maxRecDepth 65536 in
theorem w_t9 : (((((((((words1.drop 24).drop 24).drop 24).drop 24).drop 24).drop 24).drop 24).drop 24).take 24).all (fun c => isCode c || c.before args0 about1) = true := by decide +kernel
set_option maxRecDepth 65536 in
theorem w_t10 : ((((((((((words1.drop 24).drop 24).drop 24).drop 24).drop 24).drop 24).drop 24).drop 24).drop 24).take 24).all (fun c => isCode c || c.before args0 about1) = true := by decide +kernel
set_option maxRecDepth 65536 in
theorem w_t11 : (((((((((((words1.drop 24).drop 24).drop 24).drop 24).drop 24).drop 24).drop 24).drop 24).drop 24).drop 24).take 24).all (fun c => isCode c || c.before args0 about1) = true := by decide +kernel
set_option maxRecDepth 65536 in
theorem w_t12 : ((((((((((((words1.drop 24).drop 24).drop 24).drop 24).drop 24).drop 24).drop 24).drop 24).drop 24).drop 24).drop 24).take 24).all (fun c => isCode c || c.before args0 about1) = true := by decide +kernel
set_option maxRecDepth 65536 in
theorem w_t13 : (((((((((((((words1.drop 24).drop 24).drop 24).drop 24).drop 24).drop 24).drop 24).drop 24).drop 24).drop 24).drop 24).drop 24).take 24).all (fun c => isCode c || c.before args0 about1) = true := by decide +kernel
set_option maxRecDepth 65536 in
theorem w_t14 : ((((((((((((((words1.drop 24).drop 24).drop 24).drop 24).drop 24).drop 24).drop 24).drop 24).drop 24).drop 24).drop 24).drop 24).drop 24).take 24).all (fun c => isCode c || c.before args0 about1) = true := by decide +kernel
set_option maxRecDepth 65536 in
theorem w_t15 : ((((((((((((((words1.drop 24).drop 24).drop 24).drop 24).drop 24).drop 24).drop 24).drop 24).drop 24).drop 24).drop 24).drop 24).drop 24).drop 24).all (fun c => isCode c || c.before args0 about1) = true := by decide +kernel
theorem w_tables : (allAtoms (Jvm.Cond.code x code maxLocals ret :: tables_1)).before args0 about1 = true := by
  rw [allAtoms_all]
  show words1.all (fun c => c.before args0 about1) = true
  refine all_split ?_ w_codes
  rw [← List.take_append_drop 24 words1, List.all_append, w_t1, ← List.take_append_drop 24 (words1.drop 24), List.all_append, w_t2, ← List.take_append_drop 24 ((words1.drop 24).drop 24), List.all_append, w_t3, ← List.take_append_drop 24 (((words1.drop 24).drop 24).drop 24), List.all_append, w_t4, ← List.take_append_drop 24 ((((words1.drop 24).drop 24).drop 24).drop 24), List.all_append, w_t5, ← List.take_append_drop 24 (((((words1.drop 24).drop 24).drop 24).drop 24).drop 24), List.all_append, w_t6, ← List.take_append_drop 24 ((((((words1.drop 24).drop 24).drop 24).drop 24).drop 24).drop 24), List.all_append, w_t7, ← List.take_append_drop 24 (((((((words1.drop 24).drop 24).drop 24).drop 24).drop 24).drop 24).drop 24), List.all_append, w_t8, ← List.take_append_drop 24 ((((((((words1.drop 24).drop 24).drop 24).drop 24).drop 24).drop 24).drop 24).drop 24), List.all_append, w_t9, ← List.take_append_drop 24 (((((((((words1.drop 24).drop 24).drop 24).drop 24).drop 24).drop 24).drop 24).drop 24).drop 24), List.all_append, w_t10, ← List.take_append_drop 24 ((((((((((words1.drop 24).drop 24).drop 24).drop 24).drop 24).drop 24).drop 24).drop 24).drop 24).drop 24), List.all_append, w_t11, ← List.take_append_drop 24 (((((((((((words1.drop 24).drop 24).drop 24).drop 24).drop 24).drop 24).drop 24).drop 24).drop 24).drop 24).drop 24), List.all_append, w_t12, ← List.take_append_drop 24 ((((((((((((words1.drop 24).drop 24).drop 24).drop 24).drop 24).drop 24).drop 24).drop 24).drop 24).drop 24).drop 24).drop 24), List.all_append, w_t13, ← List.take_append_drop 24 (((((((((((((words1.drop 24).drop 24).drop 24).drop 24).drop 24).drop 24).drop 24).drop 24).drop 24).drop 24).drop 24).drop 24).drop 24), List.all_append, w_t14, w_t15]
  rfl
set_option maxRecDepth 65536 in
theorem w_rest : rest_1_c.before args0 about1 = true := by decide +kernel
set_option maxRecDepth 65536 in
theorem w_case : (Jvm.Cond.and given_1 narrow_1).before args0 about1 = true := by decide +kernel
set_option maxRecDepth 65536 in
theorem w_consts : constsHeld consts_1 about1 := Jvm.Lit.constsHeldB_iff.mp (by decide +kernel)
theorem w_applies : (headSpec (Jvm.Cond.code x code maxLocals ret :: tables_1) room_1).applies x e0.platform about1 = true :=
  (Spec.applies_iff w_frames).mpr ⟨w_running, w_runnable, w_alone, w_named, w_hears, w_ripe, w_room, w_tables⟩
theorem atStart : AtStart classFile x code maxLocals ret World_1 tables_1 room_1 Calls_1 rest_1 Pre_1 launch0 p0 e0 about1 theMethod args0 below0 :=
  ⟨lists_1, trivial, launch0.admits_env _ _ _, launch0.least_env, fairChoices_fair.cas, fairChoices_fair.clock, w_frames, w_args, w_heap, w_applies, ⟨(by decide +kernel : framesKnown about1 = true), ⟨(by decide +kernel : tablesKnown about1 = true), ⟨w_consts, trivial⟩⟩⟩, w_rest, w_case⟩
end start1
theorem witness_1 : WitnessClaimed_1 := ⟨start1.p0, start1.e0, start1.about1, start1.theMethod, start1.args0, start1.below0, start1.atStart⟩
end Jvm.Pilot.@@N@@
