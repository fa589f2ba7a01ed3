import JvmDerived
import JvmDerived.Pilot.@@N@@Statement
import JvmDerived.Pilot.@@N@@Code
set_option linter.unusedVariables false
set_option linter.unusedSimpArgs false
namespace Jvm.Pilot.@@N@@
open Jvm Jvm.ClassFile Sem Op Lib Jvm.Free Jvm.Stand Jvm.LawKit Jvm.RoadKit Bundle Jvm.Pilot.@@N@@.Jvm.D
section OwnWalk
variable {p : Program} {l : Launch} {e : Env} {R : Room} {s : State} {m : MethodId} {args : Array Value} {below : List Frame} {meth : Method} {c : Code} {Z : State} {own : String} {bytes : ByteArray} {ml : Nat} {rt : Option FieldType} {nm : String} {n0 : Nat} {T : State} {h : Heap} {cells slots : Nat} {Q : Option Value → Heap → Prop} {Φ : State → Outcome → Prop} {pc pc' : Nat} {Ls : Array Slot} {rest : List Value} {a0 : Array Value}
/-- where the walk stands: the library's Stand, every place written so far is new (Fr), the heap, and the body's own data -/
def own_St (p : Program) (l : Launch) (e : Env) (R : Room) (s : State) (m : MethodId) (args : Array Value) (below : List Frame) (meth : Method) (c : Code) (Z : State) (own : String) (bytes : ByteArray) (ml : Nat) (rt : Option FieldType) (nm : String) (n0 : Nat) (T : State) (h : Heap) (cells slots : Nat) : Prop :=
  ∃ locs, Stand p l e R s m args below meth c T locs cells slots ∧ Fr n0 locs ∧ T.heap = h ∧ n0 ≤ h.size ∧ p.tables.exec = Jvm.exec ∧ Z.Warmed39 s.vm ∧ s.vm.findClass own = some m.cls ∧ c.code = bytes ∧ c.maxLocals = ml ∧ meth.sig.returnType = rt ∧ meth.locks = false ∧ meth.name = nm
/-- what a return that meets Q leaves -/
def own_Fin (below : List Frame) (s : State) (R : Room) (n0 : Nat) (Q : Option Value → Heap → Prop) : State → Outcome → Prop := fun s₂ o =>
  s₂.status = .running ∧ Ended s₂ below o ∧ ∃ v L, o = .returned v ∧ ((Q v s₂.heap ∧ n0 ≤ s₂.heap.size) ∧ Fr n0 L) ∧ FrameEnd s o s₂ L R.cells R.slots
/-- from frame g over T the run comes to an end that meets Φ -/
def own_Goal (p : Program) (e : Env) (below : List Frame) (Φ : State → Outcome → Prop) (T : State) (g : JFrame) : Prop :=
  ∃ s₂ o, Steps p.tables e below (T.setTop g) s₂ ∧ Φ s₂ o
theorem own_St.le (X : own_St p l e R s m args below meth c Z own bytes ml rt nm n0 T h cells slots) : n0 ≤ h.size := by obtain ⟨_, _, _, _, q, _⟩ := X; exact q
theorem own_step {T' : State} {g g' : JFrame} (f : ∀ t, Steps p.tables e below (T'.setTop g') t → Steps p.tables e below (T.setTop g) t) (k : own_Goal p e below Φ T' g') : own_Goal p e below Φ T g := by
  obtain ⟨s2, o, a, r⟩ := k
  exact ⟨s2, o, f _ a, r⟩
theorem own_cast {g g' : JFrame} (q : g = g') (k : own_Goal p e below Φ T g') : own_Goal p e below Φ T g := q ▸ k
theorem own_pure (X : own_St p l e R s m args below meth c Z own bytes ml rt nm n0 T h cells slots) {g g' : JFrame} (f : ∀ {locs}, Stand p l e R s m args below meth c T locs cells slots → p.tables.exec = Jvm.exec → c.code = bytes → ∀ t, Steps p.tables e below (T.setTop g') t → Steps p.tables e below (T.setTop g) t) (k : own_Goal p e below Φ T g') : own_Goal p e below Φ T g := by
  obtain ⟨locs, X, -, -, -, hx, -, -, hby, -⟩ := X
  exact own_step (f X hx hby) k
theorem own_iconst (X : own_St p l e R s m args below meth c Z own bytes ml rt nm n0 T h cells slots) {i : Int} {v : Int32} (hv : Int32.ofInt i = v) (hd : decode bytes pc = .ok (.iconst i, 1)) (hp : pc + 1 = pc') (k : own_Goal p e below Φ T (mkF m pc' Ls (.int v :: rest))) : own_Goal p e below Φ T (mkF m pc Ls (rest)) := by
  subst hp hv
  exact own_pure X (fun X hx hby _ a => XS.iconst X.here hx rfl (hb hby hd) a) k
theorem own_bipush (X : own_St p l e R s m args below meth c Z own bytes ml rt nm n0 T h cells slots) {i : Int} {v : Int32} (hv : (Int8.ofInt i).toInt32 = v) (hd : decode bytes pc = .ok (.bipush i, 2)) (hp : pc + 2 = pc') (k : own_Goal p e below Φ T (mkF m pc' Ls (.int v :: rest))) : own_Goal p e below Φ T (mkF m pc Ls (rest)) := by
  subst hp hv
  exact own_pure X (fun X hx hby _ a => XS.bipush X.here hx rfl (hb hby hd) a) k
theorem own_sipush (X : own_St p l e R s m args below meth c Z own bytes ml rt nm n0 T h cells slots) {i : Int} {v : Int32} (hv : (Int16.ofInt i).toInt32 = v) (hd : decode bytes pc = .ok (.sipush i, 3)) (hp : pc + 3 = pc') (k : own_Goal p e below Φ T (mkF m pc' Ls (.int v :: rest))) : own_Goal p e below Φ T (mkF m pc Ls (rest)) := by
  subst hp hv
  exact own_pure X (fun X hx hby _ a => XS.sipush X.here hx rfl (hb hby hd) a) k
theorem own_aconst_null (X : own_St p l e R s m args below meth c Z own bytes ml rt nm n0 T h cells slots)  (hd : decode bytes pc = .ok (.aconst_null, 1)) (hp : pc + 1 = pc') (k : own_Goal p e below Φ T (mkF m pc' Ls (.null :: rest))) : own_Goal p e below Φ T (mkF m pc Ls (rest)) := by
  subst hp
  exact own_pure X (fun X hx hby _ a => XS.aconstNull X.here hx rfl (hb hby hd) a) k
theorem own_lconst (X : own_St p l e R s m args below meth c Z own bytes ml rt nm n0 T h cells slots) {k : Fin 2} {v : Int64} (hv : Int64.ofNat k = v) (hd : decode bytes pc = .ok (.lconst k, 1)) (hp : pc + 1 = pc') (k : own_Goal p e below Φ T (mkF m pc' Ls (.long v :: rest))) : own_Goal p e below Φ T (mkF m pc Ls (rest)) := by
  subst hp hv
  exact own_pure X (fun X hx hby _ a => XT.lconst X.here hx rfl (hb hby hd) a) k
theorem own_dconst0 (X : own_St p l e R s m args below meth c Z own bytes ml rt nm n0 T h cells slots) {v : UInt64} (hv : FP.dconst0 = v) (hd : decode bytes pc = .ok (.dconst 0, 1)) (hp : pc + 1 = pc') (k : own_Goal p e below Φ T (mkF m pc' Ls (.double v :: rest))) : own_Goal p e below Φ T (mkF m pc Ls (rest)) := by
  subst hp
  exact own_pure X (fun X hx hby _ a => XS.dconst0 X.here hx rfl (hb hby hd) hv a) k
theorem own_dconst1 (X : own_St p l e R s m args below meth c Z own bytes ml rt nm n0 T h cells slots) {v : UInt64} (hv : FP.dconst1 = v) (hd : decode bytes pc = .ok (.dconst 1, 1)) (hp : pc + 1 = pc') (k : own_Goal p e below Φ T (mkF m pc' Ls (.double v :: rest))) : own_Goal p e below Φ T (mkF m pc Ls (rest)) := by
  subst hp
  exact own_pure X (fun X hx hby _ a => XS.dconst1 X.here hx rfl (hb hby hd) hv a) k
theorem own_iload (X : own_St p l e R s m args below meth c Z own bytes ml rt nm n0 T h cells slots) {k : Nat} {v : Int32} (hl : Ls[k]? = some (.val (.int v))) (hd : decode bytes pc = .ok (.iload k, 2)) (hp : pc + 2 = pc') (k : own_Goal p e below Φ T (mkF m pc' Ls (.int v :: rest))) : own_Goal p e below Φ T (mkF m pc Ls (rest)) := by
  subst hp
  exact own_pure X (fun X hx hby _ a => XS.iload X.here hx rfl (hb hby hd) hl a) k
theorem own_iloadN (X : own_St p l e R s m args below meth c Z own bytes ml rt nm n0 T h cells slots) {k : Fin 4} {v : Int32} (hl : Ls[k.val]? = some (.val (.int v))) (hd : decode bytes pc = .ok (.iload_n k, 1)) (hp : pc + 1 = pc') (k : own_Goal p e below Φ T (mkF m pc' Ls (.int v :: rest))) : own_Goal p e below Φ T (mkF m pc Ls (rest)) := by
  subst hp
  exact own_pure X (fun X hx hby _ a => XS.iloadN X.here hx rfl (hb hby hd) hl a) k
theorem own_istore (X : own_St p l e R s m args below meth c Z own bytes ml rt nm n0 T h cells slots) {k : Nat} {v : Int32} {Ls' : Array Slot} (hl : storeLocals Ls k (.int v) = some Ls') (hd : decode bytes pc = .ok (.istore k, 2)) (hp : pc + 2 = pc') (k : own_Goal p e below Φ T (mkF m pc' Ls' (rest))) : own_Goal p e below Φ T (mkF m pc Ls (.int v :: rest)) := by
  subst hp
  exact own_pure X (fun X hx hby _ a => XS.istore X.here hx rfl (hb hby hd) rfl hl a) k
theorem own_istoreN (X : own_St p l e R s m args below meth c Z own bytes ml rt nm n0 T h cells slots) {k : Fin 4} {v : Int32} {Ls' : Array Slot} (hl : storeLocals Ls k.val (.int v) = some Ls') (hd : decode bytes pc = .ok (.istore_n k, 1)) (hp : pc + 1 = pc') (k : own_Goal p e below Φ T (mkF m pc' Ls' (rest))) : own_Goal p e below Φ T (mkF m pc Ls (.int v :: rest)) := by
  subst hp
  exact own_pure X (fun X hx hby _ a => XS.istoreN X.here hx rfl (hb hby hd) rfl hl a) k
theorem own_lload (X : own_St p l e R s m args below meth c Z own bytes ml rt nm n0 T h cells slots) {k : Nat} {v : Int64} (hl : Ls[k]? = some (.val (.long v))) (hd : decode bytes pc = .ok (.lload k, 2)) (hp : pc + 2 = pc') (k : own_Goal p e below Φ T (mkF m pc' Ls (.long v :: rest))) : own_Goal p e below Φ T (mkF m pc Ls (rest)) := by
  subst hp
  exact own_pure X (fun X hx hby _ a => XT.lload X.here hx rfl (hb hby hd) hl a) k
theorem own_lloadN (X : own_St p l e R s m args below meth c Z own bytes ml rt nm n0 T h cells slots) {k : Fin 4} {v : Int64} (hl : Ls[k.val]? = some (.val (.long v))) (hd : decode bytes pc = .ok (.lload_n k, 1)) (hp : pc + 1 = pc') (k : own_Goal p e below Φ T (mkF m pc' Ls (.long v :: rest))) : own_Goal p e below Φ T (mkF m pc Ls (rest)) := by
  subst hp
  exact own_pure X (fun X hx hby _ a => XT.lloadN X.here hx rfl (hb hby hd) hl a) k
theorem own_lstore (X : own_St p l e R s m args below meth c Z own bytes ml rt nm n0 T h cells slots) {k : Nat} {v : Int64} {Ls' : Array Slot} (hl : storeLocals Ls k (.long v) = some Ls') (hd : decode bytes pc = .ok (.lstore k, 2)) (hp : pc + 2 = pc') (k : own_Goal p e below Φ T (mkF m pc' Ls' (rest))) : own_Goal p e below Φ T (mkF m pc Ls (.long v :: rest)) := by
  subst hp
  exact own_pure X (fun X hx hby _ a => XT.lstore X.here hx rfl (hb hby hd) rfl hl a) k
theorem own_lstoreN (X : own_St p l e R s m args below meth c Z own bytes ml rt nm n0 T h cells slots) {k : Fin 4} {v : Int64} {Ls' : Array Slot} (hl : storeLocals Ls k.val (.long v) = some Ls') (hd : decode bytes pc = .ok (.lstore_n k, 1)) (hp : pc + 1 = pc') (k : own_Goal p e below Φ T (mkF m pc' Ls' (rest))) : own_Goal p e below Φ T (mkF m pc Ls (.long v :: rest)) := by
  subst hp
  exact own_pure X (fun X hx hby _ a => XT.lstoreN X.here hx rfl (hb hby hd) rfl hl a) k
theorem own_dload (X : own_St p l e R s m args below meth c Z own bytes ml rt nm n0 T h cells slots) {k : Nat} {v : UInt64} (hl : Ls[k]? = some (.val (.double v))) (hd : decode bytes pc = .ok (.dload k, 2)) (hp : pc + 2 = pc') (k : own_Goal p e below Φ T (mkF m pc' Ls (.double v :: rest))) : own_Goal p e below Φ T (mkF m pc Ls (rest)) := by
  subst hp
  exact own_pure X (fun X hx hby _ a => XS.dload X.here hx rfl (hb hby hd) hl a) k
theorem own_dloadN (X : own_St p l e R s m args below meth c Z own bytes ml rt nm n0 T h cells slots) {k : Fin 4} {v : UInt64} (hl : Ls[k.val]? = some (.val (.double v))) (hd : decode bytes pc = .ok (.dload_n k, 1)) (hp : pc + 1 = pc') (k : own_Goal p e below Φ T (mkF m pc' Ls (.double v :: rest))) : own_Goal p e below Φ T (mkF m pc Ls (rest)) := by
  subst hp
  exact own_pure X (fun X hx hby _ a => XS.dloadN X.here hx rfl (hb hby hd) hl a) k
theorem own_dstore (X : own_St p l e R s m args below meth c Z own bytes ml rt nm n0 T h cells slots) {k : Nat} {v : UInt64} {Ls' : Array Slot} (hl : storeLocals Ls k (.double v) = some Ls') (hd : decode bytes pc = .ok (.dstore k, 2)) (hp : pc + 2 = pc') (k : own_Goal p e below Φ T (mkF m pc' Ls' (rest))) : own_Goal p e below Φ T (mkF m pc Ls (.double v :: rest)) := by
  subst hp
  exact own_pure X (fun X hx hby _ a => XS.dstore X.here hx rfl (hb hby hd) rfl hl a) k
theorem own_dstoreN (X : own_St p l e R s m args below meth c Z own bytes ml rt nm n0 T h cells slots) {k : Fin 4} {v : UInt64} {Ls' : Array Slot} (hl : storeLocals Ls k.val (.double v) = some Ls') (hd : decode bytes pc = .ok (.dstore_n k, 1)) (hp : pc + 1 = pc') (k : own_Goal p e below Φ T (mkF m pc' Ls' (rest))) : own_Goal p e below Φ T (mkF m pc Ls (.double v :: rest)) := by
  subst hp
  exact own_pure X (fun X hx hby _ a => XS.dstoreN X.here hx rfl (hb hby hd) rfl hl a) k
theorem own_aload (X : own_St p l e R s m args below meth c Z own bytes ml rt nm n0 T h cells slots) {k : Nat} {v : Value} (hl : Ls[k]? = some (.val v)) (hv : v.isRef = true) (hd : decode bytes pc = .ok (.aload k, 2)) (hp : pc + 2 = pc') (k : own_Goal p e below Φ T (mkF m pc' Ls (v :: rest))) : own_Goal p e below Φ T (mkF m pc Ls (rest)) := by
  subst hp
  exact own_pure X (fun X hx hby _ a => XS.aload X.here hx rfl (hb hby hd) hl hv a) k
theorem own_aloadN (X : own_St p l e R s m args below meth c Z own bytes ml rt nm n0 T h cells slots) {k : Fin 4} {v : Value} (hl : Ls[k.val]? = some (.val v)) (hv : v.isRef = true) (hd : decode bytes pc = .ok (.aload_n k, 1)) (hp : pc + 1 = pc') (k : own_Goal p e below Φ T (mkF m pc' Ls (v :: rest))) : own_Goal p e below Φ T (mkF m pc Ls (rest)) := by
  subst hp
  exact own_pure X (fun X hx hby _ a => XS.aloadN X.here hx rfl (hb hby hd) hl hv a) k
theorem own_astore (X : own_St p l e R s m args below meth c Z own bytes ml rt nm n0 T h cells slots) {k : Nat} {v : Value} {Ls' : Array Slot} (hl : storeLocals Ls k v = some Ls') (hv : v.isRef = true) (hd : decode bytes pc = .ok (.astore k, 2)) (hp : pc + 2 = pc') (k : own_Goal p e below Φ T (mkF m pc' Ls' (rest))) : own_Goal p e below Φ T (mkF m pc Ls (v :: rest)) := by
  subst hp
  exact own_pure X (fun X hx hby _ a => XS.astore X.here hx rfl (hb hby hd) rfl hv hl a) k
theorem own_astoreN (X : own_St p l e R s m args below meth c Z own bytes ml rt nm n0 T h cells slots) {k : Fin 4} {v : Value} {Ls' : Array Slot} (hl : storeLocals Ls k.val v = some Ls') (hv : v.isRef = true) (hd : decode bytes pc = .ok (.astore_n k, 1)) (hp : pc + 1 = pc') (k : own_Goal p e below Φ T (mkF m pc' Ls' (rest))) : own_Goal p e below Φ T (mkF m pc Ls (v :: rest)) := by
  subst hp
  exact own_pure X (fun X hx hby _ a => XS.astoreN X.here hx rfl (hb hby hd) rfl hv hl a) k
theorem own_iinc (X : own_St p l e R s m args below meth c Z own bytes ml rt nm n0 T h cells slots) {k : Nat} {i : Int} {x v : Int32} {Ls' : Array Slot} (hl : Ls[k]? = some (.val (.int x))) (hv : x + Int32.ofInt i = v) (hl' : storeLocals Ls k (.int v) = some Ls') (hd : decode bytes pc = .ok (.iinc k i, 3)) (hp : pc + 3 = pc') (k : own_Goal p e below Φ T (mkF m pc' Ls' (rest))) : own_Goal p e below Φ T (mkF m pc Ls (rest)) := by
  subst hp hv
  exact own_pure X (fun X hx hby _ a => XS.iinc X.here hx rfl (hb hby hd) hl hl' a) k
theorem own_iadd (X : own_St p l e R s m args below meth c Z own bytes ml rt nm n0 T h cells slots) {x y v : Int32} (hv : x + y = v) (hd : decode bytes pc = .ok (.iadd, 1)) (hp : pc + 1 = pc') (k : own_Goal p e below Φ T (mkF m pc' Ls (.int v :: rest))) : own_Goal p e below Φ T (mkF m pc Ls (.int y :: .int x :: rest)) := by
  subst hp hv
  exact own_pure X (fun X hx hby _ a => XS.iadd X.here hx rfl (hb hby hd) rfl a) k
theorem own_isub (X : own_St p l e R s m args below meth c Z own bytes ml rt nm n0 T h cells slots) {x y v : Int32} (hv : x - y = v) (hd : decode bytes pc = .ok (.isub, 1)) (hp : pc + 1 = pc') (k : own_Goal p e below Φ T (mkF m pc' Ls (.int v :: rest))) : own_Goal p e below Φ T (mkF m pc Ls (.int y :: .int x :: rest)) := by
  subst hp hv
  exact own_pure X (fun X hx hby _ a => XS.isub X.here hx rfl (hb hby hd) rfl a) k
theorem own_imul (X : own_St p l e R s m args below meth c Z own bytes ml rt nm n0 T h cells slots) {x y v : Int32} (hv : x * y = v) (hd : decode bytes pc = .ok (.imul, 1)) (hp : pc + 1 = pc') (k : own_Goal p e below Φ T (mkF m pc' Ls (.int v :: rest))) : own_Goal p e below Φ T (mkF m pc Ls (.int y :: .int x :: rest)) := by
  subst hp hv
  exact own_pure X (fun X hx hby _ a => XS.imul X.here hx rfl (hb hby hd) rfl a) k
theorem own_iand (X : own_St p l e R s m args below meth c Z own bytes ml rt nm n0 T h cells slots) {x y v : Int32} (hv : x &&& y = v) (hd : decode bytes pc = .ok (.iand, 1)) (hp : pc + 1 = pc') (k : own_Goal p e below Φ T (mkF m pc' Ls (.int v :: rest))) : own_Goal p e below Φ T (mkF m pc Ls (.int y :: .int x :: rest)) := by
  subst hp hv
  exact own_pure X (fun X hx hby _ a => XS.iand X.here hx rfl (hb hby hd) rfl a) k
theorem own_ior (X : own_St p l e R s m args below meth c Z own bytes ml rt nm n0 T h cells slots) {x y v : Int32} (hv : x ||| y = v) (hd : decode bytes pc = .ok (.ior, 1)) (hp : pc + 1 = pc') (k : own_Goal p e below Φ T (mkF m pc' Ls (.int v :: rest))) : own_Goal p e below Φ T (mkF m pc Ls (.int y :: .int x :: rest)) := by
  subst hp hv
  exact own_pure X (fun X hx hby _ a => XT.ior X.here hx rfl (hb hby hd) rfl a) k
theorem own_ixor (X : own_St p l e R s m args below meth c Z own bytes ml rt nm n0 T h cells slots) {x y v : Int32} (hv : x ^^^ y = v) (hd : decode bytes pc = .ok (.ixor, 1)) (hp : pc + 1 = pc') (k : own_Goal p e below Φ T (mkF m pc' Ls (.int v :: rest))) : own_Goal p e below Φ T (mkF m pc Ls (.int y :: .int x :: rest)) := by
  subst hp hv
  exact own_pure X (fun X hx hby _ a => XT.ixor X.here hx rfl (hb hby hd) rfl a) k
theorem own_ishl (X : own_St p l e R s m args below meth c Z own bytes ml rt nm n0 T h cells slots) {x y v : Int32} (hv : x <<< (y &&& 31) = v) (hd : decode bytes pc = .ok (.ishl, 1)) (hp : pc + 1 = pc') (k : own_Goal p e below Φ T (mkF m pc' Ls (.int v :: rest))) : own_Goal p e below Φ T (mkF m pc Ls (.int y :: .int x :: rest)) := by
  subst hp hv
  exact own_pure X (fun X hx hby _ a => XT.ishl X.here hx rfl (hb hby hd) rfl a) k
theorem own_ishr (X : own_St p l e R s m args below meth c Z own bytes ml rt nm n0 T h cells slots) {x y v : Int32} (hv : x >>> (y &&& 31) = v) (hd : decode bytes pc = .ok (.ishr, 1)) (hp : pc + 1 = pc') (k : own_Goal p e below Φ T (mkF m pc' Ls (.int v :: rest))) : own_Goal p e below Φ T (mkF m pc Ls (.int y :: .int x :: rest)) := by
  subst hp hv
  exact own_pure X (fun X hx hby _ a => XT.ishr X.here hx rfl (hb hby hd) rfl a) k
theorem own_iushr (X : own_St p l e R s m args below meth c Z own bytes ml rt nm n0 T h cells slots) {x y v : Int32} (hv : XT.ushr x y = v) (hd : decode bytes pc = .ok (.iushr, 1)) (hp : pc + 1 = pc') (k : own_Goal p e below Φ T (mkF m pc' Ls (.int v :: rest))) : own_Goal p e below Φ T (mkF m pc Ls (.int y :: .int x :: rest)) := by
  subst hp hv
  exact own_pure X (fun X hx hby _ a => XT.iushr X.here hx rfl (hb hby hd) rfl a) k
theorem own_irem (X : own_St p l e R s m args below meth c Z own bytes ml rt nm n0 T h cells slots) {x y v : Int32} (hy : y ≠ 0) (hv : x % y = v) (hd : decode bytes pc = .ok (.irem, 1)) (hp : pc + 1 = pc') (k : own_Goal p e below Φ T (mkF m pc' Ls (.int v :: rest))) : own_Goal p e below Φ T (mkF m pc Ls (.int y :: .int x :: rest)) := by
  subst hp hv
  exact own_pure X (fun X hx hby _ a => iremM X hx rfl (hb hby hd) rfl hy a) k
theorem own_ineg (X : own_St p l e R s m args below meth c Z own bytes ml rt nm n0 T h cells slots) {x v : Int32} (hv : -x = v) (hd : decode bytes pc = .ok (.ineg, 1)) (hp : pc + 1 = pc') (k : own_Goal p e below Φ T (mkF m pc' Ls (.int v :: rest))) : own_Goal p e below Φ T (mkF m pc Ls (.int x :: rest)) := by
  subst hp hv
  exact own_pure X (fun X hx hby _ a => XS.ineg X.here hx rfl (hb hby hd) rfl a) k
theorem own_ladd (X : own_St p l e R s m args below meth c Z own bytes ml rt nm n0 T h cells slots) {x y v : Int64} (hv : x + y = v) (hd : decode bytes pc = .ok (.ladd, 1)) (hp : pc + 1 = pc') (k : own_Goal p e below Φ T (mkF m pc' Ls (.long v :: rest))) : own_Goal p e below Φ T (mkF m pc Ls (.long y :: .long x :: rest)) := by
  subst hp hv
  exact own_pure X (fun X hx hby _ a => XT.ladd X.here hx rfl (hb hby hd) rfl a) k
theorem own_lsub (X : own_St p l e R s m args below meth c Z own bytes ml rt nm n0 T h cells slots) {x y v : Int64} (hv : x - y = v) (hd : decode bytes pc = .ok (.lsub, 1)) (hp : pc + 1 = pc') (k : own_Goal p e below Φ T (mkF m pc' Ls (.long v :: rest))) : own_Goal p e below Φ T (mkF m pc Ls (.long y :: .long x :: rest)) := by
  subst hp hv
  exact own_pure X (fun X hx hby _ a => XT.lsub X.here hx rfl (hb hby hd) rfl a) k
theorem own_lmul (X : own_St p l e R s m args below meth c Z own bytes ml rt nm n0 T h cells slots) {x y v : Int64} (hv : x * y = v) (hd : decode bytes pc = .ok (.lmul, 1)) (hp : pc + 1 = pc') (k : own_Goal p e below Φ T (mkF m pc' Ls (.long v :: rest))) : own_Goal p e below Φ T (mkF m pc Ls (.long y :: .long x :: rest)) := by
  subst hp hv
  exact own_pure X (fun X hx hby _ a => XT.lmul X.here hx rfl (hb hby hd) rfl a) k
theorem own_land (X : own_St p l e R s m args below meth c Z own bytes ml rt nm n0 T h cells slots) {x y v : Int64} (hv : x &&& y = v) (hd : decode bytes pc = .ok (.land, 1)) (hp : pc + 1 = pc') (k : own_Goal p e below Φ T (mkF m pc' Ls (.long v :: rest))) : own_Goal p e below Φ T (mkF m pc Ls (.long y :: .long x :: rest)) := by
  subst hp hv
  exact own_pure X (fun X hx hby _ a => XT.land X.here hx rfl (hb hby hd) rfl a) k
theorem own_lor (X : own_St p l e R s m args below meth c Z own bytes ml rt nm n0 T h cells slots) {x y v : Int64} (hv : x ||| y = v) (hd : decode bytes pc = .ok (.lor, 1)) (hp : pc + 1 = pc') (k : own_Goal p e below Φ T (mkF m pc' Ls (.long v :: rest))) : own_Goal p e below Φ T (mkF m pc Ls (.long y :: .long x :: rest)) := by
  subst hp hv
  exact own_pure X (fun X hx hby _ a => XT.lor X.here hx rfl (hb hby hd) rfl a) k
theorem own_ldiv (X : own_St p l e R s m args below meth c Z own bytes ml rt nm n0 T h cells slots) {x y v : Int64} (hy : y ≠ 0) (hv : x / y = v) (hd : decode bytes pc = .ok (.ldiv, 1)) (hp : pc + 1 = pc') (k : own_Goal p e below Φ T (mkF m pc' Ls (.long v :: rest))) : own_Goal p e below Φ T (mkF m pc Ls (.long y :: .long x :: rest)) := by
  subst hp hv
  exact own_pure X (fun X hx hby _ a => XT.ldiv X.here hx rfl (hb hby hd) rfl hy a) k
theorem own_lrem (X : own_St p l e R s m args below meth c Z own bytes ml rt nm n0 T h cells slots) {x y v : Int64} (hy : y ≠ 0) (hv : x - (x / y) * y = v) (hd : decode bytes pc = .ok (.lrem, 1)) (hp : pc + 1 = pc') (k : own_Goal p e below Φ T (mkF m pc' Ls (.long v :: rest))) : own_Goal p e below Φ T (mkF m pc Ls (.long y :: .long x :: rest)) := by
  subst hp hv
  exact own_pure X (fun X hx hby _ a => XT.lrem X.here hx rfl (hb hby hd) rfl hy a) k
theorem own_lneg (X : own_St p l e R s m args below meth c Z own bytes ml rt nm n0 T h cells slots) {x v : Int64} (hv : -x = v) (hd : decode bytes pc = .ok (.lneg, 1)) (hp : pc + 1 = pc') (k : own_Goal p e below Φ T (mkF m pc' Ls (.long v :: rest))) : own_Goal p e below Φ T (mkF m pc Ls (.long x :: rest)) := by
  subst hp hv
  exact own_pure X (fun X hx hby _ a => XT.lneg X.here hx rfl (hb hby hd) rfl a) k
theorem own_lshl (X : own_St p l e R s m args below meth c Z own bytes ml rt nm n0 T h cells slots) {x v : Int64} {y : Int32} (hv : x <<< (y.toInt64 &&& 63) = v) (hd : decode bytes pc = .ok (.lshl, 1)) (hp : pc + 1 = pc') (k : own_Goal p e below Φ T (mkF m pc' Ls (.long v :: rest))) : own_Goal p e below Φ T (mkF m pc Ls (.int y :: .long x :: rest)) := by
  subst hp hv
  exact own_pure X (fun X hx hby _ a => XT.lshl X.here hx rfl (hb hby hd) rfl a) k
theorem own_lcmp (X : own_St p l e R s m args below meth c Z own bytes ml rt nm n0 T h cells slots) {x y : Int64} {v : Int32} (hv : XT.cmpL x y = v) (hd : decode bytes pc = .ok (.lcmp, 1)) (hp : pc + 1 = pc') (k : own_Goal p e below Φ T (mkF m pc' Ls (.int v :: rest))) : own_Goal p e below Φ T (mkF m pc Ls (.long y :: .long x :: rest)) := by
  subst hp hv
  exact own_pure X (fun X hx hby _ a => XT.lcmp X.here hx rfl (hb hby hd) rfl a) k
theorem own_i2l (X : own_St p l e R s m args below meth c Z own bytes ml rt nm n0 T h cells slots) {x : Int32} {v : Int64} (hv : x.toInt64 = v) (hd : decode bytes pc = .ok (.i2l, 1)) (hp : pc + 1 = pc') (k : own_Goal p e below Φ T (mkF m pc' Ls (.long v :: rest))) : own_Goal p e below Φ T (mkF m pc Ls (.int x :: rest)) := by
  subst hp hv
  exact own_pure X (fun X hx hby _ a => XT.i2l X.here hx rfl (hb hby hd) rfl a) k
theorem own_l2i (X : own_St p l e R s m args below meth c Z own bytes ml rt nm n0 T h cells slots) {x : Int64} {v : Int32} (hv : x.toInt32 = v) (hd : decode bytes pc = .ok (.l2i, 1)) (hp : pc + 1 = pc') (k : own_Goal p e below Φ T (mkF m pc' Ls (.int v :: rest))) : own_Goal p e below Φ T (mkF m pc Ls (.long x :: rest)) := by
  subst hp hv
  exact own_pure X (fun X hx hby _ a => XT.l2i X.here hx rfl (hb hby hd) rfl a) k
theorem own_i2c (X : own_St p l e R s m args below meth c Z own bytes ml rt nm n0 T h cells slots) {x v : Int32} (hv : x.toUInt32.toUInt16.toUInt32.toInt32 = v) (hd : decode bytes pc = .ok (.i2c, 1)) (hp : pc + 1 = pc') (k : own_Goal p e below Φ T (mkF m pc' Ls (.int v :: rest))) : own_Goal p e below Φ T (mkF m pc Ls (.int x :: rest)) := by
  subst hp hv
  exact own_pure X (fun X hx hby _ a => XT.i2c X.here hx rfl (hb hby hd) rfl a) k
theorem own_i2d (X : own_St p l e R s m args below meth c Z own bytes ml rt nm n0 T h cells slots) {x : Int32} {v : UInt64} (hv : FP.i2d x = v) (hd : decode bytes pc = .ok (.i2d, 1)) (hp : pc + 1 = pc') (k : own_Goal p e below Φ T (mkF m pc' Ls (.double v :: rest))) : own_Goal p e below Φ T (mkF m pc Ls (.int x :: rest)) := by
  subst hp
  exact own_pure X (fun X hx hby _ a => XS.i2dS X.here hx rfl (hb hby hd) rfl hv a) k
theorem own_l2d (X : own_St p l e R s m args below meth c Z own bytes ml rt nm n0 T h cells slots) {x : Int64} {v : UInt64} (hv : FP.l2d x = v) (hd : decode bytes pc = .ok (.l2d, 1)) (hp : pc + 1 = pc') (k : own_Goal p e below Φ T (mkF m pc' Ls (.double v :: rest))) : own_Goal p e below Φ T (mkF m pc Ls (.long x :: rest)) := by
  subst hp
  exact own_pure X (fun X hx hby _ a => XS.l2dS X.here hx rfl (hb hby hd) rfl hv a) k
theorem own_dadd (X : own_St p l e R s m args below meth c Z own bytes ml rt nm n0 T h cells slots) {x y v : UInt64} (hv : FP.dadd x y = v) (hn : Jvm.Free.Fl.NoNaN64 v) (hd : decode bytes pc = .ok (.dadd, 1)) (hp : pc + 1 = pc') (k : own_Goal p e below Φ T (mkF m pc' Ls (.double v :: rest))) : own_Goal p e below Φ T (mkF m pc Ls (.double y :: .double x :: rest)) := by
  subst hp
  exact own_pure X (fun X hx hby _ a => XS.daddS X.here hx rfl (hb hby hd) rfl (by rw [hv]; exact hn) hv a) k
theorem own_dsub (X : own_St p l e R s m args below meth c Z own bytes ml rt nm n0 T h cells slots) {x y v : UInt64} (hv : FP.dsub x y = v) (hn : Jvm.Free.Fl.NoNaN64 v) (hd : decode bytes pc = .ok (.dsub, 1)) (hp : pc + 1 = pc') (k : own_Goal p e below Φ T (mkF m pc' Ls (.double v :: rest))) : own_Goal p e below Φ T (mkF m pc Ls (.double y :: .double x :: rest)) := by
  subst hp
  exact own_pure X (fun X hx hby _ a => XS.dsubS X.here hx rfl (hb hby hd) rfl (by rw [hv]; exact hn) hv a) k
theorem own_dmul (X : own_St p l e R s m args below meth c Z own bytes ml rt nm n0 T h cells slots) {x y v : UInt64} (hv : FP.dmul x y = v) (hn : Jvm.Free.Fl.NoNaN64 v) (hd : decode bytes pc = .ok (.dmul, 1)) (hp : pc + 1 = pc') (k : own_Goal p e below Φ T (mkF m pc' Ls (.double v :: rest))) : own_Goal p e below Φ T (mkF m pc Ls (.double y :: .double x :: rest)) := by
  subst hp
  exact own_pure X (fun X hx hby _ a => XS.dmulS X.here hx rfl (hb hby hd) rfl (by rw [hv]; exact hn) hv a) k
theorem own_ddiv (X : own_St p l e R s m args below meth c Z own bytes ml rt nm n0 T h cells slots) {x y v : UInt64} (hv : FP.ddiv x y = v) (hn : Jvm.Free.Fl.NoNaN64 v) (hd : decode bytes pc = .ok (.ddiv, 1)) (hp : pc + 1 = pc') (k : own_Goal p e below Φ T (mkF m pc' Ls (.double v :: rest))) : own_Goal p e below Φ T (mkF m pc Ls (.double y :: .double x :: rest)) := by
  subst hp
  exact own_pure X (fun X hx hby _ a => XS.ddivS X.here hx rfl (hb hby hd) rfl (by rw [hv]; exact hn) hv a) k
theorem own_dneg (X : own_St p l e R s m args below meth c Z own bytes ml rt nm n0 T h cells slots) {x v : UInt64} (hv : FP.dneg x = v) (hd : decode bytes pc = .ok (.dneg, 1)) (hp : pc + 1 = pc') (k : own_Goal p e below Φ T (mkF m pc' Ls (.double v :: rest))) : own_Goal p e below Φ T (mkF m pc Ls (.double x :: rest)) := by
  subst hp
  exact own_pure X (fun X hx hby _ a => XS.dnegS X.here hx rfl (hb hby hd) rfl hv a) k
theorem own_dcmp (X : own_St p l e R s m args below meth c Z own bytes ml rt nm n0 T h cells slots) {o : CmpOp} {x y : UInt64} {v : Int32} (hv : cmpValue (FP.dcmp x y) o = v) (hd : decode bytes pc = .ok (.dcmp o, 1)) (hp : pc + 1 = pc') (k : own_Goal p e below Φ T (mkF m pc' Ls (.int v :: rest))) : own_Goal p e below Φ T (mkF m pc Ls (.double y :: .double x :: rest)) := by
  subst hp
  exact own_pure X (fun X hx hby _ a => XS.dcmpS X.here hx rfl (hb hby hd) rfl hv a) k
theorem own_dremS {tb : Tables} [Ours tb] {e : Env} {below : List Frame} {T target : State} {m : MethodId} {c : Code} {g : JFrame} (h : At T m c below) (hx : tb.exec = Jvm.exec) (hg : g.method = m) {x y v : UInt64} {rest : List Value} (hd : decode c.code g.pc = .ok (.drem, 1)) (hs : g.stack = .double y :: .double x :: rest) (hn : Jvm.Free.Fl.NoNaN64 (FP.drem x y)) (hv : FP.drem x y = v)
    (hr : Steps tb e below (T.setTop { g with pc := g.pc + 1, stack := .double v :: rest }) target) : Steps tb e below (T.setTop g) target := by
  subst hg
  subst hv
  obtain ⟨gm, gp, gl, gs, gk, ge, gr⟩ := g
  simp only at hs hd
  subst hs
  jvm_step h [h.top, hx, hd, Op.drem.at_number h.top hn]
  exact hr
theorem own_drem (X : own_St p l e R s m args below meth c Z own bytes ml rt nm n0 T h cells slots) {x y v : UInt64} (hv : FP.drem x y = v) (hn : Jvm.Free.Fl.NoNaN64 v) (hd : decode bytes pc = .ok (.drem, 1)) (hp : pc + 1 = pc') (k : own_Goal p e below Φ T (mkF m pc' Ls (.double v :: rest))) : own_Goal p e below Φ T (mkF m pc Ls (.double y :: .double x :: rest)) := by
  subst hp
  exact own_pure X (fun X hx hby _ a => own_dremS X.here hx rfl (hb hby hd) rfl (by rw [hv]; exact hn) hv a) k
theorem own_dup (X : own_St p l e R s m args below meth c Z own bytes ml rt nm n0 T h cells slots) {x : Value} (hc : x.category = 1) (hd : decode bytes pc = .ok (.dup, 1)) (hp : pc + 1 = pc') (k : own_Goal p e below Φ T (mkF m pc' Ls (x :: x :: rest))) : own_Goal p e below Φ T (mkF m pc Ls (x :: rest)) := by
  subst hp
  exact own_pure X (fun X hx hby _ a => XS.dup X.here hx rfl (hb hby hd) rfl hc a) k
theorem own_dup2 (X : own_St p l e R s m args below meth c Z own bytes ml rt nm n0 T h cells slots) {x y : Value} (hc : x.category = 1) (hc' : y.category = 1) (hd : decode bytes pc = .ok (.dup2, 1)) (hp : pc + 1 = pc') (k : own_Goal p e below Φ T (mkF m pc' Ls (x :: y :: x :: y :: rest))) : own_Goal p e below Φ T (mkF m pc Ls (x :: y :: rest)) := by
  subst hp
  exact own_pure X (fun X hx hby _ a => XT.dup2 X.here hx rfl (hb hby hd) rfl hc hc' a) k
theorem own_pop (X : own_St p l e R s m args below meth c Z own bytes ml rt nm n0 T h cells slots) {x : Value} (hc : x.category = 1) (hd : decode bytes pc = .ok (.pop, 1)) (hp : pc + 1 = pc') (k : own_Goal p e below Φ T (mkF m pc' Ls (rest))) : own_Goal p e below Φ T (mkF m pc Ls (x :: rest)) := by
  subst hp
  exact own_pure X (fun X hx hby _ a => XT.pop X.here hx rfl (hb hby hd) rfl hc a) k
theorem own_goto (X : own_St p l e R s m args below meth c Z own bytes ml rt nm n0 T h cells slots) {o : Int}  (hd : decode bytes pc = .ok (.goto o, 3)) (ho : 0 ≤ (pc : Int) + o) (hp : ((pc : Int) + o).toNat = pc') (k : own_Goal p e below Φ T (mkF m pc' Ls rest)) : own_Goal p e below Φ T (mkF m pc Ls (rest)) := by
  exact own_pure X (fun X hx hby _ a => XS.goto X.here hx rfl rfl (hb hby hd) ho hp a) k
theorem own_ifT (X : own_St p l e R s m args below meth c Z own bytes ml rt nm n0 T h cells slots) {o : Int} {cd : ClassFile.Cond} {x : Int32} (hc : ifCond.holds cd x = true) (hd : decode bytes pc = .ok (.ifCond cd o, 3)) (ho : 0 ≤ (pc : Int) + o) (hp : ((pc : Int) + o).toNat = pc') (k : own_Goal p e below Φ T (mkF m pc' Ls rest)) : own_Goal p e below Φ T (mkF m pc Ls (.int x :: rest)) := by
  exact own_pure X (fun X hx hby _ a => XS.ifYes X.here hx rfl rfl (hb hby hd) rfl hc ho hp a) k
theorem own_ifF (X : own_St p l e R s m args below meth c Z own bytes ml rt nm n0 T h cells slots) {o : Int} {cd : ClassFile.Cond} {x : Int32} (hc : ifCond.holds cd x = false) (hd : decode bytes pc = .ok (.ifCond cd o, 3)) (hp : pc + 3 = pc') (k : own_Goal p e below Φ T (mkF m pc' Ls rest)) : own_Goal p e below Φ T (mkF m pc Ls (.int x :: rest)) := by
  subst hp
  exact own_pure X (fun X hx hby _ a => XS.ifNo X.here hx rfl (hb hby hd) rfl hc a) k
theorem own_icmpT (X : own_St p l e R s m args below meth c Z own bytes ml rt nm n0 T h cells slots) {o : Int} {cd : ClassFile.Cond} {x y : Int32} (hc : if_icmp.holds cd x y = true) (hd : decode bytes pc = .ok (.if_icmp cd o, 3)) (ho : 0 ≤ (pc : Int) + o) (hp : ((pc : Int) + o).toNat = pc') (k : own_Goal p e below Φ T (mkF m pc' Ls rest)) : own_Goal p e below Φ T (mkF m pc Ls (.int y :: .int x :: rest)) := by
  exact own_pure X (fun X hx hby _ a => XS.icmpYes X.here hx rfl rfl (hb hby hd) rfl hc ho hp a) k
theorem own_icmpF (X : own_St p l e R s m args below meth c Z own bytes ml rt nm n0 T h cells slots) {o : Int} {cd : ClassFile.Cond} {x y : Int32} (hc : if_icmp.holds cd x y = false) (hd : decode bytes pc = .ok (.if_icmp cd o, 3)) (hp : pc + 3 = pc') (k : own_Goal p e below Φ T (mkF m pc' Ls rest)) : own_Goal p e below Φ T (mkF m pc Ls (.int y :: .int x :: rest)) := by
  subst hp
  exact own_pure X (fun X hx hby _ a => XS.icmpNo X.here hx rfl (hb hby hd) rfl hc a) k
theorem own_ifnullT (X : own_St p l e R s m args below meth c Z own bytes ml rt nm n0 T h cells slots) {o : Int}  (hd : decode bytes pc = .ok (.ifnull o, 3)) (ho : 0 ≤ (pc : Int) + o) (hp : ((pc : Int) + o).toNat = pc') (k : own_Goal p e below Φ T (mkF m pc' Ls rest)) : own_Goal p e below Φ T (mkF m pc Ls (.null :: rest)) := by
  exact own_pure X (fun X hx hby _ a => XS.ifnullYes X.here hx rfl rfl (hb hby hd) rfl ho hp a) k
theorem own_ifnullF (X : own_St p l e R s m args below meth c Z own bytes ml rt nm n0 T h cells slots) {o : Int} {b : Addr} (hd : decode bytes pc = .ok (.ifnull o, 3)) (hp : pc + 3 = pc') (k : own_Goal p e below Φ T (mkF m pc' Ls rest)) : own_Goal p e below Φ T (mkF m pc Ls (.ref b :: rest)) := by
  subst hp
  exact own_pure X (fun X hx hby _ a => XS.ifnullNo X.here hx rfl (hb hby hd) rfl a) k
theorem own_ifnonnullT (X : own_St p l e R s m args below meth c Z own bytes ml rt nm n0 T h cells slots) {o : Int} {b : Addr} (hd : decode bytes pc = .ok (.ifnonnull o, 3)) (ho : 0 ≤ (pc : Int) + o) (hp : ((pc : Int) + o).toNat = pc') (k : own_Goal p e below Φ T (mkF m pc' Ls rest)) : own_Goal p e below Φ T (mkF m pc Ls (.ref b :: rest)) := by
  exact own_pure X (fun X hx hby _ a => XT.ifnonnullYes X.here hx rfl rfl (hb hby hd) rfl ho hp a) k
theorem own_ifnonnullF (X : own_St p l e R s m args below meth c Z own bytes ml rt nm n0 T h cells slots) {o : Int}  (hd : decode bytes pc = .ok (.ifnonnull o, 3)) (hp : pc + 3 = pc') (k : own_Goal p e below Φ T (mkF m pc' Ls rest)) : own_Goal p e below Φ T (mkF m pc Ls (.null :: rest)) := by
  subst hp
  exact own_pure X (fun X hx hby _ a => XT.ifnonnullNo X.here hx rfl (hb hby hd) rfl a) k
theorem own_ldcI (X : own_St p l e R s m args below meth c Z own bytes ml rt nm n0 T h cells slots) {i : Nat} {v : Int32} (w : (Jvm.Cond.constant own i v).before a0 Z = true) (hd : decode bytes pc = .ok (.ldc i, 2)) (hp : pc + 2 = pc') (k : own_Goal p e below Φ T (mkF m pc' Ls (.int v :: rest))) : own_Goal p e below Φ T (mkF m pc Ls rest) := by
  subst hp
  obtain ⟨locs, X, -, -, -, hx, hZ, hown, hby, -⟩ := X
  exact own_step (fun t a => X.ldcInt hx hown (mvT hZ w) (g := mkF m pc Ls rest) rfl (hb hby hd) t a) k
theorem own_ldcJ (X : own_St p l e R s m args below meth c Z own bytes ml rt nm n0 T h cells slots) {i : Nat} {v : Int64} (w : (Jvm.Cond.constantLong own i v).before a0 Z = true) (hd : decode bytes pc = .ok (.ldc2_w i, 3)) (hp : pc + 3 = pc') (k : own_Goal p e below Φ T (mkF m pc' Ls (.long v :: rest))) : own_Goal p e below Φ T (mkF m pc Ls rest) := by
  subst hp
  obtain ⟨locs, X, -, -, -, hx, hZ, hown, hby, -⟩ := X
  exact own_step (fun t a => X.ldc2Long hx hown (mvT hZ w) (g := mkF m pc Ls rest) rfl (hb hby hd) t a) k
theorem own_ldcD (X : own_St p l e R s m args below meth c Z own bytes ml rt nm n0 T h cells slots) {i : Nat} {v : UInt64} (w : (Jvm.Cond.constantDouble own i v).before a0 Z = true) (hd : decode bytes pc = .ok (.ldc2_w i, 3)) (hp : pc + 3 = pc') (k : own_Goal p e below Φ T (mkF m pc' Ls (.double v :: rest))) : own_Goal p e below Φ T (mkF m pc Ls rest) := by
  subst hp
  obtain ⟨locs, X, -, -, -, hx, hZ, hown, hby, -⟩ := X
  exact own_step (fun t a => X.ldc2DoubleC hx hown (mvT hZ w) (g := mkF m pc Ls rest) rfl (hb hby hd) t a) k
theorem own_retI (X : own_St p l e R s m args below meth c Z own bytes ml rt nm n0 T h cells slots) {v : Int32} (hd : decode bytes pc = .ok (.ireturn, 1)) (hr : rt = some .int) (hc : cells ≤ R.cells) (hs : slots ≤ R.slots) (q : Q (some (.int v)) h) : own_Goal p e below (own_Fin below s R n0 Q) T (mkF m pc Ls (.int v :: rest)) := by
  obtain ⟨locs, X, N, e1, n1, hx, hZ, hown, hby, -, hrt, hlk, -⟩ := X
  obtain ⟨fs, hl, hrun, hended, hW, hsame⟩ := X.leave (v := some (.int v)) (fun z => by rw [hrt, hr] at z; cases z) hlk
  exact ⟨_, _, retOut X hx (hrt.trans hr) rfl (Or.inl ⟨rfl, Or.inl rfl, _, rfl⟩) (hb hby hd) hl, hrun, hended, _, _, rfl, ⟨⟨by show Q _ T.heap; rw [e1]; exact q, by show n0 ≤ T.heap.size; rw [e1]; exact n1⟩, N⟩, ⟨_, rfl⟩, hW, hsame.mono hc hs⟩
theorem own_retJ (X : own_St p l e R s m args below meth c Z own bytes ml rt nm n0 T h cells slots) {v : Int64} (hd : decode bytes pc = .ok (.lreturn, 1)) (hr : rt = some .long) (hc : cells ≤ R.cells) (hs : slots ≤ R.slots) (q : Q (some (.long v)) h) : own_Goal p e below (own_Fin below s R n0 Q) T (mkF m pc Ls (.long v :: rest)) := by
  obtain ⟨locs, X, N, e1, n1, hx, hZ, hown, hby, -, hrt, hlk, -⟩ := X
  obtain ⟨fs, hl, hrun, hended, hW, hsame⟩ := X.leave (v := some (.long v)) (fun z => by rw [hrt, hr] at z; cases z) hlk
  exact ⟨_, _, retOut X hx (hrt.trans hr) rfl (Or.inr (Or.inl ⟨rfl, rfl, _, rfl⟩)) (hb hby hd) hl, hrun, hended, _, _, rfl, ⟨⟨by show Q _ T.heap; rw [e1]; exact q, by show n0 ≤ T.heap.size; rw [e1]; exact n1⟩, N⟩, ⟨_, rfl⟩, hW, hsame.mono hc hs⟩
theorem own_retD (X : own_St p l e R s m args below meth c Z own bytes ml rt nm n0 T h cells slots) {v : UInt64} (hd : decode bytes pc = .ok (.dreturn, 1)) (hr : rt = some .double) (hc : cells ≤ R.cells) (hs : slots ≤ R.slots) (q : Q (some (.double v)) h) : own_Goal p e below (own_Fin below s R n0 Q) T (mkF m pc Ls (.double v :: rest)) := by
  obtain ⟨locs, X, N, e1, n1, hx, hZ, hown, hby, -, hrt, hlk, -⟩ := X
  obtain ⟨fs, hl, hrun, hended, hW, hsame⟩ := X.leave (v := some (.double v)) (fun z => by rw [hrt, hr] at z; cases z) hlk
  exact ⟨_, _, retOut X hx (hrt.trans hr) rfl (Or.inr (Or.inr (Or.inl ⟨rfl, rfl, _, rfl⟩))) (hb hby hd) hl, hrun, hended, _, _, rfl, ⟨⟨by show Q _ T.heap; rw [e1]; exact q, by show n0 ≤ T.heap.size; rw [e1]; exact n1⟩, N⟩, ⟨_, rfl⟩, hW, hsame.mono hc hs⟩
theorem own_retZ (X : own_St p l e R s m args below meth c Z own bytes ml rt nm n0 T h cells slots) {v : Int32} (hv : v = 0 ∨ v = 1) (hd : decode bytes pc = .ok (.ireturn, 1)) (hr : rt = some .boolean) (hc : cells ≤ R.cells) (hs : slots ≤ R.slots) (q : Q (some (.int v)) h) : own_Goal p e below (own_Fin below s R n0 Q) T (mkF m pc Ls (.int v :: rest)) := by
  obtain ⟨locs, X, N, e1, n1, hx, hZ, hown, hby, -, hrt, hlk, -⟩ := X
  obtain ⟨fs, hl, hrun, hended, hW, hsame⟩ := X.leave (v := some (.int v)) (fun z => by rw [hrt, hr] at z; cases z) hlk
  have hn : nar .boolean v = v := by rcases hv with rfl | rfl <;> rfl
  exact ⟨_, _, retN X hx (t := .boolean) (hrt.trans hr) (by simp) (hb hby hd) (by rw [hn]; exact hl), hrun, hended, _, _, rfl, ⟨⟨by show Q _ T.heap; rw [e1]; exact q, by show n0 ≤ T.heap.size; rw [e1]; exact n1⟩, N⟩, ⟨_, rfl⟩, hW, hsame.mono hc hs⟩
theorem own_retA (X : own_St p l e R s m args below meth c Z own bytes ml rt nm n0 T h cells slots) {b : Addr} {t : FieldType} (ht : t.isReference = true) (hd : decode bytes pc = .ok (.areturn, 1)) (hr : rt = some t) (hc : cells ≤ R.cells) (hs : slots ≤ R.slots) (q : Q (some (.ref b)) h) : own_Goal p e below (own_Fin below s R n0 Q) T (mkF m pc Ls (.ref b :: rest)) := by
  obtain ⟨locs, X, N, e1, n1, hx, hZ, hown, hby, -, hrt, hlk, -⟩ := X
  obtain ⟨fs, hl, hrun, hended, hW, hsame⟩ := X.leave (v := some (.ref b)) (fun z => by rw [hrt, hr] at z; cases z) hlk
  have hn : narrow t (.ref b) = .ref b := by cases t <;> rfl
  exact ⟨_, _, retOut X hx (hrt.trans hr) hn (Or.inr (Or.inr (Or.inr (Or.inr ⟨rfl, ht, rfl⟩)))) (hb hby hd) hl, hrun, hended, _, _, rfl, ⟨⟨by show Q _ T.heap; rw [e1]; exact q, by show n0 ≤ T.heap.size; rw [e1]; exact n1⟩, N⟩, ⟨_, rfl⟩, hW, hsame.mono hc hs⟩
theorem own_retV (X : own_St p l e R s m args below meth c Z own bytes ml rt nm n0 T h cells slots) (hd : decode bytes pc = .ok (.return_, 1)) (hr : rt = none) (hc : cells ≤ R.cells) (hs : slots ≤ R.slots) (q : Q none h) : own_Goal p e below (own_Fin below s R n0 Q) T (mkF m pc Ls []) := by
  obtain ⟨locs, X, N, e1, n1, hx, hZ, hown, hby, -, hrt, hlk, -⟩ := X
  obtain ⟨fs, hl, hrun, hended, hW, hsame⟩ := X.leave (v := none) (fun _ => rfl) hlk
  exact ⟨_, _, X.returnOut hx (hrt.trans hr) (hb hby hd) hl, hrun, hended, _, _, rfl, ⟨⟨by show Q _ T.heap; rw [e1]; exact q, by show n0 ≤ T.heap.size; rw [e1]; exact n1⟩, N⟩, ⟨_, rfl⟩, hW, hsame.mono hc hs⟩
/-- an array and all it holds -/
def own_Vec (Z : State) (h : Heap) (a : Addr) (ty : FieldType) (vs : List Value) : Prop := ∃ c : Cell, Arr Z h a c ty ∧ c.slots = vs.toArray
theorem own_Vec.lt {a : Addr} {ty : FieldType} {vs : List Value} (F : own_Vec Z h a ty vs) : a < h.size := by obtain ⟨c, A, -⟩ := F; exact A.lt
theorem own_Vec.ext {h' : Heap} {a : Addr} {ty : FieldType} {vs : List Value} (F : own_Vec Z h a ty vs) (E : Ext h h') : own_Vec Z h' a ty vs := by obtain ⟨c, A, r⟩ := F; exact ⟨c, A.ext E, r⟩
theorem own_Vec.other {h' : Heap} {a b : Addr} {sl : Nat} {v : Value} {ty : FieldType} {vs : List Value} (F : own_Vec Z h b ty vs) (W : Wr h h' a sl v) (q : b ≠ a) : own_Vec Z h' b ty vs := by obtain ⟨c, A, r⟩ := F; exact ⟨c, A.other W q, r⟩
theorem own_Vec.keep {h' : Heap} {ws : List Addr} {a : Addr} {ty : FieldType} {vs : List Value} (F : own_Vec Z h a ty vs) (K : Keep h h' ws) (q : a ∉ ws) : own_Vec Z h' a ty vs := by obtain ⟨c, A, r⟩ := F; exact ⟨c, ⟨K.2.1 a c A.1 q, A.2⟩, r⟩
theorem own_Vec.set {h' : Heap} {a : Addr} {i : Nat} {v : Value} {ty : FieldType} {vs : List Value} (F : own_Vec Z h a ty vs) (W : Wr h h' a i v) : own_Vec Z h' a ty (vs.set i v) := by
  obtain ⟨c, A, r⟩ := F
  refine ⟨_, A.same W, ?_⟩
  show c.slots.setIfInBounds i v = _
  rw [r]; simp
theorem own_lt_ne {a b : Addr} (q : b < h.size) (g : a = h.size) : b ≠ a := by subst g; exact Nat.ne_of_lt q
/-- an index in an array, as the library's laws ask it -/
theorem own_in {n i : Nat} {j : Int32} (hj : j.toNatClampNeg = i) (h0 : ¬ j < 0) (hi : i < n) : ¬ (j < 0 ∨ n ≤ j.toNatClampNeg) := by
  rw [hj]; rintro (q | q)
  · exact h0 q
  · omega
theorem own_len (X : own_St p l e R s m args below meth c Z own bytes ml rt nm n0 T h cells slots) {a : Addr} {ty : FieldType} {vs : List Value} (F : own_Vec Z h a ty vs) {v : Int32} (hv : vs.length.toInt32 = v) (hd : decode bytes pc = .ok (.arraylength, 1)) (hp : pc + 1 = pc') (k : own_Goal p e below Φ T (mkF m pc' Ls (.int v :: rest))) : own_Goal p e below Φ T (mkF m pc Ls (.ref a :: rest)) := by
  subst hp
  obtain ⟨locs, X, N, e1, -, hx, hZ, hown, hby, -⟩ := X
  obtain ⟨cl, A, r⟩ := F
  have e2 : cl.slots.size.toInt32 = v := by rw [r]; simpa using hv
  exact own_step (fun t a => X.arraylength hx (cell := cl) (by rw [e1]; exact A.1) (State.isArrayOf_alike hZ.alike A.2.1) (g := mkF m pc Ls _) rfl rfl (hb hby hd) t (by rw [e2]; exact a)) k
theorem own_iaload (X : own_St p l e R s m args below meth c Z own bytes ml rt nm n0 T h cells slots) {a : Addr} {vs : List Value} (F : own_Vec Z h a .int vs) {j : Int32} {i : Nat} {v : Value} (hj : j.toNatClampNeg = i) (h0 : ¬ j < 0) (hv : vs[i]? = some v) (hd : decode bytes pc = .ok (.iaload, 1)) (hp : pc + 1 = pc') (k : own_Goal p e below Φ T (mkF m pc' Ls (v :: rest))) : own_Goal p e below Φ T (mkF m pc Ls (.int j :: .ref a :: rest)) := by
  subst hp
  obtain ⟨locs, X, N, e1, -, hx, hZ, hown, hby, -⟩ := X
  obtain ⟨cl, A, r⟩ := F
  have q1 : i < vs.length := (List.getElem?_eq_some_iff.mp hv).1
  exact own_step (fun t a => X.iaload hx (cell := cl) (by rw [e1]; exact A.1) (State.isArrayOf_alike hZ.alike A.2.1) A.2.2 (own_in hj h0 (by rw [r]; simpa using q1)) (by rw [hj, r]; simpa using hv) (g := mkF m pc Ls _) rfl rfl (hb hby hd) t a) k
theorem own_laload (X : own_St p l e R s m args below meth c Z own bytes ml rt nm n0 T h cells slots) {a : Addr} {vs : List Value} (F : own_Vec Z h a .long vs) {j : Int32} {i : Nat} {v : Value} (hj : j.toNatClampNeg = i) (h0 : ¬ j < 0) (hv : vs[i]? = some v) (hd : decode bytes pc = .ok (.laload, 1)) (hp : pc + 1 = pc') (k : own_Goal p e below Φ T (mkF m pc' Ls (v :: rest))) : own_Goal p e below Φ T (mkF m pc Ls (.int j :: .ref a :: rest)) := by
  subst hp
  obtain ⟨locs, X, N, e1, -, hx, hZ, hown, hby, -⟩ := X
  obtain ⟨cl, A, r⟩ := F
  have q1 : i < vs.length := (List.getElem?_eq_some_iff.mp hv).1
  exact own_step (fun t a => X.laload hx (cell := cl) (by rw [e1]; exact A.1) (State.isArrayOf_alike hZ.alike A.2.1) A.2.2 (own_in hj h0 (by rw [r]; simpa using q1)) (by rw [hj, r]; simpa using hv) (g := mkF m pc Ls _) rfl rfl (hb hby hd) t a) k
theorem own_daload (X : own_St p l e R s m args below meth c Z own bytes ml rt nm n0 T h cells slots) {a : Addr} {vs : List Value} (F : own_Vec Z h a .double vs) {j : Int32} {i : Nat} {v : Value} (hj : j.toNatClampNeg = i) (h0 : ¬ j < 0) (hv : vs[i]? = some v) (hd : decode bytes pc = .ok (.daload, 1)) (hp : pc + 1 = pc') (k : own_Goal p e below Φ T (mkF m pc' Ls (v :: rest))) : own_Goal p e below Φ T (mkF m pc Ls (.int j :: .ref a :: rest)) := by
  subst hp
  obtain ⟨locs, X, N, e1, -, hx, hZ, hown, hby, -⟩ := X
  obtain ⟨cl, A, r⟩ := F
  have q1 : i < vs.length := (List.getElem?_eq_some_iff.mp hv).1
  exact own_step (fun t a => X.daload hx (cell := cl) (by rw [e1]; exact A.1) (State.isArrayOf_alike hZ.alike A.2.1) A.2.2 (own_in hj h0 (by rw [r]; simpa using q1)) (by rw [hj, r]; simpa using hv) (g := mkF m pc Ls _) rfl rfl (hb hby hd) t a) k
theorem own_iastore (X : own_St p l e R s m args below meth c Z own bytes ml rt nm n0 T h cells slots) {a : Addr} {vs : List Value} (F : own_Vec Z h a .int vs) (ha : n0 ≤ a) {j : Int32} {i : Nat} {x : Int32} (hj : j.toNatClampNeg = i) (h0 : ¬ j < 0) (hi : i < vs.length) (hd : decode bytes pc = .ok (.iastore, 1)) (hp : pc + 1 = pc')
    (k : ∀ T' h', own_St p l e R s m args below meth c Z own bytes ml rt nm n0 T' h' cells slots → Wr h h' a i (.int x) → own_Vec Z h' a .int (vs.set i (.int x)) → own_Goal p e below Φ T' (mkF m pc' Ls rest)) : own_Goal p e below Φ T (mkF m pc Ls (.int x :: .int j :: .ref a :: rest)) := by
  subst hp
  obtain ⟨locs, X, N, e1, n1, hx, hZ, hown, hby, r0⟩ := X
  have F0 := F
  obtain ⟨cl, A, r⟩ := F
  obtain ⟨T', h', X', e', W, st⟩ := stI X hx hZ e1 A (own_in hj h0 (by rw [r]; simpa using hi)) (g := mkF m pc Ls _) rfl rfl (hb hby hd)
  have N' := Fr.snoc X' N ha
  rw [hj] at W
  exact own_step st (k T' h' ⟨_, X', N', e', by rw [W.size]; exact n1, hx, hZ, hown, hby, r0⟩ W (F0.set W))
theorem own_dastore (X : own_St p l e R s m args below meth c Z own bytes ml rt nm n0 T h cells slots) {a : Addr} {vs : List Value} (F : own_Vec Z h a .double vs) (ha : n0 ≤ a) {j : Int32} {i : Nat} {x : UInt64} (hj : j.toNatClampNeg = i) (h0 : ¬ j < 0) (hi : i < vs.length) (hd : decode bytes pc = .ok (.dastore, 1)) (hp : pc + 1 = pc')
    (k : ∀ T' h', own_St p l e R s m args below meth c Z own bytes ml rt nm n0 T' h' cells slots → Wr h h' a i (.double x) → own_Vec Z h' a .double (vs.set i (.double x)) → own_Goal p e below Φ T' (mkF m pc' Ls rest)) : own_Goal p e below Φ T (mkF m pc Ls (.double x :: .int j :: .ref a :: rest)) := by
  subst hp
  obtain ⟨locs, X, N, e1, n1, hx, hZ, hown, hby, r0⟩ := X
  have F0 := F
  obtain ⟨cl, A, r⟩ := F
  obtain ⟨T', h', X', e', W, st⟩ := stD X hx hZ e1 A (own_in hj h0 (by rw [r]; simpa using hi)) (g := mkF m pc Ls _) rfl rfl (hb hby hd)
  have N' := Fr.snoc X' N ha
  rw [hj] at W
  exact own_step st (k T' h' ⟨_, X', N', e', by rw [W.size]; exact n1, hx, hZ, hown, hby, r0⟩ W (F0.set W))
theorem own_newarray (X : own_St p l e R s m args below meth c Z own bytes ml rt nm n0 T h cells slots) {aty : ArrayType} {ty : FieldType} (hty : newarray.typeOf aty = ty) (w : (Jvm.Cond.arrayClass ty).before a0 Z = true) {j : Int32} {n : Nat} {vs : List Value} (hj : j.toNatClampNeg = n) (h0 : ¬ j < 0) (hn : n ≤ 1000) (hvs : List.replicate n (defaultValue ty) = vs) {cells' slots' : Nat} (hc' : cells + 1 = cells') (hs' : slots + n = slots') (hc : cells' ≤ R.cells) (hs : slots' ≤ R.slots) (hd : decode bytes pc = .ok (.newarray aty, 2)) (hp : pc + 2 = pc')
    (k : ∀ a T' h', a = h.size → n0 ≤ a → own_St p l e R s m args below meth c Z own bytes ml rt nm n0 T' h' cells' slots' → Ext h h' → own_Vec Z h' a ty vs → own_Goal p e below Φ T' (mkF m pc' Ls (.ref a :: rest))) : own_Goal p e below Φ T (mkF m pc Ls (.int j :: rest)) := by
  subst hp hty hvs hc' hs'
  obtain ⟨locs, X, N, e1, n1, hx, hZ, hown, hby, r0⟩ := X
  obtain ⟨T', h', cA, X', e', E, A, st⟩ := newP X hx hZ w e1 (g := mkF m pc Ls _) rfl (hb hby hd) rfl h0 (cap := n) (by omega) (by omega) hc hs
  refine own_step st (k _ T' h' rfl n1 ⟨_, X', N, e', Nat.le_trans n1 E.1, hx, hZ, hown, hby, r0⟩ E ⟨_, A, ?_⟩)
  simp [newA, hj]
theorem own_new (X : own_St p l e R s m args below meth c Z own bytes ml rt nm n0 T h cells slots) {i : Nat} {C : String} {n : Nat} (w : (Jvm.Cond.classLink own i C).before a0 Z = true) (wi : (Jvm.Cond.instantiable C n).before a0 Z = true) (wz : (Jvm.Cond.initialized C).before a0 Z = true) {cells' slots' : Nat} (hc' : cells + 1 = cells') (hs' : slots + n = slots') (hc : cells' ≤ R.cells) (hs : slots' ≤ R.slots) (hd : decode bytes pc = .ok (.new i, 3)) (hp : pc + 3 = pc')
    (k : ∀ a T' h', a = h.size → n0 ≤ a → own_St p l e R s m args below meth c Z own bytes ml rt nm n0 T' h' cells' slots' → Ext h h' → Exa Z h' a C → (∀ {O nm d : String} {ty : FieldType}, Laid Z a0 C O nm d → parseFieldDescriptor d = some ty → Fld Z h' a O nm d (defaultValue ty)) → own_Goal p e below Φ T' (mkF m pc' Ls (.ref a :: rest))) : own_Goal p e below Φ T (mkF m pc Ls rest) := by
  subst hp hc' hs'
  obtain ⟨locs, X, N, e1, n1, hx, hZ, hown, hby, r0⟩ := X
  obtain ⟨T', h', X', e', E, A, D, -, st⟩ := newO X hx hZ hown w wi wz e1 (g := mkF m pc Ls _) rfl (hb hby hd) hc hs
  exact own_step st (k _ T' h' rfl n1 ⟨_, X', N, e', Nat.le_trans n1 E.1, hx, hZ, hown, hby, r0⟩ E A D)
theorem own_getF (X : own_St p l e R s m args below meth c Z own bytes ml rt nm n0 T h cells slots) {i : Nat} {O n d : String} (w : (Jvm.Cond.fieldLink own i O n d).before a0 Z = true) {a : Addr} {v : Value} (F : Fld Z h a O n d v) (hd : decode bytes pc = .ok (.getfield i, 3)) (hp : pc + 3 = pc')
    (k : ∀ T', own_St p l e R s m args below meth c Z own bytes ml rt nm n0 T' h cells slots → own_Goal p e below Φ T' (mkF m pc' Ls (v :: rest))) : own_Goal p e below Φ T (mkF m pc Ls (.ref a :: rest)) := by
  subst hp
  obtain ⟨locs, X, N, e1, n1, hx, hZ, hown, hby, r0⟩ := X
  obtain ⟨T', X', e', st⟩ := getF X hx hZ hown (host := "") (Or.inl w) Via.refl e1 F (g := mkF m pc Ls _) rfl rfl (hb hby hd)
  exact own_step st (k T' ⟨_, X', N, e', n1, hx, hZ, hown, hby, r0⟩)
theorem own_putF (X : own_St p l e R s m args below meth c Z own bytes ml rt nm n0 T h cells slots) {i : Nat} {O n d C : String} {kk : Nat} {ty : FieldType} (w : (Jvm.Cond.fieldLink own i O n d).before a0 Z = true) {a : Addr} {v old : Value} (F : Fld Z h a O n d old) (E : Exa Z h a C) (L : (Jvm.Cond.lays C O n d).before a0 Z = true ∨ ((Jvm.Cond.laysFinal C O n d).before a0 Z = true ∧ own = O ∧ nm = "<init>")) (wi : (Jvm.Cond.instantiable C kk).before a0 Z = true) (hty : parseFieldDescriptor d = some ty) (hn : narrow ty v = v) (hf : fits ty v = true) (ha : n0 ≤ a) (hd : decode bytes pc = .ok (.putfield i, 3)) (hp : pc + 3 = pc')
    (k : ∀ T' h', own_St p l e R s m args below meth c Z own bytes ml rt nm n0 T' h' cells slots → Wr h h' a (RoadKit.slotOf Z O n d) v → own_Goal p e below Φ T' (mkF m pc' Ls rest)) : own_Goal p e below Φ T (mkF m pc Ls (v :: .ref a :: rest)) := by
  subst hp
  obtain ⟨locs, X, N, e1, n1, hx, hZ, hown, hby, q1, q2, q3, q4⟩ := X
  obtain ⟨T', h', X', e', W, st⟩ := putF X hx hZ hown (host := "") (Or.inl w) Via.refl e1 F E (L.imp id fun z => ⟨z.1, z.2.1, q4.trans z.2.2⟩) wi hty hn hf (g := mkF m pc Ls _) rfl rfl (hb hby hd)
  exact own_step st (k T' h' ⟨_, X', Fr.snoc X' N ha, e', by rw [W.size]; exact n1, hx, hZ, hown, hby, q1, q2, q3, q4⟩ W)
theorem own_initO (X : own_St p l e R s m args below meth c Z own bytes ml rt nm n0 T h cells slots) {i : Nat} (w1 : (Jvm.Cond.methodLink own i Lib.objectInit).before a0 Z = true) (w2 : (Jvm.Cond.instanceMethod Lib.objectInit).before a0 Z = true) (w3 : (Jvm.Cond.code Lib.objectInit ⟨#[0xb1]⟩ 1 none).before a0 Z = true) {a : Addr} (hsz : Ls.size = ml) (hf : 1 ≤ R.frames) {W : Nat} (hW : (rest.map fun v => v.category).sum ≤ W) (hl : W + 12 ≤ R.locals) (hd : decode bytes pc = .ok (.invokespecial i, 3)) (hp : pc + 3 = pc')
    (k : ∀ T', own_St p l e R s m args below meth c Z own bytes ml rt nm n0 T' h cells slots → own_Goal p e below Φ T' (mkF m pc' Ls rest)) : own_Goal p e below Φ T (mkF m pc Ls (.ref a :: rest)) := by
  subst hp
  obtain ⟨locs, X, N, e1, n1, hx, hZ, hown, hby, hml, r0⟩ := X
  obtain ⟨T', X', e', st⟩ := initO X hx hZ hown w1 w2 w3 e1 (g := mkF m pc Ls (.ref a :: rest)) (rest := rest) rfl (hsz.trans hml.symm) rfl (hb hby hd) hf (W := W) (by show 2 * 0 + _ ≤ _; omega) hl
  exact own_step st (k T' ⟨_, X', N, e', n1, hx, hZ, hown, hby, hml, r0⟩)
/-- a callee's contract: called with as' over the heap h0 it returns, and Q says what it leaves -/
def own_Met (l : Launch) (Z : State) (y : MethodName) (bytes : ByteArray) (ml : Nat) (rt : Option FieldType) (ws : List Jvm.Cond) (rm : Room) (as' : Array Value) (h0 : Heap) (n0 : Nat) (Q : Option Value → Heap → Prop) : Prop :=
  MetFree l y (head1 (Jvm.Cond.code y bytes ml rt :: ws) rm) (fun a U => a = as' ∧ Z.Warmed39 U.vm ∧ U.heap = h0) (fun _ _ _ _ _ => True) (fun _ U o U' => ∃ v L, o = .returned v ∧ ((Q v U'.heap ∧ n0 ≤ U'.heap.size) ∧ Fr n0 L) ∧ FrameEnd U o U' L rm.cells rm.slots)
theorem own_meet {y : MethodName} {ws : List Jvm.Cond} {rm : Room} {as' : Array Value} {h0 : Heap} (hpn : plainFor y = true) (hle : n0 ≤ h0.size) {Ls0 : Array Slot} (hef : ∀ m, entryFrame m as' ml = mkF m 0 Ls0 [])
    (body : ∀ (p : Program) (e : Env) (s : State) (m : MethodId) (below : List Frame) (meth : Method) (c : Code) (T : State), own_St p l e rm s m as' below meth c Z y.cls bytes ml rt y.name n0 T h0 0 0 → own_Goal p e below (own_Fin below s rm n0 Q) T (mkF m 0 Ls0 [])) : own_Met l Z y bytes ml rt ws rm as' h0 n0 Q := by
  refine MetFree.of_bodySF hpn hisR ?_
  intro p e s m args below meth c s₁ Bd hml0 hP hK
  obtain ⟨rfl, hZ, hh⟩ := hP
  have e0 : s₁.heap = h0 := by rw [← hh, Bd.state]; rfl
  obtain ⟨s2, o, st, r1, r2, r3⟩ := body p e s m below meth c s₁ ⟨[], Stand.of_body Bd, Fr.nil n0, e0, hle, Bd.exec, hZ, findClass_of_methodNamed Bd.named, Bd.bytes, hml0, Bd.returns, Bd.notSynchronized, (name_of_methodNamed Bd.named Bd.method).1⟩
  exact ⟨s2, o, castTop (hef m) st, r1, r2, r3⟩
theorem own_callS (X : own_St p l e R s m args below meth c Z own bytes ml rt nm n0 T h cells slots) {y : MethodName} {yb : ByteArray} {yl : Nat} {yr : Option FieldType} {rm : Room} {as' : Array Value} {Q' : Option Value → Heap → Prop} (M : own_Met l Z y yb yl yr [] rm as' h n0 Q') {i : Nat} (w1 : (Jvm.Cond.methodLink own i y).before a0 Z = true) (w2 : (Jvm.Cond.static y).before a0 Z = true) (w3 : (Jvm.Cond.initialized y.cls).before a0 Z = true) (w4 : (Jvm.Cond.code y yb yl yr).before a0 Z = true) (hy : y.cls ≠ "java/lang/invoke/MethodHandle" ∧ y.cls ≠ "java/lang/invoke/VarHandle") (hsz : Ls.size = ml) (hf : rm.frames + 1 ≤ R.frames) {W : Nat} (hW : (rest.map fun v => v.category).sum ≤ W) (hl : W + (yl + 11) + rm.locals ≤ R.locals) {cells' slots' : Nat} (hc' : cells + rm.cells = cells') (hs' : slots + rm.slots = slots') (hc : cells' ≤ R.cells) (hs : slots' ≤ R.slots) {argsL stk : List Value} (hlen : ∀ sig, parseMethodDescriptor y.desc = some sig → argsL.length = sig.parameters.length) (hst : stk = argsL.reverse ++ rest) (has : argsL.toArray = as') (hd : decode bytes pc = .ok (.invokestatic i, 3)) (hp : pc + 3 = pc')
    (k : ∀ v T' h', own_St p l e R s m args below meth c Z own bytes ml rt nm n0 T' h' cells' slots' → Q' v h' → own_Goal p e below Φ T' (mkF m pc' Ls (v.toList ++ rest))) : own_Goal p e below Φ T (mkF m pc Ls stk) := by
  subst hp hst has hc' hs'
  obtain ⟨locs, X, N, e1, n1, hx, hZ, hown, hby, hml, r0⟩ := X
  obtain ⟨v, vm1, ⟨T', L', k', n'⟩, -, X', ⟨Lc, ⟨⟨hQ, hG⟩, NL⟩, l1, y1, z1⟩, st⟩ := Jvm.LawKit.callS X hx (y := y) hown (mvT hZ w1) (mvT hZ w2) (mvT hZ w3) (mvT hZ w4) hy (backOf (W := W) (Q := fun v hh L => (Q' v hh ∧ n0 ≤ hh.size) ∧ Fr n0 L) M hZ w4 w3 hf hl) (g := mkF m pc Ls (argsL.reverse ++ rest)) rfl (hsz.trans hml.symm) (argsL := argsL) (rest := rest) hlen rfl (by show 2 * 0 + _ ≤ _; omega) (hb hby hd) (fun _ _ => ⟨rfl, e1, hc, hs⟩)
  dsimp only [Pt.U, Pt.locs, Pt.cells, Pt.slots] at X' l1 y1 z1 st hQ
  subst l1 y1 z1
  exact own_step st (k v T' _ ⟨_, X', Fr.app N NL, rfl, hG, hx, hZ, hown, hby, hml, r0⟩ hQ)
theorem own_special (X : own_St p l e R s m args below meth c Z own bytes ml rt nm n0 T h cells slots) {y : MethodName} {yb : ByteArray} {yl : Nat} {yr : Option FieldType} {rm : Room} {as' : Array Value} {Q' : Option Value → Heap → Prop} (M : own_Met l Z y yb yl yr [] rm as' h n0 Q') (hy1 : y.name = "<init>") (hyr : yr = none) {i : Nat} (w1 : (Jvm.Cond.methodLink own i y).before a0 Z = true) (w2 : (Jvm.Cond.instanceMethod y).before a0 Z = true) (w3 : (Jvm.Cond.initialized y.cls).before a0 Z = true) (w4 : (Jvm.Cond.code y yb yl yr).before a0 Z = true) (hy : y.cls ≠ "java/lang/invoke/MethodHandle" ∧ y.cls ≠ "java/lang/invoke/VarHandle") (hsz : Ls.size = ml) (hf : rm.frames + 1 ≤ R.frames) {W : Nat} (hW : (rest.map fun v => v.category).sum ≤ W) (hl : W + (yl + 11) + rm.locals ≤ R.locals) {cells' slots' : Nat} (hc' : cells + rm.cells = cells') (hs' : slots + rm.slots = slots') (hc : cells' ≤ R.cells) (hs : slots' ≤ R.slots) {a : Addr} {argsL stk : List Value} (hlen : ∀ sig, parseMethodDescriptor y.desc = some sig → argsL.length = sig.parameters.length) (hst : stk = argsL.reverse ++ .ref a :: rest) (has : (.ref a :: argsL).toArray = as') (hd : decode bytes pc = .ok (.invokespecial i, 3)) (hp : pc + 3 = pc')
    (k : ∀ v T' h', own_St p l e R s m args below meth c Z own bytes ml rt nm n0 T' h' cells' slots' → Q' v h' → own_Goal p e below Φ T' (mkF m pc' Ls (v.toList ++ rest))) : own_Goal p e below Φ T (mkF m pc Ls stk) := by
  subst hp hst has hc' hs' hyr
  obtain ⟨locs, X, N, e1, n1, hx, hZ, hown, hby, hml, r0⟩ := X
  obtain ⟨v, vm1, ⟨T', L', k', n'⟩, -, X', ⟨Lc, ⟨⟨hQ, hG⟩, NL⟩, l1, y1, z1⟩, st⟩ := X.specialBack hx (y := y) hy1 hown (mvT hZ w1) (mvT hZ w2) (mvT hZ w4) hy (backOf (W := W) (Q := fun v hh L => (Q' v hh ∧ n0 ≤ hh.size) ∧ Fr n0 L) M hZ w4 w3 hf hl) (g := mkF m pc Ls (argsL.reverse ++ .ref a :: rest)) rfl (hsz.trans hml.symm) (Steps.refl _) (a := a) (argsL := argsL) (rest := rest) hlen rfl (by show 2 * 0 + _ ≤ _; omega) (hb hby hd) (fun _ _ => ⟨rfl, e1, hc, hs⟩)
  dsimp only [Pt.U, Pt.locs, Pt.cells, Pt.slots] at X' l1 y1 z1 st hQ
  subst l1 y1 z1
  exact own_step (fun t b => st.trans b) (k v T' _ ⟨_, X', Fr.app N NL, rfl, hG, hx, hZ, hown, hby, hml, r0⟩ hQ)
theorem own_virtual (X : own_St p l e R s m args below meth c Z own bytes ml rt nm n0 T h cells slots) {y : MethodName} {yb : ByteArray} {yl : Nat} {yr : Option FieldType} {rm : Room} {as' : Array Value} {Q' : Option Value → Heap → Prop} (M : own_Met l Z y yb yl yr [] rm as' h n0 Q') {C : String} {z : MethodName} {i : Nat} (hz : y = z) (w1 : (Jvm.Cond.methodLink own i z).before a0 Z = true) (wd : (Jvm.Cond.declares z).before a0 Z = true) (wsl : (Jvm.Cond.selects C z y).before a0 Z = true) (w2 : (Jvm.Cond.instanceMethod y).before a0 Z = true) (w3 : (Jvm.Cond.initialized y.cls).before a0 Z = true) (w4 : (Jvm.Cond.code y yb yl yr).before a0 Z = true) (hy : y.cls ≠ "java/lang/invoke/MethodHandle" ∧ y.cls ≠ "java/lang/invoke/VarHandle") (hsz : Ls.size = ml) (hf : rm.frames + 1 ≤ R.frames) {W : Nat} (hW : (rest.map fun v => v.category).sum ≤ W) (hl : W + (yl + 11) + rm.locals ≤ R.locals) {cells' slots' : Nat} (hc' : cells + rm.cells = cells') (hs' : slots + rm.slots = slots') (hc : cells' ≤ R.cells) (hs : slots' ≤ R.slots) {a : Addr} (E : Exa Z h a C) {argsL stk : List Value} (hlen : ∀ sig, parseMethodDescriptor y.desc = some sig → argsL.length = sig.parameters.length) (hst : stk = argsL.reverse ++ .ref a :: rest) (has : (.ref a :: argsL).toArray = as') (hd : decode bytes pc = .ok (.invokevirtual i, 3)) (hp : pc + 3 = pc')
    (k : ∀ v T' h', own_St p l e R s m args below meth c Z own bytes ml rt nm n0 T' h' cells' slots' → Q' v h' → own_Goal p e below Φ T' (mkF m pc' Ls (v.toList ++ rest))) : own_Goal p e below Φ T (mkF m pc Ls stk) := by
  subst hp hst has hc' hs' hz
  obtain ⟨locs, X, N, e1, n1, hx, hZ, hown, hby, hml, r0⟩ := X
  obtain ⟨cq, kq, qa, qb, qc⟩ := isOf (T := T) hZ e1 E
  obtain ⟨v, vm1, ⟨T', L', k', n'⟩, -, X', ⟨Lc, ⟨⟨hQ, hG⟩, NL⟩, l1, y1, z1⟩, st⟩ := X.virtualBack hx (y := y) (z := y) hown (mvT hZ w1) (mvT hZ wd) (notFace_of_selects (args := #[]) (mvT hZ wsl)) (mvT hZ wsl) (mvT hZ w2) hy (backOf (W := W) (Q := fun v hh L => (Q' v hh ∧ n0 ≤ hh.size) ∧ Fr n0 L) M hZ w4 w3 hf hl) qa qc (g := mkF m pc Ls (argsL.reverse ++ .ref a :: rest)) rfl (hsz.trans hml.symm) (Steps.refl _) (argsL := argsL) (rest := rest) hlen rfl (by show 2 * 0 + _ ≤ _; omega) (hb hby hd) (fun _ _ => ⟨rfl, e1, hc, hs⟩)
  dsimp only [Pt.U, Pt.locs, Pt.cells, Pt.slots] at X' l1 y1 z1 st hQ
  subst l1 y1 z1
  exact own_step (fun t b => st.trans b) (k v T' _ ⟨_, X', Fr.app N NL, rfl, hG, hx, hZ, hown, hby, hml, r0⟩ hQ)
end OwnWalk
section OwnNum
open Jvm.FP Jvm.FP.Core
/-- the int x is the whole number i, at most B in size -/
def own_I (B : Nat) (i : Int) (x : Int32) : Prop := x.toInt = i ∧ i.natAbs ≤ B
def own_L (B : Nat) (i : Int) (x : Int64) : Prop := x.toInt = i ∧ i.natAbs ≤ B
section
variable {A B C M : Nat} {i j : Int}
theorem own_I.start (x : Int32) : own_I 2147483648 x.toInt x := by
  have := x.toInt_lt; have := x.le_toInt
  exact ⟨rfl, by omega⟩
theorem own_L.start (x : Int64) : own_L 9223372036854775808 x.toInt x := by
  have := x.toInt_lt; have := x.le_toInt
  exact ⟨rfl, by omega⟩
theorem own_I.lit {x : Int32} (h : x.toInt = i) (hB : i.natAbs ≤ B) : own_I B i x := ⟨h, hB⟩
theorem own_I.self {x : Int32} (a : own_I A i x) : own_I A x.toInt x := ⟨rfl, by rw [a.1]; exact a.2⟩
theorem own_L.self {x : Int64} (a : own_L A i x) : own_L A x.toInt x := ⟨rfl, by rw [a.1]; exact a.2⟩
theorem own_L.lit {x : Int64} (h : x.toInt = i) (hB : i.natAbs ≤ B) : own_L B i x := ⟨h, hB⟩
theorem own_abs_mul {i j : Int} (h1 : i.natAbs ≤ A) (h2 : j.natAbs ≤ B) : (i * j).natAbs ≤ A * B := by
  rw [Int.natAbs_mul]; exact Nat.mul_le_mul h1 h2
theorem own_I.add {x y v : Int32} (a : own_I A i x) (b : own_I B j y) (hv : x + y = v) (hC : A + B ≤ C) (h : C < 2147483648) : own_I C (i + j) v := by
  obtain ⟨rfl, h1⟩ := a; obtain ⟨rfl, h2⟩ := b; subst hv
  refine ⟨?_, by omega⟩
  rw [Int32.toInt_add]; exact Int.bmod_eq_of_le (by omega) (by omega)
theorem own_I.sub {x y v : Int32} (a : own_I A i x) (b : own_I B j y) (hv : x - y = v) (hC : A + B ≤ C) (h : C < 2147483648) : own_I C (i - j) v := by
  obtain ⟨rfl, h1⟩ := a; obtain ⟨rfl, h2⟩ := b; subst hv
  refine ⟨?_, by omega⟩
  rw [Int32.toInt_sub]; exact Int.bmod_eq_of_le (by omega) (by omega)
theorem own_I.mul {x y v : Int32} (a : own_I A i x) (b : own_I B j y) (hv : x * y = v) (hC : A * B ≤ C) (h : C < 2147483648) : own_I C (i * j) v := by
  obtain ⟨rfl, h1⟩ := a; obtain ⟨rfl, h2⟩ := b; subst hv
  have h3 := Nat.le_trans (own_abs_mul h1 h2) hC
  refine ⟨?_, h3⟩
  rw [Int32.toInt_mul]; exact Int.bmod_eq_of_le (by omega) (by omega)
theorem own_I.neg {x v : Int32} (a : own_I A i x) (hv : -x = v) (h : A < 2147483648) : own_I A (-i) v := by
  obtain ⟨rfl, h1⟩ := a; subst hv
  refine ⟨?_, by omega⟩
  rw [Int32.toInt_neg]; exact Int.bmod_eq_of_le (by omega) (by omega)
theorem own_and_nn {x m v : Int32} (hv : x &&& m = v) (hm : m.toInt = M) : 0 ≤ v.toInt ∧ v.toInt ≤ M := by
  subst hv; have := c_and x m (by omega); omega
theorem own_I.and {x m v : Int32} (hv : x &&& m = v) (hm : m.toInt = M) : own_I M v.toInt v := by
  have := own_and_nn hv hm
  exact ⟨rfl, by omega⟩
theorem own_land_nn {x m v : Int64} (hv : x &&& m = v) (hm : m.toInt = M) : 0 ≤ v.toInt ∧ v.toInt ≤ M := by
  subst hv
  have h1 := (c_andSL x m).2.2 (by omega)
  refine ⟨h1, ?_⟩
  have la := x.toBitVec.isLt; have lm := m.toBitVec.isLt
  have q : (x &&& m).toBitVec.toNat = x.toBitVec.toNat &&& m.toBitVec.toNat := by show (x.toBitVec &&& m.toBitVec).toNat = _; rw [BitVec.toNat_and]
  have q2 : x.toBitVec.toNat &&& m.toBitVec.toNat ≤ m.toBitVec.toNat := Nat.and_le_right
  change 0 ≤ (x &&& m).toBitVec.toInt at h1
  show (x &&& m).toBitVec.toInt ≤ _
  change m.toBitVec.toInt = _ at hm
  rw [BitVec.toInt_eq_toNat_cond] at h1 hm ⊢
  rw [q] at h1 ⊢
  split at hm <;> split <;> omega
theorem own_L.and {x m v : Int64} (hv : x &&& m = v) (hm : m.toInt = M) : own_L M v.toInt v := by
  have := own_land_nn hv hm
  exact ⟨rfl, by omega⟩
theorem own_lrem_eq {x y v : Int64} (hv : x - (x / y) * y = v) (hx : 0 ≤ x.toInt) (hy : 0 < y.toInt) : v.toInt = x.toInt % y.toInt := by
  subst hv; exact (c_lrem x y _ rfl).1 hx
theorem own_I.shr {x q v : Int32} {k : Nat} (hv : x >>> (q &&& 31) = v) (hk : q.toBitVec.toNat % 32 = k) (hM : 2147483648 ≤ M * 2 ^ k) : own_I M v.toInt v := by
  subst hv
  have h1 := c_ishr x q k hk
  have h2 := x.toInt_lt; have h3 := x.le_toInt
  refine ⟨rfl, ?_⟩
  rw [h1]
  have p : 0 < 2 ^ k := Nat.two_pow_pos k
  generalize 2 ^ k = P at *
  have hP : (0 : Int) < (P : Int) := by omega
  have e1 : x.toInt / (P : Int) ≤ M := by
    refine Int.ediv_le_of_le_mul hP ?_
    have : ((M * P : Nat) : Int) = (M : Int) * P := Int.natCast_mul ..
    omega
  have e2 : -(M : Int) ≤ x.toInt / (P : Int) := by
    refine (Int.le_ediv_iff_mul_le hP).mpr ?_
    have : ((M * P : Nat) : Int) = (M : Int) * P := Int.natCast_mul ..
    rw [Int.neg_mul]; omega
  omega
theorem own_L.ofI {x : Int32} {v : Int64} (a : own_I A i x) (hv : x.toInt64 = v) : own_L A i v := by
  obtain ⟨rfl, h1⟩ := a; subst hv
  exact ⟨Int32.toInt_toInt64 x, h1⟩
theorem own_L.add {x y v : Int64} (a : own_L A i x) (b : own_L B j y) (hv : x + y = v) (hC : A + B ≤ C) (h : C < 9223372036854775808) : own_L C (i + j) v := by
  obtain ⟨rfl, h1⟩ := a; obtain ⟨rfl, h2⟩ := b; subst hv
  refine ⟨?_, by omega⟩
  rw [Int64.toInt_add]; exact Int.bmod_eq_of_le (by omega) (by omega)
theorem own_L.sub {x y v : Int64} (a : own_L A i x) (b : own_L B j y) (hv : x - y = v) (hC : A + B ≤ C) (h : C < 9223372036854775808) : own_L C (i - j) v := by
  obtain ⟨rfl, h1⟩ := a; obtain ⟨rfl, h2⟩ := b; subst hv
  refine ⟨?_, by omega⟩
  rw [Int64.toInt_sub]; exact Int.bmod_eq_of_le (by omega) (by omega)
theorem own_L.mul {x y v : Int64} (a : own_L A i x) (b : own_L B j y) (hv : x * y = v) (hC : A * B ≤ C) (h : C < 9223372036854775808) : own_L C (i * j) v := by
  obtain ⟨rfl, h1⟩ := a; obtain ⟨rfl, h2⟩ := b; subst hv
  have h3 := Nat.le_trans (own_abs_mul h1 h2) hC
  refine ⟨?_, h3⟩
  rw [Int64.toInt_mul]; exact Int.bmod_eq_of_le (by omega) (by omega)
theorem own_L.neg {x v : Int64} (a : own_L A i x) (hv : -x = v) (h : A < 9223372036854775808) : own_L A (-i) v := by
  obtain ⟨rfl, h1⟩ := a; subst hv
  refine ⟨?_, by omega⟩
  rw [Int64.toInt_neg]; exact Int.bmod_eq_of_le (by omega) (by omega)
end
/-- a datum times 2^k -/
def own_sh (k : Int) : Datum → Datum
  | .fin s c q => .fin s c (q + k)
  | d => d
theorem own_sh_sum (k : Int) (x y : Datum) : exactSum (own_sh k x) (own_sh k y) = own_sh k (exactSum x y) := by
  cases x with
  | nan => rfl
  | inf s => cases y with
    | nan => rfl
    | inf t => by_cases h : s = t <;> simp [own_sh, exactSum, h]
    | fin t d r => rfl
  | fin s c q => cases y with
    | nan => rfl
    | inf t => rfl
    | fin t d r =>
      have e1 : min (q + k) (r + k) = min q r + k := by omega
      have e2 : sumUnits s c (q + k) t d (r + k) (min q r + k) = sumUnits s c q t d r (min q r) := by
        unfold sumUnits inUnits
        rw [show q + k - (min q r + k) = q - min q r by omega, show r + k - (min q r + k) = r - min q r by omega]
      simp only [own_sh, exactSum, e1, e2]
theorem own_sh_prod (k r : Int) (x y : Datum) : exactProduct (own_sh k x) (own_sh r y) = own_sh (k + r) (exactProduct x y) := by
  cases x with
  | nan => rfl
  | inf s => cases y with
    | nan => rfl
    | inf t => rfl
    | fin t d u => simp only [own_sh, exactProduct]; split <;> rfl
  | fin s c q => cases y with
    | nan => rfl
    | inf t => simp only [own_sh, exactProduct]; split <;> rfl
    | fin t d u =>
      simp only [own_sh, exactProduct]
      rw [show q + k + (u + r) = q + u + (k + r) by omega]
theorem own_sh_neg (k : Int) (x : Datum) : negate (own_sh k x) = own_sh k (negate x) := by cases x <;> rfl
theorem own_sh_order (k : Int) (x y : Datum) : order (own_sh k x) (own_sh k y) = order x y := by
  cases x <;> cases y <;> try rfl
  rename_i s c q t d r
  simp only [own_sh, order]
  rw [show min (q + k) (r + k) = min q r + k by omega]
  unfold inUnits
  rw [show q + k - (min q r + k) = q - min q r by omega, show r + k - (min q r + k) = r - min q r by omega]
theorem own_sh_sh (k r : Int) (x : Datum) : own_sh r (own_sh k x) = own_sh (k + r) x := by
  cases x <;> simp only [own_sh]
  rw [Int.add_assoc]
theorem own_sh_zero (x : Datum) : own_sh 0 x = x := by cases x <;> simp [own_sh]
theorem own_signed_nat {i : Int} {s : Bool} {n : Nat} (h : n = i.natAbs) (hs : i ≠ 0 → s = decide (i < 0)) : signed s n = i := by
  by_cases h0 : i = 0
  · subst h0; subst h; exact signed_zero s
  · rw [hs h0, h]; unfold signed
    by_cases q : i < 0 <;> simp [q] <;> omega
/-- what is i * 2^-k in size rounds to itself, if i has 53 digits at the most -/
theorem own_round_core {k : Nat} {i : Int} {s : Bool} {c : Nat} {q : Int} (hk : k ≤ 1074) (hi : i.natAbs < 9007199254740992) (hs : i ≠ 0 → s = decide (i < 0)) : Whole i (own_sh k (roundRatio b64 s i.natAbs 1 (-(k : Int)))) := by
  obtain ⟨c', q', e1, e2⟩ := round_exact good_b64 s (c := i.natAbs) (q := -(k : Int)) (show i.natAbs < 2 ^ 53 by omega) (show (-1074 : Int) ≤ _ by omega) (show _ ≤ (971 : Int) by omega)
  have e3 : roundRatio b64 s i.natAbs 1 (-(k : Int)) = .fin s c' q' := e1
  have hf : Core.fits b64 (.fin s c' q') := by rw [← e1]; exact round_fits good_b64 _
  have hq : (-1074 : Int) ≤ q' := hf.2.1
  rw [e3]
  show signed s (c' * 2 ^ (q' + k).toNat) = i * ((2 ^ (-(q' + k)).toNat : Nat) : Int)
  have e4 : c' * 2 ^ (q' + 1074).toNat = i.natAbs * 2 ^ (1074 - k) := by
    have := e2
    unfold inUnits at this
    rw [show (q' - b64.qmin).toNat = (q' + 1074).toNat by rw [show b64.qmin = -1074 from rfl]; omega, show (-(k : Int) - b64.qmin).toNat = 1074 - k by rw [show b64.qmin = -1074 from rfl]; omega] at this
    exact this
  have e5 : c' * 2 ^ (q' + k).toNat = i.natAbs * 2 ^ (-(q' + k)).toNat := by
    refine Nat.eq_of_mul_eq_mul_right (Nat.two_pow_pos (1074 - k)) ?_
    have x1 : c' * 2 ^ (q' + k).toNat * 2 ^ (1074 - k) = c' * 2 ^ (q' + 1074).toNat * 2 ^ (-(q' + k)).toNat := by
      rw [Nat.mul_assoc, Nat.mul_assoc, ← Nat.pow_add, ← Nat.pow_add]; congr 2; omega
    rw [x1, e4, Nat.mul_right_comm]
  rw [e5, signed_mul, own_signed_nat rfl hs]
theorem own_round {k : Nat} {i : Int} {d : Datum} (hk : k ≤ 1074) (hi : i.natAbs < 9007199254740992) (h : Whole i (own_sh k d)) : Whole i (own_sh k (round b64 d)) := by
  cases d with
  | nan => exact h.elim
  | inf => exact h.elim
  | fin s c q =>
    have h1 : c * 2 ^ (q + k).toNat = i.natAbs * 2 ^ (-(q + k)).toNat := whole_natAbs h
    have e : round b64 (.fin s c q) = roundRatio b64 s i.natAbs 1 (-(k : Int)) := by
      refine roundRatio_congr (by decide) (by decide) ?_
      rw [show (q - -(k : Int)).toNat = (q + k).toNat by omega, show (-(k : Int) - q).toNat = (-(q + k)).toNat by omega]
      simpa using h1
    rw [e]
    exact own_round_core (c := c) (q := q) hk hi (fun h0 => whole_sign h h0)
/-- the double x is i * 2^-k, i at most B in size (both zeros are 0) -/
def own_D (k B : Nat) (i : Int) (x : UInt64) : Prop := Whole i (own_sh k (val64 x)) ∧ i.natAbs ≤ B
section
variable {k r t A B C : Nat} {i j : Int} {x y v : UInt64}
theorem own_D.fin (a : own_D k A i x) : ∃ s c q, val64 x = .fin s c q := by
  cases e : val64 x with
  | nan => have := a.1; rw [e] at this; exact this.elim
  | inf => have := a.1; rw [e] at this; exact this.elim
  | fin s c q => exact ⟨s, c, q, rfl⟩
theorem own_D.nn (a : own_D k A i x) : Jvm.Free.Fl.NoNaN64 x := by
  obtain ⟨s, c, q, e⟩ := a.fin
  exact Jvm.Free.Fl.val64_no.mpr (by rw [e]; exact Datum.noConfusion)
theorem own_D.isFin (a : own_D k A i x) : Jvm.Free.Fl.Fin64 x := by
  obtain ⟨s, c, q, e⟩ := a.fin
  exact Jvm.Free.Fl.fin64_core.mpr ⟨s, c, q, e⟩
theorem own_D.lit {s : Bool} {c : Nat} {q : Int} (h : val64 x = .fin s c q) (hw : signed s (c * 2 ^ (q + k).toNat) = i * ((2 ^ (-(q + k)).toNat : Nat) : Int)) (hB : i.natAbs ≤ B) : own_D k B i x := by
  refine ⟨?_, hB⟩
  rw [h]; exact hw
theorem own_D.mono (a : own_D k A i x) (h : A ≤ B) : own_D k B i x := ⟨a.1, Nat.le_trans a.2 h⟩
theorem own_D.zero {s : Bool} (h : val64 x = .fin s 0 b64.qmin) (k : Nat) : own_D k 0 0 x := by
  refine ⟨?_, by decide⟩
  rw [h]
  show signed s (0 * _) = 0 * _
  rw [Nat.zero_mul, signed_zero, Int.zero_mul]
theorem own_D.ofInt (h : DInt i x) (hB : i.natAbs ≤ B) : own_D 0 B i x := ⟨by rw [show ((0 : Nat) : Int) = 0 from rfl, own_sh_zero]; exact h, hB⟩
theorem own_D.i2d {z : Int32} (a : own_I A i z) (hv : FP.i2d z = v) : own_D 0 A i v := by
  subst hv; obtain ⟨rfl, h⟩ := a
  exact own_D.ofInt (i2d_int z) h
theorem own_D.l2d {z : Int64} (a : own_L A i z) (hv : FP.l2d z = v) (h : A ≤ 9007199254740992) : own_D 0 A i v := by
  subst hv; obtain ⟨rfl, h1⟩ := a
  exact own_D.ofInt (l2d_int (show _ ≤ 2 ^ 53 by omega)) h1
theorem own_D.add (a : own_D k A i x) (b : own_D k B j y) (hv : FP.dadd x y = v) (hC : A + B ≤ C) (h : C < 9007199254740992) (hk : k ≤ 1074) : own_D k C (i + j) v := by
  subst hv
  have h2 : (i + j).natAbs ≤ C := by have := a.2; have := b.2; omega
  refine ⟨?_, h2⟩
  show Whole _ (own_sh k (val64 (Core.dadd x y)))
  rw [val64_dadd]
  refine own_round hk (by omega) ?_
  rw [← own_sh_sum]; exact whole_sum a.1 b.1
theorem own_D.sub (a : own_D k A i x) (b : own_D k B j y) (hv : FP.dsub x y = v) (hC : A + B ≤ C) (h : C < 9007199254740992) (hk : k ≤ 1074) : own_D k C (i - j) v := by
  subst hv
  have h2 : (i - j).natAbs ≤ C := by have := a.2; have := b.2; omega
  refine ⟨?_, h2⟩
  show Whole _ (own_sh k (val64 (Core.dsub x y)))
  rw [val64_dsub]
  refine own_round hk (by omega) ?_
  rw [← own_sh_sum, ← own_sh_neg]; exact whole_sum a.1 (whole_negate b.1)
theorem own_D.mul (a : own_D k A i x) (b : own_D r B j y) (hv : FP.dmul x y = v) (hC : A * B ≤ C) (h : C < 9007199254740992) (ht : k + r = t) (hk : t ≤ 1074) : own_D t C (i * j) v := by
  subst hv ht
  have h2 : (i * j).natAbs ≤ C := Nat.le_trans (own_abs_mul a.2 b.2) hC
  refine ⟨?_, h2⟩
  show Whole _ (own_sh ((k + r : Nat) : Int) (val64 (Core.dmul x y)))
  rw [val64_dmul]
  refine own_round hk (by omega) ?_
  rw [Int.natCast_add, ← own_sh_prod]; exact whole_product a.1 b.1
theorem own_D.neg (a : own_D k A i x) (hv : FP.dneg x = v) : own_D k A (-i) v := by
  subst hv
  refine ⟨?_, by have := a.2; omega⟩
  rw [FP.val64_dneg, ← own_sh_neg]; exact whole_negate a.1
theorem own_whole_up {i : Int} {d : Datum} (r : Nat) (h : Whole i d) : Whole (i * ((2 ^ r : Nat) : Int)) (own_sh r d) := by
  cases d with
  | nan => exact h.elim
  | inf => exact h.elim
  | fin s c q =>
    have h1 : signed s (c * 2 ^ q.toNat) = i * ((2 ^ (-q).toNat : Nat) : Int) := h
    show signed s (c * 2 ^ (q + r).toNat) = i * ((2 ^ r : Nat) : Int) * ((2 ^ (-(q + r)).toNat : Nat) : Int)
    have p2 : ((2 ^ (-q).toNat : Nat) : Int) ≠ 0 := by
      have := Nat.two_pow_pos (-q).toNat; omega
    refine Int.eq_of_mul_eq_mul_right p2 ?_
    have e : (q + r).toNat + (-q).toNat = q.toNat + r + (-(q + r)).toNat := by omega
    calc signed s (c * 2 ^ (q + r).toNat) * ((2 ^ (-q).toNat : Nat) : Int)
        = signed s (c * 2 ^ ((q + r).toNat + (-q).toNat)) := by rw [← signed_mul, Nat.mul_assoc, ← Nat.pow_add]
      _ = signed s (c * 2 ^ q.toNat * 2 ^ r * 2 ^ (-(q + r)).toNat) := by rw [e, Nat.pow_add, Nat.pow_add]; congr 1; ac_rfl
      _ = i * ((2 ^ (-q).toNat : Nat) : Int) * ((2 ^ r : Nat) : Int) * ((2 ^ (-(q + r)).toNat : Nat) : Int) := by rw [signed_mul, signed_mul, h1]
      _ = _ := by ac_rfl
theorem own_D.up (a : own_D k A i x) {P : Nat} (hP : 2 ^ r = P) (ht : k + r = t) (hC : A * P ≤ C) : own_D t C (i * (P : Int)) x := by
  subst hP ht
  refine ⟨?_, Nat.le_trans (own_abs_mul a.2 (Nat.le_of_eq (Int.natAbs_natCast _))) hC⟩
  rw [Int.natCast_add, ← own_sh_sh]; exact own_whole_up r a.1
theorem own_D.dcmp (a : own_D k A i x) (b : own_D k B j y) : FP.dcmp x y = some (compare i j) := by
  show order (val64 x) (val64 y) = _
  rw [← own_sh_order k]; exact order_whole a.1 b.1
end
def own_c3 (i j : Int) : Int32 := if i < j then -1 else if i = j then 0 else 1
theorem own_c3_cmp (i j : Int) (o : CmpOp) : cmpValue (some (compare i j)) o = own_c3 i j := by
  unfold own_c3
  by_cases h : i < j
  · rw [if_pos h, show compare i j = .lt from Int.compare_eq_lt.mpr h]; rfl
  · rw [if_neg h]
    by_cases h2 : i = j
    · rw [if_pos h2, show compare i j = .eq from Int.compare_eq_eq.mpr h2]; rfl
    · rw [if_neg h2, show compare i j = .gt from Int.compare_eq_gt.mpr (by omega)]; rfl
theorem own_D.cmp {k A B : Nat} {i j : Int} {x y : UInt64} (a : own_D k A i x) (b : own_D k B j y) {o : CmpOp} : cmpValue (FP.dcmp x y) o = own_c3 i j := by
  rw [a.dcmp b]; exact own_c3_cmp i j o
theorem own_c3_eq {i j : Int} (h : i = j) : ifCond.holds .eq (own_c3 i j) = true ∧ ifCond.holds .ne (own_c3 i j) = false := by
  subst h; unfold own_c3; simp [ifCond.holds]
theorem own_c3_ne {i j : Int} (h : ¬ i = j) : ifCond.holds .eq (own_c3 i j) = false ∧ ifCond.holds .ne (own_c3 i j) = true := by
  unfold own_c3; by_cases q : i < j <;> simp [q, h, ifCond.holds]
theorem own_c3_lt {i j : Int} (h : i < j) : ifCond.holds .lt (own_c3 i j) = true ∧ ifCond.holds .ge (own_c3 i j) = false := by
  unfold own_c3; simp [h]; decide
theorem own_c3_nlt {i j : Int} (h : ¬ i < j) : ifCond.holds .lt (own_c3 i j) = false ∧ ifCond.holds .ge (own_c3 i j) = true := by
  unfold own_c3; rw [if_neg h]; by_cases q : i = j
  · rw [if_pos q]; decide
  · rw [if_neg q]; decide
theorem own_c3_gt {i j : Int} (h : j < i) : ifCond.holds .gt (own_c3 i j) = true ∧ ifCond.holds .le (own_c3 i j) = false := by
  unfold own_c3; rw [if_neg (by omega), if_neg (by omega)]; decide
theorem own_c3_ngt {i j : Int} (h : ¬ j < i) : ifCond.holds .gt (own_c3 i j) = false ∧ ifCond.holds .le (own_c3 i j) = true := by
  unfold own_c3; by_cases q : i < j
  · rw [if_pos q]; decide
  · rw [if_neg q, if_pos (by omega)]; decide
/-- the branches on ints, by what is known of them -/
theorem own_i_eq {x y : Int32} (h : x = y) : if_icmp.holds .eq x y = true ∧ if_icmp.holds .ne x y = false := teq h
theorem own_i_ne {x y : Int32} (h : ¬ x = y) : if_icmp.holds .eq x y = false ∧ if_icmp.holds .ne x y = true := feq h
theorem own_i_lt {x y : Int32} (h : x < y) : if_icmp.holds .lt x y = true ∧ if_icmp.holds .ge x y = false := ⟨(tlt h).1, (tlt h).2.1⟩
theorem own_i_nlt {x y : Int32} (h : ¬ x < y) : if_icmp.holds .lt x y = false ∧ if_icmp.holds .ge x y = true := ⟨(flt h).1, (flt h).2.1⟩
theorem own_i_gt {x y : Int32} (h : y < x) : if_icmp.holds .gt x y = true ∧ if_icmp.holds .le x y = false := ⟨(tlt h).2.2.1, (tlt h).2.2.2⟩
theorem own_i_ngt {x y : Int32} (h : ¬ y < x) : if_icmp.holds .gt x y = false ∧ if_icmp.holds .le x y = true := ⟨(flt h).2.2.1, (flt h).2.2.2⟩
theorem own_z_eq {x : Int32} (h : x = 0) : ifCond.holds .eq x = true ∧ ifCond.holds .ne x = false := by rw [if0, if0]; exact teq h
theorem own_z_ne {x : Int32} (h : ¬ x = 0) : ifCond.holds .eq x = false ∧ ifCond.holds .ne x = true := by rw [if0, if0]; exact feq h
theorem own_z_lt {x : Int32} (h : x < 0) : ifCond.holds .lt x = true ∧ ifCond.holds .ge x = false := by rw [if0, if0]; exact own_i_lt h
theorem own_z_nlt {x : Int32} (h : ¬ x < 0) : ifCond.holds .lt x = false ∧ ifCond.holds .ge x = true := by rw [if0, if0]; exact own_i_nlt h
theorem own_z_gt {x : Int32} (h : 0 < x) : ifCond.holds .gt x = true ∧ ifCond.holds .le x = false := by rw [if0, if0]; exact own_i_gt h
theorem own_z_ngt {x : Int32} (h : ¬ 0 < x) : ifCond.holds .gt x = false ∧ ifCond.holds .le x = true := by rw [if0, if0]; exact own_i_ngt h
theorem own_cases2 {v : Int32} (h : 0 ≤ v.toInt ∧ v.toInt ≤ ((1 : Nat) : Int)) : v = (0 : Int32) ∨ v = (1 : Int32) := by
  have : v.toInt = 0 ∨ v.toInt = 1 := by omega
  rcases this with q | q
  · exact Or.inl (Int32.toInt_inj.mp q)
  · exact Or.inr (Int32.toInt_inj.mp q)
theorem own_cases4 {v : Int32} (h : 0 ≤ v.toInt ∧ v.toInt ≤ ((3 : Nat) : Int)) : v = (0 : Int32) ∨ v = (1 : Int32) ∨ v = (2 : Int32) ∨ v = (3 : Int32) := by
  have : v.toInt = 0 ∨ v.toInt = 1 ∨ v.toInt = 2 ∨ v.toInt = 3 := by omega
  rcases this with q | q | q | q
  · exact Or.inl (Int32.toInt_inj.mp q)
  · exact Or.inr (Or.inl (Int32.toInt_inj.mp q))
  · exact Or.inr (Or.inr (Or.inl (Int32.toInt_inj.mp q)))
  · exact Or.inr (Or.inr (Or.inr (Int32.toInt_inj.mp q)))
theorem own_cases16 {v : Int32} (h : 0 ≤ v.toInt ∧ v.toInt ≤ ((15 : Nat) : Int)) : v = (0 : Int32) ∨ v = (1 : Int32) ∨ v = (2 : Int32) ∨ v = (3 : Int32) ∨ v = (4 : Int32) ∨ v = (5 : Int32) ∨ v = (6 : Int32) ∨ v = (7 : Int32) ∨ v = (8 : Int32) ∨ v = (9 : Int32) ∨ v = (10 : Int32) ∨ v = (11 : Int32) ∨ v = (12 : Int32) ∨ v = (13 : Int32) ∨ v = (14 : Int32) ∨ v = (15 : Int32) := by
  have : v.toInt = 0 ∨ v.toInt = 1 ∨ v.toInt = 2 ∨ v.toInt = 3 ∨ v.toInt = 4 ∨ v.toInt = 5 ∨ v.toInt = 6 ∨ v.toInt = 7 ∨ v.toInt = 8 ∨ v.toInt = 9 ∨ v.toInt = 10 ∨ v.toInt = 11 ∨ v.toInt = 12 ∨ v.toInt = 13 ∨ v.toInt = 14 ∨ v.toInt = 15 := by omega
  rcases this with q | q | q | q | q | q | q | q | q | q | q | q | q | q | q | q
  · exact Or.inl (Int32.toInt_inj.mp q)
  · exact Or.inr (Or.inl (Int32.toInt_inj.mp q))
  · exact Or.inr (Or.inr (Or.inl (Int32.toInt_inj.mp q)))
  · exact Or.inr (Or.inr (Or.inr (Or.inl (Int32.toInt_inj.mp q))))
  · exact Or.inr (Or.inr (Or.inr (Or.inr (Or.inl (Int32.toInt_inj.mp q)))))
  · exact Or.inr (Or.inr (Or.inr (Or.inr (Or.inr (Or.inl (Int32.toInt_inj.mp q))))))
  · exact Or.inr (Or.inr (Or.inr (Or.inr (Or.inr (Or.inr (Or.inl (Int32.toInt_inj.mp q)))))))
  · exact Or.inr (Or.inr (Or.inr (Or.inr (Or.inr (Or.inr (Or.inr (Or.inl (Int32.toInt_inj.mp q))))))))
  · exact Or.inr (Or.inr (Or.inr (Or.inr (Or.inr (Or.inr (Or.inr (Or.inr (Or.inl (Int32.toInt_inj.mp q)))))))))
  · exact Or.inr (Or.inr (Or.inr (Or.inr (Or.inr (Or.inr (Or.inr (Or.inr (Or.inr (Or.inl (Int32.toInt_inj.mp q))))))))))
  · exact Or.inr (Or.inr (Or.inr (Or.inr (Or.inr (Or.inr (Or.inr (Or.inr (Or.inr (Or.inr (Or.inl (Int32.toInt_inj.mp q)))))))))))
  · exact Or.inr (Or.inr (Or.inr (Or.inr (Or.inr (Or.inr (Or.inr (Or.inr (Or.inr (Or.inr (Or.inr (Or.inl (Int32.toInt_inj.mp q))))))))))))
  · exact Or.inr (Or.inr (Or.inr (Or.inr (Or.inr (Or.inr (Or.inr (Or.inr (Or.inr (Or.inr (Or.inr (Or.inr (Or.inl (Int32.toInt_inj.mp q)))))))))))))
  · exact Or.inr (Or.inr (Or.inr (Or.inr (Or.inr (Or.inr (Or.inr (Or.inr (Or.inr (Or.inr (Or.inr (Or.inr (Or.inr (Or.inl (Int32.toInt_inj.mp q))))))))))))))
  · exact Or.inr (Or.inr (Or.inr (Or.inr (Or.inr (Or.inr (Or.inr (Or.inr (Or.inr (Or.inr (Or.inr (Or.inr (Or.inr (Or.inr (Or.inl (Int32.toInt_inj.mp q)))))))))))))))
  · exact Or.inr (Or.inr (Or.inr (Or.inr (Or.inr (Or.inr (Or.inr (Or.inr (Or.inr (Or.inr (Or.inr (Or.inr (Or.inr (Or.inr (Or.inr (Int32.toInt_inj.mp q)))))))))))))))
/-- lcmp as a comparison of whole numbers -/
theorem own_lcmp_c3 (x y : Int64) : XT.cmpL x y = own_c3 x.toInt y.toInt := by
  unfold XT.cmpL own_c3
  simp only [Int64.lt_iff_toInt_lt, ← Int64.toInt_inj]
  by_cases h : x.toInt < y.toInt
  · simp [h, show ¬ y.toInt < x.toInt by omega, show ¬ x.toInt = y.toInt by omega]
  · by_cases h2 : x.toInt = y.toInt
    · simp [h2]
    · simp [h, h2, show y.toInt < x.toInt by omega]
theorem own_L.cmp {A B : Nat} {i j : Int} {x y : Int64} (a : own_L A i x) (b : own_L B j y) : XT.cmpL x y = own_c3 i j := by
  rw [own_lcmp_c3, a.1, b.1]
end OwnNum
section OwnDiv
open Jvm.FP Jvm.FP.Core
theorem own_quotient {s t : Bool} {c d : Nat} {q r : Int} (hd : d ≠ 0) : quotient b64 (.fin s c q) (.fin t d r) = roundRatio b64 (s != t) c d (q - r) := by
  show (if d = 0 then _ else _) = _
  rw [if_neg hd]
/-- the quotient of i * 2^-k and j is the rounded |i| / |j| * 2^-k -/
theorem own_quot {k A B : Nat} {i j : Int} {x z v : UInt64} (a : own_D k A i x) (b : own_D 0 B j z) (hj : j ≠ 0) (hv : FP.ddiv x z = v) :
    ∃ sg : Bool, val64 v = roundRatio b64 sg i.natAbs j.natAbs (-(k : Int)) ∧ (i ≠ 0 → sg = (decide (i < 0) != decide (j < 0))) := by
  subst hv
  obtain ⟨s, c, q, e1⟩ := a.fin
  obtain ⟨t, d, r, e2⟩ := b.fin
  have w1 : Whole i (.fin s c (q + k)) := by have := a.1; rw [e1] at this; exact this
  have w2 : Whole j (.fin t d r) := by have := b.1; rw [e2, show ((0 : Nat) : Int) = 0 from rfl, own_sh_zero] at this; exact this
  have hd : d ≠ 0 := fun h => hj ((whole_zero w2).mp h)
  refine ⟨s != t, ?_, fun hi => by rw [whole_sign w1 hi, whole_sign w2 hj]⟩
  show val64 (Core.ddiv x z) = _
  rw [val64_ddiv, e1, e2]
  show (if d = 0 then _ else roundRatio b64 (s != t) c d (q - r)) = _
  rw [if_neg hd]
  refine roundRatio_congr (by omega) (by omega) ?_
  have h1 : c * 2 ^ (q + k).toNat = i.natAbs * 2 ^ (-(q + k)).toNat := whole_natAbs w1
  have h2 : d * 2 ^ r.toNat = j.natAbs * 2 ^ (-r).toNat := whole_natAbs w2
  generalize i.natAbs = I at *
  generalize j.natAbs = J at *
  refine Nat.eq_of_mul_eq_mul_right (Nat.two_pow_pos ((-r).toNat + (q + k).toNat)) ?_
  have x1 : c * J * 2 ^ (q - r - -(k : Int)).toNat * 2 ^ ((-r).toNat + (q + k).toNat) = (c * 2 ^ (q + k).toNat) * (J * 2 ^ (-r).toNat) * 2 ^ (q - r - -(k : Int)).toNat := by rw [Nat.pow_add]; ac_rfl
  have x2 : I * d * 2 ^ (-(k : Int) - (q - r)).toNat * 2 ^ ((-r).toNat + (q + k).toNat) = I * d * 2 ^ ((-(q + k)).toNat + r.toNat + (q - r - -(k : Int)).toNat) := by rw [Nat.mul_assoc (I * d), ← Nat.pow_add]; congr 2; omega
  rw [x1, x2, h1, ← h2, Nat.pow_add, Nat.pow_add]; ac_rfl
theorem own_quot_nn {k A B : Nat} {i j : Int} {x z v : UInt64} (a : own_D k A i x) (b : own_D 0 B j z) (hj : j ≠ 0) (hv : FP.ddiv x z = v) : Jvm.Free.Fl.NoNaN64 v := by
  obtain ⟨sg, e, -⟩ := own_quot a b hj hv
  exact Jvm.Free.Fl.val64_no.mpr (by rw [e]; exact roundRatio_ne_nan _ _ _ _ _)
theorem own_round_zero (sg : Bool) (d : Nat) (e : Int) : roundRatio b64 sg 0 d e = .fin sg 0 b64.qmin := by unfold roundRatio; rw [if_pos rfl]
/-- two quotients of equal whole numbers compare as equal -/
theorem own_quot_eq {k A B A' B' : Nat} {i j : Int} {x y z w v u : UInt64} (a : own_D k A i x) (b : own_D 0 B j z) (a' : own_D k A' i y) (b' : own_D 0 B' j w) (hj : j ≠ 0) (hv : FP.ddiv x z = v) (hu : FP.ddiv y w = u) : FP.dcmp v u = some .eq := by
  obtain ⟨s1, e1, f1⟩ := own_quot a b hj hv
  obtain ⟨s2, e2, f2⟩ := own_quot a' b' hj hu
  by_cases hi : i = 0
  · subst hi
    have d1 := own_D.zero (x := v) (s := s1) (by rw [e1]; exact own_round_zero ..) 0
    have d2 := own_D.zero (x := u) (s := s2) (by rw [e2]; exact own_round_zero ..) 0
    rw [d1.dcmp d2]; rfl
  · have e3 : s1 = s2 := (f1 hi).trans (f2 hi).symm
    subst e3
    have e4 : v = u := val64_inj (by rw [e1]; exact roundRatio_ne_nan _ _ _ _ _) (e1.trans e2.symm)
    subst e4
    exact dcmp_self (by rw [e1]; exact roundRatio_ne_nan _ _ _ _ _)
theorem own_quot_cmp {k A B A' B' : Nat} {i j : Int} {x y z w v u : UInt64} (a : own_D k A i x) (b : own_D 0 B j z) (a' : own_D k A' i y) (b' : own_D 0 B' j w) (hj : j ≠ 0) (hv : FP.ddiv x z = v) (hu : FP.ddiv y w = u) {o : CmpOp} : cmpValue (FP.dcmp v u) o = 0 := by
  rw [own_quot_eq a b a' b' hj hv hu]; rfl
theorem own_D.of_eq {k A : Nat} {i j : Int} {x : UInt64} (a : own_D k A i x) (h : i = j) : own_D k A j x := h ▸ a
/-- a quotient by a power of two is exact -/
theorem own_D.divp {k r t A B P : Nat} {i : Int} {x z v : UInt64} (a : own_D k A i x) (b : own_D 0 B (P : Int) z) (hP : P = 2 ^ r) (hv : FP.ddiv x z = v) (hA : A < 9007199254740992) (ht : k + r = t) (hk : t ≤ 1074) : own_D t A i v := by
  subst ht
  have p := Nat.two_pow_pos r
  have hj : (P : Int) ≠ 0 := by omega
  obtain ⟨sg, e, f⟩ := own_quot a b hj hv
  refine ⟨?_, a.2⟩
  have e2 : roundRatio b64 sg i.natAbs ((P : Int)).natAbs (-(k : Int)) = roundRatio b64 sg i.natAbs 1 (-((k + r : Nat) : Int)) := by
    refine roundRatio_congr (by omega) (by decide) ?_
    rw [Int.natAbs_natCast, hP, show (-(k : Int) - -((k + r : Nat) : Int)).toNat = r by omega, show (-((k + r : Nat) : Int) - -(k : Int)).toNat = 0 by omega]
    simp
  rw [e, e2]
  refine own_round_core (c := 0) (q := 0) hk (by have := a.2; omega) fun hi => ?_
  rw [f hi, show decide ((P : Int) < 0) = false by simp]
  cases decide (i < 0) <;> rfl
theorem own_ushr_nn {x q v : Int32} {k : Nat} (hv : XT.ushr x q = v) (hk : q.toBitVec.toNat % 32 = k) (h0 : 0 < k) : 0 ≤ v.toInt := by
  subst hv
  have := c_iushr x q k hk h0
  show 0 ≤ ((x.toUInt32 >>> (q &&& 31).toUInt32).toInt32).toInt
  rw [this]
  exact Int.ediv_nonneg (Int.emod_nonneg _ (by decide)) (Int.natCast_nonneg _)
theorem own_irem_bd {x y v : Int32} {d : Int} (hv : x % y = v) (hx : 0 ≤ x.toInt) (hy : y.toInt = d) (hd : 0 < d) : 0 ≤ v.toInt ∧ v.toInt < d := by
  subst hv
  rw [(c_irem x y d hy).1 hx]
  exact ⟨Int.emod_nonneg _ (by omega), Int.emod_lt_of_pos _ hd⟩
end OwnDiv
theorem own_d_prog_24_method_1_code_0 : decode prog_24_method_1_code 0 = .ok (.aload_n 0, 1) := by decide +kernel
theorem own_d_prog_24_method_1_code_1 : decode prog_24_method_1_code 1 = .ok (.invokespecial 1, 3) := by decide +kernel
theorem own_d_prog_24_method_1_code_4 : decode prog_24_method_1_code 4 = .ok (.return_, 1) := by decide +kernel
theorem own_pd0 : parseMethodDescriptor "()V" = some ⟨[], none⟩ := by decide +kernel
theorem own_pn0 : plainName "com/example/volstat/volstat/garch/ErrorLaw" = true := by first | (simp [plainName, overriddenIn]; done) | decide +kernel
abbrev own_rm_own_ei : Room := ({ frames := 1, cells := 0, slots := 0, locals := 12 } : Room)
set_option maxRecDepth 65536 in
set_option maxHeartbeats 40000000 in
theorem own_ei (l : Launch) (Z : State) (a0 : Array Value) (hw : ∀ d ∈ tables_1, d.before a0 Z = true) (a1 : Addr) (h0 : Heap) (n0 : Nat) (Z0 : n0 ≤ h0.size)  :
    own_Met l Z ({ cls := "com/example/volstat/volstat/garch/ErrorLaw", name := "<init>", desc := "()V" } : Jvm.MethodName) prog_24_method_1_code 1 none [] own_rm_own_ei #[(.ref a1)] h0 n0 (fun v h => v = none ∧ h = h0) := by
  refine own_meet (plainFor_of_name own_pn0) Z0 (Ls0 := #[.val (.ref a1)]) (by intro m; first | (simp [entryFrame, mkF, argsToLocals, Value.category]; done) | rfl) ?_
  intro p e s m below meth c T0 X0
  refine own_aloadN X0 rfl rfl own_d_prog_24_method_1_code_0 (pc' := 1) rfl ?_
  refine own_initO X0 (hw _ (List.mem_of_getElem? (i := 13) rfl)) (hw _ (List.mem_of_getElem? (i := 14) rfl)) (hw _ (List.mem_of_getElem? (i := 15) rfl)) rfl (by decide) (W := 0) (Nat.le_of_eq rfl) (by decide) own_d_prog_24_method_1_code_1 (pc' := 4) rfl fun T1 X1 => ?_
  exact own_retV X1  own_d_prog_24_method_1_code_4 rfl (by decide) (by decide) ⟨rfl, rfl⟩
theorem own_d_prog_47_method_1_code_0 : decode prog_47_method_1_code 0 = .ok (.aload_n 0, 1) := by decide +kernel
theorem own_d_prog_47_method_1_code_1 : decode prog_47_method_1_code 1 = .ok (.invokespecial 1, 3) := by decide +kernel
theorem own_d_prog_47_method_1_code_4 : decode prog_47_method_1_code 4 = .ok (.return_, 1) := by decide +kernel
theorem own_pn1 : plainName "com/example/volstat/volstat/garch/NormalErrors" = true := by first | (simp [plainName, overriddenIn]; done) | decide +kernel
abbrev own_rm_own_ni : Room := ({ frames := 2, cells := 0, slots := 0, locals := 24 } : Room)
set_option maxRecDepth 65536 in
set_option maxHeartbeats 40000000 in
theorem own_ni (l : Launch) (Z : State) (a0 : Array Value) (hw : ∀ d ∈ tables_1, d.before a0 Z = true) (a1 : Addr) (h0 : Heap) (n0 : Nat) (Z0 : n0 ≤ h0.size)  :
    own_Met l Z ({ cls := "com/example/volstat/volstat/garch/NormalErrors", name := "<init>", desc := "()V" } : Jvm.MethodName) prog_47_method_1_code 1 none [] own_rm_own_ni #[(.ref a1)] h0 n0 (fun v h => v = none ∧ h = h0) := by
  refine own_meet (plainFor_of_name own_pn1) Z0 (Ls0 := #[.val (.ref a1)]) (by intro m; first | (simp [entryFrame, mkF, argsToLocals, Value.category]; done) | rfl) ?_
  intro p e s m below meth c T0 X0
  refine own_aloadN X0 rfl rfl own_d_prog_47_method_1_code_0 (pc' := 1) rfl ?_
  refine own_special X0 (own_ei l Z a0 hw a1 _ n0 X0.le) rfl rfl (hw _ (List.mem_of_getElem? (i := 8) rfl)) (hw _ (List.mem_of_getElem? (i := 9) rfl)) (hw _ (List.mem_of_getElem? (i := 11) rfl)) (hw _ (List.mem_of_getElem? (i := 12) rfl)) (by decide) rfl (by decide) (W := 0) (Nat.le_of_eq rfl) (by decide) (cells' := 0) (slots' := 0) rfl rfl (by decide) (by decide) (argsL := []) (rest := []) (lenOf own_pd0 rfl) rfl rfl own_d_prog_47_method_1_code_1 (pc' := 4) rfl ?_
  rintro _ T2 h2 X2 ⟨rfl, e2⟩
  subst e2
  show own_Goal p e below _ T2 (mkF m 4 #[.val (.ref a1)] [])
  exact own_retV X2  own_d_prog_47_method_1_code_4 rfl (by decide) (by decide) ⟨rfl, rfl⟩
theorem own_d_prog_47_method_4_code_0 : decode prog_47_method_4_code 0 = .ok (.iconst 0, 1) := by decide +kernel
theorem own_d_prog_47_method_4_code_1 : decode prog_47_method_4_code 1 = .ok (.istore 5, 2) := by decide +kernel
theorem own_d_prog_47_method_4_code_3 : decode prog_47_method_4_code 3 = .ok (.iload 5, 2) := by decide +kernel
theorem own_d_prog_47_method_4_code_5 : decode prog_47_method_4_code 5 = .ok (.aload_n 1, 1) := by decide +kernel
theorem own_d_prog_47_method_4_code_6 : decode prog_47_method_4_code 6 = .ok (.arraylength, 1) := by decide +kernel
theorem own_d_prog_47_method_4_code_7 : decode prog_47_method_4_code 7 = .ok (.if_icmp .ge 54, 3) := by decide +kernel
theorem own_d_prog_47_method_4_code_10 : decode prog_47_method_4_code 10 = .ok (.aload_n 2, 1) := by decide +kernel
theorem own_d_prog_47_method_4_code_11 : decode prog_47_method_4_code 11 = .ok (.iload 5, 2) := by decide +kernel
theorem own_d_prog_47_method_4_code_13 : decode prog_47_method_4_code 13 = .ok (.daload, 1) := by decide +kernel
theorem own_d_prog_47_method_4_code_14 : decode prog_47_method_4_code 14 = .ok (.dstore 6, 2) := by decide +kernel
theorem own_d_prog_47_method_4_code_16 : decode prog_47_method_4_code 16 = .ok (.aload_n 1, 1) := by decide +kernel
theorem own_d_prog_47_method_4_code_17 : decode prog_47_method_4_code 17 = .ok (.iload 5, 2) := by decide +kernel
theorem own_d_prog_47_method_4_code_19 : decode prog_47_method_4_code 19 = .ok (.daload, 1) := by decide +kernel
theorem own_d_prog_47_method_4_code_20 : decode prog_47_method_4_code 20 = .ok (.dload 6, 2) := by decide +kernel
theorem own_d_prog_47_method_4_code_22 : decode prog_47_method_4_code 22 = .ok (.dmul, 1) := by decide +kernel
theorem own_d_prog_47_method_4_code_23 : decode prog_47_method_4_code 23 = .ok (.dstore 8, 2) := by decide +kernel
theorem own_d_prog_47_method_4_code_25 : decode prog_47_method_4_code 25 = .ok (.aload_n 3, 1) := by decide +kernel
theorem own_d_prog_47_method_4_code_26 : decode prog_47_method_4_code 26 = .ok (.iload 5, 2) := by decide +kernel
theorem own_d_prog_47_method_4_code_28 : decode prog_47_method_4_code 28 = .ok (.dload 8, 2) := by decide +kernel
theorem own_d_prog_47_method_4_code_30 : decode prog_47_method_4_code 30 = .ok (.dconst 1, 1) := by decide +kernel
theorem own_d_prog_47_method_4_code_31 : decode prog_47_method_4_code 31 = .ok (.dsub, 1) := by decide +kernel
theorem own_d_prog_47_method_4_code_32 : decode prog_47_method_4_code 32 = .ok (.dload 6, 2) := by decide +kernel
theorem own_d_prog_47_method_4_code_34 : decode prog_47_method_4_code 34 = .ok (.dmul, 1) := by decide +kernel
theorem own_d_prog_47_method_4_code_35 : decode prog_47_method_4_code 35 = .ok (.dastore, 1) := by decide +kernel
theorem own_d_prog_47_method_4_code_36 : decode prog_47_method_4_code 36 = .ok (.aload 4, 2) := by decide +kernel
theorem own_d_prog_47_method_4_code_38 : decode prog_47_method_4_code 38 = .ok (.iload 5, 2) := by decide +kernel
theorem own_d_prog_47_method_4_code_40 : decode prog_47_method_4_code 40 = .ok (.dconst 1, 1) := by decide +kernel
theorem own_d_prog_47_method_4_code_41 : decode prog_47_method_4_code 41 = .ok (.ldc2_w 13, 3) := by decide +kernel
theorem own_d_prog_47_method_4_code_44 : decode prog_47_method_4_code 44 = .ok (.dload 8, 2) := by decide +kernel
theorem own_d_prog_47_method_4_code_46 : decode prog_47_method_4_code 46 = .ok (.dmul, 1) := by decide +kernel
theorem own_d_prog_47_method_4_code_47 : decode prog_47_method_4_code 47 = .ok (.dsub, 1) := by decide +kernel
theorem own_d_prog_47_method_4_code_48 : decode prog_47_method_4_code 48 = .ok (.dload 6, 2) := by decide +kernel
theorem own_d_prog_47_method_4_code_50 : decode prog_47_method_4_code 50 = .ok (.dmul, 1) := by decide +kernel
theorem own_d_prog_47_method_4_code_51 : decode prog_47_method_4_code 51 = .ok (.dload 6, 2) := by decide +kernel
theorem own_d_prog_47_method_4_code_53 : decode prog_47_method_4_code 53 = .ok (.dmul, 1) := by decide +kernel
theorem own_d_prog_47_method_4_code_54 : decode prog_47_method_4_code 54 = .ok (.dastore, 1) := by decide +kernel
theorem own_d_prog_47_method_4_code_55 : decode prog_47_method_4_code 55 = .ok (.iinc 5 1, 3) := by decide +kernel
theorem own_d_prog_47_method_4_code_58 : decode prog_47_method_4_code 58 = .ok (.goto (-55), 3) := by decide +kernel
theorem own_d_prog_47_method_4_code_61 : decode prog_47_method_4_code 61 = .ok (.return_, 1) := by decide +kernel
theorem own_pd1 : parseMethodDescriptor "([D[D[D[D)V" = some ⟨[(.array .double), (.array .double), (.array .double), (.array .double)], none⟩ := by decide +kernel
abbrev own_rm_own_vd : Room := ({ frames := 0, cells := 0, slots := 0, locals := 0 } : Room)
set_option maxRecDepth 65536 in
set_option maxHeartbeats 40000000 in
theorem own_vd (l : Launch) (Z : State) (a0 : Array Value) (hw : ∀ d ∈ tables_1, d.before a0 Z = true) (a9 : Addr) (a1 : Addr) (a2 : Addr) (a3 : Addr) (a4 : Addr) (s0 : UInt64) (i_s0 : Int) (s1 : UInt64) (i_s1 : Int) (v0 : UInt64) (i_v0 : Int) (v1 : UInt64) (i_v1 : Int) (e0 : UInt64) (i_e0 : Int) (h0 : Heap) (n0 : Nat) (Z0 : n0 ≤ h0.size) (V_a1 : own_Vec Z h0 a1 .double [(.double s0), (.double s1)]) (V_a2 : own_Vec Z h0 a2 .double [(.double v0), (.double v1)]) (V_a3 : own_Vec Z h0 a3 .double [(.double (0 : UInt64)), (.double (0 : UInt64)), (.double e0)]) (ge_a3 : n0 ≤ a3) (V_a4 : own_Vec Z h0 a4 .double [(.double (0 : UInt64)), (.double (0 : UInt64)), (.double e0)]) (ge_a4 : n0 ≤ a4) (ne_a1_a3 : a1 ≠ a3) (ne_a1_a4 : a1 ≠ a4) (ne_a2_a3 : a2 ≠ a3) (ne_a2_a4 : a2 ≠ a4) (ne_a3_a4 : a3 ≠ a4) (D_s0 : own_D 0 1048575 i_s0 s0) (D_s1 : own_D 0 1048575 i_s1 s1) (D_v0 : own_D 0 1024 i_v0 v0) (D_v1 : own_D 0 1024 i_v1 v1) (D_e0 : own_D 0 2147483648 i_e0 e0) :
    own_Met l Z ({ cls := "com/example/volstat/volstat/garch/NormalErrors", name := "varianceDerivatives", desc := "([D[D[D[D)V" } : Jvm.MethodName) prog_47_method_4_code 10 none [] own_rm_own_vd #[(.ref a9), (.ref a1), (.ref a2), (.ref a3), (.ref a4)] h0 n0 (fun v h => v = none ∧ ∃ w_a3_0 w_a3_1 w_a3_2 w_a4_0 w_a4_1 w_a4_2, own_Vec Z h a1 .double [(.double s0), (.double s1)] ∧ own_Vec Z h a2 .double [(.double v0), (.double v1)] ∧ own_Vec Z h a3 .double [.double w_a3_0, .double w_a3_1, .double w_a3_2] ∧ own_Vec Z h a4 .double [.double w_a4_0, .double w_a4_1, .double w_a4_2] ∧ own_D 0 1099510580224 (((i_s0 * i_v0) - (1 : Int)) * i_v0) w_a3_0 ∧ own_D 0 1099510580224 (((i_s1 * i_v1) - (1 : Int)) * i_v1) w_a3_1 ∧ own_D 0 2147483648 i_e0 w_a3_2 ∧ own_D 0 2251797667250176 ((((1 : Int) - ((2 : Int) * (i_s0 * i_v0))) * i_v0) * i_v0) w_a4_0 ∧ own_D 0 2251797667250176 ((((1 : Int) - ((2 : Int) * (i_s1 * i_v1))) * i_v1) * i_v1) w_a4_1 ∧ own_D 0 2147483648 i_e0 w_a4_2) := by
  refine own_meet (plainFor_of_name own_pn1) Z0 (Ls0 := #[.val (.ref a9), .val (.ref a1), .val (.ref a2), .val (.ref a3), .val (.ref a4), .unset, .unset, .unset, .unset, .unset]) (by intro m; first | (simp [entryFrame, mkF, argsToLocals, Value.category]; done) | rfl) ?_
  intro p e s m below meth c T0 X0
  refine own_iconst X0 (v := (0 : Int32)) (by decide) own_d_prog_47_method_4_code_0 (pc' := 1) rfl ?_
  refine own_istore X0 (Ls' := #[.val (.ref a9), .val (.ref a1), .val (.ref a2), .val (.ref a3), .val (.ref a4), .val (.int (0 : Int32)), .unset, .unset, .unset, .unset]) rfl own_d_prog_47_method_4_code_1 (pc' := 3) rfl ?_
  refine own_iload X0 rfl own_d_prog_47_method_4_code_3 (pc' := 5) rfl ?_
  refine own_aloadN X0 rfl rfl own_d_prog_47_method_4_code_5 (pc' := 6) rfl ?_
  refine own_len X0 V_a1 (v := (2 : Int32)) (show (2 : Nat).toInt32 = (2 : Int32) by decide) own_d_prog_47_method_4_code_6 (pc' := 7) rfl ?_
  refine own_icmpF X0 (by decide) own_d_prog_47_method_4_code_7 (pc' := 10) rfl ?_
  refine own_aloadN X0 rfl rfl own_d_prog_47_method_4_code_10 (pc' := 11) rfl ?_
  refine own_iload X0 rfl own_d_prog_47_method_4_code_11 (pc' := 13) rfl ?_
  refine own_daload X0 V_a2 (i := 0) (by decide) (by decide) rfl own_d_prog_47_method_4_code_13 (pc' := 14) rfl ?_
  refine own_dstore X0 (Ls' := #[.val (.ref a9), .val (.ref a1), .val (.ref a2), .val (.ref a3), .val (.ref a4), .val (.int (0 : Int32)), .val (.double v0), .second, .unset, .unset]) rfl own_d_prog_47_method_4_code_14 (pc' := 16) rfl ?_
  refine own_aloadN X0 rfl rfl own_d_prog_47_method_4_code_16 (pc' := 17) rfl ?_
  refine own_iload X0 rfl own_d_prog_47_method_4_code_17 (pc' := 19) rfl ?_
  refine own_daload X0 V_a1 (i := 0) (by decide) (by decide) rfl own_d_prog_47_method_4_code_19 (pc' := 20) rfl ?_
  refine own_dload X0 rfl own_d_prog_47_method_4_code_20 (pc' := 22) rfl ?_
  obtain ⟨d39, e39⟩ : ∃ v, FP.dmul s0 v0 = v := ⟨_, rfl⟩
  have f39 : own_D 0 1073740800 (i_s0 * i_v0) d39 := own_D.mul D_s0 D_v0 e39 (by decide) (by decide) (by decide) (by decide)
  refine own_dmul X0 e39 f39.nn own_d_prog_47_method_4_code_22 (pc' := 23) rfl ?_
  refine own_dstore X0 (Ls' := #[.val (.ref a9), .val (.ref a1), .val (.ref a2), .val (.ref a3), .val (.ref a4), .val (.int (0 : Int32)), .val (.double v0), .second, .val (.double d39), .second]) rfl own_d_prog_47_method_4_code_23 (pc' := 25) rfl ?_
  refine own_aloadN X0 rfl rfl own_d_prog_47_method_4_code_25 (pc' := 26) rfl ?_
  refine own_iload X0 rfl own_d_prog_47_method_4_code_26 (pc' := 28) rfl ?_
  refine own_dload X0 rfl own_d_prog_47_method_4_code_28 (pc' := 30) rfl ?_
  refine own_dconst1 X0 (v := (4607182418800017408 : UInt64)) rfl own_d_prog_47_method_4_code_30 (pc' := 31) rfl ?_
  have f41 : own_D 0 1 (1 : Int) (4607182418800017408 : UInt64) := own_D.lit (s := false) (c := 4503599627370496) (q := -52) (by decide +kernel) (by decide +kernel) (by decide)
  obtain ⟨d40, e40⟩ : ∃ v, FP.dsub d39 (4607182418800017408 : UInt64) = v := ⟨_, rfl⟩
  have f40 : own_D 0 1073740801 ((i_s0 * i_v0) - (1 : Int)) d40 := own_D.sub f39 f41 e40 (by decide) (by decide) (by decide)
  refine own_dsub X0 e40 f40.nn own_d_prog_47_method_4_code_31 (pc' := 32) rfl ?_
  refine own_dload X0 rfl own_d_prog_47_method_4_code_32 (pc' := 34) rfl ?_
  obtain ⟨d42, e42⟩ : ∃ v, FP.dmul d40 v0 = v := ⟨_, rfl⟩
  have f42 : own_D 0 1099510580224 (((i_s0 * i_v0) - (1 : Int)) * i_v0) d42 := own_D.mul f40 D_v0 e42 (by decide) (by decide) (by decide) (by decide)
  refine own_dmul X0 e42 f42.nn own_d_prog_47_method_4_code_34 (pc' := 35) rfl ?_
  refine own_dastore X0 V_a3 ge_a3 (i := 0) (by decide) (by decide) (show 0 < 3 by decide) own_d_prog_47_method_4_code_35 (pc' := 36) rfl fun T43 h43 X43 W43 V43 => ?_
  have V44 := V_a1.other W43 ne_a1_a3
  have V45 := V_a2.other W43 ne_a2_a3
  have V46 := V_a4.other W43 ne_a3_a4.symm
  replace V43 : own_Vec Z h43 a3 .double [(.double d42), (.double (0 : UInt64)), (.double e0)] := V43
  refine own_aload X43 rfl rfl own_d_prog_47_method_4_code_36 (pc' := 38) rfl ?_
  refine own_iload X43 rfl own_d_prog_47_method_4_code_38 (pc' := 40) rfl ?_
  refine own_dconst1 X43 (v := (4607182418800017408 : UInt64)) rfl own_d_prog_47_method_4_code_40 (pc' := 41) rfl ?_
  refine own_ldcD X43 (v := (4611686018427387904 : UInt64)) (hw _ (List.mem_of_getElem? (i := 21) rfl)) own_d_prog_47_method_4_code_41 (pc' := 44) rfl ?_
  refine own_dload X43 rfl own_d_prog_47_method_4_code_44 (pc' := 46) rfl ?_
  have f48 : own_D 0 2 (2 : Int) (4611686018427387904 : UInt64) := own_D.lit (s := false) (c := 4503599627370496) (q := -51) (by decide +kernel) (by decide +kernel) (by decide)
  obtain ⟨d47, e47⟩ : ∃ v, FP.dmul (4611686018427387904 : UInt64) d39 = v := ⟨_, rfl⟩
  have f47 : own_D 0 2147481600 ((2 : Int) * (i_s0 * i_v0)) d47 := own_D.mul f48 f39 e47 (by decide) (by decide) (by decide) (by decide)
  refine own_dmul X43 e47 f47.nn own_d_prog_47_method_4_code_46 (pc' := 47) rfl ?_
  have f50 : own_D 0 1 (1 : Int) (4607182418800017408 : UInt64) := own_D.lit (s := false) (c := 4503599627370496) (q := -52) (by decide +kernel) (by decide +kernel) (by decide)
  obtain ⟨d49, e49⟩ : ∃ v, FP.dsub (4607182418800017408 : UInt64) d47 = v := ⟨_, rfl⟩
  have f49 : own_D 0 2147481601 ((1 : Int) - ((2 : Int) * (i_s0 * i_v0))) d49 := own_D.sub f50 f47 e49 (by decide) (by decide) (by decide)
  refine own_dsub X43 e49 f49.nn own_d_prog_47_method_4_code_47 (pc' := 48) rfl ?_
  refine own_dload X43 rfl own_d_prog_47_method_4_code_48 (pc' := 50) rfl ?_
  obtain ⟨d51, e51⟩ : ∃ v, FP.dmul d49 v0 = v := ⟨_, rfl⟩
  have f51 : own_D 0 2199021159424 (((1 : Int) - ((2 : Int) * (i_s0 * i_v0))) * i_v0) d51 := own_D.mul f49 D_v0 e51 (by decide) (by decide) (by decide) (by decide)
  refine own_dmul X43 e51 f51.nn own_d_prog_47_method_4_code_50 (pc' := 51) rfl ?_
  refine own_dload X43 rfl own_d_prog_47_method_4_code_51 (pc' := 53) rfl ?_
  obtain ⟨d52, e52⟩ : ∃ v, FP.dmul d51 v0 = v := ⟨_, rfl⟩
  have f52 : own_D 0 2251797667250176 ((((1 : Int) - ((2 : Int) * (i_s0 * i_v0))) * i_v0) * i_v0) d52 := own_D.mul f51 D_v0 e52 (by decide) (by decide) (by decide) (by decide)
  refine own_dmul X43 e52 f52.nn own_d_prog_47_method_4_code_53 (pc' := 54) rfl ?_
  refine own_dastore X43 V46 ge_a4 (i := 0) (by decide) (by decide) (show 0 < 3 by decide) own_d_prog_47_method_4_code_54 (pc' := 55) rfl fun T53 h53 X53 W53 V53 => ?_
  have V54 := V44.other W53 ne_a1_a4
  have V55 := V45.other W53 ne_a2_a4
  have V56 := V43.other W53 ne_a3_a4
  replace V53 : own_Vec Z h53 a4 .double [(.double d52), (.double (0 : UInt64)), (.double e0)] := V53
  refine own_iinc X53 (Ls' := #[.val (.ref a9), .val (.ref a1), .val (.ref a2), .val (.ref a3), .val (.ref a4), .val (.int (1 : Int32)), .val (.double v0), .second, .val (.double d39), .second]) rfl (by decide) rfl own_d_prog_47_method_4_code_55 (pc' := 58) rfl ?_
  refine own_goto X53 own_d_prog_47_method_4_code_58 (pc' := 3) (by decide) (by decide) ?_
  refine own_iload X53 rfl own_d_prog_47_method_4_code_3 (pc' := 5) rfl ?_
  refine own_aloadN X53 rfl rfl own_d_prog_47_method_4_code_5 (pc' := 6) rfl ?_
  refine own_len X53 V54 (v := (2 : Int32)) (show (2 : Nat).toInt32 = (2 : Int32) by decide) own_d_prog_47_method_4_code_6 (pc' := 7) rfl ?_
  refine own_icmpF X53 (by decide) own_d_prog_47_method_4_code_7 (pc' := 10) rfl ?_
  refine own_aloadN X53 rfl rfl own_d_prog_47_method_4_code_10 (pc' := 11) rfl ?_
  refine own_iload X53 rfl own_d_prog_47_method_4_code_11 (pc' := 13) rfl ?_
  refine own_daload X53 V55 (i := 1) (by decide) (by decide) rfl own_d_prog_47_method_4_code_13 (pc' := 14) rfl ?_
  refine own_dstore X53 (Ls' := #[.val (.ref a9), .val (.ref a1), .val (.ref a2), .val (.ref a3), .val (.ref a4), .val (.int (1 : Int32)), .val (.double v1), .second, .val (.double d39), .second]) rfl own_d_prog_47_method_4_code_14 (pc' := 16) rfl ?_
  refine own_aloadN X53 rfl rfl own_d_prog_47_method_4_code_16 (pc' := 17) rfl ?_
  refine own_iload X53 rfl own_d_prog_47_method_4_code_17 (pc' := 19) rfl ?_
  refine own_daload X53 V54 (i := 1) (by decide) (by decide) rfl own_d_prog_47_method_4_code_19 (pc' := 20) rfl ?_
  refine own_dload X53 rfl own_d_prog_47_method_4_code_20 (pc' := 22) rfl ?_
  obtain ⟨d57, e57⟩ : ∃ v, FP.dmul s1 v1 = v := ⟨_, rfl⟩
  have f57 : own_D 0 1073740800 (i_s1 * i_v1) d57 := own_D.mul D_s1 D_v1 e57 (by decide) (by decide) (by decide) (by decide)
  refine own_dmul X53 e57 f57.nn own_d_prog_47_method_4_code_22 (pc' := 23) rfl ?_
  refine own_dstore X53 (Ls' := #[.val (.ref a9), .val (.ref a1), .val (.ref a2), .val (.ref a3), .val (.ref a4), .val (.int (1 : Int32)), .val (.double v1), .second, .val (.double d57), .second]) rfl own_d_prog_47_method_4_code_23 (pc' := 25) rfl ?_
  refine own_aloadN X53 rfl rfl own_d_prog_47_method_4_code_25 (pc' := 26) rfl ?_
  refine own_iload X53 rfl own_d_prog_47_method_4_code_26 (pc' := 28) rfl ?_
  refine own_dload X53 rfl own_d_prog_47_method_4_code_28 (pc' := 30) rfl ?_
  refine own_dconst1 X53 (v := (4607182418800017408 : UInt64)) rfl own_d_prog_47_method_4_code_30 (pc' := 31) rfl ?_
  have f59 : own_D 0 1 (1 : Int) (4607182418800017408 : UInt64) := own_D.lit (s := false) (c := 4503599627370496) (q := -52) (by decide +kernel) (by decide +kernel) (by decide)
  obtain ⟨d58, e58⟩ : ∃ v, FP.dsub d57 (4607182418800017408 : UInt64) = v := ⟨_, rfl⟩
  have f58 : own_D 0 1073740801 ((i_s1 * i_v1) - (1 : Int)) d58 := own_D.sub f57 f59 e58 (by decide) (by decide) (by decide)
  refine own_dsub X53 e58 f58.nn own_d_prog_47_method_4_code_31 (pc' := 32) rfl ?_
  refine own_dload X53 rfl own_d_prog_47_method_4_code_32 (pc' := 34) rfl ?_
  obtain ⟨d60, e60⟩ : ∃ v, FP.dmul d58 v1 = v := ⟨_, rfl⟩
  have f60 : own_D 0 1099510580224 (((i_s1 * i_v1) - (1 : Int)) * i_v1) d60 := own_D.mul f58 D_v1 e60 (by decide) (by decide) (by decide) (by decide)
  refine own_dmul X53 e60 f60.nn own_d_prog_47_method_4_code_34 (pc' := 35) rfl ?_
  refine own_dastore X53 V56 ge_a3 (i := 1) (by decide) (by decide) (show 1 < 3 by decide) own_d_prog_47_method_4_code_35 (pc' := 36) rfl fun T61 h61 X61 W61 V61 => ?_
  have V62 := V54.other W61 ne_a1_a3
  have V63 := V55.other W61 ne_a2_a3
  have V64 := V53.other W61 ne_a3_a4.symm
  replace V61 : own_Vec Z h61 a3 .double [(.double d42), (.double d60), (.double e0)] := V61
  refine own_aload X61 rfl rfl own_d_prog_47_method_4_code_36 (pc' := 38) rfl ?_
  refine own_iload X61 rfl own_d_prog_47_method_4_code_38 (pc' := 40) rfl ?_
  refine own_dconst1 X61 (v := (4607182418800017408 : UInt64)) rfl own_d_prog_47_method_4_code_40 (pc' := 41) rfl ?_
  refine own_ldcD X61 (v := (4611686018427387904 : UInt64)) (hw _ (List.mem_of_getElem? (i := 21) rfl)) own_d_prog_47_method_4_code_41 (pc' := 44) rfl ?_
  refine own_dload X61 rfl own_d_prog_47_method_4_code_44 (pc' := 46) rfl ?_
  have f66 : own_D 0 2 (2 : Int) (4611686018427387904 : UInt64) := own_D.lit (s := false) (c := 4503599627370496) (q := -51) (by decide +kernel) (by decide +kernel) (by decide)
  obtain ⟨d65, e65⟩ : ∃ v, FP.dmul (4611686018427387904 : UInt64) d57 = v := ⟨_, rfl⟩
  have f65 : own_D 0 2147481600 ((2 : Int) * (i_s1 * i_v1)) d65 := own_D.mul f66 f57 e65 (by decide) (by decide) (by decide) (by decide)
  refine own_dmul X61 e65 f65.nn own_d_prog_47_method_4_code_46 (pc' := 47) rfl ?_
  have f68 : own_D 0 1 (1 : Int) (4607182418800017408 : UInt64) := own_D.lit (s := false) (c := 4503599627370496) (q := -52) (by decide +kernel) (by decide +kernel) (by decide)
  obtain ⟨d67, e67⟩ : ∃ v, FP.dsub (4607182418800017408 : UInt64) d65 = v := ⟨_, rfl⟩
  have f67 : own_D 0 2147481601 ((1 : Int) - ((2 : Int) * (i_s1 * i_v1))) d67 := own_D.sub f68 f65 e67 (by decide) (by decide) (by decide)
  refine own_dsub X61 e67 f67.nn own_d_prog_47_method_4_code_47 (pc' := 48) rfl ?_
  refine own_dload X61 rfl own_d_prog_47_method_4_code_48 (pc' := 50) rfl ?_
  obtain ⟨d69, e69⟩ : ∃ v, FP.dmul d67 v1 = v := ⟨_, rfl⟩
  have f69 : own_D 0 2199021159424 (((1 : Int) - ((2 : Int) * (i_s1 * i_v1))) * i_v1) d69 := own_D.mul f67 D_v1 e69 (by decide) (by decide) (by decide) (by decide)
  refine own_dmul X61 e69 f69.nn own_d_prog_47_method_4_code_50 (pc' := 51) rfl ?_
  refine own_dload X61 rfl own_d_prog_47_method_4_code_51 (pc' := 53) rfl ?_
  obtain ⟨d70, e70⟩ : ∃ v, FP.dmul d69 v1 = v := ⟨_, rfl⟩
  have f70 : own_D 0 2251797667250176 ((((1 : Int) - ((2 : Int) * (i_s1 * i_v1))) * i_v1) * i_v1) d70 := own_D.mul f69 D_v1 e70 (by decide) (by decide) (by decide) (by decide)
  refine own_dmul X61 e70 f70.nn own_d_prog_47_method_4_code_53 (pc' := 54) rfl ?_
  refine own_dastore X61 V64 ge_a4 (i := 1) (by decide) (by decide) (show 1 < 3 by decide) own_d_prog_47_method_4_code_54 (pc' := 55) rfl fun T71 h71 X71 W71 V71 => ?_
  have V72 := V62.other W71 ne_a1_a4
  have V73 := V63.other W71 ne_a2_a4
  have V74 := V61.other W71 ne_a3_a4
  replace V71 : own_Vec Z h71 a4 .double [(.double d52), (.double d70), (.double e0)] := V71
  refine own_iinc X71 (Ls' := #[.val (.ref a9), .val (.ref a1), .val (.ref a2), .val (.ref a3), .val (.ref a4), .val (.int (2 : Int32)), .val (.double v1), .second, .val (.double d57), .second]) rfl (by decide) rfl own_d_prog_47_method_4_code_55 (pc' := 58) rfl ?_
  refine own_goto X71 own_d_prog_47_method_4_code_58 (pc' := 3) (by decide) (by decide) ?_
  refine own_iload X71 rfl own_d_prog_47_method_4_code_3 (pc' := 5) rfl ?_
  refine own_aloadN X71 rfl rfl own_d_prog_47_method_4_code_5 (pc' := 6) rfl ?_
  refine own_len X71 V72 (v := (2 : Int32)) (show (2 : Nat).toInt32 = (2 : Int32) by decide) own_d_prog_47_method_4_code_6 (pc' := 7) rfl ?_
  refine own_icmpT X71 (by decide) own_d_prog_47_method_4_code_7 (pc' := 61) (by decide) (by decide) ?_
  exact own_retV X71  own_d_prog_47_method_4_code_61 rfl (by decide) (by decide) ⟨rfl, _, _, _, _, _, _, V72, V73, V74, V71, f42, f60, D_e0, f52, f70, D_e0⟩
theorem own_d_method_3_code_0 : decode method_3_code 0 = .ok (.lload_n 0, 1) := by decide +kernel
theorem own_d_method_3_code_1 : decode method_3_code 1 = .ok (.lload_n 2, 1) := by decide +kernel
theorem own_d_method_3_code_2 : decode method_3_code 2 = .ok (.lmul, 1) := by decide +kernel
theorem own_d_method_3_code_3 : decode method_3_code 3 = .ok (.lload_n 2, 1) := by decide +kernel
theorem own_d_method_3_code_4 : decode method_3_code 4 = .ok (.lmul, 1) := by decide +kernel
theorem own_d_method_3_code_5 : decode method_3_code 5 = .ok (.lload_n 2, 1) := by decide +kernel
theorem own_d_method_3_code_6 : decode method_3_code 6 = .ok (.lsub, 1) := by decide +kernel
theorem own_d_method_3_code_7 : decode method_3_code 7 = .ok (.l2d, 1) := by decide +kernel
theorem own_d_method_3_code_8 : decode method_3_code 8 = .ok (.dreturn, 1) := by decide +kernel
theorem own_pd2 : parseMethodDescriptor "(JJ)D" = some ⟨[.long, .long], some .double⟩ := by decide +kernel
theorem own_pn2 : plainName "com/example/volstat/volstat/garch/NormalErrorsVarianceDerivativesPinLaw" = true := by first | (simp [plainName, overriddenIn]; done) | decide +kernel
abbrev own_rm_own_sref : Room := ({ frames := 0, cells := 0, slots := 0, locals := 0 } : Room)
set_option maxRecDepth 65536 in
set_option maxHeartbeats 40000000 in
theorem own_sref (l : Launch) (Z : State) (a0 : Array Value) (hw : ∀ d ∈ tables_1, d.before a0 Z = true) (y0 y1 : Int64) (i_y0 i_y1 : Int) (h0 : Heap) (n0 : Nat) (Z0 : n0 ≤ h0.size) (L0 : own_L 1048575 i_y0 y0) (L1 : own_L 1024 i_y1 y1) :
    own_Met l Z ({ cls := "com/example/volstat/volstat/garch/NormalErrorsVarianceDerivativesPinLaw", name := "slopeRef", desc := "(JJ)D" } : Jvm.MethodName) method_3_code 4 (some .double) [] own_rm_own_sref #[(.long y0), (.long y1)] h0 n0 (fun v h => (∃ r, v = some (.double r) ∧ own_D 0 1099510580224 (((i_y0 * i_y1) * i_y1) - i_y1) r) ∧ h = h0) := by
  refine own_meet (plainFor_of_name own_pn2) Z0 (Ls0 := #[.val (.long y0), .second, .val (.long y1), .second]) (by intro m; first | (simp [entryFrame, mkF, argsToLocals, Value.category]; done) | rfl) ?_
  intro p e s m below meth c T0 X0
  refine own_lloadN X0 rfl own_d_method_3_code_0 (pc' := 1) rfl ?_
  refine own_lloadN X0 rfl own_d_method_3_code_1 (pc' := 2) rfl ?_
  obtain ⟨j79, e79⟩ : ∃ v, y0 * y1 = v := ⟨_, rfl⟩
  have f79 : own_L 1073740800 (i_y0 * i_y1) j79 := L0.mul L1 e79 (by decide) (by decide)
  refine own_lmul X0 e79 own_d_method_3_code_2 (pc' := 3) rfl ?_
  refine own_lloadN X0 rfl own_d_method_3_code_3 (pc' := 4) rfl ?_
  obtain ⟨j80, e80⟩ : ∃ v, j79 * y1 = v := ⟨_, rfl⟩
  have f80 : own_L 1099510579200 ((i_y0 * i_y1) * i_y1) j80 := f79.mul L1 e80 (by decide) (by decide)
  refine own_lmul X0 e80 own_d_method_3_code_4 (pc' := 5) rfl ?_
  refine own_lloadN X0 rfl own_d_method_3_code_5 (pc' := 6) rfl ?_
  obtain ⟨j81, e81⟩ : ∃ v, j80 - y1 = v := ⟨_, rfl⟩
  have f81 : own_L 1099510580224 (((i_y0 * i_y1) * i_y1) - i_y1) j81 := f80.sub L1 e81 (by decide) (by decide)
  refine own_lsub X0 e81 own_d_method_3_code_6 (pc' := 7) rfl ?_
  obtain ⟨d82, e82⟩ : ∃ v, FP.l2d j81 = v := ⟨_, rfl⟩
  have f82 : own_D 0 1099510580224 (((i_y0 * i_y1) * i_y1) - i_y1) d82 := own_D.l2d f81 e82 (by decide)
  refine own_l2d X0 e82 own_d_method_3_code_7 (pc' := 8) rfl ?_
  exact own_retD X0  own_d_method_3_code_8 rfl (by decide) (by decide) ⟨⟨_, rfl, f82⟩, rfl⟩
theorem own_d_method_4_code_0 : decode method_4_code 0 = .ok (.lload_n 2, 1) := by decide +kernel
theorem own_d_method_4_code_1 : decode method_4_code 1 = .ok (.lload_n 2, 1) := by decide +kernel
theorem own_d_method_4_code_2 : decode method_4_code 2 = .ok (.lmul, 1) := by decide +kernel
theorem own_d_method_4_code_3 : decode method_4_code 3 = .ok (.ldc2_w 24, 3) := by decide +kernel
theorem own_d_method_4_code_6 : decode method_4_code 6 = .ok (.lload_n 0, 1) := by decide +kernel
theorem own_d_method_4_code_7 : decode method_4_code 7 = .ok (.lmul, 1) := by decide +kernel
theorem own_d_method_4_code_8 : decode method_4_code 8 = .ok (.lload_n 2, 1) := by decide +kernel
theorem own_d_method_4_code_9 : decode method_4_code 9 = .ok (.lmul, 1) := by decide +kernel
theorem own_d_method_4_code_10 : decode method_4_code 10 = .ok (.lload_n 2, 1) := by decide +kernel
theorem own_d_method_4_code_11 : decode method_4_code 11 = .ok (.lmul, 1) := by decide +kernel
theorem own_d_method_4_code_12 : decode method_4_code 12 = .ok (.lload_n 2, 1) := by decide +kernel
theorem own_d_method_4_code_13 : decode method_4_code 13 = .ok (.lmul, 1) := by decide +kernel
theorem own_d_method_4_code_14 : decode method_4_code 14 = .ok (.lsub, 1) := by decide +kernel
theorem own_d_method_4_code_15 : decode method_4_code 15 = .ok (.l2d, 1) := by decide +kernel
theorem own_d_method_4_code_16 : decode method_4_code 16 = .ok (.dreturn, 1) := by decide +kernel
abbrev own_rm_own_cref : Room := ({ frames := 0, cells := 0, slots := 0, locals := 0 } : Room)
set_option maxRecDepth 65536 in
set_option maxHeartbeats 40000000 in
theorem own_cref (l : Launch) (Z : State) (a0 : Array Value) (hw : ∀ d ∈ tables_1, d.before a0 Z = true) (y0 y1 : Int64) (i_y0 i_y1 : Int) (h0 : Heap) (n0 : Nat) (Z0 : n0 ≤ h0.size) (L0 : own_L 1048575 i_y0 y0) (L1 : own_L 1024 i_y1 y1) :
    own_Met l Z ({ cls := "com/example/volstat/volstat/garch/NormalErrorsVarianceDerivativesPinLaw", name := "curvatureRef", desc := "(JJ)D" } : Jvm.MethodName) method_4_code 4 (some .double) [] own_rm_own_cref #[(.long y0), (.long y1)] h0 n0 (fun v h => (∃ r, v = some (.double r) ∧ own_D 0 2251797667250176 ((i_y1 * i_y1) - (((((2 : Int) * i_y0) * i_y1) * i_y1) * i_y1)) r) ∧ h = h0) := by
  refine own_meet (plainFor_of_name own_pn2) Z0 (Ls0 := #[.val (.long y0), .second, .val (.long y1), .second]) (by intro m; first | (simp [entryFrame, mkF, argsToLocals, Value.category]; done) | rfl) ?_
  intro p e s m below meth c T0 X0
  refine own_lloadN X0 rfl own_d_method_4_code_0 (pc' := 1) rfl ?_
  refine own_lloadN X0 rfl own_d_method_4_code_1 (pc' := 2) rfl ?_
  obtain ⟨j91, e91⟩ : ∃ v, y1 * y1 = v := ⟨_, rfl⟩
  have f91 : own_L 1048576 (i_y1 * i_y1) j91 := L1.mul L1 e91 (by decide) (by decide)
  refine own_lmul X0 e91 own_d_method_4_code_2 (pc' := 3) rfl ?_
  refine own_ldcJ X0 (v := (2 : Int64)) (hw _ (List.mem_of_getElem? (i := 29) rfl)) own_d_method_4_code_3 (pc' := 6) rfl ?_
  refine own_lloadN X0 rfl own_d_method_4_code_6 (pc' := 7) rfl ?_
  obtain ⟨j92, e92⟩ : ∃ v, (2 : Int64) * y0 = v := ⟨_, rfl⟩
  have f93 : own_L 2 (2 : Int) (2 : Int64) := own_L.lit (by decide) (by decide)
  have f92 : own_L 2097150 ((2 : Int) * i_y0) j92 := f93.mul L0 e92 (by decide) (by decide)
  refine own_lmul X0 e92 own_d_method_4_code_7 (pc' := 8) rfl ?_
  refine own_lloadN X0 rfl own_d_method_4_code_8 (pc' := 9) rfl ?_
  obtain ⟨j94, e94⟩ : ∃ v, j92 * y1 = v := ⟨_, rfl⟩
  have f94 : own_L 2147481600 (((2 : Int) * i_y0) * i_y1) j94 := f92.mul L1 e94 (by decide) (by decide)
  refine own_lmul X0 e94 own_d_method_4_code_9 (pc' := 10) rfl ?_
  refine own_lloadN X0 rfl own_d_method_4_code_10 (pc' := 11) rfl ?_
  obtain ⟨j95, e95⟩ : ∃ v, j94 * y1 = v := ⟨_, rfl⟩
  have f95 : own_L 2199021158400 ((((2 : Int) * i_y0) * i_y1) * i_y1) j95 := f94.mul L1 e95 (by decide) (by decide)
  refine own_lmul X0 e95 own_d_method_4_code_11 (pc' := 12) rfl ?_
  refine own_lloadN X0 rfl own_d_method_4_code_12 (pc' := 13) rfl ?_
  obtain ⟨j96, e96⟩ : ∃ v, j95 * y1 = v := ⟨_, rfl⟩
  have f96 : own_L 2251797666201600 (((((2 : Int) * i_y0) * i_y1) * i_y1) * i_y1) j96 := f95.mul L1 e96 (by decide) (by decide)
  refine own_lmul X0 e96 own_d_method_4_code_13 (pc' := 14) rfl ?_
  obtain ⟨j97, e97⟩ : ∃ v, j91 - j96 = v := ⟨_, rfl⟩
  have f97 : own_L 2251797667250176 ((i_y1 * i_y1) - (((((2 : Int) * i_y0) * i_y1) * i_y1) * i_y1)) j97 := f91.sub f96 e97 (by decide) (by decide)
  refine own_lsub X0 e97 own_d_method_4_code_14 (pc' := 15) rfl ?_
  obtain ⟨d98, e98⟩ : ∃ v, FP.l2d j97 = v := ⟨_, rfl⟩
  have f98 : own_D 0 2251797667250176 ((i_y1 * i_y1) - (((((2 : Int) * i_y0) * i_y1) * i_y1) * i_y1)) d98 := own_D.l2d f97 e98 (by decide)
  refine own_l2d X0 e98 own_d_method_4_code_15 (pc' := 16) rfl ?_
  exact own_retD X0  own_d_method_4_code_16 rfl (by decide) (by decide) ⟨⟨_, rfl, f98⟩, rfl⟩
set_option maxRecDepth 65536 in
set_option maxHeartbeats 40000000 in
theorem own_law (l : Launch) (Z : State) (a0 : Array Value) (hw : ∀ d ∈ tables_1, d.before a0 Z = true) (ws : List Jvm.Cond) (p0 : Int32) (p1 : Int32) (p2 : Int32) (p3 : Int32) (p4 : Int32) (h0 : Heap) (n0 : Nat) (Z0 : n0 ≤ h0.size)  :
    own_Met l Z x code maxLocals ret ws room_1 #[(.int p0), (.int p1), (.int p2), (.int p3), (.int p4)] h0 n0 (fun v _ => v = some (.int 1)) := by
  refine own_meet (plainFor_of_name own_pn2) Z0 (Ls0 := #[.val (.int p0), .val (.int p1), .val (.int p2), .val (.int p3), .val (.int p4), .unset, .unset, .unset, .unset, .unset, .unset, .unset, .unset, .unset, .unset, .unset, .unset, .unset, .unset, .unset, .unset, .unset, .unset]) (by intro m; first | (simp [entryFrame, mkF, argsToLocals, Value.category, maxLocals]; done) | rfl) ?_
  intro p e s m below meth c T0 X0
  refine own_iloadN X0 rfl at_0 (pc' := 1) rfl ?_
  refine own_ldcI X0 (v := (1048575 : Int32)) (hw _ (List.mem_of_getElem? (i := 0) rfl)) at_1 (pc' := 3) rfl ?_
  obtain ⟨i99, e99⟩ : ∃ v, p0 &&& (1048575 : Int32) = v := ⟨_, rfl⟩
  have f99 : own_I 1048575 i99.toInt i99 := own_I.and e99 (by decide)
  have nn99 := own_and_nn (M := 1048575) e99 (by decide)
  refine own_iand X0 e99 at_3 (pc' := 4) rfl ?_
  obtain ⟨j100, e100⟩ : ∃ v, i99.toInt64 = v := ⟨_, rfl⟩
  have f100 : own_L 1048575 i99.toInt j100 := own_L.ofI f99 e100
  refine own_i2l X0 e100 at_4 (pc' := 5) rfl ?_
  refine own_lstore X0 (Ls' := #[.val (.int p0), .val (.int p1), .val (.int p2), .val (.int p3), .val (.int p4), .val (.long j100), .second, .unset, .unset, .unset, .unset, .unset, .unset, .unset, .unset, .unset, .unset, .unset, .unset, .unset, .unset, .unset, .unset]) rfl at_5 (pc' := 7) rfl ?_
  refine own_iloadN X0 rfl at_7 (pc' := 8) rfl ?_
  refine own_sipush X0 (v := (1023 : Int32)) (by decide) at_8 (pc' := 11) rfl ?_
  obtain ⟨i101, e101⟩ : ∃ v, p1 &&& (1023 : Int32) = v := ⟨_, rfl⟩
  have f101 : own_I 1023 i101.toInt i101 := own_I.and e101 (by decide)
  have nn101 := own_and_nn (M := 1023) e101 (by decide)
  refine own_iand X0 e101 at_11 (pc' := 12) rfl ?_
  refine own_iconst X0 (v := (1 : Int32)) (by decide) at_12 (pc' := 13) rfl ?_
  obtain ⟨i102, e102⟩ : ∃ v, i101 + (1 : Int32) = v := ⟨_, rfl⟩
  have f103 : own_I 1 (1 : Int) (1 : Int32) := own_I.lit (by decide) (by decide)
  have f102 : own_I 1024 (i101.toInt + (1 : Int)) i102 := f101.add f103 e102 (by decide) (by decide)
  refine own_iadd X0 e102 at_13 (pc' := 14) rfl ?_
  obtain ⟨j104, e104⟩ : ∃ v, i102.toInt64 = v := ⟨_, rfl⟩
  have f104 : own_L 1024 (i101.toInt + (1 : Int)) j104 := own_L.ofI f102 e104
  refine own_i2l X0 e104 at_14 (pc' := 15) rfl ?_
  refine own_lstore X0 (Ls' := #[.val (.int p0), .val (.int p1), .val (.int p2), .val (.int p3), .val (.int p4), .val (.long j100), .second, .val (.long j104), .second, .unset, .unset, .unset, .unset, .unset, .unset, .unset, .unset, .unset, .unset, .unset, .unset, .unset, .unset]) rfl at_15 (pc' := 17) rfl ?_
  refine own_iloadN X0 rfl at_17 (pc' := 18) rfl ?_
  refine own_ldcI X0 (v := (1048575 : Int32)) (hw _ (List.mem_of_getElem? (i := 0) rfl)) at_18 (pc' := 20) rfl ?_
  obtain ⟨i105, e105⟩ : ∃ v, p2 &&& (1048575 : Int32) = v := ⟨_, rfl⟩
  have f105 : own_I 1048575 i105.toInt i105 := own_I.and e105 (by decide)
  have nn105 := own_and_nn (M := 1048575) e105 (by decide)
  refine own_iand X0 e105 at_20 (pc' := 21) rfl ?_
  obtain ⟨j106, e106⟩ : ∃ v, i105.toInt64 = v := ⟨_, rfl⟩
  have f106 : own_L 1048575 i105.toInt j106 := own_L.ofI f105 e106
  refine own_i2l X0 e106 at_21 (pc' := 22) rfl ?_
  refine own_lstore X0 (Ls' := #[.val (.int p0), .val (.int p1), .val (.int p2), .val (.int p3), .val (.int p4), .val (.long j100), .second, .val (.long j104), .second, .val (.long j106), .second, .unset, .unset, .unset, .unset, .unset, .unset, .unset, .unset, .unset, .unset, .unset, .unset]) rfl at_22 (pc' := 24) rfl ?_
  refine own_iloadN X0 rfl at_24 (pc' := 25) rfl ?_
  refine own_sipush X0 (v := (1023 : Int32)) (by decide) at_25 (pc' := 28) rfl ?_
  obtain ⟨i107, e107⟩ : ∃ v, p3 &&& (1023 : Int32) = v := ⟨_, rfl⟩
  have f107 : own_I 1023 i107.toInt i107 := own_I.and e107 (by decide)
  have nn107 := own_and_nn (M := 1023) e107 (by decide)
  refine own_iand X0 e107 at_28 (pc' := 29) rfl ?_
  refine own_iconst X0 (v := (1 : Int32)) (by decide) at_29 (pc' := 30) rfl ?_
  obtain ⟨i108, e108⟩ : ∃ v, i107 + (1 : Int32) = v := ⟨_, rfl⟩
  have f109 : own_I 1 (1 : Int) (1 : Int32) := own_I.lit (by decide) (by decide)
  have f108 : own_I 1024 (i107.toInt + (1 : Int)) i108 := f107.add f109 e108 (by decide) (by decide)
  refine own_iadd X0 e108 at_30 (pc' := 31) rfl ?_
  obtain ⟨j110, e110⟩ : ∃ v, i108.toInt64 = v := ⟨_, rfl⟩
  have f110 : own_L 1024 (i107.toInt + (1 : Int)) j110 := own_L.ofI f108 e110
  refine own_i2l X0 e110 at_31 (pc' := 32) rfl ?_
  refine own_lstore X0 (Ls' := #[.val (.int p0), .val (.int p1), .val (.int p2), .val (.int p3), .val (.int p4), .val (.long j100), .second, .val (.long j104), .second, .val (.long j106), .second, .val (.long j110), .second, .unset, .unset, .unset, .unset, .unset, .unset, .unset, .unset, .unset, .unset]) rfl at_32 (pc' := 34) rfl ?_
  refine own_iload X0 rfl at_34 (pc' := 36) rfl ?_
  have f111 := own_I.start p4
  obtain ⟨d112, e112⟩ : ∃ v, FP.i2d p4 = v := ⟨_, rfl⟩
  have f112 : own_D 0 2147483648 p4.toInt d112 := own_D.i2d f111 e112
  refine own_i2d X0 e112 at_36 (pc' := 37) rfl ?_
  refine own_dstore X0 (Ls' := #[.val (.int p0), .val (.int p1), .val (.int p2), .val (.int p3), .val (.int p4), .val (.long j100), .second, .val (.long j104), .second, .val (.long j106), .second, .val (.long j110), .second, .val (.double d112), .second, .unset, .unset, .unset, .unset, .unset, .unset, .unset, .unset]) rfl at_37 (pc' := 39) rfl ?_
  refine own_iconst X0 (v := (2 : Int32)) (by decide) at_39 (pc' := 40) rfl ?_
  refine own_newarray X0 (ty := .double) rfl (hw _ (List.mem_of_getElem? (i := 1) rfl)) (n := 2) (vs := [(.double (0 : UInt64)), (.double (0 : UInt64))]) (by decide) (by decide) (by decide) rfl (cells' := 1) (slots' := 2) rfl rfl (by decide) (by decide) at_40 (pc' := 42) rfl fun a113 T113 h113 g113 ge113 X113 E113 V113 => ?_
  refine own_dup X113 rfl at_42 (pc' := 43) rfl ?_
  refine own_iconst X113 (v := (0 : Int32)) (by decide) at_43 (pc' := 44) rfl ?_
  refine own_lload X113 rfl at_44 (pc' := 46) rfl ?_
  obtain ⟨d114, e114⟩ : ∃ v, FP.l2d j100 = v := ⟨_, rfl⟩
  have f114 : own_D 0 1048575 i99.toInt d114 := own_D.l2d f100 e114 (by decide)
  refine own_l2d X113 e114 at_46 (pc' := 47) rfl ?_
  refine own_dastore X113 V113 ge113 (i := 0) (by decide) (by decide) (show 0 < 2 by decide) at_47 (pc' := 48) rfl fun T115 h115 X115 W115 V115 => ?_
  replace V115 : own_Vec Z h115 a113 .double [(.double d114), (.double (0 : UInt64))] := V115
  refine own_dup X115 rfl at_48 (pc' := 49) rfl ?_
  refine own_iconst X115 (v := (1 : Int32)) (by decide) at_49 (pc' := 50) rfl ?_
  refine own_lload X115 rfl at_50 (pc' := 52) rfl ?_
  obtain ⟨d116, e116⟩ : ∃ v, FP.l2d j106 = v := ⟨_, rfl⟩
  have f116 : own_D 0 1048575 i105.toInt d116 := own_D.l2d f106 e116 (by decide)
  refine own_l2d X115 e116 at_52 (pc' := 53) rfl ?_
  refine own_dastore X115 V115 ge113 (i := 1) (by decide) (by decide) (show 1 < 2 by decide) at_53 (pc' := 54) rfl fun T117 h117 X117 W117 V117 => ?_
  replace V117 : own_Vec Z h117 a113 .double [(.double d114), (.double d116)] := V117
  refine own_astore X117 (Ls' := #[.val (.int p0), .val (.int p1), .val (.int p2), .val (.int p3), .val (.int p4), .val (.long j100), .second, .val (.long j104), .second, .val (.long j106), .second, .val (.long j110), .second, .val (.double d112), .second, .val (.ref a113), .unset, .unset, .unset, .unset, .unset, .unset, .unset]) rfl rfl at_54 (pc' := 56) rfl ?_
  refine own_iconst X117 (v := (2 : Int32)) (by decide) at_56 (pc' := 57) rfl ?_
  refine own_newarray X117 (ty := .double) rfl (hw _ (List.mem_of_getElem? (i := 1) rfl)) (n := 2) (vs := [(.double (0 : UInt64)), (.double (0 : UInt64))]) (by decide) (by decide) (by decide) rfl (cells' := 2) (slots' := 4) rfl rfl (by decide) (by decide) at_57 (pc' := 59) rfl fun a118 T118 h118 g118 ge118 X118 E118 V118 => ?_
  have ne119 : a113 ≠ a118 := own_lt_ne V117.lt g118
  have V120 := V117.ext E118
  refine own_dup X118 rfl at_59 (pc' := 60) rfl ?_
  refine own_iconst X118 (v := (0 : Int32)) (by decide) at_60 (pc' := 61) rfl ?_
  refine own_lload X118 rfl at_61 (pc' := 63) rfl ?_
  obtain ⟨d121, e121⟩ : ∃ v, FP.l2d j104 = v := ⟨_, rfl⟩
  have f121 : own_D 0 1024 (i101.toInt + (1 : Int)) d121 := own_D.l2d f104 e121 (by decide)
  refine own_l2d X118 e121 at_63 (pc' := 64) rfl ?_
  refine own_dastore X118 V118 ge118 (i := 0) (by decide) (by decide) (show 0 < 2 by decide) at_64 (pc' := 65) rfl fun T122 h122 X122 W122 V122 => ?_
  have V123 := V120.other W122 ne119
  replace V122 : own_Vec Z h122 a118 .double [(.double d121), (.double (0 : UInt64))] := V122
  refine own_dup X122 rfl at_65 (pc' := 66) rfl ?_
  refine own_iconst X122 (v := (1 : Int32)) (by decide) at_66 (pc' := 67) rfl ?_
  refine own_lload X122 rfl at_67 (pc' := 69) rfl ?_
  obtain ⟨d124, e124⟩ : ∃ v, FP.l2d j110 = v := ⟨_, rfl⟩
  have f124 : own_D 0 1024 (i107.toInt + (1 : Int)) d124 := own_D.l2d f110 e124 (by decide)
  refine own_l2d X122 e124 at_69 (pc' := 70) rfl ?_
  refine own_dastore X122 V122 ge118 (i := 1) (by decide) (by decide) (show 1 < 2 by decide) at_70 (pc' := 71) rfl fun T125 h125 X125 W125 V125 => ?_
  have V126 := V123.other W125 ne119
  replace V125 : own_Vec Z h125 a118 .double [(.double d121), (.double d124)] := V125
  refine own_astore X125 (Ls' := #[.val (.int p0), .val (.int p1), .val (.int p2), .val (.int p3), .val (.int p4), .val (.long j100), .second, .val (.long j104), .second, .val (.long j106), .second, .val (.long j110), .second, .val (.double d112), .second, .val (.ref a113), .val (.ref a118), .unset, .unset, .unset, .unset, .unset, .unset]) rfl rfl at_71 (pc' := 73) rfl ?_
  refine own_iconst X125 (v := (3 : Int32)) (by decide) at_73 (pc' := 74) rfl ?_
  refine own_newarray X125 (ty := .double) rfl (hw _ (List.mem_of_getElem? (i := 1) rfl)) (n := 3) (vs := [(.double (0 : UInt64)), (.double (0 : UInt64)), (.double (0 : UInt64))]) (by decide) (by decide) (by decide) rfl (cells' := 3) (slots' := 7) rfl rfl (by decide) (by decide) at_74 (pc' := 76) rfl fun a127 T127 h127 g127 ge127 X127 E127 V127 => ?_
  have ne128 : a113 ≠ a127 := own_lt_ne V126.lt g127
  have ne129 : a118 ≠ a127 := own_lt_ne V125.lt g127
  have V130 := V126.ext E127
  have V131 := V125.ext E127
  refine own_dup X127 rfl at_76 (pc' := 77) rfl ?_
  refine own_iconst X127 (v := (0 : Int32)) (by decide) at_77 (pc' := 78) rfl ?_
  refine own_dconst0 X127 (v := (0 : UInt64)) rfl at_78 (pc' := 79) rfl ?_
  refine own_dastore X127 V127 ge127 (i := 0) (by decide) (by decide) (show 0 < 3 by decide) at_79 (pc' := 80) rfl fun T132 h132 X132 W132 V132 => ?_
  have V133 := V130.other W132 ne128
  have V134 := V131.other W132 ne129
  replace V132 : own_Vec Z h132 a127 .double [(.double (0 : UInt64)), (.double (0 : UInt64)), (.double (0 : UInt64))] := V132
  refine own_dup X132 rfl at_80 (pc' := 81) rfl ?_
  refine own_iconst X132 (v := (1 : Int32)) (by decide) at_81 (pc' := 82) rfl ?_
  refine own_dconst0 X132 (v := (0 : UInt64)) rfl at_82 (pc' := 83) rfl ?_
  refine own_dastore X132 V132 ge127 (i := 1) (by decide) (by decide) (show 1 < 3 by decide) at_83 (pc' := 84) rfl fun T135 h135 X135 W135 V135 => ?_
  have V136 := V133.other W135 ne128
  have V137 := V134.other W135 ne129
  replace V135 : own_Vec Z h135 a127 .double [(.double (0 : UInt64)), (.double (0 : UInt64)), (.double (0 : UInt64))] := V135
  refine own_dup X135 rfl at_84 (pc' := 85) rfl ?_
  refine own_iconst X135 (v := (2 : Int32)) (by decide) at_85 (pc' := 86) rfl ?_
  refine own_dload X135 rfl at_86 (pc' := 88) rfl ?_
  refine own_dastore X135 V135 ge127 (i := 2) (by decide) (by decide) (show 2 < 3 by decide) at_88 (pc' := 89) rfl fun T138 h138 X138 W138 V138 => ?_
  have V139 := V136.other W138 ne128
  have V140 := V137.other W138 ne129
  replace V138 : own_Vec Z h138 a127 .double [(.double (0 : UInt64)), (.double (0 : UInt64)), (.double d112)] := V138
  refine own_astore X138 (Ls' := #[.val (.int p0), .val (.int p1), .val (.int p2), .val (.int p3), .val (.int p4), .val (.long j100), .second, .val (.long j104), .second, .val (.long j106), .second, .val (.long j110), .second, .val (.double d112), .second, .val (.ref a113), .val (.ref a118), .val (.ref a127), .unset, .unset, .unset, .unset, .unset]) rfl rfl at_89 (pc' := 91) rfl ?_
  refine own_iconst X138 (v := (3 : Int32)) (by decide) at_91 (pc' := 92) rfl ?_
  refine own_newarray X138 (ty := .double) rfl (hw _ (List.mem_of_getElem? (i := 1) rfl)) (n := 3) (vs := [(.double (0 : UInt64)), (.double (0 : UInt64)), (.double (0 : UInt64))]) (by decide) (by decide) (by decide) rfl (cells' := 4) (slots' := 10) rfl rfl (by decide) (by decide) at_92 (pc' := 94) rfl fun a141 T141 h141 g141 ge141 X141 E141 V141 => ?_
  have ne142 : a113 ≠ a141 := own_lt_ne V139.lt g141
  have ne143 : a118 ≠ a141 := own_lt_ne V140.lt g141
  have ne144 : a127 ≠ a141 := own_lt_ne V138.lt g141
  have V145 := V139.ext E141
  have V146 := V140.ext E141
  have V147 := V138.ext E141
  refine own_dup X141 rfl at_94 (pc' := 95) rfl ?_
  refine own_iconst X141 (v := (0 : Int32)) (by decide) at_95 (pc' := 96) rfl ?_
  refine own_dconst0 X141 (v := (0 : UInt64)) rfl at_96 (pc' := 97) rfl ?_
  refine own_dastore X141 V141 ge141 (i := 0) (by decide) (by decide) (show 0 < 3 by decide) at_97 (pc' := 98) rfl fun T148 h148 X148 W148 V148 => ?_
  have V149 := V145.other W148 ne142
  have V150 := V146.other W148 ne143
  have V151 := V147.other W148 ne144
  replace V148 : own_Vec Z h148 a141 .double [(.double (0 : UInt64)), (.double (0 : UInt64)), (.double (0 : UInt64))] := V148
  refine own_dup X148 rfl at_98 (pc' := 99) rfl ?_
  refine own_iconst X148 (v := (1 : Int32)) (by decide) at_99 (pc' := 100) rfl ?_
  refine own_dconst0 X148 (v := (0 : UInt64)) rfl at_100 (pc' := 101) rfl ?_
  refine own_dastore X148 V148 ge141 (i := 1) (by decide) (by decide) (show 1 < 3 by decide) at_101 (pc' := 102) rfl fun T152 h152 X152 W152 V152 => ?_
  have V153 := V149.other W152 ne142
  have V154 := V150.other W152 ne143
  have V155 := V151.other W152 ne144
  replace V152 : own_Vec Z h152 a141 .double [(.double (0 : UInt64)), (.double (0 : UInt64)), (.double (0 : UInt64))] := V152
  refine own_dup X152 rfl at_102 (pc' := 103) rfl ?_
  refine own_iconst X152 (v := (2 : Int32)) (by decide) at_103 (pc' := 104) rfl ?_
  refine own_dload X152 rfl at_104 (pc' := 106) rfl ?_
  refine own_dastore X152 V152 ge141 (i := 2) (by decide) (by decide) (show 2 < 3 by decide) at_106 (pc' := 107) rfl fun T156 h156 X156 W156 V156 => ?_
  have V157 := V153.other W156 ne142
  have V158 := V154.other W156 ne143
  have V159 := V155.other W156 ne144
  replace V156 : own_Vec Z h156 a141 .double [(.double (0 : UInt64)), (.double (0 : UInt64)), (.double d112)] := V156
  refine own_astore X156 (Ls' := #[.val (.int p0), .val (.int p1), .val (.int p2), .val (.int p3), .val (.int p4), .val (.long j100), .second, .val (.long j104), .second, .val (.long j106), .second, .val (.long j110), .second, .val (.double d112), .second, .val (.ref a113), .val (.ref a118), .val (.ref a127), .val (.ref a141), .unset, .unset, .unset, .unset]) rfl rfl at_107 (pc' := 109) rfl ?_
  refine own_new X156 (hw _ (List.mem_of_getElem? (i := 2) rfl)) (hw _ (List.mem_of_getElem? (i := 3) rfl)) (hw _ (List.mem_of_getElem? (i := 4) rfl)) (cells' := 5) (slots' := 10) rfl rfl (by decide) (by decide) at_109 (pc' := 112) rfl fun a160 T160 h160 g160 ge160 X160 E160 A160 D160 => ?_
  have ne161 : a113 ≠ a160 := own_lt_ne V157.lt g160
  have ne162 : a118 ≠ a160 := own_lt_ne V158.lt g160
  have ne163 : a127 ≠ a160 := own_lt_ne V159.lt g160
  have ne164 : a141 ≠ a160 := own_lt_ne V156.lt g160
  have V165 := V157.ext E160
  have V166 := V158.ext E160
  have V167 := V159.ext E160
  have V168 := V156.ext E160
  refine own_dup X160 rfl at_112 (pc' := 113) rfl ?_
  refine own_special X160 (own_ni l Z a0 hw a160 _ n0 X160.le) rfl rfl (hw _ (List.mem_of_getElem? (i := 5) rfl)) (hw _ (List.mem_of_getElem? (i := 6) rfl)) (hw _ (List.mem_of_getElem? (i := 4) rfl)) (hw _ (List.mem_of_getElem? (i := 7) rfl)) (by decide) rfl (by decide) (W := 1) (Nat.le_of_eq rfl) (by decide) (cells' := 5) (slots' := 10) rfl rfl (by decide) (by decide) (argsL := []) (rest := [(.ref a160)]) (lenOf own_pd0 rfl) rfl rfl at_113 (pc' := 116) rfl ?_
  rintro _ T169 h169 X169 ⟨rfl, e169⟩
  subst e169
  show own_Goal p e below _ T169 (mkF m 116 #[.val (.int p0), .val (.int p1), .val (.int p2), .val (.int p3), .val (.int p4), .val (.long j100), .second, .val (.long j104), .second, .val (.long j106), .second, .val (.long j110), .second, .val (.double d112), .second, .val (.ref a113), .val (.ref a118), .val (.ref a127), .val (.ref a141), .unset, .unset, .unset, .unset] [(.ref a160)])
  refine own_aload X169 rfl rfl at_116 (pc' := 118) rfl ?_
  refine own_aload X169 rfl rfl at_118 (pc' := 120) rfl ?_
  refine own_aload X169 rfl rfl at_120 (pc' := 122) rfl ?_
  refine own_aload X169 rfl rfl at_122 (pc' := 124) rfl ?_
  refine own_virtual X169 (own_vd l Z a0 hw a160 a113 a118 a127 a141 d114 i99.toInt d116 i105.toInt d121 (i101.toInt + (1 : Int)) d124 (i107.toInt + (1 : Int)) d112 p4.toInt _ n0 X169.le V165 V166 V167 ge127 V168 ge141 ne128 ne142 ne129 ne143 ne144 f114 f116 f121 f124 f112) (C := "com/example/volstat/volstat/garch/NormalErrors") rfl (hw _ (List.mem_of_getElem? (i := 16) rfl)) (hw _ (List.mem_of_getElem? (i := 17) rfl)) (hw _ (List.mem_of_getElem? (i := 19) rfl)) (hw _ (List.mem_of_getElem? (i := 18) rfl)) (hw _ (List.mem_of_getElem? (i := 4) rfl)) (hw _ (List.mem_of_getElem? (i := 20) rfl)) (by decide) rfl (by decide) (W := 0) (Nat.le_of_eq rfl) (by decide) (cells' := 5) (slots' := 10) rfl rfl (by decide) (by decide) A160 (argsL := [(.ref a113), (.ref a118), (.ref a127), (.ref a141)]) (rest := []) (lenOf own_pd1 rfl) rfl rfl at_124 (pc' := 127) rfl ?_
  rintro _ T170 h170 X170 ⟨rfl, w170_a3_0, w170_a3_1, w170_a3_2, w170_a4_0, w170_a4_1, w170_a4_2, V170_a1, V170_a2, V170_a3, V170_a4, fw170_a3_0, fw170_a3_1, fw170_a3_2, fw170_a4_0, fw170_a4_1, fw170_a4_2⟩
  show own_Goal p e below _ T170 (mkF m 127 #[.val (.int p0), .val (.int p1), .val (.int p2), .val (.int p3), .val (.int p4), .val (.long j100), .second, .val (.long j104), .second, .val (.long j106), .second, .val (.long j110), .second, .val (.double d112), .second, .val (.ref a113), .val (.ref a118), .val (.ref a127), .val (.ref a141), .unset, .unset, .unset, .unset] [])
  refine own_aload X170 rfl rfl at_127 (pc' := 129) rfl ?_
  refine own_iconst X170 (v := (0 : Int32)) (by decide) at_129 (pc' := 130) rfl ?_
  refine own_daload X170 V170_a3 (i := 0) (by decide) (by decide) rfl at_130 (pc' := 131) rfl ?_
  refine own_lload X170 rfl at_131 (pc' := 133) rfl ?_
  refine own_lload X170 rfl at_133 (pc' := 135) rfl ?_
  refine own_callS X170 (own_sref l Z a0 hw j100 j104 i99.toInt (i101.toInt + (1 : Int)) _ n0 X170.le f100 f104) (hw _ (List.mem_of_getElem? (i := 22) rfl)) (hw _ (List.mem_of_getElem? (i := 23) rfl)) (hw _ (List.mem_of_getElem? (i := 24) rfl)) (hw _ (List.mem_of_getElem? (i := 25) rfl)) (by decide) rfl (by decide) (W := 2) (Nat.le_of_eq rfl) (by decide) (cells' := 5) (slots' := 10) rfl rfl (by decide) (by decide) (argsL := [(.long j100), (.long j104)]) (rest := [(.double w170_a3_0)]) (lenOf own_pd2 rfl) rfl rfl at_135 (pc' := 138) rfl ?_
  rintro _ T171 h171 X171 ⟨⟨r171, rfl, fr171⟩, e171⟩
  subst e171
  show own_Goal p e below _ T171 (mkF m 138 #[.val (.int p0), .val (.int p1), .val (.int p2), .val (.int p3), .val (.int p4), .val (.long j100), .second, .val (.long j104), .second, .val (.long j106), .second, .val (.long j110), .second, .val (.double d112), .second, .val (.ref a113), .val (.ref a118), .val (.ref a127), .val (.ref a141), .unset, .unset, .unset, .unset] [(.double r171), (.double w170_a3_0)])
  refine own_dcmp X171 (fw170_a3_0.cmp fr171) at_138 (pc' := 139) rfl ?_
  have c172 : (((i99.toInt * (i101.toInt + (1 : Int))) - (1 : Int)) * (i101.toInt + (1 : Int))) = (((i99.toInt * (i101.toInt + (1 : Int))) * (i101.toInt + (1 : Int))) - (i101.toInt + (1 : Int))) := by grind
  refine own_ifF X171 (own_c3_eq c172).2 at_139 (pc' := 142) rfl ?_
  refine own_aload X171 rfl rfl at_142 (pc' := 144) rfl ?_
  refine own_iconst X171 (v := (0 : Int32)) (by decide) at_144 (pc' := 145) rfl ?_
  refine own_daload X171 V170_a4 (i := 0) (by decide) (by decide) rfl at_145 (pc' := 146) rfl ?_
  refine own_lload X171 rfl at_146 (pc' := 148) rfl ?_
  refine own_lload X171 rfl at_148 (pc' := 150) rfl ?_
  refine own_callS X171 (own_cref l Z a0 hw j100 j104 i99.toInt (i101.toInt + (1 : Int)) _ n0 X171.le f100 f104) (hw _ (List.mem_of_getElem? (i := 26) rfl)) (hw _ (List.mem_of_getElem? (i := 27) rfl)) (hw _ (List.mem_of_getElem? (i := 24) rfl)) (hw _ (List.mem_of_getElem? (i := 28) rfl)) (by decide) rfl (by decide) (W := 2) (Nat.le_of_eq rfl) (by decide) (cells' := 5) (slots' := 10) rfl rfl (by decide) (by decide) (argsL := [(.long j100), (.long j104)]) (rest := [(.double w170_a4_0)]) (lenOf own_pd2 rfl) rfl rfl at_150 (pc' := 153) rfl ?_
  rintro _ T173 h173 X173 ⟨⟨r173, rfl, fr173⟩, e173⟩
  subst e173
  show own_Goal p e below _ T173 (mkF m 153 #[.val (.int p0), .val (.int p1), .val (.int p2), .val (.int p3), .val (.int p4), .val (.long j100), .second, .val (.long j104), .second, .val (.long j106), .second, .val (.long j110), .second, .val (.double d112), .second, .val (.ref a113), .val (.ref a118), .val (.ref a127), .val (.ref a141), .unset, .unset, .unset, .unset] [(.double r173), (.double w170_a4_0)])
  refine own_dcmp X173 (fw170_a4_0.cmp fr173) at_153 (pc' := 154) rfl ?_
  have c174 : ((((1 : Int) - ((2 : Int) * (i99.toInt * (i101.toInt + (1 : Int))))) * (i101.toInt + (1 : Int))) * (i101.toInt + (1 : Int))) = (((i101.toInt + (1 : Int)) * (i101.toInt + (1 : Int))) - (((((2 : Int) * i99.toInt) * (i101.toInt + (1 : Int))) * (i101.toInt + (1 : Int))) * (i101.toInt + (1 : Int)))) := by grind
  refine own_ifF X173 (own_c3_eq c174).2 at_154 (pc' := 157) rfl ?_
  refine own_iconst X173 (v := (1 : Int32)) (by decide) at_157 (pc' := 158) rfl ?_
  refine own_goto X173 at_158 (pc' := 162) (by decide) (by decide) ?_
  refine own_istore X173 (Ls' := #[.val (.int p0), .val (.int p1), .val (.int p2), .val (.int p3), .val (.int p4), .val (.long j100), .second, .val (.long j104), .second, .val (.long j106), .second, .val (.long j110), .second, .val (.double d112), .second, .val (.ref a113), .val (.ref a118), .val (.ref a127), .val (.ref a141), .val (.int (1 : Int32)), .unset, .unset, .unset]) rfl at_162 (pc' := 164) rfl ?_
  refine own_aload X173 rfl rfl at_164 (pc' := 166) rfl ?_
  refine own_iconst X173 (v := (1 : Int32)) (by decide) at_166 (pc' := 167) rfl ?_
  refine own_daload X173 V170_a3 (i := 1) (by decide) (by decide) rfl at_167 (pc' := 168) rfl ?_
  refine own_lload X173 rfl at_168 (pc' := 170) rfl ?_
  refine own_lload X173 rfl at_170 (pc' := 172) rfl ?_
  refine own_callS X173 (own_sref l Z a0 hw j106 j110 i105.toInt (i107.toInt + (1 : Int)) _ n0 X173.le f106 f110) (hw _ (List.mem_of_getElem? (i := 22) rfl)) (hw _ (List.mem_of_getElem? (i := 23) rfl)) (hw _ (List.mem_of_getElem? (i := 24) rfl)) (hw _ (List.mem_of_getElem? (i := 25) rfl)) (by decide) rfl (by decide) (W := 2) (Nat.le_of_eq rfl) (by decide) (cells' := 5) (slots' := 10) rfl rfl (by decide) (by decide) (argsL := [(.long j106), (.long j110)]) (rest := [(.double w170_a3_1)]) (lenOf own_pd2 rfl) rfl rfl at_172 (pc' := 175) rfl ?_
  rintro _ T175 h175 X175 ⟨⟨r175, rfl, fr175⟩, e175⟩
  subst e175
  show own_Goal p e below _ T175 (mkF m 175 #[.val (.int p0), .val (.int p1), .val (.int p2), .val (.int p3), .val (.int p4), .val (.long j100), .second, .val (.long j104), .second, .val (.long j106), .second, .val (.long j110), .second, .val (.double d112), .second, .val (.ref a113), .val (.ref a118), .val (.ref a127), .val (.ref a141), .val (.int (1 : Int32)), .unset, .unset, .unset] [(.double r175), (.double w170_a3_1)])
  refine own_dcmp X175 (fw170_a3_1.cmp fr175) at_175 (pc' := 176) rfl ?_
  have c176 : (((i105.toInt * (i107.toInt + (1 : Int))) - (1 : Int)) * (i107.toInt + (1 : Int))) = (((i105.toInt * (i107.toInt + (1 : Int))) * (i107.toInt + (1 : Int))) - (i107.toInt + (1 : Int))) := by grind
  refine own_ifF X175 (own_c3_eq c176).2 at_176 (pc' := 179) rfl ?_
  refine own_aload X175 rfl rfl at_179 (pc' := 181) rfl ?_
  refine own_iconst X175 (v := (1 : Int32)) (by decide) at_181 (pc' := 182) rfl ?_
  refine own_daload X175 V170_a4 (i := 1) (by decide) (by decide) rfl at_182 (pc' := 183) rfl ?_
  refine own_lload X175 rfl at_183 (pc' := 185) rfl ?_
  refine own_lload X175 rfl at_185 (pc' := 187) rfl ?_
  refine own_callS X175 (own_cref l Z a0 hw j106 j110 i105.toInt (i107.toInt + (1 : Int)) _ n0 X175.le f106 f110) (hw _ (List.mem_of_getElem? (i := 26) rfl)) (hw _ (List.mem_of_getElem? (i := 27) rfl)) (hw _ (List.mem_of_getElem? (i := 24) rfl)) (hw _ (List.mem_of_getElem? (i := 28) rfl)) (by decide) rfl (by decide) (W := 2) (Nat.le_of_eq rfl) (by decide) (cells' := 5) (slots' := 10) rfl rfl (by decide) (by decide) (argsL := [(.long j106), (.long j110)]) (rest := [(.double w170_a4_1)]) (lenOf own_pd2 rfl) rfl rfl at_187 (pc' := 190) rfl ?_
  rintro _ T177 h177 X177 ⟨⟨r177, rfl, fr177⟩, e177⟩
  subst e177
  show own_Goal p e below _ T177 (mkF m 190 #[.val (.int p0), .val (.int p1), .val (.int p2), .val (.int p3), .val (.int p4), .val (.long j100), .second, .val (.long j104), .second, .val (.long j106), .second, .val (.long j110), .second, .val (.double d112), .second, .val (.ref a113), .val (.ref a118), .val (.ref a127), .val (.ref a141), .val (.int (1 : Int32)), .unset, .unset, .unset] [(.double r177), (.double w170_a4_1)])
  refine own_dcmp X177 (fw170_a4_1.cmp fr177) at_190 (pc' := 191) rfl ?_
  have c178 : ((((1 : Int) - ((2 : Int) * (i105.toInt * (i107.toInt + (1 : Int))))) * (i107.toInt + (1 : Int))) * (i107.toInt + (1 : Int))) = (((i107.toInt + (1 : Int)) * (i107.toInt + (1 : Int))) - (((((2 : Int) * i105.toInt) * (i107.toInt + (1 : Int))) * (i107.toInt + (1 : Int))) * (i107.toInt + (1 : Int)))) := by grind
  refine own_ifF X177 (own_c3_eq c178).2 at_191 (pc' := 194) rfl ?_
  refine own_iconst X177 (v := (1 : Int32)) (by decide) at_194 (pc' := 195) rfl ?_
  refine own_goto X177 at_195 (pc' := 199) (by decide) (by decide) ?_
  refine own_istore X177 (Ls' := #[.val (.int p0), .val (.int p1), .val (.int p2), .val (.int p3), .val (.int p4), .val (.long j100), .second, .val (.long j104), .second, .val (.long j106), .second, .val (.long j110), .second, .val (.double d112), .second, .val (.ref a113), .val (.ref a118), .val (.ref a127), .val (.ref a141), .val (.int (1 : Int32)), .val (.int (1 : Int32)), .unset, .unset]) rfl at_199 (pc' := 201) rfl ?_
  refine own_aload X177 rfl rfl at_201 (pc' := 203) rfl ?_
  refine own_iconst X177 (v := (2 : Int32)) (by decide) at_203 (pc' := 204) rfl ?_
  refine own_daload X177 V170_a3 (i := 2) (by decide) (by decide) rfl at_204 (pc' := 205) rfl ?_
  refine own_dload X177 rfl at_205 (pc' := 207) rfl ?_
  refine own_dcmp X177 (fw170_a3_2.cmp f112) at_207 (pc' := 208) rfl ?_
  have c179 : p4.toInt = p4.toInt := by grind
  refine own_ifF X177 (own_c3_eq c179).2 at_208 (pc' := 211) rfl ?_
  refine own_aload X177 rfl rfl at_211 (pc' := 213) rfl ?_
  refine own_iconst X177 (v := (2 : Int32)) (by decide) at_213 (pc' := 214) rfl ?_
  refine own_daload X177 V170_a4 (i := 2) (by decide) (by decide) rfl at_214 (pc' := 215) rfl ?_
  refine own_dload X177 rfl at_215 (pc' := 217) rfl ?_
  refine own_dcmp X177 (fw170_a4_2.cmp f112) at_217 (pc' := 218) rfl ?_
  have c180 : p4.toInt = p4.toInt := by grind
  refine own_ifF X177 (own_c3_eq c180).2 at_218 (pc' := 221) rfl ?_
  refine own_iconst X177 (v := (1 : Int32)) (by decide) at_221 (pc' := 222) rfl ?_
  refine own_goto X177 at_222 (pc' := 226) (by decide) (by decide) ?_
  refine own_istore X177 (Ls' := #[.val (.int p0), .val (.int p1), .val (.int p2), .val (.int p3), .val (.int p4), .val (.long j100), .second, .val (.long j104), .second, .val (.long j106), .second, .val (.long j110), .second, .val (.double d112), .second, .val (.ref a113), .val (.ref a118), .val (.ref a127), .val (.ref a141), .val (.int (1 : Int32)), .val (.int (1 : Int32)), .val (.int (1 : Int32)), .unset]) rfl at_226 (pc' := 228) rfl ?_
  refine own_aload X177 rfl rfl at_228 (pc' := 230) rfl ?_
  refine own_iconst X177 (v := (0 : Int32)) (by decide) at_230 (pc' := 231) rfl ?_
  refine own_daload X177 V170_a1 (i := 0) (by decide) (by decide) rfl at_231 (pc' := 232) rfl ?_
  refine own_lload X177 rfl at_232 (pc' := 234) rfl ?_
  obtain ⟨d181, e181⟩ : ∃ v, FP.l2d j100 = v := ⟨_, rfl⟩
  have f181 : own_D 0 1048575 i99.toInt d181 := own_D.l2d f100 e181 (by decide)
  refine own_l2d X177 e181 at_234 (pc' := 235) rfl ?_
  refine own_dcmp X177 (f114.cmp f181) at_235 (pc' := 236) rfl ?_
  have c182 : i99.toInt = i99.toInt := by grind
  refine own_ifF X177 (own_c3_eq c182).2 at_236 (pc' := 239) rfl ?_
  refine own_aload X177 rfl rfl at_239 (pc' := 241) rfl ?_
  refine own_iconst X177 (v := (1 : Int32)) (by decide) at_241 (pc' := 242) rfl ?_
  refine own_daload X177 V170_a1 (i := 1) (by decide) (by decide) rfl at_242 (pc' := 243) rfl ?_
  refine own_lload X177 rfl at_243 (pc' := 245) rfl ?_
  obtain ⟨d183, e183⟩ : ∃ v, FP.l2d j106 = v := ⟨_, rfl⟩
  have f183 : own_D 0 1048575 i105.toInt d183 := own_D.l2d f106 e183 (by decide)
  refine own_l2d X177 e183 at_245 (pc' := 246) rfl ?_
  refine own_dcmp X177 (f116.cmp f183) at_246 (pc' := 247) rfl ?_
  have c184 : i105.toInt = i105.toInt := by grind
  refine own_ifF X177 (own_c3_eq c184).2 at_247 (pc' := 250) rfl ?_
  refine own_aload X177 rfl rfl at_250 (pc' := 252) rfl ?_
  refine own_iconst X177 (v := (0 : Int32)) (by decide) at_252 (pc' := 253) rfl ?_
  refine own_daload X177 V170_a2 (i := 0) (by decide) (by decide) rfl at_253 (pc' := 254) rfl ?_
  refine own_lload X177 rfl at_254 (pc' := 256) rfl ?_
  obtain ⟨d185, e185⟩ : ∃ v, FP.l2d j104 = v := ⟨_, rfl⟩
  have f185 : own_D 0 1024 (i101.toInt + (1 : Int)) d185 := own_D.l2d f104 e185 (by decide)
  refine own_l2d X177 e185 at_256 (pc' := 257) rfl ?_
  refine own_dcmp X177 (f121.cmp f185) at_257 (pc' := 258) rfl ?_
  have c186 : (i101.toInt + (1 : Int)) = (i101.toInt + (1 : Int)) := by grind
  refine own_ifF X177 (own_c3_eq c186).2 at_258 (pc' := 261) rfl ?_
  refine own_aload X177 rfl rfl at_261 (pc' := 263) rfl ?_
  refine own_iconst X177 (v := (1 : Int32)) (by decide) at_263 (pc' := 264) rfl ?_
  refine own_daload X177 V170_a2 (i := 1) (by decide) (by decide) rfl at_264 (pc' := 265) rfl ?_
  refine own_lload X177 rfl at_265 (pc' := 267) rfl ?_
  obtain ⟨d187, e187⟩ : ∃ v, FP.l2d j110 = v := ⟨_, rfl⟩
  have f187 : own_D 0 1024 (i107.toInt + (1 : Int)) d187 := own_D.l2d f110 e187 (by decide)
  refine own_l2d X177 e187 at_267 (pc' := 268) rfl ?_
  refine own_dcmp X177 (f124.cmp f187) at_268 (pc' := 269) rfl ?_
  have c188 : (i107.toInt + (1 : Int)) = (i107.toInt + (1 : Int)) := by grind
  refine own_ifF X177 (own_c3_eq c188).2 at_269 (pc' := 272) rfl ?_
  refine own_iconst X177 (v := (1 : Int32)) (by decide) at_272 (pc' := 273) rfl ?_
  refine own_goto X177 at_273 (pc' := 277) (by decide) (by decide) ?_
  refine own_istore X177 (Ls' := #[.val (.int p0), .val (.int p1), .val (.int p2), .val (.int p3), .val (.int p4), .val (.long j100), .second, .val (.long j104), .second, .val (.long j106), .second, .val (.long j110), .second, .val (.double d112), .second, .val (.ref a113), .val (.ref a118), .val (.ref a127), .val (.ref a141), .val (.int (1 : Int32)), .val (.int (1 : Int32)), .val (.int (1 : Int32)), .val (.int (1 : Int32))]) rfl at_277 (pc' := 279) rfl ?_
  refine own_iload X177 rfl at_279 (pc' := 281) rfl ?_
  refine own_ifF X177 (by decide) at_281 (pc' := 284) rfl ?_
  refine own_iload X177 rfl at_284 (pc' := 286) rfl ?_
  refine own_ifF X177 (by decide) at_286 (pc' := 289) rfl ?_
  refine own_iload X177 rfl at_289 (pc' := 291) rfl ?_
  refine own_ifF X177 (by decide) at_291 (pc' := 294) rfl ?_
  refine own_iload X177 rfl at_294 (pc' := 296) rfl ?_
  refine own_ifF X177 (by decide) at_296 (pc' := 299) rfl ?_
  refine own_iconst X177 (v := (1 : Int32)) (by decide) at_299 (pc' := 300) rfl ?_
  refine own_goto X177 at_300 (pc' := 304) (by decide) (by decide) ?_
  exact own_retZ X177 (by decide) at_304 rfl (by decide) (by decide) rfl
set_option maxRecDepth 65536 in
set_option maxHeartbeats 40000000 in
theorem comes_1 {Post : Tables → Env → Array Value → State → Outcome → State → Prop} (hpost : ∀ tb e args s v u, (limb_1_1.after args s (.returned v) u = true ∧ limb_1_2.after args s (.returned v) u = true ∧ True) → FrameEnd s (.returned v) u (Jvm.fieldLocs frame_1_writes args s ++ Jvm.arrayLocs frame_1_arrays args s ++ Jvm.staticLocs frame_1_statics s) 24 128 → Post tb e args s (.returned v) u) :
    ArmFor flags0 classFile x code maxLocals ret World_1 tables_1 room_1 Calls_1 rest_1 Pre_1 Post := by
  intro l hfl _ _ p e ha hc hk s m args below hf hA hF happ hP
  obtain ⟨hcalls, hrest, hpre⟩ := hP
  obtain ⟨-, -, -, hnamed, -, -, -, hat⟩ := (Spec.applies_iff hf).mp happ
  obtain ⟨hg, hn⟩ := and_e (Cond.before_iff.mp (show (Jvm.Cond.and given_1 narrow_1).before args s = true from hpre))
  obtain ⟨h1, g0⟩ := and_e hg
  obtain ⟨k0, g1⟩ := and_e g0
  obtain ⟨k1, g2⟩ := and_e g1
  obtain ⟨k2, g3⟩ := and_e g2
  obtain ⟨k3, g4⟩ := and_e g3
  obtain ⟨w0, w1, w2, w3, w4, rfl⟩ : ∃ w0 w1 w2 w3 w4 : Value, args = #[w0, w1, w2, w3, w4] := by
    have hs : args.size = 5 := by simpa [Cond.value, given_1] using h1
    obtain ⟨L⟩ := args
    match L, hs with
    | [w0, w1, w2, w3, w4], _ => exact ⟨w0, w1, w2, w3, w4, rfl⟩
  have hw := fun d (hd : d ∈ tables_1) => atoms_spec (ws := Jvm.Cond.code x code maxLocals ret :: tables_1) hat d (List.mem_cons_of_mem _ hd)
  obtain ⟨p0, e0⟩ := is_v k0
  obtain rfl : w0 = (.int p0) := Option.some.inj e0
  obtain ⟨p1, e1⟩ := is_v k1
  obtain rfl : w1 = (.int p1) := Option.some.inj e1
  obtain ⟨p2, e2⟩ := is_v k2
  obtain rfl : w2 = (.int p2) := Option.some.inj e2
  obtain ⟨p3, e3⟩ := is_v k3
  obtain rfl : w3 = (.int p3) := Option.some.inj e3
  obtain ⟨p4, e4⟩ := is_v g4
  obtain rfl : w4 = (.int p4) := Option.some.inj e4
  obtain ⟨n, o, h1, h2, h3, _, L, rfl, ⟨⟨rfl, -⟩, N⟩, hq⟩ := own_law l s _ hw tables_1 p0 p1 p2 p3 p4 s.heap s.heap.size (Nat.le_refl _)  p e ha hc hk s m _ below hf ((Spec.applies_iff_loose hf).mp happ).1 ⟨rfl, State.Warmed39.refl s, rfl⟩ trivial
  refine ⟨n, _, h1, h2, h3, hpost _ _ _ _ _ _ ⟨Cond.after_iff.mpr rfl, Cond.after_iff.mpr (eq_i res_at (Term.int_eval (1)) rfl), trivial⟩ ⟨hq.1, hq.2.1, (hq.2.2.sift fun y hy => Or.inr (N y hy)).mono (by decide) (by decide)⟩⟩
theorem main_1_1 : Claimed_1_1 := comes_1 fun _ _ _ _ _ _ h hF => ⟨h.1, hF⟩
theorem main_1_2 : Claimed_1_2 := comes_1 fun _ _ _ _ _ _ h hF => ⟨h.2.1, hF⟩
end Jvm.Pilot.@@N@@
namespace Jvm.Pilot.@@N@@
open Jvm Jvm.ClassFile Sem Op Lib Jvm.Free Jvm.Stand Jvm.Pilot.@@N@@.Jvm.D
/-! MADE BY PROGRAM (witnessworld.py) out of the Statement's table words and the real class files: 10 classes; the members and pool entries that the words name. The judged class is class 1, her method 1. -/
namespace start1
open Jvm.ClassFile
def u (s : String) : CpInfo := .utf8 (stringToUtf16 s)
/-- a pool by its gaps: so many unusable entries, then the entry; so many at the end -/
def gap : Nat → List CpInfo → List CpInfo
  | 0, r => r
  | n + 1, r => .unusable :: gap n r
def poolList (es : List (Nat × CpInfo)) (last : Nat) : List CpInfo := es.foldr (fun e r => gap e.1 (e.2 :: r)) (gap last [])
def pool (es : List (Nat × CpInfo)) (last : Nat) : Array CpInfo := ⟨poolList es last⟩
def fileOf (pool : Array CpInfo) (this : Nat) (attrs : Array Attribute := #[]) (ms : Array MethodInfo := #[]) (fl : Nat := 33) (sup : Nat := 0) (ifs : Array Nat := #[]) (fds : Array FieldInfo := #[]) : ClassFile where
  minorVersion := 0
  majorVersion := 65
  constantPool := pool
  accessFlags := fl
  thisClass := this
  superClass := sup
  interfaces := ifs
  fields := fds
  methods := ms
  attributes := attrs
def plain (name : String) (sup : Option ClassId) : Class where
  name := name
  kind := .ordinary
  loader := none
  accessFlags := 33
  super := sup
  interfaces := #[]
  cf := none
  fields := #[]
  methods := #[]
  instanceTypes := #[]
  staticTypes := #[]
  resolved := #[]
  callSites := []
  init := .initialized
  statics := none
  mirror := none

def pool0 : Array CpInfo := pool [(5, u "<init>"), (0, u "()V"), (1, .class_ 10), (1, u "java/lang/Object")] 113

def k0c0 : Code := { maxStack := 0, maxLocals := 1, code := object_method_1_code, exceptionTable := #[], attributes := #[] }
def k0m0 : Method := { name := "<init>", desc := "()V", sig := { parameters := [], returnType := none }, accessFlags := 1, code := some k0c0 }
/-- java/lang/Object -/
def k0 : Class := { plain "java/lang/Object" none with
  accessFlags := 33
  interfaces := #[]
  cf := some (fileOf pool0 8 #[] #[{ accessFlags := 1, nameIndex := 5, descriptorIndex := 6, attributes := #[] }] 33 0 #[] #[])
  fields := #[]
  methods := #[k0m0]
  instanceTypes := #[]
  staticTypes := #[]
  resolved := Array.replicate 124 none
  statics := none }

def pool1 : Array CpInfo := pool [(2, .class_ 4), (0, .nameAndType 5 6), (0, u "java/lang/Object"), (0, u "<init>"), (0, u "()V"), (0, .integer 1048575), (0, .class_ 9), (0, u "com/example/volstat/volstat/garch/NormalErrors"), (0, .methodref 8 3), (0, .methodref 8 12), (0, .nameAndType 13 14), (0, u "varianceDerivatives"), (0, u "([D[D[D[D)V"), (0, .methodref 16 17), (0, .class_ 18), (0, .nameAndType 19 20), (0, u "com/example/volstat/volstat/garch/NormalErrorsVarianceDerivativesPinLaw"), (0, u "slopeRef"), (0, u "(JJ)D"), (0, .methodref 16 22), (0, .nameAndType 23 20), (0, u "curvatureRef"), (0, .long 2), (3, u "law"), (0, u "(IIIII)Z")] 5

def k1m0 : Method := { name := "<init>", desc := "()V", sig := { parameters := [], returnType := none }, accessFlags := 1, code := none }
def k1c1 : Code := { maxStack := 6, maxLocals := 23, code := code, exceptionTable := #[], attributes := #[] }
def k1m1 : Method := { name := "law", desc := "(IIIII)Z", sig := { parameters := [.int, .int, .int, .int, .int], returnType := some .boolean }, accessFlags := 9, code := some k1c1 }
def k1c2 : Code := { maxStack := 4, maxLocals := 4, code := method_3_code, exceptionTable := #[], attributes := #[] }
def k1m2 : Method := { name := "slopeRef", desc := "(JJ)D", sig := { parameters := [.long, .long], returnType := some .double }, accessFlags := 10, code := some k1c2 }
def k1c3 : Code := { maxStack := 6, maxLocals := 4, code := method_4_code, exceptionTable := #[], attributes := #[] }
def k1m3 : Method := { name := "curvatureRef", desc := "(JJ)D", sig := { parameters := [.long, .long], returnType := some .double }, accessFlags := 10, code := some k1c3 }
/-- com/example/volstat/volstat/garch/NormalErrorsVarianceDerivativesPinLaw -/
def k1 : Class := { plain "com/example/volstat/volstat/garch/NormalErrorsVarianceDerivativesPinLaw" (some 0) with
  accessFlags := 49
  interfaces := #[]
  cf := some (fileOf pool1 16 #[] #[{ accessFlags := 1, nameIndex := 5, descriptorIndex := 6, attributes := #[] }, { accessFlags := 9, nameIndex := 28, descriptorIndex := 29, attributes := #[] }, { accessFlags := 10, nameIndex := 19, descriptorIndex := 20, attributes := #[] }, { accessFlags := 10, nameIndex := 23, descriptorIndex := 20, attributes := #[] }] 49 2 #[] #[])
  fields := #[]
  methods := #[k1m0, k1m1, k1m2, k1m3]
  instanceTypes := #[]
  staticTypes := #[]
  resolved := Array.replicate 35 none
  statics := none }

def pool2 : Array CpInfo := pool [(1, .methodref 2 3), (0, .class_ 4), (0, .nameAndType 5 6), (0, u "java/lang/Object"), (0, u "<init>"), (0, u "()V"), (1, .class_ 10), (1, u "com/example/volstat/volstat/garch/ErrorLaw"), (0, u "LN_2_PI"), (0, u "D"), (7, u "NORMAL"), (0, u "Lcom/example/volstat/volstat/garch/ErrorLaw;")] 36

def k2c0 : Code := { maxStack := 1, maxLocals := 1, code := prog_24_method_1_code, exceptionTable := #[], attributes := #[] }
def k2m0 : Method := { name := "<init>", desc := "()V", sig := { parameters := [], returnType := none }, accessFlags := 0, code := some k2c0 }
/-- com/example/volstat/volstat/garch/ErrorLaw -/
def k2 : Class := { plain "com/example/volstat/volstat/garch/ErrorLaw" (some 0) with
  accessFlags := 1057
  interfaces := #[]
  cf := some (fileOf pool2 8 #[] #[{ accessFlags := 0, nameIndex := 5, descriptorIndex := 6, attributes := #[] }] 1057 2 #[] #[{ accessFlags := 25, nameIndex := 20, descriptorIndex := 21, attributes := #[] }, { accessFlags := 26, nameIndex := 11, descriptorIndex := 12, attributes := #[] }])
  fields := #[{ name := "NORMAL", type := (.object "com/example/volstat/volstat/garch/ErrorLaw"), accessFlags := 25, slot := 0, constantValue := 0 }, { name := "LN_2_PI", type := .double, accessFlags := 26, slot := 1, constantValue := 0 }]
  methods := #[k2m0]
  instanceTypes := #[]
  staticTypes := #[(.object "com/example/volstat/volstat/garch/ErrorLaw"), .double]
  resolved := Array.replicate 58 none
  statics := none }

def pool3 : Array CpInfo := pool [(1, .methodref 2 3), (0, .class_ 4), (0, .nameAndType 5 6), (0, u "com/example/volstat/volstat/garch/ErrorLaw"), (0, u "<init>"), (0, u "()V"), (6, .double 4611686018427387904), (5, .class_ 20), (0, u "com/example/volstat/volstat/garch/NormalErrors"), (6, u "varianceDerivatives"), (0, u "([D[D[D[D)V")] 18

def k3c0 : Code := { maxStack := 1, maxLocals := 1, code := prog_47_method_1_code, exceptionTable := #[], attributes := #[] }
def k3m0 : Method := { name := "<init>", desc := "()V", sig := { parameters := [], returnType := none }, accessFlags := 0, code := some k3c0 }
def k3c1 : Code := { maxStack := 8, maxLocals := 10, code := prog_47_method_4_code, exceptionTable := #[], attributes := #[] }
def k3m1 : Method := { name := "varianceDerivatives", desc := "([D[D[D[D)V", sig := { parameters := [(.array .double), (.array .double), (.array .double), (.array .double)], returnType := none }, accessFlags := 0, code := some k3c1 }
/-- com/example/volstat/volstat/garch/NormalErrors -/
def k3 : Class := { plain "com/example/volstat/volstat/garch/NormalErrors" (some 2) with
  accessFlags := 48
  interfaces := #[]
  cf := some (fileOf pool3 19 #[] #[{ accessFlags := 0, nameIndex := 5, descriptorIndex := 6, attributes := #[] }, { accessFlags := 0, nameIndex := 27, descriptorIndex := 28, attributes := #[] }] 48 2 #[] #[])
  fields := #[]
  methods := #[k3m0, k3m1]
  instanceTypes := #[]
  staticTypes := #[]
  resolved := Array.replicate 47 none
  statics := none }

def pool4 : Array CpInfo := pool [(1, u "java/lang/Cloneable"), (0, .class_ 1), (0, u "java/lang/Object"), (0, .class_ 3)] 3

/-- java/lang/Cloneable -/
def k4 : Class := { plain "java/lang/Cloneable" (some 0) with
  accessFlags := 1537
  interfaces := #[]
  cf := some (fileOf pool4 2 #[] #[] 1537 4 #[] #[])
  fields := #[]
  methods := #[]
  instanceTypes := #[]
  staticTypes := #[]
  resolved := Array.replicate 8 none
  statics := none }

def pool5 : Array CpInfo := pool [(1, u "java/io/Serializable"), (0, .class_ 1), (0, u "java/lang/Object"), (0, .class_ 3)] 3

/-- java/io/Serializable -/
def k5 : Class := { plain "java/io/Serializable" (some 0) with
  accessFlags := 1537
  interfaces := #[]
  cf := some (fileOf pool5 2 #[] #[] 1537 4 #[] #[])
  fields := #[]
  methods := #[]
  instanceTypes := #[]
  staticTypes := #[]
  resolved := Array.replicate 8 none
  statics := none }

/-- the primitive byte -/
def k6 : Class := { plain "byte" none with kind := .primitive 'B', accessFlags := 0x411 }
/-- [B -/
def k7 : Class := { plain "[B" (some 0) with kind := .array 6 .byte, interfaces := #[4, 5], accessFlags := 1041 }

/-- the primitive int -/
def k8 : Class := { plain "int" none with kind := .primitive 'I', accessFlags := 0x411 }
/-- [I -/
def k9 : Class := { plain "[I" (some 0) with kind := .array 8 .int, interfaces := #[4, 5], accessFlags := 1041 }

def heap : Heap := #[]
/-- the primitive double -/
def k10 : Class := { plain "double" none with kind := .primitive 'D', accessFlags := 0x411 }
/-- [D -/
def k11 : Class := { plain "[D" (some 0) with kind := .array 10 .double, interfaces := #[4, 5], accessFlags := 1041 }

def classes : Array Class := #[k0, k1, k2, k3, k4, k5, k6, k7, k8, k9, k10, k11]
def interned : List (Array UInt16 × Addr) := []
def slotsUsed : Nat := 0
def theMethod : MethodId := ⟨1, 1⟩
def args0 : Array Value := #[.int 5, .int 6, .int 7, .int 8, .int 9]
def aboutOver (below : List Frame) : State where
  vm := { classes := classes, interned := interned.toArray }
  heap := heap
  slotsUsed := slotsUsed
  threads := #[{ frames := .invoking theMethod args0 :: below }]
def below0 : List Frame := [.native { method := ⟨0, 0⟩, args := #[] }]
def about1 : State := aboutOver below0
def p0 : Program := .bare "" "" ""
def e0 : Env := launch0.env 0 0 0
theorem w_frames : about1.frames = Frame.invoking theMethod args0 :: below0 := rfl
set_option maxRecDepth 65536 in
theorem w_args : argsFit about1.vm theMethod args0 = true := by decide +kernel
set_option maxRecDepth 65536 in
theorem w_heap : heapFits about1 = true := by decide +kernel
set_option maxRecDepth 65536 in
theorem w_runnable : about1.curStatus? = some .runnable := by decide +kernel
set_option maxRecDepth 65536 in
theorem w_alone : about1.alone = true := by decide +kernel
set_option maxRecDepth 65536 in
theorem w_named : about1.methodNamed? x = some theMethod := by decide +kernel
set_option maxRecDepth 65536 in
theorem w_hears : about1.hears theMethod below0 = true := by decide +kernel
set_option maxRecDepth 65536 in
theorem w_ripe : about1.ripe theMethod args0 below0 = true := by decide +kernel
theorem w_running : about1.status = .running := rfl
set_option maxRecDepth 65536 in
theorem w_room : about1.hasRoom e0.platform room_1 = true :=
  launch0.hasRoom_least _ room_1 (by decide +kernel) (by decide +kernel) (by decide +kernel) (by decide +kernel) (by decide +kernel) (by decide +kernel)
theorem allAtoms_all (ts : List Jvm.Cond) (a : Array Jvm.Value) (st : Jvm.State) : (allAtoms ts).before a st = ts.all (fun c => c.before a st) := by
  induction ts with
  | nil => rfl
  | cons c t ih =>
    show (Jvm.Cond.and c (allAtoms t)).before a st = _
    rw [Jvm.Cond.before_and, ih, List.all_cons]
def words1 : List Jvm.Cond := Jvm.Cond.code x code maxLocals ret :: tables_1
/-- a 'code' word, met by the world's own term for the bytes: nothing is compared byte by byte -/
theorem code_word {y : MethodName} {bytes : ByteArray} {mx : Nat} {rt : Option FieldType} {a : Array Value} {s : State} {m : MethodId} {meth : Method} {c : Code} (h1 : s.methodNamed? y = some m) (h2 : s.vm.method? m = some meth) (h3 : meth.code = some c) (h4 : c.code = bytes)
    (h5 : (c.maxLocals == mx && c.exceptionTable.isEmpty && decide (c.maxStack ≤ mostOperands) && decide (meth.sig.returnType = rt) && !meth.locks && decide (parseMethodDescriptor y.desc = some meth.sig)) = true) : (Jvm.Cond.code y bytes mx rt).before a s = true := by
  simp only [Bool.and_eq_true, beq_iff_eq, Bool.not_eq_true', decide_eq_true_eq] at h5
  obtain ⟨⟨⟨⟨⟨g1, g2⟩, g3⟩, g4⟩, g5⟩, g6⟩ := h5
  simp [Cond.before, Cond.holds, Cond.value, h1, h2, h3, h4, g1, g2, g3, g4, g5, g6]
def isCode : Jvm.Cond → Bool
  | .code _ _ _ _ => true
  | _ => false
theorem all_split {L : List Jvm.Cond} {P : Jvm.Cond → Bool} (h1 : L.all (fun c => isCode c || P c) = true) (h2 : ∀ c ∈ L.filter isCode, P c = true) : L.all P = true := by
  refine List.all_eq_true.mpr fun c hc => ?_
  have h := List.all_eq_true.mp h1 c hc
  rcases Bool.eq_false_or_eq_true (isCode c) with hi | hi
  · exact h2 c (List.mem_filter.mpr ⟨hc, hi⟩)
  · simpa [hi] using h
set_option maxRecDepth 65536 in
theorem w_c0 : (Jvm.Cond.code x code maxLocals ret).before args0 about1 = true := code_word (m := ⟨1, 1⟩) (meth := k1m1) (c := k1c1) (by decide +kernel) rfl rfl rfl (by decide +kernel)
set_option maxRecDepth 65536 in
theorem w_c1 : (Jvm.Cond.code ({ cls := "com/example/volstat/volstat/garch/NormalErrors", name := "<init>", desc := "()V" } : Jvm.MethodName) prog_47_method_1_code (1 : Nat) (Option.none : Option Jvm.ClassFile.FieldType)).before args0 about1 = true := code_word (m := ⟨3, 0⟩) (meth := k3m0) (c := k3c0) (by decide +kernel) rfl rfl rfl (by decide +kernel)
set_option maxRecDepth 65536 in
theorem w_c2 : (Jvm.Cond.code ({ cls := "com/example/volstat/volstat/garch/ErrorLaw", name := "<init>", desc := "()V" } : Jvm.MethodName) prog_24_method_1_code (1 : Nat) (Option.none : Option Jvm.ClassFile.FieldType)).before args0 about1 = true := code_word (m := ⟨2, 0⟩) (meth := k2m0) (c := k2c0) (by decide +kernel) rfl rfl rfl (by decide +kernel)
set_option maxRecDepth 65536 in
theorem w_c3 : (Jvm.Cond.code ({ cls := "java/lang/Object", name := "<init>", desc := "()V" } : Jvm.MethodName) object_method_1_code (1 : Nat) (Option.none : Option Jvm.ClassFile.FieldType)).before args0 about1 = true := code_word (m := ⟨0, 0⟩) (meth := k0m0) (c := k0c0) (by decide +kernel) rfl rfl rfl (by decide +kernel)
set_option maxRecDepth 65536 in
theorem w_c4 : (Jvm.Cond.code ({ cls := "com/example/volstat/volstat/garch/NormalErrors", name := "varianceDerivatives", desc := "([D[D[D[D)V" } : Jvm.MethodName) prog_47_method_4_code (10 : Nat) (Option.none : Option Jvm.ClassFile.FieldType)).before args0 about1 = true := code_word (m := ⟨3, 1⟩) (meth := k3m1) (c := k3c1) (by decide +kernel) rfl rfl rfl (by decide +kernel)
set_option maxRecDepth 65536 in
theorem w_c5 : (Jvm.Cond.code ({ cls := "com/example/volstat/volstat/garch/NormalErrorsVarianceDerivativesPinLaw", name := "slopeRef", desc := "(JJ)D" } : Jvm.MethodName) method_3_code (4 : Nat) (Option.some Jvm.ClassFile.FieldType.double)).before args0 about1 = true := code_word (m := ⟨1, 2⟩) (meth := k1m2) (c := k1c2) (by decide +kernel) rfl rfl rfl (by decide +kernel)
set_option maxRecDepth 65536 in
theorem w_c6 : (Jvm.Cond.code ({ cls := "com/example/volstat/volstat/garch/NormalErrorsVarianceDerivativesPinLaw", name := "curvatureRef", desc := "(JJ)D" } : Jvm.MethodName) method_4_code (4 : Nat) (Option.some Jvm.ClassFile.FieldType.double)).before args0 about1 = true := code_word (m := ⟨1, 3⟩) (meth := k1m3) (c := k1c3) (by decide +kernel) rfl rfl rfl (by decide +kernel)
def codes1 : List Jvm.Cond := [Jvm.Cond.code x code maxLocals ret, Jvm.Cond.code ({ cls := "com/example/volstat/volstat/garch/NormalErrors", name := "<init>", desc := "()V" } : Jvm.MethodName) prog_47_method_1_code (1 : Nat) (Option.none : Option Jvm.ClassFile.FieldType), Jvm.Cond.code ({ cls := "com/example/volstat/volstat/garch/ErrorLaw", name := "<init>", desc := "()V" } : Jvm.MethodName) prog_24_method_1_code (1 : Nat) (Option.none : Option Jvm.ClassFile.FieldType), Jvm.Cond.code ({ cls := "java/lang/Object", name := "<init>", desc := "()V" } : Jvm.MethodName) object_method_1_code (1 : Nat) (Option.none : Option Jvm.ClassFile.FieldType), Jvm.Cond.code ({ cls := "com/example/volstat/volstat/garch/NormalErrors", name := "varianceDerivatives", desc := "([D[D[D[D)V" } : Jvm.MethodName) prog_47_method_4_code (10 : Nat) (Option.none : Option Jvm.ClassFile.FieldType), Jvm.Cond.code ({ cls := "com/example/volstat/volstat/garch/NormalErrorsVarianceDerivativesPinLaw", name := "slopeRef", desc := "(JJ)D" } : Jvm.MethodName) method_3_code (4 : Nat) (Option.some Jvm.ClassFile.FieldType.double), Jvm.Cond.code ({ cls := "com/example/volstat/volstat/garch/NormalErrorsVarianceDerivativesPinLaw", name := "curvatureRef", desc := "(JJ)D" } : Jvm.MethodName) method_4_code (4 : Nat) (Option.some Jvm.ClassFile.FieldType.double)]
set_option maxRecDepth 65536 in
theorem codes_eq : words1.filter isCode = codes1 := rfl
theorem w_codes : ∀ c ∈ words1.filter isCode, c.before args0 about1 = true := by
  rw [codes_eq]
  intro c hc
  simp only [codes1, List.mem_cons, List.not_mem_nil, or_false] at hc
  rcases hc with rfl | rfl | rfl | rfl | rfl | rfl | rfl
  · exact w_c0
  · exact w_c1
  · exact w_c2
  · exact w_c3
  · exact w_c4
  · exact w_c5
  · exact w_c6
set_option maxRecDepth 65536 in
theorem w_t1 : (words1.take 24).all (fun c => isCode c || c.before args0 about1) = true := by decide +kernel
set_option maxRecDepth 65536 in
theorem w_t2 : (words1.drop 24).all (fun c => isCode c || c.before args0 about1) = true := by decide +kernel
theorem w_tables : (allAtoms (Jvm.Cond.code x code maxLocals ret :: tables_1)).before args0 about1 = true := by
  rw [allAtoms_all]
  show words1.all (fun c => c.before args0 about1) = true
  refine all_split ?_ w_codes
  rw [← List.take_append_drop 24 words1, List.all_append, w_t1, w_t2]
  rfl
set_option maxRecDepth 65536 in
theorem w_case : (Jvm.Cond.and given_1 narrow_1).before args0 about1 = true := by decide +kernel
theorem w_applies : (headSpec (Jvm.Cond.code x code maxLocals ret :: tables_1) room_1).applies x e0.platform about1 = true :=
  (Spec.applies_iff w_frames).mpr ⟨w_running, w_runnable, w_alone, w_named, w_hears, w_ripe, w_room, w_tables⟩
theorem atStart : AtStart classFile x code maxLocals ret World_1 tables_1 room_1 Calls_1 rest_1 Pre_1 launch0 p0 e0 about1 theMethod args0 below0 :=
  ⟨lists_1, trivial, launch0.admits_env _ _ _, launch0.least_env, fairChoices_fair.cas, fairChoices_fair.clock, w_frames, w_args, w_heap, w_applies, trivial, trivial, w_case⟩
end start1
theorem witness_1 : WitnessClaimed_1 := ⟨start1.p0, start1.e0, start1.about1, start1.theMethod, start1.args0, start1.below0, start1.atStart⟩
end Jvm.Pilot.@@N@@
