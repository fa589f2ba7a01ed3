import JvmDerived
import JvmDerived.Pilot.@@N@@Statement
import JvmDerived.Pilot.@@N@@Code
set_option linter.unusedVariables false
set_option linter.unusedSimpArgs false
namespace Jvm.Pilot.@@N@@
open Jvm Jvm.ClassFile Sem Op Lib Jvm.Free Jvm.Stand Jvm.LawKit Jvm.RoadKit Bundle Jvm.Pilot.@@N@@.Jvm.D
section OwnWalk
variable {p : Program} {l : Launch} {e : Env} {R : Room} {s : State} {m : MethodId} {args : Array Value} {below : List Frame} {meth : Method} {c : Code} {Z : State} {own : String} {bytes : ByteArray} {ml : Nat} {rt : Option FieldType} {nm : String} {n0 : Nat} {T : State} {h : Heap} {cells slots : Nat} {Q : Option Value → Heap → Prop} {Φ : State → Outcome → Prop} {pc pc' : Nat} {Ls : Array Slot} {rest : List Value} {a0 : Array Value}
/-- where the walk stands: the library's Stand, every place written so far is new (Fr), the heap, and the body's own data -/
def own_St (p : Program) (l : Launch) (e : Env) (R : Room) (s : State) (m : MethodId) (args : Array Value) (below : List Frame) (meth : Method) (c : Code) (Z : State) (own : String) (bytes : ByteArray) (ml : Nat) (rt : Option FieldType) (nm : String) (n0 : Nat) (T : State) (h : Heap) (cells slots : Nat) : Prop :=
  ∃ locs, Stand p l e R s m args below meth c T locs cells slots ∧ Fr n0 locs ∧ T.heap = h ∧ n0 ≤ h.size ∧ p.tables.exec = Jvm.exec ∧ Z.Warmed39 s.vm ∧ s.vm.findClass own = some m.cls ∧ c.code = bytes ∧ c.maxLocals = ml ∧ meth.sig.returnType = rt ∧ meth.locks = false ∧ meth.name = nm
/-- what a return that meets Q leaves -/
def own_Fin (below : List Frame) (s : State) (R : Room) (n0 : Nat) (Q : Option Value → Heap → Prop) : State → Outcome → Prop := fun s₂ o =>
  s₂.status = .running ∧ Ended s₂ below o ∧ ∃ v L, o = .returned v ∧ ((Q v s₂.heap ∧ n0 ≤ s₂.heap.size) ∧ Fr n0 L) ∧ FrameEnd s o s₂ L R.cells R.slots
/-- from frame g over T the run comes to an end that meets Φ -/
def own_Goal (p : Program) (e : Env) (below : List Frame) (Φ : State → Outcome → Prop) (T : State) (g : JFrame) : Prop :=
  ∃ s₂ o, Steps p.tables e below (T.setTop g) s₂ ∧ Φ s₂ o
theorem own_St.le (X : own_St p l e R s m args below meth c Z own bytes ml rt nm n0 T h cells slots) : n0 ≤ h.size := by obtain ⟨_, _, _, _, q, _⟩ := X; exact q
theorem own_step {T' : State} {g g' : JFrame} (f : ∀ t, Steps p.tables e below (T'.setTop g') t → Steps p.tables e below (T.setTop g) t) (k : own_Goal p e below Φ T' g') : own_Goal p e below Φ T g := by
  obtain ⟨s2, o, a, r⟩ := k
  exact ⟨s2, o, f _ a, r⟩
theorem own_cast {g g' : JFrame} (q : g = g') (k : own_Goal p e below Φ T g') : own_Goal p e below Φ T g := q ▸ k
theorem own_pure (X : own_St p l e R s m args below meth c Z own bytes ml rt nm n0 T h cells slots) {g g' : JFrame} (f : ∀ {locs}, Stand p l e R s m args below meth c T locs cells slots → p.tables.exec = Jvm.exec → c.code = bytes → ∀ t, Steps p.tables e below (T.setTop g') t → Steps p.tables e below (T.setTop g) t) (k : own_Goal p e below Φ T g') : own_Goal p e below Φ T g := by
  obtain ⟨locs, X, -, -, -, hx, -, -, hby, -⟩ := X
  exact own_step (f X hx hby) k
theorem own_iconst (X : own_St p l e R s m args below meth c Z own bytes ml rt nm n0 T h cells slots) {i : Int} {v : Int32} (hv : Int32.ofInt i = v) (hd : decode bytes pc = .ok (.iconst i, 1)) (hp : pc + 1 = pc') (k : own_Goal p e below Φ T (mkF m pc' Ls (.int v :: rest))) : own_Goal p e below Φ T (mkF m pc Ls (rest)) := by
  subst hp hv
  exact own_pure X (fun X hx hby _ a => XS.iconst X.here hx rfl (hb hby hd) a) k
theorem own_bipush (X : own_St p l e R s m args below meth c Z own bytes ml rt nm n0 T h cells slots) {i : Int} {v : Int32} (hv : (Int8.ofInt i).toInt32 = v) (hd : decode bytes pc = .ok (.bipush i, 2)) (hp : pc + 2 = pc') (k : own_Goal p e below Φ T (mkF m pc' Ls (.int v :: rest))) : own_Goal p e below Φ T (mkF m pc Ls (rest)) := by
  subst hp hv
  exact own_pure X (fun X hx hby _ a => XS.bipush X.here hx rfl (hb hby hd) a) k
theorem own_sipush (X : own_St p l e R s m args below meth c Z own bytes ml rt nm n0 T h cells slots) {i : Int} {v : Int32} (hv : (Int16.ofInt i).toInt32 = v) (hd : decode bytes pc = .ok (.sipush i, 3)) (hp : pc + 3 = pc') (k : own_Goal p e below Φ T (mkF m pc' Ls (.int v :: rest))) : own_Goal p e below Φ T (mkF m pc Ls (rest)) := by
  subst hp hv
  exact own_pure X (fun X hx hby _ a => XS.sipush X.here hx rfl (hb hby hd) a) k
theorem own_aconst_null (X : own_St p l e R s m args below meth c Z own bytes ml rt nm n0 T h cells slots)  (hd : decode bytes pc = .ok (.aconst_null, 1)) (hp : pc + 1 = pc') (k : own_Goal p e below Φ T (mkF m pc' Ls (.null :: rest))) : own_Goal p e below Φ T (mkF m pc Ls (rest)) := by
  subst hp
  exact own_pure X (fun X hx hby _ a => XS.aconstNull X.here hx rfl (hb hby hd) a) k
theorem own_lconst (X : own_St p l e R s m args below meth c Z own bytes ml rt nm n0 T h cells slots) {k : Fin 2} {v : Int64} (hv : Int64.ofNat k = v) (hd : decode bytes pc = .ok (.lconst k, 1)) (hp : pc + 1 = pc') (k : own_Goal p e below Φ T (mkF m pc' Ls (.long v :: rest))) : own_Goal p e below Φ T (mkF m pc Ls (rest)) := by
  subst hp hv
  exact own_pure X (fun X hx hby _ a => XT.lconst X.here hx rfl (hb hby hd) a) k
theorem own_dconst0 (X : own_St p l e R s m args below meth c Z own bytes ml rt nm n0 T h cells slots) {v : UInt64} (hv : FP.dconst0 = v) (hd : decode bytes pc = .ok (.dconst 0, 1)) (hp : pc + 1 = pc') (k : own_Goal p e below Φ T (mkF m pc' Ls (.double v :: rest))) : own_Goal p e below Φ T (mkF m pc Ls (rest)) := by
  subst hp
  exact own_pure X (fun X hx hby _ a => XS.dconst0 X.here hx rfl (hb hby hd) hv a) k
theorem own_dconst1 (X : own_St p l e R s m args below meth c Z own bytes ml rt nm n0 T h cells slots) {v : UInt64} (hv : FP.dconst1 = v) (hd : decode bytes pc = .ok (.dconst 1, 1)) (hp : pc + 1 = pc') (k : own_Goal p e below Φ T (mkF m pc' Ls (.double v :: rest))) : own_Goal p e below Φ T (mkF m pc Ls (rest)) := by
  subst hp
  exact own_pure X (fun X hx hby _ a => XS.dconst1 X.here hx rfl (hb hby hd) hv a) k
theorem own_iload (X : own_St p l e R s m args below meth c Z own bytes ml rt nm n0 T h cells slots) {k : Nat} {v : Int32} (hl : Ls[k]? = some (.val (.int v))) (hd : decode bytes pc = .ok (.iload k, 2)) (hp : pc + 2 = pc') (k : own_Goal p e below Φ T (mkF m pc' Ls (.int v :: rest))) : own_Goal p e below Φ T (mkF m pc Ls (rest)) := by
  subst hp
  exact own_pure X (fun X hx hby _ a => XS.iload X.here hx rfl (hb hby hd) hl a) k
theorem own_iloadN (X : own_St p l e R s m args below meth c Z own bytes ml rt nm n0 T h cells slots) {k : Fin 4} {v : Int32} (hl : Ls[k.val]? = some (.val (.int v))) (hd : decode bytes pc = .ok (.iload_n k, 1)) (hp : pc + 1 = pc') (k : own_Goal p e below Φ T (mkF m pc' Ls (.int v :: rest))) : own_Goal p e below Φ T (mkF m pc Ls (rest)) := by
  subst hp
  exact own_pure X (fun X hx hby _ a => XS.iloadN X.here hx rfl (hb hby hd) hl a) k
theorem own_istore (X : own_St p l e R s m args below meth c Z own bytes ml rt nm n0 T h cells slots) {k : Nat} {v : Int32} {Ls' : Array Slot} (hl : storeLocals Ls k (.int v) = some Ls') (hd : decode bytes pc = .ok (.istore k, 2)) (hp : pc + 2 = pc') (k : own_Goal p e below Φ T (mkF m pc' Ls' (rest))) : own_Goal p e below Φ T (mkF m pc Ls (.int v :: rest)) := by
  subst hp
  exact own_pure X (fun X hx hby _ a => XS.istore X.here hx rfl (hb hby hd) rfl hl a) k
theorem own_istoreN (X : own_St p l e R s m args below meth c Z own bytes ml rt nm n0 T h cells slots) {k : Fin 4} {v : Int32} {Ls' : Array Slot} (hl : storeLocals Ls k.val (.int v) = some Ls') (hd : decode bytes pc = .ok (.istore_n k, 1)) (hp : pc + 1 = pc') (k : own_Goal p e below Φ T (mkF m pc' Ls' (rest))) : own_Goal p e below Φ T (mkF m pc Ls (.int v :: rest)) := by
  subst hp
  exact own_pure X (fun X hx hby _ a => XS.istoreN X.here hx rfl (hb hby hd) rfl hl a) k
theorem own_lload (X : own_St p l e R s m args below meth c Z own bytes ml rt nm n0 T h cells slots) {k : Nat} {v : Int64} (hl : Ls[k]? = some (.val (.long v))) (hd : decode bytes pc = .ok (.lload k, 2)) (hp : pc + 2 = pc') (k : own_Goal p e below Φ T (mkF m pc' Ls (.long v :: rest))) : own_Goal p e below Φ T (mkF m pc Ls (rest)) := by
  subst hp
  exact own_pure X (fun X hx hby _ a => XT.lload X.here hx rfl (hb hby hd) hl a) k
theorem own_lloadN (X : own_St p l e R s m args below meth c Z own bytes ml rt nm n0 T h cells slots) {k : Fin 4} {v : Int64} (hl : Ls[k.val]? = some (.val (.long v))) (hd : decode bytes pc = .ok (.lload_n k, 1)) (hp : pc + 1 = pc') (k : own_Goal p e below Φ T (mkF m pc' Ls (.long v :: rest))) : own_Goal p e below Φ T (mkF m pc Ls (rest)) := by
  subst hp
  exact own_pure X (fun X hx hby _ a => XT.lloadN X.here hx rfl (hb hby hd) hl a) k
theorem own_lstore (X : own_St p l e R s m args below meth c Z own bytes ml rt nm n0 T h cells slots) {k : Nat} {v : Int64} {Ls' : Array Slot} (hl : storeLocals Ls k (.long v) = some Ls') (hd : decode bytes pc = .ok (.lstore k, 2)) (hp : pc + 2 = pc') (k : own_Goal p e below Φ T (mkF m pc' Ls' (rest))) : own_Goal p e below Φ T (mkF m pc Ls (.long v :: rest)) := by
  subst hp
  exact own_pure X (fun X hx hby _ a => XT.lstore X.here hx rfl (hb hby hd) rfl hl a) k
theorem own_lstoreN (X : own_St p l e R s m args below meth c Z own bytes ml rt nm n0 T h cells slots) {k : Fin 4} {v : Int64} {Ls' : Array Slot} (hl : storeLocals Ls k.val (.long v) = some Ls') (hd : decode bytes pc = .ok (.lstore_n k, 1)) (hp : pc + 1 = pc') (k : own_Goal p e below Φ T (mkF m pc' Ls' (rest))) : own_Goal p e below Φ T (mkF m pc Ls (.long v :: rest)) := by
  subst hp
  exact own_pure X (fun X hx hby _ a => XT.lstoreN X.here hx rfl (hb hby hd) rfl hl a) k
theorem own_dload (X : own_St p l e R s m args below meth c Z own bytes ml rt nm n0 T h cells slots) {k : Nat} {v : UInt64} (hl : Ls[k]? = some (.val (.double v))) (hd : decode bytes pc = .ok (.dload k, 2)) (hp : pc + 2 = pc') (k : own_Goal p e below Φ T (mkF m pc' Ls (.double v :: rest))) : own_Goal p e below Φ T (mkF m pc Ls (rest)) := by
  subst hp
  exact own_pure X (fun X hx hby _ a => XS.dload X.here hx rfl (hb hby hd) hl a) k
theorem own_dloadN (X : own_St p l e R s m args below meth c Z own bytes ml rt nm n0 T h cells slots) {k : Fin 4} {v : UInt64} (hl : Ls[k.val]? = some (.val (.double v))) (hd : decode bytes pc = .ok (.dload_n k, 1)) (hp : pc + 1 = pc') (k : own_Goal p e below Φ T (mkF m pc' Ls (.double v :: rest))) : own_Goal p e below Φ T (mkF m pc Ls (rest)) := by
  subst hp
  exact own_pure X (fun X hx hby _ a => XS.dloadN X.here hx rfl (hb hby hd) hl a) k
theorem own_dstore (X : own_St p l e R s m args below meth c Z own bytes ml rt nm n0 T h cells slots) {k : Nat} {v : UInt64} {Ls' : Array Slot} (hl : storeLocals Ls k (.double v) = some Ls') (hd : decode bytes pc = .ok (.dstore k, 2)) (hp : pc + 2 = pc') (k : own_Goal p e below Φ T (mkF m pc' Ls' (rest))) : own_Goal p e below Φ T (mkF m pc Ls (.double v :: rest)) := by
  subst hp
  exact own_pure X (fun X hx hby _ a => XS.dstore X.here hx rfl (hb hby hd) rfl hl a) k
theorem own_dstoreN (X : own_St p l e R s m args below meth c Z own bytes ml rt nm n0 T h cells slots) {k : Fin 4} {v : UInt64} {Ls' : Array Slot} (hl : storeLocals Ls k.val (.double v) = some Ls') (hd : decode bytes pc = .ok (.dstore_n k, 1)) (hp : pc + 1 = pc') (k : own_Goal p e below Φ T (mkF m pc' Ls' (rest))) : own_Goal p e below Φ T (mkF m pc Ls (.double v :: rest)) := by
  subst hp
  exact own_pure X (fun X hx hby _ a => XS.dstoreN X.here hx rfl (hb hby hd) rfl hl a) k
theorem own_aload (X : own_St p l e R s m args below meth c Z own bytes ml rt nm n0 T h cells slots) {k : Nat} {v : Value} (hl : Ls[k]? = some (.val v)) (hv : v.isRef = true) (hd : decode bytes pc = .ok (.aload k, 2)) (hp : pc + 2 = pc') (k : own_Goal p e below Φ T (mkF m pc' Ls (v :: rest))) : own_Goal p e below Φ T (mkF m pc Ls (rest)) := by
  subst hp
  exact own_pure X (fun X hx hby _ a => XS.aload X.here hx rfl (hb hby hd) hl hv a) k
theorem own_aloadN (X : own_St p l e R s m args below meth c Z own bytes ml rt nm n0 T h cells slots) {k : Fin 4} {v : Value} (hl : Ls[k.val]? = some (.val v)) (hv : v.isRef = true) (hd : decode bytes pc = .ok (.aload_n k, 1)) (hp : pc + 1 = pc') (k : own_Goal p e below Φ T (mkF m pc' Ls (v :: rest))) : own_Goal p e below Φ T (mkF m pc Ls (rest)) := by
  subst hp
  exact own_pure X (fun X hx hby _ a => XS.aloadN X.here hx rfl (hb hby hd) hl hv a) k
theorem own_astore (X : own_St p l e R s m args below meth c Z own bytes ml rt nm n0 T h cells slots) {k : Nat} {v : Value} {Ls' : Array Slot} (hl : storeLocals Ls k v = some Ls') (hv : v.isRef = true) (hd : decode bytes pc = .ok (.astore k, 2)) (hp : pc + 2 = pc') (k : own_Goal p e below Φ T (mkF m pc' Ls' (rest))) : own_Goal p e below Φ T (mkF m pc Ls (v :: rest)) := by
  subst hp
  exact own_pure X (fun X hx hby _ a => XS.astore X.here hx rfl (hb hby hd) rfl hv hl a) k
theorem own_astoreN (X : own_St p l e R s m args below meth c Z own bytes ml rt nm n0 T h cells slots) {k : Fin 4} {v : Value} {Ls' : Array Slot} (hl : storeLocals Ls k.val v = some Ls') (hv : v.isRef = true) (hd : decode bytes pc = .ok (.astore_n k, 1)) (hp : pc + 1 = pc') (k : own_Goal p e below Φ T (mkF m pc' Ls' (rest))) : own_Goal p e below Φ T (mkF m pc Ls (v :: rest)) := by
  subst hp
  exact own_pure X (fun X hx hby _ a => XS.astoreN X.here hx rfl (hb hby hd) rfl hv hl a) k
theorem own_iinc (X : own_St p l e R s m args below meth c Z own bytes ml rt nm n0 T h cells slots) {k : Nat} {i : Int} {x v : Int32} {Ls' : Array Slot} (hl : Ls[k]? = some (.val (.int x))) (hv : x + Int32.ofInt i = v) (hl' : storeLocals Ls k (.int v) = some Ls') (hd : decode bytes pc = .ok (.iinc k i, 3)) (hp : pc + 3 = pc') (k : own_Goal p e below Φ T (mkF m pc' Ls' (rest))) : own_Goal p e below Φ T (mkF m pc Ls (rest)) := by
  subst hp hv
  exact own_pure X (fun X hx hby _ a => XS.iinc X.here hx rfl (hb hby hd) hl hl' a) k
theorem own_iadd (X : own_St p l e R s m args below meth c Z own bytes ml rt nm n0 T h cells slots) {x y v : Int32} (hv : x + y = v) (hd : decode bytes pc = .ok (.iadd, 1)) (hp : pc + 1 = pc') (k : own_Goal p e below Φ T (mkF m pc' Ls (.int v :: rest))) : own_Goal p e below Φ T (mkF m pc Ls (.int y :: .int x :: rest)) := by
  subst hp hv
  exact own_pure X (fun X hx hby _ a => XS.iadd X.here hx rfl (hb hby hd) rfl a) k
theorem own_isub (X : own_St p l e R s m args below meth c Z own bytes ml rt nm n0 T h cells slots) {x y v : Int32} (hv : x - y = v) (hd : decode bytes pc = .ok (.isub, 1)) (hp : pc + 1 = pc') (k : own_Goal p e below Φ T (mkF m pc' Ls (.int v :: rest))) : own_Goal p e below Φ T (mkF m pc Ls (.int y :: .int x :: rest)) := by
  subst hp hv
  exact own_pure X (fun X hx hby _ a => XS.isub X.here hx rfl (hb hby hd) rfl a) k
theorem own_imul (X : own_St p l e R s m args below meth c Z own bytes ml rt nm n0 T h cells slots) {x y v : Int32} (hv : x * y = v) (hd : decode bytes pc = .ok (.imul, 1)) (hp : pc + 1 = pc') (k : own_Goal p e below Φ T (mkF m pc' Ls (.int v :: rest))) : own_Goal p e below Φ T (mkF m pc Ls (.int y :: .int x :: rest)) := by
  subst hp hv
  exact own_pure X (fun X hx hby _ a => XS.imul X.here hx rfl (hb hby hd) rfl a) k
theorem own_iand (X : own_St p l e R s m args below meth c Z own bytes ml rt nm n0 T h cells slots) {x y v : Int32} (hv : x &&& y = v) (hd : decode bytes pc = .ok (.iand, 1)) (hp : pc + 1 = pc') (k : own_Goal p e below Φ T (mkF m pc' Ls (.int v :: rest))) : own_Goal p e below Φ T (mkF m pc Ls (.int y :: .int x :: rest)) := by
  subst hp hv
  exact own_pure X (fun X hx hby _ a => XS.iand X.here hx rfl (hb hby hd) rfl a) k
theorem own_ior (X : own_St p l e R s m args below meth c Z own bytes ml rt nm n0 T h cells slots) {x y v : Int32} (hv : x ||| y = v) (hd : decode bytes pc = .ok (.ior, 1)) (hp : pc + 1 = pc') (k : own_Goal p e below Φ T (mkF m pc' Ls (.int v :: rest))) : own_Goal p e below Φ T (mkF m pc Ls (.int y :: .int x :: rest)) := by
  subst hp hv
  exact own_pure X (fun X hx hby _ a => XT.ior X.here hx rfl (hb hby hd) rfl a) k
theorem own_ixor (X : own_St p l e R s m args below meth c Z own bytes ml rt nm n0 T h cells slots) {x y v : Int32} (hv : x ^^^ y = v) (hd : decode bytes pc = .ok (.ixor, 1)) (hp : pc + 1 = pc') (k : own_Goal p e below Φ T (mkF m pc' Ls (.int v :: rest))) : own_Goal p e below Φ T (mkF m pc Ls (.int y :: .int x :: rest)) := by
  subst hp hv
  exact own_pure X (fun X hx hby _ a => XT.ixor X.here hx rfl (hb hby hd) rfl a) k
theorem own_ishl (X : own_St p l e R s m args below meth c Z own bytes ml rt nm n0 T h cells slots) {x y v : Int32} (hv : x <<< (y &&& 31) = v) (hd : decode bytes pc = .ok (.ishl, 1)) (hp : pc + 1 = pc') (k : own_Goal p e below Φ T (mkF m pc' Ls (.int v :: rest))) : own_Goal p e below Φ T (mkF m pc Ls (.int y :: .int x :: rest)) := by
  subst hp hv
  exact own_pure X (fun X hx hby _ a => XT.ishl X.here hx rfl (hb hby hd) rfl a) k
theorem own_ishr (X : own_St p l e R s m args below meth c Z own bytes ml rt nm n0 T h cells slots) {x y v : Int32} (hv : x >>> (y &&& 31) = v) (hd : decode bytes pc = .ok (.ishr, 1)) (hp : pc + 1 = pc') (k : own_Goal p e below Φ T (mkF m pc' Ls (.int v :: rest))) : own_Goal p e below Φ T (mkF m pc Ls (.int y :: .int x :: rest)) := by
  subst hp hv
  exact own_pure X (fun X hx hby _ a => XT.ishr X.here hx rfl (hb hby hd) rfl a) k
theorem own_iushr (X : own_St p l e R s m args below meth c Z own bytes ml rt nm n0 T h cells slots) {x y v : Int32} (hv : XT.ushr x y = v) (hd : decode bytes pc = .ok (.iushr, 1)) (hp : pc + 1 = pc') (k : own_Goal p e below Φ T (mkF m pc' Ls (.int v :: rest))) : own_Goal p e below Φ T (mkF m pc Ls (.int y :: .int x :: rest)) := by
  subst hp hv
  exact own_pure X (fun X hx hby _ a => XT.iushr X.here hx rfl (hb hby hd) rfl a) k
theorem own_irem (X : own_St p l e R s m args below meth c Z own bytes ml rt nm n0 T h cells slots) {x y v : Int32} (hy : y ≠ 0) (hv : x % y = v) (hd : decode bytes pc = .ok (.irem, 1)) (hp : pc + 1 = pc') (k : own_Goal p e below Φ T (mkF m pc' Ls (.int v :: rest))) : own_Goal p e below Φ T (mkF m pc Ls (.int y :: .int x :: rest)) := by
  subst hp hv
  exact own_pure X (fun X hx hby _ a => iremM X hx rfl (hb hby hd) rfl hy a) k
theorem own_ineg (X : own_St p l e R s m args below meth c Z own bytes ml rt nm n0 T h cells slots) {x v : Int32} (hv : -x = v) (hd : decode bytes pc = .ok (.ineg, 1)) (hp : pc + 1 = pc') (k : own_Goal p e below Φ T (mkF m pc' Ls (.int v :: rest))) : own_Goal p e below Φ T (mkF m pc Ls (.int x :: rest)) := by
  subst hp hv
  exact own_pure X (fun X hx hby _ a => XS.ineg X.here hx rfl (hb hby hd) rfl a) k
theorem own_ladd (X : own_St p l e R s m args below meth c Z own bytes ml rt nm n0 T h cells slots) {x y v : Int64} (hv : x + y = v) (hd : decode bytes pc = .ok (.ladd, 1)) (hp : pc + 1 = pc') (k : own_Goal p e below Φ T (mkF m pc' Ls (.long v :: rest))) : own_Goal p e below Φ T (mkF m pc Ls (.long y :: .long x :: rest)) := by
  subst hp hv
  exact own_pure X (fun X hx hby _ a => XT.ladd X.here hx rfl (hb hby hd) rfl a) k
theorem own_lsub (X : own_St p l e R s m args below meth c Z own bytes ml rt nm n0 T h cells slots) {x y v : Int64} (hv : x - y = v) (hd : decode bytes pc = .ok (.lsub, 1)) (hp : pc + 1 = pc') (k : own_Goal p e below Φ T (mkF m pc' Ls (.long v :: rest))) : own_Goal p e below Φ T (mkF m pc Ls (.long y :: .long x :: rest)) := by
  subst hp hv
  exact own_pure X (fun X hx hby _ a => XT.lsub X.here hx rfl (hb hby hd) rfl a) k
theorem own_lmul (X : own_St p l e R s m args below meth c Z own bytes ml rt nm n0 T h cells slots) {x y v : Int64} (hv : x * y = v) (hd : decode bytes pc = .ok (.lmul, 1)) (hp : pc + 1 = pc') (k : own_Goal p e below Φ T (mkF m pc' Ls (.long v :: rest))) : own_Goal p e below Φ T (mkF m pc Ls (.long y :: .long x :: rest)) := by
  subst hp hv
  exact own_pure X (fun X hx hby _ a => XT.lmul X.here hx rfl (hb hby hd) rfl a) k
theorem own_land (X : own_St p l e R s m args below meth c Z own bytes ml rt nm n0 T h cells slots) {x y v : Int64} (hv : x &&& y = v) (hd : decode bytes pc = .ok (.land, 1)) (hp : pc + 1 = pc') (k : own_Goal p e below Φ T (mkF m pc' Ls (.long v :: rest))) : own_Goal p e below Φ T (mkF m pc Ls (.long y :: .long x :: rest)) := by
  subst hp hv
  exact own_pure X (fun X hx hby _ a => XT.land X.here hx rfl (hb hby hd) rfl a) k
theorem own_lor (X : own_St p l e R s m args below meth c Z own bytes ml rt nm n0 T h cells slots) {x y v : Int64} (hv : x ||| y = v) (hd : decode bytes pc = .ok (.lor, 1)) (hp : pc + 1 = pc') (k : own_Goal p e below Φ T (mkF m pc' Ls (.long v :: rest))) : own_Goal p e below Φ T (mkF m pc Ls (.long y :: .long x :: rest)) := by
  subst hp hv
  exact own_pure X (fun X hx hby _ a => XT.lor X.here hx rfl (hb hby hd) rfl a) k
theorem own_ldiv (X : own_St p l e R s m args below meth c Z own bytes ml rt nm n0 T h cells slots) {x y v : Int64} (hy : y ≠ 0) (hv : x / y = v) (hd : decode bytes pc = .ok (.ldiv, 1)) (hp : pc + 1 = pc') (k : own_Goal p e below Φ T (mkF m pc' Ls (.long v :: rest))) : own_Goal p e below Φ T (mkF m pc Ls (.long y :: .long x :: rest)) := by
  subst hp hv
  exact own_pure X (fun X hx hby _ a => XT.ldiv X.here hx rfl (hb hby hd) rfl hy a) k
theorem own_lrem (X : own_St p l e R s m args below meth c Z own bytes ml rt nm n0 T h cells slots) {x y v : Int64} (hy : y ≠ 0) (hv : x - (x / y) * y = v) (hd : decode bytes pc = .ok (.lrem, 1)) (hp : pc + 1 = pc') (k : own_Goal p e below Φ T (mkF m pc' Ls (.long v :: rest))) : own_Goal p e below Φ T (mkF m pc Ls (.long y :: .long x :: rest)) := by
  subst hp hv
  exact own_pure X (fun X hx hby _ a => XT.lrem X.here hx rfl (hb hby hd) rfl hy a) k
theorem own_lneg (X : own_St p l e R s m args below meth c Z own bytes ml rt nm n0 T h cells slots) {x v : Int64} (hv : -x = v) (hd : decode bytes pc = .ok (.lneg, 1)) (hp : pc + 1 = pc') (k : own_Goal p e below Φ T (mkF m pc' Ls (.long v :: rest))) : own_Goal p e below Φ T (mkF m pc Ls (.long x :: rest)) := by
  subst hp hv
  exact own_pure X (fun X hx hby _ a => XT.lneg X.here hx rfl (hb hby hd) rfl a) k
theorem own_lshl (X : own_St p l e R s m args below meth c Z own bytes ml rt nm n0 T h cells slots) {x v : Int64} {y : Int32} (hv : x <<< (y.toInt64 &&& 63) = v) (hd : decode bytes pc = .ok (.lshl, 1)) (hp : pc + 1 = pc') (k : own_Goal p e below Φ T (mkF m pc' Ls (.long v :: rest))) : own_Goal p e below Φ T (mkF m pc Ls (.int y :: .long x :: rest)) := by
  subst hp hv
  exact own_pure X (fun X hx hby _ a => XT.lshl X.here hx rfl (hb hby hd) rfl a) k
theorem own_lcmp (X : own_St p l e R s m args below meth c Z own bytes ml rt nm n0 T h cells slots) {x y : Int64} {v : Int32} (hv : XT.cmpL x y = v) (hd : decode bytes pc = .ok (.lcmp, 1)) (hp : pc + 1 = pc') (k : own_Goal p e below Φ T (mkF m pc' Ls (.int v :: rest))) : own_Goal p e below Φ T (mkF m pc Ls (.long y :: .long x :: rest)) := by
  subst hp hv
  exact own_pure X (fun X hx hby _ a => XT.lcmp X.here hx rfl (hb hby hd) rfl a) k
theorem own_i2l (X : own_St p l e R s m args below meth c Z own bytes ml rt nm n0 T h cells slots) {x : Int32} {v : Int64} (hv : x.toInt64 = v) (hd : decode bytes pc = .ok (.i2l, 1)) (hp : pc + 1 = pc') (k : own_Goal p e below Φ T (mkF m pc' Ls (.long v :: rest))) : own_Goal p e below Φ T (mkF m pc Ls (.int x :: rest)) := by
  subst hp hv
  exact own_pure X (fun X hx hby _ a => XT.i2l X.here hx rfl (hb hby hd) rfl a) k
theorem own_l2i (X : own_St p l e R s m args below meth c Z own bytes ml rt nm n0 T h cells slots) {x : Int64} {v : Int32} (hv : x.toInt32 = v) (hd : decode bytes pc = .ok (.l2i, 1)) (hp : pc + 1 = pc') (k : own_Goal p e below Φ T (mkF m pc' Ls (.int v :: rest))) : own_Goal p e below Φ T (mkF m pc Ls (.long x :: rest)) := by
  subst hp hv
  exact own_pure X (fun X hx hby _ a => XT.l2i X.here hx rfl (hb hby hd) rfl a) k
theorem own_i2c (X : own_St p l e R s m args below meth c Z own bytes ml rt nm n0 T h cells slots) {x v : Int32} (hv : x.toUInt32.toUInt16.toUInt32.toInt32 = v) (hd : decode bytes pc = .ok (.i2c, 1)) (hp : pc + 1 = pc') (k : own_Goal p e below Φ T (mkF m pc' Ls (.int v :: rest))) : own_Goal p e below Φ T (mkF m pc Ls (.int x :: rest)) := by
  subst hp hv
  exact own_pure X (fun X hx hby _ a => XT.i2c X.here hx rfl (hb hby hd) rfl a) k
theorem own_i2d (X : own_St p l e R s m args below meth c Z own bytes ml rt nm n0 T h cells slots) {x : Int32} {v : UInt64} (hv : FP.i2d x = v) (hd : decode bytes pc = .ok (.i2d, 1)) (hp : pc + 1 = pc') (k : own_Goal p e below Φ T (mkF m pc' Ls (.double v :: rest))) : own_Goal p e below Φ T (mkF m pc Ls (.int x :: rest)) := by
  subst hp
  exact own_pure X (fun X hx hby _ a => XS.i2dS X.here hx rfl (hb hby hd) rfl hv a) k
theorem own_l2d (X : own_St p l e R s m args below meth c Z own bytes ml rt nm n0 T h cells slots) {x : Int64} {v : UInt64} (hv : FP.l2d x = v) (hd : decode bytes pc = .ok (.l2d, 1)) (hp : pc + 1 = pc') (k : own_Goal p e below Φ T (mkF m pc' Ls (.double v :: rest))) : own_Goal p e below Φ T (mkF m pc Ls (.long x :: rest)) := by
  subst hp
  exact own_pure X (fun X hx hby _ a => XS.l2dS X.here hx rfl (hb hby hd) rfl hv a) k
theorem own_dadd (X : own_St p l e R s m args below meth c Z own bytes ml rt nm n0 T h cells slots) {x y v : UInt64} (hv : FP.dadd x y = v) (hn : Jvm.Free.Fl.NoNaN64 v) (hd : decode bytes pc = .ok (.dadd, 1)) (hp : pc + 1 = pc') (k : own_Goal p e below Φ T (mkF m pc' Ls (.double v :: rest))) : own_Goal p e below Φ T (mkF m pc Ls (.double y :: .double x :: rest)) := by
  subst hp
  exact own_pure X (fun X hx hby _ a => XS.daddS X.here hx rfl (hb hby hd) rfl (by rw [hv]; exact hn) hv a) k
theorem own_dsub (X : own_St p l e R s m args below meth c Z own bytes ml rt nm n0 T h cells slots) {x y v : UInt64} (hv : FP.dsub x y = v) (hn : Jvm.Free.Fl.NoNaN64 v) (hd : decode bytes pc = .ok (.dsub, 1)) (hp : pc + 1 = pc') (k : own_Goal p e below Φ T (mkF m pc' Ls (.double v :: rest))) : own_Goal p e below Φ T (mkF m pc Ls (.double y :: .double x :: rest)) := by
  subst hp
  exact own_pure X (fun X hx hby _ a => XS.dsubS X.here hx rfl (hb hby hd) rfl (by rw [hv]; exact hn) hv a) k
theorem own_dmul (X : own_St p l e R s m args below meth c Z own bytes ml rt nm n0 T h cells slots) {x y v : UInt64} (hv : FP.dmul x y = v) (hn : Jvm.Free.Fl.NoNaN64 v) (hd : decode bytes pc = .ok (.dmul, 1)) (hp : pc + 1 = pc') (k : own_Goal p e below Φ T (mkF m pc' Ls (.double v :: rest))) : own_Goal p e below Φ T (mkF m pc Ls (.double y :: .double x :: rest)) := by
  subst hp
  exact own_pure X (fun X hx hby _ a => XS.dmulS X.here hx rfl (hb hby hd) rfl (by rw [hv]; exact hn) hv a) k
theorem own_ddiv (X : own_St p l e R s m args below meth c Z own bytes ml rt nm n0 T h cells slots) {x y v : UInt64} (hv : FP.ddiv x y = v) (hn : Jvm.Free.Fl.NoNaN64 v) (hd : decode bytes pc = .ok (.ddiv, 1)) (hp : pc + 1 = pc') (k : own_Goal p e below Φ T (mkF m pc' Ls (.double v :: rest))) : own_Goal p e below Φ T (mkF m pc Ls (.double y :: .double x :: rest)) := by
  subst hp
  exact own_pure X (fun X hx hby _ a => XS.ddivS X.here hx rfl (hb hby hd) rfl (by rw [hv]; exact hn) hv a) k
theorem own_dneg (X : own_St p l e R s m args below meth c Z own bytes ml rt nm n0 T h cells slots) {x v : UInt64} (hv : FP.dneg x = v) (hd : decode bytes pc = .ok (.dneg, 1)) (hp : pc + 1 = pc') (k : own_Goal p e below Φ T (mkF m pc' Ls (.double v :: rest))) : own_Goal p e below Φ T (mkF m pc Ls (.double x :: rest)) := by
  subst hp
  exact own_pure X (fun X hx hby _ a => XS.dnegS X.here hx rfl (hb hby hd) rfl hv a) k
theorem own_dcmp (X : own_St p l e R s m args below meth c Z own bytes ml rt nm n0 T h cells slots) {o : CmpOp} {x y : UInt64} {v : Int32} (hv : cmpValue (FP.dcmp x y) o = v) (hd : decode bytes pc = .ok (.dcmp o, 1)) (hp : pc + 1 = pc') (k : own_Goal p e below Φ T (mkF m pc' Ls (.int v :: rest))) : own_Goal p e below Φ T (mkF m pc Ls (.double y :: .double x :: rest)) := by
  subst hp
  exact own_pure X (fun X hx hby _ a => XS.dcmpS X.here hx rfl (hb hby hd) rfl hv a) k
theorem own_dremS {tb : Tables} [Ours tb] {e : Env} {below : List Frame} {T target : State} {m : MethodId} {c : Code} {g : JFrame} (h : At T m c below) (hx : tb.exec = Jvm.exec) (hg : g.method = m) {x y v : UInt64} {rest : List Value} (hd : decode c.code g.pc = .ok (.drem, 1)) (hs : g.stack = .double y :: .double x :: rest) (hn : Jvm.Free.Fl.NoNaN64 (FP.drem x y)) (hv : FP.drem x y = v)
    (hr : Steps tb e below (T.setTop { g with pc := g.pc + 1, stack := .double v :: rest }) target) : Steps tb e below (T.setTop g) target := by
  subst hg
  subst hv
  obtain ⟨gm, gp, gl, gs, gk, ge, gr⟩ := g
  simp only at hs hd
  subst hs
  jvm_step h [h.top, hx, hd, Op.drem.at_number h.top hn]
  exact hr
theorem own_drem (X : own_St p l e R s m args below meth c Z own bytes ml rt nm n0 T h cells slots) {x y v : UInt64} (hv : FP.drem x y = v) (hn : Jvm.Free.Fl.NoNaN64 v) (hd : decode bytes pc = .ok (.drem, 1)) (hp : pc + 1 = pc') (k : own_Goal p e below Φ T (mkF m pc' Ls (.double v :: rest))) : own_Goal p e below Φ T (mkF m pc Ls (.double y :: .double x :: rest)) := by
  subst hp
  exact own_pure X (fun X hx hby _ a => own_dremS X.here hx rfl (hb hby hd) rfl (by rw [hv]; exact hn) hv a) k
theorem own_dup (X : own_St p l e R s m args below meth c Z own bytes ml rt nm n0 T h cells slots) {x : Value} (hc : x.category = 1) (hd : decode bytes pc = .ok (.dup, 1)) (hp : pc + 1 = pc') (k : own_Goal p e below Φ T (mkF m pc' Ls (x :: x :: rest))) : own_Goal p e below Φ T (mkF m pc Ls (x :: rest)) := by
  subst hp
  exact own_pure X (fun X hx hby _ a => XS.dup X.here hx rfl (hb hby hd) rfl hc a) k
theorem own_dup2 (X : own_St p l e R s m args below meth c Z own bytes ml rt nm n0 T h cells slots) {x y : Value} (hc : x.category = 1) (hc' : y.category = 1) (hd : decode bytes pc = .ok (.dup2, 1)) (hp : pc + 1 = pc') (k : own_Goal p e below Φ T (mkF m pc' Ls (x :: y :: x :: y :: rest))) : own_Goal p e below Φ T (mkF m pc Ls (x :: y :: rest)) := by
  subst hp
  exact own_pure X (fun X hx hby _ a => XT.dup2 X.here hx rfl (hb hby hd) rfl hc hc' a) k
theorem own_pop (X : own_St p l e R s m args below meth c Z own bytes ml rt nm n0 T h cells slots) {x : Value} (hc : x.category = 1) (hd : decode bytes pc = .ok (.pop, 1)) (hp : pc + 1 = pc') (k : own_Goal p e below Φ T (mkF m pc' Ls (rest))) : own_Goal p e below Φ T (mkF m pc Ls (x :: rest)) := by
  subst hp
  exact own_pure X (fun X hx hby _ a => XT.pop X.here hx rfl (hb hby hd) rfl hc a) k
theorem own_goto (X : own_St p l e R s m args below meth c Z own bytes ml rt nm n0 T h cells slots) {o : Int}  (hd : decode bytes pc = .ok (.goto o, 3)) (ho : 0 ≤ (pc : Int) + o) (hp : ((pc : Int) + o).toNat = pc') (k : own_Goal p e below Φ T (mkF m pc' Ls rest)) : own_Goal p e below Φ T (mkF m pc Ls (rest)) := by
  exact own_pure X (fun X hx hby _ a => XS.goto X.here hx rfl rfl (hb hby hd) ho hp a) k
theorem own_ifT (X : own_St p l e R s m args below meth c Z own bytes ml rt nm n0 T h cells slots) {o : Int} {cd : ClassFile.Cond} {x : Int32} (hc : ifCond.holds cd x = true) (hd : decode bytes pc = .ok (.ifCond cd o, 3)) (ho : 0 ≤ (pc : Int) + o) (hp : ((pc : Int) + o).toNat = pc') (k : own_Goal p e below Φ T (mkF m pc' Ls rest)) : own_Goal p e below Φ T (mkF m pc Ls (.int x :: rest)) := by
  exact own_pure X (fun X hx hby _ a => XS.ifYes X.here hx rfl rfl (hb hby hd) rfl hc ho hp a) k
theorem own_ifF (X : own_St p l e R s m args below meth c Z own bytes ml rt nm n0 T h cells slots) {o : Int} {cd : ClassFile.Cond} {x : Int32} (hc : ifCond.holds cd x = false) (hd : decode bytes pc = .ok (.ifCond cd o, 3)) (hp : pc + 3 = pc') (k : own_Goal p e below Φ T (mkF m pc' Ls rest)) : own_Goal p e below Φ T (mkF m pc Ls (.int x :: rest)) := by
  subst hp
  exact own_pure X (fun X hx hby _ a => XS.ifNo X.here hx rfl (hb hby hd) rfl hc a) k
theorem own_icmpT (X : own_St p l e R s m args below meth c Z own bytes ml rt nm n0 T h cells slots) {o : Int} {cd : ClassFile.Cond} {x y : Int32} (hc : if_icmp.holds cd x y = true) (hd : decode bytes pc = .ok (.if_icmp cd o, 3)) (ho : 0 ≤ (pc : Int) + o) (hp : ((pc : Int) + o).toNat = pc') (k : own_Goal p e below Φ T (mkF m pc' Ls rest)) : own_Goal p e below Φ T (mkF m pc Ls (.int y :: .int x :: rest)) := by
  exact own_pure X (fun X hx hby _ a => XS.icmpYes X.here hx rfl rfl (hb hby hd) rfl hc ho hp a) k
theorem own_icmpF (X : own_St p l e R s m args below meth c Z own bytes ml rt nm n0 T h cells slots) {o : Int} {cd : ClassFile.Cond} {x y : Int32} (hc : if_icmp.holds cd x y = false) (hd : decode bytes pc = .ok (.if_icmp cd o, 3)) (hp : pc + 3 = pc') (k : own_Goal p e below Φ T (mkF m pc' Ls rest)) : own_Goal p e below Φ T (mkF m pc Ls (.int y :: .int x :: rest)) := by
  subst hp
  exact own_pure X (fun X hx hby _ a => XS.icmpNo X.here hx rfl (hb hby hd) rfl hc a) k
theorem own_ifnullT (X : own_St p l e R s m args below meth c Z own bytes ml rt nm n0 T h cells slots) {o : Int}  (hd : decode bytes pc = .ok (.ifnull o, 3)) (ho : 0 ≤ (pc : Int) + o) (hp : ((pc : Int) + o).toNat = pc') (k : own_Goal p e below Φ T (mkF m pc' Ls rest)) : own_Goal p e below Φ T (mkF m pc Ls (.null :: rest)) := by
  exact own_pure X (fun X hx hby _ a => XS.ifnullYes X.here hx rfl rfl (hb hby hd) rfl ho hp a) k
theorem own_ifnullF (X : own_St p l e R s m args below meth c Z own bytes ml rt nm n0 T h cells slots) {o : Int} {b : Addr} (hd : decode bytes pc = .ok (.ifnull o, 3)) (hp : pc + 3 = pc') (k : own_Goal p e below Φ T (mkF m pc' Ls rest)) : own_Goal p e below Φ T (mkF m pc Ls (.ref b :: rest)) := by
  subst hp
  exact own_pure X (fun X hx hby _ a => XS.ifnullNo X.here hx rfl (hb hby hd) rfl a) k
theorem own_ifnonnullT (X : own_St p l e R s m args below meth c Z own bytes ml rt nm n0 T h cells slots) {o : Int} {b : Addr} (hd : decode bytes pc = .ok (.ifnonnull o, 3)) (ho : 0 ≤ (pc : Int) + o) (hp : ((pc : Int) + o).toNat = pc') (k : own_Goal p e below Φ T (mkF m pc' Ls rest)) : own_Goal p e below Φ T (mkF m pc Ls (.ref b :: rest)) := by
  exact own_pure X (fun X hx hby _ a => XT.ifnonnullYes X.here hx rfl rfl (hb hby hd) rfl ho hp a) k
theorem own_ifnonnullF (X : own_St p l e R s m args below meth c Z own bytes ml rt nm n0 T h cells slots) {o : Int}  (hd : decode bytes pc = .ok (.ifnonnull o, 3)) (hp : pc + 3 = pc') (k : own_Goal p e below Φ T (mkF m pc' Ls rest)) : own_Goal p e below Φ T (mkF m pc Ls (.null :: rest)) := by
  subst hp
  exact own_pure X (fun X hx hby _ a => XT.ifnonnullNo X.here hx rfl (hb hby hd) rfl a) k
theorem own_ldcI (X : own_St p l e R s m args below meth c Z own bytes ml rt nm n0 T h cells slots) {i : Nat} {v : Int32} (w : (Jvm.Cond.constant own i v).before a0 Z = true) (hd : decode bytes pc = .ok (.ldc i, 2)) (hp : pc + 2 = pc') (k : own_Goal p e below Φ T (mkF m pc' Ls (.int v :: rest))) : own_Goal p e below Φ T (mkF m pc Ls rest) := by
  subst hp
  obtain ⟨locs, X, -, -, -, hx, hZ, hown, hby, -⟩ := X
  exact own_step (fun t a => X.ldcInt hx hown (mvT hZ w) (g := mkF m pc Ls rest) rfl (hb hby hd) t a) k
theorem own_ldcJ (X : own_St p l e R s m args below meth c Z own bytes ml rt nm n0 T h cells slots) {i : Nat} {v : Int64} (w : (Jvm.Cond.constantLong own i v).before a0 Z = true) (hd : decode bytes pc = .ok (.ldc2_w i, 3)) (hp : pc + 3 = pc') (k : own_Goal p e below Φ T (mkF m pc' Ls (.long v :: rest))) : own_Goal p e below Φ T (mkF m pc Ls rest) := by
  subst hp
  obtain ⟨locs, X, -, -, -, hx, hZ, hown, hby, -⟩ := X
  exact own_step (fun t a => X.ldc2Long hx hown (mvT hZ w) (g := mkF m pc Ls rest) rfl (hb hby hd) t a) k
theorem own_ldcD (X : own_St p l e R s m args below meth c Z own bytes ml rt nm n0 T h cells slots) {i : Nat} {v : UInt64} (w : (Jvm.Cond.constantDouble own i v).before a0 Z = true) (hd : decode bytes pc = .ok (.ldc2_w i, 3)) (hp : pc + 3 = pc') (k : own_Goal p e below Φ T (mkF m pc' Ls (.double v :: rest))) : own_Goal p e below Φ T (mkF m pc Ls rest) := by
  subst hp
  obtain ⟨locs, X, -, -, -, hx, hZ, hown, hby, -⟩ := X
  exact own_step (fun t a => X.ldc2DoubleC hx hown (mvT hZ w) (g := mkF m pc Ls rest) rfl (hb hby hd) t a) k
theorem own_retI (X : own_St p l e R s m args below meth c Z own bytes ml rt nm n0 T h cells slots) {v : Int32} (hd : decode bytes pc = .ok (.ireturn, 1)) (hr : rt = some .int) (hc : cells ≤ R.cells) (hs : slots ≤ R.slots) (q : Q (some (.int v)) h) : own_Goal p e below (own_Fin below s R n0 Q) T (mkF m pc Ls (.int v :: rest)) := by
  obtain ⟨locs, X, N, e1, n1, hx, hZ, hown, hby, -, hrt, hlk, -⟩ := X
  obtain ⟨fs, hl, hrun, hended, hW, hsame⟩ := X.leave (v := some (.int v)) (fun z => by rw [hrt, hr] at z; cases z) hlk
  exact ⟨_, _, retOut X hx (hrt.trans hr) rfl (Or.inl ⟨rfl, Or.inl rfl, _, rfl⟩) (hb hby hd) hl, hrun, hended, _, _, rfl, ⟨⟨by show Q _ T.heap; rw [e1]; exact q, by show n0 ≤ T.heap.size; rw [e1]; exact n1⟩, N⟩, ⟨_, rfl⟩, hW, hsame.mono hc hs⟩
theorem own_retJ (X : own_St p l e R s m args below meth c Z own bytes ml rt nm n0 T h cells slots) {v : Int64} (hd : decode bytes pc = .ok (.lreturn, 1)) (hr : rt = some .long) (hc : cells ≤ R.cells) (hs : slots ≤ R.slots) (q : Q (some (.long v)) h) : own_Goal p e below (own_Fin below s R n0 Q) T (mkF m pc Ls (.long v :: rest)) := by
  obtain ⟨locs, X, N, e1, n1, hx, hZ, hown, hby, -, hrt, hlk, -⟩ := X
  obtain ⟨fs, hl, hrun, hended, hW, hsame⟩ := X.leave (v := some (.long v)) (fun z => by rw [hrt, hr] at z; cases z) hlk
  exact ⟨_, _, retOut X hx (hrt.trans hr) rfl (Or.inr (Or.inl ⟨rfl, rfl, _, rfl⟩)) (hb hby hd) hl, hrun, hended, _, _, rfl, ⟨⟨by show Q _ T.heap; rw [e1]; exact q, by show n0 ≤ T.heap.size; rw [e1]; exact n1⟩, N⟩, ⟨_, rfl⟩, hW, hsame.mono hc hs⟩
theorem own_retD (X : own_St p l e R s m args below meth c Z own bytes ml rt nm n0 T h cells slots) {v : UInt64} (hd : decode bytes pc = .ok (.dreturn, 1)) (hr : rt = some .double) (hc : cells ≤ R.cells) (hs : slots ≤ R.slots) (q : Q (some (.double v)) h) : own_Goal p e below (own_Fin below s R n0 Q) T (mkF m pc Ls (.double v :: rest)) := by
  obtain ⟨locs, X, N, e1, n1, hx, hZ, hown, hby, -, hrt, hlk, -⟩ := X
  obtain ⟨fs, hl, hrun, hended, hW, hsame⟩ := X.leave (v := some (.double v)) (fun z => by rw [hrt, hr] at z; cases z) hlk
  exact ⟨_, _, retOut X hx (hrt.trans hr) rfl (Or.inr (Or.inr (Or.inl ⟨rfl, rfl, _, rfl⟩))) (hb hby hd) hl, hrun, hended, _, _, rfl, ⟨⟨by show Q _ T.heap; rw [e1]; exact q, by show n0 ≤ T.heap.size; rw [e1]; exact n1⟩, N⟩, ⟨_, rfl⟩, hW, hsame.mono hc hs⟩
theorem own_retZ (X : own_St p l e R s m args below meth c Z own bytes ml rt nm n0 T h cells slots) {v : Int32} (hv : v = 0 ∨ v = 1) (hd : decode bytes pc = .ok (.ireturn, 1)) (hr : rt = some .boolean) (hc : cells ≤ R.cells) (hs : slots ≤ R.slots) (q : Q (some (.int v)) h) : own_Goal p e below (own_Fin below s R n0 Q) T (mkF m pc Ls (.int v :: rest)) := by
  obtain ⟨locs, X, N, e1, n1, hx, hZ, hown, hby, -, hrt, hlk, -⟩ := X
  obtain ⟨fs, hl, hrun, hended, hW, hsame⟩ := X.leave (v := some (.int v)) (fun z => by rw [hrt, hr] at z; cases z) hlk
  have hn : nar .boolean v = v := by rcases hv with rfl | rfl <;> rfl
  exact ⟨_, _, retN X hx (t := .boolean) (hrt.trans hr) (by simp) (hb hby hd) (by rw [hn]; exact hl), hrun, hended, _, _, rfl, ⟨⟨by show Q _ T.heap; rw [e1]; exact q, by show n0 ≤ T.heap.size; rw [e1]; exact n1⟩, N⟩, ⟨_, rfl⟩, hW, hsame.mono hc hs⟩
theorem own_retA (X : own_St p l e R s m args below meth c Z own bytes ml rt nm n0 T h cells slots) {b : Addr} {t : FieldType} (ht : t.isReference = true) (hd : decode bytes pc = .ok (.areturn, 1)) (hr : rt = some t) (hc : cells ≤ R.cells) (hs : slots ≤ R.slots) (q : Q (some (.ref b)) h) : own_Goal p e below (own_Fin below s R n0 Q) T (mkF m pc Ls (.ref b :: rest)) := by
  obtain ⟨locs, X, N, e1, n1, hx, hZ, hown, hby, -, hrt, hlk, -⟩ := X
  obtain ⟨fs, hl, hrun, hended, hW, hsame⟩ := X.leave (v := some (.ref b)) (fun z => by rw [hrt, hr] at z; cases z) hlk
  have hn : narrow t (.ref b) = .ref b := by cases t <;> rfl
  exact ⟨_, _, retOut X hx (hrt.trans hr) hn (Or.inr (Or.inr (Or.inr (Or.inr ⟨rfl, ht, rfl⟩)))) (hb hby hd) hl, hrun, hended, _, _, rfl, ⟨⟨by show Q _ T.heap; rw [e1]; exact q, by show n0 ≤ T.heap.size; rw [e1]; exact n1⟩, N⟩, ⟨_, rfl⟩, hW, hsame.mono hc hs⟩
theorem own_retV (X : own_St p l e R s m args below meth c Z own bytes ml rt nm n0 T h cells slots) (hd : decode bytes pc = .ok (.return_, 1)) (hr : rt = none) (hc : cells ≤ R.cells) (hs : slots ≤ R.slots) (q : Q none h) : own_Goal p e below (own_Fin below s R n0 Q) T (mkF m pc Ls []) := by
  obtain ⟨locs, X, N, e1, n1, hx, hZ, hown, hby, -, hrt, hlk, -⟩ := X
  obtain ⟨fs, hl, hrun, hended, hW, hsame⟩ := X.leave (v := none) (fun _ => rfl) hlk
  exact ⟨_, _, X.returnOut hx (hrt.trans hr) (hb hby hd) hl, hrun, hended, _, _, rfl, ⟨⟨by show Q _ T.heap; rw [e1]; exact q, by show n0 ≤ T.heap.size; rw [e1]; exact n1⟩, N⟩, ⟨_, rfl⟩, hW, hsame.mono hc hs⟩
/-- an array and all it holds -/
def own_Vec (Z : State) (h : Heap) (a : Addr) (ty : FieldType) (vs : List Value) : Prop := ∃ c : Cell, Arr Z h a c ty ∧ c.slots = vs.toArray
theorem own_Vec.lt {a : Addr} {ty : FieldType} {vs : List Value} (F : own_Vec Z h a ty vs) : a < h.size := by obtain ⟨c, A, -⟩ := F; exact A.lt
theorem own_Vec.ext {h' : Heap} {a : Addr} {ty : FieldType} {vs : List Value} (F : own_Vec Z h a ty vs) (E : Ext h h') : own_Vec Z h' a ty vs := by obtain ⟨c, A, r⟩ := F; exact ⟨c, A.ext E, r⟩
theorem own_Vec.other {h' : Heap} {a b : Addr} {sl : Nat} {v : Value} {ty : FieldType} {vs : List Value} (F : own_Vec Z h b ty vs) (W : Wr h h' a sl v) (q : b ≠ a) : own_Vec Z h' b ty vs := by obtain ⟨c, A, r⟩ := F; exact ⟨c, A.other W q, r⟩
theorem own_Vec.keep {h' : Heap} {ws : List Addr} {a : Addr} {ty : FieldType} {vs : List Value} (F : own_Vec Z h a ty vs) (K : Keep h h' ws) (q : a ∉ ws) : own_Vec Z h' a ty vs := by obtain ⟨c, A, r⟩ := F; exact ⟨c, ⟨K.2.1 a c A.1 q, A.2⟩, r⟩
theorem own_Vec.set {h' : Heap} {a : Addr} {i : Nat} {v : Value} {ty : FieldType} {vs : List Value} (F : own_Vec Z h a ty vs) (W : Wr h h' a i v) : own_Vec Z h' a ty (vs.set i v) := by
  obtain ⟨c, A, r⟩ := F
  refine ⟨_, A.same W, ?_⟩
  show c.slots.setIfInBounds i v = _
  rw [r]; simp
theorem own_lt_ne {a b : Addr} (q : b < h.size) (g : a = h.size) : b ≠ a := by subst g; exact Nat.ne_of_lt q
/-- an index in an array, as the library's laws ask it -/
theorem own_in {n i : Nat} {j : Int32} (hj : j.toNatClampNeg = i) (h0 : ¬ j < 0) (hi : i < n) : ¬ (j < 0 ∨ n ≤ j.toNatClampNeg) := by
  rw [hj]; rintro (q | q)
  · exact h0 q
  · omega
theorem own_len (X : own_St p l e R s m args below meth c Z own bytes ml rt nm n0 T h cells slots) {a : Addr} {ty : FieldType} {vs : List Value} (F : own_Vec Z h a ty vs) {v : Int32} (hv : vs.length.toInt32 = v) (hd : decode bytes pc = .ok (.arraylength, 1)) (hp : pc + 1 = pc') (k : own_Goal p e below Φ T (mkF m pc' Ls (.int v :: rest))) : own_Goal p e below Φ T (mkF m pc Ls (.ref a :: rest)) := by
  subst hp
  obtain ⟨locs, X, N, e1, -, hx, hZ, hown, hby, -⟩ := X
  obtain ⟨cl, A, r⟩ := F
  have e2 : cl.slots.size.toInt32 = v := by rw [r]; simpa using hv
  exact own_step (fun t a => X.arraylength hx (cell := cl) (by rw [e1]; exact A.1) (State.isArrayOf_alike hZ.alike A.2.1) (g := mkF m pc Ls _) rfl rfl (hb hby hd) t (by rw [e2]; exact a)) k
theorem own_iaload (X : own_St p l e R s m args below meth c Z own bytes ml rt nm n0 T h cells slots) {a : Addr} {vs : List Value} (F : own_Vec Z h a .int vs) {j : Int32} {i : Nat} {v : Value} (hj : j.toNatClampNeg = i) (h0 : ¬ j < 0) (hv : vs[i]? = some v) (hd : decode bytes pc = .ok (.iaload, 1)) (hp : pc + 1 = pc') (k : own_Goal p e below Φ T (mkF m pc' Ls (v :: rest))) : own_Goal p e below Φ T (mkF m pc Ls (.int j :: .ref a :: rest)) := by
  subst hp
  obtain ⟨locs, X, N, e1, -, hx, hZ, hown, hby, -⟩ := X
  obtain ⟨cl, A, r⟩ := F
  have q1 : i < vs.length := (List.getElem?_eq_some_iff.mp hv).1
  exact own_step (fun t a => X.iaload hx (cell := cl) (by rw [e1]; exact A.1) (State.isArrayOf_alike hZ.alike A.2.1) A.2.2 (own_in hj h0 (by rw [r]; simpa using q1)) (by rw [hj, r]; simpa using hv) (g := mkF m pc Ls _) rfl rfl (hb hby hd) t a) k
theorem own_laload (X : own_St p l e R s m args below meth c Z own bytes ml rt nm n0 T h cells slots) {a : Addr} {vs : List Value} (F : own_Vec Z h a .long vs) {j : Int32} {i : Nat} {v : Value} (hj : j.toNatClampNeg = i) (h0 : ¬ j < 0) (hv : vs[i]? = some v) (hd : decode bytes pc = .ok (.laload, 1)) (hp : pc + 1 = pc') (k : own_Goal p e below Φ T (mkF m pc' Ls (v :: rest))) : own_Goal p e below Φ T (mkF m pc Ls (.int j :: .ref a :: rest)) := by
  subst hp
  obtain ⟨locs, X, N, e1, -, hx, hZ, hown, hby, -⟩ := X
  obtain ⟨cl, A, r⟩ := F
  have q1 : i < vs.length := (List.getElem?_eq_some_iff.mp hv).1
  exact own_step (fun t a => X.laload hx (cell := cl) (by rw [e1]; exact A.1) (State.isArrayOf_alike hZ.alike A.2.1) A.2.2 (own_in hj h0 (by rw [r]; simpa using q1)) (by rw [hj, r]; simpa using hv) (g := mkF m pc Ls _) rfl rfl (hb hby hd) t a) k
theorem own_daload (X : own_St p l e R s m args below meth c Z own bytes ml rt nm n0 T h cells slots) {a : Addr} {vs : List Value} (F : own_Vec Z h a .double vs) {j : Int32} {i : Nat} {v : Value} (hj : j.toNatClampNeg = i) (h0 : ¬ j < 0) (hv : vs[i]? = some v) (hd : decode bytes pc = .ok (.daload, 1)) (hp : pc + 1 = pc') (k : own_Goal p e below Φ T (mkF m pc' Ls (v :: rest))) : own_Goal p e below Φ T (mkF m pc Ls (.int j :: .ref a :: rest)) := by
  subst hp
  obtain ⟨locs, X, N, e1, -, hx, hZ, hown, hby, -⟩ := X
  obtain ⟨cl, A, r⟩ := F
  have q1 : i < vs.length := (List.getElem?_eq_some_iff.mp hv).1
  exact own_step (fun t a => X.daload hx (cell := cl) (by rw [e1]; exact A.1) (State.isArrayOf_alike hZ.alike A.2.1) A.2.2 (own_in hj h0 (by rw [r]; simpa using q1)) (by rw [hj, r]; simpa using hv) (g := mkF m pc Ls _) rfl rfl (hb hby hd) t a) k
theorem own_iastore (X : own_St p l e R s m args below meth c Z own bytes ml rt nm n0 T h cells slots) {a : Addr} {vs : List Value} (F : own_Vec Z h a .int vs) (ha : n0 ≤ a) {j : Int32} {i : Nat} {x : Int32} (hj : j.toNatClampNeg = i) (h0 : ¬ j < 0) (hi : i < vs.length) (hd : decode bytes pc = .ok (.iastore, 1)) (hp : pc + 1 = pc')
    (k : ∀ T' h', own_St p l e R s m args below meth c Z own bytes ml rt nm n0 T' h' cells slots → Wr h h' a i (.int x) → own_Vec Z h' a .int (vs.set i (.int x)) → own_Goal p e below Φ T' (mkF m pc' Ls rest)) : own_Goal p e below Φ T (mkF m pc Ls (.int x :: .int j :: .ref a :: rest)) := by
  subst hp
  obtain ⟨locs, X, N, e1, n1, hx, hZ, hown, hby, r0⟩ := X
  have F0 := F
  obtain ⟨cl, A, r⟩ := F
  obtain ⟨T', h', X', e', W, st⟩ := stI X hx hZ e1 A (own_in hj h0 (by rw [r]; simpa using hi)) (g := mkF m pc Ls _) rfl rfl (hb hby hd)
  have N' := Fr.snoc X' N ha
  rw [hj] at W
  exact own_step st (k T' h' ⟨_, X', N', e', by rw [W.size]; exact n1, hx, hZ, hown, hby, r0⟩ W (F0.set W))
theorem own_dastore (X : own_St p l e R s m args below meth c Z own bytes ml rt nm n0 T h cells slots) {a : Addr} {vs : List Value} (F : own_Vec Z h a .double vs) (ha : n0 ≤ a) {j : Int32} {i : Nat} {x : UInt64} (hj : j.toNatClampNeg = i) (h0 : ¬ j < 0) (hi : i < vs.length) (hd : decode bytes pc = .ok (.dastore, 1)) (hp : pc + 1 = pc')
    (k : ∀ T' h', own_St p l e R s m args below meth c Z own bytes ml rt nm n0 T' h' cells slots → Wr h h' a i (.double x) → own_Vec Z h' a .double (vs.set i (.double x)) → own_Goal p e below Φ T' (mkF m pc' Ls rest)) : own_Goal p e below Φ T (mkF m pc Ls (.double x :: .int j :: .ref a :: rest)) := by
  subst hp
  obtain ⟨locs, X, N, e1, n1, hx, hZ, hown, hby, r0⟩ := X
  have F0 := F
  obtain ⟨cl, A, r⟩ := F
  obtain ⟨T', h', X', e', W, st⟩ := stD X hx hZ e1 A (own_in hj h0 (by rw [r]; simpa using hi)) (g := mkF m pc Ls _) rfl rfl (hb hby hd)
  have N' := Fr.snoc X' N ha
  rw [hj] at W
  exact own_step st (k T' h' ⟨_, X', N', e', by rw [W.size]; exact n1, hx, hZ, hown, hby, r0⟩ W (F0.set W))
theorem own_newarray (X : own_St p l e R s m args below meth c Z own bytes ml rt nm n0 T h cells slots) {aty : ArrayType} {ty : FieldType} (hty : newarray.typeOf aty = ty) (w : (Jvm.Cond.arrayClass ty).before a0 Z = true) {j : Int32} {n : Nat} {vs : List Value} (hj : j.toNatClampNeg = n) (h0 : ¬ j < 0) (hn : n ≤ 1000) (hvs : List.replicate n (defaultValue ty) = vs) {cells' slots' : Nat} (hc' : cells + 1 = cells') (hs' : slots + n = slots') (hc : cells' ≤ R.cells) (hs : slots' ≤ R.slots) (hd : decode bytes pc = .ok (.newarray aty, 2)) (hp : pc + 2 = pc')
    (k : ∀ a T' h', a = h.size → n0 ≤ a → own_St p l e R s m args below meth c Z own bytes ml rt nm n0 T' h' cells' slots' → Ext h h' → own_Vec Z h' a ty vs → own_Goal p e below Φ T' (mkF m pc' Ls (.ref a :: rest))) : own_Goal p e below Φ T (mkF m pc Ls (.int j :: rest)) := by
  subst hp hty hvs hc' hs'
  obtain ⟨locs, X, N, e1, n1, hx, hZ, hown, hby, r0⟩ := X
  obtain ⟨T', h', cA, X', e', E, A, st⟩ := newP X hx hZ w e1 (g := mkF m pc Ls _) rfl (hb hby hd) rfl h0 (cap := n) (by omega) (by omega) hc hs
  refine own_step st (k _ T' h' rfl n1 ⟨_, X', N, e', Nat.le_trans n1 E.1, hx, hZ, hown, hby, r0⟩ E ⟨_, A, ?_⟩)
  simp [newA, hj]
theorem own_new (X : own_St p l e R s m args below meth c Z own bytes ml rt nm n0 T h cells slots) {i : Nat} {C : String} {n : Nat} (w : (Jvm.Cond.classLink own i C).before a0 Z = true) (wi : (Jvm.Cond.instantiable C n).before a0 Z = true) (wz : (Jvm.Cond.initialized C).before a0 Z = true) {cells' slots' : Nat} (hc' : cells + 1 = cells') (hs' : slots + n = slots') (hc : cells' ≤ R.cells) (hs : slots' ≤ R.slots) (hd : decode bytes pc = .ok (.new i, 3)) (hp : pc + 3 = pc')
    (k : ∀ a T' h', a = h.size → n0 ≤ a → own_St p l e R s m args below meth c Z own bytes ml rt nm n0 T' h' cells' slots' → Ext h h' → Exa Z h' a C → (∀ {O nm d : String} {ty : FieldType}, Laid Z a0 C O nm d → parseFieldDescriptor d = some ty → Fld Z h' a O nm d (defaultValue ty)) → own_Goal p e below Φ T' (mkF m pc' Ls (.ref a :: rest))) : own_Goal p e below Φ T (mkF m pc Ls rest) := by
  subst hp hc' hs'
  obtain ⟨locs, X, N, e1, n1, hx, hZ, hown, hby, r0⟩ := X
  obtain ⟨T', h', X', e', E, A, D, -, st⟩ := newO X hx hZ hown w wi wz e1 (g := mkF m pc Ls _) rfl (hb hby hd) hc hs
  exact own_step st (k _ T' h' rfl n1 ⟨_, X', N, e', Nat.le_trans n1 E.1, hx, hZ, hown, hby, r0⟩ E A D)
theorem own_getF (X : own_St p l e R s m args below meth c Z own bytes ml rt nm n0 T h cells slots) {i : Nat} {O n d : String} (w : (Jvm.Cond.fieldLink own i O n d).before a0 Z = true) {a : Addr} {v : Value} (F : Fld Z h a O n d v) (hd : decode bytes pc = .ok (.getfield i, 3)) (hp : pc + 3 = pc')
    (k : ∀ T', own_St p l e R s m args below meth c Z own bytes ml rt nm n0 T' h cells slots → own_Goal p e below Φ T' (mkF m pc' Ls (v :: rest))) : own_Goal p e below Φ T (mkF m pc Ls (.ref a :: rest)) := by
  subst hp
  obtain ⟨locs, X, N, e1, n1, hx, hZ, hown, hby, r0⟩ := X
  obtain ⟨T', X', e', st⟩ := getF X hx hZ hown (host := "") (Or.inl w) Via.refl e1 F (g := mkF m pc Ls _) rfl rfl (hb hby hd)
  exact own_step st (k T' ⟨_, X', N, e', n1, hx, hZ, hown, hby, r0⟩)
theorem own_putF (X : own_St p l e R s m args below meth c Z own bytes ml rt nm n0 T h cells slots) {i : Nat} {O n d C : String} {kk : Nat} {ty : FieldType} (w : (Jvm.Cond.fieldLink own i O n d).before a0 Z = true) {a : Addr} {v old : Value} (F : Fld Z h a O n d old) (E : Exa Z h a C) (L : (Jvm.Cond.lays C O n d).before a0 Z = true ∨ ((Jvm.Cond.laysFinal C O n d).before a0 Z = true ∧ own = O ∧ nm = "<init>")) (wi : (Jvm.Cond.instantiable C kk).before a0 Z = true) (hty : parseFieldDescriptor d = some ty) (hn : narrow ty v = v) (hf : fits ty v = true) (ha : n0 ≤ a) (hd : decode bytes pc = .ok (.putfield i, 3)) (hp : pc + 3 = pc')
    (k : ∀ T' h', own_St p l e R s m args below meth c Z own bytes ml rt nm n0 T' h' cells slots → Wr h h' a (RoadKit.slotOf Z O n d) v → own_Goal p e below Φ T' (mkF m pc' Ls rest)) : own_Goal p e below Φ T (mkF m pc Ls (v :: .ref a :: rest)) := by
  subst hp
  obtain ⟨locs, X, N, e1, n1, hx, hZ, hown, hby, q1, q2, q3, q4⟩ := X
  obtain ⟨T', h', X', e', W, st⟩ := putF X hx hZ hown (host := "") (Or.inl w) Via.refl e1 F E (L.imp id fun z => ⟨z.1, z.2.1, q4.trans z.2.2⟩) wi hty hn hf (g := mkF m pc Ls _) rfl rfl (hb hby hd)
  exact own_step st (k T' h' ⟨_, X', Fr.snoc X' N ha, e', by rw [W.size]; exact n1, hx, hZ, hown, hby, q1, q2, q3, q4⟩ W)
theorem own_initO (X : own_St p l e R s m args below meth c Z own bytes ml rt nm n0 T h cells slots) {i : Nat} (w1 : (Jvm.Cond.methodLink own i Lib.objectInit).before a0 Z = true) (w2 : (Jvm.Cond.instanceMethod Lib.objectInit).before a0 Z = true) (w3 : (Jvm.Cond.code Lib.objectInit ⟨#[0xb1]⟩ 1 none).before a0 Z = true) {a : Addr} (hsz : Ls.size = ml) (hf : 1 ≤ R.frames) {W : Nat} (hW : (rest.map fun v => v.category).sum ≤ W) (hl : W + 12 ≤ R.locals) (hd : decode bytes pc = .ok (.invokespecial i, 3)) (hp : pc + 3 = pc')
    (k : ∀ T', own_St p l e R s m args below meth c Z own bytes ml rt nm n0 T' h cells slots → own_Goal p e below Φ T' (mkF m pc' Ls rest)) : own_Goal p e below Φ T (mkF m pc Ls (.ref a :: rest)) := by
  subst hp
  obtain ⟨locs, X, N, e1, n1, hx, hZ, hown, hby, hml, r0⟩ := X
  obtain ⟨T', X', e', st⟩ := initO X hx hZ hown w1 w2 w3 e1 (g := mkF m pc Ls (.ref a :: rest)) (rest := rest) rfl (hsz.trans hml.symm) rfl (hb hby hd) hf (W := W) (by show 2 * 0 + _ ≤ _; omega) hl
  exact own_step st (k T' ⟨_, X', N, e', n1, hx, hZ, hown, hby, hml, r0⟩)
/-- a callee's contract: called with as' over the heap h0 it returns, and Q says what it leaves -/
def own_Met (l : Launch) (Z : State) (y : MethodName) (bytes : ByteArray) (ml : Nat) (rt : Option FieldType) (ws : List Jvm.Cond) (rm : Room) (as' : Array Value) (h0 : Heap) (n0 : Nat) (Q : Option Value → Heap → Prop) : Prop :=
  MetFree l y (head1 (Jvm.Cond.code y bytes ml rt :: ws) rm) (fun a U => a = as' ∧ Z.Warmed39 U.vm ∧ U.heap = h0) (fun _ _ _ _ _ => True) (fun _ U o U' => ∃ v L, o = .returned v ∧ ((Q v U'.heap ∧ n0 ≤ U'.heap.size) ∧ Fr n0 L) ∧ FrameEnd U o U' L rm.cells rm.slots)
theorem own_meet {y : MethodName} {ws : List Jvm.Cond} {rm : Room} {as' : Array Value} {h0 : Heap} (hpn : plainFor y = true) (hle : n0 ≤ h0.size) {Ls0 : Array Slot} (hef : ∀ m, entryFrame m as' ml = mkF m 0 Ls0 [])
    (body : ∀ (p : Program) (e : Env) (s : State) (m : MethodId) (below : List Frame) (meth : Method) (c : Code) (T : State), own_St p l e rm s m as' below meth c Z y.cls bytes ml rt y.name n0 T h0 0 0 → own_Goal p e below (own_Fin below s rm n0 Q) T (mkF m 0 Ls0 [])) : own_Met l Z y bytes ml rt ws rm as' h0 n0 Q := by
  refine MetFree.of_bodySF hpn hisR ?_
  intro p e s m args below meth c s₁ Bd hml0 hP hK
  obtain ⟨rfl, hZ, hh⟩ := hP
  have e0 : s₁.heap = h0 := by rw [← hh, Bd.state]; rfl
  obtain ⟨s2, o, st, r1, r2, r3⟩ := body p e s m below meth c s₁ ⟨[], Stand.of_body Bd, Fr.nil n0, e0, hle, Bd.exec, hZ, findClass_of_methodNamed Bd.named, Bd.bytes, hml0, Bd.returns, Bd.notSynchronized, (name_of_methodNamed Bd.named Bd.method).1⟩
  exact ⟨s2, o, castTop (hef m) st, r1, r2, r3⟩
theorem own_callS (X : own_St p l e R s m args below meth c Z own bytes ml rt nm n0 T h cells slots) {y : MethodName} {yb : ByteArray} {yl : Nat} {yr : Option FieldType} {rm : Room} {as' : Array Value} {Q' : Option Value → Heap → Prop} (M : own_Met l Z y yb yl yr [] rm as' h n0 Q') {i : Nat} (w1 : (Jvm.Cond.methodLink own i y).before a0 Z = true) (w2 : (Jvm.Cond.static y).before a0 Z = true) (w3 : (Jvm.Cond.initialized y.cls).before a0 Z = true) (w4 : (Jvm.Cond.code y yb yl yr).before a0 Z = true) (hy : y.cls ≠ "java/lang/invoke/MethodHandle" ∧ y.cls ≠ "java/lang/invoke/VarHandle") (hsz : Ls.size = ml) (hf : rm.frames + 1 ≤ R.frames) {W : Nat} (hW : (rest.map fun v => v.category).sum ≤ W) (hl : W + (yl + 11) + rm.locals ≤ R.locals) {cells' slots' : Nat} (hc' : cells + rm.cells = cells') (hs' : slots + rm.slots = slots') (hc : cells' ≤ R.cells) (hs : slots' ≤ R.slots) {argsL stk : List Value} (hlen : ∀ sig, parseMethodDescriptor y.desc = some sig → argsL.length = sig.parameters.length) (hst : stk = argsL.reverse ++ rest) (has : argsL.toArray = as') (hd : decode bytes pc = .ok (.invokestatic i, 3)) (hp : pc + 3 = pc')
    (k : ∀ v T' h', own_St p l e R s m args below meth c Z own bytes ml rt nm n0 T' h' cells' slots' → Q' v h' → own_Goal p e below Φ T' (mkF m pc' Ls (v.toList ++ rest))) : own_Goal p e below Φ T (mkF m pc Ls stk) := by
  subst hp hst has hc' hs'
  obtain ⟨locs, X, N, e1, n1, hx, hZ, hown, hby, hml, r0⟩ := X
  obtain ⟨v, vm1, ⟨T', L', k', n'⟩, -, X', ⟨Lc, ⟨⟨hQ, hG⟩, NL⟩, l1, y1, z1⟩, st⟩ := Jvm.LawKit.callS X hx (y := y) hown (mvT hZ w1) (mvT hZ w2) (mvT hZ w3) (mvT hZ w4) hy (backOf (W := W) (Q := fun v hh L => (Q' v hh ∧ n0 ≤ hh.size) ∧ Fr n0 L) M hZ w4 w3 hf hl) (g := mkF m pc Ls (argsL.reverse ++ rest)) rfl (hsz.trans hml.symm) (argsL := argsL) (rest := rest) hlen rfl (by show 2 * 0 + _ ≤ _; omega) (hb hby hd) (fun _ _ => ⟨rfl, e1, hc, hs⟩)
  dsimp only [Pt.U, Pt.locs, Pt.cells, Pt.slots] at X' l1 y1 z1 st hQ
  subst l1 y1 z1
  exact own_step st (k v T' _ ⟨_, X', Fr.app N NL, rfl, hG, hx, hZ, hown, hby, hml, r0⟩ hQ)
theorem own_special (X : own_St p l e R s m args below meth c Z own bytes ml rt nm n0 T h cells slots) {y : MethodName} {yb : ByteArray} {yl : Nat} {yr : Option FieldType} {rm : Room} {as' : Array Value} {Q' : Option Value → Heap → Prop} (M : own_Met l Z y yb yl yr [] rm as' h n0 Q') (hy1 : y.name = "<init>") (hyr : yr = none) {i : Nat} (w1 : (Jvm.Cond.methodLink own i y).before a0 Z = true) (w2 : (Jvm.Cond.instanceMethod y).before a0 Z = true) (w3 : (Jvm.Cond.initialized y.cls).before a0 Z = true) (w4 : (Jvm.Cond.code y yb yl yr).before a0 Z = true) (hy : y.cls ≠ "java/lang/invoke/MethodHandle" ∧ y.cls ≠ "java/lang/invoke/VarHandle") (hsz : Ls.size = ml) (hf : rm.frames + 1 ≤ R.frames) {W : Nat} (hW : (rest.map fun v => v.category).sum ≤ W) (hl : W + (yl + 11) + rm.locals ≤ R.locals) {cells' slots' : Nat} (hc' : cells + rm.cells = cells') (hs' : slots + rm.slots = slots') (hc : cells' ≤ R.cells) (hs : slots' ≤ R.slots) {a : Addr} {argsL stk : List Value} (hlen : ∀ sig, parseMethodDescriptor y.desc = some sig → argsL.length = sig.parameters.length) (hst : stk = argsL.reverse ++ .ref a :: rest) (has : (.ref a :: argsL).toArray = as') (hd : decode bytes pc = .ok (.invokespecial i, 3)) (hp : pc + 3 = pc')
    (k : ∀ v T' h', own_St p l e R s m args below meth c Z own bytes ml rt nm n0 T' h' cells' slots' → Q' v h' → own_Goal p e below Φ T' (mkF m pc' Ls (v.toList ++ rest))) : own_Goal p e below Φ T (mkF m pc Ls stk) := by
  subst hp hst has hc' hs' hyr
  obtain ⟨locs, X, N, e1, n1, hx, hZ, hown, hby, hml, r0⟩ := X
  obtain ⟨v, vm1, ⟨T', L', k', n'⟩, -, X', ⟨Lc, ⟨⟨hQ, hG⟩, NL⟩, l1, y1, z1⟩, st⟩ := X.specialBack hx (y := y) hy1 hown (mvT hZ w1) (mvT hZ w2) (mvT hZ w4) hy (backOf (W := W) (Q := fun v hh L => (Q' v hh ∧ n0 ≤ hh.size) ∧ Fr n0 L) M hZ w4 w3 hf hl) (g := mkF m pc Ls (argsL.reverse ++ .ref a :: rest)) rfl (hsz.trans hml.symm) (Steps.refl _) (a := a) (argsL := argsL) (rest := rest) hlen rfl (by show 2 * 0 + _ ≤ _; omega) (hb hby hd) (fun _ _ => ⟨rfl, e1, hc, hs⟩)
  dsimp only [Pt.U, Pt.locs, Pt.cells, Pt.slots] at X' l1 y1 z1 st hQ
  subst l1 y1 z1
  exact own_step (fun t b => st.trans b) (k v T' _ ⟨_, X', Fr.app N NL, rfl, hG, hx, hZ, hown, hby, hml, r0⟩ hQ)
theorem own_virtual (X : own_St p l e R s m args below meth c Z own bytes ml rt nm n0 T h cells slots) {y : MethodName} {yb : ByteArray} {yl : Nat} {yr : Option FieldType} {rm : Room} {as' : Array Value} {Q' : Option Value → Heap → Prop} (M : own_Met l Z y yb yl yr [] rm as' h n0 Q') {C : String} {z : MethodName} {i : Nat} (hz : y = z) (w1 : (Jvm.Cond.methodLink own i z).before a0 Z = true) (wd : (Jvm.Cond.declares z).before a0 Z = true) (wsl : (Jvm.Cond.selects C z y).before a0 Z = true) (w2 : (Jvm.Cond.instanceMethod y).before a0 Z = true) (w3 : (Jvm.Cond.initialized y.cls).before a0 Z = true) (w4 : (Jvm.Cond.code y yb yl yr).before a0 Z = true) (hy : y.cls ≠ "java/lang/invoke/MethodHandle" ∧ y.cls ≠ "java/lang/invoke/VarHandle") (hsz : Ls.size = ml) (hf : rm.frames + 1 ≤ R.frames) {W : Nat} (hW : (rest.map fun v => v.category).sum ≤ W) (hl : W + (yl + 11) + rm.locals ≤ R.locals) {cells' slots' : Nat} (hc' : cells + rm.cells = cells') (hs' : slots + rm.slots = slots') (hc : cells' ≤ R.cells) (hs : slots' ≤ R.slots) {a : Addr} (E : Exa Z h a C) {argsL stk : List Value} (hlen : ∀ sig, parseMethodDescriptor y.desc = some sig → argsL.length = sig.parameters.length) (hst : stk = argsL.reverse ++ .ref a :: rest) (has : (.ref a :: argsL).toArray = as') (hd : decode bytes pc = .ok (.invokevirtual i, 3)) (hp : pc + 3 = pc')
    (k : ∀ v T' h', own_St p l e R s m args below meth c Z own bytes ml rt nm n0 T' h' cells' slots' → Q' v h' → own_Goal p e below Φ T' (mkF m pc' Ls (v.toList ++ rest))) : own_Goal p e below Φ T (mkF m pc Ls stk) := by
  subst hp hst has hc' hs' hz
  obtain ⟨locs, X, N, e1, n1, hx, hZ, hown, hby, hml, r0⟩ := X
  obtain ⟨cq, kq, qa, qb, qc⟩ := isOf (T := T) hZ e1 E
  obtain ⟨v, vm1, ⟨T', L', k', n'⟩, -, X', ⟨Lc, ⟨⟨hQ, hG⟩, NL⟩, l1, y1, z1⟩, st⟩ := X.virtualBack hx (y := y) (z := y) hown (mvT hZ w1) (mvT hZ wd) (notFace_of_selects (args := #[]) (mvT hZ wsl)) (mvT hZ wsl) (mvT hZ w2) hy (backOf (W := W) (Q := fun v hh L => (Q' v hh ∧ n0 ≤ hh.size) ∧ Fr n0 L) M hZ w4 w3 hf hl) qa qc (g := mkF m pc Ls (argsL.reverse ++ .ref a :: rest)) rfl (hsz.trans hml.symm) (Steps.refl _) (argsL := argsL) (rest := rest) hlen rfl (by show 2 * 0 + _ ≤ _; omega) (hb hby hd) (fun _ _ => ⟨rfl, e1, hc, hs⟩)
  dsimp only [Pt.U, Pt.locs, Pt.cells, Pt.slots] at X' l1 y1 z1 st hQ
  subst l1 y1 z1
  exact own_step (fun t b => st.trans b) (k v T' _ ⟨_, X', Fr.app N NL, rfl, hG, hx, hZ, hown, hby, hml, r0⟩ hQ)
end OwnWalk
section OwnNum
open Jvm.FP Jvm.FP.Core
/-- the int x is the whole number i, at most B in size -/
def own_I (B : Nat) (i : Int) (x : Int32) : Prop := x.toInt = i ∧ i.natAbs ≤ B
def own_L (B : Nat) (i : Int) (x : Int64) : Prop := x.toInt = i ∧ i.natAbs ≤ B
section
variable {A B C M : Nat} {i j : Int}
theorem own_I.start (x : Int32) : own_I 2147483648 x.toInt x := by
  have := x.toInt_lt; have := x.le_toInt
  exact ⟨rfl, by omega⟩
theorem own_L.start (x : Int64) : own_L 9223372036854775808 x.toInt x := by
  have := x.toInt_lt; have := x.le_toInt
  exact ⟨rfl, by omega⟩
theorem own_I.lit {x : Int32} (h : x.toInt = i) (hB : i.natAbs ≤ B) : own_I B i x := ⟨h, hB⟩
theorem own_I.self {x : Int32} (a : own_I A i x) : own_I A x.toInt x := ⟨rfl, by rw [a.1]; exact a.2⟩
theorem own_L.self {x : Int64} (a : own_L A i x) : own_L A x.toInt x := ⟨rfl, by rw [a.1]; exact a.2⟩
theorem own_L.lit {x : Int64} (h : x.toInt = i) (hB : i.natAbs ≤ B) : own_L B i x := ⟨h, hB⟩
theorem own_abs_mul {i j : Int} (h1 : i.natAbs ≤ A) (h2 : j.natAbs ≤ B) : (i * j).natAbs ≤ A * B := by
  rw [Int.natAbs_mul]; exact Nat.mul_le_mul h1 h2
theorem own_I.add {x y v : Int32} (a : own_I A i x) (b : own_I B j y) (hv : x + y = v) (hC : A + B ≤ C) (h : C < 2147483648) : own_I C (i + j) v := by
  obtain ⟨rfl, h1⟩ := a; obtain ⟨rfl, h2⟩ := b; subst hv
  refine ⟨?_, by omega⟩
  rw [Int32.toInt_add]; exact Int.bmod_eq_of_le (by omega) (by omega)
theorem own_I.sub {x y v : Int32} (a : own_I A i x) (b : own_I B j y) (hv : x - y = v) (hC : A + B ≤ C) (h : C < 2147483648) : own_I C (i - j) v := by
  obtain ⟨rfl, h1⟩ := a; obtain ⟨rfl, h2⟩ := b; subst hv
  refine ⟨?_, by omega⟩
  rw [Int32.toInt_sub]; exact Int.bmod_eq_of_le (by omega) (by omega)
theorem own_I.mul {x y v : Int32} (a : own_I A i x) (b : own_I B j y) (hv : x * y = v) (hC : A * B ≤ C) (h : C < 2147483648) : own_I C (i * j) v := by
  obtain ⟨rfl, h1⟩ := a; obtain ⟨rfl, h2⟩ := b; subst hv
  have h3 := Nat.le_trans (own_abs_mul h1 h2) hC
  refine ⟨?_, h3⟩
  rw [Int32.toInt_mul]; exact Int.bmod_eq_of_le (by omega) (by omega)
theorem own_I.neg {x v : Int32} (a : own_I A i x) (hv : -x = v) (h : A < 2147483648) : own_I A (-i) v := by
  obtain ⟨rfl, h1⟩ := a; subst hv
  refine ⟨?_, by omega⟩
  rw [Int32.toInt_neg]; exact Int.bmod_eq_of_le (by omega) (by omega)
theorem own_and_nn {x m v : Int32} (hv : x &&& m = v) (hm : m.toInt = M) : 0 ≤ v.toInt ∧ v.toInt ≤ M := by
  subst hv; have := c_and x m (by omega); omega
theorem own_I.and {x m v : Int32} (hv : x &&& m = v) (hm : m.toInt = M) : own_I M v.toInt v := by
  have := own_and_nn hv hm
  exact ⟨rfl, by omega⟩
theorem own_land_nn {x m v : Int64} (hv : x &&& m = v) (hm : m.toInt = M) : 0 ≤ v.toInt ∧ v.toInt ≤ M := by
  subst hv
  have h1 := (c_andSL x m).2.2 (by omega)
  refine ⟨h1, ?_⟩
  have la := x.toBitVec.isLt; have lm := m.toBitVec.isLt
  have q : (x &&& m).toBitVec.toNat = x.toBitVec.toNat &&& m.toBitVec.toNat := by show (x.toBitVec &&& m.toBitVec).toNat = _; rw [BitVec.toNat_and]
  have q2 : x.toBitVec.toNat &&& m.toBitVec.toNat ≤ m.toBitVec.toNat := Nat.and_le_right
  change 0 ≤ (x &&& m).toBitVec.toInt at h1
  show (x &&& m).toBitVec.toInt ≤ _
  change m.toBitVec.toInt = _ at hm
  rw [BitVec.toInt_eq_toNat_cond] at h1 hm ⊢
  rw [q] at h1 ⊢
  split at hm <;> split <;> omega
theorem own_L.and {x m v : Int64} (hv : x &&& m = v) (hm : m.toInt = M) : own_L M v.toInt v := by
  have := own_land_nn hv hm
  exact ⟨rfl, by omega⟩
theorem own_lrem_eq {x y v : Int64} (hv : x - (x / y) * y = v) (hx : 0 ≤ x.toInt) (hy : 0 < y.toInt) : v.toInt = x.toInt % y.toInt := by
  subst hv; exact (c_lrem x y _ rfl).1 hx
theorem own_I.shr {x q v : Int32} {k : Nat} (hv : x >>> (q &&& 31) = v) (hk : q.toBitVec.toNat % 32 = k) (hM : 2147483648 ≤ M * 2 ^ k) : own_I M v.toInt v := by
  subst hv
  have h1 := c_ishr x q k hk
  have h2 := x.toInt_lt; have h3 := x.le_toInt
  refine ⟨rfl, ?_⟩
  rw [h1]
  have p : 0 < 2 ^ k := Nat.two_pow_pos k
  generalize 2 ^ k = P at *
  have hP : (0 : Int) < (P : Int) := by omega
  have e1 : x.toInt / (P : Int) ≤ M := by
    refine Int.ediv_le_of_le_mul hP ?_
    have : ((M * P : Nat) : Int) = (M : Int) * P := Int.natCast_mul ..
    omega
  have e2 : -(M : Int) ≤ x.toInt / (P : Int) := by
    refine (Int.le_ediv_iff_mul_le hP).mpr ?_
    have : ((M * P : Nat) : Int) = (M : Int) * P := Int.natCast_mul ..
    rw [Int.neg_mul]; omega
  omega
theorem own_L.ofI {x : Int32} {v : Int64} (a : own_I A i x) (hv : x.toInt64 = v) : own_L A i v := by
  obtain ⟨rfl, h1⟩ := a; subst hv
  exact ⟨Int32.toInt_toInt64 x, h1⟩
theorem own_L.add {x y v : Int64} (a : own_L A i x) (b : own_L B j y) (hv : x + y = v) (hC : A + B ≤ C) (h : C < 9223372036854775808) : own_L C (i + j) v := by
  obtain ⟨rfl, h1⟩ := a; obtain ⟨rfl, h2⟩ := b; subst hv
  refine ⟨?_, by omega⟩
  rw [Int64.toInt_add]; exact Int.bmod_eq_of_le (by omega) (by omega)
theorem own_L.sub {x y v : Int64} (a : own_L A i x) (b : own_L B j y) (hv : x - y = v) (hC : A + B ≤ C) (h : C < 9223372036854775808) : own_L C (i - j) v := by
  obtain ⟨rfl, h1⟩ := a; obtain ⟨rfl, h2⟩ := b; subst hv
  refine ⟨?_, by omega⟩
  rw [Int64.toInt_sub]; exact Int.bmod_eq_of_le (by omega) (by omega)
theorem own_L.mul {x y v : Int64} (a : own_L A i x) (b : own_L B j y) (hv : x * y = v) (hC : A * B ≤ C) (h : C < 9223372036854775808) : own_L C (i * j) v := by
  obtain ⟨rfl, h1⟩ := a; obtain ⟨rfl, h2⟩ := b; subst hv
  have h3 := Nat.le_trans (own_abs_mul h1 h2) hC
  refine ⟨?_, h3⟩
  rw [Int64.toInt_mul]; exact Int.bmod_eq_of_le (by omega) (by omega)
theorem own_L.neg {x v : Int64} (a : own_L A i x) (hv : -x = v) (h : A < 9223372036854775808) : own_L A (-i) v := by
  obtain ⟨rfl, h1⟩ := a; subst hv
  refine ⟨?_, by omega⟩
  rw [Int64.toInt_neg]; exact Int.bmod_eq_of_le (by omega) (by omega)
end
/-- a datum times 2^k -/
def own_sh (k : Int) : Datum → Datum
  | .fin s c q => .fin s c (q + k)
  | d => d
theorem own_sh_sum (k : Int) (x y : Datum) : exactSum (own_sh k x) (own_sh k y) = own_sh k (exactSum x y) := by
  cases x with
  | nan => rfl
  | inf s => cases y with
    | nan => rfl
    | inf t => by_cases h : s = t <;> simp [own_sh, exactSum, h]
    | fin t d r => rfl
  | fin s c q => cases y with
    | nan => rfl
    | inf t => rfl
    | fin t d r =>
      have e1 : min (q + k) (r + k) = min q r + k := by omega
      have e2 : sumUnits s c (q + k) t d (r + k) (min q r + k) = sumUnits s c q t d r (min q r) := by
        unfold sumUnits inUnits
        rw [show q + k - (min q r + k) = q - min q r by omega, show r + k - (min q r + k) = r - min q r by omega]
      simp only [own_sh, exactSum, e1, e2]
theorem own_sh_prod (k r : Int) (x y : Datum) : exactProduct (own_sh k x) (own_sh r y) = own_sh (k + r) (exactProduct x y) := by
  cases x with
  | nan => rfl
  | inf s => cases y with
    | nan => rfl
    | inf t => rfl
    | fin t d u => simp only [own_sh, exactProduct]; split <;> rfl
  | fin s c q => cases y with
    | nan => rfl
    | inf t => simp only [own_sh, exactProduct]; split <;> rfl
    | fin t d u =>
      simp only [own_sh, exactProduct]
      rw [show q + k + (u + r) = q + u + (k + r) by omega]
theorem own_sh_neg (k : Int) (x : Datum) : negate (own_sh k x) = own_sh k (negate x) := by cases x <;> rfl
theorem own_sh_order (k : Int) (x y : Datum) : order (own_sh k x) (own_sh k y) = order x y := by
  cases x <;> cases y <;> try rfl
  rename_i s c q t d r
  simp only [own_sh, order]
  rw [show min (q + k) (r + k) = min q r + k by omega]
  unfold inUnits
  rw [show q + k - (min q r + k) = q - min q r by omega, show r + k - (min q r + k) = r - min q r by omega]
theorem own_sh_sh (k r : Int) (x : Datum) : own_sh r (own_sh k x) = own_sh (k + r) x := by
  cases x <;> simp only [own_sh]
  rw [Int.add_assoc]
theorem own_sh_zero (x : Datum) : own_sh 0 x = x := by cases x <;> simp [own_sh]
theorem own_signed_nat {i : Int} {s : Bool} {n : Nat} (h : n = i.natAbs) (hs : i ≠ 0 → s = decide (i < 0)) : signed s n = i := by
  by_cases h0 : i = 0
  · subst h0; subst h; exact signed_zero s
  · rw [hs h0, h]; unfold signed
    by_cases q : i < 0 <;> simp [q] <;> omega
/-- what is i * 2^-k in size rounds to itself, if i has 53 digits at the most -/
theorem own_round_core {k : Nat} {i : Int} {s : Bool} {c : Nat} {q : Int} (hk : k ≤ 1074) (hi : i.natAbs < 9007199254740992) (hs : i ≠ 0 → s = decide (i < 0)) : Whole i (own_sh k (roundRatio b64 s i.natAbs 1 (-(k : Int)))) := by
  obtain ⟨c', q', e1, e2⟩ := round_exact good_b64 s (c := i.natAbs) (q := -(k : Int)) (show i.natAbs < 2 ^ 53 by omega) (show (-1074 : Int) ≤ _ by omega) (show _ ≤ (971 : Int) by omega)
  have e3 : roundRatio b64 s i.natAbs 1 (-(k : Int)) = .fin s c' q' := e1
  have hf : Core.fits b64 (.fin s c' q') := by rw [← e1]; exact round_fits good_b64 _
  have hq : (-1074 : Int) ≤ q' := hf.2.1
  rw [e3]
  show signed s (c' * 2 ^ (q' + k).toNat) = i * ((2 ^ (-(q' + k)).toNat : Nat) : Int)
  have e4 : c' * 2 ^ (q' + 1074).toNat = i.natAbs * 2 ^ (1074 - k) := by
    have := e2
    unfold inUnits at this
    rw [show (q' - b64.qmin).toNat = (q' + 1074).toNat by rw [show b64.qmin = -1074 from rfl]; omega, show (-(k : Int) - b64.qmin).toNat = 1074 - k by rw [show b64.qmin = -1074 from rfl]; omega] at this
    exact this
  have e5 : c' * 2 ^ (q' + k).toNat = i.natAbs * 2 ^ (-(q' + k)).toNat := by
    refine Nat.eq_of_mul_eq_mul_right (Nat.two_pow_pos (1074 - k)) ?_
    have x1 : c' * 2 ^ (q' + k).toNat * 2 ^ (1074 - k) = c' * 2 ^ (q' + 1074).toNat * 2 ^ (-(q' + k)).toNat := by
      rw [Nat.mul_assoc, Nat.mul_assoc, ← Nat.pow_add, ← Nat.pow_add]; congr 2; omega
    rw [x1, e4, Nat.mul_right_comm]
  rw [e5, signed_mul, own_signed_nat rfl hs]
theorem own_round {k : Nat} {i : Int} {d : Datum} (hk : k ≤ 1074) (hi : i.natAbs < 9007199254740992) (h : Whole i (own_sh k d)) : Whole i (own_sh k (round b64 d)) := by
  cases d with
  | nan => exact h.elim
  | inf => exact h.elim
  | fin s c q =>
    have h1 : c * 2 ^ (q + k).toNat = i.natAbs * 2 ^ (-(q + k)).toNat := whole_natAbs h
    have e : round b64 (.fin s c q) = roundRatio b64 s i.natAbs 1 (-(k : Int)) := by
      refine roundRatio_congr (by decide) (by decide) ?_
      rw [show (q - -(k : Int)).toNat = (q + k).toNat by omega, show (-(k : Int) - q).toNat = (-(q + k)).toNat by omega]
      simpa using h1
    rw [e]
    exact own_round_core (c := c) (q := q) hk hi (fun h0 => whole_sign h h0)
/-- the double x is i * 2^-k, i at most B in size (both zeros are 0) -/
def own_D (k B : Nat) (i : Int) (x : UInt64) : Prop := Whole i (own_sh k (val64 x)) ∧ i.natAbs ≤ B
section
variable {k r t A B C : Nat} {i j : Int} {x y v : UInt64}
theorem own_D.fin (a : own_D k A i x) : ∃ s c q, val64 x = .fin s c q := by
  cases e : val64 x with
  | nan => have := a.1; rw [e] at this; exact this.elim
  | inf => have := a.1; rw [e] at this; exact this.elim
  | fin s c q => exact ⟨s, c, q, rfl⟩
theorem own_D.nn (a : own_D k A i x) : Jvm.Free.Fl.NoNaN64 x := by
  obtain ⟨s, c, q, e⟩ := a.fin
  exact Jvm.Free.Fl.val64_no.mpr (by rw [e]; exact Datum.noConfusion)
theorem own_D.isFin (a : own_D k A i x) : Jvm.Free.Fl.Fin64 x := by
  obtain ⟨s, c, q, e⟩ := a.fin
  exact Jvm.Free.Fl.fin64_core.mpr ⟨s, c, q, e⟩
theorem own_D.lit {s : Bool} {c : Nat} {q : Int} (h : val64 x = .fin s c q) (hw : signed s (c * 2 ^ (q + k).toNat) = i * ((2 ^ (-(q + k)).toNat : Nat) : Int)) (hB : i.natAbs ≤ B) : own_D k B i x := by
  refine ⟨?_, hB⟩
  rw [h]; exact hw
theorem own_D.mono (a : own_D k A i x) (h : A ≤ B) : own_D k B i x := ⟨a.1, Nat.le_trans a.2 h⟩
theorem own_D.zero {s : Bool} (h : val64 x = .fin s 0 b64.qmin) (k : Nat) : own_D k 0 0 x := by
  refine ⟨?_, by decide⟩
  rw [h]
  show signed s (0 * _) = 0 * _
  rw [Nat.zero_mul, signed_zero, Int.zero_mul]
theorem own_D.ofInt (h : DInt i x) (hB : i.natAbs ≤ B) : own_D 0 B i x := ⟨by rw [show ((0 : Nat) : Int) = 0 from rfl, own_sh_zero]; exact h, hB⟩
theorem own_D.i2d {z : Int32} (a : own_I A i z) (hv : FP.i2d z = v) : own_D 0 A i v := by
  subst hv; obtain ⟨rfl, h⟩ := a
  exact own_D.ofInt (i2d_int z) h
theorem own_D.l2d {z : Int64} (a : own_L A i z) (hv : FP.l2d z = v) (h : A ≤ 9007199254740992) : own_D 0 A i v := by
  subst hv; obtain ⟨rfl, h1⟩ := a
  exact own_D.ofInt (l2d_int (show _ ≤ 2 ^ 53 by omega)) h1
theorem own_D.add (a : own_D k A i x) (b : own_D k B j y) (hv : FP.dadd x y = v) (hC : A + B ≤ C) (h : C < 9007199254740992) (hk : k ≤ 1074) : own_D k C (i + j) v := by
  subst hv
  have h2 : (i + j).natAbs ≤ C := by have := a.2; have := b.2; omega
  refine ⟨?_, h2⟩
  show Whole _ (own_sh k (val64 (Core.dadd x y)))
  rw [val64_dadd]
  refine own_round hk (by omega) ?_
  rw [← own_sh_sum]; exact whole_sum a.1 b.1
theorem own_D.sub (a : own_D k A i x) (b : own_D k B j y) (hv : FP.dsub x y = v) (hC : A + B ≤ C) (h : C < 9007199254740992) (hk : k ≤ 1074) : own_D k C (i - j) v := by
  subst hv
  have h2 : (i - j).natAbs ≤ C := by have := a.2; have := b.2; omega
  refine ⟨?_, h2⟩
  show Whole _ (own_sh k (val64 (Core.dsub x y)))
  rw [val64_dsub]
  refine own_round hk (by omega) ?_
  rw [← own_sh_sum, ← own_sh_neg]; exact whole_sum a.1 (whole_negate b.1)
theorem own_D.mul (a : own_D k A i x) (b : own_D r B j y) (hv : FP.dmul x y = v) (hC : A * B ≤ C) (h : C < 9007199254740992) (ht : k + r = t) (hk : t ≤ 1074) : own_D t C (i * j) v := by
  subst hv ht
  have h2 : (i * j).natAbs ≤ C := Nat.le_trans (own_abs_mul a.2 b.2) hC
  refine ⟨?_, h2⟩
  show Whole _ (own_sh ((k + r : Nat) : Int) (val64 (Core.dmul x y)))
  rw [val64_dmul]
  refine own_round hk (by omega) ?_
  rw [Int.natCast_add, ← own_sh_prod]; exact whole_product a.1 b.1
theorem own_D.neg (a : own_D k A i x) (hv : FP.dneg x = v) : own_D k A (-i) v := by
  subst hv
  refine ⟨?_, by have := a.2; omega⟩
  rw [FP.val64_dneg, ← own_sh_neg]; exact whole_negate a.1
theorem own_whole_up {i : Int} {d : Datum} (r : Nat) (h : Whole i d) : Whole (i * ((2 ^ r : Nat) : Int)) (own_sh r d) := by
  cases d with
  | nan => exact h.elim
  | inf => exact h.elim
  | fin s c q =>
    have h1 : signed s (c * 2 ^ q.toNat) = i * ((2 ^ (-q).toNat : Nat) : Int) := h
    show signed s (c * 2 ^ (q + r).toNat) = i * ((2 ^ r : Nat) : Int) * ((2 ^ (-(q + r)).toNat : Nat) : Int)
    have p2 : ((2 ^ (-q).toNat : Nat) : Int) ≠ 0 := by
      have := Nat.two_pow_pos (-q).toNat; omega
    refine Int.eq_of_mul_eq_mul_right p2 ?_
    have e : (q + r).toNat + (-q).toNat = q.toNat + r + (-(q + r)).toNat := by omega
    calc signed s (c * 2 ^ (q + r).toNat) * ((2 ^ (-q).toNat : Nat) : Int)
        = signed s (c * 2 ^ ((q + r).toNat + (-q).toNat)) := by rw [← signed_mul, Nat.mul_assoc, ← Nat.pow_add]
      _ = signed s (c * 2 ^ q.toNat * 2 ^ r * 2 ^ (-(q + r)).toNat) := by rw [e, Nat.pow_add, Nat.pow_add]; congr 1; ac_rfl
      _ = i * ((2 ^ (-q).toNat : Nat) : Int) * ((2 ^ r : Nat) : Int) * ((2 ^ (-(q + r)).toNat : Nat) : Int) := by rw [signed_mul, signed_mul, h1]
      _ = _ := by ac_rfl
theorem own_D.up (a : own_D k A i x) {P : Nat} (hP : 2 ^ r = P) (ht : k + r = t) (hC : A * P ≤ C) : own_D t C (i * (P : Int)) x := by
  subst hP ht
  refine ⟨?_, Nat.le_trans (own_abs_mul a.2 (Nat.le_of_eq (Int.natAbs_natCast _))) hC⟩
  rw [Int.natCast_add, ← own_sh_sh]; exact own_whole_up r a.1
theorem own_D.dcmp (a : own_D k A i x) (b : own_D k B j y) : FP.dcmp x y = some (compare i j) := by
  show order (val64 x) (val64 y) = _
  rw [← own_sh_order k]; exact order_whole a.1 b.1
end
def own_c3 (i j : Int) : Int32 := if i < j then -1 else if i = j then 0 else 1
theorem own_c3_cmp (i j : Int) (o : CmpOp) : cmpValue (some (compare i j)) o = own_c3 i j := by
  unfold own_c3
  by_cases h : i < j
  · rw [if_pos h, show compare i j = .lt from Int.compare_eq_lt.mpr h]; rfl
  · rw [if_neg h]
    by_cases h2 : i = j
    · rw [if_pos h2, show compare i j = .eq from Int.compare_eq_eq.mpr h2]; rfl
    · rw [if_neg h2, show compare i j = .gt from Int.compare_eq_gt.mpr (by omega)]; rfl
theorem own_D.cmp {k A B : Nat} {i j : Int} {x y : UInt64} (a : own_D k A i x) (b : own_D k B j y) {o : CmpOp} : cmpValue (FP.dcmp x y) o = own_c3 i j := by
  rw [a.dcmp b]; exact own_c3_cmp i j o
theorem own_c3_eq {i j : Int} (h : i = j) : ifCond.holds .eq (own_c3 i j) = true ∧ ifCond.holds .ne (own_c3 i j) = false := by
  subst h; unfold own_c3; simp [ifCond.holds]
theorem own_c3_ne {i j : Int} (h : ¬ i = j) : ifCond.holds .eq (own_c3 i j) = false ∧ ifCond.holds .ne (own_c3 i j) = true := by
  unfold own_c3; by_cases q : i < j <;> simp [q, h, ifCond.holds]
theorem own_c3_lt {i j : Int} (h : i < j) : ifCond.holds .lt (own_c3 i j) = true ∧ ifCond.holds .ge (own_c3 i j) = false := by
  unfold own_c3; simp [h]; decide
theorem own_c3_nlt {i j : Int} (h : ¬ i < j) : ifCond.holds .lt (own_c3 i j) = false ∧ ifCond.holds .ge (own_c3 i j) = true := by
  unfold own_c3; rw [if_neg h]; by_cases q : i = j
  · rw [if_pos q]; decide
  · rw [if_neg q]; decide
theorem own_c3_gt {i j : Int} (h : j < i) : ifCond.holds .gt (own_c3 i j) = true ∧ ifCond.holds .le (own_c3 i j) = false := by
  unfold own_c3; rw [if_neg (by omega), if_neg (by omega)]; decide
theorem own_c3_ngt {i j : Int} (h : ¬ j < i) : ifCond.holds .gt (own_c3 i j) = false ∧ ifCond.holds .le (own_c3 i j) = true := by
  unfold own_c3; by_cases q : i < j
  · rw [if_pos q]; decide
  · rw [if_neg q, if_pos (by omega)]; decide
/-- the branches on ints, by what is known of them -/
theorem own_i_eq {x y : Int32} (h : x = y) : if_icmp.holds .eq x y = true ∧ if_icmp.holds .ne x y = false := teq h
theorem own_i_ne {x y : Int32} (h : ¬ x = y) : if_icmp.holds .eq x y = false ∧ if_icmp.holds .ne x y = true := feq h
theorem own_i_lt {x y : Int32} (h : x < y) : if_icmp.holds .lt x y = true ∧ if_icmp.holds .ge x y = false := ⟨(tlt h).1, (tlt h).2.1⟩
theorem own_i_nlt {x y : Int32} (h : ¬ x < y) : if_icmp.holds .lt x y = false ∧ if_icmp.holds .ge x y = true := ⟨(flt h).1, (flt h).2.1⟩
theorem own_i_gt {x y : Int32} (h : y < x) : if_icmp.holds .gt x y = true ∧ if_icmp.holds .le x y = false := ⟨(tlt h).2.2.1, (tlt h).2.2.2⟩
theorem own_i_ngt {x y : Int32} (h : ¬ y < x) : if_icmp.holds .gt x y = false ∧ if_icmp.holds .le x y = true := ⟨(flt h).2.2.1, (flt h).2.2.2⟩
theorem own_z_eq {x : Int32} (h : x = 0) : ifCond.holds .eq x = true ∧ ifCond.holds .ne x = false := by rw [if0, if0]; exact teq h
theorem own_z_ne {x : Int32} (h : ¬ x = 0) : ifCond.holds .eq x = false ∧ ifCond.holds .ne x = true := by rw [if0, if0]; exact feq h
theorem own_z_lt {x : Int32} (h : x < 0) : ifCond.holds .lt x = true ∧ ifCond.holds .ge x = false := by rw [if0, if0]; exact own_i_lt h
theorem own_z_nlt {x : Int32} (h : ¬ x < 0) : ifCond.holds .lt x = false ∧ ifCond.holds .ge x = true := by rw [if0, if0]; exact own_i_nlt h
theorem own_z_gt {x : Int32} (h : 0 < x) : ifCond.holds .gt x = true ∧ ifCond.holds .le x = false := by rw [if0, if0]; exact own_i_gt h
theorem own_z_ngt {x : Int32} (h : ¬ 0 < x) : ifCond.holds .gt x = false ∧ ifCond.holds .le x = true := by rw [if0, if0]; exact own_i_ngt h
theorem own_cases2 {v : Int32} (h : 0 ≤ v.toInt ∧ v.toInt ≤ ((1 : Nat) : Int)) : v = (0 : Int32) ∨ v = (1 : Int32) := by
  have : v.toInt = 0 ∨ v.toInt = 1 := by omega
  rcases this with q | q
  · exact Or.inl (Int32.toInt_inj.mp q)
  · exact Or.inr (Int32.toInt_inj.mp q)
theorem own_cases4 {v : Int32} (h : 0 ≤ v.toInt ∧ v.toInt ≤ ((3 : Nat) : Int)) : v = (0 : Int32) ∨ v = (1 : Int32) ∨ v = (2 : Int32) ∨ v = (3 : Int32) := by
  have : v.toInt = 0 ∨ v.toInt = 1 ∨ v.toInt = 2 ∨ v.toInt = 3 := by omega
  rcases this with q | q | q | q
  · exact Or.inl (Int32.toInt_inj.mp q)
  · exact Or.inr (Or.inl (Int32.toInt_inj.mp q))
  · exact Or.inr (Or.inr (Or.inl (Int32.toInt_inj.mp q)))
  · exact Or.inr (Or.inr (Or.inr (Int32.toInt_inj.mp q)))
theorem own_cases16 {v : Int32} (h : 0 ≤ v.toInt ∧ v.toInt ≤ ((15 : Nat) : Int)) : v = (0 : Int32) ∨ v = (1 : Int32) ∨ v = (2 : Int32) ∨ v = (3 : Int32) ∨ v = (4 : Int32) ∨ v = (5 : Int32) ∨ v = (6 : Int32) ∨ v = (7 : Int32) ∨ v = (8 : Int32) ∨ v = (9 : Int32) ∨ v = (10 : Int32) ∨ v = (11 : Int32) ∨ v = (12 : Int32) ∨ v = (13 : Int32) ∨ v = (14 : Int32) ∨ v = (15 : Int32) := by
  have : v.toInt = 0 ∨ v.toInt = 1 ∨ v.toInt = 2 ∨ v.toInt = 3 ∨ v.toInt = 4 ∨ v.toInt = 5 ∨ v.toInt = 6 ∨ v.toInt = 7 ∨ v.toInt = 8 ∨ v.toInt = 9 ∨ v.toInt = 10 ∨ v.toInt = 11 ∨ v.toInt = 12 ∨ v.toInt = 13 ∨ v.toInt = 14 ∨ v.toInt = 15 := by omega
  rcases this with q | q | q | q | q | q | q | q | q | q | q | q | q | q | q | q
  · exact Or.inl (Int32.toInt_inj.mp q)
  · exact Or.inr (Or.inl (Int32.toInt_inj.mp q))
  · exact Or.inr (Or.inr (Or.inl (Int32.toInt_inj.mp q)))
  · exact Or.inr (Or.inr (Or.inr (Or.inl (Int32.toInt_inj.mp q))))
  · exact Or.inr (Or.inr (Or.inr (Or.inr (Or.inl (Int32.toInt_inj.mp q)))))
  · exact Or.inr (Or.inr (Or.inr (Or.inr (Or.inr (Or.inl (Int32.toInt_inj.mp q))))))
  · exact Or.inr (Or.inr (Or.inr (Or.inr (Or.inr (Or.inr (Or.inl (Int32.toInt_inj.mp q)))))))
  · exact Or.inr (Or.inr (Or.inr (Or.inr (Or.inr (Or.inr (Or.inr (Or.inl (Int32.toInt_inj.mp q))))))))
  · exact Or.inr (Or.inr (Or.inr (Or.inr (Or.inr (Or.inr (Or.inr (Or.inr (Or.inl (Int32.toInt_inj.mp q)))))))))
  · exact Or.inr (Or.inr (Or.inr (Or.inr (Or.inr (Or.inr (Or.inr (Or.inr (Or.inr (Or.inl (Int32.toInt_inj.mp q))))))))))
  · exact Or.inr (Or.inr (Or.inr (Or.inr (Or.inr (Or.inr (Or.inr (Or.inr (Or.inr (Or.inr (Or.inl (Int32.toInt_inj.mp q)))))))))))
  · exact Or.inr (Or.inr (Or.inr (Or.inr (Or.inr (Or.inr (Or.inr (Or.inr (Or.inr (Or.inr (Or.inr (Or.inl (Int32.toInt_inj.mp q))))))))))))
  · exact Or.inr (Or.inr (Or.inr (Or.inr (Or.inr (Or.inr (Or.inr (Or.inr (Or.inr (Or.inr (Or.inr (Or.inr (Or.inl (Int32.toInt_inj.mp q)))))))))))))
  · exact Or.inr (Or.inr (Or.inr (Or.inr (Or.inr (Or.inr (Or.inr (Or.inr (Or.inr (Or.inr (Or.inr (Or.inr (Or.inr (Or.inl (Int32.toInt_inj.mp q))))))))))))))
  · exact Or.inr (Or.inr (Or.inr (Or.inr (Or.inr (Or.inr (Or.inr (Or.inr (Or.inr (Or.inr (Or.inr (Or.inr (Or.inr (Or.inr (Or.inl (Int32.toInt_inj.mp q)))))))))))))))
  · exact Or.inr (Or.inr (Or.inr (Or.inr (Or.inr (Or.inr (Or.inr (Or.inr (Or.inr (Or.inr (Or.inr (Or.inr (Or.inr (Or.inr (Or.inr (Int32.toInt_inj.mp q)))))))))))))))
/-- lcmp as a comparison of whole numbers -/
theorem own_lcmp_c3 (x y : Int64) : XT.cmpL x y = own_c3 x.toInt y.toInt := by
  unfold XT.cmpL own_c3
  simp only [Int64.lt_iff_toInt_lt, ← Int64.toInt_inj]
  by_cases h : x.toInt < y.toInt
  · simp [h, show ¬ y.toInt < x.toInt by omega, show ¬ x.toInt = y.toInt by omega]
  · by_cases h2 : x.toInt = y.toInt
    · simp [h2]
    · simp [h, h2, show y.toInt < x.toInt by omega]
theorem own_L.cmp {A B : Nat} {i j : Int} {x y : Int64} (a : own_L A i x) (b : own_L B j y) : XT.cmpL x y = own_c3 i j := by
  rw [own_lcmp_c3, a.1, b.1]
end OwnNum
section OwnDiv
open Jvm.FP Jvm.FP.Core
theorem own_quotient {s t : Bool} {c d : Nat} {q r : Int} (hd : d ≠ 0) : quotient b64 (.fin s c q) (.fin t d r) = roundRatio b64 (s != t) c d (q - r) := by
  show (if d = 0 then _ else _) = _
  rw [if_neg hd]
/-- the quotient of i * 2^-k and j is the rounded |i| / |j| * 2^-k -/
theorem own_quot {k A B : Nat} {i j : Int} {x z v : UInt64} (a : own_D k A i x) (b : own_D 0 B j z) (hj : j ≠ 0) (hv : FP.ddiv x z = v) :
    ∃ sg : Bool, val64 v = roundRatio b64 sg i.natAbs j.natAbs (-(k : Int)) ∧ (i ≠ 0 → sg = (decide (i < 0) != decide (j < 0))) := by
  subst hv
  obtain ⟨s, c, q, e1⟩ := a.fin
  obtain ⟨t, d, r, e2⟩ := b.fin
  have w1 : Whole i (.fin s c (q + k)) := by have := a.1; rw [e1] at this; exact this
  have w2 : Whole j (.fin t d r) := by have := b.1; rw [e2, show ((0 : Nat) : Int) = 0 from rfl, own_sh_zero] at this; exact this
  have hd : d ≠ 0 := fun h => hj ((whole_zero w2).mp h)
  refine ⟨s != t, ?_, fun hi => by rw [whole_sign w1 hi, whole_sign w2 hj]⟩
  show val64 (Core.ddiv x z) = _
  rw [val64_ddiv, e1, e2]
  show (if d = 0 then _ else roundRatio b64 (s != t) c d (q - r)) = _
  rw [if_neg hd]
  refine roundRatio_congr (by omega) (by omega) ?_
  have h1 : c * 2 ^ (q + k).toNat = i.natAbs * 2 ^ (-(q + k)).toNat := whole_natAbs w1
  have h2 : d * 2 ^ r.toNat = j.natAbs * 2 ^ (-r).toNat := whole_natAbs w2
  generalize i.natAbs = I at *
  generalize j.natAbs = J at *
  refine Nat.eq_of_mul_eq_mul_right (Nat.two_pow_pos ((-r).toNat + (q + k).toNat)) ?_
  have x1 : c * J * 2 ^ (q - r - -(k : Int)).toNat * 2 ^ ((-r).toNat + (q + k).toNat) = (c * 2 ^ (q + k).toNat) * (J * 2 ^ (-r).toNat) * 2 ^ (q - r - -(k : Int)).toNat := by rw [Nat.pow_add]; ac_rfl
  have x2 : I * d * 2 ^ (-(k : Int) - (q - r)).toNat * 2 ^ ((-r).toNat + (q + k).toNat) = I * d * 2 ^ ((-(q + k)).toNat + r.toNat + (q - r - -(k : Int)).toNat) := by rw [Nat.mul_assoc (I * d), ← Nat.pow_add]; congr 2; omega
  rw [x1, x2, h1, ← h2, Nat.pow_add, Nat.pow_add]; ac_rfl
theorem own_quot_nn {k A B : Nat} {i j : Int} {x z v : UInt64} (a : own_D k A i x) (b : own_D 0 B j z) (hj : j ≠ 0) (hv : FP.ddiv x z = v) : Jvm.Free.Fl.NoNaN64 v := by
  obtain ⟨sg, e, -⟩ := own_quot a b hj hv
  exact Jvm.Free.Fl.val64_no.mpr (by rw [e]; exact roundRatio_ne_nan _ _ _ _ _)
theorem own_round_zero (sg : Bool) (d : Nat) (e : Int) : roundRatio b64 sg 0 d e = .fin sg 0 b64.qmin := by unfold roundRatio; rw [if_pos rfl]
/-- two quotients of equal whole numbers compare as equal -/
theorem own_quot_eq {k A B A' B' : Nat} {i j : Int} {x y z w v u : UInt64} (a : own_D k A i x) (b : own_D 0 B j z) (a' : own_D k A' i y) (b' : own_D 0 B' j w) (hj : j ≠ 0) (hv : FP.ddiv x z = v) (hu : FP.ddiv y w = u) : FP.dcmp v u = some .eq := by
  obtain ⟨s1, e1, f1⟩ := own_quot a b hj hv
  obtain ⟨s2, e2, f2⟩ := own_quot a' b' hj hu
  by_cases hi : i = 0
  · subst hi
    have d1 := own_D.zero (x := v) (s := s1) (by rw [e1]; exact own_round_zero ..) 0
    have d2 := own_D.zero (x := u) (s := s2) (by rw [e2]; exact own_round_zero ..) 0
    rw [d1.dcmp d2]; rfl
  · have e3 : s1 = s2 := (f1 hi).trans (f2 hi).symm
    subst e3
    have e4 : v = u := val64_inj (by rw [e1]; exact roundRatio_ne_nan _ _ _ _ _) (e1.trans e2.symm)
    subst e4
    exact dcmp_self (by rw [e1]; exact roundRatio_ne_nan _ _ _ _ _)
theorem own_quot_cmp {k A B A' B' : Nat} {i j : Int} {x y z w v u : UInt64} (a : own_D k A i x) (b : own_D 0 B j z) (a' : own_D k A' i y) (b' : own_D 0 B' j w) (hj : j ≠ 0) (hv : FP.ddiv x z = v) (hu : FP.ddiv y w = u) {o : CmpOp} : cmpValue (FP.dcmp v u) o = 0 := by
  rw [own_quot_eq a b a' b' hj hv hu]; rfl
theorem own_D.of_eq {k A : Nat} {i j : Int} {x : UInt64} (a : own_D k A i x) (h : i = j) : own_D k A j x := h ▸ a
/-- a quotient by a power of two is exact -/
theorem own_D.divp {k r t A B P : Nat} {i : Int} {x z v : UInt64} (a : own_D k A i x) (b : own_D 0 B (P : Int) z) (hP : P = 2 ^ r) (hv : FP.ddiv x z = v) (hA : A < 9007199254740992) (ht : k + r = t) (hk : t ≤ 1074) : own_D t A i v := by
  subst ht
  have p := Nat.two_pow_pos r
  have hj : (P : Int) ≠ 0 := by omega
  obtain ⟨sg, e, f⟩ := own_quot a b hj hv
  refine ⟨?_, a.2⟩
  have e2 : roundRatio b64 sg i.natAbs ((P : Int)).natAbs (-(k : Int)) = roundRatio b64 sg i.natAbs 1 (-((k + r : Nat) : Int)) := by
    refine roundRatio_congr (by omega) (by decide) ?_
    rw [Int.natAbs_natCast, hP, show (-(k : Int) - -((k + r : Nat) : Int)).toNat = r by omega, show (-((k + r : Nat) : Int) - -(k : Int)).toNat = 0 by omega]
    simp
  rw [e, e2]
  refine own_round_core (c := 0) (q := 0) hk (by have := a.2; omega) fun hi => ?_
  rw [f hi, show decide ((P : Int) < 0) = false by simp]
  cases decide (i < 0) <;> rfl
theorem own_ushr_nn {x q v : Int32} {k : Nat} (hv : XT.ushr x q = v) (hk : q.toBitVec.toNat % 32 = k) (h0 : 0 < k) : 0 ≤ v.toInt := by
  subst hv
  have := c_iushr x q k hk h0
  show 0 ≤ ((x.toUInt32 >>> (q &&& 31).toUInt32).toInt32).toInt
  rw [this]
  exact Int.ediv_nonneg (Int.emod_nonneg _ (by decide)) (Int.natCast_nonneg _)
theorem own_irem_bd {x y v : Int32} {d : Int} (hv : x % y = v) (hx : 0 ≤ x.toInt) (hy : y.toInt = d) (hd : 0 < d) : 0 ≤ v.toInt ∧ v.toInt < d := by
  subst hv
  rw [(c_irem x y d hy).1 hx]
  exact ⟨Int.emod_nonneg _ (by omega), Int.emod_lt_of_pos _ hd⟩
end OwnDiv
theorem own_d_method_2_code_0 : decode method_2_code 0 = .ok (.iload_n 0, 1) := by decide +kernel
theorem own_d_method_2_code_1 : decode method_2_code 1 = .ok (.iconst 1, 1) := by decide +kernel
theorem own_d_method_2_code_2 : decode method_2_code 2 = .ok (.if_icmp .ne 12, 3) := by decide +kernel
theorem own_d_method_2_code_5 : decode method_2_code 5 = .ok (.iconst 1, 1) := by decide +kernel
theorem own_d_method_2_code_6 : decode method_2_code 6 = .ok (.newarray .double, 2) := by decide +kernel
theorem own_d_method_2_code_8 : decode method_2_code 8 = .ok (.dup, 1) := by decide +kernel
theorem own_d_method_2_code_9 : decode method_2_code 9 = .ok (.iconst 0, 1) := by decide +kernel
theorem own_d_method_2_code_10 : decode method_2_code 10 = .ok (.lload_n 1, 1) := by decide +kernel
theorem own_d_method_2_code_11 : decode method_2_code 11 = .ok (.l2d, 1) := by decide +kernel
theorem own_d_method_2_code_12 : decode method_2_code 12 = .ok (.dastore, 1) := by decide +kernel
theorem own_d_method_2_code_13 : decode method_2_code 13 = .ok (.areturn, 1) := by decide +kernel
theorem own_d_method_2_code_14 : decode method_2_code 14 = .ok (.iload_n 0, 1) := by decide +kernel
theorem own_d_method_2_code_15 : decode method_2_code 15 = .ok (.iconst 2, 1) := by decide +kernel
theorem own_d_method_2_code_16 : decode method_2_code 16 = .ok (.if_icmp .ne 17, 3) := by decide +kernel
theorem own_d_method_2_code_19 : decode method_2_code 19 = .ok (.iconst 2, 1) := by decide +kernel
theorem own_d_method_2_code_20 : decode method_2_code 20 = .ok (.newarray .double, 2) := by decide +kernel
theorem own_d_method_2_code_22 : decode method_2_code 22 = .ok (.dup, 1) := by decide +kernel
theorem own_d_method_2_code_23 : decode method_2_code 23 = .ok (.iconst 0, 1) := by decide +kernel
theorem own_d_method_2_code_24 : decode method_2_code 24 = .ok (.lload_n 1, 1) := by decide +kernel
theorem own_d_method_2_code_25 : decode method_2_code 25 = .ok (.l2d, 1) := by decide +kernel
theorem own_d_method_2_code_26 : decode method_2_code 26 = .ok (.dastore, 1) := by decide +kernel
theorem own_d_method_2_code_27 : decode method_2_code 27 = .ok (.dup, 1) := by decide +kernel
theorem own_d_method_2_code_28 : decode method_2_code 28 = .ok (.iconst 1, 1) := by decide +kernel
theorem own_d_method_2_code_29 : decode method_2_code 29 = .ok (.lload_n 3, 1) := by decide +kernel
theorem own_d_method_2_code_30 : decode method_2_code 30 = .ok (.l2d, 1) := by decide +kernel
theorem own_d_method_2_code_31 : decode method_2_code 31 = .ok (.dastore, 1) := by decide +kernel
theorem own_d_method_2_code_32 : decode method_2_code 32 = .ok (.areturn, 1) := by decide +kernel
theorem own_d_method_2_code_33 : decode method_2_code 33 = .ok (.iload_n 0, 1) := by decide +kernel
theorem own_d_method_2_code_34 : decode method_2_code 34 = .ok (.iconst 3, 1) := by decide +kernel
theorem own_d_method_2_code_35 : decode method_2_code 35 = .ok (.if_icmp .ne 23, 3) := by decide +kernel
theorem own_d_method_2_code_38 : decode method_2_code 38 = .ok (.iconst 3, 1) := by decide +kernel
theorem own_d_method_2_code_39 : decode method_2_code 39 = .ok (.newarray .double, 2) := by decide +kernel
theorem own_d_method_2_code_41 : decode method_2_code 41 = .ok (.dup, 1) := by decide +kernel
theorem own_d_method_2_code_42 : decode method_2_code 42 = .ok (.iconst 0, 1) := by decide +kernel
theorem own_d_method_2_code_43 : decode method_2_code 43 = .ok (.lload_n 1, 1) := by decide +kernel
theorem own_d_method_2_code_44 : decode method_2_code 44 = .ok (.l2d, 1) := by decide +kernel
theorem own_d_method_2_code_45 : decode method_2_code 45 = .ok (.dastore, 1) := by decide +kernel
theorem own_d_method_2_code_46 : decode method_2_code 46 = .ok (.dup, 1) := by decide +kernel
theorem own_d_method_2_code_47 : decode method_2_code 47 = .ok (.iconst 1, 1) := by decide +kernel
theorem own_d_method_2_code_48 : decode method_2_code 48 = .ok (.lload_n 3, 1) := by decide +kernel
theorem own_d_method_2_code_49 : decode method_2_code 49 = .ok (.l2d, 1) := by decide +kernel
theorem own_d_method_2_code_50 : decode method_2_code 50 = .ok (.dastore, 1) := by decide +kernel
theorem own_d_method_2_code_51 : decode method_2_code 51 = .ok (.dup, 1) := by decide +kernel
theorem own_d_method_2_code_52 : decode method_2_code 52 = .ok (.iconst 2, 1) := by decide +kernel
theorem own_d_method_2_code_53 : decode method_2_code 53 = .ok (.lload 5, 2) := by decide +kernel
theorem own_d_method_2_code_55 : decode method_2_code 55 = .ok (.l2d, 1) := by decide +kernel
theorem own_d_method_2_code_56 : decode method_2_code 56 = .ok (.dastore, 1) := by decide +kernel
theorem own_d_method_2_code_57 : decode method_2_code 57 = .ok (.areturn, 1) := by decide +kernel
theorem own_d_method_2_code_58 : decode method_2_code 58 = .ok (.iconst 4, 1) := by decide +kernel
theorem own_d_method_2_code_59 : decode method_2_code 59 = .ok (.newarray .double, 2) := by decide +kernel
theorem own_d_method_2_code_61 : decode method_2_code 61 = .ok (.dup, 1) := by decide +kernel
theorem own_d_method_2_code_62 : decode method_2_code 62 = .ok (.iconst 0, 1) := by decide +kernel
theorem own_d_method_2_code_63 : decode method_2_code 63 = .ok (.lload_n 1, 1) := by decide +kernel
theorem own_d_method_2_code_64 : decode method_2_code 64 = .ok (.l2d, 1) := by decide +kernel
theorem own_d_method_2_code_65 : decode method_2_code 65 = .ok (.dastore, 1) := by decide +kernel
theorem own_d_method_2_code_66 : decode method_2_code 66 = .ok (.dup, 1) := by decide +kernel
theorem own_d_method_2_code_67 : decode method_2_code 67 = .ok (.iconst 1, 1) := by decide +kernel
theorem own_d_method_2_code_68 : decode method_2_code 68 = .ok (.lload_n 3, 1) := by decide +kernel
theorem own_d_method_2_code_69 : decode method_2_code 69 = .ok (.l2d, 1) := by decide +kernel
theorem own_d_method_2_code_70 : decode method_2_code 70 = .ok (.dastore, 1) := by decide +kernel
theorem own_d_method_2_code_71 : decode method_2_code 71 = .ok (.dup, 1) := by decide +kernel
theorem own_d_method_2_code_72 : decode method_2_code 72 = .ok (.iconst 2, 1) := by decide +kernel
theorem own_d_method_2_code_73 : decode method_2_code 73 = .ok (.lload 5, 2) := by decide +kernel
theorem own_d_method_2_code_75 : decode method_2_code 75 = .ok (.l2d, 1) := by decide +kernel
theorem own_d_method_2_code_76 : decode method_2_code 76 = .ok (.dastore, 1) := by decide +kernel
theorem own_d_method_2_code_77 : decode method_2_code 77 = .ok (.dup, 1) := by decide +kernel
theorem own_d_method_2_code_78 : decode method_2_code 78 = .ok (.iconst 3, 1) := by decide +kernel
theorem own_d_method_2_code_79 : decode method_2_code 79 = .ok (.lload 7, 2) := by decide +kernel
theorem own_d_method_2_code_81 : decode method_2_code 81 = .ok (.l2d, 1) := by decide +kernel
theorem own_d_method_2_code_82 : decode method_2_code 82 = .ok (.dastore, 1) := by decide +kernel
theorem own_d_method_2_code_83 : decode method_2_code 83 = .ok (.areturn, 1) := by decide +kernel
theorem own_pd0 : parseMethodDescriptor "(IJJJJ)[D" = some ⟨[.int, .long, .long, .long, .long], some (.array .double)⟩ := by decide +kernel
theorem own_pn0 : plainName "com/example/volstat/volstat/garch/VarianceStartMeanSquarePinLaw" = true := by first | (simp [plainName, overriddenIn]; done) | decide +kernel
abbrev own_rm_own_pick1 : Room := ({ frames := 0, cells := 1, slots := 1, locals := 0 } : Room)
set_option maxRecDepth 65536 in
set_option maxHeartbeats 40000000 in
theorem own_pick1 (l : Launch) (Z : State) (a0 : Array Value) (hw : ∀ d ∈ tables_1, d.before a0 Z = true) (y0 : Int64) (i_y0 : Int) (y1 : Int64) (i_y1 : Int) (y2 : Int64) (i_y2 : Int) (y3 : Int64) (i_y3 : Int) (h0 : Heap) (n0 : Nat) (Z0 : n0 ≤ h0.size) (L_y0 : own_L 16777216 i_y0 y0) (L_y1 : own_L 16777216 i_y1 y1) (L_y2 : own_L 16777216 i_y2 y2) (L_y3 : own_L 16777216 i_y3 y3) :
    own_Met l Z ({ cls := "com/example/volstat/volstat/garch/VarianceStartMeanSquarePinLaw", name := "pick", desc := "(IJJJJ)[D" } : Jvm.MethodName) method_2_code 9 (some (.array .double)) [] own_rm_own_pick1 #[(.int (1 : Int32)), (.long y0), (.long y1), (.long y2), (.long y3)] h0 n0 (fun v h => ∃ a r0, v = some (.ref a) ∧ own_Vec Z h a .double [.double r0] ∧ own_D 0 16777216 i_y0 r0) := by
  refine own_meet (plainFor_of_name own_pn0) Z0 (Ls0 := #[.val (.int (1 : Int32)), .val (.long y0), .second, .val (.long y1), .second, .val (.long y2), .second, .val (.long y3), .second]) (by intro m; first | (simp [entryFrame, mkF, argsToLocals, Value.category]; done) | rfl) ?_
  intro p e s m below meth c T0 X0
  refine own_iloadN X0 rfl own_d_method_2_code_0 (pc' := 1) rfl ?_
  refine own_iconst X0 (v := (1 : Int32)) (by decide) own_d_method_2_code_1 (pc' := 2) rfl ?_
  refine own_icmpF X0 (by decide) own_d_method_2_code_2 (pc' := 5) rfl ?_
  refine own_iconst X0 (v := (1 : Int32)) (by decide) own_d_method_2_code_5 (pc' := 6) rfl ?_
  refine own_newarray X0 (ty := .double) rfl (hw _ (List.mem_of_getElem? (i := 4) rfl)) (n := 1) (vs := [(.double (0 : UInt64))]) (by decide) (by decide) (by decide) rfl (cells' := 1) (slots' := 1) rfl rfl (by decide) (by decide) own_d_method_2_code_6 (pc' := 8) rfl fun a1 T1 h1 g1 ge1 X1 E1 V1 => ?_
  refine own_dup X1 rfl own_d_method_2_code_8 (pc' := 9) rfl ?_
  refine own_iconst X1 (v := (0 : Int32)) (by decide) own_d_method_2_code_9 (pc' := 10) rfl ?_
  refine own_lloadN X1 rfl own_d_method_2_code_10 (pc' := 11) rfl ?_
  obtain ⟨d2, e2⟩ : ∃ v, FP.l2d y0 = v := ⟨_, rfl⟩
  have f2 : own_D 0 16777216 i_y0 d2 := own_D.l2d L_y0 e2 (by decide)
  refine own_l2d X1 e2 own_d_method_2_code_11 (pc' := 12) rfl ?_
  refine own_dastore X1 V1 ge1 (i := 0) (by decide) (by decide) (show 0 < 1 by decide) own_d_method_2_code_12 (pc' := 13) rfl fun T3 h3 X3 W3 V3 => ?_
  replace V3 : own_Vec Z h3 a1 .double [(.double d2)] := V3
  exact own_retA X3 (t := (.array .double)) rfl own_d_method_2_code_13 rfl (by decide) (by decide) ⟨_, _, rfl, V3, f2⟩
theorem own_d_prog_50_method_6_code_0 : decode prog_50_method_6_code 0 = .ok (.dconst 0, 1) := by decide +kernel
theorem own_d_prog_50_method_6_code_1 : decode prog_50_method_6_code 1 = .ok (.dstore_n 3, 1) := by decide +kernel
theorem own_d_prog_50_method_6_code_2 : decode prog_50_method_6_code 2 = .ok (.aload_n 0, 1) := by decide +kernel
theorem own_d_prog_50_method_6_code_3 : decode prog_50_method_6_code 3 = .ok (.astore 5, 2) := by decide +kernel
theorem own_d_prog_50_method_6_code_5 : decode prog_50_method_6_code 5 = .ok (.aload 5, 2) := by decide +kernel
theorem own_d_prog_50_method_6_code_7 : decode prog_50_method_6_code 7 = .ok (.arraylength, 1) := by decide +kernel
theorem own_d_prog_50_method_6_code_8 : decode prog_50_method_6_code 8 = .ok (.istore 6, 2) := by decide +kernel
theorem own_d_prog_50_method_6_code_10 : decode prog_50_method_6_code 10 = .ok (.iconst 0, 1) := by decide +kernel
theorem own_d_prog_50_method_6_code_11 : decode prog_50_method_6_code 11 = .ok (.istore 7, 2) := by decide +kernel
theorem own_d_prog_50_method_6_code_13 : decode prog_50_method_6_code 13 = .ok (.iload 7, 2) := by decide +kernel
theorem own_d_prog_50_method_6_code_15 : decode prog_50_method_6_code 15 = .ok (.iload 6, 2) := by decide +kernel
theorem own_d_prog_50_method_6_code_17 : decode prog_50_method_6_code 17 = .ok (.if_icmp .ge 30, 3) := by decide +kernel
theorem own_d_prog_50_method_6_code_20 : decode prog_50_method_6_code 20 = .ok (.aload 5, 2) := by decide +kernel
theorem own_d_prog_50_method_6_code_22 : decode prog_50_method_6_code 22 = .ok (.iload 7, 2) := by decide +kernel
theorem own_d_prog_50_method_6_code_24 : decode prog_50_method_6_code 24 = .ok (.daload, 1) := by decide +kernel
theorem own_d_prog_50_method_6_code_25 : decode prog_50_method_6_code 25 = .ok (.dstore 8, 2) := by decide +kernel
theorem own_d_prog_50_method_6_code_27 : decode prog_50_method_6_code 27 = .ok (.dload 8, 2) := by decide +kernel
theorem own_d_prog_50_method_6_code_29 : decode prog_50_method_6_code 29 = .ok (.dload_n 1, 1) := by decide +kernel
theorem own_d_prog_50_method_6_code_30 : decode prog_50_method_6_code 30 = .ok (.dsub, 1) := by decide +kernel
theorem own_d_prog_50_method_6_code_31 : decode prog_50_method_6_code 31 = .ok (.dstore 10, 2) := by decide +kernel
theorem own_d_prog_50_method_6_code_33 : decode prog_50_method_6_code 33 = .ok (.dload_n 3, 1) := by decide +kernel
theorem own_d_prog_50_method_6_code_34 : decode prog_50_method_6_code 34 = .ok (.dload 10, 2) := by decide +kernel
theorem own_d_prog_50_method_6_code_36 : decode prog_50_method_6_code 36 = .ok (.dload 10, 2) := by decide +kernel
theorem own_d_prog_50_method_6_code_38 : decode prog_50_method_6_code 38 = .ok (.dmul, 1) := by decide +kernel
theorem own_d_prog_50_method_6_code_39 : decode prog_50_method_6_code 39 = .ok (.dadd, 1) := by decide +kernel
theorem own_d_prog_50_method_6_code_40 : decode prog_50_method_6_code 40 = .ok (.dstore_n 3, 1) := by decide +kernel
theorem own_d_prog_50_method_6_code_41 : decode prog_50_method_6_code 41 = .ok (.iinc 7 1, 3) := by decide +kernel
theorem own_d_prog_50_method_6_code_44 : decode prog_50_method_6_code 44 = .ok (.goto (-31), 3) := by decide +kernel
theorem own_d_prog_50_method_6_code_47 : decode prog_50_method_6_code 47 = .ok (.dload_n 3, 1) := by decide +kernel
theorem own_d_prog_50_method_6_code_48 : decode prog_50_method_6_code 48 = .ok (.aload_n 0, 1) := by decide +kernel
theorem own_d_prog_50_method_6_code_49 : decode prog_50_method_6_code 49 = .ok (.arraylength, 1) := by decide +kernel
theorem own_d_prog_50_method_6_code_50 : decode prog_50_method_6_code 50 = .ok (.i2d, 1) := by decide +kernel
theorem own_d_prog_50_method_6_code_51 : decode prog_50_method_6_code 51 = .ok (.ddiv, 1) := by decide +kernel
theorem own_d_prog_50_method_6_code_52 : decode prog_50_method_6_code 52 = .ok (.dreturn, 1) := by decide +kernel
theorem own_pd1 : parseMethodDescriptor "([DD)D" = some ⟨[(.array .double), .double], some .double⟩ := by decide +kernel
theorem own_pn1 : plainName "com/example/volstat/volstat/garch/VarianceStart" = true := by first | (simp [plainName, overriddenIn]; done) | decide +kernel
abbrev own_rm_own_ms1 : Room := ({ frames := 0, cells := 0, slots := 0, locals := 0 } : Room)
set_option maxRecDepth 65536 in
set_option maxHeartbeats 40000000 in
theorem own_ms1 (l : Launch) (Z : State) (a0 : Array Value) (hw : ∀ d ∈ tables_1, d.before a0 Z = true) (a1 : Addr) (x0 : UInt64) (i_x0 : Int) (c0 : UInt64) (i_c0 : Int) (h0 : Heap) (n0 : Nat) (Z0 : n0 ≤ h0.size) (V1 : own_Vec Z h0 a1 .double [(.double x0)]) (D_x0 : own_D 0 16777216 i_x0 x0) (D_c0 : own_D 0 16777216 i_c0 c0) :
    own_Met l Z ({ cls := "com/example/volstat/volstat/garch/VarianceStart", name := "meanSquare", desc := "([DD)D" } : Jvm.MethodName) prog_50_method_6_code 12 (some .double) [] own_rm_own_ms1 #[(.ref a1), (.double c0)] h0 n0 (fun v h => (∃ r x z, v = some (.double r) ∧ own_D 0 1125899906842624 ((0 : Int) + ((i_x0 - i_c0) * (i_x0 - i_c0))) x ∧ own_D 0 1 (1 : Int) z ∧ FP.ddiv x z = r) ∧ h = h0) := by
  refine own_meet (plainFor_of_name own_pn1) Z0 (Ls0 := #[.val (.ref a1), .val (.double c0), .second, .unset, .unset, .unset, .unset, .unset, .unset, .unset, .unset, .unset]) (by intro m; first | (simp [entryFrame, mkF, argsToLocals, Value.category]; done) | rfl) ?_
  intro p e s m below meth c T0 X0
  refine own_dconst0 X0 (v := (0 : UInt64)) rfl own_d_prog_50_method_6_code_0 (pc' := 1) rfl ?_
  refine own_dstoreN X0 (Ls' := #[.val (.ref a1), .val (.double c0), .second, .val (.double (0 : UInt64)), .second, .unset, .unset, .unset, .unset, .unset, .unset, .unset]) rfl own_d_prog_50_method_6_code_1 (pc' := 2) rfl ?_
  refine own_aloadN X0 rfl rfl own_d_prog_50_method_6_code_2 (pc' := 3) rfl ?_
  refine own_astore X0 (Ls' := #[.val (.ref a1), .val (.double c0), .second, .val (.double (0 : UInt64)), .second, .val (.ref a1), .unset, .unset, .unset, .unset, .unset, .unset]) rfl rfl own_d_prog_50_method_6_code_3 (pc' := 5) rfl ?_
  refine own_aload X0 rfl rfl own_d_prog_50_method_6_code_5 (pc' := 7) rfl ?_
  refine own_len X0 V1 (v := (1 : Int32)) (show (1 : Nat).toInt32 = (1 : Int32) by decide) own_d_prog_50_method_6_code_7 (pc' := 8) rfl ?_
  refine own_istore X0 (Ls' := #[.val (.ref a1), .val (.double c0), .second, .val (.double (0 : UInt64)), .second, .val (.ref a1), .val (.int (1 : Int32)), .unset, .unset, .unset, .unset, .unset]) rfl own_d_prog_50_method_6_code_8 (pc' := 10) rfl ?_
  refine own_iconst X0 (v := (0 : Int32)) (by decide) own_d_prog_50_method_6_code_10 (pc' := 11) rfl ?_
  refine own_istore X0 (Ls' := #[.val (.ref a1), .val (.double c0), .second, .val (.double (0 : UInt64)), .second, .val (.ref a1), .val (.int (1 : Int32)), .val (.int (0 : Int32)), .unset, .unset, .unset, .unset]) rfl own_d_prog_50_method_6_code_11 (pc' := 13) rfl ?_
  refine own_iload X0 rfl own_d_prog_50_method_6_code_13 (pc' := 15) rfl ?_
  refine own_iload X0 rfl own_d_prog_50_method_6_code_15 (pc' := 17) rfl ?_
  refine own_icmpF X0 (by decide) own_d_prog_50_method_6_code_17 (pc' := 20) rfl ?_
  refine own_aload X0 rfl rfl own_d_prog_50_method_6_code_20 (pc' := 22) rfl ?_
  refine own_iload X0 rfl own_d_prog_50_method_6_code_22 (pc' := 24) rfl ?_
  refine own_daload X0 V1 (i := 0) (by decide) (by decide) rfl own_d_prog_50_method_6_code_24 (pc' := 25) rfl ?_
  refine own_dstore X0 (Ls' := #[.val (.ref a1), .val (.double c0), .second, .val (.double (0 : UInt64)), .second, .val (.ref a1), .val (.int (1 : Int32)), .val (.int (0 : Int32)), .val (.double x0), .second, .unset, .unset]) rfl own_d_prog_50_method_6_code_25 (pc' := 27) rfl ?_
  refine own_dload X0 rfl own_d_prog_50_method_6_code_27 (pc' := 29) rfl ?_
  refine own_dloadN X0 rfl own_d_prog_50_method_6_code_29 (pc' := 30) rfl ?_
  obtain ⟨d12, e12⟩ : ∃ v, FP.dsub x0 c0 = v := ⟨_, rfl⟩
  have f12 : own_D 0 33554432 (i_x0 - i_c0) d12 := own_D.sub D_x0 D_c0 e12 (by decide) (by decide) (by decide)
  refine own_dsub X0 e12 f12.nn own_d_prog_50_method_6_code_30 (pc' := 31) rfl ?_
  refine own_dstore X0 (Ls' := #[.val (.ref a1), .val (.double c0), .second, .val (.double (0 : UInt64)), .second, .val (.ref a1), .val (.int (1 : Int32)), .val (.int (0 : Int32)), .val (.double x0), .second, .val (.double d12), .second]) rfl own_d_prog_50_method_6_code_31 (pc' := 33) rfl ?_
  refine own_dloadN X0 rfl own_d_prog_50_method_6_code_33 (pc' := 34) rfl ?_
  refine own_dload X0 rfl own_d_prog_50_method_6_code_34 (pc' := 36) rfl ?_
  refine own_dload X0 rfl own_d_prog_50_method_6_code_36 (pc' := 38) rfl ?_
  obtain ⟨d13, e13⟩ : ∃ v, FP.dmul d12 d12 = v := ⟨_, rfl⟩
  have f13 : own_D 0 1125899906842624 ((i_x0 - i_c0) * (i_x0 - i_c0)) d13 := own_D.mul f12 f12 e13 (by decide) (by decide) (by decide) (by decide)
  refine own_dmul X0 e13 f13.nn own_d_prog_50_method_6_code_38 (pc' := 39) rfl ?_
  have f15 : own_D 0 0 (0 : Int) (0 : UInt64) := own_D.lit (s := false) (c := 0) (q := -1074) (by decide +kernel) (by decide +kernel) (by decide)
  obtain ⟨d14, e14⟩ : ∃ v, FP.dadd (0 : UInt64) d13 = v := ⟨_, rfl⟩
  have f14 : own_D 0 1125899906842624 ((0 : Int) + ((i_x0 - i_c0) * (i_x0 - i_c0))) d14 := own_D.add f15 f13 e14 (by decide) (by decide) (by decide)
  refine own_dadd X0 e14 f14.nn own_d_prog_50_method_6_code_39 (pc' := 40) rfl ?_
  refine own_dstoreN X0 (Ls' := #[.val (.ref a1), .val (.double c0), .second, .val (.double d14), .second, .val (.ref a1), .val (.int (1 : Int32)), .val (.int (0 : Int32)), .val (.double x0), .second, .val (.double d12), .second]) rfl own_d_prog_50_method_6_code_40 (pc' := 41) rfl ?_
  refine own_iinc X0 (Ls' := #[.val (.ref a1), .val (.double c0), .second, .val (.double d14), .second, .val (.ref a1), .val (.int (1 : Int32)), .val (.int (1 : Int32)), .val (.double x0), .second, .val (.double d12), .second]) rfl (by decide) rfl own_d_prog_50_method_6_code_41 (pc' := 44) rfl ?_
  refine own_goto X0 own_d_prog_50_method_6_code_44 (pc' := 13) (by decide) (by decide) ?_
  refine own_iload X0 rfl own_d_prog_50_method_6_code_13 (pc' := 15) rfl ?_
  refine own_iload X0 rfl own_d_prog_50_method_6_code_15 (pc' := 17) rfl ?_
  refine own_icmpT X0 (by decide) own_d_prog_50_method_6_code_17 (pc' := 47) (by decide) (by decide) ?_
  refine own_dloadN X0 rfl own_d_prog_50_method_6_code_47 (pc' := 48) rfl ?_
  refine own_aloadN X0 rfl rfl own_d_prog_50_method_6_code_48 (pc' := 49) rfl ?_
  refine own_len X0 V1 (v := (1 : Int32)) (show (1 : Nat).toInt32 = (1 : Int32) by decide) own_d_prog_50_method_6_code_49 (pc' := 50) rfl ?_
  have f16 : own_I 1 (1 : Int) (1 : Int32) := own_I.lit (by decide) (by decide)
  obtain ⟨d17, e17⟩ : ∃ v, FP.i2d (1 : Int32) = v := ⟨_, rfl⟩
  have f17 : own_D 0 1 (1 : Int) d17 := own_D.i2d f16 e17
  refine own_i2d X0 e17 own_d_prog_50_method_6_code_50 (pc' := 51) rfl ?_
  obtain ⟨d19, e19⟩ : ∃ v, FP.ddiv d14 d17 = v := ⟨_, rfl⟩
  have q19 := own_quot_nn f14 f17 (by decide) e19
  refine own_ddiv X0 e19 q19 own_d_prog_50_method_6_code_51 (pc' := 52) rfl ?_
  exact own_retD X0  own_d_prog_50_method_6_code_52 rfl (by decide) (by decide) ⟨⟨_, _, _, rfl, f14, f17, e19⟩, rfl⟩
abbrev own_rm_own_pick2 : Room := ({ frames := 0, cells := 1, slots := 2, locals := 0 } : Room)
set_option maxRecDepth 65536 in
set_option maxHeartbeats 40000000 in
theorem own_pick2 (l : Launch) (Z : State) (a0 : Array Value) (hw : ∀ d ∈ tables_1, d.before a0 Z = true) (y0 : Int64) (i_y0 : Int) (y1 : Int64) (i_y1 : Int) (y2 : Int64) (i_y2 : Int) (y3 : Int64) (i_y3 : Int) (h0 : Heap) (n0 : Nat) (Z0 : n0 ≤ h0.size) (L_y0 : own_L 16777216 i_y0 y0) (L_y1 : own_L 16777216 i_y1 y1) (L_y2 : own_L 16777216 i_y2 y2) (L_y3 : own_L 16777216 i_y3 y3) :
    own_Met l Z ({ cls := "com/example/volstat/volstat/garch/VarianceStartMeanSquarePinLaw", name := "pick", desc := "(IJJJJ)[D" } : Jvm.MethodName) method_2_code 9 (some (.array .double)) [] own_rm_own_pick2 #[(.int (2 : Int32)), (.long y0), (.long y1), (.long y2), (.long y3)] h0 n0 (fun v h => ∃ a r0 r1, v = some (.ref a) ∧ own_Vec Z h a .double [.double r0, .double r1] ∧ own_D 0 16777216 i_y0 r0 ∧ own_D 0 16777216 i_y1 r1) := by
  refine own_meet (plainFor_of_name own_pn0) Z0 (Ls0 := #[.val (.int (2 : Int32)), .val (.long y0), .second, .val (.long y1), .second, .val (.long y2), .second, .val (.long y3), .second]) (by intro m; first | (simp [entryFrame, mkF, argsToLocals, Value.category]; done) | rfl) ?_
  intro p e s m below meth c T0 X0
  refine own_iloadN X0 rfl own_d_method_2_code_0 (pc' := 1) rfl ?_
  refine own_iconst X0 (v := (1 : Int32)) (by decide) own_d_method_2_code_1 (pc' := 2) rfl ?_
  refine own_icmpT X0 (by decide) own_d_method_2_code_2 (pc' := 14) (by decide) (by decide) ?_
  refine own_iloadN X0 rfl own_d_method_2_code_14 (pc' := 15) rfl ?_
  refine own_iconst X0 (v := (2 : Int32)) (by decide) own_d_method_2_code_15 (pc' := 16) rfl ?_
  refine own_icmpF X0 (by decide) own_d_method_2_code_16 (pc' := 19) rfl ?_
  refine own_iconst X0 (v := (2 : Int32)) (by decide) own_d_method_2_code_19 (pc' := 20) rfl ?_
  refine own_newarray X0 (ty := .double) rfl (hw _ (List.mem_of_getElem? (i := 4) rfl)) (n := 2) (vs := [(.double (0 : UInt64)), (.double (0 : UInt64))]) (by decide) (by decide) (by decide) rfl (cells' := 1) (slots' := 2) rfl rfl (by decide) (by decide) own_d_method_2_code_20 (pc' := 22) rfl fun a20 T20 h20 g20 ge20 X20 E20 V20 => ?_
  refine own_dup X20 rfl own_d_method_2_code_22 (pc' := 23) rfl ?_
  refine own_iconst X20 (v := (0 : Int32)) (by decide) own_d_method_2_code_23 (pc' := 24) rfl ?_
  refine own_lloadN X20 rfl own_d_method_2_code_24 (pc' := 25) rfl ?_
  obtain ⟨d21, e21⟩ : ∃ v, FP.l2d y0 = v := ⟨_, rfl⟩
  have f21 : own_D 0 16777216 i_y0 d21 := own_D.l2d L_y0 e21 (by decide)
  refine own_l2d X20 e21 own_d_method_2_code_25 (pc' := 26) rfl ?_
  refine own_dastore X20 V20 ge20 (i := 0) (by decide) (by decide) (show 0 < 2 by decide) own_d_method_2_code_26 (pc' := 27) rfl fun T22 h22 X22 W22 V22 => ?_
  replace V22 : own_Vec Z h22 a20 .double [(.double d21), (.double (0 : UInt64))] := V22
  refine own_dup X22 rfl own_d_method_2_code_27 (pc' := 28) rfl ?_
  refine own_iconst X22 (v := (1 : Int32)) (by decide) own_d_method_2_code_28 (pc' := 29) rfl ?_
  refine own_lloadN X22 rfl own_d_method_2_code_29 (pc' := 30) rfl ?_
  obtain ⟨d23, e23⟩ : ∃ v, FP.l2d y1 = v := ⟨_, rfl⟩
  have f23 : own_D 0 16777216 i_y1 d23 := own_D.l2d L_y1 e23 (by decide)
  refine own_l2d X22 e23 own_d_method_2_code_30 (pc' := 31) rfl ?_
  refine own_dastore X22 V22 ge20 (i := 1) (by decide) (by decide) (show 1 < 2 by decide) own_d_method_2_code_31 (pc' := 32) rfl fun T24 h24 X24 W24 V24 => ?_
  replace V24 : own_Vec Z h24 a20 .double [(.double d21), (.double d23)] := V24
  exact own_retA X24 (t := (.array .double)) rfl own_d_method_2_code_32 rfl (by decide) (by decide) ⟨_, _, _, rfl, V24, f21, f23⟩
abbrev own_rm_own_ms2 : Room := ({ frames := 0, cells := 0, slots := 0, locals := 0 } : Room)
set_option maxRecDepth 65536 in
set_option maxHeartbeats 40000000 in
theorem own_ms2 (l : Launch) (Z : State) (a0 : Array Value) (hw : ∀ d ∈ tables_1, d.before a0 Z = true) (a1 : Addr) (x0 : UInt64) (i_x0 : Int) (x1 : UInt64) (i_x1 : Int) (c0 : UInt64) (i_c0 : Int) (h0 : Heap) (n0 : Nat) (Z0 : n0 ≤ h0.size) (V1 : own_Vec Z h0 a1 .double [(.double x0), (.double x1)]) (D_x0 : own_D 0 16777216 i_x0 x0) (D_x1 : own_D 0 16777216 i_x1 x1) (D_c0 : own_D 0 16777216 i_c0 c0) :
    own_Met l Z ({ cls := "com/example/volstat/volstat/garch/VarianceStart", name := "meanSquare", desc := "([DD)D" } : Jvm.MethodName) prog_50_method_6_code 12 (some .double) [] own_rm_own_ms2 #[(.ref a1), (.double c0)] h0 n0 (fun v h => (∃ r x z, v = some (.double r) ∧ own_D 0 2251799813685248 (((0 : Int) + ((i_x0 - i_c0) * (i_x0 - i_c0))) + ((i_x1 - i_c0) * (i_x1 - i_c0))) x ∧ own_D 0 2 (2 : Int) z ∧ FP.ddiv x z = r) ∧ h = h0) := by
  refine own_meet (plainFor_of_name own_pn1) Z0 (Ls0 := #[.val (.ref a1), .val (.double c0), .second, .unset, .unset, .unset, .unset, .unset, .unset, .unset, .unset, .unset]) (by intro m; first | (simp [entryFrame, mkF, argsToLocals, Value.category]; done) | rfl) ?_
  intro p e s m below meth c T0 X0
  refine own_dconst0 X0 (v := (0 : UInt64)) rfl own_d_prog_50_method_6_code_0 (pc' := 1) rfl ?_
  refine own_dstoreN X0 (Ls' := #[.val (.ref a1), .val (.double c0), .second, .val (.double (0 : UInt64)), .second, .unset, .unset, .unset, .unset, .unset, .unset, .unset]) rfl own_d_prog_50_method_6_code_1 (pc' := 2) rfl ?_
  refine own_aloadN X0 rfl rfl own_d_prog_50_method_6_code_2 (pc' := 3) rfl ?_
  refine own_astore X0 (Ls' := #[.val (.ref a1), .val (.double c0), .second, .val (.double (0 : UInt64)), .second, .val (.ref a1), .unset, .unset, .unset, .unset, .unset, .unset]) rfl rfl own_d_prog_50_method_6_code_3 (pc' := 5) rfl ?_
  refine own_aload X0 rfl rfl own_d_prog_50_method_6_code_5 (pc' := 7) rfl ?_
  refine own_len X0 V1 (v := (2 : Int32)) (show (2 : Nat).toInt32 = (2 : Int32) by decide) own_d_prog_50_method_6_code_7 (pc' := 8) rfl ?_
  refine own_istore X0 (Ls' := #[.val (.ref a1), .val (.double c0), .second, .val (.double (0 : UInt64)), .second, .val (.ref a1), .val (.int (2 : Int32)), .unset, .unset, .unset, .unset, .unset]) rfl own_d_prog_50_method_6_code_8 (pc' := 10) rfl ?_
  refine own_iconst X0 (v := (0 : Int32)) (by decide) own_d_prog_50_method_6_code_10 (pc' := 11) rfl ?_
  refine own_istore X0 (Ls' := #[.val (.ref a1), .val (.double c0), .second, .val (.double (0 : UInt64)), .second, .val (.ref a1), .val (.int (2 : Int32)), .val (.int (0 : Int32)), .unset, .unset, .unset, .unset]) rfl own_d_prog_50_method_6_code_11 (pc' := 13) rfl ?_
  refine own_iload X0 rfl own_d_prog_50_method_6_code_13 (pc' := 15) rfl ?_
  refine own_iload X0 rfl own_d_prog_50_method_6_code_15 (pc' := 17) rfl ?_
  refine own_icmpF X0 (by decide) own_d_prog_50_method_6_code_17 (pc' := 20) rfl ?_
  refine own_aload X0 rfl rfl own_d_prog_50_method_6_code_20 (pc' := 22) rfl ?_
  refine own_iload X0 rfl own_d_prog_50_method_6_code_22 (pc' := 24) rfl ?_
  refine own_daload X0 V1 (i := 0) (by decide) (by decide) rfl own_d_prog_50_method_6_code_24 (pc' := 25) rfl ?_
  refine own_dstore X0 (Ls' := #[.val (.ref a1), .val (.double c0), .second, .val (.double (0 : UInt64)), .second, .val (.ref a1), .val (.int (2 : Int32)), .val (.int (0 : Int32)), .val (.double x0), .second, .unset, .unset]) rfl own_d_prog_50_method_6_code_25 (pc' := 27) rfl ?_
  refine own_dload X0 rfl own_d_prog_50_method_6_code_27 (pc' := 29) rfl ?_
  refine own_dloadN X0 rfl own_d_prog_50_method_6_code_29 (pc' := 30) rfl ?_
  obtain ⟨d36, e36⟩ : ∃ v, FP.dsub x0 c0 = v := ⟨_, rfl⟩
  have f36 : own_D 0 33554432 (i_x0 - i_c0) d36 := own_D.sub D_x0 D_c0 e36 (by decide) (by decide) (by decide)
  refine own_dsub X0 e36 f36.nn own_d_prog_50_method_6_code_30 (pc' := 31) rfl ?_
  refine own_dstore X0 (Ls' := #[.val (.ref a1), .val (.double c0), .second, .val (.double (0 : UInt64)), .second, .val (.ref a1), .val (.int (2 : Int32)), .val (.int (0 : Int32)), .val (.double x0), .second, .val (.double d36), .second]) rfl own_d_prog_50_method_6_code_31 (pc' := 33) rfl ?_
  refine own_dloadN X0 rfl own_d_prog_50_method_6_code_33 (pc' := 34) rfl ?_
  refine own_dload X0 rfl own_d_prog_50_method_6_code_34 (pc' := 36) rfl ?_
  refine own_dload X0 rfl own_d_prog_50_method_6_code_36 (pc' := 38) rfl ?_
  obtain ⟨d37, e37⟩ : ∃ v, FP.dmul d36 d36 = v := ⟨_, rfl⟩
  have f37 : own_D 0 1125899906842624 ((i_x0 - i_c0) * (i_x0 - i_c0)) d37 := own_D.mul f36 f36 e37 (by decide) (by decide) (by decide) (by decide)
  refine own_dmul X0 e37 f37.nn own_d_prog_50_method_6_code_38 (pc' := 39) rfl ?_
  have f39 : own_D 0 0 (0 : Int) (0 : UInt64) := own_D.lit (s := false) (c := 0) (q := -1074) (by decide +kernel) (by decide +kernel) (by decide)
  obtain ⟨d38, e38⟩ : ∃ v, FP.dadd (0 : UInt64) d37 = v := ⟨_, rfl⟩
  have f38 : own_D 0 1125899906842624 ((0 : Int) + ((i_x0 - i_c0) * (i_x0 - i_c0))) d38 := own_D.add f39 f37 e38 (by decide) (by decide) (by decide)
  refine own_dadd X0 e38 f38.nn own_d_prog_50_method_6_code_39 (pc' := 40) rfl ?_
  refine own_dstoreN X0 (Ls' := #[.val (.ref a1), .val (.double c0), .second, .val (.double d38), .second, .val (.ref a1), .val (.int (2 : Int32)), .val (.int (0 : Int32)), .val (.double x0), .second, .val (.double d36), .second]) rfl own_d_prog_50_method_6_code_40 (pc' := 41) rfl ?_
  refine own_iinc X0 (Ls' := #[.val (.ref a1), .val (.double c0), .second, .val (.double d38), .second, .val (.ref a1), .val (.int (2 : Int32)), .val (.int (1 : Int32)), .val (.double x0), .second, .val (.double d36), .second]) rfl (by decide) rfl own_d_prog_50_method_6_code_41 (pc' := 44) rfl ?_
  refine own_goto X0 own_d_prog_50_method_6_code_44 (pc' := 13) (by decide) (by decide) ?_
  refine own_iload X0 rfl own_d_prog_50_method_6_code_13 (pc' := 15) rfl ?_
  refine own_iload X0 rfl own_d_prog_50_method_6_code_15 (pc' := 17) rfl ?_
  refine own_icmpF X0 (by decide) own_d_prog_50_method_6_code_17 (pc' := 20) rfl ?_
  refine own_aload X0 rfl rfl own_d_prog_50_method_6_code_20 (pc' := 22) rfl ?_
  refine own_iload X0 rfl own_d_prog_50_method_6_code_22 (pc' := 24) rfl ?_
  refine own_daload X0 V1 (i := 1) (by decide) (by decide) rfl own_d_prog_50_method_6_code_24 (pc' := 25) rfl ?_
  refine own_dstore X0 (Ls' := #[.val (.ref a1), .val (.double c0), .second, .val (.double d38), .second, .val (.ref a1), .val (.int (2 : Int32)), .val (.int (1 : Int32)), .val (.double x1), .second, .val (.double d36), .second]) rfl own_d_prog_50_method_6_code_25 (pc' := 27) rfl ?_
  refine own_dload X0 rfl own_d_prog_50_method_6_code_27 (pc' := 29) rfl ?_
  refine own_dloadN X0 rfl own_d_prog_50_method_6_code_29 (pc' := 30) rfl ?_
  obtain ⟨d40, e40⟩ : ∃ v, FP.dsub x1 c0 = v := ⟨_, rfl⟩
  have f40 : own_D 0 33554432 (i_x1 - i_c0) d40 := own_D.sub D_x1 D_c0 e40 (by decide) (by decide) (by decide)
  refine own_dsub X0 e40 f40.nn own_d_prog_50_method_6_code_30 (pc' := 31) rfl ?_
  refine own_dstore X0 (Ls' := #[.val (.ref a1), .val (.double c0), .second, .val (.double d38), .second, .val (.ref a1), .val (.int (2 : Int32)), .val (.int (1 : Int32)), .val (.double x1), .second, .val (.double d40), .second]) rfl own_d_prog_50_method_6_code_31 (pc' := 33) rfl ?_
  refine own_dloadN X0 rfl own_d_prog_50_method_6_code_33 (pc' := 34) rfl ?_
  refine own_dload X0 rfl own_d_prog_50_method_6_code_34 (pc' := 36) rfl ?_
  refine own_dload X0 rfl own_d_prog_50_method_6_code_36 (pc' := 38) rfl ?_
  obtain ⟨d41, e41⟩ : ∃ v, FP.dmul d40 d40 = v := ⟨_, rfl⟩
  have f41 : own_D 0 1125899906842624 ((i_x1 - i_c0) * (i_x1 - i_c0)) d41 := own_D.mul f40 f40 e41 (by decide) (by decide) (by decide) (by decide)
  refine own_dmul X0 e41 f41.nn own_d_prog_50_method_6_code_38 (pc' := 39) rfl ?_
  obtain ⟨d42, e42⟩ : ∃ v, FP.dadd d38 d41 = v := ⟨_, rfl⟩
  have f42 : own_D 0 2251799813685248 (((0 : Int) + ((i_x0 - i_c0) * (i_x0 - i_c0))) + ((i_x1 - i_c0) * (i_x1 - i_c0))) d42 := own_D.add f38 f41 e42 (by decide) (by decide) (by decide)
  refine own_dadd X0 e42 f42.nn own_d_prog_50_method_6_code_39 (pc' := 40) rfl ?_
  refine own_dstoreN X0 (Ls' := #[.val (.ref a1), .val (.double c0), .second, .val (.double d42), .second, .val (.ref a1), .val (.int (2 : Int32)), .val (.int (1 : Int32)), .val (.double x1), .second, .val (.double d40), .second]) rfl own_d_prog_50_method_6_code_40 (pc' := 41) rfl ?_
  refine own_iinc X0 (Ls' := #[.val (.ref a1), .val (.double c0), .second, .val (.double d42), .second, .val (.ref a1), .val (.int (2 : Int32)), .val (.int (2 : Int32)), .val (.double x1), .second, .val (.double d40), .second]) rfl (by decide) rfl own_d_prog_50_method_6_code_41 (pc' := 44) rfl ?_
  refine own_goto X0 own_d_prog_50_method_6_code_44 (pc' := 13) (by decide) (by decide) ?_
  refine own_iload X0 rfl own_d_prog_50_method_6_code_13 (pc' := 15) rfl ?_
  refine own_iload X0 rfl own_d_prog_50_method_6_code_15 (pc' := 17) rfl ?_
  refine own_icmpT X0 (by decide) own_d_prog_50_method_6_code_17 (pc' := 47) (by decide) (by decide) ?_
  refine own_dloadN X0 rfl own_d_prog_50_method_6_code_47 (pc' := 48) rfl ?_
  refine own_aloadN X0 rfl rfl own_d_prog_50_method_6_code_48 (pc' := 49) rfl ?_
  refine own_len X0 V1 (v := (2 : Int32)) (show (2 : Nat).toInt32 = (2 : Int32) by decide) own_d_prog_50_method_6_code_49 (pc' := 50) rfl ?_
  have f43 : own_I 2 (2 : Int) (2 : Int32) := own_I.lit (by decide) (by decide)
  obtain ⟨d44, e44⟩ : ∃ v, FP.i2d (2 : Int32) = v := ⟨_, rfl⟩
  have f44 : own_D 0 2 (2 : Int) d44 := own_D.i2d f43 e44
  refine own_i2d X0 e44 own_d_prog_50_method_6_code_50 (pc' := 51) rfl ?_
  obtain ⟨d46, e46⟩ : ∃ v, FP.ddiv d42 d44 = v := ⟨_, rfl⟩
  have q46 := own_quot_nn f42 f44 (by decide) e46
  refine own_ddiv X0 e46 q46 own_d_prog_50_method_6_code_51 (pc' := 52) rfl ?_
  exact own_retD X0  own_d_prog_50_method_6_code_52 rfl (by decide) (by decide) ⟨⟨_, _, _, rfl, f42, f44, e46⟩, rfl⟩
abbrev own_rm_own_pick3 : Room := ({ frames := 0, cells := 1, slots := 3, locals := 0 } : Room)
set_option maxRecDepth 65536 in
set_option maxHeartbeats 40000000 in
theorem own_pick3 (l : Launch) (Z : State) (a0 : Array Value) (hw : ∀ d ∈ tables_1, d.before a0 Z = true) (y0 : Int64) (i_y0 : Int) (y1 : Int64) (i_y1 : Int) (y2 : Int64) (i_y2 : Int) (y3 : Int64) (i_y3 : Int) (h0 : Heap) (n0 : Nat) (Z0 : n0 ≤ h0.size) (L_y0 : own_L 16777216 i_y0 y0) (L_y1 : own_L 16777216 i_y1 y1) (L_y2 : own_L 16777216 i_y2 y2) (L_y3 : own_L 16777216 i_y3 y3) :
    own_Met l Z ({ cls := "com/example/volstat/volstat/garch/VarianceStartMeanSquarePinLaw", name := "pick", desc := "(IJJJJ)[D" } : Jvm.MethodName) method_2_code 9 (some (.array .double)) [] own_rm_own_pick3 #[(.int (3 : Int32)), (.long y0), (.long y1), (.long y2), (.long y3)] h0 n0 (fun v h => ∃ a r0 r1 r2, v = some (.ref a) ∧ own_Vec Z h a .double [.double r0, .double r1, .double r2] ∧ own_D 0 16777216 i_y0 r0 ∧ own_D 0 16777216 i_y1 r1 ∧ own_D 0 16777216 i_y2 r2) := by
  refine own_meet (plainFor_of_name own_pn0) Z0 (Ls0 := #[.val (.int (3 : Int32)), .val (.long y0), .second, .val (.long y1), .second, .val (.long y2), .second, .val (.long y3), .second]) (by intro m; first | (simp [entryFrame, mkF, argsToLocals, Value.category]; done) | rfl) ?_
  intro p e s m below meth c T0 X0
  refine own_iloadN X0 rfl own_d_method_2_code_0 (pc' := 1) rfl ?_
  refine own_iconst X0 (v := (1 : Int32)) (by decide) own_d_method_2_code_1 (pc' := 2) rfl ?_
  refine own_icmpT X0 (by decide) own_d_method_2_code_2 (pc' := 14) (by decide) (by decide) ?_
  refine own_iloadN X0 rfl own_d_method_2_code_14 (pc' := 15) rfl ?_
  refine own_iconst X0 (v := (2 : Int32)) (by decide) own_d_method_2_code_15 (pc' := 16) rfl ?_
  refine own_icmpT X0 (by decide) own_d_method_2_code_16 (pc' := 33) (by decide) (by decide) ?_
  refine own_iloadN X0 rfl own_d_method_2_code_33 (pc' := 34) rfl ?_
  refine own_iconst X0 (v := (3 : Int32)) (by decide) own_d_method_2_code_34 (pc' := 35) rfl ?_
  refine own_icmpF X0 (by decide) own_d_method_2_code_35 (pc' := 38) rfl ?_
  refine own_iconst X0 (v := (3 : Int32)) (by decide) own_d_method_2_code_38 (pc' := 39) rfl ?_
  refine own_newarray X0 (ty := .double) rfl (hw _ (List.mem_of_getElem? (i := 4) rfl)) (n := 3) (vs := [(.double (0 : UInt64)), (.double (0 : UInt64)), (.double (0 : UInt64))]) (by decide) (by decide) (by decide) rfl (cells' := 1) (slots' := 3) rfl rfl (by decide) (by decide) own_d_method_2_code_39 (pc' := 41) rfl fun a47 T47 h47 g47 ge47 X47 E47 V47 => ?_
  refine own_dup X47 rfl own_d_method_2_code_41 (pc' := 42) rfl ?_
  refine own_iconst X47 (v := (0 : Int32)) (by decide) own_d_method_2_code_42 (pc' := 43) rfl ?_
  refine own_lloadN X47 rfl own_d_method_2_code_43 (pc' := 44) rfl ?_
  obtain ⟨d48, e48⟩ : ∃ v, FP.l2d y0 = v := ⟨_, rfl⟩
  have f48 : own_D 0 16777216 i_y0 d48 := own_D.l2d L_y0 e48 (by decide)
  refine own_l2d X47 e48 own_d_method_2_code_44 (pc' := 45) rfl ?_
  refine own_dastore X47 V47 ge47 (i := 0) (by decide) (by decide) (show 0 < 3 by decide) own_d_method_2_code_45 (pc' := 46) rfl fun T49 h49 X49 W49 V49 => ?_
  replace V49 : own_Vec Z h49 a47 .double [(.double d48), (.double (0 : UInt64)), (.double (0 : UInt64))] := V49
  refine own_dup X49 rfl own_d_method_2_code_46 (pc' := 47) rfl ?_
  refine own_iconst X49 (v := (1 : Int32)) (by decide) own_d_method_2_code_47 (pc' := 48) rfl ?_
  refine own_lloadN X49 rfl own_d_method_2_code_48 (pc' := 49) rfl ?_
  obtain ⟨d50, e50⟩ : ∃ v, FP.l2d y1 = v := ⟨_, rfl⟩
  have f50 : own_D 0 16777216 i_y1 d50 := own_D.l2d L_y1 e50 (by decide)
  refine own_l2d X49 e50 own_d_method_2_code_49 (pc' := 50) rfl ?_
  refine own_dastore X49 V49 ge47 (i := 1) (by decide) (by decide) (show 1 < 3 by decide) own_d_method_2_code_50 (pc' := 51) rfl fun T51 h51 X51 W51 V51 => ?_
  replace V51 : own_Vec Z h51 a47 .double [(.double d48), (.double d50), (.double (0 : UInt64))] := V51
  refine own_dup X51 rfl own_d_method_2_code_51 (pc' := 52) rfl ?_
  refine own_iconst X51 (v := (2 : Int32)) (by decide) own_d_method_2_code_52 (pc' := 53) rfl ?_
  refine own_lload X51 rfl own_d_method_2_code_53 (pc' := 55) rfl ?_
  obtain ⟨d52, e52⟩ : ∃ v, FP.l2d y2 = v := ⟨_, rfl⟩
  have f52 : own_D 0 16777216 i_y2 d52 := own_D.l2d L_y2 e52 (by decide)
  refine own_l2d X51 e52 own_d_method_2_code_55 (pc' := 56) rfl ?_
  refine own_dastore X51 V51 ge47 (i := 2) (by decide) (by decide) (show 2 < 3 by decide) own_d_method_2_code_56 (pc' := 57) rfl fun T53 h53 X53 W53 V53 => ?_
  replace V53 : own_Vec Z h53 a47 .double [(.double d48), (.double d50), (.double d52)] := V53
  exact own_retA X53 (t := (.array .double)) rfl own_d_method_2_code_57 rfl (by decide) (by decide) ⟨_, _, _, _, rfl, V53, f48, f50, f52⟩
abbrev own_rm_own_ms3 : Room := ({ frames := 0, cells := 0, slots := 0, locals := 0 } : Room)
set_option maxRecDepth 65536 in
set_option maxHeartbeats 40000000 in
theorem own_ms3 (l : Launch) (Z : State) (a0 : Array Value) (hw : ∀ d ∈ tables_1, d.before a0 Z = true) (a1 : Addr) (x0 : UInt64) (i_x0 : Int) (x1 : UInt64) (i_x1 : Int) (x2 : UInt64) (i_x2 : Int) (c0 : UInt64) (i_c0 : Int) (h0 : Heap) (n0 : Nat) (Z0 : n0 ≤ h0.size) (V1 : own_Vec Z h0 a1 .double [(.double x0), (.double x1), (.double x2)]) (D_x0 : own_D 0 16777216 i_x0 x0) (D_x1 : own_D 0 16777216 i_x1 x1) (D_x2 : own_D 0 16777216 i_x2 x2) (D_c0 : own_D 0 16777216 i_c0 c0) :
    own_Met l Z ({ cls := "com/example/volstat/volstat/garch/VarianceStart", name := "meanSquare", desc := "([DD)D" } : Jvm.MethodName) prog_50_method_6_code 12 (some .double) [] own_rm_own_ms3 #[(.ref a1), (.double c0)] h0 n0 (fun v h => (∃ r x z, v = some (.double r) ∧ own_D 0 3377699720527872 ((((0 : Int) + ((i_x0 - i_c0) * (i_x0 - i_c0))) + ((i_x1 - i_c0) * (i_x1 - i_c0))) + ((i_x2 - i_c0) * (i_x2 - i_c0))) x ∧ own_D 0 3 (3 : Int) z ∧ FP.ddiv x z = r) ∧ h = h0) := by
  refine own_meet (plainFor_of_name own_pn1) Z0 (Ls0 := #[.val (.ref a1), .val (.double c0), .second, .unset, .unset, .unset, .unset, .unset, .unset, .unset, .unset, .unset]) (by intro m; first | (simp [entryFrame, mkF, argsToLocals, Value.category]; done) | rfl) ?_
  intro p e s m below meth c T0 X0
  refine own_dconst0 X0 (v := (0 : UInt64)) rfl own_d_prog_50_method_6_code_0 (pc' := 1) rfl ?_
  refine own_dstoreN X0 (Ls' := #[.val (.ref a1), .val (.double c0), .second, .val (.double (0 : UInt64)), .second, .unset, .unset, .unset, .unset, .unset, .unset, .unset]) rfl own_d_prog_50_method_6_code_1 (pc' := 2) rfl ?_
  refine own_aloadN X0 rfl rfl own_d_prog_50_method_6_code_2 (pc' := 3) rfl ?_
  refine own_astore X0 (Ls' := #[.val (.ref a1), .val (.double c0), .second, .val (.double (0 : UInt64)), .second, .val (.ref a1), .unset, .unset, .unset, .unset, .unset, .unset]) rfl rfl own_d_prog_50_method_6_code_3 (pc' := 5) rfl ?_
  refine own_aload X0 rfl rfl own_d_prog_50_method_6_code_5 (pc' := 7) rfl ?_
  refine own_len X0 V1 (v := (3 : Int32)) (show (3 : Nat).toInt32 = (3 : Int32) by decide) own_d_prog_50_method_6_code_7 (pc' := 8) rfl ?_
  refine own_istore X0 (Ls' := #[.val (.ref a1), .val (.double c0), .second, .val (.double (0 : UInt64)), .second, .val (.ref a1), .val (.int (3 : Int32)), .unset, .unset, .unset, .unset, .unset]) rfl own_d_prog_50_method_6_code_8 (pc' := 10) rfl ?_
  refine own_iconst X0 (v := (0 : Int32)) (by decide) own_d_prog_50_method_6_code_10 (pc' := 11) rfl ?_
  refine own_istore X0 (Ls' := #[.val (.ref a1), .val (.double c0), .second, .val (.double (0 : UInt64)), .second, .val (.ref a1), .val (.int (3 : Int32)), .val (.int (0 : Int32)), .unset, .unset, .unset, .unset]) rfl own_d_prog_50_method_6_code_11 (pc' := 13) rfl ?_
  refine own_iload X0 rfl own_d_prog_50_method_6_code_13 (pc' := 15) rfl ?_
  refine own_iload X0 rfl own_d_prog_50_method_6_code_15 (pc' := 17) rfl ?_
  refine own_icmpF X0 (by decide) own_d_prog_50_method_6_code_17 (pc' := 20) rfl ?_
  refine own_aload X0 rfl rfl own_d_prog_50_method_6_code_20 (pc' := 22) rfl ?_
  refine own_iload X0 rfl own_d_prog_50_method_6_code_22 (pc' := 24) rfl ?_
  refine own_daload X0 V1 (i := 0) (by decide) (by decide) rfl own_d_prog_50_method_6_code_24 (pc' := 25) rfl ?_
  refine own_dstore X0 (Ls' := #[.val (.ref a1), .val (.double c0), .second, .val (.double (0 : UInt64)), .second, .val (.ref a1), .val (.int (3 : Int32)), .val (.int (0 : Int32)), .val (.double x0), .second, .unset, .unset]) rfl own_d_prog_50_method_6_code_25 (pc' := 27) rfl ?_
  refine own_dload X0 rfl own_d_prog_50_method_6_code_27 (pc' := 29) rfl ?_
  refine own_dloadN X0 rfl own_d_prog_50_method_6_code_29 (pc' := 30) rfl ?_
  obtain ⟨d68, e68⟩ : ∃ v, FP.dsub x0 c0 = v := ⟨_, rfl⟩
  have f68 : own_D 0 33554432 (i_x0 - i_c0) d68 := own_D.sub D_x0 D_c0 e68 (by decide) (by decide) (by decide)
  refine own_dsub X0 e68 f68.nn own_d_prog_50_method_6_code_30 (pc' := 31) rfl ?_
  refine own_dstore X0 (Ls' := #[.val (.ref a1), .val (.double c0), .second, .val (.double (0 : UInt64)), .second, .val (.ref a1), .val (.int (3 : Int32)), .val (.int (0 : Int32)), .val (.double x0), .second, .val (.double d68), .second]) rfl own_d_prog_50_method_6_code_31 (pc' := 33) rfl ?_
  refine own_dloadN X0 rfl own_d_prog_50_method_6_code_33 (pc' := 34) rfl ?_
  refine own_dload X0 rfl own_d_prog_50_method_6_code_34 (pc' := 36) rfl ?_
  refine own_dload X0 rfl own_d_prog_50_method_6_code_36 (pc' := 38) rfl ?_
  obtain ⟨d69, e69⟩ : ∃ v, FP.dmul d68 d68 = v := ⟨_, rfl⟩
  have f69 : own_D 0 1125899906842624 ((i_x0 - i_c0) * (i_x0 - i_c0)) d69 := own_D.mul f68 f68 e69 (by decide) (by decide) (by decide) (by decide)
  refine own_dmul X0 e69 f69.nn own_d_prog_50_method_6_code_38 (pc' := 39) rfl ?_
  have f71 : own_D 0 0 (0 : Int) (0 : UInt64) := own_D.lit (s := false) (c := 0) (q := -1074) (by decide +kernel) (by decide +kernel) (by decide)
  obtain ⟨d70, e70⟩ : ∃ v, FP.dadd (0 : UInt64) d69 = v := ⟨_, rfl⟩
  have f70 : own_D 0 1125899906842624 ((0 : Int) + ((i_x0 - i_c0) * (i_x0 - i_c0))) d70 := own_D.add f71 f69 e70 (by decide) (by decide) (by decide)
  refine own_dadd X0 e70 f70.nn own_d_prog_50_method_6_code_39 (pc' := 40) rfl ?_
  refine own_dstoreN X0 (Ls' := #[.val (.ref a1), .val (.double c0), .second, .val (.double d70), .second, .val (.ref a1), .val (.int (3 : Int32)), .val (.int (0 : Int32)), .val (.double x0), .second, .val (.double d68), .second]) rfl own_d_prog_50_method_6_code_40 (pc' := 41) rfl ?_
  refine own_iinc X0 (Ls' := #[.val (.ref a1), .val (.double c0), .second, .val (.double d70), .second, .val (.ref a1), .val (.int (3 : Int32)), .val (.int (1 : Int32)), .val (.double x0), .second, .val (.double d68), .second]) rfl (by decide) rfl own_d_prog_50_method_6_code_41 (pc' := 44) rfl ?_
  refine own_goto X0 own_d_prog_50_method_6_code_44 (pc' := 13) (by decide) (by decide) ?_
  refine own_iload X0 rfl own_d_prog_50_method_6_code_13 (pc' := 15) rfl ?_
  refine own_iload X0 rfl own_d_prog_50_method_6_code_15 (pc' := 17) rfl ?_
  refine own_icmpF X0 (by decide) own_d_prog_50_method_6_code_17 (pc' := 20) rfl ?_
  refine own_aload X0 rfl rfl own_d_prog_50_method_6_code_20 (pc' := 22) rfl ?_
  refine own_iload X0 rfl own_d_prog_50_method_6_code_22 (pc' := 24) rfl ?_
  refine own_daload X0 V1 (i := 1) (by decide) (by decide) rfl own_d_prog_50_method_6_code_24 (pc' := 25) rfl ?_
  refine own_dstore X0 (Ls' := #[.val (.ref a1), .val (.double c0), .second, .val (.double d70), .second, .val (.ref a1), .val (.int (3 : Int32)), .val (.int (1 : Int32)), .val (.double x1), .second, .val (.double d68), .second]) rfl own_d_prog_50_method_6_code_25 (pc' := 27) rfl ?_
  refine own_dload X0 rfl own_d_prog_50_method_6_code_27 (pc' := 29) rfl ?_
  refine own_dloadN X0 rfl own_d_prog_50_method_6_code_29 (pc' := 30) rfl ?_
  obtain ⟨d72, e72⟩ : ∃ v, FP.dsub x1 c0 = v := ⟨_, rfl⟩
  have f72 : own_D 0 33554432 (i_x1 - i_c0) d72 := own_D.sub D_x1 D_c0 e72 (by decide) (by decide) (by decide)
  refine own_dsub X0 e72 f72.nn own_d_prog_50_method_6_code_30 (pc' := 31) rfl ?_
  refine own_dstore X0 (Ls' := #[.val (.ref a1), .val (.double c0), .second, .val (.double d70), .second, .val (.ref a1), .val (.int (3 : Int32)), .val (.int (1 : Int32)), .val (.double x1), .second, .val (.double d72), .second]) rfl own_d_prog_50_method_6_code_31 (pc' := 33) rfl ?_
  refine own_dloadN X0 rfl own_d_prog_50_method_6_code_33 (pc' := 34) rfl ?_
  refine own_dload X0 rfl own_d_prog_50_method_6_code_34 (pc' := 36) rfl ?_
  refine own_dload X0 rfl own_d_prog_50_method_6_code_36 (pc' := 38) rfl ?_
  obtain ⟨d73, e73⟩ : ∃ v, FP.dmul d72 d72 = v := ⟨_, rfl⟩
  have f73 : own_D 0 1125899906842624 ((i_x1 - i_c0) * (i_x1 - i_c0)) d73 := own_D.mul f72 f72 e73 (by decide) (by decide) (by decide) (by decide)
  refine own_dmul X0 e73 f73.nn own_d_prog_50_method_6_code_38 (pc' := 39) rfl ?_
  obtain ⟨d74, e74⟩ : ∃ v, FP.dadd d70 d73 = v := ⟨_, rfl⟩
  have f74 : own_D 0 2251799813685248 (((0 : Int) + ((i_x0 - i_c0) * (i_x0 - i_c0))) + ((i_x1 - i_c0) * (i_x1 - i_c0))) d74 := own_D.add f70 f73 e74 (by decide) (by decide) (by decide)
  refine own_dadd X0 e74 f74.nn own_d_prog_50_method_6_code_39 (pc' := 40) rfl ?_
  refine own_dstoreN X0 (Ls' := #[.val (.ref a1), .val (.double c0), .second, .val (.double d74), .second, .val (.ref a1), .val (.int (3 : Int32)), .val (.int (1 : Int32)), .val (.double x1), .second, .val (.double d72), .second]) rfl own_d_prog_50_method_6_code_40 (pc' := 41) rfl ?_
  refine own_iinc X0 (Ls' := #[.val (.ref a1), .val (.double c0), .second, .val (.double d74), .second, .val (.ref a1), .val (.int (3 : Int32)), .val (.int (2 : Int32)), .val (.double x1), .second, .val (.double d72), .second]) rfl (by decide) rfl own_d_prog_50_method_6_code_41 (pc' := 44) rfl ?_
  refine own_goto X0 own_d_prog_50_method_6_code_44 (pc' := 13) (by decide) (by decide) ?_
  refine own_iload X0 rfl own_d_prog_50_method_6_code_13 (pc' := 15) rfl ?_
  refine own_iload X0 rfl own_d_prog_50_method_6_code_15 (pc' := 17) rfl ?_
  refine own_icmpF X0 (by decide) own_d_prog_50_method_6_code_17 (pc' := 20) rfl ?_
  refine own_aload X0 rfl rfl own_d_prog_50_method_6_code_20 (pc' := 22) rfl ?_
  refine own_iload X0 rfl own_d_prog_50_method_6_code_22 (pc' := 24) rfl ?_
  refine own_daload X0 V1 (i := 2) (by decide) (by decide) rfl own_d_prog_50_method_6_code_24 (pc' := 25) rfl ?_
  refine own_dstore X0 (Ls' := #[.val (.ref a1), .val (.double c0), .second, .val (.double d74), .second, .val (.ref a1), .val (.int (3 : Int32)), .val (.int (2 : Int32)), .val (.double x2), .second, .val (.double d72), .second]) rfl own_d_prog_50_method_6_code_25 (pc' := 27) rfl ?_
  refine own_dload X0 rfl own_d_prog_50_method_6_code_27 (pc' := 29) rfl ?_
  refine own_dloadN X0 rfl own_d_prog_50_method_6_code_29 (pc' := 30) rfl ?_
  obtain ⟨d75, e75⟩ : ∃ v, FP.dsub x2 c0 = v := ⟨_, rfl⟩
  have f75 : own_D 0 33554432 (i_x2 - i_c0) d75 := own_D.sub D_x2 D_c0 e75 (by decide) (by decide) (by decide)
  refine own_dsub X0 e75 f75.nn own_d_prog_50_method_6_code_30 (pc' := 31) rfl ?_
  refine own_dstore X0 (Ls' := #[.val (.ref a1), .val (.double c0), .second, .val (.double d74), .second, .val (.ref a1), .val (.int (3 : Int32)), .val (.int (2 : Int32)), .val (.double x2), .second, .val (.double d75), .second]) rfl own_d_prog_50_method_6_code_31 (pc' := 33) rfl ?_
  refine own_dloadN X0 rfl own_d_prog_50_method_6_code_33 (pc' := 34) rfl ?_
  refine own_dload X0 rfl own_d_prog_50_method_6_code_34 (pc' := 36) rfl ?_
  refine own_dload X0 rfl own_d_prog_50_method_6_code_36 (pc' := 38) rfl ?_
  obtain ⟨d76, e76⟩ : ∃ v, FP.dmul d75 d75 = v := ⟨_, rfl⟩
  have f76 : own_D 0 1125899906842624 ((i_x2 - i_c0) * (i_x2 - i_c0)) d76 := own_D.mul f75 f75 e76 (by decide) (by decide) (by decide) (by decide)
  refine own_dmul X0 e76 f76.nn own_d_prog_50_method_6_code_38 (pc' := 39) rfl ?_
  obtain ⟨d77, e77⟩ : ∃ v, FP.dadd d74 d76 = v := ⟨_, rfl⟩
  have f77 : own_D 0 3377699720527872 ((((0 : Int) + ((i_x0 - i_c0) * (i_x0 - i_c0))) + ((i_x1 - i_c0) * (i_x1 - i_c0))) + ((i_x2 - i_c0) * (i_x2 - i_c0))) d77 := own_D.add f74 f76 e77 (by decide) (by decide) (by decide)
  refine own_dadd X0 e77 f77.nn own_d_prog_50_method_6_code_39 (pc' := 40) rfl ?_
  refine own_dstoreN X0 (Ls' := #[.val (.ref a1), .val (.double c0), .second, .val (.double d77), .second, .val (.ref a1), .val (.int (3 : Int32)), .val (.int (2 : Int32)), .val (.double x2), .second, .val (.double d75), .second]) rfl own_d_prog_50_method_6_code_40 (pc' := 41) rfl ?_
  refine own_iinc X0 (Ls' := #[.val (.ref a1), .val (.double c0), .second, .val (.double d77), .second, .val (.ref a1), .val (.int (3 : Int32)), .val (.int (3 : Int32)), .val (.double x2), .second, .val (.double d75), .second]) rfl (by decide) rfl own_d_prog_50_method_6_code_41 (pc' := 44) rfl ?_
  refine own_goto X0 own_d_prog_50_method_6_code_44 (pc' := 13) (by decide) (by decide) ?_
  refine own_iload X0 rfl own_d_prog_50_method_6_code_13 (pc' := 15) rfl ?_
  refine own_iload X0 rfl own_d_prog_50_method_6_code_15 (pc' := 17) rfl ?_
  refine own_icmpT X0 (by decide) own_d_prog_50_method_6_code_17 (pc' := 47) (by decide) (by decide) ?_
  refine own_dloadN X0 rfl own_d_prog_50_method_6_code_47 (pc' := 48) rfl ?_
  refine own_aloadN X0 rfl rfl own_d_prog_50_method_6_code_48 (pc' := 49) rfl ?_
  refine own_len X0 V1 (v := (3 : Int32)) (show (3 : Nat).toInt32 = (3 : Int32) by decide) own_d_prog_50_method_6_code_49 (pc' := 50) rfl ?_
  have f78 : own_I 3 (3 : Int) (3 : Int32) := own_I.lit (by decide) (by decide)
  obtain ⟨d79, e79⟩ : ∃ v, FP.i2d (3 : Int32) = v := ⟨_, rfl⟩
  have f79 : own_D 0 3 (3 : Int) d79 := own_D.i2d f78 e79
  refine own_i2d X0 e79 own_d_prog_50_method_6_code_50 (pc' := 51) rfl ?_
  obtain ⟨d81, e81⟩ : ∃ v, FP.ddiv d77 d79 = v := ⟨_, rfl⟩
  have q81 := own_quot_nn f77 f79 (by decide) e81
  refine own_ddiv X0 e81 q81 own_d_prog_50_method_6_code_51 (pc' := 52) rfl ?_
  exact own_retD X0  own_d_prog_50_method_6_code_52 rfl (by decide) (by decide) ⟨⟨_, _, _, rfl, f77, f79, e81⟩, rfl⟩
abbrev own_rm_own_pick4 : Room := ({ frames := 0, cells := 1, slots := 4, locals := 0 } : Room)
set_option maxRecDepth 65536 in
set_option maxHeartbeats 40000000 in
theorem own_pick4 (l : Launch) (Z : State) (a0 : Array Value) (hw : ∀ d ∈ tables_1, d.before a0 Z = true) (y0 : Int64) (i_y0 : Int) (y1 : Int64) (i_y1 : Int) (y2 : Int64) (i_y2 : Int) (y3 : Int64) (i_y3 : Int) (h0 : Heap) (n0 : Nat) (Z0 : n0 ≤ h0.size) (L_y0 : own_L 16777216 i_y0 y0) (L_y1 : own_L 16777216 i_y1 y1) (L_y2 : own_L 16777216 i_y2 y2) (L_y3 : own_L 16777216 i_y3 y3) :
    own_Met l Z ({ cls := "com/example/volstat/volstat/garch/VarianceStartMeanSquarePinLaw", name := "pick", desc := "(IJJJJ)[D" } : Jvm.MethodName) method_2_code 9 (some (.array .double)) [] own_rm_own_pick4 #[(.int (4 : Int32)), (.long y0), (.long y1), (.long y2), (.long y3)] h0 n0 (fun v h => ∃ a r0 r1 r2 r3, v = some (.ref a) ∧ own_Vec Z h a .double [.double r0, .double r1, .double r2, .double r3] ∧ own_D 0 16777216 i_y0 r0 ∧ own_D 0 16777216 i_y1 r1 ∧ own_D 0 16777216 i_y2 r2 ∧ own_D 0 16777216 i_y3 r3) := by
  refine own_meet (plainFor_of_name own_pn0) Z0 (Ls0 := #[.val (.int (4 : Int32)), .val (.long y0), .second, .val (.long y1), .second, .val (.long y2), .second, .val (.long y3), .second]) (by intro m; first | (simp [entryFrame, mkF, argsToLocals, Value.category]; done) | rfl) ?_
  intro p e s m below meth c T0 X0
  refine own_iloadN X0 rfl own_d_method_2_code_0 (pc' := 1) rfl ?_
  refine own_iconst X0 (v := (1 : Int32)) (by decide) own_d_method_2_code_1 (pc' := 2) rfl ?_
  refine own_icmpT X0 (by decide) own_d_method_2_code_2 (pc' := 14) (by decide) (by decide) ?_
  refine own_iloadN X0 rfl own_d_method_2_code_14 (pc' := 15) rfl ?_
  refine own_iconst X0 (v := (2 : Int32)) (by decide) own_d_method_2_code_15 (pc' := 16) rfl ?_
  refine own_icmpT X0 (by decide) own_d_method_2_code_16 (pc' := 33) (by decide) (by decide) ?_
  refine own_iloadN X0 rfl own_d_method_2_code_33 (pc' := 34) rfl ?_
  refine own_iconst X0 (v := (3 : Int32)) (by decide) own_d_method_2_code_34 (pc' := 35) rfl ?_
  refine own_icmpT X0 (by decide) own_d_method_2_code_35 (pc' := 58) (by decide) (by decide) ?_
  refine own_iconst X0 (v := (4 : Int32)) (by decide) own_d_method_2_code_58 (pc' := 59) rfl ?_
  refine own_newarray X0 (ty := .double) rfl (hw _ (List.mem_of_getElem? (i := 4) rfl)) (n := 4) (vs := [(.double (0 : UInt64)), (.double (0 : UInt64)), (.double (0 : UInt64)), (.double (0 : UInt64))]) (by decide) (by decide) (by decide) rfl (cells' := 1) (slots' := 4) rfl rfl (by decide) (by decide) own_d_method_2_code_59 (pc' := 61) rfl fun a82 T82 h82 g82 ge82 X82 E82 V82 => ?_
  refine own_dup X82 rfl own_d_method_2_code_61 (pc' := 62) rfl ?_
  refine own_iconst X82 (v := (0 : Int32)) (by decide) own_d_method_2_code_62 (pc' := 63) rfl ?_
  refine own_lloadN X82 rfl own_d_method_2_code_63 (pc' := 64) rfl ?_
  obtain ⟨d83, e83⟩ : ∃ v, FP.l2d y0 = v := ⟨_, rfl⟩
  have f83 : own_D 0 16777216 i_y0 d83 := own_D.l2d L_y0 e83 (by decide)
  refine own_l2d X82 e83 own_d_method_2_code_64 (pc' := 65) rfl ?_
  refine own_dastore X82 V82 ge82 (i := 0) (by decide) (by decide) (show 0 < 4 by decide) own_d_method_2_code_65 (pc' := 66) rfl fun T84 h84 X84 W84 V84 => ?_
  replace V84 : own_Vec Z h84 a82 .double [(.double d83), (.double (0 : UInt64)), (.double (0 : UInt64)), (.double (0 : UInt64))] := V84
  refine own_dup X84 rfl own_d_method_2_code_66 (pc' := 67) rfl ?_
  refine own_iconst X84 (v := (1 : Int32)) (by decide) own_d_method_2_code_67 (pc' := 68) rfl ?_
  refine own_lloadN X84 rfl own_d_method_2_code_68 (pc' := 69) rfl ?_
  obtain ⟨d85, e85⟩ : ∃ v, FP.l2d y1 = v := ⟨_, rfl⟩
  have f85 : own_D 0 16777216 i_y1 d85 := own_D.l2d L_y1 e85 (by decide)
  refine own_l2d X84 e85 own_d_method_2_code_69 (pc' := 70) rfl ?_
  refine own_dastore X84 V84 ge82 (i := 1) (by decide) (by decide) (show 1 < 4 by decide) own_d_method_2_code_70 (pc' := 71) rfl fun T86 h86 X86 W86 V86 => ?_
  replace V86 : own_Vec Z h86 a82 .double [(.double d83), (.double d85), (.double (0 : UInt64)), (.double (0 : UInt64))] := V86
  refine own_dup X86 rfl own_d_method_2_code_71 (pc' := 72) rfl ?_
  refine own_iconst X86 (v := (2 : Int32)) (by decide) own_d_method_2_code_72 (pc' := 73) rfl ?_
  refine own_lload X86 rfl own_d_method_2_code_73 (pc' := 75) rfl ?_
  obtain ⟨d87, e87⟩ : ∃ v, FP.l2d y2 = v := ⟨_, rfl⟩
  have f87 : own_D 0 16777216 i_y2 d87 := own_D.l2d L_y2 e87 (by decide)
  refine own_l2d X86 e87 own_d_method_2_code_75 (pc' := 76) rfl ?_
  refine own_dastore X86 V86 ge82 (i := 2) (by decide) (by decide) (show 2 < 4 by decide) own_d_method_2_code_76 (pc' := 77) rfl fun T88 h88 X88 W88 V88 => ?_
  replace V88 : own_Vec Z h88 a82 .double [(.double d83), (.double d85), (.double d87), (.double (0 : UInt64))] := V88
  refine own_dup X88 rfl own_d_method_2_code_77 (pc' := 78) rfl ?_
  refine own_iconst X88 (v := (3 : Int32)) (by decide) own_d_method_2_code_78 (pc' := 79) rfl ?_
  refine own_lload X88 rfl own_d_method_2_code_79 (pc' := 81) rfl ?_
  obtain ⟨d89, e89⟩ : ∃ v, FP.l2d y3 = v := ⟨_, rfl⟩
  have f89 : own_D 0 16777216 i_y3 d89 := own_D.l2d L_y3 e89 (by decide)
  refine own_l2d X88 e89 own_d_method_2_code_81 (pc' := 82) rfl ?_
  refine own_dastore X88 V88 ge82 (i := 3) (by decide) (by decide) (show 3 < 4 by decide) own_d_method_2_code_82 (pc' := 83) rfl fun T90 h90 X90 W90 V90 => ?_
  replace V90 : own_Vec Z h90 a82 .double [(.double d83), (.double d85), (.double d87), (.double d89)] := V90
  exact own_retA X90 (t := (.array .double)) rfl own_d_method_2_code_83 rfl (by decide) (by decide) ⟨_, _, _, _, _, rfl, V90, f83, f85, f87, f89⟩
abbrev own_rm_own_ms4 : Room := ({ frames := 0, cells := 0, slots := 0, locals := 0 } : Room)
set_option maxRecDepth 65536 in
set_option maxHeartbeats 40000000 in
theorem own_ms4 (l : Launch) (Z : State) (a0 : Array Value) (hw : ∀ d ∈ tables_1, d.before a0 Z = true) (a1 : Addr) (x0 : UInt64) (i_x0 : Int) (x1 : UInt64) (i_x1 : Int) (x2 : UInt64) (i_x2 : Int) (x3 : UInt64) (i_x3 : Int) (c0 : UInt64) (i_c0 : Int) (h0 : Heap) (n0 : Nat) (Z0 : n0 ≤ h0.size) (V1 : own_Vec Z h0 a1 .double [(.double x0), (.double x1), (.double x2), (.double x3)]) (D_x0 : own_D 0 16777216 i_x0 x0) (D_x1 : own_D 0 16777216 i_x1 x1) (D_x2 : own_D 0 16777216 i_x2 x2) (D_x3 : own_D 0 16777216 i_x3 x3) (D_c0 : own_D 0 16777216 i_c0 c0) :
    own_Met l Z ({ cls := "com/example/volstat/volstat/garch/VarianceStart", name := "meanSquare", desc := "([DD)D" } : Jvm.MethodName) prog_50_method_6_code 12 (some .double) [] own_rm_own_ms4 #[(.ref a1), (.double c0)] h0 n0 (fun v h => (∃ r x z, v = some (.double r) ∧ own_D 0 4503599627370496 (((((0 : Int) + ((i_x0 - i_c0) * (i_x0 - i_c0))) + ((i_x1 - i_c0) * (i_x1 - i_c0))) + ((i_x2 - i_c0) * (i_x2 - i_c0))) + ((i_x3 - i_c0) * (i_x3 - i_c0))) x ∧ own_D 0 4 (4 : Int) z ∧ FP.ddiv x z = r) ∧ h = h0) := by
  refine own_meet (plainFor_of_name own_pn1) Z0 (Ls0 := #[.val (.ref a1), .val (.double c0), .second, .unset, .unset, .unset, .unset, .unset, .unset, .unset, .unset, .unset]) (by intro m; first | (simp [entryFrame, mkF, argsToLocals, Value.category]; done) | rfl) ?_
  intro p e s m below meth c T0 X0
  refine own_dconst0 X0 (v := (0 : UInt64)) rfl own_d_prog_50_method_6_code_0 (pc' := 1) rfl ?_
  refine own_dstoreN X0 (Ls' := #[.val (.ref a1), .val (.double c0), .second, .val (.double (0 : UInt64)), .second, .unset, .unset, .unset, .unset, .unset, .unset, .unset]) rfl own_d_prog_50_method_6_code_1 (pc' := 2) rfl ?_
  refine own_aloadN X0 rfl rfl own_d_prog_50_method_6_code_2 (pc' := 3) rfl ?_
  refine own_astore X0 (Ls' := #[.val (.ref a1), .val (.double c0), .second, .val (.double (0 : UInt64)), .second, .val (.ref a1), .unset, .unset, .unset, .unset, .unset, .unset]) rfl rfl own_d_prog_50_method_6_code_3 (pc' := 5) rfl ?_
  refine own_aload X0 rfl rfl own_d_prog_50_method_6_code_5 (pc' := 7) rfl ?_
  refine own_len X0 V1 (v := (4 : Int32)) (show (4 : Nat).toInt32 = (4 : Int32) by decide) own_d_prog_50_method_6_code_7 (pc' := 8) rfl ?_
  refine own_istore X0 (Ls' := #[.val (.ref a1), .val (.double c0), .second, .val (.double (0 : UInt64)), .second, .val (.ref a1), .val (.int (4 : Int32)), .unset, .unset, .unset, .unset, .unset]) rfl own_d_prog_50_method_6_code_8 (pc' := 10) rfl ?_
  refine own_iconst X0 (v := (0 : Int32)) (by decide) own_d_prog_50_method_6_code_10 (pc' := 11) rfl ?_
  refine own_istore X0 (Ls' := #[.val (.ref a1), .val (.double c0), .second, .val (.double (0 : UInt64)), .second, .val (.ref a1), .val (.int (4 : Int32)), .val (.int (0 : Int32)), .unset, .unset, .unset, .unset]) rfl own_d_prog_50_method_6_code_11 (pc' := 13) rfl ?_
  refine own_iload X0 rfl own_d_prog_50_method_6_code_13 (pc' := 15) rfl ?_
  refine own_iload X0 rfl own_d_prog_50_method_6_code_15 (pc' := 17) rfl ?_
  refine own_icmpF X0 (by decide) own_d_prog_50_method_6_code_17 (pc' := 20) rfl ?_
  refine own_aload X0 rfl rfl own_d_prog_50_method_6_code_20 (pc' := 22) rfl ?_
  refine own_iload X0 rfl own_d_prog_50_method_6_code_22 (pc' := 24) rfl ?_
  refine own_daload X0 V1 (i := 0) (by decide) (by decide) rfl own_d_prog_50_method_6_code_24 (pc' := 25) rfl ?_
  refine own_dstore X0 (Ls' := #[.val (.ref a1), .val (.double c0), .second, .val (.double (0 : UInt64)), .second, .val (.ref a1), .val (.int (4 : Int32)), .val (.int (0 : Int32)), .val (.double x0), .second, .unset, .unset]) rfl own_d_prog_50_method_6_code_25 (pc' := 27) rfl ?_
  refine own_dload X0 rfl own_d_prog_50_method_6_code_27 (pc' := 29) rfl ?_
  refine own_dloadN X0 rfl own_d_prog_50_method_6_code_29 (pc' := 30) rfl ?_
  obtain ⟨d108, e108⟩ : ∃ v, FP.dsub x0 c0 = v := ⟨_, rfl⟩
  have f108 : own_D 0 33554432 (i_x0 - i_c0) d108 := own_D.sub D_x0 D_c0 e108 (by decide) (by decide) (by decide)
  refine own_dsub X0 e108 f108.nn own_d_prog_50_method_6_code_30 (pc' := 31) rfl ?_
  refine own_dstore X0 (Ls' := #[.val (.ref a1), .val (.double c0), .second, .val (.double (0 : UInt64)), .second, .val (.ref a1), .val (.int (4 : Int32)), .val (.int (0 : Int32)), .val (.double x0), .second, .val (.double d108), .second]) rfl own_d_prog_50_method_6_code_31 (pc' := 33) rfl ?_
  refine own_dloadN X0 rfl own_d_prog_50_method_6_code_33 (pc' := 34) rfl ?_
  refine own_dload X0 rfl own_d_prog_50_method_6_code_34 (pc' := 36) rfl ?_
  refine own_dload X0 rfl own_d_prog_50_method_6_code_36 (pc' := 38) rfl ?_
  obtain ⟨d109, e109⟩ : ∃ v, FP.dmul d108 d108 = v := ⟨_, rfl⟩
  have f109 : own_D 0 1125899906842624 ((i_x0 - i_c0) * (i_x0 - i_c0)) d109 := own_D.mul f108 f108 e109 (by decide) (by decide) (by decide) (by decide)
  refine own_dmul X0 e109 f109.nn own_d_prog_50_method_6_code_38 (pc' := 39) rfl ?_
  have f111 : own_D 0 0 (0 : Int) (0 : UInt64) := own_D.lit (s := false) (c := 0) (q := -1074) (by decide +kernel) (by decide +kernel) (by decide)
  obtain ⟨d110, e110⟩ : ∃ v, FP.dadd (0 : UInt64) d109 = v := ⟨_, rfl⟩
  have f110 : own_D 0 1125899906842624 ((0 : Int) + ((i_x0 - i_c0) * (i_x0 - i_c0))) d110 := own_D.add f111 f109 e110 (by decide) (by decide) (by decide)
  refine own_dadd X0 e110 f110.nn own_d_prog_50_method_6_code_39 (pc' := 40) rfl ?_
  refine own_dstoreN X0 (Ls' := #[.val (.ref a1), .val (.double c0), .second, .val (.double d110), .second, .val (.ref a1), .val (.int (4 : Int32)), .val (.int (0 : Int32)), .val (.double x0), .second, .val (.double d108), .second]) rfl own_d_prog_50_method_6_code_40 (pc' := 41) rfl ?_
  refine own_iinc X0 (Ls' := #[.val (.ref a1), .val (.double c0), .second, .val (.double d110), .second, .val (.ref a1), .val (.int (4 : Int32)), .val (.int (1 : Int32)), .val (.double x0), .second, .val (.double d108), .second]) rfl (by decide) rfl own_d_prog_50_method_6_code_41 (pc' := 44) rfl ?_
  refine own_goto X0 own_d_prog_50_method_6_code_44 (pc' := 13) (by decide) (by decide) ?_
  refine own_iload X0 rfl own_d_prog_50_method_6_code_13 (pc' := 15) rfl ?_
  refine own_iload X0 rfl own_d_prog_50_method_6_code_15 (pc' := 17) rfl ?_
  refine own_icmpF X0 (by decide) own_d_prog_50_method_6_code_17 (pc' := 20) rfl ?_
  refine own_aload X0 rfl rfl own_d_prog_50_method_6_code_20 (pc' := 22) rfl ?_
  refine own_iload X0 rfl own_d_prog_50_method_6_code_22 (pc' := 24) rfl ?_
  refine own_daload X0 V1 (i := 1) (by decide) (by decide) rfl own_d_prog_50_method_6_code_24 (pc' := 25) rfl ?_
  refine own_dstore X0 (Ls' := #[.val (.ref a1), .val (.double c0), .second, .val (.double d110), .second, .val (.ref a1), .val (.int (4 : Int32)), .val (.int (1 : Int32)), .val (.double x1), .second, .val (.double d108), .second]) rfl own_d_prog_50_method_6_code_25 (pc' := 27) rfl ?_
  refine own_dload X0 rfl own_d_prog_50_method_6_code_27 (pc' := 29) rfl ?_
  refine own_dloadN X0 rfl own_d_prog_50_method_6_code_29 (pc' := 30) rfl ?_
  obtain ⟨d112, e112⟩ : ∃ v, FP.dsub x1 c0 = v := ⟨_, rfl⟩
  have f112 : own_D 0 33554432 (i_x1 - i_c0) d112 := own_D.sub D_x1 D_c0 e112 (by decide) (by decide) (by decide)
  refine own_dsub X0 e112 f112.nn own_d_prog_50_method_6_code_30 (pc' := 31) rfl ?_
  refine own_dstore X0 (Ls' := #[.val (.ref a1), .val (.double c0), .second, .val (.double d110), .second, .val (.ref a1), .val (.int (4 : Int32)), .val (.int (1 : Int32)), .val (.double x1), .second, .val (.double d112), .second]) rfl own_d_prog_50_method_6_code_31 (pc' := 33) rfl ?_
  refine own_dloadN X0 rfl own_d_prog_50_method_6_code_33 (pc' := 34) rfl ?_
  refine own_dload X0 rfl own_d_prog_50_method_6_code_34 (pc' := 36) rfl ?_
  refine own_dload X0 rfl own_d_prog_50_method_6_code_36 (pc' := 38) rfl ?_
  obtain ⟨d113, e113⟩ : ∃ v, FP.dmul d112 d112 = v := ⟨_, rfl⟩
  have f113 : own_D 0 1125899906842624 ((i_x1 - i_c0) * (i_x1 - i_c0)) d113 := own_D.mul f112 f112 e113 (by decide) (by decide) (by decide) (by decide)
  refine own_dmul X0 e113 f113.nn own_d_prog_50_method_6_code_38 (pc' := 39) rfl ?_
  obtain ⟨d114, e114⟩ : ∃ v, FP.dadd d110 d113 = v := ⟨_, rfl⟩
  have f114 : own_D 0 2251799813685248 (((0 : Int) + ((i_x0 - i_c0) * (i_x0 - i_c0))) + ((i_x1 - i_c0) * (i_x1 - i_c0))) d114 := own_D.add f110 f113 e114 (by decide) (by decide) (by decide)
  refine own_dadd X0 e114 f114.nn own_d_prog_50_method_6_code_39 (pc' := 40) rfl ?_
  refine own_dstoreN X0 (Ls' := #[.val (.ref a1), .val (.double c0), .second, .val (.double d114), .second, .val (.ref a1), .val (.int (4 : Int32)), .val (.int (1 : Int32)), .val (.double x1), .second, .val (.double d112), .second]) rfl own_d_prog_50_method_6_code_40 (pc' := 41) rfl ?_
  refine own_iinc X0 (Ls' := #[.val (.ref a1), .val (.double c0), .second, .val (.double d114), .second, .val (.ref a1), .val (.int (4 : Int32)), .val (.int (2 : Int32)), .val (.double x1), .second, .val (.double d112), .second]) rfl (by decide) rfl own_d_prog_50_method_6_code_41 (pc' := 44) rfl ?_
  refine own_goto X0 own_d_prog_50_method_6_code_44 (pc' := 13) (by decide) (by decide) ?_
  refine own_iload X0 rfl own_d_prog_50_method_6_code_13 (pc' := 15) rfl ?_
  refine own_iload X0 rfl own_d_prog_50_method_6_code_15 (pc' := 17) rfl ?_
  refine own_icmpF X0 (by decide) own_d_prog_50_method_6_code_17 (pc' := 20) rfl ?_
  refine own_aload X0 rfl rfl own_d_prog_50_method_6_code_20 (pc' := 22) rfl ?_
  refine own_iload X0 rfl own_d_prog_50_method_6_code_22 (pc' := 24) rfl ?_
  refine own_daload X0 V1 (i := 2) (by decide) (by decide) rfl own_d_prog_50_method_6_code_24 (pc' := 25) rfl ?_
  refine own_dstore X0 (Ls' := #[.val (.ref a1), .val (.double c0), .second, .val (.double d114), .second, .val (.ref a1), .val (.int (4 : Int32)), .val (.int (2 : Int32)), .val (.double x2), .second, .val (.double d112), .second]) rfl own_d_prog_50_method_6_code_25 (pc' := 27) rfl ?_
  refine own_dload X0 rfl own_d_prog_50_method_6_code_27 (pc' := 29) rfl ?_
  refine own_dloadN X0 rfl own_d_prog_50_method_6_code_29 (pc' := 30) rfl ?_
  obtain ⟨d115, e115⟩ : ∃ v, FP.dsub x2 c0 = v := ⟨_, rfl⟩
  have f115 : own_D 0 33554432 (i_x2 - i_c0) d115 := own_D.sub D_x2 D_c0 e115 (by decide) (by decide) (by decide)
  refine own_dsub X0 e115 f115.nn own_d_prog_50_method_6_code_30 (pc' := 31) rfl ?_
  refine own_dstore X0 (Ls' := #[.val (.ref a1), .val (.double c0), .second, .val (.double d114), .second, .val (.ref a1), .val (.int (4 : Int32)), .val (.int (2 : Int32)), .val (.double x2), .second, .val (.double d115), .second]) rfl own_d_prog_50_method_6_code_31 (pc' := 33) rfl ?_
  refine own_dloadN X0 rfl own_d_prog_50_method_6_code_33 (pc' := 34) rfl ?_
  refine own_dload X0 rfl own_d_prog_50_method_6_code_34 (pc' := 36) rfl ?_
  refine own_dload X0 rfl own_d_prog_50_method_6_code_36 (pc' := 38) rfl ?_
  obtain ⟨d116, e116⟩ : ∃ v, FP.dmul d115 d115 = v := ⟨_, rfl⟩
  have f116 : own_D 0 1125899906842624 ((i_x2 - i_c0) * (i_x2 - i_c0)) d116 := own_D.mul f115 f115 e116 (by decide) (by decide) (by decide) (by decide)
  refine own_dmul X0 e116 f116.nn own_d_prog_50_method_6_code_38 (pc' := 39) rfl ?_
  obtain ⟨d117, e117⟩ : ∃ v, FP.dadd d114 d116 = v := ⟨_, rfl⟩
  have f117 : own_D 0 3377699720527872 ((((0 : Int) + ((i_x0 - i_c0) * (i_x0 - i_c0))) + ((i_x1 - i_c0) * (i_x1 - i_c0))) + ((i_x2 - i_c0) * (i_x2 - i_c0))) d117 := own_D.add f114 f116 e117 (by decide) (by decide) (by decide)
  refine own_dadd X0 e117 f117.nn own_d_prog_50_method_6_code_39 (pc' := 40) rfl ?_
  refine own_dstoreN X0 (Ls' := #[.val (.ref a1), .val (.double c0), .second, .val (.double d117), .second, .val (.ref a1), .val (.int (4 : Int32)), .val (.int (2 : Int32)), .val (.double x2), .second, .val (.double d115), .second]) rfl own_d_prog_50_method_6_code_40 (pc' := 41) rfl ?_
  refine own_iinc X0 (Ls' := #[.val (.ref a1), .val (.double c0), .second, .val (.double d117), .second, .val (.ref a1), .val (.int (4 : Int32)), .val (.int (3 : Int32)), .val (.double x2), .second, .val (.double d115), .second]) rfl (by decide) rfl own_d_prog_50_method_6_code_41 (pc' := 44) rfl ?_
  refine own_goto X0 own_d_prog_50_method_6_code_44 (pc' := 13) (by decide) (by decide) ?_
  refine own_iload X0 rfl own_d_prog_50_method_6_code_13 (pc' := 15) rfl ?_
  refine own_iload X0 rfl own_d_prog_50_method_6_code_15 (pc' := 17) rfl ?_
  refine own_icmpF X0 (by decide) own_d_prog_50_method_6_code_17 (pc' := 20) rfl ?_
  refine own_aload X0 rfl rfl own_d_prog_50_method_6_code_20 (pc' := 22) rfl ?_
  refine own_iload X0 rfl own_d_prog_50_method_6_code_22 (pc' := 24) rfl ?_
  refine own_daload X0 V1 (i := 3) (by decide) (by decide) rfl own_d_prog_50_method_6_code_24 (pc' := 25) rfl ?_
  refine own_dstore X0 (Ls' := #[.val (.ref a1), .val (.double c0), .second, .val (.double d117), .second, .val (.ref a1), .val (.int (4 : Int32)), .val (.int (3 : Int32)), .val (.double x3), .second, .val (.double d115), .second]) rfl own_d_prog_50_method_6_code_25 (pc' := 27) rfl ?_
  refine own_dload X0 rfl own_d_prog_50_method_6_code_27 (pc' := 29) rfl ?_
  refine own_dloadN X0 rfl own_d_prog_50_method_6_code_29 (pc' := 30) rfl ?_
  obtain ⟨d118, e118⟩ : ∃ v, FP.dsub x3 c0 = v := ⟨_, rfl⟩
  have f118 : own_D 0 33554432 (i_x3 - i_c0) d118 := own_D.sub D_x3 D_c0 e118 (by decide) (by decide) (by decide)
  refine own_dsub X0 e118 f118.nn own_d_prog_50_method_6_code_30 (pc' := 31) rfl ?_
  refine own_dstore X0 (Ls' := #[.val (.ref a1), .val (.double c0), .second, .val (.double d117), .second, .val (.ref a1), .val (.int (4 : Int32)), .val (.int (3 : Int32)), .val (.double x3), .second, .val (.double d118), .second]) rfl own_d_prog_50_method_6_code_31 (pc' := 33) rfl ?_
  refine own_dloadN X0 rfl own_d_prog_50_method_6_code_33 (pc' := 34) rfl ?_
  refine own_dload X0 rfl own_d_prog_50_method_6_code_34 (pc' := 36) rfl ?_
  refine own_dload X0 rfl own_d_prog_50_method_6_code_36 (pc' := 38) rfl ?_
  obtain ⟨d119, e119⟩ : ∃ v, FP.dmul d118 d118 = v := ⟨_, rfl⟩
  have f119 : own_D 0 1125899906842624 ((i_x3 - i_c0) * (i_x3 - i_c0)) d119 := own_D.mul f118 f118 e119 (by decide) (by decide) (by decide) (by decide)
  refine own_dmul X0 e119 f119.nn own_d_prog_50_method_6_code_38 (pc' := 39) rfl ?_
  obtain ⟨d120, e120⟩ : ∃ v, FP.dadd d117 d119 = v := ⟨_, rfl⟩
  have f120 : own_D 0 4503599627370496 (((((0 : Int) + ((i_x0 - i_c0) * (i_x0 - i_c0))) + ((i_x1 - i_c0) * (i_x1 - i_c0))) + ((i_x2 - i_c0) * (i_x2 - i_c0))) + ((i_x3 - i_c0) * (i_x3 - i_c0))) d120 := own_D.add f117 f119 e120 (by decide) (by decide) (by decide)
  refine own_dadd X0 e120 f120.nn own_d_prog_50_method_6_code_39 (pc' := 40) rfl ?_
  refine own_dstoreN X0 (Ls' := #[.val (.ref a1), .val (.double c0), .second, .val (.double d120), .second, .val (.ref a1), .val (.int (4 : Int32)), .val (.int (3 : Int32)), .val (.double x3), .second, .val (.double d118), .second]) rfl own_d_prog_50_method_6_code_40 (pc' := 41) rfl ?_
  refine own_iinc X0 (Ls' := #[.val (.ref a1), .val (.double c0), .second, .val (.double d120), .second, .val (.ref a1), .val (.int (4 : Int32)), .val (.int (4 : Int32)), .val (.double x3), .second, .val (.double d118), .second]) rfl (by decide) rfl own_d_prog_50_method_6_code_41 (pc' := 44) rfl ?_
  refine own_goto X0 own_d_prog_50_method_6_code_44 (pc' := 13) (by decide) (by decide) ?_
  refine own_iload X0 rfl own_d_prog_50_method_6_code_13 (pc' := 15) rfl ?_
  refine own_iload X0 rfl own_d_prog_50_method_6_code_15 (pc' := 17) rfl ?_
  refine own_icmpT X0 (by decide) own_d_prog_50_method_6_code_17 (pc' := 47) (by decide) (by decide) ?_
  refine own_dloadN X0 rfl own_d_prog_50_method_6_code_47 (pc' := 48) rfl ?_
  refine own_aloadN X0 rfl rfl own_d_prog_50_method_6_code_48 (pc' := 49) rfl ?_
  refine own_len X0 V1 (v := (4 : Int32)) (show (4 : Nat).toInt32 = (4 : Int32) by decide) own_d_prog_50_method_6_code_49 (pc' := 50) rfl ?_
  have f121 : own_I 4 (4 : Int) (4 : Int32) := own_I.lit (by decide) (by decide)
  obtain ⟨d122, e122⟩ : ∃ v, FP.i2d (4 : Int32) = v := ⟨_, rfl⟩
  have f122 : own_D 0 4 (4 : Int) d122 := own_D.i2d f121 e122
  refine own_i2d X0 e122 own_d_prog_50_method_6_code_50 (pc' := 51) rfl ?_
  obtain ⟨d124, e124⟩ : ∃ v, FP.ddiv d120 d122 = v := ⟨_, rfl⟩
  have q124 := own_quot_nn f120 f122 (by decide) e124
  refine own_ddiv X0 e124 q124 own_d_prog_50_method_6_code_51 (pc' := 52) rfl ?_
  exact own_retD X0  own_d_prog_50_method_6_code_52 rfl (by decide) (by decide) ⟨⟨_, _, _, rfl, f120, f122, e124⟩, rfl⟩
set_option maxRecDepth 65536 in
set_option maxHeartbeats 40000000 in
theorem own_law (l : Launch) (Z : State) (a0 : Array Value) (hw : ∀ d ∈ tables_1, d.before a0 Z = true) (ws : List Jvm.Cond) (p0 : Int32) (p1 : Int32) (p2 : Int32) (p3 : Int32) (p4 : Int32) (p5 : Int32) (h0 : Heap) (n0 : Nat) (Z0 : n0 ≤ h0.size)  :
    own_Met l Z x code maxLocals ret ws room_1 #[(.int p0), (.int p1), (.int p2), (.int p3), (.int p4), (.int p5)] h0 n0 (fun v _ => v = some (.int 1)) := by
  refine own_meet (plainFor_of_name own_pn0) Z0 (Ls0 := #[.val (.int p0), .val (.int p1), .val (.int p2), .val (.int p3), .val (.int p4), .val (.int p5), .unset, .unset, .unset, .unset, .unset, .unset, .unset, .unset, .unset, .unset, .unset, .unset, .unset, .unset, .unset, .unset, .unset, .unset, .unset, .unset, .unset, .unset, .unset, .unset, .unset, .unset]) (by intro m; first | (simp [entryFrame, mkF, argsToLocals, Value.category, maxLocals]; done) | rfl) ?_
  intro p e s m below meth c T0 X0
  refine own_iloadN X0 rfl at_0 (pc' := 1) rfl ?_
  refine own_bipush X0 (v := (7 : Int32)) (by decide) at_1 (pc' := 3) rfl ?_
  obtain ⟨i125, e125⟩ : ∃ v, p0 >>> ((7 : Int32) &&& 31) = v := ⟨_, rfl⟩
  have f125 : own_I 16777216 i125.toInt i125 := own_I.shr (k := 7) e125 (by decide) (by decide)
  refine own_ishr X0 e125 at_3 (pc' := 4) rfl ?_
  obtain ⟨j126, e126⟩ : ∃ v, i125.toInt64 = v := ⟨_, rfl⟩
  have f126 : own_L 16777216 i125.toInt j126 := own_L.ofI f125 e126
  refine own_i2l X0 e126 at_4 (pc' := 5) rfl ?_
  refine own_lstore X0 (Ls' := #[.val (.int p0), .val (.int p1), .val (.int p2), .val (.int p3), .val (.int p4), .val (.int p5), .val (.long j126), .second, .unset, .unset, .unset, .unset, .unset, .unset, .unset, .unset, .unset, .unset, .unset, .unset, .unset, .unset, .unset, .unset, .unset, .unset, .unset, .unset, .unset, .unset, .unset, .unset]) rfl at_5 (pc' := 7) rfl ?_
  refine own_iloadN X0 rfl at_7 (pc' := 8) rfl ?_
  refine own_bipush X0 (v := (7 : Int32)) (by decide) at_8 (pc' := 10) rfl ?_
  obtain ⟨i127, e127⟩ : ∃ v, p1 >>> ((7 : Int32) &&& 31) = v := ⟨_, rfl⟩
  have f127 : own_I 16777216 i127.toInt i127 := own_I.shr (k := 7) e127 (by decide) (by decide)
  refine own_ishr X0 e127 at_10 (pc' := 11) rfl ?_
  obtain ⟨j128, e128⟩ : ∃ v, i127.toInt64 = v := ⟨_, rfl⟩
  have f128 : own_L 16777216 i127.toInt j128 := own_L.ofI f127 e128
  refine own_i2l X0 e128 at_11 (pc' := 12) rfl ?_
  refine own_lstore X0 (Ls' := #[.val (.int p0), .val (.int p1), .val (.int p2), .val (.int p3), .val (.int p4), .val (.int p5), .val (.long j126), .second, .val (.long j128), .second, .unset, .unset, .unset, .unset, .unset, .unset, .unset, .unset, .unset, .unset, .unset, .unset, .unset, .unset, .unset, .unset, .unset, .unset, .unset, .unset, .unset, .unset]) rfl at_12 (pc' := 14) rfl ?_
  refine own_iloadN X0 rfl at_14 (pc' := 15) rfl ?_
  refine own_bipush X0 (v := (7 : Int32)) (by decide) at_15 (pc' := 17) rfl ?_
  obtain ⟨i129, e129⟩ : ∃ v, p2 >>> ((7 : Int32) &&& 31) = v := ⟨_, rfl⟩
  have f129 : own_I 16777216 i129.toInt i129 := own_I.shr (k := 7) e129 (by decide) (by decide)
  refine own_ishr X0 e129 at_17 (pc' := 18) rfl ?_
  obtain ⟨j130, e130⟩ : ∃ v, i129.toInt64 = v := ⟨_, rfl⟩
  have f130 : own_L 16777216 i129.toInt j130 := own_L.ofI f129 e130
  refine own_i2l X0 e130 at_18 (pc' := 19) rfl ?_
  refine own_lstore X0 (Ls' := #[.val (.int p0), .val (.int p1), .val (.int p2), .val (.int p3), .val (.int p4), .val (.int p5), .val (.long j126), .second, .val (.long j128), .second, .val (.long j130), .second, .unset, .unset, .unset, .unset, .unset, .unset, .unset, .unset, .unset, .unset, .unset, .unset, .unset, .unset, .unset, .unset, .unset, .unset, .unset, .unset]) rfl at_19 (pc' := 21) rfl ?_
  refine own_iloadN X0 rfl at_21 (pc' := 22) rfl ?_
  refine own_bipush X0 (v := (7 : Int32)) (by decide) at_22 (pc' := 24) rfl ?_
  obtain ⟨i131, e131⟩ : ∃ v, p3 >>> ((7 : Int32) &&& 31) = v := ⟨_, rfl⟩
  have f131 : own_I 16777216 i131.toInt i131 := own_I.shr (k := 7) e131 (by decide) (by decide)
  refine own_ishr X0 e131 at_24 (pc' := 25) rfl ?_
  obtain ⟨j132, e132⟩ : ∃ v, i131.toInt64 = v := ⟨_, rfl⟩
  have f132 : own_L 16777216 i131.toInt j132 := own_L.ofI f131 e132
  refine own_i2l X0 e132 at_25 (pc' := 26) rfl ?_
  refine own_lstore X0 (Ls' := #[.val (.int p0), .val (.int p1), .val (.int p2), .val (.int p3), .val (.int p4), .val (.int p5), .val (.long j126), .second, .val (.long j128), .second, .val (.long j130), .second, .val (.long j132), .second, .unset, .unset, .unset, .unset, .unset, .unset, .unset, .unset, .unset, .unset, .unset, .unset, .unset, .unset, .unset, .unset, .unset, .unset]) rfl at_26 (pc' := 28) rfl ?_
  refine own_iload X0 rfl at_28 (pc' := 30) rfl ?_
  refine own_bipush X0 (v := (7 : Int32)) (by decide) at_30 (pc' := 32) rfl ?_
  obtain ⟨i133, e133⟩ : ∃ v, p4 >>> ((7 : Int32) &&& 31) = v := ⟨_, rfl⟩
  have f133 : own_I 16777216 i133.toInt i133 := own_I.shr (k := 7) e133 (by decide) (by decide)
  refine own_ishr X0 e133 at_32 (pc' := 33) rfl ?_
  obtain ⟨j134, e134⟩ : ∃ v, i133.toInt64 = v := ⟨_, rfl⟩
  have f134 : own_L 16777216 i133.toInt j134 := own_L.ofI f133 e134
  refine own_i2l X0 e134 at_33 (pc' := 34) rfl ?_
  refine own_lstore X0 (Ls' := #[.val (.int p0), .val (.int p1), .val (.int p2), .val (.int p3), .val (.int p4), .val (.int p5), .val (.long j126), .second, .val (.long j128), .second, .val (.long j130), .second, .val (.long j132), .second, .val (.long j134), .second, .unset, .unset, .unset, .unset, .unset, .unset, .unset, .unset, .unset, .unset, .unset, .unset, .unset, .unset, .unset, .unset]) rfl at_34 (pc' := 36) rfl ?_
  refine own_iload X0 rfl at_36 (pc' := 38) rfl ?_
  refine own_iconst X0 (v := (3 : Int32)) (by decide) at_38 (pc' := 39) rfl ?_
  obtain ⟨i135, e135⟩ : ∃ v, p5 &&& (3 : Int32) = v := ⟨_, rfl⟩
  have f135 : own_I 3 i135.toInt i135 := own_I.and e135 (by decide)
  have nn135 := own_and_nn (M := 3) e135 (by decide)
  refine own_iand X0 e135 at_39 (pc' := 40) rfl ?_
  rcases own_cases4 nn135 with rfl | rfl | rfl | rfl
  · -- 0
    refine own_iconst X0 (v := (1 : Int32)) (by decide) at_40 (pc' := 41) rfl ?_
    refine own_iadd X0 (v := (1 : Int32)) (by decide) at_41 (pc' := 42) rfl ?_
    refine own_istore X0 (Ls' := #[.val (.int p0), .val (.int p1), .val (.int p2), .val (.int p3), .val (.int p4), .val (.int p5), .val (.long j126), .second, .val (.long j128), .second, .val (.long j130), .second, .val (.long j132), .second, .val (.long j134), .second, .val (.int (1 : Int32)), .unset, .unset, .unset, .unset, .unset, .unset, .unset, .unset, .unset, .unset, .unset, .unset, .unset, .unset, .unset]) rfl at_42 (pc' := 44) rfl ?_
    refine own_iload X0 rfl at_44 (pc' := 46) rfl ?_
    refine own_lload X0 rfl at_46 (pc' := 48) rfl ?_
    refine own_lload X0 rfl at_48 (pc' := 50) rfl ?_
    refine own_lload X0 rfl at_50 (pc' := 52) rfl ?_
    refine own_lload X0 rfl at_52 (pc' := 54) rfl ?_
    refine own_callS X0 (own_pick1 l Z a0 hw j126 i125.toInt j128 i127.toInt j130 i129.toInt j132 i131.toInt _ n0 X0.le f126 f128 f130 f132) (hw _ (List.mem_of_getElem? (i := 0) rfl)) (hw _ (List.mem_of_getElem? (i := 1) rfl)) (hw _ (List.mem_of_getElem? (i := 2) rfl)) (hw _ (List.mem_of_getElem? (i := 3) rfl)) (by decide) rfl (by decide) (W := 0) (by decide) (by decide) (cells' := 1) (slots' := 1) rfl rfl (by decide) (by decide) (argsL := [(.int (1 : Int32)), (.long j126), (.long j128), (.long j130), (.long j132)]) (rest := []) (lenOf own_pd0 rfl) rfl rfl at_54 (pc' := 57) rfl ?_
    rintro _ T136 h136 X136 ⟨b136, r136_0, rfl, V136, fr136_0⟩
    show own_Goal p e below _ T136 (mkF m 57 #[.val (.int p0), .val (.int p1), .val (.int p2), .val (.int p3), .val (.int p4), .val (.int p5), .val (.long j126), .second, .val (.long j128), .second, .val (.long j130), .second, .val (.long j132), .second, .val (.long j134), .second, .val (.int (1 : Int32)), .unset, .unset, .unset, .unset, .unset, .unset, .unset, .unset, .unset, .unset, .unset, .unset, .unset, .unset, .unset] [(.ref b136)])
    refine own_astore X136 (Ls' := #[.val (.int p0), .val (.int p1), .val (.int p2), .val (.int p3), .val (.int p4), .val (.int p5), .val (.long j126), .second, .val (.long j128), .second, .val (.long j130), .second, .val (.long j132), .second, .val (.long j134), .second, .val (.int (1 : Int32)), .val (.ref b136), .unset, .unset, .unset, .unset, .unset, .unset, .unset, .unset, .unset, .unset, .unset, .unset, .unset, .unset]) rfl rfl at_57 (pc' := 59) rfl ?_
    refine own_lload X136 rfl at_59 (pc' := 61) rfl ?_
    refine own_lload X136 rfl at_61 (pc' := 63) rfl ?_
    obtain ⟨j137, e137⟩ : ∃ v, j126 - j134 = v := ⟨_, rfl⟩
    have f137 : own_L 33554432 (i125.toInt - i133.toInt) j137 := f126.sub f134 e137 (by decide) (by decide)
    refine own_lsub X136 e137 at_63 (pc' := 64) rfl ?_
    refine own_lstore X136 (Ls' := #[.val (.int p0), .val (.int p1), .val (.int p2), .val (.int p3), .val (.int p4), .val (.int p5), .val (.long j126), .second, .val (.long j128), .second, .val (.long j130), .second, .val (.long j132), .second, .val (.long j134), .second, .val (.int (1 : Int32)), .val (.ref b136), .val (.long j137), .second, .unset, .unset, .unset, .unset, .unset, .unset, .unset, .unset, .unset, .unset, .unset, .unset]) rfl at_64 (pc' := 66) rfl ?_
    refine own_lload X136 rfl at_66 (pc' := 68) rfl ?_
    refine own_lload X136 rfl at_68 (pc' := 70) rfl ?_
    obtain ⟨j138, e138⟩ : ∃ v, j128 - j134 = v := ⟨_, rfl⟩
    have f138 : own_L 33554432 (i127.toInt - i133.toInt) j138 := f128.sub f134 e138 (by decide) (by decide)
    refine own_lsub X136 e138 at_70 (pc' := 71) rfl ?_
    refine own_lstore X136 (Ls' := #[.val (.int p0), .val (.int p1), .val (.int p2), .val (.int p3), .val (.int p4), .val (.int p5), .val (.long j126), .second, .val (.long j128), .second, .val (.long j130), .second, .val (.long j132), .second, .val (.long j134), .second, .val (.int (1 : Int32)), .val (.ref b136), .val (.long j137), .second, .val (.long j138), .second, .unset, .unset, .unset, .unset, .unset, .unset, .unset, .unset, .unset, .unset]) rfl at_71 (pc' := 73) rfl ?_
    refine own_lload X136 rfl at_73 (pc' := 75) rfl ?_
    refine own_lload X136 rfl at_75 (pc' := 77) rfl ?_
    obtain ⟨j139, e139⟩ : ∃ v, j130 - j134 = v := ⟨_, rfl⟩
    have f139 : own_L 33554432 (i129.toInt - i133.toInt) j139 := f130.sub f134 e139 (by decide) (by decide)
    refine own_lsub X136 e139 at_77 (pc' := 78) rfl ?_
    refine own_lstore X136 (Ls' := #[.val (.int p0), .val (.int p1), .val (.int p2), .val (.int p3), .val (.int p4), .val (.int p5), .val (.long j126), .second, .val (.long j128), .second, .val (.long j130), .second, .val (.long j132), .second, .val (.long j134), .second, .val (.int (1 : Int32)), .val (.ref b136), .val (.long j137), .second, .val (.long j138), .second, .val (.long j139), .second, .unset, .unset, .unset, .unset, .unset, .unset, .unset, .unset]) rfl at_78 (pc' := 80) rfl ?_
    refine own_lload X136 rfl at_80 (pc' := 82) rfl ?_
    refine own_lload X136 rfl at_82 (pc' := 84) rfl ?_
    obtain ⟨j140, e140⟩ : ∃ v, j132 - j134 = v := ⟨_, rfl⟩
    have f140 : own_L 33554432 (i131.toInt - i133.toInt) j140 := f132.sub f134 e140 (by decide) (by decide)
    refine own_lsub X136 e140 at_84 (pc' := 85) rfl ?_
    refine own_lstore X136 (Ls' := #[.val (.int p0), .val (.int p1), .val (.int p2), .val (.int p3), .val (.int p4), .val (.int p5), .val (.long j126), .second, .val (.long j128), .second, .val (.long j130), .second, .val (.long j132), .second, .val (.long j134), .second, .val (.int (1 : Int32)), .val (.ref b136), .val (.long j137), .second, .val (.long j138), .second, .val (.long j139), .second, .val (.long j140), .second, .unset, .unset, .unset, .unset, .unset, .unset]) rfl at_85 (pc' := 87) rfl ?_
    refine own_lload X136 rfl at_87 (pc' := 89) rfl ?_
    refine own_lload X136 rfl at_89 (pc' := 91) rfl ?_
    obtain ⟨j141, e141⟩ : ∃ v, j137 * j137 = v := ⟨_, rfl⟩
    have f141 : own_L 1125899906842624 ((i125.toInt - i133.toInt) * (i125.toInt - i133.toInt)) j141 := f137.mul f137 e141 (by decide) (by decide)
    refine own_lmul X136 e141 at_91 (pc' := 92) rfl ?_
    refine own_lstore X136 (Ls' := #[.val (.int p0), .val (.int p1), .val (.int p2), .val (.int p3), .val (.int p4), .val (.int p5), .val (.long j126), .second, .val (.long j128), .second, .val (.long j130), .second, .val (.long j132), .second, .val (.long j134), .second, .val (.int (1 : Int32)), .val (.ref b136), .val (.long j137), .second, .val (.long j138), .second, .val (.long j139), .second, .val (.long j140), .second, .val (.long j141), .second, .unset, .unset, .unset, .unset]) rfl at_92 (pc' := 94) rfl ?_
    refine own_iload X136 rfl at_94 (pc' := 96) rfl ?_
    refine own_iconst X136 (v := (2 : Int32)) (by decide) at_96 (pc' := 97) rfl ?_
    refine own_icmpT X136 (by decide) at_97 (pc' := 110) (by decide) (by decide) ?_
    refine own_iload X136 rfl at_110 (pc' := 112) rfl ?_
    refine own_iconst X136 (v := (3 : Int32)) (by decide) at_112 (pc' := 113) rfl ?_
    refine own_icmpT X136 (by decide) at_113 (pc' := 126) (by decide) (by decide) ?_
    refine own_iload X136 rfl at_126 (pc' := 128) rfl ?_
    refine own_iconst X136 (v := (4 : Int32)) (by decide) at_128 (pc' := 129) rfl ?_
    refine own_icmpT X136 (by decide) at_129 (pc' := 142) (by decide) (by decide) ?_
    refine own_lload X136 rfl at_142 (pc' := 144) rfl ?_
    obtain ⟨d142, e142⟩ : ∃ v, FP.l2d j141 = v := ⟨_, rfl⟩
    have f142 : own_D 0 1125899906842624 ((i125.toInt - i133.toInt) * (i125.toInt - i133.toInt)) d142 := own_D.l2d f141 e142 (by decide)
    refine own_l2d X136 e142 at_144 (pc' := 145) rfl ?_
    refine own_iload X136 rfl at_145 (pc' := 147) rfl ?_
    have f143 : own_I 1 (1 : Int) (1 : Int32) := own_I.lit (by decide) (by decide)
    obtain ⟨d144, e144⟩ : ∃ v, FP.i2d (1 : Int32) = v := ⟨_, rfl⟩
    have f144 : own_D 0 1 (1 : Int) d144 := own_D.i2d f143 e144
    refine own_i2d X136 e144 at_147 (pc' := 148) rfl ?_
    obtain ⟨d146, e146⟩ : ∃ v, FP.ddiv d142 d144 = v := ⟨_, rfl⟩
    have q146 := own_quot_nn f142 f144 (by decide) e146
    refine own_ddiv X136 e146 q146 at_148 (pc' := 149) rfl ?_
    refine own_dstore X136 (Ls' := #[.val (.int p0), .val (.int p1), .val (.int p2), .val (.int p3), .val (.int p4), .val (.int p5), .val (.long j126), .second, .val (.long j128), .second, .val (.long j130), .second, .val (.long j132), .second, .val (.long j134), .second, .val (.int (1 : Int32)), .val (.ref b136), .val (.long j137), .second, .val (.long j138), .second, .val (.long j139), .second, .val (.long j140), .second, .val (.long j141), .second, .val (.double d146), .second, .unset, .unset]) rfl at_149 (pc' := 151) rfl ?_
    refine own_aload X136 rfl rfl at_151 (pc' := 153) rfl ?_
    refine own_lload X136 rfl at_153 (pc' := 155) rfl ?_
    obtain ⟨d147, e147⟩ : ∃ v, FP.l2d j134 = v := ⟨_, rfl⟩
    have f147 : own_D 0 16777216 i133.toInt d147 := own_D.l2d f134 e147 (by decide)
    refine own_l2d X136 e147 at_155 (pc' := 156) rfl ?_
    refine own_callS X136 (own_ms1 l Z a0 hw b136 r136_0 i125.toInt d147 i133.toInt _ n0 X136.le V136 fr136_0 f147) (hw _ (List.mem_of_getElem? (i := 5) rfl)) (hw _ (List.mem_of_getElem? (i := 6) rfl)) (hw _ (List.mem_of_getElem? (i := 7) rfl)) (hw _ (List.mem_of_getElem? (i := 8) rfl)) (by decide) rfl (by decide) (W := 0) (by decide) (by decide) (cells' := 1) (slots' := 1) rfl rfl (by decide) (by decide) (argsL := [(.ref b136), (.double d147)]) (rest := []) (lenOf own_pd1 rfl) rfl rfl at_156 (pc' := 159) rfl ?_
    rintro _ T148 h148 X148 ⟨⟨r148, x148, z148, rfl, fx148, fz148, eq148⟩, e148⟩
    subst e148
    show own_Goal p e below _ T148 (mkF m 159 #[.val (.int p0), .val (.int p1), .val (.int p2), .val (.int p3), .val (.int p4), .val (.int p5), .val (.long j126), .second, .val (.long j128), .second, .val (.long j130), .second, .val (.long j132), .second, .val (.long j134), .second, .val (.int (1 : Int32)), .val (.ref b136), .val (.long j137), .second, .val (.long j138), .second, .val (.long j139), .second, .val (.long j140), .second, .val (.long j141), .second, .val (.double d146), .second, .unset, .unset] [(.double r148)])
    refine own_dstore X148 (Ls' := #[.val (.int p0), .val (.int p1), .val (.int p2), .val (.int p3), .val (.int p4), .val (.int p5), .val (.long j126), .second, .val (.long j128), .second, .val (.long j130), .second, .val (.long j132), .second, .val (.long j134), .second, .val (.int (1 : Int32)), .val (.ref b136), .val (.long j137), .second, .val (.long j138), .second, .val (.long j139), .second, .val (.long j140), .second, .val (.long j141), .second, .val (.double d146), .second, .val (.double r148), .second]) rfl at_159 (pc' := 161) rfl ?_
    refine own_dload X148 rfl at_161 (pc' := 163) rfl ?_
    refine own_dload X148 rfl at_163 (pc' := 165) rfl ?_
    have q149 := fx148.of_eq (show ((0 : Int) + ((i125.toInt - i133.toInt) * (i125.toInt - i133.toInt))) = ((i125.toInt - i133.toInt) * (i125.toInt - i133.toInt)) by grind)
    refine own_dcmp X148 (v := (0 : Int32)) (own_quot_cmp q149 fz148 f142 f144 (by decide) eq148 e146) at_165 (pc' := 166) rfl ?_
    refine own_ifF X148 (by decide) at_166 (pc' := 169) rfl ?_
    refine own_iconst X148 (v := (1 : Int32)) (by decide) at_169 (pc' := 170) rfl ?_
    refine own_goto X148 at_170 (pc' := 174) (by decide) (by decide) ?_
    exact own_retZ X148 (by decide) at_174 rfl (by decide) (by decide) rfl
  · -- 1
    refine own_iconst X0 (v := (1 : Int32)) (by decide) at_40 (pc' := 41) rfl ?_
    refine own_iadd X0 (v := (2 : Int32)) (by decide) at_41 (pc' := 42) rfl ?_
    refine own_istore X0 (Ls' := #[.val (.int p0), .val (.int p1), .val (.int p2), .val (.int p3), .val (.int p4), .val (.int p5), .val (.long j126), .second, .val (.long j128), .second, .val (.long j130), .second, .val (.long j132), .second, .val (.long j134), .second, .val (.int (2 : Int32)), .unset, .unset, .unset, .unset, .unset, .unset, .unset, .unset, .unset, .unset, .unset, .unset, .unset, .unset, .unset]) rfl at_42 (pc' := 44) rfl ?_
    refine own_iload X0 rfl at_44 (pc' := 46) rfl ?_
    refine own_lload X0 rfl at_46 (pc' := 48) rfl ?_
    refine own_lload X0 rfl at_48 (pc' := 50) rfl ?_
    refine own_lload X0 rfl at_50 (pc' := 52) rfl ?_
    refine own_lload X0 rfl at_52 (pc' := 54) rfl ?_
    refine own_callS X0 (own_pick2 l Z a0 hw j126 i125.toInt j128 i127.toInt j130 i129.toInt j132 i131.toInt _ n0 X0.le f126 f128 f130 f132) (hw _ (List.mem_of_getElem? (i := 0) rfl)) (hw _ (List.mem_of_getElem? (i := 1) rfl)) (hw _ (List.mem_of_getElem? (i := 2) rfl)) (hw _ (List.mem_of_getElem? (i := 3) rfl)) (by decide) rfl (by decide) (W := 0) (by decide) (by decide) (cells' := 1) (slots' := 2) rfl rfl (by decide) (by decide) (argsL := [(.int (2 : Int32)), (.long j126), (.long j128), (.long j130), (.long j132)]) (rest := []) (lenOf own_pd0 rfl) rfl rfl at_54 (pc' := 57) rfl ?_
    rintro _ T150 h150 X150 ⟨b150, r150_0, r150_1, rfl, V150, fr150_0, fr150_1⟩
    show own_Goal p e below _ T150 (mkF m 57 #[.val (.int p0), .val (.int p1), .val (.int p2), .val (.int p3), .val (.int p4), .val (.int p5), .val (.long j126), .second, .val (.long j128), .second, .val (.long j130), .second, .val (.long j132), .second, .val (.long j134), .second, .val (.int (2 : Int32)), .unset, .unset, .unset, .unset, .unset, .unset, .unset, .unset, .unset, .unset, .unset, .unset, .unset, .unset, .unset] [(.ref b150)])
    refine own_astore X150 (Ls' := #[.val (.int p0), .val (.int p1), .val (.int p2), .val (.int p3), .val (.int p4), .val (.int p5), .val (.long j126), .second, .val (.long j128), .second, .val (.long j130), .second, .val (.long j132), .second, .val (.long j134), .second, .val (.int (2 : Int32)), .val (.ref b150), .unset, .unset, .unset, .unset, .unset, .unset, .unset, .unset, .unset, .unset, .unset, .unset, .unset, .unset]) rfl rfl at_57 (pc' := 59) rfl ?_
    refine own_lload X150 rfl at_59 (pc' := 61) rfl ?_
    refine own_lload X150 rfl at_61 (pc' := 63) rfl ?_
    obtain ⟨j151, e151⟩ : ∃ v, j126 - j134 = v := ⟨_, rfl⟩
    have f151 : own_L 33554432 (i125.toInt - i133.toInt) j151 := f126.sub f134 e151 (by decide) (by decide)
    refine own_lsub X150 e151 at_63 (pc' := 64) rfl ?_
    refine own_lstore X150 (Ls' := #[.val (.int p0), .val (.int p1), .val (.int p2), .val (.int p3), .val (.int p4), .val (.int p5), .val (.long j126), .second, .val (.long j128), .second, .val (.long j130), .second, .val (.long j132), .second, .val (.long j134), .second, .val (.int (2 : Int32)), .val (.ref b150), .val (.long j151), .second, .unset, .unset, .unset, .unset, .unset, .unset, .unset, .unset, .unset, .unset, .unset, .unset]) rfl at_64 (pc' := 66) rfl ?_
    refine own_lload X150 rfl at_66 (pc' := 68) rfl ?_
    refine own_lload X150 rfl at_68 (pc' := 70) rfl ?_
    obtain ⟨j152, e152⟩ : ∃ v, j128 - j134 = v := ⟨_, rfl⟩
    have f152 : own_L 33554432 (i127.toInt - i133.toInt) j152 := f128.sub f134 e152 (by decide) (by decide)
    refine own_lsub X150 e152 at_70 (pc' := 71) rfl ?_
    refine own_lstore X150 (Ls' := #[.val (.int p0), .val (.int p1), .val (.int p2), .val (.int p3), .val (.int p4), .val (.int p5), .val (.long j126), .second, .val (.long j128), .second, .val (.long j130), .second, .val (.long j132), .second, .val (.long j134), .second, .val (.int (2 : Int32)), .val (.ref b150), .val (.long j151), .second, .val (.long j152), .second, .unset, .unset, .unset, .unset, .unset, .unset, .unset, .unset, .unset, .unset]) rfl at_71 (pc' := 73) rfl ?_
    refine own_lload X150 rfl at_73 (pc' := 75) rfl ?_
    refine own_lload X150 rfl at_75 (pc' := 77) rfl ?_
    obtain ⟨j153, e153⟩ : ∃ v, j130 - j134 = v := ⟨_, rfl⟩
    have f153 : own_L 33554432 (i129.toInt - i133.toInt) j153 := f130.sub f134 e153 (by decide) (by decide)
    refine own_lsub X150 e153 at_77 (pc' := 78) rfl ?_
    refine own_lstore X150 (Ls' := #[.val (.int p0), .val (.int p1), .val (.int p2), .val (.int p3), .val (.int p4), .val (.int p5), .val (.long j126), .second, .val (.long j128), .second, .val (.long j130), .second, .val (.long j132), .second, .val (.long j134), .second, .val (.int (2 : Int32)), .val (.ref b150), .val (.long j151), .second, .val (.long j152), .second, .val (.long j153), .second, .unset, .unset, .unset, .unset, .unset, .unset, .unset, .unset]) rfl at_78 (pc' := 80) rfl ?_
    refine own_lload X150 rfl at_80 (pc' := 82) rfl ?_
    refine own_lload X150 rfl at_82 (pc' := 84) rfl ?_
    obtain ⟨j154, e154⟩ : ∃ v, j132 - j134 = v := ⟨_, rfl⟩
    have f154 : own_L 33554432 (i131.toInt - i133.toInt) j154 := f132.sub f134 e154 (by decide) (by decide)
    refine own_lsub X150 e154 at_84 (pc' := 85) rfl ?_
    refine own_lstore X150 (Ls' := #[.val (.int p0), .val (.int p1), .val (.int p2), .val (.int p3), .val (.int p4), .val (.int p5), .val (.long j126), .second, .val (.long j128), .second, .val (.long j130), .second, .val (.long j132), .second, .val (.long j134), .second, .val (.int (2 : Int32)), .val (.ref b150), .val (.long j151), .second, .val (.long j152), .second, .val (.long j153), .second, .val (.long j154), .second, .unset, .unset, .unset, .unset, .unset, .unset]) rfl at_85 (pc' := 87) rfl ?_
    refine own_lload X150 rfl at_87 (pc' := 89) rfl ?_
    refine own_lload X150 rfl at_89 (pc' := 91) rfl ?_
    obtain ⟨j155, e155⟩ : ∃ v, j151 * j151 = v := ⟨_, rfl⟩
    have f155 : own_L 1125899906842624 ((i125.toInt - i133.toInt) * (i125.toInt - i133.toInt)) j155 := f151.mul f151 e155 (by decide) (by decide)
    refine own_lmul X150 e155 at_91 (pc' := 92) rfl ?_
    refine own_lstore X150 (Ls' := #[.val (.int p0), .val (.int p1), .val (.int p2), .val (.int p3), .val (.int p4), .val (.int p5), .val (.long j126), .second, .val (.long j128), .second, .val (.long j130), .second, .val (.long j132), .second, .val (.long j134), .second, .val (.int (2 : Int32)), .val (.ref b150), .val (.long j151), .second, .val (.long j152), .second, .val (.long j153), .second, .val (.long j154), .second, .val (.long j155), .second, .unset, .unset, .unset, .unset]) rfl at_92 (pc' := 94) rfl ?_
    refine own_iload X150 rfl at_94 (pc' := 96) rfl ?_
    refine own_iconst X150 (v := (2 : Int32)) (by decide) at_96 (pc' := 97) rfl ?_
    refine own_icmpF X150 (by decide) at_97 (pc' := 100) rfl ?_
    refine own_lload X150 rfl at_100 (pc' := 102) rfl ?_
    refine own_lload X150 rfl at_102 (pc' := 104) rfl ?_
    refine own_lload X150 rfl at_104 (pc' := 106) rfl ?_
    obtain ⟨j156, e156⟩ : ∃ v, j152 * j152 = v := ⟨_, rfl⟩
    have f156 : own_L 1125899906842624 ((i127.toInt - i133.toInt) * (i127.toInt - i133.toInt)) j156 := f152.mul f152 e156 (by decide) (by decide)
    refine own_lmul X150 e156 at_106 (pc' := 107) rfl ?_
    obtain ⟨j157, e157⟩ : ∃ v, j155 + j156 = v := ⟨_, rfl⟩
    have f157 : own_L 2251799813685248 (((i125.toInt - i133.toInt) * (i125.toInt - i133.toInt)) + ((i127.toInt - i133.toInt) * (i127.toInt - i133.toInt))) j157 := f155.add f156 e157 (by decide) (by decide)
    refine own_ladd X150 e157 at_107 (pc' := 108) rfl ?_
    refine own_lstore X150 (Ls' := #[.val (.int p0), .val (.int p1), .val (.int p2), .val (.int p3), .val (.int p4), .val (.int p5), .val (.long j126), .second, .val (.long j128), .second, .val (.long j130), .second, .val (.long j132), .second, .val (.long j134), .second, .val (.int (2 : Int32)), .val (.ref b150), .val (.long j151), .second, .val (.long j152), .second, .val (.long j153), .second, .val (.long j154), .second, .val (.long j157), .second, .unset, .unset, .unset, .unset]) rfl at_108 (pc' := 110) rfl ?_
    refine own_iload X150 rfl at_110 (pc' := 112) rfl ?_
    refine own_iconst X150 (v := (3 : Int32)) (by decide) at_112 (pc' := 113) rfl ?_
    refine own_icmpT X150 (by decide) at_113 (pc' := 126) (by decide) (by decide) ?_
    refine own_iload X150 rfl at_126 (pc' := 128) rfl ?_
    refine own_iconst X150 (v := (4 : Int32)) (by decide) at_128 (pc' := 129) rfl ?_
    refine own_icmpT X150 (by decide) at_129 (pc' := 142) (by decide) (by decide) ?_
    refine own_lload X150 rfl at_142 (pc' := 144) rfl ?_
    obtain ⟨d158, e158⟩ : ∃ v, FP.l2d j157 = v := ⟨_, rfl⟩
    have f158 : own_D 0 2251799813685248 (((i125.toInt - i133.toInt) * (i125.toInt - i133.toInt)) + ((i127.toInt - i133.toInt) * (i127.toInt - i133.toInt))) d158 := own_D.l2d f157 e158 (by decide)
    refine own_l2d X150 e158 at_144 (pc' := 145) rfl ?_
    refine own_iload X150 rfl at_145 (pc' := 147) rfl ?_
    have f159 : own_I 2 (2 : Int) (2 : Int32) := own_I.lit (by decide) (by decide)
    obtain ⟨d160, e160⟩ : ∃ v, FP.i2d (2 : Int32) = v := ⟨_, rfl⟩
    have f160 : own_D 0 2 (2 : Int) d160 := own_D.i2d f159 e160
    refine own_i2d X150 e160 at_147 (pc' := 148) rfl ?_
    obtain ⟨d162, e162⟩ : ∃ v, FP.ddiv d158 d160 = v := ⟨_, rfl⟩
    have q162 := own_quot_nn f158 f160 (by decide) e162
    refine own_ddiv X150 e162 q162 at_148 (pc' := 149) rfl ?_
    refine own_dstore X150 (Ls' := #[.val (.int p0), .val (.int p1), .val (.int p2), .val (.int p3), .val (.int p4), .val (.int p5), .val (.long j126), .second, .val (.long j128), .second, .val (.long j130), .second, .val (.long j132), .second, .val (.long j134), .second, .val (.int (2 : Int32)), .val (.ref b150), .val (.long j151), .second, .val (.long j152), .second, .val (.long j153), .second, .val (.long j154), .second, .val (.long j157), .second, .val (.double d162), .second, .unset, .unset]) rfl at_149 (pc' := 151) rfl ?_
    refine own_aload X150 rfl rfl at_151 (pc' := 153) rfl ?_
    refine own_lload X150 rfl at_153 (pc' := 155) rfl ?_
    obtain ⟨d163, e163⟩ : ∃ v, FP.l2d j134 = v := ⟨_, rfl⟩
    have f163 : own_D 0 16777216 i133.toInt d163 := own_D.l2d f134 e163 (by decide)
    refine own_l2d X150 e163 at_155 (pc' := 156) rfl ?_
    refine own_callS X150 (own_ms2 l Z a0 hw b150 r150_0 i125.toInt r150_1 i127.toInt d163 i133.toInt _ n0 X150.le V150 fr150_0 fr150_1 f163) (hw _ (List.mem_of_getElem? (i := 5) rfl)) (hw _ (List.mem_of_getElem? (i := 6) rfl)) (hw _ (List.mem_of_getElem? (i := 7) rfl)) (hw _ (List.mem_of_getElem? (i := 8) rfl)) (by decide) rfl (by decide) (W := 0) (by decide) (by decide) (cells' := 1) (slots' := 2) rfl rfl (by decide) (by decide) (argsL := [(.ref b150), (.double d163)]) (rest := []) (lenOf own_pd1 rfl) rfl rfl at_156 (pc' := 159) rfl ?_
    rintro _ T164 h164 X164 ⟨⟨r164, x164, z164, rfl, fx164, fz164, eq164⟩, e164⟩
    subst e164
    show own_Goal p e below _ T164 (mkF m 159 #[.val (.int p0), .val (.int p1), .val (.int p2), .val (.int p3), .val (.int p4), .val (.int p5), .val (.long j126), .second, .val (.long j128), .second, .val (.long j130), .second, .val (.long j132), .second, .val (.long j134), .second, .val (.int (2 : Int32)), .val (.ref b150), .val (.long j151), .second, .val (.long j152), .second, .val (.long j153), .second, .val (.long j154), .second, .val (.long j157), .second, .val (.double d162), .second, .unset, .unset] [(.double r164)])
    refine own_dstore X164 (Ls' := #[.val (.int p0), .val (.int p1), .val (.int p2), .val (.int p3), .val (.int p4), .val (.int p5), .val (.long j126), .second, .val (.long j128), .second, .val (.long j130), .second, .val (.long j132), .second, .val (.long j134), .second, .val (.int (2 : Int32)), .val (.ref b150), .val (.long j151), .second, .val (.long j152), .second, .val (.long j153), .second, .val (.long j154), .second, .val (.long j157), .second, .val (.double d162), .second, .val (.double r164), .second]) rfl at_159 (pc' := 161) rfl ?_
    refine own_dload X164 rfl at_161 (pc' := 163) rfl ?_
    refine own_dload X164 rfl at_163 (pc' := 165) rfl ?_
    have q165 := fx164.of_eq (show (((0 : Int) + ((i125.toInt - i133.toInt) * (i125.toInt - i133.toInt))) + ((i127.toInt - i133.toInt) * (i127.toInt - i133.toInt))) = (((i125.toInt - i133.toInt) * (i125.toInt - i133.toInt)) + ((i127.toInt - i133.toInt) * (i127.toInt - i133.toInt))) by grind)
    refine own_dcmp X164 (v := (0 : Int32)) (own_quot_cmp q165 fz164 f158 f160 (by decide) eq164 e162) at_165 (pc' := 166) rfl ?_
    refine own_ifF X164 (by decide) at_166 (pc' := 169) rfl ?_
    refine own_iconst X164 (v := (1 : Int32)) (by decide) at_169 (pc' := 170) rfl ?_
    refine own_goto X164 at_170 (pc' := 174) (by decide) (by decide) ?_
    exact own_retZ X164 (by decide) at_174 rfl (by decide) (by decide) rfl
  · -- 2
    refine own_iconst X0 (v := (1 : Int32)) (by decide) at_40 (pc' := 41) rfl ?_
    refine own_iadd X0 (v := (3 : Int32)) (by decide) at_41 (pc' := 42) rfl ?_
    refine own_istore X0 (Ls' := #[.val (.int p0), .val (.int p1), .val (.int p2), .val (.int p3), .val (.int p4), .val (.int p5), .val (.long j126), .second, .val (.long j128), .second, .val (.long j130), .second, .val (.long j132), .second, .val (.long j134), .second, .val (.int (3 : Int32)), .unset, .unset, .unset, .unset, .unset, .unset, .unset, .unset, .unset, .unset, .unset, .unset, .unset, .unset, .unset]) rfl at_42 (pc' := 44) rfl ?_
    refine own_iload X0 rfl at_44 (pc' := 46) rfl ?_
    refine own_lload X0 rfl at_46 (pc' := 48) rfl ?_
    refine own_lload X0 rfl at_48 (pc' := 50) rfl ?_
    refine own_lload X0 rfl at_50 (pc' := 52) rfl ?_
    refine own_lload X0 rfl at_52 (pc' := 54) rfl ?_
    refine own_callS X0 (own_pick3 l Z a0 hw j126 i125.toInt j128 i127.toInt j130 i129.toInt j132 i131.toInt _ n0 X0.le f126 f128 f130 f132) (hw _ (List.mem_of_getElem? (i := 0) rfl)) (hw _ (List.mem_of_getElem? (i := 1) rfl)) (hw _ (List.mem_of_getElem? (i := 2) rfl)) (hw _ (List.mem_of_getElem? (i := 3) rfl)) (by decide) rfl (by decide) (W := 0) (by decide) (by decide) (cells' := 1) (slots' := 3) rfl rfl (by decide) (by decide) (argsL := [(.int (3 : Int32)), (.long j126), (.long j128), (.long j130), (.long j132)]) (rest := []) (lenOf own_pd0 rfl) rfl rfl at_54 (pc' := 57) rfl ?_
    rintro _ T166 h166 X166 ⟨b166, r166_0, r166_1, r166_2, rfl, V166, fr166_0, fr166_1, fr166_2⟩
    show own_Goal p e below _ T166 (mkF m 57 #[.val (.int p0), .val (.int p1), .val (.int p2), .val (.int p3), .val (.int p4), .val (.int p5), .val (.long j126), .second, .val (.long j128), .second, .val (.long j130), .second, .val (.long j132), .second, .val (.long j134), .second, .val (.int (3 : Int32)), .unset, .unset, .unset, .unset, .unset, .unset, .unset, .unset, .unset, .unset, .unset, .unset, .unset, .unset, .unset] [(.ref b166)])
    refine own_astore X166 (Ls' := #[.val (.int p0), .val (.int p1), .val (.int p2), .val (.int p3), .val (.int p4), .val (.int p5), .val (.long j126), .second, .val (.long j128), .second, .val (.long j130), .second, .val (.long j132), .second, .val (.long j134), .second, .val (.int (3 : Int32)), .val (.ref b166), .unset, .unset, .unset, .unset, .unset, .unset, .unset, .unset, .unset, .unset, .unset, .unset, .unset, .unset]) rfl rfl at_57 (pc' := 59) rfl ?_
    refine own_lload X166 rfl at_59 (pc' := 61) rfl ?_
    refine own_lload X166 rfl at_61 (pc' := 63) rfl ?_
    obtain ⟨j167, e167⟩ : ∃ v, j126 - j134 = v := ⟨_, rfl⟩
    have f167 : own_L 33554432 (i125.toInt - i133.toInt) j167 := f126.sub f134 e167 (by decide) (by decide)
    refine own_lsub X166 e167 at_63 (pc' := 64) rfl ?_
    refine own_lstore X166 (Ls' := #[.val (.int p0), .val (.int p1), .val (.int p2), .val (.int p3), .val (.int p4), .val (.int p5), .val (.long j126), .second, .val (.long j128), .second, .val (.long j130), .second, .val (.long j132), .second, .val (.long j134), .second, .val (.int (3 : Int32)), .val (.ref b166), .val (.long j167), .second, .unset, .unset, .unset, .unset, .unset, .unset, .unset, .unset, .unset, .unset, .unset, .unset]) rfl at_64 (pc' := 66) rfl ?_
    refine own_lload X166 rfl at_66 (pc' := 68) rfl ?_
    refine own_lload X166 rfl at_68 (pc' := 70) rfl ?_
    obtain ⟨j168, e168⟩ : ∃ v, j128 - j134 = v := ⟨_, rfl⟩
    have f168 : own_L 33554432 (i127.toInt - i133.toInt) j168 := f128.sub f134 e168 (by decide) (by decide)
    refine own_lsub X166 e168 at_70 (pc' := 71) rfl ?_
    refine own_lstore X166 (Ls' := #[.val (.int p0), .val (.int p1), .val (.int p2), .val (.int p3), .val (.int p4), .val (.int p5), .val (.long j126), .second, .val (.long j128), .second, .val (.long j130), .second, .val (.long j132), .second, .val (.long j134), .second, .val (.int (3 : Int32)), .val (.ref b166), .val (.long j167), .second, .val (.long j168), .second, .unset, .unset, .unset, .unset, .unset, .unset, .unset, .unset, .unset, .unset]) rfl at_71 (pc' := 73) rfl ?_
    refine own_lload X166 rfl at_73 (pc' := 75) rfl ?_
    refine own_lload X166 rfl at_75 (pc' := 77) rfl ?_
    obtain ⟨j169, e169⟩ : ∃ v, j130 - j134 = v := ⟨_, rfl⟩
    have f169 : own_L 33554432 (i129.toInt - i133.toInt) j169 := f130.sub f134 e169 (by decide) (by decide)
    refine own_lsub X166 e169 at_77 (pc' := 78) rfl ?_
    refine own_lstore X166 (Ls' := #[.val (.int p0), .val (.int p1), .val (.int p2), .val (.int p3), .val (.int p4), .val (.int p5), .val (.long j126), .second, .val (.long j128), .second, .val (.long j130), .second, .val (.long j132), .second, .val (.long j134), .second, .val (.int (3 : Int32)), .val (.ref b166), .val (.long j167), .second, .val (.long j168), .second, .val (.long j169), .second, .unset, .unset, .unset, .unset, .unset, .unset, .unset, .unset]) rfl at_78 (pc' := 80) rfl ?_
    refine own_lload X166 rfl at_80 (pc' := 82) rfl ?_
    refine own_lload X166 rfl at_82 (pc' := 84) rfl ?_
    obtain ⟨j170, e170⟩ : ∃ v, j132 - j134 = v := ⟨_, rfl⟩
    have f170 : own_L 33554432 (i131.toInt - i133.toInt) j170 := f132.sub f134 e170 (by decide) (by decide)
    refine own_lsub X166 e170 at_84 (pc' := 85) rfl ?_
    refine own_lstore X166 (Ls' := #[.val (.int p0), .val (.int p1), .val (.int p2), .val (.int p3), .val (.int p4), .val (.int p5), .val (.long j126), .second, .val (.long j128), .second, .val (.long j130), .second, .val (.long j132), .second, .val (.long j134), .second, .val (.int (3 : Int32)), .val (.ref b166), .val (.long j167), .second, .val (.long j168), .second, .val (.long j169), .second, .val (.long j170), .second, .unset, .unset, .unset, .unset, .unset, .unset]) rfl at_85 (pc' := 87) rfl ?_
    refine own_lload X166 rfl at_87 (pc' := 89) rfl ?_
    refine own_lload X166 rfl at_89 (pc' := 91) rfl ?_
    obtain ⟨j171, e171⟩ : ∃ v, j167 * j167 = v := ⟨_, rfl⟩
    have f171 : own_L 1125899906842624 ((i125.toInt - i133.toInt) * (i125.toInt - i133.toInt)) j171 := f167.mul f167 e171 (by decide) (by decide)
    refine own_lmul X166 e171 at_91 (pc' := 92) rfl ?_
    refine own_lstore X166 (Ls' := #[.val (.int p0), .val (.int p1), .val (.int p2), .val (.int p3), .val (.int p4), .val (.int p5), .val (.long j126), .second, .val (.long j128), .second, .val (.long j130), .second, .val (.long j132), .second, .val (.long j134), .second, .val (.int (3 : Int32)), .val (.ref b166), .val (.long j167), .second, .val (.long j168), .second, .val (.long j169), .second, .val (.long j170), .second, .val (.long j171), .second, .unset, .unset, .unset, .unset]) rfl at_92 (pc' := 94) rfl ?_
    refine own_iload X166 rfl at_94 (pc' := 96) rfl ?_
    refine own_iconst X166 (v := (2 : Int32)) (by decide) at_96 (pc' := 97) rfl ?_
    refine own_icmpF X166 (by decide) at_97 (pc' := 100) rfl ?_
    refine own_lload X166 rfl at_100 (pc' := 102) rfl ?_
    refine own_lload X166 rfl at_102 (pc' := 104) rfl ?_
    refine own_lload X166 rfl at_104 (pc' := 106) rfl ?_
    obtain ⟨j172, e172⟩ : ∃ v, j168 * j168 = v := ⟨_, rfl⟩
    have f172 : own_L 1125899906842624 ((i127.toInt - i133.toInt) * (i127.toInt - i133.toInt)) j172 := f168.mul f168 e172 (by decide) (by decide)
    refine own_lmul X166 e172 at_106 (pc' := 107) rfl ?_
    obtain ⟨j173, e173⟩ : ∃ v, j171 + j172 = v := ⟨_, rfl⟩
    have f173 : own_L 2251799813685248 (((i125.toInt - i133.toInt) * (i125.toInt - i133.toInt)) + ((i127.toInt - i133.toInt) * (i127.toInt - i133.toInt))) j173 := f171.add f172 e173 (by decide) (by decide)
    refine own_ladd X166 e173 at_107 (pc' := 108) rfl ?_
    refine own_lstore X166 (Ls' := #[.val (.int p0), .val (.int p1), .val (.int p2), .val (.int p3), .val (.int p4), .val (.int p5), .val (.long j126), .second, .val (.long j128), .second, .val (.long j130), .second, .val (.long j132), .second, .val (.long j134), .second, .val (.int (3 : Int32)), .val (.ref b166), .val (.long j167), .second, .val (.long j168), .second, .val (.long j169), .second, .val (.long j170), .second, .val (.long j173), .second, .unset, .unset, .unset, .unset]) rfl at_108 (pc' := 110) rfl ?_
    refine own_iload X166 rfl at_110 (pc' := 112) rfl ?_
    refine own_iconst X166 (v := (3 : Int32)) (by decide) at_112 (pc' := 113) rfl ?_
    refine own_icmpF X166 (by decide) at_113 (pc' := 116) rfl ?_
    refine own_lload X166 rfl at_116 (pc' := 118) rfl ?_
    refine own_lload X166 rfl at_118 (pc' := 120) rfl ?_
    refine own_lload X166 rfl at_120 (pc' := 122) rfl ?_
    obtain ⟨j174, e174⟩ : ∃ v, j169 * j169 = v := ⟨_, rfl⟩
    have f174 : own_L 1125899906842624 ((i129.toInt - i133.toInt) * (i129.toInt - i133.toInt)) j174 := f169.mul f169 e174 (by decide) (by decide)
    refine own_lmul X166 e174 at_122 (pc' := 123) rfl ?_
    obtain ⟨j175, e175⟩ : ∃ v, j173 + j174 = v := ⟨_, rfl⟩
    have f175 : own_L 3377699720527872 ((((i125.toInt - i133.toInt) * (i125.toInt - i133.toInt)) + ((i127.toInt - i133.toInt) * (i127.toInt - i133.toInt))) + ((i129.toInt - i133.toInt) * (i129.toInt - i133.toInt))) j175 := f173.add f174 e175 (by decide) (by decide)
    refine own_ladd X166 e175 at_123 (pc' := 124) rfl ?_
    refine own_lstore X166 (Ls' := #[.val (.int p0), .val (.int p1), .val (.int p2), .val (.int p3), .val (.int p4), .val (.int p5), .val (.long j126), .second, .val (.long j128), .second, .val (.long j130), .second, .val (.long j132), .second, .val (.long j134), .second, .val (.int (3 : Int32)), .val (.ref b166), .val (.long j167), .second, .val (.long j168), .second, .val (.long j169), .second, .val (.long j170), .second, .val (.long j175), .second, .unset, .unset, .unset, .unset]) rfl at_124 (pc' := 126) rfl ?_
    refine own_iload X166 rfl at_126 (pc' := 128) rfl ?_
    refine own_iconst X166 (v := (4 : Int32)) (by decide) at_128 (pc' := 129) rfl ?_
    refine own_icmpT X166 (by decide) at_129 (pc' := 142) (by decide) (by decide) ?_
    refine own_lload X166 rfl at_142 (pc' := 144) rfl ?_
    obtain ⟨d176, e176⟩ : ∃ v, FP.l2d j175 = v := ⟨_, rfl⟩
    have f176 : own_D 0 3377699720527872 ((((i125.toInt - i133.toInt) * (i125.toInt - i133.toInt)) + ((i127.toInt - i133.toInt) * (i127.toInt - i133.toInt))) + ((i129.toInt - i133.toInt) * (i129.toInt - i133.toInt))) d176 := own_D.l2d f175 e176 (by decide)
    refine own_l2d X166 e176 at_144 (pc' := 145) rfl ?_
    refine own_iload X166 rfl at_145 (pc' := 147) rfl ?_
    have f177 : own_I 3 (3 : Int) (3 : Int32) := own_I.lit (by decide) (by decide)
    obtain ⟨d178, e178⟩ : ∃ v, FP.i2d (3 : Int32) = v := ⟨_, rfl⟩
    have f178 : own_D 0 3 (3 : Int) d178 := own_D.i2d f177 e178
    refine own_i2d X166 e178 at_147 (pc' := 148) rfl ?_
    obtain ⟨d180, e180⟩ : ∃ v, FP.ddiv d176 d178 = v := ⟨_, rfl⟩
    have q180 := own_quot_nn f176 f178 (by decide) e180
    refine own_ddiv X166 e180 q180 at_148 (pc' := 149) rfl ?_
    refine own_dstore X166 (Ls' := #[.val (.int p0), .val (.int p1), .val (.int p2), .val (.int p3), .val (.int p4), .val (.int p5), .val (.long j126), .second, .val (.long j128), .second, .val (.long j130), .second, .val (.long j132), .second, .val (.long j134), .second, .val (.int (3 : Int32)), .val (.ref b166), .val (.long j167), .second, .val (.long j168), .second, .val (.long j169), .second, .val (.long j170), .second, .val (.long j175), .second, .val (.double d180), .second, .unset, .unset]) rfl at_149 (pc' := 151) rfl ?_
    refine own_aload X166 rfl rfl at_151 (pc' := 153) rfl ?_
    refine own_lload X166 rfl at_153 (pc' := 155) rfl ?_
    obtain ⟨d181, e181⟩ : ∃ v, FP.l2d j134 = v := ⟨_, rfl⟩
    have f181 : own_D 0 16777216 i133.toInt d181 := own_D.l2d f134 e181 (by decide)
    refine own_l2d X166 e181 at_155 (pc' := 156) rfl ?_
    refine own_callS X166 (own_ms3 l Z a0 hw b166 r166_0 i125.toInt r166_1 i127.toInt r166_2 i129.toInt d181 i133.toInt _ n0 X166.le V166 fr166_0 fr166_1 fr166_2 f181) (hw _ (List.mem_of_getElem? (i := 5) rfl)) (hw _ (List.mem_of_getElem? (i := 6) rfl)) (hw _ (List.mem_of_getElem? (i := 7) rfl)) (hw _ (List.mem_of_getElem? (i := 8) rfl)) (by decide) rfl (by decide) (W := 0) (by decide) (by decide) (cells' := 1) (slots' := 3) rfl rfl (by decide) (by decide) (argsL := [(.ref b166), (.double d181)]) (rest := []) (lenOf own_pd1 rfl) rfl rfl at_156 (pc' := 159) rfl ?_
    rintro _ T182 h182 X182 ⟨⟨r182, x182, z182, rfl, fx182, fz182, eq182⟩, e182⟩
    subst e182
    show own_Goal p e below _ T182 (mkF m 159 #[.val (.int p0), .val (.int p1), .val (.int p2), .val (.int p3), .val (.int p4), .val (.int p5), .val (.long j126), .second, .val (.long j128), .second, .val (.long j130), .second, .val (.long j132), .second, .val (.long j134), .second, .val (.int (3 : Int32)), .val (.ref b166), .val (.long j167), .second, .val (.long j168), .second, .val (.long j169), .second, .val (.long j170), .second, .val (.long j175), .second, .val (.double d180), .second, .unset, .unset] [(.double r182)])
    refine own_dstore X182 (Ls' := #[.val (.int p0), .val (.int p1), .val (.int p2), .val (.int p3), .val (.int p4), .val (.int p5), .val (.long j126), .second, .val (.long j128), .second, .val (.long j130), .second, .val (.long j132), .second, .val (.long j134), .second, .val (.int (3 : Int32)), .val (.ref b166), .val (.long j167), .second, .val (.long j168), .second, .val (.long j169), .second, .val (.long j170), .second, .val (.long j175), .second, .val (.double d180), .second, .val (.double r182), .second]) rfl at_159 (pc' := 161) rfl ?_
    refine own_dload X182 rfl at_161 (pc' := 163) rfl ?_
    refine own_dload X182 rfl at_163 (pc' := 165) rfl ?_
    have q183 := fx182.of_eq (show ((((0 : Int) + ((i125.toInt - i133.toInt) * (i125.toInt - i133.toInt))) + ((i127.toInt - i133.toInt) * (i127.toInt - i133.toInt))) + ((i129.toInt - i133.toInt) * (i129.toInt - i133.toInt))) = ((((i125.toInt - i133.toInt) * (i125.toInt - i133.toInt)) + ((i127.toInt - i133.toInt) * (i127.toInt - i133.toInt))) + ((i129.toInt - i133.toInt) * (i129.toInt - i133.toInt))) by grind)
    refine own_dcmp X182 (v := (0 : Int32)) (own_quot_cmp q183 fz182 f176 f178 (by decide) eq182 e180) at_165 (pc' := 166) rfl ?_
    refine own_ifF X182 (by decide) at_166 (pc' := 169) rfl ?_
    refine own_iconst X182 (v := (1 : Int32)) (by decide) at_169 (pc' := 170) rfl ?_
    refine own_goto X182 at_170 (pc' := 174) (by decide) (by decide) ?_
    exact own_retZ X182 (by decide) at_174 rfl (by decide) (by decide) rfl
  · -- 3
    refine own_iconst X0 (v := (1 : Int32)) (by decide) at_40 (pc' := 41) rfl ?_
    refine own_iadd X0 (v := (4 : Int32)) (by decide) at_41 (pc' := 42) rfl ?_
    refine own_istore X0 (Ls' := #[.val (.int p0), .val (.int p1), .val (.int p2), .val (.int p3), .val (.int p4), .val (.int p5), .val (.long j126), .second, .val (.long j128), .second, .val (.long j130), .second, .val (.long j132), .second, .val (.long j134), .second, .val (.int (4 : Int32)), .unset, .unset, .unset, .unset, .unset, .unset, .unset, .unset, .unset, .unset, .unset, .unset, .unset, .unset, .unset]) rfl at_42 (pc' := 44) rfl ?_
    refine own_iload X0 rfl at_44 (pc' := 46) rfl ?_
    refine own_lload X0 rfl at_46 (pc' := 48) rfl ?_
    refine own_lload X0 rfl at_48 (pc' := 50) rfl ?_
    refine own_lload X0 rfl at_50 (pc' := 52) rfl ?_
    refine own_lload X0 rfl at_52 (pc' := 54) rfl ?_
    refine own_callS X0 (own_pick4 l Z a0 hw j126 i125.toInt j128 i127.toInt j130 i129.toInt j132 i131.toInt _ n0 X0.le f126 f128 f130 f132) (hw _ (List.mem_of_getElem? (i := 0) rfl)) (hw _ (List.mem_of_getElem? (i := 1) rfl)) (hw _ (List.mem_of_getElem? (i := 2) rfl)) (hw _ (List.mem_of_getElem? (i := 3) rfl)) (by decide) rfl (by decide) (W := 0) (by decide) (by decide) (cells' := 1) (slots' := 4) rfl rfl (by decide) (by decide) (argsL := [(.int (4 : Int32)), (.long j126), (.long j128), (.long j130), (.long j132)]) (rest := []) (lenOf own_pd0 rfl) rfl rfl at_54 (pc' := 57) rfl ?_
    rintro _ T184 h184 X184 ⟨b184, r184_0, r184_1, r184_2, r184_3, rfl, V184, fr184_0, fr184_1, fr184_2, fr184_3⟩
    show own_Goal p e below _ T184 (mkF m 57 #[.val (.int p0), .val (.int p1), .val (.int p2), .val (.int p3), .val (.int p4), .val (.int p5), .val (.long j126), .second, .val (.long j128), .second, .val (.long j130), .second, .val (.long j132), .second, .val (.long j134), .second, .val (.int (4 : Int32)), .unset, .unset, .unset, .unset, .unset, .unset, .unset, .unset, .unset, .unset, .unset, .unset, .unset, .unset, .unset] [(.ref b184)])
    refine own_astore X184 (Ls' := #[.val (.int p0), .val (.int p1), .val (.int p2), .val (.int p3), .val (.int p4), .val (.int p5), .val (.long j126), .second, .val (.long j128), .second, .val (.long j130), .second, .val (.long j132), .second, .val (.long j134), .second, .val (.int (4 : Int32)), .val (.ref b184), .unset, .unset, .unset, .unset, .unset, .unset, .unset, .unset, .unset, .unset, .unset, .unset, .unset, .unset]) rfl rfl at_57 (pc' := 59) rfl ?_
    refine own_lload X184 rfl at_59 (pc' := 61) rfl ?_
    refine own_lload X184 rfl at_61 (pc' := 63) rfl ?_
    obtain ⟨j185, e185⟩ : ∃ v, j126 - j134 = v := ⟨_, rfl⟩
    have f185 : own_L 33554432 (i125.toInt - i133.toInt) j185 := f126.sub f134 e185 (by decide) (by decide)
    refine own_lsub X184 e185 at_63 (pc' := 64) rfl ?_
    refine own_lstore X184 (Ls' := #[.val (.int p0), .val (.int p1), .val (.int p2), .val (.int p3), .val (.int p4), .val (.int p5), .val (.long j126), .second, .val (.long j128), .second, .val (.long j130), .second, .val (.long j132), .second, .val (.long j134), .second, .val (.int (4 : Int32)), .val (.ref b184), .val (.long j185), .second, .unset, .unset, .unset, .unset, .unset, .unset, .unset, .unset, .unset, .unset, .unset, .unset]) rfl at_64 (pc' := 66) rfl ?_
    refine own_lload X184 rfl at_66 (pc' := 68) rfl ?_
    refine own_lload X184 rfl at_68 (pc' := 70) rfl ?_
    obtain ⟨j186, e186⟩ : ∃ v, j128 - j134 = v := ⟨_, rfl⟩
    have f186 : own_L 33554432 (i127.toInt - i133.toInt) j186 := f128.sub f134 e186 (by decide) (by decide)
    refine own_lsub X184 e186 at_70 (pc' := 71) rfl ?_
    refine own_lstore X184 (Ls' := #[.val (.int p0), .val (.int p1), .val (.int p2), .val (.int p3), .val (.int p4), .val (.int p5), .val (.long j126), .second, .val (.long j128), .second, .val (.long j130), .second, .val (.long j132), .second, .val (.long j134), .second, .val (.int (4 : Int32)), .val (.ref b184), .val (.long j185), .second, .val (.long j186), .second, .unset, .unset, .unset, .unset, .unset, .unset, .unset, .unset, .unset, .unset]) rfl at_71 (pc' := 73) rfl ?_
    refine own_lload X184 rfl at_73 (pc' := 75) rfl ?_
    refine own_lload X184 rfl at_75 (pc' := 77) rfl ?_
    obtain ⟨j187, e187⟩ : ∃ v, j130 - j134 = v := ⟨_, rfl⟩
    have f187 : own_L 33554432 (i129.toInt - i133.toInt) j187 := f130.sub f134 e187 (by decide) (by decide)
    refine own_lsub X184 e187 at_77 (pc' := 78) rfl ?_
    refine own_lstore X184 (Ls' := #[.val (.int p0), .val (.int p1), .val (.int p2), .val (.int p3), .val (.int p4), .val (.int p5), .val (.long j126), .second, .val (.long j128), .second, .val (.long j130), .second, .val (.long j132), .second, .val (.long j134), .second, .val (.int (4 : Int32)), .val (.ref b184), .val (.long j185), .second, .val (.long j186), .second, .val (.long j187), .second, .unset, .unset, .unset, .unset, .unset, .unset, .unset, .unset]) rfl at_78 (pc' := 80) rfl ?_
    refine own_lload X184 rfl at_80 (pc' := 82) rfl ?_
    refine own_lload X184 rfl at_82 (pc' := 84) rfl ?_
    obtain ⟨j188, e188⟩ : ∃ v, j132 - j134 = v := ⟨_, rfl⟩
    have f188 : own_L 33554432 (i131.toInt - i133.toInt) j188 := f132.sub f134 e188 (by decide) (by decide)
    refine own_lsub X184 e188 at_84 (pc' := 85) rfl ?_
    refine own_lstore X184 (Ls' := #[.val (.int p0), .val (.int p1), .val (.int p2), .val (.int p3), .val (.int p4), .val (.int p5), .val (.long j126), .second, .val (.long j128), .second, .val (.long j130), .second, .val (.long j132), .second, .val (.long j134), .second, .val (.int (4 : Int32)), .val (.ref b184), .val (.long j185), .second, .val (.long j186), .second, .val (.long j187), .second, .val (.long j188), .second, .unset, .unset, .unset, .unset, .unset, .unset]) rfl at_85 (pc' := 87) rfl ?_
    refine own_lload X184 rfl at_87 (pc' := 89) rfl ?_
    refine own_lload X184 rfl at_89 (pc' := 91) rfl ?_
    obtain ⟨j189, e189⟩ : ∃ v, j185 * j185 = v := ⟨_, rfl⟩
    have f189 : own_L 1125899906842624 ((i125.toInt - i133.toInt) * (i125.toInt - i133.toInt)) j189 := f185.mul f185 e189 (by decide) (by decide)
    refine own_lmul X184 e189 at_91 (pc' := 92) rfl ?_
    refine own_lstore X184 (Ls' := #[.val (.int p0), .val (.int p1), .val (.int p2), .val (.int p3), .val (.int p4), .val (.int p5), .val (.long j126), .second, .val (.long j128), .second, .val (.long j130), .second, .val (.long j132), .second, .val (.long j134), .second, .val (.int (4 : Int32)), .val (.ref b184), .val (.long j185), .second, .val (.long j186), .second, .val (.long j187), .second, .val (.long j188), .second, .val (.long j189), .second, .unset, .unset, .unset, .unset]) rfl at_92 (pc' := 94) rfl ?_
    refine own_iload X184 rfl at_94 (pc' := 96) rfl ?_
    refine own_iconst X184 (v := (2 : Int32)) (by decide) at_96 (pc' := 97) rfl ?_
    refine own_icmpF X184 (by decide) at_97 (pc' := 100) rfl ?_
    refine own_lload X184 rfl at_100 (pc' := 102) rfl ?_
    refine own_lload X184 rfl at_102 (pc' := 104) rfl ?_
    refine own_lload X184 rfl at_104 (pc' := 106) rfl ?_
    obtain ⟨j190, e190⟩ : ∃ v, j186 * j186 = v := ⟨_, rfl⟩
    have f190 : own_L 1125899906842624 ((i127.toInt - i133.toInt) * (i127.toInt - i133.toInt)) j190 := f186.mul f186 e190 (by decide) (by decide)
    refine own_lmul X184 e190 at_106 (pc' := 107) rfl ?_
    obtain ⟨j191, e191⟩ : ∃ v, j189 + j190 = v := ⟨_, rfl⟩
    have f191 : own_L 2251799813685248 (((i125.toInt - i133.toInt) * (i125.toInt - i133.toInt)) + ((i127.toInt - i133.toInt) * (i127.toInt - i133.toInt))) j191 := f189.add f190 e191 (by decide) (by decide)
    refine own_ladd X184 e191 at_107 (pc' := 108) rfl ?_
    refine own_lstore X184 (Ls' := #[.val (.int p0), .val (.int p1), .val (.int p2), .val (.int p3), .val (.int p4), .val (.int p5), .val (.long j126), .second, .val (.long j128), .second, .val (.long j130), .second, .val (.long j132), .second, .val (.long j134), .second, .val (.int (4 : Int32)), .val (.ref b184), .val (.long j185), .second, .val (.long j186), .second, .val (.long j187), .second, .val (.long j188), .second, .val (.long j191), .second, .unset, .unset, .unset, .unset]) rfl at_108 (pc' := 110) rfl ?_
    refine own_iload X184 rfl at_110 (pc' := 112) rfl ?_
    refine own_iconst X184 (v := (3 : Int32)) (by decide) at_112 (pc' := 113) rfl ?_
    refine own_icmpF X184 (by decide) at_113 (pc' := 116) rfl ?_
    refine own_lload X184 rfl at_116 (pc' := 118) rfl ?_
    refine own_lload X184 rfl at_118 (pc' := 120) rfl ?_
    refine own_lload X184 rfl at_120 (pc' := 122) rfl ?_
    obtain ⟨j192, e192⟩ : ∃ v, j187 * j187 = v := ⟨_, rfl⟩
    have f192 : own_L 1125899906842624 ((i129.toInt - i133.toInt) * (i129.toInt - i133.toInt)) j192 := f187.mul f187 e192 (by decide) (by decide)
    refine own_lmul X184 e192 at_122 (pc' := 123) rfl ?_
    obtain ⟨j193, e193⟩ : ∃ v, j191 + j192 = v := ⟨_, rfl⟩
    have f193 : own_L 3377699720527872 ((((i125.toInt - i133.toInt) * (i125.toInt - i133.toInt)) + ((i127.toInt - i133.toInt) * (i127.toInt - i133.toInt))) + ((i129.toInt - i133.toInt) * (i129.toInt - i133.toInt))) j193 := f191.add f192 e193 (by decide) (by decide)
    refine own_ladd X184 e193 at_123 (pc' := 124) rfl ?_
    refine own_lstore X184 (Ls' := #[.val (.int p0), .val (.int p1), .val (.int p2), .val (.int p3), .val (.int p4), .val (.int p5), .val (.long j126), .second, .val (.long j128), .second, .val (.long j130), .second, .val (.long j132), .second, .val (.long j134), .second, .val (.int (4 : Int32)), .val (.ref b184), .val (.long j185), .second, .val (.long j186), .second, .val (.long j187), .second, .val (.long j188), .second, .val (.long j193), .second, .unset, .unset, .unset, .unset]) rfl at_124 (pc' := 126) rfl ?_
    refine own_iload X184 rfl at_126 (pc' := 128) rfl ?_
    refine own_iconst X184 (v := (4 : Int32)) (by decide) at_128 (pc' := 129) rfl ?_
    refine own_icmpF X184 (by decide) at_129 (pc' := 132) rfl ?_
    refine own_lload X184 rfl at_132 (pc' := 134) rfl ?_
    refine own_lload X184 rfl at_134 (pc' := 136) rfl ?_
    refine own_lload X184 rfl at_136 (pc' := 138) rfl ?_
    obtain ⟨j194, e194⟩ : ∃ v, j188 * j188 = v := ⟨_, rfl⟩
    have f194 : own_L 1125899906842624 ((i131.toInt - i133.toInt) * (i131.toInt - i133.toInt)) j194 := f188.mul f188 e194 (by decide) (by decide)
    refine own_lmul X184 e194 at_138 (pc' := 139) rfl ?_
    obtain ⟨j195, e195⟩ : ∃ v, j193 + j194 = v := ⟨_, rfl⟩
    have f195 : own_L 4503599627370496 (((((i125.toInt - i133.toInt) * (i125.toInt - i133.toInt)) + ((i127.toInt - i133.toInt) * (i127.toInt - i133.toInt))) + ((i129.toInt - i133.toInt) * (i129.toInt - i133.toInt))) + ((i131.toInt - i133.toInt) * (i131.toInt - i133.toInt))) j195 := f193.add f194 e195 (by decide) (by decide)
    refine own_ladd X184 e195 at_139 (pc' := 140) rfl ?_
    refine own_lstore X184 (Ls' := #[.val (.int p0), .val (.int p1), .val (.int p2), .val (.int p3), .val (.int p4), .val (.int p5), .val (.long j126), .second, .val (.long j128), .second, .val (.long j130), .second, .val (.long j132), .second, .val (.long j134), .second, .val (.int (4 : Int32)), .val (.ref b184), .val (.long j185), .second, .val (.long j186), .second, .val (.long j187), .second, .val (.long j188), .second, .val (.long j195), .second, .unset, .unset, .unset, .unset]) rfl at_140 (pc' := 142) rfl ?_
    refine own_lload X184 rfl at_142 (pc' := 144) rfl ?_
    obtain ⟨d196, e196⟩ : ∃ v, FP.l2d j195 = v := ⟨_, rfl⟩
    have f196 : own_D 0 4503599627370496 (((((i125.toInt - i133.toInt) * (i125.toInt - i133.toInt)) + ((i127.toInt - i133.toInt) * (i127.toInt - i133.toInt))) + ((i129.toInt - i133.toInt) * (i129.toInt - i133.toInt))) + ((i131.toInt - i133.toInt) * (i131.toInt - i133.toInt))) d196 := own_D.l2d f195 e196 (by decide)
    refine own_l2d X184 e196 at_144 (pc' := 145) rfl ?_
    refine own_iload X184 rfl at_145 (pc' := 147) rfl ?_
    have f197 : own_I 4 (4 : Int) (4 : Int32) := own_I.lit (by decide) (by decide)
    obtain ⟨d198, e198⟩ : ∃ v, FP.i2d (4 : Int32) = v := ⟨_, rfl⟩
    have f198 : own_D 0 4 (4 : Int) d198 := own_D.i2d f197 e198
    refine own_i2d X184 e198 at_147 (pc' := 148) rfl ?_
    obtain ⟨d200, e200⟩ : ∃ v, FP.ddiv d196 d198 = v := ⟨_, rfl⟩
    have q200 := own_quot_nn f196 f198 (by decide) e200
    refine own_ddiv X184 e200 q200 at_148 (pc' := 149) rfl ?_
    refine own_dstore X184 (Ls' := #[.val (.int p0), .val (.int p1), .val (.int p2), .val (.int p3), .val (.int p4), .val (.int p5), .val (.long j126), .second, .val (.long j128), .second, .val (.long j130), .second, .val (.long j132), .second, .val (.long j134), .second, .val (.int (4 : Int32)), .val (.ref b184), .val (.long j185), .second, .val (.long j186), .second, .val (.long j187), .second, .val (.long j188), .second, .val (.long j195), .second, .val (.double d200), .second, .unset, .unset]) rfl at_149 (pc' := 151) rfl ?_
    refine own_aload X184 rfl rfl at_151 (pc' := 153) rfl ?_
    refine own_lload X184 rfl at_153 (pc' := 155) rfl ?_
    obtain ⟨d201, e201⟩ : ∃ v, FP.l2d j134 = v := ⟨_, rfl⟩
    have f201 : own_D 0 16777216 i133.toInt d201 := own_D.l2d f134 e201 (by decide)
    refine own_l2d X184 e201 at_155 (pc' := 156) rfl ?_
    refine own_callS X184 (own_ms4 l Z a0 hw b184 r184_0 i125.toInt r184_1 i127.toInt r184_2 i129.toInt r184_3 i131.toInt d201 i133.toInt _ n0 X184.le V184 fr184_0 fr184_1 fr184_2 fr184_3 f201) (hw _ (List.mem_of_getElem? (i := 5) rfl)) (hw _ (List.mem_of_getElem? (i := 6) rfl)) (hw _ (List.mem_of_getElem? (i := 7) rfl)) (hw _ (List.mem_of_getElem? (i := 8) rfl)) (by decide) rfl (by decide) (W := 0) (by decide) (by decide) (cells' := 1) (slots' := 4) rfl rfl (by decide) (by decide) (argsL := [(.ref b184), (.double d201)]) (rest := []) (lenOf own_pd1 rfl) rfl rfl at_156 (pc' := 159) rfl ?_
    rintro _ T202 h202 X202 ⟨⟨r202, x202, z202, rfl, fx202, fz202, eq202⟩, e202⟩
    subst e202
    show own_Goal p e below _ T202 (mkF m 159 #[.val (.int p0), .val (.int p1), .val (.int p2), .val (.int p3), .val (.int p4), .val (.int p5), .val (.long j126), .second, .val (.long j128), .second, .val (.long j130), .second, .val (.long j132), .second, .val (.long j134), .second, .val (.int (4 : Int32)), .val (.ref b184), .val (.long j185), .second, .val (.long j186), .second, .val (.long j187), .second, .val (.long j188), .second, .val (.long j195), .second, .val (.double d200), .second, .unset, .unset] [(.double r202)])
    refine own_dstore X202 (Ls' := #[.val (.int p0), .val (.int p1), .val (.int p2), .val (.int p3), .val (.int p4), .val (.int p5), .val (.long j126), .second, .val (.long j128), .second, .val (.long j130), .second, .val (.long j132), .second, .val (.long j134), .second, .val (.int (4 : Int32)), .val (.ref b184), .val (.long j185), .second, .val (.long j186), .second, .val (.long j187), .second, .val (.long j188), .second, .val (.long j195), .second, .val (.double d200), .second, .val (.double r202), .second]) rfl at_159 (pc' := 161) rfl ?_
    refine own_dload X202 rfl at_161 (pc' := 163) rfl ?_
    refine own_dload X202 rfl at_163 (pc' := 165) rfl ?_
    have q203 := fx202.of_eq (show (((((0 : Int) + ((i125.toInt - i133.toInt) * (i125.toInt - i133.toInt))) + ((i127.toInt - i133.toInt) * (i127.toInt - i133.toInt))) + ((i129.toInt - i133.toInt) * (i129.toInt - i133.toInt))) + ((i131.toInt - i133.toInt) * (i131.toInt - i133.toInt))) = (((((i125.toInt - i133.toInt) * (i125.toInt - i133.toInt)) + ((i127.toInt - i133.toInt) * (i127.toInt - i133.toInt))) + ((i129.toInt - i133.toInt) * (i129.toInt - i133.toInt))) + ((i131.toInt - i133.toInt) * (i131.toInt - i133.toInt))) by grind)
    refine own_dcmp X202 (v := (0 : Int32)) (own_quot_cmp q203 fz202 f196 f198 (by decide) eq202 e200) at_165 (pc' := 166) rfl ?_
    refine own_ifF X202 (by decide) at_166 (pc' := 169) rfl ?_
    refine own_iconst X202 (v := (1 : Int32)) (by decide) at_169 (pc' := 170) rfl ?_
    refine own_goto X202 at_170 (pc' := 174) (by decide) (by decide) ?_
    exact own_retZ X202 (by decide) at_174 rfl (by decide) (by decide) rfl
set_option maxRecDepth 65536 in
set_option maxHeartbeats 40000000 in
theorem comes_1 {Post : Tables → Env → Array Value → State → Outcome → State → Prop} (hpost : ∀ tb e args s v u, (limb_1_1.after args s (.returned v) u = true ∧ limb_1_2.after args s (.returned v) u = true ∧ True) → FrameEnd s (.returned v) u (Jvm.fieldLocs frame_1_writes args s ++ Jvm.arrayLocs frame_1_arrays args s ++ Jvm.staticLocs frame_1_statics s) 16 128 → Post tb e args s (.returned v) u) :
    ArmFor flags0 classFile x code maxLocals ret World_1 tables_1 room_1 Calls_1 rest_1 Pre_1 Post := by
  intro l hfl _ _ p e ha hc hk s m args below hf hA hF happ hP
  obtain ⟨hcalls, hrest, hpre⟩ := hP
  obtain ⟨-, -, -, hnamed, -, -, -, hat⟩ := (Spec.applies_iff hf).mp happ
  obtain ⟨hg, hn⟩ := and_e (Cond.before_iff.mp (show (Jvm.Cond.and given_1 narrow_1).before args s = true from hpre))
  obtain ⟨h1, g0⟩ := and_e hg
  obtain ⟨k0, g1⟩ := and_e g0
  obtain ⟨k1, g2⟩ := and_e g1
  obtain ⟨k2, g3⟩ := and_e g2
  obtain ⟨k3, g4⟩ := and_e g3
  obtain ⟨k4, g5⟩ := and_e g4
  obtain ⟨w0, w1, w2, w3, w4, w5, rfl⟩ : ∃ w0 w1 w2 w3 w4 w5 : Value, args = #[w0, w1, w2, w3, w4, w5] := by
    have hs : args.size = 6 := by simpa [Cond.value, given_1] using h1
    obtain ⟨L⟩ := args
    match L, hs with
    | [w0, w1, w2, w3, w4, w5], _ => exact ⟨w0, w1, w2, w3, w4, w5, rfl⟩
  have hw := fun d (hd : d ∈ tables_1) => atoms_spec (ws := Jvm.Cond.code x code maxLocals ret :: tables_1) hat d (List.mem_cons_of_mem _ hd)
  obtain ⟨p0, e0⟩ := is_v k0
  obtain rfl : w0 = (.int p0) := Option.some.inj e0
  obtain ⟨p1, e1⟩ := is_v k1
  obtain rfl : w1 = (.int p1) := Option.some.inj e1
  obtain ⟨p2, e2⟩ := is_v k2
  obtain rfl : w2 = (.int p2) := Option.some.inj e2
  obtain ⟨p3, e3⟩ := is_v k3
  obtain rfl : w3 = (.int p3) := Option.some.inj e3
  obtain ⟨p4, e4⟩ := is_v k4
  obtain rfl : w4 = (.int p4) := Option.some.inj e4
  obtain ⟨p5, e5⟩ := is_v g5
  obtain rfl : w5 = (.int p5) := Option.some.inj e5
  obtain ⟨n, o, h1, h2, h3, _, L, rfl, ⟨⟨rfl, -⟩, N⟩, hq⟩ := own_law l s _ hw tables_1 p0 p1 p2 p3 p4 p5 s.heap s.heap.size (Nat.le_refl _)  p e ha hc hk s m _ below hf ((Spec.applies_iff_loose hf).mp happ).1 ⟨rfl, State.Warmed39.refl s, rfl⟩ trivial
  refine ⟨n, _, h1, h2, h3, hpost _ _ _ _ _ _ ⟨Cond.after_iff.mpr rfl, Cond.after_iff.mpr (eq_i res_at (Term.int_eval (1)) rfl), trivial⟩ ⟨hq.1, hq.2.1, (hq.2.2.sift fun y hy => Or.inr (N y hy)).mono (by decide) (by decide)⟩⟩
theorem main_1_1 : Claimed_1_1 := comes_1 fun _ _ _ _ _ _ h hF => ⟨h.1, hF⟩
theorem main_1_2 : Claimed_1_2 := comes_1 fun _ _ _ _ _ _ h hF => ⟨h.2.1, hF⟩
end Jvm.Pilot.@@N@@
namespace Jvm.Pilot.@@N@@
open Jvm Jvm.ClassFile Sem Op Lib Jvm.Free Jvm.Stand Jvm.Pilot.@@N@@.Jvm.D
/-! MADE BY PROGRAM (witnessworld.py) out of the Statement's table words and the real class files: 12 classes; the members and pool entries that the words name. The judged class is class 1, her method 2. -/
namespace start1
open Jvm.ClassFile
def u (s : String) : CpInfo := .utf8 (stringToUtf16 s)
/-- a pool by its gaps: so many unusable entries, then the entry; so many at the end -/
def gap : Nat → List CpInfo → List CpInfo
  | 0, r => r
  | n + 1, r => .unusable :: gap n r
def poolList (es : List (Nat × CpInfo)) (last : Nat) : List CpInfo := es.foldr (fun e r => gap e.1 (e.2 :: r)) (gap last [])
def pool (es : List (Nat × CpInfo)) (last : Nat) : Array CpInfo := ⟨poolList es last⟩
def fileOf (pool : Array CpInfo) (this : Nat) (attrs : Array Attribute := #[]) (ms : Array MethodInfo := #[]) (fl : Nat := 33) (sup : Nat := 0) (ifs : Array Nat := #[]) (fds : Array FieldInfo := #[]) : ClassFile where
  minorVersion := 0
  majorVersion := 65
  constantPool := pool
  accessFlags := fl
  thisClass := this
  superClass := sup
  interfaces := ifs
  fields := fds
  methods := ms
  attributes := attrs
def plain (name : String) (sup : Option ClassId) : Class where
  name := name
  kind := .ordinary
  loader := none
  accessFlags := 33
  super := sup
  interfaces := #[]
  cf := none
  fields := #[]
  methods := #[]
  instanceTypes := #[]
  staticTypes := #[]
  resolved := #[]
  callSites := []
  init := .initialized
  statics := none
  mirror := none

def pool0 : Array CpInfo := pool [(5, u "<init>"), (0, u "()V"), (1, .class_ 10), (1, u "java/lang/Object")] 113

def k0m0 : Method := { name := "<init>", desc := "()V", sig := { parameters := [], returnType := none }, accessFlags := 1, code := none }
/-- java/lang/Object -/
def k0 : Class := { plain "java/lang/Object" none with
  accessFlags := 33
  interfaces := #[]
  cf := some (fileOf pool0 8 #[] #[{ accessFlags := 1, nameIndex := 5, descriptorIndex := 6, attributes := #[] }] 33 0 #[] #[])
  fields := #[]
  methods := #[k0m0]
  instanceTypes := #[]
  staticTypes := #[]
  resolved := Array.replicate 124 none
  statics := none }

def pool1 : Array CpInfo := pool [(2, .class_ 4), (1, u "java/lang/Object"), (0, u "<init>"), (0, u "()V"), (0, .methodref 8 9), (0, .class_ 10), (0, .nameAndType 11 12), (0, u "com/example/volstat/volstat/garch/VarianceStartMeanSquarePinLaw"), (0, u "pick"), (0, u "(IJJJJ)[D"), (0, .methodref 14 15), (0, .class_ 16), (0, .nameAndType 17 18), (0, u "com/example/volstat/volstat/garch/VarianceStart"), (0, u "meanSquare"), (0, u "([DD)D"), (3, u "law"), (0, u "(IIIIII)Z")] 4

def k1m0 : Method := { name := "<init>", desc := "()V", sig := { parameters := [], returnType := none }, accessFlags := 2, code := none }
def k1c1 : Code := { maxStack := 5, maxLocals := 9, code := method_2_code, exceptionTable := #[], attributes := #[] }
def k1m1 : Method := { name := "pick", desc := "(IJJJJ)[D", sig := { parameters := [.int, .long, .long, .long, .long], returnType := some (.array .double) }, accessFlags := 10, code := some k1c1 }
def k1c2 : Code := { maxStack := 9, maxLocals := 32, code := code, exceptionTable := #[], attributes := #[] }
def k1m2 : Method := { name := "law", desc := "(IIIIII)Z", sig := { parameters := [.int, .int, .int, .int, .int, .int], returnType := some .boolean }, accessFlags := 9, code := some k1c2 }
/-- com/example/volstat/volstat/garch/VarianceStartMeanSquarePinLaw -/
def k1 : Class := { plain "com/example/volstat/volstat/garch/VarianceStartMeanSquarePinLaw" (some 0) with
  accessFlags := 49
  interfaces := #[]
  cf := some (fileOf pool1 8 #[] #[{ accessFlags := 2, nameIndex := 5, descriptorIndex := 6, attributes := #[] }, { accessFlags := 10, nameIndex := 11, descriptorIndex := 12, attributes := #[] }, { accessFlags := 9, nameIndex := 22, descriptorIndex := 23, attributes := #[] }] 49 2 #[] #[])
  fields := #[]
  methods := #[k1m0, k1m1, k1m2]
  instanceTypes := #[]
  staticTypes := #[]
  resolved := Array.replicate 28 none
  statics := none }

def pool2 : Array CpInfo := pool [(1, .class_ 2), (0, u "java/lang/constant/Constable"), (0, .class_ 4), (0, u "java/lang/Object")] 6

/-- java/lang/constant/Constable -/
def k2 : Class := { plain "java/lang/constant/Constable" (some 0) with
  accessFlags := 1537
  interfaces := #[]
  cf := some (fileOf pool2 1 #[] #[] 1537 3 #[] #[])
  fields := #[]
  methods := #[]
  instanceTypes := #[]
  staticTypes := #[]
  resolved := Array.replicate 11 none
  statics := none }

def pool3 : Array CpInfo := pool [(1, .class_ 2), (0, u "java/lang/Comparable"), (0, .class_ 4), (0, u "java/lang/Object")] 7

/-- java/lang/Comparable -/
def k3 : Class := { plain "java/lang/Comparable" (some 0) with
  accessFlags := 1537
  interfaces := #[]
  cf := some (fileOf pool3 1 #[] #[] 1537 3 #[] #[])
  fields := #[]
  methods := #[]
  instanceTypes := #[]
  staticTypes := #[]
  resolved := Array.replicate 12 none
  statics := none }

def pool4 : Array CpInfo := pool [(1, .class_ 2), (0, u "java/io/Serializable"), (0, .class_ 4), (0, u "java/lang/Object")] 2

/-- java/io/Serializable -/
def k4 : Class := { plain "java/io/Serializable" (some 0) with
  accessFlags := 1537
  interfaces := #[]
  cf := some (fileOf pool4 1 #[] #[] 1537 3 #[] #[])
  fields := #[]
  methods := #[]
  instanceTypes := #[]
  staticTypes := #[]
  resolved := Array.replicate 7 none
  statics := none }

def pool5 : Array CpInfo := pool [(2, .class_ 4), (1, u "java/lang/Enum"), (0, u "name"), (0, u "Ljava/lang/String;"), (2, u "ordinal"), (0, u "I"), (1, .class_ 14), (1, u "java/lang/Object"), (4, u "hash"), (86, .class_ 108), (1, u "java/lang/Enum$EnumDesc"), (2, .class_ 112), (0, u "java/lang/constant/Constable"), (0, .class_ 114), (0, u "java/lang/Comparable"), (0, .class_ 116), (0, u "java/io/Serializable")] 87

/-- java/lang/Enum -/
def k5 : Class := { plain "java/lang/Enum" (some 0) with
  accessFlags := 1057
  interfaces := #[2, 3, 4]
  cf := some (fileOf pool5 2 #[.nestMembers #[106]] #[] 1057 12 #[111, 113, 115] #[{ accessFlags := 18, nameIndex := 5, descriptorIndex := 6, attributes := #[] }, { accessFlags := 18, nameIndex := 9, descriptorIndex := 10, attributes := #[] }, { accessFlags := 2, nameIndex := 19, descriptorIndex := 10, attributes := #[] }])
  fields := #[{ name := "name", type := (.object "java/lang/String"), accessFlags := 18, slot := 0, constantValue := 0 }, { name := "ordinal", type := .int, accessFlags := 18, slot := 1, constantValue := 0 }, { name := "hash", type := .int, accessFlags := 2, slot := 2, constantValue := 0 }]
  methods := #[]
  instanceTypes := #[(.object "java/lang/String"), .int, .int]
  staticTypes := #[]
  resolved := Array.replicate 204 none
  statics := none }

def pool6 : Array CpInfo := pool [(1, .class_ 2), (0, u "com/example/volstat/volstat/garch/VarianceStart"), (2, u "FIRST_SQUARED_RETURN"), (0, u "Lcom/example/volstat/volstat/garch/VarianceStart;"), (2, u "SAMPLE_VARIANCE"), (2, u "$VALUES"), (0, u "[Lcom/example/volstat/volstat/garch/VarianceStart;"), (6, .class_ 22), (1, u "java/lang/Enum"), (8, u "firstTerm"), (0, u "I"), (2, u "fewestReturnsToFit"), (2, u "description"), (0, u "Ljava/lang/String;"), (6, u "meanSquare"), (0, u "([DD)D"), (6, .class_ 55), (0, u "com/example/volstat/volstat/garch/VarianceStart$1"), (6, .class_ 63), (0, u "com/example/volstat/volstat/garch/VarianceStart$2")] 38

def k6c0 : Code := { maxStack := 6, maxLocals := 12, code := prog_50_method_6_code, exceptionTable := #[], attributes := #[] }
def k6m0 : Method := { name := "meanSquare", desc := "([DD)D", sig := { parameters := [(.array .double), .double], returnType := some .double }, accessFlags := 8, code := some k6c0 }
/-- com/example/volstat/volstat/garch/VarianceStart -/
def k6 : Class := { plain "com/example/volstat/volstat/garch/VarianceStart" (some 5) with
  accessFlags := 17441
  interfaces := #[]
  cf := some (fileOf pool6 1 #[.nestMembers #[62, 54]] #[{ accessFlags := 8, nameIndex := 46, descriptorIndex := 47, attributes := #[] }] 17441 20 #[] #[{ accessFlags := 16409, nameIndex := 5, descriptorIndex := 6, attributes := #[] }, { accessFlags := 16409, nameIndex := 9, descriptorIndex := 6, attributes := #[] }, { accessFlags := 18, nameIndex := 31, descriptorIndex := 32, attributes := #[] }, { accessFlags := 18, nameIndex := 35, descriptorIndex := 32, attributes := #[] }, { accessFlags := 18, nameIndex := 38, descriptorIndex := 39, attributes := #[] }, { accessFlags := 4122, nameIndex := 12, descriptorIndex := 13, attributes := #[] }])
  fields := #[{ name := "FIRST_SQUARED_RETURN", type := (.object "com/example/volstat/volstat/garch/VarianceStart"), accessFlags := 16409, slot := 0, constantValue := 0 }, { name := "SAMPLE_VARIANCE", type := (.object "com/example/volstat/volstat/garch/VarianceStart"), accessFlags := 16409, slot := 1, constantValue := 0 }, { name := "firstTerm", type := .int, accessFlags := 18, slot := 3, constantValue := 0 }, { name := "fewestReturnsToFit", type := .int, accessFlags := 18, slot := 4, constantValue := 0 }, { name := "description", type := (.object "java/lang/String"), accessFlags := 18, slot := 5, constantValue := 0 }, { name := "$VALUES", type := (.array (.object "com/example/volstat/volstat/garch/VarianceStart")), accessFlags := 4122, slot := 2, constantValue := 0 }]
  methods := #[k6m0]
  instanceTypes := #[(.object "java/lang/String"), .int, .int, .int, .int, (.object "java/lang/String")]
  staticTypes := #[(.object "com/example/volstat/volstat/garch/VarianceStart"), (.object "com/example/volstat/volstat/garch/VarianceStart"), (.array (.object "com/example/volstat/volstat/garch/VarianceStart"))]
  resolved := Array.replicate 102 none
  statics := none }

def pool7 : Array CpInfo := pool [(1, u "java/lang/Cloneable"), (0, .class_ 1), (0, u "java/lang/Object"), (0, .class_ 3)] 3

/-- java/lang/Cloneable -/
def k7 : Class := { plain "java/lang/Cloneable" (some 0) with
  accessFlags := 1537
  interfaces := #[]
  cf := some (fileOf pool7 2 #[] #[] 1537 4 #[] #[])
  fields := #[]
  methods := #[]
  instanceTypes := #[]
  staticTypes := #[]
  resolved := Array.replicate 8 none
  statics := none }

/-- the primitive byte -/
def k8 : Class := { plain "byte" none with kind := .primitive 'B', accessFlags := 0x411 }
/-- [B -/
def k9 : Class := { plain "[B" (some 0) with kind := .array 8 .byte, interfaces := #[7, 4], accessFlags := 1041 }

/-- the primitive int -/
def k10 : Class := { plain "int" none with kind := .primitive 'I', accessFlags := 0x411 }
/-- [I -/
def k11 : Class := { plain "[I" (some 0) with kind := .array 10 .int, interfaces := #[7, 4], accessFlags := 1041 }

def heap : Heap := #[]
/-- the primitive double -/
def k12 : Class := { plain "double" none with kind := .primitive 'D', accessFlags := 0x411 }
/-- [D -/
def k13 : Class := { plain "[D" (some 0) with kind := .array 12 .double, interfaces := #[7, 4], accessFlags := 1041 }

def classes : Array Class := #[k0, k1, k2, k3, k4, k5, k6, k7, k8, k9, k10, k11, k12, k13]
def interned : List (Array UInt16 × Addr) := []
def slotsUsed : Nat := 0
def theMethod : MethodId := ⟨1, 2⟩
def args0 : Array Value := #[.int 5, .int 6, .int 7, .int 8, .int 9, .int 10]
def aboutOver (below : List Frame) : State where
  vm := { classes := classes, interned := interned.toArray }
  heap := heap
  slotsUsed := slotsUsed
  threads := #[{ frames := .invoking theMethod args0 :: below }]
def below0 : List Frame := [.native { method := ⟨0, 0⟩, args := #[] }]
def about1 : State := aboutOver below0
def p0 : Program := .bare "" "" ""
def e0 : Env := launch0.env 0 0 0
theorem w_frames : about1.frames = Frame.invoking theMethod args0 :: below0 := rfl
set_option maxRecDepth 65536 in
theorem w_args : argsFit about1.vm theMethod args0 = true := by decide +kernel
set_option maxRecDepth 65536 in
theorem w_heap : heapFits about1 = true := by decide +kernel
set_option maxRecDepth 65536 in
theorem w_runnable : about1.curStatus? = some .runnable := by decide +kernel
set_option maxRecDepth 65536 in
theorem w_alone : about1.alone = true := by decide +kernel
set_option maxRecDepth 65536 in
theorem w_named : about1.methodNamed? x = some theMethod := by decide +kernel
set_option maxRecDepth 65536 in
theorem w_hears : about1.hears theMethod below0 = true := by decide +kernel
set_option maxRecDepth 65536 in
theorem w_ripe : about1.ripe theMethod args0 below0 = true := by decide +kernel
theorem w_running : about1.status = .running := rfl
set_option maxRecDepth 65536 in
theorem w_room : about1.hasRoom e0.platform room_1 = true :=
  launch0.hasRoom_least _ room_1 (by decide +kernel) (by decide +kernel) (by decide +kernel) (by decide +kernel) (by decide +kernel) (by decide +kernel)
theorem allAtoms_all (ts : List Jvm.Cond) (a : Array Jvm.Value) (st : Jvm.State) : (allAtoms ts).before a st = ts.all (fun c => c.before a st) := by
  induction ts with
  | nil => rfl
  | cons c t ih =>
    show (Jvm.Cond.and c (allAtoms t)).before a st = _
    rw [Jvm.Cond.before_and, ih, List.all_cons]
def words1 : List Jvm.Cond := Jvm.Cond.code x code maxLocals ret :: tables_1
/-- a 'code' word, met by the world's own term for the bytes: nothing is compared byte by byte -/
theorem code_word {y : MethodName} {bytes : ByteArray} {mx : Nat} {rt : Option FieldType} {a : Array Value} {s : State} {m : MethodId} {meth : Method} {c : Code} (h1 : s.methodNamed? y = some m) (h2 : s.vm.method? m = some meth) (h3 : meth.code = some c) (h4 : c.code = bytes)
    (h5 : (c.maxLocals == mx && c.exceptionTable.isEmpty && decide (c.maxStack ≤ mostOperands) && decide (meth.sig.returnType = rt) && !meth.locks && decide (parseMethodDescriptor y.desc = some meth.sig)) = true) : (Jvm.Cond.code y bytes mx rt).before a s = true := by
  simp only [Bool.and_eq_true, beq_iff_eq, Bool.not_eq_true', decide_eq_true_eq] at h5
  obtain ⟨⟨⟨⟨⟨g1, g2⟩, g3⟩, g4⟩, g5⟩, g6⟩ := h5
  simp [Cond.before, Cond.holds, Cond.value, h1, h2, h3, h4, g1, g2, g3, g4, g5, g6]
def isCode : Jvm.Cond → Bool
  | .code _ _ _ _ => true
  | _ => false
theorem all_split {L : List Jvm.Cond} {P : Jvm.Cond → Bool} (h1 : L.all (fun c => isCode c || P c) = true) (h2 : ∀ c ∈ L.filter isCode, P c = true) : L.all P = true := by
  refine List.all_eq_true.mpr fun c hc => ?_
  have h := List.all_eq_true.mp h1 c hc
  rcases Bool.eq_false_or_eq_true (isCode c) with hi | hi
  · exact h2 c (List.mem_filter.mpr ⟨hc, hi⟩)
  · simpa [hi] using h
set_option maxRecDepth 65536 in
theorem w_c0 : (Jvm.Cond.code x code maxLocals ret).before args0 about1 = true := code_word (m := ⟨1, 2⟩) (meth := k1m2) (c := k1c2) (by decide +kernel) rfl rfl rfl (by decide +kernel)
set_option maxRecDepth 65536 in
theorem w_c1 : (Jvm.Cond.code ({ cls := "com/example/volstat/volstat/garch/VarianceStartMeanSquarePinLaw", name := "pick", desc := "(IJJJJ)[D" } : Jvm.MethodName) method_2_code (9 : Nat) (Option.some (Jvm.ClassFile.FieldType.array Jvm.ClassFile.FieldType.double))).before args0 about1 = true := code_word (m := ⟨1, 1⟩) (meth := k1m1) (c := k1c1) (by decide +kernel) rfl rfl rfl (by decide +kernel)
set_option maxRecDepth 65536 in
theorem w_c2 : (Jvm.Cond.code ({ cls := "com/example/volstat/volstat/garch/VarianceStart", name := "meanSquare", desc := "([DD)D" } : Jvm.MethodName) prog_50_method_6_code (12 : Nat) (Option.some Jvm.ClassFile.FieldType.double)).before args0 about1 = true := code_word (m := ⟨6, 0⟩) (meth := k6m0) (c := k6c0) (by decide +kernel) rfl rfl rfl (by decide +kernel)
def codes1 : List Jvm.Cond := [Jvm.Cond.code x code maxLocals ret, Jvm.Cond.code ({ cls := "com/example/volstat/volstat/garch/VarianceStartMeanSquarePinLaw", name := "pick", desc := "(IJJJJ)[D" } : Jvm.MethodName) method_2_code (9 : Nat) (Option.some (Jvm.ClassFile.FieldType.array Jvm.ClassFile.FieldType.double)), Jvm.Cond.code ({ cls := "com/example/volstat/volstat/garch/VarianceStart", name := "meanSquare", desc := "([DD)D" } : Jvm.MethodName) prog_50_method_6_code (12 : Nat) (Option.some Jvm.ClassFile.FieldType.double)]
set_option maxRecDepth 65536 in
theorem codes_eq : words1.filter isCode = codes1 := rfl
theorem w_codes : ∀ c ∈ words1.filter isCode, c.before args0 about1 = true := by
  rw [codes_eq]
  intro c hc
  simp only [codes1, List.mem_cons, List.not_mem_nil, or_false] at hc
  rcases hc with rfl | rfl | rfl
  · exact w_c0
  · exact w_c1
  · exact w_c2
set_option maxRecDepth 65536 in
theorem w_t1 : words1.all (fun c => isCode c || c.before args0 about1) = true := by decide +kernel
theorem w_tables : (allAtoms (Jvm.Cond.code x code maxLocals ret :: tables_1)).before args0 about1 = true := by
  rw [allAtoms_all]
  show words1.all (fun c => c.before args0 about1) = true
  refine all_split ?_ w_codes
  rw [w_t1]
set_option maxRecDepth 65536 in
theorem w_case : (Jvm.Cond.and given_1 narrow_1).before args0 about1 = true := by decide +kernel
theorem w_applies : (headSpec (Jvm.Cond.code x code maxLocals ret :: tables_1) room_1).applies x e0.platform about1 = true :=
  (Spec.applies_iff w_frames).mpr ⟨w_running, w_runnable, w_alone, w_named, w_hears, w_ripe, w_room, w_tables⟩
theorem atStart : AtStart classFile x code maxLocals ret World_1 tables_1 room_1 Calls_1 rest_1 Pre_1 launch0 p0 e0 about1 theMethod args0 below0 :=
  ⟨lists_1, trivial, launch0.admits_env _ _ _, launch0.least_env, fairChoices_fair.cas, fairChoices_fair.clock, w_frames, w_args, w_heap, w_applies, trivial, trivial, w_case⟩
end start1
theorem witness_1 : WitnessClaimed_1 := ⟨start1.p0, start1.e0, start1.about1, start1.theMethod, start1.args0, start1.below0, start1.atStart⟩
end Jvm.Pilot.@@N@@
