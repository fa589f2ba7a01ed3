import JvmDerived
import JvmDerived.Pilot.@@N@@Statement
import JvmDerived.Pilot.@@N@@Code
set_option linter.unusedVariables false
set_option linter.unusedSimpArgs false
namespace Jvm.Pilot.@@N@@
open Jvm Jvm.ClassFile Sem Op Lib Jvm.Free Jvm.Stand Jvm.LawKit Jvm.RoadKit Bundle Jvm.Pilot.@@N@@.Jvm.D
section OwnWalk
variable {p : Program} {l : Launch} {e : Env} {R : Room} {s : State} {m : MethodId} {args : Array Value} {below : List Frame} {meth : Method} {c : Code} {Z : State} {own : String} {bytes : ByteArray} {ml : Nat} {rt : Option FieldType} {nm : String} {n0 : Nat} {T : State} {h : Heap} {cells slots : Nat} {Q : Option Value → Heap → Prop} {Φ : State → Outcome → Prop} {pc pc' : Nat} {Ls : Array Slot} {rest : List Value} {a0 : Array Value}
/-- where the walk stands: the library's Stand, every place written so far is new (Fr), the heap, and the body's own data -/
def own_St (p : Program) (l : Launch) (e : Env) (R : Room) (s : State) (m : MethodId) (args : Array Value) (below : List Frame) (meth : Method) (c : Code) (Z : State) (own : String) (bytes : ByteArray) (ml : Nat) (rt : Option FieldType) (nm : String) (n0 : Nat) (T : State) (h : Heap) (cells slots : Nat) : Prop :=
  ∃ locs, Stand p l e R s m args below meth c T locs cells slots ∧ Fr n0 locs ∧ T.heap = h ∧ n0 ≤ h.size ∧ p.tables.exec = Jvm.exec ∧ Z.Warmed39 s.vm ∧ s.vm.findClass own = some m.cls ∧ c.code = bytes ∧ c.maxLocals = ml ∧ meth.sig.returnType = rt ∧ meth.locks = false ∧ meth.name = nm
/-- what a return that meets Q leaves -/
def own_Fin (below : List Frame) (s : State) (R : Room) (n0 : Nat) (Q : Option Value → Heap → Prop) : State → Outcome → Prop := fun s₂ o =>
  s₂.status = .running ∧ Ended s₂ below o ∧ ∃ v L, o = .returned v ∧ ((Q v s₂.heap ∧ n0 ≤ s₂.heap.size) ∧ Fr n0 L) ∧ FrameEnd s o s₂ L R.cells R.slots
/-- from frame g over T the run comes to an end that meets Φ -/
def own_Goal (p : Program) (e : Env) (below : List Frame) (Φ : State → Outcome → Prop) (T : State) (g : JFrame) : Prop :=
  ∃ s₂ o, Steps p.tables e below (T.setTop g) s₂ ∧ Φ s₂ o
theorem own_St.le (X : own_St p l e R s m args below meth c Z own bytes ml rt nm n0 T h cells slots) : n0 ≤ h.size := by obtain ⟨_, _, _, _, q, _⟩ := X; exact q
theorem own_step {T' : State} {g g' : JFrame} (f : ∀ t, Steps p.tables e below (T'.setTop g') t → Steps p.tables e below (T.setTop g) t) (k : own_Goal p e below Φ T' g') : own_Goal p e below Φ T g := by
  obtain ⟨s2, o, a, r⟩ := k
  exact ⟨s2, o, f _ a, r⟩
theorem own_cast {g g' : JFrame} (q : g = g') (k : own_Goal p e below Φ T g') : own_Goal p e below Φ T g := q ▸ k
theorem own_pure (X : own_St p l e R s m args below meth c Z own bytes ml rt nm n0 T h cells slots) {g g' : JFrame} (f : ∀ {locs}, Stand p l e R s m args below meth c T locs cells slots → p.tables.exec = Jvm.exec → c.code = bytes → ∀ t, Steps p.tables e below (T.setTop g') t → Steps p.tables e below (T.setTop g) t) (k : own_Goal p e below Φ T g') : own_Goal p e below Φ T g := by
  obtain ⟨locs, X, -, -, -, hx, -, -, hby, -⟩ := X
  exact own_step (f X hx hby) k
theorem own_iconst (X : own_St p l e R s m args below meth c Z own bytes ml rt nm n0 T h cells slots) {i : Int} {v : Int32} (hv : Int32.ofInt i = v) (hd : decode bytes pc = .ok (.iconst i, 1)) (hp : pc + 1 = pc') (k : own_Goal p e below Φ T (mkF m pc' Ls (.int v :: rest))) : own_Goal p e below Φ T (mkF m pc Ls (rest)) := by
  subst hp hv
  exact own_pure X (fun X hx hby _ a => XS.iconst X.here hx rfl (hb hby hd) a) k
theorem own_bipush (X : own_St p l e R s m args below meth c Z own bytes ml rt nm n0 T h cells slots) {i : Int} {v : Int32} (hv : (Int8.ofInt i).toInt32 = v) (hd : decode bytes pc = .ok (.bipush i, 2)) (hp : pc + 2 = pc') (k : own_Goal p e below Φ T (mkF m pc' Ls (.int v :: rest))) : own_Goal p e below Φ T (mkF m pc Ls (rest)) := by
  subst hp hv
  exact own_pure X (fun X hx hby _ a => XS.bipush X.here hx rfl (hb hby hd) a) k
theorem own_sipush (X : own_St p l e R s m args below meth c Z own bytes ml rt nm n0 T h cells slots) {i : Int} {v : Int32} (hv : (Int16.ofInt i).toInt32 = v) (hd : decode bytes pc = .ok (.sipush i, 3)) (hp : pc + 3 = pc') (k : own_Goal p e below Φ T (mkF m pc' Ls (.int v :: rest))) : own_Goal p e below Φ T (mkF m pc Ls (rest)) := by
  subst hp hv
  exact own_pure X (fun X hx hby _ a => XS.sipush X.here hx rfl (hb hby hd) a) k
theorem own_aconst_null (X : own_St p l e R s m args below meth c Z own bytes ml rt nm n0 T h cells slots)  (hd : decode bytes pc = .ok (.aconst_null, 1)) (hp : pc + 1 = pc') (k : own_Goal p e below Φ T (mkF m pc' Ls (.null :: rest))) : own_Goal p e below Φ T (mkF m pc Ls (rest)) := by
  subst hp
  exact own_pure X (fun X hx hby _ a => XS.aconstNull X.here hx rfl (hb hby hd) a) k
theorem own_lconst (X : own_St p l e R s m args below meth c Z own bytes ml rt nm n0 T h cells slots) {k : Fin 2} {v : Int64} (hv : Int64.ofNat k = v) (hd : decode bytes pc = .ok (.lconst k, 1)) (hp : pc + 1 = pc') (k : own_Goal p e below Φ T (mkF m pc' Ls (.long v :: rest))) : own_Goal p e below Φ T (mkF m pc Ls (rest)) := by
  subst hp hv
  exact own_pure X (fun X hx hby _ a => XT.lconst X.here hx rfl (hb hby hd) a) k
theorem own_dconst0 (X : own_St p l e R s m args below meth c Z own bytes ml rt nm n0 T h cells slots) {v : UInt64} (hv : FP.dconst0 = v) (hd : decode bytes pc = .ok (.dconst 0, 1)) (hp : pc + 1 = pc') (k : own_Goal p e below Φ T (mkF m pc' Ls (.double v :: rest))) : own_Goal p e below Φ T (mkF m pc Ls (rest)) := by
  subst hp
  exact own_pure X (fun X hx hby _ a => XS.dconst0 X.here hx rfl (hb hby hd) hv a) k
theorem own_dconst1 (X : own_St p l e R s m args below meth c Z own bytes ml rt nm n0 T h cells slots) {v : UInt64} (hv : FP.dconst1 = v) (hd : decode bytes pc = .ok (.dconst 1, 1)) (hp : pc + 1 = pc') (k : own_Goal p e below Φ T (mkF m pc' Ls (.double v :: rest))) : own_Goal p e below Φ T (mkF m pc Ls (rest)) := by
  subst hp
  exact own_pure X (fun X hx hby _ a => XS.dconst1 X.here hx rfl (hb hby hd) hv a) k
theorem own_iload (X : own_St p l e R s m args below meth c Z own bytes ml rt nm n0 T h cells slots) {k : Nat} {v : Int32} (hl : Ls[k]? = some (.val (.int v))) (hd : decode bytes pc = .ok (.iload k, 2)) (hp : pc + 2 = pc') (k : own_Goal p e below Φ T (mkF m pc' Ls (.int v :: rest))) : own_Goal p e below Φ T (mkF m pc Ls (rest)) := by
  subst hp
  exact own_pure X (fun X hx hby _ a => XS.iload X.here hx rfl (hb hby hd) hl a) k
theorem own_iloadN (X : own_St p l e R s m args below meth c Z own bytes ml rt nm n0 T h cells slots) {k : Fin 4} {v : Int32} (hl : Ls[k.val]? = some (.val (.int v))) (hd : decode bytes pc = .ok (.iload_n k, 1)) (hp : pc + 1 = pc') (k : own_Goal p e below Φ T (mkF m pc' Ls (.int v :: rest))) : own_Goal p e below Φ T (mkF m pc Ls (rest)) := by
  subst hp
  exact own_pure X (fun X hx hby _ a => XS.iloadN X.here hx rfl (hb hby hd) hl a) k
theorem own_istore (X : own_St p l e R s m args below meth c Z own bytes ml rt nm n0 T h cells slots) {k : Nat} {v : Int32} {Ls' : Array Slot} (hl : storeLocals Ls k (.int v) = some Ls') (hd : decode bytes pc = .ok (.istore k, 2)) (hp : pc + 2 = pc') (k : own_Goal p e below Φ T (mkF m pc' Ls' (rest))) : own_Goal p e below Φ T (mkF m pc Ls (.int v :: rest)) := by
  subst hp
  exact own_pure X (fun X hx hby _ a => XS.istore X.here hx rfl (hb hby hd) rfl hl a) k
theorem own_istoreN (X : own_St p l e R s m args below meth c Z own bytes ml rt nm n0 T h cells slots) {k : Fin 4} {v : Int32} {Ls' : Array Slot} (hl : storeLocals Ls k.val (.int v) = some Ls') (hd : decode bytes pc = .ok (.istore_n k, 1)) (hp : pc + 1 = pc') (k : own_Goal p e below Φ T (mkF m pc' Ls' (rest))) : own_Goal p e below Φ T (mkF m pc Ls (.int v :: rest)) := by
  subst hp
  exact own_pure X (fun X hx hby _ a => XS.istoreN X.here hx rfl (hb hby hd) rfl hl a) k
theorem own_lload (X : own_St p l e R s m args below meth c Z own bytes ml rt nm n0 T h cells slots) {k : Nat} {v : Int64} (hl : Ls[k]? = some (.val (.long v))) (hd : decode bytes pc = .ok (.lload k, 2)) (hp : pc + 2 = pc') (k : own_Goal p e below Φ T (mkF m pc' Ls (.long v :: rest))) : own_Goal p e below Φ T (mkF m pc Ls (rest)) := by
  subst hp
  exact own_pure X (fun X hx hby _ a => XT.lload X.here hx rfl (hb hby hd) hl a) k
theorem own_lloadN (X : own_St p l e R s m args below meth c Z own bytes ml rt nm n0 T h cells slots) {k : Fin 4} {v : Int64} (hl : Ls[k.val]? = some (.val (.long v))) (hd : decode bytes pc = .ok (.lload_n k, 1)) (hp : pc + 1 = pc') (k : own_Goal p e below Φ T (mkF m pc' Ls (.long v :: rest))) : own_Goal p e below Φ T (mkF m pc Ls (rest)) := by
  subst hp
  exact own_pure X (fun X hx hby _ a => XT.lloadN X.here hx rfl (hb hby hd) hl a) k
theorem own_lstore (X : own_St p l e R s m args below meth c Z own bytes ml rt nm n0 T h cells slots) {k : Nat} {v : Int64} {Ls' : Array Slot} (hl : storeLocals Ls k (.long v) = some Ls') (hd : decode bytes pc = .ok (.lstore k, 2)) (hp : pc + 2 = pc') (k : own_Goal p e below Φ T (mkF m pc' Ls' (rest))) : own_Goal p e below Φ T (mkF m pc Ls (.long v :: rest)) := by
  subst hp
  exact own_pure X (fun X hx hby _ a => XT.lstore X.here hx rfl (hb hby hd) rfl hl a) k
theorem own_lstoreN (X : own_St p l e R s m args below meth c Z own bytes ml rt nm n0 T h cells slots) {k : Fin 4} {v : Int64} {Ls' : Array Slot} (hl : storeLocals Ls k.val (.long v) = some Ls') (hd : decode bytes pc = .ok (.lstore_n k, 1)) (hp : pc + 1 = pc') (k : own_Goal p e below Φ T (mkF m pc' Ls' (rest))) : own_Goal p e below Φ T (mkF m pc Ls (.long v :: rest)) := by
  subst hp
  exact own_pure X (fun X hx hby _ a => XT.lstoreN X.here hx rfl (hb hby hd) rfl hl a) k
theorem own_dload (X : own_St p l e R s m args below meth c Z own bytes ml rt nm n0 T h cells slots) {k : Nat} {v : UInt64} (hl : Ls[k]? = some (.val (.double v))) (hd : decode bytes pc = .ok (.dload k, 2)) (hp : pc + 2 = pc') (k : own_Goal p e below Φ T (mkF m pc' Ls (.double v :: rest))) : own_Goal p e below Φ T (mkF m pc Ls (rest)) := by
  subst hp
  exact own_pure X (fun X hx hby _ a => XS.dload X.here hx rfl (hb hby hd) hl a) k
theorem own_dloadN (X : own_St p l e R s m args below meth c Z own bytes ml rt nm n0 T h cells slots) {k : Fin 4} {v : UInt64} (hl : Ls[k.val]? = some (.val (.double v))) (hd : decode bytes pc = .ok (.dload_n k, 1)) (hp : pc + 1 = pc') (k : own_Goal p e below Φ T (mkF m pc' Ls (.double v :: rest))) : own_Goal p e below Φ T (mkF m pc Ls (rest)) := by
  subst hp
  exact own_pure X (fun X hx hby _ a => XS.dloadN X.here hx rfl (hb hby hd) hl a) k
theorem own_dstore (X : own_St p l e R s m args below meth c Z own bytes ml rt nm n0 T h cells slots) {k : Nat} {v : UInt64} {Ls' : Array Slot} (hl : storeLocals Ls k (.double v) = some Ls') (hd : decode bytes pc = .ok (.dstore k, 2)) (hp : pc + 2 = pc') (k : own_Goal p e below Φ T (mkF m pc' Ls' (rest))) : own_Goal p e below Φ T (mkF m pc Ls (.double v :: rest)) := by
  subst hp
  exact own_pure X (fun X hx hby _ a => XS.dstore X.here hx rfl (hb hby hd) rfl hl a) k
theorem own_dstoreN (X : own_St p l e R s m args below meth c Z own bytes ml rt nm n0 T h cells slots) {k : Fin 4} {v : UInt64} {Ls' : Array Slot} (hl : storeLocals Ls k.val (.double v) = some Ls') (hd : decode bytes pc = .ok (.dstore_n k, 1)) (hp : pc + 1 = pc') (k : own_Goal p e below Φ T (mkF m pc' Ls' (rest))) : own_Goal p e below Φ T (mkF m pc Ls (.double v :: rest)) := by
  subst hp
  exact own_pure X (fun X hx hby _ a => XS.dstoreN X.here hx rfl (hb hby hd) rfl hl a) k
theorem own_aload (X : own_St p l e R s m args below meth c Z own bytes ml rt nm n0 T h cells slots) {k : Nat} {v : Value} (hl : Ls[k]? = some (.val v)) (hv : v.isRef = true) (hd : decode bytes pc = .ok (.aload k, 2)) (hp : pc + 2 = pc') (k : own_Goal p e below Φ T (mkF m pc' Ls (v :: rest))) : own_Goal p e below Φ T (mkF m pc Ls (rest)) := by
  subst hp
  exact own_pure X (fun X hx hby _ a => XS.aload X.here hx rfl (hb hby hd) hl hv a) k
theorem own_aloadN (X : own_St p l e R s m args below meth c Z own bytes ml rt nm n0 T h cells slots) {k : Fin 4} {v : Value} (hl : Ls[k.val]? = some (.val v)) (hv : v.isRef = true) (hd : decode bytes pc = .ok (.aload_n k, 1)) (hp : pc + 1 = pc') (k : own_Goal p e below Φ T (mkF m pc' Ls (v :: rest))) : own_Goal p e below Φ T (mkF m pc Ls (rest)) := by
  subst hp
  exact own_pure X (fun X hx hby _ a => XS.aloadN X.here hx rfl (hb hby hd) hl hv a) k
theorem own_astore (X : own_St p l e R s m args below meth c Z own bytes ml rt nm n0 T h cells slots) {k : Nat} {v : Value} {Ls' : Array Slot} (hl : storeLocals Ls k v = some Ls') (hv : v.isRef = true) (hd : decode bytes pc = .ok (.astore k, 2)) (hp : pc + 2 = pc') (k : own_Goal p e below Φ T (mkF m pc' Ls' (rest))) : own_Goal p e below Φ T (mkF m pc Ls (v :: rest)) := by
  subst hp
  exact own_pure X (fun X hx hby _ a => XS.astore X.here hx rfl (hb hby hd) rfl hv hl a) k
theorem own_astoreN (X : own_St p l e R s m args below meth c Z own bytes ml rt nm n0 T h cells slots) {k : Fin 4} {v : Value} {Ls' : Array Slot} (hl : storeLocals Ls k.val v = some Ls') (hv : v.isRef = true) (hd : decode bytes pc = .ok (.astore_n k, 1)) (hp : pc + 1 = pc') (k : own_Goal p e below Φ T (mkF m pc' Ls' (rest))) : own_Goal p e below Φ T (mkF m pc Ls (v :: rest)) := by
  subst hp
  exact own_pure X (fun X hx hby _ a => XS.astoreN X.here hx rfl (hb hby hd) rfl hv hl a) k
theorem own_iinc (X : own_St p l e R s m args below meth c Z own bytes ml rt nm n0 T h cells slots) {k : Nat} {i : Int} {x v : Int32} {Ls' : Array Slot} (hl : Ls[k]? = some (.val (.int x))) (hv : x + Int32.ofInt i = v) (hl' : storeLocals Ls k (.int v) = some Ls') (hd : decode bytes pc = .ok (.iinc k i, 3)) (hp : pc + 3 = pc') (k : own_Goal p e below Φ T (mkF m pc' Ls' (rest))) : own_Goal p e below Φ T (mkF m pc Ls (rest)) := by
  subst hp hv
  exact own_pure X (fun X hx hby _ a => XS.iinc X.here hx rfl (hb hby hd) hl hl' a) k
theorem own_iadd (X : own_St p l e R s m args below meth c Z own bytes ml rt nm n0 T h cells slots) {x y v : Int32} (hv : x + y = v) (hd : decode bytes pc = .ok (.iadd, 1)) (hp : pc + 1 = pc') (k : own_Goal p e below Φ T (mkF m pc' Ls (.int v :: rest))) : own_Goal p e below Φ T (mkF m pc Ls (.int y :: .int x :: rest)) := by
  subst hp hv
  exact own_pure X (fun X hx hby _ a => XS.iadd X.here hx rfl (hb hby hd) rfl a) k
theorem own_isub (X : own_St p l e R s m args below meth c Z own bytes ml rt nm n0 T h cells slots) {x y v : Int32} (hv : x - y = v) (hd : decode bytes pc = .ok (.isub, 1)) (hp : pc + 1 = pc') (k : own_Goal p e below Φ T (mkF m pc' Ls (.int v :: rest))) : own_Goal p e below Φ T (mkF m pc Ls (.int y :: .int x :: rest)) := by
  subst hp hv
  exact own_pure X (fun X hx hby _ a => XS.isub X.here hx rfl (hb hby hd) rfl a) k
theorem own_imul (X : own_St p l e R s m args below meth c Z own bytes ml rt nm n0 T h cells slots) {x y v : Int32} (hv : x * y = v) (hd : decode bytes pc = .ok (.imul, 1)) (hp : pc + 1 = pc') (k : own_Goal p e below Φ T (mkF m pc' Ls (.int v :: rest))) : own_Goal p e below Φ T (mkF m pc Ls (.int y :: .int x :: rest)) := by
  subst hp hv
  exact own_pure X (fun X hx hby _ a => XS.imul X.here hx rfl (hb hby hd) rfl a) k
theorem own_iand (X : own_St p l e R s m args below meth c Z own bytes ml rt nm n0 T h cells slots) {x y v : Int32} (hv : x &&& y = v) (hd : decode bytes pc = .ok (.iand, 1)) (hp : pc + 1 = pc') (k : own_Goal p e below Φ T (mkF m pc' Ls (.int v :: rest))) : own_Goal p e below Φ T (mkF m pc Ls (.int y :: .int x :: rest)) := by
  subst hp hv
  exact own_pure X (fun X hx hby _ a => XS.iand X.here hx rfl (hb hby hd) rfl a) k
theorem own_ior (X : own_St p l e R s m args below meth c Z own bytes ml rt nm n0 T h cells slots) {x y v : Int32} (hv : x ||| y = v) (hd : decode bytes pc = .ok (.ior, 1)) (hp : pc + 1 = pc') (k : own_Goal p e below Φ T (mkF m pc' Ls (.int v :: rest))) : own_Goal p e below Φ T (mkF m pc Ls (.int y :: .int x :: rest)) := by
  subst hp hv
  exact own_pure X (fun X hx hby _ a => XT.ior X.here hx rfl (hb hby hd) rfl a) k
theorem own_ixor (X : own_St p l e R s m args below meth c Z own bytes ml rt nm n0 T h cells slots) {x y v : Int32} (hv : x ^^^ y = v) (hd : decode bytes pc = .ok (.ixor, 1)) (hp : pc + 1 = pc') (k : own_Goal p e below Φ T (mkF m pc' Ls (.int v :: rest))) : own_Goal p e below Φ T (mkF m pc Ls (.int y :: .int x :: rest)) := by
  subst hp hv
  exact own_pure X (fun X hx hby _ a => XT.ixor X.here hx rfl (hb hby hd) rfl a) k
theorem own_ishl (X : own_St p l e R s m args below meth c Z own bytes ml rt nm n0 T h cells slots) {x y v : Int32} (hv : x <<< (y &&& 31) = v) (hd : decode bytes pc = .ok (.ishl, 1)) (hp : pc + 1 = pc') (k : own_Goal p e below Φ T (mkF m pc' Ls (.int v :: rest))) : own_Goal p e below Φ T (mkF m pc Ls (.int y :: .int x :: rest)) := by
  subst hp hv
  exact own_pure X (fun X hx hby _ a => XT.ishl X.here hx rfl (hb hby hd) rfl a) k
theorem own_ishr (X : own_St p l e R s m args below meth c Z own bytes ml rt nm n0 T h cells slots) {x y v : Int32} (hv : x >>> (y &&& 31) = v) (hd : decode bytes pc = .ok (.ishr, 1)) (hp : pc + 1 = pc') (k : own_Goal p e below Φ T (mkF m pc' Ls (.int v :: rest))) : own_Goal p e below Φ T (mkF m pc Ls (.int y :: .int x :: rest)) := by
  subst hp hv
  exact own_pure X (fun X hx hby _ a => XT.ishr X.here hx rfl (hb hby hd) rfl a) k
theorem own_iushr (X : own_St p l e R s m args below meth c Z own bytes ml rt nm n0 T h cells slots) {x y v : Int32} (hv : XT.ushr x y = v) (hd : decode bytes pc = .ok (.iushr, 1)) (hp : pc + 1 = pc') (k : own_Goal p e below Φ T (mkF m pc' Ls (.int v :: rest))) : own_Goal p e below Φ T (mkF m pc Ls (.int y :: .int x :: rest)) := by
  subst hp hv
  exact own_pure X (fun X hx hby _ a => XT.iushr X.here hx rfl (hb hby hd) rfl a) k
theorem own_irem (X : own_St p l e R s m args below meth c Z own bytes ml rt nm n0 T h cells slots) {x y v : Int32} (hy : y ≠ 0) (hv : x % y = v) (hd : decode bytes pc = .ok (.irem, 1)) (hp : pc + 1 = pc') (k : own_Goal p e below Φ T (mkF m pc' Ls (.int v :: rest))) : own_Goal p e below Φ T (mkF m pc Ls (.int y :: .int x :: rest)) := by
  subst hp hv
  exact own_pure X (fun X hx hby _ a => iremM X hx rfl (hb hby hd) rfl hy a) k
theorem own_ineg (X : own_St p l e R s m args below meth c Z own bytes ml rt nm n0 T h cells slots) {x v : Int32} (hv : -x = v) (hd : decode bytes pc = .ok (.ineg, 1)) (hp : pc + 1 = pc') (k : own_Goal p e below Φ T (mkF m pc' Ls (.int v :: rest))) : own_Goal p e below Φ T (mkF m pc Ls (.int x :: rest)) := by
  subst hp hv
  exact own_pure X (fun X hx hby _ a => XS.ineg X.here hx rfl (hb hby hd) rfl a) k
theorem own_ladd (X : own_St p l e R s m args below meth c Z own bytes ml rt nm n0 T h cells slots) {x y v : Int64} (hv : x + y = v) (hd : decode bytes pc = .ok (.ladd, 1)) (hp : pc + 1 = pc') (k : own_Goal p e below Φ T (mkF m pc' Ls (.long v :: rest))) : own_Goal p e below Φ T (mkF m pc Ls (.long y :: .long x :: rest)) := by
  subst hp hv
  exact own_pure X (fun X hx hby _ a => XT.ladd X.here hx rfl (hb hby hd) rfl a) k
theorem own_lsub (X : own_St p l e R s m args below meth c Z own bytes ml rt nm n0 T h cells slots) {x y v : Int64} (hv : x - y = v) (hd : decode bytes pc = .ok (.lsub, 1)) (hp : pc + 1 = pc') (k : own_Goal p e below Φ T (mkF m pc' Ls (.long v :: rest))) : own_Goal p e below Φ T (mkF m pc Ls (.long y :: .long x :: rest)) := by
  subst hp hv
  exact own_pure X (fun X hx hby _ a => XT.lsub X.here hx rfl (hb hby hd) rfl a) k
theorem own_lmul (X : own_St p l e R s m args below meth c Z own bytes ml rt nm n0 T h cells slots) {x y v : Int64} (hv : x * y = v) (hd : decode bytes pc = .ok (.lmul, 1)) (hp : pc + 1 = pc') (k : own_Goal p e below Φ T (mkF m pc' Ls (.long v :: rest))) : own_Goal p e below Φ T (mkF m pc Ls (.long y :: .long x :: rest)) := by
  subst hp hv
  exact own_pure X (fun X hx hby _ a => XT.lmul X.here hx rfl (hb hby hd) rfl a) k
theorem own_land (X : own_St p l e R s m args below meth c Z own bytes ml rt nm n0 T h cells slots) {x y v : Int64} (hv : x &&& y = v) (hd : decode bytes pc = .ok (.land, 1)) (hp : pc + 1 = pc') (k : own_Goal p e below Φ T (mkF m pc' Ls (.long v :: rest))) : own_Goal p e below Φ T (mkF m pc Ls (.long y :: .long x :: rest)) := by
  subst hp hv
  exact own_pure X (fun X hx hby _ a => XT.land X.here hx rfl (hb hby hd) rfl a) k
theorem own_lor (X : own_St p l e R s m args below meth c Z own bytes ml rt nm n0 T h cells slots) {x y v : Int64} (hv : x ||| y = v) (hd : decode bytes pc = .ok (.lor, 1)) (hp : pc + 1 = pc') (k : own_Goal p e below Φ T (mkF m pc' Ls (.long v :: rest))) : own_Goal p e below Φ T (mkF m pc Ls (.long y :: .long x :: rest)) := by
  subst hp hv
  exact own_pure X (fun X hx hby _ a => XT.lor X.here hx rfl (hb hby hd) rfl a) k
theorem own_ldiv (X : own_St p l e R s m args below meth c Z own bytes ml rt nm n0 T h cells slots) {x y v : Int64} (hy : y ≠ 0) (hv : x / y = v) (hd : decode bytes pc = .ok (.ldiv, 1)) (hp : pc + 1 = pc') (k : own_Goal p e below Φ T (mkF m pc' Ls (.long v :: rest))) : own_Goal p e below Φ T (mkF m pc Ls (.long y :: .long x :: rest)) := by
  subst hp hv
  exact own_pure X (fun X hx hby _ a => XT.ldiv X.here hx rfl (hb hby hd) rfl hy a) k
theorem own_lrem (X : own_St p l e R s m args below meth c Z own bytes ml rt nm n0 T h cells slots) {x y v : Int64} (hy : y ≠ 0) (hv : x - (x / y) * y = v) (hd : decode bytes pc = .ok (.lrem, 1)) (hp : pc + 1 = pc') (k : own_Goal p e below Φ T (mkF m pc' Ls (.long v :: rest))) : own_Goal p e below Φ T (mkF m pc Ls (.long y :: .long x :: rest)) := by
  subst hp hv
  exact own_pure X (fun X hx hby _ a => XT.lrem X.here hx rfl (hb hby hd) rfl hy a) k
theorem own_lneg (X : own_St p l e R s m args below meth c Z own bytes ml rt nm n0 T h cells slots) {x v : Int64} (hv : -x = v) (hd : decode bytes pc = .ok (.lneg, 1)) (hp : pc + 1 = pc') (k : own_Goal p e below Φ T (mkF m pc' Ls (.long v :: rest))) : own_Goal p e below Φ T (mkF m pc Ls (.long x :: rest)) := by
  subst hp hv
  exact own_pure X (fun X hx hby _ a => XT.lneg X.here hx rfl (hb hby hd) rfl a) k
theorem own_lshl (X : own_St p l e R s m args below meth c Z own bytes ml rt nm n0 T h cells slots) {x v : Int64} {y : Int32} (hv : x <<< (y.toInt64 &&& 63) = v) (hd : decode bytes pc = .ok (.lshl, 1)) (hp : pc + 1 = pc') (k : own_Goal p e below Φ T (mkF m pc' Ls (.long v :: rest))) : own_Goal p e below Φ T (mkF m pc Ls (.int y :: .long x :: rest)) := by
  subst hp hv
  exact own_pure X (fun X hx hby _ a => XT.lshl X.here hx rfl (hb hby hd) rfl a) k
theorem own_lcmp (X : own_St p l e R s m args below meth c Z own bytes ml rt nm n0 T h cells slots) {x y : Int64} {v : Int32} (hv : XT.cmpL x y = v) (hd : decode bytes pc = .ok (.lcmp, 1)) (hp : pc + 1 = pc') (k : own_Goal p e below Φ T (mkF m pc' Ls (.int v :: rest))) : own_Goal p e below Φ T (mkF m pc Ls (.long y :: .long x :: rest)) := by
  subst hp hv
  exact own_pure X (fun X hx hby _ a => XT.lcmp X.here hx rfl (hb hby hd) rfl a) k
theorem own_i2l (X : own_St p l e R s m args below meth c Z own bytes ml rt nm n0 T h cells slots) {x : Int32} {v : Int64} (hv : x.toInt64 = v) (hd : decode bytes pc = .ok (.i2l, 1)) (hp : pc + 1 = pc') (k : own_Goal p e below Φ T (mkF m pc' Ls (.long v :: rest))) : own_Goal p e below Φ T (mkF m pc Ls (.int x :: rest)) := by
  subst hp hv
  exact own_pure X (fun X hx hby _ a => XT.i2l X.here hx rfl (hb hby hd) rfl a) k
theorem own_l2i (X : own_St p l e R s m args below meth c Z own bytes ml rt nm n0 T h cells slots) {x : Int64} {v : Int32} (hv : x.toInt32 = v) (hd : decode bytes pc = .ok (.l2i, 1)) (hp : pc + 1 = pc') (k : own_Goal p e below Φ T (mkF m pc' Ls (.int v :: rest))) : own_Goal p e below Φ T (mkF m pc Ls (.long x :: rest)) := by
  subst hp hv
  exact own_pure X (fun X hx hby _ a => XT.l2i X.here hx rfl (hb hby hd) rfl a) k
theorem own_i2c (X : own_St p l e R s m args below meth c Z own bytes ml rt nm n0 T h cells slots) {x v : Int32} (hv : x.toUInt32.toUInt16.toUInt32.toInt32 = v) (hd : decode bytes pc = .ok (.i2c, 1)) (hp : pc + 1 = pc') (k : own_Goal p e below Φ T (mkF m pc' Ls (.int v :: rest))) : own_Goal p e below Φ T (mkF m pc Ls (.int x :: rest)) := by
  subst hp hv
  exact own_pure X (fun X hx hby _ a => XT.i2c X.here hx rfl (hb hby hd) rfl a) k
theorem own_i2d (X : own_St p l e R s m args below meth c Z own bytes ml rt nm n0 T h cells slots) {x : Int32} {v : UInt64} (hv : FP.i2d x = v) (hd : decode bytes pc = .ok (.i2d, 1)) (hp : pc + 1 = pc') (k : own_Goal p e below Φ T (mkF m pc' Ls (.double v :: rest))) : own_Goal p e below Φ T (mkF m pc Ls (.int x :: rest)) := by
  subst hp
  exact own_pure X (fun X hx hby _ a => XS.i2dS X.here hx rfl (hb hby hd) rfl hv a) k
theorem own_l2d (X : own_St p l e R s m args below meth c Z own bytes ml rt nm n0 T h cells slots) {x : Int64} {v : UInt64} (hv : FP.l2d x = v) (hd : decode bytes pc = .ok (.l2d, 1)) (hp : pc + 1 = pc') (k : own_Goal p e below Φ T (mkF m pc' Ls (.double v :: rest))) : own_Goal p e below Φ T (mkF m pc Ls (.long x :: rest)) := by
  subst hp
  exact own_pure X (fun X hx hby _ a => XS.l2dS X.here hx rfl (hb hby hd) rfl hv a) k
theorem own_dadd (X : own_St p l e R s m args below meth c Z own bytes ml rt nm n0 T h cells slots) {x y v : UInt64} (hv : FP.dadd x y = v) (hn : Jvm.Free.Fl.NoNaN64 v) (hd : decode bytes pc = .ok (.dadd, 1)) (hp : pc + 1 = pc') (k : own_Goal p e below Φ T (mkF m pc' Ls (.double v :: rest))) : own_Goal p e below Φ T (mkF m pc Ls (.double y :: .double x :: rest)) := by
  subst hp
  exact own_pure X (fun X hx hby _ a => XS.daddS X.here hx rfl (hb hby hd) rfl (by rw [hv]; exact hn) hv a) k
theorem own_dsub (X : own_St p l e R s m args below meth c Z own bytes ml rt nm n0 T h cells slots) {x y v : UInt64} (hv : FP.dsub x y = v) (hn : Jvm.Free.Fl.NoNaN64 v) (hd : decode bytes pc = .ok (.dsub, 1)) (hp : pc + 1 = pc') (k : own_Goal p e below Φ T (mkF m pc' Ls (.double v :: rest))) : own_Goal p e below Φ T (mkF m pc Ls (.double y :: .double x :: rest)) := by
  subst hp
  exact own_pure X (fun X hx hby _ a => XS.dsubS X.here hx rfl (hb hby hd) rfl (by rw [hv]; exact hn) hv a) k
theorem own_dmul (X : own_St p l e R s m args below meth c Z own bytes ml rt nm n0 T h cells slots) {x y v : UInt64} (hv : FP.dmul x y = v) (hn : Jvm.Free.Fl.NoNaN64 v) (hd : decode bytes pc = .ok (.dmul, 1)) (hp : pc + 1 = pc') (k : own_Goal p e below Φ T (mkF m pc' Ls (.double v :: rest))) : own_Goal p e below Φ T (mkF m pc Ls (.double y :: .double x :: rest)) := by
  subst hp
  exact own_pure X (fun X hx hby _ a => XS.dmulS X.here hx rfl (hb hby hd) rfl (by rw [hv]; exact hn) hv a) k
theorem own_ddiv (X : own_St p l e R s m args below meth c Z own bytes ml rt nm n0 T h cells slots) {x y v : UInt64} (hv : FP.ddiv x y = v) (hn : Jvm.Free.Fl.NoNaN64 v) (hd : decode bytes pc = .ok (.ddiv, 1)) (hp : pc + 1 = pc') (k : own_Goal p e below Φ T (mkF m pc' Ls (.double v :: rest))) : own_Goal p e below Φ T (mkF m pc Ls (.double y :: .double x :: rest)) := by
  subst hp
  exact own_pure X (fun X hx hby _ a => XS.ddivS X.here hx rfl (hb hby hd) rfl (by rw [hv]; exact hn) hv a) k
theorem own_dneg (X : own_St p l e R s m args below meth c Z own bytes ml rt nm n0 T h cells slots) {x v : UInt64} (hv : FP.dneg x = v) (hd : decode bytes pc = .ok (.dneg, 1)) (hp : pc + 1 = pc') (k : own_Goal p e below Φ T (mkF m pc' Ls (.double v :: rest))) : own_Goal p e below Φ T (mkF m pc Ls (.double x :: rest)) := by
  subst hp
  exact own_pure X (fun X hx hby _ a => XS.dnegS X.here hx rfl (hb hby hd) rfl hv a) k
theorem own_dcmp (X : own_St p l e R s m args below meth c Z own bytes ml rt nm n0 T h cells slots) {o : CmpOp} {x y : UInt64} {v : Int32} (hv : cmpValue (FP.dcmp x y) o = v) (hd : decode bytes pc = .ok (.dcmp o, 1)) (hp : pc + 1 = pc') (k : own_Goal p e below Φ T (mkF m pc' Ls (.int v :: rest))) : own_Goal p e below Φ T (mkF m pc Ls (.double y :: .double x :: rest)) := by
  subst hp
  exact own_pure X (fun X hx hby _ a => XS.dcmpS X.here hx rfl (hb hby hd) rfl hv a) k
theorem own_dremS {tb : Tables} [Ours tb] {e : Env} {below : List Frame} {T target : State} {m : MethodId} {c : Code} {g : JFrame} (h : At T m c below) (hx : tb.exec = Jvm.exec) (hg : g.method = m) {x y v : UInt64} {rest : List Value} (hd : decode c.code g.pc = .ok (.drem, 1)) (hs : g.stack = .double y :: .double x :: rest) (hn : Jvm.Free.Fl.NoNaN64 (FP.drem x y)) (hv : FP.drem x y = v)
    (hr : Steps tb e below (T.setTop { g with pc := g.pc + 1, stack := .double v :: rest }) target) : Steps tb e below (T.setTop g) target := by
  subst hg
  subst hv
  obtain ⟨gm, gp, gl, gs, gk, ge, gr⟩ := g
  simp only at hs hd
  subst hs
  jvm_step h [h.top, hx, hd, Op.drem.at_number h.top hn]
  exact hr
theorem own_drem (X : own_St p l e R s m args below meth c Z own bytes ml rt nm n0 T h cells slots) {x y v : UInt64} (hv : FP.drem x y = v) (hn : Jvm.Free.Fl.NoNaN64 v) (hd : decode bytes pc = .ok (.drem, 1)) (hp : pc + 1 = pc') (k : own_Goal p e below Φ T (mkF m pc' Ls (.double v :: rest))) : own_Goal p e below Φ T (mkF m pc Ls (.double y :: .double x :: rest)) := by
  subst hp
  exact own_pure X (fun X hx hby _ a => own_dremS X.here hx rfl (hb hby hd) rfl (by rw [hv]; exact hn) hv a) k
theorem own_dup (X : own_St p l e R s m args below meth c Z own bytes ml rt nm n0 T h cells slots) {x : Value} (hc : x.category = 1) (hd : decode bytes pc = .ok (.dup, 1)) (hp : pc + 1 = pc') (k : own_Goal p e below Φ T (mkF m pc' Ls (x :: x :: rest))) : own_Goal p e below Φ T (mkF m pc Ls (x :: rest)) := by
  subst hp
  exact own_pure X (fun X hx hby _ a => XS.dup X.here hx rfl (hb hby hd) rfl hc a) k
theorem own_dup2 (X : own_St p l e R s m args below meth c Z own bytes ml rt nm n0 T h cells slots) {x y : Value} (hc : x.category = 1) (hc' : y.category = 1) (hd : decode bytes pc = .ok (.dup2, 1)) (hp : pc + 1 = pc') (k : own_Goal p e below Φ T (mkF m pc' Ls (x :: y :: x :: y :: rest))) : own_Goal p e below Φ T (mkF m pc Ls (x :: y :: rest)) := by
  subst hp
  exact own_pure X (fun X hx hby _ a => XT.dup2 X.here hx rfl (hb hby hd) rfl hc hc' a) k
theorem own_pop (X : own_St p l e R s m args below meth c Z own bytes ml rt nm n0 T h cells slots) {x : Value} (hc : x.category = 1) (hd : decode bytes pc = .ok (.pop, 1)) (hp : pc + 1 = pc') (k : own_Goal p e below Φ T (mkF m pc' Ls (rest))) : own_Goal p e below Φ T (mkF m pc Ls (x :: rest)) := by
  subst hp
  exact own_pure X (fun X hx hby _ a => XT.pop X.here hx rfl (hb hby hd) rfl hc a) k
theorem own_goto (X : own_St p l e R s m args below meth c Z own bytes ml rt nm n0 T h cells slots) {o : Int}  (hd : decode bytes pc = .ok (.goto o, 3)) (ho : 0 ≤ (pc : Int) + o) (hp : ((pc : Int) + o).toNat = pc') (k : own_Goal p e below Φ T (mkF m pc' Ls rest)) : own_Goal p e below Φ T (mkF m pc Ls (rest)) := by
  exact own_pure X (fun X hx hby _ a => XS.goto X.here hx rfl rfl (hb hby hd) ho hp a) k
theorem own_ifT (X : own_St p l e R s m args below meth c Z own bytes ml rt nm n0 T h cells slots) {o : Int} {cd : ClassFile.Cond} {x : Int32} (hc : ifCond.holds cd x = true) (hd : decode bytes pc = .ok (.ifCond cd o, 3)) (ho : 0 ≤ (pc : Int) + o) (hp : ((pc : Int) + o).toNat = pc') (k : own_Goal p e below Φ T (mkF m pc' Ls rest)) : own_Goal p e below Φ T (mkF m pc Ls (.int x :: rest)) := by
  exact own_pure X (fun X hx hby _ a => XS.ifYes X.here hx rfl rfl (hb hby hd) rfl hc ho hp a) k
theorem own_ifF (X : own_St p l e R s m args below meth c Z own bytes ml rt nm n0 T h cells slots) {o : Int} {cd : ClassFile.Cond} {x : Int32} (hc : ifCond.holds cd x = false) (hd : decode bytes pc = .ok (.ifCond cd o, 3)) (hp : pc + 3 = pc') (k : own_Goal p e below Φ T (mkF m pc' Ls rest)) : own_Goal p e below Φ T (mkF m pc Ls (.int x :: rest)) := by
  subst hp
  exact own_pure X (fun X hx hby _ a => XS.ifNo X.here hx rfl (hb hby hd) rfl hc a) k
theorem own_icmpT (X : own_St p l e R s m args below meth c Z own bytes ml rt nm n0 T h cells slots) {o : Int} {cd : ClassFile.Cond} {x y : Int32} (hc : if_icmp.holds cd x y = true) (hd : decode bytes pc = .ok (.if_icmp cd o, 3)) (ho : 0 ≤ (pc : Int) + o) (hp : ((pc : Int) + o).toNat = pc') (k : own_Goal p e below Φ T (mkF m pc' Ls rest)) : own_Goal p e below Φ T (mkF m pc Ls (.int y :: .int x :: rest)) := by
  exact own_pure X (fun X hx hby _ a => XS.icmpYes X.here hx rfl rfl (hb hby hd) rfl hc ho hp a) k
theorem own_icmpF (X : own_St p l e R s m args below meth c Z own bytes ml rt nm n0 T h cells slots) {o : Int} {cd : ClassFile.Cond} {x y : Int32} (hc : if_icmp.holds cd x y = false) (hd : decode bytes pc = .ok (.if_icmp cd o, 3)) (hp : pc + 3 = pc') (k : own_Goal p e below Φ T (mkF m pc' Ls rest)) : own_Goal p e below Φ T (mkF m pc Ls (.int y :: .int x :: rest)) := by
  subst hp
  exact own_pure X (fun X hx hby _ a => XS.icmpNo X.here hx rfl (hb hby hd) rfl hc a) k
theorem own_ifnullT (X : own_St p l e R s m args below meth c Z own bytes ml rt nm n0 T h cells slots) {o : Int}  (hd : decode bytes pc = .ok (.ifnull o, 3)) (ho : 0 ≤ (pc : Int) + o) (hp : ((pc : Int) + o).toNat = pc') (k : own_Goal p e below Φ T (mkF m pc' Ls rest)) : own_Goal p e below Φ T (mkF m pc Ls (.null :: rest)) := by
  exact own_pure X (fun X hx hby _ a => XS.ifnullYes X.here hx rfl rfl (hb hby hd) rfl ho hp a) k
theorem own_ifnullF (X : own_St p l e R s m args below meth c Z own bytes ml rt nm n0 T h cells slots) {o : Int} {b : Addr} (hd : decode bytes pc = .ok (.ifnull o, 3)) (hp : pc + 3 = pc') (k : own_Goal p e below Φ T (mkF m pc' Ls rest)) : own_Goal p e below Φ T (mkF m pc Ls (.ref b :: rest)) := by
  subst hp
  exact own_pure X (fun X hx hby _ a => XS.ifnullNo X.here hx rfl (hb hby hd) rfl a) k
theorem own_ifnonnullT (X : own_St p l e R s m args below meth c Z own bytes ml rt nm n0 T h cells slots) {o : Int} {b : Addr} (hd : decode bytes pc = .ok (.ifnonnull o, 3)) (ho : 0 ≤ (pc : Int) + o) (hp : ((pc : Int) + o).toNat = pc') (k : own_Goal p e below Φ T (mkF m pc' Ls rest)) : own_Goal p e below Φ T (mkF m pc Ls (.ref b :: rest)) := by
  exact own_pure X (fun X hx hby _ a => XT.ifnonnullYes X.here hx rfl rfl (hb hby hd) rfl ho hp a) k
theorem own_ifnonnullF (X : own_St p l e R s m args below meth c Z own bytes ml rt nm n0 T h cells slots) {o : Int}  (hd : decode bytes pc = .ok (.ifnonnull o, 3)) (hp : pc + 3 = pc') (k : own_Goal p e below Φ T (mkF m pc' Ls rest)) : own_Goal p e below Φ T (mkF m pc Ls (.null :: rest)) := by
  subst hp
  exact own_pure X (fun X hx hby _ a => XT.ifnonnullNo X.here hx rfl (hb hby hd) rfl a) k
theorem own_ldcI (X : own_St p l e R s m args below meth c Z own bytes ml rt nm n0 T h cells slots) {i : Nat} {v : Int32} (w : (Jvm.Cond.constant own i v).before a0 Z = true) (hd : decode bytes pc = .ok (.ldc i, 2)) (hp : pc + 2 = pc') (k : own_Goal p e below Φ T (mkF m pc' Ls (.int v :: rest))) : own_Goal p e below Φ T (mkF m pc Ls rest) := by
  subst hp
  obtain ⟨locs, X, -, -, -, hx, hZ, hown, hby, -⟩ := X
  exact own_step (fun t a => X.ldcInt hx hown (mvT hZ w) (g := mkF m pc Ls rest) rfl (hb hby hd) t a) k
theorem own_ldcJ (X : own_St p l e R s m args below meth c Z own bytes ml rt nm n0 T h cells slots) {i : Nat} {v : Int64} (w : (Jvm.Cond.constantLong own i v).before a0 Z = true) (hd : decode bytes pc = .ok (.ldc2_w i, 3)) (hp : pc + 3 = pc') (k : own_Goal p e below Φ T (mkF m pc' Ls (.long v :: rest))) : own_Goal p e below Φ T (mkF m pc Ls rest) := by
  subst hp
  obtain ⟨locs, X, -, -, -, hx, hZ, hown, hby, -⟩ := X
  exact own_step (fun t a => X.ldc2Long hx hown (mvT hZ w) (g := mkF m pc Ls rest) rfl (hb hby hd) t a) k
theorem own_ldcD (X : own_St p l e R s m args below meth c Z own bytes ml rt nm n0 T h cells slots) {i : Nat} {v : UInt64} (w : (Jvm.Cond.constantDouble own i v).before a0 Z = true) (hd : decode bytes pc = .ok (.ldc2_w i, 3)) (hp : pc + 3 = pc') (k : own_Goal p e below Φ T (mkF m pc' Ls (.double v :: rest))) : own_Goal p e below Φ T (mkF m pc Ls rest) := by
  subst hp
  obtain ⟨locs, X, -, -, -, hx, hZ, hown, hby, -⟩ := X
  exact own_step (fun t a => X.ldc2DoubleC hx hown (mvT hZ w) (g := mkF m pc Ls rest) rfl (hb hby hd) t a) k
theorem own_retI (X : own_St p l e R s m args below meth c Z own bytes ml rt nm n0 T h cells slots) {v : Int32} (hd : decode bytes pc = .ok (.ireturn, 1)) (hr : rt = some .int) (hc : cells ≤ R.cells) (hs : slots ≤ R.slots) (q : Q (some (.int v)) h) : own_Goal p e below (own_Fin below s R n0 Q) T (mkF m pc Ls (.int v :: rest)) := by
  obtain ⟨locs, X, N, e1, n1, hx, hZ, hown, hby, -, hrt, hlk, -⟩ := X
  obtain ⟨fs, hl, hrun, hended, hW, hsame⟩ := X.leave (v := some (.int v)) (fun z => by rw [hrt, hr] at z; cases z) hlk
  exact ⟨_, _, retOut X hx (hrt.trans hr) rfl (Or.inl ⟨rfl, Or.inl rfl, _, rfl⟩) (hb hby hd) hl, hrun, hended, _, _, rfl, ⟨⟨by show Q _ T.heap; rw [e1]; exact q, by show n0 ≤ T.heap.size; rw [e1]; exact n1⟩, N⟩, ⟨_, rfl⟩, hW, hsame.mono hc hs⟩
theorem own_retJ (X : own_St p l e R s m args below meth c Z own bytes ml rt nm n0 T h cells slots) {v : Int64} (hd : decode bytes pc = .ok (.lreturn, 1)) (hr : rt = some .long) (hc : cells ≤ R.cells) (hs : slots ≤ R.slots) (q : Q (some (.long v)) h) : own_Goal p e below (own_Fin below s R n0 Q) T (mkF m pc Ls (.long v :: rest)) := by
  obtain ⟨locs, X, N, e1, n1, hx, hZ, hown, hby, -, hrt, hlk, -⟩ := X
  obtain ⟨fs, hl, hrun, hended, hW, hsame⟩ := X.leave (v := some (.long v)) (fun z => by rw [hrt, hr] at z; cases z) hlk
  exact ⟨_, _, retOut X hx (hrt.trans hr) rfl (Or.inr (Or.inl ⟨rfl, rfl, _, rfl⟩)) (hb hby hd) hl, hrun, hended, _, _, rfl, ⟨⟨by show Q _ T.heap; rw [e1]; exact q, by show n0 ≤ T.heap.size; rw [e1]; exact n1⟩, N⟩, ⟨_, rfl⟩, hW, hsame.mono hc hs⟩
theorem own_retD (X : own_St p l e R s m args below meth c Z own bytes ml rt nm n0 T h cells slots) {v : UInt64} (hd : decode bytes pc = .ok (.dreturn, 1)) (hr : rt = some .double) (hc : cells ≤ R.cells) (hs : slots ≤ R.slots) (q : Q (some (.double v)) h) : own_Goal p e below (own_Fin below s R n0 Q) T (mkF m pc Ls (.double v :: rest)) := by
  obtain ⟨locs, X, N, e1, n1, hx, hZ, hown, hby, -, hrt, hlk, -⟩ := X
  obtain ⟨fs, hl, hrun, hended, hW, hsame⟩ := X.leave (v := some (.double v)) (fun z => by rw [hrt, hr] at z; cases z) hlk
  exact ⟨_, _, retOut X hx (hrt.trans hr) rfl (Or.inr (Or.inr (Or.inl ⟨rfl, rfl, _, rfl⟩))) (hb hby hd) hl, hrun, hended, _, _, rfl, ⟨⟨by show Q _ T.heap; rw [e1]; exact q, by show n0 ≤ T.heap.size; rw [e1]; exact n1⟩, N⟩, ⟨_, rfl⟩, hW, hsame.mono hc hs⟩
theorem own_retZ (X : own_St p l e R s m args below meth c Z own bytes ml rt nm n0 T h cells slots) {v : Int32} (hv : v = 0 ∨ v = 1) (hd : decode bytes pc = .ok (.ireturn, 1)) (hr : rt = some .boolean) (hc : cells ≤ R.cells) (hs : slots ≤ R.slots) (q : Q (some (.int v)) h) : own_Goal p e below (own_Fin below s R n0 Q) T (mkF m pc Ls (.int v :: rest)) := by
  obtain ⟨locs, X, N, e1, n1, hx, hZ, hown, hby, -, hrt, hlk, -⟩ := X
  obtain ⟨fs, hl, hrun, hended, hW, hsame⟩ := X.leave (v := some (.int v)) (fun z => by rw [hrt, hr] at z; cases z) hlk
  have hn : nar .boolean v = v := by rcases hv with rfl | rfl <;> rfl
  exact ⟨_, _, retN X hx (t := .boolean) (hrt.trans hr) (by simp) (hb hby hd) (by rw [hn]; exact hl), hrun, hended, _, _, rfl, ⟨⟨by show Q _ T.heap; rw [e1]; exact q, by show n0 ≤ T.heap.size; rw [e1]; exact n1⟩, N⟩, ⟨_, rfl⟩, hW, hsame.mono hc hs⟩
theorem own_retA (X : own_St p l e R s m args below meth c Z own bytes ml rt nm n0 T h cells slots) {b : Addr} {t : FieldType} (ht : t.isReference = true) (hd : decode bytes pc = .ok (.areturn, 1)) (hr : rt = some t) (hc : cells ≤ R.cells) (hs : slots ≤ R.slots) (q : Q (some (.ref b)) h) : own_Goal p e below (own_Fin below s R n0 Q) T (mkF m pc Ls (.ref b :: rest)) := by
  obtain ⟨locs, X, N, e1, n1, hx, hZ, hown, hby, -, hrt, hlk, -⟩ := X
  obtain ⟨fs, hl, hrun, hended, hW, hsame⟩ := X.leave (v := some (.ref b)) (fun z => by rw [hrt, hr] at z; cases z) hlk
  have hn : narrow t (.ref b) = .ref b := by cases t <;> rfl
  exact ⟨_, _, retOut X hx (hrt.trans hr) hn (Or.inr (Or.inr (Or.inr (Or.inr ⟨rfl, ht, rfl⟩)))) (hb hby hd) hl, hrun, hended, _, _, rfl, ⟨⟨by show Q _ T.heap; rw [e1]; exact q, by show n0 ≤ T.heap.size; rw [e1]; exact n1⟩, N⟩, ⟨_, rfl⟩, hW, hsame.mono hc hs⟩
theorem own_retV (X : own_St p l e R s m args below meth c Z own bytes ml rt nm n0 T h cells slots) (hd : decode bytes pc = .ok (.return_, 1)) (hr : rt = none) (hc : cells ≤ R.cells) (hs : slots ≤ R.slots) (q : Q none h) : own_Goal p e below (own_Fin below s R n0 Q) T (mkF m pc Ls []) := by
  obtain ⟨locs, X, N, e1, n1, hx, hZ, hown, hby, -, hrt, hlk, -⟩ := X
  obtain ⟨fs, hl, hrun, hended, hW, hsame⟩ := X.leave (v := none) (fun _ => rfl) hlk
  exact ⟨_, _, X.returnOut hx (hrt.trans hr) (hb hby hd) hl, hrun, hended, _, _, rfl, ⟨⟨by show Q _ T.heap; rw [e1]; exact q, by show n0 ≤ T.heap.size; rw [e1]; exact n1⟩, N⟩, ⟨_, rfl⟩, hW, hsame.mono hc hs⟩
/-- an array and all it holds -/
def own_Vec (Z : State) (h : Heap) (a : Addr) (ty : FieldType) (vs : List Value) : Prop := ∃ c : Cell, Arr Z h a c ty ∧ c.slots = vs.toArray
theorem own_Vec.lt {a : Addr} {ty : FieldType} {vs : List Value} (F : own_Vec Z h a ty vs) : a < h.size := by obtain ⟨c, A, -⟩ := F; exact A.lt
theorem own_Vec.ext {h' : Heap} {a : Addr} {ty : FieldType} {vs : List Value} (F : own_Vec Z h a ty vs) (E : Ext h h') : own_Vec Z h' a ty vs := by obtain ⟨c, A, r⟩ := F; exact ⟨c, A.ext E, r⟩
theorem own_Vec.other {h' : Heap} {a b : Addr} {sl : Nat} {v : Value} {ty : FieldType} {vs : List Value} (F : own_Vec Z h b ty vs) (W : Wr h h' a sl v) (q : b ≠ a) : own_Vec Z h' b ty vs := by obtain ⟨c, A, r⟩ := F; exact ⟨c, A.other W q, r⟩
theorem own_Vec.keep {h' : Heap} {ws : List Addr} {a : Addr} {ty : FieldType} {vs : List Value} (F : own_Vec Z h a ty vs) (K : Keep h h' ws) (q : a ∉ ws) : own_Vec Z h' a ty vs := by obtain ⟨c, A, r⟩ := F; exact ⟨c, ⟨K.2.1 a c A.1 q, A.2⟩, r⟩
theorem own_Vec.set {h' : Heap} {a : Addr} {i : Nat} {v : Value} {ty : FieldType} {vs : List Value} (F : own_Vec Z h a ty vs) (W : Wr h h' a i v) : own_Vec Z h' a ty (vs.set i v) := by
  obtain ⟨c, A, r⟩ := F
  refine ⟨_, A.same W, ?_⟩
  show c.slots.setIfInBounds i v = _
  rw [r]; simp
theorem own_lt_ne {a b : Addr} (q : b < h.size) (g : a = h.size) : b ≠ a := by subst g; exact Nat.ne_of_lt q
/-- an index in an array, as the library's laws ask it -/
theorem own_in {n i : Nat} {j : Int32} (hj : j.toNatClampNeg = i) (h0 : ¬ j < 0) (hi : i < n) : ¬ (j < 0 ∨ n ≤ j.toNatClampNeg) := by
  rw [hj]; rintro (q | q)
  · exact h0 q
  · omega
theorem own_len (X : own_St p l e R s m args below meth c Z own bytes ml rt nm n0 T h cells slots) {a : Addr} {ty : FieldType} {vs : List Value} (F : own_Vec Z h a ty vs) {v : Int32} (hv : vs.length.toInt32 = v) (hd : decode bytes pc = .ok (.arraylength, 1)) (hp : pc + 1 = pc') (k : own_Goal p e below Φ T (mkF m pc' Ls (.int v :: rest))) : own_Goal p e below Φ T (mkF m pc Ls (.ref a :: rest)) := by
  subst hp
  obtain ⟨locs, X, N, e1, -, hx, hZ, hown, hby, -⟩ := X
  obtain ⟨cl, A, r⟩ := F
  have e2 : cl.slots.size.toInt32 = v := by rw [r]; simpa using hv
  exact own_step (fun t a => X.arraylength hx (cell := cl) (by rw [e1]; exact A.1) (State.isArrayOf_alike hZ.alike A.2.1) (g := mkF m pc Ls _) rfl rfl (hb hby hd) t (by rw [e2]; exact a)) k
theorem own_iaload (X : own_St p l e R s m args below meth c Z own bytes ml rt nm n0 T h cells slots) {a : Addr} {vs : List Value} (F : own_Vec Z h a .int vs) {j : Int32} {i : Nat} {v : Value} (hj : j.toNatClampNeg = i) (h0 : ¬ j < 0) (hv : vs[i]? = some v) (hd : decode bytes pc = .ok (.iaload, 1)) (hp : pc + 1 = pc') (k : own_Goal p e below Φ T (mkF m pc' Ls (v :: rest))) : own_Goal p e below Φ T (mkF m pc Ls (.int j :: .ref a :: rest)) := by
  subst hp
  obtain ⟨locs, X, N, e1, -, hx, hZ, hown, hby, -⟩ := X
  obtain ⟨cl, A, r⟩ := F
  have q1 : i < vs.length := (List.getElem?_eq_some_iff.mp hv).1
  exact own_step (fun t a => X.iaload hx (cell := cl) (by rw [e1]; exact A.1) (State.isArrayOf_alike hZ.alike A.2.1) A.2.2 (own_in hj h0 (by rw [r]; simpa using q1)) (by rw [hj, r]; simpa using hv) (g := mkF m pc Ls _) rfl rfl (hb hby hd) t a) k
theorem own_laload (X : own_St p l e R s m args below meth c Z own bytes ml rt nm n0 T h cells slots) {a : Addr} {vs : List Value} (F : own_Vec Z h a .long vs) {j : Int32} {i : Nat} {v : Value} (hj : j.toNatClampNeg = i) (h0 : ¬ j < 0) (hv : vs[i]? = some v) (hd : decode bytes pc = .ok (.laload, 1)) (hp : pc + 1 = pc') (k : own_Goal p e below Φ T (mkF m pc' Ls (v :: rest))) : own_Goal p e below Φ T (mkF m pc Ls (.int j :: .ref a :: rest)) := by
  subst hp
  obtain ⟨locs, X, N, e1, -, hx, hZ, hown, hby, -⟩ := X
  obtain ⟨cl, A, r⟩ := F
  have q1 : i < vs.length := (List.getElem?_eq_some_iff.mp hv).1
  exact own_step (fun t a => X.laload hx (cell := cl) (by rw [e1]; exact A.1) (State.isArrayOf_alike hZ.alike A.2.1) A.2.2 (own_in hj h0 (by rw [r]; simpa using q1)) (by rw [hj, r]; simpa using hv) (g := mkF m pc Ls _) rfl rfl (hb hby hd) t a) k
theorem own_daload (X : own_St p l e R s m args below meth c Z own bytes ml rt nm n0 T h cells slots) {a : Addr} {vs : List Value} (F : own_Vec Z h a .double vs) {j : Int32} {i : Nat} {v : Value} (hj : j.toNatClampNeg = i) (h0 : ¬ j < 0) (hv : vs[i]? = some v) (hd : decode bytes pc = .ok (.daload, 1)) (hp : pc + 1 = pc') (k : own_Goal p e below Φ T (mkF m pc' Ls (v :: rest))) : own_Goal p e below Φ T (mkF m pc Ls (.int j :: .ref a :: rest)) := by
  subst hp
  obtain ⟨locs, X, N, e1, -, hx, hZ, hown, hby, -⟩ := X
  obtain ⟨cl, A, r⟩ := F
  have q1 : i < vs.length := (List.getElem?_eq_some_iff.mp hv).1
  exact own_step (fun t a => X.daload hx (cell := cl) (by rw [e1]; exact A.1) (State.isArrayOf_alike hZ.alike A.2.1) A.2.2 (own_in hj h0 (by rw [r]; simpa using q1)) (by rw [hj, r]; simpa using hv) (g := mkF m pc Ls _) rfl rfl (hb hby hd) t a) k
theorem own_iastore (X : own_St p l e R s m args below meth c Z own bytes ml rt nm n0 T h cells slots) {a : Addr} {vs : List Value} (F : own_Vec Z h a .int vs) (ha : n0 ≤ a) {j : Int32} {i : Nat} {x : Int32} (hj : j.toNatClampNeg = i) (h0 : ¬ j < 0) (hi : i < vs.length) (hd : decode bytes pc = .ok (.iastore, 1)) (hp : pc + 1 = pc')
    (k : ∀ T' h', own_St p l e R s m args below meth c Z own bytes ml rt nm n0 T' h' cells slots → Wr h h' a i (.int x) → own_Vec Z h' a .int (vs.set i (.int x)) → own_Goal p e below Φ T' (mkF m pc' Ls rest)) : own_Goal p e below Φ T (mkF m pc Ls (.int x :: .int j :: .ref a :: rest)) := by
  subst hp
  obtain ⟨locs, X, N, e1, n1, hx, hZ, hown, hby, r0⟩ := X
  have F0 := F
  obtain ⟨cl, A, r⟩ := F
  obtain ⟨T', h', X', e', W, st⟩ := stI X hx hZ e1 A (own_in hj h0 (by rw [r]; simpa using hi)) (g := mkF m pc Ls _) rfl rfl (hb hby hd)
  have N' := Fr.snoc X' N ha
  rw [hj] at W
  exact own_step st (k T' h' ⟨_, X', N', e', by rw [W.size]; exact n1, hx, hZ, hown, hby, r0⟩ W (F0.set W))
theorem own_dastore (X : own_St p l e R s m args below meth c Z own bytes ml rt nm n0 T h cells slots) {a : Addr} {vs : List Value} (F : own_Vec Z h a .double vs) (ha : n0 ≤ a) {j : Int32} {i : Nat} {x : UInt64} (hj : j.toNatClampNeg = i) (h0 : ¬ j < 0) (hi : i < vs.length) (hd : decode bytes pc = .ok (.dastore, 1)) (hp : pc + 1 = pc')
    (k : ∀ T' h', own_St p l e R s m args below meth c Z own bytes ml rt nm n0 T' h' cells slots → Wr h h' a i (.double x) → own_Vec Z h' a .double (vs.set i (.double x)) → own_Goal p e below Φ T' (mkF m pc' Ls rest)) : own_Goal p e below Φ T (mkF m pc Ls (.double x :: .int j :: .ref a :: rest)) := by
  subst hp
  obtain ⟨locs, X, N, e1, n1, hx, hZ, hown, hby, r0⟩ := X
  have F0 := F
  obtain ⟨cl, A, r⟩ := F
  obtain ⟨T', h', X', e', W, st⟩ := stD X hx hZ e1 A (own_in hj h0 (by rw [r]; simpa using hi)) (g := mkF m pc Ls _) rfl rfl (hb hby hd)
  have N' := Fr.snoc X' N ha
  rw [hj] at W
  exact own_step st (k T' h' ⟨_, X', N', e', by rw [W.size]; exact n1, hx, hZ, hown, hby, r0⟩ W (F0.set W))
theorem own_newarray (X : own_St p l e R s m args below meth c Z own bytes ml rt nm n0 T h cells slots) {aty : ArrayType} {ty : FieldType} (hty : newarray.typeOf aty = ty) (w : (Jvm.Cond.arrayClass ty).before a0 Z = true) {j : Int32} {n : Nat} {vs : List Value} (hj : j.toNatClampNeg = n) (h0 : ¬ j < 0) (hn : n ≤ 1000) (hvs : List.replicate n (defaultValue ty) = vs) {cells' slots' : Nat} (hc' : cells + 1 = cells') (hs' : slots + n = slots') (hc : cells' ≤ R.cells) (hs : slots' ≤ R.slots) (hd : decode bytes pc = .ok (.newarray aty, 2)) (hp : pc + 2 = pc')
    (k : ∀ a T' h', a = h.size → n0 ≤ a → own_St p l e R s m args below meth c Z own bytes ml rt nm n0 T' h' cells' slots' → Ext h h' → own_Vec Z h' a ty vs → own_Goal p e below Φ T' (mkF m pc' Ls (.ref a :: rest))) : own_Goal p e below Φ T (mkF m pc Ls (.int j :: rest)) := by
  subst hp hty hvs hc' hs'
  obtain ⟨locs, X, N, e1, n1, hx, hZ, hown, hby, r0⟩ := X
  obtain ⟨T', h', cA, X', e', E, A, st⟩ := newP X hx hZ w e1 (g := mkF m pc Ls _) rfl (hb hby hd) rfl h0 (cap := n) (by omega) (by omega) hc hs
  refine own_step st (k _ T' h' rfl n1 ⟨_, X', N, e', Nat.le_trans n1 E.1, hx, hZ, hown, hby, r0⟩ E ⟨_, A, ?_⟩)
  simp [newA, hj]
theorem own_new (X : own_St p l e R s m args below meth c Z own bytes ml rt nm n0 T h cells slots) {i : Nat} {C : String} {n : Nat} (w : (Jvm.Cond.classLink own i C).before a0 Z = true) (wi : (Jvm.Cond.instantiable C n).before a0 Z = true) (wz : (Jvm.Cond.initialized C).before a0 Z = true) {cells' slots' : Nat} (hc' : cells + 1 = cells') (hs' : slots + n = slots') (hc : cells' ≤ R.cells) (hs : slots' ≤ R.slots) (hd : decode bytes pc = .ok (.new i, 3)) (hp : pc + 3 = pc')
    (k : ∀ a T' h', a = h.size → n0 ≤ a → own_St p l e R s m args below meth c Z own bytes ml rt nm n0 T' h' cells' slots' → Ext h h' → Exa Z h' a C → (∀ {O nm d : String} {ty : FieldType}, Laid Z a0 C O nm d → parseFieldDescriptor d = some ty → Fld Z h' a O nm d (defaultValue ty)) → own_Goal p e below Φ T' (mkF m pc' Ls (.ref a :: rest))) : own_Goal p e below Φ T (mkF m pc Ls rest) := by
  subst hp hc' hs'
  obtain ⟨locs, X, N, e1, n1, hx, hZ, hown, hby, r0⟩ := X
  obtain ⟨T', h', X', e', E, A, D, -, st⟩ := newO X hx hZ hown w wi wz e1 (g := mkF m pc Ls _) rfl (hb hby hd) hc hs
  exact own_step st (k _ T' h' rfl n1 ⟨_, X', N, e', Nat.le_trans n1 E.1, hx, hZ, hown, hby, r0⟩ E A D)
theorem own_getF (X : own_St p l e R s m args below meth c Z own bytes ml rt nm n0 T h cells slots) {i : Nat} {O n d : String} (w : (Jvm.Cond.fieldLink own i O n d).before a0 Z = true) {a : Addr} {v : Value} (F : Fld Z h a O n d v) (hd : decode bytes pc = .ok (.getfield i, 3)) (hp : pc + 3 = pc')
    (k : ∀ T', own_St p l e R s m args below meth c Z own bytes ml rt nm n0 T' h cells slots → own_Goal p e below Φ T' (mkF m pc' Ls (v :: rest))) : own_Goal p e below Φ T (mkF m pc Ls (.ref a :: rest)) := by
  subst hp
  obtain ⟨locs, X, N, e1, n1, hx, hZ, hown, hby, r0⟩ := X
  obtain ⟨T', X', e', st⟩ := getF X hx hZ hown (host := "") (Or.inl w) Via.refl e1 F (g := mkF m pc Ls _) rfl rfl (hb hby hd)
  exact own_step st (k T' ⟨_, X', N, e', n1, hx, hZ, hown, hby, r0⟩)
theorem own_putF (X : own_St p l e R s m args below meth c Z own bytes ml rt nm n0 T h cells slots) {i : Nat} {O n d C : String} {kk : Nat} {ty : FieldType} (w : (Jvm.Cond.fieldLink own i O n d).before a0 Z = true) {a : Addr} {v old : Value} (F : Fld Z h a O n d old) (E : Exa Z h a C) (L : (Jvm.Cond.lays C O n d).before a0 Z = true ∨ ((Jvm.Cond.laysFinal C O n d).before a0 Z = true ∧ own = O ∧ nm = "<init>")) (wi : (Jvm.Cond.instantiable C kk).before a0 Z = true) (hty : parseFieldDescriptor d = some ty) (hn : narrow ty v = v) (hf : fits ty v = true) (ha : n0 ≤ a) (hd : decode bytes pc = .ok (.putfield i, 3)) (hp : pc + 3 = pc')
    (k : ∀ T' h', own_St p l e R s m args below meth c Z own bytes ml rt nm n0 T' h' cells slots → Wr h h' a (RoadKit.slotOf Z O n d) v → own_Goal p e below Φ T' (mkF m pc' Ls rest)) : own_Goal p e below Φ T (mkF m pc Ls (v :: .ref a :: rest)) := by
  subst hp
  obtain ⟨locs, X, N, e1, n1, hx, hZ, hown, hby, q1, q2, q3, q4⟩ := X
  obtain ⟨T', h', X', e', W, st⟩ := putF X hx hZ hown (host := "") (Or.inl w) Via.refl e1 F E (L.imp id fun z => ⟨z.1, z.2.1, q4.trans z.2.2⟩) wi hty hn hf (g := mkF m pc Ls _) rfl rfl (hb hby hd)
  exact own_step st (k T' h' ⟨_, X', Fr.snoc X' N ha, e', by rw [W.size]; exact n1, hx, hZ, hown, hby, q1, q2, q3, q4⟩ W)
theorem own_initO (X : own_St p l e R s m args below meth c Z own bytes ml rt nm n0 T h cells slots) {i : Nat} (w1 : (Jvm.Cond.methodLink own i Lib.objectInit).before a0 Z = true) (w2 : (Jvm.Cond.instanceMethod Lib.objectInit).before a0 Z = true) (w3 : (Jvm.Cond.code Lib.objectInit ⟨#[0xb1]⟩ 1 none).before a0 Z = true) {a : Addr} (hsz : Ls.size = ml) (hf : 1 ≤ R.frames) {W : Nat} (hW : (rest.map fun v => v.category).sum ≤ W) (hl : W + 12 ≤ R.locals) (hd : decode bytes pc = .ok (.invokespecial i, 3)) (hp : pc + 3 = pc')
    (k : ∀ T', own_St p l e R s m args below meth c Z own bytes ml rt nm n0 T' h cells slots → own_Goal p e below Φ T' (mkF m pc' Ls rest)) : own_Goal p e below Φ T (mkF m pc Ls (.ref a :: rest)) := by
  subst hp
  obtain ⟨locs, X, N, e1, n1, hx, hZ, hown, hby, hml, r0⟩ := X
  obtain ⟨T', X', e', st⟩ := initO X hx hZ hown w1 w2 w3 e1 (g := mkF m pc Ls (.ref a :: rest)) (rest := rest) rfl (hsz.trans hml.symm) rfl (hb hby hd) hf (W := W) (by show 2 * 0 + _ ≤ _; omega) hl
  exact own_step st (k T' ⟨_, X', N, e', n1, hx, hZ, hown, hby, hml, r0⟩)
/-- a callee's contract: called with as' over the heap h0 it returns, and Q says what it leaves -/
def own_Met (l : Launch) (Z : State) (y : MethodName) (bytes : ByteArray) (ml : Nat) (rt : Option FieldType) (ws : List Jvm.Cond) (rm : Room) (as' : Array Value) (h0 : Heap) (n0 : Nat) (Q : Option Value → Heap → Prop) : Prop :=
  MetFree l y (head1 (Jvm.Cond.code y bytes ml rt :: ws) rm) (fun a U => a = as' ∧ Z.Warmed39 U.vm ∧ U.heap = h0) (fun _ _ _ _ _ => True) (fun _ U o U' => ∃ v L, o = .returned v ∧ ((Q v U'.heap ∧ n0 ≤ U'.heap.size) ∧ Fr n0 L) ∧ FrameEnd U o U' L rm.cells rm.slots)
theorem own_meet {y : MethodName} {ws : List Jvm.Cond} {rm : Room} {as' : Array Value} {h0 : Heap} (hpn : plainFor y = true) (hle : n0 ≤ h0.size) {Ls0 : Array Slot} (hef : ∀ m, entryFrame m as' ml = mkF m 0 Ls0 [])
    (body : ∀ (p : Program) (e : Env) (s : State) (m : MethodId) (below : List Frame) (meth : Method) (c : Code) (T : State), own_St p l e rm s m as' below meth c Z y.cls bytes ml rt y.name n0 T h0 0 0 → own_Goal p e below (own_Fin below s rm n0 Q) T (mkF m 0 Ls0 [])) : own_Met l Z y bytes ml rt ws rm as' h0 n0 Q := by
  refine MetFree.of_bodySF hpn hisR ?_
  intro p e s m args below meth c s₁ Bd hml0 hP hK
  obtain ⟨rfl, hZ, hh⟩ := hP
  have e0 : s₁.heap = h0 := by rw [← hh, Bd.state]; rfl
  obtain ⟨s2, o, st, r1, r2, r3⟩ := body p e s m below meth c s₁ ⟨[], Stand.of_body Bd, Fr.nil n0, e0, hle, Bd.exec, hZ, findClass_of_methodNamed Bd.named, Bd.bytes, hml0, Bd.returns, Bd.notSynchronized, (name_of_methodNamed Bd.named Bd.method).1⟩
  exact ⟨s2, o, castTop (hef m) st, r1, r2, r3⟩
theorem own_callS (X : own_St p l e R s m args below meth c Z own bytes ml rt nm n0 T h cells slots) {y : MethodName} {yb : ByteArray} {yl : Nat} {yr : Option FieldType} {rm : Room} {as' : Array Value} {Q' : Option Value → Heap → Prop} (M : own_Met l Z y yb yl yr [] rm as' h n0 Q') {i : Nat} (w1 : (Jvm.Cond.methodLink own i y).before a0 Z = true) (w2 : (Jvm.Cond.static y).before a0 Z = true) (w3 : (Jvm.Cond.initialized y.cls).before a0 Z = true) (w4 : (Jvm.Cond.code y yb yl yr).before a0 Z = true) (hy : y.cls ≠ "java/lang/invoke/MethodHandle" ∧ y.cls ≠ "java/lang/invoke/VarHandle") (hsz : Ls.size = ml) (hf : rm.frames + 1 ≤ R.frames) {W : Nat} (hW : (rest.map fun v => v.category).sum ≤ W) (hl : W + (yl + 11) + rm.locals ≤ R.locals) {cells' slots' : Nat} (hc' : cells + rm.cells = cells') (hs' : slots + rm.slots = slots') (hc : cells' ≤ R.cells) (hs : slots' ≤ R.slots) {argsL stk : List Value} (hlen : ∀ sig, parseMethodDescriptor y.desc = some sig → argsL.length = sig.parameters.length) (hst : stk = argsL.reverse ++ rest) (has : argsL.toArray = as') (hd : decode bytes pc = .ok (.invokestatic i, 3)) (hp : pc + 3 = pc')
    (k : ∀ v T' h', own_St p l e R s m args below meth c Z own bytes ml rt nm n0 T' h' cells' slots' → Q' v h' → own_Goal p e below Φ T' (mkF m pc' Ls (v.toList ++ rest))) : own_Goal p e below Φ T (mkF m pc Ls stk) := by
  subst hp hst has hc' hs'
  obtain ⟨locs, X, N, e1, n1, hx, hZ, hown, hby, hml, r0⟩ := X
  obtain ⟨v, vm1, ⟨T', L', k', n'⟩, -, X', ⟨Lc, ⟨⟨hQ, hG⟩, NL⟩, l1, y1, z1⟩, st⟩ := Jvm.LawKit.callS X hx (y := y) hown (mvT hZ w1) (mvT hZ w2) (mvT hZ w3) (mvT hZ w4) hy (backOf (W := W) (Q := fun v hh L => (Q' v hh ∧ n0 ≤ hh.size) ∧ Fr n0 L) M hZ w4 w3 hf hl) (g := mkF m pc Ls (argsL.reverse ++ rest)) rfl (hsz.trans hml.symm) (argsL := argsL) (rest := rest) hlen rfl (by show 2 * 0 + _ ≤ _; omega) (hb hby hd) (fun _ _ => ⟨rfl, e1, hc, hs⟩)
  dsimp only [Pt.U, Pt.locs, Pt.cells, Pt.slots] at X' l1 y1 z1 st hQ
  subst l1 y1 z1
  exact own_step st (k v T' _ ⟨_, X', Fr.app N NL, rfl, hG, hx, hZ, hown, hby, hml, r0⟩ hQ)
theorem own_special (X : own_St p l e R s m args below meth c Z own bytes ml rt nm n0 T h cells slots) {y : MethodName} {yb : ByteArray} {yl : Nat} {yr : Option FieldType} {rm : Room} {as' : Array Value} {Q' : Option Value → Heap → Prop} (M : own_Met l Z y yb yl yr [] rm as' h n0 Q') (hy1 : y.name = "<init>") (hyr : yr = none) {i : Nat} (w1 : (Jvm.Cond.methodLink own i y).before a0 Z = true) (w2 : (Jvm.Cond.instanceMethod y).before a0 Z = true) (w3 : (Jvm.Cond.initialized y.cls).before a0 Z = true) (w4 : (Jvm.Cond.code y yb yl yr).before a0 Z = true) (hy : y.cls ≠ "java/lang/invoke/MethodHandle" ∧ y.cls ≠ "java/lang/invoke/VarHandle") (hsz : Ls.size = ml) (hf : rm.frames + 1 ≤ R.frames) {W : Nat} (hW : (rest.map fun v => v.category).sum ≤ W) (hl : W + (yl + 11) + rm.locals ≤ R.locals) {cells' slots' : Nat} (hc' : cells + rm.cells = cells') (hs' : slots + rm.slots = slots') (hc : cells' ≤ R.cells) (hs : slots' ≤ R.slots) {a : Addr} {argsL stk : List Value} (hlen : ∀ sig, parseMethodDescriptor y.desc = some sig → argsL.length = sig.parameters.length) (hst : stk = argsL.reverse ++ .ref a :: rest) (has : (.ref a :: argsL).toArray = as') (hd : decode bytes pc = .ok (.invokespecial i, 3)) (hp : pc + 3 = pc')
    (k : ∀ v T' h', own_St p l e R s m args below meth c Z own bytes ml rt nm n0 T' h' cells' slots' → Q' v h' → own_Goal p e below Φ T' (mkF m pc' Ls (v.toList ++ rest))) : own_Goal p e below Φ T (mkF m pc Ls stk) := by
  subst hp hst has hc' hs' hyr
  obtain ⟨locs, X, N, e1, n1, hx, hZ, hown, hby, hml, r0⟩ := X
  obtain ⟨v, vm1, ⟨T', L', k', n'⟩, -, X', ⟨Lc, ⟨⟨hQ, hG⟩, NL⟩, l1, y1, z1⟩, st⟩ := X.specialBack hx (y := y) hy1 hown (mvT hZ w1) (mvT hZ w2) (mvT hZ w4) hy (backOf (W := W) (Q := fun v hh L => (Q' v hh ∧ n0 ≤ hh.size) ∧ Fr n0 L) M hZ w4 w3 hf hl) (g := mkF m pc Ls (argsL.reverse ++ .ref a :: rest)) rfl (hsz.trans hml.symm) (Steps.refl _) (a := a) (argsL := argsL) (rest := rest) hlen rfl (by show 2 * 0 + _ ≤ _; omega) (hb hby hd) (fun _ _ => ⟨rfl, e1, hc, hs⟩)
  dsimp only [Pt.U, Pt.locs, Pt.cells, Pt.slots] at X' l1 y1 z1 st hQ
  subst l1 y1 z1
  exact own_step (fun t b => st.trans b) (k v T' _ ⟨_, X', Fr.app N NL, rfl, hG, hx, hZ, hown, hby, hml, r0⟩ hQ)
theorem own_virtual (X : own_St p l e R s m args below meth c Z own bytes ml rt nm n0 T h cells slots) {y : MethodName} {yb : ByteArray} {yl : Nat} {yr : Option FieldType} {rm : Room} {as' : Array Value} {Q' : Option Value → Heap → Prop} (M : own_Met l Z y yb yl yr [] rm as' h n0 Q') {C : String} {z : MethodName} {i : Nat} (hz : y = z) (w1 : (Jvm.Cond.methodLink own i z).before a0 Z = true) (wd : (Jvm.Cond.declares z).before a0 Z = true) (wsl : (Jvm.Cond.selects C z y).before a0 Z = true) (w2 : (Jvm.Cond.instanceMethod y).before a0 Z = true) (w3 : (Jvm.Cond.initialized y.cls).before a0 Z = true) (w4 : (Jvm.Cond.code y yb yl yr).before a0 Z = true) (hy : y.cls ≠ "java/lang/invoke/MethodHandle" ∧ y.cls ≠ "java/lang/invoke/VarHandle") (hsz : Ls.size = ml) (hf : rm.frames + 1 ≤ R.frames) {W : Nat} (hW : (rest.map fun v => v.category).sum ≤ W) (hl : W + (yl + 11) + rm.locals ≤ R.locals) {cells' slots' : Nat} (hc' : cells + rm.cells = cells') (hs' : slots + rm.slots = slots') (hc : cells' ≤ R.cells) (hs : slots' ≤ R.slots) {a : Addr} (E : Exa Z h a C) {argsL stk : List Value} (hlen : ∀ sig, parseMethodDescriptor y.desc = some sig → argsL.length = sig.parameters.length) (hst : stk = argsL.reverse ++ .ref a :: rest) (has : (.ref a :: argsL).toArray = as') (hd : decode bytes pc = .ok (.invokevirtual i, 3)) (hp : pc + 3 = pc')
    (k : ∀ v T' h', own_St p l e R s m args below meth c Z own bytes ml rt nm n0 T' h' cells' slots' → Q' v h' → own_Goal p e below Φ T' (mkF m pc' Ls (v.toList ++ rest))) : own_Goal p e below Φ T (mkF m pc Ls stk) := by
  subst hp hst has hc' hs' hz
  obtain ⟨locs, X, N, e1, n1, hx, hZ, hown, hby, hml, r0⟩ := X
  obtain ⟨cq, kq, qa, qb, qc⟩ := isOf (T := T) hZ e1 E
  obtain ⟨v, vm1, ⟨T', L', k', n'⟩, -, X', ⟨Lc, ⟨⟨hQ, hG⟩, NL⟩, l1, y1, z1⟩, st⟩ := X.virtualBack hx (y := y) (z := y) hown (mvT hZ w1) (mvT hZ wd) (notFace_of_selects (args := #[]) (mvT hZ wsl)) (mvT hZ wsl) (mvT hZ w2) hy (backOf (W := W) (Q := fun v hh L => (Q' v hh ∧ n0 ≤ hh.size) ∧ Fr n0 L) M hZ w4 w3 hf hl) qa qc (g := mkF m pc Ls (argsL.reverse ++ .ref a :: rest)) rfl (hsz.trans hml.symm) (Steps.refl _) (argsL := argsL) (rest := rest) hlen rfl (by show 2 * 0 + _ ≤ _; omega) (hb hby hd) (fun _ _ => ⟨rfl, e1, hc, hs⟩)
  dsimp only [Pt.U, Pt.locs, Pt.cells, Pt.slots] at X' l1 y1 z1 st hQ
  subst l1 y1 z1
  exact own_step (fun t b => st.trans b) (k v T' _ ⟨_, X', Fr.app N NL, rfl, hG, hx, hZ, hown, hby, hml, r0⟩ hQ)
end OwnWalk
section OwnNum
open Jvm.FP Jvm.FP.Core
/-- the int x is the whole number i, at most B in size -/
def own_I (B : Nat) (i : Int) (x : Int32) : Prop := x.toInt = i ∧ i.natAbs ≤ B
def own_L (B : Nat) (i : Int) (x : Int64) : Prop := x.toInt = i ∧ i.natAbs ≤ B
section
variable {A B C M : Nat} {i j : Int}
theorem own_I.start (x : Int32) : own_I 2147483648 x.toInt x := by
  have := x.toInt_lt; have := x.le_toInt
  exact ⟨rfl, by omega⟩
theorem own_L.start (x : Int64) : own_L 9223372036854775808 x.toInt x := by
  have := x.toInt_lt; have := x.le_toInt
  exact ⟨rfl, by omega⟩
theorem own_I.lit {x : Int32} (h : x.toInt = i) (hB : i.natAbs ≤ B) : own_I B i x := ⟨h, hB⟩
theorem own_I.self {x : Int32} (a : own_I A i x) : own_I A x.toInt x := ⟨rfl, by rw [a.1]; exact a.2⟩
theorem own_L.self {x : Int64} (a : own_L A i x) : own_L A x.toInt x := ⟨rfl, by rw [a.1]; exact a.2⟩
theorem own_L.lit {x : Int64} (h : x.toInt = i) (hB : i.natAbs ≤ B) : own_L B i x := ⟨h, hB⟩
theorem own_abs_mul {i j : Int} (h1 : i.natAbs ≤ A) (h2 : j.natAbs ≤ B) : (i * j).natAbs ≤ A * B := by
  rw [Int.natAbs_mul]; exact Nat.mul_le_mul h1 h2
theorem own_I.add {x y v : Int32} (a : own_I A i x) (b : own_I B j y) (hv : x + y = v) (hC : A + B ≤ C) (h : C < 2147483648) : own_I C (i + j) v := by
  obtain ⟨rfl, h1⟩ := a; obtain ⟨rfl, h2⟩ := b; subst hv
  refine ⟨?_, by omega⟩
  rw [Int32.toInt_add]; exact Int.bmod_eq_of_le (by omega) (by omega)
theorem own_I.sub {x y v : Int32} (a : own_I A i x) (b : own_I B j y) (hv : x - y = v) (hC : A + B ≤ C) (h : C < 2147483648) : own_I C (i - j) v := by
  obtain ⟨rfl, h1⟩ := a; obtain ⟨rfl, h2⟩ := b; subst hv
  refine ⟨?_, by omega⟩
  rw [Int32.toInt_sub]; exact Int.bmod_eq_of_le (by omega) (by omega)
theorem own_I.mul {x y v : Int32} (a : own_I A i x) (b : own_I B j y) (hv : x * y = v) (hC : A * B ≤ C) (h : C < 2147483648) : own_I C (i * j) v := by
  obtain ⟨rfl, h1⟩ := a; obtain ⟨rfl, h2⟩ := b; subst hv
  have h3 := Nat.le_trans (own_abs_mul h1 h2) hC
  refine ⟨?_, h3⟩
  rw [Int32.toInt_mul]; exact Int.bmod_eq_of_le (by omega) (by omega)
theorem own_I.neg {x v : Int32} (a : own_I A i x) (hv : -x = v) (h : A < 2147483648) : own_I A (-i) v := by
  obtain ⟨rfl, h1⟩ := a; subst hv
  refine ⟨?_, by omega⟩
  rw [Int32.toInt_neg]; exact Int.bmod_eq_of_le (by omega) (by omega)
theorem own_and_nn {x m v : Int32} (hv : x &&& m = v) (hm : m.toInt = M) : 0 ≤ v.toInt ∧ v.toInt ≤ M := by
  subst hv; have := c_and x m (by omega); omega
theorem own_I.and {x m v : Int32} (hv : x &&& m = v) (hm : m.toInt = M) : own_I M v.toInt v := by
  have := own_and_nn hv hm
  exact ⟨rfl, by omega⟩
theorem own_land_nn {x m v : Int64} (hv : x &&& m = v) (hm : m.toInt = M) : 0 ≤ v.toInt ∧ v.toInt ≤ M := by
  subst hv
  have h1 := (c_andSL x m).2.2 (by omega)
  refine ⟨h1, ?_⟩
  have la := x.toBitVec.isLt; have lm := m.toBitVec.isLt
  have q : (x &&& m).toBitVec.toNat = x.toBitVec.toNat &&& m.toBitVec.toNat := by show (x.toBitVec &&& m.toBitVec).toNat = _; rw [BitVec.toNat_and]
  have q2 : x.toBitVec.toNat &&& m.toBitVec.toNat ≤ m.toBitVec.toNat := Nat.and_le_right
  change 0 ≤ (x &&& m).toBitVec.toInt at h1
  show (x &&& m).toBitVec.toInt ≤ _
  change m.toBitVec.toInt = _ at hm
  rw [BitVec.toInt_eq_toNat_cond] at h1 hm ⊢
  rw [q] at h1 ⊢
  split at hm <;> split <;> omega
theorem own_L.and {x m v : Int64} (hv : x &&& m = v) (hm : m.toInt = M) : own_L M v.toInt v := by
  have := own_land_nn hv hm
  exact ⟨rfl, by omega⟩
theorem own_lrem_eq {x y v : Int64} (hv : x - (x / y) * y = v) (hx : 0 ≤ x.toInt) (hy : 0 < y.toInt) : v.toInt = x.toInt % y.toInt := by
  subst hv; exact (c_lrem x y _ rfl).1 hx
theorem own_I.shr {x q v : Int32} {k : Nat} (hv : x >>> (q &&& 31) = v) (hk : q.toBitVec.toNat % 32 = k) (hM : 2147483648 ≤ M * 2 ^ k) : own_I M v.toInt v := by
  subst hv
  have h1 := c_ishr x q k hk
  have h2 := x.toInt_lt; have h3 := x.le_toInt
  refine ⟨rfl, ?_⟩
  rw [h1]
  have p : 0 < 2 ^ k := Nat.two_pow_pos k
  generalize 2 ^ k = P at *
  have hP : (0 : Int) < (P : Int) := by omega
  have e1 : x.toInt / (P : Int) ≤ M := by
    refine Int.ediv_le_of_le_mul hP ?_
    have : ((M * P : Nat) : Int) = (M : Int) * P := Int.natCast_mul ..
    omega
  have e2 : -(M : Int) ≤ x.toInt / (P : Int) := by
    refine (Int.le_ediv_iff_mul_le hP).mpr ?_
    have : ((M * P : Nat) : Int) = (M : Int) * P := Int.natCast_mul ..
    rw [Int.neg_mul]; omega
  omega
theorem own_L.ofI {x : Int32} {v : Int64} (a : own_I A i x) (hv : x.toInt64 = v) : own_L A i v := by
  obtain ⟨rfl, h1⟩ := a; subst hv
  exact ⟨Int32.toInt_toInt64 x, h1⟩
theorem own_L.add {x y v : Int64} (a : own_L A i x) (b : own_L B j y) (hv : x + y = v) (hC : A + B ≤ C) (h : C < 9223372036854775808) : own_L C (i + j) v := by
  obtain ⟨rfl, h1⟩ := a; obtain ⟨rfl, h2⟩ := b; subst hv
  refine ⟨?_, by omega⟩
  rw [Int64.toInt_add]; exact Int.bmod_eq_of_le (by omega) (by omega)
theorem own_L.sub {x y v : Int64} (a : own_L A i x) (b : own_L B j y) (hv : x - y = v) (hC : A + B ≤ C) (h : C < 9223372036854775808) : own_L C (i - j) v := by
  obtain ⟨rfl, h1⟩ := a; obtain ⟨rfl, h2⟩ := b; subst hv
  refine ⟨?_, by omega⟩
  rw [Int64.toInt_sub]; exact Int.bmod_eq_of_le (by omega) (by omega)
theorem own_L.mul {x y v : Int64} (a : own_L A i x) (b : own_L B j y) (hv : x * y = v) (hC : A * B ≤ C) (h : C < 9223372036854775808) : own_L C (i * j) v := by
  obtain ⟨rfl, h1⟩ := a; obtain ⟨rfl, h2⟩ := b; subst hv
  have h3 := Nat.le_trans (own_abs_mul h1 h2) hC
  refine ⟨?_, h3⟩
  rw [Int64.toInt_mul]; exact Int.bmod_eq_of_le (by omega) (by omega)
theorem own_L.neg {x v : Int64} (a : own_L A i x) (hv : -x = v) (h : A < 9223372036854775808) : own_L A (-i) v := by
  obtain ⟨rfl, h1⟩ := a; subst hv
  refine ⟨?_, by omega⟩
  rw [Int64.toInt_neg]; exact Int.bmod_eq_of_le (by omega) (by omega)
end
/-- a datum times 2^k -/
def own_sh (k : Int) : Datum → Datum
  | .fin s c q => .fin s c (q + k)
  | d => d
theorem own_sh_sum (k : Int) (x y : Datum) : exactSum (own_sh k x) (own_sh k y) = own_sh k (exactSum x y) := by
  cases x with
  | nan => rfl
  | inf s => cases y with
    | nan => rfl
    | inf t => by_cases h : s = t <;> simp [own_sh, exactSum, h]
    | fin t d r => rfl
  | fin s c q => cases y with
    | nan => rfl
    | inf t => rfl
    | fin t d r =>
      have e1 : min (q + k) (r + k) = min q r + k := by omega
      have e2 : sumUnits s c (q + k) t d (r + k) (min q r + k) = sumUnits s c q t d r (min q r) := by
        unfold sumUnits inUnits
        rw [show q + k - (min q r + k) = q - min q r by omega, show r + k - (min q r + k) = r - min q r by omega]
      simp only [own_sh, exactSum, e1, e2]
theorem own_sh_prod (k r : Int) (x y : Datum) : exactProduct (own_sh k x) (own_sh r y) = own_sh (k + r) (exactProduct x y) := by
  cases x with
  | nan => rfl
  | inf s => cases y with
    | nan => rfl
    | inf t => rfl
    | fin t d u => simp only [own_sh, exactProduct]; split <;> rfl
  | fin s c q => cases y with
    | nan => rfl
    | inf t => simp only [own_sh, exactProduct]; split <;> rfl
    | fin t d u =>
      simp only [own_sh, exactProduct]
      rw [show q + k + (u + r) = q + u + (k + r) by omega]
theorem own_sh_neg (k : Int) (x : Datum) : negate (own_sh k x) = own_sh k (negate x) := by cases x <;> rfl
theorem own_sh_order (k : Int) (x y : Datum) : order (own_sh k x) (own_sh k y) = order x y := by
  cases x <;> cases y <;> try rfl
  rename_i s c q t d r
  simp only [own_sh, order]
  rw [show min (q + k) (r + k) = min q r + k by omega]
  unfold inUnits
  rw [show q + k - (min q r + k) = q - min q r by omega, show r + k - (min q r + k) = r - min q r by omega]
theorem own_sh_sh (k r : Int) (x : Datum) : own_sh r (own_sh k x) = own_sh (k + r) x := by
  cases x <;> simp only [own_sh]
  rw [Int.add_assoc]
theorem own_sh_zero (x : Datum) : own_sh 0 x = x := by cases x <;> simp [own_sh]
theorem own_signed_nat {i : Int} {s : Bool} {n : Nat} (h : n = i.natAbs) (hs : i ≠ 0 → s = decide (i < 0)) : signed s n = i := by
  by_cases h0 : i = 0
  · subst h0; subst h; exact signed_zero s
  · rw [hs h0, h]; unfold signed
    by_cases q : i < 0 <;> simp [q] <;> omega
/-- what is i * 2^-k in size rounds to itself, if i has 53 digits at the most -/
theorem own_round_core {k : Nat} {i : Int} {s : Bool} {c : Nat} {q : Int} (hk : k ≤ 1074) (hi : i.natAbs < 9007199254740992) (hs : i ≠ 0 → s = decide (i < 0)) : Whole i (own_sh k (roundRatio b64 s i.natAbs 1 (-(k : Int)))) := by
  obtain ⟨c', q', e1, e2⟩ := round_exact good_b64 s (c := i.natAbs) (q := -(k : Int)) (show i.natAbs < 2 ^ 53 by omega) (show (-1074 : Int) ≤ _ by omega) (show _ ≤ (971 : Int) by omega)
  have e3 : roundRatio b64 s i.natAbs 1 (-(k : Int)) = .fin s c' q' := e1
  have hf : Core.fits b64 (.fin s c' q') := by rw [← e1]; exact round_fits good_b64 _
  have hq : (-1074 : Int) ≤ q' := hf.2.1
  rw [e3]
  show signed s (c' * 2 ^ (q' + k).toNat) = i * ((2 ^ (-(q' + k)).toNat : Nat) : Int)
  have e4 : c' * 2 ^ (q' + 1074).toNat = i.natAbs * 2 ^ (1074 - k) := by
    have := e2
    unfold inUnits at this
    rw [show (q' - b64.qmin).toNat = (q' + 1074).toNat by rw [show b64.qmin = -1074 from rfl]; omega, show (-(k : Int) - b64.qmin).toNat = 1074 - k by rw [show b64.qmin = -1074 from rfl]; omega] at this
    exact this
  have e5 : c' * 2 ^ (q' + k).toNat = i.natAbs * 2 ^ (-(q' + k)).toNat := by
    refine Nat.eq_of_mul_eq_mul_right (Nat.two_pow_pos (1074 - k)) ?_
    have x1 : c' * 2 ^ (q' + k).toNat * 2 ^ (1074 - k) = c' * 2 ^ (q' + 1074).toNat * 2 ^ (-(q' + k)).toNat := by
      rw [Nat.mul_assoc, Nat.mul_assoc, ← Nat.pow_add, ← Nat.pow_add]; congr 2; omega
    rw [x1, e4, Nat.mul_right_comm]
  rw [e5, signed_mul, own_signed_nat rfl hs]
theorem own_round {k : Nat} {i : Int} {d : Datum} (hk : k ≤ 1074) (hi : i.natAbs < 9007199254740992) (h : Whole i (own_sh k d)) : Whole i (own_sh k (round b64 d)) := by
  cases d with
  | nan => exact h.elim
  | inf => exact h.elim
  | fin s c q =>
    have h1 : c * 2 ^ (q + k).toNat = i.natAbs * 2 ^ (-(q + k)).toNat := whole_natAbs h
    have e : round b64 (.fin s c q) = roundRatio b64 s i.natAbs 1 (-(k : Int)) := by
      refine roundRatio_congr (by decide) (by decide) ?_
      rw [show (q - -(k : Int)).toNat = (q + k).toNat by omega, show (-(k : Int) - q).toNat = (-(q + k)).toNat by omega]
      simpa using h1
    rw [e]
    exact own_round_core (c := c) (q := q) hk hi (fun h0 => whole_sign h h0)
/-- the double x is i * 2^-k, i at most B in size (both zeros are 0) -/
def own_D (k B : Nat) (i : Int) (x : UInt64) : Prop := Whole i (own_sh k (val64 x)) ∧ i.natAbs ≤ B
section
variable {k r t A B C : Nat} {i j : Int} {x y v : UInt64}
theorem own_D.fin (a : own_D k A i x) : ∃ s c q, val64 x = .fin s c q := by
  cases e : val64 x with
  | nan => have := a.1; rw [e] at this; exact this.elim
  | inf => have := a.1; rw [e] at this; exact this.elim
  | fin s c q => exact ⟨s, c, q, rfl⟩
theorem own_D.nn (a : own_D k A i x) : Jvm.Free.Fl.NoNaN64 x := by
  obtain ⟨s, c, q, e⟩ := a.fin
  exact Jvm.Free.Fl.val64_no.mpr (by rw [e]; exact Datum.noConfusion)
theorem own_D.isFin (a : own_D k A i x) : Jvm.Free.Fl.Fin64 x := by
  obtain ⟨s, c, q, e⟩ := a.fin
  exact Jvm.Free.Fl.fin64_core.mpr ⟨s, c, q, e⟩
theorem own_D.lit {s : Bool} {c : Nat} {q : Int} (h : val64 x = .fin s c q) (hw : signed s (c * 2 ^ (q + k).toNat) = i * ((2 ^ (-(q + k)).toNat : Nat) : Int)) (hB : i.natAbs ≤ B) : own_D k B i x := by
  refine ⟨?_, hB⟩
  rw [h]; exact hw
theorem own_D.mono (a : own_D k A i x) (h : A ≤ B) : own_D k B i x := ⟨a.1, Nat.le_trans a.2 h⟩
theorem own_D.zero {s : Bool} (h : val64 x = .fin s 0 b64.qmin) (k : Nat) : own_D k 0 0 x := by
  refine ⟨?_, by decide⟩
  rw [h]
  show signed s (0 * _) = 0 * _
  rw [Nat.zero_mul, signed_zero, Int.zero_mul]
theorem own_D.ofInt (h : DInt i x) (hB : i.natAbs ≤ B) : own_D 0 B i x := ⟨by rw [show ((0 : Nat) : Int) = 0 from rfl, own_sh_zero]; exact h, hB⟩
theorem own_D.i2d {z : Int32} (a : own_I A i z) (hv : FP.i2d z = v) : own_D 0 A i v := by
  subst hv; obtain ⟨rfl, h⟩ := a
  exact own_D.ofInt (i2d_int z) h
theorem own_D.l2d {z : Int64} (a : own_L A i z) (hv : FP.l2d z = v) (h : A ≤ 9007199254740992) : own_D 0 A i v := by
  subst hv; obtain ⟨rfl, h1⟩ := a
  exact own_D.ofInt (l2d_int (show _ ≤ 2 ^ 53 by omega)) h1
theorem own_D.add (a : own_D k A i x) (b : own_D k B j y) (hv : FP.dadd x y = v) (hC : A + B ≤ C) (h : C < 9007199254740992) (hk : k ≤ 1074) : own_D k C (i + j) v := by
  subst hv
  have h2 : (i + j).natAbs ≤ C := by have := a.2; have := b.2; omega
  refine ⟨?_, h2⟩
  show Whole _ (own_sh k (val64 (Core.dadd x y)))
  rw [val64_dadd]
  refine own_round hk (by omega) ?_
  rw [← own_sh_sum]; exact whole_sum a.1 b.1
theorem own_D.sub (a : own_D k A i x) (b : own_D k B j y) (hv : FP.dsub x y = v) (hC : A + B ≤ C) (h : C < 9007199254740992) (hk : k ≤ 1074) : own_D k C (i - j) v := by
  subst hv
  have h2 : (i - j).natAbs ≤ C := by have := a.2; have := b.2; omega
  refine ⟨?_, h2⟩
  show Whole _ (own_sh k (val64 (Core.dsub x y)))
  rw [val64_dsub]
  refine own_round hk (by omega) ?_
  rw [← own_sh_sum, ← own_sh_neg]; exact whole_sum a.1 (whole_negate b.1)
theorem own_D.mul (a : own_D k A i x) (b : own_D r B j y) (hv : FP.dmul x y = v) (hC : A * B ≤ C) (h : C < 9007199254740992) (ht : k + r = t) (hk : t ≤ 1074) : own_D t C (i * j) v := by
  subst hv ht
  have h2 : (i * j).natAbs ≤ C := Nat.le_trans (own_abs_mul a.2 b.2) hC
  refine ⟨?_, h2⟩
  show Whole _ (own_sh ((k + r : Nat) : Int) (val64 (Core.dmul x y)))
  rw [val64_dmul]
  refine own_round hk (by omega) ?_
  rw [Int.natCast_add, ← own_sh_prod]; exact whole_product a.1 b.1
theorem own_D.neg (a : own_D k A i x) (hv : FP.dneg x = v) : own_D k A (-i) v := by
  subst hv
  refine ⟨?_, by have := a.2; omega⟩
  rw [FP.val64_dneg, ← own_sh_neg]; exact whole_negate a.1
theorem own_whole_up {i : Int} {d : Datum} (r : Nat) (h : Whole i d) : Whole (i * ((2 ^ r : Nat) : Int)) (own_sh r d) := by
  cases d with
  | nan => exact h.elim
  | inf => exact h.elim
  | fin s c q =>
    have h1 : signed s (c * 2 ^ q.toNat) = i * ((2 ^ (-q).toNat : Nat) : Int) := h
    show signed s (c * 2 ^ (q + r).toNat) = i * ((2 ^ r : Nat) : Int) * ((2 ^ (-(q + r)).toNat : Nat) : Int)
    have p2 : ((2 ^ (-q).toNat : Nat) : Int) ≠ 0 := by
      have := Nat.two_pow_pos (-q).toNat; omega
    refine Int.eq_of_mul_eq_mul_right p2 ?_
    have e : (q + r).toNat + (-q).toNat = q.toNat + r + (-(q + r)).toNat := by omega
    calc signed s (c * 2 ^ (q + r).toNat) * ((2 ^ (-q).toNat : Nat) : Int)
        = signed s (c * 2 ^ ((q + r).toNat + (-q).toNat)) := by rw [← signed_mul, Nat.mul_assoc, ← Nat.pow_add]
      _ = signed s (c * 2 ^ q.toNat * 2 ^ r * 2 ^ (-(q + r)).toNat) := by rw [e, Nat.pow_add, Nat.pow_add]; congr 1; ac_rfl
      _ = i * ((2 ^ (-q).toNat : Nat) : Int) * ((2 ^ r : Nat) : Int) * ((2 ^ (-(q + r)).toNat : Nat) : Int) := by rw [signed_mul, signed_mul, h1]
      _ = _ := by ac_rfl
theorem own_D.up (a : own_D k A i x) {P : Nat} (hP : 2 ^ r = P) (ht : k + r = t) (hC : A * P ≤ C) : own_D t C (i * (P : Int)) x := by
  subst hP ht
  refine ⟨?_, Nat.le_trans (own_abs_mul a.2 (Nat.le_of_eq (Int.natAbs_natCast _))) hC⟩
  rw [Int.natCast_add, ← own_sh_sh]; exact own_whole_up r a.1
theorem own_D.dcmp (a : own_D k A i x) (b : own_D k B j y) : FP.dcmp x y = some (compare i j) := by
  show order (val64 x) (val64 y) = _
  rw [← own_sh_order k]; exact order_whole a.1 b.1
end
def own_c3 (i j : Int) : Int32 := if i < j then -1 else if i = j then 0 else 1
theorem own_c3_cmp (i j : Int) (o : CmpOp) : cmpValue (some (compare i j)) o = own_c3 i j := by
  unfold own_c3
  by_cases h : i < j
  · rw [if_pos h, show compare i j = .lt from Int.compare_eq_lt.mpr h]; rfl
  · rw [if_neg h]
    by_cases h2 : i = j
    · rw [if_pos h2, show compare i j = .eq from Int.compare_eq_eq.mpr h2]; rfl
    · rw [if_neg h2, show compare i j = .gt from Int.compare_eq_gt.mpr (by omega)]; rfl
theorem own_D.cmp {k A B : Nat} {i j : Int} {x y : UInt64} (a : own_D k A i x) (b : own_D k B j y) {o : CmpOp} : cmpValue (FP.dcmp x y) o = own_c3 i j := by
  rw [a.dcmp b]; exact own_c3_cmp i j o
theorem own_c3_eq {i j : Int} (h : i = j) : ifCond.holds .eq (own_c3 i j) = true ∧ ifCond.holds .ne (own_c3 i j) = false := by
  subst h; unfold own_c3; simp [ifCond.holds]
theorem own_c3_ne {i j : Int} (h : ¬ i = j) : ifCond.holds .eq (own_c3 i j) = false ∧ ifCond.holds .ne (own_c3 i j) = true := by
  unfold own_c3; by_cases q : i < j <;> simp [q, h, ifCond.holds]
theorem own_c3_lt {i j : Int} (h : i < j) : ifCond.holds .lt (own_c3 i j) = true ∧ ifCond.holds .ge (own_c3 i j) = false := by
  unfold own_c3; simp [h]; decide
theorem own_c3_nlt {i j : Int} (h : ¬ i < j) : ifCond.holds .lt (own_c3 i j) = false ∧ ifCond.holds .ge (own_c3 i j) = true := by
  unfold own_c3; rw [if_neg h]; by_cases q : i = j
  · rw [if_pos q]; decide
  · rw [if_neg q]; decide
theorem own_c3_gt {i j : Int} (h : j < i) : ifCond.holds .gt (own_c3 i j) = true ∧ ifCond.holds .le (own_c3 i j) = false := by
  unfold own_c3; rw [if_neg (by omega), if_neg (by omega)]; decide
theorem own_c3_ngt {i j : Int} (h : ¬ j < i) : ifCond.holds .gt (own_c3 i j) = false ∧ ifCond.holds .le (own_c3 i j) = true := by
  unfold own_c3; by_cases q : i < j
  · rw [if_pos q]; decide
  · rw [if_neg q, if_pos (by omega)]; decide
/-- the branches on ints, by what is known of them -/
theorem own_i_eq {x y : Int32} (h : x = y) : if_icmp.holds .eq x y = true ∧ if_icmp.holds .ne x y = false := teq h
theorem own_i_ne {x y : Int32} (h : ¬ x = y) : if_icmp.holds .eq x y = false ∧ if_icmp.holds .ne x y = true := feq h
theorem own_i_lt {x y : Int32} (h : x < y) : if_icmp.holds .lt x y = true ∧ if_icmp.holds .ge x y = false := ⟨(tlt h).1, (tlt h).2.1⟩
theorem own_i_nlt {x y : Int32} (h : ¬ x < y) : if_icmp.holds .lt x y = false ∧ if_icmp.holds .ge x y = true := ⟨(flt h).1, (flt h).2.1⟩
theorem own_i_gt {x y : Int32} (h : y < x) : if_icmp.holds .gt x y = true ∧ if_icmp.holds .le x y = false := ⟨(tlt h).2.2.1, (tlt h).2.2.2⟩
theorem own_i_ngt {x y : Int32} (h : ¬ y < x) : if_icmp.holds .gt x y = false ∧ if_icmp.holds .le x y = true := ⟨(flt h).2.2.1, (flt h).2.2.2⟩
theorem own_z_eq {x : Int32} (h : x = 0) : ifCond.holds .eq x = true ∧ ifCond.holds .ne x = false := by rw [if0, if0]; exact teq h
theorem own_z_ne {x : Int32} (h : ¬ x = 0) : ifCond.holds .eq x = false ∧ ifCond.holds .ne x = true := by rw [if0, if0]; exact feq h
theorem own_z_lt {x : Int32} (h : x < 0) : ifCond.holds .lt x = true ∧ ifCond.holds .ge x = false := by rw [if0, if0]; exact own_i_lt h
theorem own_z_nlt {x : Int32} (h : ¬ x < 0) : ifCond.holds .lt x = false ∧ ifCond.holds .ge x = true := by rw [if0, if0]; exact own_i_nlt h
theorem own_z_gt {x : Int32} (h : 0 < x) : ifCond.holds .gt x = true ∧ ifCond.holds .le x = false := by rw [if0, if0]; exact own_i_gt h
theorem own_z_ngt {x : Int32} (h : ¬ 0 < x) : ifCond.holds .gt x = false ∧ ifCond.holds .le x = true := by rw [if0, if0]; exact own_i_ngt h
theorem own_cases2 {v : Int32} (h : 0 ≤ v.toInt ∧ v.toInt ≤ ((1 : Nat) : Int)) : v = (0 : Int32) ∨ v = (1 : Int32) := by
  have : v.toInt = 0 ∨ v.toInt = 1 := by omega
  rcases this with q | q
  · exact Or.inl (Int32.toInt_inj.mp q)
  · exact Or.inr (Int32.toInt_inj.mp q)
theorem own_cases4 {v : Int32} (h : 0 ≤ v.toInt ∧ v.toInt ≤ ((3 : Nat) : Int)) : v = (0 : Int32) ∨ v = (1 : Int32) ∨ v = (2 : Int32) ∨ v = (3 : Int32) := by
  have : v.toInt = 0 ∨ v.toInt = 1 ∨ v.toInt = 2 ∨ v.toInt = 3 := by omega
  rcases this with q | q | q | q
  · exact Or.inl (Int32.toInt_inj.mp q)
  · exact Or.inr (Or.inl (Int32.toInt_inj.mp q))
  · exact Or.inr (Or.inr (Or.inl (Int32.toInt_inj.mp q)))
  · exact Or.inr (Or.inr (Or.inr (Int32.toInt_inj.mp q)))
theorem own_cases16 {v : Int32} (h : 0 ≤ v.toInt ∧ v.toInt ≤ ((15 : Nat) : Int)) : v = (0 : Int32) ∨ v = (1 : Int32) ∨ v = (2 : Int32) ∨ v = (3 : Int32) ∨ v = (4 : Int32) ∨ v = (5 : Int32) ∨ v = (6 : Int32) ∨ v = (7 : Int32) ∨ v = (8 : Int32) ∨ v = (9 : Int32) ∨ v = (10 : Int32) ∨ v = (11 : Int32) ∨ v = (12 : Int32) ∨ v = (13 : Int32) ∨ v = (14 : Int32) ∨ v = (15 : Int32) := by
  have : v.toInt = 0 ∨ v.toInt = 1 ∨ v.toInt = 2 ∨ v.toInt = 3 ∨ v.toInt = 4 ∨ v.toInt = 5 ∨ v.toInt = 6 ∨ v.toInt = 7 ∨ v.toInt = 8 ∨ v.toInt = 9 ∨ v.toInt = 10 ∨ v.toInt = 11 ∨ v.toInt = 12 ∨ v.toInt = 13 ∨ v.toInt = 14 ∨ v.toInt = 15 := by omega
  rcases this with q | q | q | q | q | q | q | q | q | q | q | q | q | q | q | q
  · exact Or.inl (Int32.toInt_inj.mp q)
  · exact Or.inr (Or.inl (Int32.toInt_inj.mp q))
  · exact Or.inr (Or.inr (Or.inl (Int32.toInt_inj.mp q)))
  · exact Or.inr (Or.inr (Or.inr (Or.inl (Int32.toInt_inj.mp q))))
  · exact Or.inr (Or.inr (Or.inr (Or.inr (Or.inl (Int32.toInt_inj.mp q)))))
  · exact Or.inr (Or.inr (Or.inr (Or.inr (Or.inr (Or.inl (Int32.toInt_inj.mp q))))))
  · exact Or.inr (Or.inr (Or.inr (Or.inr (Or.inr (Or.inr (Or.inl (Int32.toInt_inj.mp q)))))))
  · exact Or.inr (Or.inr (Or.inr (Or.inr (Or.inr (Or.inr (Or.inr (Or.inl (Int32.toInt_inj.mp q))))))))
  · exact Or.inr (Or.inr (Or.inr (Or.inr (Or.inr (Or.inr (Or.inr (Or.inr (Or.inl (Int32.toInt_inj.mp q)))))))))
  · exact Or.inr (Or.inr (Or.inr (Or.inr (Or.inr (Or.inr (Or.inr (Or.inr (Or.inr (Or.inl (Int32.toInt_inj.mp q))))))))))
  · exact Or.inr (Or.inr (Or.inr (Or.inr (Or.inr (Or.inr (Or.inr (Or.inr (Or.inr (Or.inr (Or.inl (Int32.toInt_inj.mp q)))))))))))
  · exact Or.inr (Or.inr (Or.inr (Or.inr (Or.inr (Or.inr (Or.inr (Or.inr (Or.inr (Or.inr (Or.inr (Or.inl (Int32.toInt_inj.mp q))))))))))))
  · exact Or.inr (Or.inr (Or.inr (Or.inr (Or.inr (Or.inr (Or.inr (Or.inr (Or.inr (Or.inr (Or.inr (Or.inr (Or.inl (Int32.toInt_inj.mp q)))))))))))))
  · exact Or.inr (Or.inr (Or.inr (Or.inr (Or.inr (Or.inr (Or.inr (Or.inr (Or.inr (Or.inr (Or.inr (Or.inr (Or.inr (Or.inl (Int32.toInt_inj.mp q))))))))))))))
  · exact Or.inr (Or.inr (Or.inr (Or.inr (Or.inr (Or.inr (Or.inr (Or.inr (Or.inr (Or.inr (Or.inr (Or.inr (Or.inr (Or.inr (Or.inl (Int32.toInt_inj.mp q)))))))))))))))
  · exact Or.inr (Or.inr (Or.inr (Or.inr (Or.inr (Or.inr (Or.inr (Or.inr (Or.inr (Or.inr (Or.inr (Or.inr (Or.inr (Or.inr (Or.inr (Int32.toInt_inj.mp q)))))))))))))))
/-- lcmp as a comparison of whole numbers -/
theorem own_lcmp_c3 (x y : Int64) : XT.cmpL x y = own_c3 x.toInt y.toInt := by
  unfold XT.cmpL own_c3
  simp only [Int64.lt_iff_toInt_lt, ← Int64.toInt_inj]
  by_cases h : x.toInt < y.toInt
  · simp [h, show ¬ y.toInt < x.toInt by omega, show ¬ x.toInt = y.toInt by omega]
  · by_cases h2 : x.toInt = y.toInt
    · simp [h2]
    · simp [h, h2, show y.toInt < x.toInt by omega]
theorem own_L.cmp {A B : Nat} {i j : Int} {x y : Int64} (a : own_L A i x) (b : own_L B j y) : XT.cmpL x y = own_c3 i j := by
  rw [own_lcmp_c3, a.1, b.1]
end OwnNum
section OwnDiv
open Jvm.FP Jvm.FP.Core
theorem own_quotient {s t : Bool} {c d : Nat} {q r : Int} (hd : d ≠ 0) : quotient b64 (.fin s c q) (.fin t d r) = roundRatio b64 (s != t) c d (q - r) := by
  show (if d = 0 then _ else _) = _
  rw [if_neg hd]
/-- the quotient of i * 2^-k and j is the rounded |i| / |j| * 2^-k -/
theorem own_quot {k A B : Nat} {i j : Int} {x z v : UInt64} (a : own_D k A i x) (b : own_D 0 B j z) (hj : j ≠ 0) (hv : FP.ddiv x z = v) :
    ∃ sg : Bool, val64 v = roundRatio b64 sg i.natAbs j.natAbs (-(k : Int)) ∧ (i ≠ 0 → sg = (decide (i < 0) != decide (j < 0))) := by
  subst hv
  obtain ⟨s, c, q, e1⟩ := a.fin
  obtain ⟨t, d, r, e2⟩ := b.fin
  have w1 : Whole i (.fin s c (q + k)) := by have := a.1; rw [e1] at this; exact this
  have w2 : Whole j (.fin t d r) := by have := b.1; rw [e2, show ((0 : Nat) : Int) = 0 from rfl, own_sh_zero] at this; exact this
  have hd : d ≠ 0 := fun h => hj ((whole_zero w2).mp h)
  refine ⟨s != t, ?_, fun hi => by rw [whole_sign w1 hi, whole_sign w2 hj]⟩
  show val64 (Core.ddiv x z) = _
  rw [val64_ddiv, e1, e2]
  show (if d = 0 then _ else roundRatio b64 (s != t) c d (q - r)) = _
  rw [if_neg hd]
  refine roundRatio_congr (by omega) (by omega) ?_
  have h1 : c * 2 ^ (q + k).toNat = i.natAbs * 2 ^ (-(q + k)).toNat := whole_natAbs w1
  have h2 : d * 2 ^ r.toNat = j.natAbs * 2 ^ (-r).toNat := whole_natAbs w2
  generalize i.natAbs = I at *
  generalize j.natAbs = J at *
  refine Nat.eq_of_mul_eq_mul_right (Nat.two_pow_pos ((-r).toNat + (q + k).toNat)) ?_
  have x1 : c * J * 2 ^ (q - r - -(k : Int)).toNat * 2 ^ ((-r).toNat + (q + k).toNat) = (c * 2 ^ (q + k).toNat) * (J * 2 ^ (-r).toNat) * 2 ^ (q - r - -(k : Int)).toNat := by rw [Nat.pow_add]; ac_rfl
  have x2 : I * d * 2 ^ (-(k : Int) - (q - r)).toNat * 2 ^ ((-r).toNat + (q + k).toNat) = I * d * 2 ^ ((-(q + k)).toNat + r.toNat + (q - r - -(k : Int)).toNat) := by rw [Nat.mul_assoc (I * d), ← Nat.pow_add]; congr 2; omega
  rw [x1, x2, h1, ← h2, Nat.pow_add, Nat.pow_add]; ac_rfl
theorem own_quot_nn {k A B : Nat} {i j : Int} {x z v : UInt64} (a : own_D k A i x) (b : own_D 0 B j z) (hj : j ≠ 0) (hv : FP.ddiv x z = v) : Jvm.Free.Fl.NoNaN64 v := by
  obtain ⟨sg, e, -⟩ := own_quot a b hj hv
  exact Jvm.Free.Fl.val64_no.mpr (by rw [e]; exact roundRatio_ne_nan _ _ _ _ _)
theorem own_round_zero (sg : Bool) (d : Nat) (e : Int) : roundRatio b64 sg 0 d e = .fin sg 0 b64.qmin := by unfold roundRatio; rw [if_pos rfl]
/-- two quotients of equal whole numbers compare as equal -/
theorem own_quot_eq {k A B A' B' : Nat} {i j : Int} {x y z w v u : UInt64} (a : own_D k A i x) (b : own_D 0 B j z) (a' : own_D k A' i y) (b' : own_D 0 B' j w) (hj : j ≠ 0) (hv : FP.ddiv x z = v) (hu : FP.ddiv y w = u) : FP.dcmp v u = some .eq := by
  obtain ⟨s1, e1, f1⟩ := own_quot a b hj hv
  obtain ⟨s2, e2, f2⟩ := own_quot a' b' hj hu
  by_cases hi : i = 0
  · subst hi
    have d1 := own_D.zero (x := v) (s := s1) (by rw [e1]; exact own_round_zero ..) 0
    have d2 := own_D.zero (x := u) (s := s2) (by rw [e2]; exact own_round_zero ..) 0
    rw [d1.dcmp d2]; rfl
  · have e3 : s1 = s2 := (f1 hi).trans (f2 hi).symm
    subst e3
    have e4 : v = u := val64_inj (by rw [e1]; exact roundRatio_ne_nan _ _ _ _ _) (e1.trans e2.symm)
    subst e4
    exact dcmp_self (by rw [e1]; exact roundRatio_ne_nan _ _ _ _ _)
theorem own_quot_cmp {k A B A' B' : Nat} {i j : Int} {x y z w v u : UInt64} (a : own_D k A i x) (b : own_D 0 B j z) (a' : own_D k A' i y) (b' : own_D 0 B' j w) (hj : j ≠ 0) (hv : FP.ddiv x z = v) (hu : FP.ddiv y w = u) {o : CmpOp} : cmpValue (FP.dcmp v u) o = 0 := by
  rw [own_quot_eq a b a' b' hj hv hu]; rfl
theorem own_D.of_eq {k A : Nat} {i j : Int} {x : UInt64} (a : own_D k A i x) (h : i = j) : own_D k A j x := h ▸ a
/-- a quotient by a power of two is exact -/
theorem own_D.divp {k r t A B P : Nat} {i : Int} {x z v : UInt64} (a : own_D k A i x) (b : own_D 0 B (P : Int) z) (hP : P = 2 ^ r) (hv : FP.ddiv x z = v) (hA : A < 9007199254740992) (ht : k + r = t) (hk : t ≤ 1074) : own_D t A i v := by
  subst ht
  have p := Nat.two_pow_pos r
  have hj : (P : Int) ≠ 0 := by omega
  obtain ⟨sg, e, f⟩ := own_quot a b hj hv
  refine ⟨?_, a.2⟩
  have e2 : roundRatio b64 sg i.natAbs ((P : Int)).natAbs (-(k : Int)) = roundRatio b64 sg i.natAbs 1 (-((k + r : Nat) : Int)) := by
    refine roundRatio_congr (by omega) (by decide) ?_
    rw [Int.natAbs_natCast, hP, show (-(k : Int) - -((k + r : Nat) : Int)).toNat = r by omega, show (-((k + r : Nat) : Int) - -(k : Int)).toNat = 0 by omega]
    simp
  rw [e, e2]
  refine own_round_core (c := 0) (q := 0) hk (by have := a.2; omega) fun hi => ?_
  rw [f hi, show decide ((P : Int) < 0) = false by simp]
  cases decide (i < 0) <;> rfl
theorem own_ushr_nn {x q v : Int32} {k : Nat} (hv : XT.ushr x q = v) (hk : q.toBitVec.toNat % 32 = k) (h0 : 0 < k) : 0 ≤ v.toInt := by
  subst hv
  have := c_iushr x q k hk h0
  show 0 ≤ ((x.toUInt32 >>> (q &&& 31).toUInt32).toInt32).toInt
  rw [this]
  exact Int.ediv_nonneg (Int.emod_nonneg _ (by decide)) (Int.natCast_nonneg _)
theorem own_irem_bd {x y v : Int32} {d : Int} (hv : x % y = v) (hx : 0 ≤ x.toInt) (hy : y.toInt = d) (hd : 0 < d) : 0 ≤ v.toInt ∧ v.toInt < d := by
  subst hv
  rw [(c_irem x y d hy).1 hx]
  exact ⟨Int.emod_nonneg _ (by omega), Int.emod_lt_of_pos _ hd⟩
end OwnDiv
theorem own_d_prog_23_method_2_code_0 : decode prog_23_method_2_code 0 = .ok (.dconst 0, 1) := by decide +kernel
theorem own_d_prog_23_method_2_code_1 : decode prog_23_method_2_code 1 = .ok (.dstore_n 1, 1) := by decide +kernel
theorem own_d_prog_23_method_2_code_2 : decode prog_23_method_2_code 2 = .ok (.aload_n 0, 1) := by decide +kernel
theorem own_d_prog_23_method_2_code_3 : decode prog_23_method_2_code 3 = .ok (.astore_n 3, 1) := by decide +kernel
theorem own_d_prog_23_method_2_code_4 : decode prog_23_method_2_code 4 = .ok (.aload_n 3, 1) := by decide +kernel
theorem own_d_prog_23_method_2_code_5 : decode prog_23_method_2_code 5 = .ok (.arraylength, 1) := by decide +kernel
theorem own_d_prog_23_method_2_code_6 : decode prog_23_method_2_code 6 = .ok (.istore 4, 2) := by decide +kernel
theorem own_d_prog_23_method_2_code_8 : decode prog_23_method_2_code 8 = .ok (.iconst 0, 1) := by decide +kernel
theorem own_d_prog_23_method_2_code_9 : decode prog_23_method_2_code 9 = .ok (.istore 5, 2) := by decide +kernel
theorem own_d_prog_23_method_2_code_11 : decode prog_23_method_2_code 11 = .ok (.iload 5, 2) := by decide +kernel
theorem own_d_prog_23_method_2_code_13 : decode prog_23_method_2_code 13 = .ok (.iload 4, 2) := by decide +kernel
theorem own_d_prog_23_method_2_code_15 : decode prog_23_method_2_code 15 = .ok (.if_icmp .ge 20, 3) := by decide +kernel
theorem own_d_prog_23_method_2_code_18 : decode prog_23_method_2_code 18 = .ok (.aload_n 3, 1) := by decide +kernel
theorem own_d_prog_23_method_2_code_19 : decode prog_23_method_2_code 19 = .ok (.iload 5, 2) := by decide +kernel
theorem own_d_prog_23_method_2_code_21 : decode prog_23_method_2_code 21 = .ok (.daload, 1) := by decide +kernel
theorem own_d_prog_23_method_2_code_22 : decode prog_23_method_2_code 22 = .ok (.dstore 6, 2) := by decide +kernel
theorem own_d_prog_23_method_2_code_24 : decode prog_23_method_2_code 24 = .ok (.dload_n 1, 1) := by decide +kernel
theorem own_d_prog_23_method_2_code_25 : decode prog_23_method_2_code 25 = .ok (.dload 6, 2) := by decide +kernel
theorem own_d_prog_23_method_2_code_27 : decode prog_23_method_2_code 27 = .ok (.dadd, 1) := by decide +kernel
theorem own_d_prog_23_method_2_code_28 : decode prog_23_method_2_code 28 = .ok (.dstore_n 1, 1) := by decide +kernel
theorem own_d_prog_23_method_2_code_29 : decode prog_23_method_2_code 29 = .ok (.iinc 5 1, 3) := by decide +kernel
theorem own_d_prog_23_method_2_code_32 : decode prog_23_method_2_code 32 = .ok (.goto (-21), 3) := by decide +kernel
theorem own_d_prog_23_method_2_code_35 : decode prog_23_method_2_code 35 = .ok (.dload_n 1, 1) := by decide +kernel
theorem own_d_prog_23_method_2_code_36 : decode prog_23_method_2_code 36 = .ok (.aload_n 0, 1) := by decide +kernel
theorem own_d_prog_23_method_2_code_37 : decode prog_23_method_2_code 37 = .ok (.arraylength, 1) := by decide +kernel
theorem own_d_prog_23_method_2_code_38 : decode prog_23_method_2_code 38 = .ok (.i2d, 1) := by decide +kernel
theorem own_d_prog_23_method_2_code_39 : decode prog_23_method_2_code 39 = .ok (.ddiv, 1) := by decide +kernel
theorem own_d_prog_23_method_2_code_40 : decode prog_23_method_2_code 40 = .ok (.dreturn, 1) := by decide +kernel
theorem own_pd0 : parseMethodDescriptor "([D)D" = some ⟨[(.array .double)], some .double⟩ := by decide +kernel
theorem own_pn0 : plainName "com/example/conquex/conquex/Moments" = true := by first | (simp [plainName, overriddenIn]; done) | decide +kernel
abbrev own_rm_own_mean1 : Room := ({ frames := 0, cells := 0, slots := 0, locals := 0 } : Room)
set_option maxRecDepth 65536 in
set_option maxHeartbeats 40000000 in
theorem own_mean1 (l : Launch) (Z : State) (a0 : Array Value) (hw : ∀ d ∈ tables_1, d.before a0 Z = true) (a1 : Addr) (x0 : UInt64) (i_x0 : Int) (h0 : Heap) (n0 : Nat) (Z0 : n0 ≤ h0.size) (V1 : own_Vec Z h0 a1 .double [(.double x0)]) (D_x0 : own_D 0 2147483648 i_x0 x0) :
    own_Met l Z ({ cls := "com/example/conquex/conquex/Moments", name := "mean", desc := "([D)D" } : Jvm.MethodName) prog_23_method_2_code 8 (some .double) [] own_rm_own_mean1 #[(.ref a1)] h0 n0 (fun v h => (∃ r x z, v = some (.double r) ∧ own_D 0 2147483648 ((0 : Int) + i_x0) x ∧ own_D 0 1 (1 : Int) z ∧ FP.ddiv x z = r) ∧ h = h0) := by
  refine own_meet (plainFor_of_name own_pn0) Z0 (Ls0 := #[.val (.ref a1), .unset, .unset, .unset, .unset, .unset, .unset, .unset]) (by intro m; first | (simp [entryFrame, mkF, argsToLocals, Value.category]; done) | rfl) ?_
  intro p e s m below meth c T0 X0
  refine own_dconst0 X0 (v := (0 : UInt64)) rfl own_d_prog_23_method_2_code_0 (pc' := 1) rfl ?_
  refine own_dstoreN X0 (Ls' := #[.val (.ref a1), .val (.double (0 : UInt64)), .second, .unset, .unset, .unset, .unset, .unset]) rfl own_d_prog_23_method_2_code_1 (pc' := 2) rfl ?_
  refine own_aloadN X0 rfl rfl own_d_prog_23_method_2_code_2 (pc' := 3) rfl ?_
  refine own_astoreN X0 (Ls' := #[.val (.ref a1), .val (.double (0 : UInt64)), .second, .val (.ref a1), .unset, .unset, .unset, .unset]) rfl rfl own_d_prog_23_method_2_code_3 (pc' := 4) rfl ?_
  refine own_aloadN X0 rfl rfl own_d_prog_23_method_2_code_4 (pc' := 5) rfl ?_
  refine own_len X0 V1 (v := (1 : Int32)) (show (1 : Nat).toInt32 = (1 : Int32) by decide) own_d_prog_23_method_2_code_5 (pc' := 6) rfl ?_
  refine own_istore X0 (Ls' := #[.val (.ref a1), .val (.double (0 : UInt64)), .second, .val (.ref a1), .val (.int (1 : Int32)), .unset, .unset, .unset]) rfl own_d_prog_23_method_2_code_6 (pc' := 8) rfl ?_
  refine own_iconst X0 (v := (0 : Int32)) (by decide) own_d_prog_23_method_2_code_8 (pc' := 9) rfl ?_
  refine own_istore X0 (Ls' := #[.val (.ref a1), .val (.double (0 : UInt64)), .second, .val (.ref a1), .val (.int (1 : Int32)), .val (.int (0 : Int32)), .unset, .unset]) rfl own_d_prog_23_method_2_code_9 (pc' := 11) rfl ?_
  refine own_iload X0 rfl own_d_prog_23_method_2_code_11 (pc' := 13) rfl ?_
  refine own_iload X0 rfl own_d_prog_23_method_2_code_13 (pc' := 15) rfl ?_
  refine own_icmpF X0 (by decide) own_d_prog_23_method_2_code_15 (pc' := 18) rfl ?_
  refine own_aloadN X0 rfl rfl own_d_prog_23_method_2_code_18 (pc' := 19) rfl ?_
  refine own_iload X0 rfl own_d_prog_23_method_2_code_19 (pc' := 21) rfl ?_
  refine own_daload X0 V1 (i := 0) (by decide) (by decide) rfl own_d_prog_23_method_2_code_21 (pc' := 22) rfl ?_
  refine own_dstore X0 (Ls' := #[.val (.ref a1), .val (.double (0 : UInt64)), .second, .val (.ref a1), .val (.int (1 : Int32)), .val (.int (0 : Int32)), .val (.double x0), .second]) rfl own_d_prog_23_method_2_code_22 (pc' := 24) rfl ?_
  refine own_dloadN X0 rfl own_d_prog_23_method_2_code_24 (pc' := 25) rfl ?_
  refine own_dload X0 rfl own_d_prog_23_method_2_code_25 (pc' := 27) rfl ?_
  have f8 : own_D 0 0 (0 : Int) (0 : UInt64) := own_D.lit (s := false) (c := 0) (q := -1074) (by decide +kernel) (by decide +kernel) (by decide)
  obtain ⟨d7, e7⟩ : ∃ v, FP.dadd (0 : UInt64) x0 = v := ⟨_, rfl⟩
  have f7 : own_D 0 2147483648 ((0 : Int) + i_x0) d7 := own_D.add f8 D_x0 e7 (by decide) (by decide) (by decide)
  refine own_dadd X0 e7 f7.nn own_d_prog_23_method_2_code_27 (pc' := 28) rfl ?_
  refine own_dstoreN X0 (Ls' := #[.val (.ref a1), .val (.double d7), .second, .val (.ref a1), .val (.int (1 : Int32)), .val (.int (0 : Int32)), .val (.double x0), .second]) rfl own_d_prog_23_method_2_code_28 (pc' := 29) rfl ?_
  refine own_iinc X0 (Ls' := #[.val (.ref a1), .val (.double d7), .second, .val (.ref a1), .val (.int (1 : Int32)), .val (.int (1 : Int32)), .val (.double x0), .second]) rfl (by decide) rfl own_d_prog_23_method_2_code_29 (pc' := 32) rfl ?_
  refine own_goto X0 own_d_prog_23_method_2_code_32 (pc' := 11) (by decide) (by decide) ?_
  refine own_iload X0 rfl own_d_prog_23_method_2_code_11 (pc' := 13) rfl ?_
  refine own_iload X0 rfl own_d_prog_23_method_2_code_13 (pc' := 15) rfl ?_
  refine own_icmpT X0 (by decide) own_d_prog_23_method_2_code_15 (pc' := 35) (by decide) (by decide) ?_
  refine own_dloadN X0 rfl own_d_prog_23_method_2_code_35 (pc' := 36) rfl ?_
  refine own_aloadN X0 rfl rfl own_d_prog_23_method_2_code_36 (pc' := 37) rfl ?_
  refine own_len X0 V1 (v := (1 : Int32)) (show (1 : Nat).toInt32 = (1 : Int32) by decide) own_d_prog_23_method_2_code_37 (pc' := 38) rfl ?_
  have f9 : own_I 1 (1 : Int) (1 : Int32) := own_I.lit (by decide) (by decide)
  obtain ⟨d10, e10⟩ : ∃ v, FP.i2d (1 : Int32) = v := ⟨_, rfl⟩
  have f10 : own_D 0 1 (1 : Int) d10 := own_D.i2d f9 e10
  refine own_i2d X0 e10 own_d_prog_23_method_2_code_38 (pc' := 39) rfl ?_
  obtain ⟨d12, e12⟩ : ∃ v, FP.ddiv d7 d10 = v := ⟨_, rfl⟩
  have q12 := own_quot_nn f7 f10 (by decide) e12
  refine own_ddiv X0 e12 q12 own_d_prog_23_method_2_code_39 (pc' := 40) rfl ?_
  exact own_retD X0  own_d_prog_23_method_2_code_40 rfl (by decide) (by decide) ⟨⟨_, _, _, rfl, f7, f10, e12⟩, rfl⟩
abbrev own_rm_own_mean2 : Room := ({ frames := 0, cells := 0, slots := 0, locals := 0 } : Room)
set_option maxRecDepth 65536 in
set_option maxHeartbeats 40000000 in
theorem own_mean2 (l : Launch) (Z : State) (a0 : Array Value) (hw : ∀ d ∈ tables_1, d.before a0 Z = true) (a1 : Addr) (x0 : UInt64) (i_x0 : Int) (x1 : UInt64) (i_x1 : Int) (h0 : Heap) (n0 : Nat) (Z0 : n0 ≤ h0.size) (V1 : own_Vec Z h0 a1 .double [(.double x0), (.double x1)]) (D_x0 : own_D 0 2147483648 i_x0 x0) (D_x1 : own_D 0 2147483648 i_x1 x1) :
    own_Met l Z ({ cls := "com/example/conquex/conquex/Moments", name := "mean", desc := "([D)D" } : Jvm.MethodName) prog_23_method_2_code 8 (some .double) [] own_rm_own_mean2 #[(.ref a1)] h0 n0 (fun v h => (∃ r x z, v = some (.double r) ∧ own_D 0 4294967296 (((0 : Int) + i_x0) + i_x1) x ∧ own_D 0 2 (2 : Int) z ∧ FP.ddiv x z = r) ∧ h = h0) := by
  refine own_meet (plainFor_of_name own_pn0) Z0 (Ls0 := #[.val (.ref a1), .unset, .unset, .unset, .unset, .unset, .unset, .unset]) (by intro m; first | (simp [entryFrame, mkF, argsToLocals, Value.category]; done) | rfl) ?_
  intro p e s m below meth c T0 X0
  refine own_dconst0 X0 (v := (0 : UInt64)) rfl own_d_prog_23_method_2_code_0 (pc' := 1) rfl ?_
  refine own_dstoreN X0 (Ls' := #[.val (.ref a1), .val (.double (0 : UInt64)), .second, .unset, .unset, .unset, .unset, .unset]) rfl own_d_prog_23_method_2_code_1 (pc' := 2) rfl ?_
  refine own_aloadN X0 rfl rfl own_d_prog_23_method_2_code_2 (pc' := 3) rfl ?_
  refine own_astoreN X0 (Ls' := #[.val (.ref a1), .val (.double (0 : UInt64)), .second, .val (.ref a1), .unset, .unset, .unset, .unset]) rfl rfl own_d_prog_23_method_2_code_3 (pc' := 4) rfl ?_
  refine own_aloadN X0 rfl rfl own_d_prog_23_method_2_code_4 (pc' := 5) rfl ?_
  refine own_len X0 V1 (v := (2 : Int32)) (show (2 : Nat).toInt32 = (2 : Int32) by decide) own_d_prog_23_method_2_code_5 (pc' := 6) rfl ?_
  refine own_istore X0 (Ls' := #[.val (.ref a1), .val (.double (0 : UInt64)), .second, .val (.ref a1), .val (.int (2 : Int32)), .unset, .unset, .unset]) rfl own_d_prog_23_method_2_code_6 (pc' := 8) rfl ?_
  refine own_iconst X0 (v := (0 : Int32)) (by decide) own_d_prog_23_method_2_code_8 (pc' := 9) rfl ?_
  refine own_istore X0 (Ls' := #[.val (.ref a1), .val (.double (0 : UInt64)), .second, .val (.ref a1), .val (.int (2 : Int32)), .val (.int (0 : Int32)), .unset, .unset]) rfl own_d_prog_23_method_2_code_9 (pc' := 11) rfl ?_
  refine own_iload X0 rfl own_d_prog_23_method_2_code_11 (pc' := 13) rfl ?_
  refine own_iload X0 rfl own_d_prog_23_method_2_code_13 (pc' := 15) rfl ?_
  refine own_icmpF X0 (by decide) own_d_prog_23_method_2_code_15 (pc' := 18) rfl ?_
  refine own_aloadN X0 rfl rfl own_d_prog_23_method_2_code_18 (pc' := 19) rfl ?_
  refine own_iload X0 rfl own_d_prog_23_method_2_code_19 (pc' := 21) rfl ?_
  refine own_daload X0 V1 (i := 0) (by decide) (by decide) rfl own_d_prog_23_method_2_code_21 (pc' := 22) rfl ?_
  refine own_dstore X0 (Ls' := #[.val (.ref a1), .val (.double (0 : UInt64)), .second, .val (.ref a1), .val (.int (2 : Int32)), .val (.int (0 : Int32)), .val (.double x0), .second]) rfl own_d_prog_23_method_2_code_22 (pc' := 24) rfl ?_
  refine own_dloadN X0 rfl own_d_prog_23_method_2_code_24 (pc' := 25) rfl ?_
  refine own_dload X0 rfl own_d_prog_23_method_2_code_25 (pc' := 27) rfl ?_
  have f21 : own_D 0 0 (0 : Int) (0 : UInt64) := own_D.lit (s := false) (c := 0) (q := -1074) (by decide +kernel) (by decide +kernel) (by decide)
  obtain ⟨d20, e20⟩ : ∃ v, FP.dadd (0 : UInt64) x0 = v := ⟨_, rfl⟩
  have f20 : own_D 0 2147483648 ((0 : Int) + i_x0) d20 := own_D.add f21 D_x0 e20 (by decide) (by decide) (by decide)
  refine own_dadd X0 e20 f20.nn own_d_prog_23_method_2_code_27 (pc' := 28) rfl ?_
  refine own_dstoreN X0 (Ls' := #[.val (.ref a1), .val (.double d20), .second, .val (.ref a1), .val (.int (2 : Int32)), .val (.int (0 : Int32)), .val (.double x0), .second]) rfl own_d_prog_23_method_2_code_28 (pc' := 29) rfl ?_
  refine own_iinc X0 (Ls' := #[.val (.ref a1), .val (.double d20), .second, .val (.ref a1), .val (.int (2 : Int32)), .val (.int (1 : Int32)), .val (.double x0), .second]) rfl (by decide) rfl own_d_prog_23_method_2_code_29 (pc' := 32) rfl ?_
  refine own_goto X0 own_d_prog_23_method_2_code_32 (pc' := 11) (by decide) (by decide) ?_
  refine own_iload X0 rfl own_d_prog_23_method_2_code_11 (pc' := 13) rfl ?_
  refine own_iload X0 rfl own_d_prog_23_method_2_code_13 (pc' := 15) rfl ?_
  refine own_icmpF X0 (by decide) own_d_prog_23_method_2_code_15 (pc' := 18) rfl ?_
  refine own_aloadN X0 rfl rfl own_d_prog_23_method_2_code_18 (pc' := 19) rfl ?_
  refine own_iload X0 rfl own_d_prog_23_method_2_code_19 (pc' := 21) rfl ?_
  refine own_daload X0 V1 (i := 1) (by decide) (by decide) rfl own_d_prog_23_method_2_code_21 (pc' := 22) rfl ?_
  refine own_dstore X0 (Ls' := #[.val (.ref a1), .val (.double d20), .second, .val (.ref a1), .val (.int (2 : Int32)), .val (.int (1 : Int32)), .val (.double x1), .second]) rfl own_d_prog_23_method_2_code_22 (pc' := 24) rfl ?_
  refine own_dloadN X0 rfl own_d_prog_23_method_2_code_24 (pc' := 25) rfl ?_
  refine own_dload X0 rfl own_d_prog_23_method_2_code_25 (pc' := 27) rfl ?_
  obtain ⟨d22, e22⟩ : ∃ v, FP.dadd d20 x1 = v := ⟨_, rfl⟩
  have f22 : own_D 0 4294967296 (((0 : Int) + i_x0) + i_x1) d22 := own_D.add f20 D_x1 e22 (by decide) (by decide) (by decide)
  refine own_dadd X0 e22 f22.nn own_d_prog_23_method_2_code_27 (pc' := 28) rfl ?_
  refine own_dstoreN X0 (Ls' := #[.val (.ref a1), .val (.double d22), .second, .val (.ref a1), .val (.int (2 : Int32)), .val (.int (1 : Int32)), .val (.double x1), .second]) rfl own_d_prog_23_method_2_code_28 (pc' := 29) rfl ?_
  refine own_iinc X0 (Ls' := #[.val (.ref a1), .val (.double d22), .second, .val (.ref a1), .val (.int (2 : Int32)), .val (.int (2 : Int32)), .val (.double x1), .second]) rfl (by decide) rfl own_d_prog_23_method_2_code_29 (pc' := 32) rfl ?_
  refine own_goto X0 own_d_prog_23_method_2_code_32 (pc' := 11) (by decide) (by decide) ?_
  refine own_iload X0 rfl own_d_prog_23_method_2_code_11 (pc' := 13) rfl ?_
  refine own_iload X0 rfl own_d_prog_23_method_2_code_13 (pc' := 15) rfl ?_
  refine own_icmpT X0 (by decide) own_d_prog_23_method_2_code_15 (pc' := 35) (by decide) (by decide) ?_
  refine own_dloadN X0 rfl own_d_prog_23_method_2_code_35 (pc' := 36) rfl ?_
  refine own_aloadN X0 rfl rfl own_d_prog_23_method_2_code_36 (pc' := 37) rfl ?_
  refine own_len X0 V1 (v := (2 : Int32)) (show (2 : Nat).toInt32 = (2 : Int32) by decide) own_d_prog_23_method_2_code_37 (pc' := 38) rfl ?_
  have f23 : own_I 2 (2 : Int) (2 : Int32) := own_I.lit (by decide) (by decide)
  obtain ⟨d24, e24⟩ : ∃ v, FP.i2d (2 : Int32) = v := ⟨_, rfl⟩
  have f24 : own_D 0 2 (2 : Int) d24 := own_D.i2d f23 e24
  refine own_i2d X0 e24 own_d_prog_23_method_2_code_38 (pc' := 39) rfl ?_
  obtain ⟨d26, e26⟩ : ∃ v, FP.ddiv d22 d24 = v := ⟨_, rfl⟩
  have q26 := own_quot_nn f22 f24 (by decide) e26
  refine own_ddiv X0 e26 q26 own_d_prog_23_method_2_code_39 (pc' := 40) rfl ?_
  exact own_retD X0  own_d_prog_23_method_2_code_40 rfl (by decide) (by decide) ⟨⟨_, _, _, rfl, f22, f24, e26⟩, rfl⟩
abbrev own_rm_own_mean3 : Room := ({ frames := 0, cells := 0, slots := 0, locals := 0 } : Room)
set_option maxRecDepth 65536 in
set_option maxHeartbeats 40000000 in
theorem own_mean3 (l : Launch) (Z : State) (a0 : Array Value) (hw : ∀ d ∈ tables_1, d.before a0 Z = true) (a1 : Addr) (x0 : UInt64) (i_x0 : Int) (x1 : UInt64) (i_x1 : Int) (x2 : UInt64) (i_x2 : Int) (h0 : Heap) (n0 : Nat) (Z0 : n0 ≤ h0.size) (V1 : own_Vec Z h0 a1 .double [(.double x0), (.double x1), (.double x2)]) (D_x0 : own_D 0 2147483648 i_x0 x0) (D_x1 : own_D 0 2147483648 i_x1 x1) (D_x2 : own_D 0 2147483648 i_x2 x2) :
    own_Met l Z ({ cls := "com/example/conquex/conquex/Moments", name := "mean", desc := "([D)D" } : Jvm.MethodName) prog_23_method_2_code 8 (some .double) [] own_rm_own_mean3 #[(.ref a1)] h0 n0 (fun v h => (∃ r x z, v = some (.double r) ∧ own_D 0 6442450944 ((((0 : Int) + i_x0) + i_x1) + i_x2) x ∧ own_D 0 3 (3 : Int) z ∧ FP.ddiv x z = r) ∧ h = h0) := by
  refine own_meet (plainFor_of_name own_pn0) Z0 (Ls0 := #[.val (.ref a1), .unset, .unset, .unset, .unset, .unset, .unset, .unset]) (by intro m; first | (simp [entryFrame, mkF, argsToLocals, Value.category]; done) | rfl) ?_
  intro p e s m below meth c T0 X0
  refine own_dconst0 X0 (v := (0 : UInt64)) rfl own_d_prog_23_method_2_code_0 (pc' := 1) rfl ?_
  refine own_dstoreN X0 (Ls' := #[.val (.ref a1), .val (.double (0 : UInt64)), .second, .unset, .unset, .unset, .unset, .unset]) rfl own_d_prog_23_method_2_code_1 (pc' := 2) rfl ?_
  refine own_aloadN X0 rfl rfl own_d_prog_23_method_2_code_2 (pc' := 3) rfl ?_
  refine own_astoreN X0 (Ls' := #[.val (.ref a1), .val (.double (0 : UInt64)), .second, .val (.ref a1), .unset, .unset, .unset, .unset]) rfl rfl own_d_prog_23_method_2_code_3 (pc' := 4) rfl ?_
  refine own_aloadN X0 rfl rfl own_d_prog_23_method_2_code_4 (pc' := 5) rfl ?_
  refine own_len X0 V1 (v := (3 : Int32)) (show (3 : Nat).toInt32 = (3 : Int32) by decide) own_d_prog_23_method_2_code_5 (pc' := 6) rfl ?_
  refine own_istore X0 (Ls' := #[.val (.ref a1), .val (.double (0 : UInt64)), .second, .val (.ref a1), .val (.int (3 : Int32)), .unset, .unset, .unset]) rfl own_d_prog_23_method_2_code_6 (pc' := 8) rfl ?_
  refine own_iconst X0 (v := (0 : Int32)) (by decide) own_d_prog_23_method_2_code_8 (pc' := 9) rfl ?_
  refine own_istore X0 (Ls' := #[.val (.ref a1), .val (.double (0 : UInt64)), .second, .val (.ref a1), .val (.int (3 : Int32)), .val (.int (0 : Int32)), .unset, .unset]) rfl own_d_prog_23_method_2_code_9 (pc' := 11) rfl ?_
  refine own_iload X0 rfl own_d_prog_23_method_2_code_11 (pc' := 13) rfl ?_
  refine own_iload X0 rfl own_d_prog_23_method_2_code_13 (pc' := 15) rfl ?_
  refine own_icmpF X0 (by decide) own_d_prog_23_method_2_code_15 (pc' := 18) rfl ?_
  refine own_aloadN X0 rfl rfl own_d_prog_23_method_2_code_18 (pc' := 19) rfl ?_
  refine own_iload X0 rfl own_d_prog_23_method_2_code_19 (pc' := 21) rfl ?_
  refine own_daload X0 V1 (i := 0) (by decide) (by decide) rfl own_d_prog_23_method_2_code_21 (pc' := 22) rfl ?_
  refine own_dstore X0 (Ls' := #[.val (.ref a1), .val (.double (0 : UInt64)), .second, .val (.ref a1), .val (.int (3 : Int32)), .val (.int (0 : Int32)), .val (.double x0), .second]) rfl own_d_prog_23_method_2_code_22 (pc' := 24) rfl ?_
  refine own_dloadN X0 rfl own_d_prog_23_method_2_code_24 (pc' := 25) rfl ?_
  refine own_dload X0 rfl own_d_prog_23_method_2_code_25 (pc' := 27) rfl ?_
  have f36 : own_D 0 0 (0 : Int) (0 : UInt64) := own_D.lit (s := false) (c := 0) (q := -1074) (by decide +kernel) (by decide +kernel) (by decide)
  obtain ⟨d35, e35⟩ : ∃ v, FP.dadd (0 : UInt64) x0 = v := ⟨_, rfl⟩
  have f35 : own_D 0 2147483648 ((0 : Int) + i_x0) d35 := own_D.add f36 D_x0 e35 (by decide) (by decide) (by decide)
  refine own_dadd X0 e35 f35.nn own_d_prog_23_method_2_code_27 (pc' := 28) rfl ?_
  refine own_dstoreN X0 (Ls' := #[.val (.ref a1), .val (.double d35), .second, .val (.ref a1), .val (.int (3 : Int32)), .val (.int (0 : Int32)), .val (.double x0), .second]) rfl own_d_prog_23_method_2_code_28 (pc' := 29) rfl ?_
  refine own_iinc X0 (Ls' := #[.val (.ref a1), .val (.double d35), .second, .val (.ref a1), .val (.int (3 : Int32)), .val (.int (1 : Int32)), .val (.double x0), .second]) rfl (by decide) rfl own_d_prog_23_method_2_code_29 (pc' := 32) rfl ?_
  refine own_goto X0 own_d_prog_23_method_2_code_32 (pc' := 11) (by decide) (by decide) ?_
  refine own_iload X0 rfl own_d_prog_23_method_2_code_11 (pc' := 13) rfl ?_
  refine own_iload X0 rfl own_d_prog_23_method_2_code_13 (pc' := 15) rfl ?_
  refine own_icmpF X0 (by decide) own_d_prog_23_method_2_code_15 (pc' := 18) rfl ?_
  refine own_aloadN X0 rfl rfl own_d_prog_23_method_2_code_18 (pc' := 19) rfl ?_
  refine own_iload X0 rfl own_d_prog_23_method_2_code_19 (pc' := 21) rfl ?_
  refine own_daload X0 V1 (i := 1) (by decide) (by decide) rfl own_d_prog_23_method_2_code_21 (pc' := 22) rfl ?_
  refine own_dstore X0 (Ls' := #[.val (.ref a1), .val (.double d35), .second, .val (.ref a1), .val (.int (3 : Int32)), .val (.int (1 : Int32)), .val (.double x1), .second]) rfl own_d_prog_23_method_2_code_22 (pc' := 24) rfl ?_
  refine own_dloadN X0 rfl own_d_prog_23_method_2_code_24 (pc' := 25) rfl ?_
  refine own_dload X0 rfl own_d_prog_23_method_2_code_25 (pc' := 27) rfl ?_
  obtain ⟨d37, e37⟩ : ∃ v, FP.dadd d35 x1 = v := ⟨_, rfl⟩
  have f37 : own_D 0 4294967296 (((0 : Int) + i_x0) + i_x1) d37 := own_D.add f35 D_x1 e37 (by decide) (by decide) (by decide)
  refine own_dadd X0 e37 f37.nn own_d_prog_23_method_2_code_27 (pc' := 28) rfl ?_
  refine own_dstoreN X0 (Ls' := #[.val (.ref a1), .val (.double d37), .second, .val (.ref a1), .val (.int (3 : Int32)), .val (.int (1 : Int32)), .val (.double x1), .second]) rfl own_d_prog_23_method_2_code_28 (pc' := 29) rfl ?_
  refine own_iinc X0 (Ls' := #[.val (.ref a1), .val (.double d37), .second, .val (.ref a1), .val (.int (3 : Int32)), .val (.int (2 : Int32)), .val (.double x1), .second]) rfl (by decide) rfl own_d_prog_23_method_2_code_29 (pc' := 32) rfl ?_
  refine own_goto X0 own_d_prog_23_method_2_code_32 (pc' := 11) (by decide) (by decide) ?_
  refine own_iload X0 rfl own_d_prog_23_method_2_code_11 (pc' := 13) rfl ?_
  refine own_iload X0 rfl own_d_prog_23_method_2_code_13 (pc' := 15) rfl ?_
  refine own_icmpF X0 (by decide) own_d_prog_23_method_2_code_15 (pc' := 18) rfl ?_
  refine own_aloadN X0 rfl rfl own_d_prog_23_method_2_code_18 (pc' := 19) rfl ?_
  refine own_iload X0 rfl own_d_prog_23_method_2_code_19 (pc' := 21) rfl ?_
  refine own_daload X0 V1 (i := 2) (by decide) (by decide) rfl own_d_prog_23_method_2_code_21 (pc' := 22) rfl ?_
  refine own_dstore X0 (Ls' := #[.val (.ref a1), .val (.double d37), .second, .val (.ref a1), .val (.int (3 : Int32)), .val (.int (2 : Int32)), .val (.double x2), .second]) rfl own_d_prog_23_method_2_code_22 (pc' := 24) rfl ?_
  refine own_dloadN X0 rfl own_d_prog_23_method_2_code_24 (pc' := 25) rfl ?_
  refine own_dload X0 rfl own_d_prog_23_method_2_code_25 (pc' := 27) rfl ?_
  obtain ⟨d38, e38⟩ : ∃ v, FP.dadd d37 x2 = v := ⟨_, rfl⟩
  have f38 : own_D 0 6442450944 ((((0 : Int) + i_x0) + i_x1) + i_x2) d38 := own_D.add f37 D_x2 e38 (by decide) (by decide) (by decide)
  refine own_dadd X0 e38 f38.nn own_d_prog_23_method_2_code_27 (pc' := 28) rfl ?_
  refine own_dstoreN X0 (Ls' := #[.val (.ref a1), .val (.double d38), .second, .val (.ref a1), .val (.int (3 : Int32)), .val (.int (2 : Int32)), .val (.double x2), .second]) rfl own_d_prog_23_method_2_code_28 (pc' := 29) rfl ?_
  refine own_iinc X0 (Ls' := #[.val (.ref a1), .val (.double d38), .second, .val (.ref a1), .val (.int (3 : Int32)), .val (.int (3 : Int32)), .val (.double x2), .second]) rfl (by decide) rfl own_d_prog_23_method_2_code_29 (pc' := 32) rfl ?_
  refine own_goto X0 own_d_prog_23_method_2_code_32 (pc' := 11) (by decide) (by decide) ?_
  refine own_iload X0 rfl own_d_prog_23_method_2_code_11 (pc' := 13) rfl ?_
  refine own_iload X0 rfl own_d_prog_23_method_2_code_13 (pc' := 15) rfl ?_
  refine own_icmpT X0 (by decide) own_d_prog_23_method_2_code_15 (pc' := 35) (by decide) (by decide) ?_
  refine own_dloadN X0 rfl own_d_prog_23_method_2_code_35 (pc' := 36) rfl ?_
  refine own_aloadN X0 rfl rfl own_d_prog_23_method_2_code_36 (pc' := 37) rfl ?_
  refine own_len X0 V1 (v := (3 : Int32)) (show (3 : Nat).toInt32 = (3 : Int32) by decide) own_d_prog_23_method_2_code_37 (pc' := 38) rfl ?_
  have f39 : own_I 3 (3 : Int) (3 : Int32) := own_I.lit (by decide) (by decide)
  obtain ⟨d40, e40⟩ : ∃ v, FP.i2d (3 : Int32) = v := ⟨_, rfl⟩
  have f40 : own_D 0 3 (3 : Int) d40 := own_D.i2d f39 e40
  refine own_i2d X0 e40 own_d_prog_23_method_2_code_38 (pc' := 39) rfl ?_
  obtain ⟨d42, e42⟩ : ∃ v, FP.ddiv d38 d40 = v := ⟨_, rfl⟩
  have q42 := own_quot_nn f38 f40 (by decide) e42
  refine own_ddiv X0 e42 q42 own_d_prog_23_method_2_code_39 (pc' := 40) rfl ?_
  exact own_retD X0  own_d_prog_23_method_2_code_40 rfl (by decide) (by decide) ⟨⟨_, _, _, rfl, f38, f40, e42⟩, rfl⟩
abbrev own_rm_own_mean4 : Room := ({ frames := 0, cells := 0, slots := 0, locals := 0 } : Room)
set_option maxRecDepth 65536 in
set_option maxHeartbeats 40000000 in
theorem own_mean4 (l : Launch) (Z : State) (a0 : Array Value) (hw : ∀ d ∈ tables_1, d.before a0 Z = true) (a1 : Addr) (x0 : UInt64) (i_x0 : Int) (x1 : UInt64) (i_x1 : Int) (x2 : UInt64) (i_x2 : Int) (x3 : UInt64) (i_x3 : Int) (h0 : Heap) (n0 : Nat) (Z0 : n0 ≤ h0.size) (V1 : own_Vec Z h0 a1 .double [(.double x0), (.double x1), (.double x2), (.double x3)]) (D_x0 : own_D 0 2147483648 i_x0 x0) (D_x1 : own_D 0 2147483648 i_x1 x1) (D_x2 : own_D 0 2147483648 i_x2 x2) (D_x3 : own_D 0 2147483648 i_x3 x3) :
    own_Met l Z ({ cls := "com/example/conquex/conquex/Moments", name := "mean", desc := "([D)D" } : Jvm.MethodName) prog_23_method_2_code 8 (some .double) [] own_rm_own_mean4 #[(.ref a1)] h0 n0 (fun v h => (∃ r x z, v = some (.double r) ∧ own_D 0 8589934592 (((((0 : Int) + i_x0) + i_x1) + i_x2) + i_x3) x ∧ own_D 0 4 (4 : Int) z ∧ FP.ddiv x z = r) ∧ h = h0) := by
  refine own_meet (plainFor_of_name own_pn0) Z0 (Ls0 := #[.val (.ref a1), .unset, .unset, .unset, .unset, .unset, .unset, .unset]) (by intro m; first | (simp [entryFrame, mkF, argsToLocals, Value.category]; done) | rfl) ?_
  intro p e s m below meth c T0 X0
  refine own_dconst0 X0 (v := (0 : UInt64)) rfl own_d_prog_23_method_2_code_0 (pc' := 1) rfl ?_
  refine own_dstoreN X0 (Ls' := #[.val (.ref a1), .val (.double (0 : UInt64)), .second, .unset, .unset, .unset, .unset, .unset]) rfl own_d_prog_23_method_2_code_1 (pc' := 2) rfl ?_
  refine own_aloadN X0 rfl rfl own_d_prog_23_method_2_code_2 (pc' := 3) rfl ?_
  refine own_astoreN X0 (Ls' := #[.val (.ref a1), .val (.double (0 : UInt64)), .second, .val (.ref a1), .unset, .unset, .unset, .unset]) rfl rfl own_d_prog_23_method_2_code_3 (pc' := 4) rfl ?_
  refine own_aloadN X0 rfl rfl own_d_prog_23_method_2_code_4 (pc' := 5) rfl ?_
  refine own_len X0 V1 (v := (4 : Int32)) (show (4 : Nat).toInt32 = (4 : Int32) by decide) own_d_prog_23_method_2_code_5 (pc' := 6) rfl ?_
  refine own_istore X0 (Ls' := #[.val (.ref a1), .val (.double (0 : UInt64)), .second, .val (.ref a1), .val (.int (4 : Int32)), .unset, .unset, .unset]) rfl own_d_prog_23_method_2_code_6 (pc' := 8) rfl ?_
  refine own_iconst X0 (v := (0 : Int32)) (by decide) own_d_prog_23_method_2_code_8 (pc' := 9) rfl ?_
  refine own_istore X0 (Ls' := #[.val (.ref a1), .val (.double (0 : UInt64)), .second, .val (.ref a1), .val (.int (4 : Int32)), .val (.int (0 : Int32)), .unset, .unset]) rfl own_d_prog_23_method_2_code_9 (pc' := 11) rfl ?_
  refine own_iload X0 rfl own_d_prog_23_method_2_code_11 (pc' := 13) rfl ?_
  refine own_iload X0 rfl own_d_prog_23_method_2_code_13 (pc' := 15) rfl ?_
  refine own_icmpF X0 (by decide) own_d_prog_23_method_2_code_15 (pc' := 18) rfl ?_
  refine own_aloadN X0 rfl rfl own_d_prog_23_method_2_code_18 (pc' := 19) rfl ?_
  refine own_iload X0 rfl own_d_prog_23_method_2_code_19 (pc' := 21) rfl ?_
  refine own_daload X0 V1 (i := 0) (by decide) (by decide) rfl own_d_prog_23_method_2_code_21 (pc' := 22) rfl ?_
  refine own_dstore X0 (Ls' := #[.val (.ref a1), .val (.double (0 : UInt64)), .second, .val (.ref a1), .val (.int (4 : Int32)), .val (.int (0 : Int32)), .val (.double x0), .second]) rfl own_d_prog_23_method_2_code_22 (pc' := 24) rfl ?_
  refine own_dloadN X0 rfl own_d_prog_23_method_2_code_24 (pc' := 25) rfl ?_
  refine own_dload X0 rfl own_d_prog_23_method_2_code_25 (pc' := 27) rfl ?_
  have f53 : own_D 0 0 (0 : Int) (0 : UInt64) := own_D.lit (s := false) (c := 0) (q := -1074) (by decide +kernel) (by decide +kernel) (by decide)
  obtain ⟨d52, e52⟩ : ∃ v, FP.dadd (0 : UInt64) x0 = v := ⟨_, rfl⟩
  have f52 : own_D 0 2147483648 ((0 : Int) + i_x0) d52 := own_D.add f53 D_x0 e52 (by decide) (by decide) (by decide)
  refine own_dadd X0 e52 f52.nn own_d_prog_23_method_2_code_27 (pc' := 28) rfl ?_
  refine own_dstoreN X0 (Ls' := #[.val (.ref a1), .val (.double d52), .second, .val (.ref a1), .val (.int (4 : Int32)), .val (.int (0 : Int32)), .val (.double x0), .second]) rfl own_d_prog_23_method_2_code_28 (pc' := 29) rfl ?_
  refine own_iinc X0 (Ls' := #[.val (.ref a1), .val (.double d52), .second, .val (.ref a1), .val (.int (4 : Int32)), .val (.int (1 : Int32)), .val (.double x0), .second]) rfl (by decide) rfl own_d_prog_23_method_2_code_29 (pc' := 32) rfl ?_
  refine own_goto X0 own_d_prog_23_method_2_code_32 (pc' := 11) (by decide) (by decide) ?_
  refine own_iload X0 rfl own_d_prog_23_method_2_code_11 (pc' := 13) rfl ?_
  refine own_iload X0 rfl own_d_prog_23_method_2_code_13 (pc' := 15) rfl ?_
  refine own_icmpF X0 (by decide) own_d_prog_23_method_2_code_15 (pc' := 18) rfl ?_
  refine own_aloadN X0 rfl rfl own_d_prog_23_method_2_code_18 (pc' := 19) rfl ?_
  refine own_iload X0 rfl own_d_prog_23_method_2_code_19 (pc' := 21) rfl ?_
  refine own_daload X0 V1 (i := 1) (by decide) (by decide) rfl own_d_prog_23_method_2_code_21 (pc' := 22) rfl ?_
  refine own_dstore X0 (Ls' := #[.val (.ref a1), .val (.double d52), .second, .val (.ref a1), .val (.int (4 : Int32)), .val (.int (1 : Int32)), .val (.double x1), .second]) rfl own_d_prog_23_method_2_code_22 (pc' := 24) rfl ?_
  refine own_dloadN X0 rfl own_d_prog_23_method_2_code_24 (pc' := 25) rfl ?_
  refine own_dload X0 rfl own_d_prog_23_method_2_code_25 (pc' := 27) rfl ?_
  obtain ⟨d54, e54⟩ : ∃ v, FP.dadd d52 x1 = v := ⟨_, rfl⟩
  have f54 : own_D 0 4294967296 (((0 : Int) + i_x0) + i_x1) d54 := own_D.add f52 D_x1 e54 (by decide) (by decide) (by decide)
  refine own_dadd X0 e54 f54.nn own_d_prog_23_method_2_code_27 (pc' := 28) rfl ?_
  refine own_dstoreN X0 (Ls' := #[.val (.ref a1), .val (.double d54), .second, .val (.ref a1), .val (.int (4 : Int32)), .val (.int (1 : Int32)), .val (.double x1), .second]) rfl own_d_prog_23_method_2_code_28 (pc' := 29) rfl ?_
  refine own_iinc X0 (Ls' := #[.val (.ref a1), .val (.double d54), .second, .val (.ref a1), .val (.int (4 : Int32)), .val (.int (2 : Int32)), .val (.double x1), .second]) rfl (by decide) rfl own_d_prog_23_method_2_code_29 (pc' := 32) rfl ?_
  refine own_goto X0 own_d_prog_23_method_2_code_32 (pc' := 11) (by decide) (by decide) ?_
  refine own_iload X0 rfl own_d_prog_23_method_2_code_11 (pc' := 13) rfl ?_
  refine own_iload X0 rfl own_d_prog_23_method_2_code_13 (pc' := 15) rfl ?_
  refine own_icmpF X0 (by decide) own_d_prog_23_method_2_code_15 (pc' := 18) rfl ?_
  refine own_aloadN X0 rfl rfl own_d_prog_23_method_2_code_18 (pc' := 19) rfl ?_
  refine own_iload X0 rfl own_d_prog_23_method_2_code_19 (pc' := 21) rfl ?_
  refine own_daload X0 V1 (i := 2) (by decide) (by decide) rfl own_d_prog_23_method_2_code_21 (pc' := 22) rfl ?_
  refine own_dstore X0 (Ls' := #[.val (.ref a1), .val (.double d54), .second, .val (.ref a1), .val (.int (4 : Int32)), .val (.int (2 : Int32)), .val (.double x2), .second]) rfl own_d_prog_23_method_2_code_22 (pc' := 24) rfl ?_
  refine own_dloadN X0 rfl own_d_prog_23_method_2_code_24 (pc' := 25) rfl ?_
  refine own_dload X0 rfl own_d_prog_23_method_2_code_25 (pc' := 27) rfl ?_
  obtain ⟨d55, e55⟩ : ∃ v, FP.dadd d54 x2 = v := ⟨_, rfl⟩
  have f55 : own_D 0 6442450944 ((((0 : Int) + i_x0) + i_x1) + i_x2) d55 := own_D.add f54 D_x2 e55 (by decide) (by decide) (by decide)
  refine own_dadd X0 e55 f55.nn own_d_prog_23_method_2_code_27 (pc' := 28) rfl ?_
  refine own_dstoreN X0 (Ls' := #[.val (.ref a1), .val (.double d55), .second, .val (.ref a1), .val (.int (4 : Int32)), .val (.int (2 : Int32)), .val (.double x2), .second]) rfl own_d_prog_23_method_2_code_28 (pc' := 29) rfl ?_
  refine own_iinc X0 (Ls' := #[.val (.ref a1), .val (.double d55), .second, .val (.ref a1), .val (.int (4 : Int32)), .val (.int (3 : Int32)), .val (.double x2), .second]) rfl (by decide) rfl own_d_prog_23_method_2_code_29 (pc' := 32) rfl ?_
  refine own_goto X0 own_d_prog_23_method_2_code_32 (pc' := 11) (by decide) (by decide) ?_
  refine own_iload X0 rfl own_d_prog_23_method_2_code_11 (pc' := 13) rfl ?_
  refine own_iload X0 rfl own_d_prog_23_method_2_code_13 (pc' := 15) rfl ?_
  refine own_icmpF X0 (by decide) own_d_prog_23_method_2_code_15 (pc' := 18) rfl ?_
  refine own_aloadN X0 rfl rfl own_d_prog_23_method_2_code_18 (pc' := 19) rfl ?_
  refine own_iload X0 rfl own_d_prog_23_method_2_code_19 (pc' := 21) rfl ?_
  refine own_daload X0 V1 (i := 3) (by decide) (by decide) rfl own_d_prog_23_method_2_code_21 (pc' := 22) rfl ?_
  refine own_dstore X0 (Ls' := #[.val (.ref a1), .val (.double d55), .second, .val (.ref a1), .val (.int (4 : Int32)), .val (.int (3 : Int32)), .val (.double x3), .second]) rfl own_d_prog_23_method_2_code_22 (pc' := 24) rfl ?_
  refine own_dloadN X0 rfl own_d_prog_23_method_2_code_24 (pc' := 25) rfl ?_
  refine own_dload X0 rfl own_d_prog_23_method_2_code_25 (pc' := 27) rfl ?_
  obtain ⟨d56, e56⟩ : ∃ v, FP.dadd d55 x3 = v := ⟨_, rfl⟩
  have f56 : own_D 0 8589934592 (((((0 : Int) + i_x0) + i_x1) + i_x2) + i_x3) d56 := own_D.add f55 D_x3 e56 (by decide) (by decide) (by decide)
  refine own_dadd X0 e56 f56.nn own_d_prog_23_method_2_code_27 (pc' := 28) rfl ?_
  refine own_dstoreN X0 (Ls' := #[.val (.ref a1), .val (.double d56), .second, .val (.ref a1), .val (.int (4 : Int32)), .val (.int (3 : Int32)), .val (.double x3), .second]) rfl own_d_prog_23_method_2_code_28 (pc' := 29) rfl ?_
  refine own_iinc X0 (Ls' := #[.val (.ref a1), .val (.double d56), .second, .val (.ref a1), .val (.int (4 : Int32)), .val (.int (4 : Int32)), .val (.double x3), .second]) rfl (by decide) rfl own_d_prog_23_method_2_code_29 (pc' := 32) rfl ?_
  refine own_goto X0 own_d_prog_23_method_2_code_32 (pc' := 11) (by decide) (by decide) ?_
  refine own_iload X0 rfl own_d_prog_23_method_2_code_11 (pc' := 13) rfl ?_
  refine own_iload X0 rfl own_d_prog_23_method_2_code_13 (pc' := 15) rfl ?_
  refine own_icmpT X0 (by decide) own_d_prog_23_method_2_code_15 (pc' := 35) (by decide) (by decide) ?_
  refine own_dloadN X0 rfl own_d_prog_23_method_2_code_35 (pc' := 36) rfl ?_
  refine own_aloadN X0 rfl rfl own_d_prog_23_method_2_code_36 (pc' := 37) rfl ?_
  refine own_len X0 V1 (v := (4 : Int32)) (show (4 : Nat).toInt32 = (4 : Int32) by decide) own_d_prog_23_method_2_code_37 (pc' := 38) rfl ?_
  have f57 : own_I 4 (4 : Int) (4 : Int32) := own_I.lit (by decide) (by decide)
  obtain ⟨d58, e58⟩ : ∃ v, FP.i2d (4 : Int32) = v := ⟨_, rfl⟩
  have f58 : own_D 0 4 (4 : Int) d58 := own_D.i2d f57 e58
  refine own_i2d X0 e58 own_d_prog_23_method_2_code_38 (pc' := 39) rfl ?_
  obtain ⟨d60, e60⟩ : ∃ v, FP.ddiv d56 d58 = v := ⟨_, rfl⟩
  have q60 := own_quot_nn f56 f58 (by decide) e60
  refine own_ddiv X0 e60 q60 own_d_prog_23_method_2_code_39 (pc' := 40) rfl ?_
  exact own_retD X0  own_d_prog_23_method_2_code_40 rfl (by decide) (by decide) ⟨⟨_, _, _, rfl, f56, f58, e60⟩, rfl⟩
theorem own_pn1 : plainName "com/example/conquex/conquex/MomentsMeanPinLaw" = true := by first | (simp [plainName, overriddenIn]; done) | decide +kernel
set_option maxRecDepth 65536 in
set_option maxHeartbeats 40000000 in
theorem own_law (l : Launch) (Z : State) (a0 : Array Value) (hw : ∀ d ∈ tables_1, d.before a0 Z = true) (ws : List Jvm.Cond) (p0 : Int32) (p1 : Int32) (p2 : Int32) (p3 : Int32) (p4 : Int32) (h0 : Heap) (n0 : Nat) (Z0 : n0 ≤ h0.size)  :
    own_Met l Z x code maxLocals ret ws room_1 #[(.int p0), (.int p1), (.int p2), (.int p3), (.int p4)] h0 n0 (fun v _ => v = some (.int 1)) := by
  refine own_meet (plainFor_of_name own_pn1) Z0 (Ls0 := #[.val (.int p0), .val (.int p1), .val (.int p2), .val (.int p3), .val (.int p4), .unset, .unset, .unset, .unset, .unset, .unset]) (by intro m; first | (simp [entryFrame, mkF, argsToLocals, Value.category, maxLocals]; done) | rfl) ?_
  intro p e s m below meth c T0 X0
  refine own_iconst X0 (v := (1 : Int32)) (by decide) at_0 (pc' := 1) rfl ?_
  refine own_iloadN X0 rfl at_1 (pc' := 2) rfl ?_
  refine own_iconst X0 (v := (3 : Int32)) (by decide) at_2 (pc' := 3) rfl ?_
  obtain ⟨i61, e61⟩ : ∃ v, p0 &&& (3 : Int32) = v := ⟨_, rfl⟩
  have f61 : own_I 3 i61.toInt i61 := own_I.and e61 (by decide)
  have nn61 := own_and_nn (M := 3) e61 (by decide)
  refine own_iand X0 e61 at_3 (pc' := 4) rfl ?_
  rcases own_cases4 nn61 with rfl | rfl | rfl | rfl
  · -- 0
    refine own_iadd X0 (v := (1 : Int32)) (by decide) at_4 (pc' := 5) rfl ?_
    refine own_istore X0 (Ls' := #[.val (.int p0), .val (.int p1), .val (.int p2), .val (.int p3), .val (.int p4), .val (.int (1 : Int32)), .unset, .unset, .unset, .unset, .unset]) rfl at_5 (pc' := 7) rfl ?_
    refine own_iloadN X0 rfl at_7 (pc' := 8) rfl ?_
    have f62 := own_I.start p1
    obtain ⟨j63, e63⟩ : ∃ v, p1.toInt64 = v := ⟨_, rfl⟩
    have f63 : own_L 2147483648 p1.toInt j63 := own_L.ofI f62 e63
    refine own_i2l X0 e63 at_8 (pc' := 9) rfl ?_
    refine own_lstore X0 (Ls' := #[.val (.int p0), .val (.int p1), .val (.int p2), .val (.int p3), .val (.int p4), .val (.int (1 : Int32)), .val (.long j63), .second, .unset, .unset, .unset]) rfl at_9 (pc' := 11) rfl ?_
    refine own_iload X0 rfl at_11 (pc' := 13) rfl ?_
    refine own_iconst X0 (v := (2 : Int32)) (by decide) at_13 (pc' := 14) rfl ?_
    refine own_icmpT X0 (by decide) at_14 (pc' := 24) (by decide) (by decide) ?_
    refine own_iload X0 rfl at_24 (pc' := 26) rfl ?_
    refine own_iconst X0 (v := (3 : Int32)) (by decide) at_26 (pc' := 27) rfl ?_
    refine own_icmpT X0 (by decide) at_27 (pc' := 37) (by decide) (by decide) ?_
    refine own_iload X0 rfl at_37 (pc' := 39) rfl ?_
    refine own_iconst X0 (v := (4 : Int32)) (by decide) at_39 (pc' := 40) rfl ?_
    refine own_icmpT X0 (by decide) at_40 (pc' := 51) (by decide) (by decide) ?_
    refine own_iload X0 rfl at_51 (pc' := 53) rfl ?_
    refine own_iconst X0 (v := (1 : Int32)) (by decide) at_53 (pc' := 54) rfl ?_
    refine own_icmpF X0 (by decide) at_54 (pc' := 57) rfl ?_
    refine own_iconst X0 (v := (1 : Int32)) (by decide) at_57 (pc' := 58) rfl ?_
    refine own_newarray X0 (ty := .double) rfl (hw _ (List.mem_of_getElem? (i := 0) rfl)) (n := 1) (vs := [(.double (0 : UInt64))]) (by decide) (by decide) (by decide) rfl (cells' := 1) (slots' := 1) rfl rfl (by decide) (by decide) at_58 (pc' := 60) rfl fun a64 T64 h64 g64 ge64 X64 E64 V64 => ?_
    refine own_dup X64 rfl at_60 (pc' := 61) rfl ?_
    refine own_iconst X64 (v := (0 : Int32)) (by decide) at_61 (pc' := 62) rfl ?_
    refine own_iloadN X64 rfl at_62 (pc' := 63) rfl ?_
    obtain ⟨d65, e65⟩ : ∃ v, FP.i2d p1 = v := ⟨_, rfl⟩
    have f65 : own_D 0 2147483648 p1.toInt d65 := own_D.i2d f62 e65
    refine own_i2d X64 e65 at_63 (pc' := 64) rfl ?_
    refine own_dastore X64 V64 ge64 (i := 0) (by decide) (by decide) (show 0 < 1 by decide) at_64 (pc' := 65) rfl fun T66 h66 X66 W66 V66 => ?_
    replace V66 : own_Vec Z h66 a64 .double [(.double d65)] := V66
    refine own_astore X66 (Ls' := #[.val (.int p0), .val (.int p1), .val (.int p2), .val (.int p3), .val (.int p4), .val (.int (1 : Int32)), .val (.long j63), .second, .val (.ref a64), .unset, .unset]) rfl rfl at_65 (pc' := 67) rfl ?_
    refine own_goto X66 at_67 (pc' := 149) (by decide) (by decide) ?_
    refine own_lload X66 rfl at_149 (pc' := 151) rfl ?_
    obtain ⟨d67, e67⟩ : ∃ v, FP.l2d j63 = v := ⟨_, rfl⟩
    have f67 : own_D 0 2147483648 p1.toInt d67 := own_D.l2d f63 e67 (by decide)
    refine own_l2d X66 e67 at_151 (pc' := 152) rfl ?_
    refine own_iload X66 rfl at_152 (pc' := 154) rfl ?_
    have f68 : own_I 1 (1 : Int) (1 : Int32) := own_I.lit (by decide) (by decide)
    obtain ⟨d69, e69⟩ : ∃ v, FP.i2d (1 : Int32) = v := ⟨_, rfl⟩
    have f69 : own_D 0 1 (1 : Int) d69 := own_D.i2d f68 e69
    refine own_i2d X66 e69 at_154 (pc' := 155) rfl ?_
    obtain ⟨d71, e71⟩ : ∃ v, FP.ddiv d67 d69 = v := ⟨_, rfl⟩
    have q71 := own_quot_nn f67 f69 (by decide) e71
    refine own_ddiv X66 e71 q71 at_155 (pc' := 156) rfl ?_
    refine own_dstore X66 (Ls' := #[.val (.int p0), .val (.int p1), .val (.int p2), .val (.int p3), .val (.int p4), .val (.int (1 : Int32)), .val (.long j63), .second, .val (.ref a64), .val (.double d71), .second]) rfl at_156 (pc' := 158) rfl ?_
    refine own_aload X66 rfl rfl at_158 (pc' := 160) rfl ?_
    refine own_callS X66 (own_mean1 l Z a0 hw a64 d65 p1.toInt _ n0 X66.le V66 f65) (hw _ (List.mem_of_getElem? (i := 1) rfl)) (hw _ (List.mem_of_getElem? (i := 2) rfl)) (hw _ (List.mem_of_getElem? (i := 3) rfl)) (hw _ (List.mem_of_getElem? (i := 4) rfl)) (by decide) rfl (by decide) (W := 0) (Nat.le_of_eq rfl) (by decide) (cells' := 1) (slots' := 1) rfl rfl (by decide) (by decide) (argsL := [(.ref a64)]) (rest := []) (lenOf own_pd0 rfl) rfl rfl at_160 (pc' := 163) rfl ?_
    rintro _ T72 h72 X72 ⟨⟨r72, x72, z72, rfl, fx72, fz72, eq72⟩, e72⟩
    subst e72
    show own_Goal p e below _ T72 (mkF m 163 #[.val (.int p0), .val (.int p1), .val (.int p2), .val (.int p3), .val (.int p4), .val (.int (1 : Int32)), .val (.long j63), .second, .val (.ref a64), .val (.double d71), .second] [(.double r72)])
    refine own_dload X72 rfl at_163 (pc' := 165) rfl ?_
    have q73 := fx72.of_eq (show ((0 : Int) + p1.toInt) = p1.toInt by grind)
    refine own_dcmp X72 (v := (0 : Int32)) (own_quot_cmp q73 fz72 f67 f69 (by decide) eq72 e71) at_165 (pc' := 166) rfl ?_
    refine own_ifF X72 (by decide) at_166 (pc' := 169) rfl ?_
    refine own_iconst X72 (v := (1 : Int32)) (by decide) at_169 (pc' := 170) rfl ?_
    refine own_goto X72 at_170 (pc' := 174) (by decide) (by decide) ?_
    exact own_retZ X72 (by decide) at_174 rfl (by decide) (by decide) rfl
  · -- 1
    refine own_iadd X0 (v := (2 : Int32)) (by decide) at_4 (pc' := 5) rfl ?_
    refine own_istore X0 (Ls' := #[.val (.int p0), .val (.int p1), .val (.int p2), .val (.int p3), .val (.int p4), .val (.int (2 : Int32)), .unset, .unset, .unset, .unset, .unset]) rfl at_5 (pc' := 7) rfl ?_
    refine own_iloadN X0 rfl at_7 (pc' := 8) rfl ?_
    have f74 := own_I.start p1
    obtain ⟨j75, e75⟩ : ∃ v, p1.toInt64 = v := ⟨_, rfl⟩
    have f75 : own_L 2147483648 p1.toInt j75 := own_L.ofI f74 e75
    refine own_i2l X0 e75 at_8 (pc' := 9) rfl ?_
    refine own_lstore X0 (Ls' := #[.val (.int p0), .val (.int p1), .val (.int p2), .val (.int p3), .val (.int p4), .val (.int (2 : Int32)), .val (.long j75), .second, .unset, .unset, .unset]) rfl at_9 (pc' := 11) rfl ?_
    refine own_iload X0 rfl at_11 (pc' := 13) rfl ?_
    refine own_iconst X0 (v := (2 : Int32)) (by decide) at_13 (pc' := 14) rfl ?_
    refine own_icmpF X0 (by decide) at_14 (pc' := 17) rfl ?_
    refine own_lload X0 rfl at_17 (pc' := 19) rfl ?_
    refine own_iloadN X0 rfl at_19 (pc' := 20) rfl ?_
    have f76 := own_I.start p2
    obtain ⟨j77, e77⟩ : ∃ v, p2.toInt64 = v := ⟨_, rfl⟩
    have f77 : own_L 2147483648 p2.toInt j77 := own_L.ofI f76 e77
    refine own_i2l X0 e77 at_20 (pc' := 21) rfl ?_
    obtain ⟨j78, e78⟩ : ∃ v, j75 + j77 = v := ⟨_, rfl⟩
    have f78 : own_L 4294967296 (p1.toInt + p2.toInt) j78 := f75.add f77 e78 (by decide) (by decide)
    refine own_ladd X0 e78 at_21 (pc' := 22) rfl ?_
    refine own_lstore X0 (Ls' := #[.val (.int p0), .val (.int p1), .val (.int p2), .val (.int p3), .val (.int p4), .val (.int (2 : Int32)), .val (.long j78), .second, .unset, .unset, .unset]) rfl at_22 (pc' := 24) rfl ?_
    refine own_iload X0 rfl at_24 (pc' := 26) rfl ?_
    refine own_iconst X0 (v := (3 : Int32)) (by decide) at_26 (pc' := 27) rfl ?_
    refine own_icmpT X0 (by decide) at_27 (pc' := 37) (by decide) (by decide) ?_
    refine own_iload X0 rfl at_37 (pc' := 39) rfl ?_
    refine own_iconst X0 (v := (4 : Int32)) (by decide) at_39 (pc' := 40) rfl ?_
    refine own_icmpT X0 (by decide) at_40 (pc' := 51) (by decide) (by decide) ?_
    refine own_iload X0 rfl at_51 (pc' := 53) rfl ?_
    refine own_iconst X0 (v := (1 : Int32)) (by decide) at_53 (pc' := 54) rfl ?_
    refine own_icmpT X0 (by decide) at_54 (pc' := 70) (by decide) (by decide) ?_
    refine own_iload X0 rfl at_70 (pc' := 72) rfl ?_
    refine own_iconst X0 (v := (2 : Int32)) (by decide) at_72 (pc' := 73) rfl ?_
    refine own_icmpF X0 (by decide) at_73 (pc' := 76) rfl ?_
    refine own_iconst X0 (v := (2 : Int32)) (by decide) at_76 (pc' := 77) rfl ?_
    refine own_newarray X0 (ty := .double) rfl (hw _ (List.mem_of_getElem? (i := 0) rfl)) (n := 2) (vs := [(.double (0 : UInt64)), (.double (0 : UInt64))]) (by decide) (by decide) (by decide) rfl (cells' := 1) (slots' := 2) rfl rfl (by decide) (by decide) at_77 (pc' := 79) rfl fun a79 T79 h79 g79 ge79 X79 E79 V79 => ?_
    refine own_dup X79 rfl at_79 (pc' := 80) rfl ?_
    refine own_iconst X79 (v := (0 : Int32)) (by decide) at_80 (pc' := 81) rfl ?_
    refine own_iloadN X79 rfl at_81 (pc' := 82) rfl ?_
    obtain ⟨d80, e80⟩ : ∃ v, FP.i2d p1 = v := ⟨_, rfl⟩
    have f80 : own_D 0 2147483648 p1.toInt d80 := own_D.i2d f74 e80
    refine own_i2d X79 e80 at_82 (pc' := 83) rfl ?_
    refine own_dastore X79 V79 ge79 (i := 0) (by decide) (by decide) (show 0 < 2 by decide) at_83 (pc' := 84) rfl fun T81 h81 X81 W81 V81 => ?_
    replace V81 : own_Vec Z h81 a79 .double [(.double d80), (.double (0 : UInt64))] := V81
    refine own_dup X81 rfl at_84 (pc' := 85) rfl ?_
    refine own_iconst X81 (v := (1 : Int32)) (by decide) at_85 (pc' := 86) rfl ?_
    refine own_iloadN X81 rfl at_86 (pc' := 87) rfl ?_
    obtain ⟨d82, e82⟩ : ∃ v, FP.i2d p2 = v := ⟨_, rfl⟩
    have f82 : own_D 0 2147483648 p2.toInt d82 := own_D.i2d f76 e82
    refine own_i2d X81 e82 at_87 (pc' := 88) rfl ?_
    refine own_dastore X81 V81 ge79 (i := 1) (by decide) (by decide) (show 1 < 2 by decide) at_88 (pc' := 89) rfl fun T83 h83 X83 W83 V83 => ?_
    replace V83 : own_Vec Z h83 a79 .double [(.double d80), (.double d82)] := V83
    refine own_astore X83 (Ls' := #[.val (.int p0), .val (.int p1), .val (.int p2), .val (.int p3), .val (.int p4), .val (.int (2 : Int32)), .val (.long j78), .second, .val (.ref a79), .unset, .unset]) rfl rfl at_89 (pc' := 91) rfl ?_
    refine own_goto X83 at_91 (pc' := 149) (by decide) (by decide) ?_
    refine own_lload X83 rfl at_149 (pc' := 151) rfl ?_
    obtain ⟨d84, e84⟩ : ∃ v, FP.l2d j78 = v := ⟨_, rfl⟩
    have f84 : own_D 0 4294967296 (p1.toInt + p2.toInt) d84 := own_D.l2d f78 e84 (by decide)
    refine own_l2d X83 e84 at_151 (pc' := 152) rfl ?_
    refine own_iload X83 rfl at_152 (pc' := 154) rfl ?_
    have f85 : own_I 2 (2 : Int) (2 : Int32) := own_I.lit (by decide) (by decide)
    obtain ⟨d86, e86⟩ : ∃ v, FP.i2d (2 : Int32) = v := ⟨_, rfl⟩
    have f86 : own_D 0 2 (2 : Int) d86 := own_D.i2d f85 e86
    refine own_i2d X83 e86 at_154 (pc' := 155) rfl ?_
    obtain ⟨d88, e88⟩ : ∃ v, FP.ddiv d84 d86 = v := ⟨_, rfl⟩
    have q88 := own_quot_nn f84 f86 (by decide) e88
    refine own_ddiv X83 e88 q88 at_155 (pc' := 156) rfl ?_
    refine own_dstore X83 (Ls' := #[.val (.int p0), .val (.int p1), .val (.int p2), .val (.int p3), .val (.int p4), .val (.int (2 : Int32)), .val (.long j78), .second, .val (.ref a79), .val (.double d88), .second]) rfl at_156 (pc' := 158) rfl ?_
    refine own_aload X83 rfl rfl at_158 (pc' := 160) rfl ?_
    refine own_callS X83 (own_mean2 l Z a0 hw a79 d80 p1.toInt d82 p2.toInt _ n0 X83.le V83 f80 f82) (hw _ (List.mem_of_getElem? (i := 1) rfl)) (hw _ (List.mem_of_getElem? (i := 2) rfl)) (hw _ (List.mem_of_getElem? (i := 3) rfl)) (hw _ (List.mem_of_getElem? (i := 4) rfl)) (by decide) rfl (by decide) (W := 0) (Nat.le_of_eq rfl) (by decide) (cells' := 1) (slots' := 2) rfl rfl (by decide) (by decide) (argsL := [(.ref a79)]) (rest := []) (lenOf own_pd0 rfl) rfl rfl at_160 (pc' := 163) rfl ?_
    rintro _ T89 h89 X89 ⟨⟨r89, x89, z89, rfl, fx89, fz89, eq89⟩, e89⟩
    subst e89
    show own_Goal p e below _ T89 (mkF m 163 #[.val (.int p0), .val (.int p1), .val (.int p2), .val (.int p3), .val (.int p4), .val (.int (2 : Int32)), .val (.long j78), .second, .val (.ref a79), .val (.double d88), .second] [(.double r89)])
    refine own_dload X89 rfl at_163 (pc' := 165) rfl ?_
    have q90 := fx89.of_eq (show (((0 : Int) + p1.toInt) + p2.toInt) = (p1.toInt + p2.toInt) by grind)
    refine own_dcmp X89 (v := (0 : Int32)) (own_quot_cmp q90 fz89 f84 f86 (by decide) eq89 e88) at_165 (pc' := 166) rfl ?_
    refine own_ifF X89 (by decide) at_166 (pc' := 169) rfl ?_
    refine own_iconst X89 (v := (1 : Int32)) (by decide) at_169 (pc' := 170) rfl ?_
    refine own_goto X89 at_170 (pc' := 174) (by decide) (by decide) ?_
    exact own_retZ X89 (by decide) at_174 rfl (by decide) (by decide) rfl
  · -- 2
    refine own_iadd X0 (v := (3 : Int32)) (by decide) at_4 (pc' := 5) rfl ?_
    refine own_istore X0 (Ls' := #[.val (.int p0), .val (.int p1), .val (.int p2), .val (.int p3), .val (.int p4), .val (.int (3 : Int32)), .unset, .unset, .unset, .unset, .unset]) rfl at_5 (pc' := 7) rfl ?_
    refine own_iloadN X0 rfl at_7 (pc' := 8) rfl ?_
    have f91 := own_I.start p1
    obtain ⟨j92, e92⟩ : ∃ v, p1.toInt64 = v := ⟨_, rfl⟩
    have f92 : own_L 2147483648 p1.toInt j92 := own_L.ofI f91 e92
    refine own_i2l X0 e92 at_8 (pc' := 9) rfl ?_
    refine own_lstore X0 (Ls' := #[.val (.int p0), .val (.int p1), .val (.int p2), .val (.int p3), .val (.int p4), .val (.int (3 : Int32)), .val (.long j92), .second, .unset, .unset, .unset]) rfl at_9 (pc' := 11) rfl ?_
    refine own_iload X0 rfl at_11 (pc' := 13) rfl ?_
    refine own_iconst X0 (v := (2 : Int32)) (by decide) at_13 (pc' := 14) rfl ?_
    refine own_icmpF X0 (by decide) at_14 (pc' := 17) rfl ?_
    refine own_lload X0 rfl at_17 (pc' := 19) rfl ?_
    refine own_iloadN X0 rfl at_19 (pc' := 20) rfl ?_
    have f93 := own_I.start p2
    obtain ⟨j94, e94⟩ : ∃ v, p2.toInt64 = v := ⟨_, rfl⟩
    have f94 : own_L 2147483648 p2.toInt j94 := own_L.ofI f93 e94
    refine own_i2l X0 e94 at_20 (pc' := 21) rfl ?_
    obtain ⟨j95, e95⟩ : ∃ v, j92 + j94 = v := ⟨_, rfl⟩
    have f95 : own_L 4294967296 (p1.toInt + p2.toInt) j95 := f92.add f94 e95 (by decide) (by decide)
    refine own_ladd X0 e95 at_21 (pc' := 22) rfl ?_
    refine own_lstore X0 (Ls' := #[.val (.int p0), .val (.int p1), .val (.int p2), .val (.int p3), .val (.int p4), .val (.int (3 : Int32)), .val (.long j95), .second, .unset, .unset, .unset]) rfl at_22 (pc' := 24) rfl ?_
    refine own_iload X0 rfl at_24 (pc' := 26) rfl ?_
    refine own_iconst X0 (v := (3 : Int32)) (by decide) at_26 (pc' := 27) rfl ?_
    refine own_icmpF X0 (by decide) at_27 (pc' := 30) rfl ?_
    refine own_lload X0 rfl at_30 (pc' := 32) rfl ?_
    refine own_iloadN X0 rfl at_32 (pc' := 33) rfl ?_
    have f96 := own_I.start p3
    obtain ⟨j97, e97⟩ : ∃ v, p3.toInt64 = v := ⟨_, rfl⟩
    have f97 : own_L 2147483648 p3.toInt j97 := own_L.ofI f96 e97
    refine own_i2l X0 e97 at_33 (pc' := 34) rfl ?_
    obtain ⟨j98, e98⟩ : ∃ v, j95 + j97 = v := ⟨_, rfl⟩
    have f98 : own_L 6442450944 ((p1.toInt + p2.toInt) + p3.toInt) j98 := f95.add f97 e98 (by decide) (by decide)
    refine own_ladd X0 e98 at_34 (pc' := 35) rfl ?_
    refine own_lstore X0 (Ls' := #[.val (.int p0), .val (.int p1), .val (.int p2), .val (.int p3), .val (.int p4), .val (.int (3 : Int32)), .val (.long j98), .second, .unset, .unset, .unset]) rfl at_35 (pc' := 37) rfl ?_
    refine own_iload X0 rfl at_37 (pc' := 39) rfl ?_
    refine own_iconst X0 (v := (4 : Int32)) (by decide) at_39 (pc' := 40) rfl ?_
    refine own_icmpT X0 (by decide) at_40 (pc' := 51) (by decide) (by decide) ?_
    refine own_iload X0 rfl at_51 (pc' := 53) rfl ?_
    refine own_iconst X0 (v := (1 : Int32)) (by decide) at_53 (pc' := 54) rfl ?_
    refine own_icmpT X0 (by decide) at_54 (pc' := 70) (by decide) (by decide) ?_
    refine own_iload X0 rfl at_70 (pc' := 72) rfl ?_
    refine own_iconst X0 (v := (2 : Int32)) (by decide) at_72 (pc' := 73) rfl ?_
    refine own_icmpT X0 (by decide) at_73 (pc' := 94) (by decide) (by decide) ?_
    refine own_iload X0 rfl at_94 (pc' := 96) rfl ?_
    refine own_iconst X0 (v := (3 : Int32)) (by decide) at_96 (pc' := 97) rfl ?_
    refine own_icmpF X0 (by decide) at_97 (pc' := 100) rfl ?_
    refine own_iconst X0 (v := (3 : Int32)) (by decide) at_100 (pc' := 101) rfl ?_
    refine own_newarray X0 (ty := .double) rfl (hw _ (List.mem_of_getElem? (i := 0) rfl)) (n := 3) (vs := [(.double (0 : UInt64)), (.double (0 : UInt64)), (.double (0 : UInt64))]) (by decide) (by decide) (by decide) rfl (cells' := 1) (slots' := 3) rfl rfl (by decide) (by decide) at_101 (pc' := 103) rfl fun a99 T99 h99 g99 ge99 X99 E99 V99 => ?_
    refine own_dup X99 rfl at_103 (pc' := 104) rfl ?_
    refine own_iconst X99 (v := (0 : Int32)) (by decide) at_104 (pc' := 105) rfl ?_
    refine own_iloadN X99 rfl at_105 (pc' := 106) rfl ?_
    obtain ⟨d100, e100⟩ : ∃ v, FP.i2d p1 = v := ⟨_, rfl⟩
    have f100 : own_D 0 2147483648 p1.toInt d100 := own_D.i2d f91 e100
    refine own_i2d X99 e100 at_106 (pc' := 107) rfl ?_
    refine own_dastore X99 V99 ge99 (i := 0) (by decide) (by decide) (show 0 < 3 by decide) at_107 (pc' := 108) rfl fun T101 h101 X101 W101 V101 => ?_
    replace V101 : own_Vec Z h101 a99 .double [(.double d100), (.double (0 : UInt64)), (.double (0 : UInt64))] := V101
    refine own_dup X101 rfl at_108 (pc' := 109) rfl ?_
    refine own_iconst X101 (v := (1 : Int32)) (by decide) at_109 (pc' := 110) rfl ?_
    refine own_iloadN X101 rfl at_110 (pc' := 111) rfl ?_
    obtain ⟨d102, e102⟩ : ∃ v, FP.i2d p2 = v := ⟨_, rfl⟩
    have f102 : own_D 0 2147483648 p2.toInt d102 := own_D.i2d f93 e102
    refine own_i2d X101 e102 at_111 (pc' := 112) rfl ?_
    refine own_dastore X101 V101 ge99 (i := 1) (by decide) (by decide) (show 1 < 3 by decide) at_112 (pc' := 113) rfl fun T103 h103 X103 W103 V103 => ?_
    replace V103 : own_Vec Z h103 a99 .double [(.double d100), (.double d102), (.double (0 : UInt64))] := V103
    refine own_dup X103 rfl at_113 (pc' := 114) rfl ?_
    refine own_iconst X103 (v := (2 : Int32)) (by decide) at_114 (pc' := 115) rfl ?_
    refine own_iloadN X103 rfl at_115 (pc' := 116) rfl ?_
    obtain ⟨d104, e104⟩ : ∃ v, FP.i2d p3 = v := ⟨_, rfl⟩
    have f104 : own_D 0 2147483648 p3.toInt d104 := own_D.i2d f96 e104
    refine own_i2d X103 e104 at_116 (pc' := 117) rfl ?_
    refine own_dastore X103 V103 ge99 (i := 2) (by decide) (by decide) (show 2 < 3 by decide) at_117 (pc' := 118) rfl fun T105 h105 X105 W105 V105 => ?_
    replace V105 : own_Vec Z h105 a99 .double [(.double d100), (.double d102), (.double d104)] := V105
    refine own_astore X105 (Ls' := #[.val (.int p0), .val (.int p1), .val (.int p2), .val (.int p3), .val (.int p4), .val (.int (3 : Int32)), .val (.long j98), .second, .val (.ref a99), .unset, .unset]) rfl rfl at_118 (pc' := 120) rfl ?_
    refine own_goto X105 at_120 (pc' := 149) (by decide) (by decide) ?_
    refine own_lload X105 rfl at_149 (pc' := 151) rfl ?_
    obtain ⟨d106, e106⟩ : ∃ v, FP.l2d j98 = v := ⟨_, rfl⟩
    have f106 : own_D 0 6442450944 ((p1.toInt + p2.toInt) + p3.toInt) d106 := own_D.l2d f98 e106 (by decide)
    refine own_l2d X105 e106 at_151 (pc' := 152) rfl ?_
    refine own_iload X105 rfl at_152 (pc' := 154) rfl ?_
    have f107 : own_I 3 (3 : Int) (3 : Int32) := own_I.lit (by decide) (by decide)
    obtain ⟨d108, e108⟩ : ∃ v, FP.i2d (3 : Int32) = v := ⟨_, rfl⟩
    have f108 : own_D 0 3 (3 : Int) d108 := own_D.i2d f107 e108
    refine own_i2d X105 e108 at_154 (pc' := 155) rfl ?_
    obtain ⟨d110, e110⟩ : ∃ v, FP.ddiv d106 d108 = v := ⟨_, rfl⟩
    have q110 := own_quot_nn f106 f108 (by decide) e110
    refine own_ddiv X105 e110 q110 at_155 (pc' := 156) rfl ?_
    refine own_dstore X105 (Ls' := #[.val (.int p0), .val (.int p1), .val (.int p2), .val (.int p3), .val (.int p4), .val (.int (3 : Int32)), .val (.long j98), .second, .val (.ref a99), .val (.double d110), .second]) rfl at_156 (pc' := 158) rfl ?_
    refine own_aload X105 rfl rfl at_158 (pc' := 160) rfl ?_
    refine own_callS X105 (own_mean3 l Z a0 hw a99 d100 p1.toInt d102 p2.toInt d104 p3.toInt _ n0 X105.le V105 f100 f102 f104) (hw _ (List.mem_of_getElem? (i := 1) rfl)) (hw _ (List.mem_of_getElem? (i := 2) rfl)) (hw _ (List.mem_of_getElem? (i := 3) rfl)) (hw _ (List.mem_of_getElem? (i := 4) rfl)) (by decide) rfl (by decide) (W := 0) (Nat.le_of_eq rfl) (by decide) (cells' := 1) (slots' := 3) rfl rfl (by decide) (by decide) (argsL := [(.ref a99)]) (rest := []) (lenOf own_pd0 rfl) rfl rfl at_160 (pc' := 163) rfl ?_
    rintro _ T111 h111 X111 ⟨⟨r111, x111, z111, rfl, fx111, fz111, eq111⟩, e111⟩
    subst e111
    show own_Goal p e below _ T111 (mkF m 163 #[.val (.int p0), .val (.int p1), .val (.int p2), .val (.int p3), .val (.int p4), .val (.int (3 : Int32)), .val (.long j98), .second, .val (.ref a99), .val (.double d110), .second] [(.double r111)])
    refine own_dload X111 rfl at_163 (pc' := 165) rfl ?_
    have q112 := fx111.of_eq (show ((((0 : Int) + p1.toInt) + p2.toInt) + p3.toInt) = ((p1.toInt + p2.toInt) + p3.toInt) by grind)
    refine own_dcmp X111 (v := (0 : Int32)) (own_quot_cmp q112 fz111 f106 f108 (by decide) eq111 e110) at_165 (pc' := 166) rfl ?_
    refine own_ifF X111 (by decide) at_166 (pc' := 169) rfl ?_
    refine own_iconst X111 (v := (1 : Int32)) (by decide) at_169 (pc' := 170) rfl ?_
    refine own_goto X111 at_170 (pc' := 174) (by decide) (by decide) ?_
    exact own_retZ X111 (by decide) at_174 rfl (by decide) (by decide) rfl
  · -- 3
    refine own_iadd X0 (v := (4 : Int32)) (by decide) at_4 (pc' := 5) rfl ?_
    refine own_istore X0 (Ls' := #[.val (.int p0), .val (.int p1), .val (.int p2), .val (.int p3), .val (.int p4), .val (.int (4 : Int32)), .unset, .unset, .unset, .unset, .unset]) rfl at_5 (pc' := 7) rfl ?_
    refine own_iloadN X0 rfl at_7 (pc' := 8) rfl ?_
    have f113 := own_I.start p1
    obtain ⟨j114, e114⟩ : ∃ v, p1.toInt64 = v := ⟨_, rfl⟩
    have f114 : own_L 2147483648 p1.toInt j114 := own_L.ofI f113 e114
    refine own_i2l X0 e114 at_8 (pc' := 9) rfl ?_
    refine own_lstore X0 (Ls' := #[.val (.int p0), .val (.int p1), .val (.int p2), .val (.int p3), .val (.int p4), .val (.int (4 : Int32)), .val (.long j114), .second, .unset, .unset, .unset]) rfl at_9 (pc' := 11) rfl ?_
    refine own_iload X0 rfl at_11 (pc' := 13) rfl ?_
    refine own_iconst X0 (v := (2 : Int32)) (by decide) at_13 (pc' := 14) rfl ?_
    refine own_icmpF X0 (by decide) at_14 (pc' := 17) rfl ?_
    refine own_lload X0 rfl at_17 (pc' := 19) rfl ?_
    refine own_iloadN X0 rfl at_19 (pc' := 20) rfl ?_
    have f115 := own_I.start p2
    obtain ⟨j116, e116⟩ : ∃ v, p2.toInt64 = v := ⟨_, rfl⟩
    have f116 : own_L 2147483648 p2.toInt j116 := own_L.ofI f115 e116
    refine own_i2l X0 e116 at_20 (pc' := 21) rfl ?_
    obtain ⟨j117, e117⟩ : ∃ v, j114 + j116 = v := ⟨_, rfl⟩
    have f117 : own_L 4294967296 (p1.toInt + p2.toInt) j117 := f114.add f116 e117 (by decide) (by decide)
    refine own_ladd X0 e117 at_21 (pc' := 22) rfl ?_
    refine own_lstore X0 (Ls' := #[.val (.int p0), .val (.int p1), .val (.int p2), .val (.int p3), .val (.int p4), .val (.int (4 : Int32)), .val (.long j117), .second, .unset, .unset, .unset]) rfl at_22 (pc' := 24) rfl ?_
    refine own_iload X0 rfl at_24 (pc' := 26) rfl ?_
    refine own_iconst X0 (v := (3 : Int32)) (by decide) at_26 (pc' := 27) rfl ?_
    refine own_icmpF X0 (by decide) at_27 (pc' := 30) rfl ?_
    refine own_lload X0 rfl at_30 (pc' := 32) rfl ?_
    refine own_iloadN X0 rfl at_32 (pc' := 33) rfl ?_
    have f118 := own_I.start p3
    obtain ⟨j119, e119⟩ : ∃ v, p3.toInt64 = v := ⟨_, rfl⟩
    have f119 : own_L 2147483648 p3.toInt j119 := own_L.ofI f118 e119
    refine own_i2l X0 e119 at_33 (pc' := 34) rfl ?_
    obtain ⟨j120, e120⟩ : ∃ v, j117 + j119 = v := ⟨_, rfl⟩
    have f120 : own_L 6442450944 ((p1.toInt + p2.toInt) + p3.toInt) j120 := f117.add f119 e120 (by decide) (by decide)
    refine own_ladd X0 e120 at_34 (pc' := 35) rfl ?_
    refine own_lstore X0 (Ls' := #[.val (.int p0), .val (.int p1), .val (.int p2), .val (.int p3), .val (.int p4), .val (.int (4 : Int32)), .val (.long j120), .second, .unset, .unset, .unset]) rfl at_35 (pc' := 37) rfl ?_
    refine own_iload X0 rfl at_37 (pc' := 39) rfl ?_
    refine own_iconst X0 (v := (4 : Int32)) (by decide) at_39 (pc' := 40) rfl ?_
    refine own_icmpF X0 (by decide) at_40 (pc' := 43) rfl ?_
    refine own_lload X0 rfl at_43 (pc' := 45) rfl ?_
    refine own_iload X0 rfl at_45 (pc' := 47) rfl ?_
    have f121 := own_I.start p4
    obtain ⟨j122, e122⟩ : ∃ v, p4.toInt64 = v := ⟨_, rfl⟩
    have f122 : own_L 2147483648 p4.toInt j122 := own_L.ofI f121 e122
    refine own_i2l X0 e122 at_47 (pc' := 48) rfl ?_
    obtain ⟨j123, e123⟩ : ∃ v, j120 + j122 = v := ⟨_, rfl⟩
    have f123 : own_L 8589934592 (((p1.toInt + p2.toInt) + p3.toInt) + p4.toInt) j123 := f120.add f122 e123 (by decide) (by decide)
    refine own_ladd X0 e123 at_48 (pc' := 49) rfl ?_
    refine own_lstore X0 (Ls' := #[.val (.int p0), .val (.int p1), .val (.int p2), .val (.int p3), .val (.int p4), .val (.int (4 : Int32)), .val (.long j123), .second, .unset, .unset, .unset]) rfl at_49 (pc' := 51) rfl ?_
    refine own_iload X0 rfl at_51 (pc' := 53) rfl ?_
    refine own_iconst X0 (v := (1 : Int32)) (by decide) at_53 (pc' := 54) rfl ?_
    refine own_icmpT X0 (by decide) at_54 (pc' := 70) (by decide) (by decide) ?_
    refine own_iload X0 rfl at_70 (pc' := 72) rfl ?_
    refine own_iconst X0 (v := (2 : Int32)) (by decide) at_72 (pc' := 73) rfl ?_
    refine own_icmpT X0 (by decide) at_73 (pc' := 94) (by decide) (by decide) ?_
    refine own_iload X0 rfl at_94 (pc' := 96) rfl ?_
    refine own_iconst X0 (v := (3 : Int32)) (by decide) at_96 (pc' := 97) rfl ?_
    refine own_icmpT X0 (by decide) at_97 (pc' := 123) (by decide) (by decide) ?_
    refine own_iconst X0 (v := (4 : Int32)) (by decide) at_123 (pc' := 124) rfl ?_
    refine own_newarray X0 (ty := .double) rfl (hw _ (List.mem_of_getElem? (i := 0) rfl)) (n := 4) (vs := [(.double (0 : UInt64)), (.double (0 : UInt64)), (.double (0 : UInt64)), (.double (0 : UInt64))]) (by decide) (by decide) (by decide) rfl (cells' := 1) (slots' := 4) rfl rfl (by decide) (by decide) at_124 (pc' := 126) rfl fun a124 T124 h124 g124 ge124 X124 E124 V124 => ?_
    refine own_dup X124 rfl at_126 (pc' := 127) rfl ?_
    refine own_iconst X124 (v := (0 : Int32)) (by decide) at_127 (pc' := 128) rfl ?_
    refine own_iloadN X124 rfl at_128 (pc' := 129) rfl ?_
    obtain ⟨d125, e125⟩ : ∃ v, FP.i2d p1 = v := ⟨_, rfl⟩
    have f125 : own_D 0 2147483648 p1.toInt d125 := own_D.i2d f113 e125
    refine own_i2d X124 e125 at_129 (pc' := 130) rfl ?_
    refine own_dastore X124 V124 ge124 (i := 0) (by decide) (by decide) (show 0 < 4 by decide) at_130 (pc' := 131) rfl fun T126 h126 X126 W126 V126 => ?_
    replace V126 : own_Vec Z h126 a124 .double [(.double d125), (.double (0 : UInt64)), (.double (0 : UInt64)), (.double (0 : UInt64))] := V126
    refine own_dup X126 rfl at_131 (pc' := 132) rfl ?_
    refine own_iconst X126 (v := (1 : Int32)) (by decide) at_132 (pc' := 133) rfl ?_
    refine own_iloadN X126 rfl at_133 (pc' := 134) rfl ?_
    obtain ⟨d127, e127⟩ : ∃ v, FP.i2d p2 = v := ⟨_, rfl⟩
    have f127 : own_D 0 2147483648 p2.toInt d127 := own_D.i2d f115 e127
    refine own_i2d X126 e127 at_134 (pc' := 135) rfl ?_
    refine own_dastore X126 V126 ge124 (i := 1) (by decide) (by decide) (show 1 < 4 by decide) at_135 (pc' := 136) rfl fun T128 h128 X128 W128 V128 => ?_
    replace V128 : own_Vec Z h128 a124 .double [(.double d125), (.double d127), (.double (0 : UInt64)), (.double (0 : UInt64))] := V128
    refine own_dup X128 rfl at_136 (pc' := 137) rfl ?_
    refine own_iconst X128 (v := (2 : Int32)) (by decide) at_137 (pc' := 138) rfl ?_
    refine own_iloadN X128 rfl at_138 (pc' := 139) rfl ?_
    obtain ⟨d129, e129⟩ : ∃ v, FP.i2d p3 = v := ⟨_, rfl⟩
    have f129 : own_D 0 2147483648 p3.toInt d129 := own_D.i2d f118 e129
    refine own_i2d X128 e129 at_139 (pc' := 140) rfl ?_
    refine own_dastore X128 V128 ge124 (i := 2) (by decide) (by decide) (show 2 < 4 by decide) at_140 (pc' := 141) rfl fun T130 h130 X130 W130 V130 => ?_
    replace V130 : own_Vec Z h130 a124 .double [(.double d125), (.double d127), (.double d129), (.double (0 : UInt64))] := V130
    refine own_dup X130 rfl at_141 (pc' := 142) rfl ?_
    refine own_iconst X130 (v := (3 : Int32)) (by decide) at_142 (pc' := 143) rfl ?_
    refine own_iload X130 rfl at_143 (pc' := 145) rfl ?_
    obtain ⟨d131, e131⟩ : ∃ v, FP.i2d p4 = v := ⟨_, rfl⟩
    have f131 : own_D 0 2147483648 p4.toInt d131 := own_D.i2d f121 e131
    refine own_i2d X130 e131 at_145 (pc' := 146) rfl ?_
    refine own_dastore X130 V130 ge124 (i := 3) (by decide) (by decide) (show 3 < 4 by decide) at_146 (pc' := 147) rfl fun T132 h132 X132 W132 V132 => ?_
    replace V132 : own_Vec Z h132 a124 .double [(.double d125), (.double d127), (.double d129), (.double d131)] := V132
    refine own_astore X132 (Ls' := #[.val (.int p0), .val (.int p1), .val (.int p2), .val (.int p3), .val (.int p4), .val (.int (4 : Int32)), .val (.long j123), .second, .val (.ref a124), .unset, .unset]) rfl rfl at_147 (pc' := 149) rfl ?_
    refine own_lload X132 rfl at_149 (pc' := 151) rfl ?_
    obtain ⟨d133, e133⟩ : ∃ v, FP.l2d j123 = v := ⟨_, rfl⟩
    have f133 : own_D 0 8589934592 (((p1.toInt + p2.toInt) + p3.toInt) + p4.toInt) d133 := own_D.l2d f123 e133 (by decide)
    refine own_l2d X132 e133 at_151 (pc' := 152) rfl ?_
    refine own_iload X132 rfl at_152 (pc' := 154) rfl ?_
    have f134 : own_I 4 (4 : Int) (4 : Int32) := own_I.lit (by decide) (by decide)
    obtain ⟨d135, e135⟩ : ∃ v, FP.i2d (4 : Int32) = v := ⟨_, rfl⟩
    have f135 : own_D 0 4 (4 : Int) d135 := own_D.i2d f134 e135
    refine own_i2d X132 e135 at_154 (pc' := 155) rfl ?_
    obtain ⟨d137, e137⟩ : ∃ v, FP.ddiv d133 d135 = v := ⟨_, rfl⟩
    have q137 := own_quot_nn f133 f135 (by decide) e137
    refine own_ddiv X132 e137 q137 at_155 (pc' := 156) rfl ?_
    refine own_dstore X132 (Ls' := #[.val (.int p0), .val (.int p1), .val (.int p2), .val (.int p3), .val (.int p4), .val (.int (4 : Int32)), .val (.long j123), .second, .val (.ref a124), .val (.double d137), .second]) rfl at_156 (pc' := 158) rfl ?_
    refine own_aload X132 rfl rfl at_158 (pc' := 160) rfl ?_
    refine own_callS X132 (own_mean4 l Z a0 hw a124 d125 p1.toInt d127 p2.toInt d129 p3.toInt d131 p4.toInt _ n0 X132.le V132 f125 f127 f129 f131) (hw _ (List.mem_of_getElem? (i := 1) rfl)) (hw _ (List.mem_of_getElem? (i := 2) rfl)) (hw _ (List.mem_of_getElem? (i := 3) rfl)) (hw _ (List.mem_of_getElem? (i := 4) rfl)) (by decide) rfl (by decide) (W := 0) (Nat.le_of_eq rfl) (by decide) (cells' := 1) (slots' := 4) rfl rfl (by decide) (by decide) (argsL := [(.ref a124)]) (rest := []) (lenOf own_pd0 rfl) rfl rfl at_160 (pc' := 163) rfl ?_
    rintro _ T138 h138 X138 ⟨⟨r138, x138, z138, rfl, fx138, fz138, eq138⟩, e138⟩
    subst e138
    show own_Goal p e below _ T138 (mkF m 163 #[.val (.int p0), .val (.int p1), .val (.int p2), .val (.int p3), .val (.int p4), .val (.int (4 : Int32)), .val (.long j123), .second, .val (.ref a124), .val (.double d137), .second] [(.double r138)])
    refine own_dload X138 rfl at_163 (pc' := 165) rfl ?_
    have q139 := fx138.of_eq (show (((((0 : Int) + p1.toInt) + p2.toInt) + p3.toInt) + p4.toInt) = (((p1.toInt + p2.toInt) + p3.toInt) + p4.toInt) by grind)
    refine own_dcmp X138 (v := (0 : Int32)) (own_quot_cmp q139 fz138 f133 f135 (by decide) eq138 e137) at_165 (pc' := 166) rfl ?_
    refine own_ifF X138 (by decide) at_166 (pc' := 169) rfl ?_
    refine own_iconst X138 (v := (1 : Int32)) (by decide) at_169 (pc' := 170) rfl ?_
    refine own_goto X138 at_170 (pc' := 174) (by decide) (by decide) ?_
    exact own_retZ X138 (by decide) at_174 rfl (by decide) (by decide) rfl
set_option maxRecDepth 65536 in
set_option maxHeartbeats 40000000 in
theorem comes_1 {Post : Tables → Env → Array Value → State → Outcome → State → Prop} (hpost : ∀ tb e args s v u, (limb_1_1.after args s (.returned v) u = true ∧ limb_1_2.after args s (.returned v) u = true ∧ True) → FrameEnd s (.returned v) u (Jvm.fieldLocs frame_1_writes args s ++ Jvm.arrayLocs frame_1_arrays args s ++ Jvm.staticLocs frame_1_statics s) 16 128 → Post tb e args s (.returned v) u) :
    ArmFor flags0 classFile x code maxLocals ret World_1 tables_1 room_1 Calls_1 rest_1 Pre_1 Post := by
  intro l hfl _ _ p e ha hc hk s m args below hf hA hF happ hP
  obtain ⟨hcalls, hrest, hpre⟩ := hP
  obtain ⟨-, -, -, hnamed, -, -, -, hat⟩ := (Spec.applies_iff hf).mp happ
  obtain ⟨hg, hn⟩ := and_e (Cond.before_iff.mp (show (Jvm.Cond.and given_1 narrow_1).before args s = true from hpre))
  obtain ⟨h1, g0⟩ := and_e hg
  obtain ⟨k0, g1⟩ := and_e g0
  obtain ⟨k1, g2⟩ := and_e g1
  obtain ⟨k2, g3⟩ := and_e g2
  obtain ⟨k3, g4⟩ := and_e g3
  obtain ⟨w0, w1, w2, w3, w4, rfl⟩ : ∃ w0 w1 w2 w3 w4 : Value, args = #[w0, w1, w2, w3, w4] := by
    have hs : args.size = 5 := by simpa [Cond.value, given_1] using h1
    obtain ⟨L⟩ := args
    match L, hs with
    | [w0, w1, w2, w3, w4], _ => exact ⟨w0, w1, w2, w3, w4, rfl⟩
  have hw := fun d (hd : d ∈ tables_1) => atoms_spec (ws := Jvm.Cond.code x code maxLocals ret :: tables_1) hat d (List.mem_cons_of_mem _ hd)
  obtain ⟨p0, e0⟩ := is_v k0
  obtain rfl : w0 = (.int p0) := Option.some.inj e0
  obtain ⟨p1, e1⟩ := is_v k1
  obtain rfl : w1 = (.int p1) := Option.some.inj e1
  obtain ⟨p2, e2⟩ := is_v k2
  obtain rfl : w2 = (.int p2) := Option.some.inj e2
  obtain ⟨p3, e3⟩ := is_v k3
  obtain rfl : w3 = (.int p3) := Option.some.inj e3
  obtain ⟨p4, e4⟩ := is_v g4
  obtain rfl : w4 = (.int p4) := Option.some.inj e4
  obtain ⟨n, o, h1, h2, h3, _, L, rfl, ⟨⟨rfl, -⟩, N⟩, hq⟩ := own_law l s _ hw tables_1 p0 p1 p2 p3 p4 s.heap s.heap.size (Nat.le_refl _)  p e ha hc hk s m _ below hf ((Spec.applies_iff_loose hf).mp happ).1 ⟨rfl, State.Warmed39.refl s, rfl⟩ trivial
  refine ⟨n, _, h1, h2, h3, hpost _ _ _ _ _ _ ⟨Cond.after_iff.mpr rfl, Cond.after_iff.mpr (eq_i res_at (Term.int_eval (1)) rfl), trivial⟩ ⟨hq.1, hq.2.1, (hq.2.2.sift fun y hy => Or.inr (N y hy)).mono (by decide) (by decide)⟩⟩
theorem main_1_1 : Claimed_1_1 := comes_1 fun _ _ _ _ _ _ h hF => ⟨h.1, hF⟩
theorem main_1_2 : Claimed_1_2 := comes_1 fun _ _ _ _ _ _ h hF => ⟨h.2.1, hF⟩
end Jvm.Pilot.@@N@@
namespace Jvm.Pilot.@@N@@
open Jvm Jvm.ClassFile Sem Op Lib Jvm.Free Jvm.Stand Jvm.Pilot.@@N@@.Jvm.D
/-! MADE BY PROGRAM (witnessworld.py) out of the Statement's table words and the real class files: 9 classes; the members and pool entries that the words name. The judged class is class 1, her method 1. -/
namespace start1
open Jvm.ClassFile
def u (s : String) : CpInfo := .utf8 (stringToUtf16 s)
/-- a pool by its gaps: so many unusable entries, then the entry; so many at the end -/
def gap : Nat → List CpInfo → List CpInfo
  | 0, r => r
  | n + 1, r => .unusable :: gap n r
def poolList (es : List (Nat × CpInfo)) (last : Nat) : List CpInfo := es.foldr (fun e r => gap e.1 (e.2 :: r)) (gap last [])
def pool (es : List (Nat × CpInfo)) (last : Nat) : Array CpInfo := ⟨poolList es last⟩
def fileOf (pool : Array CpInfo) (this : Nat) (attrs : Array Attribute := #[]) (ms : Array MethodInfo := #[]) (fl : Nat := 33) (sup : Nat := 0) (ifs : Array Nat := #[]) (fds : Array FieldInfo := #[]) : ClassFile where
  minorVersion := 0
  majorVersion := 65
  constantPool := pool
  accessFlags := fl
  thisClass := this
  superClass := sup
  interfaces := ifs
  fields := fds
  methods := ms
  attributes := attrs
def plain (name : String) (sup : Option ClassId) : Class where
  name := name
  kind := .ordinary
  loader := none
  accessFlags := 33
  super := sup
  interfaces := #[]
  cf := none
  fields := #[]
  methods := #[]
  instanceTypes := #[]
  staticTypes := #[]
  resolved := #[]
  callSites := []
  init := .initialized
  statics := none
  mirror := none

def pool0 : Array CpInfo := pool [(5, u "<init>"), (0, u "()V"), (1, .class_ 10), (1, u "java/lang/Object")] 113

def k0m0 : Method := { name := "<init>", desc := "()V", sig := { parameters := [], returnType := none }, accessFlags := 1, code := none }
/-- java/lang/Object -/
def k0 : Class := { plain "java/lang/Object" none with
  accessFlags := 33
  interfaces := #[]
  cf := some (fileOf pool0 8 #[] #[{ accessFlags := 1, nameIndex := 5, descriptorIndex := 6, attributes := #[] }] 33 0 #[] #[])
  fields := #[]
  methods := #[k0m0]
  instanceTypes := #[]
  staticTypes := #[]
  resolved := Array.replicate 124 none
  statics := none }

def pool1 : Array CpInfo := pool [(2, .class_ 4), (1, u "java/lang/Object"), (0, u "<init>"), (0, u "()V"), (0, .methodref 8 9), (0, .class_ 10), (0, .nameAndType 11 12), (0, u "com/example/conquex/conquex/Moments"), (0, u "mean"), (0, u "([D)D"), (0, .class_ 14), (0, u "com/example/conquex/conquex/MomentsMeanPinLaw"), (2, u "law"), (0, u "(IIIII)Z")] 5

def k1m0 : Method := { name := "<init>", desc := "()V", sig := { parameters := [], returnType := none }, accessFlags := 2, code := none }
def k1c1 : Code := { maxStack := 5, maxLocals := 11, code := code, exceptionTable := #[], attributes := #[] }
def k1m1 : Method := { name := "law", desc := "(IIIII)Z", sig := { parameters := [.int, .int, .int, .int, .int], returnType := some .boolean }, accessFlags := 9, code := some k1c1 }
/-- com/example/conquex/conquex/MomentsMeanPinLaw -/
def k1 : Class := { plain "com/example/conquex/conquex/MomentsMeanPinLaw" (some 0) with
  accessFlags := 49
  interfaces := #[]
  cf := some (fileOf pool1 13 #[] #[{ accessFlags := 2, nameIndex := 5, descriptorIndex := 6, attributes := #[] }, { accessFlags := 9, nameIndex := 17, descriptorIndex := 18, attributes := #[] }] 49 2 #[] #[])
  fields := #[]
  methods := #[k1m0, k1m1]
  instanceTypes := #[]
  staticTypes := #[]
  resolved := Array.replicate 24 none
  statics := none }

def pool2 : Array CpInfo := pool [(2, .class_ 4), (1, u "java/lang/Object"), (0, u "<init>"), (0, u "()V"), (0, .class_ 8), (0, u "com/example/conquex/conquex/Moments"), (2, u "mean"), (0, u "([D)D")] 9

def k2m0 : Method := { name := "<init>", desc := "()V", sig := { parameters := [], returnType := none }, accessFlags := 2, code := none }
def k2c1 : Code := { maxStack := 4, maxLocals := 8, code := prog_23_method_2_code, exceptionTable := #[], attributes := #[] }
def k2m1 : Method := { name := "mean", desc := "([D)D", sig := { parameters := [(.array .double)], returnType := some .double }, accessFlags := 8, code := some k2c1 }
/-- com/example/conquex/conquex/Moments -/
def k2 : Class := { plain "com/example/conquex/conquex/Moments" (some 0) with
  accessFlags := 48
  interfaces := #[]
  cf := some (fileOf pool2 7 #[] #[{ accessFlags := 2, nameIndex := 5, descriptorIndex := 6, attributes := #[] }, { accessFlags := 8, nameIndex := 11, descriptorIndex := 12, attributes := #[] }] 48 2 #[] #[])
  fields := #[]
  methods := #[k2m0, k2m1]
  instanceTypes := #[]
  staticTypes := #[]
  resolved := Array.replicate 22 none
  statics := none }

def pool3 : Array CpInfo := pool [(1, u "java/lang/Cloneable"), (0, .class_ 1), (0, u "java/lang/Object"), (0, .class_ 3)] 3

/-- java/lang/Cloneable -/
def k3 : Class := { plain "java/lang/Cloneable" (some 0) with
  accessFlags := 1537
  interfaces := #[]
  cf := some (fileOf pool3 2 #[] #[] 1537 4 #[] #[])
  fields := #[]
  methods := #[]
  instanceTypes := #[]
  staticTypes := #[]
  resolved := Array.replicate 8 none
  statics := none }

def pool4 : Array CpInfo := pool [(1, u "java/io/Serializable"), (0, .class_ 1), (0, u "java/lang/Object"), (0, .class_ 3)] 3

/-- java/io/Serializable -/
def k4 : Class := { plain "java/io/Serializable" (some 0) with
  accessFlags := 1537
  interfaces := #[]
  cf := some (fileOf pool4 2 #[] #[] 1537 4 #[] #[])
  fields := #[]
  methods := #[]
  instanceTypes := #[]
  staticTypes := #[]
  resolved := Array.replicate 8 none
  statics := none }

/-- the primitive byte -/
def k5 : Class := { plain "byte" none with kind := .primitive 'B', accessFlags := 0x411 }
/-- [B -/
def k6 : Class := { plain "[B" (some 0) with kind := .array 5 .byte, interfaces := #[3, 4], accessFlags := 1041 }

/-- the primitive int -/
def k7 : Class := { plain "int" none with kind := .primitive 'I', accessFlags := 0x411 }
/-- [I -/
def k8 : Class := { plain "[I" (some 0) with kind := .array 7 .int, interfaces := #[3, 4], accessFlags := 1041 }

def heap : Heap := #[]
/-- the primitive double -/
def k9 : Class := { plain "double" none with kind := .primitive 'D', accessFlags := 0x411 }
/-- [D -/
def k10 : Class := { plain "[D" (some 0) with kind := .array 9 .double, interfaces := #[3, 4], accessFlags := 1041 }

def classes : Array Class := #[k0, k1, k2, k3, k4, k5, k6, k7, k8, k9, k10]
def interned : List (Array UInt16 × Addr) := []
def slotsUsed : Nat := 0
def theMethod : MethodId := ⟨1, 1⟩
def args0 : Array Value := #[.int 5, .int 6, .int 7, .int 8, .int 9]
def aboutOver (below : List Frame) : State where
  vm := { classes := classes, interned := interned.toArray }
  heap := heap
  slotsUsed := slotsUsed
  threads := #[{ frames := .invoking theMethod args0 :: below }]
def below0 : List Frame := [.native { method := ⟨0, 0⟩, args := #[] }]
def about1 : State := aboutOver below0
def p0 : Program := .bare "" "" ""
def e0 : Env := launch0.env 0 0 0
theorem w_frames : about1.frames = Frame.invoking theMethod args0 :: below0 := rfl
set_option maxRecDepth 65536 in
theorem w_args : argsFit about1.vm theMethod args0 = true := by decide +kernel
set_option maxRecDepth 65536 in
theorem w_heap : heapFits about1 = true := by decide +kernel
set_option maxRecDepth 65536 in
theorem w_runnable : about1.curStatus? = some .runnable := by decide +kernel
set_option maxRecDepth 65536 in
theorem w_alone : about1.alone = true := by decide +kernel
set_option maxRecDepth 65536 in
theorem w_named : about1.methodNamed? x = some theMethod := by decide +kernel
set_option maxRecDepth 65536 in
theorem w_hears : about1.hears theMethod below0 = true := by decide +kernel
set_option maxRecDepth 65536 in
theorem w_ripe : about1.ripe theMethod args0 below0 = true := by decide +kernel
theorem w_running : about1.status = .running := rfl
set_option maxRecDepth 65536 in
theorem w_room : about1.hasRoom e0.platform room_1 = true :=
  launch0.hasRoom_least _ room_1 (by decide +kernel) (by decide +kernel) (by decide +kernel) (by decide +kernel) (by decide +kernel) (by decide +kernel)
theorem allAtoms_all (ts : List Jvm.Cond) (a : Array Jvm.Value) (st : Jvm.State) : (allAtoms ts).before a st = ts.all (fun c => c.before a st) := by
  induction ts with
  | nil => rfl
  | cons c t ih =>
    show (Jvm.Cond.and c (allAtoms t)).before a st = _
    rw [Jvm.Cond.before_and, ih, List.all_cons]
def words1 : List Jvm.Cond := Jvm.Cond.code x code maxLocals ret :: tables_1
/-- a 'code' word, met by the world's own term for the bytes: nothing is compared byte by byte -/
theorem code_word {y : MethodName} {bytes : ByteArray} {mx : Nat} {rt : Option FieldType} {a : Array Value} {s : State} {m : MethodId} {meth : Method} {c : Code} (h1 : s.methodNamed? y = some m) (h2 : s.vm.method? m = some meth) (h3 : meth.code = some c) (h4 : c.code = bytes)
    (h5 : (c.maxLocals == mx && c.exceptionTable.isEmpty && decide (c.maxStack ≤ mostOperands) && decide (meth.sig.returnType = rt) && !meth.locks && decide (parseMethodDescriptor y.desc = some meth.sig)) = true) : (Jvm.Cond.code y bytes mx rt).before a s = true := by
  simp only [Bool.and_eq_true, beq_iff_eq, Bool.not_eq_true', decide_eq_true_eq] at h5
  obtain ⟨⟨⟨⟨⟨g1, g2⟩, g3⟩, g4⟩, g5⟩, g6⟩ := h5
  simp [Cond.before, Cond.holds, Cond.value, h1, h2, h3, h4, g1, g2, g3, g4, g5, g6]
def isCode : Jvm.Cond → Bool
  | .code _ _ _ _ => true
  | _ => false
theorem all_split {L : List Jvm.Cond} {P : Jvm.Cond → Bool} (h1 : L.all (fun c => isCode c || P c) = true) (h2 : ∀ c ∈ L.filter isCode, P c = true) : L.all P = true := by
  refine List.all_eq_true.mpr fun c hc => ?_
  have h := List.all_eq_true.mp h1 c hc
  rcases Bool.eq_false_or_eq_true (isCode c) with hi | hi
  · exact h2 c (List.mem_filter.mpr ⟨hc, hi⟩)
  · simpa [hi] using h
set_option maxRecDepth 65536 in
theorem w_c0 : (Jvm.Cond.code x code maxLocals ret).before args0 about1 = true := code_word (m := ⟨1, 1⟩) (meth := k1m1) (c := k1c1) (by decide +kernel) rfl rfl rfl (by decide +kernel)
set_option maxRecDepth 65536 in
theorem w_c1 : (Jvm.Cond.code ({ cls := "com/example/conquex/conquex/Moments", name := "mean", desc := "([D)D" } : Jvm.MethodName) prog_23_method_2_code (8 : Nat) (Option.some Jvm.ClassFile.FieldType.double)).before args0 about1 = true := code_word (m := ⟨2, 1⟩) (meth := k2m1) (c := k2c1) (by decide +kernel) rfl rfl rfl (by decide +kernel)
def codes1 : List Jvm.Cond := [Jvm.Cond.code x code maxLocals ret, Jvm.Cond.code ({ cls := "com/example/conquex/conquex/Moments", name := "mean", desc := "([D)D" } : Jvm.MethodName) prog_23_method_2_code (8 : Nat) (Option.some Jvm.ClassFile.FieldType.double)]
set_option maxRecDepth 65536 in
theorem codes_eq : words1.filter isCode = codes1 := rfl
theorem w_codes : ∀ c ∈ words1.filter isCode, c.before args0 about1 = true := by
  rw [codes_eq]
  intro c hc
  simp only [codes1, List.mem_cons, List.not_mem_nil, or_false] at hc
  rcases hc with rfl | rfl
  · exact w_c0
  · exact w_c1
set_option maxRecDepth 65536 in
theorem w_t1 : words1.all (fun c => isCode c || c.before args0 about1) = true := by decide +kernel
theorem w_tables : (allAtoms (Jvm.Cond.code x code maxLocals ret :: tables_1)).before args0 about1 = true := by
  rw [allAtoms_all]
  show words1.all (fun c => c.before args0 about1) = true
  refine all_split ?_ w_codes
  rw [w_t1]
set_option maxRecDepth 65536 in
theorem w_case : (Jvm.Cond.and given_1 narrow_1).before args0 about1 = true := by decide +kernel
theorem w_applies : (headSpec (Jvm.Cond.code x code maxLocals ret :: tables_1) room_1).applies x e0.platform about1 = true :=
  (Spec.applies_iff w_frames).mpr ⟨w_running, w_runnable, w_alone, w_named, w_hears, w_ripe, w_room, w_tables⟩
theorem atStart : AtStart classFile x code maxLocals ret World_1 tables_1 room_1 Calls_1 rest_1 Pre_1 launch0 p0 e0 about1 theMethod args0 below0 :=
  ⟨lists_1, trivial, launch0.admits_env _ _ _, launch0.least_env, fairChoices_fair.cas, fairChoices_fair.clock, w_frames, w_args, w_heap, w_applies, trivial, trivial, w_case⟩
end start1
theorem witness_1 : WitnessClaimed_1 := ⟨start1.p0, start1.e0, start1.about1, start1.theMethod, start1.args0, start1.below0, start1.atStart⟩
end Jvm.Pilot.@@N@@
