import JvmDerived
import JvmDerived.Pilot.@@N@@Statement
import JvmDerived.Pilot.@@N@@Code
set_option linter.unusedVariables false
set_option linter.unusedSimpArgs false
namespace Jvm.Pilot.@@N@@
open Jvm Jvm.ClassFile Sem Op Lib Jvm.Free Jvm.Stand Jvm.LawKit Jvm.RoadKit Bundle Jvm.Pilot.@@N@@.Jvm.D
section OwnWalk
variable {p : Program} {l : Launch} {e : Env} {R : Room} {s : State} {m : MethodId} {args : Array Value} {below : List Frame} {meth : Method} {c : Code} {Z : State} {own : String} {bytes : ByteArray} {ml : Nat} {rt : Option FieldType} {nm : String} {n0 : Nat} {T : State} {h : Heap} {cells slots : Nat} {Q : Option Value → Heap → Prop} {Φ : State → Outcome → Prop} {pc pc' : Nat} {Ls : Array Slot} {rest : List Value} {a0 : Array Value}
/-- where the walk stands: the library's Stand, every place written so far is new (Fr), the heap, and the body's own data -/
def own_St (p : Program) (l : Launch) (e : Env) (R : Room) (s : State) (m : MethodId) (args : Array Value) (below : List Frame) (meth : Method) (c : Code) (Z : State) (own : String) (bytes : ByteArray) (ml : Nat) (rt : Option FieldType) (nm : String) (n0 : Nat) (T : State) (h : Heap) (cells slots : Nat) : Prop :=
  ∃ locs, Stand p l e R s m args below meth c T locs cells slots ∧ Fr n0 locs ∧ T.heap = h ∧ n0 ≤ h.size ∧ p.tables.exec = Jvm.exec ∧ Z.Warmed39 s.vm ∧ s.vm.findClass own = some m.cls ∧ c.code = bytes ∧ c.maxLocals = ml ∧ meth.sig.returnType = rt ∧ meth.locks = false ∧ meth.name = nm
/-- what a return that meets Q leaves -/
def own_Fin (below : List Frame) (s : State) (R : Room) (n0 : Nat) (Q : Option Value → Heap → Prop) : State → Outcome → Prop := fun s₂ o =>
  s₂.status = .running ∧ Ended s₂ below o ∧ ∃ v L, o = .returned v ∧ ((Q v s₂.heap ∧ n0 ≤ s₂.heap.size) ∧ Fr n0 L) ∧ FrameEnd s o s₂ L R.cells R.slots
/-- from frame g over T the run comes to an end that meets Φ -/
def own_Goal (p : Program) (e : Env) (below : List Frame) (Φ : State → Outcome → Prop) (T : State) (g : JFrame) : Prop :=
  ∃ s₂ o, Steps p.tables e below (T.setTop g) s₂ ∧ Φ s₂ o
theorem own_St.le (X : own_St p l e R s m args below meth c Z own bytes ml rt nm n0 T h cells slots) : n0 ≤ h.size := by obtain ⟨_, _, _, _, q, _⟩ := X; exact q
theorem own_step {T' : State} {g g' : JFrame} (f : ∀ t, Steps p.tables e below (T'.setTop g') t → Steps p.tables e below (T.setTop g) t) (k : own_Goal p e below Φ T' g') : own_Goal p e below Φ T g := by
  obtain ⟨s2, o, a, r⟩ := k
  exact ⟨s2, o, f _ a, r⟩
theorem own_cast {g g' : JFrame} (q : g = g') (k : own_Goal p e below Φ T g') : own_Goal p e below Φ T g := q ▸ k
theorem own_pure (X : own_St p l e R s m args below meth c Z own bytes ml rt nm n0 T h cells slots) {g g' : JFrame} (f : ∀ {locs}, Stand p l e R s m args below meth c T locs cells slots → p.tables.exec = Jvm.exec → c.code = bytes → ∀ t, Steps p.tables e below (T.setTop g') t → Steps p.tables e below (T.setTop g) t) (k : own_Goal p e below Φ T g') : own_Goal p e below Φ T g := by
  obtain ⟨locs, X, -, -, -, hx, -, -, hby, -⟩ := X
  exact own_step (f X hx hby) k
theorem own_iconst (X : own_St p l e R s m args below meth c Z own bytes ml rt nm n0 T h cells slots) {i : Int} {v : Int32} (hv : Int32.ofInt i = v) (hd : decode bytes pc = .ok (.iconst i, 1)) (hp : pc + 1 = pc') (k : own_Goal p e below Φ T (mkF m pc' Ls (.int v :: rest))) : own_Goal p e below Φ T (mkF m pc Ls (rest)) := by
  subst hp hv
  exact own_pure X (fun X hx hby _ a => XS.iconst X.here hx rfl (hb hby hd) a) k
theorem own_bipush (X : own_St p l e R s m args below meth c Z own bytes ml rt nm n0 T h cells slots) {i : Int} {v : Int32} (hv : (Int8.ofInt i).toInt32 = v) (hd : decode bytes pc = .ok (.bipush i, 2)) (hp : pc + 2 = pc') (k : own_Goal p e below Φ T (mkF m pc' Ls (.int v :: rest))) : own_Goal p e below Φ T (mkF m pc Ls (rest)) := by
  subst hp hv
  exact own_pure X (fun X hx hby _ a => XS.bipush X.here hx rfl (hb hby hd) a) k
theorem own_sipush (X : own_St p l e R s m args below meth c Z own bytes ml rt nm n0 T h cells slots) {i : Int} {v : Int32} (hv : (Int16.ofInt i).toInt32 = v) (hd : decode bytes pc = .ok (.sipush i, 3)) (hp : pc + 3 = pc') (k : own_Goal p e below Φ T (mkF m pc' Ls (.int v :: rest))) : own_Goal p e below Φ T (mkF m pc Ls (rest)) := by
  subst hp hv
  exact own_pure X (fun X hx hby _ a => XS.sipush X.here hx rfl (hb hby hd) a) k
theorem own_aconst_null (X : own_St p l e R s m args below meth c Z own bytes ml rt nm n0 T h cells slots)  (hd : decode bytes pc = .ok (.aconst_null, 1)) (hp : pc + 1 = pc') (k : own_Goal p e below Φ T (mkF m pc' Ls (.null :: rest))) : own_Goal p e below Φ T (mkF m pc Ls (rest)) := by
  subst hp
  exact own_pure X (fun X hx hby _ a => XS.aconstNull X.here hx rfl (hb hby hd) a) k
theorem own_lconst (X : own_St p l e R s m args below meth c Z own bytes ml rt nm n0 T h cells slots) {k : Fin 2} {v : Int64} (hv : Int64.ofNat k = v) (hd : decode bytes pc = .ok (.lconst k, 1)) (hp : pc + 1 = pc') (k : own_Goal p e below Φ T (mkF m pc' Ls (.long v :: rest))) : own_Goal p e below Φ T (mkF m pc Ls (rest)) := by
  subst hp hv
  exact own_pure X (fun X hx hby _ a => XT.lconst X.here hx rfl (hb hby hd) a) k
theorem own_dconst0 (X : own_St p l e R s m args below meth c Z own bytes ml rt nm n0 T h cells slots) {v : UInt64} (hv : FP.dconst0 = v) (hd : decode bytes pc = .ok (.dconst 0, 1)) (hp : pc + 1 = pc') (k : own_Goal p e below Φ T (mkF m pc' Ls (.double v :: rest))) : own_Goal p e below Φ T (mkF m pc Ls (rest)) := by
  subst hp
  exact own_pure X (fun X hx hby _ a => XS.dconst0 X.here hx rfl (hb hby hd) hv a) k
theorem own_dconst1 (X : own_St p l e R s m args below meth c Z own bytes ml rt nm n0 T h cells slots) {v : UInt64} (hv : FP.dconst1 = v) (hd : decode bytes pc = .ok (.dconst 1, 1)) (hp : pc + 1 = pc') (k : own_Goal p e below Φ T (mkF m pc' Ls (.double v :: rest))) : own_Goal p e below Φ T (mkF m pc Ls (rest)) := by
  subst hp
  exact own_pure X (fun X hx hby _ a => XS.dconst1 X.here hx rfl (hb hby hd) hv a) k
theorem own_iload (X : own_St p l e R s m args below meth c Z own bytes ml rt nm n0 T h cells slots) {k : Nat} {v : Int32} (hl : Ls[k]? = some (.val (.int v))) (hd : decode bytes pc = .ok (.iload k, 2)) (hp : pc + 2 = pc') (k : own_Goal p e below Φ T (mkF m pc' Ls (.int v :: rest))) : own_Goal p e below Φ T (mkF m pc Ls (rest)) := by
  subst hp
  exact own_pure X (fun X hx hby _ a => XS.iload X.here hx rfl (hb hby hd) hl a) k
theorem own_iloadN (X : own_St p l e R s m args below meth c Z own bytes ml rt nm n0 T h cells slots) {k : Fin 4} {v : Int32} (hl : Ls[k.val]? = some (.val (.int v))) (hd : decode bytes pc = .ok (.iload_n k, 1)) (hp : pc + 1 = pc') (k : own_Goal p e below Φ T (mkF m pc' Ls (.int v :: rest))) : own_Goal p e below Φ T (mkF m pc Ls (rest)) := by
  subst hp
  exact own_pure X (fun X hx hby _ a => XS.iloadN X.here hx rfl (hb hby hd) hl a) k
theorem own_istore (X : own_St p l e R s m args below meth c Z own bytes ml rt nm n0 T h cells slots) {k : Nat} {v : Int32} {Ls' : Array Slot} (hl : storeLocals Ls k (.int v) = some Ls') (hd : decode bytes pc = .ok (.istore k, 2)) (hp : pc + 2 = pc') (k : own_Goal p e below Φ T (mkF m pc' Ls' (rest))) : own_Goal p e below Φ T (mkF m pc Ls (.int v :: rest)) := by
  subst hp
  exact own_pure X (fun X hx hby _ a => XS.istore X.here hx rfl (hb hby hd) rfl hl a) k
theorem own_istoreN (X : own_St p l e R s m args below meth c Z own bytes ml rt nm n0 T h cells slots) {k : Fin 4} {v : Int32} {Ls' : Array Slot} (hl : storeLocals Ls k.val (.int v) = some Ls') (hd : decode bytes pc = .ok (.istore_n k, 1)) (hp : pc + 1 = pc') (k : own_Goal p e below Φ T (mkF m pc' Ls' (rest))) : own_Goal p e below Φ T (mkF m pc Ls (.int v :: rest)) := by
  subst hp
  exact own_pure X (fun X hx hby _ a => XS.istoreN X.here hx rfl (hb hby hd) rfl hl a) k
theorem own_lload (X : own_St p l e R s m args below meth c Z own bytes ml rt nm n0 T h cells slots) {k : Nat} {v : Int64} (hl : Ls[k]? = some (.val (.long v))) (hd : decode bytes pc = .ok (.lload k, 2)) (hp : pc + 2 = pc') (k : own_Goal p e below Φ T (mkF m pc' Ls (.long v :: rest))) : own_Goal p e below Φ T (mkF m pc Ls (rest)) := by
  subst hp
  exact own_pure X (fun X hx hby _ a => XT.lload X.here hx rfl (hb hby hd) hl a) k
theorem own_lloadN (X : own_St p l e R s m args below meth c Z own bytes ml rt nm n0 T h cells slots) {k : Fin 4} {v : Int64} (hl : Ls[k.val]? = some (.val (.long v))) (hd : decode bytes pc = .ok (.lload_n k, 1)) (hp : pc + 1 = pc') (k : own_Goal p e below Φ T (mkF m pc' Ls (.long v :: rest))) : own_Goal p e below Φ T (mkF m pc Ls (rest)) := by
  subst hp
  exact own_pure X (fun X hx hby _ a => XT.lloadN X.here hx rfl (hb hby hd) hl a) k
theorem own_lstore (X : own_St p l e R s m args below meth c Z own bytes ml rt nm n0 T h cells slots) {k : Nat} {v : Int64} {Ls' : Array Slot} (hl : storeLocals Ls k (.long v) = some Ls') (hd : decode bytes pc = .ok (.lstore k, 2)) (hp : pc + 2 = pc') (k : own_Goal p e below Φ T (mkF m pc' Ls' (rest))) : own_Goal p e below Φ T (mkF m pc Ls (.long v :: rest)) := by
  subst hp
  exact own_pure X (fun X hx hby _ a => XT.lstore X.here hx rfl (hb hby hd) rfl hl a) k
theorem own_lstoreN (X : own_St p l e R s m args below meth c Z own bytes ml rt nm n0 T h cells slots) {k : Fin 4} {v : Int64} {Ls' : Array Slot} (hl : storeLocals Ls k.val (.long v) = some Ls') (hd : decode bytes pc = .ok (.lstore_n k, 1)) (hp : pc + 1 = pc') (k : own_Goal p e below Φ T (mkF m pc' Ls' (rest))) : own_Goal p e below Φ T (mkF m pc Ls (.long v :: rest)) := by
  subst hp
  exact own_pure X (fun X hx hby _ a => XT.lstoreN X.here hx rfl (hb hby hd) rfl hl a) k
theorem own_dload (X : own_St p l e R s m args below meth c Z own bytes ml rt nm n0 T h cells slots) {k : Nat} {v : UInt64} (hl : Ls[k]? = some (.val (.double v))) (hd : decode bytes pc = .ok (.dload k, 2)) (hp : pc + 2 = pc') (k : own_Goal p e below Φ T (mkF m pc' Ls (.double v :: rest))) : own_Goal p e below Φ T (mkF m pc Ls (rest)) := by
  subst hp
  exact own_pure X (fun X hx hby _ a => XS.dload X.here hx rfl (hb hby hd) hl a) k
theorem own_dloadN (X : own_St p l e R s m args below meth c Z own bytes ml rt nm n0 T h cells slots) {k : Fin 4} {v : UInt64} (hl : Ls[k.val]? = some (.val (.double v))) (hd : decode bytes pc = .ok (.dload_n k, 1)) (hp : pc + 1 = pc') (k : own_Goal p e below Φ T (mkF m pc' Ls (.double v :: rest))) : own_Goal p e below Φ T (mkF m pc Ls (rest)) := by
  subst hp
  exact own_pure X (fun X hx hby _ a => XS.dloadN X.here hx rfl (hb hby hd) hl a) k
theorem own_dstore (X : own_St p l e R s m args below meth c Z own bytes ml rt nm n0 T h cells slots) {k : Nat} {v : UInt64} {Ls' : Array Slot} (hl : storeLocals Ls k (.double v) = some Ls') (hd : decode bytes pc = .ok (.dstore k, 2)) (hp : pc + 2 = pc') (k : own_Goal p e below Φ T (mkF m pc' Ls' (rest))) : own_Goal p e below Φ T (mkF m pc Ls (.double v :: rest)) := by
  subst hp
  exact own_pure X (fun X hx hby _ a => XS.dstore X.here hx rfl (hb hby hd) rfl hl a) k
theorem own_dstoreN (X : own_St p l e R s m args below meth c Z own bytes ml rt nm n0 T h cells slots) {k : Fin 4} {v : UInt64} {Ls' : Array Slot} (hl : storeLocals Ls k.val (.double v) = some Ls') (hd : decode bytes pc = .ok (.dstore_n k, 1)) (hp : pc + 1 = pc') (k : own_Goal p e below Φ T (mkF m pc' Ls' (rest))) : own_Goal p e below Φ T (mkF m pc Ls (.double v :: rest)) := by
  subst hp
  exact own_pure X (fun X hx hby _ a => XS.dstoreN X.here hx rfl (hb hby hd) rfl hl a) k
theorem own_aload (X : own_St p l e R s m args below meth c Z own bytes ml rt nm n0 T h cells slots) {k : Nat} {v : Value} (hl : Ls[k]? = some (.val v)) (hv : v.isRef = true) (hd : decode bytes pc = .ok (.aload k, 2)) (hp : pc + 2 = pc') (k : own_Goal p e below Φ T (mkF m pc' Ls (v :: rest))) : own_Goal p e below Φ T (mkF m pc Ls (rest)) := by
  subst hp
  exact own_pure X (fun X hx hby _ a => XS.aload X.here hx rfl (hb hby hd) hl hv a) k
theorem own_aloadN (X : own_St p l e R s m args below meth c Z own bytes ml rt nm n0 T h cells slots) {k : Fin 4} {v : Value} (hl : Ls[k.val]? = some (.val v)) (hv : v.isRef = true) (hd : decode bytes pc = .ok (.aload_n k, 1)) (hp : pc + 1 = pc') (k : own_Goal p e below Φ T (mkF m pc' Ls (v :: rest))) : own_Goal p e below Φ T (mkF m pc Ls (rest)) := by
  subst hp
  exact own_pure X (fun X hx hby _ a => XS.aloadN X.here hx rfl (hb hby hd) hl hv a) k
theorem own_astore (X : own_St p l e R s m args below meth c Z own bytes ml rt nm n0 T h cells slots) {k : Nat} {v : Value} {Ls' : Array Slot} (hl : storeLocals Ls k v = some Ls') (hv : v.isRef = true) (hd : decode bytes pc = .ok (.astore k, 2)) (hp : pc + 2 = pc') (k : own_Goal p e below Φ T (mkF m pc' Ls' (rest))) : own_Goal p e below Φ T (mkF m pc Ls (v :: rest)) := by
  subst hp
  exact own_pure X (fun X hx hby _ a => XS.astore X.here hx rfl (hb hby hd) rfl hv hl a) k
theorem own_astoreN (X : own_St p l e R s m args below meth c Z own bytes ml rt nm n0 T h cells slots) {k : Fin 4} {v : Value} {Ls' : Array Slot} (hl : storeLocals Ls k.val v = some Ls') (hv : v.isRef = true) (hd : decode bytes pc = .ok (.astore_n k, 1)) (hp : pc + 1 = pc') (k : own_Goal p e below Φ T (mkF m pc' Ls' (rest))) : own_Goal p e below Φ T (mkF m pc Ls (v :: rest)) := by
  subst hp
  exact own_pure X (fun X hx hby _ a => XS.astoreN X.here hx rfl (hb hby hd) rfl hv hl a) k
theorem own_iinc (X : own_St p l e R s m args below meth c Z own bytes ml rt nm n0 T h cells slots) {k : Nat} {i : Int} {x v : Int32} {Ls' : Array Slot} (hl : Ls[k]? = some (.val (.int x))) (hv : x + Int32.ofInt i = v) (hl' : storeLocals Ls k (.int v) = some Ls') (hd : decode bytes pc = .ok (.iinc k i, 3)) (hp : pc + 3 = pc') (k : own_Goal p e below Φ T (mkF m pc' Ls' (rest))) : own_Goal p e below Φ T (mkF m pc Ls (rest)) := by
  subst hp hv
  exact own_pure X (fun X hx hby _ a => XS.iinc X.here hx rfl (hb hby hd) hl hl' a) k
theorem own_iadd (X : own_St p l e R s m args below meth c Z own bytes ml rt nm n0 T h cells slots) {x y v : Int32} (hv : x + y = v) (hd : decode bytes pc = .ok (.iadd, 1)) (hp : pc + 1 = pc') (k : own_Goal p e below Φ T (mkF m pc' Ls (.int v :: rest))) : own_Goal p e below Φ T (mkF m pc Ls (.int y :: .int x :: rest)) := by
  subst hp hv
  exact own_pure X (fun X hx hby _ a => XS.iadd X.here hx rfl (hb hby hd) rfl a) k
theorem own_isub (X : own_St p l e R s m args below meth c Z own bytes ml rt nm n0 T h cells slots) {x y v : Int32} (hv : x - y = v) (hd : decode bytes pc = .ok (.isub, 1)) (hp : pc + 1 = pc') (k : own_Goal p e below Φ T (mkF m pc' Ls (.int v :: rest))) : own_Goal p e below Φ T (mkF m pc Ls (.int y :: .int x :: rest)) := by
  subst hp hv
  exact own_pure X (fun X hx hby _ a => XS.isub X.here hx rfl (hb hby hd) rfl a) k
theorem own_imul (X : own_St p l e R s m args below meth c Z own bytes ml rt nm n0 T h cells slots) {x y v : Int32} (hv : x * y = v) (hd : decode bytes pc = .ok (.imul, 1)) (hp : pc + 1 = pc') (k : own_Goal p e below Φ T (mkF m pc' Ls (.int v :: rest))) : own_Goal p e below Φ T (mkF m pc Ls (.int y :: .int x :: rest)) := by
  subst hp hv
  exact own_pure X (fun X hx hby _ a => XS.imul X.here hx rfl (hb hby hd) rfl a) k
theorem own_iand (X : own_St p l e R s m args below meth c Z own bytes ml rt nm n0 T h cells slots) {x y v : Int32} (hv : x &&& y = v) (hd : decode bytes pc = .ok (.iand, 1)) (hp : pc + 1 = pc') (k : own_Goal p e below Φ T (mkF m pc' Ls (.int v :: rest))) : own_Goal p e below Φ T (mkF m pc Ls (.int y :: .int x :: rest)) := by
  subst hp hv
  exact own_pure X (fun X hx hby _ a => XS.iand X.here hx rfl (hb hby hd) rfl a) k
theorem own_ior (X : own_St p l e R s m args below meth c Z own bytes ml rt nm n0 T h cells slots) {x y v : Int32} (hv : x ||| y = v) (hd : decode bytes pc = .ok (.ior, 1)) (hp : pc + 1 = pc') (k : own_Goal p e below Φ T (mkF m pc' Ls (.int v :: rest))) : own_Goal p e below Φ T (mkF m pc Ls (.int y :: .int x :: rest)) := by
  subst hp hv
  exact own_pure X (fun X hx hby _ a => XT.ior X.here hx rfl (hb hby hd) rfl a) k
theorem own_ixor (X : own_St p l e R s m args below meth c Z own bytes ml rt nm n0 T h cells slots) {x y v : Int32} (hv : x ^^^ y = v) (hd : decode bytes pc = .ok (.ixor, 1)) (hp : pc + 1 = pc') (k : own_Goal p e below Φ T (mkF m pc' Ls (.int v :: rest))) : own_Goal p e below Φ T (mkF m pc Ls (.int y :: .int x :: rest)) := by
  subst hp hv
  exact own_pure X (fun X hx hby _ a => XT.ixor X.here hx rfl (hb hby hd) rfl a) k
theorem own_ishl (X : own_St p l e R s m args below meth c Z own bytes ml rt nm n0 T h cells slots) {x y v : Int32} (hv : x <<< (y &&& 31) = v) (hd : decode bytes pc = .ok (.ishl, 1)) (hp : pc + 1 = pc') (k : own_Goal p e below Φ T (mkF m pc' Ls (.int v :: rest))) : own_Goal p e below Φ T (mkF m pc Ls (.int y :: .int x :: rest)) := by
  subst hp hv
  exact own_pure X (fun X hx hby _ a => XT.ishl X.here hx rfl (hb hby hd) rfl a) k
theorem own_ishr (X : own_St p l e R s m args below meth c Z own bytes ml rt nm n0 T h cells slots) {x y v : Int32} (hv : x >>> (y &&& 31) = v) (hd : decode bytes pc = .ok (.ishr, 1)) (hp : pc + 1 = pc') (k : own_Goal p e below Φ T (mkF m pc' Ls (.int v :: rest))) : own_Goal p e below Φ T (mkF m pc Ls (.int y :: .int x :: rest)) := by
  subst hp hv
  exact own_pure X (fun X hx hby _ a => XT.ishr X.here hx rfl (hb hby hd) rfl a) k
theorem own_iushr (X : own_St p l e R s m args below meth c Z own bytes ml rt nm n0 T h cells slots) {x y v : Int32} (hv : XT.ushr x y = v) (hd : decode bytes pc = .ok (.iushr, 1)) (hp : pc + 1 = pc') (k : own_Goal p e below Φ T (mkF m pc' Ls (.int v :: rest))) : own_Goal p e below Φ T (mkF m pc Ls (.int y :: .int x :: rest)) := by
  subst hp hv
  exact own_pure X (fun X hx hby _ a => XT.iushr X.here hx rfl (hb hby hd) rfl a) k
theorem own_irem (X : own_St p l e R s m args below meth c Z own bytes ml rt nm n0 T h cells slots) {x y v : Int32} (hy : y ≠ 0) (hv : x % y = v) (hd : decode bytes pc = .ok (.irem, 1)) (hp : pc + 1 = pc') (k : own_Goal p e below Φ T (mkF m pc' Ls (.int v :: rest))) : own_Goal p e below Φ T (mkF m pc Ls (.int y :: .int x :: rest)) := by
  subst hp hv
  exact own_pure X (fun X hx hby _ a => iremM X hx rfl (hb hby hd) rfl hy a) k
theorem own_ineg (X : own_St p l e R s m args below meth c Z own bytes ml rt nm n0 T h cells slots) {x v : Int32} (hv : -x = v) (hd : decode bytes pc = .ok (.ineg, 1)) (hp : pc + 1 = pc') (k : own_Goal p e below Φ T (mkF m pc' Ls (.int v :: rest))) : own_Goal p e below Φ T (mkF m pc Ls (.int x :: rest)) := by
  subst hp hv
  exact own_pure X (fun X hx hby _ a => XS.ineg X.here hx rfl (hb hby hd) rfl a) k
theorem own_ladd (X : own_St p l e R s m args below meth c Z own bytes ml rt nm n0 T h cells slots) {x y v : Int64} (hv : x + y = v) (hd : decode bytes pc = .ok (.ladd, 1)) (hp : pc + 1 = pc') (k : own_Goal p e below Φ T (mkF m pc' Ls (.long v :: rest))) : own_Goal p e below Φ T (mkF m pc Ls (.long y :: .long x :: rest)) := by
  subst hp hv
  exact own_pure X (fun X hx hby _ a => XT.ladd X.here hx rfl (hb hby hd) rfl a) k
theorem own_lsub (X : own_St p l e R s m args below meth c Z own bytes ml rt nm n0 T h cells slots) {x y v : Int64} (hv : x - y = v) (hd : decode bytes pc = .ok (.lsub, 1)) (hp : pc + 1 = pc') (k : own_Goal p e below Φ T (mkF m pc' Ls (.long v :: rest))) : own_Goal p e below Φ T (mkF m pc Ls (.long y :: .long x :: rest)) := by
  subst hp hv
  exact own_pure X (fun X hx hby _ a => XT.lsub X.here hx rfl (hb hby hd) rfl a) k
theorem own_lmul (X : own_St p l e R s m args below meth c Z own bytes ml rt nm n0 T h cells slots) {x y v : Int64} (hv : x * y = v) (hd : decode bytes pc = .ok (.lmul, 1)) (hp : pc + 1 = pc') (k : own_Goal p e below Φ T (mkF m pc' Ls (.long v :: rest))) : own_Goal p e below Φ T (mkF m pc Ls (.long y :: .long x :: rest)) := by
  subst hp hv
  exact own_pure X (fun X hx hby _ a => XT.lmul X.here hx rfl (hb hby hd) rfl a) k
theorem own_land (X : own_St p l e R s m args below meth c Z own bytes ml rt nm n0 T h cells slots) {x y v : Int64} (hv : x &&& y = v) (hd : decode bytes pc = .ok (.land, 1)) (hp : pc + 1 = pc') (k : own_Goal p e below Φ T (mkF m pc' Ls (.long v :: rest))) : own_Goal p e below Φ T (mkF m pc Ls (.long y :: .long x :: rest)) := by
  subst hp hv
  exact own_pure X (fun X hx hby _ a => XT.land X.here hx rfl (hb hby hd) rfl a) k
theorem own_lor (X : own_St p l e R s m args below meth c Z own bytes ml rt nm n0 T h cells slots) {x y v : Int64} (hv : x ||| y = v) (hd : decode bytes pc = .ok (.lor, 1)) (hp : pc + 1 = pc') (k : own_Goal p e below Φ T (mkF m pc' Ls (.long v :: rest))) : own_Goal p e below Φ T (mkF m pc Ls (.long y :: .long x :: rest)) := by
  subst hp hv
  exact own_pure X (fun X hx hby _ a => XT.lor X.here hx rfl (hb hby hd) rfl a) k
theorem own_ldiv (X : own_St p l e R s m args below meth c Z own bytes ml rt nm n0 T h cells slots) {x y v : Int64} (hy : y ≠ 0) (hv : x / y = v) (hd : decode bytes pc = .ok (.ldiv, 1)) (hp : pc + 1 = pc') (k : own_Goal p e below Φ T (mkF m pc' Ls (.long v :: rest))) : own_Goal p e below Φ T (mkF m pc Ls (.long y :: .long x :: rest)) := by
  subst hp hv
  exact own_pure X (fun X hx hby _ a => XT.ldiv X.here hx rfl (hb hby hd) rfl hy a) k
theorem own_lrem (X : own_St p l e R s m args below meth c Z own bytes ml rt nm n0 T h cells slots) {x y v : Int64} (hy : y ≠ 0) (hv : x - (x / y) * y = v) (hd : decode bytes pc = .ok (.lrem, 1)) (hp : pc + 1 = pc') (k : own_Goal p e below Φ T (mkF m pc' Ls (.long v :: rest))) : own_Goal p e below Φ T (mkF m pc Ls (.long y :: .long x :: rest)) := by
  subst hp hv
  exact own_pure X (fun X hx hby _ a => XT.lrem X.here hx rfl (hb hby hd) rfl hy a) k
theorem own_lneg (X : own_St p l e R s m args below meth c Z own bytes ml rt nm n0 T h cells slots) {x v : Int64} (hv : -x = v) (hd : decode bytes pc = .ok (.lneg, 1)) (hp : pc + 1 = pc') (k : own_Goal p e below Φ T (mkF m pc' Ls (.long v :: rest))) : own_Goal p e below Φ T (mkF m pc Ls (.long x :: rest)) := by
  subst hp hv
  exact own_pure X (fun X hx hby _ a => XT.lneg X.here hx rfl (hb hby hd) rfl a) k
theorem own_lshl (X : own_St p l e R s m args below meth c Z own bytes ml rt nm n0 T h cells slots) {x v : Int64} {y : Int32} (hv : x <<< (y.toInt64 &&& 63) = v) (hd : decode bytes pc = .ok (.lshl, 1)) (hp : pc + 1 = pc') (k : own_Goal p e below Φ T (mkF m pc' Ls (.long v :: rest))) : own_Goal p e below Φ T (mkF m pc Ls (.int y :: .long x :: rest)) := by
  subst hp hv
  exact own_pure X (fun X hx hby _ a => XT.lshl X.here hx rfl (hb hby hd) rfl a) k
theorem own_lcmp (X : own_St p l e R s m args below meth c Z own bytes ml rt nm n0 T h cells slots) {x y : Int64} {v : Int32} (hv : XT.cmpL x y = v) (hd : decode bytes pc = .ok (.lcmp, 1)) (hp : pc + 1 = pc') (k : own_Goal p e below Φ T (mkF m pc' Ls (.int v :: rest))) : own_Goal p e below Φ T (mkF m pc Ls (.long y :: .long x :: rest)) := by
  subst hp hv
  exact own_pure X (fun X hx hby _ a => XT.lcmp X.here hx rfl (hb hby hd) rfl a) k
theorem own_i2l (X : own_St p l e R s m args below meth c Z own bytes ml rt nm n0 T h cells slots) {x : Int32} {v : Int64} (hv : x.toInt64 = v) (hd : decode bytes pc = .ok (.i2l, 1)) (hp : pc + 1 = pc') (k : own_Goal p e below Φ T (mkF m pc' Ls (.long v :: rest))) : own_Goal p e below Φ T (mkF m pc Ls (.int x :: rest)) := by
  subst hp hv
  exact own_pure X (fun X hx hby _ a => XT.i2l X.here hx rfl (hb hby hd) rfl a) k
theorem own_l2i (X : own_St p l e R s m args below meth c Z own bytes ml rt nm n0 T h cells slots) {x : Int64} {v : Int32} (hv : x.toInt32 = v) (hd : decode bytes pc = .ok (.l2i, 1)) (hp : pc + 1 = pc') (k : own_Goal p e below Φ T (mkF m pc' Ls (.int v :: rest))) : own_Goal p e below Φ T (mkF m pc Ls (.long x :: rest)) := by
  subst hp hv
  exact own_pure X (fun X hx hby _ a => XT.l2i X.here hx rfl (hb hby hd) rfl a) k
theorem own_i2c (X : own_St p l e R s m args below meth c Z own bytes ml rt nm n0 T h cells slots) {x v : Int32} (hv : x.toUInt32.toUInt16.toUInt32.toInt32 = v) (hd : decode bytes pc = .ok (.i2c, 1)) (hp : pc + 1 = pc') (k : own_Goal p e below Φ T (mkF m pc' Ls (.int v :: rest))) : own_Goal p e below Φ T (mkF m pc Ls (.int x :: rest)) := by
  subst hp hv
  exact own_pure X (fun X hx hby _ a => XT.i2c X.here hx rfl (hb hby hd) rfl a) k
theorem own_i2d (X : own_St p l e R s m args below meth c Z own bytes ml rt nm n0 T h cells slots) {x : Int32} {v : UInt64} (hv : FP.i2d x = v) (hd : decode bytes pc = .ok (.i2d, 1)) (hp : pc + 1 = pc') (k : own_Goal p e below Φ T (mkF m pc' Ls (.double v :: rest))) : own_Goal p e below Φ T (mkF m pc Ls (.int x :: rest)) := by
  subst hp
  exact own_pure X (fun X hx hby _ a => XS.i2dS X.here hx rfl (hb hby hd) rfl hv a) k
theorem own_l2d (X : own_St p l e R s m args below meth c Z own bytes ml rt nm n0 T h cells slots) {x : Int64} {v : UInt64} (hv : FP.l2d x = v) (hd : decode bytes pc = .ok (.l2d, 1)) (hp : pc + 1 = pc') (k : own_Goal p e below Φ T (mkF m pc' Ls (.double v :: rest))) : own_Goal p e below Φ T (mkF m pc Ls (.long x :: rest)) := by
  subst hp
  exact own_pure X (fun X hx hby _ a => XS.l2dS X.here hx rfl (hb hby hd) rfl hv a) k
theorem own_dadd (X : own_St p l e R s m args below meth c Z own bytes ml rt nm n0 T h cells slots) {x y v : UInt64} (hv : FP.dadd x y = v) (hn : Jvm.Free.Fl.NoNaN64 v) (hd : decode bytes pc = .ok (.dadd, 1)) (hp : pc + 1 = pc') (k : own_Goal p e below Φ T (mkF m pc' Ls (.double v :: rest))) : own_Goal p e below Φ T (mkF m pc Ls (.double y :: .double x :: rest)) := by
  subst hp
  exact own_pure X (fun X hx hby _ a => XS.daddS X.here hx rfl (hb hby hd) rfl (by rw [hv]; exact hn) hv a) k
theorem own_dsub (X : own_St p l e R s m args below meth c Z own bytes ml rt nm n0 T h cells slots) {x y v : UInt64} (hv : FP.dsub x y = v) (hn : Jvm.Free.Fl.NoNaN64 v) (hd : decode bytes pc = .ok (.dsub, 1)) (hp : pc + 1 = pc') (k : own_Goal p e below Φ T (mkF m pc' Ls (.double v :: rest))) : own_Goal p e below Φ T (mkF m pc Ls (.double y :: .double x :: rest)) := by
  subst hp
  exact own_pure X (fun X hx hby _ a => XS.dsubS X.here hx rfl (hb hby hd) rfl (by rw [hv]; exact hn) hv a) k
theorem own_dmul (X : own_St p l e R s m args below meth c Z own bytes ml rt nm n0 T h cells slots) {x y v : UInt64} (hv : FP.dmul x y = v) (hn : Jvm.Free.Fl.NoNaN64 v) (hd : decode bytes pc = .ok (.dmul, 1)) (hp : pc + 1 = pc') (k : own_Goal p e below Φ T (mkF m pc' Ls (.double v :: rest))) : own_Goal p e below Φ T (mkF m pc Ls (.double y :: .double x :: rest)) := by
  subst hp
  exact own_pure X (fun X hx hby _ a => XS.dmulS X.here hx rfl (hb hby hd) rfl (by rw [hv]; exact hn) hv a) k
theorem own_ddiv (X : own_St p l e R s m args below meth c Z own bytes ml rt nm n0 T h cells slots) {x y v : UInt64} (hv : FP.ddiv x y = v) (hn : Jvm.Free.Fl.NoNaN64 v) (hd : decode bytes pc = .ok (.ddiv, 1)) (hp : pc + 1 = pc') (k : own_Goal p e below Φ T (mkF m pc' Ls (.double v :: rest))) : own_Goal p e below Φ T (mkF m pc Ls (.double y :: .double x :: rest)) := by
  subst hp
  exact own_pure X (fun X hx hby _ a => XS.ddivS X.here hx rfl (hb hby hd) rfl (by rw [hv]; exact hn) hv a) k
theorem own_dneg (X : own_St p l e R s m args below meth c Z own bytes ml rt nm n0 T h cells slots) {x v : UInt64} (hv : FP.dneg x = v) (hd : decode bytes pc = .ok (.dneg, 1)) (hp : pc + 1 = pc') (k : own_Goal p e below Φ T (mkF m pc' Ls (.double v :: rest))) : own_Goal p e below Φ T (mkF m pc Ls (.double x :: rest)) := by
  subst hp
  exact own_pure X (fun X hx hby _ a => XS.dnegS X.here hx rfl (hb hby hd) rfl hv a) k
theorem own_dcmp (X : own_St p l e R s m args below meth c Z own bytes ml rt nm n0 T h cells slots) {o : CmpOp} {x y : UInt64} {v : Int32} (hv : cmpValue (FP.dcmp x y) o = v) (hd : decode bytes pc = .ok (.dcmp o, 1)) (hp : pc + 1 = pc') (k : own_Goal p e below Φ T (mkF m pc' Ls (.int v :: rest))) : own_Goal p e below Φ T (mkF m pc Ls (.double y :: .double x :: rest)) := by
  subst hp
  exact own_pure X (fun X hx hby _ a => XS.dcmpS X.here hx rfl (hb hby hd) rfl hv a) k
theorem own_dremS {tb : Tables} [Ours tb] {e : Env} {below : List Frame} {T target : State} {m : MethodId} {c : Code} {g : JFrame} (h : At T m c below) (hx : tb.exec = Jvm.exec) (hg : g.method = m) {x y v : UInt64} {rest : List Value} (hd : decode c.code g.pc = .ok (.drem, 1)) (hs : g.stack = .double y :: .double x :: rest) (hn : Jvm.Free.Fl.NoNaN64 (FP.drem x y)) (hv : FP.drem x y = v)
    (hr : Steps tb e below (T.setTop { g with pc := g.pc + 1, stack := .double v :: rest }) target) : Steps tb e below (T.setTop g) target := by
  subst hg
  subst hv
  obtain ⟨gm, gp, gl, gs, gk, ge, gr⟩ := g
  simp only at hs hd
  subst hs
  jvm_step h [h.top, hx, hd, Op.drem.at_number h.top hn]
  exact hr
theorem own_drem (X : own_St p l e R s m args below meth c Z own bytes ml rt nm n0 T h cells slots) {x y v : UInt64} (hv : FP.drem x y = v) (hn : Jvm.Free.Fl.NoNaN64 v) (hd : decode bytes pc = .ok (.drem, 1)) (hp : pc + 1 = pc') (k : own_Goal p e below Φ T (mkF m pc' Ls (.double v :: rest))) : own_Goal p e below Φ T (mkF m pc Ls (.double y :: .double x :: rest)) := by
  subst hp
  exact own_pure X (fun X hx hby _ a => own_dremS X.here hx rfl (hb hby hd) rfl (by rw [hv]; exact hn) hv a) k
theorem own_dup (X : own_St p l e R s m args below meth c Z own bytes ml rt nm n0 T h cells slots) {x : Value} (hc : x.category = 1) (hd : decode bytes pc = .ok (.dup, 1)) (hp : pc + 1 = pc') (k : own_Goal p e below Φ T (mkF m pc' Ls (x :: x :: rest))) : own_Goal p e below Φ T (mkF m pc Ls (x :: rest)) := by
  subst hp
  exact own_pure X (fun X hx hby _ a => XS.dup X.here hx rfl (hb hby hd) rfl hc a) k
theorem own_dup2 (X : own_St p l e R s m args below meth c Z own bytes ml rt nm n0 T h cells slots) {x y : Value} (hc : x.category = 1) (hc' : y.category = 1) (hd : decode bytes pc = .ok (.dup2, 1)) (hp : pc + 1 = pc') (k : own_Goal p e below Φ T (mkF m pc' Ls (x :: y :: x :: y :: rest))) : own_Goal p e below Φ T (mkF m pc Ls (x :: y :: rest)) := by
  subst hp
  exact own_pure X (fun X hx hby _ a => XT.dup2 X.here hx rfl (hb hby hd) rfl hc hc' a) k
theorem own_pop (X : own_St p l e R s m args below meth c Z own bytes ml rt nm n0 T h cells slots) {x : Value} (hc : x.category = 1) (hd : decode bytes pc = .ok (.pop, 1)) (hp : pc + 1 = pc') (k : own_Goal p e below Φ T (mkF m pc' Ls (rest))) : own_Goal p e below Φ T (mkF m pc Ls (x :: rest)) := by
  subst hp
  exact own_pure X (fun X hx hby _ a => XT.pop X.here hx rfl (hb hby hd) rfl hc a) k
theorem own_goto (X : own_St p l e R s m args below meth c Z own bytes ml rt nm n0 T h cells slots) {o : Int}  (hd : decode bytes pc = .ok (.goto o, 3)) (ho : 0 ≤ (pc : Int) + o) (hp : ((pc : Int) + o).toNat = pc') (k : own_Goal p e below Φ T (mkF m pc' Ls rest)) : own_Goal p e below Φ T (mkF m pc Ls (rest)) := by
  exact own_pure X (fun X hx hby _ a => XS.goto X.here hx rfl rfl (hb hby hd) ho hp a) k
theorem own_ifT (X : own_St p l e R s m args below meth c Z own bytes ml rt nm n0 T h cells slots) {o : Int} {cd : ClassFile.Cond} {x : Int32} (hc : ifCond.holds cd x = true) (hd : decode bytes pc = .ok (.ifCond cd o, 3)) (ho : 0 ≤ (pc : Int) + o) (hp : ((pc : Int) + o).toNat = pc') (k : own_Goal p e below Φ T (mkF m pc' Ls rest)) : own_Goal p e below Φ T (mkF m pc Ls (.int x :: rest)) := by
  exact own_pure X (fun X hx hby _ a => XS.ifYes X.here hx rfl rfl (hb hby hd) rfl hc ho hp a) k
theorem own_ifF (X : own_St p l e R s m args below meth c Z own bytes ml rt nm n0 T h cells slots) {o : Int} {cd : ClassFile.Cond} {x : Int32} (hc : ifCond.holds cd x = false) (hd : decode bytes pc = .ok (.ifCond cd o, 3)) (hp : pc + 3 = pc') (k : own_Goal p e below Φ T (mkF m pc' Ls rest)) : own_Goal p e below Φ T (mkF m pc Ls (.int x :: rest)) := by
  subst hp
  exact own_pure X (fun X hx hby _ a => XS.ifNo X.here hx rfl (hb hby hd) rfl hc a) k
theorem own_icmpT (X : own_St p l e R s m args below meth c Z own bytes ml rt nm n0 T h cells slots) {o : Int} {cd : ClassFile.Cond} {x y : Int32} (hc : if_icmp.holds cd x y = true) (hd : decode bytes pc = .ok (.if_icmp cd o, 3)) (ho : 0 ≤ (pc : Int) + o) (hp : ((pc : Int) + o).toNat = pc') (k : own_Goal p e below Φ T (mkF m pc' Ls rest)) : own_Goal p e below Φ T (mkF m pc Ls (.int y :: .int x :: rest)) := by
  exact own_pure X (fun X hx hby _ a => XS.icmpYes X.here hx rfl rfl (hb hby hd) rfl hc ho hp a) k
theorem own_icmpF (X : own_St p l e R s m args below meth c Z own bytes ml rt nm n0 T h cells slots) {o : Int} {cd : ClassFile.Cond} {x y : Int32} (hc : if_icmp.holds cd x y = false) (hd : decode bytes pc = .ok (.if_icmp cd o, 3)) (hp : pc + 3 = pc') (k : own_Goal p e below Φ T (mkF m pc' Ls rest)) : own_Goal p e below Φ T (mkF m pc Ls (.int y :: .int x :: rest)) := by
  subst hp
  exact own_pure X (fun X hx hby _ a => XS.icmpNo X.here hx rfl (hb hby hd) rfl hc a) k
theorem own_ifnullT (X : own_St p l e R s m args below meth c Z own bytes ml rt nm n0 T h cells slots) {o : Int}  (hd : decode bytes pc = .ok (.ifnull o, 3)) (ho : 0 ≤ (pc : Int) + o) (hp : ((pc : Int) + o).toNat = pc') (k : own_Goal p e below Φ T (mkF m pc' Ls rest)) : own_Goal p e below Φ T (mkF m pc Ls (.null :: rest)) := by
  exact own_pure X (fun X hx hby _ a => XS.ifnullYes X.here hx rfl rfl (hb hby hd) rfl ho hp a) k
theorem own_ifnullF (X : own_St p l e R s m args below meth c Z own bytes ml rt nm n0 T h cells slots) {o : Int} {b : Addr} (hd : decode bytes pc = .ok (.ifnull o, 3)) (hp : pc + 3 = pc') (k : own_Goal p e below Φ T (mkF m pc' Ls rest)) : own_Goal p e below Φ T (mkF m pc Ls (.ref b :: rest)) := by
  subst hp
  exact own_pure X (fun X hx hby _ a => XS.ifnullNo X.here hx rfl (hb hby hd) rfl a) k
theorem own_ifnonnullT (X : own_St p l e R s m args below meth c Z own bytes ml rt nm n0 T h cells slots) {o : Int} {b : Addr} (hd : decode bytes pc = .ok (.ifnonnull o, 3)) (ho : 0 ≤ (pc : Int) + o) (hp : ((pc : Int) + o).toNat = pc') (k : own_Goal p e below Φ T (mkF m pc' Ls rest)) : own_Goal p e below Φ T (mkF m pc Ls (.ref b :: rest)) := by
  exact own_pure X (fun X hx hby _ a => XT.ifnonnullYes X.here hx rfl rfl (hb hby hd) rfl ho hp a) k
theorem own_ifnonnullF (X : own_St p l e R s m args below meth c Z own bytes ml rt nm n0 T h cells slots) {o : Int}  (hd : decode bytes pc = .ok (.ifnonnull o, 3)) (hp : pc + 3 = pc') (k : own_Goal p e below Φ T (mkF m pc' Ls rest)) : own_Goal p e below Φ T (mkF m pc Ls (.null :: rest)) := by
  subst hp
  exact own_pure X (fun X hx hby _ a => XT.ifnonnullNo X.here hx rfl (hb hby hd) rfl a) k
theorem own_ldcI (X : own_St p l e R s m args below meth c Z own bytes ml rt nm n0 T h cells slots) {i : Nat} {v : Int32} (w : (Jvm.Cond.constant own i v).before a0 Z = true) (hd : decode bytes pc = .ok (.ldc i, 2)) (hp : pc + 2 = pc') (k : own_Goal p e below Φ T (mkF m pc' Ls (.int v :: rest))) : own_Goal p e below Φ T (mkF m pc Ls rest) := by
  subst hp
  obtain ⟨locs, X, -, -, -, hx, hZ, hown, hby, -⟩ := X
  exact own_step (fun t a => X.ldcInt hx hown (mvT hZ w) (g := mkF m pc Ls rest) rfl (hb hby hd) t a) k
theorem own_ldcJ (X : own_St p l e R s m args below meth c Z own bytes ml rt nm n0 T h cells slots) {i : Nat} {v : Int64} (w : (Jvm.Cond.constantLong own i v).before a0 Z = true) (hd : decode bytes pc = .ok (.ldc2_w i, 3)) (hp : pc + 3 = pc') (k : own_Goal p e below Φ T (mkF m pc' Ls (.long v :: rest))) : own_Goal p e below Φ T (mkF m pc Ls rest) := by
  subst hp
  obtain ⟨locs, X, -, -, -, hx, hZ, hown, hby, -⟩ := X
  exact own_step (fun t a => X.ldc2Long hx hown (mvT hZ w) (g := mkF m pc Ls rest) rfl (hb hby hd) t a) k
theorem own_ldcD (X : own_St p l e R s m args below meth c Z own bytes ml rt nm n0 T h cells slots) {i : Nat} {v : UInt64} (w : (Jvm.Cond.constantDouble own i v).before a0 Z = true) (hd : decode bytes pc = .ok (.ldc2_w i, 3)) (hp : pc + 3 = pc') (k : own_Goal p e below Φ T (mkF m pc' Ls (.double v :: rest))) : own_Goal p e below Φ T (mkF m pc Ls rest) := by
  subst hp
  obtain ⟨locs, X, -, -, -, hx, hZ, hown, hby, -⟩ := X
  exact own_step (fun t a => X.ldc2DoubleC hx hown (mvT hZ w) (g := mkF m pc Ls rest) rfl (hb hby hd) t a) k
theorem own_retI (X : own_St p l e R s m args below meth c Z own bytes ml rt nm n0 T h cells slots) {v : Int32} (hd : decode bytes pc = .ok (.ireturn, 1)) (hr : rt = some .int) (hc : cells ≤ R.cells) (hs : slots ≤ R.slots) (q : Q (some (.int v)) h) : own_Goal p e below (own_Fin below s R n0 Q) T (mkF m pc Ls (.int v :: rest)) := by
  obtain ⟨locs, X, N, e1, n1, hx, hZ, hown, hby, -, hrt, hlk, -⟩ := X
  obtain ⟨fs, hl, hrun, hended, hW, hsame⟩ := X.leave (v := some (.int v)) (fun z => by rw [hrt, hr] at z; cases z) hlk
  exact ⟨_, _, retOut X hx (hrt.trans hr) rfl (Or.inl ⟨rfl, Or.inl rfl, _, rfl⟩) (hb hby hd) hl, hrun, hended, _, _, rfl, ⟨⟨by show Q _ T.heap; rw [e1]; exact q, by show n0 ≤ T.heap.size; rw [e1]; exact n1⟩, N⟩, ⟨_, rfl⟩, hW, hsame.mono hc hs⟩
theorem own_retJ (X : own_St p l e R s m args below meth c Z own bytes ml rt nm n0 T h cells slots) {v : Int64} (hd : decode bytes pc = .ok (.lreturn, 1)) (hr : rt = some .long) (hc : cells ≤ R.cells) (hs : slots ≤ R.slots) (q : Q (some (.long v)) h) : own_Goal p e below (own_Fin below s R n0 Q) T (mkF m pc Ls (.long v :: rest)) := by
  obtain ⟨locs, X, N, e1, n1, hx, hZ, hown, hby, -, hrt, hlk, -⟩ := X
  obtain ⟨fs, hl, hrun, hended, hW, hsame⟩ := X.leave (v := some (.long v)) (fun z => by rw [hrt, hr] at z; cases z) hlk
  exact ⟨_, _, retOut X hx (hrt.trans hr) rfl (Or.inr (Or.inl ⟨rfl, rfl, _, rfl⟩)) (hb hby hd) hl, hrun, hended, _, _, rfl, ⟨⟨by show Q _ T.heap; rw [e1]; exact q, by show n0 ≤ T.heap.size; rw [e1]; exact n1⟩, N⟩, ⟨_, rfl⟩, hW, hsame.mono hc hs⟩
theorem own_retD (X : own_St p l e R s m args below meth c Z own bytes ml rt nm n0 T h cells slots) {v : UInt64} (hd : decode bytes pc = .ok (.dreturn, 1)) (hr : rt = some .double) (hc : cells ≤ R.cells) (hs : slots ≤ R.slots) (q : Q (some (.double v)) h) : own_Goal p e below (own_Fin below s R n0 Q) T (mkF m pc Ls (.double v :: rest)) := by
  obtain ⟨locs, X, N, e1, n1, hx, hZ, hown, hby, -, hrt, hlk, -⟩ := X
  obtain ⟨fs, hl, hrun, hended, hW, hsame⟩ := X.leave (v := some (.double v)) (fun z => by rw [hrt, hr] at z; cases z) hlk
  exact ⟨_, _, retOut X hx (hrt.trans hr) rfl (Or.inr (Or.inr (Or.inl ⟨rfl, rfl, _, rfl⟩))) (hb hby hd) hl, hrun, hended, _, _, rfl, ⟨⟨by show Q _ T.heap; rw [e1]; exact q, by show n0 ≤ T.heap.size; rw [e1]; exact n1⟩, N⟩, ⟨_, rfl⟩, hW, hsame.mono hc hs⟩
theorem own_retZ (X : own_St p l e R s m args below meth c Z own bytes ml rt nm n0 T h cells slots) {v : Int32} (hv : v = 0 ∨ v = 1) (hd : decode bytes pc = .ok (.ireturn, 1)) (hr : rt = some .boolean) (hc : cells ≤ R.cells) (hs : slots ≤ R.slots) (q : Q (some (.int v)) h) : own_Goal p e below (own_Fin below s R n0 Q) T (mkF m pc Ls (.int v :: rest)) := by
  obtain ⟨locs, X, N, e1, n1, hx, hZ, hown, hby, -, hrt, hlk, -⟩ := X
  obtain ⟨fs, hl, hrun, hended, hW, hsame⟩ := X.leave (v := some (.int v)) (fun z => by rw [hrt, hr] at z; cases z) hlk
  have hn : nar .boolean v = v := by rcases hv with rfl | rfl <;> rfl
  exact ⟨_, _, retN X hx (t := .boolean) (hrt.trans hr) (by simp) (hb hby hd) (by rw [hn]; exact hl), hrun, hended, _, _, rfl, ⟨⟨by show Q _ T.heap; rw [e1]; exact q, by show n0 ≤ T.heap.size; rw [e1]; exact n1⟩, N⟩, ⟨_, rfl⟩, hW, hsame.mono hc hs⟩
theorem own_retA (X : own_St p l e R s m args below meth c Z own bytes ml rt nm n0 T h cells slots) {b : Addr} {t : FieldType} (ht : t.isReference = true) (hd : decode bytes pc = .ok (.areturn, 1)) (hr : rt = some t) (hc : cells ≤ R.cells) (hs : slots ≤ R.slots) (q : Q (some (.ref b)) h) : own_Goal p e below (own_Fin below s R n0 Q) T (mkF m pc Ls (.ref b :: rest)) := by
  obtain ⟨locs, X, N, e1, n1, hx, hZ, hown, hby, -, hrt, hlk, -⟩ := X
  obtain ⟨fs, hl, hrun, hended, hW, hsame⟩ := X.leave (v := some (.ref b)) (fun z => by rw [hrt, hr] at z; cases z) hlk
  have hn : narrow t (.ref b) = .ref b := by cases t <;> rfl
  exact ⟨_, _, retOut X hx (hrt.trans hr) hn (Or.inr (Or.inr (Or.inr (Or.inr ⟨rfl, ht, rfl⟩)))) (hb hby hd) hl, hrun, hended, _, _, rfl, ⟨⟨by show Q _ T.heap; rw [e1]; exact q, by show n0 ≤ T.heap.size; rw [e1]; exact n1⟩, N⟩, ⟨_, rfl⟩, hW, hsame.mono hc hs⟩
theorem own_retV (X : own_St p l e R s m args below meth c Z own bytes ml rt nm n0 T h cells slots) (hd : decode bytes pc = .ok (.return_, 1)) (hr : rt = none) (hc : cells ≤ R.cells) (hs : slots ≤ R.slots) (q : Q none h) : own_Goal p e below (own_Fin below s R n0 Q) T (mkF m pc Ls []) := by
  obtain ⟨locs, X, N, e1, n1, hx, hZ, hown, hby, -, hrt, hlk, -⟩ := X
  obtain ⟨fs, hl, hrun, hended, hW, hsame⟩ := X.leave (v := none) (fun _ => rfl) hlk
  exact ⟨_, _, X.returnOut hx (hrt.trans hr) (hb hby hd) hl, hrun, hended, _, _, rfl, ⟨⟨by show Q _ T.heap; rw [e1]; exact q, by show n0 ≤ T.heap.size; rw [e1]; exact n1⟩, N⟩, ⟨_, rfl⟩, hW, hsame.mono hc hs⟩
/-- an array and all it holds -/
def own_Vec (Z : State) (h : Heap) (a : Addr) (ty : FieldType) (vs : List Value) : Prop := ∃ c : Cell, Arr Z h a c ty ∧ c.slots = vs.toArray
theorem own_Vec.lt {a : Addr} {ty : FieldType} {vs : List Value} (F : own_Vec Z h a ty vs) : a < h.size := by obtain ⟨c, A, -⟩ := F; exact A.lt
theorem own_Vec.ext {h' : Heap} {a : Addr} {ty : FieldType} {vs : List Value} (F : own_Vec Z h a ty vs) (E : Ext h h') : own_Vec Z h' a ty vs := by obtain ⟨c, A, r⟩ := F; exact ⟨c, A.ext E, r⟩
theorem own_Vec.other {h' : Heap} {a b : Addr} {sl : Nat} {v : Value} {ty : FieldType} {vs : List Value} (F : own_Vec Z h b ty vs) (W : Wr h h' a sl v) (q : b ≠ a) : own_Vec Z h' b ty vs := by obtain ⟨c, A, r⟩ := F; exact ⟨c, A.other W q, r⟩
theorem own_Vec.keep {h' : Heap} {ws : List Addr} {a : Addr} {ty : FieldType} {vs : List Value} (F : own_Vec Z h a ty vs) (K : Keep h h' ws) (q : a ∉ ws) : own_Vec Z h' a ty vs := by obtain ⟨c, A, r⟩ := F; exact ⟨c, ⟨K.2.1 a c A.1 q, A.2⟩, r⟩
theorem own_Vec.set {h' : Heap} {a : Addr} {i : Nat} {v : Value} {ty : FieldType} {vs : List Value} (F : own_Vec Z h a ty vs) (W : Wr h h' a i v) : own_Vec Z h' a ty (vs.set i v) := by
  obtain ⟨c, A, r⟩ := F
  refine ⟨_, A.same W, ?_⟩
  show c.slots.setIfInBounds i v = _
  rw [r]; simp
theorem own_lt_ne {a b : Addr} (q : b < h.size) (g : a = h.size) : b ≠ a := by subst g; exact Nat.ne_of_lt q
/-- an index in an array, as the library's laws ask it -/
theorem own_in {n i : Nat} {j : Int32} (hj : j.toNatClampNeg = i) (h0 : ¬ j < 0) (hi : i < n) : ¬ (j < 0 ∨ n ≤ j.toNatClampNeg) := by
  rw [hj]; rintro (q | q)
  · exact h0 q
  · omega
theorem own_len (X : own_St p l e R s m args below meth c Z own bytes ml rt nm n0 T h cells slots) {a : Addr} {ty : FieldType} {vs : List Value} (F : own_Vec Z h a ty vs) {v : Int32} (hv : vs.length.toInt32 = v) (hd : decode bytes pc = .ok (.arraylength, 1)) (hp : pc + 1 = pc') (k : own_Goal p e below Φ T (mkF m pc' Ls (.int v :: rest))) : own_Goal p e below Φ T (mkF m pc Ls (.ref a :: rest)) := by
  subst hp
  obtain ⟨locs, X, N, e1, -, hx, hZ, hown, hby, -⟩ := X
  obtain ⟨cl, A, r⟩ := F
  have e2 : cl.slots.size.toInt32 = v := by rw [r]; simpa using hv
  exact own_step (fun t a => X.arraylength hx (cell := cl) (by rw [e1]; exact A.1) (State.isArrayOf_alike hZ.alike A.2.1) (g := mkF m pc Ls _) rfl rfl (hb hby hd) t (by rw [e2]; exact a)) k
theorem own_iaload (X : own_St p l e R s m args below meth c Z own bytes ml rt nm n0 T h cells slots) {a : Addr} {vs : List Value} (F : own_Vec Z h a .int vs) {j : Int32} {i : Nat} {v : Value} (hj : j.toNatClampNeg = i) (h0 : ¬ j < 0) (hv : vs[i]? = some v) (hd : decode bytes pc = .ok (.iaload, 1)) (hp : pc + 1 = pc') (k : own_Goal p e below Φ T (mkF m pc' Ls (v :: rest))) : own_Goal p e below Φ T (mkF m pc Ls (.int j :: .ref a :: rest)) := by
  subst hp
  obtain ⟨locs, X, N, e1, -, hx, hZ, hown, hby, -⟩ := X
  obtain ⟨cl, A, r⟩ := F
  have q1 : i < vs.length := (List.getElem?_eq_some_iff.mp hv).1
  exact own_step (fun t a => X.iaload hx (cell := cl) (by rw [e1]; exact A.1) (State.isArrayOf_alike hZ.alike A.2.1) A.2.2 (own_in hj h0 (by rw [r]; simpa using q1)) (by rw [hj, r]; simpa using hv) (g := mkF m pc Ls _) rfl rfl (hb hby hd) t a) k
theorem own_laload (X : own_St p l e R s m args below meth c Z own bytes ml rt nm n0 T h cells slots) {a : Addr} {vs : List Value} (F : own_Vec Z h a .long vs) {j : Int32} {i : Nat} {v : Value} (hj : j.toNatClampNeg = i) (h0 : ¬ j < 0) (hv : vs[i]? = some v) (hd : decode bytes pc = .ok (.laload, 1)) (hp : pc + 1 = pc') (k : own_Goal p e below Φ T (mkF m pc' Ls (v :: rest))) : own_Goal p e below Φ T (mkF m pc Ls (.int j :: .ref a :: rest)) := by
  subst hp
  obtain ⟨locs, X, N, e1, -, hx, hZ, hown, hby, -⟩ := X
  obtain ⟨cl, A, r⟩ := F
  have q1 : i < vs.length := (List.getElem?_eq_some_iff.mp hv).1
  exact own_step (fun t a => X.laload hx (cell := cl) (by rw [e1]; exact A.1) (State.isArrayOf_alike hZ.alike A.2.1) A.2.2 (own_in hj h0 (by rw [r]; simpa using q1)) (by rw [hj, r]; simpa using hv) (g := mkF m pc Ls _) rfl rfl (hb hby hd) t a) k
theorem own_daload (X : own_St p l e R s m args below meth c Z own bytes ml rt nm n0 T h cells slots) {a : Addr} {vs : List Value} (F : own_Vec Z h a .double vs) {j : Int32} {i : Nat} {v : Value} (hj : j.toNatClampNeg = i) (h0 : ¬ j < 0) (hv : vs[i]? = some v) (hd : decode bytes pc = .ok (.daload, 1)) (hp : pc + 1 = pc') (k : own_Goal p e below Φ T (mkF m pc' Ls (v :: rest))) : own_Goal p e below Φ T (mkF m pc Ls (.int j :: .ref a :: rest)) := by
  subst hp
  obtain ⟨locs, X, N, e1, -, hx, hZ, hown, hby, -⟩ := X
  obtain ⟨cl, A, r⟩ := F
  have q1 : i < vs.length := (List.getElem?_eq_some_iff.mp hv).1
  exact own_step (fun t a => X.daload hx (cell := cl) (by rw [e1]; exact A.1) (State.isArrayOf_alike hZ.alike A.2.1) A.2.2 (own_in hj h0 (by rw [r]; simpa using q1)) (by rw [hj, r]; simpa using hv) (g := mkF m pc Ls _) rfl rfl (hb hby hd) t a) k
theorem own_iastore (X : own_St p l e R s m args below meth c Z own bytes ml rt nm n0 T h cells slots) {a : Addr} {vs : List Value} (F : own_Vec Z h a .int vs) (ha : n0 ≤ a) {j : Int32} {i : Nat} {x : Int32} (hj : j.toNatClampNeg = i) (h0 : ¬ j < 0) (hi : i < vs.length) (hd : decode bytes pc = .ok (.iastore, 1)) (hp : pc + 1 = pc')
    (k : ∀ T' h', own_St p l e R s m args below meth c Z own bytes ml rt nm n0 T' h' cells slots → Wr h h' a i (.int x) → own_Vec Z h' a .int (vs.set i (.int x)) → own_Goal p e below Φ T' (mkF m pc' Ls rest)) : own_Goal p e below Φ T (mkF m pc Ls (.int x :: .int j :: .ref a :: rest)) := by
  subst hp
  obtain ⟨locs, X, N, e1, n1, hx, hZ, hown, hby, r0⟩ := X
  have F0 := F
  obtain ⟨cl, A, r⟩ := F
  obtain ⟨T', h', X', e', W, st⟩ := stI X hx hZ e1 A (own_in hj h0 (by rw [r]; simpa using hi)) (g := mkF m pc Ls _) rfl rfl (hb hby hd)
  have N' := Fr.snoc X' N ha
  rw [hj] at W
  exact own_step st (k T' h' ⟨_, X', N', e', by rw [W.size]; exact n1, hx, hZ, hown, hby, r0⟩ W (F0.set W))
theorem own_dastore (X : own_St p l e R s m args below meth c Z own bytes ml rt nm n0 T h cells slots) {a : Addr} {vs : List Value} (F : own_Vec Z h a .double vs) (ha : n0 ≤ a) {j : Int32} {i : Nat} {x : UInt64} (hj : j.toNatClampNeg = i) (h0 : ¬ j < 0) (hi : i < vs.length) (hd : decode bytes pc = .ok (.dastore, 1)) (hp : pc + 1 = pc')
    (k : ∀ T' h', own_St p l e R s m args below meth c Z own bytes ml rt nm n0 T' h' cells slots → Wr h h' a i (.double x) → own_Vec Z h' a .double (vs.set i (.double x)) → own_Goal p e below Φ T' (mkF m pc' Ls rest)) : own_Goal p e below Φ T (mkF m pc Ls (.double x :: .int j :: .ref a :: rest)) := by
  subst hp
  obtain ⟨locs, X, N, e1, n1, hx, hZ, hown, hby, r0⟩ := X
  have F0 := F
  obtain ⟨cl, A, r⟩ := F
  obtain ⟨T', h', X', e', W, st⟩ := stD X hx hZ e1 A (own_in hj h0 (by rw [r]; simpa using hi)) (g := mkF m pc Ls _) rfl rfl (hb hby hd)
  have N' := Fr.snoc X' N ha
  rw [hj] at W
  exact own_step st (k T' h' ⟨_, X', N', e', by rw [W.size]; exact n1, hx, hZ, hown, hby, r0⟩ W (F0.set W))
theorem own_newarray (X : own_St p l e R s m args below meth c Z own bytes ml rt nm n0 T h cells slots) {aty : ArrayType} {ty : FieldType} (hty : newarray.typeOf aty = ty) (w : (Jvm.Cond.arrayClass ty).before a0 Z = true) {j : Int32} {n : Nat} {vs : List Value} (hj : j.toNatClampNeg = n) (h0 : ¬ j < 0) (hn : n ≤ 1000) (hvs : List.replicate n (defaultValue ty) = vs) {cells' slots' : Nat} (hc' : cells + 1 = cells') (hs' : slots + n = slots') (hc : cells' ≤ R.cells) (hs : slots' ≤ R.slots) (hd : decode bytes pc = .ok (.newarray aty, 2)) (hp : pc + 2 = pc')
    (k : ∀ a T' h', a = h.size → n0 ≤ a → own_St p l e R s m args below meth c Z own bytes ml rt nm n0 T' h' cells' slots' → Ext h h' → own_Vec Z h' a ty vs → own_Goal p e below Φ T' (mkF m pc' Ls (.ref a :: rest))) : own_Goal p e below Φ T (mkF m pc Ls (.int j :: rest)) := by
  subst hp hty hvs hc' hs'
  obtain ⟨locs, X, N, e1, n1, hx, hZ, hown, hby, r0⟩ := X
  obtain ⟨T', h', cA, X', e', E, A, st⟩ := newP X hx hZ w e1 (g := mkF m pc Ls _) rfl (hb hby hd) rfl h0 (cap := n) (by omega) (by omega) hc hs
  refine own_step st (k _ T' h' rfl n1 ⟨_, X', N, e', Nat.le_trans n1 E.1, hx, hZ, hown, hby, r0⟩ E ⟨_, A, ?_⟩)
  simp [newA, hj]
theorem own_new (X : own_St p l e R s m args below meth c Z own bytes ml rt nm n0 T h cells slots) {i : Nat} {C : String} {n : Nat} (w : (Jvm.Cond.classLink own i C).before a0 Z = true) (wi : (Jvm.Cond.instantiable C n).before a0 Z = true) (wz : (Jvm.Cond.initialized C).before a0 Z = true) {cells' slots' : Nat} (hc' : cells + 1 = cells') (hs' : slots + n = slots') (hc : cells' ≤ R.cells) (hs : slots' ≤ R.slots) (hd : decode bytes pc = .ok (.new i, 3)) (hp : pc + 3 = pc')
    (k : ∀ a T' h', a = h.size → n0 ≤ a → own_St p l e R s m args below meth c Z own bytes ml rt nm n0 T' h' cells' slots' → Ext h h' → Exa Z h' a C → (∀ {O nm d : String} {ty : FieldType}, Laid Z a0 C O nm d → parseFieldDescriptor d = some ty → Fld Z h' a O nm d (defaultValue ty)) → own_Goal p e below Φ T' (mkF m pc' Ls (.ref a :: rest))) : own_Goal p e below Φ T (mkF m pc Ls rest) := by
  subst hp hc' hs'
  obtain ⟨locs, X, N, e1, n1, hx, hZ, hown, hby, r0⟩ := X
  obtain ⟨T', h', X', e', E, A, D, -, st⟩ := newO X hx hZ hown w wi wz e1 (g := mkF m pc Ls _) rfl (hb hby hd) hc hs
  exact own_step st (k _ T' h' rfl n1 ⟨_, X', N, e', Nat.le_trans n1 E.1, hx, hZ, hown, hby, r0⟩ E A D)
theorem own_getF (X : own_St p l e R s m args below meth c Z own bytes ml rt nm n0 T h cells slots) {i : Nat} {O n d : String} (w : (Jvm.Cond.fieldLink own i O n d).before a0 Z = true) {a : Addr} {v : Value} (F : Fld Z h a O n d v) (hd : decode bytes pc = .ok (.getfield i, 3)) (hp : pc + 3 = pc')
    (k : ∀ T', own_St p l e R s m args below meth c Z own bytes ml rt nm n0 T' h cells slots → own_Goal p e below Φ T' (mkF m pc' Ls (v :: rest))) : own_Goal p e below Φ T (mkF m pc Ls (.ref a :: rest)) := by
  subst hp
  obtain ⟨locs, X, N, e1, n1, hx, hZ, hown, hby, r0⟩ := X
  obtain ⟨T', X', e', st⟩ := getF X hx hZ hown (host := "") (Or.inl w) Via.refl e1 F (g := mkF m pc Ls _) rfl rfl (hb hby hd)
  exact own_step st (k T' ⟨_, X', N, e', n1, hx, hZ, hown, hby, r0⟩)
theorem own_putF (X : own_St p l e R s m args below meth c Z own bytes ml rt nm n0 T h cells slots) {i : Nat} {O n d C : String} {kk : Nat} {ty : FieldType} (w : (Jvm.Cond.fieldLink own i O n d).before a0 Z = true) {a : Addr} {v old : Value} (F : Fld Z h a O n d old) (E : Exa Z h a C) (L : (Jvm.Cond.lays C O n d).before a0 Z = true ∨ ((Jvm.Cond.laysFinal C O n d).before a0 Z = true ∧ own = O ∧ nm = "<init>")) (wi : (Jvm.Cond.instantiable C kk).before a0 Z = true) (hty : parseFieldDescriptor d = some ty) (hn : narrow ty v = v) (hf : fits ty v = true) (ha : n0 ≤ a) (hd : decode bytes pc = .ok (.putfield i, 3)) (hp : pc + 3 = pc')
    (k : ∀ T' h', own_St p l e R s m args below meth c Z own bytes ml rt nm n0 T' h' cells slots → Wr h h' a (RoadKit.slotOf Z O n d) v → own_Goal p e below Φ T' (mkF m pc' Ls rest)) : own_Goal p e below Φ T (mkF m pc Ls (v :: .ref a :: rest)) := by
  subst hp
  obtain ⟨locs, X, N, e1, n1, hx, hZ, hown, hby, q1, q2, q3, q4⟩ := X
  obtain ⟨T', h', X', e', W, st⟩ := putF X hx hZ hown (host := "") (Or.inl w) Via.refl e1 F E (L.imp id fun z => ⟨z.1, z.2.1, q4.trans z.2.2⟩) wi hty hn hf (g := mkF m pc Ls _) rfl rfl (hb hby hd)
  exact own_step st (k T' h' ⟨_, X', Fr.snoc X' N ha, e', by rw [W.size]; exact n1, hx, hZ, hown, hby, q1, q2, q3, q4⟩ W)
theorem own_initO (X : own_St p l e R s m args below meth c Z own bytes ml rt nm n0 T h cells slots) {i : Nat} (w1 : (Jvm.Cond.methodLink own i Lib.objectInit).before a0 Z = true) (w2 : (Jvm.Cond.instanceMethod Lib.objectInit).before a0 Z = true) (w3 : (Jvm.Cond.code Lib.objectInit ⟨#[0xb1]⟩ 1 none).before a0 Z = true) {a : Addr} (hsz : Ls.size = ml) (hf : 1 ≤ R.frames) {W : Nat} (hW : (rest.map fun v => v.category).sum ≤ W) (hl : W + 12 ≤ R.locals) (hd : decode bytes pc = .ok (.invokespecial i, 3)) (hp : pc + 3 = pc')
    (k : ∀ T', own_St p l e R s m args below meth c Z own bytes ml rt nm n0 T' h cells slots → own_Goal p e below Φ T' (mkF m pc' Ls rest)) : own_Goal p e below Φ T (mkF m pc Ls (.ref a :: rest)) := by
  subst hp
  obtain ⟨locs, X, N, e1, n1, hx, hZ, hown, hby, hml, r0⟩ := X
  obtain ⟨T', X', e', st⟩ := initO X hx hZ hown w1 w2 w3 e1 (g := mkF m pc Ls (.ref a :: rest)) (rest := rest) rfl (hsz.trans hml.symm) rfl (hb hby hd) hf (W := W) (by show 2 * 0 + _ ≤ _; omega) hl
  exact own_step st (k T' ⟨_, X', N, e', n1, hx, hZ, hown, hby, hml, r0⟩)
/-- a callee's contract: called with as' over the heap h0 it returns, and Q says what it leaves -/
def own_Met (l : Launch) (Z : State) (y : MethodName) (bytes : ByteArray) (ml : Nat) (rt : Option FieldType) (ws : List Jvm.Cond) (rm : Room) (as' : Array Value) (h0 : Heap) (n0 : Nat) (Q : Option Value → Heap → Prop) : Prop :=
  MetFree l y (head1 (Jvm.Cond.code y bytes ml rt :: ws) rm) (fun a U => a = as' ∧ Z.Warmed39 U.vm ∧ U.heap = h0) (fun _ _ _ _ _ => True) (fun _ U o U' => ∃ v L, o = .returned v ∧ ((Q v U'.heap ∧ n0 ≤ U'.heap.size) ∧ Fr n0 L) ∧ FrameEnd U o U' L rm.cells rm.slots)
theorem own_meet {y : MethodName} {ws : List Jvm.Cond} {rm : Room} {as' : Array Value} {h0 : Heap} (hpn : plainFor y = true) (hle : n0 ≤ h0.size) {Ls0 : Array Slot} (hef : ∀ m, entryFrame m as' ml = mkF m 0 Ls0 [])
    (body : ∀ (p : Program) (e : Env) (s : State) (m : MethodId) (below : List Frame) (meth : Method) (c : Code) (T : State), own_St p l e rm s m as' below meth c Z y.cls bytes ml rt y.name n0 T h0 0 0 → own_Goal p e below (own_Fin below s rm n0 Q) T (mkF m 0 Ls0 [])) : own_Met l Z y bytes ml rt ws rm as' h0 n0 Q := by
  refine MetFree.of_bodySF hpn hisR ?_
  intro p e s m args below meth c s₁ Bd hml0 hP hK
  obtain ⟨rfl, hZ, hh⟩ := hP
  have e0 : s₁.heap = h0 := by rw [← hh, Bd.state]; rfl
  obtain ⟨s2, o, st, r1, r2, r3⟩ := body p e s m below meth c s₁ ⟨[], Stand.of_body Bd, Fr.nil n0, e0, hle, Bd.exec, hZ, findClass_of_methodNamed Bd.named, Bd.bytes, hml0, Bd.returns, Bd.notSynchronized, (name_of_methodNamed Bd.named Bd.method).1⟩
  exact ⟨s2, o, castTop (hef m) st, r1, r2, r3⟩
theorem own_callS (X : own_St p l e R s m args below meth c Z own bytes ml rt nm n0 T h cells slots) {y : MethodName} {yb : ByteArray} {yl : Nat} {yr : Option FieldType} {rm : Room} {as' : Array Value} {Q' : Option Value → Heap → Prop} (M : own_Met l Z y yb yl yr [] rm as' h n0 Q') {i : Nat} (w1 : (Jvm.Cond.methodLink own i y).before a0 Z = true) (w2 : (Jvm.Cond.static y).before a0 Z = true) (w3 : (Jvm.Cond.initialized y.cls).before a0 Z = true) (w4 : (Jvm.Cond.code y yb yl yr).before a0 Z = true) (hy : y.cls ≠ "java/lang/invoke/MethodHandle" ∧ y.cls ≠ "java/lang/invoke/VarHandle") (hsz : Ls.size = ml) (hf : rm.frames + 1 ≤ R.frames) {W : Nat} (hW : (rest.map fun v => v.category).sum ≤ W) (hl : W + (yl + 11) + rm.locals ≤ R.locals) {cells' slots' : Nat} (hc' : cells + rm.cells = cells') (hs' : slots + rm.slots = slots') (hc : cells' ≤ R.cells) (hs : slots' ≤ R.slots) {argsL stk : List Value} (hlen : ∀ sig, parseMethodDescriptor y.desc = some sig → argsL.length = sig.parameters.length) (hst : stk = argsL.reverse ++ rest) (has : argsL.toArray = as') (hd : decode bytes pc = .ok (.invokestatic i, 3)) (hp : pc + 3 = pc')
    (k : ∀ v T' h', own_St p l e R s m args below meth c Z own bytes ml rt nm n0 T' h' cells' slots' → Q' v h' → own_Goal p e below Φ T' (mkF m pc' Ls (v.toList ++ rest))) : own_Goal p e below Φ T (mkF m pc Ls stk) := by
  subst hp hst has hc' hs'
  obtain ⟨locs, X, N, e1, n1, hx, hZ, hown, hby, hml, r0⟩ := X
  obtain ⟨v, vm1, ⟨T', L', k', n'⟩, -, X', ⟨Lc, ⟨⟨hQ, hG⟩, NL⟩, l1, y1, z1⟩, st⟩ := Jvm.LawKit.callS X hx (y := y) hown (mvT hZ w1) (mvT hZ w2) (mvT hZ w3) (mvT hZ w4) hy (backOf (W := W) (Q := fun v hh L => (Q' v hh ∧ n0 ≤ hh.size) ∧ Fr n0 L) M hZ w4 w3 hf hl) (g := mkF m pc Ls (argsL.reverse ++ rest)) rfl (hsz.trans hml.symm) (argsL := argsL) (rest := rest) hlen rfl (by show 2 * 0 + _ ≤ _; omega) (hb hby hd) (fun _ _ => ⟨rfl, e1, hc, hs⟩)
  dsimp only [Pt.U, Pt.locs, Pt.cells, Pt.slots] at X' l1 y1 z1 st hQ
  subst l1 y1 z1
  exact own_step st (k v T' _ ⟨_, X', Fr.app N NL, rfl, hG, hx, hZ, hown, hby, hml, r0⟩ hQ)
theorem own_special (X : own_St p l e R s m args below meth c Z own bytes ml rt nm n0 T h cells slots) {y : MethodName} {yb : ByteArray} {yl : Nat} {yr : Option FieldType} {rm : Room} {as' : Array Value} {Q' : Option Value → Heap → Prop} (M : own_Met l Z y yb yl yr [] rm as' h n0 Q') (hy1 : y.name = "<init>") (hyr : yr = none) {i : Nat} (w1 : (Jvm.Cond.methodLink own i y).before a0 Z = true) (w2 : (Jvm.Cond.instanceMethod y).before a0 Z = true) (w3 : (Jvm.Cond.initialized y.cls).before a0 Z = true) (w4 : (Jvm.Cond.code y yb yl yr).before a0 Z = true) (hy : y.cls ≠ "java/lang/invoke/MethodHandle" ∧ y.cls ≠ "java/lang/invoke/VarHandle") (hsz : Ls.size = ml) (hf : rm.frames + 1 ≤ R.frames) {W : Nat} (hW : (rest.map fun v => v.category).sum ≤ W) (hl : W + (yl + 11) + rm.locals ≤ R.locals) {cells' slots' : Nat} (hc' : cells + rm.cells = cells') (hs' : slots + rm.slots = slots') (hc : cells' ≤ R.cells) (hs : slots' ≤ R.slots) {a : Addr} {argsL stk : List Value} (hlen : ∀ sig, parseMethodDescriptor y.desc = some sig → argsL.length = sig.parameters.length) (hst : stk = argsL.reverse ++ .ref a :: rest) (has : (.ref a :: argsL).toArray = as') (hd : decode bytes pc = .ok (.invokespecial i, 3)) (hp : pc + 3 = pc')
    (k : ∀ v T' h', own_St p l e R s m args below meth c Z own bytes ml rt nm n0 T' h' cells' slots' → Q' v h' → own_Goal p e below Φ T' (mkF m pc' Ls (v.toList ++ rest))) : own_Goal p e below Φ T (mkF m pc Ls stk) := by
  subst hp hst has hc' hs' hyr
  obtain ⟨locs, X, N, e1, n1, hx, hZ, hown, hby, hml, r0⟩ := X
  obtain ⟨v, vm1, ⟨T', L', k', n'⟩, -, X', ⟨Lc, ⟨⟨hQ, hG⟩, NL⟩, l1, y1, z1⟩, st⟩ := X.specialBack hx (y := y) hy1 hown (mvT hZ w1) (mvT hZ w2) (mvT hZ w4) hy (backOf (W := W) (Q := fun v hh L => (Q' v hh ∧ n0 ≤ hh.size) ∧ Fr n0 L) M hZ w4 w3 hf hl) (g := mkF m pc Ls (argsL.reverse ++ .ref a :: rest)) rfl (hsz.trans hml.symm) (Steps.refl _) (a := a) (argsL := argsL) (rest := rest) hlen rfl (by show 2 * 0 + _ ≤ _; omega) (hb hby hd) (fun _ _ => ⟨rfl, e1, hc, hs⟩)
  dsimp only [Pt.U, Pt.locs, Pt.cells, Pt.slots] at X' l1 y1 z1 st hQ
  subst l1 y1 z1
  exact own_step (fun t b => st.trans b) (k v T' _ ⟨_, X', Fr.app N NL, rfl, hG, hx, hZ, hown, hby, hml, r0⟩ hQ)
theorem own_virtual (X : own_St p l e R s m args below meth c Z own bytes ml rt nm n0 T h cells slots) {y : MethodName} {yb : ByteArray} {yl : Nat} {yr : Option FieldType} {rm : Room} {as' : Array Value} {Q' : Option Value → Heap → Prop} (M : own_Met l Z y yb yl yr [] rm as' h n0 Q') {C : String} {z : MethodName} {i : Nat} (hz : y = z) (w1 : (Jvm.Cond.methodLink own i z).before a0 Z = true) (wd : (Jvm.Cond.declares z).before a0 Z = true) (wsl : (Jvm.Cond.selects C z y).before a0 Z = true) (w2 : (Jvm.Cond.instanceMethod y).before a0 Z = true) (w3 : (Jvm.Cond.initialized y.cls).before a0 Z = true) (w4 : (Jvm.Cond.code y yb yl yr).before a0 Z = true) (hy : y.cls ≠ "java/lang/invoke/MethodHandle" ∧ y.cls ≠ "java/lang/invoke/VarHandle") (hsz : Ls.size = ml) (hf : rm.frames + 1 ≤ R.frames) {W : Nat} (hW : (rest.map fun v => v.category).sum ≤ W) (hl : W + (yl + 11) + rm.locals ≤ R.locals) {cells' slots' : Nat} (hc' : cells + rm.cells = cells') (hs' : slots + rm.slots = slots') (hc : cells' ≤ R.cells) (hs : slots' ≤ R.slots) {a : Addr} (E : Exa Z h a C) {argsL stk : List Value} (hlen : ∀ sig, parseMethodDescriptor y.desc = some sig → argsL.length = sig.parameters.length) (hst : stk = argsL.reverse ++ .ref a :: rest) (has : (.ref a :: argsL).toArray = as') (hd : decode bytes pc = .ok (.invokevirtual i, 3)) (hp : pc + 3 = pc')
    (k : ∀ v T' h', own_St p l e R s m args below meth c Z own bytes ml rt nm n0 T' h' cells' slots' → Q' v h' → own_Goal p e below Φ T' (mkF m pc' Ls (v.toList ++ rest))) : own_Goal p e below Φ T (mkF m pc Ls stk) := by
  subst hp hst has hc' hs' hz
  obtain ⟨locs, X, N, e1, n1, hx, hZ, hown, hby, hml, r0⟩ := X
  obtain ⟨cq, kq, qa, qb, qc⟩ := isOf (T := T) hZ e1 E
  obtain ⟨v, vm1, ⟨T', L', k', n'⟩, -, X', ⟨Lc, ⟨⟨hQ, hG⟩, NL⟩, l1, y1, z1⟩, st⟩ := X.virtualBack hx (y := y) (z := y) hown (mvT hZ w1) (mvT hZ wd) (notFace_of_selects (args := #[]) (mvT hZ wsl)) (mvT hZ wsl) (mvT hZ w2) hy (backOf (W := W) (Q := fun v hh L => (Q' v hh ∧ n0 ≤ hh.size) ∧ Fr n0 L) M hZ w4 w3 hf hl) qa qc (g := mkF m pc Ls (argsL.reverse ++ .ref a :: rest)) rfl (hsz.trans hml.symm) (Steps.refl _) (argsL := argsL) (rest := rest) hlen rfl (by show 2 * 0 + _ ≤ _; omega) (hb hby hd) (fun _ _ => ⟨rfl, e1, hc, hs⟩)
  dsimp only [Pt.U, Pt.locs, Pt.cells, Pt.slots] at X' l1 y1 z1 st hQ
  subst l1 y1 z1
  exact own_step (fun t b => st.trans b) (k v T' _ ⟨_, X', Fr.app N NL, rfl, hG, hx, hZ, hown, hby, hml, r0⟩ hQ)
end OwnWalk
section OwnNum
open Jvm.FP Jvm.FP.Core
/-- the int x is the whole number i, at most B in size -/
def own_I (B : Nat) (i : Int) (x : Int32) : Prop := x.toInt = i ∧ i.natAbs ≤ B
def own_L (B : Nat) (i : Int) (x : Int64) : Prop := x.toInt = i ∧ i.natAbs ≤ B
section
variable {A B C M : Nat} {i j : Int}
theorem own_I.start (x : Int32) : own_I 2147483648 x.toInt x := by
  have := x.toInt_lt; have := x.le_toInt
  exact ⟨rfl, by omega⟩
theorem own_L.start (x : Int64) : own_L 9223372036854775808 x.toInt x := by
  have := x.toInt_lt; have := x.le_toInt
  exact ⟨rfl, by omega⟩
theorem own_I.lit {x : Int32} (h : x.toInt = i) (hB : i.natAbs ≤ B) : own_I B i x := ⟨h, hB⟩
theorem own_I.self {x : Int32} (a : own_I A i x) : own_I A x.toInt x := ⟨rfl, by rw [a.1]; exact a.2⟩
theorem own_L.self {x : Int64} (a : own_L A i x) : own_L A x.toInt x := ⟨rfl, by rw [a.1]; exact a.2⟩
theorem own_L.lit {x : Int64} (h : x.toInt = i) (hB : i.natAbs ≤ B) : own_L B i x := ⟨h, hB⟩
theorem own_abs_mul {i j : Int} (h1 : i.natAbs ≤ A) (h2 : j.natAbs ≤ B) : (i * j).natAbs ≤ A * B := by
  rw [Int.natAbs_mul]; exact Nat.mul_le_mul h1 h2
theorem own_I.add {x y v : Int32} (a : own_I A i x) (b : own_I B j y) (hv : x + y = v) (hC : A + B ≤ C) (h : C < 2147483648) : own_I C (i + j) v := by
  obtain ⟨rfl, h1⟩ := a; obtain ⟨rfl, h2⟩ := b; subst hv
  refine ⟨?_, by omega⟩
  rw [Int32.toInt_add]; exact Int.bmod_eq_of_le (by omega) (by omega)
theorem own_I.sub {x y v : Int32} (a : own_I A i x) (b : own_I B j y) (hv : x - y = v) (hC : A + B ≤ C) (h : C < 2147483648) : own_I C (i - j) v := by
  obtain ⟨rfl, h1⟩ := a; obtain ⟨rfl, h2⟩ := b; subst hv
  refine ⟨?_, by omega⟩
  rw [Int32.toInt_sub]; exact Int.bmod_eq_of_le (by omega) (by omega)
theorem own_I.mul {x y v : Int32} (a : own_I A i x) (b : own_I B j y) (hv : x * y = v) (hC : A * B ≤ C) (h : C < 2147483648) : own_I C (i * j) v := by
  obtain ⟨rfl, h1⟩ := a; obtain ⟨rfl, h2⟩ := b; subst hv
  have h3 := Nat.le_trans (own_abs_mul h1 h2) hC
  refine ⟨?_, h3⟩
  rw [Int32.toInt_mul]; exact Int.bmod_eq_of_le (by omega) (by omega)
theorem own_I.neg {x v : Int32} (a : own_I A i x) (hv : -x = v) (h : A < 2147483648) : own_I A (-i) v := by
  obtain ⟨rfl, h1⟩ := a; subst hv
  refine ⟨?_, by omega⟩
  rw [Int32.toInt_neg]; exact Int.bmod_eq_of_le (by omega) (by omega)
theorem own_and_nn {x m v : Int32} (hv : x &&& m = v) (hm : m.toInt = M) : 0 ≤ v.toInt ∧ v.toInt ≤ M := by
  subst hv; have := c_and x m (by omega); omega
theorem own_I.and {x m v : Int32} (hv : x &&& m = v) (hm : m.toInt = M) : own_I M v.toInt v := by
  have := own_and_nn hv hm
  exact ⟨rfl, by omega⟩
theorem own_land_nn {x m v : Int64} (hv : x &&& m = v) (hm : m.toInt = M) : 0 ≤ v.toInt ∧ v.toInt ≤ M := by
  subst hv
  have h1 := (c_andSL x m).2.2 (by omega)
  refine ⟨h1, ?_⟩
  have la := x.toBitVec.isLt; have lm := m.toBitVec.isLt
  have q : (x &&& m).toBitVec.toNat = x.toBitVec.toNat &&& m.toBitVec.toNat := by show (x.toBitVec &&& m.toBitVec).toNat = _; rw [BitVec.toNat_and]
  have q2 : x.toBitVec.toNat &&& m.toBitVec.toNat ≤ m.toBitVec.toNat := Nat.and_le_right
  change 0 ≤ (x &&& m).toBitVec.toInt at h1
  show (x &&& m).toBitVec.toInt ≤ _
  change m.toBitVec.toInt = _ at hm
  rw [BitVec.toInt_eq_toNat_cond] at h1 hm ⊢
  rw [q] at h1 ⊢
  split at hm <;> split <;> omega
theorem own_L.and {x m v : Int64} (hv : x &&& m = v) (hm : m.toInt = M) : own_L M v.toInt v := by
  have := own_land_nn hv hm
  exact ⟨rfl, by omega⟩
theorem own_lrem_eq {x y v : Int64} (hv : x - (x / y) * y = v) (hx : 0 ≤ x.toInt) (hy : 0 < y.toInt) : v.toInt = x.toInt % y.toInt := by
  subst hv; exact (c_lrem x y _ rfl).1 hx
theorem own_I.shr {x q v : Int32} {k : Nat} (hv : x >>> (q &&& 31) = v) (hk : q.toBitVec.toNat % 32 = k) (hM : 2147483648 ≤ M * 2 ^ k) : own_I M v.toInt v := by
  subst hv
  have h1 := c_ishr x q k hk
  have h2 := x.toInt_lt; have h3 := x.le_toInt
  refine ⟨rfl, ?_⟩
  rw [h1]
  have p : 0 < 2 ^ k := Nat.two_pow_pos k
  generalize 2 ^ k = P at *
  have hP : (0 : Int) < (P : Int) := by omega
  have e1 : x.toInt / (P : Int) ≤ M := by
    refine Int.ediv_le_of_le_mul hP ?_
    have : ((M * P : Nat) : Int) = (M : Int) * P := Int.natCast_mul ..
    omega
  have e2 : -(M : Int) ≤ x.toInt / (P : Int) := by
    refine (Int.le_ediv_iff_mul_le hP).mpr ?_
    have : ((M * P : Nat) : Int) = (M : Int) * P := Int.natCast_mul ..
    rw [Int.neg_mul]; omega
  omega
theorem own_L.ofI {x : Int32} {v : Int64} (a : own_I A i x) (hv : x.toInt64 = v) : own_L A i v := by
  obtain ⟨rfl, h1⟩ := a; subst hv
  exact ⟨Int32.toInt_toInt64 x, h1⟩
theorem own_L.add {x y v : Int64} (a : own_L A i x) (b : own_L B j y) (hv : x + y = v) (hC : A + B ≤ C) (h : C < 9223372036854775808) : own_L C (i + j) v := by
  obtain ⟨rfl, h1⟩ := a; obtain ⟨rfl, h2⟩ := b; subst hv
  refine ⟨?_, by omega⟩
  rw [Int64.toInt_add]; exact Int.bmod_eq_of_le (by omega) (by omega)
theorem own_L.sub {x y v : Int64} (a : own_L A i x) (b : own_L B j y) (hv : x - y = v) (hC : A + B ≤ C) (h : C < 9223372036854775808) : own_L C (i - j) v := by
  obtain ⟨rfl, h1⟩ := a; obtain ⟨rfl, h2⟩ := b; subst hv
  refine ⟨?_, by omega⟩
  rw [Int64.toInt_sub]; exact Int.bmod_eq_of_le (by omega) (by omega)
theorem own_L.mul {x y v : Int64} (a : own_L A i x) (b : own_L B j y) (hv : x * y = v) (hC : A * B ≤ C) (h : C < 9223372036854775808) : own_L C (i * j) v := by
  obtain ⟨rfl, h1⟩ := a; obtain ⟨rfl, h2⟩ := b; subst hv
  have h3 := Nat.le_trans (own_abs_mul h1 h2) hC
  refine ⟨?_, h3⟩
  rw [Int64.toInt_mul]; exact Int.bmod_eq_of_le (by omega) (by omega)
theorem own_L.neg {x v : Int64} (a : own_L A i x) (hv : -x = v) (h : A < 9223372036854775808) : own_L A (-i) v := by
  obtain ⟨rfl, h1⟩ := a; subst hv
  refine ⟨?_, by omega⟩
  rw [Int64.toInt_neg]; exact Int.bmod_eq_of_le (by omega) (by omega)
end
/-- a datum times 2^k -/
def own_sh (k : Int) : Datum → Datum
  | .fin s c q => .fin s c (q + k)
  | d => d
theorem own_sh_sum (k : Int) (x y : Datum) : exactSum (own_sh k x) (own_sh k y) = own_sh k (exactSum x y) := by
  cases x with
  | nan => rfl
  | inf s => cases y with
    | nan => rfl
    | inf t => by_cases h : s = t <;> simp [own_sh, exactSum, h]
    | fin t d r => rfl
  | fin s c q => cases y with
    | nan => rfl
    | inf t => rfl
    | fin t d r =>
      have e1 : min (q + k) (r + k) = min q r + k := by omega
      have e2 : sumUnits s c (q + k) t d (r + k) (min q r + k) = sumUnits s c q t d r (min q r) := by
        unfold sumUnits inUnits
        rw [show q + k - (min q r + k) = q - min q r by omega, show r + k - (min q r + k) = r - min q r by omega]
      simp only [own_sh, exactSum, e1, e2]
theorem own_sh_prod (k r : Int) (x y : Datum) : exactProduct (own_sh k x) (own_sh r y) = own_sh (k + r) (exactProduct x y) := by
  cases x with
  | nan => rfl
  | inf s => cases y with
    | nan => rfl
    | inf t => rfl
    | fin t d u => simp only [own_sh, exactProduct]; split <;> rfl
  | fin s c q => cases y with
    | nan => rfl
    | inf t => simp only [own_sh, exactProduct]; split <;> rfl
    | fin t d u =>
      simp only [own_sh, exactProduct]
      rw [show q + k + (u + r) = q + u + (k + r) by omega]
theorem own_sh_neg (k : Int) (x : Datum) : negate (own_sh k x) = own_sh k (negate x) := by cases x <;> rfl
theorem own_sh_order (k : Int) (x y : Datum) : order (own_sh k x) (own_sh k y) = order x y := by
  cases x <;> cases y <;> try rfl
  rename_i s c q t d r
  simp only [own_sh, order]
  rw [show min (q + k) (r + k) = min q r + k by omega]
  unfold inUnits
  rw [show q + k - (min q r + k) = q - min q r by omega, show r + k - (min q r + k) = r - min q r by omega]
theorem own_sh_sh (k r : Int) (x : Datum) : own_sh r (own_sh k x) = own_sh (k + r) x := by
  cases x <;> simp only [own_sh]
  rw [Int.add_assoc]
theorem own_sh_zero (x : Datum) : own_sh 0 x = x := by cases x <;> simp [own_sh]
theorem own_signed_nat {i : Int} {s : Bool} {n : Nat} (h : n = i.natAbs) (hs : i ≠ 0 → s = decide (i < 0)) : signed s n = i := by
  by_cases h0 : i = 0
  · subst h0; subst h; exact signed_zero s
  · rw [hs h0, h]; unfold signed
    by_cases q : i < 0 <;> simp [q] <;> omega
/-- what is i * 2^-k in size rounds to itself, if i has 53 digits at the most -/
theorem own_round_core {k : Nat} {i : Int} {s : Bool} {c : Nat} {q : Int} (hk : k ≤ 1074) (hi : i.natAbs < 9007199254740992) (hs : i ≠ 0 → s = decide (i < 0)) : Whole i (own_sh k (roundRatio b64 s i.natAbs 1 (-(k : Int)))) := by
  obtain ⟨c', q', e1, e2⟩ := round_exact good_b64 s (c := i.natAbs) (q := -(k : Int)) (show i.natAbs < 2 ^ 53 by omega) (show (-1074 : Int) ≤ _ by omega) (show _ ≤ (971 : Int) by omega)
  have e3 : roundRatio b64 s i.natAbs 1 (-(k : Int)) = .fin s c' q' := e1
  have hf : Core.fits b64 (.fin s c' q') := by rw [← e1]; exact round_fits good_b64 _
  have hq : (-1074 : Int) ≤ q' := hf.2.1
  rw [e3]
  show signed s (c' * 2 ^ (q' + k).toNat) = i * ((2 ^ (-(q' + k)).toNat : Nat) : Int)
  have e4 : c' * 2 ^ (q' + 1074).toNat = i.natAbs * 2 ^ (1074 - k) := by
    have := e2
    unfold inUnits at this
    rw [show (q' - b64.qmin).toNat = (q' + 1074).toNat by rw [show b64.qmin = -1074 from rfl]; omega, show (-(k : Int) - b64.qmin).toNat = 1074 - k by rw [show b64.qmin = -1074 from rfl]; omega] at this
    exact this
  have e5 : c' * 2 ^ (q' + k).toNat = i.natAbs * 2 ^ (-(q' + k)).toNat := by
    refine Nat.eq_of_mul_eq_mul_right (Nat.two_pow_pos (1074 - k)) ?_
    have x1 : c' * 2 ^ (q' + k).toNat * 2 ^ (1074 - k) = c' * 2 ^ (q' + 1074).toNat * 2 ^ (-(q' + k)).toNat := by
      rw [Nat.mul_assoc, Nat.mul_assoc, ← Nat.pow_add, ← Nat.pow_add]; congr 2; omega
    rw [x1, e4, Nat.mul_right_comm]
  rw [e5, signed_mul, own_signed_nat rfl hs]
theorem own_round {k : Nat} {i : Int} {d : Datum} (hk : k ≤ 1074) (hi : i.natAbs < 9007199254740992) (h : Whole i (own_sh k d)) : Whole i (own_sh k (round b64 d)) := by
  cases d with
  | nan => exact h.elim
  | inf => exact h.elim
  | fin s c q =>
    have h1 : c * 2 ^ (q + k).toNat = i.natAbs * 2 ^ (-(q + k)).toNat := whole_natAbs h
    have e : round b64 (.fin s c q) = roundRatio b64 s i.natAbs 1 (-(k : Int)) := by
      refine roundRatio_congr (by decide) (by decide) ?_
      rw [show (q - -(k : Int)).toNat = (q + k).toNat by omega, show (-(k : Int) - q).toNat = (-(q + k)).toNat by omega]
      simpa using h1
    rw [e]
    exact own_round_core (c := c) (q := q) hk hi (fun h0 => whole_sign h h0)
/-- the double x is i * 2^-k, i at most B in size (both zeros are 0) -/
def own_D (k B : Nat) (i : Int) (x : UInt64) : Prop := Whole i (own_sh k (val64 x)) ∧ i.natAbs ≤ B
section
variable {k r t A B C : Nat} {i j : Int} {x y v : UInt64}
theorem own_D.fin (a : own_D k A i x) : ∃ s c q, val64 x = .fin s c q := by
  cases e : val64 x with
  | nan => have := a.1; rw [e] at this; exact this.elim
  | inf => have := a.1; rw [e] at this; exact this.elim
  | fin s c q => exact ⟨s, c, q, rfl⟩
theorem own_D.nn (a : own_D k A i x) : Jvm.Free.Fl.NoNaN64 x := by
  obtain ⟨s, c, q, e⟩ := a.fin
  exact Jvm.Free.Fl.val64_no.mpr (by rw [e]; exact Datum.noConfusion)
theorem own_D.isFin (a : own_D k A i x) : Jvm.Free.Fl.Fin64 x := by
  obtain ⟨s, c, q, e⟩ := a.fin
  exact Jvm.Free.Fl.fin64_core.mpr ⟨s, c, q, e⟩
theorem own_D.lit {s : Bool} {c : Nat} {q : Int} (h : val64 x = .fin s c q) (hw : signed s (c * 2 ^ (q + k).toNat) = i * ((2 ^ (-(q + k)).toNat : Nat) : Int)) (hB : i.natAbs ≤ B) : own_D k B i x := by
  refine ⟨?_, hB⟩
  rw [h]; exact hw
theorem own_D.mono (a : own_D k A i x) (h : A ≤ B) : own_D k B i x := ⟨a.1, Nat.le_trans a.2 h⟩
theorem own_D.zero {s : Bool} (h : val64 x = .fin s 0 b64.qmin) (k : Nat) : own_D k 0 0 x := by
  refine ⟨?_, by decide⟩
  rw [h]
  show signed s (0 * _) = 0 * _
  rw [Nat.zero_mul, signed_zero, Int.zero_mul]
theorem own_D.ofInt (h : DInt i x) (hB : i.natAbs ≤ B) : own_D 0 B i x := ⟨by rw [show ((0 : Nat) : Int) = 0 from rfl, own_sh_zero]; exact h, hB⟩
theorem own_D.i2d {z : Int32} (a : own_I A i z) (hv : FP.i2d z = v) : own_D 0 A i v := by
  subst hv; obtain ⟨rfl, h⟩ := a
  exact own_D.ofInt (i2d_int z) h
theorem own_D.l2d {z : Int64} (a : own_L A i z) (hv : FP.l2d z = v) (h : A ≤ 9007199254740992) : own_D 0 A i v := by
  subst hv; obtain ⟨rfl, h1⟩ := a
  exact own_D.ofInt (l2d_int (show _ ≤ 2 ^ 53 by omega)) h1
theorem own_D.add (a : own_D k A i x) (b : own_D k B j y) (hv : FP.dadd x y = v) (hC : A + B ≤ C) (h : C < 9007199254740992) (hk : k ≤ 1074) : own_D k C (i + j) v := by
  subst hv
  have h2 : (i + j).natAbs ≤ C := by have := a.2; have := b.2; omega
  refine ⟨?_, h2⟩
  show Whole _ (own_sh k (val64 (Core.dadd x y)))
  rw [val64_dadd]
  refine own_round hk (by omega) ?_
  rw [← own_sh_sum]; exact whole_sum a.1 b.1
theorem own_D.sub (a : own_D k A i x) (b : own_D k B j y) (hv : FP.dsub x y = v) (hC : A + B ≤ C) (h : C < 9007199254740992) (hk : k ≤ 1074) : own_D k C (i - j) v := by
  subst hv
  have h2 : (i - j).natAbs ≤ C := by have := a.2; have := b.2; omega
  refine ⟨?_, h2⟩
  show Whole _ (own_sh k (val64 (Core.dsub x y)))
  rw [val64_dsub]
  refine own_round hk (by omega) ?_
  rw [← own_sh_sum, ← own_sh_neg]; exact whole_sum a.1 (whole_negate b.1)
theorem own_D.mul (a : own_D k A i x) (b : own_D r B j y) (hv : FP.dmul x y = v) (hC : A * B ≤ C) (h : C < 9007199254740992) (ht : k + r = t) (hk : t ≤ 1074) : own_D t C (i * j) v := by
  subst hv ht
  have h2 : (i * j).natAbs ≤ C := Nat.le_trans (own_abs_mul a.2 b.2) hC
  refine ⟨?_, h2⟩
  show Whole _ (own_sh ((k + r : Nat) : Int) (val64 (Core.dmul x y)))
  rw [val64_dmul]
  refine own_round hk (by omega) ?_
  rw [Int.natCast_add, ← own_sh_prod]; exact whole_product a.1 b.1
theorem own_D.neg (a : own_D k A i x) (hv : FP.dneg x = v) : own_D k A (-i) v := by
  subst hv
  refine ⟨?_, by have := a.2; omega⟩
  rw [FP.val64_dneg, ← own_sh_neg]; exact whole_negate a.1
theorem own_whole_up {i : Int} {d : Datum} (r : Nat) (h : Whole i d) : Whole (i * ((2 ^ r : Nat) : Int)) (own_sh r d) := by
  cases d with
  | nan => exact h.elim
  | inf => exact h.elim
  | fin s c q =>
    have h1 : signed s (c * 2 ^ q.toNat) = i * ((2 ^ (-q).toNat : Nat) : Int) := h
    show signed s (c * 2 ^ (q + r).toNat) = i * ((2 ^ r : Nat) : Int) * ((2 ^ (-(q + r)).toNat : Nat) : Int)
    have p2 : ((2 ^ (-q).toNat : Nat) : Int) ≠ 0 := by
      have := Nat.two_pow_pos (-q).toNat; omega
    refine Int.eq_of_mul_eq_mul_right p2 ?_
    have e : (q + r).toNat + (-q).toNat = q.toNat + r + (-(q + r)).toNat := by omega
    calc signed s (c * 2 ^ (q + r).toNat) * ((2 ^ (-q).toNat : Nat) : Int)
        = signed s (c * 2 ^ ((q + r).toNat + (-q).toNat)) := by rw [← signed_mul, Nat.mul_assoc, ← Nat.pow_add]
      _ = signed s (c * 2 ^ q.toNat * 2 ^ r * 2 ^ (-(q + r)).toNat) := by rw [e, Nat.pow_add, Nat.pow_add]; congr 1; ac_rfl
      _ = i * ((2 ^ (-q).toNat : Nat) : Int) * ((2 ^ r : Nat) : Int) * ((2 ^ (-(q + r)).toNat : Nat) : Int) := by rw [signed_mul, signed_mul, h1]
      _ = _ := by ac_rfl
theorem own_D.up (a : own_D k A i x) {P : Nat} (hP : 2 ^ r = P) (ht : k + r = t) (hC : A * P ≤ C) : own_D t C (i * (P : Int)) x := by
  subst hP ht
  refine ⟨?_, Nat.le_trans (own_abs_mul a.2 (Nat.le_of_eq (Int.natAbs_natCast _))) hC⟩
  rw [Int.natCast_add, ← own_sh_sh]; exact own_whole_up r a.1
theorem own_D.dcmp (a : own_D k A i x) (b : own_D k B j y) : FP.dcmp x y = some (compare i j) := by
  show order (val64 x) (val64 y) = _
  rw [← own_sh_order k]; exact order_whole a.1 b.1
end
def own_c3 (i j : Int) : Int32 := if i < j then -1 else if i = j then 0 else 1
theorem own_c3_cmp (i j : Int) (o : CmpOp) : cmpValue (some (compare i j)) o = own_c3 i j := by
  unfold own_c3
  by_cases h : i < j
  · rw [if_pos h, show compare i j = .lt from Int.compare_eq_lt.mpr h]; rfl
  · rw [if_neg h]
    by_cases h2 : i = j
    · rw [if_pos h2, show compare i j = .eq from Int.compare_eq_eq.mpr h2]; rfl
    · rw [if_neg h2, show compare i j = .gt from Int.compare_eq_gt.mpr (by omega)]; rfl
theorem own_D.cmp {k A B : Nat} {i j : Int} {x y : UInt64} (a : own_D k A i x) (b : own_D k B j y) {o : CmpOp} : cmpValue (FP.dcmp x y) o = own_c3 i j := by
  rw [a.dcmp b]; exact own_c3_cmp i j o
theorem own_c3_eq {i j : Int} (h : i = j) : ifCond.holds .eq (own_c3 i j) = true ∧ ifCond.holds .ne (own_c3 i j) = false := by
  subst h; unfold own_c3; simp [ifCond.holds]
theorem own_c3_ne {i j : Int} (h : ¬ i = j) : ifCond.holds .eq (own_c3 i j) = false ∧ ifCond.holds .ne (own_c3 i j) = true := by
  unfold own_c3; by_cases q : i < j <;> simp [q, h, ifCond.holds]
theorem own_c3_lt {i j : Int} (h : i < j) : ifCond.holds .lt (own_c3 i j) = true ∧ ifCond.holds .ge (own_c3 i j) = false := by
  unfold own_c3; simp [h]; decide
theorem own_c3_nlt {i j : Int} (h : ¬ i < j) : ifCond.holds .lt (own_c3 i j) = false ∧ ifCond.holds .ge (own_c3 i j) = true := by
  unfold own_c3; rw [if_neg h]; by_cases q : i = j
  · rw [if_pos q]; decide
  · rw [if_neg q]; decide
theorem own_c3_gt {i j : Int} (h : j < i) : ifCond.holds .gt (own_c3 i j) = true ∧ ifCond.holds .le (own_c3 i j) = false := by
  unfold own_c3; rw [if_neg (by omega), if_neg (by omega)]; decide
theorem own_c3_ngt {i j : Int} (h : ¬ j < i) : ifCond.holds .gt (own_c3 i j) = false ∧ ifCond.holds .le (own_c3 i j) = true := by
  unfold own_c3; by_cases q : i < j
  · rw [if_pos q]; decide
  · rw [if_neg q, if_pos (by omega)]; decide
/-- the branches on ints, by what is known of them -/
theorem own_i_eq {x y : Int32} (h : x = y) : if_icmp.holds .eq x y = true ∧ if_icmp.holds .ne x y = false := teq h
theorem own_i_ne {x y : Int32} (h : ¬ x = y) : if_icmp.holds .eq x y = false ∧ if_icmp.holds .ne x y = true := feq h
theorem own_i_lt {x y : Int32} (h : x < y) : if_icmp.holds .lt x y = true ∧ if_icmp.holds .ge x y = false := ⟨(tlt h).1, (tlt h).2.1⟩
theorem own_i_nlt {x y : Int32} (h : ¬ x < y) : if_icmp.holds .lt x y = false ∧ if_icmp.holds .ge x y = true := ⟨(flt h).1, (flt h).2.1⟩
theorem own_i_gt {x y : Int32} (h : y < x) : if_icmp.holds .gt x y = true ∧ if_icmp.holds .le x y = false := ⟨(tlt h).2.2.1, (tlt h).2.2.2⟩
theorem own_i_ngt {x y : Int32} (h : ¬ y < x) : if_icmp.holds .gt x y = false ∧ if_icmp.holds .le x y = true := ⟨(flt h).2.2.1, (flt h).2.2.2⟩
theorem own_z_eq {x : Int32} (h : x = 0) : ifCond.holds .eq x = true ∧ ifCond.holds .ne x = false := by rw [if0, if0]; exact teq h
theorem own_z_ne {x : Int32} (h : ¬ x = 0) : ifCond.holds .eq x = false ∧ ifCond.holds .ne x = true := by rw [if0, if0]; exact feq h
theorem own_z_lt {x : Int32} (h : x < 0) : ifCond.holds .lt x = true ∧ ifCond.holds .ge x = false := by rw [if0, if0]; exact own_i_lt h
theorem own_z_nlt {x : Int32} (h : ¬ x < 0) : ifCond.holds .lt x = false ∧ ifCond.holds .ge x = true := by rw [if0, if0]; exact own_i_nlt h
theorem own_z_gt {x : Int32} (h : 0 < x) : ifCond.holds .gt x = true ∧ ifCond.holds .le x = false := by rw [if0, if0]; exact own_i_gt h
theorem own_z_ngt {x : Int32} (h : ¬ 0 < x) : ifCond.holds .gt x = false ∧ ifCond.holds .le x = true := by rw [if0, if0]; exact own_i_ngt h
theorem own_cases2 {v : Int32} (h : 0 ≤ v.toInt ∧ v.toInt ≤ ((1 : Nat) : Int)) : v = (0 : Int32) ∨ v = (1 : Int32) := by
  have : v.toInt = 0 ∨ v.toInt = 1 := by omega
  rcases this with q | q
  · exact Or.inl (Int32.toInt_inj.mp q)
  · exact Or.inr (Int32.toInt_inj.mp q)
theorem own_cases4 {v : Int32} (h : 0 ≤ v.toInt ∧ v.toInt ≤ ((3 : Nat) : Int)) : v = (0 : Int32) ∨ v = (1 : Int32) ∨ v = (2 : Int32) ∨ v = (3 : Int32) := by
  have : v.toInt = 0 ∨ v.toInt = 1 ∨ v.toInt = 2 ∨ v.toInt = 3 := by omega
  rcases this with q | q | q | q
  · exact Or.inl (Int32.toInt_inj.mp q)
  · exact Or.inr (Or.inl (Int32.toInt_inj.mp q))
  · exact Or.inr (Or.inr (Or.inl (Int32.toInt_inj.mp q)))
  · exact Or.inr (Or.inr (Or.inr (Int32.toInt_inj.mp q)))
theorem own_cases16 {v : Int32} (h : 0 ≤ v.toInt ∧ v.toInt ≤ ((15 : Nat) : Int)) : v = (0 : Int32) ∨ v = (1 : Int32) ∨ v = (2 : Int32) ∨ v = (3 : Int32) ∨ v = (4 : Int32) ∨ v = (5 : Int32) ∨ v = (6 : Int32) ∨ v = (7 : Int32) ∨ v = (8 : Int32) ∨ v = (9 : Int32) ∨ v = (10 : Int32) ∨ v = (11 : Int32) ∨ v = (12 : Int32) ∨ v = (13 : Int32) ∨ v = (14 : Int32) ∨ v = (15 : Int32) := by
  have : v.toInt = 0 ∨ v.toInt = 1 ∨ v.toInt = 2 ∨ v.toInt = 3 ∨ v.toInt = 4 ∨ v.toInt = 5 ∨ v.toInt = 6 ∨ v.toInt = 7 ∨ v.toInt = 8 ∨ v.toInt = 9 ∨ v.toInt = 10 ∨ v.toInt = 11 ∨ v.toInt = 12 ∨ v.toInt = 13 ∨ v.toInt = 14 ∨ v.toInt = 15 := by omega
  rcases this with q | q | q | q | q | q | q | q | q | q | q | q | q | q | q | q
  · exact Or.inl (Int32.toInt_inj.mp q)
  · exact Or.inr (Or.inl (Int32.toInt_inj.mp q))
  · exact Or.inr (Or.inr (Or.inl (Int32.toInt_inj.mp q)))
  · exact Or.inr (Or.inr (Or.inr (Or.inl (Int32.toInt_inj.mp q))))
  · exact Or.inr (Or.inr (Or.inr (Or.inr (Or.inl (Int32.toInt_inj.mp q)))))
  · exact Or.inr (Or.inr (Or.inr (Or.inr (Or.inr (Or.inl (Int32.toInt_inj.mp q))))))
  · exact Or.inr (Or.inr (Or.inr (Or.inr (Or.inr (Or.inr (Or.inl (Int32.toInt_inj.mp q)))))))
  · exact Or.inr (Or.inr (Or.inr (Or.inr (Or.inr (Or.inr (Or.inr (Or.inl (Int32.toInt_inj.mp q))))))))
  · exact Or.inr (Or.inr (Or.inr (Or.inr (Or.inr (Or.inr (Or.inr (Or.inr (Or.inl (Int32.toInt_inj.mp q)))))))))
  · exact Or.inr (Or.inr (Or.inr (Or.inr (Or.inr (Or.inr (Or.inr (Or.inr (Or.inr (Or.inl (Int32.toInt_inj.mp q))))))))))
  · exact Or.inr (Or.inr (Or.inr (Or.inr (Or.inr (Or.inr (Or.inr (Or.inr (Or.inr (Or.inr (Or.inl (Int32.toInt_inj.mp q)))))))))))
  · exact Or.inr (Or.inr (Or.inr (Or.inr (Or.inr (Or.inr (Or.inr (Or.inr (Or.inr (Or.inr (Or.inr (Or.inl (Int32.toInt_inj.mp q))))))))))))
  · exact Or.inr (Or.inr (Or.inr (Or.inr (Or.inr (Or.inr (Or.inr (Or.inr (Or.inr (Or.inr (Or.inr (Or.inr (Or.inl (Int32.toInt_inj.mp q)))))))))))))
  · exact Or.inr (Or.inr (Or.inr (Or.inr (Or.inr (Or.inr (Or.inr (Or.inr (Or.inr (Or.inr (Or.inr (Or.inr (Or.inr (Or.inl (Int32.toInt_inj.mp q))))))))))))))
  · exact Or.inr (Or.inr (Or.inr (Or.inr (Or.inr (Or.inr (Or.inr (Or.inr (Or.inr (Or.inr (Or.inr (Or.inr (Or.inr (Or.inr (Or.inl (Int32.toInt_inj.mp q)))))))))))))))
  · exact Or.inr (Or.inr (Or.inr (Or.inr (Or.inr (Or.inr (Or.inr (Or.inr (Or.inr (Or.inr (Or.inr (Or.inr (Or.inr (Or.inr (Or.inr (Int32.toInt_inj.mp q)))))))))))))))
/-- lcmp as a comparison of whole numbers -/
theorem own_lcmp_c3 (x y : Int64) : XT.cmpL x y = own_c3 x.toInt y.toInt := by
  unfold XT.cmpL own_c3
  simp only [Int64.lt_iff_toInt_lt, ← Int64.toInt_inj]
  by_cases h : x.toInt < y.toInt
  · simp [h, show ¬ y.toInt < x.toInt by omega, show ¬ x.toInt = y.toInt by omega]
  · by_cases h2 : x.toInt = y.toInt
    · simp [h2]
    · simp [h, h2, show y.toInt < x.toInt by omega]
theorem own_L.cmp {A B : Nat} {i j : Int} {x y : Int64} (a : own_L A i x) (b : own_L B j y) : XT.cmpL x y = own_c3 i j := by
  rw [own_lcmp_c3, a.1, b.1]
end OwnNum
section OwnDiv
open Jvm.FP Jvm.FP.Core
theorem own_quotient {s t : Bool} {c d : Nat} {q r : Int} (hd : d ≠ 0) : quotient b64 (.fin s c q) (.fin t d r) = roundRatio b64 (s != t) c d (q - r) := by
  show (if d = 0 then _ else _) = _
  rw [if_neg hd]
/-- the quotient of i * 2^-k and j is the rounded |i| / |j| * 2^-k -/
theorem own_quot {k A B : Nat} {i j : Int} {x z v : UInt64} (a : own_D k A i x) (b : own_D 0 B j z) (hj : j ≠ 0) (hv : FP.ddiv x z = v) :
    ∃ sg : Bool, val64 v = roundRatio b64 sg i.natAbs j.natAbs (-(k : Int)) ∧ (i ≠ 0 → sg = (decide (i < 0) != decide (j < 0))) := by
  subst hv
  obtain ⟨s, c, q, e1⟩ := a.fin
  obtain ⟨t, d, r, e2⟩ := b.fin
  have w1 : Whole i (.fin s c (q + k)) := by have := a.1; rw [e1] at this; exact this
  have w2 : Whole j (.fin t d r) := by have := b.1; rw [e2, show ((0 : Nat) : Int) = 0 from rfl, own_sh_zero] at this; exact this
  have hd : d ≠ 0 := fun h => hj ((whole_zero w2).mp h)
  refine ⟨s != t, ?_, fun hi => by rw [whole_sign w1 hi, whole_sign w2 hj]⟩
  show val64 (Core.ddiv x z) = _
  rw [val64_ddiv, e1, e2]
  show (if d = 0 then _ else roundRatio b64 (s != t) c d (q - r)) = _
  rw [if_neg hd]
  refine roundRatio_congr (by omega) (by omega) ?_
  have h1 : c * 2 ^ (q + k).toNat = i.natAbs * 2 ^ (-(q + k)).toNat := whole_natAbs w1
  have h2 : d * 2 ^ r.toNat = j.natAbs * 2 ^ (-r).toNat := whole_natAbs w2
  generalize i.natAbs = I at *
  generalize j.natAbs = J at *
  refine Nat.eq_of_mul_eq_mul_right (Nat.two_pow_pos ((-r).toNat + (q + k).toNat)) ?_
  have x1 : c * J * 2 ^ (q - r - -(k : Int)).toNat * 2 ^ ((-r).toNat + (q + k).toNat) = (c * 2 ^ (q + k).toNat) * (J * 2 ^ (-r).toNat) * 2 ^ (q - r - -(k : Int)).toNat := by rw [Nat.pow_add]; ac_rfl
  have x2 : I * d * 2 ^ (-(k : Int) - (q - r)).toNat * 2 ^ ((-r).toNat + (q + k).toNat) = I * d * 2 ^ ((-(q + k)).toNat + r.toNat + (q - r - -(k : Int)).toNat) := by rw [Nat.mul_assoc (I * d), ← Nat.pow_add]; congr 2; omega
  rw [x1, x2, h1, ← h2, Nat.pow_add, Nat.pow_add]; ac_rfl
theorem own_quot_nn {k A B : Nat} {i j : Int} {x z v : UInt64} (a : own_D k A i x) (b : own_D 0 B j z) (hj : j ≠ 0) (hv : FP.ddiv x z = v) : Jvm.Free.Fl.NoNaN64 v := by
  obtain ⟨sg, e, -⟩ := own_quot a b hj hv
  exact Jvm.Free.Fl.val64_no.mpr (by rw [e]; exact roundRatio_ne_nan _ _ _ _ _)
theorem own_round_zero (sg : Bool) (d : Nat) (e : Int) : roundRatio b64 sg 0 d e = .fin sg 0 b64.qmin := by unfold roundRatio; rw [if_pos rfl]
/-- two quotients of equal whole numbers compare as equal -/
theorem own_quot_eq {k A B A' B' : Nat} {i j : Int} {x y z w v u : UInt64} (a : own_D k A i x) (b : own_D 0 B j z) (a' : own_D k A' i y) (b' : own_D 0 B' j w) (hj : j ≠ 0) (hv : FP.ddiv x z = v) (hu : FP.ddiv y w = u) : FP.dcmp v u = some .eq := by
  obtain ⟨s1, e1, f1⟩ := own_quot a b hj hv
  obtain ⟨s2, e2, f2⟩ := own_quot a' b' hj hu
  by_cases hi : i = 0
  · subst hi
    have d1 := own_D.zero (x := v) (s := s1) (by rw [e1]; exact own_round_zero ..) 0
    have d2 := own_D.zero (x := u) (s := s2) (by rw [e2]; exact own_round_zero ..) 0
    rw [d1.dcmp d2]; rfl
  · have e3 : s1 = s2 := (f1 hi).trans (f2 hi).symm
    subst e3
    have e4 : v = u := val64_inj (by rw [e1]; exact roundRatio_ne_nan _ _ _ _ _) (e1.trans e2.symm)
    subst e4
    exact dcmp_self (by rw [e1]; exact roundRatio_ne_nan _ _ _ _ _)
theorem own_quot_cmp {k A B A' B' : Nat} {i j : Int} {x y z w v u : UInt64} (a : own_D k A i x) (b : own_D 0 B j z) (a' : own_D k A' i y) (b' : own_D 0 B' j w) (hj : j ≠ 0) (hv : FP.ddiv x z = v) (hu : FP.ddiv y w = u) {o : CmpOp} : cmpValue (FP.dcmp v u) o = 0 := by
  rw [own_quot_eq a b a' b' hj hv hu]; rfl
theorem own_D.of_eq {k A : Nat} {i j : Int} {x : UInt64} (a : own_D k A i x) (h : i = j) : own_D k A j x := h ▸ a
/-- a quotient by a power of two is exact -/
theorem own_D.divp {k r t A B P : Nat} {i : Int} {x z v : UInt64} (a : own_D k A i x) (b : own_D 0 B (P : Int) z) (hP : P = 2 ^ r) (hv : FP.ddiv x z = v) (hA : A < 9007199254740992) (ht : k + r = t) (hk : t ≤ 1074) : own_D t A i v := by
  subst ht
  have p := Nat.two_pow_pos r
  have hj : (P : Int) ≠ 0 := by omega
  obtain ⟨sg, e, f⟩ := own_quot a b hj hv
  refine ⟨?_, a.2⟩
  have e2 : roundRatio b64 sg i.natAbs ((P : Int)).natAbs (-(k : Int)) = roundRatio b64 sg i.natAbs 1 (-((k + r : Nat) : Int)) := by
    refine roundRatio_congr (by omega) (by decide) ?_
    rw [Int.natAbs_natCast, hP, show (-(k : Int) - -((k + r : Nat) : Int)).toNat = r by omega, show (-((k + r : Nat) : Int) - -(k : Int)).toNat = 0 by omega]
    simp
  rw [e, e2]
  refine own_round_core (c := 0) (q := 0) hk (by have := a.2; omega) fun hi => ?_
  rw [f hi, show decide ((P : Int) < 0) = false by simp]
  cases decide (i < 0) <;> rfl
theorem own_ushr_nn {x q v : Int32} {k : Nat} (hv : XT.ushr x q = v) (hk : q.toBitVec.toNat % 32 = k) (h0 : 0 < k) : 0 ≤ v.toInt := by
  subst hv
  have := c_iushr x q k hk h0
  show 0 ≤ ((x.toUInt32 >>> (q &&& 31).toUInt32).toInt32).toInt
  rw [this]
  exact Int.ediv_nonneg (Int.emod_nonneg _ (by decide)) (Int.natCast_nonneg _)
theorem own_irem_bd {x y v : Int32} {d : Int} (hv : x % y = v) (hx : 0 ≤ x.toInt) (hy : y.toInt = d) (hd : 0 < d) : 0 ≤ v.toInt ∧ v.toInt < d := by
  subst hv
  rw [(c_irem x y d hy).1 hx]
  exact ⟨Int.emod_nonneg _ (by omega), Int.emod_lt_of_pos _ hd⟩
end OwnDiv
theorem own_d_prog_23_method_4_code_0 : decode prog_23_method_4_code 0 = .ok (.aload_n 0, 1) := by decide +kernel
theorem own_d_prog_23_method_4_code_1 : decode prog_23_method_4_code 1 = .ok (.astore_n 1, 1) := by decide +kernel
theorem own_d_prog_23_method_4_code_2 : decode prog_23_method_4_code 2 = .ok (.aload_n 1, 1) := by decide +kernel
theorem own_d_prog_23_method_4_code_3 : decode prog_23_method_4_code 3 = .ok (.arraylength, 1) := by decide +kernel
theorem own_d_prog_23_method_4_code_4 : decode prog_23_method_4_code 4 = .ok (.istore_n 2, 1) := by decide +kernel
theorem own_d_prog_23_method_4_code_5 : decode prog_23_method_4_code 5 = .ok (.iconst 0, 1) := by decide +kernel
theorem own_d_prog_23_method_4_code_6 : decode prog_23_method_4_code 6 = .ok (.istore_n 3, 1) := by decide +kernel
theorem own_d_prog_23_method_4_code_7 : decode prog_23_method_4_code 7 = .ok (.iload_n 3, 1) := by decide +kernel
theorem own_d_prog_23_method_4_code_8 : decode prog_23_method_4_code 8 = .ok (.iload_n 2, 1) := by decide +kernel
theorem own_d_prog_23_method_4_code_9 : decode prog_23_method_4_code 9 = .ok (.if_icmp .ge 25, 3) := by decide +kernel
theorem own_d_prog_23_method_4_code_12 : decode prog_23_method_4_code 12 = .ok (.aload_n 1, 1) := by decide +kernel
theorem own_d_prog_23_method_4_code_13 : decode prog_23_method_4_code 13 = .ok (.iload_n 3, 1) := by decide +kernel
theorem own_d_prog_23_method_4_code_14 : decode prog_23_method_4_code 14 = .ok (.daload, 1) := by decide +kernel
theorem own_d_prog_23_method_4_code_15 : decode prog_23_method_4_code 15 = .ok (.dstore 4, 2) := by decide +kernel
theorem own_d_prog_23_method_4_code_17 : decode prog_23_method_4_code 17 = .ok (.dload 4, 2) := by decide +kernel
theorem own_d_prog_23_method_4_code_19 : decode prog_23_method_4_code 19 = .ok (.aload_n 0, 1) := by decide +kernel
theorem own_d_prog_23_method_4_code_20 : decode prog_23_method_4_code 20 = .ok (.iconst 0, 1) := by decide +kernel
theorem own_d_prog_23_method_4_code_21 : decode prog_23_method_4_code 21 = .ok (.daload, 1) := by decide +kernel
theorem own_d_prog_23_method_4_code_22 : decode prog_23_method_4_code 22 = .ok (.dcmp .l, 1) := by decide +kernel
theorem own_d_prog_23_method_4_code_23 : decode prog_23_method_4_code 23 = .ok (.ifCond .eq 5, 3) := by decide +kernel
theorem own_d_prog_23_method_4_code_26 : decode prog_23_method_4_code 26 = .ok (.iconst 0, 1) := by decide +kernel
theorem own_d_prog_23_method_4_code_27 : decode prog_23_method_4_code 27 = .ok (.ireturn, 1) := by decide +kernel
theorem own_d_prog_23_method_4_code_28 : decode prog_23_method_4_code 28 = .ok (.iinc 3 1, 3) := by decide +kernel
theorem own_d_prog_23_method_4_code_31 : decode prog_23_method_4_code 31 = .ok (.goto (-24), 3) := by decide +kernel
theorem own_d_prog_23_method_4_code_34 : decode prog_23_method_4_code 34 = .ok (.iconst 1, 1) := by decide +kernel
theorem own_d_prog_23_method_4_code_35 : decode prog_23_method_4_code 35 = .ok (.ireturn, 1) := by decide +kernel
theorem own_pd0 : parseMethodDescriptor "([D)Z" = some ⟨[(.array .double)], some .boolean⟩ := by decide +kernel
theorem own_pn0 : plainName "com/example/conquex/conquex/Moments" = true := by first | (simp [plainName, overriddenIn]; done) | decide +kernel
abbrev own_rm_own_ae0 : Room := ({ frames := 0, cells := 0, slots := 0, locals := 0 } : Room)
set_option maxRecDepth 65536 in
set_option maxHeartbeats 40000000 in
theorem own_ae0 (l : Launch) (Z : State) (a0 : Array Value) (hw : ∀ d ∈ tables_1, d.before a0 Z = true) (a1 : Addr)  (h0 : Heap) (n0 : Nat) (Z0 : n0 ≤ h0.size) (V1 : own_Vec Z h0 a1 .double [])  :
    own_Met l Z ({ cls := "com/example/conquex/conquex/Moments", name := "allEqual", desc := "([D)Z" } : Jvm.MethodName) prog_23_method_4_code 6 (some .boolean) [] own_rm_own_ae0 #[(.ref a1)] h0 n0 (fun v h => (∃ r, v = some (.int r) ∧ ((True) ∧ r = 1 ∨ ¬ (True) ∧ r = 0)) ∧ h = h0) := by
  refine own_meet (plainFor_of_name own_pn0) Z0 (Ls0 := #[.val (.ref a1), .unset, .unset, .unset, .unset, .unset]) (by intro m; first | (simp [entryFrame, mkF, argsToLocals, Value.category]; done) | rfl) ?_
  intro p e s m below meth c T0 X0
  refine own_aloadN X0 rfl rfl own_d_prog_23_method_4_code_0 (pc' := 1) rfl ?_
  refine own_astoreN X0 (Ls' := #[.val (.ref a1), .val (.ref a1), .unset, .unset, .unset, .unset]) rfl rfl own_d_prog_23_method_4_code_1 (pc' := 2) rfl ?_
  refine own_aloadN X0 rfl rfl own_d_prog_23_method_4_code_2 (pc' := 3) rfl ?_
  refine own_len X0 V1 (v := (0 : Int32)) (show (0 : Nat).toInt32 = (0 : Int32) by decide) own_d_prog_23_method_4_code_3 (pc' := 4) rfl ?_
  refine own_istoreN X0 (Ls' := #[.val (.ref a1), .val (.ref a1), .val (.int (0 : Int32)), .unset, .unset, .unset]) rfl own_d_prog_23_method_4_code_4 (pc' := 5) rfl ?_
  refine own_iconst X0 (v := (0 : Int32)) (by decide) own_d_prog_23_method_4_code_5 (pc' := 6) rfl ?_
  refine own_istoreN X0 (Ls' := #[.val (.ref a1), .val (.ref a1), .val (.int (0 : Int32)), .val (.int (0 : Int32)), .unset, .unset]) rfl own_d_prog_23_method_4_code_6 (pc' := 7) rfl ?_
  refine own_iloadN X0 rfl own_d_prog_23_method_4_code_7 (pc' := 8) rfl ?_
  refine own_iloadN X0 rfl own_d_prog_23_method_4_code_8 (pc' := 9) rfl ?_
  refine own_icmpT X0 (by decide) own_d_prog_23_method_4_code_9 (pc' := 34) (by decide) (by decide) ?_
  refine own_iconst X0 (v := (1 : Int32)) (by decide) own_d_prog_23_method_4_code_34 (pc' := 35) rfl ?_
  exact own_retZ X0 (by decide) own_d_prog_23_method_4_code_35 rfl (by decide) (by decide) ⟨⟨_, rfl, Or.inl ⟨trivial, rfl⟩⟩, rfl⟩
abbrev own_rm_own_ae1 : Room := ({ frames := 0, cells := 0, slots := 0, locals := 0 } : Room)
set_option maxRecDepth 65536 in
set_option maxHeartbeats 40000000 in
theorem own_ae1 (l : Launch) (Z : State) (a0 : Array Value) (hw : ∀ d ∈ tables_1, d.before a0 Z = true) (a1 : Addr) (x0 : UInt64) (i_x0 : Int) (h0 : Heap) (n0 : Nat) (Z0 : n0 ≤ h0.size) (V1 : own_Vec Z h0 a1 .double [(.double x0)]) (D_x0 : own_D 0 2147483648 i_x0 x0) :
    own_Met l Z ({ cls := "com/example/conquex/conquex/Moments", name := "allEqual", desc := "([D)Z" } : Jvm.MethodName) prog_23_method_4_code 6 (some .boolean) [] own_rm_own_ae1 #[(.ref a1)] h0 n0 (fun v h => (∃ r, v = some (.int r) ∧ ((True) ∧ r = 1 ∨ ¬ (True) ∧ r = 0)) ∧ h = h0) := by
  refine own_meet (plainFor_of_name own_pn0) Z0 (Ls0 := #[.val (.ref a1), .unset, .unset, .unset, .unset, .unset]) (by intro m; first | (simp [entryFrame, mkF, argsToLocals, Value.category]; done) | rfl) ?_
  intro p e s m below meth c T0 X0
  refine own_aloadN X0 rfl rfl own_d_prog_23_method_4_code_0 (pc' := 1) rfl ?_
  refine own_astoreN X0 (Ls' := #[.val (.ref a1), .val (.ref a1), .unset, .unset, .unset, .unset]) rfl rfl own_d_prog_23_method_4_code_1 (pc' := 2) rfl ?_
  refine own_aloadN X0 rfl rfl own_d_prog_23_method_4_code_2 (pc' := 3) rfl ?_
  refine own_len X0 V1 (v := (1 : Int32)) (show (1 : Nat).toInt32 = (1 : Int32) by decide) own_d_prog_23_method_4_code_3 (pc' := 4) rfl ?_
  refine own_istoreN X0 (Ls' := #[.val (.ref a1), .val (.ref a1), .val (.int (1 : Int32)), .unset, .unset, .unset]) rfl own_d_prog_23_method_4_code_4 (pc' := 5) rfl ?_
  refine own_iconst X0 (v := (0 : Int32)) (by decide) own_d_prog_23_method_4_code_5 (pc' := 6) rfl ?_
  refine own_istoreN X0 (Ls' := #[.val (.ref a1), .val (.ref a1), .val (.int (1 : Int32)), .val (.int (0 : Int32)), .unset, .unset]) rfl own_d_prog_23_method_4_code_6 (pc' := 7) rfl ?_
  refine own_iloadN X0 rfl own_d_prog_23_method_4_code_7 (pc' := 8) rfl ?_
  refine own_iloadN X0 rfl own_d_prog_23_method_4_code_8 (pc' := 9) rfl ?_
  refine own_icmpF X0 (by decide) own_d_prog_23_method_4_code_9 (pc' := 12) rfl ?_
  refine own_aloadN X0 rfl rfl own_d_prog_23_method_4_code_12 (pc' := 13) rfl ?_
  refine own_iloadN X0 rfl own_d_prog_23_method_4_code_13 (pc' := 14) rfl ?_
  refine own_daload X0 V1 (i := 0) (by decide) (by decide) rfl own_d_prog_23_method_4_code_14 (pc' := 15) rfl ?_
  refine own_dstore X0 (Ls' := #[.val (.ref a1), .val (.ref a1), .val (.int (1 : Int32)), .val (.int (0 : Int32)), .val (.double x0), .second]) rfl own_d_prog_23_method_4_code_15 (pc' := 17) rfl ?_
  refine own_dload X0 rfl own_d_prog_23_method_4_code_17 (pc' := 19) rfl ?_
  refine own_aloadN X0 rfl rfl own_d_prog_23_method_4_code_19 (pc' := 20) rfl ?_
  refine own_iconst X0 (v := (0 : Int32)) (by decide) own_d_prog_23_method_4_code_20 (pc' := 21) rfl ?_
  refine own_daload X0 V1 (i := 0) (by decide) (by decide) rfl own_d_prog_23_method_4_code_21 (pc' := 22) rfl ?_
  refine own_dcmp X0 (D_x0.cmp D_x0) own_d_prog_23_method_4_code_22 (pc' := 23) rfl ?_
  have c1 : i_x0 = i_x0 := rfl
  refine own_ifT X0 (own_c3_eq c1).1 own_d_prog_23_method_4_code_23 (pc' := 28) (by decide) (by decide) ?_
  refine own_iinc X0 (Ls' := #[.val (.ref a1), .val (.ref a1), .val (.int (1 : Int32)), .val (.int (1 : Int32)), .val (.double x0), .second]) rfl (by decide) rfl own_d_prog_23_method_4_code_28 (pc' := 31) rfl ?_
  refine own_goto X0 own_d_prog_23_method_4_code_31 (pc' := 7) (by decide) (by decide) ?_
  refine own_iloadN X0 rfl own_d_prog_23_method_4_code_7 (pc' := 8) rfl ?_
  refine own_iloadN X0 rfl own_d_prog_23_method_4_code_8 (pc' := 9) rfl ?_
  refine own_icmpT X0 (by decide) own_d_prog_23_method_4_code_9 (pc' := 34) (by decide) (by decide) ?_
  refine own_iconst X0 (v := (1 : Int32)) (by decide) own_d_prog_23_method_4_code_34 (pc' := 35) rfl ?_
  exact own_retZ X0 (by decide) own_d_prog_23_method_4_code_35 rfl (by decide) (by decide) ⟨⟨_, rfl, Or.inl ⟨trivial, rfl⟩⟩, rfl⟩
abbrev own_rm_own_ae2 : Room := ({ frames := 0, cells := 0, slots := 0, locals := 0 } : Room)
set_option maxRecDepth 65536 in
set_option maxHeartbeats 40000000 in
theorem own_ae2 (l : Launch) (Z : State) (a0 : Array Value) (hw : ∀ d ∈ tables_1, d.before a0 Z = true) (a1 : Addr) (x0 : UInt64) (i_x0 : Int) (x1 : UInt64) (i_x1 : Int) (h0 : Heap) (n0 : Nat) (Z0 : n0 ≤ h0.size) (V1 : own_Vec Z h0 a1 .double [(.double x0), (.double x1)]) (D_x0 : own_D 0 2147483648 i_x0 x0) (D_x1 : own_D 0 2147483648 i_x1 x1) :
    own_Met l Z ({ cls := "com/example/conquex/conquex/Moments", name := "allEqual", desc := "([D)Z" } : Jvm.MethodName) prog_23_method_4_code 6 (some .boolean) [] own_rm_own_ae2 #[(.ref a1)] h0 n0 (fun v h => (∃ r, v = some (.int r) ∧ ((i_x1 = i_x0) ∧ r = 1 ∨ ¬ (i_x1 = i_x0) ∧ r = 0)) ∧ h = h0) := by
  refine own_meet (plainFor_of_name own_pn0) Z0 (Ls0 := #[.val (.ref a1), .unset, .unset, .unset, .unset, .unset]) (by intro m; first | (simp [entryFrame, mkF, argsToLocals, Value.category]; done) | rfl) ?_
  intro p e s m below meth c T0 X0
  refine own_aloadN X0 rfl rfl own_d_prog_23_method_4_code_0 (pc' := 1) rfl ?_
  refine own_astoreN X0 (Ls' := #[.val (.ref a1), .val (.ref a1), .unset, .unset, .unset, .unset]) rfl rfl own_d_prog_23_method_4_code_1 (pc' := 2) rfl ?_
  refine own_aloadN X0 rfl rfl own_d_prog_23_method_4_code_2 (pc' := 3) rfl ?_
  refine own_len X0 V1 (v := (2 : Int32)) (show (2 : Nat).toInt32 = (2 : Int32) by decide) own_d_prog_23_method_4_code_3 (pc' := 4) rfl ?_
  refine own_istoreN X0 (Ls' := #[.val (.ref a1), .val (.ref a1), .val (.int (2 : Int32)), .unset, .unset, .unset]) rfl own_d_prog_23_method_4_code_4 (pc' := 5) rfl ?_
  refine own_iconst X0 (v := (0 : Int32)) (by decide) own_d_prog_23_method_4_code_5 (pc' := 6) rfl ?_
  refine own_istoreN X0 (Ls' := #[.val (.ref a1), .val (.ref a1), .val (.int (2 : Int32)), .val (.int (0 : Int32)), .unset, .unset]) rfl own_d_prog_23_method_4_code_6 (pc' := 7) rfl ?_
  refine own_iloadN X0 rfl own_d_prog_23_method_4_code_7 (pc' := 8) rfl ?_
  refine own_iloadN X0 rfl own_d_prog_23_method_4_code_8 (pc' := 9) rfl ?_
  refine own_icmpF X0 (by decide) own_d_prog_23_method_4_code_9 (pc' := 12) rfl ?_
  refine own_aloadN X0 rfl rfl own_d_prog_23_method_4_code_12 (pc' := 13) rfl ?_
  refine own_iloadN X0 rfl own_d_prog_23_method_4_code_13 (pc' := 14) rfl ?_
  refine own_daload X0 V1 (i := 0) (by decide) (by decide) rfl own_d_prog_23_method_4_code_14 (pc' := 15) rfl ?_
  refine own_dstore X0 (Ls' := #[.val (.ref a1), .val (.ref a1), .val (.int (2 : Int32)), .val (.int (0 : Int32)), .val (.double x0), .second]) rfl own_d_prog_23_method_4_code_15 (pc' := 17) rfl ?_
  refine own_dload X0 rfl own_d_prog_23_method_4_code_17 (pc' := 19) rfl ?_
  refine own_aloadN X0 rfl rfl own_d_prog_23_method_4_code_19 (pc' := 20) rfl ?_
  refine own_iconst X0 (v := (0 : Int32)) (by decide) own_d_prog_23_method_4_code_20 (pc' := 21) rfl ?_
  refine own_daload X0 V1 (i := 0) (by decide) (by decide) rfl own_d_prog_23_method_4_code_21 (pc' := 22) rfl ?_
  refine own_dcmp X0 (D_x0.cmp D_x0) own_d_prog_23_method_4_code_22 (pc' := 23) rfl ?_
  have c2 : i_x0 = i_x0 := rfl
  refine own_ifT X0 (own_c3_eq c2).1 own_d_prog_23_method_4_code_23 (pc' := 28) (by decide) (by decide) ?_
  refine own_iinc X0 (Ls' := #[.val (.ref a1), .val (.ref a1), .val (.int (2 : Int32)), .val (.int (1 : Int32)), .val (.double x0), .second]) rfl (by decide) rfl own_d_prog_23_method_4_code_28 (pc' := 31) rfl ?_
  refine own_goto X0 own_d_prog_23_method_4_code_31 (pc' := 7) (by decide) (by decide) ?_
  refine own_iloadN X0 rfl own_d_prog_23_method_4_code_7 (pc' := 8) rfl ?_
  refine own_iloadN X0 rfl own_d_prog_23_method_4_code_8 (pc' := 9) rfl ?_
  refine own_icmpF X0 (by decide) own_d_prog_23_method_4_code_9 (pc' := 12) rfl ?_
  refine own_aloadN X0 rfl rfl own_d_prog_23_method_4_code_12 (pc' := 13) rfl ?_
  refine own_iloadN X0 rfl own_d_prog_23_method_4_code_13 (pc' := 14) rfl ?_
  refine own_daload X0 V1 (i := 1) (by decide) (by decide) rfl own_d_prog_23_method_4_code_14 (pc' := 15) rfl ?_
  refine own_dstore X0 (Ls' := #[.val (.ref a1), .val (.ref a1), .val (.int (2 : Int32)), .val (.int (1 : Int32)), .val (.double x1), .second]) rfl own_d_prog_23_method_4_code_15 (pc' := 17) rfl ?_
  refine own_dload X0 rfl own_d_prog_23_method_4_code_17 (pc' := 19) rfl ?_
  refine own_aloadN X0 rfl rfl own_d_prog_23_method_4_code_19 (pc' := 20) rfl ?_
  refine own_iconst X0 (v := (0 : Int32)) (by decide) own_d_prog_23_method_4_code_20 (pc' := 21) rfl ?_
  refine own_daload X0 V1 (i := 0) (by decide) (by decide) rfl own_d_prog_23_method_4_code_21 (pc' := 22) rfl ?_
  refine own_dcmp X0 (D_x1.cmp D_x0) own_d_prog_23_method_4_code_22 (pc' := 23) rfl ?_
  by_cases c3 : i_x1 = i_x0
  · -- yes c3
    refine own_ifT X0 (own_c3_eq c3).1 own_d_prog_23_method_4_code_23 (pc' := 28) (by decide) (by decide) ?_
    refine own_iinc X0 (Ls' := #[.val (.ref a1), .val (.ref a1), .val (.int (2 : Int32)), .val (.int (2 : Int32)), .val (.double x1), .second]) rfl (by decide) rfl own_d_prog_23_method_4_code_28 (pc' := 31) rfl ?_
    refine own_goto X0 own_d_prog_23_method_4_code_31 (pc' := 7) (by decide) (by decide) ?_
    refine own_iloadN X0 rfl own_d_prog_23_method_4_code_7 (pc' := 8) rfl ?_
    refine own_iloadN X0 rfl own_d_prog_23_method_4_code_8 (pc' := 9) rfl ?_
    refine own_icmpT X0 (by decide) own_d_prog_23_method_4_code_9 (pc' := 34) (by decide) (by decide) ?_
    refine own_iconst X0 (v := (1 : Int32)) (by decide) own_d_prog_23_method_4_code_34 (pc' := 35) rfl ?_
    exact own_retZ X0 (by decide) own_d_prog_23_method_4_code_35 rfl (by decide) (by decide) ⟨⟨_, rfl, Or.inl ⟨c3, rfl⟩⟩, rfl⟩
  · -- no c3
    refine own_ifF X0 (own_c3_ne c3).1 own_d_prog_23_method_4_code_23 (pc' := 26) rfl ?_
    refine own_iconst X0 (v := (0 : Int32)) (by decide) own_d_prog_23_method_4_code_26 (pc' := 27) rfl ?_
    exact own_retZ X0 (by decide) own_d_prog_23_method_4_code_27 rfl (by decide) (by decide) ⟨⟨_, rfl, Or.inr ⟨by omega, rfl⟩⟩, rfl⟩
abbrev own_rm_own_ae3 : Room := ({ frames := 0, cells := 0, slots := 0, locals := 0 } : Room)
set_option maxRecDepth 65536 in
set_option maxHeartbeats 40000000 in
theorem own_ae3 (l : Launch) (Z : State) (a0 : Array Value) (hw : ∀ d ∈ tables_1, d.before a0 Z = true) (a1 : Addr) (x0 : UInt64) (i_x0 : Int) (x1 : UInt64) (i_x1 : Int) (x2 : UInt64) (i_x2 : Int) (h0 : Heap) (n0 : Nat) (Z0 : n0 ≤ h0.size) (V1 : own_Vec Z h0 a1 .double [(.double x0), (.double x1), (.double x2)]) (D_x0 : own_D 0 2147483648 i_x0 x0) (D_x1 : own_D 0 2147483648 i_x1 x1) (D_x2 : own_D 0 2147483648 i_x2 x2) :
    own_Met l Z ({ cls := "com/example/conquex/conquex/Moments", name := "allEqual", desc := "([D)Z" } : Jvm.MethodName) prog_23_method_4_code 6 (some .boolean) [] own_rm_own_ae3 #[(.ref a1)] h0 n0 (fun v h => (∃ r, v = some (.int r) ∧ ((i_x1 = i_x0 ∧ i_x2 = i_x0) ∧ r = 1 ∨ ¬ (i_x1 = i_x0 ∧ i_x2 = i_x0) ∧ r = 0)) ∧ h = h0) := by
  refine own_meet (plainFor_of_name own_pn0) Z0 (Ls0 := #[.val (.ref a1), .unset, .unset, .unset, .unset, .unset]) (by intro m; first | (simp [entryFrame, mkF, argsToLocals, Value.category]; done) | rfl) ?_
  intro p e s m below meth c T0 X0
  refine own_aloadN X0 rfl rfl own_d_prog_23_method_4_code_0 (pc' := 1) rfl ?_
  refine own_astoreN X0 (Ls' := #[.val (.ref a1), .val (.ref a1), .unset, .unset, .unset, .unset]) rfl rfl own_d_prog_23_method_4_code_1 (pc' := 2) rfl ?_
  refine own_aloadN X0 rfl rfl own_d_prog_23_method_4_code_2 (pc' := 3) rfl ?_
  refine own_len X0 V1 (v := (3 : Int32)) (show (3 : Nat).toInt32 = (3 : Int32) by decide) own_d_prog_23_method_4_code_3 (pc' := 4) rfl ?_
  refine own_istoreN X0 (Ls' := #[.val (.ref a1), .val (.ref a1), .val (.int (3 : Int32)), .unset, .unset, .unset]) rfl own_d_prog_23_method_4_code_4 (pc' := 5) rfl ?_
  refine own_iconst X0 (v := (0 : Int32)) (by decide) own_d_prog_23_method_4_code_5 (pc' := 6) rfl ?_
  refine own_istoreN X0 (Ls' := #[.val (.ref a1), .val (.ref a1), .val (.int (3 : Int32)), .val (.int (0 : Int32)), .unset, .unset]) rfl own_d_prog_23_method_4_code_6 (pc' := 7) rfl ?_
  refine own_iloadN X0 rfl own_d_prog_23_method_4_code_7 (pc' := 8) rfl ?_
  refine own_iloadN X0 rfl own_d_prog_23_method_4_code_8 (pc' := 9) rfl ?_
  refine own_icmpF X0 (by decide) own_d_prog_23_method_4_code_9 (pc' := 12) rfl ?_
  refine own_aloadN X0 rfl rfl own_d_prog_23_method_4_code_12 (pc' := 13) rfl ?_
  refine own_iloadN X0 rfl own_d_prog_23_method_4_code_13 (pc' := 14) rfl ?_
  refine own_daload X0 V1 (i := 0) (by decide) (by decide) rfl own_d_prog_23_method_4_code_14 (pc' := 15) rfl ?_
  refine own_dstore X0 (Ls' := #[.val (.ref a1), .val (.ref a1), .val (.int (3 : Int32)), .val (.int (0 : Int32)), .val (.double x0), .second]) rfl own_d_prog_23_method_4_code_15 (pc' := 17) rfl ?_
  refine own_dload X0 rfl own_d_prog_23_method_4_code_17 (pc' := 19) rfl ?_
  refine own_aloadN X0 rfl rfl own_d_prog_23_method_4_code_19 (pc' := 20) rfl ?_
  refine own_iconst X0 (v := (0 : Int32)) (by decide) own_d_prog_23_method_4_code_20 (pc' := 21) rfl ?_
  refine own_daload X0 V1 (i := 0) (by decide) (by decide) rfl own_d_prog_23_method_4_code_21 (pc' := 22) rfl ?_
  refine own_dcmp X0 (D_x0.cmp D_x0) own_d_prog_23_method_4_code_22 (pc' := 23) rfl ?_
  have c4 : i_x0 = i_x0 := rfl
  refine own_ifT X0 (own_c3_eq c4).1 own_d_prog_23_method_4_code_23 (pc' := 28) (by decide) (by decide) ?_
  refine own_iinc X0 (Ls' := #[.val (.ref a1), .val (.ref a1), .val (.int (3 : Int32)), .val (.int (1 : Int32)), .val (.double x0), .second]) rfl (by decide) rfl own_d_prog_23_method_4_code_28 (pc' := 31) rfl ?_
  refine own_goto X0 own_d_prog_23_method_4_code_31 (pc' := 7) (by decide) (by decide) ?_
  refine own_iloadN X0 rfl own_d_prog_23_method_4_code_7 (pc' := 8) rfl ?_
  refine own_iloadN X0 rfl own_d_prog_23_method_4_code_8 (pc' := 9) rfl ?_
  refine own_icmpF X0 (by decide) own_d_prog_23_method_4_code_9 (pc' := 12) rfl ?_
  refine own_aloadN X0 rfl rfl own_d_prog_23_method_4_code_12 (pc' := 13) rfl ?_
  refine own_iloadN X0 rfl own_d_prog_23_method_4_code_13 (pc' := 14) rfl ?_
  refine own_daload X0 V1 (i := 1) (by decide) (by decide) rfl own_d_prog_23_method_4_code_14 (pc' := 15) rfl ?_
  refine own_dstore X0 (Ls' := #[.val (.ref a1), .val (.ref a1), .val (.int (3 : Int32)), .val (.int (1 : Int32)), .val (.double x1), .second]) rfl own_d_prog_23_method_4_code_15 (pc' := 17) rfl ?_
  refine own_dload X0 rfl own_d_prog_23_method_4_code_17 (pc' := 19) rfl ?_
  refine own_aloadN X0 rfl rfl own_d_prog_23_method_4_code_19 (pc' := 20) rfl ?_
  refine own_iconst X0 (v := (0 : Int32)) (by decide) own_d_prog_23_method_4_code_20 (pc' := 21) rfl ?_
  refine own_daload X0 V1 (i := 0) (by decide) (by decide) rfl own_d_prog_23_method_4_code_21 (pc' := 22) rfl ?_
  refine own_dcmp X0 (D_x1.cmp D_x0) own_d_prog_23_method_4_code_22 (pc' := 23) rfl ?_
  by_cases c5 : i_x1 = i_x0
  · -- yes c5
    refine own_ifT X0 (own_c3_eq c5).1 own_d_prog_23_method_4_code_23 (pc' := 28) (by decide) (by decide) ?_
    refine own_iinc X0 (Ls' := #[.val (.ref a1), .val (.ref a1), .val (.int (3 : Int32)), .val (.int (2 : Int32)), .val (.double x1), .second]) rfl (by decide) rfl own_d_prog_23_method_4_code_28 (pc' := 31) rfl ?_
    refine own_goto X0 own_d_prog_23_method_4_code_31 (pc' := 7) (by decide) (by decide) ?_
    refine own_iloadN X0 rfl own_d_prog_23_method_4_code_7 (pc' := 8) rfl ?_
    refine own_iloadN X0 rfl own_d_prog_23_method_4_code_8 (pc' := 9) rfl ?_
    refine own_icmpF X0 (by decide) own_d_prog_23_method_4_code_9 (pc' := 12) rfl ?_
    refine own_aloadN X0 rfl rfl own_d_prog_23_method_4_code_12 (pc' := 13) rfl ?_
    refine own_iloadN X0 rfl own_d_prog_23_method_4_code_13 (pc' := 14) rfl ?_
    refine own_daload X0 V1 (i := 2) (by decide) (by decide) rfl own_d_prog_23_method_4_code_14 (pc' := 15) rfl ?_
    refine own_dstore X0 (Ls' := #[.val (.ref a1), .val (.ref a1), .val (.int (3 : Int32)), .val (.int (2 : Int32)), .val (.double x2), .second]) rfl own_d_prog_23_method_4_code_15 (pc' := 17) rfl ?_
    refine own_dload X0 rfl own_d_prog_23_method_4_code_17 (pc' := 19) rfl ?_
    refine own_aloadN X0 rfl rfl own_d_prog_23_method_4_code_19 (pc' := 20) rfl ?_
    refine own_iconst X0 (v := (0 : Int32)) (by decide) own_d_prog_23_method_4_code_20 (pc' := 21) rfl ?_
    refine own_daload X0 V1 (i := 0) (by decide) (by decide) rfl own_d_prog_23_method_4_code_21 (pc' := 22) rfl ?_
    refine own_dcmp X0 (D_x2.cmp D_x0) own_d_prog_23_method_4_code_22 (pc' := 23) rfl ?_
    by_cases c6 : i_x2 = i_x0
    · -- yes c6
      refine own_ifT X0 (own_c3_eq c6).1 own_d_prog_23_method_4_code_23 (pc' := 28) (by decide) (by decide) ?_
      refine own_iinc X0 (Ls' := #[.val (.ref a1), .val (.ref a1), .val (.int (3 : Int32)), .val (.int (3 : Int32)), .val (.double x2), .second]) rfl (by decide) rfl own_d_prog_23_method_4_code_28 (pc' := 31) rfl ?_
      refine own_goto X0 own_d_prog_23_method_4_code_31 (pc' := 7) (by decide) (by decide) ?_
      refine own_iloadN X0 rfl own_d_prog_23_method_4_code_7 (pc' := 8) rfl ?_
      refine own_iloadN X0 rfl own_d_prog_23_method_4_code_8 (pc' := 9) rfl ?_
      refine own_icmpT X0 (by decide) own_d_prog_23_method_4_code_9 (pc' := 34) (by decide) (by decide) ?_
      refine own_iconst X0 (v := (1 : Int32)) (by decide) own_d_prog_23_method_4_code_34 (pc' := 35) rfl ?_
      exact own_retZ X0 (by decide) own_d_prog_23_method_4_code_35 rfl (by decide) (by decide) ⟨⟨_, rfl, Or.inl ⟨⟨c5, c6⟩, rfl⟩⟩, rfl⟩
    · -- no c6
      refine own_ifF X0 (own_c3_ne c6).1 own_d_prog_23_method_4_code_23 (pc' := 26) rfl ?_
      refine own_iconst X0 (v := (0 : Int32)) (by decide) own_d_prog_23_method_4_code_26 (pc' := 27) rfl ?_
      exact own_retZ X0 (by decide) own_d_prog_23_method_4_code_27 rfl (by decide) (by decide) ⟨⟨_, rfl, Or.inr ⟨by omega, rfl⟩⟩, rfl⟩
  · -- no c5
    refine own_ifF X0 (own_c3_ne c5).1 own_d_prog_23_method_4_code_23 (pc' := 26) rfl ?_
    refine own_iconst X0 (v := (0 : Int32)) (by decide) own_d_prog_23_method_4_code_26 (pc' := 27) rfl ?_
    exact own_retZ X0 (by decide) own_d_prog_23_method_4_code_27 rfl (by decide) (by decide) ⟨⟨_, rfl, Or.inr ⟨by omega, rfl⟩⟩, rfl⟩
theorem own_pick_1 {P : Prop} {r : Int32} (h : P ∧ r = 1 ∨ ¬ P ∧ r = 0) (q : P) : r = (1 : Int32) := h.elim (·.2) fun z => absurd q z.1
theorem own_pick_0 {P : Prop} {r : Int32} (h : P ∧ r = 1 ∨ ¬ P ∧ r = 0) (q : ¬ P) : r = (0 : Int32) := h.elim (fun z => absurd z.1 q) (·.2)
theorem own_pn1 : plainName "com/example/conquex/conquex/MomentsAllEqualPinLaw" = true := by first | (simp [plainName, overriddenIn]; done) | decide +kernel
set_option maxRecDepth 65536 in
set_option maxHeartbeats 40000000 in
theorem own_law (l : Launch) (Z : State) (a0 : Array Value) (hw : ∀ d ∈ tables_1, d.before a0 Z = true) (ws : List Jvm.Cond) (p0 : Int32) (p1 : Int32) (p2 : Int32) (p3 : Int32) (p4 : Int32) (h0 : Heap) (n0 : Nat) (Z0 : n0 ≤ h0.size)  :
    own_Met l Z x code maxLocals ret ws room_1 #[(.int p0), (.int p1), (.int p2), (.int p3), (.int p4)] h0 n0 (fun v _ => v = some (.int 1)) := by
  refine own_meet (plainFor_of_name own_pn1) Z0 (Ls0 := #[.val (.int p0), .val (.int p1), .val (.int p2), .val (.int p3), .val (.int p4), .unset, .unset, .unset, .unset, .unset, .unset]) (by intro m; first | (simp [entryFrame, mkF, argsToLocals, Value.category, maxLocals]; done) | rfl) ?_
  intro p e s m below meth c T0 X0
  refine own_iloadN X0 rfl at_0 (pc' := 1) rfl ?_
  refine own_iconst X0 (v := (3 : Int32)) (by decide) at_1 (pc' := 2) rfl ?_
  obtain ⟨i7, e7⟩ : ∃ v, p0 &&& (3 : Int32) = v := ⟨_, rfl⟩
  have f7 : own_I 3 i7.toInt i7 := own_I.and e7 (by decide)
  have nn7 := own_and_nn (M := 3) e7 (by decide)
  refine own_iand X0 e7 at_2 (pc' := 3) rfl ?_
  rcases own_cases4 nn7 with rfl | rfl | rfl | rfl
  · -- 0
    refine own_istore X0 (Ls' := #[.val (.int p0), .val (.int p1), .val (.int p2), .val (.int p3), .val (.int p4), .val (.int (0 : Int32)), .unset, .unset, .unset, .unset, .unset]) rfl at_3 (pc' := 5) rfl ?_
    refine own_iloadN X0 rfl at_5 (pc' := 6) rfl ?_
    refine own_istore X0 (Ls' := #[.val (.int p0), .val (.int p1), .val (.int p2), .val (.int p3), .val (.int p4), .val (.int (0 : Int32)), .val (.int p1), .unset, .unset, .unset, .unset]) rfl at_6 (pc' := 8) rfl ?_
    refine own_iload X0 rfl at_8 (pc' := 10) rfl ?_
    refine own_iconst X0 (v := (1 : Int32)) (by decide) at_10 (pc' := 11) rfl ?_
    obtain ⟨i8, e8⟩ : ∃ v, p4 &&& (1 : Int32) = v := ⟨_, rfl⟩
    have f8 : own_I 1 i8.toInt i8 := own_I.and e8 (by decide)
    have nn8 := own_and_nn (M := 1) e8 (by decide)
    refine own_iand X0 e8 at_11 (pc' := 12) rfl ?_
    by_cases c9 : i8 = 0
    · -- yes c9
      refine own_ifT X0 (own_z_eq c9).1 at_12 (pc' := 19) (by decide) (by decide) ?_
      refine own_iloadN X0 rfl at_19 (pc' := 20) rfl ?_
      refine own_istore X0 (Ls' := #[.val (.int p0), .val (.int p1), .val (.int p2), .val (.int p3), .val (.int p4), .val (.int (0 : Int32)), .val (.int p1), .val (.int p2), .unset, .unset, .unset]) rfl at_20 (pc' := 22) rfl ?_
      refine own_iload X0 rfl at_22 (pc' := 24) rfl ?_
      refine own_iconst X0 (v := (2 : Int32)) (by decide) at_24 (pc' := 25) rfl ?_
      obtain ⟨i10, e10⟩ : ∃ v, p4 &&& (2 : Int32) = v := ⟨_, rfl⟩
      have f10 : own_I 2 i10.toInt i10 := own_I.and e10 (by decide)
      have nn10 := own_and_nn (M := 2) e10 (by decide)
      refine own_iand X0 e10 at_25 (pc' := 26) rfl ?_
      by_cases c11 : i10 = 0
      · -- yes c11
        refine own_ifT X0 (own_z_eq c11).1 at_26 (pc' := 36) (by decide) (by decide) ?_
        refine own_iload X0 rfl at_36 (pc' := 38) rfl ?_
        refine own_iconst X0 (v := (4 : Int32)) (by decide) at_38 (pc' := 39) rfl ?_
        obtain ⟨i12, e12⟩ : ∃ v, p4 &&& (4 : Int32) = v := ⟨_, rfl⟩
        have f12 : own_I 4 i12.toInt i12 := own_I.and e12 (by decide)
        have nn12 := own_and_nn (M := 4) e12 (by decide)
        refine own_iand X0 e12 at_39 (pc' := 40) rfl ?_
        by_cases c13 : i12 = 0
        · -- yes c13
          refine own_ifT X0 (own_z_eq c13).1 at_40 (pc' := 49) (by decide) (by decide) ?_
          refine own_iloadN X0 rfl at_49 (pc' := 50) rfl ?_
          refine own_istore X0 (Ls' := #[.val (.int p0), .val (.int p1), .val (.int p2), .val (.int p3), .val (.int p4), .val (.int (0 : Int32)), .val (.int p1), .val (.int p2), .val (.int p3), .unset, .unset]) rfl at_50 (pc' := 52) rfl ?_
          refine own_iload X0 rfl at_52 (pc' := 54) rfl ?_
          refine own_newarray X0 (ty := .double) rfl (hw _ (List.mem_of_getElem? (i := 0) rfl)) (n := 0) (vs := []) (by decide) (by decide) (by decide) rfl (cells' := 1) (slots' := 0) rfl rfl (by decide) (by decide) at_54 (pc' := 56) rfl fun a14 T14 h14 g14 ge14 X14 E14 V14 => ?_
          refine own_astore X14 (Ls' := #[.val (.int p0), .val (.int p1), .val (.int p2), .val (.int p3), .val (.int p4), .val (.int (0 : Int32)), .val (.int p1), .val (.int p2), .val (.int p3), .val (.ref a14), .unset]) rfl rfl at_56 (pc' := 58) rfl ?_
          refine own_iload X14 rfl at_58 (pc' := 60) rfl ?_
          refine own_ifT X14 (by decide) at_60 (pc' := 70) (by decide) (by decide) ?_
          refine own_iload X14 rfl at_70 (pc' := 72) rfl ?_
          refine own_iconst X14 (v := (1 : Int32)) (by decide) at_72 (pc' := 73) rfl ?_
          refine own_icmpT X14 (by decide) at_73 (pc' := 83) (by decide) (by decide) ?_
          refine own_iload X14 rfl at_83 (pc' := 85) rfl ?_
          refine own_iconst X14 (v := (2 : Int32)) (by decide) at_85 (pc' := 86) rfl ?_
          refine own_icmpT X14 (by decide) at_86 (pc' := 96) (by decide) (by decide) ?_
          refine own_iload X14 rfl at_96 (pc' := 98) rfl ?_
          refine own_iconst X14 (v := (1 : Int32)) (by decide) at_98 (pc' := 99) rfl ?_
          refine own_icmpF X14 (by decide) at_99 (pc' := 102) rfl ?_
          refine own_iconst X14 (v := (1 : Int32)) (by decide) at_102 (pc' := 103) rfl ?_
          refine own_istore X14 (Ls' := #[.val (.int p0), .val (.int p1), .val (.int p2), .val (.int p3), .val (.int p4), .val (.int (0 : Int32)), .val (.int p1), .val (.int p2), .val (.int p3), .val (.ref a14), .val (.int (1 : Int32))]) rfl at_103 (pc' := 105) rfl ?_
          refine own_goto X14 at_105 (pc' := 152) (by decide) (by decide) ?_
          refine own_aload X14 rfl rfl at_152 (pc' := 154) rfl ?_
          refine own_callS X14 (own_ae0 l Z a0 hw a14  _ n0 X14.le V14 ) (hw _ (List.mem_of_getElem? (i := 1) rfl)) (hw _ (List.mem_of_getElem? (i := 2) rfl)) (hw _ (List.mem_of_getElem? (i := 3) rfl)) (hw _ (List.mem_of_getElem? (i := 4) rfl)) (by decide) rfl (by decide) (W := 0) (Nat.le_of_eq rfl) (by decide) (cells' := 1) (slots' := 0) rfl rfl (by decide) (by decide) (argsL := [(.ref a14)]) (rest := []) (lenOf own_pd0 rfl) rfl rfl at_154 (pc' := 157) rfl ?_
          rintro _ T15 h15 X15 ⟨⟨r15, rfl, hr15⟩, e15⟩
          subst e15
          show own_Goal p e below _ T15 (mkF m 157 #[.val (.int p0), .val (.int p1), .val (.int p2), .val (.int p3), .val (.int p4), .val (.int (0 : Int32)), .val (.int p1), .val (.int p2), .val (.int p3), .val (.ref a14), .val (.int (1 : Int32))] [(.int r15)])
          refine own_iload X15 rfl at_157 (pc' := 159) rfl ?_
          have c16 : r15 = (1 : Int32) := own_pick_1 hr15 (by first | trivial | omega)
          refine own_icmpF X15 (own_i_eq c16).2 at_159 (pc' := 162) rfl ?_
          refine own_iconst X15 (v := (1 : Int32)) (by decide) at_162 (pc' := 163) rfl ?_
          refine own_goto X15 at_163 (pc' := 167) (by decide) (by decide) ?_
          exact own_retZ X15 (by decide) at_167 rfl (by decide) (by decide) rfl
        · -- no c13
          refine own_ifF X0 (own_z_ne c13).1 at_40 (pc' := 43) rfl ?_
          refine own_iloadN X0 rfl at_43 (pc' := 44) rfl ?_
          refine own_istore X0 (Ls' := #[.val (.int p0), .val (.int p1), .val (.int p2), .val (.int p3), .val (.int p4), .val (.int (0 : Int32)), .val (.int p1), .val (.int p2), .val (.int p1), .unset, .unset]) rfl at_44 (pc' := 46) rfl ?_
          refine own_goto X0 at_46 (pc' := 52) (by decide) (by decide) ?_
          refine own_iload X0 rfl at_52 (pc' := 54) rfl ?_
          refine own_newarray X0 (ty := .double) rfl (hw _ (List.mem_of_getElem? (i := 0) rfl)) (n := 0) (vs := []) (by decide) (by decide) (by decide) rfl (cells' := 1) (slots' := 0) rfl rfl (by decide) (by decide) at_54 (pc' := 56) rfl fun a17 T17 h17 g17 ge17 X17 E17 V17 => ?_
          refine own_astore X17 (Ls' := #[.val (.int p0), .val (.int p1), .val (.int p2), .val (.int p3), .val (.int p4), .val (.int (0 : Int32)), .val (.int p1), .val (.int p2), .val (.int p1), .val (.ref a17), .unset]) rfl rfl at_56 (pc' := 58) rfl ?_
          refine own_iload X17 rfl at_58 (pc' := 60) rfl ?_
          refine own_ifT X17 (by decide) at_60 (pc' := 70) (by decide) (by decide) ?_
          refine own_iload X17 rfl at_70 (pc' := 72) rfl ?_
          refine own_iconst X17 (v := (1 : Int32)) (by decide) at_72 (pc' := 73) rfl ?_
          refine own_icmpT X17 (by decide) at_73 (pc' := 83) (by decide) (by decide) ?_
          refine own_iload X17 rfl at_83 (pc' := 85) rfl ?_
          refine own_iconst X17 (v := (2 : Int32)) (by decide) at_85 (pc' := 86) rfl ?_
          refine own_icmpT X17 (by decide) at_86 (pc' := 96) (by decide) (by decide) ?_
          refine own_iload X17 rfl at_96 (pc' := 98) rfl ?_
          refine own_iconst X17 (v := (1 : Int32)) (by decide) at_98 (pc' := 99) rfl ?_
          refine own_icmpF X17 (by decide) at_99 (pc' := 102) rfl ?_
          refine own_iconst X17 (v := (1 : Int32)) (by decide) at_102 (pc' := 103) rfl ?_
          refine own_istore X17 (Ls' := #[.val (.int p0), .val (.int p1), .val (.int p2), .val (.int p3), .val (.int p4), .val (.int (0 : Int32)), .val (.int p1), .val (.int p2), .val (.int p1), .val (.ref a17), .val (.int (1 : Int32))]) rfl at_103 (pc' := 105) rfl ?_
          refine own_goto X17 at_105 (pc' := 152) (by decide) (by decide) ?_
          refine own_aload X17 rfl rfl at_152 (pc' := 154) rfl ?_
          refine own_callS X17 (own_ae0 l Z a0 hw a17  _ n0 X17.le V17 ) (hw _ (List.mem_of_getElem? (i := 1) rfl)) (hw _ (List.mem_of_getElem? (i := 2) rfl)) (hw _ (List.mem_of_getElem? (i := 3) rfl)) (hw _ (List.mem_of_getElem? (i := 4) rfl)) (by decide) rfl (by decide) (W := 0) (Nat.le_of_eq rfl) (by decide) (cells' := 1) (slots' := 0) rfl rfl (by decide) (by decide) (argsL := [(.ref a17)]) (rest := []) (lenOf own_pd0 rfl) rfl rfl at_154 (pc' := 157) rfl ?_
          rintro _ T18 h18 X18 ⟨⟨r18, rfl, hr18⟩, e18⟩
          subst e18
          show own_Goal p e below _ T18 (mkF m 157 #[.val (.int p0), .val (.int p1), .val (.int p2), .val (.int p3), .val (.int p4), .val (.int (0 : Int32)), .val (.int p1), .val (.int p2), .val (.int p1), .val (.ref a17), .val (.int (1 : Int32))] [(.int r18)])
          refine own_iload X18 rfl at_157 (pc' := 159) rfl ?_
          have c19 : r18 = (1 : Int32) := own_pick_1 hr18 (by first | trivial | omega)
          refine own_icmpF X18 (own_i_eq c19).2 at_159 (pc' := 162) rfl ?_
          refine own_iconst X18 (v := (1 : Int32)) (by decide) at_162 (pc' := 163) rfl ?_
          refine own_goto X18 at_163 (pc' := 167) (by decide) (by decide) ?_
          exact own_retZ X18 (by decide) at_167 rfl (by decide) (by decide) rfl
      · -- no c11
        refine own_ifF X0 (own_z_ne c11).1 at_26 (pc' := 29) rfl ?_
        refine own_iload X0 rfl at_29 (pc' := 31) rfl ?_
        refine own_istore X0 (Ls' := #[.val (.int p0), .val (.int p1), .val (.int p2), .val (.int p3), .val (.int p4), .val (.int (0 : Int32)), .val (.int p1), .val (.int p2), .val (.int p2), .unset, .unset]) rfl at_31 (pc' := 33) rfl ?_
        refine own_goto X0 at_33 (pc' := 52) (by decide) (by decide) ?_
        refine own_iload X0 rfl at_52 (pc' := 54) rfl ?_
        refine own_newarray X0 (ty := .double) rfl (hw _ (List.mem_of_getElem? (i := 0) rfl)) (n := 0) (vs := []) (by decide) (by decide) (by decide) rfl (cells' := 1) (slots' := 0) rfl rfl (by decide) (by decide) at_54 (pc' := 56) rfl fun a20 T20 h20 g20 ge20 X20 E20 V20 => ?_
        refine own_astore X20 (Ls' := #[.val (.int p0), .val (.int p1), .val (.int p2), .val (.int p3), .val (.int p4), .val (.int (0 : Int32)), .val (.int p1), .val (.int p2), .val (.int p2), .val (.ref a20), .unset]) rfl rfl at_56 (pc' := 58) rfl ?_
        refine own_iload X20 rfl at_58 (pc' := 60) rfl ?_
        refine own_ifT X20 (by decide) at_60 (pc' := 70) (by decide) (by decide) ?_
        refine own_iload X20 rfl at_70 (pc' := 72) rfl ?_
        refine own_iconst X20 (v := (1 : Int32)) (by decide) at_72 (pc' := 73) rfl ?_
        refine own_icmpT X20 (by decide) at_73 (pc' := 83) (by decide) (by decide) ?_
        refine own_iload X20 rfl at_83 (pc' := 85) rfl ?_
        refine own_iconst X20 (v := (2 : Int32)) (by decide) at_85 (pc' := 86) rfl ?_
        refine own_icmpT X20 (by decide) at_86 (pc' := 96) (by decide) (by decide) ?_
        refine own_iload X20 rfl at_96 (pc' := 98) rfl ?_
        refine own_iconst X20 (v := (1 : Int32)) (by decide) at_98 (pc' := 99) rfl ?_
        refine own_icmpF X20 (by decide) at_99 (pc' := 102) rfl ?_
        refine own_iconst X20 (v := (1 : Int32)) (by decide) at_102 (pc' := 103) rfl ?_
        refine own_istore X20 (Ls' := #[.val (.int p0), .val (.int p1), .val (.int p2), .val (.int p3), .val (.int p4), .val (.int (0 : Int32)), .val (.int p1), .val (.int p2), .val (.int p2), .val (.ref a20), .val (.int (1 : Int32))]) rfl at_103 (pc' := 105) rfl ?_
        refine own_goto X20 at_105 (pc' := 152) (by decide) (by decide) ?_
        refine own_aload X20 rfl rfl at_152 (pc' := 154) rfl ?_
        refine own_callS X20 (own_ae0 l Z a0 hw a20  _ n0 X20.le V20 ) (hw _ (List.mem_of_getElem? (i := 1) rfl)) (hw _ (List.mem_of_getElem? (i := 2) rfl)) (hw _ (List.mem_of_getElem? (i := 3) rfl)) (hw _ (List.mem_of_getElem? (i := 4) rfl)) (by decide) rfl (by decide) (W := 0) (Nat.le_of_eq rfl) (by decide) (cells' := 1) (slots' := 0) rfl rfl (by decide) (by decide) (argsL := [(.ref a20)]) (rest := []) (lenOf own_pd0 rfl) rfl rfl at_154 (pc' := 157) rfl ?_
        rintro _ T21 h21 X21 ⟨⟨r21, rfl, hr21⟩, e21⟩
        subst e21
        show own_Goal p e below _ T21 (mkF m 157 #[.val (.int p0), .val (.int p1), .val (.int p2), .val (.int p3), .val (.int p4), .val (.int (0 : Int32)), .val (.int p1), .val (.int p2), .val (.int p2), .val (.ref a20), .val (.int (1 : Int32))] [(.int r21)])
        refine own_iload X21 rfl at_157 (pc' := 159) rfl ?_
        have c22 : r21 = (1 : Int32) := own_pick_1 hr21 (by first | trivial | omega)
        refine own_icmpF X21 (own_i_eq c22).2 at_159 (pc' := 162) rfl ?_
        refine own_iconst X21 (v := (1 : Int32)) (by decide) at_162 (pc' := 163) rfl ?_
        refine own_goto X21 at_163 (pc' := 167) (by decide) (by decide) ?_
        exact own_retZ X21 (by decide) at_167 rfl (by decide) (by decide) rfl
    · -- no c9
      refine own_ifF X0 (own_z_ne c9).1 at_12 (pc' := 15) rfl ?_
      refine own_iloadN X0 rfl at_15 (pc' := 16) rfl ?_
      refine own_goto X0 at_16 (pc' := 20) (by decide) (by decide) ?_
      refine own_istore X0 (Ls' := #[.val (.int p0), .val (.int p1), .val (.int p2), .val (.int p3), .val (.int p4), .val (.int (0 : Int32)), .val (.int p1), .val (.int p1), .unset, .unset, .unset]) rfl at_20 (pc' := 22) rfl ?_
      refine own_iload X0 rfl at_22 (pc' := 24) rfl ?_
      refine own_iconst X0 (v := (2 : Int32)) (by decide) at_24 (pc' := 25) rfl ?_
      obtain ⟨i23, e23⟩ : ∃ v, p4 &&& (2 : Int32) = v := ⟨_, rfl⟩
      have f23 : own_I 2 i23.toInt i23 := own_I.and e23 (by decide)
      have nn23 := own_and_nn (M := 2) e23 (by decide)
      refine own_iand X0 e23 at_25 (pc' := 26) rfl ?_
      by_cases c24 : i23 = 0
      · -- yes c24
        refine own_ifT X0 (own_z_eq c24).1 at_26 (pc' := 36) (by decide) (by decide) ?_
        refine own_iload X0 rfl at_36 (pc' := 38) rfl ?_
        refine own_iconst X0 (v := (4 : Int32)) (by decide) at_38 (pc' := 39) rfl ?_
        obtain ⟨i25, e25⟩ : ∃ v, p4 &&& (4 : Int32) = v := ⟨_, rfl⟩
        have f25 : own_I 4 i25.toInt i25 := own_I.and e25 (by decide)
        have nn25 := own_and_nn (M := 4) e25 (by decide)
        refine own_iand X0 e25 at_39 (pc' := 40) rfl ?_
        by_cases c26 : i25 = 0
        · -- yes c26
          refine own_ifT X0 (own_z_eq c26).1 at_40 (pc' := 49) (by decide) (by decide) ?_
          refine own_iloadN X0 rfl at_49 (pc' := 50) rfl ?_
          refine own_istore X0 (Ls' := #[.val (.int p0), .val (.int p1), .val (.int p2), .val (.int p3), .val (.int p4), .val (.int (0 : Int32)), .val (.int p1), .val (.int p1), .val (.int p3), .unset, .unset]) rfl at_50 (pc' := 52) rfl ?_
          refine own_iload X0 rfl at_52 (pc' := 54) rfl ?_
          refine own_newarray X0 (ty := .double) rfl (hw _ (List.mem_of_getElem? (i := 0) rfl)) (n := 0) (vs := []) (by decide) (by decide) (by decide) rfl (cells' := 1) (slots' := 0) rfl rfl (by decide) (by decide) at_54 (pc' := 56) rfl fun a27 T27 h27 g27 ge27 X27 E27 V27 => ?_
          refine own_astore X27 (Ls' := #[.val (.int p0), .val (.int p1), .val (.int p2), .val (.int p3), .val (.int p4), .val (.int (0 : Int32)), .val (.int p1), .val (.int p1), .val (.int p3), .val (.ref a27), .unset]) rfl rfl at_56 (pc' := 58) rfl ?_
          refine own_iload X27 rfl at_58 (pc' := 60) rfl ?_
          refine own_ifT X27 (by decide) at_60 (pc' := 70) (by decide) (by decide) ?_
          refine own_iload X27 rfl at_70 (pc' := 72) rfl ?_
          refine own_iconst X27 (v := (1 : Int32)) (by decide) at_72 (pc' := 73) rfl ?_
          refine own_icmpT X27 (by decide) at_73 (pc' := 83) (by decide) (by decide) ?_
          refine own_iload X27 rfl at_83 (pc' := 85) rfl ?_
          refine own_iconst X27 (v := (2 : Int32)) (by decide) at_85 (pc' := 86) rfl ?_
          refine own_icmpT X27 (by decide) at_86 (pc' := 96) (by decide) (by decide) ?_
          refine own_iload X27 rfl at_96 (pc' := 98) rfl ?_
          refine own_iconst X27 (v := (1 : Int32)) (by decide) at_98 (pc' := 99) rfl ?_
          refine own_icmpF X27 (by decide) at_99 (pc' := 102) rfl ?_
          refine own_iconst X27 (v := (1 : Int32)) (by decide) at_102 (pc' := 103) rfl ?_
          refine own_istore X27 (Ls' := #[.val (.int p0), .val (.int p1), .val (.int p2), .val (.int p3), .val (.int p4), .val (.int (0 : Int32)), .val (.int p1), .val (.int p1), .val (.int p3), .val (.ref a27), .val (.int (1 : Int32))]) rfl at_103 (pc' := 105) rfl ?_
          refine own_goto X27 at_105 (pc' := 152) (by decide) (by decide) ?_
          refine own_aload X27 rfl rfl at_152 (pc' := 154) rfl ?_
          refine own_callS X27 (own_ae0 l Z a0 hw a27  _ n0 X27.le V27 ) (hw _ (List.mem_of_getElem? (i := 1) rfl)) (hw _ (List.mem_of_getElem? (i := 2) rfl)) (hw _ (List.mem_of_getElem? (i := 3) rfl)) (hw _ (List.mem_of_getElem? (i := 4) rfl)) (by decide) rfl (by decide) (W := 0) (Nat.le_of_eq rfl) (by decide) (cells' := 1) (slots' := 0) rfl rfl (by decide) (by decide) (argsL := [(.ref a27)]) (rest := []) (lenOf own_pd0 rfl) rfl rfl at_154 (pc' := 157) rfl ?_
          rintro _ T28 h28 X28 ⟨⟨r28, rfl, hr28⟩, e28⟩
          subst e28
          show own_Goal p e below _ T28 (mkF m 157 #[.val (.int p0), .val (.int p1), .val (.int p2), .val (.int p3), .val (.int p4), .val (.int (0 : Int32)), .val (.int p1), .val (.int p1), .val (.int p3), .val (.ref a27), .val (.int (1 : Int32))] [(.int r28)])
          refine own_iload X28 rfl at_157 (pc' := 159) rfl ?_
          have c29 : r28 = (1 : Int32) := own_pick_1 hr28 (by first | trivial | omega)
          refine own_icmpF X28 (own_i_eq c29).2 at_159 (pc' := 162) rfl ?_
          refine own_iconst X28 (v := (1 : Int32)) (by decide) at_162 (pc' := 163) rfl ?_
          refine own_goto X28 at_163 (pc' := 167) (by decide) (by decide) ?_
          exact own_retZ X28 (by decide) at_167 rfl (by decide) (by decide) rfl
        · -- no c26
          refine own_ifF X0 (own_z_ne c26).1 at_40 (pc' := 43) rfl ?_
          refine own_iloadN X0 rfl at_43 (pc' := 44) rfl ?_
          refine own_istore X0 (Ls' := #[.val (.int p0), .val (.int p1), .val (.int p2), .val (.int p3), .val (.int p4), .val (.int (0 : Int32)), .val (.int p1), .val (.int p1), .val (.int p1), .unset, .unset]) rfl at_44 (pc' := 46) rfl ?_
          refine own_goto X0 at_46 (pc' := 52) (by decide) (by decide) ?_
          refine own_iload X0 rfl at_52 (pc' := 54) rfl ?_
          refine own_newarray X0 (ty := .double) rfl (hw _ (List.mem_of_getElem? (i := 0) rfl)) (n := 0) (vs := []) (by decide) (by decide) (by decide) rfl (cells' := 1) (slots' := 0) rfl rfl (by decide) (by decide) at_54 (pc' := 56) rfl fun a30 T30 h30 g30 ge30 X30 E30 V30 => ?_
          refine own_astore X30 (Ls' := #[.val (.int p0), .val (.int p1), .val (.int p2), .val (.int p3), .val (.int p4), .val (.int (0 : Int32)), .val (.int p1), .val (.int p1), .val (.int p1), .val (.ref a30), .unset]) rfl rfl at_56 (pc' := 58) rfl ?_
          refine own_iload X30 rfl at_58 (pc' := 60) rfl ?_
          refine own_ifT X30 (by decide) at_60 (pc' := 70) (by decide) (by decide) ?_
          refine own_iload X30 rfl at_70 (pc' := 72) rfl ?_
          refine own_iconst X30 (v := (1 : Int32)) (by decide) at_72 (pc' := 73) rfl ?_
          refine own_icmpT X30 (by decide) at_73 (pc' := 83) (by decide) (by decide) ?_
          refine own_iload X30 rfl at_83 (pc' := 85) rfl ?_
          refine own_iconst X30 (v := (2 : Int32)) (by decide) at_85 (pc' := 86) rfl ?_
          refine own_icmpT X30 (by decide) at_86 (pc' := 96) (by decide) (by decide) ?_
          refine own_iload X30 rfl at_96 (pc' := 98) rfl ?_
          refine own_iconst X30 (v := (1 : Int32)) (by decide) at_98 (pc' := 99) rfl ?_
          refine own_icmpF X30 (by decide) at_99 (pc' := 102) rfl ?_
          refine own_iconst X30 (v := (1 : Int32)) (by decide) at_102 (pc' := 103) rfl ?_
          refine own_istore X30 (Ls' := #[.val (.int p0), .val (.int p1), .val (.int p2), .val (.int p3), .val (.int p4), .val (.int (0 : Int32)), .val (.int p1), .val (.int p1), .val (.int p1), .val (.ref a30), .val (.int (1 : Int32))]) rfl at_103 (pc' := 105) rfl ?_
          refine own_goto X30 at_105 (pc' := 152) (by decide) (by decide) ?_
          refine own_aload X30 rfl rfl at_152 (pc' := 154) rfl ?_
          refine own_callS X30 (own_ae0 l Z a0 hw a30  _ n0 X30.le V30 ) (hw _ (List.mem_of_getElem? (i := 1) rfl)) (hw _ (List.mem_of_getElem? (i := 2) rfl)) (hw _ (List.mem_of_getElem? (i := 3) rfl)) (hw _ (List.mem_of_getElem? (i := 4) rfl)) (by decide) rfl (by decide) (W := 0) (Nat.le_of_eq rfl) (by decide) (cells' := 1) (slots' := 0) rfl rfl (by decide) (by decide) (argsL := [(.ref a30)]) (rest := []) (lenOf own_pd0 rfl) rfl rfl at_154 (pc' := 157) rfl ?_
          rintro _ T31 h31 X31 ⟨⟨r31, rfl, hr31⟩, e31⟩
          subst e31
          show own_Goal p e below _ T31 (mkF m 157 #[.val (.int p0), .val (.int p1), .val (.int p2), .val (.int p3), .val (.int p4), .val (.int (0 : Int32)), .val (.int p1), .val (.int p1), .val (.int p1), .val (.ref a30), .val (.int (1 : Int32))] [(.int r31)])
          refine own_iload X31 rfl at_157 (pc' := 159) rfl ?_
          have c32 : r31 = (1 : Int32) := own_pick_1 hr31 (by first | trivial | omega)
          refine own_icmpF X31 (own_i_eq c32).2 at_159 (pc' := 162) rfl ?_
          refine own_iconst X31 (v := (1 : Int32)) (by decide) at_162 (pc' := 163) rfl ?_
          refine own_goto X31 at_163 (pc' := 167) (by decide) (by decide) ?_
          exact own_retZ X31 (by decide) at_167 rfl (by decide) (by decide) rfl
      · -- no c24
        refine own_ifF X0 (own_z_ne c24).1 at_26 (pc' := 29) rfl ?_
        refine own_iload X0 rfl at_29 (pc' := 31) rfl ?_
        refine own_istore X0 (Ls' := #[.val (.int p0), .val (.int p1), .val (.int p2), .val (.int p3), .val (.int p4), .val (.int (0 : Int32)), .val (.int p1), .val (.int p1), .val (.int p1), .unset, .unset]) rfl at_31 (pc' := 33) rfl ?_
        refine own_goto X0 at_33 (pc' := 52) (by decide) (by decide) ?_
        refine own_iload X0 rfl at_52 (pc' := 54) rfl ?_
        refine own_newarray X0 (ty := .double) rfl (hw _ (List.mem_of_getElem? (i := 0) rfl)) (n := 0) (vs := []) (by decide) (by decide) (by decide) rfl (cells' := 1) (slots' := 0) rfl rfl (by decide) (by decide) at_54 (pc' := 56) rfl fun a33 T33 h33 g33 ge33 X33 E33 V33 => ?_
        refine own_astore X33 (Ls' := #[.val (.int p0), .val (.int p1), .val (.int p2), .val (.int p3), .val (.int p4), .val (.int (0 : Int32)), .val (.int p1), .val (.int p1), .val (.int p1), .val (.ref a33), .unset]) rfl rfl at_56 (pc' := 58) rfl ?_
        refine own_iload X33 rfl at_58 (pc' := 60) rfl ?_
        refine own_ifT X33 (by decide) at_60 (pc' := 70) (by decide) (by decide) ?_
        refine own_iload X33 rfl at_70 (pc' := 72) rfl ?_
        refine own_iconst X33 (v := (1 : Int32)) (by decide) at_72 (pc' := 73) rfl ?_
        refine own_icmpT X33 (by decide) at_73 (pc' := 83) (by decide) (by decide) ?_
        refine own_iload X33 rfl at_83 (pc' := 85) rfl ?_
        refine own_iconst X33 (v := (2 : Int32)) (by decide) at_85 (pc' := 86) rfl ?_
        refine own_icmpT X33 (by decide) at_86 (pc' := 96) (by decide) (by decide) ?_
        refine own_iload X33 rfl at_96 (pc' := 98) rfl ?_
        refine own_iconst X33 (v := (1 : Int32)) (by decide) at_98 (pc' := 99) rfl ?_
        refine own_icmpF X33 (by decide) at_99 (pc' := 102) rfl ?_
        refine own_iconst X33 (v := (1 : Int32)) (by decide) at_102 (pc' := 103) rfl ?_
        refine own_istore X33 (Ls' := #[.val (.int p0), .val (.int p1), .val (.int p2), .val (.int p3), .val (.int p4), .val (.int (0 : Int32)), .val (.int p1), .val (.int p1), .val (.int p1), .val (.ref a33), .val (.int (1 : Int32))]) rfl at_103 (pc' := 105) rfl ?_
        refine own_goto X33 at_105 (pc' := 152) (by decide) (by decide) ?_
        refine own_aload X33 rfl rfl at_152 (pc' := 154) rfl ?_
        refine own_callS X33 (own_ae0 l Z a0 hw a33  _ n0 X33.le V33 ) (hw _ (List.mem_of_getElem? (i := 1) rfl)) (hw _ (List.mem_of_getElem? (i := 2) rfl)) (hw _ (List.mem_of_getElem? (i := 3) rfl)) (hw _ (List.mem_of_getElem? (i := 4) rfl)) (by decide) rfl (by decide) (W := 0) (Nat.le_of_eq rfl) (by decide) (cells' := 1) (slots' := 0) rfl rfl (by decide) (by decide) (argsL := [(.ref a33)]) (rest := []) (lenOf own_pd0 rfl) rfl rfl at_154 (pc' := 157) rfl ?_
        rintro _ T34 h34 X34 ⟨⟨r34, rfl, hr34⟩, e34⟩
        subst e34
        show own_Goal p e below _ T34 (mkF m 157 #[.val (.int p0), .val (.int p1), .val (.int p2), .val (.int p3), .val (.int p4), .val (.int (0 : Int32)), .val (.int p1), .val (.int p1), .val (.int p1), .val (.ref a33), .val (.int (1 : Int32))] [(.int r34)])
        refine own_iload X34 rfl at_157 (pc' := 159) rfl ?_
        have c35 : r34 = (1 : Int32) := own_pick_1 hr34 (by first | trivial | omega)
        refine own_icmpF X34 (own_i_eq c35).2 at_159 (pc' := 162) rfl ?_
        refine own_iconst X34 (v := (1 : Int32)) (by decide) at_162 (pc' := 163) rfl ?_
        refine own_goto X34 at_163 (pc' := 167) (by decide) (by decide) ?_
        exact own_retZ X34 (by decide) at_167 rfl (by decide) (by decide) rfl
  · -- 1
    refine own_istore X0 (Ls' := #[.val (.int p0), .val (.int p1), .val (.int p2), .val (.int p3), .val (.int p4), .val (.int (1 : Int32)), .unset, .unset, .unset, .unset, .unset]) rfl at_3 (pc' := 5) rfl ?_
    refine own_iloadN X0 rfl at_5 (pc' := 6) rfl ?_
    refine own_istore X0 (Ls' := #[.val (.int p0), .val (.int p1), .val (.int p2), .val (.int p3), .val (.int p4), .val (.int (1 : Int32)), .val (.int p1), .unset, .unset, .unset, .unset]) rfl at_6 (pc' := 8) rfl ?_
    refine own_iload X0 rfl at_8 (pc' := 10) rfl ?_
    refine own_iconst X0 (v := (1 : Int32)) (by decide) at_10 (pc' := 11) rfl ?_
    obtain ⟨i36, e36⟩ : ∃ v, p4 &&& (1 : Int32) = v := ⟨_, rfl⟩
    have f36 : own_I 1 i36.toInt i36 := own_I.and e36 (by decide)
    have nn36 := own_and_nn (M := 1) e36 (by decide)
    refine own_iand X0 e36 at_11 (pc' := 12) rfl ?_
    by_cases c37 : i36 = 0
    · -- yes c37
      refine own_ifT X0 (own_z_eq c37).1 at_12 (pc' := 19) (by decide) (by decide) ?_
      refine own_iloadN X0 rfl at_19 (pc' := 20) rfl ?_
      refine own_istore X0 (Ls' := #[.val (.int p0), .val (.int p1), .val (.int p2), .val (.int p3), .val (.int p4), .val (.int (1 : Int32)), .val (.int p1), .val (.int p2), .unset, .unset, .unset]) rfl at_20 (pc' := 22) rfl ?_
      refine own_iload X0 rfl at_22 (pc' := 24) rfl ?_
      refine own_iconst X0 (v := (2 : Int32)) (by decide) at_24 (pc' := 25) rfl ?_
      obtain ⟨i38, e38⟩ : ∃ v, p4 &&& (2 : Int32) = v := ⟨_, rfl⟩
      have f38 : own_I 2 i38.toInt i38 := own_I.and e38 (by decide)
      have nn38 := own_and_nn (M := 2) e38 (by decide)
      refine own_iand X0 e38 at_25 (pc' := 26) rfl ?_
      by_cases c39 : i38 = 0
      · -- yes c39
        refine own_ifT X0 (own_z_eq c39).1 at_26 (pc' := 36) (by decide) (by decide) ?_
        refine own_iload X0 rfl at_36 (pc' := 38) rfl ?_
        refine own_iconst X0 (v := (4 : Int32)) (by decide) at_38 (pc' := 39) rfl ?_
        obtain ⟨i40, e40⟩ : ∃ v, p4 &&& (4 : Int32) = v := ⟨_, rfl⟩
        have f40 : own_I 4 i40.toInt i40 := own_I.and e40 (by decide)
        have nn40 := own_and_nn (M := 4) e40 (by decide)
        refine own_iand X0 e40 at_39 (pc' := 40) rfl ?_
        by_cases c41 : i40 = 0
        · -- yes c41
          refine own_ifT X0 (own_z_eq c41).1 at_40 (pc' := 49) (by decide) (by decide) ?_
          refine own_iloadN X0 rfl at_49 (pc' := 50) rfl ?_
          refine own_istore X0 (Ls' := #[.val (.int p0), .val (.int p1), .val (.int p2), .val (.int p3), .val (.int p4), .val (.int (1 : Int32)), .val (.int p1), .val (.int p2), .val (.int p3), .unset, .unset]) rfl at_50 (pc' := 52) rfl ?_
          refine own_iload X0 rfl at_52 (pc' := 54) rfl ?_
          refine own_newarray X0 (ty := .double) rfl (hw _ (List.mem_of_getElem? (i := 0) rfl)) (n := 1) (vs := [(.double (0 : UInt64))]) (by decide) (by decide) (by decide) rfl (cells' := 1) (slots' := 1) rfl rfl (by decide) (by decide) at_54 (pc' := 56) rfl fun a42 T42 h42 g42 ge42 X42 E42 V42 => ?_
          refine own_astore X42 (Ls' := #[.val (.int p0), .val (.int p1), .val (.int p2), .val (.int p3), .val (.int p4), .val (.int (1 : Int32)), .val (.int p1), .val (.int p2), .val (.int p3), .val (.ref a42), .unset]) rfl rfl at_56 (pc' := 58) rfl ?_
          refine own_iload X42 rfl at_58 (pc' := 60) rfl ?_
          refine own_ifF X42 (by decide) at_60 (pc' := 63) rfl ?_
          refine own_aload X42 rfl rfl at_63 (pc' := 65) rfl ?_
          refine own_iconst X42 (v := (0 : Int32)) (by decide) at_65 (pc' := 66) rfl ?_
          refine own_iload X42 rfl at_66 (pc' := 68) rfl ?_
          have f43 := own_I.start p1
          obtain ⟨d44, e44⟩ : ∃ v, FP.i2d p1 = v := ⟨_, rfl⟩
          have f44 : own_D 0 2147483648 p1.toInt d44 := own_D.i2d f43 e44
          refine own_i2d X42 e44 at_68 (pc' := 69) rfl ?_
          refine own_dastore X42 V42 ge42 (i := 0) (by decide) (by decide) (show 0 < 1 by decide) at_69 (pc' := 70) rfl fun T45 h45 X45 W45 V45 => ?_
          replace V45 : own_Vec Z h45 a42 .double [(.double d44)] := V45
          refine own_iload X45 rfl at_70 (pc' := 72) rfl ?_
          refine own_iconst X45 (v := (1 : Int32)) (by decide) at_72 (pc' := 73) rfl ?_
          refine own_icmpT X45 (by decide) at_73 (pc' := 83) (by decide) (by decide) ?_
          refine own_iload X45 rfl at_83 (pc' := 85) rfl ?_
          refine own_iconst X45 (v := (2 : Int32)) (by decide) at_85 (pc' := 86) rfl ?_
          refine own_icmpT X45 (by decide) at_86 (pc' := 96) (by decide) (by decide) ?_
          refine own_iload X45 rfl at_96 (pc' := 98) rfl ?_
          refine own_iconst X45 (v := (1 : Int32)) (by decide) at_98 (pc' := 99) rfl ?_
          refine own_icmpF X45 (by decide) at_99 (pc' := 102) rfl ?_
          refine own_iconst X45 (v := (1 : Int32)) (by decide) at_102 (pc' := 103) rfl ?_
          refine own_istore X45 (Ls' := #[.val (.int p0), .val (.int p1), .val (.int p2), .val (.int p3), .val (.int p4), .val (.int (1 : Int32)), .val (.int p1), .val (.int p2), .val (.int p3), .val (.ref a42), .val (.int (1 : Int32))]) rfl at_103 (pc' := 105) rfl ?_
          refine own_goto X45 at_105 (pc' := 152) (by decide) (by decide) ?_
          refine own_aload X45 rfl rfl at_152 (pc' := 154) rfl ?_
          refine own_callS X45 (own_ae1 l Z a0 hw a42 d44 p1.toInt _ n0 X45.le V45 f44) (hw _ (List.mem_of_getElem? (i := 1) rfl)) (hw _ (List.mem_of_getElem? (i := 2) rfl)) (hw _ (List.mem_of_getElem? (i := 3) rfl)) (hw _ (List.mem_of_getElem? (i := 4) rfl)) (by decide) rfl (by decide) (W := 0) (Nat.le_of_eq rfl) (by decide) (cells' := 1) (slots' := 1) rfl rfl (by decide) (by decide) (argsL := [(.ref a42)]) (rest := []) (lenOf own_pd0 rfl) rfl rfl at_154 (pc' := 157) rfl ?_
          rintro _ T46 h46 X46 ⟨⟨r46, rfl, hr46⟩, e46⟩
          subst e46
          show own_Goal p e below _ T46 (mkF m 157 #[.val (.int p0), .val (.int p1), .val (.int p2), .val (.int p3), .val (.int p4), .val (.int (1 : Int32)), .val (.int p1), .val (.int p2), .val (.int p3), .val (.ref a42), .val (.int (1 : Int32))] [(.int r46)])
          refine own_iload X46 rfl at_157 (pc' := 159) rfl ?_
          have c47 : r46 = (1 : Int32) := own_pick_1 hr46 (by first | trivial | omega)
          refine own_icmpF X46 (own_i_eq c47).2 at_159 (pc' := 162) rfl ?_
          refine own_iconst X46 (v := (1 : Int32)) (by decide) at_162 (pc' := 163) rfl ?_
          refine own_goto X46 at_163 (pc' := 167) (by decide) (by decide) ?_
          exact own_retZ X46 (by decide) at_167 rfl (by decide) (by decide) rfl
        · -- no c41
          refine own_ifF X0 (own_z_ne c41).1 at_40 (pc' := 43) rfl ?_
          refine own_iloadN X0 rfl at_43 (pc' := 44) rfl ?_
          refine own_istore X0 (Ls' := #[.val (.int p0), .val (.int p1), .val (.int p2), .val (.int p3), .val (.int p4), .val (.int (1 : Int32)), .val (.int p1), .val (.int p2), .val (.int p1), .unset, .unset]) rfl at_44 (pc' := 46) rfl ?_
          refine own_goto X0 at_46 (pc' := 52) (by decide) (by decide) ?_
          refine own_iload X0 rfl at_52 (pc' := 54) rfl ?_
          refine own_newarray X0 (ty := .double) rfl (hw _ (List.mem_of_getElem? (i := 0) rfl)) (n := 1) (vs := [(.double (0 : UInt64))]) (by decide) (by decide) (by decide) rfl (cells' := 1) (slots' := 1) rfl rfl (by decide) (by decide) at_54 (pc' := 56) rfl fun a48 T48 h48 g48 ge48 X48 E48 V48 => ?_
          refine own_astore X48 (Ls' := #[.val (.int p0), .val (.int p1), .val (.int p2), .val (.int p3), .val (.int p4), .val (.int (1 : Int32)), .val (.int p1), .val (.int p2), .val (.int p1), .val (.ref a48), .unset]) rfl rfl at_56 (pc' := 58) rfl ?_
          refine own_iload X48 rfl at_58 (pc' := 60) rfl ?_
          refine own_ifF X48 (by decide) at_60 (pc' := 63) rfl ?_
          refine own_aload X48 rfl rfl at_63 (pc' := 65) rfl ?_
          refine own_iconst X48 (v := (0 : Int32)) (by decide) at_65 (pc' := 66) rfl ?_
          refine own_iload X48 rfl at_66 (pc' := 68) rfl ?_
          have f49 := own_I.start p1
          obtain ⟨d50, e50⟩ : ∃ v, FP.i2d p1 = v := ⟨_, rfl⟩
          have f50 : own_D 0 2147483648 p1.toInt d50 := own_D.i2d f49 e50
          refine own_i2d X48 e50 at_68 (pc' := 69) rfl ?_
          refine own_dastore X48 V48 ge48 (i := 0) (by decide) (by decide) (show 0 < 1 by decide) at_69 (pc' := 70) rfl fun T51 h51 X51 W51 V51 => ?_
          replace V51 : own_Vec Z h51 a48 .double [(.double d50)] := V51
          refine own_iload X51 rfl at_70 (pc' := 72) rfl ?_
          refine own_iconst X51 (v := (1 : Int32)) (by decide) at_72 (pc' := 73) rfl ?_
          refine own_icmpT X51 (by decide) at_73 (pc' := 83) (by decide) (by decide) ?_
          refine own_iload X51 rfl at_83 (pc' := 85) rfl ?_
          refine own_iconst X51 (v := (2 : Int32)) (by decide) at_85 (pc' := 86) rfl ?_
          refine own_icmpT X51 (by decide) at_86 (pc' := 96) (by decide) (by decide) ?_
          refine own_iload X51 rfl at_96 (pc' := 98) rfl ?_
          refine own_iconst X51 (v := (1 : Int32)) (by decide) at_98 (pc' := 99) rfl ?_
          refine own_icmpF X51 (by decide) at_99 (pc' := 102) rfl ?_
          refine own_iconst X51 (v := (1 : Int32)) (by decide) at_102 (pc' := 103) rfl ?_
          refine own_istore X51 (Ls' := #[.val (.int p0), .val (.int p1), .val (.int p2), .val (.int p3), .val (.int p4), .val (.int (1 : Int32)), .val (.int p1), .val (.int p2), .val (.int p1), .val (.ref a48), .val (.int (1 : Int32))]) rfl at_103 (pc' := 105) rfl ?_
          refine own_goto X51 at_105 (pc' := 152) (by decide) (by decide) ?_
          refine own_aload X51 rfl rfl at_152 (pc' := 154) rfl ?_
          refine own_callS X51 (own_ae1 l Z a0 hw a48 d50 p1.toInt _ n0 X51.le V51 f50) (hw _ (List.mem_of_getElem? (i := 1) rfl)) (hw _ (List.mem_of_getElem? (i := 2) rfl)) (hw _ (List.mem_of_getElem? (i := 3) rfl)) (hw _ (List.mem_of_getElem? (i := 4) rfl)) (by decide) rfl (by decide) (W := 0) (Nat.le_of_eq rfl) (by decide) (cells' := 1) (slots' := 1) rfl rfl (by decide) (by decide) (argsL := [(.ref a48)]) (rest := []) (lenOf own_pd0 rfl) rfl rfl at_154 (pc' := 157) rfl ?_
          rintro _ T52 h52 X52 ⟨⟨r52, rfl, hr52⟩, e52⟩
          subst e52
          show own_Goal p e below _ T52 (mkF m 157 #[.val (.int p0), .val (.int p1), .val (.int p2), .val (.int p3), .val (.int p4), .val (.int (1 : Int32)), .val (.int p1), .val (.int p2), .val (.int p1), .val (.ref a48), .val (.int (1 : Int32))] [(.int r52)])
          refine own_iload X52 rfl at_157 (pc' := 159) rfl ?_
          have c53 : r52 = (1 : Int32) := own_pick_1 hr52 (by first | trivial | omega)
          refine own_icmpF X52 (own_i_eq c53).2 at_159 (pc' := 162) rfl ?_
          refine own_iconst X52 (v := (1 : Int32)) (by decide) at_162 (pc' := 163) rfl ?_
          refine own_goto X52 at_163 (pc' := 167) (by decide) (by decide) ?_
          exact own_retZ X52 (by decide) at_167 rfl (by decide) (by decide) rfl
      · -- no c39
        refine own_ifF X0 (own_z_ne c39).1 at_26 (pc' := 29) rfl ?_
        refine own_iload X0 rfl at_29 (pc' := 31) rfl ?_
        refine own_istore X0 (Ls' := #[.val (.int p0), .val (.int p1), .val (.int p2), .val (.int p3), .val (.int p4), .val (.int (1 : Int32)), .val (.int p1), .val (.int p2), .val (.int p2), .unset, .unset]) rfl at_31 (pc' := 33) rfl ?_
        refine own_goto X0 at_33 (pc' := 52) (by decide) (by decide) ?_
        refine own_iload X0 rfl at_52 (pc' := 54) rfl ?_
        refine own_newarray X0 (ty := .double) rfl (hw _ (List.mem_of_getElem? (i := 0) rfl)) (n := 1) (vs := [(.double (0 : UInt64))]) (by decide) (by decide) (by decide) rfl (cells' := 1) (slots' := 1) rfl rfl (by decide) (by decide) at_54 (pc' := 56) rfl fun a54 T54 h54 g54 ge54 X54 E54 V54 => ?_
        refine own_astore X54 (Ls' := #[.val (.int p0), .val (.int p1), .val (.int p2), .val (.int p3), .val (.int p4), .val (.int (1 : Int32)), .val (.int p1), .val (.int p2), .val (.int p2), .val (.ref a54), .unset]) rfl rfl at_56 (pc' := 58) rfl ?_
        refine own_iload X54 rfl at_58 (pc' := 60) rfl ?_
        refine own_ifF X54 (by decide) at_60 (pc' := 63) rfl ?_
        refine own_aload X54 rfl rfl at_63 (pc' := 65) rfl ?_
        refine own_iconst X54 (v := (0 : Int32)) (by decide) at_65 (pc' := 66) rfl ?_
        refine own_iload X54 rfl at_66 (pc' := 68) rfl ?_
        have f55 := own_I.start p1
        obtain ⟨d56, e56⟩ : ∃ v, FP.i2d p1 = v := ⟨_, rfl⟩
        have f56 : own_D 0 2147483648 p1.toInt d56 := own_D.i2d f55 e56
        refine own_i2d X54 e56 at_68 (pc' := 69) rfl ?_
        refine own_dastore X54 V54 ge54 (i := 0) (by decide) (by decide) (show 0 < 1 by decide) at_69 (pc' := 70) rfl fun T57 h57 X57 W57 V57 => ?_
        replace V57 : own_Vec Z h57 a54 .double [(.double d56)] := V57
        refine own_iload X57 rfl at_70 (pc' := 72) rfl ?_
        refine own_iconst X57 (v := (1 : Int32)) (by decide) at_72 (pc' := 73) rfl ?_
        refine own_icmpT X57 (by decide) at_73 (pc' := 83) (by decide) (by decide) ?_
        refine own_iload X57 rfl at_83 (pc' := 85) rfl ?_
        refine own_iconst X57 (v := (2 : Int32)) (by decide) at_85 (pc' := 86) rfl ?_
        refine own_icmpT X57 (by decide) at_86 (pc' := 96) (by decide) (by decide) ?_
        refine own_iload X57 rfl at_96 (pc' := 98) rfl ?_
        refine own_iconst X57 (v := (1 : Int32)) (by decide) at_98 (pc' := 99) rfl ?_
        refine own_icmpF X57 (by decide) at_99 (pc' := 102) rfl ?_
        refine own_iconst X57 (v := (1 : Int32)) (by decide) at_102 (pc' := 103) rfl ?_
        refine own_istore X57 (Ls' := #[.val (.int p0), .val (.int p1), .val (.int p2), .val (.int p3), .val (.int p4), .val (.int (1 : Int32)), .val (.int p1), .val (.int p2), .val (.int p2), .val (.ref a54), .val (.int (1 : Int32))]) rfl at_103 (pc' := 105) rfl ?_
        refine own_goto X57 at_105 (pc' := 152) (by decide) (by decide) ?_
        refine own_aload X57 rfl rfl at_152 (pc' := 154) rfl ?_
        refine own_callS X57 (own_ae1 l Z a0 hw a54 d56 p1.toInt _ n0 X57.le V57 f56) (hw _ (List.mem_of_getElem? (i := 1) rfl)) (hw _ (List.mem_of_getElem? (i := 2) rfl)) (hw _ (List.mem_of_getElem? (i := 3) rfl)) (hw _ (List.mem_of_getElem? (i := 4) rfl)) (by decide) rfl (by decide) (W := 0) (Nat.le_of_eq rfl) (by decide) (cells' := 1) (slots' := 1) rfl rfl (by decide) (by decide) (argsL := [(.ref a54)]) (rest := []) (lenOf own_pd0 rfl) rfl rfl at_154 (pc' := 157) rfl ?_
        rintro _ T58 h58 X58 ⟨⟨r58, rfl, hr58⟩, e58⟩
        subst e58
        show own_Goal p e below _ T58 (mkF m 157 #[.val (.int p0), .val (.int p1), .val (.int p2), .val (.int p3), .val (.int p4), .val (.int (1 : Int32)), .val (.int p1), .val (.int p2), .val (.int p2), .val (.ref a54), .val (.int (1 : Int32))] [(.int r58)])
        refine own_iload X58 rfl at_157 (pc' := 159) rfl ?_
        have c59 : r58 = (1 : Int32) := own_pick_1 hr58 (by first | trivial | omega)
        refine own_icmpF X58 (own_i_eq c59).2 at_159 (pc' := 162) rfl ?_
        refine own_iconst X58 (v := (1 : Int32)) (by decide) at_162 (pc' := 163) rfl ?_
        refine own_goto X58 at_163 (pc' := 167) (by decide) (by decide) ?_
        exact own_retZ X58 (by decide) at_167 rfl (by decide) (by decide) rfl
    · -- no c37
      refine own_ifF X0 (own_z_ne c37).1 at_12 (pc' := 15) rfl ?_
      refine own_iloadN X0 rfl at_15 (pc' := 16) rfl ?_
      refine own_goto X0 at_16 (pc' := 20) (by decide) (by decide) ?_
      refine own_istore X0 (Ls' := #[.val (.int p0), .val (.int p1), .val (.int p2), .val (.int p3), .val (.int p4), .val (.int (1 : Int32)), .val (.int p1), .val (.int p1), .unset, .unset, .unset]) rfl at_20 (pc' := 22) rfl ?_
      refine own_iload X0 rfl at_22 (pc' := 24) rfl ?_
      refine own_iconst X0 (v := (2 : Int32)) (by decide) at_24 (pc' := 25) rfl ?_
      obtain ⟨i60, e60⟩ : ∃ v, p4 &&& (2 : Int32) = v := ⟨_, rfl⟩
      have f60 : own_I 2 i60.toInt i60 := own_I.and e60 (by decide)
      have nn60 := own_and_nn (M := 2) e60 (by decide)
      refine own_iand X0 e60 at_25 (pc' := 26) rfl ?_
      by_cases c61 : i60 = 0
      · -- yes c61
        refine own_ifT X0 (own_z_eq c61).1 at_26 (pc' := 36) (by decide) (by decide) ?_
        refine own_iload X0 rfl at_36 (pc' := 38) rfl ?_
        refine own_iconst X0 (v := (4 : Int32)) (by decide) at_38 (pc' := 39) rfl ?_
        obtain ⟨i62, e62⟩ : ∃ v, p4 &&& (4 : Int32) = v := ⟨_, rfl⟩
        have f62 : own_I 4 i62.toInt i62 := own_I.and e62 (by decide)
        have nn62 := own_and_nn (M := 4) e62 (by decide)
        refine own_iand X0 e62 at_39 (pc' := 40) rfl ?_
        by_cases c63 : i62 = 0
        · -- yes c63
          refine own_ifT X0 (own_z_eq c63).1 at_40 (pc' := 49) (by decide) (by decide) ?_
          refine own_iloadN X0 rfl at_49 (pc' := 50) rfl ?_
          refine own_istore X0 (Ls' := #[.val (.int p0), .val (.int p1), .val (.int p2), .val (.int p3), .val (.int p4), .val (.int (1 : Int32)), .val (.int p1), .val (.int p1), .val (.int p3), .unset, .unset]) rfl at_50 (pc' := 52) rfl ?_
          refine own_iload X0 rfl at_52 (pc' := 54) rfl ?_
          refine own_newarray X0 (ty := .double) rfl (hw _ (List.mem_of_getElem? (i := 0) rfl)) (n := 1) (vs := [(.double (0 : UInt64))]) (by decide) (by decide) (by decide) rfl (cells' := 1) (slots' := 1) rfl rfl (by decide) (by decide) at_54 (pc' := 56) rfl fun a64 T64 h64 g64 ge64 X64 E64 V64 => ?_
          refine own_astore X64 (Ls' := #[.val (.int p0), .val (.int p1), .val (.int p2), .val (.int p3), .val (.int p4), .val (.int (1 : Int32)), .val (.int p1), .val (.int p1), .val (.int p3), .val (.ref a64), .unset]) rfl rfl at_56 (pc' := 58) rfl ?_
          refine own_iload X64 rfl at_58 (pc' := 60) rfl ?_
          refine own_ifF X64 (by decide) at_60 (pc' := 63) rfl ?_
          refine own_aload X64 rfl rfl at_63 (pc' := 65) rfl ?_
          refine own_iconst X64 (v := (0 : Int32)) (by decide) at_65 (pc' := 66) rfl ?_
          refine own_iload X64 rfl at_66 (pc' := 68) rfl ?_
          have f65 := own_I.start p1
          obtain ⟨d66, e66⟩ : ∃ v, FP.i2d p1 = v := ⟨_, rfl⟩
          have f66 : own_D 0 2147483648 p1.toInt d66 := own_D.i2d f65 e66
          refine own_i2d X64 e66 at_68 (pc' := 69) rfl ?_
          refine own_dastore X64 V64 ge64 (i := 0) (by decide) (by decide) (show 0 < 1 by decide) at_69 (pc' := 70) rfl fun T67 h67 X67 W67 V67 => ?_
          replace V67 : own_Vec Z h67 a64 .double [(.double d66)] := V67
          refine own_iload X67 rfl at_70 (pc' := 72) rfl ?_
          refine own_iconst X67 (v := (1 : Int32)) (by decide) at_72 (pc' := 73) rfl ?_
          refine own_icmpT X67 (by decide) at_73 (pc' := 83) (by decide) (by decide) ?_
          refine own_iload X67 rfl at_83 (pc' := 85) rfl ?_
          refine own_iconst X67 (v := (2 : Int32)) (by decide) at_85 (pc' := 86) rfl ?_
          refine own_icmpT X67 (by decide) at_86 (pc' := 96) (by decide) (by decide) ?_
          refine own_iload X67 rfl at_96 (pc' := 98) rfl ?_
          refine own_iconst X67 (v := (1 : Int32)) (by decide) at_98 (pc' := 99) rfl ?_
          refine own_icmpF X67 (by decide) at_99 (pc' := 102) rfl ?_
          refine own_iconst X67 (v := (1 : Int32)) (by decide) at_102 (pc' := 103) rfl ?_
          refine own_istore X67 (Ls' := #[.val (.int p0), .val (.int p1), .val (.int p2), .val (.int p3), .val (.int p4), .val (.int (1 : Int32)), .val (.int p1), .val (.int p1), .val (.int p3), .val (.ref a64), .val (.int (1 : Int32))]) rfl at_103 (pc' := 105) rfl ?_
          refine own_goto X67 at_105 (pc' := 152) (by decide) (by decide) ?_
          refine own_aload X67 rfl rfl at_152 (pc' := 154) rfl ?_
          refine own_callS X67 (own_ae1 l Z a0 hw a64 d66 p1.toInt _ n0 X67.le V67 f66) (hw _ (List.mem_of_getElem? (i := 1) rfl)) (hw _ (List.mem_of_getElem? (i := 2) rfl)) (hw _ (List.mem_of_getElem? (i := 3) rfl)) (hw _ (List.mem_of_getElem? (i := 4) rfl)) (by decide) rfl (by decide) (W := 0) (Nat.le_of_eq rfl) (by decide) (cells' := 1) (slots' := 1) rfl rfl (by decide) (by decide) (argsL := [(.ref a64)]) (rest := []) (lenOf own_pd0 rfl) rfl rfl at_154 (pc' := 157) rfl ?_
          rintro _ T68 h68 X68 ⟨⟨r68, rfl, hr68⟩, e68⟩
          subst e68
          show own_Goal p e below _ T68 (mkF m 157 #[.val (.int p0), .val (.int p1), .val (.int p2), .val (.int p3), .val (.int p4), .val (.int (1 : Int32)), .val (.int p1), .val (.int p1), .val (.int p3), .val (.ref a64), .val (.int (1 : Int32))] [(.int r68)])
          refine own_iload X68 rfl at_157 (pc' := 159) rfl ?_
          have c69 : r68 = (1 : Int32) := own_pick_1 hr68 (by first | trivial | omega)
          refine own_icmpF X68 (own_i_eq c69).2 at_159 (pc' := 162) rfl ?_
          refine own_iconst X68 (v := (1 : Int32)) (by decide) at_162 (pc' := 163) rfl ?_
          refine own_goto X68 at_163 (pc' := 167) (by decide) (by decide) ?_
          exact own_retZ X68 (by decide) at_167 rfl (by decide) (by decide) rfl
        · -- no c63
          refine own_ifF X0 (own_z_ne c63).1 at_40 (pc' := 43) rfl ?_
          refine own_iloadN X0 rfl at_43 (pc' := 44) rfl ?_
          refine own_istore X0 (Ls' := #[.val (.int p0), .val (.int p1), .val (.int p2), .val (.int p3), .val (.int p4), .val (.int (1 : Int32)), .val (.int p1), .val (.int p1), .val (.int p1), .unset, .unset]) rfl at_44 (pc' := 46) rfl ?_
          refine own_goto X0 at_46 (pc' := 52) (by decide) (by decide) ?_
          refine own_iload X0 rfl at_52 (pc' := 54) rfl ?_
          refine own_newarray X0 (ty := .double) rfl (hw _ (List.mem_of_getElem? (i := 0) rfl)) (n := 1) (vs := [(.double (0 : UInt64))]) (by decide) (by decide) (by decide) rfl (cells' := 1) (slots' := 1) rfl rfl (by decide) (by decide) at_54 (pc' := 56) rfl fun a70 T70 h70 g70 ge70 X70 E70 V70 => ?_
          refine own_astore X70 (Ls' := #[.val (.int p0), .val (.int p1), .val (.int p2), .val (.int p3), .val (.int p4), .val (.int (1 : Int32)), .val (.int p1), .val (.int p1), .val (.int p1), .val (.ref a70), .unset]) rfl rfl at_56 (pc' := 58) rfl ?_
          refine own_iload X70 rfl at_58 (pc' := 60) rfl ?_
          refine own_ifF X70 (by decide) at_60 (pc' := 63) rfl ?_
          refine own_aload X70 rfl rfl at_63 (pc' := 65) rfl ?_
          refine own_iconst X70 (v := (0 : Int32)) (by decide) at_65 (pc' := 66) rfl ?_
          refine own_iload X70 rfl at_66 (pc' := 68) rfl ?_
          have f71 := own_I.start p1
          obtain ⟨d72, e72⟩ : ∃ v, FP.i2d p1 = v := ⟨_, rfl⟩
          have f72 : own_D 0 2147483648 p1.toInt d72 := own_D.i2d f71 e72
          refine own_i2d X70 e72 at_68 (pc' := 69) rfl ?_
          refine own_dastore X70 V70 ge70 (i := 0) (by decide) (by decide) (show 0 < 1 by decide) at_69 (pc' := 70) rfl fun T73 h73 X73 W73 V73 => ?_
          replace V73 : own_Vec Z h73 a70 .double [(.double d72)] := V73
          refine own_iload X73 rfl at_70 (pc' := 72) rfl ?_
          refine own_iconst X73 (v := (1 : Int32)) (by decide) at_72 (pc' := 73) rfl ?_
          refine own_icmpT X73 (by decide) at_73 (pc' := 83) (by decide) (by decide) ?_
          refine own_iload X73 rfl at_83 (pc' := 85) rfl ?_
          refine own_iconst X73 (v := (2 : Int32)) (by decide) at_85 (pc' := 86) rfl ?_
          refine own_icmpT X73 (by decide) at_86 (pc' := 96) (by decide) (by decide) ?_
          refine own_iload X73 rfl at_96 (pc' := 98) rfl ?_
          refine own_iconst X73 (v := (1 : Int32)) (by decide) at_98 (pc' := 99) rfl ?_
          refine own_icmpF X73 (by decide) at_99 (pc' := 102) rfl ?_
          refine own_iconst X73 (v := (1 : Int32)) (by decide) at_102 (pc' := 103) rfl ?_
          refine own_istore X73 (Ls' := #[.val (.int p0), .val (.int p1), .val (.int p2), .val (.int p3), .val (.int p4), .val (.int (1 : Int32)), .val (.int p1), .val (.int p1), .val (.int p1), .val (.ref a70), .val (.int (1 : Int32))]) rfl at_103 (pc' := 105) rfl ?_
          refine own_goto X73 at_105 (pc' := 152) (by decide) (by decide) ?_
          refine own_aload X73 rfl rfl at_152 (pc' := 154) rfl ?_
          refine own_callS X73 (own_ae1 l Z a0 hw a70 d72 p1.toInt _ n0 X73.le V73 f72) (hw _ (List.mem_of_getElem? (i := 1) rfl)) (hw _ (List.mem_of_getElem? (i := 2) rfl)) (hw _ (List.mem_of_getElem? (i := 3) rfl)) (hw _ (List.mem_of_getElem? (i := 4) rfl)) (by decide) rfl (by decide) (W := 0) (Nat.le_of_eq rfl) (by decide) (cells' := 1) (slots' := 1) rfl rfl (by decide) (by decide) (argsL := [(.ref a70)]) (rest := []) (lenOf own_pd0 rfl) rfl rfl at_154 (pc' := 157) rfl ?_
          rintro _ T74 h74 X74 ⟨⟨r74, rfl, hr74⟩, e74⟩
          subst e74
          show own_Goal p e below _ T74 (mkF m 157 #[.val (.int p0), .val (.int p1), .val (.int p2), .val (.int p3), .val (.int p4), .val (.int (1 : Int32)), .val (.int p1), .val (.int p1), .val (.int p1), .val (.ref a70), .val (.int (1 : Int32))] [(.int r74)])
          refine own_iload X74 rfl at_157 (pc' := 159) rfl ?_
          have c75 : r74 = (1 : Int32) := own_pick_1 hr74 (by first | trivial | omega)
          refine own_icmpF X74 (own_i_eq c75).2 at_159 (pc' := 162) rfl ?_
          refine own_iconst X74 (v := (1 : Int32)) (by decide) at_162 (pc' := 163) rfl ?_
          refine own_goto X74 at_163 (pc' := 167) (by decide) (by decide) ?_
          exact own_retZ X74 (by decide) at_167 rfl (by decide) (by decide) rfl
      · -- no c61
        refine own_ifF X0 (own_z_ne c61).1 at_26 (pc' := 29) rfl ?_
        refine own_iload X0 rfl at_29 (pc' := 31) rfl ?_
        refine own_istore X0 (Ls' := #[.val (.int p0), .val (.int p1), .val (.int p2), .val (.int p3), .val (.int p4), .val (.int (1 : Int32)), .val (.int p1), .val (.int p1), .val (.int p1), .unset, .unset]) rfl at_31 (pc' := 33) rfl ?_
        refine own_goto X0 at_33 (pc' := 52) (by decide) (by decide) ?_
        refine own_iload X0 rfl at_52 (pc' := 54) rfl ?_
        refine own_newarray X0 (ty := .double) rfl (hw _ (List.mem_of_getElem? (i := 0) rfl)) (n := 1) (vs := [(.double (0 : UInt64))]) (by decide) (by decide) (by decide) rfl (cells' := 1) (slots' := 1) rfl rfl (by decide) (by decide) at_54 (pc' := 56) rfl fun a76 T76 h76 g76 ge76 X76 E76 V76 => ?_
        refine own_astore X76 (Ls' := #[.val (.int p0), .val (.int p1), .val (.int p2), .val (.int p3), .val (.int p4), .val (.int (1 : Int32)), .val (.int p1), .val (.int p1), .val (.int p1), .val (.ref a76), .unset]) rfl rfl at_56 (pc' := 58) rfl ?_
        refine own_iload X76 rfl at_58 (pc' := 60) rfl ?_
        refine own_ifF X76 (by decide) at_60 (pc' := 63) rfl ?_
        refine own_aload X76 rfl rfl at_63 (pc' := 65) rfl ?_
        refine own_iconst X76 (v := (0 : Int32)) (by decide) at_65 (pc' := 66) rfl ?_
        refine own_iload X76 rfl at_66 (pc' := 68) rfl ?_
        have f77 := own_I.start p1
        obtain ⟨d78, e78⟩ : ∃ v, FP.i2d p1 = v := ⟨_, rfl⟩
        have f78 : own_D 0 2147483648 p1.toInt d78 := own_D.i2d f77 e78
        refine own_i2d X76 e78 at_68 (pc' := 69) rfl ?_
        refine own_dastore X76 V76 ge76 (i := 0) (by decide) (by decide) (show 0 < 1 by decide) at_69 (pc' := 70) rfl fun T79 h79 X79 W79 V79 => ?_
        replace V79 : own_Vec Z h79 a76 .double [(.double d78)] := V79
        refine own_iload X79 rfl at_70 (pc' := 72) rfl ?_
        refine own_iconst X79 (v := (1 : Int32)) (by decide) at_72 (pc' := 73) rfl ?_
        refine own_icmpT X79 (by decide) at_73 (pc' := 83) (by decide) (by decide) ?_
        refine own_iload X79 rfl at_83 (pc' := 85) rfl ?_
        refine own_iconst X79 (v := (2 : Int32)) (by decide) at_85 (pc' := 86) rfl ?_
        refine own_icmpT X79 (by decide) at_86 (pc' := 96) (by decide) (by decide) ?_
        refine own_iload X79 rfl at_96 (pc' := 98) rfl ?_
        refine own_iconst X79 (v := (1 : Int32)) (by decide) at_98 (pc' := 99) rfl ?_
        refine own_icmpF X79 (by decide) at_99 (pc' := 102) rfl ?_
        refine own_iconst X79 (v := (1 : Int32)) (by decide) at_102 (pc' := 103) rfl ?_
        refine own_istore X79 (Ls' := #[.val (.int p0), .val (.int p1), .val (.int p2), .val (.int p3), .val (.int p4), .val (.int (1 : Int32)), .val (.int p1), .val (.int p1), .val (.int p1), .val (.ref a76), .val (.int (1 : Int32))]) rfl at_103 (pc' := 105) rfl ?_
        refine own_goto X79 at_105 (pc' := 152) (by decide) (by decide) ?_
        refine own_aload X79 rfl rfl at_152 (pc' := 154) rfl ?_
        refine own_callS X79 (own_ae1 l Z a0 hw a76 d78 p1.toInt _ n0 X79.le V79 f78) (hw _ (List.mem_of_getElem? (i := 1) rfl)) (hw _ (List.mem_of_getElem? (i := 2) rfl)) (hw _ (List.mem_of_getElem? (i := 3) rfl)) (hw _ (List.mem_of_getElem? (i := 4) rfl)) (by decide) rfl (by decide) (W := 0) (Nat.le_of_eq rfl) (by decide) (cells' := 1) (slots' := 1) rfl rfl (by decide) (by decide) (argsL := [(.ref a76)]) (rest := []) (lenOf own_pd0 rfl) rfl rfl at_154 (pc' := 157) rfl ?_
        rintro _ T80 h80 X80 ⟨⟨r80, rfl, hr80⟩, e80⟩
        subst e80
        show own_Goal p e below _ T80 (mkF m 157 #[.val (.int p0), .val (.int p1), .val (.int p2), .val (.int p3), .val (.int p4), .val (.int (1 : Int32)), .val (.int p1), .val (.int p1), .val (.int p1), .val (.ref a76), .val (.int (1 : Int32))] [(.int r80)])
        refine own_iload X80 rfl at_157 (pc' := 159) rfl ?_
        have c81 : r80 = (1 : Int32) := own_pick_1 hr80 (by first | trivial | omega)
        refine own_icmpF X80 (own_i_eq c81).2 at_159 (pc' := 162) rfl ?_
        refine own_iconst X80 (v := (1 : Int32)) (by decide) at_162 (pc' := 163) rfl ?_
        refine own_goto X80 at_163 (pc' := 167) (by decide) (by decide) ?_
        exact own_retZ X80 (by decide) at_167 rfl (by decide) (by decide) rfl
  · -- 2
    refine own_istore X0 (Ls' := #[.val (.int p0), .val (.int p1), .val (.int p2), .val (.int p3), .val (.int p4), .val (.int (2 : Int32)), .unset, .unset, .unset, .unset, .unset]) rfl at_3 (pc' := 5) rfl ?_
    refine own_iloadN X0 rfl at_5 (pc' := 6) rfl ?_
    refine own_istore X0 (Ls' := #[.val (.int p0), .val (.int p1), .val (.int p2), .val (.int p3), .val (.int p4), .val (.int (2 : Int32)), .val (.int p1), .unset, .unset, .unset, .unset]) rfl at_6 (pc' := 8) rfl ?_
    refine own_iload X0 rfl at_8 (pc' := 10) rfl ?_
    refine own_iconst X0 (v := (1 : Int32)) (by decide) at_10 (pc' := 11) rfl ?_
    obtain ⟨i82, e82⟩ : ∃ v, p4 &&& (1 : Int32) = v := ⟨_, rfl⟩
    have f82 : own_I 1 i82.toInt i82 := own_I.and e82 (by decide)
    have nn82 := own_and_nn (M := 1) e82 (by decide)
    refine own_iand X0 e82 at_11 (pc' := 12) rfl ?_
    by_cases c83 : i82 = 0
    · -- yes c83
      refine own_ifT X0 (own_z_eq c83).1 at_12 (pc' := 19) (by decide) (by decide) ?_
      refine own_iloadN X0 rfl at_19 (pc' := 20) rfl ?_
      refine own_istore X0 (Ls' := #[.val (.int p0), .val (.int p1), .val (.int p2), .val (.int p3), .val (.int p4), .val (.int (2 : Int32)), .val (.int p1), .val (.int p2), .unset, .unset, .unset]) rfl at_20 (pc' := 22) rfl ?_
      refine own_iload X0 rfl at_22 (pc' := 24) rfl ?_
      refine own_iconst X0 (v := (2 : Int32)) (by decide) at_24 (pc' := 25) rfl ?_
      obtain ⟨i84, e84⟩ : ∃ v, p4 &&& (2 : Int32) = v := ⟨_, rfl⟩
      have f84 : own_I 2 i84.toInt i84 := own_I.and e84 (by decide)
      have nn84 := own_and_nn (M := 2) e84 (by decide)
      refine own_iand X0 e84 at_25 (pc' := 26) rfl ?_
      by_cases c85 : i84 = 0
      · -- yes c85
        refine own_ifT X0 (own_z_eq c85).1 at_26 (pc' := 36) (by decide) (by decide) ?_
        refine own_iload X0 rfl at_36 (pc' := 38) rfl ?_
        refine own_iconst X0 (v := (4 : Int32)) (by decide) at_38 (pc' := 39) rfl ?_
        obtain ⟨i86, e86⟩ : ∃ v, p4 &&& (4 : Int32) = v := ⟨_, rfl⟩
        have f86 : own_I 4 i86.toInt i86 := own_I.and e86 (by decide)
        have nn86 := own_and_nn (M := 4) e86 (by decide)
        refine own_iand X0 e86 at_39 (pc' := 40) rfl ?_
        by_cases c87 : i86 = 0
        · -- yes c87
          refine own_ifT X0 (own_z_eq c87).1 at_40 (pc' := 49) (by decide) (by decide) ?_
          refine own_iloadN X0 rfl at_49 (pc' := 50) rfl ?_
          refine own_istore X0 (Ls' := #[.val (.int p0), .val (.int p1), .val (.int p2), .val (.int p3), .val (.int p4), .val (.int (2 : Int32)), .val (.int p1), .val (.int p2), .val (.int p3), .unset, .unset]) rfl at_50 (pc' := 52) rfl ?_
          refine own_iload X0 rfl at_52 (pc' := 54) rfl ?_
          refine own_newarray X0 (ty := .double) rfl (hw _ (List.mem_of_getElem? (i := 0) rfl)) (n := 2) (vs := [(.double (0 : UInt64)), (.double (0 : UInt64))]) (by decide) (by decide) (by decide) rfl (cells' := 1) (slots' := 2) rfl rfl (by decide) (by decide) at_54 (pc' := 56) rfl fun a88 T88 h88 g88 ge88 X88 E88 V88 => ?_
          refine own_astore X88 (Ls' := #[.val (.int p0), .val (.int p1), .val (.int p2), .val (.int p3), .val (.int p4), .val (.int (2 : Int32)), .val (.int p1), .val (.int p2), .val (.int p3), .val (.ref a88), .unset]) rfl rfl at_56 (pc' := 58) rfl ?_
          refine own_iload X88 rfl at_58 (pc' := 60) rfl ?_
          refine own_ifF X88 (by decide) at_60 (pc' := 63) rfl ?_
          refine own_aload X88 rfl rfl at_63 (pc' := 65) rfl ?_
          refine own_iconst X88 (v := (0 : Int32)) (by decide) at_65 (pc' := 66) rfl ?_
          refine own_iload X88 rfl at_66 (pc' := 68) rfl ?_
          have f89 := own_I.start p1
          obtain ⟨d90, e90⟩ : ∃ v, FP.i2d p1 = v := ⟨_, rfl⟩
          have f90 : own_D 0 2147483648 p1.toInt d90 := own_D.i2d f89 e90
          refine own_i2d X88 e90 at_68 (pc' := 69) rfl ?_
          refine own_dastore X88 V88 ge88 (i := 0) (by decide) (by decide) (show 0 < 2 by decide) at_69 (pc' := 70) rfl fun T91 h91 X91 W91 V91 => ?_
          replace V91 : own_Vec Z h91 a88 .double [(.double d90), (.double (0 : UInt64))] := V91
          refine own_iload X91 rfl at_70 (pc' := 72) rfl ?_
          refine own_iconst X91 (v := (1 : Int32)) (by decide) at_72 (pc' := 73) rfl ?_
          refine own_icmpF X91 (by decide) at_73 (pc' := 76) rfl ?_
          refine own_aload X91 rfl rfl at_76 (pc' := 78) rfl ?_
          refine own_iconst X91 (v := (1 : Int32)) (by decide) at_78 (pc' := 79) rfl ?_
          refine own_iload X91 rfl at_79 (pc' := 81) rfl ?_
          have f92 := own_I.start p2
          obtain ⟨d93, e93⟩ : ∃ v, FP.i2d p2 = v := ⟨_, rfl⟩
          have f93 : own_D 0 2147483648 p2.toInt d93 := own_D.i2d f92 e93
          refine own_i2d X91 e93 at_81 (pc' := 82) rfl ?_
          refine own_dastore X91 V91 ge88 (i := 1) (by decide) (by decide) (show 1 < 2 by decide) at_82 (pc' := 83) rfl fun T94 h94 X94 W94 V94 => ?_
          replace V94 : own_Vec Z h94 a88 .double [(.double d90), (.double d93)] := V94
          refine own_iload X94 rfl at_83 (pc' := 85) rfl ?_
          refine own_iconst X94 (v := (2 : Int32)) (by decide) at_85 (pc' := 86) rfl ?_
          refine own_icmpT X94 (by decide) at_86 (pc' := 96) (by decide) (by decide) ?_
          refine own_iload X94 rfl at_96 (pc' := 98) rfl ?_
          refine own_iconst X94 (v := (1 : Int32)) (by decide) at_98 (pc' := 99) rfl ?_
          refine own_icmpT X94 (by decide) at_99 (pc' := 108) (by decide) (by decide) ?_
          refine own_iload X94 rfl at_108 (pc' := 110) rfl ?_
          refine own_iconst X94 (v := (2 : Int32)) (by decide) at_110 (pc' := 111) rfl ?_
          refine own_icmpF X94 (by decide) at_111 (pc' := 114) rfl ?_
          refine own_iload X94 rfl at_114 (pc' := 116) rfl ?_
          refine own_iload X94 rfl at_116 (pc' := 118) rfl ?_
          by_cases c95 : p1 = p2
          · -- yes c95
            refine own_icmpF X94 (own_i_eq c95).2 at_118 (pc' := 121) rfl ?_
            refine own_iconst X94 (v := (1 : Int32)) (by decide) at_121 (pc' := 122) rfl ?_
            refine own_goto X94 at_122 (pc' := 126) (by decide) (by decide) ?_
            refine own_istore X94 (Ls' := #[.val (.int p0), .val (.int p1), .val (.int p2), .val (.int p3), .val (.int p4), .val (.int (2 : Int32)), .val (.int p1), .val (.int p2), .val (.int p3), .val (.ref a88), .val (.int (1 : Int32))]) rfl at_126 (pc' := 128) rfl ?_
            refine own_goto X94 at_128 (pc' := 152) (by decide) (by decide) ?_
            refine own_aload X94 rfl rfl at_152 (pc' := 154) rfl ?_
            refine own_callS X94 (own_ae2 l Z a0 hw a88 d90 p1.toInt d93 p2.toInt _ n0 X94.le V94 f90 f93) (hw _ (List.mem_of_getElem? (i := 1) rfl)) (hw _ (List.mem_of_getElem? (i := 2) rfl)) (hw _ (List.mem_of_getElem? (i := 3) rfl)) (hw _ (List.mem_of_getElem? (i := 4) rfl)) (by decide) rfl (by decide) (W := 0) (Nat.le_of_eq rfl) (by decide) (cells' := 1) (slots' := 2) rfl rfl (by decide) (by decide) (argsL := [(.ref a88)]) (rest := []) (lenOf own_pd0 rfl) rfl rfl at_154 (pc' := 157) rfl ?_
            rintro _ T96 h96 X96 ⟨⟨r96, rfl, hr96⟩, e96⟩
            subst e96
            show own_Goal p e below _ T96 (mkF m 157 #[.val (.int p0), .val (.int p1), .val (.int p2), .val (.int p3), .val (.int p4), .val (.int (2 : Int32)), .val (.int p1), .val (.int p2), .val (.int p3), .val (.ref a88), .val (.int (1 : Int32))] [(.int r96)])
            refine own_iload X96 rfl at_157 (pc' := 159) rfl ?_
            have c97 : r96 = (1 : Int32) := own_pick_1 hr96 (by have qc95 := congrArg Int32.toInt c95; first | trivial | omega)
            refine own_icmpF X96 (own_i_eq c97).2 at_159 (pc' := 162) rfl ?_
            refine own_iconst X96 (v := (1 : Int32)) (by decide) at_162 (pc' := 163) rfl ?_
            refine own_goto X96 at_163 (pc' := 167) (by decide) (by decide) ?_
            exact own_retZ X96 (by decide) at_167 rfl (by decide) (by decide) rfl
          · -- no c95
            refine own_icmpT X94 (own_i_ne c95).2 at_118 (pc' := 125) (by decide) (by decide) ?_
            refine own_iconst X94 (v := (0 : Int32)) (by decide) at_125 (pc' := 126) rfl ?_
            refine own_istore X94 (Ls' := #[.val (.int p0), .val (.int p1), .val (.int p2), .val (.int p3), .val (.int p4), .val (.int (2 : Int32)), .val (.int p1), .val (.int p2), .val (.int p3), .val (.ref a88), .val (.int (0 : Int32))]) rfl at_126 (pc' := 128) rfl ?_
            refine own_goto X94 at_128 (pc' := 152) (by decide) (by decide) ?_
            refine own_aload X94 rfl rfl at_152 (pc' := 154) rfl ?_
            refine own_callS X94 (own_ae2 l Z a0 hw a88 d90 p1.toInt d93 p2.toInt _ n0 X94.le V94 f90 f93) (hw _ (List.mem_of_getElem? (i := 1) rfl)) (hw _ (List.mem_of_getElem? (i := 2) rfl)) (hw _ (List.mem_of_getElem? (i := 3) rfl)) (hw _ (List.mem_of_getElem? (i := 4) rfl)) (by decide) rfl (by decide) (W := 0) (Nat.le_of_eq rfl) (by decide) (cells' := 1) (slots' := 2) rfl rfl (by decide) (by decide) (argsL := [(.ref a88)]) (rest := []) (lenOf own_pd0 rfl) rfl rfl at_154 (pc' := 157) rfl ?_
            rintro _ T98 h98 X98 ⟨⟨r98, rfl, hr98⟩, e98⟩
            subst e98
            show own_Goal p e below _ T98 (mkF m 157 #[.val (.int p0), .val (.int p1), .val (.int p2), .val (.int p3), .val (.int p4), .val (.int (2 : Int32)), .val (.int p1), .val (.int p2), .val (.int p3), .val (.ref a88), .val (.int (0 : Int32))] [(.int r98)])
            refine own_iload X98 rfl at_157 (pc' := 159) rfl ?_
            have c99 : r98 = (0 : Int32) := own_pick_0 hr98 (by have qc95 : ¬ p1.toInt = p2.toInt := fun z => c95 (Int32.toInt_inj.mp z); first | trivial | omega)
            refine own_icmpF X98 (own_i_eq c99).2 at_159 (pc' := 162) rfl ?_
            refine own_iconst X98 (v := (1 : Int32)) (by decide) at_162 (pc' := 163) rfl ?_
            refine own_goto X98 at_163 (pc' := 167) (by decide) (by decide) ?_
            exact own_retZ X98 (by decide) at_167 rfl (by decide) (by decide) rfl
        · -- no c87
          refine own_ifF X0 (own_z_ne c87).1 at_40 (pc' := 43) rfl ?_
          refine own_iloadN X0 rfl at_43 (pc' := 44) rfl ?_
          refine own_istore X0 (Ls' := #[.val (.int p0), .val (.int p1), .val (.int p2), .val (.int p3), .val (.int p4), .val (.int (2 : Int32)), .val (.int p1), .val (.int p2), .val (.int p1), .unset, .unset]) rfl at_44 (pc' := 46) rfl ?_
          refine own_goto X0 at_46 (pc' := 52) (by decide) (by decide) ?_
          refine own_iload X0 rfl at_52 (pc' := 54) rfl ?_
          refine own_newarray X0 (ty := .double) rfl (hw _ (List.mem_of_getElem? (i := 0) rfl)) (n := 2) (vs := [(.double (0 : UInt64)), (.double (0 : UInt64))]) (by decide) (by decide) (by decide) rfl (cells' := 1) (slots' := 2) rfl rfl (by decide) (by decide) at_54 (pc' := 56) rfl fun a100 T100 h100 g100 ge100 X100 E100 V100 => ?_
          refine own_astore X100 (Ls' := #[.val (.int p0), .val (.int p1), .val (.int p2), .val (.int p3), .val (.int p4), .val (.int (2 : Int32)), .val (.int p1), .val (.int p2), .val (.int p1), .val (.ref a100), .unset]) rfl rfl at_56 (pc' := 58) rfl ?_
          refine own_iload X100 rfl at_58 (pc' := 60) rfl ?_
          refine own_ifF X100 (by decide) at_60 (pc' := 63) rfl ?_
          refine own_aload X100 rfl rfl at_63 (pc' := 65) rfl ?_
          refine own_iconst X100 (v := (0 : Int32)) (by decide) at_65 (pc' := 66) rfl ?_
          refine own_iload X100 rfl at_66 (pc' := 68) rfl ?_
          have f101 := own_I.start p1
          obtain ⟨d102, e102⟩ : ∃ v, FP.i2d p1 = v := ⟨_, rfl⟩
          have f102 : own_D 0 2147483648 p1.toInt d102 := own_D.i2d f101 e102
          refine own_i2d X100 e102 at_68 (pc' := 69) rfl ?_
          refine own_dastore X100 V100 ge100 (i := 0) (by decide) (by decide) (show 0 < 2 by decide) at_69 (pc' := 70) rfl fun T103 h103 X103 W103 V103 => ?_
          replace V103 : own_Vec Z h103 a100 .double [(.double d102), (.double (0 : UInt64))] := V103
          refine own_iload X103 rfl at_70 (pc' := 72) rfl ?_
          refine own_iconst X103 (v := (1 : Int32)) (by decide) at_72 (pc' := 73) rfl ?_
          refine own_icmpF X103 (by decide) at_73 (pc' := 76) rfl ?_
          refine own_aload X103 rfl rfl at_76 (pc' := 78) rfl ?_
          refine own_iconst X103 (v := (1 : Int32)) (by decide) at_78 (pc' := 79) rfl ?_
          refine own_iload X103 rfl at_79 (pc' := 81) rfl ?_
          have f104 := own_I.start p2
          obtain ⟨d105, e105⟩ : ∃ v, FP.i2d p2 = v := ⟨_, rfl⟩
          have f105 : own_D 0 2147483648 p2.toInt d105 := own_D.i2d f104 e105
          refine own_i2d X103 e105 at_81 (pc' := 82) rfl ?_
          refine own_dastore X103 V103 ge100 (i := 1) (by decide) (by decide) (show 1 < 2 by decide) at_82 (pc' := 83) rfl fun T106 h106 X106 W106 V106 => ?_
          replace V106 : own_Vec Z h106 a100 .double [(.double d102), (.double d105)] := V106
          refine own_iload X106 rfl at_83 (pc' := 85) rfl ?_
          refine own_iconst X106 (v := (2 : Int32)) (by decide) at_85 (pc' := 86) rfl ?_
          refine own_icmpT X106 (by decide) at_86 (pc' := 96) (by decide) (by decide) ?_
          refine own_iload X106 rfl at_96 (pc' := 98) rfl ?_
          refine own_iconst X106 (v := (1 : Int32)) (by decide) at_98 (pc' := 99) rfl ?_
          refine own_icmpT X106 (by decide) at_99 (pc' := 108) (by decide) (by decide) ?_
          refine own_iload X106 rfl at_108 (pc' := 110) rfl ?_
          refine own_iconst X106 (v := (2 : Int32)) (by decide) at_110 (pc' := 111) rfl ?_
          refine own_icmpF X106 (by decide) at_111 (pc' := 114) rfl ?_
          refine own_iload X106 rfl at_114 (pc' := 116) rfl ?_
          refine own_iload X106 rfl at_116 (pc' := 118) rfl ?_
          by_cases c107 : p1 = p2
          · -- yes c107
            refine own_icmpF X106 (own_i_eq c107).2 at_118 (pc' := 121) rfl ?_
            refine own_iconst X106 (v := (1 : Int32)) (by decide) at_121 (pc' := 122) rfl ?_
            refine own_goto X106 at_122 (pc' := 126) (by decide) (by decide) ?_
            refine own_istore X106 (Ls' := #[.val (.int p0), .val (.int p1), .val (.int p2), .val (.int p3), .val (.int p4), .val (.int (2 : Int32)), .val (.int p1), .val (.int p2), .val (.int p1), .val (.ref a100), .val (.int (1 : Int32))]) rfl at_126 (pc' := 128) rfl ?_
            refine own_goto X106 at_128 (pc' := 152) (by decide) (by decide) ?_
            refine own_aload X106 rfl rfl at_152 (pc' := 154) rfl ?_
            refine own_callS X106 (own_ae2 l Z a0 hw a100 d102 p1.toInt d105 p2.toInt _ n0 X106.le V106 f102 f105) (hw _ (List.mem_of_getElem? (i := 1) rfl)) (hw _ (List.mem_of_getElem? (i := 2) rfl)) (hw _ (List.mem_of_getElem? (i := 3) rfl)) (hw _ (List.mem_of_getElem? (i := 4) rfl)) (by decide) rfl (by decide) (W := 0) (Nat.le_of_eq rfl) (by decide) (cells' := 1) (slots' := 2) rfl rfl (by decide) (by decide) (argsL := [(.ref a100)]) (rest := []) (lenOf own_pd0 rfl) rfl rfl at_154 (pc' := 157) rfl ?_
            rintro _ T108 h108 X108 ⟨⟨r108, rfl, hr108⟩, e108⟩
            subst e108
            show own_Goal p e below _ T108 (mkF m 157 #[.val (.int p0), .val (.int p1), .val (.int p2), .val (.int p3), .val (.int p4), .val (.int (2 : Int32)), .val (.int p1), .val (.int p2), .val (.int p1), .val (.ref a100), .val (.int (1 : Int32))] [(.int r108)])
            refine own_iload X108 rfl at_157 (pc' := 159) rfl ?_
            have c109 : r108 = (1 : Int32) := own_pick_1 hr108 (by have qc107 := congrArg Int32.toInt c107; first | trivial | omega)
            refine own_icmpF X108 (own_i_eq c109).2 at_159 (pc' := 162) rfl ?_
            refine own_iconst X108 (v := (1 : Int32)) (by decide) at_162 (pc' := 163) rfl ?_
            refine own_goto X108 at_163 (pc' := 167) (by decide) (by decide) ?_
            exact own_retZ X108 (by decide) at_167 rfl (by decide) (by decide) rfl
          · -- no c107
            refine own_icmpT X106 (own_i_ne c107).2 at_118 (pc' := 125) (by decide) (by decide) ?_
            refine own_iconst X106 (v := (0 : Int32)) (by decide) at_125 (pc' := 126) rfl ?_
            refine own_istore X106 (Ls' := #[.val (.int p0), .val (.int p1), .val (.int p2), .val (.int p3), .val (.int p4), .val (.int (2 : Int32)), .val (.int p1), .val (.int p2), .val (.int p1), .val (.ref a100), .val (.int (0 : Int32))]) rfl at_126 (pc' := 128) rfl ?_
            refine own_goto X106 at_128 (pc' := 152) (by decide) (by decide) ?_
            refine own_aload X106 rfl rfl at_152 (pc' := 154) rfl ?_
            refine own_callS X106 (own_ae2 l Z a0 hw a100 d102 p1.toInt d105 p2.toInt _ n0 X106.le V106 f102 f105) (hw _ (List.mem_of_getElem? (i := 1) rfl)) (hw _ (List.mem_of_getElem? (i := 2) rfl)) (hw _ (List.mem_of_getElem? (i := 3) rfl)) (hw _ (List.mem_of_getElem? (i := 4) rfl)) (by decide) rfl (by decide) (W := 0) (Nat.le_of_eq rfl) (by decide) (cells' := 1) (slots' := 2) rfl rfl (by decide) (by decide) (argsL := [(.ref a100)]) (rest := []) (lenOf own_pd0 rfl) rfl rfl at_154 (pc' := 157) rfl ?_
            rintro _ T110 h110 X110 ⟨⟨r110, rfl, hr110⟩, e110⟩
            subst e110
            show own_Goal p e below _ T110 (mkF m 157 #[.val (.int p0), .val (.int p1), .val (.int p2), .val (.int p3), .val (.int p4), .val (.int (2 : Int32)), .val (.int p1), .val (.int p2), .val (.int p1), .val (.ref a100), .val (.int (0 : Int32))] [(.int r110)])
            refine own_iload X110 rfl at_157 (pc' := 159) rfl ?_
            have c111 : r110 = (0 : Int32) := own_pick_0 hr110 (by have qc107 : ¬ p1.toInt = p2.toInt := fun z => c107 (Int32.toInt_inj.mp z); first | trivial | omega)
            refine own_icmpF X110 (own_i_eq c111).2 at_159 (pc' := 162) rfl ?_
            refine own_iconst X110 (v := (1 : Int32)) (by decide) at_162 (pc' := 163) rfl ?_
            refine own_goto X110 at_163 (pc' := 167) (by decide) (by decide) ?_
            exact own_retZ X110 (by decide) at_167 rfl (by decide) (by decide) rfl
      · -- no c85
        refine own_ifF X0 (own_z_ne c85).1 at_26 (pc' := 29) rfl ?_
        refine own_iload X0 rfl at_29 (pc' := 31) rfl ?_
        refine own_istore X0 (Ls' := #[.val (.int p0), .val (.int p1), .val (.int p2), .val (.int p3), .val (.int p4), .val (.int (2 : Int32)), .val (.int p1), .val (.int p2), .val (.int p2), .unset, .unset]) rfl at_31 (pc' := 33) rfl ?_
        refine own_goto X0 at_33 (pc' := 52) (by decide) (by decide) ?_
        refine own_iload X0 rfl at_52 (pc' := 54) rfl ?_
        refine own_newarray X0 (ty := .double) rfl (hw _ (List.mem_of_getElem? (i := 0) rfl)) (n := 2) (vs := [(.double (0 : UInt64)), (.double (0 : UInt64))]) (by decide) (by decide) (by decide) rfl (cells' := 1) (slots' := 2) rfl rfl (by decide) (by decide) at_54 (pc' := 56) rfl fun a112 T112 h112 g112 ge112 X112 E112 V112 => ?_
        refine own_astore X112 (Ls' := #[.val (.int p0), .val (.int p1), .val (.int p2), .val (.int p3), .val (.int p4), .val (.int (2 : Int32)), .val (.int p1), .val (.int p2), .val (.int p2), .val (.ref a112), .unset]) rfl rfl at_56 (pc' := 58) rfl ?_
        refine own_iload X112 rfl at_58 (pc' := 60) rfl ?_
        refine own_ifF X112 (by decide) at_60 (pc' := 63) rfl ?_
        refine own_aload X112 rfl rfl at_63 (pc' := 65) rfl ?_
        refine own_iconst X112 (v := (0 : Int32)) (by decide) at_65 (pc' := 66) rfl ?_
        refine own_iload X112 rfl at_66 (pc' := 68) rfl ?_
        have f113 := own_I.start p1
        obtain ⟨d114, e114⟩ : ∃ v, FP.i2d p1 = v := ⟨_, rfl⟩
        have f114 : own_D 0 2147483648 p1.toInt d114 := own_D.i2d f113 e114
        refine own_i2d X112 e114 at_68 (pc' := 69) rfl ?_
        refine own_dastore X112 V112 ge112 (i := 0) (by decide) (by decide) (show 0 < 2 by decide) at_69 (pc' := 70) rfl fun T115 h115 X115 W115 V115 => ?_
        replace V115 : own_Vec Z h115 a112 .double [(.double d114), (.double (0 : UInt64))] := V115
        refine own_iload X115 rfl at_70 (pc' := 72) rfl ?_
        refine own_iconst X115 (v := (1 : Int32)) (by decide) at_72 (pc' := 73) rfl ?_
        refine own_icmpF X115 (by decide) at_73 (pc' := 76) rfl ?_
        refine own_aload X115 rfl rfl at_76 (pc' := 78) rfl ?_
        refine own_iconst X115 (v := (1 : Int32)) (by decide) at_78 (pc' := 79) rfl ?_
        refine own_iload X115 rfl at_79 (pc' := 81) rfl ?_
        have f116 := own_I.start p2
        obtain ⟨d117, e117⟩ : ∃ v, FP.i2d p2 = v := ⟨_, rfl⟩
        have f117 : own_D 0 2147483648 p2.toInt d117 := own_D.i2d f116 e117
        refine own_i2d X115 e117 at_81 (pc' := 82) rfl ?_
        refine own_dastore X115 V115 ge112 (i := 1) (by decide) (by decide) (show 1 < 2 by decide) at_82 (pc' := 83) rfl fun T118 h118 X118 W118 V118 => ?_
        replace V118 : own_Vec Z h118 a112 .double [(.double d114), (.double d117)] := V118
        refine own_iload X118 rfl at_83 (pc' := 85) rfl ?_
        refine own_iconst X118 (v := (2 : Int32)) (by decide) at_85 (pc' := 86) rfl ?_
        refine own_icmpT X118 (by decide) at_86 (pc' := 96) (by decide) (by decide) ?_
        refine own_iload X118 rfl at_96 (pc' := 98) rfl ?_
        refine own_iconst X118 (v := (1 : Int32)) (by decide) at_98 (pc' := 99) rfl ?_
        refine own_icmpT X118 (by decide) at_99 (pc' := 108) (by decide) (by decide) ?_
        refine own_iload X118 rfl at_108 (pc' := 110) rfl ?_
        refine own_iconst X118 (v := (2 : Int32)) (by decide) at_110 (pc' := 111) rfl ?_
        refine own_icmpF X118 (by decide) at_111 (pc' := 114) rfl ?_
        refine own_iload X118 rfl at_114 (pc' := 116) rfl ?_
        refine own_iload X118 rfl at_116 (pc' := 118) rfl ?_
        by_cases c119 : p1 = p2
        · -- yes c119
          refine own_icmpF X118 (own_i_eq c119).2 at_118 (pc' := 121) rfl ?_
          refine own_iconst X118 (v := (1 : Int32)) (by decide) at_121 (pc' := 122) rfl ?_
          refine own_goto X118 at_122 (pc' := 126) (by decide) (by decide) ?_
          refine own_istore X118 (Ls' := #[.val (.int p0), .val (.int p1), .val (.int p2), .val (.int p3), .val (.int p4), .val (.int (2 : Int32)), .val (.int p1), .val (.int p2), .val (.int p2), .val (.ref a112), .val (.int (1 : Int32))]) rfl at_126 (pc' := 128) rfl ?_
          refine own_goto X118 at_128 (pc' := 152) (by decide) (by decide) ?_
          refine own_aload X118 rfl rfl at_152 (pc' := 154) rfl ?_
          refine own_callS X118 (own_ae2 l Z a0 hw a112 d114 p1.toInt d117 p2.toInt _ n0 X118.le V118 f114 f117) (hw _ (List.mem_of_getElem? (i := 1) rfl)) (hw _ (List.mem_of_getElem? (i := 2) rfl)) (hw _ (List.mem_of_getElem? (i := 3) rfl)) (hw _ (List.mem_of_getElem? (i := 4) rfl)) (by decide) rfl (by decide) (W := 0) (Nat.le_of_eq rfl) (by decide) (cells' := 1) (slots' := 2) rfl rfl (by decide) (by decide) (argsL := [(.ref a112)]) (rest := []) (lenOf own_pd0 rfl) rfl rfl at_154 (pc' := 157) rfl ?_
          rintro _ T120 h120 X120 ⟨⟨r120, rfl, hr120⟩, e120⟩
          subst e120
          show own_Goal p e below _ T120 (mkF m 157 #[.val (.int p0), .val (.int p1), .val (.int p2), .val (.int p3), .val (.int p4), .val (.int (2 : Int32)), .val (.int p1), .val (.int p2), .val (.int p2), .val (.ref a112), .val (.int (1 : Int32))] [(.int r120)])
          refine own_iload X120 rfl at_157 (pc' := 159) rfl ?_
          have c121 : r120 = (1 : Int32) := own_pick_1 hr120 (by have qc119 := congrArg Int32.toInt c119; first | trivial | omega)
          refine own_icmpF X120 (own_i_eq c121).2 at_159 (pc' := 162) rfl ?_
          refine own_iconst X120 (v := (1 : Int32)) (by decide) at_162 (pc' := 163) rfl ?_
          refine own_goto X120 at_163 (pc' := 167) (by decide) (by decide) ?_
          exact own_retZ X120 (by decide) at_167 rfl (by decide) (by decide) rfl
        · -- no c119
          refine own_icmpT X118 (own_i_ne c119).2 at_118 (pc' := 125) (by decide) (by decide) ?_
          refine own_iconst X118 (v := (0 : Int32)) (by decide) at_125 (pc' := 126) rfl ?_
          refine own_istore X118 (Ls' := #[.val (.int p0), .val (.int p1), .val (.int p2), .val (.int p3), .val (.int p4), .val (.int (2 : Int32)), .val (.int p1), .val (.int p2), .val (.int p2), .val (.ref a112), .val (.int (0 : Int32))]) rfl at_126 (pc' := 128) rfl ?_
          refine own_goto X118 at_128 (pc' := 152) (by decide) (by decide) ?_
          refine own_aload X118 rfl rfl at_152 (pc' := 154) rfl ?_
          refine own_callS X118 (own_ae2 l Z a0 hw a112 d114 p1.toInt d117 p2.toInt _ n0 X118.le V118 f114 f117) (hw _ (List.mem_of_getElem? (i := 1) rfl)) (hw _ (List.mem_of_getElem? (i := 2) rfl)) (hw _ (List.mem_of_getElem? (i := 3) rfl)) (hw _ (List.mem_of_getElem? (i := 4) rfl)) (by decide) rfl (by decide) (W := 0) (Nat.le_of_eq rfl) (by decide) (cells' := 1) (slots' := 2) rfl rfl (by decide) (by decide) (argsL := [(.ref a112)]) (rest := []) (lenOf own_pd0 rfl) rfl rfl at_154 (pc' := 157) rfl ?_
          rintro _ T122 h122 X122 ⟨⟨r122, rfl, hr122⟩, e122⟩
          subst e122
          show own_Goal p e below _ T122 (mkF m 157 #[.val (.int p0), .val (.int p1), .val (.int p2), .val (.int p3), .val (.int p4), .val (.int (2 : Int32)), .val (.int p1), .val (.int p2), .val (.int p2), .val (.ref a112), .val (.int (0 : Int32))] [(.int r122)])
          refine own_iload X122 rfl at_157 (pc' := 159) rfl ?_
          have c123 : r122 = (0 : Int32) := own_pick_0 hr122 (by have qc119 : ¬ p1.toInt = p2.toInt := fun z => c119 (Int32.toInt_inj.mp z); first | trivial | omega)
          refine own_icmpF X122 (own_i_eq c123).2 at_159 (pc' := 162) rfl ?_
          refine own_iconst X122 (v := (1 : Int32)) (by decide) at_162 (pc' := 163) rfl ?_
          refine own_goto X122 at_163 (pc' := 167) (by decide) (by decide) ?_
          exact own_retZ X122 (by decide) at_167 rfl (by decide) (by decide) rfl
    · -- no c83
      refine own_ifF X0 (own_z_ne c83).1 at_12 (pc' := 15) rfl ?_
      refine own_iloadN X0 rfl at_15 (pc' := 16) rfl ?_
      refine own_goto X0 at_16 (pc' := 20) (by decide) (by decide) ?_
      refine own_istore X0 (Ls' := #[.val (.int p0), .val (.int p1), .val (.int p2), .val (.int p3), .val (.int p4), .val (.int (2 : Int32)), .val (.int p1), .val (.int p1), .unset, .unset, .unset]) rfl at_20 (pc' := 22) rfl ?_
      refine own_iload X0 rfl at_22 (pc' := 24) rfl ?_
      refine own_iconst X0 (v := (2 : Int32)) (by decide) at_24 (pc' := 25) rfl ?_
      obtain ⟨i124, e124⟩ : ∃ v, p4 &&& (2 : Int32) = v := ⟨_, rfl⟩
      have f124 : own_I 2 i124.toInt i124 := own_I.and e124 (by decide)
      have nn124 := own_and_nn (M := 2) e124 (by decide)
      refine own_iand X0 e124 at_25 (pc' := 26) rfl ?_
      by_cases c125 : i124 = 0
      · -- yes c125
        refine own_ifT X0 (own_z_eq c125).1 at_26 (pc' := 36) (by decide) (by decide) ?_
        refine own_iload X0 rfl at_36 (pc' := 38) rfl ?_
        refine own_iconst X0 (v := (4 : Int32)) (by decide) at_38 (pc' := 39) rfl ?_
        obtain ⟨i126, e126⟩ : ∃ v, p4 &&& (4 : Int32) = v := ⟨_, rfl⟩
        have f126 : own_I 4 i126.toInt i126 := own_I.and e126 (by decide)
        have nn126 := own_and_nn (M := 4) e126 (by decide)
        refine own_iand X0 e126 at_39 (pc' := 40) rfl ?_
        by_cases c127 : i126 = 0
        · -- yes c127
          refine own_ifT X0 (own_z_eq c127).1 at_40 (pc' := 49) (by decide) (by decide) ?_
          refine own_iloadN X0 rfl at_49 (pc' := 50) rfl ?_
          refine own_istore X0 (Ls' := #[.val (.int p0), .val (.int p1), .val (.int p2), .val (.int p3), .val (.int p4), .val (.int (2 : Int32)), .val (.int p1), .val (.int p1), .val (.int p3), .unset, .unset]) rfl at_50 (pc' := 52) rfl ?_
          refine own_iload X0 rfl at_52 (pc' := 54) rfl ?_
          refine own_newarray X0 (ty := .double) rfl (hw _ (List.mem_of_getElem? (i := 0) rfl)) (n := 2) (vs := [(.double (0 : UInt64)), (.double (0 : UInt64))]) (by decide) (by decide) (by decide) rfl (cells' := 1) (slots' := 2) rfl rfl (by decide) (by decide) at_54 (pc' := 56) rfl fun a128 T128 h128 g128 ge128 X128 E128 V128 => ?_
          refine own_astore X128 (Ls' := #[.val (.int p0), .val (.int p1), .val (.int p2), .val (.int p3), .val (.int p4), .val (.int (2 : Int32)), .val (.int p1), .val (.int p1), .val (.int p3), .val (.ref a128), .unset]) rfl rfl at_56 (pc' := 58) rfl ?_
          refine own_iload X128 rfl at_58 (pc' := 60) rfl ?_
          refine own_ifF X128 (by decide) at_60 (pc' := 63) rfl ?_
          refine own_aload X128 rfl rfl at_63 (pc' := 65) rfl ?_
          refine own_iconst X128 (v := (0 : Int32)) (by decide) at_65 (pc' := 66) rfl ?_
          refine own_iload X128 rfl at_66 (pc' := 68) rfl ?_
          have f129 := own_I.start p1
          obtain ⟨d130, e130⟩ : ∃ v, FP.i2d p1 = v := ⟨_, rfl⟩
          have f130 : own_D 0 2147483648 p1.toInt d130 := own_D.i2d f129 e130
          refine own_i2d X128 e130 at_68 (pc' := 69) rfl ?_
          refine own_dastore X128 V128 ge128 (i := 0) (by decide) (by decide) (show 0 < 2 by decide) at_69 (pc' := 70) rfl fun T131 h131 X131 W131 V131 => ?_
          replace V131 : own_Vec Z h131 a128 .double [(.double d130), (.double (0 : UInt64))] := V131
          refine own_iload X131 rfl at_70 (pc' := 72) rfl ?_
          refine own_iconst X131 (v := (1 : Int32)) (by decide) at_72 (pc' := 73) rfl ?_
          refine own_icmpF X131 (by decide) at_73 (pc' := 76) rfl ?_
          refine own_aload X131 rfl rfl at_76 (pc' := 78) rfl ?_
          refine own_iconst X131 (v := (1 : Int32)) (by decide) at_78 (pc' := 79) rfl ?_
          refine own_iload X131 rfl at_79 (pc' := 81) rfl ?_
          obtain ⟨d132, e132⟩ : ∃ v, FP.i2d p1 = v := ⟨_, rfl⟩
          have f132 : own_D 0 2147483648 p1.toInt d132 := own_D.i2d f129 e132
          refine own_i2d X131 e132 at_81 (pc' := 82) rfl ?_
          refine own_dastore X131 V131 ge128 (i := 1) (by decide) (by decide) (show 1 < 2 by decide) at_82 (pc' := 83) rfl fun T133 h133 X133 W133 V133 => ?_
          replace V133 : own_Vec Z h133 a128 .double [(.double d130), (.double d132)] := V133
          refine own_iload X133 rfl at_83 (pc' := 85) rfl ?_
          refine own_iconst X133 (v := (2 : Int32)) (by decide) at_85 (pc' := 86) rfl ?_
          refine own_icmpT X133 (by decide) at_86 (pc' := 96) (by decide) (by decide) ?_
          refine own_iload X133 rfl at_96 (pc' := 98) rfl ?_
          refine own_iconst X133 (v := (1 : Int32)) (by decide) at_98 (pc' := 99) rfl ?_
          refine own_icmpT X133 (by decide) at_99 (pc' := 108) (by decide) (by decide) ?_
          refine own_iload X133 rfl at_108 (pc' := 110) rfl ?_
          refine own_iconst X133 (v := (2 : Int32)) (by decide) at_110 (pc' := 111) rfl ?_
          refine own_icmpF X133 (by decide) at_111 (pc' := 114) rfl ?_
          refine own_iload X133 rfl at_114 (pc' := 116) rfl ?_
          refine own_iload X133 rfl at_116 (pc' := 118) rfl ?_
          have c134 : p1 = p1 := rfl
          refine own_icmpF X133 (own_i_eq c134).2 at_118 (pc' := 121) rfl ?_
          refine own_iconst X133 (v := (1 : Int32)) (by decide) at_121 (pc' := 122) rfl ?_
          refine own_goto X133 at_122 (pc' := 126) (by decide) (by decide) ?_
          refine own_istore X133 (Ls' := #[.val (.int p0), .val (.int p1), .val (.int p2), .val (.int p3), .val (.int p4), .val (.int (2 : Int32)), .val (.int p1), .val (.int p1), .val (.int p3), .val (.ref a128), .val (.int (1 : Int32))]) rfl at_126 (pc' := 128) rfl ?_
          refine own_goto X133 at_128 (pc' := 152) (by decide) (by decide) ?_
          refine own_aload X133 rfl rfl at_152 (pc' := 154) rfl ?_
          refine own_callS X133 (own_ae2 l Z a0 hw a128 d130 p1.toInt d132 p1.toInt _ n0 X133.le V133 f130 f132) (hw _ (List.mem_of_getElem? (i := 1) rfl)) (hw _ (List.mem_of_getElem? (i := 2) rfl)) (hw _ (List.mem_of_getElem? (i := 3) rfl)) (hw _ (List.mem_of_getElem? (i := 4) rfl)) (by decide) rfl (by decide) (W := 0) (Nat.le_of_eq rfl) (by decide) (cells' := 1) (slots' := 2) rfl rfl (by decide) (by decide) (argsL := [(.ref a128)]) (rest := []) (lenOf own_pd0 rfl) rfl rfl at_154 (pc' := 157) rfl ?_
          rintro _ T135 h135 X135 ⟨⟨r135, rfl, hr135⟩, e135⟩
          subst e135
          show own_Goal p e below _ T135 (mkF m 157 #[.val (.int p0), .val (.int p1), .val (.int p2), .val (.int p3), .val (.int p4), .val (.int (2 : Int32)), .val (.int p1), .val (.int p1), .val (.int p3), .val (.ref a128), .val (.int (1 : Int32))] [(.int r135)])
          refine own_iload X135 rfl at_157 (pc' := 159) rfl ?_
          have c136 : r135 = (1 : Int32) := own_pick_1 hr135 (by have qc134 := congrArg Int32.toInt c134; first | trivial | omega)
          refine own_icmpF X135 (own_i_eq c136).2 at_159 (pc' := 162) rfl ?_
          refine own_iconst X135 (v := (1 : Int32)) (by decide) at_162 (pc' := 163) rfl ?_
          refine own_goto X135 at_163 (pc' := 167) (by decide) (by decide) ?_
          exact own_retZ X135 (by decide) at_167 rfl (by decide) (by decide) rfl
        · -- no c127
          refine own_ifF X0 (own_z_ne c127).1 at_40 (pc' := 43) rfl ?_
          refine own_iloadN X0 rfl at_43 (pc' := 44) rfl ?_
          refine own_istore X0 (Ls' := #[.val (.int p0), .val (.int p1), .val (.int p2), .val (.int p3), .val (.int p4), .val (.int (2 : Int32)), .val (.int p1), .val (.int p1), .val (.int p1), .unset, .unset]) rfl at_44 (pc' := 46) rfl ?_
          refine own_goto X0 at_46 (pc' := 52) (by decide) (by decide) ?_
          refine own_iload X0 rfl at_52 (pc' := 54) rfl ?_
          refine own_newarray X0 (ty := .double) rfl (hw _ (List.mem_of_getElem? (i := 0) rfl)) (n := 2) (vs := [(.double (0 : UInt64)), (.double (0 : UInt64))]) (by decide) (by decide) (by decide) rfl (cells' := 1) (slots' := 2) rfl rfl (by decide) (by decide) at_54 (pc' := 56) rfl fun a137 T137 h137 g137 ge137 X137 E137 V137 => ?_
          refine own_astore X137 (Ls' := #[.val (.int p0), .val (.int p1), .val (.int p2), .val (.int p3), .val (.int p4), .val (.int (2 : Int32)), .val (.int p1), .val (.int p1), .val (.int p1), .val (.ref a137), .unset]) rfl rfl at_56 (pc' := 58) rfl ?_
          refine own_iload X137 rfl at_58 (pc' := 60) rfl ?_
          refine own_ifF X137 (by decide) at_60 (pc' := 63) rfl ?_
          refine own_aload X137 rfl rfl at_63 (pc' := 65) rfl ?_
          refine own_iconst X137 (v := (0 : Int32)) (by decide) at_65 (pc' := 66) rfl ?_
          refine own_iload X137 rfl at_66 (pc' := 68) rfl ?_
          have f138 := own_I.start p1
          obtain ⟨d139, e139⟩ : ∃ v, FP.i2d p1 = v := ⟨_, rfl⟩
          have f139 : own_D 0 2147483648 p1.toInt d139 := own_D.i2d f138 e139
          refine own_i2d X137 e139 at_68 (pc' := 69) rfl ?_
          refine own_dastore X137 V137 ge137 (i := 0) (by decide) (by decide) (show 0 < 2 by decide) at_69 (pc' := 70) rfl fun T140 h140 X140 W140 V140 => ?_
          replace V140 : own_Vec Z h140 a137 .double [(.double d139), (.double (0 : UInt64))] := V140
          refine own_iload X140 rfl at_70 (pc' := 72) rfl ?_
          refine own_iconst X140 (v := (1 : Int32)) (by decide) at_72 (pc' := 73) rfl ?_
          refine own_icmpF X140 (by decide) at_73 (pc' := 76) rfl ?_
          refine own_aload X140 rfl rfl at_76 (pc' := 78) rfl ?_
          refine own_iconst X140 (v := (1 : Int32)) (by decide) at_78 (pc' := 79) rfl ?_
          refine own_iload X140 rfl at_79 (pc' := 81) rfl ?_
          obtain ⟨d141, e141⟩ : ∃ v, FP.i2d p1 = v := ⟨_, rfl⟩
          have f141 : own_D 0 2147483648 p1.toInt d141 := own_D.i2d f138 e141
          refine own_i2d X140 e141 at_81 (pc' := 82) rfl ?_
          refine own_dastore X140 V140 ge137 (i := 1) (by decide) (by decide) (show 1 < 2 by decide) at_82 (pc' := 83) rfl fun T142 h142 X142 W142 V142 => ?_
          replace V142 : own_Vec Z h142 a137 .double [(.double d139), (.double d141)] := V142
          refine own_iload X142 rfl at_83 (pc' := 85) rfl ?_
          refine own_iconst X142 (v := (2 : Int32)) (by decide) at_85 (pc' := 86) rfl ?_
          refine own_icmpT X142 (by decide) at_86 (pc' := 96) (by decide) (by decide) ?_
          refine own_iload X142 rfl at_96 (pc' := 98) rfl ?_
          refine own_iconst X142 (v := (1 : Int32)) (by decide) at_98 (pc' := 99) rfl ?_
          refine own_icmpT X142 (by decide) at_99 (pc' := 108) (by decide) (by decide) ?_
          refine own_iload X142 rfl at_108 (pc' := 110) rfl ?_
          refine own_iconst X142 (v := (2 : Int32)) (by decide) at_110 (pc' := 111) rfl ?_
          refine own_icmpF X142 (by decide) at_111 (pc' := 114) rfl ?_
          refine own_iload X142 rfl at_114 (pc' := 116) rfl ?_
          refine own_iload X142 rfl at_116 (pc' := 118) rfl ?_
          have c143 : p1 = p1 := rfl
          refine own_icmpF X142 (own_i_eq c143).2 at_118 (pc' := 121) rfl ?_
          refine own_iconst X142 (v := (1 : Int32)) (by decide) at_121 (pc' := 122) rfl ?_
          refine own_goto X142 at_122 (pc' := 126) (by decide) (by decide) ?_
          refine own_istore X142 (Ls' := #[.val (.int p0), .val (.int p1), .val (.int p2), .val (.int p3), .val (.int p4), .val (.int (2 : Int32)), .val (.int p1), .val (.int p1), .val (.int p1), .val (.ref a137), .val (.int (1 : Int32))]) rfl at_126 (pc' := 128) rfl ?_
          refine own_goto X142 at_128 (pc' := 152) (by decide) (by decide) ?_
          refine own_aload X142 rfl rfl at_152 (pc' := 154) rfl ?_
          refine own_callS X142 (own_ae2 l Z a0 hw a137 d139 p1.toInt d141 p1.toInt _ n0 X142.le V142 f139 f141) (hw _ (List.mem_of_getElem? (i := 1) rfl)) (hw _ (List.mem_of_getElem? (i := 2) rfl)) (hw _ (List.mem_of_getElem? (i := 3) rfl)) (hw _ (List.mem_of_getElem? (i := 4) rfl)) (by decide) rfl (by decide) (W := 0) (Nat.le_of_eq rfl) (by decide) (cells' := 1) (slots' := 2) rfl rfl (by decide) (by decide) (argsL := [(.ref a137)]) (rest := []) (lenOf own_pd0 rfl) rfl rfl at_154 (pc' := 157) rfl ?_
          rintro _ T144 h144 X144 ⟨⟨r144, rfl, hr144⟩, e144⟩
          subst e144
          show own_Goal p e below _ T144 (mkF m 157 #[.val (.int p0), .val (.int p1), .val (.int p2), .val (.int p3), .val (.int p4), .val (.int (2 : Int32)), .val (.int p1), .val (.int p1), .val (.int p1), .val (.ref a137), .val (.int (1 : Int32))] [(.int r144)])
          refine own_iload X144 rfl at_157 (pc' := 159) rfl ?_
          have c145 : r144 = (1 : Int32) := own_pick_1 hr144 (by have qc143 := congrArg Int32.toInt c143; first | trivial | omega)
          refine own_icmpF X144 (own_i_eq c145).2 at_159 (pc' := 162) rfl ?_
          refine own_iconst X144 (v := (1 : Int32)) (by decide) at_162 (pc' := 163) rfl ?_
          refine own_goto X144 at_163 (pc' := 167) (by decide) (by decide) ?_
          exact own_retZ X144 (by decide) at_167 rfl (by decide) (by decide) rfl
      · -- no c125
        refine own_ifF X0 (own_z_ne c125).1 at_26 (pc' := 29) rfl ?_
        refine own_iload X0 rfl at_29 (pc' := 31) rfl ?_
        refine own_istore X0 (Ls' := #[.val (.int p0), .val (.int p1), .val (.int p2), .val (.int p3), .val (.int p4), .val (.int (2 : Int32)), .val (.int p1), .val (.int p1), .val (.int p1), .unset, .unset]) rfl at_31 (pc' := 33) rfl ?_
        refine own_goto X0 at_33 (pc' := 52) (by decide) (by decide) ?_
        refine own_iload X0 rfl at_52 (pc' := 54) rfl ?_
        refine own_newarray X0 (ty := .double) rfl (hw _ (List.mem_of_getElem? (i := 0) rfl)) (n := 2) (vs := [(.double (0 : UInt64)), (.double (0 : UInt64))]) (by decide) (by decide) (by decide) rfl (cells' := 1) (slots' := 2) rfl rfl (by decide) (by decide) at_54 (pc' := 56) rfl fun a146 T146 h146 g146 ge146 X146 E146 V146 => ?_
        refine own_astore X146 (Ls' := #[.val (.int p0), .val (.int p1), .val (.int p2), .val (.int p3), .val (.int p4), .val (.int (2 : Int32)), .val (.int p1), .val (.int p1), .val (.int p1), .val (.ref a146), .unset]) rfl rfl at_56 (pc' := 58) rfl ?_
        refine own_iload X146 rfl at_58 (pc' := 60) rfl ?_
        refine own_ifF X146 (by decide) at_60 (pc' := 63) rfl ?_
        refine own_aload X146 rfl rfl at_63 (pc' := 65) rfl ?_
        refine own_iconst X146 (v := (0 : Int32)) (by decide) at_65 (pc' := 66) rfl ?_
        refine own_iload X146 rfl at_66 (pc' := 68) rfl ?_
        have f147 := own_I.start p1
        obtain ⟨d148, e148⟩ : ∃ v, FP.i2d p1 = v := ⟨_, rfl⟩
        have f148 : own_D 0 2147483648 p1.toInt d148 := own_D.i2d f147 e148
        refine own_i2d X146 e148 at_68 (pc' := 69) rfl ?_
        refine own_dastore X146 V146 ge146 (i := 0) (by decide) (by decide) (show 0 < 2 by decide) at_69 (pc' := 70) rfl fun T149 h149 X149 W149 V149 => ?_
        replace V149 : own_Vec Z h149 a146 .double [(.double d148), (.double (0 : UInt64))] := V149
        refine own_iload X149 rfl at_70 (pc' := 72) rfl ?_
        refine own_iconst X149 (v := (1 : Int32)) (by decide) at_72 (pc' := 73) rfl ?_
        refine own_icmpF X149 (by decide) at_73 (pc' := 76) rfl ?_
        refine own_aload X149 rfl rfl at_76 (pc' := 78) rfl ?_
        refine own_iconst X149 (v := (1 : Int32)) (by decide) at_78 (pc' := 79) rfl ?_
        refine own_iload X149 rfl at_79 (pc' := 81) rfl ?_
        obtain ⟨d150, e150⟩ : ∃ v, FP.i2d p1 = v := ⟨_, rfl⟩
        have f150 : own_D 0 2147483648 p1.toInt d150 := own_D.i2d f147 e150
        refine own_i2d X149 e150 at_81 (pc' := 82) rfl ?_
        refine own_dastore X149 V149 ge146 (i := 1) (by decide) (by decide) (show 1 < 2 by decide) at_82 (pc' := 83) rfl fun T151 h151 X151 W151 V151 => ?_
        replace V151 : own_Vec Z h151 a146 .double [(.double d148), (.double d150)] := V151
        refine own_iload X151 rfl at_83 (pc' := 85) rfl ?_
        refine own_iconst X151 (v := (2 : Int32)) (by decide) at_85 (pc' := 86) rfl ?_
        refine own_icmpT X151 (by decide) at_86 (pc' := 96) (by decide) (by decide) ?_
        refine own_iload X151 rfl at_96 (pc' := 98) rfl ?_
        refine own_iconst X151 (v := (1 : Int32)) (by decide) at_98 (pc' := 99) rfl ?_
        refine own_icmpT X151 (by decide) at_99 (pc' := 108) (by decide) (by decide) ?_
        refine own_iload X151 rfl at_108 (pc' := 110) rfl ?_
        refine own_iconst X151 (v := (2 : Int32)) (by decide) at_110 (pc' := 111) rfl ?_
        refine own_icmpF X151 (by decide) at_111 (pc' := 114) rfl ?_
        refine own_iload X151 rfl at_114 (pc' := 116) rfl ?_
        refine own_iload X151 rfl at_116 (pc' := 118) rfl ?_
        have c152 : p1 = p1 := rfl
        refine own_icmpF X151 (own_i_eq c152).2 at_118 (pc' := 121) rfl ?_
        refine own_iconst X151 (v := (1 : Int32)) (by decide) at_121 (pc' := 122) rfl ?_
        refine own_goto X151 at_122 (pc' := 126) (by decide) (by decide) ?_
        refine own_istore X151 (Ls' := #[.val (.int p0), .val (.int p1), .val (.int p2), .val (.int p3), .val (.int p4), .val (.int (2 : Int32)), .val (.int p1), .val (.int p1), .val (.int p1), .val (.ref a146), .val (.int (1 : Int32))]) rfl at_126 (pc' := 128) rfl ?_
        refine own_goto X151 at_128 (pc' := 152) (by decide) (by decide) ?_
        refine own_aload X151 rfl rfl at_152 (pc' := 154) rfl ?_
        refine own_callS X151 (own_ae2 l Z a0 hw a146 d148 p1.toInt d150 p1.toInt _ n0 X151.le V151 f148 f150) (hw _ (List.mem_of_getElem? (i := 1) rfl)) (hw _ (List.mem_of_getElem? (i := 2) rfl)) (hw _ (List.mem_of_getElem? (i := 3) rfl)) (hw _ (List.mem_of_getElem? (i := 4) rfl)) (by decide) rfl (by decide) (W := 0) (Nat.le_of_eq rfl) (by decide) (cells' := 1) (slots' := 2) rfl rfl (by decide) (by decide) (argsL := [(.ref a146)]) (rest := []) (lenOf own_pd0 rfl) rfl rfl at_154 (pc' := 157) rfl ?_
        rintro _ T153 h153 X153 ⟨⟨r153, rfl, hr153⟩, e153⟩
        subst e153
        show own_Goal p e below _ T153 (mkF m 157 #[.val (.int p0), .val (.int p1), .val (.int p2), .val (.int p3), .val (.int p4), .val (.int (2 : Int32)), .val (.int p1), .val (.int p1), .val (.int p1), .val (.ref a146), .val (.int (1 : Int32))] [(.int r153)])
        refine own_iload X153 rfl at_157 (pc' := 159) rfl ?_
        have c154 : r153 = (1 : Int32) := own_pick_1 hr153 (by have qc152 := congrArg Int32.toInt c152; first | trivial | omega)
        refine own_icmpF X153 (own_i_eq c154).2 at_159 (pc' := 162) rfl ?_
        refine own_iconst X153 (v := (1 : Int32)) (by decide) at_162 (pc' := 163) rfl ?_
        refine own_goto X153 at_163 (pc' := 167) (by decide) (by decide) ?_
        exact own_retZ X153 (by decide) at_167 rfl (by decide) (by decide) rfl
  · -- 3
    refine own_istore X0 (Ls' := #[.val (.int p0), .val (.int p1), .val (.int p2), .val (.int p3), .val (.int p4), .val (.int (3 : Int32)), .unset, .unset, .unset, .unset, .unset]) rfl at_3 (pc' := 5) rfl ?_
    refine own_iloadN X0 rfl at_5 (pc' := 6) rfl ?_
    refine own_istore X0 (Ls' := #[.val (.int p0), .val (.int p1), .val (.int p2), .val (.int p3), .val (.int p4), .val (.int (3 : Int32)), .val (.int p1), .unset, .unset, .unset, .unset]) rfl at_6 (pc' := 8) rfl ?_
    refine own_iload X0 rfl at_8 (pc' := 10) rfl ?_
    refine own_iconst X0 (v := (1 : Int32)) (by decide) at_10 (pc' := 11) rfl ?_
    obtain ⟨i155, e155⟩ : ∃ v, p4 &&& (1 : Int32) = v := ⟨_, rfl⟩
    have f155 : own_I 1 i155.toInt i155 := own_I.and e155 (by decide)
    have nn155 := own_and_nn (M := 1) e155 (by decide)
    refine own_iand X0 e155 at_11 (pc' := 12) rfl ?_
    by_cases c156 : i155 = 0
    · -- yes c156
      refine own_ifT X0 (own_z_eq c156).1 at_12 (pc' := 19) (by decide) (by decide) ?_
      refine own_iloadN X0 rfl at_19 (pc' := 20) rfl ?_
      refine own_istore X0 (Ls' := #[.val (.int p0), .val (.int p1), .val (.int p2), .val (.int p3), .val (.int p4), .val (.int (3 : Int32)), .val (.int p1), .val (.int p2), .unset, .unset, .unset]) rfl at_20 (pc' := 22) rfl ?_
      refine own_iload X0 rfl at_22 (pc' := 24) rfl ?_
      refine own_iconst X0 (v := (2 : Int32)) (by decide) at_24 (pc' := 25) rfl ?_
      obtain ⟨i157, e157⟩ : ∃ v, p4 &&& (2 : Int32) = v := ⟨_, rfl⟩
      have f157 : own_I 2 i157.toInt i157 := own_I.and e157 (by decide)
      have nn157 := own_and_nn (M := 2) e157 (by decide)
      refine own_iand X0 e157 at_25 (pc' := 26) rfl ?_
      by_cases c158 : i157 = 0
      · -- yes c158
        refine own_ifT X0 (own_z_eq c158).1 at_26 (pc' := 36) (by decide) (by decide) ?_
        refine own_iload X0 rfl at_36 (pc' := 38) rfl ?_
        refine own_iconst X0 (v := (4 : Int32)) (by decide) at_38 (pc' := 39) rfl ?_
        obtain ⟨i159, e159⟩ : ∃ v, p4 &&& (4 : Int32) = v := ⟨_, rfl⟩
        have f159 : own_I 4 i159.toInt i159 := own_I.and e159 (by decide)
        have nn159 := own_and_nn (M := 4) e159 (by decide)
        refine own_iand X0 e159 at_39 (pc' := 40) rfl ?_
        by_cases c160 : i159 = 0
        · -- yes c160
          refine own_ifT X0 (own_z_eq c160).1 at_40 (pc' := 49) (by decide) (by decide) ?_
          refine own_iloadN X0 rfl at_49 (pc' := 50) rfl ?_
          refine own_istore X0 (Ls' := #[.val (.int p0), .val (.int p1), .val (.int p2), .val (.int p3), .val (.int p4), .val (.int (3 : Int32)), .val (.int p1), .val (.int p2), .val (.int p3), .unset, .unset]) rfl at_50 (pc' := 52) rfl ?_
          refine own_iload X0 rfl at_52 (pc' := 54) rfl ?_
          refine own_newarray X0 (ty := .double) rfl (hw _ (List.mem_of_getElem? (i := 0) rfl)) (n := 3) (vs := [(.double (0 : UInt64)), (.double (0 : UInt64)), (.double (0 : UInt64))]) (by decide) (by decide) (by decide) rfl (cells' := 1) (slots' := 3) rfl rfl (by decide) (by decide) at_54 (pc' := 56) rfl fun a161 T161 h161 g161 ge161 X161 E161 V161 => ?_
          refine own_astore X161 (Ls' := #[.val (.int p0), .val (.int p1), .val (.int p2), .val (.int p3), .val (.int p4), .val (.int (3 : Int32)), .val (.int p1), .val (.int p2), .val (.int p3), .val (.ref a161), .unset]) rfl rfl at_56 (pc' := 58) rfl ?_
          refine own_iload X161 rfl at_58 (pc' := 60) rfl ?_
          refine own_ifF X161 (by decide) at_60 (pc' := 63) rfl ?_
          refine own_aload X161 rfl rfl at_63 (pc' := 65) rfl ?_
          refine own_iconst X161 (v := (0 : Int32)) (by decide) at_65 (pc' := 66) rfl ?_
          refine own_iload X161 rfl at_66 (pc' := 68) rfl ?_
          have f162 := own_I.start p1
          obtain ⟨d163, e163⟩ : ∃ v, FP.i2d p1 = v := ⟨_, rfl⟩
          have f163 : own_D 0 2147483648 p1.toInt d163 := own_D.i2d f162 e163
          refine own_i2d X161 e163 at_68 (pc' := 69) rfl ?_
          refine own_dastore X161 V161 ge161 (i := 0) (by decide) (by decide) (show 0 < 3 by decide) at_69 (pc' := 70) rfl fun T164 h164 X164 W164 V164 => ?_
          replace V164 : own_Vec Z h164 a161 .double [(.double d163), (.double (0 : UInt64)), (.double (0 : UInt64))] := V164
          refine own_iload X164 rfl at_70 (pc' := 72) rfl ?_
          refine own_iconst X164 (v := (1 : Int32)) (by decide) at_72 (pc' := 73) rfl ?_
          refine own_icmpF X164 (by decide) at_73 (pc' := 76) rfl ?_
          refine own_aload X164 rfl rfl at_76 (pc' := 78) rfl ?_
          refine own_iconst X164 (v := (1 : Int32)) (by decide) at_78 (pc' := 79) rfl ?_
          refine own_iload X164 rfl at_79 (pc' := 81) rfl ?_
          have f165 := own_I.start p2
          obtain ⟨d166, e166⟩ : ∃ v, FP.i2d p2 = v := ⟨_, rfl⟩
          have f166 : own_D 0 2147483648 p2.toInt d166 := own_D.i2d f165 e166
          refine own_i2d X164 e166 at_81 (pc' := 82) rfl ?_
          refine own_dastore X164 V164 ge161 (i := 1) (by decide) (by decide) (show 1 < 3 by decide) at_82 (pc' := 83) rfl fun T167 h167 X167 W167 V167 => ?_
          replace V167 : own_Vec Z h167 a161 .double [(.double d163), (.double d166), (.double (0 : UInt64))] := V167
          refine own_iload X167 rfl at_83 (pc' := 85) rfl ?_
          refine own_iconst X167 (v := (2 : Int32)) (by decide) at_85 (pc' := 86) rfl ?_
          refine own_icmpF X167 (by decide) at_86 (pc' := 89) rfl ?_
          refine own_aload X167 rfl rfl at_89 (pc' := 91) rfl ?_
          refine own_iconst X167 (v := (2 : Int32)) (by decide) at_91 (pc' := 92) rfl ?_
          refine own_iload X167 rfl at_92 (pc' := 94) rfl ?_
          have f168 := own_I.start p3
          obtain ⟨d169, e169⟩ : ∃ v, FP.i2d p3 = v := ⟨_, rfl⟩
          have f169 : own_D 0 2147483648 p3.toInt d169 := own_D.i2d f168 e169
          refine own_i2d X167 e169 at_94 (pc' := 95) rfl ?_
          refine own_dastore X167 V167 ge161 (i := 2) (by decide) (by decide) (show 2 < 3 by decide) at_95 (pc' := 96) rfl fun T170 h170 X170 W170 V170 => ?_
          replace V170 : own_Vec Z h170 a161 .double [(.double d163), (.double d166), (.double d169)] := V170
          refine own_iload X170 rfl at_96 (pc' := 98) rfl ?_
          refine own_iconst X170 (v := (1 : Int32)) (by decide) at_98 (pc' := 99) rfl ?_
          refine own_icmpT X170 (by decide) at_99 (pc' := 108) (by decide) (by decide) ?_
          refine own_iload X170 rfl at_108 (pc' := 110) rfl ?_
          refine own_iconst X170 (v := (2 : Int32)) (by decide) at_110 (pc' := 111) rfl ?_
          refine own_icmpT X170 (by decide) at_111 (pc' := 131) (by decide) (by decide) ?_
          refine own_iload X170 rfl at_131 (pc' := 133) rfl ?_
          refine own_iload X170 rfl at_133 (pc' := 135) rfl ?_
          by_cases c171 : p1 = p2
          · -- yes c171
            refine own_icmpF X170 (own_i_eq c171).2 at_135 (pc' := 138) rfl ?_
            refine own_iload X170 rfl at_138 (pc' := 140) rfl ?_
            refine own_iload X170 rfl at_140 (pc' := 142) rfl ?_
            by_cases c172 : p2 = p3
            · -- yes c172
              refine own_icmpF X170 (own_i_eq c172).2 at_142 (pc' := 145) rfl ?_
              refine own_iconst X170 (v := (1 : Int32)) (by decide) at_145 (pc' := 146) rfl ?_
              refine own_goto X170 at_146 (pc' := 150) (by decide) (by decide) ?_
              refine own_istore X170 (Ls' := #[.val (.int p0), .val (.int p1), .val (.int p2), .val (.int p3), .val (.int p4), .val (.int (3 : Int32)), .val (.int p1), .val (.int p2), .val (.int p3), .val (.ref a161), .val (.int (1 : Int32))]) rfl at_150 (pc' := 152) rfl ?_
              refine own_aload X170 rfl rfl at_152 (pc' := 154) rfl ?_
              refine own_callS X170 (own_ae3 l Z a0 hw a161 d163 p1.toInt d166 p2.toInt d169 p3.toInt _ n0 X170.le V170 f163 f166 f169) (hw _ (List.mem_of_getElem? (i := 1) rfl)) (hw _ (List.mem_of_getElem? (i := 2) rfl)) (hw _ (List.mem_of_getElem? (i := 3) rfl)) (hw _ (List.mem_of_getElem? (i := 4) rfl)) (by decide) rfl (by decide) (W := 0) (Nat.le_of_eq rfl) (by decide) (cells' := 1) (slots' := 3) rfl rfl (by decide) (by decide) (argsL := [(.ref a161)]) (rest := []) (lenOf own_pd0 rfl) rfl rfl at_154 (pc' := 157) rfl ?_
              rintro _ T173 h173 X173 ⟨⟨r173, rfl, hr173⟩, e173⟩
              subst e173
              show own_Goal p e below _ T173 (mkF m 157 #[.val (.int p0), .val (.int p1), .val (.int p2), .val (.int p3), .val (.int p4), .val (.int (3 : Int32)), .val (.int p1), .val (.int p2), .val (.int p3), .val (.ref a161), .val (.int (1 : Int32))] [(.int r173)])
              refine own_iload X173 rfl at_157 (pc' := 159) rfl ?_
              have c174 : r173 = (1 : Int32) := own_pick_1 hr173 (by have qc171 := congrArg Int32.toInt c171; have qc172 := congrArg Int32.toInt c172; first | trivial | omega)
              refine own_icmpF X173 (own_i_eq c174).2 at_159 (pc' := 162) rfl ?_
              refine own_iconst X173 (v := (1 : Int32)) (by decide) at_162 (pc' := 163) rfl ?_
              refine own_goto X173 at_163 (pc' := 167) (by decide) (by decide) ?_
              exact own_retZ X173 (by decide) at_167 rfl (by decide) (by decide) rfl
            · -- no c172
              refine own_icmpT X170 (own_i_ne c172).2 at_142 (pc' := 149) (by decide) (by decide) ?_
              refine own_iconst X170 (v := (0 : Int32)) (by decide) at_149 (pc' := 150) rfl ?_
              refine own_istore X170 (Ls' := #[.val (.int p0), .val (.int p1), .val (.int p2), .val (.int p3), .val (.int p4), .val (.int (3 : Int32)), .val (.int p1), .val (.int p2), .val (.int p3), .val (.ref a161), .val (.int (0 : Int32))]) rfl at_150 (pc' := 152) rfl ?_
              refine own_aload X170 rfl rfl at_152 (pc' := 154) rfl ?_
              refine own_callS X170 (own_ae3 l Z a0 hw a161 d163 p1.toInt d166 p2.toInt d169 p3.toInt _ n0 X170.le V170 f163 f166 f169) (hw _ (List.mem_of_getElem? (i := 1) rfl)) (hw _ (List.mem_of_getElem? (i := 2) rfl)) (hw _ (List.mem_of_getElem? (i := 3) rfl)) (hw _ (List.mem_of_getElem? (i := 4) rfl)) (by decide) rfl (by decide) (W := 0) (Nat.le_of_eq rfl) (by decide) (cells' := 1) (slots' := 3) rfl rfl (by decide) (by decide) (argsL := [(.ref a161)]) (rest := []) (lenOf own_pd0 rfl) rfl rfl at_154 (pc' := 157) rfl ?_
              rintro _ T175 h175 X175 ⟨⟨r175, rfl, hr175⟩, e175⟩
              subst e175
              show own_Goal p e below _ T175 (mkF m 157 #[.val (.int p0), .val (.int p1), .val (.int p2), .val (.int p3), .val (.int p4), .val (.int (3 : Int32)), .val (.int p1), .val (.int p2), .val (.int p3), .val (.ref a161), .val (.int (0 : Int32))] [(.int r175)])
              refine own_iload X175 rfl at_157 (pc' := 159) rfl ?_
              have c176 : r175 = (0 : Int32) := own_pick_0 hr175 (by have qc171 := congrArg Int32.toInt c171; have qc172 : ¬ p2.toInt = p3.toInt := fun z => c172 (Int32.toInt_inj.mp z); first | trivial | omega)
              refine own_icmpF X175 (own_i_eq c176).2 at_159 (pc' := 162) rfl ?_
              refine own_iconst X175 (v := (1 : Int32)) (by decide) at_162 (pc' := 163) rfl ?_
              refine own_goto X175 at_163 (pc' := 167) (by decide) (by decide) ?_
              exact own_retZ X175 (by decide) at_167 rfl (by decide) (by decide) rfl
          · -- no c171
            refine own_icmpT X170 (own_i_ne c171).2 at_135 (pc' := 149) (by decide) (by decide) ?_
            refine own_iconst X170 (v := (0 : Int32)) (by decide) at_149 (pc' := 150) rfl ?_
            refine own_istore X170 (Ls' := #[.val (.int p0), .val (.int p1), .val (.int p2), .val (.int p3), .val (.int p4), .val (.int (3 : Int32)), .val (.int p1), .val (.int p2), .val (.int p3), .val (.ref a161), .val (.int (0 : Int32))]) rfl at_150 (pc' := 152) rfl ?_
            refine own_aload X170 rfl rfl at_152 (pc' := 154) rfl ?_
            refine own_callS X170 (own_ae3 l Z a0 hw a161 d163 p1.toInt d166 p2.toInt d169 p3.toInt _ n0 X170.le V170 f163 f166 f169) (hw _ (List.mem_of_getElem? (i := 1) rfl)) (hw _ (List.mem_of_getElem? (i := 2) rfl)) (hw _ (List.mem_of_getElem? (i := 3) rfl)) (hw _ (List.mem_of_getElem? (i := 4) rfl)) (by decide) rfl (by decide) (W := 0) (Nat.le_of_eq rfl) (by decide) (cells' := 1) (slots' := 3) rfl rfl (by decide) (by decide) (argsL := [(.ref a161)]) (rest := []) (lenOf own_pd0 rfl) rfl rfl at_154 (pc' := 157) rfl ?_
            rintro _ T177 h177 X177 ⟨⟨r177, rfl, hr177⟩, e177⟩
            subst e177
            show own_Goal p e below _ T177 (mkF m 157 #[.val (.int p0), .val (.int p1), .val (.int p2), .val (.int p3), .val (.int p4), .val (.int (3 : Int32)), .val (.int p1), .val (.int p2), .val (.int p3), .val (.ref a161), .val (.int (0 : Int32))] [(.int r177)])
            refine own_iload X177 rfl at_157 (pc' := 159) rfl ?_
            have c178 : r177 = (0 : Int32) := own_pick_0 hr177 (by have qc171 : ¬ p1.toInt = p2.toInt := fun z => c171 (Int32.toInt_inj.mp z); first | trivial | omega)
            refine own_icmpF X177 (own_i_eq c178).2 at_159 (pc' := 162) rfl ?_
            refine own_iconst X177 (v := (1 : Int32)) (by decide) at_162 (pc' := 163) rfl ?_
            refine own_goto X177 at_163 (pc' := 167) (by decide) (by decide) ?_
            exact own_retZ X177 (by decide) at_167 rfl (by decide) (by decide) rfl
        · -- no c160
          refine own_ifF X0 (own_z_ne c160).1 at_40 (pc' := 43) rfl ?_
          refine own_iloadN X0 rfl at_43 (pc' := 44) rfl ?_
          refine own_istore X0 (Ls' := #[.val (.int p0), .val (.int p1), .val (.int p2), .val (.int p3), .val (.int p4), .val (.int (3 : Int32)), .val (.int p1), .val (.int p2), .val (.int p1), .unset, .unset]) rfl at_44 (pc' := 46) rfl ?_
          refine own_goto X0 at_46 (pc' := 52) (by decide) (by decide) ?_
          refine own_iload X0 rfl at_52 (pc' := 54) rfl ?_
          refine own_newarray X0 (ty := .double) rfl (hw _ (List.mem_of_getElem? (i := 0) rfl)) (n := 3) (vs := [(.double (0 : UInt64)), (.double (0 : UInt64)), (.double (0 : UInt64))]) (by decide) (by decide) (by decide) rfl (cells' := 1) (slots' := 3) rfl rfl (by decide) (by decide) at_54 (pc' := 56) rfl fun a179 T179 h179 g179 ge179 X179 E179 V179 => ?_
          refine own_astore X179 (Ls' := #[.val (.int p0), .val (.int p1), .val (.int p2), .val (.int p3), .val (.int p4), .val (.int (3 : Int32)), .val (.int p1), .val (.int p2), .val (.int p1), .val (.ref a179), .unset]) rfl rfl at_56 (pc' := 58) rfl ?_
          refine own_iload X179 rfl at_58 (pc' := 60) rfl ?_
          refine own_ifF X179 (by decide) at_60 (pc' := 63) rfl ?_
          refine own_aload X179 rfl rfl at_63 (pc' := 65) rfl ?_
          refine own_iconst X179 (v := (0 : Int32)) (by decide) at_65 (pc' := 66) rfl ?_
          refine own_iload X179 rfl at_66 (pc' := 68) rfl ?_
          have f180 := own_I.start p1
          obtain ⟨d181, e181⟩ : ∃ v, FP.i2d p1 = v := ⟨_, rfl⟩
          have f181 : own_D 0 2147483648 p1.toInt d181 := own_D.i2d f180 e181
          refine own_i2d X179 e181 at_68 (pc' := 69) rfl ?_
          refine own_dastore X179 V179 ge179 (i := 0) (by decide) (by decide) (show 0 < 3 by decide) at_69 (pc' := 70) rfl fun T182 h182 X182 W182 V182 => ?_
          replace V182 : own_Vec Z h182 a179 .double [(.double d181), (.double (0 : UInt64)), (.double (0 : UInt64))] := V182
          refine own_iload X182 rfl at_70 (pc' := 72) rfl ?_
          refine own_iconst X182 (v := (1 : Int32)) (by decide) at_72 (pc' := 73) rfl ?_
          refine own_icmpF X182 (by decide) at_73 (pc' := 76) rfl ?_
          refine own_aload X182 rfl rfl at_76 (pc' := 78) rfl ?_
          refine own_iconst X182 (v := (1 : Int32)) (by decide) at_78 (pc' := 79) rfl ?_
          refine own_iload X182 rfl at_79 (pc' := 81) rfl ?_
          have f183 := own_I.start p2
          obtain ⟨d184, e184⟩ : ∃ v, FP.i2d p2 = v := ⟨_, rfl⟩
          have f184 : own_D 0 2147483648 p2.toInt d184 := own_D.i2d f183 e184
          refine own_i2d X182 e184 at_81 (pc' := 82) rfl ?_
          refine own_dastore X182 V182 ge179 (i := 1) (by decide) (by decide) (show 1 < 3 by decide) at_82 (pc' := 83) rfl fun T185 h185 X185 W185 V185 => ?_
          replace V185 : own_Vec Z h185 a179 .double [(.double d181), (.double d184), (.double (0 : UInt64))] := V185
          refine own_iload X185 rfl at_83 (pc' := 85) rfl ?_
          refine own_iconst X185 (v := (2 : Int32)) (by decide) at_85 (pc' := 86) rfl ?_
          refine own_icmpF X185 (by decide) at_86 (pc' := 89) rfl ?_
          refine own_aload X185 rfl rfl at_89 (pc' := 91) rfl ?_
          refine own_iconst X185 (v := (2 : Int32)) (by decide) at_91 (pc' := 92) rfl ?_
          refine own_iload X185 rfl at_92 (pc' := 94) rfl ?_
          obtain ⟨d186, e186⟩ : ∃ v, FP.i2d p1 = v := ⟨_, rfl⟩
          have f186 : own_D 0 2147483648 p1.toInt d186 := own_D.i2d f180 e186
          refine own_i2d X185 e186 at_94 (pc' := 95) rfl ?_
          refine own_dastore X185 V185 ge179 (i := 2) (by decide) (by decide) (show 2 < 3 by decide) at_95 (pc' := 96) rfl fun T187 h187 X187 W187 V187 => ?_
          replace V187 : own_Vec Z h187 a179 .double [(.double d181), (.double d184), (.double d186)] := V187
          refine own_iload X187 rfl at_96 (pc' := 98) rfl ?_
          refine own_iconst X187 (v := (1 : Int32)) (by decide) at_98 (pc' := 99) rfl ?_
          refine own_icmpT X187 (by decide) at_99 (pc' := 108) (by decide) (by decide) ?_
          refine own_iload X187 rfl at_108 (pc' := 110) rfl ?_
          refine own_iconst X187 (v := (2 : Int32)) (by decide) at_110 (pc' := 111) rfl ?_
          refine own_icmpT X187 (by decide) at_111 (pc' := 131) (by decide) (by decide) ?_
          refine own_iload X187 rfl at_131 (pc' := 133) rfl ?_
          refine own_iload X187 rfl at_133 (pc' := 135) rfl ?_
          by_cases c188 : p1 = p2
          · -- yes c188
            refine own_icmpF X187 (own_i_eq c188).2 at_135 (pc' := 138) rfl ?_
            refine own_iload X187 rfl at_138 (pc' := 140) rfl ?_
            refine own_iload X187 rfl at_140 (pc' := 142) rfl ?_
            by_cases c189 : p2 = p1
            · -- yes c189
              refine own_icmpF X187 (own_i_eq c189).2 at_142 (pc' := 145) rfl ?_
              refine own_iconst X187 (v := (1 : Int32)) (by decide) at_145 (pc' := 146) rfl ?_
              refine own_goto X187 at_146 (pc' := 150) (by decide) (by decide) ?_
              refine own_istore X187 (Ls' := #[.val (.int p0), .val (.int p1), .val (.int p2), .val (.int p3), .val (.int p4), .val (.int (3 : Int32)), .val (.int p1), .val (.int p2), .val (.int p1), .val (.ref a179), .val (.int (1 : Int32))]) rfl at_150 (pc' := 152) rfl ?_
              refine own_aload X187 rfl rfl at_152 (pc' := 154) rfl ?_
              refine own_callS X187 (own_ae3 l Z a0 hw a179 d181 p1.toInt d184 p2.toInt d186 p1.toInt _ n0 X187.le V187 f181 f184 f186) (hw _ (List.mem_of_getElem? (i := 1) rfl)) (hw _ (List.mem_of_getElem? (i := 2) rfl)) (hw _ (List.mem_of_getElem? (i := 3) rfl)) (hw _ (List.mem_of_getElem? (i := 4) rfl)) (by decide) rfl (by decide) (W := 0) (Nat.le_of_eq rfl) (by decide) (cells' := 1) (slots' := 3) rfl rfl (by decide) (by decide) (argsL := [(.ref a179)]) (rest := []) (lenOf own_pd0 rfl) rfl rfl at_154 (pc' := 157) rfl ?_
              rintro _ T190 h190 X190 ⟨⟨r190, rfl, hr190⟩, e190⟩
              subst e190
              show own_Goal p e below _ T190 (mkF m 157 #[.val (.int p0), .val (.int p1), .val (.int p2), .val (.int p3), .val (.int p4), .val (.int (3 : Int32)), .val (.int p1), .val (.int p2), .val (.int p1), .val (.ref a179), .val (.int (1 : Int32))] [(.int r190)])
              refine own_iload X190 rfl at_157 (pc' := 159) rfl ?_
              have c191 : r190 = (1 : Int32) := own_pick_1 hr190 (by have qc188 := congrArg Int32.toInt c188; have qc189 := congrArg Int32.toInt c189; first | trivial | omega)
              refine own_icmpF X190 (own_i_eq c191).2 at_159 (pc' := 162) rfl ?_
              refine own_iconst X190 (v := (1 : Int32)) (by decide) at_162 (pc' := 163) rfl ?_
              refine own_goto X190 at_163 (pc' := 167) (by decide) (by decide) ?_
              exact own_retZ X190 (by decide) at_167 rfl (by decide) (by decide) rfl
            · -- no c189
              refine own_icmpT X187 (own_i_ne c189).2 at_142 (pc' := 149) (by decide) (by decide) ?_
              refine own_iconst X187 (v := (0 : Int32)) (by decide) at_149 (pc' := 150) rfl ?_
              refine own_istore X187 (Ls' := #[.val (.int p0), .val (.int p1), .val (.int p2), .val (.int p3), .val (.int p4), .val (.int (3 : Int32)), .val (.int p1), .val (.int p2), .val (.int p1), .val (.ref a179), .val (.int (0 : Int32))]) rfl at_150 (pc' := 152) rfl ?_
              refine own_aload X187 rfl rfl at_152 (pc' := 154) rfl ?_
              refine own_callS X187 (own_ae3 l Z a0 hw a179 d181 p1.toInt d184 p2.toInt d186 p1.toInt _ n0 X187.le V187 f181 f184 f186) (hw _ (List.mem_of_getElem? (i := 1) rfl)) (hw _ (List.mem_of_getElem? (i := 2) rfl)) (hw _ (List.mem_of_getElem? (i := 3) rfl)) (hw _ (List.mem_of_getElem? (i := 4) rfl)) (by decide) rfl (by decide) (W := 0) (Nat.le_of_eq rfl) (by decide) (cells' := 1) (slots' := 3) rfl rfl (by decide) (by decide) (argsL := [(.ref a179)]) (rest := []) (lenOf own_pd0 rfl) rfl rfl at_154 (pc' := 157) rfl ?_
              rintro _ T192 h192 X192 ⟨⟨r192, rfl, hr192⟩, e192⟩
              subst e192
              show own_Goal p e below _ T192 (mkF m 157 #[.val (.int p0), .val (.int p1), .val (.int p2), .val (.int p3), .val (.int p4), .val (.int (3 : Int32)), .val (.int p1), .val (.int p2), .val (.int p1), .val (.ref a179), .val (.int (0 : Int32))] [(.int r192)])
              refine own_iload X192 rfl at_157 (pc' := 159) rfl ?_
              have c193 : r192 = (0 : Int32) := own_pick_0 hr192 (by have qc188 := congrArg Int32.toInt c188; have qc189 : ¬ p2.toInt = p1.toInt := fun z => c189 (Int32.toInt_inj.mp z); first | trivial | omega)
              refine own_icmpF X192 (own_i_eq c193).2 at_159 (pc' := 162) rfl ?_
              refine own_iconst X192 (v := (1 : Int32)) (by decide) at_162 (pc' := 163) rfl ?_
              refine own_goto X192 at_163 (pc' := 167) (by decide) (by decide) ?_
              exact own_retZ X192 (by decide) at_167 rfl (by decide) (by decide) rfl
          · -- no c188
            refine own_icmpT X187 (own_i_ne c188).2 at_135 (pc' := 149) (by decide) (by decide) ?_
            refine own_iconst X187 (v := (0 : Int32)) (by decide) at_149 (pc' := 150) rfl ?_
            refine own_istore X187 (Ls' := #[.val (.int p0), .val (.int p1), .val (.int p2), .val (.int p3), .val (.int p4), .val (.int (3 : Int32)), .val (.int p1), .val (.int p2), .val (.int p1), .val (.ref a179), .val (.int (0 : Int32))]) rfl at_150 (pc' := 152) rfl ?_
            refine own_aload X187 rfl rfl at_152 (pc' := 154) rfl ?_
            refine own_callS X187 (own_ae3 l Z a0 hw a179 d181 p1.toInt d184 p2.toInt d186 p1.toInt _ n0 X187.le V187 f181 f184 f186) (hw _ (List.mem_of_getElem? (i := 1) rfl)) (hw _ (List.mem_of_getElem? (i := 2) rfl)) (hw _ (List.mem_of_getElem? (i := 3) rfl)) (hw _ (List.mem_of_getElem? (i := 4) rfl)) (by decide) rfl (by decide) (W := 0) (Nat.le_of_eq rfl) (by decide) (cells' := 1) (slots' := 3) rfl rfl (by decide) (by decide) (argsL := [(.ref a179)]) (rest := []) (lenOf own_pd0 rfl) rfl rfl at_154 (pc' := 157) rfl ?_
            rintro _ T194 h194 X194 ⟨⟨r194, rfl, hr194⟩, e194⟩
            subst e194
            show own_Goal p e below _ T194 (mkF m 157 #[.val (.int p0), .val (.int p1), .val (.int p2), .val (.int p3), .val (.int p4), .val (.int (3 : Int32)), .val (.int p1), .val (.int p2), .val (.int p1), .val (.ref a179), .val (.int (0 : Int32))] [(.int r194)])
            refine own_iload X194 rfl at_157 (pc' := 159) rfl ?_
            have c195 : r194 = (0 : Int32) := own_pick_0 hr194 (by have qc188 : ¬ p1.toInt = p2.toInt := fun z => c188 (Int32.toInt_inj.mp z); first | trivial | omega)
            refine own_icmpF X194 (own_i_eq c195).2 at_159 (pc' := 162) rfl ?_
            refine own_iconst X194 (v := (1 : Int32)) (by decide) at_162 (pc' := 163) rfl ?_
            refine own_goto X194 at_163 (pc' := 167) (by decide) (by decide) ?_
            exact own_retZ X194 (by decide) at_167 rfl (by decide) (by decide) rfl
      · -- no c158
        refine own_ifF X0 (own_z_ne c158).1 at_26 (pc' := 29) rfl ?_
        refine own_iload X0 rfl at_29 (pc' := 31) rfl ?_
        refine own_istore X0 (Ls' := #[.val (.int p0), .val (.int p1), .val (.int p2), .val (.int p3), .val (.int p4), .val (.int (3 : Int32)), .val (.int p1), .val (.int p2), .val (.int p2), .unset, .unset]) rfl at_31 (pc' := 33) rfl ?_
        refine own_goto X0 at_33 (pc' := 52) (by decide) (by decide) ?_
        refine own_iload X0 rfl at_52 (pc' := 54) rfl ?_
        refine own_newarray X0 (ty := .double) rfl (hw _ (List.mem_of_getElem? (i := 0) rfl)) (n := 3) (vs := [(.double (0 : UInt64)), (.double (0 : UInt64)), (.double (0 : UInt64))]) (by decide) (by decide) (by decide) rfl (cells' := 1) (slots' := 3) rfl rfl (by decide) (by decide) at_54 (pc' := 56) rfl fun a196 T196 h196 g196 ge196 X196 E196 V196 => ?_
        refine own_astore X196 (Ls' := #[.val (.int p0), .val (.int p1), .val (.int p2), .val (.int p3), .val (.int p4), .val (.int (3 : Int32)), .val (.int p1), .val (.int p2), .val (.int p2), .val (.ref a196), .unset]) rfl rfl at_56 (pc' := 58) rfl ?_
        refine own_iload X196 rfl at_58 (pc' := 60) rfl ?_
        refine own_ifF X196 (by decide) at_60 (pc' := 63) rfl ?_
        refine own_aload X196 rfl rfl at_63 (pc' := 65) rfl ?_
        refine own_iconst X196 (v := (0 : Int32)) (by decide) at_65 (pc' := 66) rfl ?_
        refine own_iload X196 rfl at_66 (pc' := 68) rfl ?_
        have f197 := own_I.start p1
        obtain ⟨d198, e198⟩ : ∃ v, FP.i2d p1 = v := ⟨_, rfl⟩
        have f198 : own_D 0 2147483648 p1.toInt d198 := own_D.i2d f197 e198
        refine own_i2d X196 e198 at_68 (pc' := 69) rfl ?_
        refine own_dastore X196 V196 ge196 (i := 0) (by decide) (by decide) (show 0 < 3 by decide) at_69 (pc' := 70) rfl fun T199 h199 X199 W199 V199 => ?_
        replace V199 : own_Vec Z h199 a196 .double [(.double d198), (.double (0 : UInt64)), (.double (0 : UInt64))] := V199
        refine own_iload X199 rfl at_70 (pc' := 72) rfl ?_
        refine own_iconst X199 (v := (1 : Int32)) (by decide) at_72 (pc' := 73) rfl ?_
        refine own_icmpF X199 (by decide) at_73 (pc' := 76) rfl ?_
        refine own_aload X199 rfl rfl at_76 (pc' := 78) rfl ?_
        refine own_iconst X199 (v := (1 : Int32)) (by decide) at_78 (pc' := 79) rfl ?_
        refine own_iload X199 rfl at_79 (pc' := 81) rfl ?_
        have f200 := own_I.start p2
        obtain ⟨d201, e201⟩ : ∃ v, FP.i2d p2 = v := ⟨_, rfl⟩
        have f201 : own_D 0 2147483648 p2.toInt d201 := own_D.i2d f200 e201
        refine own_i2d X199 e201 at_81 (pc' := 82) rfl ?_
        refine own_dastore X199 V199 ge196 (i := 1) (by decide) (by decide) (show 1 < 3 by decide) at_82 (pc' := 83) rfl fun T202 h202 X202 W202 V202 => ?_
        replace V202 : own_Vec Z h202 a196 .double [(.double d198), (.double d201), (.double (0 : UInt64))] := V202
        refine own_iload X202 rfl at_83 (pc' := 85) rfl ?_
        refine own_iconst X202 (v := (2 : Int32)) (by decide) at_85 (pc' := 86) rfl ?_
        refine own_icmpF X202 (by decide) at_86 (pc' := 89) rfl ?_
        refine own_aload X202 rfl rfl at_89 (pc' := 91) rfl ?_
        refine own_iconst X202 (v := (2 : Int32)) (by decide) at_91 (pc' := 92) rfl ?_
        refine own_iload X202 rfl at_92 (pc' := 94) rfl ?_
        obtain ⟨d203, e203⟩ : ∃ v, FP.i2d p2 = v := ⟨_, rfl⟩
        have f203 : own_D 0 2147483648 p2.toInt d203 := own_D.i2d f200 e203
        refine own_i2d X202 e203 at_94 (pc' := 95) rfl ?_
        refine own_dastore X202 V202 ge196 (i := 2) (by decide) (by decide) (show 2 < 3 by decide) at_95 (pc' := 96) rfl fun T204 h204 X204 W204 V204 => ?_
        replace V204 : own_Vec Z h204 a196 .double [(.double d198), (.double d201), (.double d203)] := V204
        refine own_iload X204 rfl at_96 (pc' := 98) rfl ?_
        refine own_iconst X204 (v := (1 : Int32)) (by decide) at_98 (pc' := 99) rfl ?_
        refine own_icmpT X204 (by decide) at_99 (pc' := 108) (by decide) (by decide) ?_
        refine own_iload X204 rfl at_108 (pc' := 110) rfl ?_
        refine own_iconst X204 (v := (2 : Int32)) (by decide) at_110 (pc' := 111) rfl ?_
        refine own_icmpT X204 (by decide) at_111 (pc' := 131) (by decide) (by decide) ?_
        refine own_iload X204 rfl at_131 (pc' := 133) rfl ?_
        refine own_iload X204 rfl at_133 (pc' := 135) rfl ?_
        by_cases c205 : p1 = p2
        · -- yes c205
          refine own_icmpF X204 (own_i_eq c205).2 at_135 (pc' := 138) rfl ?_
          refine own_iload X204 rfl at_138 (pc' := 140) rfl ?_
          refine own_iload X204 rfl at_140 (pc' := 142) rfl ?_
          have c206 : p2 = p2 := rfl
          refine own_icmpF X204 (own_i_eq c206).2 at_142 (pc' := 145) rfl ?_
          refine own_iconst X204 (v := (1 : Int32)) (by decide) at_145 (pc' := 146) rfl ?_
          refine own_goto X204 at_146 (pc' := 150) (by decide) (by decide) ?_
          refine own_istore X204 (Ls' := #[.val (.int p0), .val (.int p1), .val (.int p2), .val (.int p3), .val (.int p4), .val (.int (3 : Int32)), .val (.int p1), .val (.int p2), .val (.int p2), .val (.ref a196), .val (.int (1 : Int32))]) rfl at_150 (pc' := 152) rfl ?_
          refine own_aload X204 rfl rfl at_152 (pc' := 154) rfl ?_
          refine own_callS X204 (own_ae3 l Z a0 hw a196 d198 p1.toInt d201 p2.toInt d203 p2.toInt _ n0 X204.le V204 f198 f201 f203) (hw _ (List.mem_of_getElem? (i := 1) rfl)) (hw _ (List.mem_of_getElem? (i := 2) rfl)) (hw _ (List.mem_of_getElem? (i := 3) rfl)) (hw _ (List.mem_of_getElem? (i := 4) rfl)) (by decide) rfl (by decide) (W := 0) (Nat.le_of_eq rfl) (by decide) (cells' := 1) (slots' := 3) rfl rfl (by decide) (by decide) (argsL := [(.ref a196)]) (rest := []) (lenOf own_pd0 rfl) rfl rfl at_154 (pc' := 157) rfl ?_
          rintro _ T207 h207 X207 ⟨⟨r207, rfl, hr207⟩, e207⟩
          subst e207
          show own_Goal p e below _ T207 (mkF m 157 #[.val (.int p0), .val (.int p1), .val (.int p2), .val (.int p3), .val (.int p4), .val (.int (3 : Int32)), .val (.int p1), .val (.int p2), .val (.int p2), .val (.ref a196), .val (.int (1 : Int32))] [(.int r207)])
          refine own_iload X207 rfl at_157 (pc' := 159) rfl ?_
          have c208 : r207 = (1 : Int32) := own_pick_1 hr207 (by have qc205 := congrArg Int32.toInt c205; have qc206 := congrArg Int32.toInt c206; first | trivial | omega)
          refine own_icmpF X207 (own_i_eq c208).2 at_159 (pc' := 162) rfl ?_
          refine own_iconst X207 (v := (1 : Int32)) (by decide) at_162 (pc' := 163) rfl ?_
          refine own_goto X207 at_163 (pc' := 167) (by decide) (by decide) ?_
          exact own_retZ X207 (by decide) at_167 rfl (by decide) (by decide) rfl
        · -- no c205
          refine own_icmpT X204 (own_i_ne c205).2 at_135 (pc' := 149) (by decide) (by decide) ?_
          refine own_iconst X204 (v := (0 : Int32)) (by decide) at_149 (pc' := 150) rfl ?_
          refine own_istore X204 (Ls' := #[.val (.int p0), .val (.int p1), .val (.int p2), .val (.int p3), .val (.int p4), .val (.int (3 : Int32)), .val (.int p1), .val (.int p2), .val (.int p2), .val (.ref a196), .val (.int (0 : Int32))]) rfl at_150 (pc' := 152) rfl ?_
          refine own_aload X204 rfl rfl at_152 (pc' := 154) rfl ?_
          refine own_callS X204 (own_ae3 l Z a0 hw a196 d198 p1.toInt d201 p2.toInt d203 p2.toInt _ n0 X204.le V204 f198 f201 f203) (hw _ (List.mem_of_getElem? (i := 1) rfl)) (hw _ (List.mem_of_getElem? (i := 2) rfl)) (hw _ (List.mem_of_getElem? (i := 3) rfl)) (hw _ (List.mem_of_getElem? (i := 4) rfl)) (by decide) rfl (by decide) (W := 0) (Nat.le_of_eq rfl) (by decide) (cells' := 1) (slots' := 3) rfl rfl (by decide) (by decide) (argsL := [(.ref a196)]) (rest := []) (lenOf own_pd0 rfl) rfl rfl at_154 (pc' := 157) rfl ?_
          rintro _ T209 h209 X209 ⟨⟨r209, rfl, hr209⟩, e209⟩
          subst e209
          show own_Goal p e below _ T209 (mkF m 157 #[.val (.int p0), .val (.int p1), .val (.int p2), .val (.int p3), .val (.int p4), .val (.int (3 : Int32)), .val (.int p1), .val (.int p2), .val (.int p2), .val (.ref a196), .val (.int (0 : Int32))] [(.int r209)])
          refine own_iload X209 rfl at_157 (pc' := 159) rfl ?_
          have c210 : r209 = (0 : Int32) := own_pick_0 hr209 (by have qc205 : ¬ p1.toInt = p2.toInt := fun z => c205 (Int32.toInt_inj.mp z); first | trivial | omega)
          refine own_icmpF X209 (own_i_eq c210).2 at_159 (pc' := 162) rfl ?_
          refine own_iconst X209 (v := (1 : Int32)) (by decide) at_162 (pc' := 163) rfl ?_
          refine own_goto X209 at_163 (pc' := 167) (by decide) (by decide) ?_
          exact own_retZ X209 (by decide) at_167 rfl (by decide) (by decide) rfl
    · -- no c156
      refine own_ifF X0 (own_z_ne c156).1 at_12 (pc' := 15) rfl ?_
      refine own_iloadN X0 rfl at_15 (pc' := 16) rfl ?_
      refine own_goto X0 at_16 (pc' := 20) (by decide) (by decide) ?_
      refine own_istore X0 (Ls' := #[.val (.int p0), .val (.int p1), .val (.int p2), .val (.int p3), .val (.int p4), .val (.int (3 : Int32)), .val (.int p1), .val (.int p1), .unset, .unset, .unset]) rfl at_20 (pc' := 22) rfl ?_
      refine own_iload X0 rfl at_22 (pc' := 24) rfl ?_
      refine own_iconst X0 (v := (2 : Int32)) (by decide) at_24 (pc' := 25) rfl ?_
      obtain ⟨i211, e211⟩ : ∃ v, p4 &&& (2 : Int32) = v := ⟨_, rfl⟩
      have f211 : own_I 2 i211.toInt i211 := own_I.and e211 (by decide)
      have nn211 := own_and_nn (M := 2) e211 (by decide)
      refine own_iand X0 e211 at_25 (pc' := 26) rfl ?_
      by_cases c212 : i211 = 0
      · -- yes c212
        refine own_ifT X0 (own_z_eq c212).1 at_26 (pc' := 36) (by decide) (by decide) ?_
        refine own_iload X0 rfl at_36 (pc' := 38) rfl ?_
        refine own_iconst X0 (v := (4 : Int32)) (by decide) at_38 (pc' := 39) rfl ?_
        obtain ⟨i213, e213⟩ : ∃ v, p4 &&& (4 : Int32) = v := ⟨_, rfl⟩
        have f213 : own_I 4 i213.toInt i213 := own_I.and e213 (by decide)
        have nn213 := own_and_nn (M := 4) e213 (by decide)
        refine own_iand X0 e213 at_39 (pc' := 40) rfl ?_
        by_cases c214 : i213 = 0
        · -- yes c214
          refine own_ifT X0 (own_z_eq c214).1 at_40 (pc' := 49) (by decide) (by decide) ?_
          refine own_iloadN X0 rfl at_49 (pc' := 50) rfl ?_
          refine own_istore X0 (Ls' := #[.val (.int p0), .val (.int p1), .val (.int p2), .val (.int p3), .val (.int p4), .val (.int (3 : Int32)), .val (.int p1), .val (.int p1), .val (.int p3), .unset, .unset]) rfl at_50 (pc' := 52) rfl ?_
          refine own_iload X0 rfl at_52 (pc' := 54) rfl ?_
          refine own_newarray X0 (ty := .double) rfl (hw _ (List.mem_of_getElem? (i := 0) rfl)) (n := 3) (vs := [(.double (0 : UInt64)), (.double (0 : UInt64)), (.double (0 : UInt64))]) (by decide) (by decide) (by decide) rfl (cells' := 1) (slots' := 3) rfl rfl (by decide) (by decide) at_54 (pc' := 56) rfl fun a215 T215 h215 g215 ge215 X215 E215 V215 => ?_
          refine own_astore X215 (Ls' := #[.val (.int p0), .val (.int p1), .val (.int p2), .val (.int p3), .val (.int p4), .val (.int (3 : Int32)), .val (.int p1), .val (.int p1), .val (.int p3), .val (.ref a215), .unset]) rfl rfl at_56 (pc' := 58) rfl ?_
          refine own_iload X215 rfl at_58 (pc' := 60) rfl ?_
          refine own_ifF X215 (by decide) at_60 (pc' := 63) rfl ?_
          refine own_aload X215 rfl rfl at_63 (pc' := 65) rfl ?_
          refine own_iconst X215 (v := (0 : Int32)) (by decide) at_65 (pc' := 66) rfl ?_
          refine own_iload X215 rfl at_66 (pc' := 68) rfl ?_
          have f216 := own_I.start p1
          obtain ⟨d217, e217⟩ : ∃ v, FP.i2d p1 = v := ⟨_, rfl⟩
          have f217 : own_D 0 2147483648 p1.toInt d217 := own_D.i2d f216 e217
          refine own_i2d X215 e217 at_68 (pc' := 69) rfl ?_
          refine own_dastore X215 V215 ge215 (i := 0) (by decide) (by decide) (show 0 < 3 by decide) at_69 (pc' := 70) rfl fun T218 h218 X218 W218 V218 => ?_
          replace V218 : own_Vec Z h218 a215 .double [(.double d217), (.double (0 : UInt64)), (.double (0 : UInt64))] := V218
          refine own_iload X218 rfl at_70 (pc' := 72) rfl ?_
          refine own_iconst X218 (v := (1 : Int32)) (by decide) at_72 (pc' := 73) rfl ?_
          refine own_icmpF X218 (by decide) at_73 (pc' := 76) rfl ?_
          refine own_aload X218 rfl rfl at_76 (pc' := 78) rfl ?_
          refine own_iconst X218 (v := (1 : Int32)) (by decide) at_78 (pc' := 79) rfl ?_
          refine own_iload X218 rfl at_79 (pc' := 81) rfl ?_
          obtain ⟨d219, e219⟩ : ∃ v, FP.i2d p1 = v := ⟨_, rfl⟩
          have f219 : own_D 0 2147483648 p1.toInt d219 := own_D.i2d f216 e219
          refine own_i2d X218 e219 at_81 (pc' := 82) rfl ?_
          refine own_dastore X218 V218 ge215 (i := 1) (by decide) (by decide) (show 1 < 3 by decide) at_82 (pc' := 83) rfl fun T220 h220 X220 W220 V220 => ?_
          replace V220 : own_Vec Z h220 a215 .double [(.double d217), (.double d219), (.double (0 : UInt64))] := V220
          refine own_iload X220 rfl at_83 (pc' := 85) rfl ?_
          refine own_iconst X220 (v := (2 : Int32)) (by decide) at_85 (pc' := 86) rfl ?_
          refine own_icmpF X220 (by decide) at_86 (pc' := 89) rfl ?_
          refine own_aload X220 rfl rfl at_89 (pc' := 91) rfl ?_
          refine own_iconst X220 (v := (2 : Int32)) (by decide) at_91 (pc' := 92) rfl ?_
          refine own_iload X220 rfl at_92 (pc' := 94) rfl ?_
          have f221 := own_I.start p3
          obtain ⟨d222, e222⟩ : ∃ v, FP.i2d p3 = v := ⟨_, rfl⟩
          have f222 : own_D 0 2147483648 p3.toInt d222 := own_D.i2d f221 e222
          refine own_i2d X220 e222 at_94 (pc' := 95) rfl ?_
          refine own_dastore X220 V220 ge215 (i := 2) (by decide) (by decide) (show 2 < 3 by decide) at_95 (pc' := 96) rfl fun T223 h223 X223 W223 V223 => ?_
          replace V223 : own_Vec Z h223 a215 .double [(.double d217), (.double d219), (.double d222)] := V223
          refine own_iload X223 rfl at_96 (pc' := 98) rfl ?_
          refine own_iconst X223 (v := (1 : Int32)) (by decide) at_98 (pc' := 99) rfl ?_
          refine own_icmpT X223 (by decide) at_99 (pc' := 108) (by decide) (by decide) ?_
          refine own_iload X223 rfl at_108 (pc' := 110) rfl ?_
          refine own_iconst X223 (v := (2 : Int32)) (by decide) at_110 (pc' := 111) rfl ?_
          refine own_icmpT X223 (by decide) at_111 (pc' := 131) (by decide) (by decide) ?_
          refine own_iload X223 rfl at_131 (pc' := 133) rfl ?_
          refine own_iload X223 rfl at_133 (pc' := 135) rfl ?_
          have c224 : p1 = p1 := rfl
          refine own_icmpF X223 (own_i_eq c224).2 at_135 (pc' := 138) rfl ?_
          refine own_iload X223 rfl at_138 (pc' := 140) rfl ?_
          refine own_iload X223 rfl at_140 (pc' := 142) rfl ?_
          by_cases c225 : p1 = p3
          · -- yes c225
            refine own_icmpF X223 (own_i_eq c225).2 at_142 (pc' := 145) rfl ?_
            refine own_iconst X223 (v := (1 : Int32)) (by decide) at_145 (pc' := 146) rfl ?_
            refine own_goto X223 at_146 (pc' := 150) (by decide) (by decide) ?_
            refine own_istore X223 (Ls' := #[.val (.int p0), .val (.int p1), .val (.int p2), .val (.int p3), .val (.int p4), .val (.int (3 : Int32)), .val (.int p1), .val (.int p1), .val (.int p3), .val (.ref a215), .val (.int (1 : Int32))]) rfl at_150 (pc' := 152) rfl ?_
            refine own_aload X223 rfl rfl at_152 (pc' := 154) rfl ?_
            refine own_callS X223 (own_ae3 l Z a0 hw a215 d217 p1.toInt d219 p1.toInt d222 p3.toInt _ n0 X223.le V223 f217 f219 f222) (hw _ (List.mem_of_getElem? (i := 1) rfl)) (hw _ (List.mem_of_getElem? (i := 2) rfl)) (hw _ (List.mem_of_getElem? (i := 3) rfl)) (hw _ (List.mem_of_getElem? (i := 4) rfl)) (by decide) rfl (by decide) (W := 0) (Nat.le_of_eq rfl) (by decide) (cells' := 1) (slots' := 3) rfl rfl (by decide) (by decide) (argsL := [(.ref a215)]) (rest := []) (lenOf own_pd0 rfl) rfl rfl at_154 (pc' := 157) rfl ?_
            rintro _ T226 h226 X226 ⟨⟨r226, rfl, hr226⟩, e226⟩
            subst e226
            show own_Goal p e below _ T226 (mkF m 157 #[.val (.int p0), .val (.int p1), .val (.int p2), .val (.int p3), .val (.int p4), .val (.int (3 : Int32)), .val (.int p1), .val (.int p1), .val (.int p3), .val (.ref a215), .val (.int (1 : Int32))] [(.int r226)])
            refine own_iload X226 rfl at_157 (pc' := 159) rfl ?_
            have c227 : r226 = (1 : Int32) := own_pick_1 hr226 (by have qc224 := congrArg Int32.toInt c224; have qc225 := congrArg Int32.toInt c225; first | trivial | omega)
            refine own_icmpF X226 (own_i_eq c227).2 at_159 (pc' := 162) rfl ?_
            refine own_iconst X226 (v := (1 : Int32)) (by decide) at_162 (pc' := 163) rfl ?_
            refine own_goto X226 at_163 (pc' := 167) (by decide) (by decide) ?_
            exact own_retZ X226 (by decide) at_167 rfl (by decide) (by decide) rfl
          · -- no c225
            refine own_icmpT X223 (own_i_ne c225).2 at_142 (pc' := 149) (by decide) (by decide) ?_
            refine own_iconst X223 (v := (0 : Int32)) (by decide) at_149 (pc' := 150) rfl ?_
            refine own_istore X223 (Ls' := #[.val (.int p0), .val (.int p1), .val (.int p2), .val (.int p3), .val (.int p4), .val (.int (3 : Int32)), .val (.int p1), .val (.int p1), .val (.int p3), .val (.ref a215), .val (.int (0 : Int32))]) rfl at_150 (pc' := 152) rfl ?_
            refine own_aload X223 rfl rfl at_152 (pc' := 154) rfl ?_
            refine own_callS X223 (own_ae3 l Z a0 hw a215 d217 p1.toInt d219 p1.toInt d222 p3.toInt _ n0 X223.le V223 f217 f219 f222) (hw _ (List.mem_of_getElem? (i := 1) rfl)) (hw _ (List.mem_of_getElem? (i := 2) rfl)) (hw _ (List.mem_of_getElem? (i := 3) rfl)) (hw _ (List.mem_of_getElem? (i := 4) rfl)) (by decide) rfl (by decide) (W := 0) (Nat.le_of_eq rfl) (by decide) (cells' := 1) (slots' := 3) rfl rfl (by decide) (by decide) (argsL := [(.ref a215)]) (rest := []) (lenOf own_pd0 rfl) rfl rfl at_154 (pc' := 157) rfl ?_
            rintro _ T228 h228 X228 ⟨⟨r228, rfl, hr228⟩, e228⟩
            subst e228
            show own_Goal p e below _ T228 (mkF m 157 #[.val (.int p0), .val (.int p1), .val (.int p2), .val (.int p3), .val (.int p4), .val (.int (3 : Int32)), .val (.int p1), .val (.int p1), .val (.int p3), .val (.ref a215), .val (.int (0 : Int32))] [(.int r228)])
            refine own_iload X228 rfl at_157 (pc' := 159) rfl ?_
            have c229 : r228 = (0 : Int32) := own_pick_0 hr228 (by have qc224 := congrArg Int32.toInt c224; have qc225 : ¬ p1.toInt = p3.toInt := fun z => c225 (Int32.toInt_inj.mp z); first | trivial | omega)
            refine own_icmpF X228 (own_i_eq c229).2 at_159 (pc' := 162) rfl ?_
            refine own_iconst X228 (v := (1 : Int32)) (by decide) at_162 (pc' := 163) rfl ?_
            refine own_goto X228 at_163 (pc' := 167) (by decide) (by decide) ?_
            exact own_retZ X228 (by decide) at_167 rfl (by decide) (by decide) rfl
        · -- no c214
          refine own_ifF X0 (own_z_ne c214).1 at_40 (pc' := 43) rfl ?_
          refine own_iloadN X0 rfl at_43 (pc' := 44) rfl ?_
          refine own_istore X0 (Ls' := #[.val (.int p0), .val (.int p1), .val (.int p2), .val (.int p3), .val (.int p4), .val (.int (3 : Int32)), .val (.int p1), .val (.int p1), .val (.int p1), .unset, .unset]) rfl at_44 (pc' := 46) rfl ?_
          refine own_goto X0 at_46 (pc' := 52) (by decide) (by decide) ?_
          refine own_iload X0 rfl at_52 (pc' := 54) rfl ?_
          refine own_newarray X0 (ty := .double) rfl (hw _ (List.mem_of_getElem? (i := 0) rfl)) (n := 3) (vs := [(.double (0 : UInt64)), (.double (0 : UInt64)), (.double (0 : UInt64))]) (by decide) (by decide) (by decide) rfl (cells' := 1) (slots' := 3) rfl rfl (by decide) (by decide) at_54 (pc' := 56) rfl fun a230 T230 h230 g230 ge230 X230 E230 V230 => ?_
          refine own_astore X230 (Ls' := #[.val (.int p0), .val (.int p1), .val (.int p2), .val (.int p3), .val (.int p4), .val (.int (3 : Int32)), .val (.int p1), .val (.int p1), .val (.int p1), .val (.ref a230), .unset]) rfl rfl at_56 (pc' := 58) rfl ?_
          refine own_iload X230 rfl at_58 (pc' := 60) rfl ?_
          refine own_ifF X230 (by decide) at_60 (pc' := 63) rfl ?_
          refine own_aload X230 rfl rfl at_63 (pc' := 65) rfl ?_
          refine own_iconst X230 (v := (0 : Int32)) (by decide) at_65 (pc' := 66) rfl ?_
          refine own_iload X230 rfl at_66 (pc' := 68) rfl ?_
          have f231 := own_I.start p1
          obtain ⟨d232, e232⟩ : ∃ v, FP.i2d p1 = v := ⟨_, rfl⟩
          have f232 : own_D 0 2147483648 p1.toInt d232 := own_D.i2d f231 e232
          refine own_i2d X230 e232 at_68 (pc' := 69) rfl ?_
          refine own_dastore X230 V230 ge230 (i := 0) (by decide) (by decide) (show 0 < 3 by decide) at_69 (pc' := 70) rfl fun T233 h233 X233 W233 V233 => ?_
          replace V233 : own_Vec Z h233 a230 .double [(.double d232), (.double (0 : UInt64)), (.double (0 : UInt64))] := V233
          refine own_iload X233 rfl at_70 (pc' := 72) rfl ?_
          refine own_iconst X233 (v := (1 : Int32)) (by decide) at_72 (pc' := 73) rfl ?_
          refine own_icmpF X233 (by decide) at_73 (pc' := 76) rfl ?_
          refine own_aload X233 rfl rfl at_76 (pc' := 78) rfl ?_
          refine own_iconst X233 (v := (1 : Int32)) (by decide) at_78 (pc' := 79) rfl ?_
          refine own_iload X233 rfl at_79 (pc' := 81) rfl ?_
          obtain ⟨d234, e234⟩ : ∃ v, FP.i2d p1 = v := ⟨_, rfl⟩
          have f234 : own_D 0 2147483648 p1.toInt d234 := own_D.i2d f231 e234
          refine own_i2d X233 e234 at_81 (pc' := 82) rfl ?_
          refine own_dastore X233 V233 ge230 (i := 1) (by decide) (by decide) (show 1 < 3 by decide) at_82 (pc' := 83) rfl fun T235 h235 X235 W235 V235 => ?_
          replace V235 : own_Vec Z h235 a230 .double [(.double d232), (.double d234), (.double (0 : UInt64))] := V235
          refine own_iload X235 rfl at_83 (pc' := 85) rfl ?_
          refine own_iconst X235 (v := (2 : Int32)) (by decide) at_85 (pc' := 86) rfl ?_
          refine own_icmpF X235 (by decide) at_86 (pc' := 89) rfl ?_
          refine own_aload X235 rfl rfl at_89 (pc' := 91) rfl ?_
          refine own_iconst X235 (v := (2 : Int32)) (by decide) at_91 (pc' := 92) rfl ?_
          refine own_iload X235 rfl at_92 (pc' := 94) rfl ?_
          obtain ⟨d236, e236⟩ : ∃ v, FP.i2d p1 = v := ⟨_, rfl⟩
          have f236 : own_D 0 2147483648 p1.toInt d236 := own_D.i2d f231 e236
          refine own_i2d X235 e236 at_94 (pc' := 95) rfl ?_
          refine own_dastore X235 V235 ge230 (i := 2) (by decide) (by decide) (show 2 < 3 by decide) at_95 (pc' := 96) rfl fun T237 h237 X237 W237 V237 => ?_
          replace V237 : own_Vec Z h237 a230 .double [(.double d232), (.double d234), (.double d236)] := V237
          refine own_iload X237 rfl at_96 (pc' := 98) rfl ?_
          refine own_iconst X237 (v := (1 : Int32)) (by decide) at_98 (pc' := 99) rfl ?_
          refine own_icmpT X237 (by decide) at_99 (pc' := 108) (by decide) (by decide) ?_
          refine own_iload X237 rfl at_108 (pc' := 110) rfl ?_
          refine own_iconst X237 (v := (2 : Int32)) (by decide) at_110 (pc' := 111) rfl ?_
          refine own_icmpT X237 (by decide) at_111 (pc' := 131) (by decide) (by decide) ?_
          refine own_iload X237 rfl at_131 (pc' := 133) rfl ?_
          refine own_iload X237 rfl at_133 (pc' := 135) rfl ?_
          have c238 : p1 = p1 := rfl
          refine own_icmpF X237 (own_i_eq c238).2 at_135 (pc' := 138) rfl ?_
          refine own_iload X237 rfl at_138 (pc' := 140) rfl ?_
          refine own_iload X237 rfl at_140 (pc' := 142) rfl ?_
          have c239 : p1 = p1 := rfl
          refine own_icmpF X237 (own_i_eq c239).2 at_142 (pc' := 145) rfl ?_
          refine own_iconst X237 (v := (1 : Int32)) (by decide) at_145 (pc' := 146) rfl ?_
          refine own_goto X237 at_146 (pc' := 150) (by decide) (by decide) ?_
          refine own_istore X237 (Ls' := #[.val (.int p0), .val (.int p1), .val (.int p2), .val (.int p3), .val (.int p4), .val (.int (3 : Int32)), .val (.int p1), .val (.int p1), .val (.int p1), .val (.ref a230), .val (.int (1 : Int32))]) rfl at_150 (pc' := 152) rfl ?_
          refine own_aload X237 rfl rfl at_152 (pc' := 154) rfl ?_
          refine own_callS X237 (own_ae3 l Z a0 hw a230 d232 p1.toInt d234 p1.toInt d236 p1.toInt _ n0 X237.le V237 f232 f234 f236) (hw _ (List.mem_of_getElem? (i := 1) rfl)) (hw _ (List.mem_of_getElem? (i := 2) rfl)) (hw _ (List.mem_of_getElem? (i := 3) rfl)) (hw _ (List.mem_of_getElem? (i := 4) rfl)) (by decide) rfl (by decide) (W := 0) (Nat.le_of_eq rfl) (by decide) (cells' := 1) (slots' := 3) rfl rfl (by decide) (by decide) (argsL := [(.ref a230)]) (rest := []) (lenOf own_pd0 rfl) rfl rfl at_154 (pc' := 157) rfl ?_
          rintro _ T240 h240 X240 ⟨⟨r240, rfl, hr240⟩, e240⟩
          subst e240
          show own_Goal p e below _ T240 (mkF m 157 #[.val (.int p0), .val (.int p1), .val (.int p2), .val (.int p3), .val (.int p4), .val (.int (3 : Int32)), .val (.int p1), .val (.int p1), .val (.int p1), .val (.ref a230), .val (.int (1 : Int32))] [(.int r240)])
          refine own_iload X240 rfl at_157 (pc' := 159) rfl ?_
          have c241 : r240 = (1 : Int32) := own_pick_1 hr240 (by have qc238 := congrArg Int32.toInt c238; have qc239 := congrArg Int32.toInt c239; first | trivial | omega)
          refine own_icmpF X240 (own_i_eq c241).2 at_159 (pc' := 162) rfl ?_
          refine own_iconst X240 (v := (1 : Int32)) (by decide) at_162 (pc' := 163) rfl ?_
          refine own_goto X240 at_163 (pc' := 167) (by decide) (by decide) ?_
          exact own_retZ X240 (by decide) at_167 rfl (by decide) (by decide) rfl
      · -- no c212
        refine own_ifF X0 (own_z_ne c212).1 at_26 (pc' := 29) rfl ?_
        refine own_iload X0 rfl at_29 (pc' := 31) rfl ?_
        refine own_istore X0 (Ls' := #[.val (.int p0), .val (.int p1), .val (.int p2), .val (.int p3), .val (.int p4), .val (.int (3 : Int32)), .val (.int p1), .val (.int p1), .val (.int p1), .unset, .unset]) rfl at_31 (pc' := 33) rfl ?_
        refine own_goto X0 at_33 (pc' := 52) (by decide) (by decide) ?_
        refine own_iload X0 rfl at_52 (pc' := 54) rfl ?_
        refine own_newarray X0 (ty := .double) rfl (hw _ (List.mem_of_getElem? (i := 0) rfl)) (n := 3) (vs := [(.double (0 : UInt64)), (.double (0 : UInt64)), (.double (0 : UInt64))]) (by decide) (by decide) (by decide) rfl (cells' := 1) (slots' := 3) rfl rfl (by decide) (by decide) at_54 (pc' := 56) rfl fun a242 T242 h242 g242 ge242 X242 E242 V242 => ?_
        refine own_astore X242 (Ls' := #[.val (.int p0), .val (.int p1), .val (.int p2), .val (.int p3), .val (.int p4), .val (.int (3 : Int32)), .val (.int p1), .val (.int p1), .val (.int p1), .val (.ref a242), .unset]) rfl rfl at_56 (pc' := 58) rfl ?_
        refine own_iload X242 rfl at_58 (pc' := 60) rfl ?_
        refine own_ifF X242 (by decide) at_60 (pc' := 63) rfl ?_
        refine own_aload X242 rfl rfl at_63 (pc' := 65) rfl ?_
        refine own_iconst X242 (v := (0 : Int32)) (by decide) at_65 (pc' := 66) rfl ?_
        refine own_iload X242 rfl at_66 (pc' := 68) rfl ?_
        have f243 := own_I.start p1
        obtain ⟨d244, e244⟩ : ∃ v, FP.i2d p1 = v := ⟨_, rfl⟩
        have f244 : own_D 0 2147483648 p1.toInt d244 := own_D.i2d f243 e244
        refine own_i2d X242 e244 at_68 (pc' := 69) rfl ?_
        refine own_dastore X242 V242 ge242 (i := 0) (by decide) (by decide) (show 0 < 3 by decide) at_69 (pc' := 70) rfl fun T245 h245 X245 W245 V245 => ?_
        replace V245 : own_Vec Z h245 a242 .double [(.double d244), (.double (0 : UInt64)), (.double (0 : UInt64))] := V245
        refine own_iload X245 rfl at_70 (pc' := 72) rfl ?_
        refine own_iconst X245 (v := (1 : Int32)) (by decide) at_72 (pc' := 73) rfl ?_
        refine own_icmpF X245 (by decide) at_73 (pc' := 76) rfl ?_
        refine own_aload X245 rfl rfl at_76 (pc' := 78) rfl ?_
        refine own_iconst X245 (v := (1 : Int32)) (by decide) at_78 (pc' := 79) rfl ?_
        refine own_iload X245 rfl at_79 (pc' := 81) rfl ?_
        obtain ⟨d246, e246⟩ : ∃ v, FP.i2d p1 = v := ⟨_, rfl⟩
        have f246 : own_D 0 2147483648 p1.toInt d246 := own_D.i2d f243 e246
        refine own_i2d X245 e246 at_81 (pc' := 82) rfl ?_
        refine own_dastore X245 V245 ge242 (i := 1) (by decide) (by decide) (show 1 < 3 by decide) at_82 (pc' := 83) rfl fun T247 h247 X247 W247 V247 => ?_
        replace V247 : own_Vec Z h247 a242 .double [(.double d244), (.double d246), (.double (0 : UInt64))] := V247
        refine own_iload X247 rfl at_83 (pc' := 85) rfl ?_
        refine own_iconst X247 (v := (2 : Int32)) (by decide) at_85 (pc' := 86) rfl ?_
        refine own_icmpF X247 (by decide) at_86 (pc' := 89) rfl ?_
        refine own_aload X247 rfl rfl at_89 (pc' := 91) rfl ?_
        refine own_iconst X247 (v := (2 : Int32)) (by decide) at_91 (pc' := 92) rfl ?_
        refine own_iload X247 rfl at_92 (pc' := 94) rfl ?_
        obtain ⟨d248, e248⟩ : ∃ v, FP.i2d p1 = v := ⟨_, rfl⟩
        have f248 : own_D 0 2147483648 p1.toInt d248 := own_D.i2d f243 e248
        refine own_i2d X247 e248 at_94 (pc' := 95) rfl ?_
        refine own_dastore X247 V247 ge242 (i := 2) (by decide) (by decide) (show 2 < 3 by decide) at_95 (pc' := 96) rfl fun T249 h249 X249 W249 V249 => ?_
        replace V249 : own_Vec Z h249 a242 .double [(.double d244), (.double d246), (.double d248)] := V249
        refine own_iload X249 rfl at_96 (pc' := 98) rfl ?_
        refine own_iconst X249 (v := (1 : Int32)) (by decide) at_98 (pc' := 99) rfl ?_
        refine own_icmpT X249 (by decide) at_99 (pc' := 108) (by decide) (by decide) ?_
        refine own_iload X249 rfl at_108 (pc' := 110) rfl ?_
        refine own_iconst X249 (v := (2 : Int32)) (by decide) at_110 (pc' := 111) rfl ?_
        refine own_icmpT X249 (by decide) at_111 (pc' := 131) (by decide) (by decide) ?_
        refine own_iload X249 rfl at_131 (pc' := 133) rfl ?_
        refine own_iload X249 rfl at_133 (pc' := 135) rfl ?_
        have c250 : p1 = p1 := rfl
        refine own_icmpF X249 (own_i_eq c250).2 at_135 (pc' := 138) rfl ?_
        refine own_iload X249 rfl at_138 (pc' := 140) rfl ?_
        refine own_iload X249 rfl at_140 (pc' := 142) rfl ?_
        have c251 : p1 = p1 := rfl
        refine own_icmpF X249 (own_i_eq c251).2 at_142 (pc' := 145) rfl ?_
        refine own_iconst X249 (v := (1 : Int32)) (by decide) at_145 (pc' := 146) rfl ?_
        refine own_goto X249 at_146 (pc' := 150) (by decide) (by decide) ?_
        refine own_istore X249 (Ls' := #[.val (.int p0), .val (.int p1), .val (.int p2), .val (.int p3), .val (.int p4), .val (.int (3 : Int32)), .val (.int p1), .val (.int p1), .val (.int p1), .val (.ref a242), .val (.int (1 : Int32))]) rfl at_150 (pc' := 152) rfl ?_
        refine own_aload X249 rfl rfl at_152 (pc' := 154) rfl ?_
        refine own_callS X249 (own_ae3 l Z a0 hw a242 d244 p1.toInt d246 p1.toInt d248 p1.toInt _ n0 X249.le V249 f244 f246 f248) (hw _ (List.mem_of_getElem? (i := 1) rfl)) (hw _ (List.mem_of_getElem? (i := 2) rfl)) (hw _ (List.mem_of_getElem? (i := 3) rfl)) (hw _ (List.mem_of_getElem? (i := 4) rfl)) (by decide) rfl (by decide) (W := 0) (Nat.le_of_eq rfl) (by decide) (cells' := 1) (slots' := 3) rfl rfl (by decide) (by decide) (argsL := [(.ref a242)]) (rest := []) (lenOf own_pd0 rfl) rfl rfl at_154 (pc' := 157) rfl ?_
        rintro _ T252 h252 X252 ⟨⟨r252, rfl, hr252⟩, e252⟩
        subst e252
        show own_Goal p e below _ T252 (mkF m 157 #[.val (.int p0), .val (.int p1), .val (.int p2), .val (.int p3), .val (.int p4), .val (.int (3 : Int32)), .val (.int p1), .val (.int p1), .val (.int p1), .val (.ref a242), .val (.int (1 : Int32))] [(.int r252)])
        refine own_iload X252 rfl at_157 (pc' := 159) rfl ?_
        have c253 : r252 = (1 : Int32) := own_pick_1 hr252 (by have qc250 := congrArg Int32.toInt c250; have qc251 := congrArg Int32.toInt c251; first | trivial | omega)
        refine own_icmpF X252 (own_i_eq c253).2 at_159 (pc' := 162) rfl ?_
        refine own_iconst X252 (v := (1 : Int32)) (by decide) at_162 (pc' := 163) rfl ?_
        refine own_goto X252 at_163 (pc' := 167) (by decide) (by decide) ?_
        exact own_retZ X252 (by decide) at_167 rfl (by decide) (by decide) rfl
set_option maxRecDepth 65536 in
set_option maxHeartbeats 40000000 in
theorem comes_1 {Post : Tables → Env → Array Value → State → Outcome → State → Prop} (hpost : ∀ tb e args s v u, (limb_1_1.after args s (.returned v) u = true ∧ limb_1_2.after args s (.returned v) u = true ∧ True) → FrameEnd s (.returned v) u (Jvm.fieldLocs frame_1_writes args s ++ Jvm.arrayLocs frame_1_arrays args s ++ Jvm.staticLocs frame_1_statics s) 16 128 → Post tb e args s (.returned v) u) :
    ArmFor flags0 classFile x code maxLocals ret World_1 tables_1 room_1 Calls_1 rest_1 Pre_1 Post := by
  intro l hfl _ _ p e ha hc hk s m args below hf hA hF happ hP
  obtain ⟨hcalls, hrest, hpre⟩ := hP
  obtain ⟨-, -, -, hnamed, -, -, -, hat⟩ := (Spec.applies_iff hf).mp happ
  obtain ⟨hg, hn⟩ := and_e (Cond.before_iff.mp (show (Jvm.Cond.and given_1 narrow_1).before args s = true from hpre))
  obtain ⟨h1, g0⟩ := and_e hg
  obtain ⟨k0, g1⟩ := and_e g0
  obtain ⟨k1, g2⟩ := and_e g1
  obtain ⟨k2, g3⟩ := and_e g2
  obtain ⟨k3, g4⟩ := and_e g3
  obtain ⟨w0, w1, w2, w3, w4, rfl⟩ : ∃ w0 w1 w2 w3 w4 : Value, args = #[w0, w1, w2, w3, w4] := by
    have hs : args.size = 5 := by simpa [Cond.value, given_1] using h1
    obtain ⟨L⟩ := args
    match L, hs with
    | [w0, w1, w2, w3, w4], _ => exact ⟨w0, w1, w2, w3, w4, rfl⟩
  have hw := fun d (hd : d ∈ tables_1) => atoms_spec (ws := Jvm.Cond.code x code maxLocals ret :: tables_1) hat d (List.mem_cons_of_mem _ hd)
  obtain ⟨p0, e0⟩ := is_v k0
  obtain rfl : w0 = (.int p0) := Option.some.inj e0
  obtain ⟨p1, e1⟩ := is_v k1
  obtain rfl : w1 = (.int p1) := Option.some.inj e1
  obtain ⟨p2, e2⟩ := is_v k2
  obtain rfl : w2 = (.int p2) := Option.some.inj e2
  obtain ⟨p3, e3⟩ := is_v k3
  obtain rfl : w3 = (.int p3) := Option.some.inj e3
  obtain ⟨p4, e4⟩ := is_v g4
  obtain rfl : w4 = (.int p4) := Option.some.inj e4
  obtain ⟨n, o, h1, h2, h3, _, L, rfl, ⟨⟨rfl, -⟩, N⟩, hq⟩ := own_law l s _ hw tables_1 p0 p1 p2 p3 p4 s.heap s.heap.size (Nat.le_refl _)  p e ha hc hk s m _ below hf ((Spec.applies_iff_loose hf).mp happ).1 ⟨rfl, State.Warmed39.refl s, rfl⟩ trivial
  refine ⟨n, _, h1, h2, h3, hpost _ _ _ _ _ _ ⟨Cond.after_iff.mpr rfl, Cond.after_iff.mpr (eq_i res_at (Term.int_eval (1)) rfl), trivial⟩ ⟨hq.1, hq.2.1, (hq.2.2.sift fun y hy => Or.inr (N y hy)).mono (by decide) (by decide)⟩⟩
theorem main_1_1 : Claimed_1_1 := comes_1 fun _ _ _ _ _ _ h hF => ⟨h.1, hF⟩
theorem main_1_2 : Claimed_1_2 := comes_1 fun _ _ _ _ _ _ h hF => ⟨h.2.1, hF⟩
end Jvm.Pilot.@@N@@
namespace Jvm.Pilot.@@N@@
open Jvm Jvm.ClassFile Sem Op Lib Jvm.Free Jvm.Stand Jvm.Pilot.@@N@@.Jvm.D
/-! MADE BY PROGRAM (witnessworld.py) out of the Statement's table words and the real class files: 9 classes; the members and pool entries that the words name. The judged class is class 1, her method 1. -/
namespace start1
open Jvm.ClassFile
def u (s : String) : CpInfo := .utf8 (stringToUtf16 s)
/-- a pool by its gaps: so many unusable entries, then the entry; so many at the end -/
def gap : Nat → List CpInfo → List CpInfo
  | 0, r => r
  | n + 1, r => .unusable :: gap n r
def poolList (es : List (Nat × CpInfo)) (last : Nat) : List CpInfo := es.foldr (fun e r => gap e.1 (e.2 :: r)) (gap last [])
def pool (es : List (Nat × CpInfo)) (last : Nat) : Array CpInfo := ⟨poolList es last⟩
def fileOf (pool : Array CpInfo) (this : Nat) (attrs : Array Attribute := #[]) (ms : Array MethodInfo := #[]) (fl : Nat := 33) (sup : Nat := 0) (ifs : Array Nat := #[]) (fds : Array FieldInfo := #[]) : ClassFile where
  minorVersion := 0
  majorVersion := 65
  constantPool := pool
  accessFlags := fl
  thisClass := this
  superClass := sup
  interfaces := ifs
  fields := fds
  methods := ms
  attributes := attrs
def plain (name : String) (sup : Option ClassId) : Class where
  name := name
  kind := .ordinary
  loader := none
  accessFlags := 33
  super := sup
  interfaces := #[]
  cf := none
  fields := #[]
  methods := #[]
  instanceTypes := #[]
  staticTypes := #[]
  resolved := #[]
  callSites := []
  init := .initialized
  statics := none
  mirror := none

def pool0 : Array CpInfo := pool [(5, u "<init>"), (0, u "()V"), (1, .class_ 10), (1, u "java/lang/Object")] 113

def k0m0 : Method := { name := "<init>", desc := "()V", sig := { parameters := [], returnType := none }, accessFlags := 1, code := none }
/-- java/lang/Object -/
def k0 : Class := { plain "java/lang/Object" none with
  accessFlags := 33
  interfaces := #[]
  cf := some (fileOf pool0 8 #[] #[{ accessFlags := 1, nameIndex := 5, descriptorIndex := 6, attributes := #[] }] 33 0 #[] #[])
  fields := #[]
  methods := #[k0m0]
  instanceTypes := #[]
  staticTypes := #[]
  resolved := Array.replicate 124 none
  statics := none }

def pool1 : Array CpInfo := pool [(2, .class_ 4), (1, u "java/lang/Object"), (0, u "<init>"), (0, u "()V"), (0, .methodref 8 9), (0, .class_ 10), (0, .nameAndType 11 12), (0, u "com/example/conquex/conquex/Moments"), (0, u "allEqual"), (0, u "([D)Z"), (0, .class_ 14), (0, u "com/example/conquex/conquex/MomentsAllEqualPinLaw"), (2, u "law"), (0, u "(IIIII)Z")] 5

def k1m0 : Method := { name := "<init>", desc := "()V", sig := { parameters := [], returnType := none }, accessFlags := 2, code := none }
def k1c1 : Code := { maxStack := 4, maxLocals := 11, code := code, exceptionTable := #[], attributes := #[] }
def k1m1 : Method := { name := "law", desc := "(IIIII)Z", sig := { parameters := [.int, .int, .int, .int, .int], returnType := some .boolean }, accessFlags := 9, code := some k1c1 }
/-- com/example/conquex/conquex/MomentsAllEqualPinLaw -/
def k1 : Class := { plain "com/example/conquex/conquex/MomentsAllEqualPinLaw" (some 0) with
  accessFlags := 49
  interfaces := #[]
  cf := some (fileOf pool1 13 #[] #[{ accessFlags := 2, nameIndex := 5, descriptorIndex := 6, attributes := #[] }, { accessFlags := 9, nameIndex := 17, descriptorIndex := 18, attributes := #[] }] 49 2 #[] #[])
  fields := #[]
  methods := #[k1m0, k1m1]
  instanceTypes := #[]
  staticTypes := #[]
  resolved := Array.replicate 24 none
  statics := none }

def pool2 : Array CpInfo := pool [(2, .class_ 4), (1, u "java/lang/Object"), (0, u "<init>"), (0, u "()V"), (0, .class_ 8), (0, u "com/example/conquex/conquex/Moments"), (9, u "allEqual"), (0, u "([D)Z")] 2

def k2m0 : Method := { name := "<init>", desc := "()V", sig := { parameters := [], returnType := none }, accessFlags := 2, code := none }
def k2c1 : Code := { maxStack := 4, maxLocals := 6, code := prog_23_method_4_code, exceptionTable := #[], attributes := #[] }
def k2m1 : Method := { name := "allEqual", desc := "([D)Z", sig := { parameters := [(.array .double)], returnType := some .boolean }, accessFlags := 8, code := some k2c1 }
/-- com/example/conquex/conquex/Moments -/
def k2 : Class := { plain "com/example/conquex/conquex/Moments" (some 0) with
  accessFlags := 48
  interfaces := #[]
  cf := some (fileOf pool2 7 #[] #[{ accessFlags := 2, nameIndex := 5, descriptorIndex := 6, attributes := #[] }, { accessFlags := 8, nameIndex := 18, descriptorIndex := 19, attributes := #[] }] 48 2 #[] #[])
  fields := #[]
  methods := #[k2m0, k2m1]
  instanceTypes := #[]
  staticTypes := #[]
  resolved := Array.replicate 22 none
  statics := none }

def pool3 : Array CpInfo := pool [(1, u "java/lang/Cloneable"), (0, .class_ 1), (0, u "java/lang/Object"), (0, .class_ 3)] 3

/-- java/lang/Cloneable -/
def k3 : Class := { plain "java/lang/Cloneable" (some 0) with
  accessFlags := 1537
  interfaces := #[]
  cf := some (fileOf pool3 2 #[] #[] 1537 4 #[] #[])
  fields := #[]
  methods := #[]
  instanceTypes := #[]
  staticTypes := #[]
  resolved := Array.replicate 8 none
  statics := none }

def pool4 : Array CpInfo := pool [(1, u "java/io/Serializable"), (0, .class_ 1), (0, u "java/lang/Object"), (0, .class_ 3)] 3

/-- java/io/Serializable -/
def k4 : Class := { plain "java/io/Serializable" (some 0) with
  accessFlags := 1537
  interfaces := #[]
  cf := some (fileOf pool4 2 #[] #[] 1537 4 #[] #[])
  fields := #[]
  methods := #[]
  instanceTypes := #[]
  staticTypes := #[]
  resolved := Array.replicate 8 none
  statics := none }

/-- the primitive byte -/
def k5 : Class := { plain "byte" none with kind := .primitive 'B', accessFlags := 0x411 }
/-- [B -/
def k6 : Class := { plain "[B" (some 0) with kind := .array 5 .byte, interfaces := #[3, 4], accessFlags := 1041 }

/-- the primitive int -/
def k7 : Class := { plain "int" none with kind := .primitive 'I', accessFlags := 0x411 }
/-- [I -/
def k8 : Class := { plain "[I" (some 0) with kind := .array 7 .int, interfaces := #[3, 4], accessFlags := 1041 }

def heap : Heap := #[]
/-- the primitive double -/
def k9 : Class := { plain "double" none with kind := .primitive 'D', accessFlags := 0x411 }
/-- [D -/
def k10 : Class := { plain "[D" (some 0) with kind := .array 9 .double, interfaces := #[3, 4], accessFlags := 1041 }

def classes : Array Class := #[k0, k1, k2, k3, k4, k5, k6, k7, k8, k9, k10]
def interned : List (Array UInt16 × Addr) := []
def slotsUsed : Nat := 0
def theMethod : MethodId := ⟨1, 1⟩
def args0 : Array Value := #[.int 5, .int 6, .int 7, .int 8, .int 9]
def aboutOver (below : List Frame) : State where
  vm := { classes := classes, interned := interned.toArray }
  heap := heap
  slotsUsed := slotsUsed
  threads := #[{ frames := .invoking theMethod args0 :: below }]
def below0 : List Frame := [.native { method := ⟨0, 0⟩, args := #[] }]
def about1 : State := aboutOver below0
def p0 : Program := .bare "" "" ""
def e0 : Env := launch0.env 0 0 0
theorem w_frames : about1.frames = Frame.invoking theMethod args0 :: below0 := rfl
set_option maxRecDepth 65536 in
theorem w_args : argsFit about1.vm theMethod args0 = true := by decide +kernel
set_option maxRecDepth 65536 in
theorem w_heap : heapFits about1 = true := by decide +kernel
set_option maxRecDepth 65536 in
theorem w_runnable : about1.curStatus? = some .runnable := by decide +kernel
set_option maxRecDepth 65536 in
theorem w_alone : about1.alone = true := by decide +kernel
set_option maxRecDepth 65536 in
theorem w_named : about1.methodNamed? x = some theMethod := by decide +kernel
set_option maxRecDepth 65536 in
theorem w_hears : about1.hears theMethod below0 = true := by decide +kernel
set_option maxRecDepth 65536 in
theorem w_ripe : about1.ripe theMethod args0 below0 = true := by decide +kernel
theorem w_running : about1.status = .running := rfl
set_option maxRecDepth 65536 in
theorem w_room : about1.hasRoom e0.platform room_1 = true :=
  launch0.hasRoom_least _ room_1 (by decide +kernel) (by decide +kernel) (by decide +kernel) (by decide +kernel) (by decide +kernel) (by decide +kernel)
theorem allAtoms_all (ts : List Jvm.Cond) (a : Array Jvm.Value) (st : Jvm.State) : (allAtoms ts).before a st = ts.all (fun c => c.before a st) := by
  induction ts with
  | nil => rfl
  | cons c t ih =>
    show (Jvm.Cond.and c (allAtoms t)).before a st = _
    rw [Jvm.Cond.before_and, ih, List.all_cons]
def words1 : List Jvm.Cond := Jvm.Cond.code x code maxLocals ret :: tables_1
/-- a 'code' word, met by the world's own term for the bytes: nothing is compared byte by byte -/
theorem code_word {y : MethodName} {bytes : ByteArray} {mx : Nat} {rt : Option FieldType} {a : Array Value} {s : State} {m : MethodId} {meth : Method} {c : Code} (h1 : s.methodNamed? y = some m) (h2 : s.vm.method? m = some meth) (h3 : meth.code = some c) (h4 : c.code = bytes)
    (h5 : (c.maxLocals == mx && c.exceptionTable.isEmpty && decide (c.maxStack ≤ mostOperands) && decide (meth.sig.returnType = rt) && !meth.locks && decide (parseMethodDescriptor y.desc = some meth.sig)) = true) : (Jvm.Cond.code y bytes mx rt).before a s = true := by
  simp only [Bool.and_eq_true, beq_iff_eq, Bool.not_eq_true', decide_eq_true_eq] at h5
  obtain ⟨⟨⟨⟨⟨g1, g2⟩, g3⟩, g4⟩, g5⟩, g6⟩ := h5
  simp [Cond.before, Cond.holds, Cond.value, h1, h2, h3, h4, g1, g2, g3, g4, g5, g6]
def isCode : Jvm.Cond → Bool
  | .code _ _ _ _ => true
  | _ => false
theorem all_split {L : List Jvm.Cond} {P : Jvm.Cond → Bool} (h1 : L.all (fun c => isCode c || P c) = true) (h2 : ∀ c ∈ L.filter isCode, P c = true) : L.all P = true := by
  refine List.all_eq_true.mpr fun c hc => ?_
  have h := List.all_eq_true.mp h1 c hc
  rcases Bool.eq_false_or_eq_true (isCode c) with hi | hi
  · exact h2 c (List.mem_filter.mpr ⟨hc, hi⟩)
  · simpa [hi] using h
set_option maxRecDepth 65536 in
theorem w_c0 : (Jvm.Cond.code x code maxLocals ret).before args0 about1 = true := code_word (m := ⟨1, 1⟩) (meth := k1m1) (c := k1c1) (by decide +kernel) rfl rfl rfl (by decide +kernel)
set_option maxRecDepth 65536 in
theorem w_c1 : (Jvm.Cond.code ({ cls := "com/example/conquex/conquex/Moments", name := "allEqual", desc := "([D)Z" } : Jvm.MethodName) prog_23_method_4_code (6 : Nat) (Option.some Jvm.ClassFile.FieldType.boolean)).before args0 about1 = true := code_word (m := ⟨2, 1⟩) (meth := k2m1) (c := k2c1) (by decide +kernel) rfl rfl rfl (by decide +kernel)
def codes1 : List Jvm.Cond := [Jvm.Cond.code x code maxLocals ret, Jvm.Cond.code ({ cls := "com/example/conquex/conquex/Moments", name := "allEqual", desc := "([D)Z" } : Jvm.MethodName) prog_23_method_4_code (6 : Nat) (Option.some Jvm.ClassFile.FieldType.boolean)]
set_option maxRecDepth 65536 in
theorem codes_eq : words1.filter isCode = codes1 := rfl
theorem w_codes : ∀ c ∈ words1.filter isCode, c.before args0 about1 = true := by
  rw [codes_eq]
  intro c hc
  simp only [codes1, List.mem_cons, List.not_mem_nil, or_false] at hc
  rcases hc with rfl | rfl
  · exact w_c0
  · exact w_c1
set_option maxRecDepth 65536 in
theorem w_t1 : words1.all (fun c => isCode c || c.before args0 about1) = true := by decide +kernel
theorem w_tables : (allAtoms (Jvm.Cond.code x code maxLocals ret :: tables_1)).before args0 about1 = true := by
  rw [allAtoms_all]
  show words1.all (fun c => c.before args0 about1) = true
  refine all_split ?_ w_codes
  rw [w_t1]
set_option maxRecDepth 65536 in
theorem w_case : (Jvm.Cond.and given_1 narrow_1).before args0 about1 = true := by decide +kernel
theorem w_applies : (headSpec (Jvm.Cond.code x code maxLocals ret :: tables_1) room_1).applies x e0.platform about1 = true :=
  (Spec.applies_iff w_frames).mpr ⟨w_running, w_runnable, w_alone, w_named, w_hears, w_ripe, w_room, w_tables⟩
theorem atStart : AtStart classFile x code maxLocals ret World_1 tables_1 room_1 Calls_1 rest_1 Pre_1 launch0 p0 e0 about1 theMethod args0 below0 :=
  ⟨lists_1, trivial, launch0.admits_env _ _ _, launch0.least_env, fairChoices_fair.cas, fairChoices_fair.clock, w_frames, w_args, w_heap, w_applies, trivial, trivial, w_case⟩
end start1
theorem witness_1 : WitnessClaimed_1 := ⟨start1.p0, start1.e0, start1.about1, start1.theMethod, start1.args0, start1.below0, start1.atStart⟩
end Jvm.Pilot.@@N@@
