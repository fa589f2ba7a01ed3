import JvmDerived
import JvmDerived.Pilot.@@N@@Statement
import JvmDerived.Pilot.@@N@@Code
set_option linter.unusedVariables false
set_option linter.unusedSimpArgs false
namespace Jvm.Pilot.@@N@@
open Jvm Jvm.ClassFile Sem Op Lib Jvm.Free Jvm.Stand Jvm.LawKit Jvm.RoadKit Bundle Jvm.Pilot.@@N@@.Jvm.D
section OwnWalk
variable {p : Program} {l : Launch} {e : Env} {R : Room} {s : State} {m : MethodId} {args : Array Value} {below : List Frame} {meth : Method} {c : Code} {Z : State} {own : String} {bytes : ByteArray} {ml : Nat} {rt : Option FieldType} {nm : String} {n0 : Nat} {T : State} {h : Heap} {cells slots : Nat} {Q : Option Value → Heap → Prop} {Φ : State → Outcome → Prop} {pc pc' : Nat} {Ls : Array Slot} {rest : List Value} {a0 : Array Value}
/-- where the walk stands: the library's Stand, every place written so far is new (Fr), the heap, and the body's own data -/
def own_St (p : Program) (l : Launch) (e : Env) (R : Room) (s : State) (m : MethodId) (args : Array Value) (below : List Frame) (meth : Method) (c : Code) (Z : State) (own : String) (bytes : ByteArray) (ml : Nat) (rt : Option FieldType) (nm : String) (n0 : Nat) (T : State) (h : Heap) (cells slots : Nat) : Prop :=
  ∃ locs, Stand p l e R s m args below meth c T locs cells slots ∧ Fr n0 locs ∧ T.heap = h ∧ n0 ≤ h.size ∧ p.tables.exec = Jvm.exec ∧ Z.Warmed39 s.vm ∧ s.vm.findClass own = some m.cls ∧ c.code = bytes ∧ c.maxLocals = ml ∧ meth.sig.returnType = rt ∧ meth.locks = false ∧ meth.name = nm
/-- what a return that meets Q leaves -/
def own_Fin (below : List Frame) (s : State) (R : Room) (n0 : Nat) (Q : Option Value → Heap → Prop) : State → Outcome → Prop := fun s₂ o =>
  s₂.status = .running ∧ Ended s₂ below o ∧ ∃ v L, o = .returned v ∧ ((Q v s₂.heap ∧ n0 ≤ s₂.heap.size) ∧ Fr n0 L) ∧ FrameEnd s o s₂ L R.cells R.slots
/-- from frame g over T the run comes to an end that meets Φ -/
def own_Goal (p : Program) (e : Env) (below : List Frame) (Φ : State → Outcome → Prop) (T : State) (g : JFrame) : Prop :=
  ∃ s₂ o, Steps p.tables e below (T.setTop g) s₂ ∧ Φ s₂ o
theorem own_St.le (X : own_St p l e R s m args below meth c Z own bytes ml rt nm n0 T h cells slots) : n0 ≤ h.size := by obtain ⟨_, _, _, _, q, _⟩ := X; exact q
theorem own_step {T' : State} {g g' : JFrame} (f : ∀ t, Steps p.tables e below (T'.setTop g') t → Steps p.tables e below (T.setTop g) t) (k : own_Goal p e below Φ T' g') : own_Goal p e below Φ T g := by
  obtain ⟨s2, o, a, r⟩ := k
  exact ⟨s2, o, f _ a, r⟩
theorem own_cast {g g' : JFrame} (q : g = g') (k : own_Goal p e below Φ T g') : own_Goal p e below Φ T g := q ▸ k
theorem own_pure (X : own_St p l e R s m args below meth c Z own bytes ml rt nm n0 T h cells slots) {g g' : JFrame} (f : ∀ {locs}, Stand p l e R s m args below meth c T locs cells slots → p.tables.exec = Jvm.exec → c.code = bytes → ∀ t, Steps p.tables e below (T.setTop g') t → Steps p.tables e below (T.setTop g) t) (k : own_Goal p e below Φ T g') : own_Goal p e below Φ T g := by
  obtain ⟨locs, X, -, -, -, hx, -, -, hby, -⟩ := X
  exact own_step (f X hx hby) k
theorem own_iconst (X : own_St p l e R s m args below meth c Z own bytes ml rt nm n0 T h cells slots) {i : Int} {v : Int32} (hv : Int32.ofInt i = v) (hd : decode bytes pc = .ok (.iconst i, 1)) (hp : pc + 1 = pc') (k : own_Goal p e below Φ T (mkF m pc' Ls (.int v :: rest))) : own_Goal p e below Φ T (mkF m pc Ls (rest)) := by
  subst hp hv
  exact own_pure X (fun X hx hby _ a => XS.iconst X.here hx rfl (hb hby hd) a) k
theorem own_bipush (X : own_St p l e R s m args below meth c Z own bytes ml rt nm n0 T h cells slots) {i : Int} {v : Int32} (hv : (Int8.ofInt i).toInt32 = v) (hd : decode bytes pc = .ok (.bipush i, 2)) (hp : pc + 2 = pc') (k : own_Goal p e below Φ T (mkF m pc' Ls (.int v :: rest))) : own_Goal p e below Φ T (mkF m pc Ls (rest)) := by
  subst hp hv
  exact own_pure X (fun X hx hby _ a => XS.bipush X.here hx rfl (hb hby hd) a) k
theorem own_sipush (X : own_St p l e R s m args below meth c Z own bytes ml rt nm n0 T h cells slots) {i : Int} {v : Int32} (hv : (Int16.ofInt i).toInt32 = v) (hd : decode bytes pc = .ok (.sipush i, 3)) (hp : pc + 3 = pc') (k : own_Goal p e below Φ T (mkF m pc' Ls (.int v :: rest))) : own_Goal p e below Φ T (mkF m pc Ls (rest)) := by
  subst hp hv
  exact own_pure X (fun X hx hby _ a => XS.sipush X.here hx rfl (hb hby hd) a) k
theorem own_aconst_null (X : own_St p l e R s m args below meth c Z own bytes ml rt nm n0 T h cells slots)  (hd : decode bytes pc = .ok (.aconst_null, 1)) (hp : pc + 1 = pc') (k : own_Goal p e below Φ T (mkF m pc' Ls (.null :: rest))) : own_Goal p e below Φ T (mkF m pc Ls (rest)) := by
  subst hp
  exact own_pure X (fun X hx hby _ a => XS.aconstNull X.here hx rfl (hb hby hd) a) k
theorem own_lconst (X : own_St p l e R s m args below meth c Z own bytes ml rt nm n0 T h cells slots) {k : Fin 2} {v : Int64} (hv : Int64.ofNat k = v) (hd : decode bytes pc = .ok (.lconst k, 1)) (hp : pc + 1 = pc') (k : own_Goal p e below Φ T (mkF m pc' Ls (.long v :: rest))) : own_Goal p e below Φ T (mkF m pc Ls (rest)) := by
  subst hp hv
  exact own_pure X (fun X hx hby _ a => XT.lconst X.here hx rfl (hb hby hd) a) k
theorem own_dconst0 (X : own_St p l e R s m args below meth c Z own bytes ml rt nm n0 T h cells slots) {v : UInt64} (hv : FP.dconst0 = v) (hd : decode bytes pc = .ok (.dconst 0, 1)) (hp : pc + 1 = pc') (k : own_Goal p e below Φ T (mkF m pc' Ls (.double v :: rest))) : own_Goal p e below Φ T (mkF m pc Ls (rest)) := by
  subst hp
  exact own_pure X (fun X hx hby _ a => XS.dconst0 X.here hx rfl (hb hby hd) hv a) k
theorem own_dconst1 (X : own_St p l e R s m args below meth c Z own bytes ml rt nm n0 T h cells slots) {v : UInt64} (hv : FP.dconst1 = v) (hd : decode bytes pc = .ok (.dconst 1, 1)) (hp : pc + 1 = pc') (k : own_Goal p e below Φ T (mkF m pc' Ls (.double v :: rest))) : own_Goal p e below Φ T (mkF m pc Ls (rest)) := by
  subst hp
  exact own_pure X (fun X hx hby _ a => XS.dconst1 X.here hx rfl (hb hby hd) hv a) k
theorem own_iload (X : own_St p l e R s m args below meth c Z own bytes ml rt nm n0 T h cells slots) {k : Nat} {v : Int32} (hl : Ls[k]? = some (.val (.int v))) (hd : decode bytes pc = .ok (.iload k, 2)) (hp : pc + 2 = pc') (k : own_Goal p e below Φ T (mkF m pc' Ls (.int v :: rest))) : own_Goal p e below Φ T (mkF m pc Ls (rest)) := by
  subst hp
  exact own_pure X (fun X hx hby _ a => XS.iload X.here hx rfl (hb hby hd) hl a) k
theorem own_iloadN (X : own_St p l e R s m args below meth c Z own bytes ml rt nm n0 T h cells slots) {k : Fin 4} {v : Int32} (hl : Ls[k.val]? = some (.val (.int v))) (hd : decode bytes pc = .ok (.iload_n k, 1)) (hp : pc + 1 = pc') (k : own_Goal p e below Φ T (mkF m pc' Ls (.int v :: rest))) : own_Goal p e below Φ T (mkF m pc Ls (rest)) := by
  subst hp
  exact own_pure X (fun X hx hby _ a => XS.iloadN X.here hx rfl (hb hby hd) hl a) k
theorem own_istore (X : own_St p l e R s m args below meth c Z own bytes ml rt nm n0 T h cells slots) {k : Nat} {v : Int32} {Ls' : Array Slot} (hl : storeLocals Ls k (.int v) = some Ls') (hd : decode bytes pc = .ok (.istore k, 2)) (hp : pc + 2 = pc') (k : own_Goal p e below Φ T (mkF m pc' Ls' (rest))) : own_Goal p e below Φ T (mkF m pc Ls (.int v :: rest)) := by
  subst hp
  exact own_pure X (fun X hx hby _ a => XS.istore X.here hx rfl (hb hby hd) rfl hl a) k
theorem own_istoreN (X : own_St p l e R s m args below meth c Z own bytes ml rt nm n0 T h cells slots) {k : Fin 4} {v : Int32} {Ls' : Array Slot} (hl : storeLocals Ls k.val (.int v) = some Ls') (hd : decode bytes pc = .ok (.istore_n k, 1)) (hp : pc + 1 = pc') (k : own_Goal p e below Φ T (mkF m pc' Ls' (rest))) : own_Goal p e below Φ T (mkF m pc Ls (.int v :: rest)) := by
  subst hp
  exact own_pure X (fun X hx hby _ a => XS.istoreN X.here hx rfl (hb hby hd) rfl hl a) k
theorem own_lload (X : own_St p l e R s m args below meth c Z own bytes ml rt nm n0 T h cells slots) {k : Nat} {v : Int64} (hl : Ls[k]? = some (.val (.long v))) (hd : decode bytes pc = .ok (.lload k, 2)) (hp : pc + 2 = pc') (k : own_Goal p e below Φ T (mkF m pc' Ls (.long v :: rest))) : own_Goal p e below Φ T (mkF m pc Ls (rest)) := by
  subst hp
  exact own_pure X (fun X hx hby _ a => XT.lload X.here hx rfl (hb hby hd) hl a) k
theorem own_lloadN (X : own_St p l e R s m args below meth c Z own bytes ml rt nm n0 T h cells slots) {k : Fin 4} {v : Int64} (hl : Ls[k.val]? = some (.val (.long v))) (hd : decode bytes pc = .ok (.lload_n k, 1)) (hp : pc + 1 = pc') (k : own_Goal p e below Φ T (mkF m pc' Ls (.long v :: rest))) : own_Goal p e below Φ T (mkF m pc Ls (rest)) := by
  subst hp
  exact own_pure X (fun X hx hby _ a => XT.lloadN X.here hx rfl (hb hby hd) hl a) k
theorem own_lstore (X : own_St p l e R s m args below meth c Z own bytes ml rt nm n0 T h cells slots) {k : Nat} {v : Int64} {Ls' : Array Slot} (hl : storeLocals Ls k (.long v) = some Ls') (hd : decode bytes pc = .ok (.lstore k, 2)) (hp : pc + 2 = pc') (k : own_Goal p e below Φ T (mkF m pc' Ls' (rest))) : own_Goal p e below Φ T (mkF m pc Ls (.long v :: rest)) := by
  subst hp
  exact own_pure X (fun X hx hby _ a => XT.lstore X.here hx rfl (hb hby hd) rfl hl a) k
theorem own_lstoreN (X : own_St p l e R s m args below meth c Z own bytes ml rt nm n0 T h cells slots) {k : Fin 4} {v : Int64} {Ls' : Array Slot} (hl : storeLocals Ls k.val (.long v) = some Ls') (hd : decode bytes pc = .ok (.lstore_n k, 1)) (hp : pc + 1 = pc') (k : own_Goal p e below Φ T (mkF m pc' Ls' (rest))) : own_Goal p e below Φ T (mkF m pc Ls (.long v :: rest)) := by
  subst hp
  exact own_pure X (fun X hx hby _ a => XT.lstoreN X.here hx rfl (hb hby hd) rfl hl a) k
theorem own_dload (X : own_St p l e R s m args below meth c Z own bytes ml rt nm n0 T h cells slots) {k : Nat} {v : UInt64} (hl : Ls[k]? = some (.val (.double v))) (hd : decode bytes pc = .ok (.dload k, 2)) (hp : pc + 2 = pc') (k : own_Goal p e below Φ T (mkF m pc' Ls (.double v :: rest))) : own_Goal p e below Φ T (mkF m pc Ls (rest)) := by
  subst hp
  exact own_pure X (fun X hx hby _ a => XS.dload X.here hx rfl (hb hby hd) hl a) k
theorem own_dloadN (X : own_St p l e R s m args below meth c Z own bytes ml rt nm n0 T h cells slots) {k : Fin 4} {v : UInt64} (hl : Ls[k.val]? = some (.val (.double v))) (hd : decode bytes pc = .ok (.dload_n k, 1)) (hp : pc + 1 = pc') (k : own_Goal p e below Φ T (mkF m pc' Ls (.double v :: rest))) : own_Goal p e below Φ T (mkF m pc Ls (rest)) := by
  subst hp
  exact own_pure X (fun X hx hby _ a => XS.dloadN X.here hx rfl (hb hby hd) hl a) k
theorem own_dstore (X : own_St p l e R s m args below meth c Z own bytes ml rt nm n0 T h cells slots) {k : Nat} {v : UInt64} {Ls' : Array Slot} (hl : storeLocals Ls k (.double v) = some Ls') (hd : decode bytes pc = .ok (.dstore k, 2)) (hp : pc + 2 = pc') (k : own_Goal p e below Φ T (mkF m pc' Ls' (rest))) : own_Goal p e below Φ T (mkF m pc Ls (.double v :: rest)) := by
  subst hp
  exact own_pure X (fun X hx hby _ a => XS.dstore X.here hx rfl (hb hby hd) rfl hl a) k
theorem own_dstoreN (X : own_St p l e R s m args below meth c Z own bytes ml rt nm n0 T h cells slots) {k : Fin 4} {v : UInt64} {Ls' : Array Slot} (hl : storeLocals Ls k.val (.double v) = some Ls') (hd : decode bytes pc = .ok (.dstore_n k, 1)) (hp : pc + 1 = pc') (k : own_Goal p e below Φ T (mkF m pc' Ls' (rest))) : own_Goal p e below Φ T (mkF m pc Ls (.double v :: rest)) := by
  subst hp
  exact own_pure X (fun X hx hby _ a => XS.dstoreN X.here hx rfl (hb hby hd) rfl hl a) k
theorem own_aload (X : own_St p l e R s m args below meth c Z own bytes ml rt nm n0 T h cells slots) {k : Nat} {v : Value} (hl : Ls[k]? = some (.val v)) (hv : v.isRef = true) (hd : decode bytes pc = .ok (.aload k, 2)) (hp : pc + 2 = pc') (k : own_Goal p e below Φ T (mkF m pc' Ls (v :: rest))) : own_Goal p e below Φ T (mkF m pc Ls (rest)) := by
  subst hp
  exact own_pure X (fun X hx hby _ a => XS.aload X.here hx rfl (hb hby hd) hl hv a) k
theorem own_aloadN (X : own_St p l e R s m args below meth c Z own bytes ml rt nm n0 T h cells slots) {k : Fin 4} {v : Value} (hl : Ls[k.val]? = some (.val v)) (hv : v.isRef = true) (hd : decode bytes pc = .ok (.aload_n k, 1)) (hp : pc + 1 = pc') (k : own_Goal p e below Φ T (mkF m pc' Ls (v :: rest))) : own_Goal p e below Φ T (mkF m pc Ls (rest)) := by
  subst hp
  exact own_pure X (fun X hx hby _ a => XS.aloadN X.here hx rfl (hb hby hd) hl hv a) k
theorem own_astore (X : own_St p l e R s m args below meth c Z own bytes ml rt nm n0 T h cells slots) {k : Nat} {v : Value} {Ls' : Array Slot} (hl : storeLocals Ls k v = some Ls') (hv : v.isRef = true) (hd : decode bytes pc = .ok (.astore k, 2)) (hp : pc + 2 = pc') (k : own_Goal p e below Φ T (mkF m pc' Ls' (rest))) : own_Goal p e below Φ T (mkF m pc Ls (v :: rest)) := by
  subst hp
  exact own_pure X (fun X hx hby _ a => XS.astore X.here hx rfl (hb hby hd) rfl hv hl a) k
theorem own_astoreN (X : own_St p l e R s m args below meth c Z own bytes ml rt nm n0 T h cells slots) {k : Fin 4} {v : Value} {Ls' : Array Slot} (hl : storeLocals Ls k.val v = some Ls') (hv : v.isRef = true) (hd : decode bytes pc = .ok (.astore_n k, 1)) (hp : pc + 1 = pc') (k : own_Goal p e below Φ T (mkF m pc' Ls' (rest))) : own_Goal p e below Φ T (mkF m pc Ls (v :: rest)) := by
  subst hp
  exact own_pure X (fun X hx hby _ a => XS.astoreN X.here hx rfl (hb hby hd) rfl hv hl a) k
theorem own_iinc (X : own_St p l e R s m args below meth c Z own bytes ml rt nm n0 T h cells slots) {k : Nat} {i : Int} {x v : Int32} {Ls' : Array Slot} (hl : Ls[k]? = some (.val (.int x))) (hv : x + Int32.ofInt i = v) (hl' : storeLocals Ls k (.int v) = some Ls') (hd : decode bytes pc = .ok (.iinc k i, 3)) (hp : pc + 3 = pc') (k : own_Goal p e below Φ T (mkF m pc' Ls' (rest))) : own_Goal p e below Φ T (mkF m pc Ls (rest)) := by
  subst hp hv
  exact own_pure X (fun X hx hby _ a => XS.iinc X.here hx rfl (hb hby hd) hl hl' a) k
theorem own_iadd (X : own_St p l e R s m args below meth c Z own bytes ml rt nm n0 T h cells slots) {x y v : Int32} (hv : x + y = v) (hd : decode bytes pc = .ok (.iadd, 1)) (hp : pc + 1 = pc') (k : own_Goal p e below Φ T (mkF m pc' Ls (.int v :: rest))) : own_Goal p e below Φ T (mkF m pc Ls (.int y :: .int x :: rest)) := by
  subst hp hv
  exact own_pure X (fun X hx hby _ a => XS.iadd X.here hx rfl (hb hby hd) rfl a) k
theorem own_isub (X : own_St p l e R s m args below meth c Z own bytes ml rt nm n0 T h cells slots) {x y v : Int32} (hv : x - y = v) (hd : decode bytes pc = .ok (.isub, 1)) (hp : pc + 1 = pc') (k : own_Goal p e below Φ T (mkF m pc' Ls (.int v :: rest))) : own_Goal p e below Φ T (mkF m pc Ls (.int y :: .int x :: rest)) := by
  subst hp hv
  exact own_pure X (fun X hx hby _ a => XS.isub X.here hx rfl (hb hby hd) rfl a) k
theorem own_imul (X : own_St p l e R s m args below meth c Z own bytes ml rt nm n0 T h cells slots) {x y v : Int32} (hv : x * y = v) (hd : decode bytes pc = .ok (.imul, 1)) (hp : pc + 1 = pc') (k : own_Goal p e below Φ T (mkF m pc' Ls (.int v :: rest))) : own_Goal p e below Φ T (mkF m pc Ls (.int y :: .int x :: rest)) := by
  subst hp hv
  exact own_pure X (fun X hx hby _ a => XS.imul X.here hx rfl (hb hby hd) rfl a) k
theorem own_iand (X : own_St p l e R s m args below meth c Z own bytes ml rt nm n0 T h cells slots) {x y v : Int32} (hv : x &&& y = v) (hd : decode bytes pc = .ok (.iand, 1)) (hp : pc + 1 = pc') (k : own_Goal p e below Φ T (mkF m pc' Ls (.int v :: rest))) : own_Goal p e below Φ T (mkF m pc Ls (.int y :: .int x :: rest)) := by
  subst hp hv
  exact own_pure X (fun X hx hby _ a => XS.iand X.here hx rfl (hb hby hd) rfl a) k
theorem own_ior (X : own_St p l e R s m args below meth c Z own bytes ml rt nm n0 T h cells slots) {x y v : Int32} (hv : x ||| y = v) (hd : decode bytes pc = .ok (.ior, 1)) (hp : pc + 1 = pc') (k : own_Goal p e below Φ T (mkF m pc' Ls (.int v :: rest))) : own_Goal p e below Φ T (mkF m pc Ls (.int y :: .int x :: rest)) := by
  subst hp hv
  exact own_pure X (fun X hx hby _ a => XT.ior X.here hx rfl (hb hby hd) rfl a) k
theorem own_ixor (X : own_St p l e R s m args below meth c Z own bytes ml rt nm n0 T h cells slots) {x y v : Int32} (hv : x ^^^ y = v) (hd : decode bytes pc = .ok (.ixor, 1)) (hp : pc + 1 = pc') (k : own_Goal p e below Φ T (mkF m pc' Ls (.int v :: rest))) : own_Goal p e below Φ T (mkF m pc Ls (.int y :: .int x :: rest)) := by
  subst hp hv
  exact own_pure X (fun X hx hby _ a => XT.ixor X.here hx rfl (hb hby hd) rfl a) k
theorem own_ishl (X : own_St p l e R s m args below meth c Z own bytes ml rt nm n0 T h cells slots) {x y v : Int32} (hv : x <<< (y &&& 31) = v) (hd : decode bytes pc = .ok (.ishl, 1)) (hp : pc + 1 = pc') (k : own_Goal p e below Φ T (mkF m pc' Ls (.int v :: rest))) : own_Goal p e below Φ T (mkF m pc Ls (.int y :: .int x :: rest)) := by
  subst hp hv
  exact own_pure X (fun X hx hby _ a => XT.ishl X.here hx rfl (hb hby hd) rfl a) k
theorem own_ishr (X : own_St p l e R s m args below meth c Z own bytes ml rt nm n0 T h cells slots) {x y v : Int32} (hv : x >>> (y &&& 31) = v) (hd : decode bytes pc = .ok (.ishr, 1)) (hp : pc + 1 = pc') (k : own_Goal p e below Φ T (mkF m pc' Ls (.int v :: rest))) : own_Goal p e below Φ T (mkF m pc Ls (.int y :: .int x :: rest)) := by
  subst hp hv
  exact own_pure X (fun X hx hby _ a => XT.ishr X.here hx rfl (hb hby hd) rfl a) k
theorem own_iushr (X : own_St p l e R s m args below meth c Z own bytes ml rt nm n0 T h cells slots) {x y v : Int32} (hv : XT.ushr x y = v) (hd : decode bytes pc = .ok (.iushr, 1)) (hp : pc + 1 = pc') (k : own_Goal p e below Φ T (mkF m pc' Ls (.int v :: rest))) : own_Goal p e below Φ T (mkF m pc Ls (.int y :: .int x :: rest)) := by
  subst hp hv
  exact own_pure X (fun X hx hby _ a => XT.iushr X.here hx rfl (hb hby hd) rfl a) k
theorem own_irem (X : own_St p l e R s m args below meth c Z own bytes ml rt nm n0 T h cells slots) {x y v : Int32} (hy : y ≠ 0) (hv : x % y = v) (hd : decode bytes pc = .ok (.irem, 1)) (hp : pc + 1 = pc') (k : own_Goal p e below Φ T (mkF m pc' Ls (.int v :: rest))) : own_Goal p e below Φ T (mkF m pc Ls (.int y :: .int x :: rest)) := by
  subst hp hv
  exact own_pure X (fun X hx hby _ a => iremM X hx rfl (hb hby hd) rfl hy a) k
theorem own_ineg (X : own_St p l e R s m args below meth c Z own bytes ml rt nm n0 T h cells slots) {x v : Int32} (hv : -x = v) (hd : decode bytes pc = .ok (.ineg, 1)) (hp : pc + 1 = pc') (k : own_Goal p e below Φ T (mkF m pc' Ls (.int v :: rest))) : own_Goal p e below Φ T (mkF m pc Ls (.int x :: rest)) := by
  subst hp hv
  exact own_pure X (fun X hx hby _ a => XS.ineg X.here hx rfl (hb hby hd) rfl a) k
theorem own_ladd (X : own_St p l e R s m args below meth c Z own bytes ml rt nm n0 T h cells slots) {x y v : Int64} (hv : x + y = v) (hd : decode bytes pc = .ok (.ladd, 1)) (hp : pc + 1 = pc') (k : own_Goal p e below Φ T (mkF m pc' Ls (.long v :: rest))) : own_Goal p e below Φ T (mkF m pc Ls (.long y :: .long x :: rest)) := by
  subst hp hv
  exact own_pure X (fun X hx hby _ a => XT.ladd X.here hx rfl (hb hby hd) rfl a) k
theorem own_lsub (X : own_St p l e R s m args below meth c Z own bytes ml rt nm n0 T h cells slots) {x y v : Int64} (hv : x - y = v) (hd : decode bytes pc = .ok (.lsub, 1)) (hp : pc + 1 = pc') (k : own_Goal p e below Φ T (mkF m pc' Ls (.long v :: rest))) : own_Goal p e below Φ T (mkF m pc Ls (.long y :: .long x :: rest)) := by
  subst hp hv
  exact own_pure X (fun X hx hby _ a => XT.lsub X.here hx rfl (hb hby hd) rfl a) k
theorem own_lmul (X : own_St p l e R s m args below meth c Z own bytes ml rt nm n0 T h cells slots) {x y v : Int64} (hv : x * y = v) (hd : decode bytes pc = .ok (.lmul, 1)) (hp : pc + 1 = pc') (k : own_Goal p e below Φ T (mkF m pc' Ls (.long v :: rest))) : own_Goal p e below Φ T (mkF m pc Ls (.long y :: .long x :: rest)) := by
  subst hp hv
  exact own_pure X (fun X hx hby _ a => XT.lmul X.here hx rfl (hb hby hd) rfl a) k
theorem own_land (X : own_St p l e R s m args below meth c Z own bytes ml rt nm n0 T h cells slots) {x y v : Int64} (hv : x &&& y = v) (hd : decode bytes pc = .ok (.land, 1)) (hp : pc + 1 = pc') (k : own_Goal p e below Φ T (mkF m pc' Ls (.long v :: rest))) : own_Goal p e below Φ T (mkF m pc Ls (.long y :: .long x :: rest)) := by
  subst hp hv
  exact own_pure X (fun X hx hby _ a => XT.land X.here hx rfl (hb hby hd) rfl a) k
theorem own_lor (X : own_St p l e R s m args below meth c Z own bytes ml rt nm n0 T h cells slots) {x y v : Int64} (hv : x ||| y = v) (hd : decode bytes pc = .ok (.lor, 1)) (hp : pc + 1 = pc') (k : own_Goal p e below Φ T (mkF m pc' Ls (.long v :: rest))) : own_Goal p e below Φ T (mkF m pc Ls (.long y :: .long x :: rest)) := by
  subst hp hv
  exact own_pure X (fun X hx hby _ a => XT.lor X.here hx rfl (hb hby hd) rfl a) k
theorem own_ldiv (X : own_St p l e R s m args below meth c Z own bytes ml rt nm n0 T h cells slots) {x y v : Int64} (hy : y ≠ 0) (hv : x / y = v) (hd : decode bytes pc = .ok (.ldiv, 1)) (hp : pc + 1 = pc') (k : own_Goal p e below Φ T (mkF m pc' Ls (.long v :: rest))) : own_Goal p e below Φ T (mkF m pc Ls (.long y :: .long x :: rest)) := by
  subst hp hv
  exact own_pure X (fun X hx hby _ a => XT.ldiv X.here hx rfl (hb hby hd) rfl hy a) k
theorem own_lrem (X : own_St p l e R s m args below meth c Z own bytes ml rt nm n0 T h cells slots) {x y v : Int64} (hy : y ≠ 0) (hv : x - (x / y) * y = v) (hd : decode bytes pc = .ok (.lrem, 1)) (hp : pc + 1 = pc') (k : own_Goal p e below Φ T (mkF m pc' Ls (.long v :: rest))) : own_Goal p e below Φ T (mkF m pc Ls (.long y :: .long x :: rest)) := by
  subst hp hv
  exact own_pure X (fun X hx hby _ a => XT.lrem X.here hx rfl (hb hby hd) rfl hy a) k
theorem own_lneg (X : own_St p l e R s m args below meth c Z own bytes ml rt nm n0 T h cells slots) {x v : Int64} (hv : -x = v) (hd : decode bytes pc = .ok (.lneg, 1)) (hp : pc + 1 = pc') (k : own_Goal p e below Φ T (mkF m pc' Ls (.long v :: rest))) : own_Goal p e below Φ T (mkF m pc Ls (.long x :: rest)) := by
  subst hp hv
  exact own_pure X (fun X hx hby _ a => XT.lneg X.here hx rfl (hb hby hd) rfl a) k
theorem own_lshl (X : own_St p l e R s m args below meth c Z own bytes ml rt nm n0 T h cells slots) {x v : Int64} {y : Int32} (hv : x <<< (y.toInt64 &&& 63) = v) (hd : decode bytes pc = .ok (.lshl, 1)) (hp : pc + 1 = pc') (k : own_Goal p e below Φ T (mkF m pc' Ls (.long v :: rest))) : own_Goal p e below Φ T (mkF m pc Ls (.int y :: .long x :: rest)) := by
  subst hp hv
  exact own_pure X (fun X hx hby _ a => XT.lshl X.here hx rfl (hb hby hd) rfl a) k
theorem own_lcmp (X : own_St p l e R s m args below meth c Z own bytes ml rt nm n0 T h cells slots) {x y : Int64} {v : Int32} (hv : XT.cmpL x y = v) (hd : decode bytes pc = .ok (.lcmp, 1)) (hp : pc + 1 = pc') (k : own_Goal p e below Φ T (mkF m pc' Ls (.int v :: rest))) : own_Goal p e below Φ T (mkF m pc Ls (.long y :: .long x :: rest)) := by
  subst hp hv
  exact own_pure X (fun X hx hby _ a => XT.lcmp X.here hx rfl (hb hby hd) rfl a) k
theorem own_i2l (X : own_St p l e R s m args below meth c Z own bytes ml rt nm n0 T h cells slots) {x : Int32} {v : Int64} (hv : x.toInt64 = v) (hd : decode bytes pc = .ok (.i2l, 1)) (hp : pc + 1 = pc') (k : own_Goal p e below Φ T (mkF m pc' Ls (.long v :: rest))) : own_Goal p e below Φ T (mkF m pc Ls (.int x :: rest)) := by
  subst hp hv
  exact own_pure X (fun X hx hby _ a => XT.i2l X.here hx rfl (hb hby hd) rfl a) k
theorem own_l2i (X : own_St p l e R s m args below meth c Z own bytes ml rt nm n0 T h cells slots) {x : Int64} {v : Int32} (hv : x.toInt32 = v) (hd : decode bytes pc = .ok (.l2i, 1)) (hp : pc + 1 = pc') (k : own_Goal p e below Φ T (mkF m pc' Ls (.int v :: rest))) : own_Goal p e below Φ T (mkF m pc Ls (.long x :: rest)) := by
  subst hp hv
  exact own_pure X (fun X hx hby _ a => XT.l2i X.here hx rfl (hb hby hd) rfl a) k
theorem own_i2c (X : own_St p l e R s m args below meth c Z own bytes ml rt nm n0 T h cells slots) {x v : Int32} (hv : x.toUInt32.toUInt16.toUInt32.toInt32 = v) (hd : decode bytes pc = .ok (.i2c, 1)) (hp : pc + 1 = pc') (k : own_Goal p e below Φ T (mkF m pc' Ls (.int v :: rest))) : own_Goal p e below Φ T (mkF m pc Ls (.int x :: rest)) := by
  subst hp hv
  exact own_pure X (fun X hx hby _ a => XT.i2c X.here hx rfl (hb hby hd) rfl a) k
theorem own_i2d (X : own_St p l e R s m args below meth c Z own bytes ml rt nm n0 T h cells slots) {x : Int32} {v : UInt64} (hv : FP.i2d x = v) (hd : decode bytes pc = .ok (.i2d, 1)) (hp : pc + 1 = pc') (k : own_Goal p e below Φ T (mkF m pc' Ls (.double v :: rest))) : own_Goal p e below Φ T (mkF m pc Ls (.int x :: rest)) := by
  subst hp
  exact own_pure X (fun X hx hby _ a => XS.i2dS X.here hx rfl (hb hby hd) rfl hv a) k
theorem own_l2d (X : own_St p l e R s m args below meth c Z own bytes ml rt nm n0 T h cells slots) {x : Int64} {v : UInt64} (hv : FP.l2d x = v) (hd : decode bytes pc = .ok (.l2d, 1)) (hp : pc + 1 = pc') (k : own_Goal p e below Φ T (mkF m pc' Ls (.double v :: rest))) : own_Goal p e below Φ T (mkF m pc Ls (.long x :: rest)) := by
  subst hp
  exact own_pure X (fun X hx hby _ a => XS.l2dS X.here hx rfl (hb hby hd) rfl hv a) k
theorem own_dadd (X : own_St p l e R s m args below meth c Z own bytes ml rt nm n0 T h cells slots) {x y v : UInt64} (hv : FP.dadd x y = v) (hn : Jvm.Free.Fl.NoNaN64 v) (hd : decode bytes pc = .ok (.dadd, 1)) (hp : pc + 1 = pc') (k : own_Goal p e below Φ T (mkF m pc' Ls (.double v :: rest))) : own_Goal p e below Φ T (mkF m pc Ls (.double y :: .double x :: rest)) := by
  subst hp
  exact own_pure X (fun X hx hby _ a => XS.daddS X.here hx rfl (hb hby hd) rfl (by rw [hv]; exact hn) hv a) k
theorem own_dsub (X : own_St p l e R s m args below meth c Z own bytes ml rt nm n0 T h cells slots) {x y v : UInt64} (hv : FP.dsub x y = v) (hn : Jvm.Free.Fl.NoNaN64 v) (hd : decode bytes pc = .ok (.dsub, 1)) (hp : pc + 1 = pc') (k : own_Goal p e below Φ T (mkF m pc' Ls (.double v :: rest))) : own_Goal p e below Φ T (mkF m pc Ls (.double y :: .double x :: rest)) := by
  subst hp
  exact own_pure X (fun X hx hby _ a => XS.dsubS X.here hx rfl (hb hby hd) rfl (by rw [hv]; exact hn) hv a) k
theorem own_dmul (X : own_St p l e R s m args below meth c Z own bytes ml rt nm n0 T h cells slots) {x y v : UInt64} (hv : FP.dmul x y = v) (hn : Jvm.Free.Fl.NoNaN64 v) (hd : decode bytes pc = .ok (.dmul, 1)) (hp : pc + 1 = pc') (k : own_Goal p e below Φ T (mkF m pc' Ls (.double v :: rest))) : own_Goal p e below Φ T (mkF m pc Ls (.double y :: .double x :: rest)) := by
  subst hp
  exact own_pure X (fun X hx hby _ a => XS.dmulS X.here hx rfl (hb hby hd) rfl (by rw [hv]; exact hn) hv a) k
theorem own_ddiv (X : own_St p l e R s m args below meth c Z own bytes ml rt nm n0 T h cells slots) {x y v : UInt64} (hv : FP.ddiv x y = v) (hn : Jvm.Free.Fl.NoNaN64 v) (hd : decode bytes pc = .ok (.ddiv, 1)) (hp : pc + 1 = pc') (k : own_Goal p e below Φ T (mkF m pc' Ls (.double v :: rest))) : own_Goal p e below Φ T (mkF m pc Ls (.double y :: .double x :: rest)) := by
  subst hp
  exact own_pure X (fun X hx hby _ a => XS.ddivS X.here hx rfl (hb hby hd) rfl (by rw [hv]; exact hn) hv a) k
theorem own_dneg (X : own_St p l e R s m args below meth c Z own bytes ml rt nm n0 T h cells slots) {x v : UInt64} (hv : FP.dneg x = v) (hd : decode bytes pc = .ok (.dneg, 1)) (hp : pc + 1 = pc') (k : own_Goal p e below Φ T (mkF m pc' Ls (.double v :: rest))) : own_Goal p e below Φ T (mkF m pc Ls (.double x :: rest)) := by
  subst hp
  exact own_pure X (fun X hx hby _ a => XS.dnegS X.here hx rfl (hb hby hd) rfl hv a) k
theorem own_dcmp (X : own_St p l e R s m args below meth c Z own bytes ml rt nm n0 T h cells slots) {o : CmpOp} {x y : UInt64} {v : Int32} (hv : cmpValue (FP.dcmp x y) o = v) (hd : decode bytes pc = .ok (.dcmp o, 1)) (hp : pc + 1 = pc') (k : own_Goal p e below Φ T (mkF m pc' Ls (.int v :: rest))) : own_Goal p e below Φ T (mkF m pc Ls (.double y :: .double x :: rest)) := by
  subst hp
  exact own_pure X (fun X hx hby _ a => XS.dcmpS X.here hx rfl (hb hby hd) rfl hv a) k
theorem own_dremS {tb : Tables} [Ours tb] {e : Env} {below : List Frame} {T target : State} {m : MethodId} {c : Code} {g : JFrame} (h : At T m c below) (hx : tb.exec = Jvm.exec) (hg : g.method = m) {x y v : UInt64} {rest : List Value} (hd : decode c.code g.pc = .ok (.drem, 1)) (hs : g.stack = .double y :: .double x :: rest) (hn : Jvm.Free.Fl.NoNaN64 (FP.drem x y)) (hv : FP.drem x y = v)
    (hr : Steps tb e below (T.setTop { g with pc := g.pc + 1, stack := .double v :: rest }) target) : Steps tb e below (T.setTop g) target := by
  subst hg
  subst hv
  obtain ⟨gm, gp, gl, gs, gk, ge, gr⟩ := g
  simp only at hs hd
  subst hs
  jvm_step h [h.top, hx, hd, Op.drem.at_number h.top hn]
  exact hr
theorem own_drem (X : own_St p l e R s m args below meth c Z own bytes ml rt nm n0 T h cells slots) {x y v : UInt64} (hv : FP.drem x y = v) (hn : Jvm.Free.Fl.NoNaN64 v) (hd : decode bytes pc = .ok (.drem, 1)) (hp : pc + 1 = pc') (k : own_Goal p e below Φ T (mkF m pc' Ls (.double v :: rest))) : own_Goal p e below Φ T (mkF m pc Ls (.double y :: .double x :: rest)) := by
  subst hp
  exact own_pure X (fun X hx hby _ a => own_dremS X.here hx rfl (hb hby hd) rfl (by rw [hv]; exact hn) hv a) k
theorem own_dup (X : own_St p l e R s m args below meth c Z own bytes ml rt nm n0 T h cells slots) {x : Value} (hc : x.category = 1) (hd : decode bytes pc = .ok (.dup, 1)) (hp : pc + 1 = pc') (k : own_Goal p e below Φ T (mkF m pc' Ls (x :: x :: rest))) : own_Goal p e below Φ T (mkF m pc Ls (x :: rest)) := by
  subst hp
  exact own_pure X (fun X hx hby _ a => XS.dup X.here hx rfl (hb hby hd) rfl hc a) k
theorem own_dup2 (X : own_St p l e R s m args below meth c Z own bytes ml rt nm n0 T h cells slots) {x y : Value} (hc : x.category = 1) (hc' : y.category = 1) (hd : decode bytes pc = .ok (.dup2, 1)) (hp : pc + 1 = pc') (k : own_Goal p e below Φ T (mkF m pc' Ls (x :: y :: x :: y :: rest))) : own_Goal p e below Φ T (mkF m pc Ls (x :: y :: rest)) := by
  subst hp
  exact own_pure X (fun X hx hby _ a => XT.dup2 X.here hx rfl (hb hby hd) rfl hc hc' a) k
theorem own_pop (X : own_St p l e R s m args below meth c Z own bytes ml rt nm n0 T h cells slots) {x : Value} (hc : x.category = 1) (hd : decode bytes pc = .ok (.pop, 1)) (hp : pc + 1 = pc') (k : own_Goal p e below Φ T (mkF m pc' Ls (rest))) : own_Goal p e below Φ T (mkF m pc Ls (x :: rest)) := by
  subst hp
  exact own_pure X (fun X hx hby _ a => XT.pop X.here hx rfl (hb hby hd) rfl hc a) k
theorem own_goto (X : own_St p l e R s m args below meth c Z own bytes ml rt nm n0 T h cells slots) {o : Int}  (hd : decode bytes pc = .ok (.goto o, 3)) (ho : 0 ≤ (pc : Int) + o) (hp : ((pc : Int) + o).toNat = pc') (k : own_Goal p e below Φ T (mkF m pc' Ls rest)) : own_Goal p e below Φ T (mkF m pc Ls (rest)) := by
  exact own_pure X (fun X hx hby _ a => XS.goto X.here hx rfl rfl (hb hby hd) ho hp a) k
theorem own_ifT (X : own_St p l e R s m args below meth c Z own bytes ml rt nm n0 T h cells slots) {o : Int} {cd : ClassFile.Cond} {x : Int32} (hc : ifCond.holds cd x = true) (hd : decode bytes pc = .ok (.ifCond cd o, 3)) (ho : 0 ≤ (pc : Int) + o) (hp : ((pc : Int) + o).toNat = pc') (k : own_Goal p e below Φ T (mkF m pc' Ls rest)) : own_Goal p e below Φ T (mkF m pc Ls (.int x :: rest)) := by
  exact own_pure X (fun X hx hby _ a => XS.ifYes X.here hx rfl rfl (hb hby hd) rfl hc ho hp a) k
theorem own_ifF (X : own_St p l e R s m args below meth c Z own bytes ml rt nm n0 T h cells slots) {o : Int} {cd : ClassFile.Cond} {x : Int32} (hc : ifCond.holds cd x = false) (hd : decode bytes pc = .ok (.ifCond cd o, 3)) (hp : pc + 3 = pc') (k : own_Goal p e below Φ T (mkF m pc' Ls rest)) : own_Goal p e below Φ T (mkF m pc Ls (.int x :: rest)) := by
  subst hp
  exact own_pure X (fun X hx hby _ a => XS.ifNo X.here hx rfl (hb hby hd) rfl hc a) k
theorem own_icmpT (X : own_St p l e R s m args below meth c Z own bytes ml rt nm n0 T h cells slots) {o : Int} {cd : ClassFile.Cond} {x y : Int32} (hc : if_icmp.holds cd x y = true) (hd : decode bytes pc = .ok (.if_icmp cd o, 3)) (ho : 0 ≤ (pc : Int) + o) (hp : ((pc : Int) + o).toNat = pc') (k : own_Goal p e below Φ T (mkF m pc' Ls rest)) : own_Goal p e below Φ T (mkF m pc Ls (.int y :: .int x :: rest)) := by
  exact own_pure X (fun X hx hby _ a => XS.icmpYes X.here hx rfl rfl (hb hby hd) rfl hc ho hp a) k
theorem own_icmpF (X : own_St p l e R s m args below meth c Z own bytes ml rt nm n0 T h cells slots) {o : Int} {cd : ClassFile.Cond} {x y : Int32} (hc : if_icmp.holds cd x y = false) (hd : decode bytes pc = .ok (.if_icmp cd o, 3)) (hp : pc + 3 = pc') (k : own_Goal p e below Φ T (mkF m pc' Ls rest)) : own_Goal p e below Φ T (mkF m pc Ls (.int y :: .int x :: rest)) := by
  subst hp
  exact own_pure X (fun X hx hby _ a => XS.icmpNo X.here hx rfl (hb hby hd) rfl hc a) k
theorem own_ifnullT (X : own_St p l e R s m args below meth c Z own bytes ml rt nm n0 T h cells slots) {o : Int}  (hd : decode bytes pc = .ok (.ifnull o, 3)) (ho : 0 ≤ (pc : Int) + o) (hp : ((pc : Int) + o).toNat = pc') (k : own_Goal p e below Φ T (mkF m pc' Ls rest)) : own_Goal p e below Φ T (mkF m pc Ls (.null :: rest)) := by
  exact own_pure X (fun X hx hby _ a => XS.ifnullYes X.here hx rfl rfl (hb hby hd) rfl ho hp a) k
theorem own_ifnullF (X : own_St p l e R s m args below meth c Z own bytes ml rt nm n0 T h cells slots) {o : Int} {b : Addr} (hd : decode bytes pc = .ok (.ifnull o, 3)) (hp : pc + 3 = pc') (k : own_Goal p e below Φ T (mkF m pc' Ls rest)) : own_Goal p e below Φ T (mkF m pc Ls (.ref b :: rest)) := by
  subst hp
  exact own_pure X (fun X hx hby _ a => XS.ifnullNo X.here hx rfl (hb hby hd) rfl a) k
theorem own_ifnonnullT (X : own_St p l e R s m args below meth c Z own bytes ml rt nm n0 T h cells slots) {o : Int} {b : Addr} (hd : decode bytes pc = .ok (.ifnonnull o, 3)) (ho : 0 ≤ (pc : Int) + o) (hp : ((pc : Int) + o).toNat = pc') (k : own_Goal p e below Φ T (mkF m pc' Ls rest)) : own_Goal p e below Φ T (mkF m pc Ls (.ref b :: rest)) := by
  exact own_pure X (fun X hx hby _ a => XT.ifnonnullYes X.here hx rfl rfl (hb hby hd) rfl ho hp a) k
theorem own_ifnonnullF (X : own_St p l e R s m args below meth c Z own bytes ml rt nm n0 T h cells slots) {o : Int}  (hd : decode bytes pc = .ok (.ifnonnull o, 3)) (hp : pc + 3 = pc') (k : own_Goal p e below Φ T (mkF m pc' Ls rest)) : own_Goal p e below Φ T (mkF m pc Ls (.null :: rest)) := by
  subst hp
  exact own_pure X (fun X hx hby _ a => XT.ifnonnullNo X.here hx rfl (hb hby hd) rfl a) k
theorem own_ldcI (X : own_St p l e R s m args below meth c Z own bytes ml rt nm n0 T h cells slots) {i : Nat} {v : Int32} (w : (Jvm.Cond.constant own i v).before a0 Z = true) (hd : decode bytes pc = .ok (.ldc i, 2)) (hp : pc + 2 = pc') (k : own_Goal p e below Φ T (mkF m pc' Ls (.int v :: rest))) : own_Goal p e below Φ T (mkF m pc Ls rest) := by
  subst hp
  obtain ⟨locs, X, -, -, -, hx, hZ, hown, hby, -⟩ := X
  exact own_step (fun t a => X.ldcInt hx hown (mvT hZ w) (g := mkF m pc Ls rest) rfl (hb hby hd) t a) k
theorem own_ldcJ (X : own_St p l e R s m args below meth c Z own bytes ml rt nm n0 T h cells slots) {i : Nat} {v : Int64} (w : (Jvm.Cond.constantLong own i v).before a0 Z = true) (hd : decode bytes pc = .ok (.ldc2_w i, 3)) (hp : pc + 3 = pc') (k : own_Goal p e below Φ T (mkF m pc' Ls (.long v :: rest))) : own_Goal p e below Φ T (mkF m pc Ls rest) := by
  subst hp
  obtain ⟨locs, X, -, -, -, hx, hZ, hown, hby, -⟩ := X
  exact own_step (fun t a => X.ldc2Long hx hown (mvT hZ w) (g := mkF m pc Ls rest) rfl (hb hby hd) t a) k
theorem own_ldcD (X : own_St p l e R s m args below meth c Z own bytes ml rt nm n0 T h cells slots) {i : Nat} {v : UInt64} (w : (Jvm.Cond.constantDouble own i v).before a0 Z = true) (hd : decode bytes pc = .ok (.ldc2_w i, 3)) (hp : pc + 3 = pc') (k : own_Goal p e below Φ T (mkF m pc' Ls (.double v :: rest))) : own_Goal p e below Φ T (mkF m pc Ls rest) := by
  subst hp
  obtain ⟨locs, X, -, -, -, hx, hZ, hown, hby, -⟩ := X
  exact own_step (fun t a => X.ldc2DoubleC hx hown (mvT hZ w) (g := mkF m pc Ls rest) rfl (hb hby hd) t a) k
theorem own_retI (X : own_St p l e R s m args below meth c Z own bytes ml rt nm n0 T h cells slots) {v : Int32} (hd : decode bytes pc = .ok (.ireturn, 1)) (hr : rt = some .int) (hc : cells ≤ R.cells) (hs : slots ≤ R.slots) (q : Q (some (.int v)) h) : own_Goal p e below (own_Fin below s R n0 Q) T (mkF m pc Ls (.int v :: rest)) := by
  obtain ⟨locs, X, N, e1, n1, hx, hZ, hown, hby, -, hrt, hlk, -⟩ := X
  obtain ⟨fs, hl, hrun, hended, hW, hsame⟩ := X.leave (v := some (.int v)) (fun z => by rw [hrt, hr] at z; cases z) hlk
  exact ⟨_, _, retOut X hx (hrt.trans hr) rfl (Or.inl ⟨rfl, Or.inl rfl, _, rfl⟩) (hb hby hd) hl, hrun, hended, _, _, rfl, ⟨⟨by show Q _ T.heap; rw [e1]; exact q, by show n0 ≤ T.heap.size; rw [e1]; exact n1⟩, N⟩, ⟨_, rfl⟩, hW, hsame.mono hc hs⟩
theorem own_retJ (X : own_St p l e R s m args below meth c Z own bytes ml rt nm n0 T h cells slots) {v : Int64} (hd : decode bytes pc = .ok (.lreturn, 1)) (hr : rt = some .long) (hc : cells ≤ R.cells) (hs : slots ≤ R.slots) (q : Q (some (.long v)) h) : own_Goal p e below (own_Fin below s R n0 Q) T (mkF m pc Ls (.long v :: rest)) := by
  obtain ⟨locs, X, N, e1, n1, hx, hZ, hown, hby, -, hrt, hlk, -⟩ := X
  obtain ⟨fs, hl, hrun, hended, hW, hsame⟩ := X.leave (v := some (.long v)) (fun z => by rw [hrt, hr] at z; cases z) hlk
  exact ⟨_, _, retOut X hx (hrt.trans hr) rfl (Or.inr (Or.inl ⟨rfl, rfl, _, rfl⟩)) (hb hby hd) hl, hrun, hended, _, _, rfl, ⟨⟨by show Q _ T.heap; rw [e1]; exact q, by show n0 ≤ T.heap.size; rw [e1]; exact n1⟩, N⟩, ⟨_, rfl⟩, hW, hsame.mono hc hs⟩
theorem own_retD (X : own_St p l e R s m args below meth c Z own bytes ml rt nm n0 T h cells slots) {v : UInt64} (hd : decode bytes pc = .ok (.dreturn, 1)) (hr : rt = some .double) (hc : cells ≤ R.cells) (hs : slots ≤ R.slots) (q : Q (some (.double v)) h) : own_Goal p e below (own_Fin below s R n0 Q) T (mkF m pc Ls (.double v :: rest)) := by
  obtain ⟨locs, X, N, e1, n1, hx, hZ, hown, hby, -, hrt, hlk, -⟩ := X
  obtain ⟨fs, hl, hrun, hended, hW, hsame⟩ := X.leave (v := some (.double v)) (fun z => by rw [hrt, hr] at z; cases z) hlk
  exact ⟨_, _, retOut X hx (hrt.trans hr) rfl (Or.inr (Or.inr (Or.inl ⟨rfl, rfl, _, rfl⟩))) (hb hby hd) hl, hrun, hended, _, _, rfl, ⟨⟨by show Q _ T.heap; rw [e1]; exact q, by show n0 ≤ T.heap.size; rw [e1]; exact n1⟩, N⟩, ⟨_, rfl⟩, hW, hsame.mono hc hs⟩
theorem own_retZ (X : own_St p l e R s m args below meth c Z own bytes ml rt nm n0 T h cells slots) {v : Int32} (hv : v = 0 ∨ v = 1) (hd : decode bytes pc = .ok (.ireturn, 1)) (hr : rt = some .boolean) (hc : cells ≤ R.cells) (hs : slots ≤ R.slots) (q : Q (some (.int v)) h) : own_Goal p e below (own_Fin below s R n0 Q) T (mkF m pc Ls (.int v :: rest)) := by
  obtain ⟨locs, X, N, e1, n1, hx, hZ, hown, hby, -, hrt, hlk, -⟩ := X
  obtain ⟨fs, hl, hrun, hended, hW, hsame⟩ := X.leave (v := some (.int v)) (fun z => by rw [hrt, hr] at z; cases z) hlk
  have hn : nar .boolean v = v := by rcases hv with rfl | rfl <;> rfl
  exact ⟨_, _, retN X hx (t := .boolean) (hrt.trans hr) (by simp) (hb hby hd) (by rw [hn]; exact hl), hrun, hended, _, _, rfl, ⟨⟨by show Q _ T.heap; rw [e1]; exact q, by show n0 ≤ T.heap.size; rw [e1]; exact n1⟩, N⟩, ⟨_, rfl⟩, hW, hsame.mono hc hs⟩
theorem own_retA (X : own_St p l e R s m args below meth c Z own bytes ml rt nm n0 T h cells slots) {b : Addr} {t : FieldType} (ht : t.isReference = true) (hd : decode bytes pc = .ok (.areturn, 1)) (hr : rt = some t) (hc : cells ≤ R.cells) (hs : slots ≤ R.slots) (q : Q (some (.ref b)) h) : own_Goal p e below (own_Fin below s R n0 Q) T (mkF m pc Ls (.ref b :: rest)) := by
  obtain ⟨locs, X, N, e1, n1, hx, hZ, hown, hby, -, hrt, hlk, -⟩ := X
  obtain ⟨fs, hl, hrun, hended, hW, hsame⟩ := X.leave (v := some (.ref b)) (fun z => by rw [hrt, hr] at z; cases z) hlk
  have hn : narrow t (.ref b) = .ref b := by cases t <;> rfl
  exact ⟨_, _, retOut X hx (hrt.trans hr) hn (Or.inr (Or.inr (Or.inr (Or.inr ⟨rfl, ht, rfl⟩)))) (hb hby hd) hl, hrun, hended, _, _, rfl, ⟨⟨by show Q _ T.heap; rw [e1]; exact q, by show n0 ≤ T.heap.size; rw [e1]; exact n1⟩, N⟩, ⟨_, rfl⟩, hW, hsame.mono hc hs⟩
theorem own_retV (X : own_St p l e R s m args below meth c Z own bytes ml rt nm n0 T h cells slots) (hd : decode bytes pc = .ok (.return_, 1)) (hr : rt = none) (hc : cells ≤ R.cells) (hs : slots ≤ R.slots) (q : Q none h) : own_Goal p e below (own_Fin below s R n0 Q) T (mkF m pc Ls []) := by
  obtain ⟨locs, X, N, e1, n1, hx, hZ, hown, hby, -, hrt, hlk, -⟩ := X
  obtain ⟨fs, hl, hrun, hended, hW, hsame⟩ := X.leave (v := none) (fun _ => rfl) hlk
  exact ⟨_, _, X.returnOut hx (hrt.trans hr) (hb hby hd) hl, hrun, hended, _, _, rfl, ⟨⟨by show Q _ T.heap; rw [e1]; exact q, by show n0 ≤ T.heap.size; rw [e1]; exact n1⟩, N⟩, ⟨_, rfl⟩, hW, hsame.mono hc hs⟩
/-- an array and all it holds -/
def own_Vec (Z : State) (h : Heap) (a : Addr) (ty : FieldType) (vs : List Value) : Prop := ∃ c : Cell, Arr Z h a c ty ∧ c.slots = vs.toArray
theorem own_Vec.lt {a : Addr} {ty : FieldType} {vs : List Value} (F : own_Vec Z h a ty vs) : a < h.size := by obtain ⟨c, A, -⟩ := F; exact A.lt
theorem own_Vec.ext {h' : Heap} {a : Addr} {ty : FieldType} {vs : List Value} (F : own_Vec Z h a ty vs) (E : Ext h h') : own_Vec Z h' a ty vs := by obtain ⟨c, A, r⟩ := F; exact ⟨c, A.ext E, r⟩
theorem own_Vec.other {h' : Heap} {a b : Addr} {sl : Nat} {v : Value} {ty : FieldType} {vs : List Value} (F : own_Vec Z h b ty vs) (W : Wr h h' a sl v) (q : b ≠ a) : own_Vec Z h' b ty vs := by obtain ⟨c, A, r⟩ := F; exact ⟨c, A.other W q, r⟩
theorem own_Vec.keep {h' : Heap} {ws : List Addr} {a : Addr} {ty : FieldType} {vs : List Value} (F : own_Vec Z h a ty vs) (K : Keep h h' ws) (q : a ∉ ws) : own_Vec Z h' a ty vs := by obtain ⟨c, A, r⟩ := F; exact ⟨c, ⟨K.2.1 a c A.1 q, A.2⟩, r⟩
theorem own_Vec.set {h' : Heap} {a : Addr} {i : Nat} {v : Value} {ty : FieldType} {vs : List Value} (F : own_Vec Z h a ty vs) (W : Wr h h' a i v) : own_Vec Z h' a ty (vs.set i v) := by
  obtain ⟨c, A, r⟩ := F
  refine ⟨_, A.same W, ?_⟩
  show c.slots.setIfInBounds i v = _
  rw [r]; simp
theorem own_lt_ne {a b : Addr} (q : b < h.size) (g : a = h.size) : b ≠ a := by subst g; exact Nat.ne_of_lt q
/-- an index in an array, as the library's laws ask it -/
theorem own_in {n i : Nat} {j : Int32} (hj : j.toNatClampNeg = i) (h0 : ¬ j < 0) (hi : i < n) : ¬ (j < 0 ∨ n ≤ j.toNatClampNeg) := by
  rw [hj]; rintro (q | q)
  · exact h0 q
  · omega
theorem own_len (X : own_St p l e R s m args below meth c Z own bytes ml rt nm n0 T h cells slots) {a : Addr} {ty : FieldType} {vs : List Value} (F : own_Vec Z h a ty vs) {v : Int32} (hv : vs.length.toInt32 = v) (hd : decode bytes pc = .ok (.arraylength, 1)) (hp : pc + 1 = pc') (k : own_Goal p e below Φ T (mkF m pc' Ls (.int v :: rest))) : own_Goal p e below Φ T (mkF m pc Ls (.ref a :: rest)) := by
  subst hp
  obtain ⟨locs, X, N, e1, -, hx, hZ, hown, hby, -⟩ := X
  obtain ⟨cl, A, r⟩ := F
  have e2 : cl.slots.size.toInt32 = v := by rw [r]; simpa using hv
  exact own_step (fun t a => X.arraylength hx (cell := cl) (by rw [e1]; exact A.1) (State.isArrayOf_alike hZ.alike A.2.1) (g := mkF m pc Ls _) rfl rfl (hb hby hd) t (by rw [e2]; exact a)) k
theorem own_iaload (X : own_St p l e R s m args below meth c Z own bytes ml rt nm n0 T h cells slots) {a : Addr} {vs : List Value} (F : own_Vec Z h a .int vs) {j : Int32} {i : Nat} {v : Value} (hj : j.toNatClampNeg = i) (h0 : ¬ j < 0) (hv : vs[i]? = some v) (hd : decode bytes pc = .ok (.iaload, 1)) (hp : pc + 1 = pc') (k : own_Goal p e below Φ T (mkF m pc' Ls (v :: rest))) : own_Goal p e below Φ T (mkF m pc Ls (.int j :: .ref a :: rest)) := by
  subst hp
  obtain ⟨locs, X, N, e1, -, hx, hZ, hown, hby, -⟩ := X
  obtain ⟨cl, A, r⟩ := F
  have q1 : i < vs.length := (List.getElem?_eq_some_iff.mp hv).1
  exact own_step (fun t a => X.iaload hx (cell := cl) (by rw [e1]; exact A.1) (State.isArrayOf_alike hZ.alike A.2.1) A.2.2 (own_in hj h0 (by rw [r]; simpa using q1)) (by rw [hj, r]; simpa using hv) (g := mkF m pc Ls _) rfl rfl (hb hby hd) t a) k
theorem own_laload (X : own_St p l e R s m args below meth c Z own bytes ml rt nm n0 T h cells slots) {a : Addr} {vs : List Value} (F : own_Vec Z h a .long vs) {j : Int32} {i : Nat} {v : Value} (hj : j.toNatClampNeg = i) (h0 : ¬ j < 0) (hv : vs[i]? = some v) (hd : decode bytes pc = .ok (.laload, 1)) (hp : pc + 1 = pc') (k : own_Goal p e below Φ T (mkF m pc' Ls (v :: rest))) : own_Goal p e below Φ T (mkF m pc Ls (.int j :: .ref a :: rest)) := by
  subst hp
  obtain ⟨locs, X, N, e1, -, hx, hZ, hown, hby, -⟩ := X
  obtain ⟨cl, A, r⟩ := F
  have q1 : i < vs.length := (List.getElem?_eq_some_iff.mp hv).1
  exact own_step (fun t a => X.laload hx (cell := cl) (by rw [e1]; exact A.1) (State.isArrayOf_alike hZ.alike A.2.1) A.2.2 (own_in hj h0 (by rw [r]; simpa using q1)) (by rw [hj, r]; simpa using hv) (g := mkF m pc Ls _) rfl rfl (hb hby hd) t a) k
theorem own_daload (X : own_St p l e R s m args below meth c Z own bytes ml rt nm n0 T h cells slots) {a : Addr} {vs : List Value} (F : own_Vec Z h a .double vs) {j : Int32} {i : Nat} {v : Value} (hj : j.toNatClampNeg = i) (h0 : ¬ j < 0) (hv : vs[i]? = some v) (hd : decode bytes pc = .ok (.daload, 1)) (hp : pc + 1 = pc') (k : own_Goal p e below Φ T (mkF m pc' Ls (v :: rest))) : own_Goal p e below Φ T (mkF m pc Ls (.int j :: .ref a :: rest)) := by
  subst hp
  obtain ⟨locs, X, N, e1, -, hx, hZ, hown, hby, -⟩ := X
  obtain ⟨cl, A, r⟩ := F
  have q1 : i < vs.length := (List.getElem?_eq_some_iff.mp hv).1
  exact own_step (fun t a => X.daload hx (cell := cl) (by rw [e1]; exact A.1) (State.isArrayOf_alike hZ.alike A.2.1) A.2.2 (own_in hj h0 (by rw [r]; simpa using q1)) (by rw [hj, r]; simpa using hv) (g := mkF m pc Ls _) rfl rfl (hb hby hd) t a) k
theorem own_iastore (X : own_St p l e R s m args below meth c Z own bytes ml rt nm n0 T h cells slots) {a : Addr} {vs : List Value} (F : own_Vec Z h a .int vs) (ha : n0 ≤ a) {j : Int32} {i : Nat} {x : Int32} (hj : j.toNatClampNeg = i) (h0 : ¬ j < 0) (hi : i < vs.length) (hd : decode bytes pc = .ok (.iastore, 1)) (hp : pc + 1 = pc')
    (k : ∀ T' h', own_St p l e R s m args below meth c Z own bytes ml rt nm n0 T' h' cells slots → Wr h h' a i (.int x) → own_Vec Z h' a .int (vs.set i (.int x)) → own_Goal p e below Φ T' (mkF m pc' Ls rest)) : own_Goal p e below Φ T (mkF m pc Ls (.int x :: .int j :: .ref a :: rest)) := by
  subst hp
  obtain ⟨locs, X, N, e1, n1, hx, hZ, hown, hby, r0⟩ := X
  have F0 := F
  obtain ⟨cl, A, r⟩ := F
  obtain ⟨T', h', X', e', W, st⟩ := stI X hx hZ e1 A (own_in hj h0 (by rw [r]; simpa using hi)) (g := mkF m pc Ls _) rfl rfl (hb hby hd)
  have N' := Fr.snoc X' N ha
  rw [hj] at W
  exact own_step st (k T' h' ⟨_, X', N', e', by rw [W.size]; exact n1, hx, hZ, hown, hby, r0⟩ W (F0.set W))
theorem own_dastore (X : own_St p l e R s m args below meth c Z own bytes ml rt nm n0 T h cells slots) {a : Addr} {vs : List Value} (F : own_Vec Z h a .double vs) (ha : n0 ≤ a) {j : Int32} {i : Nat} {x : UInt64} (hj : j.toNatClampNeg = i) (h0 : ¬ j < 0) (hi : i < vs.length) (hd : decode bytes pc = .ok (.dastore, 1)) (hp : pc + 1 = pc')
    (k : ∀ T' h', own_St p l e R s m args below meth c Z own bytes ml rt nm n0 T' h' cells slots → Wr h h' a i (.double x) → own_Vec Z h' a .double (vs.set i (.double x)) → own_Goal p e below Φ T' (mkF m pc' Ls rest)) : own_Goal p e below Φ T (mkF m pc Ls (.double x :: .int j :: .ref a :: rest)) := by
  subst hp
  obtain ⟨locs, X, N, e1, n1, hx, hZ, hown, hby, r0⟩ := X
  have F0 := F
  obtain ⟨cl, A, r⟩ := F
  obtain ⟨T', h', X', e', W, st⟩ := stD X hx hZ e1 A (own_in hj h0 (by rw [r]; simpa using hi)) (g := mkF m pc Ls _) rfl rfl (hb hby hd)
  have N' := Fr.snoc X' N ha
  rw [hj] at W
  exact own_step st (k T' h' ⟨_, X', N', e', by rw [W.size]; exact n1, hx, hZ, hown, hby, r0⟩ W (F0.set W))
theorem own_newarray (X : own_St p l e R s m args below meth c Z own bytes ml rt nm n0 T h cells slots) {aty : ArrayType} {ty : FieldType} (hty : newarray.typeOf aty = ty) (w : (Jvm.Cond.arrayClass ty).before a0 Z = true) {j : Int32} {n : Nat} {vs : List Value} (hj : j.toNatClampNeg = n) (h0 : ¬ j < 0) (hn : n ≤ 1000) (hvs : List.replicate n (defaultValue ty) = vs) {cells' slots' : Nat} (hc' : cells + 1 = cells') (hs' : slots + n = slots') (hc : cells' ≤ R.cells) (hs : slots' ≤ R.slots) (hd : decode bytes pc = .ok (.newarray aty, 2)) (hp : pc + 2 = pc')
    (k : ∀ a T' h', a = h.size → n0 ≤ a → own_St p l e R s m args below meth c Z own bytes ml rt nm n0 T' h' cells' slots' → Ext h h' → own_Vec Z h' a ty vs → own_Goal p e below Φ T' (mkF m pc' Ls (.ref a :: rest))) : own_Goal p e below Φ T (mkF m pc Ls (.int j :: rest)) := by
  subst hp hty hvs hc' hs'
  obtain ⟨locs, X, N, e1, n1, hx, hZ, hown, hby, r0⟩ := X
  obtain ⟨T', h', cA, X', e', E, A, st⟩ := newP X hx hZ w e1 (g := mkF m pc Ls _) rfl (hb hby hd) rfl h0 (cap := n) (by omega) (by omega) hc hs
  refine own_step st (k _ T' h' rfl n1 ⟨_, X', N, e', Nat.le_trans n1 E.1, hx, hZ, hown, hby, r0⟩ E ⟨_, A, ?_⟩)
  simp [newA, hj]
theorem own_new (X : own_St p l e R s m args below meth c Z own bytes ml rt nm n0 T h cells slots) {i : Nat} {C : String} {n : Nat} (w : (Jvm.Cond.classLink own i C).before a0 Z = true) (wi : (Jvm.Cond.instantiable C n).before a0 Z = true) (wz : (Jvm.Cond.initialized C).before a0 Z = true) {cells' slots' : Nat} (hc' : cells + 1 = cells') (hs' : slots + n = slots') (hc : cells' ≤ R.cells) (hs : slots' ≤ R.slots) (hd : decode bytes pc = .ok (.new i, 3)) (hp : pc + 3 = pc')
    (k : ∀ a T' h', a = h.size → n0 ≤ a → own_St p l e R s m args below meth c Z own bytes ml rt nm n0 T' h' cells' slots' → Ext h h' → Exa Z h' a C → (∀ {O nm d : String} {ty : FieldType}, Laid Z a0 C O nm d → parseFieldDescriptor d = some ty → Fld Z h' a O nm d (defaultValue ty)) → own_Goal p e below Φ T' (mkF m pc' Ls (.ref a :: rest))) : own_Goal p e below Φ T (mkF m pc Ls rest) := by
  subst hp hc' hs'
  obtain ⟨locs, X, N, e1, n1, hx, hZ, hown, hby, r0⟩ := X
  obtain ⟨T', h', X', e', E, A, D, -, st⟩ := newO X hx hZ hown w wi wz e1 (g := mkF m pc Ls _) rfl (hb hby hd) hc hs
  exact own_step st (k _ T' h' rfl n1 ⟨_, X', N, e', Nat.le_trans n1 E.1, hx, hZ, hown, hby, r0⟩ E A D)
theorem own_getF (X : own_St p l e R s m args below meth c Z own bytes ml rt nm n0 T h cells slots) {i : Nat} {O n d : String} (w : (Jvm.Cond.fieldLink own i O n d).before a0 Z = true) {a : Addr} {v : Value} (F : Fld Z h a O n d v) (hd : decode bytes pc = .ok (.getfield i, 3)) (hp : pc + 3 = pc')
    (k : ∀ T', own_St p l e R s m args below meth c Z own bytes ml rt nm n0 T' h cells slots → own_Goal p e below Φ T' (mkF m pc' Ls (v :: rest))) : own_Goal p e below Φ T (mkF m pc Ls (.ref a :: rest)) := by
  subst hp
  obtain ⟨locs, X, N, e1, n1, hx, hZ, hown, hby, r0⟩ := X
  obtain ⟨T', X', e', st⟩ := getF X hx hZ hown (host := "") (Or.inl w) Via.refl e1 F (g := mkF m pc Ls _) rfl rfl (hb hby hd)
  exact own_step st (k T' ⟨_, X', N, e', n1, hx, hZ, hown, hby, r0⟩)
theorem own_putF (X : own_St p l e R s m args below meth c Z own bytes ml rt nm n0 T h cells slots) {i : Nat} {O n d C : String} {kk : Nat} {ty : FieldType} (w : (Jvm.Cond.fieldLink own i O n d).before a0 Z = true) {a : Addr} {v old : Value} (F : Fld Z h a O n d old) (E : Exa Z h a C) (L : (Jvm.Cond.lays C O n d).before a0 Z = true ∨ ((Jvm.Cond.laysFinal C O n d).before a0 Z = true ∧ own = O ∧ nm = "<init>")) (wi : (Jvm.Cond.instantiable C kk).before a0 Z = true) (hty : parseFieldDescriptor d = some ty) (hn : narrow ty v = v) (hf : fits ty v = true) (ha : n0 ≤ a) (hd : decode bytes pc = .ok (.putfield i, 3)) (hp : pc + 3 = pc')
    (k : ∀ T' h', own_St p l e R s m args below meth c Z own bytes ml rt nm n0 T' h' cells slots → Wr h h' a (RoadKit.slotOf Z O n d) v → own_Goal p e below Φ T' (mkF m pc' Ls rest)) : own_Goal p e below Φ T (mkF m pc Ls (v :: .ref a :: rest)) := by
  subst hp
  obtain ⟨locs, X, N, e1, n1, hx, hZ, hown, hby, q1, q2, q3, q4⟩ := X
  obtain ⟨T', h', X', e', W, st⟩ := putF X hx hZ hown (host := "") (Or.inl w) Via.refl e1 F E (L.imp id fun z => ⟨z.1, z.2.1, q4.trans z.2.2⟩) wi hty hn hf (g := mkF m pc Ls _) rfl rfl (hb hby hd)
  exact own_step st (k T' h' ⟨_, X', Fr.snoc X' N ha, e', by rw [W.size]; exact n1, hx, hZ, hown, hby, q1, q2, q3, q4⟩ W)
theorem own_initO (X : own_St p l e R s m args below meth c Z own bytes ml rt nm n0 T h cells slots) {i : Nat} (w1 : (Jvm.Cond.methodLink own i Lib.objectInit).before a0 Z = true) (w2 : (Jvm.Cond.instanceMethod Lib.objectInit).before a0 Z = true) (w3 : (Jvm.Cond.code Lib.objectInit ⟨#[0xb1]⟩ 1 none).before a0 Z = true) {a : Addr} (hsz : Ls.size = ml) (hf : 1 ≤ R.frames) {W : Nat} (hW : (rest.map fun v => v.category).sum ≤ W) (hl : W + 12 ≤ R.locals) (hd : decode bytes pc = .ok (.invokespecial i, 3)) (hp : pc + 3 = pc')
    (k : ∀ T', own_St p l e R s m args below meth c Z own bytes ml rt nm n0 T' h cells slots → own_Goal p e below Φ T' (mkF m pc' Ls rest)) : own_Goal p e below Φ T (mkF m pc Ls (.ref a :: rest)) := by
  subst hp
  obtain ⟨locs, X, N, e1, n1, hx, hZ, hown, hby, hml, r0⟩ := X
  obtain ⟨T', X', e', st⟩ := initO X hx hZ hown w1 w2 w3 e1 (g := mkF m pc Ls (.ref a :: rest)) (rest := rest) rfl (hsz.trans hml.symm) rfl (hb hby hd) hf (W := W) (by show 2 * 0 + _ ≤ _; omega) hl
  exact own_step st (k T' ⟨_, X', N, e', n1, hx, hZ, hown, hby, hml, r0⟩)
/-- a callee's contract: called with as' over the heap h0 it returns, and Q says what it leaves -/
def own_Met (l : Launch) (Z : State) (y : MethodName) (bytes : ByteArray) (ml : Nat) (rt : Option FieldType) (ws : List Jvm.Cond) (rm : Room) (as' : Array Value) (h0 : Heap) (n0 : Nat) (Q : Option Value → Heap → Prop) : Prop :=
  MetFree l y (head1 (Jvm.Cond.code y bytes ml rt :: ws) rm) (fun a U => a = as' ∧ Z.Warmed39 U.vm ∧ U.heap = h0) (fun _ _ _ _ _ => True) (fun _ U o U' => ∃ v L, o = .returned v ∧ ((Q v U'.heap ∧ n0 ≤ U'.heap.size) ∧ Fr n0 L) ∧ FrameEnd U o U' L rm.cells rm.slots)
theorem own_meet {y : MethodName} {ws : List Jvm.Cond} {rm : Room} {as' : Array Value} {h0 : Heap} (hpn : plainFor y = true) (hle : n0 ≤ h0.size) {Ls0 : Array Slot} (hef : ∀ m, entryFrame m as' ml = mkF m 0 Ls0 [])
    (body : ∀ (p : Program) (e : Env) (s : State) (m : MethodId) (below : List Frame) (meth : Method) (c : Code) (T : State), own_St p l e rm s m as' below meth c Z y.cls bytes ml rt y.name n0 T h0 0 0 → own_Goal p e below (own_Fin below s rm n0 Q) T (mkF m 0 Ls0 [])) : own_Met l Z y bytes ml rt ws rm as' h0 n0 Q := by
  refine MetFree.of_bodySF hpn hisR ?_
  intro p e s m args below meth c s₁ Bd hml0 hP hK
  obtain ⟨rfl, hZ, hh⟩ := hP
  have e0 : s₁.heap = h0 := by rw [← hh, Bd.state]; rfl
  obtain ⟨s2, o, st, r1, r2, r3⟩ := body p e s m below meth c s₁ ⟨[], Stand.of_body Bd, Fr.nil n0, e0, hle, Bd.exec, hZ, findClass_of_methodNamed Bd.named, Bd.bytes, hml0, Bd.returns, Bd.notSynchronized, (name_of_methodNamed Bd.named Bd.method).1⟩
  exact ⟨s2, o, castTop (hef m) st, r1, r2, r3⟩
theorem own_callS (X : own_St p l e R s m args below meth c Z own bytes ml rt nm n0 T h cells slots) {y : MethodName} {yb : ByteArray} {yl : Nat} {yr : Option FieldType} {rm : Room} {as' : Array Value} {Q' : Option Value → Heap → Prop} (M : own_Met l Z y yb yl yr [] rm as' h n0 Q') {i : Nat} (w1 : (Jvm.Cond.methodLink own i y).before a0 Z = true) (w2 : (Jvm.Cond.static y).before a0 Z = true) (w3 : (Jvm.Cond.initialized y.cls).before a0 Z = true) (w4 : (Jvm.Cond.code y yb yl yr).before a0 Z = true) (hy : y.cls ≠ "java/lang/invoke/MethodHandle" ∧ y.cls ≠ "java/lang/invoke/VarHandle") (hsz : Ls.size = ml) (hf : rm.frames + 1 ≤ R.frames) {W : Nat} (hW : (rest.map fun v => v.category).sum ≤ W) (hl : W + (yl + 11) + rm.locals ≤ R.locals) {cells' slots' : Nat} (hc' : cells + rm.cells = cells') (hs' : slots + rm.slots = slots') (hc : cells' ≤ R.cells) (hs : slots' ≤ R.slots) {argsL stk : List Value} (hlen : ∀ sig, parseMethodDescriptor y.desc = some sig → argsL.length = sig.parameters.length) (hst : stk = argsL.reverse ++ rest) (has : argsL.toArray = as') (hd : decode bytes pc = .ok (.invokestatic i, 3)) (hp : pc + 3 = pc')
    (k : ∀ v T' h', own_St p l e R s m args below meth c Z own bytes ml rt nm n0 T' h' cells' slots' → Q' v h' → own_Goal p e below Φ T' (mkF m pc' Ls (v.toList ++ rest))) : own_Goal p e below Φ T (mkF m pc Ls stk) := by
  subst hp hst has hc' hs'
  obtain ⟨locs, X, N, e1, n1, hx, hZ, hown, hby, hml, r0⟩ := X
  obtain ⟨v, vm1, ⟨T', L', k', n'⟩, -, X', ⟨Lc, ⟨⟨hQ, hG⟩, NL⟩, l1, y1, z1⟩, st⟩ := Jvm.LawKit.callS X hx (y := y) hown (mvT hZ w1) (mvT hZ w2) (mvT hZ w3) (mvT hZ w4) hy (backOf (W := W) (Q := fun v hh L => (Q' v hh ∧ n0 ≤ hh.size) ∧ Fr n0 L) M hZ w4 w3 hf hl) (g := mkF m pc Ls (argsL.reverse ++ rest)) rfl (hsz.trans hml.symm) (argsL := argsL) (rest := rest) hlen rfl (by show 2 * 0 + _ ≤ _; omega) (hb hby hd) (fun _ _ => ⟨rfl, e1, hc, hs⟩)
  dsimp only [Pt.U, Pt.locs, Pt.cells, Pt.slots] at X' l1 y1 z1 st hQ
  subst l1 y1 z1
  exact own_step st (k v T' _ ⟨_, X', Fr.app N NL, rfl, hG, hx, hZ, hown, hby, hml, r0⟩ hQ)
theorem own_special (X : own_St p l e R s m args below meth c Z own bytes ml rt nm n0 T h cells slots) {y : MethodName} {yb : ByteArray} {yl : Nat} {yr : Option FieldType} {rm : Room} {as' : Array Value} {Q' : Option Value → Heap → Prop} (M : own_Met l Z y yb yl yr [] rm as' h n0 Q') (hy1 : y.name = "<init>") (hyr : yr = none) {i : Nat} (w1 : (Jvm.Cond.methodLink own i y).before a0 Z = true) (w2 : (Jvm.Cond.instanceMethod y).before a0 Z = true) (w3 : (Jvm.Cond.initialized y.cls).before a0 Z = true) (w4 : (Jvm.Cond.code y yb yl yr).before a0 Z = true) (hy : y.cls ≠ "java/lang/invoke/MethodHandle" ∧ y.cls ≠ "java/lang/invoke/VarHandle") (hsz : Ls.size = ml) (hf : rm.frames + 1 ≤ R.frames) {W : Nat} (hW : (rest.map fun v => v.category).sum ≤ W) (hl : W + (yl + 11) + rm.locals ≤ R.locals) {cells' slots' : Nat} (hc' : cells + rm.cells = cells') (hs' : slots + rm.slots = slots') (hc : cells' ≤ R.cells) (hs : slots' ≤ R.slots) {a : Addr} {argsL stk : List Value} (hlen : ∀ sig, parseMethodDescriptor y.desc = some sig → argsL.length = sig.parameters.length) (hst : stk = argsL.reverse ++ .ref a :: rest) (has : (.ref a :: argsL).toArray = as') (hd : decode bytes pc = .ok (.invokespecial i, 3)) (hp : pc + 3 = pc')
    (k : ∀ v T' h', own_St p l e R s m args below meth c Z own bytes ml rt nm n0 T' h' cells' slots' → Q' v h' → own_Goal p e below Φ T' (mkF m pc' Ls (v.toList ++ rest))) : own_Goal p e below Φ T (mkF m pc Ls stk) := by
  subst hp hst has hc' hs' hyr
  obtain ⟨locs, X, N, e1, n1, hx, hZ, hown, hby, hml, r0⟩ := X
  obtain ⟨v, vm1, ⟨T', L', k', n'⟩, -, X', ⟨Lc, ⟨⟨hQ, hG⟩, NL⟩, l1, y1, z1⟩, st⟩ := X.specialBack hx (y := y) hy1 hown (mvT hZ w1) (mvT hZ w2) (mvT hZ w4) hy (backOf (W := W) (Q := fun v hh L => (Q' v hh ∧ n0 ≤ hh.size) ∧ Fr n0 L) M hZ w4 w3 hf hl) (g := mkF m pc Ls (argsL.reverse ++ .ref a :: rest)) rfl (hsz.trans hml.symm) (Steps.refl _) (a := a) (argsL := argsL) (rest := rest) hlen rfl (by show 2 * 0 + _ ≤ _; omega) (hb hby hd) (fun _ _ => ⟨rfl, e1, hc, hs⟩)
  dsimp only [Pt.U, Pt.locs, Pt.cells, Pt.slots] at X' l1 y1 z1 st hQ
  subst l1 y1 z1
  exact own_step (fun t b => st.trans b) (k v T' _ ⟨_, X', Fr.app N NL, rfl, hG, hx, hZ, hown, hby, hml, r0⟩ hQ)
theorem own_virtual (X : own_St p l e R s m args below meth c Z own bytes ml rt nm n0 T h cells slots) {y : MethodName} {yb : ByteArray} {yl : Nat} {yr : Option FieldType} {rm : Room} {as' : Array Value} {Q' : Option Value → Heap → Prop} (M : own_Met l Z y yb yl yr [] rm as' h n0 Q') {C : String} {z : MethodName} {i : Nat} (hz : y = z) (w1 : (Jvm.Cond.methodLink own i z).before a0 Z = true) (wd : (Jvm.Cond.declares z).before a0 Z = true) (wsl : (Jvm.Cond.selects C z y).before a0 Z = true) (w2 : (Jvm.Cond.instanceMethod y).before a0 Z = true) (w3 : (Jvm.Cond.initialized y.cls).before a0 Z = true) (w4 : (Jvm.Cond.code y yb yl yr).before a0 Z = true) (hy : y.cls ≠ "java/lang/invoke/MethodHandle" ∧ y.cls ≠ "java/lang/invoke/VarHandle") (hsz : Ls.size = ml) (hf : rm.frames + 1 ≤ R.frames) {W : Nat} (hW : (rest.map fun v => v.category).sum ≤ W) (hl : W + (yl + 11) + rm.locals ≤ R.locals) {cells' slots' : Nat} (hc' : cells + rm.cells = cells') (hs' : slots + rm.slots = slots') (hc : cells' ≤ R.cells) (hs : slots' ≤ R.slots) {a : Addr} (E : Exa Z h a C) {argsL stk : List Value} (hlen : ∀ sig, parseMethodDescriptor y.desc = some sig → argsL.length = sig.parameters.length) (hst : stk = argsL.reverse ++ .ref a :: rest) (has : (.ref a :: argsL).toArray = as') (hd : decode bytes pc = .ok (.invokevirtual i, 3)) (hp : pc + 3 = pc')
    (k : ∀ v T' h', own_St p l e R s m args below meth c Z own bytes ml rt nm n0 T' h' cells' slots' → Q' v h' → own_Goal p e below Φ T' (mkF m pc' Ls (v.toList ++ rest))) : own_Goal p e below Φ T (mkF m pc Ls stk) := by
  subst hp hst has hc' hs' hz
  obtain ⟨locs, X, N, e1, n1, hx, hZ, hown, hby, hml, r0⟩ := X
  obtain ⟨cq, kq, qa, qb, qc⟩ := isOf (T := T) hZ e1 E
  obtain ⟨v, vm1, ⟨T', L', k', n'⟩, -, X', ⟨Lc, ⟨⟨hQ, hG⟩, NL⟩, l1, y1, z1⟩, st⟩ := X.virtualBack hx (y := y) (z := y) hown (mvT hZ w1) (mvT hZ wd) (notFace_of_selects (args := #[]) (mvT hZ wsl)) (mvT hZ wsl) (mvT hZ w2) hy (backOf (W := W) (Q := fun v hh L => (Q' v hh ∧ n0 ≤ hh.size) ∧ Fr n0 L) M hZ w4 w3 hf hl) qa qc (g := mkF m pc Ls (argsL.reverse ++ .ref a :: rest)) rfl (hsz.trans hml.symm) (Steps.refl _) (argsL := argsL) (rest := rest) hlen rfl (by show 2 * 0 + _ ≤ _; omega) (hb hby hd) (fun _ _ => ⟨rfl, e1, hc, hs⟩)
  dsimp only [Pt.U, Pt.locs, Pt.cells, Pt.slots] at X' l1 y1 z1 st hQ
  subst l1 y1 z1
  exact own_step (fun t b => st.trans b) (k v T' _ ⟨_, X', Fr.app N NL, rfl, hG, hx, hZ, hown, hby, hml, r0⟩ hQ)
end OwnWalk
section OwnNum
open Jvm.FP Jvm.FP.Core
/-- the int x is the whole number i, at most B in size -/
def own_I (B : Nat) (i : Int) (x : Int32) : Prop := x.toInt = i ∧ i.natAbs ≤ B
def own_L (B : Nat) (i : Int) (x : Int64) : Prop := x.toInt = i ∧ i.natAbs ≤ B
section
variable {A B C M : Nat} {i j : Int}
theorem own_I.start (x : Int32) : own_I 2147483648 x.toInt x := by
  have := x.toInt_lt; have := x.le_toInt
  exact ⟨rfl, by omega⟩
theorem own_L.start (x : Int64) : own_L 9223372036854775808 x.toInt x := by
  have := x.toInt_lt; have := x.le_toInt
  exact ⟨rfl, by omega⟩
theorem own_I.lit {x : Int32} (h : x.toInt = i) (hB : i.natAbs ≤ B) : own_I B i x := ⟨h, hB⟩
theorem own_I.self {x : Int32} (a : own_I A i x) : own_I A x.toInt x := ⟨rfl, by rw [a.1]; exact a.2⟩
theorem own_L.self {x : Int64} (a : own_L A i x) : own_L A x.toInt x := ⟨rfl, by rw [a.1]; exact a.2⟩
theorem own_L.lit {x : Int64} (h : x.toInt = i) (hB : i.natAbs ≤ B) : own_L B i x := ⟨h, hB⟩
theorem own_abs_mul {i j : Int} (h1 : i.natAbs ≤ A) (h2 : j.natAbs ≤ B) : (i * j).natAbs ≤ A * B := by
  rw [Int.natAbs_mul]; exact Nat.mul_le_mul h1 h2
theorem own_I.add {x y v : Int32} (a : own_I A i x) (b : own_I B j y) (hv : x + y = v) (hC : A + B ≤ C) (h : C < 2147483648) : own_I C (i + j) v := by
  obtain ⟨rfl, h1⟩ := a; obtain ⟨rfl, h2⟩ := b; subst hv
  refine ⟨?_, by omega⟩
  rw [Int32.toInt_add]; exact Int.bmod_eq_of_le (by omega) (by omega)
theorem own_I.sub {x y v : Int32} (a : own_I A i x) (b : own_I B j y) (hv : x - y = v) (hC : A + B ≤ C) (h : C < 2147483648) : own_I C (i - j) v := by
  obtain ⟨rfl, h1⟩ := a; obtain ⟨rfl, h2⟩ := b; subst hv
  refine ⟨?_, by omega⟩
  rw [Int32.toInt_sub]; exact Int.bmod_eq_of_le (by omega) (by omega)
theorem own_I.mul {x y v : Int32} (a : own_I A i x) (b : own_I B j y) (hv : x * y = v) (hC : A * B ≤ C) (h : C < 2147483648) : own_I C (i * j) v := by
  obtain ⟨rfl, h1⟩ := a; obtain ⟨rfl, h2⟩ := b; subst hv
  have h3 := Nat.le_trans (own_abs_mul h1 h2) hC
  refine ⟨?_, h3⟩
  rw [Int32.toInt_mul]; exact Int.bmod_eq_of_le (by omega) (by omega)
theorem own_I.neg {x v : Int32} (a : own_I A i x) (hv : -x = v) (h : A < 2147483648) : own_I A (-i) v := by
  obtain ⟨rfl, h1⟩ := a; subst hv
  refine ⟨?_, by omega⟩
  rw [Int32.toInt_neg]; exact Int.bmod_eq_of_le (by omega) (by omega)
theorem own_and_nn {x m v : Int32} (hv : x &&& m = v) (hm : m.toInt = M) : 0 ≤ v.toInt ∧ v.toInt ≤ M := by
  subst hv; have := c_and x m (by omega); omega
theorem own_I.and {x m v : Int32} (hv : x &&& m = v) (hm : m.toInt = M) : own_I M v.toInt v := by
  have := own_and_nn hv hm
  exact ⟨rfl, by omega⟩
theorem own_land_nn {x m v : Int64} (hv : x &&& m = v) (hm : m.toInt = M) : 0 ≤ v.toInt ∧ v.toInt ≤ M := by
  subst hv
  have h1 := (c_andSL x m).2.2 (by omega)
  refine ⟨h1, ?_⟩
  have la := x.toBitVec.isLt; have lm := m.toBitVec.isLt
  have q : (x &&& m).toBitVec.toNat = x.toBitVec.toNat &&& m.toBitVec.toNat := by show (x.toBitVec &&& m.toBitVec).toNat = _; rw [BitVec.toNat_and]
  have q2 : x.toBitVec.toNat &&& m.toBitVec.toNat ≤ m.toBitVec.toNat := Nat.and_le_right
  change 0 ≤ (x &&& m).toBitVec.toInt at h1
  show (x &&& m).toBitVec.toInt ≤ _
  change m.toBitVec.toInt = _ at hm
  rw [BitVec.toInt_eq_toNat_cond] at h1 hm ⊢
  rw [q] at h1 ⊢
  split at hm <;> split <;> omega
theorem own_L.and {x m v : Int64} (hv : x &&& m = v) (hm : m.toInt = M) : own_L M v.toInt v := by
  have := own_land_nn hv hm
  exact ⟨rfl, by omega⟩
theorem own_lrem_eq {x y v : Int64} (hv : x - (x / y) * y = v) (hx : 0 ≤ x.toInt) (hy : 0 < y.toInt) : v.toInt = x.toInt % y.toInt := by
  subst hv; exact (c_lrem x y _ rfl).1 hx
theorem own_I.shr {x q v : Int32} {k : Nat} (hv : x >>> (q &&& 31) = v) (hk : q.toBitVec.toNat % 32 = k) (hM : 2147483648 ≤ M * 2 ^ k) : own_I M v.toInt v := by
  subst hv
  have h1 := c_ishr x q k hk
  have h2 := x.toInt_lt; have h3 := x.le_toInt
  refine ⟨rfl, ?_⟩
  rw [h1]
  have p : 0 < 2 ^ k := Nat.two_pow_pos k
  generalize 2 ^ k = P at *
  have hP : (0 : Int) < (P : Int) := by omega
  have e1 : x.toInt / (P : Int) ≤ M := by
    refine Int.ediv_le_of_le_mul hP ?_
    have : ((M * P : Nat) : Int) = (M : Int) * P := Int.natCast_mul ..
    omega
  have e2 : -(M : Int) ≤ x.toInt / (P : Int) := by
    refine (Int.le_ediv_iff_mul_le hP).mpr ?_
    have : ((M * P : Nat) : Int) = (M : Int) * P := Int.natCast_mul ..
    rw [Int.neg_mul]; omega
  omega
theorem own_L.ofI {x : Int32} {v : Int64} (a : own_I A i x) (hv : x.toInt64 = v) : own_L A i v := by
  obtain ⟨rfl, h1⟩ := a; subst hv
  exact ⟨Int32.toInt_toInt64 x, h1⟩
theorem own_L.add {x y v : Int64} (a : own_L A i x) (b : own_L B j y) (hv : x + y = v) (hC : A + B ≤ C) (h : C < 9223372036854775808) : own_L C (i + j) v := by
  obtain ⟨rfl, h1⟩ := a; obtain ⟨rfl, h2⟩ := b; subst hv
  refine ⟨?_, by omega⟩
  rw [Int64.toInt_add]; exact Int.bmod_eq_of_le (by omega) (by omega)
theorem own_L.sub {x y v : Int64} (a : own_L A i x) (b : own_L B j y) (hv : x - y = v) (hC : A + B ≤ C) (h : C < 9223372036854775808) : own_L C (i - j) v := by
  obtain ⟨rfl, h1⟩ := a; obtain ⟨rfl, h2⟩ := b; subst hv
  refine ⟨?_, by omega⟩
  rw [Int64.toInt_sub]; exact Int.bmod_eq_of_le (by omega) (by omega)
theorem own_L.mul {x y v : Int64} (a : own_L A i x) (b : own_L B j y) (hv : x * y = v) (hC : A * B ≤ C) (h : C < 9223372036854775808) : own_L C (i * j) v := by
  obtain ⟨rfl, h1⟩ := a; obtain ⟨rfl, h2⟩ := b; subst hv
  have h3 := Nat.le_trans (own_abs_mul h1 h2) hC
  refine ⟨?_, h3⟩
  rw [Int64.toInt_mul]; exact Int.bmod_eq_of_le (by omega) (by omega)
theorem own_L.neg {x v : Int64} (a : own_L A i x) (hv : -x = v) (h : A < 9223372036854775808) : own_L A (-i) v := by
  obtain ⟨rfl, h1⟩ := a; subst hv
  refine ⟨?_, by omega⟩
  rw [Int64.toInt_neg]; exact Int.bmod_eq_of_le (by omega) (by omega)
end
/-- a datum times 2^k -/
def own_sh (k : Int) : Datum → Datum
  | .fin s c q => .fin s c (q + k)
  | d => d
theorem own_sh_sum (k : Int) (x y : Datum) : exactSum (own_sh k x) (own_sh k y) = own_sh k (exactSum x y) := by
  cases x with
  | nan => rfl
  | inf s => cases y with
    | nan => rfl
    | inf t => by_cases h : s = t <;> simp [own_sh, exactSum, h]
    | fin t d r => rfl
  | fin s c q => cases y with
    | nan => rfl
    | inf t => rfl
    | fin t d r =>
      have e1 : min (q + k) (r + k) = min q r + k := by omega
      have e2 : sumUnits s c (q + k) t d (r + k) (min q r + k) = sumUnits s c q t d r (min q r) := by
        unfold sumUnits inUnits
        rw [show q + k - (min q r + k) = q - min q r by omega, show r + k - (min q r + k) = r - min q r by omega]
      simp only [own_sh, exactSum, e1, e2]
theorem own_sh_prod (k r : Int) (x y : Datum) : exactProduct (own_sh k x) (own_sh r y) = own_sh (k + r) (exactProduct x y) := by
  cases x with
  | nan => rfl
  | inf s => cases y with
    | nan => rfl
    | inf t => rfl
    | fin t d u => simp only [own_sh, exactProduct]; split <;> rfl
  | fin s c q => cases y with
    | nan => rfl
    | inf t => simp only [own_sh, exactProduct]; split <;> rfl
    | fin t d u =>
      simp only [own_sh, exactProduct]
      rw [show q + k + (u + r) = q + u + (k + r) by omega]
theorem own_sh_neg (k : Int) (x : Datum) : negate (own_sh k x) = own_sh k (negate x) := by cases x <;> rfl
theorem own_sh_order (k : Int) (x y : Datum) : order (own_sh k x) (own_sh k y) = order x y := by
  cases x <;> cases y <;> try rfl
  rename_i s c q t d r
  simp only [own_sh, order]
  rw [show min (q + k) (r + k) = min q r + k by omega]
  unfold inUnits
  rw [show q + k - (min q r + k) = q - min q r by omega, show r + k - (min q r + k) = r - min q r by omega]
theorem own_sh_sh (k r : Int) (x : Datum) : own_sh r (own_sh k x) = own_sh (k + r) x := by
  cases x <;> simp only [own_sh]
  rw [Int.add_assoc]
theorem own_sh_zero (x : Datum) : own_sh 0 x = x := by cases x <;> simp [own_sh]
theorem own_signed_nat {i : Int} {s : Bool} {n : Nat} (h : n = i.natAbs) (hs : i ≠ 0 → s = decide (i < 0)) : signed s n = i := by
  by_cases h0 : i = 0
  · subst h0; subst h; exact signed_zero s
  · rw [hs h0, h]; unfold signed
    by_cases q : i < 0 <;> simp [q] <;> omega
/-- what is i * 2^-k in size rounds to itself, if i has 53 digits at the most -/
theorem own_round_core {k : Nat} {i : Int} {s : Bool} {c : Nat} {q : Int} (hk : k ≤ 1074) (hi : i.natAbs < 9007199254740992) (hs : i ≠ 0 → s = decide (i < 0)) : Whole i (own_sh k (roundRatio b64 s i.natAbs 1 (-(k : Int)))) := by
  obtain ⟨c', q', e1, e2⟩ := round_exact good_b64 s (c := i.natAbs) (q := -(k : Int)) (show i.natAbs < 2 ^ 53 by omega) (show (-1074 : Int) ≤ _ by omega) (show _ ≤ (971 : Int) by omega)
  have e3 : roundRatio b64 s i.natAbs 1 (-(k : Int)) = .fin s c' q' := e1
  have hf : Core.fits b64 (.fin s c' q') := by rw [← e1]; exact round_fits good_b64 _
  have hq : (-1074 : Int) ≤ q' := hf.2.1
  rw [e3]
  show signed s (c' * 2 ^ (q' + k).toNat) = i * ((2 ^ (-(q' + k)).toNat : Nat) : Int)
  have e4 : c' * 2 ^ (q' + 1074).toNat = i.natAbs * 2 ^ (1074 - k) := by
    have := e2
    unfold inUnits at this
    rw [show (q' - b64.qmin).toNat = (q' + 1074).toNat by rw [show b64.qmin = -1074 from rfl]; omega, show (-(k : Int) - b64.qmin).toNat = 1074 - k by rw [show b64.qmin = -1074 from rfl]; omega] at this
    exact this
  have e5 : c' * 2 ^ (q' + k).toNat = i.natAbs * 2 ^ (-(q' + k)).toNat := by
    refine Nat.eq_of_mul_eq_mul_right (Nat.two_pow_pos (1074 - k)) ?_
    have x1 : c' * 2 ^ (q' + k).toNat * 2 ^ (1074 - k) = c' * 2 ^ (q' + 1074).toNat * 2 ^ (-(q' + k)).toNat := by
      rw [Nat.mul_assoc, Nat.mul_assoc, ← Nat.pow_add, ← Nat.pow_add]; congr 2; omega
    rw [x1, e4, Nat.mul_right_comm]
  rw [e5, signed_mul, own_signed_nat rfl hs]
theorem own_round {k : Nat} {i : Int} {d : Datum} (hk : k ≤ 1074) (hi : i.natAbs < 9007199254740992) (h : Whole i (own_sh k d)) : Whole i (own_sh k (round b64 d)) := by
  cases d with
  | nan => exact h.elim
  | inf => exact h.elim
  | fin s c q =>
    have h1 : c * 2 ^ (q + k).toNat = i.natAbs * 2 ^ (-(q + k)).toNat := whole_natAbs h
    have e : round b64 (.fin s c q) = roundRatio b64 s i.natAbs 1 (-(k : Int)) := by
      refine roundRatio_congr (by decide) (by decide) ?_
      rw [show (q - -(k : Int)).toNat = (q + k).toNat by omega, show (-(k : Int) - q).toNat = (-(q + k)).toNat by omega]
      simpa using h1
    rw [e]
    exact own_round_core (c := c) (q := q) hk hi (fun h0 => whole_sign h h0)
/-- the double x is i * 2^-k, i at most B in size (both zeros are 0) -/
def own_D (k B : Nat) (i : Int) (x : UInt64) : Prop := Whole i (own_sh k (val64 x)) ∧ i.natAbs ≤ B
section
variable {k r t A B C : Nat} {i j : Int} {x y v : UInt64}
theorem own_D.fin (a : own_D k A i x) : ∃ s c q, val64 x = .fin s c q := by
  cases e : val64 x with
  | nan => have := a.1; rw [e] at this; exact this.elim
  | inf => have := a.1; rw [e] at this; exact this.elim
  | fin s c q => exact ⟨s, c, q, rfl⟩
theorem own_D.nn (a : own_D k A i x) : Jvm.Free.Fl.NoNaN64 x := by
  obtain ⟨s, c, q, e⟩ := a.fin
  exact Jvm.Free.Fl.val64_no.mpr (by rw [e]; exact Datum.noConfusion)
theorem own_D.isFin (a : own_D k A i x) : Jvm.Free.Fl.Fin64 x := by
  obtain ⟨s, c, q, e⟩ := a.fin
  exact Jvm.Free.Fl.fin64_core.mpr ⟨s, c, q, e⟩
theorem own_D.lit {s : Bool} {c : Nat} {q : Int} (h : val64 x = .fin s c q) (hw : signed s (c * 2 ^ (q + k).toNat) = i * ((2 ^ (-(q + k)).toNat : Nat) : Int)) (hB : i.natAbs ≤ B) : own_D k B i x := by
  refine ⟨?_, hB⟩
  rw [h]; exact hw
theorem own_D.mono (a : own_D k A i x) (h : A ≤ B) : own_D k B i x := ⟨a.1, Nat.le_trans a.2 h⟩
theorem own_D.zero {s : Bool} (h : val64 x = .fin s 0 b64.qmin) (k : Nat) : own_D k 0 0 x := by
  refine ⟨?_, by decide⟩
  rw [h]
  show signed s (0 * _) = 0 * _
  rw [Nat.zero_mul, signed_zero, Int.zero_mul]
theorem own_D.ofInt (h : DInt i x) (hB : i.natAbs ≤ B) : own_D 0 B i x := ⟨by rw [show ((0 : Nat) : Int) = 0 from rfl, own_sh_zero]; exact h, hB⟩
theorem own_D.i2d {z : Int32} (a : own_I A i z) (hv : FP.i2d z = v) : own_D 0 A i v := by
  subst hv; obtain ⟨rfl, h⟩ := a
  exact own_D.ofInt (i2d_int z) h
theorem own_D.l2d {z : Int64} (a : own_L A i z) (hv : FP.l2d z = v) (h : A ≤ 9007199254740992) : own_D 0 A i v := by
  subst hv; obtain ⟨rfl, h1⟩ := a
  exact own_D.ofInt (l2d_int (show _ ≤ 2 ^ 53 by omega)) h1
theorem own_D.add (a : own_D k A i x) (b : own_D k B j y) (hv : FP.dadd x y = v) (hC : A + B ≤ C) (h : C < 9007199254740992) (hk : k ≤ 1074) : own_D k C (i + j) v := by
  subst hv
  have h2 : (i + j).natAbs ≤ C := by have := a.2; have := b.2; omega
  refine ⟨?_, h2⟩
  show Whole _ (own_sh k (val64 (Core.dadd x y)))
  rw [val64_dadd]
  refine own_round hk (by omega) ?_
  rw [← own_sh_sum]; exact whole_sum a.1 b.1
theorem own_D.sub (a : own_D k A i x) (b : own_D k B j y) (hv : FP.dsub x y = v) (hC : A + B ≤ C) (h : C < 9007199254740992) (hk : k ≤ 1074) : own_D k C (i - j) v := by
  subst hv
  have h2 : (i - j).natAbs ≤ C := by have := a.2; have := b.2; omega
  refine ⟨?_, h2⟩
  show Whole _ (own_sh k (val64 (Core.dsub x y)))
  rw [val64_dsub]
  refine own_round hk (by omega) ?_
  rw [← own_sh_sum, ← own_sh_neg]; exact whole_sum a.1 (whole_negate b.1)
theorem own_D.mul (a : own_D k A i x) (b : own_D r B j y) (hv : FP.dmul x y = v) (hC : A * B ≤ C) (h : C < 9007199254740992) (ht : k + r = t) (hk : t ≤ 1074) : own_D t C (i * j) v := by
  subst hv ht
  have h2 : (i * j).natAbs ≤ C := Nat.le_trans (own_abs_mul a.2 b.2) hC
  refine ⟨?_, h2⟩
  show Whole _ (own_sh ((k + r : Nat) : Int) (val64 (Core.dmul x y)))
  rw [val64_dmul]
  refine own_round hk (by omega) ?_
  rw [Int.natCast_add, ← own_sh_prod]; exact whole_product a.1 b.1
theorem own_D.neg (a : own_D k A i x) (hv : FP.dneg x = v) : own_D k A (-i) v := by
  subst hv
  refine ⟨?_, by have := a.2; omega⟩
  rw [FP.val64_dneg, ← own_sh_neg]; exact whole_negate a.1
theorem own_whole_up {i : Int} {d : Datum} (r : Nat) (h : Whole i d) : Whole (i * ((2 ^ r : Nat) : Int)) (own_sh r d) := by
  cases d with
  | nan => exact h.elim
  | inf => exact h.elim
  | fin s c q =>
    have h1 : signed s (c * 2 ^ q.toNat) = i * ((2 ^ (-q).toNat : Nat) : Int) := h
    show signed s (c * 2 ^ (q + r).toNat) = i * ((2 ^ r : Nat) : Int) * ((2 ^ (-(q + r)).toNat : Nat) : Int)
    have p2 : ((2 ^ (-q).toNat : Nat) : Int) ≠ 0 := by
      have := Nat.two_pow_pos (-q).toNat; omega
    refine Int.eq_of_mul_eq_mul_right p2 ?_
    have e : (q + r).toNat + (-q).toNat = q.toNat + r + (-(q + r)).toNat := by omega
    calc signed s (c * 2 ^ (q + r).toNat) * ((2 ^ (-q).toNat : Nat) : Int)
        = signed s (c * 2 ^ ((q + r).toNat + (-q).toNat)) := by rw [← signed_mul, Nat.mul_assoc, ← Nat.pow_add]
      _ = signed s (c * 2 ^ q.toNat * 2 ^ r * 2 ^ (-(q + r)).toNat) := by rw [e, Nat.pow_add, Nat.pow_add]; congr 1; ac_rfl
      _ = i * ((2 ^ (-q).toNat : Nat) : Int) * ((2 ^ r : Nat) : Int) * ((2 ^ (-(q + r)).toNat : Nat) : Int) := by rw [signed_mul, signed_mul, h1]
      _ = _ := by ac_rfl
theorem own_D.up (a : own_D k A i x) {P : Nat} (hP : 2 ^ r = P) (ht : k + r = t) (hC : A * P ≤ C) : own_D t C (i * (P : Int)) x := by
  subst hP ht
  refine ⟨?_, Nat.le_trans (own_abs_mul a.2 (Nat.le_of_eq (Int.natAbs_natCast _))) hC⟩
  rw [Int.natCast_add, ← own_sh_sh]; exact own_whole_up r a.1
theorem own_D.dcmp (a : own_D k A i x) (b : own_D k B j y) : FP.dcmp x y = some (compare i j) := by
  show order (val64 x) (val64 y) = _
  rw [← own_sh_order k]; exact order_whole a.1 b.1
end
def own_c3 (i j : Int) : Int32 := if i < j then -1 else if i = j then 0 else 1
theorem own_c3_cmp (i j : Int) (o : CmpOp) : cmpValue (some (compare i j)) o = own_c3 i j := by
  unfold own_c3
  by_cases h : i < j
  · rw [if_pos h, show compare i j = .lt from Int.compare_eq_lt.mpr h]; rfl
  · rw [if_neg h]
    by_cases h2 : i = j
    · rw [if_pos h2, show compare i j = .eq from Int.compare_eq_eq.mpr h2]; rfl
    · rw [if_neg h2, show compare i j = .gt from Int.compare_eq_gt.mpr (by omega)]; rfl
theorem own_D.cmp {k A B : Nat} {i j : Int} {x y : UInt64} (a : own_D k A i x) (b : own_D k B j y) {o : CmpOp} : cmpValue (FP.dcmp x y) o = own_c3 i j := by
  rw [a.dcmp b]; exact own_c3_cmp i j o
theorem own_c3_eq {i j : Int} (h : i = j) : ifCond.holds .eq (own_c3 i j) = true ∧ ifCond.holds .ne (own_c3 i j) = false := by
  subst h; unfold own_c3; simp [ifCond.holds]
theorem own_c3_ne {i j : Int} (h : ¬ i = j) : ifCond.holds .eq (own_c3 i j) = false ∧ ifCond.holds .ne (own_c3 i j) = true := by
  unfold own_c3; by_cases q : i < j <;> simp [q, h, ifCond.holds]
theorem own_c3_lt {i j : Int} (h : i < j) : ifCond.holds .lt (own_c3 i j) = true ∧ ifCond.holds .ge (own_c3 i j) = false := by
  unfold own_c3; simp [h]; decide
theorem own_c3_nlt {i j : Int} (h : ¬ i < j) : ifCond.holds .lt (own_c3 i j) = false ∧ ifCond.holds .ge (own_c3 i j) = true := by
  unfold own_c3; rw [if_neg h]; by_cases q : i = j
  · rw [if_pos q]; decide
  · rw [if_neg q]; decide
theorem own_c3_gt {i j : Int} (h : j < i) : ifCond.holds .gt (own_c3 i j) = true ∧ ifCond.holds .le (own_c3 i j) = false := by
  unfold own_c3; rw [if_neg (by omega), if_neg (by omega)]; decide
theorem own_c3_ngt {i j : Int} (h : ¬ j < i) : ifCond.holds .gt (own_c3 i j) = false ∧ ifCond.holds .le (own_c3 i j) = true := by
  unfold own_c3; by_cases q : i < j
  · rw [if_pos q]; decide
  · rw [if_neg q, if_pos (by omega)]; decide
/-- the branches on ints, by what is known of them -/
theorem own_i_eq {x y : Int32} (h : x = y) : if_icmp.holds .eq x y = true ∧ if_icmp.holds .ne x y = false := teq h
theorem own_i_ne {x y : Int32} (h : ¬ x = y) : if_icmp.holds .eq x y = false ∧ if_icmp.holds .ne x y = true := feq h
theorem own_i_lt {x y : Int32} (h : x < y) : if_icmp.holds .lt x y = true ∧ if_icmp.holds .ge x y = false := ⟨(tlt h).1, (tlt h).2.1⟩
theorem own_i_nlt {x y : Int32} (h : ¬ x < y) : if_icmp.holds .lt x y = false ∧ if_icmp.holds .ge x y = true := ⟨(flt h).1, (flt h).2.1⟩
theorem own_i_gt {x y : Int32} (h : y < x) : if_icmp.holds .gt x y = true ∧ if_icmp.holds .le x y = false := ⟨(tlt h).2.2.1, (tlt h).2.2.2⟩
theorem own_i_ngt {x y : Int32} (h : ¬ y < x) : if_icmp.holds .gt x y = false ∧ if_icmp.holds .le x y = true := ⟨(flt h).2.2.1, (flt h).2.2.2⟩
theorem own_z_eq {x : Int32} (h : x = 0) : ifCond.holds .eq x = true ∧ ifCond.holds .ne x = false := by rw [if0, if0]; exact teq h
theorem own_z_ne {x : Int32} (h : ¬ x = 0) : ifCond.holds .eq x = false ∧ ifCond.holds .ne x = true := by rw [if0, if0]; exact feq h
theorem own_z_lt {x : Int32} (h : x < 0) : ifCond.holds .lt x = true ∧ ifCond.holds .ge x = false := by rw [if0, if0]; exact own_i_lt h
theorem own_z_nlt {x : Int32} (h : ¬ x < 0) : ifCond.holds .lt x = false ∧ ifCond.holds .ge x = true := by rw [if0, if0]; exact own_i_nlt h
theorem own_z_gt {x : Int32} (h : 0 < x) : ifCond.holds .gt x = true ∧ ifCond.holds .le x = false := by rw [if0, if0]; exact own_i_gt h
theorem own_z_ngt {x : Int32} (h : ¬ 0 < x) : ifCond.holds .gt x = false ∧ ifCond.holds .le x = true := by rw [if0, if0]; exact own_i_ngt h
theorem own_cases2 {v : Int32} (h : 0 ≤ v.toInt ∧ v.toInt ≤ ((1 : Nat) : Int)) : v = (0 : Int32) ∨ v = (1 : Int32) := by
  have : v.toInt = 0 ∨ v.toInt = 1 := by omega
  rcases this with q | q
  · exact Or.inl (Int32.toInt_inj.mp q)
  · exact Or.inr (Int32.toInt_inj.mp q)
theorem own_cases4 {v : Int32} (h : 0 ≤ v.toInt ∧ v.toInt ≤ ((3 : Nat) : Int)) : v = (0 : Int32) ∨ v = (1 : Int32) ∨ v = (2 : Int32) ∨ v = (3 : Int32) := by
  have : v.toInt = 0 ∨ v.toInt = 1 ∨ v.toInt = 2 ∨ v.toInt = 3 := by omega
  rcases this with q | q | q | q
  · exact Or.inl (Int32.toInt_inj.mp q)
  · exact Or.inr (Or.inl (Int32.toInt_inj.mp q))
  · exact Or.inr (Or.inr (Or.inl (Int32.toInt_inj.mp q)))
  · exact Or.inr (Or.inr (Or.inr (Int32.toInt_inj.mp q)))
theorem own_cases16 {v : Int32} (h : 0 ≤ v.toInt ∧ v.toInt ≤ ((15 : Nat) : Int)) : v = (0 : Int32) ∨ v = (1 : Int32) ∨ v = (2 : Int32) ∨ v = (3 : Int32) ∨ v = (4 : Int32) ∨ v = (5 : Int32) ∨ v = (6 : Int32) ∨ v = (7 : Int32) ∨ v = (8 : Int32) ∨ v = (9 : Int32) ∨ v = (10 : Int32) ∨ v = (11 : Int32) ∨ v = (12 : Int32) ∨ v = (13 : Int32) ∨ v = (14 : Int32) ∨ v = (15 : Int32) := by
  have : v.toInt = 0 ∨ v.toInt = 1 ∨ v.toInt = 2 ∨ v.toInt = 3 ∨ v.toInt = 4 ∨ v.toInt = 5 ∨ v.toInt = 6 ∨ v.toInt = 7 ∨ v.toInt = 8 ∨ v.toInt = 9 ∨ v.toInt = 10 ∨ v.toInt = 11 ∨ v.toInt = 12 ∨ v.toInt = 13 ∨ v.toInt = 14 ∨ v.toInt = 15 := by omega
  rcases this with q | q | q | q | q | q | q | q | q | q | q | q | q | q | q | q
  · exact Or.inl (Int32.toInt_inj.mp q)
  · exact Or.inr (Or.inl (Int32.toInt_inj.mp q))
  · exact Or.inr (Or.inr (Or.inl (Int32.toInt_inj.mp q)))
  · exact Or.inr (Or.inr (Or.inr (Or.inl (Int32.toInt_inj.mp q))))
  · exact Or.inr (Or.inr (Or.inr (Or.inr (Or.inl (Int32.toInt_inj.mp q)))))
  · exact Or.inr (Or.inr (Or.inr (Or.inr (Or.inr (Or.inl (Int32.toInt_inj.mp q))))))
  · exact Or.inr (Or.inr (Or.inr (Or.inr (Or.inr (Or.inr (Or.inl (Int32.toInt_inj.mp q)))))))
  · exact Or.inr (Or.inr (Or.inr (Or.inr (Or.inr (Or.inr (Or.inr (Or.inl (Int32.toInt_inj.mp q))))))))
  · exact Or.inr (Or.inr (Or.inr (Or.inr (Or.inr (Or.inr (Or.inr (Or.inr (Or.inl (Int32.toInt_inj.mp q)))))))))
  · exact Or.inr (Or.inr (Or.inr (Or.inr (Or.inr (Or.inr (Or.inr (Or.inr (Or.inr (Or.inl (Int32.toInt_inj.mp q))))))))))
  · exact Or.inr (Or.inr (Or.inr (Or.inr (Or.inr (Or.inr (Or.inr (Or.inr (Or.inr (Or.inr (Or.inl (Int32.toInt_inj.mp q)))))))))))
  · exact Or.inr (Or.inr (Or.inr (Or.inr (Or.inr (Or.inr (Or.inr (Or.inr (Or.inr (Or.inr (Or.inr (Or.inl (Int32.toInt_inj.mp q))))))))))))
  · exact Or.inr (Or.inr (Or.inr (Or.inr (Or.inr (Or.inr (Or.inr (Or.inr (Or.inr (Or.inr (Or.inr (Or.inr (Or.inl (Int32.toInt_inj.mp q)))))))))))))
  · exact Or.inr (Or.inr (Or.inr (Or.inr (Or.inr (Or.inr (Or.inr (Or.inr (Or.inr (Or.inr (Or.inr (Or.inr (Or.inr (Or.inl (Int32.toInt_inj.mp q))))))))))))))
  · exact Or.inr (Or.inr (Or.inr (Or.inr (Or.inr (Or.inr (Or.inr (Or.inr (Or.inr (Or.inr (Or.inr (Or.inr (Or.inr (Or.inr (Or.inl (Int32.toInt_inj.mp q)))))))))))))))
  · exact Or.inr (Or.inr (Or.inr (Or.inr (Or.inr (Or.inr (Or.inr (Or.inr (Or.inr (Or.inr (Or.inr (Or.inr (Or.inr (Or.inr (Or.inr (Int32.toInt_inj.mp q)))))))))))))))
/-- lcmp as a comparison of whole numbers -/
theorem own_lcmp_c3 (x y : Int64) : XT.cmpL x y = own_c3 x.toInt y.toInt := by
  unfold XT.cmpL own_c3
  simp only [Int64.lt_iff_toInt_lt, ← Int64.toInt_inj]
  by_cases h : x.toInt < y.toInt
  · simp [h, show ¬ y.toInt < x.toInt by omega, show ¬ x.toInt = y.toInt by omega]
  · by_cases h2 : x.toInt = y.toInt
    · simp [h2]
    · simp [h, h2, show y.toInt < x.toInt by omega]
theorem own_L.cmp {A B : Nat} {i j : Int} {x y : Int64} (a : own_L A i x) (b : own_L B j y) : XT.cmpL x y = own_c3 i j := by
  rw [own_lcmp_c3, a.1, b.1]
end OwnNum
section OwnDiv
open Jvm.FP Jvm.FP.Core
theorem own_quotient {s t : Bool} {c d : Nat} {q r : Int} (hd : d ≠ 0) : quotient b64 (.fin s c q) (.fin t d r) = roundRatio b64 (s != t) c d (q - r) := by
  show (if d = 0 then _ else _) = _
  rw [if_neg hd]
/-- the quotient of i * 2^-k and j is the rounded |i| / |j| * 2^-k -/
theorem own_quot {k A B : Nat} {i j : Int} {x z v : UInt64} (a : own_D k A i x) (b : own_D 0 B j z) (hj : j ≠ 0) (hv : FP.ddiv x z = v) :
    ∃ sg : Bool, val64 v = roundRatio b64 sg i.natAbs j.natAbs (-(k : Int)) ∧ (i ≠ 0 → sg = (decide (i < 0) != decide (j < 0))) := by
  subst hv
  obtain ⟨s, c, q, e1⟩ := a.fin
  obtain ⟨t, d, r, e2⟩ := b.fin
  have w1 : Whole i (.fin s c (q + k)) := by have := a.1; rw [e1] at this; exact this
  have w2 : Whole j (.fin t d r) := by have := b.1; rw [e2, show ((0 : Nat) : Int) = 0 from rfl, own_sh_zero] at this; exact this
  have hd : d ≠ 0 := fun h => hj ((whole_zero w2).mp h)
  refine ⟨s != t, ?_, fun hi => by rw [whole_sign w1 hi, whole_sign w2 hj]⟩
  show val64 (Core.ddiv x z) = _
  rw [val64_ddiv, e1, e2]
  show (if d = 0 then _ else roundRatio b64 (s != t) c d (q - r)) = _
  rw [if_neg hd]
  refine roundRatio_congr (by omega) (by omega) ?_
  have h1 : c * 2 ^ (q + k).toNat = i.natAbs * 2 ^ (-(q + k)).toNat := whole_natAbs w1
  have h2 : d * 2 ^ r.toNat = j.natAbs * 2 ^ (-r).toNat := whole_natAbs w2
  generalize i.natAbs = I at *
  generalize j.natAbs = J at *
  refine Nat.eq_of_mul_eq_mul_right (Nat.two_pow_pos ((-r).toNat + (q + k).toNat)) ?_
  have x1 : c * J * 2 ^ (q - r - -(k : Int)).toNat * 2 ^ ((-r).toNat + (q + k).toNat) = (c * 2 ^ (q + k).toNat) * (J * 2 ^ (-r).toNat) * 2 ^ (q - r - -(k : Int)).toNat := by rw [Nat.pow_add]; ac_rfl
  have x2 : I * d * 2 ^ (-(k : Int) - (q - r)).toNat * 2 ^ ((-r).toNat + (q + k).toNat) = I * d * 2 ^ ((-(q + k)).toNat + r.toNat + (q - r - -(k : Int)).toNat) := by rw [Nat.mul_assoc (I * d), ← Nat.pow_add]; congr 2; omega
  rw [x1, x2, h1, ← h2, Nat.pow_add, Nat.pow_add]; ac_rfl
theorem own_quot_nn {k A B : Nat} {i j : Int} {x z v : UInt64} (a : own_D k A i x) (b : own_D 0 B j z) (hj : j ≠ 0) (hv : FP.ddiv x z = v) : Jvm.Free.Fl.NoNaN64 v := by
  obtain ⟨sg, e, -⟩ := own_quot a b hj hv
  exact Jvm.Free.Fl.val64_no.mpr (by rw [e]; exact roundRatio_ne_nan _ _ _ _ _)
theorem own_round_zero (sg : Bool) (d : Nat) (e : Int) : roundRatio b64 sg 0 d e = .fin sg 0 b64.qmin := by unfold roundRatio; rw [if_pos rfl]
/-- two quotients of equal whole numbers compare as equal -/
theorem own_quot_eq {k A B A' B' : Nat} {i j : Int} {x y z w v u : UInt64} (a : own_D k A i x) (b : own_D 0 B j z) (a' : own_D k A' i y) (b' : own_D 0 B' j w) (hj : j ≠ 0) (hv : FP.ddiv x z = v) (hu : FP.ddiv y w = u) : FP.dcmp v u = some .eq := by
  obtain ⟨s1, e1, f1⟩ := own_quot a b hj hv
  obtain ⟨s2, e2, f2⟩ := own_quot a' b' hj hu
  by_cases hi : i = 0
  · subst hi
    have d1 := own_D.zero (x := v) (s := s1) (by rw [e1]; exact own_round_zero ..) 0
    have d2 := own_D.zero (x := u) (s := s2) (by rw [e2]; exact own_round_zero ..) 0
    rw [d1.dcmp d2]; rfl
  · have e3 : s1 = s2 := (f1 hi).trans (f2 hi).symm
    subst e3
    have e4 : v = u := val64_inj (by rw [e1]; exact roundRatio_ne_nan _ _ _ _ _) (e1.trans e2.symm)
    subst e4
    exact dcmp_self (by rw [e1]; exact roundRatio_ne_nan _ _ _ _ _)
theorem own_quot_cmp {k A B A' B' : Nat} {i j : Int} {x y z w v u : UInt64} (a : own_D k A i x) (b : own_D 0 B j z) (a' : own_D k A' i y) (b' : own_D 0 B' j w) (hj : j ≠ 0) (hv : FP.ddiv x z = v) (hu : FP.ddiv y w = u) {o : CmpOp} : cmpValue (FP.dcmp v u) o = 0 := by
  rw [own_quot_eq a b a' b' hj hv hu]; rfl
theorem own_D.of_eq {k A : Nat} {i j : Int} {x : UInt64} (a : own_D k A i x) (h : i = j) : own_D k A j x := h ▸ a
/-- a quotient by a power of two is exact -/
theorem own_D.divp {k r t A B P : Nat} {i : Int} {x z v : UInt64} (a : own_D k A i x) (b : own_D 0 B (P : Int) z) (hP : P = 2 ^ r) (hv : FP.ddiv x z = v) (hA : A < 9007199254740992) (ht : k + r = t) (hk : t ≤ 1074) : own_D t A i v := by
  subst ht
  have p := Nat.two_pow_pos r
  have hj : (P : Int) ≠ 0 := by omega
  obtain ⟨sg, e, f⟩ := own_quot a b hj hv
  refine ⟨?_, a.2⟩
  have e2 : roundRatio b64 sg i.natAbs ((P : Int)).natAbs (-(k : Int)) = roundRatio b64 sg i.natAbs 1 (-((k + r : Nat) : Int)) := by
    refine roundRatio_congr (by omega) (by decide) ?_
    rw [Int.natAbs_natCast, hP, show (-(k : Int) - -((k + r : Nat) : Int)).toNat = r by omega, show (-((k + r : Nat) : Int) - -(k : Int)).toNat = 0 by omega]
    simp
  rw [e, e2]
  refine own_round_core (c := 0) (q := 0) hk (by have := a.2; omega) fun hi => ?_
  rw [f hi, show decide ((P : Int) < 0) = false by simp]
  cases decide (i < 0) <;> rfl
theorem own_ushr_nn {x q v : Int32} {k : Nat} (hv : XT.ushr x q = v) (hk : q.toBitVec.toNat % 32 = k) (h0 : 0 < k) : 0 ≤ v.toInt := by
  subst hv
  have := c_iushr x q k hk h0
  show 0 ≤ ((x.toUInt32 >>> (q &&& 31).toUInt32).toInt32).toInt
  rw [this]
  exact Int.ediv_nonneg (Int.emod_nonneg _ (by decide)) (Int.natCast_nonneg _)
theorem own_irem_bd {x y v : Int32} {d : Int} (hv : x % y = v) (hx : 0 ≤ x.toInt) (hy : y.toInt = d) (hd : 0 < d) : 0 ≤ v.toInt ∧ v.toInt < d := by
  subst hv
  rw [(c_irem x y d hy).1 hx]
  exact ⟨Int.emod_nonneg _ (by omega), Int.emod_lt_of_pos _ hd⟩
end OwnDiv
section OwnRnd
open Jvm.FP Jvm.FP.Core
/-- one rounding, in units of 2^e0: half a unit of the last of 53 digits, or of the least unit -/
theorem own_rr {s : Bool} {A B : Nat} {e e0 : Int} (hA : 0 < A) (hB : 0 < B) (h0 : e0 ≤ e) (h1 : e0 ≤ b64.qmin)
    (hT : A * 2 ^ (e - e0).toNat < B * 2 ^ (2000 + (b64.qmin - e0).toNat)) :
    ∃ c q, roundRatio b64 s A B e = .fin s c q ∧ b64.qmin ≤ q ∧
      ((((c * 2 ^ (q - e0).toNat * B : Nat) : Int) - ((A * 2 ^ (e - e0).toNat : Nat) : Int)).natAbs * (2 * 2 ^ 52) ≤ A * 2 ^ (e - e0).toNat ∨
       (((c * 2 ^ (q - e0).toNat * B : Nat) : Int) - ((A * 2 ^ (e - e0).toNat : Nat) : Int)).natAbs * 2 ≤ B * 2 ^ (b64.qmin - e0).toNat ∧ A * 2 ^ (e - e0).toNat < 2 ^ 52 * (B * 2 ^ (b64.qmin - e0).toNat)) := by
  obtain ⟨qn, hqn⟩ : ∃ q, quantum b64 A B e = q := ⟨_, rfl⟩
  have g1 : b64.qmin ≤ qn := hqn ▸ quantum_ge ..
  have g2 := quantum_not_below (f := b64) hA hB e
  rw [hqn] at g2
  obtain ⟨n, hn⟩ : ∃ n, nearest (unitsNum A e qn) (unitsDen B e qn) = n := ⟨_, rfl⟩
  have hud : 0 < unitsDen B e qn := unitsDen_pos hB ..
  have ns := nearest_spec (unitsNum A e qn) (unitsDen B e qn) hud
  have nle : n ≤ 2 ^ 53 := by rw [← hn, ← hqn]; exact nearest_units_le hA hB e
  rw [hn] at ns
  obtain ⟨ns1, ns2, -⟩ := ns
  -- the upper end
  have hq : qn ≤ 969 := by
    have hb : Below A B (((2000 + (b64.qmin - e0).toNat : Nat) : Int) - ((e - e0).toNat : Nat)) := (below_iff _ _ _ _).mpr hT
    have := lt_of_below (leading_spec hA hB).1 hb
    have e1 : qn = max b64.qmin (leading A B + e - 52) := hqn.symm
    have e2 : b64.qmin = -1074 := rfl
    rw [e2] at e1 this h1
    omega
  have hr : roundRatio b64 s A B e = settle b64 s n qn := by
    unfold roundRatio roundAt
    rw [if_neg (by omega), hqn, hn]
  -- the value
  have hv : ∃ c q, settle b64 s n qn = .fin s c q ∧ b64.qmin ≤ q ∧ c * 2 ^ (q - e0).toNat = n * 2 ^ (qn - e0).toNat := by
    unfold settle bound
    by_cases hlt : n < 2 ^ b64.p
    · rw [if_pos hlt, if_pos (show qn ≤ b64.qmax from (show qn ≤ (971 : Int) by omega))]
      exact ⟨_, _, rfl, g1, rfl⟩
    · rw [if_neg hlt, if_pos (show qn + 1 ≤ b64.qmax from (show qn + 1 ≤ (971 : Int) by omega))]
      refine ⟨_, _, rfl, by omega, ?_⟩
      have hn2 : n = 2 ^ 53 := Nat.le_antisymm nle (Nat.le_of_not_lt hlt)
      rw [hn2, show b64.tails = 2 ^ 52 from rfl, ← Nat.pow_add, ← Nat.pow_add]
      congr 1; omega
  obtain ⟨c, q, v1, v2, v3⟩ := hv
  refine ⟨c, q, hr.trans v1, v2, ?_⟩
  rw [v3]
  -- in the units of the rounding
  have k1 : unitsNum A e qn * 2 ^ (qn - e0).toNat = A * 2 ^ (e - e0).toNat * 2 ^ (qn - e).toNat := by
    unfold unitsNum; rw [Nat.mul_assoc, Nat.mul_assoc, ← Nat.pow_add, ← Nat.pow_add]; congr 2; omega
  have k2 : n * unitsDen B e qn * 2 ^ (qn - e0).toNat = n * 2 ^ (qn - e0).toNat * B * 2 ^ (qn - e).toNat := by
    unfold unitsDen; ac_rfl
  have k3 : unitsDen B e qn * 2 ^ (qn - e0).toNat = B * 2 ^ (qn - e0).toNat * 2 ^ (qn - e).toNat := by
    unfold unitsDen; ac_rfl
  have pw : 0 < 2 ^ (qn - e).toNat := Nat.two_pow_pos _
  have pz : 0 < 2 ^ (qn - e0).toNat := Nat.two_pow_pos _
  generalize A * 2 ^ (e - e0).toNat = V at *
  -- |n 2^.. B - V| 2 ≤ B 2^(qn - e0)
  have m1 : 2 * V ≤ (2 * (n * 2 ^ (qn - e0).toNat)) * B + B * 2 ^ (qn - e0).toNat := by
    refine Nat.le_of_mul_le_mul_right ?_ pw
    have := Nat.mul_le_mul_right (2 ^ (qn - e0).toNat) ns1
    have t1 : 2 * unitsNum A e qn * 2 ^ (qn - e0).toNat = 2 * V * 2 ^ (qn - e).toNat := by rw [Nat.mul_assoc, k1, Nat.mul_assoc]
    have t2 : (2 * n + 1) * unitsDen B e qn * 2 ^ (qn - e0).toNat = ((2 * (n * 2 ^ (qn - e0).toNat)) * B + B * 2 ^ (qn - e0).toNat) * 2 ^ (qn - e).toNat := by
      rw [Nat.add_mul, Nat.add_mul, Nat.one_mul, k3, Nat.add_mul, Nat.mul_assoc 2 n, Nat.mul_assoc 2, k2]; congr 1; ac_rfl
    omega
  have m2 : (2 * (n * 2 ^ (qn - e0).toNat)) * B ≤ 2 * V + B * 2 ^ (qn - e0).toNat := by
    refine Nat.le_of_mul_le_mul_right ?_ pw
    have := Nat.mul_le_mul_right (2 ^ (qn - e0).toNat) ns2
    have t1 : (2 * unitsNum A e qn + unitsDen B e qn) * 2 ^ (qn - e0).toNat = (2 * V + B * 2 ^ (qn - e0).toNat) * 2 ^ (qn - e).toNat := by
      rw [Nat.add_mul, Nat.mul_assoc, k1, k3, Nat.add_mul]; congr 1; ac_rfl
    have t2 : 2 * n * unitsDen B e qn * 2 ^ (qn - e0).toNat = (2 * (n * 2 ^ (qn - e0).toNat)) * B * 2 ^ (qn - e).toNat := by
      rw [Nat.mul_assoc 2 n, Nat.mul_assoc 2, k2]; ac_rfl
    omega
  have mm : (((n * 2 ^ (qn - e0).toNat * B : Nat) : Int) - ((V : Nat) : Int)).natAbs * 2 ≤ B * 2 ^ (qn - e0).toNat := by
    have : 2 * (n * 2 ^ (qn - e0).toNat) * B = 2 * (n * 2 ^ (qn - e0).toNat * B) := by ac_rfl
    rw [this] at m1 m2
    generalize n * 2 ^ (qn - e0).toNat * B = W at *
    generalize B * 2 ^ (qn - e0).toNat = X at *
    omega
  -- the digits
  have big : qn = b64.qmin ∨ 2 ^ 52 * (B * 2 ^ (qn - e0).toNat) ≤ V := by
    rcases g2 with g | g
    · exact Or.inl g
    · right
      have g' : ¬ unitsNum A e qn < 2 ^ 52 * unitsDen B e qn := fun z => g (by have := (units_below A B e qn 52).mp z; exact this)
      refine Nat.le_of_mul_le_mul_right ?_ pw
      have := Nat.mul_le_mul_right (2 ^ (qn - e0).toNat) (Nat.le_of_not_lt g')
      rw [k1, Nat.mul_assoc, k3] at this
      calc 2 ^ 52 * (B * 2 ^ (qn - e0).toNat) * 2 ^ (qn - e).toNat = 2 ^ 52 * (B * 2 ^ (qn - e0).toNat * 2 ^ (qn - e).toNat) := by ac_rfl
        _ ≤ _ := this
  by_cases hbig : 2 ^ 52 * (B * 2 ^ (qn - e0).toNat) ≤ V
  · left
    generalize (((n * 2 ^ (qn - e0).toNat * B : Nat) : Int) - ((V : Nat) : Int)).natAbs = D at *
    generalize B * 2 ^ (qn - e0).toNat = X at *
    omega
  · right
    have hqq : qn = b64.qmin := big.resolve_right hbig
    rw [hqq] at mm hbig ⊢
    exact ⟨mm, Nat.lt_of_not_le hbig⟩
/-- a finite double, counted in units of 2^-1074 -/
def own_Z (z : Int) (x : UInt64) : Prop := (∃ s c q, val64 x = .fin s c q) ∧ zval b64 (val64 x) = z
theorem own_Z.nn {z : Int} {x : UInt64} (a : own_Z z x) : Jvm.Free.Fl.NoNaN64 x := by
  obtain ⟨⟨s, c, q, e⟩, -⟩ := a
  exact Jvm.Free.Fl.val64_no.mpr (by rw [e]; exact Datum.noConfusion)
theorem own_Z.ex {z : Int} {x : UInt64} (a : own_Z z x) : ∃ s c q, val64 x = .fin s c q ∧ b64.qmin ≤ q ∧ signed s (c * 2 ^ (q - b64.qmin).toNat) = z := by
  obtain ⟨⟨s, c, q, e⟩, h⟩ := a
  have hf : Core.fits b64 (.fin s c q) := by rw [← e]; exact val64_fits _
  rw [e] at h
  exact ⟨s, c, q, e, hf.2.1, h⟩
theorem own_Z.cmp {z w : Int} {x y : UInt64} (a : own_Z z x) (b : own_Z w y) {o : CmpOp} : cmpValue (FP.dcmp x y) o = own_c3 z w := by
  have e : FP.dcmp x y = some (compare z w) := by
    obtain ⟨⟨s, c, q, e1⟩, h1⟩ := a
    obtain ⟨⟨t, d, r, e2⟩, h2⟩ := b
    have := order_zval good_b64 (val64_fits x) (val64_fits y) (by rw [e1]; exact Datum.noConfusion) (by rw [e2]; exact Datum.noConfusion)
    rw [h1, h2] at this
    exact this
  rw [e]; exact own_c3_cmp z w o
theorem own_signed_sub (s : Bool) (R V : Nat) : (signed s R - signed s V).natAbs = ((R : Int) - (V : Int)).natAbs := by
  cases s <;> simp only [signed] <;> simp <;> omega
theorem own_signed_abs {s : Bool} {V : Nat} {a : Int} (h : signed s V = a) : a.natAbs = V := by rw [← h]; exact natAbs_signed s V
/-- the sum -/
theorem own_Zadd {a b : Int} {x y v : UInt64} (ha : own_Z a x) (hb : own_Z b y) (hv : FP.dadd x y = v) (hT : (a + b).natAbs < 2 ^ 2000) : ∃ z, own_Z z v ∧ (z - (a + b)).natAbs * (2 * 2 ^ 52) ≤ (a + b).natAbs := by
  subst hv
  obtain ⟨s, c, q, e1, q1, h1⟩ := ha.ex
  obtain ⟨t, d, r, e2, r1, h2⟩ := hb.ex
  obtain ⟨mq, hmq⟩ : ∃ m, m = b64.qmin := ⟨_, rfl⟩
  obtain ⟨u, hu⟩ : ∃ u, sumUnits s c q t d r (min q r) = u := ⟨_, rfl⟩
  have hm : mq ≤ min q r := by omega
  have hs : a + b = u * ((2 ^ (min q r - mq).toNat : Nat) : Int) := by
    rw [← hu, ← h1, ← h2, ← hmq]
    unfold sumUnits inUnits
    rw [Int.add_mul, ← signed_mul, ← signed_mul, Nat.mul_assoc, Nat.mul_assoc, ← Nat.pow_add, ← Nat.pow_add]
    congr 4 <;> omega
  have hV : (a + b).natAbs = u.natAbs * 2 ^ (min q r - mq).toNat := by rw [hs, Int.natAbs_mul, Int.natAbs_natCast]
  have ev : val64 (FP.dadd x y) = roundRatio b64 (sumSign s t u) u.natAbs 1 (min q r) := by
    rw [show val64 (FP.dadd x y) = round b64 (exactSum (val64 x) (val64 y)) from val64_dadd _ _, e1, e2, ← hu]; rfl
  by_cases h0 : u = 0
  · refine ⟨0, ⟨⟨sumSign s t u, 0, b64.qmin, by rw [ev, h0]; exact own_round_zero ..⟩, ?_⟩, ?_⟩
    · rw [ev, h0, show (0 : Int).natAbs = 0 from rfl, own_round_zero]
      show signed _ (0 * _) = 0
      rw [Nat.zero_mul, signed_zero]
    · rw [hs, h0, Int.zero_mul]; simp
  · obtain ⟨c', q', f1, f2, f3⟩ := own_rr (s := sumSign s t u) (A := u.natAbs) (B := 1) (e := min q r) (e0 := mq) (by omega) (by decide) hm (by omega) (by
      rw [← hV, Nat.one_mul, hmq, Int.sub_self]; exact hT)
    rw [← hV, Nat.mul_one, Nat.one_mul, hmq, Int.sub_self, show (0 : Int).toNat = 0 from rfl, Nat.pow_zero] at f3
    refine ⟨signed (sumSign s t u) (c' * 2 ^ (q' - b64.qmin).toNat), ⟨⟨_, c', q', ev.trans f1⟩, by rw [ev, f1]; rfl⟩, ?_⟩
    have hsg : signed (sumSign s t u) (a + b).natAbs = a + b := by
      rw [hV, signed_mul, signed_sumSign, ← hs]
    have e5 : (signed (sumSign s t u) (c' * 2 ^ (q' - b64.qmin).toNat) - (a + b)).natAbs = (((c' * 2 ^ (q' - b64.qmin).toNat : Nat) : Int) - ((a + b).natAbs : Int)).natAbs := by
      have := own_signed_sub (sumSign s t u) (c' * 2 ^ (q' - b64.qmin).toNat) (a + b).natAbs
      rwa [hsg] at this
    rw [e5]
    rcases f3 with f | ⟨f, -⟩
    · exact f
    · generalize (((c' * 2 ^ (q' - b64.qmin).toNat : Nat) : Int) - ((a + b).natAbs : Int)).natAbs = D at f
      have : D = 0 := by omega
      rw [this, Nat.zero_mul]; exact Nat.zero_le _
theorem own_Z.neg {a : Int} {x : UInt64} (ha : own_Z a x) : own_Z (-a) (Core.dneg x) := by
  obtain ⟨⟨s, c, q, e⟩, h⟩ := ha
  refine ⟨⟨!s, c, q, by rw [Core.val64_dneg, e]; rfl⟩, ?_⟩
  rw [Core.val64_dneg, zval_negate, h]
theorem own_Zsub {a b : Int} {x y v : UInt64} (ha : own_Z a x) (hb : own_Z b y) (hv : FP.dsub x y = v) (hT : (a - b).natAbs < 2 ^ 2000) : ∃ z, own_Z z v ∧ (z - (a - b)).natAbs * (2 * 2 ^ 52) ≤ (a - b).natAbs := by
  have e : a - b = a + -b := by omega
  rw [e] at hT ⊢
  exact own_Zadd ha hb.neg ((dsub_eq x y).symm.trans hv) hT
/-- the product -/
theorem own_Zmul {U : Nat} (hU : U = 2 ^ (0 - b64.qmin).toNat) {a b : Int} {x y v : UInt64} (ha : own_Z a x) (hb : own_Z b y) (hv : FP.dmul x y = v) (hT : (a * b).natAbs < 2 ^ 2000 * U) :
    ∃ z, own_Z z v ∧ (z * U - a * b).natAbs * (2 * 2 ^ 52) ≤ (a * b).natAbs + 2 ^ 52 * U ∧ (a * b = 0 ∨ 2 ^ 52 * U ≤ (a * b).natAbs → (z * U - a * b).natAbs * (2 * 2 ^ 52) ≤ (a * b).natAbs) := by
  subst hv
  obtain ⟨s, c, q, e1, q1, h1⟩ := ha.ex
  obtain ⟨t, d, r, e2, r1, h2⟩ := hb.ex
  obtain ⟨mq, hmq⟩ : ∃ m, m = b64.qmin := ⟨_, rfl⟩
  have hneg : mq ≤ 0 := by rw [hmq]; decide
  rw [← hmq] at hU h1 h2 q1 r1
  have hab : a * b = signed (s != t) (c * d * 2 ^ (q + r - (mq + mq)).toNat) := by
    rw [← h1, ← h2, ← signed_xor]; congr 1
    have : 2 ^ (q + r - (mq + mq)).toNat = 2 ^ (q - mq).toNat * 2 ^ (r - mq).toNat := by rw [← Nat.pow_add]; congr 1; omega
    rw [this]; ac_rfl
  have hV : (a * b).natAbs = c * d * 2 ^ (q + r - (mq + mq)).toNat := own_signed_abs hab.symm
  have ev : val64 (FP.dmul x y) = roundRatio b64 (s != t) (c * d) 1 (q + r) := by
    rw [show val64 (FP.dmul x y) = round b64 (exactProduct (val64 x) (val64 y)) from val64_dmul _ _, e1, e2]; rfl
  by_cases h0 : c * d = 0
  · have hz : a * b = 0 := by rw [hab, h0, Nat.zero_mul, signed_zero]
    refine ⟨0, ⟨⟨s != t, 0, b64.qmin, by rw [ev, h0]; exact own_round_zero ..⟩, ?_⟩, ?_, fun _ => ?_⟩
    · rw [ev, h0, own_round_zero]
      show signed _ (0 * _) = 0
      rw [Nat.zero_mul, signed_zero]
    · rw [hz, Int.zero_mul]; simp
    · rw [hz, Int.zero_mul]; simp
  · have hmm : (mq - (mq + mq)).toNat = (0 - mq).toNat := by omega
    obtain ⟨c', q', f1, f2, f3⟩ := own_rr (s := (s != t)) (A := c * d) (B := 1) (e := q + r) (e0 := mq + mq) (by omega) (by decide) (by omega) (by omega) (by
      rw [← hV, Nat.one_mul, ← hmq, hmm, Nat.pow_add, ← hU]; exact hT)
    rw [← hV, Nat.mul_one, Nat.one_mul, ← hmq, hmm, ← hU] at f3
    rw [← hmq] at f2
    have hR : c' * 2 ^ (q' - (mq + mq)).toNat = c' * 2 ^ (q' - mq).toNat * U := by
      rw [hU, Nat.mul_assoc, ← Nat.pow_add]; congr 2; omega
    rw [hR] at f3
    refine ⟨signed (s != t) (c' * 2 ^ (q' - mq).toNat), ⟨⟨_, c', q', ev.trans f1⟩, by rw [ev, f1, hmq]; rfl⟩, ?_⟩
    have e5 : (signed (s != t) (c' * 2 ^ (q' - mq).toNat) * (U : Int) - a * b).natAbs = (((c' * 2 ^ (q' - mq).toNat * U : Nat) : Int) - ((a * b).natAbs : Int)).natAbs := by
      have hx : a * b = signed (s != t) (a * b).natAbs := by rw [hV]; exact hab
      have hy := own_signed_sub (s != t) (c' * 2 ^ (q' - mq).toNat * U) (a * b).natAbs
      rw [← hx] at hy
      rw [← signed_mul]; exact hy
    rw [e5]
    generalize (((c' * 2 ^ (q' - mq).toNat * U : Nat) : Int) - ((a * b).natAbs : Int)).natAbs = D at f3
    generalize (a * b).natAbs = N at *
    refine ⟨by omega, fun hc => ?_⟩
    rcases f3 with f | ⟨f, f'⟩
    · exact f
    · rcases hc with z | z
      · exact absurd (own_signed_abs (show signed (s != t) _ = a * b from hab.symm)) (by rw [z]; intro w; have := Nat.mul_pos (Nat.pos_of_ne_zero h0) (Nat.two_pow_pos (q + r - (mq + mq)).toNat); simp at w; omega)
      · omega
/-- the quotient -/
theorem own_Zdiv {U : Nat} (hU : U = 2 ^ (0 - b64.qmin).toNat) {a b : Int} {x y v : UInt64} (ha : own_Z a x) (hb : own_Z b y) (hv : FP.ddiv x y = v) (hb0 : b ≠ 0) (hT : a.natAbs * U < b.natAbs * 2 ^ 2000) :
    ∃ z, own_Z z v ∧ (a = 0 ∨ 2 ^ 52 * b.natAbs ≤ a.natAbs * U → (z * b - a * U).natAbs * (2 * 2 ^ 52) ≤ a.natAbs * U) := by
  subst hv
  obtain ⟨s, c, q, e1, q1, h1⟩ := ha.ex
  obtain ⟨t, d, r, e2, r1, h2⟩ := hb.ex
  obtain ⟨mq, hmq⟩ : ∃ m, m = b64.qmin := ⟨_, rfl⟩
  have hneg : mq = -1074 := hmq
  have hr2 : r ≤ 971 := by
    have : Core.fits b64 (.fin t d r) := by rw [← e2]; exact val64_fits _
    exact this.2.2.1
  rw [← hmq] at hU h1 h2 q1 r1
  have hA : a.natAbs = c * 2 ^ (q - mq).toNat := own_signed_abs h1
  have hB : b.natAbs = d * 2 ^ (r - mq).toNat := own_signed_abs h2
  have hd : d ≠ 0 := fun z => hb0 (by rw [← h2, z, Nat.zero_mul, signed_zero])
  have hUp : 0 < U := hU ▸ Nat.two_pow_pos _
  have ev : val64 (FP.ddiv x y) = roundRatio b64 (s != t) c d (q - r) := by
    rw [show val64 (FP.ddiv x y) = quotient b64 (val64 x) (val64 y) from val64_ddiv _ _, e1, e2, own_quotient hd]
  by_cases h0 : c = 0
  · have hz : a = 0 := by rw [← h1, h0, Nat.zero_mul, signed_zero]
    refine ⟨0, ⟨⟨s != t, 0, b64.qmin, by rw [ev, h0]; exact own_round_zero ..⟩, ?_⟩, fun _ => ?_⟩
    · rw [ev, h0, own_round_zero]
      show signed _ (0 * _) = 0
      rw [Nat.zero_mul, signed_zero]
    · rw [hz, Int.zero_mul, Int.zero_mul]; simp
  · have hmm : (mq - (mq + mq)).toNat = (0 - mq).toNat := by omega
    have pw : 0 < 2 ^ (r - mq).toNat := Nat.two_pow_pos _
    have kV : c * 2 ^ (q - r - (mq + mq)).toNat * 2 ^ (r - mq).toNat = a.natAbs * U * U := by
      rw [hA, hU, Nat.mul_assoc, Nat.mul_assoc, Nat.mul_assoc, ← Nat.pow_add, ← Nat.pow_add, ← Nat.pow_add]; congr 2; omega
    obtain ⟨c', q', f1, f2, f3⟩ := own_rr (s := (s != t)) (A := c) (B := d) (e := q - r) (e0 := mq + mq) (by omega) (by omega) (by omega) (by omega) (by
      rw [← hmq, hmm, Nat.pow_add, ← hU]
      refine Nat.lt_of_mul_lt_mul_right (a := 2 ^ (r - mq).toNat) ?_
      rw [kV]
      generalize (2 ^ 2000 : Nat) = TT at hT ⊢
      calc a.natAbs * U * U < b.natAbs * TT * U := Nat.mul_lt_mul_of_pos_right hT hUp
        _ = d * (TT * U) * 2 ^ (r - mq).toNat := by rw [hB]; ac_rfl)
    rw [← hmq] at f2
    rw [← hmq, hmm, ← hU] at f3
    have hR : c' * 2 ^ (q' - (mq + mq)).toNat = c' * 2 ^ (q' - mq).toNat * U := by
      rw [hU, Nat.mul_assoc, ← Nat.pow_add]; congr 2; omega
    rw [hR] at f3
    refine ⟨signed (s != t) (c' * 2 ^ (q' - mq).toNat), ⟨⟨_, c', q', ev.trans f1⟩, by rw [ev, f1, hmq]; rfl⟩, fun hc => ?_⟩
    have hnot : ¬ c * 2 ^ (q - r - (mq + mq)).toNat < 2 ^ 52 * (d * U) := fun z => by
      have z2 := Nat.mul_lt_mul_of_pos_right z pw
      rw [kV] at z2
      have z3 : 2 ^ 52 * (d * U) * 2 ^ (r - mq).toNat = 2 ^ 52 * b.natAbs * U := by rw [hB]; ac_rfl
      rw [z3] at z2
      have z4 := Nat.lt_of_mul_lt_mul_right z2
      rcases hc with w | w
      · have : 0 < a.natAbs := by rw [hA]; exact Nat.mul_pos (Nat.pos_of_ne_zero h0) (Nat.two_pow_pos _)
        rw [w] at this; simp at this
      · omega
    have f4 := f3.resolve_right fun z => hnot z.2
    -- U | |z| |b| - |a| U | = |R B - V| 2^(r - mq)
    have e5 : (signed (s != t) (c' * 2 ^ (q' - mq).toNat) * b - a * U).natAbs * U = (((c' * 2 ^ (q' - mq).toNat * U * d : Nat) : Int) - ((c * 2 ^ (q - r - (mq + mq)).toNat : Nat) : Int)).natAbs * 2 ^ (r - mq).toNat := by
      have g1 : signed (s != t) (c' * 2 ^ (q' - mq).toNat) * b = signed s (c' * 2 ^ (q' - mq).toNat * (d * 2 ^ (r - mq).toNat)) := by
        rw [← h2, ← signed_xor]; congr 1; cases s <;> cases t <;> rfl
      have g2 : a * U = signed s (c * 2 ^ (q - mq).toNat * U) := by rw [← h1, signed_mul _ _ U]
      rw [g1, g2, own_signed_sub]
      have g3 : ∀ (P Q : Int) (k : Nat), (P - Q).natAbs * k = (P * k - Q * k).natAbs := fun P Q k => by rw [← Int.sub_mul, Int.natAbs_mul, Int.natAbs_natCast]
      rw [g3, g3, ← Int.natCast_mul, ← Int.natCast_mul, ← Int.natCast_mul, ← Int.natCast_mul, kV, hA]
      congr 3
      ac_rfl
    refine Nat.le_of_mul_le_mul_right ?_ hUp
    calc (signed (s != t) (c' * 2 ^ (q' - mq).toNat) * b - a * U).natAbs * (2 * 2 ^ 52) * U
        = (signed (s != t) (c' * 2 ^ (q' - mq).toNat) * b - a * U).natAbs * U * (2 * 2 ^ 52) := by ac_rfl
      _ = (((c' * 2 ^ (q' - mq).toNat * U * d : Nat) : Int) - ((c * 2 ^ (q - r - (mq + mq)).toNat : Nat) : Int)).natAbs * (2 * 2 ^ 52) * 2 ^ (r - mq).toNat := by rw [e5]; ac_rfl
      _ ≤ c * 2 ^ (q - r - (mq + mq)).toNat * 2 ^ (r - mq).toNat := Nat.mul_le_mul_right _ f4
      _ = _ := kV
/-- an exact whole number -/
theorem own_D.toZ {U : Nat} (hU : U = 2 ^ (0 - b64.qmin).toNat) {A : Nat} {i : Int} {x : UInt64} (a : own_D 0 A i x) : own_Z (i * U) x := by
  obtain ⟨s, c, q, e⟩ := a.fin
  have hf : Core.fits b64 (.fin s c q) := by rw [← e]; exact val64_fits _
  refine ⟨⟨s, c, q, e⟩, ?_⟩
  have w : Whole i (.fin s c q) := by have := a.1; rw [e, show ((0 : Nat) : Int) = 0 from rfl, own_sh_zero] at this; exact this
  obtain ⟨mq, hmq⟩ : ∃ m, m = b64.qmin := ⟨_, rfl⟩
  have hneg : mq = -1074 := hmq
  have hq : mq ≤ q := hmq ▸ hf.2.1
  have w2 := own_whole_up (0 - mq).toNat w
  rw [e, hU, ← hmq]
  show signed s (c * 2 ^ (q - b64.qmin).toNat) = _
  have w3 : signed s (c * 2 ^ (q + ((0 - mq).toNat : Nat)).toNat) = i * ((2 ^ (0 - mq).toNat : Nat) : Int) * ((2 ^ (-(q + ((0 - mq).toNat : Nat))).toNat : Nat) : Int) := w2
  rw [show (q + ((0 - mq).toNat : Nat)).toNat = (q - mq).toNat by omega, show (-(q + ((0 - mq).toNat : Nat))).toNat = 0 by omega, Nat.pow_zero] at w3
  rw [← hmq, w3]; simp
end OwnRnd
section OwnMet
open Jvm.FP Jvm.FP.Core
theorem own_mulcast (M t : Nat) {s P : Int} (h : s * (t : Int) = P) : s * ((M * t : Nat) : Int) = (M : Int) * P := by rw [Int.natCast_mul, Int.mul_left_comm, h]
/-- the integers' part: z is s * c up to half a unit in the last place, t = 2^1021, c = 9007190247541737 / 2^53 -/
theorem own_met_int {t U : Nat} (ht : 0 < t) (hU : U = 9007199254740992 * t) {s d z : Int} (h1 : 1 ≤ s) (h2 : s ≤ 2147483647) (h3 : ¬ s % 1000000 = 0)
    (hz : (z - s * ((9007190247541737 * t : Nat) : Int)).natAbs * 9007199254740992 ≤ (s * ((9007190247541737 * t : Nat) : Int)).natAbs) :
    own_c3 (d * (U : Int)) z = own_c3 (1000000 * d) (999999 * s) := by
  obtain ⟨P, hP⟩ : ∃ P : Int, s * (t : Int) = P := ⟨_, rfl⟩
  obtain ⟨D, hD⟩ : ∃ D : Int, d * (t : Int) = D := ⟨_, rfl⟩
  have ht' : (0 : Int) < (t : Int) := by exact_mod_cast ht
  have e1 : s * ((9007190247541737 * t : Nat) : Int) = 9007190247541737 * P := own_mulcast 9007190247541737 t hP
  have e2 : d * (U : Int) = 9007199254740992 * D := by rw [hU]; exact own_mulcast 9007199254740992 t hD
  have hP0 : 0 ≤ P := by rw [← hP]; exact Int.mul_nonneg (by omega) (by omega)
  have hP1 : P ≤ 2147483647 * (t : Int) := by rw [← hP]; exact Int.mul_le_mul_of_nonneg_right h2 (by omega)
  rw [e1] at hz
  rw [e2]
  have hq : z - 9007190247541737 * P ≤ P ∧ -P ≤ z - 9007190247541737 * P := by omega
  have hne : ¬ 1000000 * d = 999999 * s := by omega
  by_cases hc : 1000000 * d < 999999 * s
  · have k1 : 1000000 * D + (t : Int) ≤ 999999 * P := by
      have k := Int.mul_le_mul_of_nonneg_right (show 1000000 * d + 1 ≤ 999999 * s by omega) (Int.le_of_lt ht')
      rw [Int.add_mul, Int.mul_assoc, Int.mul_assoc, hD, hP] at k; omega
    have : 9007199254740992 * D < z := by omega
    unfold own_c3; rw [if_pos this, if_pos hc]
  · have k1 : 999999 * P + (t : Int) ≤ 1000000 * D := by
      have k := Int.mul_le_mul_of_nonneg_right (show 999999 * s + 1 ≤ 1000000 * d by omega) (Int.le_of_lt ht')
      rw [Int.add_mul, Int.mul_assoc, Int.mul_assoc, hD, hP] at k; omega
    have hh : z < 9007199254740992 * D := by omega
    unfold own_c3; rw [if_neg (by omega), if_neg (by omega), if_neg (by omega), if_neg (by omega)]
theorem own_met {A : Nat} {i : Int} {x v : UInt64} (a : own_D 0 A i x) (h1 : 1 ≤ i) (h2 : i ≤ 2147483647) (h3 : ¬ i % 1000000 = 0) (hv : FP.dmul x (4607182409792818153 : UInt64) = v) :
    Jvm.Free.Fl.NoNaN64 v ∧ ∀ {B : Nat} {j : Int} {y : UInt64} {o : CmpOp}, own_D 0 B j y → cmpValue (FP.dcmp y v) o = own_c3 (1000000 * j) (999999 * i) := by
  obtain ⟨U, hU⟩ : ∃ U, U = 2 ^ (0 - b64.qmin).toNat := ⟨_, rfl⟩
  obtain ⟨t, ht⟩ : ∃ t : Nat, t = 2 ^ 1021 := ⟨_, rfl⟩
  have hUt : U = 9007199254740992 * t := by rw [hU, ht]; decide +kernel
  have ht0 : 0 < t := by rw [ht]; decide +kernel
  have hb1 : 9007190247541737 * t < 2 ^ 1074 := by rw [ht]; decide +kernel
  have hb2 : 2 ^ 52 ≤ 9007190247541737 * t := by rw [ht]; decide +kernel
  have hc : own_Z ((9007190247541737 * t : Nat) : Int) (4607182409792818153 : UInt64) := ⟨⟨false, 9007190247541737, -53, by decide +kernel⟩, by rw [ht]; decide +kernel⟩
  obtain ⟨b, hb⟩ : ∃ b : Nat, b = 9007190247541737 * t := ⟨_, rfl⟩
  rw [← hb] at hc hb1 hb2
  have hU0 : 0 < U := by rw [hUt]; exact Nat.mul_pos (by decide) ht0
  obtain ⟨n, hn⟩ : ∃ n : Nat, n = i.natAbs := ⟨_, rfl⟩
  have hn1 : 1 ≤ n := by omega
  have hn2 : n ≤ 2 ^ 31 := by omega
  have eab : (i * (U : Int) * (b : Int)).natAbs = n * b * U := by rw [Int.natAbs_mul, Int.natAbs_mul, Int.natAbs_natCast, Int.natAbs_natCast, ← hn]; ac_rfl
  have hT : (i * (U : Int) * (b : Int)).natAbs < 2 ^ 2000 * U := by
    rw [eab]
    refine Nat.mul_lt_mul_of_pos_right (Nat.lt_of_lt_of_le (Nat.mul_lt_mul_of_le_of_lt hn2 hb1 (by decide)) ?_) hU0
    rw [← Nat.pow_add]; exact Nat.pow_le_pow_right (by decide) (by decide)
  obtain ⟨z, hz, -, hr⟩ := own_Zmul hU (a.toZ hU) hc hv hT
  have hr2 := hr (Or.inr (by rw [eab]; exact Nat.mul_le_mul_right U (Nat.le_trans hb2 (by calc b = 1 * b := (Nat.one_mul b).symm
                                                                                            _ ≤ n * b := Nat.mul_le_mul_right b hn1))))
  have e3 : z * (U : Int) - i * (U : Int) * (b : Int) = (z - i * (b : Int)) * (U : Int) := by rw [Int.sub_mul, Int.mul_right_comm]
  rw [e3, eab, Int.natAbs_mul, Int.natAbs_natCast] at hr2
  have hr3 : (z - i * (b : Int)).natAbs * 9007199254740992 ≤ n * b := by
    refine Nat.le_of_mul_le_mul_right ?_ hU0
    calc (z - i * (b : Int)).natAbs * 9007199254740992 * U = (z - i * (b : Int)).natAbs * U * (2 * 2 ^ 52) := by rw [Nat.mul_right_comm]
      _ ≤ n * b * U := hr2
  refine ⟨hz.nn, fun {B j y o} d => ?_⟩
  rw [(d.toZ hU).cmp hz]
  refine own_met_int ht0 hUt h1 h2 h3 ?_
  rw [← hb, Int.natAbs_mul (a := i), Int.natAbs_natCast, ← hn]
  exact hr3
/-- a finite double is not above the greatest one -/
theorem own_finle {x : UInt64} (h : Jvm.Free.Fl.Fin64 x) : ifCond.holds .le (cmpValue (FP.dcmp (x &&& 0x7fffffffffffffff) (9218868437227405311 : UInt64)) .l) = true := by
  have q := Jvm.Free.Fl.shapeGt (FP.dcmp (x &&& 0x7fffffffffffffff) (9218868437227405311 : UInt64))
  have g : Jvm.Free.Fl.relGt (FP.dcmp (x &&& 0x7fffffffffffffff) (9218868437227405311 : UInt64)) = true ↔ ¬ Jvm.Free.Fl.Fin64 x := Jvm.Free.Fl.gt_max_iff h.noNaN
  rw [if_neg (fun h4 => g.mp h4 h)] at q
  by_cases hc : ifCond.holds .le (cmpValue (FP.dcmp (x &&& 0x7fffffffffffffff) (9218868437227405311 : UInt64)) .l) = true
  · exact hc
  · rw [if_neg hc] at q; cases q
end OwnMet
abbrev oU : Slot := .unset
abbrev oI (x : Int32) : Slot := .val (.int x)
abbrev oA (a : Addr) : Slot := .val (.ref a)
section OwnRef
variable {p : Program} {l : Launch} {e : Env} {R : Room} {s : State} {m : MethodId} {args : Array Value} {below : List Frame} {meth : Method} {c : Code} {Z : State} {own : String} {bytes : ByteArray} {ml : Nat} {rt : Option FieldType} {nm : String} {n0 : Nat} {T : State} {h : Heap} {cells slots : Nat} {Q : Option Value → Heap → Prop} {Φ : State → Outcome → Prop} {pc pc' : Nat} {Ls : Array Slot} {rest : List Value} {a0 : Array Value}
theorem own_i2b (X : own_St p l e R s m args below meth c Z own bytes ml rt nm n0 T h cells slots) {x v : Int32} (hv : x.toInt8.toInt32 = v) (hd : decode bytes pc = .ok (.i2b, 1)) (hp : pc + 1 = pc') (k : own_Goal p e below Φ T (mkF m pc' Ls (.int v :: rest))) : own_Goal p e below Φ T (mkF m pc Ls (.int x :: rest)) := by
  subst hp hv
  exact own_pure X (fun X hx hby _ a => XT.i2b X.here hx rfl (hb hby hd) rfl a) k
theorem own_acmpF (X : own_St p l e R s m args below meth c Z own bytes ml rt nm n0 T h cells slots) {o : Int} {cd : ClassFile.ACond} {x y : Value} (hx' : x.isRef = true) (hy' : y.isRef = true) (hc : XT.acmp cd x y = false) (hd : decode bytes pc = .ok (.if_acmp cd o, 3)) (hp : pc + 3 = pc') (k : own_Goal p e below Φ T (mkF m pc' Ls rest)) : own_Goal p e below Φ T (mkF m pc Ls (y :: x :: rest)) := by
  subst hp
  exact own_pure X (fun X hx hby _ a => XT.acmpNo X.here hx rfl (hb hby hd) rfl hx' hy' hc a) k
theorem own_retN (X : own_St p l e R s m args below meth c Z own bytes ml rt nm n0 T h cells slots) {v : Int32} {t : FieldType} (hn : nar t v = v) (ht : t = .boolean ∨ t = .byte ∨ t = .char ∨ t = .short) (hd : decode bytes pc = .ok (.ireturn, 1)) (hr : rt = some t) (hc : cells ≤ R.cells) (hs : slots ≤ R.slots) (q : Q (some (.int v)) h) : own_Goal p e below (own_Fin below s R n0 Q) T (mkF m pc Ls (.int v :: rest)) := by
  obtain ⟨locs, X, N, e1, n1, hx, hZ, hown, hby, -, hrt, hlk, -⟩ := X
  obtain ⟨fs, hl, hrun, hended, hW, hsame⟩ := X.leave (v := some (.int v)) (fun z => by rw [hrt, hr] at z; cases z) hlk
  exact ⟨_, _, retN X hx (t := t) (hrt.trans hr) ht (hb hby hd) (by rw [hn]; exact hl), hrun, hended, _, _, rfl, ⟨⟨by show Q _ T.heap; rw [e1]; exact q, by show n0 ≤ T.heap.size; rw [e1]; exact n1⟩, N⟩, ⟨_, rfl⟩, hW, hsame.mono hc hs⟩
theorem own_retNull (X : own_St p l e R s m args below meth c Z own bytes ml rt nm n0 T h cells slots) {t : FieldType} (ht : t.isReference = true) (hd : decode bytes pc = .ok (.areturn, 1)) (hr : rt = some t) (hc : cells ≤ R.cells) (hs : slots ≤ R.slots) (q : Q (some .null) h) : own_Goal p e below (own_Fin below s R n0 Q) T (mkF m pc Ls (.null :: rest)) := by
  obtain ⟨locs, X, N, e1, n1, hx, hZ, hown, hby, -, hrt, hlk, -⟩ := X
  obtain ⟨fs, hl, hrun, hended, hW, hsame⟩ := X.leave (v := some .null) (fun z => by rw [hrt, hr] at z; cases z) hlk
  have hn : narrow t .null = .null := by cases t <;> rfl
  exact ⟨_, _, retOut X hx (hrt.trans hr) hn (Or.inr (Or.inr (Or.inr (Or.inr ⟨rfl, ht, rfl⟩)))) (hb hby hd) hl, hrun, hended, _, _, rfl, ⟨⟨by show Q _ T.heap; rw [e1]; exact q, by show n0 ≤ T.heap.size; rw [e1]; exact n1⟩, N⟩, ⟨_, rfl⟩, hW, hsame.mono hc hs⟩
theorem own_caload (X : own_St p l e R s m args below meth c Z own bytes ml rt nm n0 T h cells slots) {a : Addr} {vs : List Value} (F : own_Vec Z h a .char vs) {j : Int32} {i : Nat} {v : Value} (hj : j.toNatClampNeg = i) (h0 : ¬ j < 0) (hv : vs[i]? = some v) (hd : decode bytes pc = .ok (.caload, 1)) (hp : pc + 1 = pc') (k : own_Goal p e below Φ T (mkF m pc' Ls (v :: rest))) : own_Goal p e below Φ T (mkF m pc Ls (.int j :: .ref a :: rest)) := by
  subst hp
  obtain ⟨locs, X, N, e1, -, hx, hZ, hown, hby, -⟩ := X
  obtain ⟨cl, A, r⟩ := F
  have q1 : i < vs.length := (List.getElem?_eq_some_iff.mp hv).1
  exact own_step (fun t a => X.caload hx (cell := cl) (by rw [e1]; exact A.1) (State.isArrayOf_alike hZ.alike A.2.1) A.2.2 (own_in hj h0 (by rw [r]; simpa using q1)) (by rw [hj, r]; simpa using hv) (g := mkF m pc Ls _) rfl rfl (hb hby hd) t a) k
theorem own_aaload (X : own_St p l e R s m args below meth c Z own bytes ml rt nm n0 T h cells slots) {a : Addr} {ty : FieldType} {vs : List Value} (F : own_Vec Z h a ty vs) (hty : ty.isReference = true) {j : Int32} {i : Nat} {v : Value} (hj : j.toNatClampNeg = i) (h0 : ¬ j < 0) (hv : vs[i]? = some v) (hd : decode bytes pc = .ok (.aaload, 1)) (hp : pc + 1 = pc') (k : own_Goal p e below Φ T (mkF m pc' Ls (v :: rest))) : own_Goal p e below Φ T (mkF m pc Ls (.int j :: .ref a :: rest)) := by
  subst hp
  obtain ⟨locs, X, N, e1, -, hx, hZ, hown, hby, -⟩ := X
  obtain ⟨cl, A, r⟩ := F
  have q1 : i < vs.length := (List.getElem?_eq_some_iff.mp hv).1
  exact own_step (fun t a => X.aaload hx (cell := cl) (by rw [e1]; exact A.1) (State.isArrayOf_alike hZ.alike A.2.1) hty A.2.2 (own_in hj h0 (by rw [r]; simpa using q1)) (by rw [hj, r]; simpa using hv) (g := mkF m pc Ls _) rfl rfl (hb hby hd) t a) k
theorem own_castore (X : own_St p l e R s m args below meth c Z own bytes ml rt nm n0 T h cells slots) {a : Addr} {vs : List Value} (F : own_Vec Z h a .char vs) (ha : n0 ≤ a) {j : Int32} {i : Nat} {x y : Int32} (hn : nar .char x = y) (hj : j.toNatClampNeg = i) (h0 : ¬ j < 0) (hi : i < vs.length) (hd : decode bytes pc = .ok (.castore, 1)) (hp : pc + 1 = pc')
    (k : ∀ T' h', own_St p l e R s m args below meth c Z own bytes ml rt nm n0 T' h' cells slots → Wr h h' a i (.int y) → own_Vec Z h' a .char (vs.set i (.int y)) → own_Goal p e below Φ T' (mkF m pc' Ls rest)) : own_Goal p e below Φ T (mkF m pc Ls (.int x :: .int j :: .ref a :: rest)) := by
  subst hp hn
  obtain ⟨locs, X, N, e1, n1, hx, hZ, hown, hby, r0⟩ := X
  have F0 := F
  obtain ⟨cl, A, r⟩ := F
  obtain ⟨T', h', X', e', W, st⟩ := stC X hx hZ e1 A (own_in hj h0 (by rw [r]; simpa using hi)) (g := mkF m pc Ls _) rfl rfl (hb hby hd)
  have N' := Fr.snoc X' N ha
  rw [hj] at W
  exact own_step st (k T' h' ⟨_, X', N', e', by rw [W.size]; exact n1, hx, hZ, hown, hby, r0⟩ W (F0.set W))
theorem own_bastore (X : own_St p l e R s m args below meth c Z own bytes ml rt nm n0 T h cells slots) {a : Addr} {vs : List Value} (F : own_Vec Z h a .byte vs) (ha : n0 ≤ a) {j : Int32} {i : Nat} {x y : Int32} (hn : nar .byte x = y) (hj : j.toNatClampNeg = i) (h0 : ¬ j < 0) (hi : i < vs.length) (hd : decode bytes pc = .ok (.bastore, 1)) (hp : pc + 1 = pc')
    (k : ∀ T' h', own_St p l e R s m args below meth c Z own bytes ml rt nm n0 T' h' cells slots → Wr h h' a i (.int y) → own_Vec Z h' a .byte (vs.set i (.int y)) → own_Goal p e below Φ T' (mkF m pc' Ls rest)) : own_Goal p e below Φ T (mkF m pc Ls (.int x :: .int j :: .ref a :: rest)) := by
  subst hp hn
  obtain ⟨locs, X, N, e1, n1, hx, hZ, hown, hby, r0⟩ := X
  have F0 := F
  obtain ⟨cl, A, r⟩ := F
  obtain ⟨T', h', X', e', W, st⟩ := stB X hx hZ e1 A (own_in hj h0 (by rw [r]; simpa using hi)) (g := mkF m pc Ls _) rfl rfl (hb hby hd)
  have N' := Fr.snoc X' N ha
  rw [hj] at W
  exact own_step st (k T' h' ⟨_, X', N', e', by rw [W.size]; exact n1, hx, hZ, hown, hby, r0⟩ W (F0.set W))
/-- the array at a takes objects of class C -/
def own_Ov (Z : State) (h : Heap) (a : Addr) (C : String) : Prop := ∃ c : Cell, h[a]? = some c ∧ Ovr Z c.cls C
theorem own_Ov.ext {h' : Heap} {a : Addr} {C : String} (F : own_Ov Z h a C) (E : Ext h h') : own_Ov Z h' a C := by obtain ⟨c, q, r⟩ := F; exact ⟨c, E.2 _ _ q, r⟩
theorem own_Ov.keep {h' : Heap} {a : Addr} {C : String} {ws : List Addr} (F : own_Ov Z h a C) (K : Keep h h' ws) : own_Ov Z h' a C := by
  obtain ⟨c, q, r⟩ := F
  obtain ⟨c', q', r1, -⟩ := K.2.2 a c q
  exact ⟨c', q', r1 ▸ r⟩
theorem own_Ov.wr {h' : Heap} {a b : Addr} {C : String} {sl : Nat} {v : Value} (F : own_Ov Z h a C) (W : Wr h h' b sl v) : own_Ov Z h' a C := F.keep (Keep.of_wr W)
theorem own_Sta.keep0 {h' : Heap} {C n d : String} {v : Value} (F : Sta Z h C n d v) (K : Keep h h' []) : Sta Z h' C n d v := by
  obtain ⟨cf, i, k, f, st, cell, h1, h2, h3, h4, h5, r⟩ := F
  exact ⟨cf, i, k, f, st, cell, h1, h2, h3, h4, K.2.1 _ _ h5 nin0, r⟩
theorem own_Sta.keep1 {h' : Heap} {C n d D : String} {v : Value} {a : Addr} (F : Sta Z h C n d v) (K : Keep h h' [a]) (E : Exa Z h a D) : Sta Z h' C n d v := by
  obtain ⟨cf, i, k, f, st, cell, h1, h2, h3, h4, h5, h6, r⟩ := F
  obtain ⟨ca, ka, q1, -, -, q4, -⟩ := E
  have hne : st ∉ [a] := fun q => by
    cases List.mem_singleton.mp q
    cases h5.symm.trans q1
    rw [h6] at q4; cases q4
  exact ⟨cf, i, k, f, st, cell, h1, h2, h3, h4, K.2.1 _ _ h5 hne, h6, r⟩
theorem own_ge {h' : Heap} {a : Addr} {ws : List Addr} (K : Keep h h' ws) (g : a = h'.size) : h.size ≤ a := by rw [g]; exact K.1
theorem own_mem0 {h' : Heap} {ws : List Addr} : ∀ x ∈ ([] : List Addr), x ∈ ws ∨ h'.size ≤ x := fun _ q => nomatch q
theorem own_mem1 {h' : Heap} {ws : List Addr} {b : Addr} (q : b ∈ ws ∨ h'.size ≤ b) : ∀ x ∈ [b], x ∈ ws ∨ h'.size ≤ x := fun x hx => by cases List.mem_singleton.mp hx; exact q
theorem own_newarrayE (X : own_St p l e R s m args below meth c Z own bytes ml rt nm n0 T h cells slots) {aty : ArrayType} {ty : FieldType} (hty : newarray.typeOf aty = ty) {ad : String} (had : "[" ++ (newarray.typeOf aty).toString = ad) (w : (Jvm.Cond.arrayClass ty).before a0 Z = true) {j : Int32} {n : Nat} {vs : List Value} (hj : j.toNatClampNeg = n) (h0 : ¬ j < 0) (hn : n ≤ 1000) (hvs : List.replicate n (defaultValue ty) = vs) {cells' slots' : Nat} (hc' : cells + 1 = cells') (hs' : slots + n = slots') (hc : cells' ≤ R.cells) (hs : slots' ≤ R.slots) (hd : decode bytes pc = .ok (.newarray aty, 2)) (hp : pc + 2 = pc')
    (k : ∀ a T' h', a = h.size → n0 ≤ a → own_St p l e R s m args below meth c Z own bytes ml rt nm n0 T' h' cells' slots' → Ext h h' → own_Vec Z h' a ty vs → Exa Z h' a ad → own_Goal p e below Φ T' (mkF m pc' Ls (.ref a :: rest))) : own_Goal p e below Φ T (mkF m pc Ls (.int j :: rest)) := by
  subst hp hty hvs hc' hs'
  obtain ⟨locs, X, N, e1, n1, hx, hZ, hown, hby, r0⟩ := X
  obtain ⟨T', h', cA, X', e', E, A, B, st⟩ := newPE X hx hZ w e1 (g := mkF m pc Ls _) rfl (hb hby hd) rfl h0 (cap := n) (by omega) (by omega) hc hs had
  refine own_step st (k _ T' h' rfl n1 ⟨_, X', N, e', Nat.le_trans n1 E.1, hx, hZ, hown, hby, r0⟩ E ⟨_, A, ?_⟩ B)
  simp [newA, hj]
theorem own_anewarray (X : own_St p l e R s m args below meth c Z own bytes ml rt nm n0 T h cells slots) {i : Nat} {C ad : String} (w1 : (Jvm.Cond.classLink own i C).before a0 Z = true) (w2 : (Jvm.Cond.arrayOver (.object C)).before a0 Z = true) (had : "[" ++ (FieldType.object C).toString = ad) {j : Int32} {n : Nat} {vs : List Value} (hj : j.toNatClampNeg = n) (h0 : ¬ j < 0) (hn : n ≤ 1000) (hvs : List.replicate n Value.null = vs) {cells' slots' : Nat} (hc' : cells + 1 = cells') (hs' : slots + n = slots') (hc : cells' ≤ R.cells) (hs : slots' ≤ R.slots) (hd : decode bytes pc = .ok (.anewarray i, 3)) (hp : pc + 3 = pc')
    (k : ∀ a T' h', a = h.size → n0 ≤ a → own_St p l e R s m args below meth c Z own bytes ml rt nm n0 T' h' cells' slots' → Ext h h' → own_Vec Z h' a (.object C) vs → Exa Z h' a ad → own_Ov Z h' a C → own_Goal p e below Φ T' (mkF m pc' Ls (.ref a :: rest))) : own_Goal p e below Φ T (mkF m pc Ls (.int j :: rest)) := by
  subst hp hvs hc' hs'
  obtain ⟨locs, X, N, e1, n1, hx, hZ, hown, hby, r0⟩ := X
  obtain ⟨T', h', cA, X', e', E, A, B, O, st⟩ := newRE X hx hZ hown w1 w2 e1 (g := mkF m pc Ls _) rfl (hb hby hd) rfl h0 (cap := n) (by omega) (by omega) hc hs had
  refine own_step st (k _ T' h' rfl n1 ⟨_, X', N, e', Nat.le_trans n1 E.1, hx, hZ, hown, hby, r0⟩ E ⟨_, A, ?_⟩ B ⟨_, A.1, O⟩)
  simp [newA, hj, defaultValue]
theorem own_aastore (X : own_St p l e R s m args below meth c Z own bytes ml rt nm n0 T h cells slots) {a : Addr} {C : String} {vs : List Value} (F : own_Vec Z h a (.object C) vs) (O : own_Ov Z h a C) (ha : n0 ≤ a) {j : Int32} {i : Nat} {x : Value} (hv : x = .null ∨ ∃ y, x = .ref y ∧ Exa Z h y C) (hj : j.toNatClampNeg = i) (h0 : ¬ j < 0) (hi : i < vs.length) (hd : decode bytes pc = .ok (.aastore, 1)) (hp : pc + 1 = pc')
    (k : ∀ T' h', own_St p l e R s m args below meth c Z own bytes ml rt nm n0 T' h' cells slots → Wr h h' a i x → own_Vec Z h' a (.object C) (vs.set i x) → own_Goal p e below Φ T' (mkF m pc' Ls rest)) : own_Goal p e below Φ T (mkF m pc Ls (x :: .int j :: .ref a :: rest)) := by
  subst hp
  obtain ⟨locs, X, N, e1, n1, hx, hZ, hown, hby, r0⟩ := X
  have F0 := F
  obtain ⟨cl, A, r⟩ := F
  obtain ⟨c2, q2, O⟩ := O
  cases A.1.symm.trans q2
  have S : Sto Z h a x := by
    rcases hv with rfl | ⟨y, rfl, E⟩
    · exact Or.inl rfl
    · exact Sto.of A O (Ins.self E)
  obtain ⟨T', h', X', e', W, st⟩ := stR X hx hZ e1 A (own_in hj h0 (by rw [r]; simpa using hi)) rfl S (g := mkF m pc Ls _) rfl rfl (hb hby hd)
  have N' := Fr.snoc X' N ha
  rw [hj] at W
  exact own_step st (k T' h' ⟨_, X', N', e', by rw [W.size]; exact n1, hx, hZ, hown, hby, r0⟩ W (F0.set W))
theorem own_fit0 {ty : FieldType} : ([] : List Value).all (fits ty) = true := rfl
theorem own_fitS {ty : FieldType} {v : Value} {vs : List Value} (h1 : fits ty v = true) (h2 : vs.all (fits ty) = true) : (v :: vs).all (fits ty) = true := by rw [List.all_cons, h1, h2]; rfl
theorem own_clone (X : own_St p l e R s m args below meth c Z own bytes ml rt nm n0 T h cells slots) {i : Nat} {ad : String} (w1 : (Jvm.Cond.methodLink own i ⟨ad, "clone", "()Ljava/lang/Object;"⟩).before a0 Z = true) (w2 : (Jvm.Cond.sameMethod ad "java/lang/Object" "clone" "()Ljava/lang/Object;").before a0 Z = true) (w3 : (Jvm.Cond.native ⟨"java/lang/Object", "clone", "()Ljava/lang/Object;"⟩).before a0 Z = true) (w4 : (Jvm.Cond.instanceMethod ⟨"java/lang/Object", "clone", "()Ljava/lang/Object;"⟩).before a0 Z = true) (w5 : (Jvm.Cond.selects ad ⟨ad, "clone", "()Ljava/lang/Object;"⟩ ⟨"java/lang/Object", "clone", "()Ljava/lang/Object;"⟩).before a0 Z = true) (w6 : (Jvm.Cond.castable ad "java/lang/Cloneable").before a0 Z = true)
    {a : Addr} {ty : FieldType} {vs : List Value} (F : own_Vec Z h a ty vs) (E : Exa Z h a ad) (hfit : vs.all (fits ty) = true) {n : Nat} (hlen : vs.length = n) (hsz : Ls.size = ml) (hf : 1 ≤ R.frames) {W : Nat} (hW : (rest.map fun v => v.category).sum ≤ W) (hl : W + 14 ≤ R.locals) {cells' slots' : Nat} (hc' : cells + 1 = cells') (hs' : slots + n = slots') (hc : cells' ≤ R.cells) (hs : slots' ≤ R.slots) (hd : decode bytes pc = .ok (.invokevirtual i, 3)) (hp : pc + 3 = pc')
    (k : ∀ a' T' h', a' = h.size → n0 ≤ a' → own_St p l e R s m args below meth c Z own bytes ml rt nm n0 T' h' cells' slots' → Ext h h' → own_Vec Z h' a' ty vs → Exa Z h' a' ad → own_Goal p e below Φ T' (mkF m pc' Ls (.ref a' :: rest))) : own_Goal p e below Φ T (mkF m pc Ls (.ref a :: rest)) := by
  subst hp hc' hs' hlen
  obtain ⟨locs, X, N, e1, n1, hx, hZ, hown, hby, hml, r0⟩ := X
  obtain ⟨cl, A, r⟩ := F
  have FC : FitC Z cl := fitC_of A fun i hi v hv => by
    rw [r] at hv
    have q : v ∈ vs := List.mem_of_getElem? (by simpa using hv)
    exact List.all_eq_true.mp hfit v q
  obtain ⟨T', h', X', e', E', A', B', st⟩ := cloneA X hx hZ hown w1 w2 w3 w4 w5 w6 e1 A E FC (g := mkF m pc Ls (.ref a :: rest)) rfl (hsz.trans hml.symm) (rest := rest) rfl (hb hby hd) hf (W := W) (cap := vs.length) (by show 2 * 0 + _ ≤ _; omega) hl (by rw [r]; simp) hc hs
  exact own_step st (k _ T' h' rfl n1 ⟨_, X', N, e', Nat.le_trans n1 E'.1, hx, hZ, hown, hby, hml, r0⟩ E' ⟨_, A', r⟩ B')
theorem own_cast_ (X : own_St p l e R s m args below meth c Z own bytes ml rt nm n0 T h cells slots) {i : Nat} {K : String} (w : (Jvm.Cond.classLink own i K).before a0 Z = true) {a : Addr} (E : Exa Z h a K) (hd : decode bytes pc = .ok (.checkcast i, 3)) (hp : pc + 3 = pc')
    (k : ∀ T', own_St p l e R s m args below meth c Z own bytes ml rt nm n0 T' h cells slots → own_Goal p e below Φ T' (mkF m pc' Ls (.ref a :: rest))) : own_Goal p e below Φ T (mkF m pc Ls (.ref a :: rest)) := by
  subst hp
  obtain ⟨locs, X, N, e1, n1, hx, hZ, hown, hby, r0⟩ := X
  obtain ⟨T', X', e', st⟩ := castY X hx hZ hown w e1 (Ins.self E) (g := mkF m pc Ls (.ref a :: rest)) (rest := rest) rfl rfl (hb hby hd)
  exact own_step st (k T' ⟨_, X', N, e', n1, hx, hZ, hown, hby, r0⟩)
theorem own_getS (X : own_St p l e R s m args below meth c Z own bytes ml rt nm n0 T h cells slots) {i : Nat} {O n d : String} (w : (Jvm.Cond.fieldLink own i O n d).before a0 Z = true) {v : Value} (F : Sta Z h O n d v) (hd : decode bytes pc = .ok (.getstatic i, 3)) (hp : pc + 3 = pc')
    (k : ∀ T', own_St p l e R s m args below meth c Z own bytes ml rt nm n0 T' h cells slots → own_Goal p e below Φ T' (mkF m pc' Ls (v :: rest))) : own_Goal p e below Φ T (mkF m pc Ls rest) := by
  subst hp
  obtain ⟨locs, X, N, e1, n1, hx, hZ, hown, hby, r0⟩ := X
  obtain ⟨T', X', e', st⟩ := getS X hx hZ hown (host := "") w Via.refl e1 F (g := mkF m pc Ls rest) rfl (hb hby hd)
  exact own_step st (k T' ⟨_, X', N, e', n1, hx, hZ, hown, hby, r0⟩)
theorem own_cases3 {v : Int32} (h : 0 ≤ v.toInt ∧ v.toInt ≤ ((2 : Nat) : Int)) : v = (0 : Int32) ∨ v = (1 : Int32) ∨ v = (2 : Int32) := by
  have q : v.toInt = 0 ∨ v.toInt = 1 ∨ v.toInt = 2 := by omega
  rcases q with q | q | q
  · exact Or.inl (Int32.toInt_inj.mp (by rw [q]; decide))
  · exact Or.inr (Or.inl (Int32.toInt_inj.mp (by rw [q]; decide)))
  · exact Or.inr (Or.inr (Int32.toInt_inj.mp (by rw [q]; decide)))
theorem own_i2c_mask {x v : Int32} (e : x &&& 255 = v) : v.toUInt32.toUInt16.toUInt32.toInt32 = v := by rw [← e]; exact i2c_mask x
theorem own_char {v : Int32} (e : v.toUInt32.toUInt16.toUInt32.toInt32 = v) : nar .char v = v := e
end OwnRef
section OwnWide
variable {p : Program} {l : Launch} {e : Env} {R : Room} {s : State} {m : MethodId} {args : Array Value} {below : List Frame} {meth : Method} {c : Code} {Z : State} {own : String} {bytes : ByteArray} {ml : Nat} {rt : Option FieldType} {nm : String} {n0 : Nat} {T : State} {h : Heap} {cells slots : Nat} {Q : Option Value → Heap → Prop} {Φ : State → Outcome → Prop} {pc pc' : Nat} {Ls : Array Slot} {rest : List Value} {a0 : Array Value} {vm0 : Vm} {k0 : Nat}
/-- what a return that meets Q leaves, where literals may have been interned -/
def own_FinW (below : List Frame) (s : State) (R : Room) (n0 : Nat) (Q : Option Value → Heap → Prop) : State → Outcome → Prop := fun s₂ o =>
  s₂.status = .running ∧ Ended s₂ below o ∧ ∃ v L, o = .returned v ∧ ((Q v s₂.heap ∧ n0 ≤ s₂.heap.size) ∧ Fr n0 L) ∧ ReturnedEndW s o s₂ L R.cells R.slots
theorem own_retZW (X : own_St p l e R (s.setVm vm0) m args below meth c Z own bytes ml rt nm n0 T h cells slots) (hS : s.Since vm0 k0) (hk : k0 ≤ h.size) {v : Int32} (hv : v = 0 ∨ v = 1) (hd : decode bytes pc = .ok (.ireturn, 1)) (hr : rt = some .boolean) (hc : cells ≤ R.cells) (hs : slots ≤ R.slots) (q : Q (some (.int v)) h) : own_Goal p e below (own_FinW below s R n0 Q) T (mkF m pc Ls (.int v :: rest)) := by
  obtain ⟨locs, X, N, e1, n1, hx, hZ, hown, hby, -, hrt, hlk, -⟩ := X
  obtain ⟨fs, hl, hrun, hended, hr1, hW, hB, hsame⟩ := X.leaveW hS (by rw [e1]; exact hk) (v := some (.int v)) (fun z => by rw [hrt, hr] at z; cases z) hlk
  have hn : nar .boolean v = v := by rcases hv with rfl | rfl <;> rfl
  exact ⟨_, _, retN X hx (t := .boolean) (hrt.trans hr) (by simp) (hb hby hd) (by rw [hn]; exact hl), hrun, hended, _, _, rfl, ⟨⟨by show Q _ T.heap; rw [e1]; exact q, by show n0 ≤ T.heap.size; rw [e1]; exact n1⟩, N⟩, hr1, hW, hB, hsame.mono hc hs⟩
theorem own_retVW (X : own_St p l e R (s.setVm vm0) m args below meth c Z own bytes ml rt nm n0 T h cells slots) (hS : s.Since vm0 k0) (hk : k0 ≤ h.size) (hd : decode bytes pc = .ok (.return_, 1)) (hr : rt = none) (hc : cells ≤ R.cells) (hs : slots ≤ R.slots) (q : Q none h) : own_Goal p e below (own_FinW below s R n0 Q) T (mkF m pc Ls []) := by
  obtain ⟨locs, X, N, e1, n1, hx, hZ, hown, hby, -, hrt, hlk, -⟩ := X
  obtain ⟨fs, hl, hrun, hended, hr1, hW, hB, hsame⟩ := X.leaveW hS (by rw [e1]; exact hk) (v := none) (fun _ => rfl) hlk
  exact ⟨_, _, X.returnOut hx (hrt.trans hr) (hb hby hd) hl, hrun, hended, _, _, rfl, ⟨⟨by show Q _ T.heap; rw [e1]; exact q, by show n0 ≤ T.heap.size; rw [e1]; exact n1⟩, N⟩, hr1, hW, hB, hsame.mono hc hs⟩
theorem own_hk_wr {h' : Heap} {a : Addr} {sl : Nat} {v : Value} (hk : k0 ≤ h.size) (W : Wr h h' a sl v) : k0 ≤ h'.size := by rw [W.size]; exact hk
theorem own_hk_ext {h' : Heap} (hk : k0 ≤ h.size) (E : Ext h h') : k0 ≤ h'.size := Nat.le_trans hk E.1
theorem own_ldcS (X : own_St p l e R (s.setVm vm0) m args below meth c Z own bytes ml rt nm n0 T h cells slots) (hS : s.Since vm0 k0) (hk : k0 ≤ h.size) {i : Nat} {text : String} (w : (Jvm.Cond.stringLink own i text).before a0 Z = true) (wS : ∀ d ∈ Bundle.stringAtoms, d.before a0 Z = true) {n : Nat} (hn : 4 * text.toList.length ≤ n) (hbig : n ≤ 536870912) {cells' slots' : Nat} (hc' : cells + 2 = cells') (hs' : slots + (n + 4) = slots') (hc : cells' ≤ R.cells) (hs : slots' ≤ R.slots) (hd : decode bytes pc = .ok (.ldc i, 2)) (hp : pc + 2 = pc')
    (k : ∀ a T' h' vm1 k1, s.Since vm1 k1 → k1 ≤ h'.size → own_St p l e R (s.setVm vm1) m args below meth c Z own bytes ml rt nm n0 T' h' cells' slots' → Ext h h' → own_Goal p e below Φ T' (mkF m pc' Ls (.ref a :: rest))) : own_Goal p e below Φ T (mkF m pc Ls rest) := by
  subst hp hc' hs'
  obtain ⟨locs, X, N, e1, n1, hx, hZ, hown, hby, r0⟩ := X
  obtain ⟨a, T', h', k1, X', e', E, hS', hk', hZ', hown', st⟩ := ldcS X hx hZ hown w wS e1 hS hk (g := mkF m pc Ls rest) rfl (hb hby hd) hn hbig hc hs
  exact own_step st (k a T' h' T'.vm k1 hS' hk' ⟨_, X', N, e', Nat.le_trans n1 E.1, hx, hZ', hown', hby, r0⟩ E)
theorem own_Vec.ofArv {b : Addr} {kc : ClassId} {ty : FieldType} {z : Int32} {vs : List Value} {d : Value} (F : Arv Z h b kc ty z vs d) (hl : z.toNatClampNeg = vs.length) : own_Vec Z h b ty vs := by
  obtain ⟨c, A, -, hsz, -, H, -⟩ := F
  refine ⟨c, A, ?_⟩
  apply Array.ext
  · rw [hsz, hl]; simp
  · intro i h1 h2
    have q := H i h1
    rw [Array.getElem?_eq_getElem h1] at q
    have h3 : i < vs.length := by simpa using h2
    have q2 := Option.some.inj q
    rw [q2]; simp [List.getD, h3]
theorem own_ldcSV (X : own_St p l e R (s.setVm vm0) m args below meth c Z own bytes ml rt nm n0 T h cells slots) (hS : s.Since vm0 k0) (hk : k0 ≤ h.size) (hs0 : s.heap.size = n0) (hkeep : ∀ (b : Addr) (cl : Cell), Z.heap[b]? = some cl → s.heap[b]? = some cl) {Ts : List String} (I : IB Z vm0 Ts) {i : Nat} {text : String} (hnot : text ∉ Ts) (hh : Jvm.Lit.constHeld Z own i) (hcw : Jvm.Lit.compactW.before a0 Z = true)
    {vs : List Value} {z : Int32} (ht : (∀ c ∈ text.toList, c.toNat < 256) ∧ text.toList.map (fun c => Value.int (Jvm.Lit.byteI c.toNat.toUInt16)) = vs) (hz : ¬ z < 0) (hl : z.toNatClampNeg = vs.length)
    (w : (Jvm.Cond.stringLink own i text).before a0 Z = true) (wS : ∀ d ∈ Bundle.stringAtoms, d.before a0 Z = true) {n : Nat} (hn : 4 * text.toList.length ≤ n) (hbig : n ≤ 536870912) {cells' slots' : Nat} (hc' : cells + 2 = cells') (hs' : slots + (n + 4) = slots') (hc : cells' ≤ R.cells) (hs : slots' ≤ R.slots) (hd : decode bytes pc = .ok (.ldc i, 2)) (hp : pc + 2 = pc')
    (k : ∀ a b T' h' vm1 k1, s.Since vm1 k1 → k1 ≤ h'.size → own_St p l e R (s.setVm vm1) m args below meth c Z own bytes ml rt nm n0 T' h' cells' slots' → Ext h h' → Exa Z h' a "java/lang/String" → Fld Z h' a "java/lang/String" "coder" "B" (.int 0) → Fld Z h' a "java/lang/String" "value" "[B" (.ref b) → own_Vec Z h' b .byte vs → IB Z vm1 (text :: Ts) → own_Goal p e below Φ T' (mkF m pc' Ls (.ref a :: rest))) : own_Goal p e below Φ T (mkF m pc Ls rest) := by
  subst hp hc' hs' hs0
  obtain ⟨locs, X, N, e1, n1, hx, hZ, hown, hby, r0⟩ := X
  obtain ⟨a, T', h', k1, b, kc, X', e', E, hS', hk', hZ', hown', A, F1, F2, V, -, -, I', st⟩ := ldcSV X hx hZ hown w wS e1 hS hk N hkeep I hnot hh hcw ht hz hl (g := mkF m pc Ls rest) rfl (hb hby hd) hn hbig hc hs
  exact own_step st (k a b T' h' T'.vm k1 hS' hk' ⟨_, X', N, e', Nat.le_trans n1 E.1, hx, hZ', hown', hby, r0⟩ E A F1 F2 (own_Vec.ofArv V hl) I')
/-- two Strings that hold different bytes are two objects -/
theorem own_strne {a a' b b' : Addr} {vs vs' : List Value} (F : Fld Z h a "java/lang/String" "value" "[B" (.ref b)) (V1 : own_Vec Z h b .byte vs) (F' : Fld Z h a' "java/lang/String" "value" "[B" (.ref b')) (V2 : own_Vec Z h b' .byte vs') (hne : vs ≠ vs') : a ≠ a' := fun q => by
  subst q
  obtain ⟨c1, cf, k, i, f, g1, g2, -, -, -, -, g7⟩ := F
  obtain ⟨c2, cf', k', i', f', r1, r2, -, -, -, -, r7⟩ := F'
  cases g1.symm.trans r1
  cases g2.symm.trans r2
  cases g7.symm.trans r7
  obtain ⟨c3, A3, e3⟩ := V1
  obtain ⟨c4, A4, e4⟩ := V2
  cases A3.1.symm.trans A4.1
  exact hne (by have := e3.symm.trans e4; simpa using this)
theorem own_acmpT (X : own_St p l e R s m args below meth c Z own bytes ml rt nm n0 T h cells slots) {o : Int} {cd : ClassFile.ACond} {x y : Value} (hx' : x.isRef = true) (hy' : y.isRef = true) (hc : XT.acmp cd x y = true) (hd : decode bytes pc = .ok (.if_acmp cd o, 3)) (ho : 0 ≤ (pc : Int) + o) (hp : ((pc : Int) + o).toNat = pc') (k : own_Goal p e below Φ T (mkF m pc' Ls rest)) : own_Goal p e below Φ T (mkF m pc Ls (y :: x :: rest)) :=
  own_pure X (fun X hx hby _ a => XT.acmpYes X.here hx rfl rfl (hb hby hd) rfl hx' hy' hc ho hp a) k
theorem own_inst (X : own_St p l e R s m args below meth c Z own bytes ml rt nm n0 T h cells slots) {i : Nat} {K : String} (w : (Jvm.Cond.classLink own i K).before a0 Z = true) {a : Addr} (E : Exa Z h a K) (hd : decode bytes pc = .ok (.instanceof i, 3)) (hp : pc + 3 = pc')
    (k : ∀ T', own_St p l e R s m args below meth c Z own bytes ml rt nm n0 T' h cells slots → own_Goal p e below Φ T' (mkF m pc' Ls (.int 1 :: rest))) : own_Goal p e below Φ T (mkF m pc Ls (.ref a :: rest)) := by
  subst hp
  obtain ⟨locs, X, N, e1, n1, hx, hZ, hown, hby, r0⟩ := X
  obtain ⟨T', X', e', st⟩ := instY X hx hZ hown w e1 (Ins.self E) (g := mkF m pc Ls (.ref a :: rest)) (rest := rest) rfl rfl (hb hby hd)
  exact own_step st (k T' ⟨_, X', N, e', n1, hx, hZ, hown, hby, r0⟩)
theorem own_baload (X : own_St p l e R s m args below meth c Z own bytes ml rt nm n0 T h cells slots) {a : Addr} {vs : List Value} (F : own_Vec Z h a .byte vs) {j : Int32} {i : Nat} {v : Value} (hj : j.toNatClampNeg = i) (h0 : ¬ j < 0) (hv : vs[i]? = some v) (hd : decode bytes pc = .ok (.baload, 1)) (hp : pc + 1 = pc') (k : own_Goal p e below Φ T (mkF m pc' Ls (v :: rest))) : own_Goal p e below Φ T (mkF m pc Ls (.int j :: .ref a :: rest)) := by
  subst hp
  obtain ⟨locs, X, N, e1, -, hx, hZ, hown, hby, -⟩ := X
  obtain ⟨cl, A, r⟩ := F
  have q1 : i < vs.length := (List.getElem?_eq_some_iff.mp hv).1
  exact own_step (fun t a => X.baloadBytes hx (cell := cl) (by rw [e1]; exact A.1) (State.isArrayOf_alike hZ.alike A.2.1) A.2.2 (own_in hj h0 (by rw [r]; simpa using q1)) (by rw [hj, r]; simpa using hv) (g := mkF m pc Ls _) rfl rfl (hb hby hd) t a) k
theorem own_absD (X : own_St p l e R s m args below meth c Z own bytes ml rt nm n0 T h cells slots) {i : Nat} (w1 : (Jvm.Cond.methodLink own i Jvm.Free.Fl.Abs.absDN).before a0 Z = true) (w2 : (Jvm.Cond.static Jvm.Free.Fl.Abs.absDN).before a0 Z = true) (w3 : (Jvm.Cond.initialized "java/lang/Math").before a0 Z = true) (w4 : (Jvm.Cond.code Jvm.Free.Fl.Abs.absDN Jvm.Free.Fl.Abs.absDCode 2 (some .double)).before a0 Z = true) {x v : UInt64} (hn : Jvm.Free.Fl.NoNaN64 x) (hv : x &&& 0x7fffffffffffffff = v) (hsz : Ls.size = ml) (hf : 1 ≤ R.frames) {W : Nat} (hW : (rest.map fun v => v.category).sum ≤ W) (hl : W + 13 ≤ R.locals) (hc : cells ≤ R.cells) (hs : slots ≤ R.slots) (hlen : ∀ sig, parseMethodDescriptor "(D)D" = some sig → 1 = sig.parameters.length) (hd : decode bytes pc = .ok (.invokestatic i, 3)) (hp : pc + 3 = pc')
    (k : ∀ T', own_St p l e R s m args below meth c Z own bytes ml rt nm n0 T' h cells slots → own_Goal p e below Φ T' (mkF m pc' Ls (.double v :: rest))) : own_Goal p e below Φ T (mkF m pc Ls (.double x :: rest)) := by
  subst hp hv
  obtain ⟨locs, X, N, e1, n1, hx, hZ, hown, hby, hml, r0⟩ := X
  obtain ⟨T', X', e', st⟩ := natS X hx hZ hown w1 w2 w3 w4 (by decide) e1 (F := fun a' => a' = #[.double x] ∧ Jvm.Free.Fl.NoNaN64 x) (fun hc4 => Jvm.Free.Fl.Abs.absD_pays x hc4 hf hl) (g := mkF m pc Ls (.double x :: rest)) rfl (hsz.trans hml.symm) (argsL := [.double x]) (rest := rest) hlen rfl (by show 2 * 0 + _ ≤ _; omega) (hb hby hd) hc hs ⟨rfl, hn⟩ rfl
  exact own_step st (k T' ⟨_, X', N, e', n1, hx, hZ, hown, hby, hml, r0⟩)
/-- a callee's contract, wide -/
def own_MetW (l : Launch) (Z : State) (y : MethodName) (bytes : ByteArray) (ml : Nat) (rt : Option FieldType) (ws : List Jvm.Cond) (rm : Room) (as' : Array Value) (h0 : Heap) (n0 : Nat) (Q : Option Value → Heap → Prop) : Prop :=
  MetFree l y (head1 (Jvm.Cond.code y bytes ml rt :: ws) rm) (fun a U => a = as' ∧ Z.Warmed39 U.vm ∧ U.heap = h0) (fun _ _ _ _ _ => True) (fun _ U o U' => ∃ v L, o = .returned v ∧ ((Q v U'.heap ∧ n0 ≤ U'.heap.size) ∧ Fr n0 L) ∧ ReturnedEndW U o U' L rm.cells rm.slots)
theorem own_meetW {y : MethodName} {ws : List Jvm.Cond} {rm : Room} {as' : Array Value} {h0 : Heap} (hpn : plainFor y = true) (hle : n0 ≤ h0.size) {Ls0 : Array Slot} (hef : ∀ m, entryFrame m as' ml = mkF m 0 Ls0 [])
    (body : ∀ (p : Program) (e : Env) (s : State) (m : MethodId) (below : List Frame) (meth : Method) (c : Code) (T : State) (vm0 : Vm) (k0 : Nat), s.Since vm0 k0 → k0 ≤ h0.size → own_St p l e rm (s.setVm vm0) m as' below meth c Z y.cls bytes ml rt y.name n0 T h0 0 0 → own_Goal p e below (own_FinW below s rm n0 Q) T (mkF m 0 Ls0 [])) : own_MetW l Z y bytes ml rt ws rm as' h0 n0 Q := by
  refine MetFree.of_bodySF hpn hisR ?_
  intro p e s m args below meth c s₁ Bd hml0 hP hK
  obtain ⟨rfl, hZ, hh⟩ := hP
  have e0 : s₁.heap = h0 := by rw [← hh, Bd.state]; rfl
  obtain ⟨s2, o, st, r1, r2, r3⟩ := body p e s m below meth c s₁ s.vm 0 ((State.WarmedH.refl s).since 0) (Nat.zero_le _) ⟨[], Stand.of_body Bd, Fr.nil n0, e0, hle, Bd.exec, hZ, findClass_of_methodNamed Bd.named, Bd.bytes, hml0, Bd.returns, Bd.notSynchronized, (name_of_methodNamed Bd.named Bd.method).1⟩
  exact ⟨s2, o, castTop (hef m) st, r1, r2, r3⟩
/-- the law's own contract: it starts in Z itself -/
def own_MetL (l : Launch) (Z : State) (y : MethodName) (bytes : ByteArray) (ml : Nat) (rt : Option FieldType) (ws : List Jvm.Cond) (rm : Room) (as' : Array Value) (n0 : Nat) (Q : Option Value → Heap → Prop) : Prop :=
  MetFree l y (head1 (Jvm.Cond.code y bytes ml rt :: ws) rm) (fun a U => a = as' ∧ U = Z) (fun _ _ _ _ _ => True) (fun _ U o U' => ∃ v L, o = .returned v ∧ ((Q v U'.heap ∧ n0 ≤ U'.heap.size) ∧ Fr n0 L) ∧ ReturnedEndW U o U' L rm.cells rm.slots)
theorem own_meetL {y : MethodName} {ws : List Jvm.Cond} {rm : Room} {as' : Array Value} {h0 : Heap} (hpn : plainFor y = true) (hh0 : Z.heap = h0) (hle : Z.heap.size = n0) {Ls0 : Array Slot} (hef : ∀ m, entryFrame m as' ml = mkF m 0 Ls0 [])
    (body : ∀ (p : Program) (e : Env) (m : MethodId) (below : List Frame) (meth : Method) (c : Code) (T : State) (vm0 : Vm) (k0 : Nat), Z.Since vm0 k0 → k0 ≤ h0.size → IB Z vm0 [] → own_St p l e rm (Z.setVm vm0) m as' below meth c Z y.cls bytes ml rt y.name n0 T h0 0 0 → own_Goal p e below (own_FinW below Z rm n0 Q) T (mkF m 0 Ls0 [])) : own_MetL l Z y bytes ml rt ws rm as' n0 Q := by
  refine MetFree.of_bodySF hpn hisR ?_
  intro p e s m args below meth c s₁ Bd hml0 hP hK
  obtain ⟨rfl, rfl⟩ := hP
  have e0 : s₁.heap = h0 := by rw [← hh0, Bd.state]; rfl
  obtain ⟨s2, o, st, r1, r2, r3⟩ := body p e m below meth c s₁ s.vm 0 ((State.WarmedH.refl s).since 0) (Nat.zero_le _) IB.start ⟨[], Stand.of_body Bd, Fr.nil n0, e0, by rw [← hh0, hle]; exact Nat.le_refl _, Bd.exec, State.Warmed39.refl s, findClass_of_methodNamed Bd.named, Bd.bytes, hml0, Bd.returns, Bd.notSynchronized, (name_of_methodNamed Bd.named Bd.method).1⟩
  exact ⟨s2, o, castTop (hef m) st, r1, r2, r3⟩
theorem own_specialW (X : own_St p l e R (s.setVm vm0) m args below meth c Z own bytes ml rt nm n0 T h cells slots) (hS : s.Since vm0 k0) (hk : k0 ≤ h.size) {y : MethodName} {yb : ByteArray} {yl : Nat} {yr : Option FieldType} {rm : Room} {as' : Array Value} {Q' : Option Value → Heap → Prop} (M : own_MetW l Z y yb yl yr [] rm as' h n0 Q') (hy1 : y.name = "<init>") (hyr : yr = none) {i : Nat} (w1 : (Jvm.Cond.methodLink own i y).before a0 Z = true) (w2 : (Jvm.Cond.instanceMethod y).before a0 Z = true) (w3 : (Jvm.Cond.initialized y.cls).before a0 Z = true) (w4 : (Jvm.Cond.code y yb yl yr).before a0 Z = true) (hy : y.cls ≠ "java/lang/invoke/MethodHandle" ∧ y.cls ≠ "java/lang/invoke/VarHandle") (hsz : Ls.size = ml) (hf : rm.frames + 1 ≤ R.frames) {W : Nat} (hW : (rest.map fun v => v.category).sum ≤ W) (hl : W + (yl + 11) + rm.locals ≤ R.locals) {cells' slots' : Nat} (hc' : cells + rm.cells = cells') (hs' : slots + rm.slots = slots') (hc : cells' ≤ R.cells) (hs : slots' ≤ R.slots) {a : Addr} {argsL stk : List Value} (hlen : ∀ sig, parseMethodDescriptor y.desc = some sig → argsL.length = sig.parameters.length) (hst : stk = argsL.reverse ++ .ref a :: rest) (has : (.ref a :: argsL).toArray = as') (hd : decode bytes pc = .ok (.invokespecial i, 3)) (hp : pc + 3 = pc')
    (k : ∀ v T' h' vm1 k1, s.Since vm1 k1 → k1 ≤ h'.size → own_St p l e R (s.setVm vm1) m args below meth c Z own bytes ml rt nm n0 T' h' cells' slots' → Q' v h' → own_Goal p e below Φ T' (mkF m pc' Ls (v.toList ++ rest))) : own_Goal p e below Φ T (mkF m pc Ls stk) := by
  subst hp hst has hc' hs' hyr
  obtain ⟨locs, X, N, e1, n1, hx, hZ, hown, hby, hml, r0⟩ := X
  obtain ⟨v, vm1, ⟨T', L', k', n'⟩, -, X', hS', hgr, ⟨Lc, ⟨⟨hQ, hG⟩, NL⟩, l1, y1, z1⟩, st⟩ := X.specialBackS hx (y := y) hy1 hown (mvT hZ w1) (mvT hZ w2) (mvT hZ w4) hy (backOfS (W := W) (Q := fun v hh L => (Q' v hh ∧ n0 ≤ hh.size) ∧ Fr n0 L) M hZ w4 w3 hf hl) (g := mkF m pc Ls (argsL.reverse ++ .ref a :: rest)) rfl (hsz.trans hml.symm) (Steps.refl _) (a := a) (argsL := argsL) (rest := rest) hlen rfl (by show 2 * 0 + _ ≤ _; omega) (hb hby hd) (fun _ _ => ⟨rfl, e1, hc, hs⟩)
  dsimp only [Pt.U, Pt.locs, Pt.cells, Pt.slots] at X' l1 y1 z1 st hQ hG hS' hgr
  subst l1 y1 z1
  obtain ⟨X2, hS2, hZ2, hown2⟩ := rebS hS (n1 := T.heap.size) (by rw [e1]; exact hk) X' hS' hgr hZ hown
  exact own_step (fun t b => st.trans b) (k v T' _ T'.vm _ hS2 (Nat.le_refl _) ⟨_, X2, Fr.app N NL, rfl, hG, hx, hZ2, hown2, hby, hml, r0⟩ hQ)
end OwnWide
theorem own_d_jdk_30_method_1_code_0 : decode jdk_30_method_1_code 0 = .ok (.aload_n 0, 1) := by decide +kernel
theorem own_d_jdk_30_method_1_code_1 : decode jdk_30_method_1_code 1 = .ok (.invokespecial 1, 3) := by decide +kernel
theorem own_d_jdk_30_method_1_code_4 : decode jdk_30_method_1_code 4 = .ok (.return_, 1) := by decide +kernel
theorem own_pd0 : parseMethodDescriptor "()V" = some ⟨[], none⟩ := by decide +kernel
theorem own_pn0 : plainName "java/lang/Record" = true := by first | (simp [plainName, overriddenIn]; done) | decide +kernel
abbrev own_rm_own_rec : Room := ({ frames := 1, cells := 0, slots := 0, locals := 12 } : Room)
set_option maxRecDepth 65536 in
set_option maxHeartbeats 40000000 in
theorem own_rec (l : Launch) (Z : State) (a0 : Array Value) (hw : ∀ d ∈ tables_1, d.before a0 Z = true) (a1 : Addr) (h0 : Heap) (n0 : Nat) (Z0 : n0 ≤ h0.size)  :
    own_Met l Z ({ cls := "java/lang/Record", name := "<init>", desc := "()V" } : Jvm.MethodName) jdk_30_method_1_code 1 none [] own_rm_own_rec #[(.ref a1)] h0 n0 (fun v h => v = none ∧ h = h0) := by
  have ww := fun (i : Nat) {d : Jvm.Cond} (q : tables_1[i]? = some d) => hw d (List.mem_of_getElem? q)
  refine own_meet (plainFor_of_name own_pn0) Z0 (Ls0 := #[oA a1]) (by intro m; first | (simp [entryFrame, mkF, argsToLocals, Value.category]; done) | rfl) ?_
  intro p e s m below meth c T0 X0
  refine own_aloadN X0 rfl rfl own_d_jdk_30_method_1_code_0 (pc' := 1) rfl ?_
  refine own_initO X0 (ww 23 rfl) (ww 24 rfl) (ww 25 rfl) rfl (by decide) (W := 0) (Nat.le_of_eq rfl) (by decide) own_d_jdk_30_method_1_code_1 (pc' := 4) rfl fun T1 X1 => ?_
  exact own_retV X1  own_d_jdk_30_method_1_code_4 rfl (by decide) (by decide) ⟨rfl, rfl⟩
theorem own_d_jdk_31_method_11_code_0 : decode jdk_31_method_11_code 0 = .ok (.aload_n 0, 1) := by decide +kernel
theorem own_d_jdk_31_method_11_code_1 : decode jdk_31_method_11_code 1 = .ok (.ifnonnull 12, 3) := by decide +kernel
theorem own_d_jdk_31_method_11_code_4 : decode jdk_31_method_11_code 4 = .ok (.new 84, 3) := by decide +kernel
theorem own_d_jdk_31_method_11_code_7 : decode jdk_31_method_11_code 7 = .ok (.dup, 1) := by decide +kernel
theorem own_d_jdk_31_method_11_code_8 : decode jdk_31_method_11_code 8 = .ok (.aload_n 1, 1) := by decide +kernel
theorem own_d_jdk_31_method_11_code_9 : decode jdk_31_method_11_code 9 = .ok (.invokespecial 87, 3) := by decide +kernel
theorem own_d_jdk_31_method_11_code_12 : decode jdk_31_method_11_code 12 = .ok (.athrow, 1) := by decide +kernel
theorem own_d_jdk_31_method_11_code_13 : decode jdk_31_method_11_code 13 = .ok (.aload_n 0, 1) := by decide +kernel
theorem own_d_jdk_31_method_11_code_14 : decode jdk_31_method_11_code 14 = .ok (.areturn, 1) := by decide +kernel
theorem own_pd1 : parseMethodDescriptor "(Ljava/lang/Object;Ljava/lang/String;)Ljava/lang/Object;" = some ⟨[(.object "java/lang/Object"), (.object "java/lang/String")], some (.object "java/lang/Object")⟩ := by decide +kernel
theorem own_pn1 : plainName "java/util/Objects" = true := by first | (simp [plainName, overriddenIn]; done) | decide +kernel
abbrev own_rm_own_rnn : Room := ({ frames := 0, cells := 0, slots := 0, locals := 0 } : Room)
set_option maxRecDepth 65536 in
set_option maxHeartbeats 40000000 in
theorem own_rnn (l : Launch) (Z : State) (a0 : Array Value) (hw : ∀ d ∈ tables_1, d.before a0 Z = true) (a1 a2 : Addr) (h0 : Heap) (n0 : Nat) (Z0 : n0 ≤ h0.size)  :
    own_Met l Z ({ cls := "java/util/Objects", name := "requireNonNull", desc := "(Ljava/lang/Object;Ljava/lang/String;)Ljava/lang/Object;" } : Jvm.MethodName) jdk_31_method_11_code 2 (some (.object "java/lang/Object")) [] own_rm_own_rnn #[(.ref a1), (.ref a2)] h0 n0 (fun v h => v = some (.ref a1) ∧ h = h0) := by
  have ww := fun (i : Nat) {d : Jvm.Cond} (q : tables_1[i]? = some d) => hw d (List.mem_of_getElem? q)
  refine own_meet (plainFor_of_name own_pn1) Z0 (Ls0 := #[oA a1, oA a2]) (by intro m; first | (simp [entryFrame, mkF, argsToLocals, Value.category]; done) | rfl) ?_
  intro p e s m below meth c T0 X0
  refine own_aloadN X0 rfl rfl own_d_jdk_31_method_11_code_0 (pc' := 1) rfl ?_
  refine own_ifnonnullT X0 own_d_jdk_31_method_11_code_1 (pc' := 13) (by decide) (by decide) ?_
  refine own_aloadN X0 rfl rfl own_d_jdk_31_method_11_code_13 (pc' := 14) rfl ?_
  exact own_retA X0 (t := (.object "java/lang/Object")) rfl own_d_jdk_31_method_11_code_14 rfl (by decide) (by decide) ⟨rfl, rfl⟩
theorem own_d_jdk_42_method_55_code_0 : decode jdk_42_method_55_code 0 = .ok (.aload_n 0, 1) := by decide +kernel
theorem own_d_jdk_42_method_55_code_1 : decode jdk_42_method_55_code 1 = .ok (.getfield 9, 3) := by decide +kernel
theorem own_d_jdk_42_method_55_code_4 : decode jdk_42_method_55_code 4 = .ok (.arraylength, 1) := by decide +kernel
theorem own_d_jdk_42_method_55_code_5 : decode jdk_42_method_55_code 5 = .ok (.ifCond .ne 7, 3) := by decide +kernel
theorem own_d_jdk_42_method_55_code_8 : decode jdk_42_method_55_code 8 = .ok (.iconst 1, 1) := by decide +kernel
theorem own_d_jdk_42_method_55_code_9 : decode jdk_42_method_55_code 9 = .ok (.goto 4, 3) := by decide +kernel
theorem own_d_jdk_42_method_55_code_12 : decode jdk_42_method_55_code 12 = .ok (.iconst 0, 1) := by decide +kernel
theorem own_d_jdk_42_method_55_code_13 : decode jdk_42_method_55_code 13 = .ok (.ireturn, 1) := by decide +kernel
theorem own_pd2 : parseMethodDescriptor "()Z" = some ⟨[], some .boolean⟩ := by decide +kernel
theorem own_pn2 : plainName "java/lang/String" = true := by first | (simp [plainName, overriddenIn]; done) | decide +kernel
abbrev own_rm_own_emp : Room := ({ frames := 0, cells := 0, slots := 0, locals := 0 } : Room)
set_option maxRecDepth 65536 in
set_option maxHeartbeats 40000000 in
theorem own_emp (l : Launch) (Z : State) (a0 : Array Value) (hw : ∀ d ∈ tables_1, d.before a0 Z = true) (a1 b1 : Addr) (x0 : Int32) (h0 : Heap) (n0 : Nat) (Z0 : n0 ≤ h0.size) (F1 : Fld Z h0 a1 "java/lang/String" "value" "[B" (.ref b1)) (V1 : own_Vec Z h0 b1 .byte [.int x0]) :
    own_Met l Z ({ cls := "java/lang/String", name := "isEmpty", desc := "()Z" } : Jvm.MethodName) jdk_42_method_55_code 1 (some .boolean) [] own_rm_own_emp #[(.ref a1)] h0 n0 (fun v h => v = some (.int 0) ∧ h = h0) := by
  have ww := fun (i : Nat) {d : Jvm.Cond} (q : tables_1[i]? = some d) => hw d (List.mem_of_getElem? q)
  refine own_meet (plainFor_of_name own_pn2) Z0 (Ls0 := #[oA a1]) (by intro m; first | (simp [entryFrame, mkF, argsToLocals, Value.category]; done) | rfl) ?_
  intro p e s m below meth c T0 X0
  refine own_aloadN X0 rfl rfl own_d_jdk_42_method_55_code_0 (pc' := 1) rfl ?_
  refine own_getF X0 (ww 38 rfl) F1 own_d_jdk_42_method_55_code_1 (pc' := 4) rfl fun T2 X2 => ?_
  refine own_len X2 V1 (v := (1 : Int32)) (show (1 : Nat).toInt32 = (1 : Int32) by decide) own_d_jdk_42_method_55_code_4 (pc' := 5) rfl ?_
  refine own_ifT X2 (by decide) own_d_jdk_42_method_55_code_5 (pc' := 12) (by decide) (by decide) ?_
  refine own_iconst X2 (v := (0 : Int32)) (by decide) own_d_jdk_42_method_55_code_12 (pc' := 13) rfl ?_
  exact own_retZ X2 (by decide) own_d_jdk_42_method_55_code_13 rfl (by decide) (by decide) ⟨rfl, rfl⟩
theorem own_d_jdk_43_method_13_code_0 : decode jdk_43_method_13_code 0 = .ok (.aload_n 0, 1) := by decide +kernel
theorem own_d_jdk_43_method_13_code_1 : decode jdk_43_method_13_code 1 = .ok (.arraylength, 1) := by decide +kernel
theorem own_d_jdk_43_method_13_code_2 : decode jdk_43_method_13_code 2 = .ok (.aload_n 1, 1) := by decide +kernel
theorem own_d_jdk_43_method_13_code_3 : decode jdk_43_method_13_code 3 = .ok (.arraylength, 1) := by decide +kernel
theorem own_d_jdk_43_method_13_code_4 : decode jdk_43_method_13_code 4 = .ok (.if_icmp .ne 30, 3) := by decide +kernel
theorem own_d_jdk_43_method_13_code_7 : decode jdk_43_method_13_code 7 = .ok (.iconst 0, 1) := by decide +kernel
theorem own_d_jdk_43_method_13_code_8 : decode jdk_43_method_13_code 8 = .ok (.istore_n 2, 1) := by decide +kernel
theorem own_d_jdk_43_method_13_code_9 : decode jdk_43_method_13_code 9 = .ok (.iload_n 2, 1) := by decide +kernel
theorem own_d_jdk_43_method_13_code_10 : decode jdk_43_method_13_code 10 = .ok (.aload_n 0, 1) := by decide +kernel
theorem own_d_jdk_43_method_13_code_11 : decode jdk_43_method_13_code 11 = .ok (.arraylength, 1) := by decide +kernel
theorem own_d_jdk_43_method_13_code_12 : decode jdk_43_method_13_code 12 = .ok (.if_icmp .ge 20, 3) := by decide +kernel
theorem own_d_jdk_43_method_13_code_15 : decode jdk_43_method_13_code 15 = .ok (.aload_n 0, 1) := by decide +kernel
theorem own_d_jdk_43_method_13_code_16 : decode jdk_43_method_13_code 16 = .ok (.iload_n 2, 1) := by decide +kernel
theorem own_d_jdk_43_method_13_code_17 : decode jdk_43_method_13_code 17 = .ok (.baload, 1) := by decide +kernel
theorem own_d_jdk_43_method_13_code_18 : decode jdk_43_method_13_code 18 = .ok (.aload_n 1, 1) := by decide +kernel
theorem own_d_jdk_43_method_13_code_19 : decode jdk_43_method_13_code 19 = .ok (.iload_n 2, 1) := by decide +kernel
theorem own_d_jdk_43_method_13_code_20 : decode jdk_43_method_13_code 20 = .ok (.baload, 1) := by decide +kernel
theorem own_d_jdk_43_method_13_code_21 : decode jdk_43_method_13_code 21 = .ok (.if_icmp .eq 5, 3) := by decide +kernel
theorem own_d_jdk_43_method_13_code_24 : decode jdk_43_method_13_code 24 = .ok (.iconst 0, 1) := by decide +kernel
theorem own_d_jdk_43_method_13_code_25 : decode jdk_43_method_13_code 25 = .ok (.ireturn, 1) := by decide +kernel
theorem own_d_jdk_43_method_13_code_26 : decode jdk_43_method_13_code 26 = .ok (.iinc 2 1, 3) := by decide +kernel
theorem own_d_jdk_43_method_13_code_29 : decode jdk_43_method_13_code 29 = .ok (.goto (-20), 3) := by decide +kernel
theorem own_d_jdk_43_method_13_code_32 : decode jdk_43_method_13_code 32 = .ok (.iconst 1, 1) := by decide +kernel
theorem own_d_jdk_43_method_13_code_33 : decode jdk_43_method_13_code 33 = .ok (.ireturn, 1) := by decide +kernel
theorem own_d_jdk_43_method_13_code_34 : decode jdk_43_method_13_code 34 = .ok (.iconst 0, 1) := by decide +kernel
theorem own_d_jdk_43_method_13_code_35 : decode jdk_43_method_13_code 35 = .ok (.ireturn, 1) := by decide +kernel
theorem own_pd3 : parseMethodDescriptor "([B[B)Z" = some ⟨[(.array .byte), (.array .byte)], some .boolean⟩ := by decide +kernel
theorem own_pn3 : plainName "java/lang/StringLatin1" = true := by first | (simp [plainName, overriddenIn]; done) | decide +kernel
abbrev own_rm_own_leq : Room := ({ frames := 0, cells := 0, slots := 0, locals := 0 } : Room)
set_option maxRecDepth 65536 in
set_option maxHeartbeats 40000000 in
theorem own_leq (l : Launch) (Z : State) (a0 : Array Value) (hw : ∀ d ∈ tables_1, d.before a0 Z = true) (b1 b2 : Addr) (h0 : Heap) (n0 : Nat) (Z0 : n0 ≤ h0.size) (V1 : own_Vec Z h0 b1 .byte [.int (97 : Int32)]) (V2 : own_Vec Z h0 b2 .byte [.int (98 : Int32)]) :
    own_Met l Z ({ cls := "java/lang/StringLatin1", name := "equals", desc := "([B[B)Z" } : Jvm.MethodName) jdk_43_method_13_code 3 (some .boolean) [] own_rm_own_leq #[(.ref b1), (.ref b2)] h0 n0 (fun v h => v = some (.int 0) ∧ h = h0) := by
  have ww := fun (i : Nat) {d : Jvm.Cond} (q : tables_1[i]? = some d) => hw d (List.mem_of_getElem? q)
  refine own_meet (plainFor_of_name own_pn3) Z0 (Ls0 := #[oA b1, oA b2, oU]) (by intro m; first | (simp [entryFrame, mkF, argsToLocals, Value.category]; done) | rfl) ?_
  intro p e s m below meth c T0 X0
  refine own_aloadN X0 rfl rfl own_d_jdk_43_method_13_code_0 (pc' := 1) rfl ?_
  refine own_len X0 V1 (v := (1 : Int32)) (show (1 : Nat).toInt32 = (1 : Int32) by decide) own_d_jdk_43_method_13_code_1 (pc' := 2) rfl ?_
  refine own_aloadN X0 rfl rfl own_d_jdk_43_method_13_code_2 (pc' := 3) rfl ?_
  refine own_len X0 V2 (v := (1 : Int32)) (show (1 : Nat).toInt32 = (1 : Int32) by decide) own_d_jdk_43_method_13_code_3 (pc' := 4) rfl ?_
  refine own_icmpF X0 (by decide) own_d_jdk_43_method_13_code_4 (pc' := 7) rfl ?_
  refine own_iconst X0 (v := (0 : Int32)) (by decide) own_d_jdk_43_method_13_code_7 (pc' := 8) rfl ?_
  refine own_istoreN X0 (Ls' := #[oA b1, oA b2, oI 0]) rfl own_d_jdk_43_method_13_code_8 (pc' := 9) rfl ?_
  refine own_iloadN X0 rfl own_d_jdk_43_method_13_code_9 (pc' := 10) rfl ?_
  refine own_aloadN X0 rfl rfl own_d_jdk_43_method_13_code_10 (pc' := 11) rfl ?_
  refine own_len X0 V1 (v := (1 : Int32)) (show (1 : Nat).toInt32 = (1 : Int32) by decide) own_d_jdk_43_method_13_code_11 (pc' := 12) rfl ?_
  refine own_icmpF X0 (by decide) own_d_jdk_43_method_13_code_12 (pc' := 15) rfl ?_
  refine own_aloadN X0 rfl rfl own_d_jdk_43_method_13_code_15 (pc' := 16) rfl ?_
  refine own_iloadN X0 rfl own_d_jdk_43_method_13_code_16 (pc' := 17) rfl ?_
  refine own_baload X0 V1 (i := 0) (by decide) (by decide) rfl own_d_jdk_43_method_13_code_17 (pc' := 18) rfl ?_
  refine own_aloadN X0 rfl rfl own_d_jdk_43_method_13_code_18 (pc' := 19) rfl ?_
  refine own_iloadN X0 rfl own_d_jdk_43_method_13_code_19 (pc' := 20) rfl ?_
  refine own_baload X0 V2 (i := 0) (by decide) (by decide) rfl own_d_jdk_43_method_13_code_20 (pc' := 21) rfl ?_
  refine own_icmpF X0 (by decide) own_d_jdk_43_method_13_code_21 (pc' := 24) rfl ?_
  refine own_iconst X0 (v := (0 : Int32)) (by decide) own_d_jdk_43_method_13_code_24 (pc' := 25) rfl ?_
  exact own_retZ X0 (by decide) own_d_jdk_43_method_13_code_25 rfl (by decide) (by decide) ⟨rfl, rfl⟩
theorem own_d_jdk_42_method_66_code_0 : decode jdk_42_method_66_code 0 = .ok (.aload_n 0, 1) := by decide +kernel
theorem own_d_jdk_42_method_66_code_1 : decode jdk_42_method_66_code 1 = .ok (.aload_n 1, 1) := by decide +kernel
theorem own_d_jdk_42_method_66_code_2 : decode jdk_42_method_66_code 2 = .ok (.if_acmp .ne 5, 3) := by decide +kernel
theorem own_d_jdk_42_method_66_code_5 : decode jdk_42_method_66_code 5 = .ok (.iconst 1, 1) := by decide +kernel
theorem own_d_jdk_42_method_66_code_6 : decode jdk_42_method_66_code 6 = .ok (.ireturn, 1) := by decide +kernel
theorem own_d_jdk_42_method_66_code_7 : decode jdk_42_method_66_code 7 = .ok (.aload_n 1, 1) := by decide +kernel
theorem own_d_jdk_42_method_66_code_8 : decode jdk_42_method_66_code 8 = .ok (.instanceof 10, 3) := by decide +kernel
theorem own_d_jdk_42_method_66_code_11 : decode jdk_42_method_66_code 11 = .ok (.ifCond .eq 43, 3) := by decide +kernel
theorem own_d_jdk_42_method_66_code_14 : decode jdk_42_method_66_code 14 = .ok (.aload_n 1, 1) := by decide +kernel
theorem own_d_jdk_42_method_66_code_15 : decode jdk_42_method_66_code 15 = .ok (.checkcast 10, 3) := by decide +kernel
theorem own_d_jdk_42_method_66_code_18 : decode jdk_42_method_66_code 18 = .ok (.astore_n 2, 1) := by decide +kernel
theorem own_d_jdk_42_method_66_code_19 : decode jdk_42_method_66_code 19 = .ok (.getstatic 38, 3) := by decide +kernel
theorem own_d_jdk_42_method_66_code_22 : decode jdk_42_method_66_code 22 = .ok (.ifCond .eq 14, 3) := by decide +kernel
theorem own_d_jdk_42_method_66_code_25 : decode jdk_42_method_66_code 25 = .ok (.aload_n 0, 1) := by decide +kernel
theorem own_d_jdk_42_method_66_code_26 : decode jdk_42_method_66_code 26 = .ok (.getfield 15, 3) := by decide +kernel
theorem own_d_jdk_42_method_66_code_29 : decode jdk_42_method_66_code 29 = .ok (.aload_n 2, 1) := by decide +kernel
theorem own_d_jdk_42_method_66_code_30 : decode jdk_42_method_66_code 30 = .ok (.getfield 15, 3) := by decide +kernel
theorem own_d_jdk_42_method_66_code_33 : decode jdk_42_method_66_code 33 = .ok (.if_icmp .ne 21, 3) := by decide +kernel
theorem own_d_jdk_42_method_66_code_36 : decode jdk_42_method_66_code 36 = .ok (.aload_n 0, 1) := by decide +kernel
theorem own_d_jdk_42_method_66_code_37 : decode jdk_42_method_66_code 37 = .ok (.getfield 9, 3) := by decide +kernel
theorem own_d_jdk_42_method_66_code_40 : decode jdk_42_method_66_code 40 = .ok (.aload_n 2, 1) := by decide +kernel
theorem own_d_jdk_42_method_66_code_41 : decode jdk_42_method_66_code 41 = .ok (.getfield 9, 3) := by decide +kernel
theorem own_d_jdk_42_method_66_code_44 : decode jdk_42_method_66_code 44 = .ok (.invokestatic 541, 3) := by decide +kernel
theorem own_d_jdk_42_method_66_code_47 : decode jdk_42_method_66_code 47 = .ok (.ifCond .eq 7, 3) := by decide +kernel
theorem own_d_jdk_42_method_66_code_50 : decode jdk_42_method_66_code 50 = .ok (.iconst 1, 1) := by decide +kernel
theorem own_d_jdk_42_method_66_code_51 : decode jdk_42_method_66_code 51 = .ok (.goto 4, 3) := by decide +kernel
theorem own_d_jdk_42_method_66_code_54 : decode jdk_42_method_66_code 54 = .ok (.iconst 0, 1) := by decide +kernel
theorem own_d_jdk_42_method_66_code_55 : decode jdk_42_method_66_code 55 = .ok (.ireturn, 1) := by decide +kernel
theorem own_pd4 : parseMethodDescriptor "(Ljava/lang/Object;)Z" = some ⟨[(.object "java/lang/Object")], some .boolean⟩ := by decide +kernel
abbrev own_rm_own_equ : Room := ({ frames := 1, cells := 0, slots := 0, locals := 14 } : Room)
set_option maxRecDepth 65536 in
set_option maxHeartbeats 40000000 in
theorem own_equ (l : Launch) (Z : State) (a0 : Array Value) (hw : ∀ d ∈ tables_1, d.before a0 Z = true) (a1 b1 a2 b2 : Addr) (h0 : Heap) (n0 : Nat) (Z0 : n0 ≤ h0.size) (A1 : Exa Z h0 a1 "java/lang/String") (F1a : Fld Z h0 a1 "java/lang/String" "coder" "B" (.int (0 : Int32))) (F1b : Fld Z h0 a1 "java/lang/String" "value" "[B" (.ref b1)) (V1 : own_Vec Z h0 b1 .byte [.int (97 : Int32)])(A2 : Exa Z h0 a2 "java/lang/String") (F2a : Fld Z h0 a2 "java/lang/String" "coder" "B" (.int (0 : Int32))) (F2b : Fld Z h0 a2 "java/lang/String" "value" "[B" (.ref b2)) (V2 : own_Vec Z h0 b2 .byte [.int (98 : Int32)])(cs : Int32) (S0 : Sta Z h0 "java/lang/String" "COMPACT_STRINGS" "Z" (.int cs)) (hcs : ¬ cs = 0) :
    own_Met l Z ({ cls := "java/lang/String", name := "equals", desc := "(Ljava/lang/Object;)Z" } : Jvm.MethodName) jdk_42_method_66_code 3 (some .boolean) [] own_rm_own_equ #[(.ref a1), (.ref a2)] h0 n0 (fun v h => v = some (.int 0) ∧ h = h0) := by
  have ww := fun (i : Nat) {d : Jvm.Cond} (q : tables_1[i]? = some d) => hw d (List.mem_of_getElem? q)
  refine own_meet (plainFor_of_name own_pn2) Z0 (Ls0 := #[oA a1, oA a2, oU]) (by intro m; first | (simp [entryFrame, mkF, argsToLocals, Value.category]; done) | rfl) ?_
  intro p e s m below meth c T0 X0
  refine own_aloadN X0 rfl rfl own_d_jdk_42_method_66_code_0 (pc' := 1) rfl ?_
  refine own_aloadN X0 rfl rfl own_d_jdk_42_method_66_code_1 (pc' := 2) rfl ?_
  refine own_acmpT X0 rfl rfl (XT.aa_ne_t (fun q => own_strne F1b V1 F2b V2 (by simp) (Value.ref.inj q))) own_d_jdk_42_method_66_code_2 (pc' := 7) (by decide) (by decide) ?_
  refine own_aloadN X0 rfl rfl own_d_jdk_42_method_66_code_7 (pc' := 8) rfl ?_
  refine own_inst X0 (ww 44 rfl) A2 own_d_jdk_42_method_66_code_8 (pc' := 11) rfl fun T3 X3 => ?_
  refine own_ifF X3 (by decide) own_d_jdk_42_method_66_code_11 (pc' := 14) rfl ?_
  refine own_aloadN X3 rfl rfl own_d_jdk_42_method_66_code_14 (pc' := 15) rfl ?_
  refine own_cast_ X3 (ww 44 rfl) A2 own_d_jdk_42_method_66_code_15 (pc' := 18) rfl fun T4 X4 => ?_
  refine own_astoreN X4 (Ls' := #[oA a1, oA a2, oA a2]) rfl rfl own_d_jdk_42_method_66_code_18 (pc' := 19) rfl ?_
  refine own_getS X4 (ww 46 rfl) S0 own_d_jdk_42_method_66_code_19 (pc' := 22) rfl fun T5 X5 => ?_
  have c6 : ¬ (cs = 0) := hcs
  refine own_ifF X5 (own_z_ne c6).1 own_d_jdk_42_method_66_code_22 (pc' := 25) rfl ?_
  refine own_aloadN X5 rfl rfl own_d_jdk_42_method_66_code_25 (pc' := 26) rfl ?_
  refine own_getF X5 (ww 47 rfl) F1a own_d_jdk_42_method_66_code_26 (pc' := 29) rfl fun T7 X7 => ?_
  refine own_aloadN X7 rfl rfl own_d_jdk_42_method_66_code_29 (pc' := 30) rfl ?_
  refine own_getF X7 (ww 47 rfl) F2a own_d_jdk_42_method_66_code_30 (pc' := 33) rfl fun T8 X8 => ?_
  refine own_icmpF X8 (by decide) own_d_jdk_42_method_66_code_33 (pc' := 36) rfl ?_
  refine own_aloadN X8 rfl rfl own_d_jdk_42_method_66_code_36 (pc' := 37) rfl ?_
  refine own_getF X8 (ww 38 rfl) F1b own_d_jdk_42_method_66_code_37 (pc' := 40) rfl fun T9 X9 => ?_
  refine own_aloadN X9 rfl rfl own_d_jdk_42_method_66_code_40 (pc' := 41) rfl ?_
  refine own_getF X9 (ww 38 rfl) F2b own_d_jdk_42_method_66_code_41 (pc' := 44) rfl fun T10 X10 => ?_
  refine own_callS X10 (own_leq l Z a0 hw b1 b2 _ n0 X10.le V1 V2) (ww 48 rfl) (ww 49 rfl) (ww 50 rfl) (ww 51 rfl) (by decide) rfl (by decide) (W := 0) (Nat.le_of_eq rfl) (by decide) (cells' := 0) (slots' := 0) rfl rfl (by decide) (by decide) (argsL := [(.ref b1), (.ref b2)]) (rest := []) (lenOf own_pd3 rfl) rfl rfl own_d_jdk_42_method_66_code_44 (pc' := 47) rfl ?_
  rintro _ T11 h11 X11 ⟨rfl, e11⟩
  subst e11
  show own_Goal p e below _ T11 (mkF m 47 #[oA a1, oA a2, oA a2] [(.int (0 : Int32))])
  refine own_ifT X11 (by decide) own_d_jdk_42_method_66_code_47 (pc' := 54) (by decide) (by decide) ?_
  refine own_iconst X11 (v := (0 : Int32)) (by decide) own_d_jdk_42_method_66_code_54 (pc' := 55) rfl ?_
  exact own_retZ X11 (by decide) own_d_jdk_42_method_66_code_55 rfl (by decide) (by decide) ⟨rfl, rfl⟩
theorem own_d_jdk_117_method_7_code_0 : decode jdk_117_method_7_code 0 = .ok (.dload_n 0, 1) := by decide +kernel
theorem own_d_jdk_117_method_7_code_1 : decode jdk_117_method_7_code 1 = .ok (.invokestatic 38, 3) := by decide +kernel
theorem own_d_jdk_117_method_7_code_4 : decode jdk_117_method_7_code 4 = .ok (.ldc2_w 111, 3) := by decide +kernel
theorem own_d_jdk_117_method_7_code_7 : decode jdk_117_method_7_code 7 = .ok (.dcmp .l, 1) := by decide +kernel
theorem own_d_jdk_117_method_7_code_8 : decode jdk_117_method_7_code 8 = .ok (.ifCond .le 7, 3) := by decide +kernel
theorem own_d_jdk_117_method_7_code_11 : decode jdk_117_method_7_code 11 = .ok (.iconst 1, 1) := by decide +kernel
theorem own_d_jdk_117_method_7_code_12 : decode jdk_117_method_7_code 12 = .ok (.goto 4, 3) := by decide +kernel
theorem own_d_jdk_117_method_7_code_15 : decode jdk_117_method_7_code 15 = .ok (.iconst 0, 1) := by decide +kernel
theorem own_d_jdk_117_method_7_code_16 : decode jdk_117_method_7_code 16 = .ok (.ireturn, 1) := by decide +kernel
theorem own_pd5 : parseMethodDescriptor "(D)Z" = some ⟨[.double], some .boolean⟩ := by decide +kernel
theorem own_pn4 : plainName "java/lang/Double" = true := by first | (simp [plainName, overriddenIn]; done) | decide +kernel
theorem own_pd6 : parseMethodDescriptor "(D)D" = some ⟨[.double], some .double⟩ := by decide +kernel
abbrev own_rm_own_inf : Room := ({ frames := 1, cells := 0, slots := 0, locals := 13 } : Room)
set_option maxRecDepth 65536 in
set_option maxHeartbeats 40000000 in
theorem own_inf (l : Launch) (Z : State) (a0 : Array Value) (hw : ∀ d ∈ tables_1, d.before a0 Z = true) (x0 : UInt64) (h0 : Heap) (n0 : Nat) (Z0 : n0 ≤ h0.size) (hfin : Jvm.Free.Fl.Fin64 x0) :
    own_Met l Z ({ cls := "java/lang/Double", name := "isInfinite", desc := "(D)Z" } : Jvm.MethodName) jdk_117_method_7_code 2 (some .boolean) [] own_rm_own_inf #[(.double x0)] h0 n0 (fun v h => v = some (.int 0) ∧ h = h0) := by
  have ww := fun (i : Nat) {d : Jvm.Cond} (q : tables_1[i]? = some d) => hw d (List.mem_of_getElem? q)
  refine own_meet (plainFor_of_name own_pn4) Z0 (Ls0 := #[.val (.double x0), .second]) (by intro m; first | (simp [entryFrame, mkF, argsToLocals, Value.category]; done) | rfl) ?_
  intro p e s m below meth c T0 X0
  refine own_dloadN X0 rfl own_d_jdk_117_method_7_code_0 (pc' := 1) rfl ?_
  refine own_absD X0 (ww 56 rfl) (ww 57 rfl) (ww 58 rfl) (ww 59 rfl) hfin.noNaN rfl rfl (by decide) (W := 0) (Nat.le_of_eq rfl) (by decide) (by decide) (by decide) (lenOf (L := [Value.double x0]) own_pd6 rfl) own_d_jdk_117_method_7_code_1 (pc' := 4) rfl fun T12 X12 => ?_
  refine own_ldcD X12 (v := (9218868437227405311 : UInt64)) (ww 60 rfl) own_d_jdk_117_method_7_code_4 (pc' := 7) rfl ?_
  refine own_dcmp X12 rfl own_d_jdk_117_method_7_code_7 (pc' := 8) rfl ?_
  refine own_ifT X12 (own_finle hfin) own_d_jdk_117_method_7_code_8 (pc' := 15) (by decide) (by decide) ?_
  refine own_iconst X12 (v := (0 : Int32)) (by decide) own_d_jdk_117_method_7_code_15 (pc' := 16) rfl ?_
  exact own_retZ X12 (by decide) own_d_jdk_117_method_7_code_16 rfl (by decide) (by decide) ⟨rfl, rfl⟩
theorem own_d_prog_8_method_3_code_0 : decode prog_8_method_3_code 0 = .ok (.dload_n 1, 1) := by decide +kernel
theorem own_d_prog_8_method_3_code_1 : decode prog_8_method_3_code 1 = .ok (.aload_n 0, 1) := by decide +kernel
theorem own_d_prog_8_method_3_code_2 : decode prog_8_method_3_code 2 = .ok (.getfield 63, 3) := by decide +kernel
theorem own_d_prog_8_method_3_code_5 : decode prog_8_method_3_code 5 = .ok (.ldc2_w 79, 3) := by decide +kernel
theorem own_d_prog_8_method_3_code_8 : decode prog_8_method_3_code 8 = .ok (.dmul, 1) := by decide +kernel
theorem own_d_prog_8_method_3_code_9 : decode prog_8_method_3_code 9 = .ok (.dcmp .l, 1) := by decide +kernel
theorem own_d_prog_8_method_3_code_10 : decode prog_8_method_3_code 10 = .ok (.ifCond .lt 7, 3) := by decide +kernel
theorem own_d_prog_8_method_3_code_13 : decode prog_8_method_3_code 13 = .ok (.iconst 1, 1) := by decide +kernel
theorem own_d_prog_8_method_3_code_14 : decode prog_8_method_3_code 14 = .ok (.goto 4, 3) := by decide +kernel
theorem own_d_prog_8_method_3_code_17 : decode prog_8_method_3_code 17 = .ok (.iconst 0, 1) := by decide +kernel
theorem own_d_prog_8_method_3_code_18 : decode prog_8_method_3_code 18 = .ok (.ireturn, 1) := by decide +kernel
theorem own_pn5 : plainName "com/example/duepath/duepath/Request" = true := by first | (simp [plainName, overriddenIn]; done) | decide +kernel
abbrev own_rm_own_imb : Room := ({ frames := 0, cells := 0, slots := 0, locals := 0 } : Room)
set_option maxRecDepth 65536 in
set_option maxHeartbeats 40000000 in
theorem own_imb (l : Launch) (Z : State) (a0 : Array Value) (hw : ∀ d ∈ tables_1, d.before a0 Z = true) (a1 : Addr) (x0 x1 : UInt64) (i_x0 i_x1 : Int) (b0 b1 : Nat) (h0 : Heap) (n0 : Nat) (Z0 : n0 ≤ h0.size) (F1 : Fld Z h0 a1 "com/example/duepath/duepath/Request" "size" "D" (.double x1)) (D_x0 : own_D 0 b0 i_x0 x0) (D_x1 : own_D 0 b1 i_x1 x1) (h1 : 1 ≤ i_x1) (h2 : i_x1 ≤ 2147483647) (h3 : ¬ i_x1 % 1000000 = 0) :
    own_Met l Z ({ cls := "com/example/duepath/duepath/Request", name := "isMetBy", desc := "(D)Z" } : Jvm.MethodName) prog_8_method_3_code 3 (some .boolean) [] own_rm_own_imb #[(.ref a1), (.double x0)] h0 n0 (fun v h => v = some (.int (if 1000000 * i_x0 < 999999 * i_x1 then 0 else 1)) ∧ h = h0) := by
  have ww := fun (i : Nat) {d : Jvm.Cond} (q : tables_1[i]? = some d) => hw d (List.mem_of_getElem? q)
  refine own_meet (plainFor_of_name own_pn5) Z0 (Ls0 := #[oA a1, .val (.double x0), .second]) (by intro m; first | (simp [entryFrame, mkF, argsToLocals, Value.category]; done) | rfl) ?_
  intro p e s m below meth c T0 X0
  refine own_dloadN X0 rfl own_d_prog_8_method_3_code_0 (pc' := 1) rfl ?_
  refine own_aloadN X0 rfl rfl own_d_prog_8_method_3_code_1 (pc' := 2) rfl ?_
  refine own_getF X0 (ww 67 rfl) F1 own_d_prog_8_method_3_code_2 (pc' := 5) rfl fun T13 X13 => ?_
  refine own_ldcD X13 (v := (4607182409792818153 : UInt64)) (ww 80 rfl) own_d_prog_8_method_3_code_5 (pc' := 8) rfl ?_
  obtain ⟨d15, e15⟩ : ∃ v, FP.dmul x1 (4607182409792818153 : UInt64) = v := ⟨_, rfl⟩
  have m15 := own_met D_x1 h1 h2 h3 e15
  refine own_dmul X13 e15 m15.1 own_d_prog_8_method_3_code_8 (pc' := 9) rfl ?_
  refine own_dcmp X13 (m15.2 D_x0) own_d_prog_8_method_3_code_9 (pc' := 10) rfl ?_
  by_cases c16 : (1000000 * i_x0) < (999999 * i_x1)
  · -- yes c16
    refine own_ifT X13 (own_c3_lt c16).1 own_d_prog_8_method_3_code_10 (pc' := 17) (by decide) (by decide) ?_
    refine own_iconst X13 (v := (0 : Int32)) (by decide) own_d_prog_8_method_3_code_17 (pc' := 18) rfl ?_
    exact own_retZ X13 (by decide) own_d_prog_8_method_3_code_18 rfl (by decide) (by decide) ⟨by rw [if_pos c16], rfl⟩
  · -- no c16
    refine own_ifF X13 (own_c3_nlt c16).1 own_d_prog_8_method_3_code_10 (pc' := 13) rfl ?_
    refine own_iconst X13 (v := (1 : Int32)) (by decide) own_d_prog_8_method_3_code_13 (pc' := 14) rfl ?_
    refine own_goto X13 own_d_prog_8_method_3_code_14 (pc' := 18) (by decide) (by decide) ?_
    exact own_retZ X13 (by decide) own_d_prog_8_method_3_code_18 rfl (by decide) (by decide) ⟨by rw [if_neg c16], rfl⟩
theorem own_d_prog_8_method_1_code_0 : decode prog_8_method_1_code 0 = .ok (.aload_n 0, 1) := by decide +kernel
theorem own_d_prog_8_method_1_code_1 : decode prog_8_method_1_code 1 = .ok (.invokespecial 1, 3) := by decide +kernel
theorem own_d_prog_8_method_1_code_4 : decode prog_8_method_1_code 4 = .ok (.aload_n 1, 1) := by decide +kernel
theorem own_d_prog_8_method_1_code_5 : decode prog_8_method_1_code 5 = .ok (.ldc 7, 2) := by decide +kernel
theorem own_d_prog_8_method_1_code_7 : decode prog_8_method_1_code 7 = .ok (.invokestatic 9, 3) := by decide +kernel
theorem own_d_prog_8_method_1_code_10 : decode prog_8_method_1_code 10 = .ok (.pop, 1) := by decide +kernel
theorem own_d_prog_8_method_1_code_11 : decode prog_8_method_1_code 11 = .ok (.aload_n 2, 1) := by decide +kernel
theorem own_d_prog_8_method_1_code_12 : decode prog_8_method_1_code 12 = .ok (.ldc 15, 2) := by decide +kernel
theorem own_d_prog_8_method_1_code_14 : decode prog_8_method_1_code 14 = .ok (.invokestatic 9, 3) := by decide +kernel
theorem own_d_prog_8_method_1_code_17 : decode prog_8_method_1_code 17 = .ok (.pop, 1) := by decide +kernel
theorem own_d_prog_8_method_1_code_18 : decode prog_8_method_1_code 18 = .ok (.aload_n 3, 1) := by decide +kernel
theorem own_d_prog_8_method_1_code_19 : decode prog_8_method_1_code 19 = .ok (.ldc 17, 2) := by decide +kernel
theorem own_d_prog_8_method_1_code_21 : decode prog_8_method_1_code 21 = .ok (.invokestatic 9, 3) := by decide +kernel
theorem own_d_prog_8_method_1_code_24 : decode prog_8_method_1_code 24 = .ok (.pop, 1) := by decide +kernel
theorem own_d_prog_8_method_1_code_25 : decode prog_8_method_1_code 25 = .ok (.aload_n 1, 1) := by decide +kernel
theorem own_d_prog_8_method_1_code_26 : decode prog_8_method_1_code 26 = .ok (.invokevirtual 19, 3) := by decide +kernel
theorem own_d_prog_8_method_1_code_29 : decode prog_8_method_1_code 29 = .ok (.ifCond .eq 13, 3) := by decide +kernel
theorem own_d_prog_8_method_1_code_32 : decode prog_8_method_1_code 32 = .ok (.new 25, 3) := by decide +kernel
theorem own_d_prog_8_method_1_code_35 : decode prog_8_method_1_code 35 = .ok (.dup, 1) := by decide +kernel
theorem own_d_prog_8_method_1_code_36 : decode prog_8_method_1_code 36 = .ok (.ldc 27, 2) := by decide +kernel
theorem own_d_prog_8_method_1_code_38 : decode prog_8_method_1_code 38 = .ok (.invokespecial 29, 3) := by decide +kernel
theorem own_d_prog_8_method_1_code_41 : decode prog_8_method_1_code 41 = .ok (.athrow, 1) := by decide +kernel
theorem own_d_prog_8_method_1_code_42 : decode prog_8_method_1_code 42 = .ok (.aload_n 2, 1) := by decide +kernel
theorem own_d_prog_8_method_1_code_43 : decode prog_8_method_1_code 43 = .ok (.aload_n 3, 1) := by decide +kernel
theorem own_d_prog_8_method_1_code_44 : decode prog_8_method_1_code 44 = .ok (.invokevirtual 32, 3) := by decide +kernel
theorem own_d_prog_8_method_1_code_47 : decode prog_8_method_1_code 47 = .ok (.ifCond .eq 17, 3) := by decide +kernel
theorem own_d_prog_8_method_1_code_50 : decode prog_8_method_1_code 50 = .ok (.new 25, 3) := by decide +kernel
theorem own_d_prog_8_method_1_code_53 : decode prog_8_method_1_code 53 = .ok (.dup, 1) := by decide +kernel
theorem own_d_prog_8_method_1_code_54 : decode prog_8_method_1_code 54 = .ok (.aload_n 2, 1) := by decide +kernel
theorem own_d_prog_8_method_1_code_60 : decode prog_8_method_1_code 60 = .ok (.invokespecial 29, 3) := by decide +kernel
theorem own_d_prog_8_method_1_code_63 : decode prog_8_method_1_code 63 = .ok (.athrow, 1) := by decide +kernel
theorem own_d_prog_8_method_1_code_64 : decode prog_8_method_1_code 64 = .ok (.dload 4, 2) := by decide +kernel
theorem own_d_prog_8_method_1_code_66 : decode prog_8_method_1_code 66 = .ok (.dconst 0, 1) := by decide +kernel
theorem own_d_prog_8_method_1_code_67 : decode prog_8_method_1_code 67 = .ok (.dcmp .l, 1) := by decide +kernel
theorem own_d_prog_8_method_1_code_68 : decode prog_8_method_1_code 68 = .ok (.ifCond .le 11, 3) := by decide +kernel
theorem own_d_prog_8_method_1_code_71 : decode prog_8_method_1_code 71 = .ok (.dload 4, 2) := by decide +kernel
theorem own_d_prog_8_method_1_code_73 : decode prog_8_method_1_code 73 = .ok (.invokestatic 40, 3) := by decide +kernel
theorem own_d_prog_8_method_1_code_76 : decode prog_8_method_1_code 76 = .ok (.ifCond .eq 18, 3) := by decide +kernel
theorem own_d_prog_8_method_1_code_79 : decode prog_8_method_1_code 79 = .ok (.new 25, 3) := by decide +kernel
theorem own_d_prog_8_method_1_code_82 : decode prog_8_method_1_code 82 = .ok (.dup, 1) := by decide +kernel
theorem own_d_prog_8_method_1_code_83 : decode prog_8_method_1_code 83 = .ok (.dload 4, 2) := by decide +kernel
theorem own_d_prog_8_method_1_code_90 : decode prog_8_method_1_code 90 = .ok (.invokespecial 29, 3) := by decide +kernel
theorem own_d_prog_8_method_1_code_93 : decode prog_8_method_1_code 93 = .ok (.athrow, 1) := by decide +kernel
theorem own_d_prog_8_method_1_code_94 : decode prog_8_method_1_code 94 = .ok (.dload 6, 2) := by decide +kernel
theorem own_d_prog_8_method_1_code_96 : decode prog_8_method_1_code 96 = .ok (.dconst 0, 1) := by decide +kernel
theorem own_d_prog_8_method_1_code_97 : decode prog_8_method_1_code 97 = .ok (.dcmp .l, 1) := by decide +kernel
theorem own_d_prog_8_method_1_code_98 : decode prog_8_method_1_code 98 = .ok (.ifCond .lt 11, 3) := by decide +kernel
theorem own_d_prog_8_method_1_code_101 : decode prog_8_method_1_code 101 = .ok (.dload 6, 2) := by decide +kernel
theorem own_d_prog_8_method_1_code_103 : decode prog_8_method_1_code 103 = .ok (.invokestatic 40, 3) := by decide +kernel
theorem own_d_prog_8_method_1_code_106 : decode prog_8_method_1_code 106 = .ok (.ifCond .eq 18, 3) := by decide +kernel
theorem own_d_prog_8_method_1_code_109 : decode prog_8_method_1_code 109 = .ok (.new 25, 3) := by decide +kernel
theorem own_d_prog_8_method_1_code_112 : decode prog_8_method_1_code 112 = .ok (.dup, 1) := by decide +kernel
theorem own_d_prog_8_method_1_code_113 : decode prog_8_method_1_code 113 = .ok (.dload 6, 2) := by decide +kernel
theorem own_d_prog_8_method_1_code_120 : decode prog_8_method_1_code 120 = .ok (.invokespecial 29, 3) := by decide +kernel
theorem own_d_prog_8_method_1_code_123 : decode prog_8_method_1_code 123 = .ok (.athrow, 1) := by decide +kernel
theorem own_d_prog_8_method_1_code_124 : decode prog_8_method_1_code 124 = .ok (.dload 8, 2) := by decide +kernel
theorem own_d_prog_8_method_1_code_126 : decode prog_8_method_1_code 126 = .ok (.dload 6, 2) := by decide +kernel
theorem own_d_prog_8_method_1_code_128 : decode prog_8_method_1_code 128 = .ok (.dcmp .l, 1) := by decide +kernel
theorem own_d_prog_8_method_1_code_129 : decode prog_8_method_1_code 129 = .ok (.ifCond .le 11, 3) := by decide +kernel
theorem own_d_prog_8_method_1_code_132 : decode prog_8_method_1_code 132 = .ok (.dload 8, 2) := by decide +kernel
theorem own_d_prog_8_method_1_code_134 : decode prog_8_method_1_code 134 = .ok (.invokestatic 40, 3) := by decide +kernel
theorem own_d_prog_8_method_1_code_137 : decode prog_8_method_1_code 137 = .ok (.ifCond .eq 20, 3) := by decide +kernel
theorem own_d_prog_8_method_1_code_140 : decode prog_8_method_1_code 140 = .ok (.new 25, 3) := by decide +kernel
theorem own_d_prog_8_method_1_code_143 : decode prog_8_method_1_code 143 = .ok (.dup, 1) := by decide +kernel
theorem own_d_prog_8_method_1_code_144 : decode prog_8_method_1_code 144 = .ok (.dload 8, 2) := by decide +kernel
theorem own_d_prog_8_method_1_code_146 : decode prog_8_method_1_code 146 = .ok (.dload 6, 2) := by decide +kernel
theorem own_d_prog_8_method_1_code_153 : decode prog_8_method_1_code 153 = .ok (.invokespecial 29, 3) := by decide +kernel
theorem own_d_prog_8_method_1_code_156 : decode prog_8_method_1_code 156 = .ok (.athrow, 1) := by decide +kernel
theorem own_d_prog_8_method_1_code_157 : decode prog_8_method_1_code 157 = .ok (.dload 10, 2) := by decide +kernel
theorem own_d_prog_8_method_1_code_159 : decode prog_8_method_1_code 159 = .ok (.dconst 0, 1) := by decide +kernel
theorem own_d_prog_8_method_1_code_160 : decode prog_8_method_1_code 160 = .ok (.dcmp .l, 1) := by decide +kernel
theorem own_d_prog_8_method_1_code_161 : decode prog_8_method_1_code 161 = .ok (.ifCond .lt 11, 3) := by decide +kernel
theorem own_d_prog_8_method_1_code_164 : decode prog_8_method_1_code 164 = .ok (.dload 10, 2) := by decide +kernel
theorem own_d_prog_8_method_1_code_166 : decode prog_8_method_1_code 166 = .ok (.invokestatic 40, 3) := by decide +kernel
theorem own_d_prog_8_method_1_code_169 : decode prog_8_method_1_code 169 = .ok (.ifCond .eq 18, 3) := by decide +kernel
theorem own_d_prog_8_method_1_code_172 : decode prog_8_method_1_code 172 = .ok (.new 25, 3) := by decide +kernel
theorem own_d_prog_8_method_1_code_175 : decode prog_8_method_1_code 175 = .ok (.dup, 1) := by decide +kernel
theorem own_d_prog_8_method_1_code_176 : decode prog_8_method_1_code 176 = .ok (.dload 10, 2) := by decide +kernel
theorem own_d_prog_8_method_1_code_183 : decode prog_8_method_1_code 183 = .ok (.invokespecial 29, 3) := by decide +kernel
theorem own_d_prog_8_method_1_code_186 : decode prog_8_method_1_code 186 = .ok (.athrow, 1) := by decide +kernel
theorem own_d_prog_8_method_1_code_187 : decode prog_8_method_1_code 187 = .ok (.aload_n 0, 1) := by decide +kernel
theorem own_d_prog_8_method_1_code_188 : decode prog_8_method_1_code 188 = .ok (.aload_n 1, 1) := by decide +kernel
theorem own_d_prog_8_method_1_code_189 : decode prog_8_method_1_code 189 = .ok (.putfield 54, 3) := by decide +kernel
theorem own_d_prog_8_method_1_code_192 : decode prog_8_method_1_code 192 = .ok (.aload_n 0, 1) := by decide +kernel
theorem own_d_prog_8_method_1_code_193 : decode prog_8_method_1_code 193 = .ok (.aload_n 2, 1) := by decide +kernel
theorem own_d_prog_8_method_1_code_194 : decode prog_8_method_1_code 194 = .ok (.putfield 59, 3) := by decide +kernel
theorem own_d_prog_8_method_1_code_197 : decode prog_8_method_1_code 197 = .ok (.aload_n 0, 1) := by decide +kernel
theorem own_d_prog_8_method_1_code_198 : decode prog_8_method_1_code 198 = .ok (.aload_n 3, 1) := by decide +kernel
theorem own_d_prog_8_method_1_code_199 : decode prog_8_method_1_code 199 = .ok (.putfield 61, 3) := by decide +kernel
theorem own_d_prog_8_method_1_code_202 : decode prog_8_method_1_code 202 = .ok (.aload_n 0, 1) := by decide +kernel
theorem own_d_prog_8_method_1_code_203 : decode prog_8_method_1_code 203 = .ok (.dload 4, 2) := by decide +kernel
theorem own_d_prog_8_method_1_code_205 : decode prog_8_method_1_code 205 = .ok (.putfield 63, 3) := by decide +kernel
theorem own_d_prog_8_method_1_code_208 : decode prog_8_method_1_code 208 = .ok (.aload_n 0, 1) := by decide +kernel
theorem own_d_prog_8_method_1_code_209 : decode prog_8_method_1_code 209 = .ok (.dload 6, 2) := by decide +kernel
theorem own_d_prog_8_method_1_code_211 : decode prog_8_method_1_code 211 = .ok (.putfield 67, 3) := by decide +kernel
theorem own_d_prog_8_method_1_code_214 : decode prog_8_method_1_code 214 = .ok (.aload_n 0, 1) := by decide +kernel
theorem own_d_prog_8_method_1_code_215 : decode prog_8_method_1_code 215 = .ok (.dload 8, 2) := by decide +kernel
theorem own_d_prog_8_method_1_code_217 : decode prog_8_method_1_code 217 = .ok (.putfield 70, 3) := by decide +kernel
theorem own_d_prog_8_method_1_code_220 : decode prog_8_method_1_code 220 = .ok (.aload_n 0, 1) := by decide +kernel
theorem own_d_prog_8_method_1_code_221 : decode prog_8_method_1_code 221 = .ok (.dload 10, 2) := by decide +kernel
theorem own_d_prog_8_method_1_code_223 : decode prog_8_method_1_code 223 = .ok (.putfield 73, 3) := by decide +kernel
theorem own_d_prog_8_method_1_code_226 : decode prog_8_method_1_code 226 = .ok (.return_, 1) := by decide +kernel
theorem own_pd7 : parseMethodDescriptor "(Ljava/lang/String;Ljava/lang/String;Ljava/lang/String;DDDD)V" = some ⟨[(.object "java/lang/String"), (.object "java/lang/String"), (.object "java/lang/String"), .double, .double, .double, .double], none⟩ := by decide +kernel
abbrev own_rm_own_ini : Room := ({ frames := 2, cells := 6, slots := 88, locals := 28 } : Room)
set_option maxRecDepth 65536 in
set_option maxHeartbeats 40000000 in
theorem own_ini (l : Launch) (Z : State) (a0 : Array Value) (hw : ∀ d ∈ tables_1, d.before a0 Z = true) (a1 s1 b1 s2 b2 s3 b3 : Addr) (x0 : UInt64) (i_x0 : Int) (h0 : Heap) (n0 : Nat) (Z0 : n0 ≤ h0.size) (ge1 : n0 ≤ a1) (B1 : Exa Z h0 a1 "com/example/duepath/duepath/Request") (G0 : Fld Z h0 a1 "com/example/duepath/duepath/Request" "id" "Ljava/lang/String;" .null) (G1 : Fld Z h0 a1 "com/example/duepath/duepath/Request" "source" "Ljava/lang/String;" .null) (G2 : Fld Z h0 a1 "com/example/duepath/duepath/Request" "destination" "Ljava/lang/String;" .null) (G3 : Fld Z h0 a1 "com/example/duepath/duepath/Request" "size" "D" (.double (0 : UInt64))) (G4 : Fld Z h0 a1 "com/example/duepath/duepath/Request" "release" "D" (.double (0 : UInt64))) (G5 : Fld Z h0 a1 "com/example/duepath/duepath/Request" "deadline" "D" (.double (0 : UInt64))) (G6 : Fld Z h0 a1 "com/example/duepath/duepath/Request" "value" "D" (.double (0 : UInt64))) (A1 : Exa Z h0 s1 "java/lang/String") (F1a : Fld Z h0 s1 "java/lang/String" "coder" "B" (.int (0 : Int32))) (F1b : Fld Z h0 s1 "java/lang/String" "value" "[B" (.ref b1)) (V1 : own_Vec Z h0 b1 .byte [.int (114 : Int32)])(A2 : Exa Z h0 s2 "java/lang/String") (F2a : Fld Z h0 s2 "java/lang/String" "coder" "B" (.int (0 : Int32))) (F2b : Fld Z h0 s2 "java/lang/String" "value" "[B" (.ref b2)) (V2 : own_Vec Z h0 b2 .byte [.int (97 : Int32)])(A3 : Exa Z h0 s3 "java/lang/String") (F3a : Fld Z h0 s3 "java/lang/String" "coder" "B" (.int (0 : Int32))) (F3b : Fld Z h0 s3 "java/lang/String" "value" "[B" (.ref b3)) (V3 : own_Vec Z h0 b3 .byte [.int (98 : Int32)]) (D_x0 : own_D 0 2147483647 i_x0 x0) (hi : 1 ≤ i_x0) (cs : Int32) (S0 : Sta Z h0 "java/lang/String" "COMPACT_STRINGS" "Z" (.int cs)) (hcs : ¬ cs = 0) :
    own_MetW l Z ({ cls := "com/example/duepath/duepath/Request", name := "<init>", desc := "(Ljava/lang/String;Ljava/lang/String;Ljava/lang/String;DDDD)V" } : Jvm.MethodName) prog_8_method_1_code 12 none [] own_rm_own_ini #[(.ref a1), (.ref s1), (.ref s2), (.ref s3), (.double x0), (.double (0 : UInt64)), (.double (4607182418800017408 : UInt64)), (.double (4607182418800017408 : UInt64))] h0 n0 (fun v h => v = none ∧ Exa Z h a1 "com/example/duepath/duepath/Request" ∧ Fld Z h a1 "com/example/duepath/duepath/Request" "size" "D" (.double x0)) := by
  have ww := fun (i : Nat) {d : Jvm.Cond} (q : tables_1[i]? = some d) => hw d (List.mem_of_getElem? q)
  refine own_meetW (plainFor_of_name own_pn5) Z0 (Ls0 := #[oA a1, oA s1, oA s2, oA s3, .val (.double x0), .second, .val (.double (0 : UInt64)), .second, .val (.double (4607182418800017408 : UInt64)), .second, .val (.double (4607182418800017408 : UInt64)), .second]) (by intro m; first | (simp [entryFrame, mkF, argsToLocals, Value.category]; done) | rfl) ?_
  intro p e s m below meth c T0 vm0 k0 hS0 hk0 X0
  have wS : ∀ d ∈ Bundle.stringAtoms, d.before a0 Z = true := by
    intro d hd
    simp only [Bundle.stringAtoms, List.mem_cons, List.not_mem_nil, or_false] at hd
    rcases hd with rfl | rfl | rfl | rfl | rfl | rfl | rfl
    · exact ww 6 rfl
    · exact ww 7 rfl
    · exact ww 8 rfl
    · exact ww 9 rfl
    · exact ww 10 rfl
    · exact ww 11 rfl
    · exact ww 12 rfl
  refine own_aloadN X0 rfl rfl own_d_prog_8_method_1_code_0 (pc' := 1) rfl ?_
  refine own_special X0 (own_rec l Z a0 hw a1 _ n0 X0.le) rfl rfl (ww 18 rfl) (ww 19 rfl) (ww 21 rfl) (ww 22 rfl) (by decide) rfl (by decide) (W := 0) (Nat.le_of_eq rfl) (by decide) (cells' := 0) (slots' := 0) rfl rfl (by decide) (by decide) (argsL := []) (rest := []) (lenOf own_pd0 rfl) rfl rfl own_d_prog_8_method_1_code_1 (pc' := 4) rfl ?_
  rintro _ T17 h17 X17 ⟨rfl, e17⟩
  subst e17
  show own_Goal p e below _ T17 (mkF m 4 #[oA a1, oA s1, oA s2, oA s3, .val (.double x0), .second, .val (.double (0 : UInt64)), .second, .val (.double (4607182418800017408 : UInt64)), .second, .val (.double (4607182418800017408 : UInt64)), .second] [])
  refine own_aloadN X17 rfl rfl own_d_prog_8_method_1_code_4 (pc' := 5) rfl ?_
  refine own_ldcS X17 hS0 hk0 (ww 26 rfl) wS (n := 8) (by decide) (by decide) (cells' := 2) (slots' := 12) rfl rfl (by decide) (by decide) own_d_prog_8_method_1_code_5 (pc' := 7) rfl fun a18 T18 h18 vm18 k18 hS18 hkn18 X18 E18 => ?_
  have A19 := B1.ext E18
  have F20 := G0.ext E18
  have F21 := G1.ext E18
  have F22 := G2.ext E18
  have F23 := G3.ext E18
  have F24 := G4.ext E18
  have F25 := G5.ext E18
  have F26 := G6.ext E18
  have A27 := A1.ext E18
  have F28 := F1a.ext E18
  have F29 := F1b.ext E18
  have V30 := V1.ext E18
  have A31 := A2.ext E18
  have F32 := F2a.ext E18
  have F33 := F2b.ext E18
  have V34 := V2.ext E18
  have A35 := A3.ext E18
  have F36 := F3a.ext E18
  have F37 := F3b.ext E18
  have V38 := V3.ext E18
  have S39 := S0.ext E18
  refine own_callS X18 (own_rnn l Z a0 hw s1 a18 _ n0 X18.le) (ww 27 rfl) (ww 28 rfl) (ww 29 rfl) (ww 30 rfl) (by decide) rfl (by decide) (W := 0) (Nat.le_of_eq rfl) (by decide) (cells' := 2) (slots' := 12) rfl rfl (by decide) (by decide) (argsL := [(.ref s1), (.ref a18)]) (rest := []) (lenOf own_pd1 rfl) rfl rfl own_d_prog_8_method_1_code_7 (pc' := 10) rfl ?_
  rintro _ T40 h40 X40 ⟨rfl, e40⟩
  subst e40
  show own_Goal p e below _ T40 (mkF m 10 #[oA a1, oA s1, oA s2, oA s3, .val (.double x0), .second, .val (.double (0 : UInt64)), .second, .val (.double (4607182418800017408 : UInt64)), .second, .val (.double (4607182418800017408 : UInt64)), .second] [(.ref s1)])
  refine own_pop X40 rfl own_d_prog_8_method_1_code_10 (pc' := 11) rfl ?_
  refine own_aloadN X40 rfl rfl own_d_prog_8_method_1_code_11 (pc' := 12) rfl ?_
  refine own_ldcS X40 hS18 hkn18 (ww 31 rfl) wS (n := 24) (by decide) (by decide) (cells' := 4) (slots' := 40) rfl rfl (by decide) (by decide) own_d_prog_8_method_1_code_12 (pc' := 14) rfl fun a41 T41 h41 vm41 k41 hS41 hkn41 X41 E41 => ?_
  have A42 := A19.ext E41
  have F43 := F20.ext E41
  have F44 := F21.ext E41
  have F45 := F22.ext E41
  have F46 := F23.ext E41
  have F47 := F24.ext E41
  have F48 := F25.ext E41
  have F49 := F26.ext E41
  have A50 := A27.ext E41
  have F51 := F28.ext E41
  have F52 := F29.ext E41
  have V53 := V30.ext E41
  have A54 := A31.ext E41
  have F55 := F32.ext E41
  have F56 := F33.ext E41
  have V57 := V34.ext E41
  have A58 := A35.ext E41
  have F59 := F36.ext E41
  have F60 := F37.ext E41
  have V61 := V38.ext E41
  have S62 := S39.ext E41
  refine own_callS X41 (own_rnn l Z a0 hw s2 a41 _ n0 X41.le) (ww 27 rfl) (ww 28 rfl) (ww 29 rfl) (ww 30 rfl) (by decide) rfl (by decide) (W := 0) (Nat.le_of_eq rfl) (by decide) (cells' := 4) (slots' := 40) rfl rfl (by decide) (by decide) (argsL := [(.ref s2), (.ref a41)]) (rest := []) (lenOf own_pd1 rfl) rfl rfl own_d_prog_8_method_1_code_14 (pc' := 17) rfl ?_
  rintro _ T63 h63 X63 ⟨rfl, e63⟩
  subst e63
  show own_Goal p e below _ T63 (mkF m 17 #[oA a1, oA s1, oA s2, oA s3, .val (.double x0), .second, .val (.double (0 : UInt64)), .second, .val (.double (4607182418800017408 : UInt64)), .second, .val (.double (4607182418800017408 : UInt64)), .second] [(.ref s2)])
  refine own_pop X63 rfl own_d_prog_8_method_1_code_17 (pc' := 18) rfl ?_
  refine own_aloadN X63 rfl rfl own_d_prog_8_method_1_code_18 (pc' := 19) rfl ?_
  refine own_ldcS X63 hS41 hkn41 (ww 32 rfl) wS (n := 44) (by decide) (by decide) (cells' := 6) (slots' := 88) rfl rfl (by decide) (by decide) own_d_prog_8_method_1_code_19 (pc' := 21) rfl fun a64 T64 h64 vm64 k64 hS64 hkn64 X64 E64 => ?_
  have A65 := A42.ext E64
  have F66 := F43.ext E64
  have F67 := F44.ext E64
  have F68 := F45.ext E64
  have F69 := F46.ext E64
  have F70 := F47.ext E64
  have F71 := F48.ext E64
  have F72 := F49.ext E64
  have A73 := A50.ext E64
  have F74 := F51.ext E64
  have F75 := F52.ext E64
  have V76 := V53.ext E64
  have A77 := A54.ext E64
  have F78 := F55.ext E64
  have F79 := F56.ext E64
  have V80 := V57.ext E64
  have A81 := A58.ext E64
  have F82 := F59.ext E64
  have F83 := F60.ext E64
  have V84 := V61.ext E64
  have S85 := S62.ext E64
  refine own_callS X64 (own_rnn l Z a0 hw s3 a64 _ n0 X64.le) (ww 27 rfl) (ww 28 rfl) (ww 29 rfl) (ww 30 rfl) (by decide) rfl (by decide) (W := 0) (Nat.le_of_eq rfl) (by decide) (cells' := 6) (slots' := 88) rfl rfl (by decide) (by decide) (argsL := [(.ref s3), (.ref a64)]) (rest := []) (lenOf own_pd1 rfl) rfl rfl own_d_prog_8_method_1_code_21 (pc' := 24) rfl ?_
  rintro _ T86 h86 X86 ⟨rfl, e86⟩
  subst e86
  show own_Goal p e below _ T86 (mkF m 24 #[oA a1, oA s1, oA s2, oA s3, .val (.double x0), .second, .val (.double (0 : UInt64)), .second, .val (.double (4607182418800017408 : UInt64)), .second, .val (.double (4607182418800017408 : UInt64)), .second] [(.ref s3)])
  refine own_pop X86 rfl own_d_prog_8_method_1_code_24 (pc' := 25) rfl ?_
  refine own_aloadN X86 rfl rfl own_d_prog_8_method_1_code_25 (pc' := 26) rfl ?_
  refine own_virtual X86 (own_emp l Z a0 hw s1 b1 (114 : Int32) _ n0 X86.le F75 V76) (C := "java/lang/String") rfl (ww 33 rfl) (ww 34 rfl) (ww 36 rfl) (ww 35 rfl) (ww 6 rfl) (ww 37 rfl) (by decide) rfl (by decide) (W := 0) (Nat.le_of_eq rfl) (by decide) (cells' := 6) (slots' := 88) rfl rfl (by decide) (by decide) A73 (argsL := []) (rest := []) (lenOf own_pd2 rfl) rfl rfl own_d_prog_8_method_1_code_26 (pc' := 29) rfl ?_
  rintro _ T87 h87 X87 ⟨rfl, e87⟩
  subst e87
  show own_Goal p e below _ T87 (mkF m 29 #[oA a1, oA s1, oA s2, oA s3, .val (.double x0), .second, .val (.double (0 : UInt64)), .second, .val (.double (4607182418800017408 : UInt64)), .second, .val (.double (4607182418800017408 : UInt64)), .second] [(.int (0 : Int32))])
  refine own_ifT X87 (by decide) own_d_prog_8_method_1_code_29 (pc' := 42) (by decide) (by decide) ?_
  refine own_aloadN X87 rfl rfl own_d_prog_8_method_1_code_42 (pc' := 43) rfl ?_
  refine own_aloadN X87 rfl rfl own_d_prog_8_method_1_code_43 (pc' := 44) rfl ?_
  refine own_virtual X87 (own_equ l Z a0 hw s2 b2 s3 b3 _ n0 X87.le A77 F78 F79 V80 A81 F82 F83 V84 cs S85 hcs) (C := "java/lang/String") rfl (ww 39 rfl) (ww 40 rfl) (ww 42 rfl) (ww 41 rfl) (ww 6 rfl) (ww 43 rfl) (by decide) rfl (by decide) (W := 0) (Nat.le_of_eq rfl) (by decide) (cells' := 6) (slots' := 88) rfl rfl (by decide) (by decide) A77 (argsL := [(.ref s3)]) (rest := []) (lenOf own_pd4 rfl) rfl rfl own_d_prog_8_method_1_code_44 (pc' := 47) rfl ?_
  rintro _ T88 h88 X88 ⟨rfl, e88⟩
  subst e88
  show own_Goal p e below _ T88 (mkF m 47 #[oA a1, oA s1, oA s2, oA s3, .val (.double x0), .second, .val (.double (0 : UInt64)), .second, .val (.double (4607182418800017408 : UInt64)), .second, .val (.double (4607182418800017408 : UInt64)), .second] [(.int (0 : Int32))])
  refine own_ifT X88 (by decide) own_d_prog_8_method_1_code_47 (pc' := 64) (by decide) (by decide) ?_
  refine own_dload X88 rfl own_d_prog_8_method_1_code_64 (pc' := 66) rfl ?_
  refine own_dconst0 X88 (v := (0 : UInt64)) rfl own_d_prog_8_method_1_code_66 (pc' := 67) rfl ?_
  have f89 : own_D 0 0 (0 : Int) (0 : UInt64) := own_D.lit (s := false) (c := 0) (q := -1074) (by decide +kernel) (by decide +kernel) (by decide)
  refine own_dcmp X88 (D_x0.cmp f89) own_d_prog_8_method_1_code_67 (pc' := 68) rfl ?_
  have c90 : (0 : Int) < i_x0 := by omega
  refine own_ifF X88 (own_c3_gt c90).2 own_d_prog_8_method_1_code_68 (pc' := 71) rfl ?_
  refine own_dload X88 rfl own_d_prog_8_method_1_code_71 (pc' := 73) rfl ?_
  refine own_callS X88 (own_inf l Z a0 hw x0 _ n0 X88.le D_x0.isFin) (ww 52 rfl) (ww 53 rfl) (ww 54 rfl) (ww 55 rfl) (by decide) rfl (by decide) (W := 0) (Nat.le_of_eq rfl) (by decide) (cells' := 6) (slots' := 88) rfl rfl (by decide) (by decide) (argsL := [(.double x0)]) (rest := []) (lenOf own_pd5 rfl) rfl rfl own_d_prog_8_method_1_code_73 (pc' := 76) rfl ?_
  rintro _ T91 h91 X91 ⟨rfl, e91⟩
  subst e91
  show own_Goal p e below _ T91 (mkF m 76 #[oA a1, oA s1, oA s2, oA s3, .val (.double x0), .second, .val (.double (0 : UInt64)), .second, .val (.double (4607182418800017408 : UInt64)), .second, .val (.double (4607182418800017408 : UInt64)), .second] [(.int (0 : Int32))])
  refine own_ifT X91 (by decide) own_d_prog_8_method_1_code_76 (pc' := 94) (by decide) (by decide) ?_
  refine own_dload X91 rfl own_d_prog_8_method_1_code_94 (pc' := 96) rfl ?_
  refine own_dconst0 X91 (v := (0 : UInt64)) rfl own_d_prog_8_method_1_code_96 (pc' := 97) rfl ?_
  have f92 : own_D 0 0 (0 : Int) (0 : UInt64) := own_D.lit (s := false) (c := 0) (q := -1074) (by decide +kernel) (by decide +kernel) (by decide)
  have f93 : own_D 0 0 (0 : Int) (0 : UInt64) := own_D.lit (s := false) (c := 0) (q := -1074) (by decide +kernel) (by decide +kernel) (by decide)
  refine own_dcmp X91 (f92.cmp f93) own_d_prog_8_method_1_code_97 (pc' := 98) rfl ?_
  have c94 : ¬ ((0 : Int) < (0 : Int)) := by decide
  refine own_ifF X91 (own_c3_nlt c94).1 own_d_prog_8_method_1_code_98 (pc' := 101) rfl ?_
  refine own_dload X91 rfl own_d_prog_8_method_1_code_101 (pc' := 103) rfl ?_
  refine own_callS X91 (own_inf l Z a0 hw (0 : UInt64) _ n0 X91.le f92.isFin) (ww 52 rfl) (ww 53 rfl) (ww 54 rfl) (ww 55 rfl) (by decide) rfl (by decide) (W := 0) (Nat.le_of_eq rfl) (by decide) (cells' := 6) (slots' := 88) rfl rfl (by decide) (by decide) (argsL := [(.double (0 : UInt64))]) (rest := []) (lenOf own_pd5 rfl) rfl rfl own_d_prog_8_method_1_code_103 (pc' := 106) rfl ?_
  rintro _ T95 h95 X95 ⟨rfl, e95⟩
  subst e95
  show own_Goal p e below _ T95 (mkF m 106 #[oA a1, oA s1, oA s2, oA s3, .val (.double x0), .second, .val (.double (0 : UInt64)), .second, .val (.double (4607182418800017408 : UInt64)), .second, .val (.double (4607182418800017408 : UInt64)), .second] [(.int (0 : Int32))])
  refine own_ifT X95 (by decide) own_d_prog_8_method_1_code_106 (pc' := 124) (by decide) (by decide) ?_
  refine own_dload X95 rfl own_d_prog_8_method_1_code_124 (pc' := 126) rfl ?_
  refine own_dload X95 rfl own_d_prog_8_method_1_code_126 (pc' := 128) rfl ?_
  have f96 : own_D 0 1 (1 : Int) (4607182418800017408 : UInt64) := own_D.lit (s := false) (c := 4503599627370496) (q := -52) (by decide +kernel) (by decide +kernel) (by decide)
  refine own_dcmp X95 (f96.cmp f92) own_d_prog_8_method_1_code_128 (pc' := 129) rfl ?_
  have c97 : (0 : Int) < (1 : Int) := by decide
  refine own_ifF X95 (own_c3_gt c97).2 own_d_prog_8_method_1_code_129 (pc' := 132) rfl ?_
  refine own_dload X95 rfl own_d_prog_8_method_1_code_132 (pc' := 134) rfl ?_
  refine own_callS X95 (own_inf l Z a0 hw (4607182418800017408 : UInt64) _ n0 X95.le f96.isFin) (ww 52 rfl) (ww 53 rfl) (ww 54 rfl) (ww 55 rfl) (by decide) rfl (by decide) (W := 0) (Nat.le_of_eq rfl) (by decide) (cells' := 6) (slots' := 88) rfl rfl (by decide) (by decide) (argsL := [(.double (4607182418800017408 : UInt64))]) (rest := []) (lenOf own_pd5 rfl) rfl rfl own_d_prog_8_method_1_code_134 (pc' := 137) rfl ?_
  rintro _ T98 h98 X98 ⟨rfl, e98⟩
  subst e98
  show own_Goal p e below _ T98 (mkF m 137 #[oA a1, oA s1, oA s2, oA s3, .val (.double x0), .second, .val (.double (0 : UInt64)), .second, .val (.double (4607182418800017408 : UInt64)), .second, .val (.double (4607182418800017408 : UInt64)), .second] [(.int (0 : Int32))])
  refine own_ifT X98 (by decide) own_d_prog_8_method_1_code_137 (pc' := 157) (by decide) (by decide) ?_
  refine own_dload X98 rfl own_d_prog_8_method_1_code_157 (pc' := 159) rfl ?_
  refine own_dconst0 X98 (v := (0 : UInt64)) rfl own_d_prog_8_method_1_code_159 (pc' := 160) rfl ?_
  have f99 : own_D 0 1 (1 : Int) (4607182418800017408 : UInt64) := own_D.lit (s := false) (c := 4503599627370496) (q := -52) (by decide +kernel) (by decide +kernel) (by decide)
  have f100 : own_D 0 0 (0 : Int) (0 : UInt64) := own_D.lit (s := false) (c := 0) (q := -1074) (by decide +kernel) (by decide +kernel) (by decide)
  refine own_dcmp X98 (f99.cmp f100) own_d_prog_8_method_1_code_160 (pc' := 161) rfl ?_
  have c101 : ¬ ((1 : Int) < (0 : Int)) := by decide
  refine own_ifF X98 (own_c3_nlt c101).1 own_d_prog_8_method_1_code_161 (pc' := 164) rfl ?_
  refine own_dload X98 rfl own_d_prog_8_method_1_code_164 (pc' := 166) rfl ?_
  refine own_callS X98 (own_inf l Z a0 hw (4607182418800017408 : UInt64) _ n0 X98.le f99.isFin) (ww 52 rfl) (ww 53 rfl) (ww 54 rfl) (ww 55 rfl) (by decide) rfl (by decide) (W := 0) (Nat.le_of_eq rfl) (by decide) (cells' := 6) (slots' := 88) rfl rfl (by decide) (by decide) (argsL := [(.double (4607182418800017408 : UInt64))]) (rest := []) (lenOf own_pd5 rfl) rfl rfl own_d_prog_8_method_1_code_166 (pc' := 169) rfl ?_
  rintro _ T102 h102 X102 ⟨rfl, e102⟩
  subst e102
  show own_Goal p e below _ T102 (mkF m 169 #[oA a1, oA s1, oA s2, oA s3, .val (.double x0), .second, .val (.double (0 : UInt64)), .second, .val (.double (4607182418800017408 : UInt64)), .second, .val (.double (4607182418800017408 : UInt64)), .second] [(.int (0 : Int32))])
  refine own_ifT X102 (by decide) own_d_prog_8_method_1_code_169 (pc' := 187) (by decide) (by decide) ?_
  refine own_aloadN X102 rfl rfl own_d_prog_8_method_1_code_187 (pc' := 188) rfl ?_
  refine own_aloadN X102 rfl rfl own_d_prog_8_method_1_code_188 (pc' := 189) rfl ?_
  refine own_putF X102 (ww 61 rfl) F66 A65 (Or.inr ⟨(ww 62 rfl), rfl, rfl⟩) (ww 3 rfl) (ty := (.object "java/lang/String")) (by decide) rfl rfl ge1 own_d_prog_8_method_1_code_189 (pc' := 192) rfl fun T103 h103 X103 W103 => ?_
  have A104 := A65.wr W103
  have hk105 := own_hk_wr hkn64 W103
  have F106 := F66.same W103
  have F107 := F67.other W103 (Or.inr (slot_ne (C := "com/example/duepath/duepath/Request") (Or.inr (ww 64 rfl)) (Or.inr (ww 62 rfl)) (by decide) (t := (.object "java/lang/String")) (t' := (.object "java/lang/String")) (by decide) (by decide)))
  have F108 := F68.other W103 (Or.inr (slot_ne (C := "com/example/duepath/duepath/Request") (Or.inr (ww 66 rfl)) (Or.inr (ww 62 rfl)) (by decide) (t := (.object "java/lang/String")) (t' := (.object "java/lang/String")) (by decide) (by decide)))
  have F109 := F69.other W103 (Or.inr (slot_ne (C := "com/example/duepath/duepath/Request") (Or.inr (ww 68 rfl)) (Or.inr (ww 62 rfl)) (by decide) (t := .double) (t' := (.object "java/lang/String")) (by decide) (by decide)))
  have F110 := F70.other W103 (Or.inr (slot_ne (C := "com/example/duepath/duepath/Request") (Or.inr (ww 70 rfl)) (Or.inr (ww 62 rfl)) (by decide) (t := .double) (t' := (.object "java/lang/String")) (by decide) (by decide)))
  have F111 := F71.other W103 (Or.inr (slot_ne (C := "com/example/duepath/duepath/Request") (Or.inr (ww 72 rfl)) (Or.inr (ww 62 rfl)) (by decide) (t := .double) (t' := (.object "java/lang/String")) (by decide) (by decide)))
  have F112 := F72.other W103 (Or.inr (slot_ne (C := "com/example/duepath/duepath/Request") (Or.inr (ww 74 rfl)) (Or.inr (ww 62 rfl)) (by decide) (t := .double) (t' := (.object "java/lang/String")) (by decide) (by decide)))
  refine own_aloadN X103 rfl rfl own_d_prog_8_method_1_code_192 (pc' := 193) rfl ?_
  refine own_aloadN X103 rfl rfl own_d_prog_8_method_1_code_193 (pc' := 194) rfl ?_
  refine own_putF X103 (ww 63 rfl) F107 A104 (Or.inr ⟨(ww 64 rfl), rfl, rfl⟩) (ww 3 rfl) (ty := (.object "java/lang/String")) (by decide) rfl rfl ge1 own_d_prog_8_method_1_code_194 (pc' := 197) rfl fun T113 h113 X113 W113 => ?_
  have A114 := A104.wr W113
  have hk115 := own_hk_wr hk105 W113
  have F116 := F107.same W113
  have F117 := F106.other W113 (Or.inr (slot_ne (C := "com/example/duepath/duepath/Request") (Or.inr (ww 62 rfl)) (Or.inr (ww 64 rfl)) (by decide) (t := (.object "java/lang/String")) (t' := (.object "java/lang/String")) (by decide) (by decide)))
  have F118 := F108.other W113 (Or.inr (slot_ne (C := "com/example/duepath/duepath/Request") (Or.inr (ww 66 rfl)) (Or.inr (ww 64 rfl)) (by decide) (t := (.object "java/lang/String")) (t' := (.object "java/lang/String")) (by decide) (by decide)))
  have F119 := F109.other W113 (Or.inr (slot_ne (C := "com/example/duepath/duepath/Request") (Or.inr (ww 68 rfl)) (Or.inr (ww 64 rfl)) (by decide) (t := .double) (t' := (.object "java/lang/String")) (by decide) (by decide)))
  have F120 := F110.other W113 (Or.inr (slot_ne (C := "com/example/duepath/duepath/Request") (Or.inr (ww 70 rfl)) (Or.inr (ww 64 rfl)) (by decide) (t := .double) (t' := (.object "java/lang/String")) (by decide) (by decide)))
  have F121 := F111.other W113 (Or.inr (slot_ne (C := "com/example/duepath/duepath/Request") (Or.inr (ww 72 rfl)) (Or.inr (ww 64 rfl)) (by decide) (t := .double) (t' := (.object "java/lang/String")) (by decide) (by decide)))
  have F122 := F112.other W113 (Or.inr (slot_ne (C := "com/example/duepath/duepath/Request") (Or.inr (ww 74 rfl)) (Or.inr (ww 64 rfl)) (by decide) (t := .double) (t' := (.object "java/lang/String")) (by decide) (by decide)))
  refine own_aloadN X113 rfl rfl own_d_prog_8_method_1_code_197 (pc' := 198) rfl ?_
  refine own_aloadN X113 rfl rfl own_d_prog_8_method_1_code_198 (pc' := 199) rfl ?_
  refine own_putF X113 (ww 65 rfl) F118 A114 (Or.inr ⟨(ww 66 rfl), rfl, rfl⟩) (ww 3 rfl) (ty := (.object "java/lang/String")) (by decide) rfl rfl ge1 own_d_prog_8_method_1_code_199 (pc' := 202) rfl fun T123 h123 X123 W123 => ?_
  have A124 := A114.wr W123
  have hk125 := own_hk_wr hk115 W123
  have F126 := F118.same W123
  have F127 := F116.other W123 (Or.inr (slot_ne (C := "com/example/duepath/duepath/Request") (Or.inr (ww 64 rfl)) (Or.inr (ww 66 rfl)) (by decide) (t := (.object "java/lang/String")) (t' := (.object "java/lang/String")) (by decide) (by decide)))
  have F128 := F117.other W123 (Or.inr (slot_ne (C := "com/example/duepath/duepath/Request") (Or.inr (ww 62 rfl)) (Or.inr (ww 66 rfl)) (by decide) (t := (.object "java/lang/String")) (t' := (.object "java/lang/String")) (by decide) (by decide)))
  have F129 := F119.other W123 (Or.inr (slot_ne (C := "com/example/duepath/duepath/Request") (Or.inr (ww 68 rfl)) (Or.inr (ww 66 rfl)) (by decide) (t := .double) (t' := (.object "java/lang/String")) (by decide) (by decide)))
  have F130 := F120.other W123 (Or.inr (slot_ne (C := "com/example/duepath/duepath/Request") (Or.inr (ww 70 rfl)) (Or.inr (ww 66 rfl)) (by decide) (t := .double) (t' := (.object "java/lang/String")) (by decide) (by decide)))
  have F131 := F121.other W123 (Or.inr (slot_ne (C := "com/example/duepath/duepath/Request") (Or.inr (ww 72 rfl)) (Or.inr (ww 66 rfl)) (by decide) (t := .double) (t' := (.object "java/lang/String")) (by decide) (by decide)))
  have F132 := F122.other W123 (Or.inr (slot_ne (C := "com/example/duepath/duepath/Request") (Or.inr (ww 74 rfl)) (Or.inr (ww 66 rfl)) (by decide) (t := .double) (t' := (.object "java/lang/String")) (by decide) (by decide)))
  refine own_aloadN X123 rfl rfl own_d_prog_8_method_1_code_202 (pc' := 203) rfl ?_
  refine own_dload X123 rfl own_d_prog_8_method_1_code_203 (pc' := 205) rfl ?_
  refine own_putF X123 (ww 67 rfl) F129 A124 (Or.inr ⟨(ww 68 rfl), rfl, rfl⟩) (ww 3 rfl) (ty := .double) (by decide) rfl rfl ge1 own_d_prog_8_method_1_code_205 (pc' := 208) rfl fun T133 h133 X133 W133 => ?_
  have A134 := A124.wr W133
  have hk135 := own_hk_wr hk125 W133
  have F136 := F129.same W133
  have F137 := F126.other W133 (Or.inr (slot_ne (C := "com/example/duepath/duepath/Request") (Or.inr (ww 66 rfl)) (Or.inr (ww 68 rfl)) (by decide) (t := (.object "java/lang/String")) (t' := .double) (by decide) (by decide)))
  have F138 := F127.other W133 (Or.inr (slot_ne (C := "com/example/duepath/duepath/Request") (Or.inr (ww 64 rfl)) (Or.inr (ww 68 rfl)) (by decide) (t := (.object "java/lang/String")) (t' := .double) (by decide) (by decide)))
  have F139 := F128.other W133 (Or.inr (slot_ne (C := "com/example/duepath/duepath/Request") (Or.inr (ww 62 rfl)) (Or.inr (ww 68 rfl)) (by decide) (t := (.object "java/lang/String")) (t' := .double) (by decide) (by decide)))
  have F140 := F130.other W133 (Or.inr (slot_ne (C := "com/example/duepath/duepath/Request") (Or.inr (ww 70 rfl)) (Or.inr (ww 68 rfl)) (by decide) (t := .double) (t' := .double) (by decide) (by decide)))
  have F141 := F131.other W133 (Or.inr (slot_ne (C := "com/example/duepath/duepath/Request") (Or.inr (ww 72 rfl)) (Or.inr (ww 68 rfl)) (by decide) (t := .double) (t' := .double) (by decide) (by decide)))
  have F142 := F132.other W133 (Or.inr (slot_ne (C := "com/example/duepath/duepath/Request") (Or.inr (ww 74 rfl)) (Or.inr (ww 68 rfl)) (by decide) (t := .double) (t' := .double) (by decide) (by decide)))
  refine own_aloadN X133 rfl rfl own_d_prog_8_method_1_code_208 (pc' := 209) rfl ?_
  refine own_dload X133 rfl own_d_prog_8_method_1_code_209 (pc' := 211) rfl ?_
  refine own_putF X133 (ww 69 rfl) F140 A134 (Or.inr ⟨(ww 70 rfl), rfl, rfl⟩) (ww 3 rfl) (ty := .double) (by decide) rfl rfl ge1 own_d_prog_8_method_1_code_211 (pc' := 214) rfl fun T143 h143 X143 W143 => ?_
  have A144 := A134.wr W143
  have hk145 := own_hk_wr hk135 W143
  have F146 := F140.same W143
  have F147 := F136.other W143 (Or.inr (slot_ne (C := "com/example/duepath/duepath/Request") (Or.inr (ww 68 rfl)) (Or.inr (ww 70 rfl)) (by decide) (t := .double) (t' := .double) (by decide) (by decide)))
  have F148 := F137.other W143 (Or.inr (slot_ne (C := "com/example/duepath/duepath/Request") (Or.inr (ww 66 rfl)) (Or.inr (ww 70 rfl)) (by decide) (t := (.object "java/lang/String")) (t' := .double) (by decide) (by decide)))
  have F149 := F138.other W143 (Or.inr (slot_ne (C := "com/example/duepath/duepath/Request") (Or.inr (ww 64 rfl)) (Or.inr (ww 70 rfl)) (by decide) (t := (.object "java/lang/String")) (t' := .double) (by decide) (by decide)))
  have F150 := F139.other W143 (Or.inr (slot_ne (C := "com/example/duepath/duepath/Request") (Or.inr (ww 62 rfl)) (Or.inr (ww 70 rfl)) (by decide) (t := (.object "java/lang/String")) (t' := .double) (by decide) (by decide)))
  have F151 := F141.other W143 (Or.inr (slot_ne (C := "com/example/duepath/duepath/Request") (Or.inr (ww 72 rfl)) (Or.inr (ww 70 rfl)) (by decide) (t := .double) (t' := .double) (by decide) (by decide)))
  have F152 := F142.other W143 (Or.inr (slot_ne (C := "com/example/duepath/duepath/Request") (Or.inr (ww 74 rfl)) (Or.inr (ww 70 rfl)) (by decide) (t := .double) (t' := .double) (by decide) (by decide)))
  refine own_aloadN X143 rfl rfl own_d_prog_8_method_1_code_214 (pc' := 215) rfl ?_
  refine own_dload X143 rfl own_d_prog_8_method_1_code_215 (pc' := 217) rfl ?_
  refine own_putF X143 (ww 71 rfl) F151 A144 (Or.inr ⟨(ww 72 rfl), rfl, rfl⟩) (ww 3 rfl) (ty := .double) (by decide) rfl rfl ge1 own_d_prog_8_method_1_code_217 (pc' := 220) rfl fun T153 h153 X153 W153 => ?_
  have A154 := A144.wr W153
  have hk155 := own_hk_wr hk145 W153
  have F156 := F151.same W153
  have F157 := F146.other W153 (Or.inr (slot_ne (C := "com/example/duepath/duepath/Request") (Or.inr (ww 70 rfl)) (Or.inr (ww 72 rfl)) (by decide) (t := .double) (t' := .double) (by decide) (by decide)))
  have F158 := F147.other W153 (Or.inr (slot_ne (C := "com/example/duepath/duepath/Request") (Or.inr (ww 68 rfl)) (Or.inr (ww 72 rfl)) (by decide) (t := .double) (t' := .double) (by decide) (by decide)))
  have F159 := F148.other W153 (Or.inr (slot_ne (C := "com/example/duepath/duepath/Request") (Or.inr (ww 66 rfl)) (Or.inr (ww 72 rfl)) (by decide) (t := (.object "java/lang/String")) (t' := .double) (by decide) (by decide)))
  have F160 := F149.other W153 (Or.inr (slot_ne (C := "com/example/duepath/duepath/Request") (Or.inr (ww 64 rfl)) (Or.inr (ww 72 rfl)) (by decide) (t := (.object "java/lang/String")) (t' := .double) (by decide) (by decide)))
  have F161 := F150.other W153 (Or.inr (slot_ne (C := "com/example/duepath/duepath/Request") (Or.inr (ww 62 rfl)) (Or.inr (ww 72 rfl)) (by decide) (t := (.object "java/lang/String")) (t' := .double) (by decide) (by decide)))
  have F162 := F152.other W153 (Or.inr (slot_ne (C := "com/example/duepath/duepath/Request") (Or.inr (ww 74 rfl)) (Or.inr (ww 72 rfl)) (by decide) (t := .double) (t' := .double) (by decide) (by decide)))
  refine own_aloadN X153 rfl rfl own_d_prog_8_method_1_code_220 (pc' := 221) rfl ?_
  refine own_dload X153 rfl own_d_prog_8_method_1_code_221 (pc' := 223) rfl ?_
  refine own_putF X153 (ww 73 rfl) F162 A154 (Or.inr ⟨(ww 74 rfl), rfl, rfl⟩) (ww 3 rfl) (ty := .double) (by decide) rfl rfl ge1 own_d_prog_8_method_1_code_223 (pc' := 226) rfl fun T163 h163 X163 W163 => ?_
  have A164 := A154.wr W163
  have hk165 := own_hk_wr hk155 W163
  have F166 := F162.same W163
  have F167 := F156.other W163 (Or.inr (slot_ne (C := "com/example/duepath/duepath/Request") (Or.inr (ww 72 rfl)) (Or.inr (ww 74 rfl)) (by decide) (t := .double) (t' := .double) (by decide) (by decide)))
  have F168 := F157.other W163 (Or.inr (slot_ne (C := "com/example/duepath/duepath/Request") (Or.inr (ww 70 rfl)) (Or.inr (ww 74 rfl)) (by decide) (t := .double) (t' := .double) (by decide) (by decide)))
  have F169 := F158.other W163 (Or.inr (slot_ne (C := "com/example/duepath/duepath/Request") (Or.inr (ww 68 rfl)) (Or.inr (ww 74 rfl)) (by decide) (t := .double) (t' := .double) (by decide) (by decide)))
  have F170 := F159.other W163 (Or.inr (slot_ne (C := "com/example/duepath/duepath/Request") (Or.inr (ww 66 rfl)) (Or.inr (ww 74 rfl)) (by decide) (t := (.object "java/lang/String")) (t' := .double) (by decide) (by decide)))
  have F171 := F160.other W163 (Or.inr (slot_ne (C := "com/example/duepath/duepath/Request") (Or.inr (ww 64 rfl)) (Or.inr (ww 74 rfl)) (by decide) (t := (.object "java/lang/String")) (t' := .double) (by decide) (by decide)))
  have F172 := F161.other W163 (Or.inr (slot_ne (C := "com/example/duepath/duepath/Request") (Or.inr (ww 62 rfl)) (Or.inr (ww 74 rfl)) (by decide) (t := (.object "java/lang/String")) (t' := .double) (by decide) (by decide)))
  exact own_retVW X163 hS64 hk165  own_d_prog_8_method_1_code_226 rfl (by decide) (by decide) ⟨rfl, A164, F169⟩
theorem own_ldiv_eq {x v : Int64} (hv : x / 1000000 = v) (hx : 0 ≤ x.toInt) (hx2 : x.toInt ≤ 2147483647) : own_L 2147 (x.toInt / 1000000) v := by
  subst hv
  have e : (x / 1000000).toInt = x.toInt / 1000000 := by
    rw [Int64.toInt_div_of_ne_right _ _ (by decide), show (1000000 : Int64).toInt = 1000000 by decide, Int.tdiv_eq_ediv_of_nonneg hx]
  exact ⟨e, by omega⟩
theorem own_pn6 : plainName "com/example/duepath/duepath/RequestIsMetByPinLaw" = true := by first | (simp [plainName, overriddenIn]; done) | decide +kernel
set_option maxRecDepth 65536 in
set_option maxHeartbeats 40000000 in
theorem own_law (l : Launch) (Z : State) (a0 : Array Value) (hw : ∀ d ∈ tables_1, d.before a0 Z = true) (ws : List Jvm.Cond) (p0 : Int32) (p1 : Int32) (p2 : Int32) (h0 : Heap) (n0 : Nat) (hZh : Z.heap = h0) (hZn : Z.heap.size = n0) (cs : Int32) (S0 : Sta Z h0 "java/lang/String" "COMPACT_STRINGS" "Z" (.int cs)) (hcs : ¬ cs = 0) (hcw : Jvm.Lit.compactW.before a0 Z = true) (hh13 : Jvm.Lit.constHeld Z "com/example/duepath/duepath/RequestIsMetByPinLaw" 13) (hh15 : Jvm.Lit.constHeld Z "com/example/duepath/duepath/RequestIsMetByPinLaw" 15) (hh17 : Jvm.Lit.constHeld Z "com/example/duepath/duepath/RequestIsMetByPinLaw" 17) :
    own_MetL l Z x code maxLocals ret ws room_1 #[(.int p0), (.int p1), (.int p2)] n0 (fun v _ => v = some (.int 1)) := by
  have ww := fun (i : Nat) {d : Jvm.Cond} (q : tables_1[i]? = some d) => hw d (List.mem_of_getElem? q)
  refine own_meetL (plainFor_of_name own_pn6) hZh hZn (Ls0 := #[oI p0, oI p1, oI p2, oU, oU, oU, oU, oU, oU, oU]) (by intro m; first | (simp [entryFrame, mkF, argsToLocals, Value.category, maxLocals]; done) | rfl) ?_
  intro p e m below meth c T0 vm0 k0 hS0 hk0 I0 X0
  have wS : ∀ d ∈ Bundle.stringAtoms, d.before a0 Z = true := by
    intro d hd
    simp only [Bundle.stringAtoms, List.mem_cons, List.not_mem_nil, or_false] at hd
    rcases hd with rfl | rfl | rfl | rfl | rfl | rfl | rfl
    · exact ww 6 rfl
    · exact ww 7 rfl
    · exact ww 8 rfl
    · exact ww 9 rfl
    · exact ww 10 rfl
    · exact ww 11 rfl
    · exact ww 12 rfl
  refine own_iloadN X0 rfl at_0 (pc' := 1) rfl ?_
  have f173 := own_I.start p0
  obtain ⟨j174, e174⟩ : ∃ v, p0.toInt64 = v := ⟨_, rfl⟩
  have f174 : own_L 2147483648 p0.toInt j174 := own_L.ofI f173 e174
  refine own_i2l X0 e174 at_1 (pc' := 2) rfl ?_
  refine own_ldcJ X0 (v := (2147483647 : Int64)) (ww 0 rfl) at_2 (pc' := 5) rfl ?_
  obtain ⟨j175, e175⟩ : ∃ v, j174 &&& (2147483647 : Int64) = v := ⟨_, rfl⟩
  have f175 : own_L 2147483647 j175.toInt j175 := own_L.and e175 (by decide)
  have nn175 := own_land_nn (M := 2147483647) e175 (by decide)
  refine own_land X0 e175 at_5 (pc' := 6) rfl ?_
  refine own_lstoreN X0 (Ls' := #[oI p0, oI p1, oI p2, .val (.long j175), .second, oU, oU, oU, oU, oU]) rfl at_6 (pc' := 7) rfl ?_
  refine own_lloadN X0 rfl at_7 (pc' := 8) rfl ?_
  refine own_lconst X0 (v := (0 : Int64)) (by decide) at_8 (pc' := 9) rfl ?_
  have f176 : own_L 0 (0 : Int) (0 : Int64) := own_L.lit (by decide) (by decide)
  refine own_lcmp X0 (f175.cmp f176) at_9 (pc' := 10) rfl ?_
  by_cases c177 : j175.toInt = (0 : Int)
  · -- yes c177
    refine own_ifF X0 (own_c3_eq c177).2 at_10 (pc' := 13) rfl ?_
    refine own_lconst X0 (v := (1 : Int64)) (by decide) at_13 (pc' := 14) rfl ?_
    refine own_lstoreN X0 (Ls' := #[oI p0, oI p1, oI p2, .val (.long (1 : Int64)), .second, oU, oU, oU, oU, oU]) rfl at_14 (pc' := 15) rfl ?_
    refine own_lloadN X0 rfl at_15 (pc' := 16) rfl ?_
    refine own_ldcJ X0 (v := (1000000 : Int64)) (ww 1 rfl) at_16 (pc' := 19) rfl ?_
    obtain ⟨j178, e178⟩ : ∃ v, (1 : Int64) - ((1 : Int64) / (1000000 : Int64)) * (1000000 : Int64) = v := ⟨_, rfl⟩
    refine own_lrem X0 (by decide) e178 at_19 (pc' := 20) rfl ?_
    have f178 : own_L 1000000 ((1 : Int) % 1000000) j178 := by subst e178; exact own_L.lit (by decide) (by decide)
    refine own_lconst X0 (v := (0 : Int64)) (by decide) at_20 (pc' := 21) rfl ?_
    have f179 : own_L 0 (0 : Int) (0 : Int64) := own_L.lit (by decide) (by decide)
    refine own_lcmp X0 (f178.cmp f179) at_21 (pc' := 22) rfl ?_
    have c180 : ¬ (((1 : Int) % 1000000) = (0 : Int)) := by decide
    refine own_ifT X0 (own_c3_ne c180).2 at_22 (pc' := 27) (by decide) (by decide) ?_
    refine own_iloadN X0 rfl at_27 (pc' := 28) rfl ?_
    refine own_iconst X0 (v := (1 : Int32)) (by decide) at_28 (pc' := 29) rfl ?_
    obtain ⟨i181, e181⟩ : ∃ v, p2 &&& (1 : Int32) = v := ⟨_, rfl⟩
    have f181 : own_I 1 i181.toInt i181 := own_I.and e181 (by decide)
    have nn181 := own_and_nn (M := 1) e181 (by decide)
    refine own_iand X0 e181 at_29 (pc' := 30) rfl ?_
    by_cases c182 : i181 = 0
    · -- yes c182
      refine own_ifT X0 (own_z_eq c182).1 at_30 (pc' := 54) (by decide) (by decide) ?_
      refine own_iloadN X0 rfl at_54 (pc' := 55) rfl ?_
      have f183 := own_I.start p1
      obtain ⟨j184, e184⟩ : ∃ v, p1.toInt64 = v := ⟨_, rfl⟩
      have f184 : own_L 2147483648 p1.toInt j184 := own_L.ofI f183 e184
      refine own_i2l X0 e184 at_55 (pc' := 56) rfl ?_
      refine own_lstore X0 (Ls' := #[oI p0, oI p1, oI p2, .val (.long (1 : Int64)), .second, .val (.long j184), .second, oU, oU, oU]) rfl at_56 (pc' := 58) rfl ?_
      refine own_new X0 (ww 2 rfl) (ww 3 rfl) (ww 4 rfl) (cells' := 1) (slots' := 7) rfl rfl (by decide) (by decide) at_58 (pc' := 61) rfl fun a185 T185 h185 g185 ge185 X185 E185 A185 D185 => ?_
      have S186 := S0.ext E185
      have hk187 := own_hk_ext hk0 E185
      have F188 : Fld Z h185 a185 "com/example/duepath/duepath/Request" "id" "Ljava/lang/String;" .null := D185 (Or.inr (ww 62 rfl)) (ty := (.object "java/lang/String")) (by decide)
      have F189 : Fld Z h185 a185 "com/example/duepath/duepath/Request" "source" "Ljava/lang/String;" .null := D185 (Or.inr (ww 64 rfl)) (ty := (.object "java/lang/String")) (by decide)
      have F190 : Fld Z h185 a185 "com/example/duepath/duepath/Request" "destination" "Ljava/lang/String;" .null := D185 (Or.inr (ww 66 rfl)) (ty := (.object "java/lang/String")) (by decide)
      have F191 : Fld Z h185 a185 "com/example/duepath/duepath/Request" "size" "D" (.double (0 : UInt64)) := D185 (Or.inr (ww 68 rfl)) (ty := .double) (by decide)
      have F192 : Fld Z h185 a185 "com/example/duepath/duepath/Request" "release" "D" (.double (0 : UInt64)) := D185 (Or.inr (ww 70 rfl)) (ty := .double) (by decide)
      have F193 : Fld Z h185 a185 "com/example/duepath/duepath/Request" "deadline" "D" (.double (0 : UInt64)) := D185 (Or.inr (ww 72 rfl)) (ty := .double) (by decide)
      have F194 : Fld Z h185 a185 "com/example/duepath/duepath/Request" "value" "D" (.double (0 : UInt64)) := D185 (Or.inr (ww 74 rfl)) (ty := .double) (by decide)
      refine own_dup X185 rfl at_61 (pc' := 62) rfl ?_
      refine own_ldcSV X185 hS0 hk187 hZn (fun _ _ q => q) I0 (text := "r") (by decide) hh13 hcw (vs := [.int (114 : Int32)]) (z := 1) ⟨by decide, by decide⟩ (by decide) (by decide) (ww 5 rfl) wS (n := 4) (by decide) (by decide) (cells' := 3) (slots' := 15) rfl rfl (by decide) (by decide) at_62 (pc' := 64) rfl fun a195 b195 T195 h195 vm195 k195 hS195 hkn195 X195 E195 A195 F195a F195b V195 I195 => ?_
      have A196 := A185.ext E195
      have F197 := F188.ext E195
      have F198 := F189.ext E195
      have F199 := F190.ext E195
      have F200 := F191.ext E195
      have F201 := F192.ext E195
      have F202 := F193.ext E195
      have F203 := F194.ext E195
      have S204 := S186.ext E195
      refine own_ldcSV X195 hS195 hkn195 hZn (fun _ _ q => q) I195 (text := "a") (by decide) hh15 hcw (vs := [.int (97 : Int32)]) (z := 1) ⟨by decide, by decide⟩ (by decide) (by decide) (ww 13 rfl) wS (n := 4) (by decide) (by decide) (cells' := 5) (slots' := 23) rfl rfl (by decide) (by decide) at_64 (pc' := 66) rfl fun a205 b205 T205 h205 vm205 k205 hS205 hkn205 X205 E205 A205 F205a F205b V205 I205 => ?_
      have A206 := A196.ext E205
      have F207 := F197.ext E205
      have F208 := F198.ext E205
      have F209 := F199.ext E205
      have F210 := F200.ext E205
      have F211 := F201.ext E205
      have F212 := F202.ext E205
      have F213 := F203.ext E205
      have A214 := A195.ext E205
      have F215 := F195a.ext E205
      have F216 := F195b.ext E205
      have V217 := V195.ext E205
      have S218 := S204.ext E205
      refine own_ldcSV X205 hS205 hkn205 hZn (fun _ _ q => q) I205 (text := "b") (by decide) hh17 hcw (vs := [.int (98 : Int32)]) (z := 1) ⟨by decide, by decide⟩ (by decide) (by decide) (ww 14 rfl) wS (n := 4) (by decide) (by decide) (cells' := 7) (slots' := 31) rfl rfl (by decide) (by decide) at_66 (pc' := 68) rfl fun a219 b219 T219 h219 vm219 k219 hS219 hkn219 X219 E219 A219 F219a F219b V219 I219 => ?_
      have A220 := A206.ext E219
      have F221 := F207.ext E219
      have F222 := F208.ext E219
      have F223 := F209.ext E219
      have F224 := F210.ext E219
      have F225 := F211.ext E219
      have F226 := F212.ext E219
      have F227 := F213.ext E219
      have A228 := A214.ext E219
      have F229 := F215.ext E219
      have F230 := F216.ext E219
      have V231 := V217.ext E219
      have A232 := A205.ext E219
      have F233 := F205a.ext E219
      have F234 := F205b.ext E219
      have V235 := V205.ext E219
      have S236 := S218.ext E219
      refine own_lloadN X219 rfl at_68 (pc' := 69) rfl ?_
      have f237 : own_L 1 (1 : Int) (1 : Int64) := own_L.lit (by decide) (by decide)
      obtain ⟨d238, e238⟩ : ∃ v, FP.l2d (1 : Int64) = v := ⟨_, rfl⟩
      have f238 : own_D 0 1 (1 : Int) d238 := own_D.l2d f237 e238 (by decide)
      refine own_l2d X219 e238 at_69 (pc' := 70) rfl ?_
      refine own_dconst0 X219 (v := (0 : UInt64)) rfl at_70 (pc' := 71) rfl ?_
      refine own_dconst1 X219 (v := (4607182418800017408 : UInt64)) rfl at_71 (pc' := 72) rfl ?_
      refine own_dconst1 X219 (v := (4607182418800017408 : UInt64)) rfl at_72 (pc' := 73) rfl ?_
      have f239 : own_D 0 2147483647 (1 : Int) d238 := f238.mono (by decide)
      refine own_specialW X219 hS219 hkn219 (own_ini l Z a0 hw a185 a195 b195 a205 b205 a219 b219 d238 (1 : Int) _ n0 X219.le ge185 A220 F221 F222 F223 F224 F225 F226 F227 A228 F229 F230 V231 A232 F233 F234 V235 A219 F219a F219b V219 f239 (by omega) cs S236 hcs) rfl rfl (ww 15 rfl) (ww 16 rfl) (ww 4 rfl) (ww 17 rfl) (by decide) rfl (by decide) (W := 1) (Nat.le_of_eq rfl) (by decide) (cells' := 13) (slots' := 119) rfl rfl (by decide) (by decide) (argsL := [(.ref a195), (.ref a205), (.ref a219), (.double d238), (.double (0 : UInt64)), (.double (4607182418800017408 : UInt64)), (.double (4607182418800017408 : UInt64))]) (rest := [(.ref a185)]) (lenOf own_pd7 rfl) rfl rfl at_73 (pc' := 76) rfl ?_
      rintro _ T240 h240 vm240 k240 hS240 hk240 X240 ⟨rfl, A240, F240⟩
      show own_Goal p e below _ T240 (mkF m 76 #[oI p0, oI p1, oI p2, .val (.long (1 : Int64)), .second, .val (.long j184), .second, oU, oU, oU] [(.ref a185)])
      refine own_astore X240 (Ls' := #[oI p0, oI p1, oI p2, .val (.long (1 : Int64)), .second, .val (.long j184), .second, oA a185, oU, oU]) rfl rfl at_76 (pc' := 78) rfl ?_
      refine own_aload X240 rfl rfl at_78 (pc' := 80) rfl ?_
      refine own_lload X240 rfl at_80 (pc' := 82) rfl ?_
      obtain ⟨d241, e241⟩ : ∃ v, FP.l2d j184 = v := ⟨_, rfl⟩
      have f241 : own_D 0 2147483648 p1.toInt d241 := own_D.l2d f184 e241 (by decide)
      refine own_l2d X240 e241 at_82 (pc' := 83) rfl ?_
      refine own_virtual X240 (own_imb l Z a0 hw a185 d241 d238 p1.toInt (1 : Int) 2147483648 1 _ n0 X240.le F240 f241 f238 (by omega) (by omega) (by omega)) (C := "com/example/duepath/duepath/Request") rfl (ww 75 rfl) (ww 76 rfl) (ww 78 rfl) (ww 77 rfl) (ww 4 rfl) (ww 79 rfl) (by decide) rfl (by decide) (W := 0) (Nat.le_of_eq rfl) (by decide) (cells' := 13) (slots' := 119) rfl rfl (by decide) (by decide) A240 (argsL := [(.double d241)]) (rest := []) (lenOf own_pd5 rfl) rfl rfl at_83 (pc' := 86) rfl ?_
      rintro _ T242 h242 X242 ⟨rfl, e242⟩
      subst e242
      show own_Goal p e below _ T242 (mkF m 86 #[oI p0, oI p1, oI p2, .val (.long (1 : Int64)), .second, .val (.long j184), .second, oA a185, oU, oU] [(.int (if 1000000 * p1.toInt < 999999 * (1 : Int) then 0 else 1 : Int32))])
      refine own_istore X242 (Ls' := #[oI p0, oI p1, oI p2, .val (.long (1 : Int64)), .second, .val (.long j184), .second, oA a185, oI (if 1000000 * p1.toInt < 999999 * (1 : Int) then 0 else 1 : Int32), oU]) rfl at_86 (pc' := 88) rfl ?_
      refine own_lload X242 rfl at_88 (pc' := 90) rfl ?_
      refine own_ldcJ X242 (v := (1000000 : Int64)) (ww 1 rfl) at_90 (pc' := 93) rfl ?_
      obtain ⟨j243, e243⟩ : ∃ v, j184 * (1000000 : Int64) = v := ⟨_, rfl⟩
      have f244 : own_L 1000000 (1000000 : Int) (1000000 : Int64) := own_L.lit (by decide) (by decide)
      have f243 : own_L 2147483648000000 (p1.toInt * (1000000 : Int)) j243 := f184.mul f244 e243 (by decide) (by decide)
      refine own_lmul X242 e243 at_93 (pc' := 94) rfl ?_
      refine own_lloadN X242 rfl at_94 (pc' := 95) rfl ?_
      refine own_ldcJ X242 (v := (999999 : Int64)) (ww 81 rfl) at_95 (pc' := 98) rfl ?_
      refine own_lmul X242 (v := (999999 : Int64)) (by decide) at_98 (pc' := 99) rfl ?_
      have f245 : own_L 999999 (999999 : Int) (999999 : Int64) := own_L.lit (by decide) (by decide)
      refine own_lcmp X242 (f243.cmp f245) at_99 (pc' := 100) rfl ?_
      by_cases c246 : (p1.toInt * (1000000 : Int)) < (999999 : Int)
      · -- yes c246
        refine own_ifT X242 (own_c3_lt c246).1 at_100 (pc' := 107) (by decide) (by decide) ?_
        refine own_iconst X242 (v := (0 : Int32)) (by decide) at_107 (pc' := 108) rfl ?_
        refine own_istore X242 (Ls' := #[oI p0, oI p1, oI p2, .val (.long (1 : Int64)), .second, .val (.long j184), .second, oA a185, oI (if 1000000 * p1.toInt < 999999 * (1 : Int) then 0 else 1 : Int32), oI 0]) rfl at_108 (pc' := 110) rfl ?_
        refine own_iload X242 rfl at_110 (pc' := 112) rfl ?_
        refine own_iload X242 rfl at_112 (pc' := 114) rfl ?_
        have c247 : (if 1000000 * p1.toInt < 999999 * (1 : Int) then 0 else 1 : Int32) = (0 : Int32) := if_pos (by omega)
        refine own_icmpF X242 (own_i_eq c247).2 at_114 (pc' := 117) rfl ?_
        refine own_iconst X242 (v := (1 : Int32)) (by decide) at_117 (pc' := 118) rfl ?_
        refine own_goto X242 at_118 (pc' := 122) (by decide) (by decide) ?_
        exact own_retZW X242 hS240 hk240 (by decide) at_122 rfl (by decide) (by decide) rfl
      · -- no c246
        refine own_ifF X242 (own_c3_nlt c246).1 at_100 (pc' := 103) rfl ?_
        refine own_iconst X242 (v := (1 : Int32)) (by decide) at_103 (pc' := 104) rfl ?_
        refine own_goto X242 at_104 (pc' := 108) (by decide) (by decide) ?_
        refine own_istore X242 (Ls' := #[oI p0, oI p1, oI p2, .val (.long (1 : Int64)), .second, .val (.long j184), .second, oA a185, oI (if 1000000 * p1.toInt < 999999 * (1 : Int) then 0 else 1 : Int32), oI 1]) rfl at_108 (pc' := 110) rfl ?_
        refine own_iload X242 rfl at_110 (pc' := 112) rfl ?_
        refine own_iload X242 rfl at_112 (pc' := 114) rfl ?_
        have c248 : (if 1000000 * p1.toInt < 999999 * (1 : Int) then 0 else 1 : Int32) = (1 : Int32) := if_neg (by omega)
        refine own_icmpF X242 (own_i_eq c248).2 at_114 (pc' := 117) rfl ?_
        refine own_iconst X242 (v := (1 : Int32)) (by decide) at_117 (pc' := 118) rfl ?_
        refine own_goto X242 at_118 (pc' := 122) (by decide) (by decide) ?_
        exact own_retZW X242 hS240 hk240 (by decide) at_122 rfl (by decide) (by decide) rfl
    · -- no c182
      refine own_ifF X0 (own_z_ne c182).1 at_30 (pc' := 33) rfl ?_
      refine own_lloadN X0 rfl at_33 (pc' := 34) rfl ?_
      refine own_lloadN X0 rfl at_34 (pc' := 35) rfl ?_
      refine own_ldcJ X0 (v := (1000000 : Int64)) (ww 1 rfl) at_35 (pc' := 38) rfl ?_
      refine own_ldiv X0 (by decide) (v := (0 : Int64)) (by decide) at_38 (pc' := 39) rfl ?_
      refine own_lsub X0 (v := (1 : Int64)) (by decide) at_39 (pc' := 40) rfl ?_
      refine own_iloadN X0 rfl at_40 (pc' := 41) rfl ?_
      refine own_bipush X0 (v := (63 : Int32)) (by decide) at_41 (pc' := 43) rfl ?_
      obtain ⟨i249, e249⟩ : ∃ v, p1 &&& (63 : Int32) = v := ⟨_, rfl⟩
      have f249 : own_I 63 i249.toInt i249 := own_I.and e249 (by decide)
      have nn249 := own_and_nn (M := 63) e249 (by decide)
      refine own_iand X0 e249 at_43 (pc' := 44) rfl ?_
      refine own_bipush X0 (v := (32 : Int32)) (by decide) at_44 (pc' := 46) rfl ?_
      obtain ⟨i250, e250⟩ : ∃ v, i249 - (32 : Int32) = v := ⟨_, rfl⟩
      have f251 : own_I 32 (32 : Int) (32 : Int32) := own_I.lit (by decide) (by decide)
      have f250 : own_I 95 (i249.toInt - (32 : Int)) i250 := f249.sub f251 e250 (by decide) (by decide)
      refine own_isub X0 e250 at_46 (pc' := 47) rfl ?_
      obtain ⟨j252, e252⟩ : ∃ v, i250.toInt64 = v := ⟨_, rfl⟩
      have f252 : own_L 95 (i249.toInt - (32 : Int)) j252 := own_L.ofI f250 e252
      refine own_i2l X0 e252 at_47 (pc' := 48) rfl ?_
      obtain ⟨j253, e253⟩ : ∃ v, (1 : Int64) + j252 = v := ⟨_, rfl⟩
      have f254 : own_L 1 (1 : Int) (1 : Int64) := own_L.lit (by decide) (by decide)
      have f253 : own_L 96 ((1 : Int) + (i249.toInt - (32 : Int))) j253 := f254.add f252 e253 (by decide) (by decide)
      refine own_ladd X0 e253 at_48 (pc' := 49) rfl ?_
      refine own_lstore X0 (Ls' := #[oI p0, oI p1, oI p2, .val (.long (1 : Int64)), .second, .val (.long j253), .second, oU, oU, oU]) rfl at_49 (pc' := 51) rfl ?_
      refine own_goto X0 at_51 (pc' := 58) (by decide) (by decide) ?_
      refine own_new X0 (ww 2 rfl) (ww 3 rfl) (ww 4 rfl) (cells' := 1) (slots' := 7) rfl rfl (by decide) (by decide) at_58 (pc' := 61) rfl fun a255 T255 h255 g255 ge255 X255 E255 A255 D255 => ?_
      have S256 := S0.ext E255
      have hk257 := own_hk_ext hk0 E255
      have F258 : Fld Z h255 a255 "com/example/duepath/duepath/Request" "id" "Ljava/lang/String;" .null := D255 (Or.inr (ww 62 rfl)) (ty := (.object "java/lang/String")) (by decide)
      have F259 : Fld Z h255 a255 "com/example/duepath/duepath/Request" "source" "Ljava/lang/String;" .null := D255 (Or.inr (ww 64 rfl)) (ty := (.object "java/lang/String")) (by decide)
      have F260 : Fld Z h255 a255 "com/example/duepath/duepath/Request" "destination" "Ljava/lang/String;" .null := D255 (Or.inr (ww 66 rfl)) (ty := (.object "java/lang/String")) (by decide)
      have F261 : Fld Z h255 a255 "com/example/duepath/duepath/Request" "size" "D" (.double (0 : UInt64)) := D255 (Or.inr (ww 68 rfl)) (ty := .double) (by decide)
      have F262 : Fld Z h255 a255 "com/example/duepath/duepath/Request" "release" "D" (.double (0 : UInt64)) := D255 (Or.inr (ww 70 rfl)) (ty := .double) (by decide)
      have F263 : Fld Z h255 a255 "com/example/duepath/duepath/Request" "deadline" "D" (.double (0 : UInt64)) := D255 (Or.inr (ww 72 rfl)) (ty := .double) (by decide)
      have F264 : Fld Z h255 a255 "com/example/duepath/duepath/Request" "value" "D" (.double (0 : UInt64)) := D255 (Or.inr (ww 74 rfl)) (ty := .double) (by decide)
      refine own_dup X255 rfl at_61 (pc' := 62) rfl ?_
      refine own_ldcSV X255 hS0 hk257 hZn (fun _ _ q => q) I0 (text := "r") (by decide) hh13 hcw (vs := [.int (114 : Int32)]) (z := 1) ⟨by decide, by decide⟩ (by decide) (by decide) (ww 5 rfl) wS (n := 4) (by decide) (by decide) (cells' := 3) (slots' := 15) rfl rfl (by decide) (by decide) at_62 (pc' := 64) rfl fun a265 b265 T265 h265 vm265 k265 hS265 hkn265 X265 E265 A265 F265a F265b V265 I265 => ?_
      have A266 := A255.ext E265
      have F267 := F258.ext E265
      have F268 := F259.ext E265
      have F269 := F260.ext E265
      have F270 := F261.ext E265
      have F271 := F262.ext E265
      have F272 := F263.ext E265
      have F273 := F264.ext E265
      have S274 := S256.ext E265
      refine own_ldcSV X265 hS265 hkn265 hZn (fun _ _ q => q) I265 (text := "a") (by decide) hh15 hcw (vs := [.int (97 : Int32)]) (z := 1) ⟨by decide, by decide⟩ (by decide) (by decide) (ww 13 rfl) wS (n := 4) (by decide) (by decide) (cells' := 5) (slots' := 23) rfl rfl (by decide) (by decide) at_64 (pc' := 66) rfl fun a275 b275 T275 h275 vm275 k275 hS275 hkn275 X275 E275 A275 F275a F275b V275 I275 => ?_
      have A276 := A266.ext E275
      have F277 := F267.ext E275
      have F278 := F268.ext E275
      have F279 := F269.ext E275
      have F280 := F270.ext E275
      have F281 := F271.ext E275
      have F282 := F272.ext E275
      have F283 := F273.ext E275
      have A284 := A265.ext E275
      have F285 := F265a.ext E275
      have F286 := F265b.ext E275
      have V287 := V265.ext E275
      have S288 := S274.ext E275
      refine own_ldcSV X275 hS275 hkn275 hZn (fun _ _ q => q) I275 (text := "b") (by decide) hh17 hcw (vs := [.int (98 : Int32)]) (z := 1) ⟨by decide, by decide⟩ (by decide) (by decide) (ww 14 rfl) wS (n := 4) (by decide) (by decide) (cells' := 7) (slots' := 31) rfl rfl (by decide) (by decide) at_66 (pc' := 68) rfl fun a289 b289 T289 h289 vm289 k289 hS289 hkn289 X289 E289 A289 F289a F289b V289 I289 => ?_
      have A290 := A276.ext E289
      have F291 := F277.ext E289
      have F292 := F278.ext E289
      have F293 := F279.ext E289
      have F294 := F280.ext E289
      have F295 := F281.ext E289
      have F296 := F282.ext E289
      have F297 := F283.ext E289
      have A298 := A284.ext E289
      have F299 := F285.ext E289
      have F300 := F286.ext E289
      have V301 := V287.ext E289
      have A302 := A275.ext E289
      have F303 := F275a.ext E289
      have F304 := F275b.ext E289
      have V305 := V275.ext E289
      have S306 := S288.ext E289
      refine own_lloadN X289 rfl at_68 (pc' := 69) rfl ?_
      have f307 : own_L 1 (1 : Int) (1 : Int64) := own_L.lit (by decide) (by decide)
      obtain ⟨d308, e308⟩ : ∃ v, FP.l2d (1 : Int64) = v := ⟨_, rfl⟩
      have f308 : own_D 0 1 (1 : Int) d308 := own_D.l2d f307 e308 (by decide)
      refine own_l2d X289 e308 at_69 (pc' := 70) rfl ?_
      refine own_dconst0 X289 (v := (0 : UInt64)) rfl at_70 (pc' := 71) rfl ?_
      refine own_dconst1 X289 (v := (4607182418800017408 : UInt64)) rfl at_71 (pc' := 72) rfl ?_
      refine own_dconst1 X289 (v := (4607182418800017408 : UInt64)) rfl at_72 (pc' := 73) rfl ?_
      have f309 : own_D 0 2147483647 (1 : Int) d308 := f308.mono (by decide)
      refine own_specialW X289 hS289 hkn289 (own_ini l Z a0 hw a255 a265 b265 a275 b275 a289 b289 d308 (1 : Int) _ n0 X289.le ge255 A290 F291 F292 F293 F294 F295 F296 F297 A298 F299 F300 V301 A302 F303 F304 V305 A289 F289a F289b V289 f309 (by omega) cs S306 hcs) rfl rfl (ww 15 rfl) (ww 16 rfl) (ww 4 rfl) (ww 17 rfl) (by decide) rfl (by decide) (W := 1) (Nat.le_of_eq rfl) (by decide) (cells' := 13) (slots' := 119) rfl rfl (by decide) (by decide) (argsL := [(.ref a265), (.ref a275), (.ref a289), (.double d308), (.double (0 : UInt64)), (.double (4607182418800017408 : UInt64)), (.double (4607182418800017408 : UInt64))]) (rest := [(.ref a255)]) (lenOf own_pd7 rfl) rfl rfl at_73 (pc' := 76) rfl ?_
      rintro _ T310 h310 vm310 k310 hS310 hk310 X310 ⟨rfl, A310, F310⟩
      show own_Goal p e below _ T310 (mkF m 76 #[oI p0, oI p1, oI p2, .val (.long (1 : Int64)), .second, .val (.long j253), .second, oU, oU, oU] [(.ref a255)])
      refine own_astore X310 (Ls' := #[oI p0, oI p1, oI p2, .val (.long (1 : Int64)), .second, .val (.long j253), .second, oA a255, oU, oU]) rfl rfl at_76 (pc' := 78) rfl ?_
      refine own_aload X310 rfl rfl at_78 (pc' := 80) rfl ?_
      refine own_lload X310 rfl at_80 (pc' := 82) rfl ?_
      obtain ⟨d311, e311⟩ : ∃ v, FP.l2d j253 = v := ⟨_, rfl⟩
      have f311 : own_D 0 96 ((1 : Int) + (i249.toInt - (32 : Int))) d311 := own_D.l2d f253 e311 (by decide)
      refine own_l2d X310 e311 at_82 (pc' := 83) rfl ?_
      refine own_virtual X310 (own_imb l Z a0 hw a255 d311 d308 ((1 : Int) + (i249.toInt - (32 : Int))) (1 : Int) 96 1 _ n0 X310.le F310 f311 f308 (by omega) (by omega) (by omega)) (C := "com/example/duepath/duepath/Request") rfl (ww 75 rfl) (ww 76 rfl) (ww 78 rfl) (ww 77 rfl) (ww 4 rfl) (ww 79 rfl) (by decide) rfl (by decide) (W := 0) (Nat.le_of_eq rfl) (by decide) (cells' := 13) (slots' := 119) rfl rfl (by decide) (by decide) A310 (argsL := [(.double d311)]) (rest := []) (lenOf own_pd5 rfl) rfl rfl at_83 (pc' := 86) rfl ?_
      rintro _ T312 h312 X312 ⟨rfl, e312⟩
      subst e312
      show own_Goal p e below _ T312 (mkF m 86 #[oI p0, oI p1, oI p2, .val (.long (1 : Int64)), .second, .val (.long j253), .second, oA a255, oU, oU] [(.int (if 1000000 * ((1 : Int) + (i249.toInt - (32 : Int))) < 999999 * (1 : Int) then 0 else 1 : Int32))])
      refine own_istore X312 (Ls' := #[oI p0, oI p1, oI p2, .val (.long (1 : Int64)), .second, .val (.long j253), .second, oA a255, oI (if 1000000 * ((1 : Int) + (i249.toInt - (32 : Int))) < 999999 * (1 : Int) then 0 else 1 : Int32), oU]) rfl at_86 (pc' := 88) rfl ?_
      refine own_lload X312 rfl at_88 (pc' := 90) rfl ?_
      refine own_ldcJ X312 (v := (1000000 : Int64)) (ww 1 rfl) at_90 (pc' := 93) rfl ?_
      obtain ⟨j313, e313⟩ : ∃ v, j253 * (1000000 : Int64) = v := ⟨_, rfl⟩
      have f314 : own_L 1000000 (1000000 : Int) (1000000 : Int64) := own_L.lit (by decide) (by decide)
      have f313 : own_L 96000000 (((1 : Int) + (i249.toInt - (32 : Int))) * (1000000 : Int)) j313 := f253.mul f314 e313 (by decide) (by decide)
      refine own_lmul X312 e313 at_93 (pc' := 94) rfl ?_
      refine own_lloadN X312 rfl at_94 (pc' := 95) rfl ?_
      refine own_ldcJ X312 (v := (999999 : Int64)) (ww 81 rfl) at_95 (pc' := 98) rfl ?_
      refine own_lmul X312 (v := (999999 : Int64)) (by decide) at_98 (pc' := 99) rfl ?_
      have f315 : own_L 999999 (999999 : Int) (999999 : Int64) := own_L.lit (by decide) (by decide)
      refine own_lcmp X312 (f313.cmp f315) at_99 (pc' := 100) rfl ?_
      by_cases c316 : (((1 : Int) + (i249.toInt - (32 : Int))) * (1000000 : Int)) < (999999 : Int)
      · -- yes c316
        refine own_ifT X312 (own_c3_lt c316).1 at_100 (pc' := 107) (by decide) (by decide) ?_
        refine own_iconst X312 (v := (0 : Int32)) (by decide) at_107 (pc' := 108) rfl ?_
        refine own_istore X312 (Ls' := #[oI p0, oI p1, oI p2, .val (.long (1 : Int64)), .second, .val (.long j253), .second, oA a255, oI (if 1000000 * ((1 : Int) + (i249.toInt - (32 : Int))) < 999999 * (1 : Int) then 0 else 1 : Int32), oI 0]) rfl at_108 (pc' := 110) rfl ?_
        refine own_iload X312 rfl at_110 (pc' := 112) rfl ?_
        refine own_iload X312 rfl at_112 (pc' := 114) rfl ?_
        have c317 : (if 1000000 * ((1 : Int) + (i249.toInt - (32 : Int))) < 999999 * (1 : Int) then 0 else 1 : Int32) = (0 : Int32) := if_pos (by omega)
        refine own_icmpF X312 (own_i_eq c317).2 at_114 (pc' := 117) rfl ?_
        refine own_iconst X312 (v := (1 : Int32)) (by decide) at_117 (pc' := 118) rfl ?_
        refine own_goto X312 at_118 (pc' := 122) (by decide) (by decide) ?_
        exact own_retZW X312 hS310 hk310 (by decide) at_122 rfl (by decide) (by decide) rfl
      · -- no c316
        refine own_ifF X312 (own_c3_nlt c316).1 at_100 (pc' := 103) rfl ?_
        refine own_iconst X312 (v := (1 : Int32)) (by decide) at_103 (pc' := 104) rfl ?_
        refine own_goto X312 at_104 (pc' := 108) (by decide) (by decide) ?_
        refine own_istore X312 (Ls' := #[oI p0, oI p1, oI p2, .val (.long (1 : Int64)), .second, .val (.long j253), .second, oA a255, oI (if 1000000 * ((1 : Int) + (i249.toInt - (32 : Int))) < 999999 * (1 : Int) then 0 else 1 : Int32), oI 1]) rfl at_108 (pc' := 110) rfl ?_
        refine own_iload X312 rfl at_110 (pc' := 112) rfl ?_
        refine own_iload X312 rfl at_112 (pc' := 114) rfl ?_
        have c318 : (if 1000000 * ((1 : Int) + (i249.toInt - (32 : Int))) < 999999 * (1 : Int) then 0 else 1 : Int32) = (1 : Int32) := if_neg (by omega)
        refine own_icmpF X312 (own_i_eq c318).2 at_114 (pc' := 117) rfl ?_
        refine own_iconst X312 (v := (1 : Int32)) (by decide) at_117 (pc' := 118) rfl ?_
        refine own_goto X312 at_118 (pc' := 122) (by decide) (by decide) ?_
        exact own_retZW X312 hS310 hk310 (by decide) at_122 rfl (by decide) (by decide) rfl
  · -- no c177
    refine own_ifT X0 (own_c3_ne c177).2 at_10 (pc' := 15) (by decide) (by decide) ?_
    refine own_lloadN X0 rfl at_15 (pc' := 16) rfl ?_
    refine own_ldcJ X0 (v := (1000000 : Int64)) (ww 1 rfl) at_16 (pc' := 19) rfl ?_
    obtain ⟨j319, e319⟩ : ∃ v, j175 - (j175 / (1000000 : Int64)) * (1000000 : Int64) = v := ⟨_, rfl⟩
    refine own_lrem X0 (by decide) e319 at_19 (pc' := 20) rfl ?_
    have lr319 : j319.toInt = j175.toInt % 1000000 := own_lrem_eq e319 (by omega) (by decide)
    have f319 : own_L 1000000 (j175.toInt % 1000000) j319 := ⟨lr319, by omega⟩
    refine own_lconst X0 (v := (0 : Int64)) (by decide) at_20 (pc' := 21) rfl ?_
    have f320 : own_L 0 (0 : Int) (0 : Int64) := own_L.lit (by decide) (by decide)
    refine own_lcmp X0 (f319.cmp f320) at_21 (pc' := 22) rfl ?_
    by_cases c321 : (j175.toInt % 1000000) = (0 : Int)
    · -- yes c321
      refine own_ifF X0 (own_c3_eq c321).2 at_22 (pc' := 25) rfl ?_
      refine own_iconst X0 (v := (1 : Int32)) (by decide) at_25 (pc' := 26) rfl ?_
      exact own_retZW X0 hS0 hk0 (by decide) at_26 rfl (by decide) (by decide) rfl
    · -- no c321
      refine own_ifT X0 (own_c3_ne c321).2 at_22 (pc' := 27) (by decide) (by decide) ?_
      refine own_iloadN X0 rfl at_27 (pc' := 28) rfl ?_
      refine own_iconst X0 (v := (1 : Int32)) (by decide) at_28 (pc' := 29) rfl ?_
      obtain ⟨i322, e322⟩ : ∃ v, p2 &&& (1 : Int32) = v := ⟨_, rfl⟩
      have f322 : own_I 1 i322.toInt i322 := own_I.and e322 (by decide)
      have nn322 := own_and_nn (M := 1) e322 (by decide)
      refine own_iand X0 e322 at_29 (pc' := 30) rfl ?_
      by_cases c323 : i322 = 0
      · -- yes c323
        refine own_ifT X0 (own_z_eq c323).1 at_30 (pc' := 54) (by decide) (by decide) ?_
        refine own_iloadN X0 rfl at_54 (pc' := 55) rfl ?_
        have f324 := own_I.start p1
        obtain ⟨j325, e325⟩ : ∃ v, p1.toInt64 = v := ⟨_, rfl⟩
        have f325 : own_L 2147483648 p1.toInt j325 := own_L.ofI f324 e325
        refine own_i2l X0 e325 at_55 (pc' := 56) rfl ?_
        refine own_lstore X0 (Ls' := #[oI p0, oI p1, oI p2, .val (.long j175), .second, .val (.long j325), .second, oU, oU, oU]) rfl at_56 (pc' := 58) rfl ?_
        refine own_new X0 (ww 2 rfl) (ww 3 rfl) (ww 4 rfl) (cells' := 1) (slots' := 7) rfl rfl (by decide) (by decide) at_58 (pc' := 61) rfl fun a326 T326 h326 g326 ge326 X326 E326 A326 D326 => ?_
        have S327 := S0.ext E326
        have hk328 := own_hk_ext hk0 E326
        have F329 : Fld Z h326 a326 "com/example/duepath/duepath/Request" "id" "Ljava/lang/String;" .null := D326 (Or.inr (ww 62 rfl)) (ty := (.object "java/lang/String")) (by decide)
        have F330 : Fld Z h326 a326 "com/example/duepath/duepath/Request" "source" "Ljava/lang/String;" .null := D326 (Or.inr (ww 64 rfl)) (ty := (.object "java/lang/String")) (by decide)
        have F331 : Fld Z h326 a326 "com/example/duepath/duepath/Request" "destination" "Ljava/lang/String;" .null := D326 (Or.inr (ww 66 rfl)) (ty := (.object "java/lang/String")) (by decide)
        have F332 : Fld Z h326 a326 "com/example/duepath/duepath/Request" "size" "D" (.double (0 : UInt64)) := D326 (Or.inr (ww 68 rfl)) (ty := .double) (by decide)
        have F333 : Fld Z h326 a326 "com/example/duepath/duepath/Request" "release" "D" (.double (0 : UInt64)) := D326 (Or.inr (ww 70 rfl)) (ty := .double) (by decide)
        have F334 : Fld Z h326 a326 "com/example/duepath/duepath/Request" "deadline" "D" (.double (0 : UInt64)) := D326 (Or.inr (ww 72 rfl)) (ty := .double) (by decide)
        have F335 : Fld Z h326 a326 "com/example/duepath/duepath/Request" "value" "D" (.double (0 : UInt64)) := D326 (Or.inr (ww 74 rfl)) (ty := .double) (by decide)
        refine own_dup X326 rfl at_61 (pc' := 62) rfl ?_
        refine own_ldcSV X326 hS0 hk328 hZn (fun _ _ q => q) I0 (text := "r") (by decide) hh13 hcw (vs := [.int (114 : Int32)]) (z := 1) ⟨by decide, by decide⟩ (by decide) (by decide) (ww 5 rfl) wS (n := 4) (by decide) (by decide) (cells' := 3) (slots' := 15) rfl rfl (by decide) (by decide) at_62 (pc' := 64) rfl fun a336 b336 T336 h336 vm336 k336 hS336 hkn336 X336 E336 A336 F336a F336b V336 I336 => ?_
        have A337 := A326.ext E336
        have F338 := F329.ext E336
        have F339 := F330.ext E336
        have F340 := F331.ext E336
        have F341 := F332.ext E336
        have F342 := F333.ext E336
        have F343 := F334.ext E336
        have F344 := F335.ext E336
        have S345 := S327.ext E336
        refine own_ldcSV X336 hS336 hkn336 hZn (fun _ _ q => q) I336 (text := "a") (by decide) hh15 hcw (vs := [.int (97 : Int32)]) (z := 1) ⟨by decide, by decide⟩ (by decide) (by decide) (ww 13 rfl) wS (n := 4) (by decide) (by decide) (cells' := 5) (slots' := 23) rfl rfl (by decide) (by decide) at_64 (pc' := 66) rfl fun a346 b346 T346 h346 vm346 k346 hS346 hkn346 X346 E346 A346 F346a F346b V346 I346 => ?_
        have A347 := A337.ext E346
        have F348 := F338.ext E346
        have F349 := F339.ext E346
        have F350 := F340.ext E346
        have F351 := F341.ext E346
        have F352 := F342.ext E346
        have F353 := F343.ext E346
        have F354 := F344.ext E346
        have A355 := A336.ext E346
        have F356 := F336a.ext E346
        have F357 := F336b.ext E346
        have V358 := V336.ext E346
        have S359 := S345.ext E346
        refine own_ldcSV X346 hS346 hkn346 hZn (fun _ _ q => q) I346 (text := "b") (by decide) hh17 hcw (vs := [.int (98 : Int32)]) (z := 1) ⟨by decide, by decide⟩ (by decide) (by decide) (ww 14 rfl) wS (n := 4) (by decide) (by decide) (cells' := 7) (slots' := 31) rfl rfl (by decide) (by decide) at_66 (pc' := 68) rfl fun a360 b360 T360 h360 vm360 k360 hS360 hkn360 X360 E360 A360 F360a F360b V360 I360 => ?_
        have A361 := A347.ext E360
        have F362 := F348.ext E360
        have F363 := F349.ext E360
        have F364 := F350.ext E360
        have F365 := F351.ext E360
        have F366 := F352.ext E360
        have F367 := F353.ext E360
        have F368 := F354.ext E360
        have A369 := A355.ext E360
        have F370 := F356.ext E360
        have F371 := F357.ext E360
        have V372 := V358.ext E360
        have A373 := A346.ext E360
        have F374 := F346a.ext E360
        have F375 := F346b.ext E360
        have V376 := V346.ext E360
        have S377 := S359.ext E360
        refine own_lloadN X360 rfl at_68 (pc' := 69) rfl ?_
        obtain ⟨d378, e378⟩ : ∃ v, FP.l2d j175 = v := ⟨_, rfl⟩
        have f378 : own_D 0 2147483647 j175.toInt d378 := own_D.l2d f175 e378 (by decide)
        refine own_l2d X360 e378 at_69 (pc' := 70) rfl ?_
        refine own_dconst0 X360 (v := (0 : UInt64)) rfl at_70 (pc' := 71) rfl ?_
        refine own_dconst1 X360 (v := (4607182418800017408 : UInt64)) rfl at_71 (pc' := 72) rfl ?_
        refine own_dconst1 X360 (v := (4607182418800017408 : UInt64)) rfl at_72 (pc' := 73) rfl ?_
        refine own_specialW X360 hS360 hkn360 (own_ini l Z a0 hw a326 a336 b336 a346 b346 a360 b360 d378 j175.toInt _ n0 X360.le ge326 A361 F362 F363 F364 F365 F366 F367 F368 A369 F370 F371 V372 A373 F374 F375 V376 A360 F360a F360b V360 f378 (by omega) cs S377 hcs) rfl rfl (ww 15 rfl) (ww 16 rfl) (ww 4 rfl) (ww 17 rfl) (by decide) rfl (by decide) (W := 1) (Nat.le_of_eq rfl) (by decide) (cells' := 13) (slots' := 119) rfl rfl (by decide) (by decide) (argsL := [(.ref a336), (.ref a346), (.ref a360), (.double d378), (.double (0 : UInt64)), (.double (4607182418800017408 : UInt64)), (.double (4607182418800017408 : UInt64))]) (rest := [(.ref a326)]) (lenOf own_pd7 rfl) rfl rfl at_73 (pc' := 76) rfl ?_
        rintro _ T379 h379 vm379 k379 hS379 hk379 X379 ⟨rfl, A379, F379⟩
        show own_Goal p e below _ T379 (mkF m 76 #[oI p0, oI p1, oI p2, .val (.long j175), .second, .val (.long j325), .second, oU, oU, oU] [(.ref a326)])
        refine own_astore X379 (Ls' := #[oI p0, oI p1, oI p2, .val (.long j175), .second, .val (.long j325), .second, oA a326, oU, oU]) rfl rfl at_76 (pc' := 78) rfl ?_
        refine own_aload X379 rfl rfl at_78 (pc' := 80) rfl ?_
        refine own_lload X379 rfl at_80 (pc' := 82) rfl ?_
        obtain ⟨d380, e380⟩ : ∃ v, FP.l2d j325 = v := ⟨_, rfl⟩
        have f380 : own_D 0 2147483648 p1.toInt d380 := own_D.l2d f325 e380 (by decide)
        refine own_l2d X379 e380 at_82 (pc' := 83) rfl ?_
        refine own_virtual X379 (own_imb l Z a0 hw a326 d380 d378 p1.toInt j175.toInt 2147483648 2147483647 _ n0 X379.le F379 f380 f378 (by omega) (by omega) (by omega)) (C := "com/example/duepath/duepath/Request") rfl (ww 75 rfl) (ww 76 rfl) (ww 78 rfl) (ww 77 rfl) (ww 4 rfl) (ww 79 rfl) (by decide) rfl (by decide) (W := 0) (Nat.le_of_eq rfl) (by decide) (cells' := 13) (slots' := 119) rfl rfl (by decide) (by decide) A379 (argsL := [(.double d380)]) (rest := []) (lenOf own_pd5 rfl) rfl rfl at_83 (pc' := 86) rfl ?_
        rintro _ T381 h381 X381 ⟨rfl, e381⟩
        subst e381
        show own_Goal p e below _ T381 (mkF m 86 #[oI p0, oI p1, oI p2, .val (.long j175), .second, .val (.long j325), .second, oA a326, oU, oU] [(.int (if 1000000 * p1.toInt < 999999 * j175.toInt then 0 else 1 : Int32))])
        refine own_istore X381 (Ls' := #[oI p0, oI p1, oI p2, .val (.long j175), .second, .val (.long j325), .second, oA a326, oI (if 1000000 * p1.toInt < 999999 * j175.toInt then 0 else 1 : Int32), oU]) rfl at_86 (pc' := 88) rfl ?_
        refine own_lload X381 rfl at_88 (pc' := 90) rfl ?_
        refine own_ldcJ X381 (v := (1000000 : Int64)) (ww 1 rfl) at_90 (pc' := 93) rfl ?_
        obtain ⟨j382, e382⟩ : ∃ v, j325 * (1000000 : Int64) = v := ⟨_, rfl⟩
        have f383 : own_L 1000000 (1000000 : Int) (1000000 : Int64) := own_L.lit (by decide) (by decide)
        have f382 : own_L 2147483648000000 (p1.toInt * (1000000 : Int)) j382 := f325.mul f383 e382 (by decide) (by decide)
        refine own_lmul X381 e382 at_93 (pc' := 94) rfl ?_
        refine own_lloadN X381 rfl at_94 (pc' := 95) rfl ?_
        refine own_ldcJ X381 (v := (999999 : Int64)) (ww 81 rfl) at_95 (pc' := 98) rfl ?_
        obtain ⟨j384, e384⟩ : ∃ v, j175 * (999999 : Int64) = v := ⟨_, rfl⟩
        have f385 : own_L 999999 (999999 : Int) (999999 : Int64) := own_L.lit (by decide) (by decide)
        have f384 : own_L 2147481499516353 (j175.toInt * (999999 : Int)) j384 := f175.mul f385 e384 (by decide) (by decide)
        refine own_lmul X381 e384 at_98 (pc' := 99) rfl ?_
        refine own_lcmp X381 (f382.cmp f384) at_99 (pc' := 100) rfl ?_
        by_cases c386 : (p1.toInt * (1000000 : Int)) < (j175.toInt * (999999 : Int))
        · -- yes c386
          refine own_ifT X381 (own_c3_lt c386).1 at_100 (pc' := 107) (by decide) (by decide) ?_
          refine own_iconst X381 (v := (0 : Int32)) (by decide) at_107 (pc' := 108) rfl ?_
          refine own_istore X381 (Ls' := #[oI p0, oI p1, oI p2, .val (.long j175), .second, .val (.long j325), .second, oA a326, oI (if 1000000 * p1.toInt < 999999 * j175.toInt then 0 else 1 : Int32), oI 0]) rfl at_108 (pc' := 110) rfl ?_
          refine own_iload X381 rfl at_110 (pc' := 112) rfl ?_
          refine own_iload X381 rfl at_112 (pc' := 114) rfl ?_
          have c387 : (if 1000000 * p1.toInt < 999999 * j175.toInt then 0 else 1 : Int32) = (0 : Int32) := if_pos (by omega)
          refine own_icmpF X381 (own_i_eq c387).2 at_114 (pc' := 117) rfl ?_
          refine own_iconst X381 (v := (1 : Int32)) (by decide) at_117 (pc' := 118) rfl ?_
          refine own_goto X381 at_118 (pc' := 122) (by decide) (by decide) ?_
          exact own_retZW X381 hS379 hk379 (by decide) at_122 rfl (by decide) (by decide) rfl
        · -- no c386
          refine own_ifF X381 (own_c3_nlt c386).1 at_100 (pc' := 103) rfl ?_
          refine own_iconst X381 (v := (1 : Int32)) (by decide) at_103 (pc' := 104) rfl ?_
          refine own_goto X381 at_104 (pc' := 108) (by decide) (by decide) ?_
          refine own_istore X381 (Ls' := #[oI p0, oI p1, oI p2, .val (.long j175), .second, .val (.long j325), .second, oA a326, oI (if 1000000 * p1.toInt < 999999 * j175.toInt then 0 else 1 : Int32), oI 1]) rfl at_108 (pc' := 110) rfl ?_
          refine own_iload X381 rfl at_110 (pc' := 112) rfl ?_
          refine own_iload X381 rfl at_112 (pc' := 114) rfl ?_
          have c388 : (if 1000000 * p1.toInt < 999999 * j175.toInt then 0 else 1 : Int32) = (1 : Int32) := if_neg (by omega)
          refine own_icmpF X381 (own_i_eq c388).2 at_114 (pc' := 117) rfl ?_
          refine own_iconst X381 (v := (1 : Int32)) (by decide) at_117 (pc' := 118) rfl ?_
          refine own_goto X381 at_118 (pc' := 122) (by decide) (by decide) ?_
          exact own_retZW X381 hS379 hk379 (by decide) at_122 rfl (by decide) (by decide) rfl
      · -- no c323
        refine own_ifF X0 (own_z_ne c323).1 at_30 (pc' := 33) rfl ?_
        refine own_lloadN X0 rfl at_33 (pc' := 34) rfl ?_
        refine own_lloadN X0 rfl at_34 (pc' := 35) rfl ?_
        refine own_ldcJ X0 (v := (1000000 : Int64)) (ww 1 rfl) at_35 (pc' := 38) rfl ?_
        obtain ⟨j389, e389⟩ : ∃ v, j175 / (1000000 : Int64) = v := ⟨_, rfl⟩
        refine own_ldiv X0 (by decide) e389 at_38 (pc' := 39) rfl ?_
        have f389 : own_L 2147 (j175.toInt / 1000000) j389 := own_ldiv_eq e389 (by omega) (by omega)
        obtain ⟨j390, e390⟩ : ∃ v, j175 - j389 = v := ⟨_, rfl⟩
        have f390 : own_L 2147485794 (j175.toInt - (j175.toInt / 1000000)) j390 := f175.sub f389 e390 (by decide) (by decide)
        refine own_lsub X0 e390 at_39 (pc' := 40) rfl ?_
        refine own_iloadN X0 rfl at_40 (pc' := 41) rfl ?_
        refine own_bipush X0 (v := (63 : Int32)) (by decide) at_41 (pc' := 43) rfl ?_
        obtain ⟨i391, e391⟩ : ∃ v, p1 &&& (63 : Int32) = v := ⟨_, rfl⟩
        have f391 : own_I 63 i391.toInt i391 := own_I.and e391 (by decide)
        have nn391 := own_and_nn (M := 63) e391 (by decide)
        refine own_iand X0 e391 at_43 (pc' := 44) rfl ?_
        refine own_bipush X0 (v := (32 : Int32)) (by decide) at_44 (pc' := 46) rfl ?_
        obtain ⟨i392, e392⟩ : ∃ v, i391 - (32 : Int32) = v := ⟨_, rfl⟩
        have f393 : own_I 32 (32 : Int) (32 : Int32) := own_I.lit (by decide) (by decide)
        have f392 : own_I 95 (i391.toInt - (32 : Int)) i392 := f391.sub f393 e392 (by decide) (by decide)
        refine own_isub X0 e392 at_46 (pc' := 47) rfl ?_
        obtain ⟨j394, e394⟩ : ∃ v, i392.toInt64 = v := ⟨_, rfl⟩
        have f394 : own_L 95 (i391.toInt - (32 : Int)) j394 := own_L.ofI f392 e394
        refine own_i2l X0 e394 at_47 (pc' := 48) rfl ?_
        obtain ⟨j395, e395⟩ : ∃ v, j390 + j394 = v := ⟨_, rfl⟩
        have f395 : own_L 2147485889 ((j175.toInt - (j175.toInt / 1000000)) + (i391.toInt - (32 : Int))) j395 := f390.add f394 e395 (by decide) (by decide)
        refine own_ladd X0 e395 at_48 (pc' := 49) rfl ?_
        refine own_lstore X0 (Ls' := #[oI p0, oI p1, oI p2, .val (.long j175), .second, .val (.long j395), .second, oU, oU, oU]) rfl at_49 (pc' := 51) rfl ?_
        refine own_goto X0 at_51 (pc' := 58) (by decide) (by decide) ?_
        refine own_new X0 (ww 2 rfl) (ww 3 rfl) (ww 4 rfl) (cells' := 1) (slots' := 7) rfl rfl (by decide) (by decide) at_58 (pc' := 61) rfl fun a396 T396 h396 g396 ge396 X396 E396 A396 D396 => ?_
        have S397 := S0.ext E396
        have hk398 := own_hk_ext hk0 E396
        have F399 : Fld Z h396 a396 "com/example/duepath/duepath/Request" "id" "Ljava/lang/String;" .null := D396 (Or.inr (ww 62 rfl)) (ty := (.object "java/lang/String")) (by decide)
        have F400 : Fld Z h396 a396 "com/example/duepath/duepath/Request" "source" "Ljava/lang/String;" .null := D396 (Or.inr (ww 64 rfl)) (ty := (.object "java/lang/String")) (by decide)
        have F401 : Fld Z h396 a396 "com/example/duepath/duepath/Request" "destination" "Ljava/lang/String;" .null := D396 (Or.inr (ww 66 rfl)) (ty := (.object "java/lang/String")) (by decide)
        have F402 : Fld Z h396 a396 "com/example/duepath/duepath/Request" "size" "D" (.double (0 : UInt64)) := D396 (Or.inr (ww 68 rfl)) (ty := .double) (by decide)
        have F403 : Fld Z h396 a396 "com/example/duepath/duepath/Request" "release" "D" (.double (0 : UInt64)) := D396 (Or.inr (ww 70 rfl)) (ty := .double) (by decide)
        have F404 : Fld Z h396 a396 "com/example/duepath/duepath/Request" "deadline" "D" (.double (0 : UInt64)) := D396 (Or.inr (ww 72 rfl)) (ty := .double) (by decide)
        have F405 : Fld Z h396 a396 "com/example/duepath/duepath/Request" "value" "D" (.double (0 : UInt64)) := D396 (Or.inr (ww 74 rfl)) (ty := .double) (by decide)
        refine own_dup X396 rfl at_61 (pc' := 62) rfl ?_
        refine own_ldcSV X396 hS0 hk398 hZn (fun _ _ q => q) I0 (text := "r") (by decide) hh13 hcw (vs := [.int (114 : Int32)]) (z := 1) ⟨by decide, by decide⟩ (by decide) (by decide) (ww 5 rfl) wS (n := 4) (by decide) (by decide) (cells' := 3) (slots' := 15) rfl rfl (by decide) (by decide) at_62 (pc' := 64) rfl fun a406 b406 T406 h406 vm406 k406 hS406 hkn406 X406 E406 A406 F406a F406b V406 I406 => ?_
        have A407 := A396.ext E406
        have F408 := F399.ext E406
        have F409 := F400.ext E406
        have F410 := F401.ext E406
        have F411 := F402.ext E406
        have F412 := F403.ext E406
        have F413 := F404.ext E406
        have F414 := F405.ext E406
        have S415 := S397.ext E406
        refine own_ldcSV X406 hS406 hkn406 hZn (fun _ _ q => q) I406 (text := "a") (by decide) hh15 hcw (vs := [.int (97 : Int32)]) (z := 1) ⟨by decide, by decide⟩ (by decide) (by decide) (ww 13 rfl) wS (n := 4) (by decide) (by decide) (cells' := 5) (slots' := 23) rfl rfl (by decide) (by decide) at_64 (pc' := 66) rfl fun a416 b416 T416 h416 vm416 k416 hS416 hkn416 X416 E416 A416 F416a F416b V416 I416 => ?_
        have A417 := A407.ext E416
        have F418 := F408.ext E416
        have F419 := F409.ext E416
        have F420 := F410.ext E416
        have F421 := F411.ext E416
        have F422 := F412.ext E416
        have F423 := F413.ext E416
        have F424 := F414.ext E416
        have A425 := A406.ext E416
        have F426 := F406a.ext E416
        have F427 := F406b.ext E416
        have V428 := V406.ext E416
        have S429 := S415.ext E416
        refine own_ldcSV X416 hS416 hkn416 hZn (fun _ _ q => q) I416 (text := "b") (by decide) hh17 hcw (vs := [.int (98 : Int32)]) (z := 1) ⟨by decide, by decide⟩ (by decide) (by decide) (ww 14 rfl) wS (n := 4) (by decide) (by decide) (cells' := 7) (slots' := 31) rfl rfl (by decide) (by decide) at_66 (pc' := 68) rfl fun a430 b430 T430 h430 vm430 k430 hS430 hkn430 X430 E430 A430 F430a F430b V430 I430 => ?_
        have A431 := A417.ext E430
        have F432 := F418.ext E430
        have F433 := F419.ext E430
        have F434 := F420.ext E430
        have F435 := F421.ext E430
        have F436 := F422.ext E430
        have F437 := F423.ext E430
        have F438 := F424.ext E430
        have A439 := A425.ext E430
        have F440 := F426.ext E430
        have F441 := F427.ext E430
        have V442 := V428.ext E430
        have A443 := A416.ext E430
        have F444 := F416a.ext E430
        have F445 := F416b.ext E430
        have V446 := V416.ext E430
        have S447 := S429.ext E430
        refine own_lloadN X430 rfl at_68 (pc' := 69) rfl ?_
        obtain ⟨d448, e448⟩ : ∃ v, FP.l2d j175 = v := ⟨_, rfl⟩
        have f448 : own_D 0 2147483647 j175.toInt d448 := own_D.l2d f175 e448 (by decide)
        refine own_l2d X430 e448 at_69 (pc' := 70) rfl ?_
        refine own_dconst0 X430 (v := (0 : UInt64)) rfl at_70 (pc' := 71) rfl ?_
        refine own_dconst1 X430 (v := (4607182418800017408 : UInt64)) rfl at_71 (pc' := 72) rfl ?_
        refine own_dconst1 X430 (v := (4607182418800017408 : UInt64)) rfl at_72 (pc' := 73) rfl ?_
        refine own_specialW X430 hS430 hkn430 (own_ini l Z a0 hw a396 a406 b406 a416 b416 a430 b430 d448 j175.toInt _ n0 X430.le ge396 A431 F432 F433 F434 F435 F436 F437 F438 A439 F440 F441 V442 A443 F444 F445 V446 A430 F430a F430b V430 f448 (by omega) cs S447 hcs) rfl rfl (ww 15 rfl) (ww 16 rfl) (ww 4 rfl) (ww 17 rfl) (by decide) rfl (by decide) (W := 1) (Nat.le_of_eq rfl) (by decide) (cells' := 13) (slots' := 119) rfl rfl (by decide) (by decide) (argsL := [(.ref a406), (.ref a416), (.ref a430), (.double d448), (.double (0 : UInt64)), (.double (4607182418800017408 : UInt64)), (.double (4607182418800017408 : UInt64))]) (rest := [(.ref a396)]) (lenOf own_pd7 rfl) rfl rfl at_73 (pc' := 76) rfl ?_
        rintro _ T449 h449 vm449 k449 hS449 hk449 X449 ⟨rfl, A449, F449⟩
        show own_Goal p e below _ T449 (mkF m 76 #[oI p0, oI p1, oI p2, .val (.long j175), .second, .val (.long j395), .second, oU, oU, oU] [(.ref a396)])
        refine own_astore X449 (Ls' := #[oI p0, oI p1, oI p2, .val (.long j175), .second, .val (.long j395), .second, oA a396, oU, oU]) rfl rfl at_76 (pc' := 78) rfl ?_
        refine own_aload X449 rfl rfl at_78 (pc' := 80) rfl ?_
        refine own_lload X449 rfl at_80 (pc' := 82) rfl ?_
        obtain ⟨d450, e450⟩ : ∃ v, FP.l2d j395 = v := ⟨_, rfl⟩
        have f450 : own_D 0 2147485889 ((j175.toInt - (j175.toInt / 1000000)) + (i391.toInt - (32 : Int))) d450 := own_D.l2d f395 e450 (by decide)
        refine own_l2d X449 e450 at_82 (pc' := 83) rfl ?_
        refine own_virtual X449 (own_imb l Z a0 hw a396 d450 d448 ((j175.toInt - (j175.toInt / 1000000)) + (i391.toInt - (32 : Int))) j175.toInt 2147485889 2147483647 _ n0 X449.le F449 f450 f448 (by omega) (by omega) (by omega)) (C := "com/example/duepath/duepath/Request") rfl (ww 75 rfl) (ww 76 rfl) (ww 78 rfl) (ww 77 rfl) (ww 4 rfl) (ww 79 rfl) (by decide) rfl (by decide) (W := 0) (Nat.le_of_eq rfl) (by decide) (cells' := 13) (slots' := 119) rfl rfl (by decide) (by decide) A449 (argsL := [(.double d450)]) (rest := []) (lenOf own_pd5 rfl) rfl rfl at_83 (pc' := 86) rfl ?_
        rintro _ T451 h451 X451 ⟨rfl, e451⟩
        subst e451
        show own_Goal p e below _ T451 (mkF m 86 #[oI p0, oI p1, oI p2, .val (.long j175), .second, .val (.long j395), .second, oA a396, oU, oU] [(.int (if 1000000 * ((j175.toInt - (j175.toInt / 1000000)) + (i391.toInt - (32 : Int))) < 999999 * j175.toInt then 0 else 1 : Int32))])
        refine own_istore X451 (Ls' := #[oI p0, oI p1, oI p2, .val (.long j175), .second, .val (.long j395), .second, oA a396, oI (if 1000000 * ((j175.toInt - (j175.toInt / 1000000)) + (i391.toInt - (32 : Int))) < 999999 * j175.toInt then 0 else 1 : Int32), oU]) rfl at_86 (pc' := 88) rfl ?_
        refine own_lload X451 rfl at_88 (pc' := 90) rfl ?_
        refine own_ldcJ X451 (v := (1000000 : Int64)) (ww 1 rfl) at_90 (pc' := 93) rfl ?_
        obtain ⟨j452, e452⟩ : ∃ v, j395 * (1000000 : Int64) = v := ⟨_, rfl⟩
        have f453 : own_L 1000000 (1000000 : Int) (1000000 : Int64) := own_L.lit (by decide) (by decide)
        have f452 : own_L 2147485889000000 (((j175.toInt - (j175.toInt / 1000000)) + (i391.toInt - (32 : Int))) * (1000000 : Int)) j452 := f395.mul f453 e452 (by decide) (by decide)
        refine own_lmul X451 e452 at_93 (pc' := 94) rfl ?_
        refine own_lloadN X451 rfl at_94 (pc' := 95) rfl ?_
        refine own_ldcJ X451 (v := (999999 : Int64)) (ww 81 rfl) at_95 (pc' := 98) rfl ?_
        obtain ⟨j454, e454⟩ : ∃ v, j175 * (999999 : Int64) = v := ⟨_, rfl⟩
        have f455 : own_L 999999 (999999 : Int) (999999 : Int64) := own_L.lit (by decide) (by decide)
        have f454 : own_L 2147481499516353 (j175.toInt * (999999 : Int)) j454 := f175.mul f455 e454 (by decide) (by decide)
        refine own_lmul X451 e454 at_98 (pc' := 99) rfl ?_
        refine own_lcmp X451 (f452.cmp f454) at_99 (pc' := 100) rfl ?_
        by_cases c456 : (((j175.toInt - (j175.toInt / 1000000)) + (i391.toInt - (32 : Int))) * (1000000 : Int)) < (j175.toInt * (999999 : Int))
        · -- yes c456
          refine own_ifT X451 (own_c3_lt c456).1 at_100 (pc' := 107) (by decide) (by decide) ?_
          refine own_iconst X451 (v := (0 : Int32)) (by decide) at_107 (pc' := 108) rfl ?_
          refine own_istore X451 (Ls' := #[oI p0, oI p1, oI p2, .val (.long j175), .second, .val (.long j395), .second, oA a396, oI (if 1000000 * ((j175.toInt - (j175.toInt / 1000000)) + (i391.toInt - (32 : Int))) < 999999 * j175.toInt then 0 else 1 : Int32), oI 0]) rfl at_108 (pc' := 110) rfl ?_
          refine own_iload X451 rfl at_110 (pc' := 112) rfl ?_
          refine own_iload X451 rfl at_112 (pc' := 114) rfl ?_
          have c457 : (if 1000000 * ((j175.toInt - (j175.toInt / 1000000)) + (i391.toInt - (32 : Int))) < 999999 * j175.toInt then 0 else 1 : Int32) = (0 : Int32) := if_pos (by omega)
          refine own_icmpF X451 (own_i_eq c457).2 at_114 (pc' := 117) rfl ?_
          refine own_iconst X451 (v := (1 : Int32)) (by decide) at_117 (pc' := 118) rfl ?_
          refine own_goto X451 at_118 (pc' := 122) (by decide) (by decide) ?_
          exact own_retZW X451 hS449 hk449 (by decide) at_122 rfl (by decide) (by decide) rfl
        · -- no c456
          refine own_ifF X451 (own_c3_nlt c456).1 at_100 (pc' := 103) rfl ?_
          refine own_iconst X451 (v := (1 : Int32)) (by decide) at_103 (pc' := 104) rfl ?_
          refine own_goto X451 at_104 (pc' := 108) (by decide) (by decide) ?_
          refine own_istore X451 (Ls' := #[oI p0, oI p1, oI p2, .val (.long j175), .second, .val (.long j395), .second, oA a396, oI (if 1000000 * ((j175.toInt - (j175.toInt / 1000000)) + (i391.toInt - (32 : Int))) < 999999 * j175.toInt then 0 else 1 : Int32), oI 1]) rfl at_108 (pc' := 110) rfl ?_
          refine own_iload X451 rfl at_110 (pc' := 112) rfl ?_
          refine own_iload X451 rfl at_112 (pc' := 114) rfl ?_
          have c458 : (if 1000000 * ((j175.toInt - (j175.toInt / 1000000)) + (i391.toInt - (32 : Int))) < 999999 * j175.toInt then 0 else 1 : Int32) = (1 : Int32) := if_neg (by omega)
          refine own_icmpF X451 (own_i_eq c458).2 at_114 (pc' := 117) rfl ?_
          refine own_iconst X451 (v := (1 : Int32)) (by decide) at_117 (pc' := 118) rfl ?_
          refine own_goto X451 at_118 (pc' := 122) (by decide) (by decide) ?_
          exact own_retZW X451 hS449 hk449 (by decide) at_122 rfl (by decide) (by decide) rfl
set_option maxRecDepth 65536 in
set_option maxHeartbeats 40000000 in
theorem comes_1 {Post : Tables → Env → Array Value → State → Outcome → State → Prop} (hpost : ∀ tb e args s v u, (limb_1_1.after args s (.returned v) u = true ∧ limb_1_2.after args s (.returned v) u = true ∧ True) → FramedW s (.returned v) u (Jvm.fieldLocs frame_1_writes args s ++ Jvm.arrayLocs frame_1_arrays args s ++ Jvm.staticLocs frame_1_statics s) 24 6272 → Post tb e args s (.returned v) u) :
    ArmFor flags0 classFile x code maxLocals ret World_1 tables_1 room_1 Calls_1 rest_1 Pre_1 Post := by
  intro l hfl _ _ p e ha hc hk s m args below hf hA hF happ hP
  obtain ⟨hcalls, hrest, hpre⟩ := hP
  obtain ⟨-, -, -, hnamed, -, -, -, hat⟩ := (Spec.applies_iff hf).mp happ
  obtain ⟨hg, hn⟩ := and_e (Cond.before_iff.mp (show (Jvm.Cond.and given_1 narrow_1).before args s = true from hpre))
  obtain ⟨h1, g0⟩ := and_e hg
  obtain ⟨k0, g1⟩ := and_e g0
  obtain ⟨k1, g2⟩ := and_e g1
  obtain ⟨w0, w1, w2, rfl⟩ : ∃ w0 w1 w2 : Value, args = #[w0, w1, w2] := by
    have hs : args.size = 3 := by simpa [Cond.value, given_1] using h1
    obtain ⟨L⟩ := args
    match L, hs with
    | [w0, w1, w2], _ => exact ⟨w0, w1, w2, rfl⟩
  have hw := fun d (hd : d ∈ tables_1) => atoms_spec (ws := Jvm.Cond.code x code maxLocals ret :: tables_1) hat d (List.mem_cons_of_mem _ hd)
  obtain ⟨p0, e0⟩ := is_v k0
  obtain rfl : w0 = (.int p0) := Option.some.inj e0
  obtain ⟨p1, e1⟩ := is_v k1
  obtain rfl : w1 = (.int p1) := Option.some.inj e1
  obtain ⟨p2, e2⟩ := is_v g2
  obtain rfl : w2 = (.int p2) := Option.some.inj e2
  obtain ⟨hsets, hown0⟩ := atoms_of _ (rest_1_c_eq ▸ (show rest_1_c.before _ s = true from hrest))
  have n5 := not_v (Cond.before_iff.mp (hsets _ (List.mem_of_getElem? (i := 2) rfl)))
  obtain ⟨cs, e10⟩ := is_v (Cond.before_iff.mp (hsets _ (List.mem_of_getElem? (i := 1) rfl)))
  have S12 : Sta s s.heap "java/lang/String" "COMPACT_STRINGS" "Z" (.int cs) := Sta.start e10 (Or.inl (hsets _ (List.mem_of_getElem? (i := 0) rfl)))
  have hcs : ¬ (cs = (0 : Int32)) := gotF (Cond.eq_ints e10 (Term.int_eval (0))) n5
  have hcw : Jvm.Lit.compactW.before _ s = true := hsets _ (List.mem_of_getElem? (i := 2) rfl)
  have hh13 : Jvm.Lit.constHeld s "com/example/duepath/duepath/RequestIsMetByPinLaw" 13 := hcalls.1 ("com/example/duepath/duepath/RequestIsMetByPinLaw", 13) (List.mem_of_getElem? (i := 3) rfl)
  have hh15 : Jvm.Lit.constHeld s "com/example/duepath/duepath/RequestIsMetByPinLaw" 15 := hcalls.1 ("com/example/duepath/duepath/RequestIsMetByPinLaw", 15) (List.mem_of_getElem? (i := 4) rfl)
  have hh17 : Jvm.Lit.constHeld s "com/example/duepath/duepath/RequestIsMetByPinLaw" 17 := hcalls.1 ("com/example/duepath/duepath/RequestIsMetByPinLaw", 17) (List.mem_of_getElem? (i := 5) rfl)
  obtain ⟨n, o, h1, h2, h3, _, L, rfl, ⟨⟨rfl, -⟩, N⟩, hq⟩ := own_law l s _ hw tables_1 p0 p1 p2 s.heap s.heap.size rfl rfl cs S12 hcs hcw hh13 hh15 hh17 p e ha hc hk s m _ below hf ((Spec.applies_iff_loose hf).mp happ).1 ⟨rfl, rfl⟩ trivial
  refine ⟨n, _, h1, h2, h3, hpost _ _ _ _ _ _ ⟨Cond.after_iff.mpr rfl, Cond.after_iff.mpr (eq_i res_at (Term.int_eval (1)) rfl), trivial⟩ ⟨hq.1, hq.2.1, hq.2.2.1, (hq.2.2.2.sift fun y hy => Or.inr (N y hy)).mono (by decide) (by decide)⟩⟩
theorem main_1_1 : Claimed_1_1 := comes_1 fun _ _ _ _ _ _ h hF => ⟨h.1, hF⟩
theorem main_1_2 : Claimed_1_2 := comes_1 fun _ _ _ _ _ _ h hF => ⟨h.2.1, hF⟩
end Jvm.Pilot.@@N@@
namespace Jvm.Pilot.@@N@@
open Jvm Jvm.ClassFile Sem Op Lib Jvm.Free Jvm.Stand Jvm.Pilot.@@N@@.Jvm.D
/-! MADE BY PROGRAM (witnessworld.py) out of the Statement's table words and the real class files: 22 classes; the members and pool entries that the words name. The judged class is class 1, her method 1. -/
namespace start1
open Jvm.ClassFile
def u (s : String) : CpInfo := .utf8 (stringToUtf16 s)
/-- a pool by its gaps: so many unusable entries, then the entry; so many at the end -/
def gap : Nat → List CpInfo → List CpInfo
  | 0, r => r
  | n + 1, r => .unusable :: gap n r
def poolList (es : List (Nat × CpInfo)) (last : Nat) : List CpInfo := es.foldr (fun e r => gap e.1 (e.2 :: r)) (gap last [])
def pool (es : List (Nat × CpInfo)) (last : Nat) : Array CpInfo := ⟨poolList es last⟩
def fileOf (pool : Array CpInfo) (this : Nat) (attrs : Array Attribute := #[]) (ms : Array MethodInfo := #[]) (fl : Nat := 33) (sup : Nat := 0) (ifs : Array Nat := #[]) (fds : Array FieldInfo := #[]) : ClassFile where
  minorVersion := 0
  majorVersion := 65
  constantPool := pool
  accessFlags := fl
  thisClass := this
  superClass := sup
  interfaces := ifs
  fields := fds
  methods := ms
  attributes := attrs
def plain (name : String) (sup : Option ClassId) : Class where
  name := name
  kind := .ordinary
  loader := none
  accessFlags := 33
  super := sup
  interfaces := #[]
  cf := none
  fields := #[]
  methods := #[]
  instanceTypes := #[]
  staticTypes := #[]
  resolved := #[]
  callSites := []
  init := .initialized
  statics := none
  mirror := none

def pool0 : Array CpInfo := pool [(5, u "<init>"), (0, u "()V"), (1, .class_ 10), (1, u "java/lang/Object")] 113

def k0c0 : Code := { maxStack := 0, maxLocals := 1, code := object_method_1_code, exceptionTable := #[], attributes := #[] }
def k0m0 : Method := { name := "<init>", desc := "()V", sig := { parameters := [], returnType := none }, accessFlags := 1, code := some k0c0 }
/-- java/lang/Object -/
def k0 : Class := { plain "java/lang/Object" none with
  accessFlags := 33
  interfaces := #[]
  cf := some (fileOf pool0 8 #[] #[{ accessFlags := 1, nameIndex := 5, descriptorIndex := 6, attributes := #[] }] 33 0 #[] #[])
  fields := #[]
  methods := #[k0m0]
  instanceTypes := #[]
  staticTypes := #[]
  resolved := Array.replicate 124 none
  statics := none }

def pool1 : Array CpInfo := pool [(2, .class_ 4), (1, u "java/lang/Object"), (0, u "<init>"), (0, u "()V"), (0, .long 2147483647), (1, .long 1000000), (1, .class_ 12), (0, u "com/example/duepath/duepath/Request"), (0, .string 14), (0, u "r"), (0, .string 16), (0, u "a"), (0, .string 18), (0, u "b"), (0, .methodref 11 20), (0, .nameAndType 5 21), (0, u "(Ljava/lang/String;Ljava/lang/String;Ljava/lang/String;DDDD)V"), (0, .methodref 11 23), (0, .nameAndType 24 25), (0, u "isMetBy"), (0, u "(D)Z"), (0, .long 999999), (1, .class_ 29), (0, u "com/example/duepath/duepath/RequestIsMetByPinLaw"), (2, u "law"), (0, u "(III)Z")] 3

def k1m0 : Method := { name := "<init>", desc := "()V", sig := { parameters := [], returnType := none }, accessFlags := 1, code := none }
def k1c1 : Code := { maxStack := 13, maxLocals := 10, code := code, exceptionTable := #[], attributes := #[] }
def k1m1 : Method := { name := "law", desc := "(III)Z", sig := { parameters := [.int, .int, .int], returnType := some .boolean }, accessFlags := 9, code := some k1c1 }
/-- com/example/duepath/duepath/RequestIsMetByPinLaw -/
def k1 : Class := { plain "com/example/duepath/duepath/RequestIsMetByPinLaw" (some 0) with
  accessFlags := 49
  interfaces := #[]
  cf := some (fileOf pool1 28 #[] #[{ accessFlags := 1, nameIndex := 5, descriptorIndex := 6, attributes := #[] }, { accessFlags := 9, nameIndex := 32, descriptorIndex := 33, attributes := #[] }] 49 2 #[] #[])
  fields := #[]
  methods := #[k1m0, k1m1]
  instanceTypes := #[]
  staticTypes := #[]
  resolved := Array.replicate 37 none
  statics := none }

def pool2 : Array CpInfo := pool [(1, .methodref 2 3), (0, .class_ 4), (0, .nameAndType 5 6), (0, u "java/lang/Object"), (0, u "<init>"), (0, u "()V"), (0, .class_ 8), (0, u "java/lang/Record")] 13

def k2c0 : Code := { maxStack := 1, maxLocals := 1, code := jdk_30_method_1_code, exceptionTable := #[], attributes := #[] }
def k2m0 : Method := { name := "<init>", desc := "()V", sig := { parameters := [], returnType := none }, accessFlags := 4, code := some k2c0 }
/-- java/lang/Record -/
def k2 : Class := { plain "java/lang/Record" (some 0) with
  accessFlags := 1057
  interfaces := #[]
  cf := some (fileOf pool2 7 #[] #[{ accessFlags := 4, nameIndex := 5, descriptorIndex := 6, attributes := #[] }] 1057 2 #[] #[])
  fields := #[]
  methods := #[k2m0]
  instanceTypes := #[]
  staticTypes := #[]
  resolved := Array.replicate 22 none
  statics := none }

def pool3 : Array CpInfo := pool [(1, .methodref 2 3), (0, .class_ 4), (0, .nameAndType 5 6), (0, u "java/lang/Record"), (0, u "<init>"), (0, u "()V"), (0, .string 8), (0, u "id"), (0, .methodref 10 11), (0, .class_ 12), (0, .nameAndType 13 14), (0, u "java/util/Objects"), (0, u "requireNonNull"), (0, u "(Ljava/lang/Object;Ljava/lang/String;)Ljava/lang/Object;"), (0, .string 16), (0, u "source"), (0, .string 18), (0, u "destination"), (0, .methodref 20 21), (0, .class_ 22), (0, .nameAndType 23 24), (0, u "java/lang/String"), (0, u "isEmpty"), (0, u "()Z"), (7, .methodref 20 33), (0, .nameAndType 34 35), (0, u "equals"), (0, u "(Ljava/lang/Object;)Z"), (4, .methodref 41 42), (0, .class_ 43), (0, .nameAndType 44 45), (0, u "java/lang/Double"), (0, u "isInfinite"), (0, u "(D)Z"), (8, .fieldref 55 56), (0, .class_ 57), (0, .nameAndType 8 58), (0, u "com/example/duepath/duepath/Request"), (0, u "Ljava/lang/String;"), (0, .fieldref 55 60), (0, .nameAndType 16 58), (0, .fieldref 55 62), (0, .nameAndType 18 58), (0, .fieldref 55 64), (0, .nameAndType 65 66), (0, u "size"), (0, u "D"), (0, .fieldref 55 68), (0, .nameAndType 69 66), (0, u "release"), (0, .fieldref 55 71), (0, .nameAndType 72 66), (0, u "deadline"), (0, .fieldref 55 74), (0, .nameAndType 75 66), (0, u "value"), (2, u "(Ljava/lang/String;Ljava/lang/String;Ljava/lang/String;DDDD)V"), (0, .double 4607182409792818153), (12, u "MET_TOLERANCE"), (8, u "isMetBy")] 45

def k3c0 : Code := { maxStack := 6, maxLocals := 12, code := prog_8_method_1_code, exceptionTable := #[], attributes := #[] }
def k3m0 : Method := { name := "<init>", desc := "(Ljava/lang/String;Ljava/lang/String;Ljava/lang/String;DDDD)V", sig := { parameters := [(.object "java/lang/String"), (.object "java/lang/String"), (.object "java/lang/String"), .double, .double, .double, .double], returnType := none }, accessFlags := 1, code := some k3c0 }
def k3c1 : Code := { maxStack := 6, maxLocals := 3, code := prog_8_method_3_code, exceptionTable := #[], attributes := #[] }
def k3m1 : Method := { name := "isMetBy", desc := "(D)Z", sig := { parameters := [.double], returnType := some .boolean }, accessFlags := 1, code := some k3c1 }
/-- com/example/duepath/duepath/Request -/
def k3 : Class := { plain "com/example/duepath/duepath/Request" (some 2) with
  accessFlags := 49
  interfaces := #[]
  cf := some (fileOf pool3 55 #[] #[{ accessFlags := 1, nameIndex := 5, descriptorIndex := 78, attributes := #[] }, { accessFlags := 1, nameIndex := 101, descriptorIndex := 45, attributes := #[] }] 49 2 #[] #[{ accessFlags := 18, nameIndex := 8, descriptorIndex := 58, attributes := #[] }, { accessFlags := 18, nameIndex := 16, descriptorIndex := 58, attributes := #[] }, { accessFlags := 18, nameIndex := 18, descriptorIndex := 58, attributes := #[] }, { accessFlags := 18, nameIndex := 65, descriptorIndex := 66, attributes := #[] }, { accessFlags := 18, nameIndex := 69, descriptorIndex := 66, attributes := #[] }, { accessFlags := 18, nameIndex := 72, descriptorIndex := 66, attributes := #[] }, { accessFlags := 18, nameIndex := 75, descriptorIndex := 66, attributes := #[] }, { accessFlags := 25, nameIndex := 92, descriptorIndex := 66, attributes := #[] }])
  fields := #[{ name := "id", type := (.object "java/lang/String"), accessFlags := 18, slot := 0, constantValue := 0 }, { name := "source", type := (.object "java/lang/String"), accessFlags := 18, slot := 1, constantValue := 0 }, { name := "destination", type := (.object "java/lang/String"), accessFlags := 18, slot := 2, constantValue := 0 }, { name := "size", type := .double, accessFlags := 18, slot := 3, constantValue := 0 }, { name := "release", type := .double, accessFlags := 18, slot := 4, constantValue := 0 }, { name := "deadline", type := .double, accessFlags := 18, slot := 5, constantValue := 0 }, { name := "value", type := .double, accessFlags := 18, slot := 6, constantValue := 0 }, { name := "MET_TOLERANCE", type := .double, accessFlags := 25, slot := 0, constantValue := 0 }]
  methods := #[k3m0, k3m1]
  instanceTypes := #[(.object "java/lang/String"), (.object "java/lang/String"), (.object "java/lang/String"), .double, .double, .double, .double]
  staticTypes := #[.double]
  resolved := Array.replicate 147 none
  statics := none }

def pool4 : Array CpInfo := pool [(1, .class_ 2), (0, u "java/io/Serializable"), (0, .class_ 4), (0, u "java/lang/Object")] 2

/-- java/io/Serializable -/
def k4 : Class := { plain "java/io/Serializable" (some 0) with
  accessFlags := 1537
  interfaces := #[]
  cf := some (fileOf pool4 1 #[] #[] 1537 3 #[] #[])
  fields := #[]
  methods := #[]
  instanceTypes := #[]
  staticTypes := #[]
  resolved := Array.replicate 7 none
  statics := none }

def pool5 : Array CpInfo := pool [(1, .class_ 2), (0, u "java/lang/Comparable"), (0, .class_ 4), (0, u "java/lang/Object")] 7

/-- java/lang/Comparable -/
def k5 : Class := { plain "java/lang/Comparable" (some 0) with
  accessFlags := 1537
  interfaces := #[]
  cf := some (fileOf pool5 1 #[] #[] 1537 3 #[] #[])
  fields := #[]
  methods := #[]
  instanceTypes := #[]
  staticTypes := #[]
  resolved := Array.replicate 12 none
  statics := none }

def pool6 : Array CpInfo := pool [(2, .class_ 4), (1, u "java/lang/CharSequence"), (42, .class_ 48), (0, u "java/lang/CharSequence$1CodePointIterator"), (10, .class_ 60), (0, u "java/lang/CharSequence$1CharIterator"), (5, .class_ 67), (0, u "java/lang/Object")] 63

/-- java/lang/CharSequence -/
def k6 : Class := { plain "java/lang/CharSequence" (some 0) with
  accessFlags := 1537
  interfaces := #[]
  cf := some (fileOf pool6 2 #[.nestMembers #[47, 59]] #[] 1537 66 #[] #[])
  fields := #[]
  methods := #[]
  instanceTypes := #[]
  staticTypes := #[]
  resolved := Array.replicate 131 none
  statics := none }

def pool7 : Array CpInfo := pool [(1, .class_ 2), (0, u "java/lang/constant/Constable"), (0, .class_ 4), (0, u "java/lang/Object")] 6

/-- java/lang/constant/Constable -/
def k7 : Class := { plain "java/lang/constant/Constable" (some 0) with
  accessFlags := 1537
  interfaces := #[]
  cf := some (fileOf pool7 1 #[] #[] 1537 3 #[] #[])
  fields := #[]
  methods := #[]
  instanceTypes := #[]
  staticTypes := #[]
  resolved := Array.replicate 11 none
  statics := none }

def pool8 : Array CpInfo := pool [(1, .class_ 2), (0, u "java/lang/constant/ConstantDesc"), (0, .class_ 4), (0, u "java/lang/Object")] 32

/-- java/lang/constant/ConstantDesc -/
def k8 : Class := { plain "java/lang/constant/ConstantDesc" (some 0) with
  accessFlags := 1537
  interfaces := #[]
  cf := some (fileOf pool8 1 #[] #[] 1537 3 #[] #[])
  fields := #[]
  methods := #[]
  instanceTypes := #[]
  staticTypes := #[]
  resolved := Array.replicate 37 none
  statics := none }

def pool9 : Array CpInfo := pool [(2, .class_ 4), (1, u "java/lang/Object"), (0, u "<init>"), (0, u "()V"), (2, .fieldref 10 11), (0, .class_ 12), (0, .nameAndType 13 14), (0, u "java/lang/String"), (0, u "value"), (0, u "[B"), (0, .fieldref 10 16), (0, .nameAndType 17 18), (0, u "coder"), (0, u "B"), (2, u "hash"), (0, u "I"), (2, u "hashIsZero"), (0, u "Z"), (11, .fieldref 10 39), (0, .nameAndType 40 26), (0, u "COMPACT_STRINGS"), (66, .class_ 109), (1, u "java/lang/StringLatin1"), (32, u "()Z"), (398, .methodref 107 542), (0, .nameAndType 543 544), (0, u "equals"), (0, u "([B[B)Z"), (28, u "(Ljava/lang/Object;)Z"), (1, .class_ 576), (0, u "java/lang/CharSequence"), (22, u "CASE_INSENSITIVE_ORDER"), (0, u "Ljava/util/Comparator;"), (91, u "isEmpty"), (408, u "serialPersistentFields"), (0, u "[Ljava/io/ObjectStreamField;"), (0, .class_ 1104), (0, u "java/lang/String$CaseInsensitiveComparator"), (1, .class_ 1107), (0, u "java/io/Serializable"), (0, .class_ 1109), (0, u "java/lang/Comparable"), (0, .class_ 1111), (0, u "java/lang/constant/Constable"), (0, .class_ 1113), (0, u "java/lang/constant/ConstantDesc"), (2, u "serialVersionUID"), (0, u "J"), (3, u "REPL"), (0, u "C"), (2, u "LATIN1"), (1, u "UTF16")] 323

def k9m0 : Method := { name := "<init>", desc := "()V", sig := { parameters := [], returnType := none }, accessFlags := 1, code := none }
def k9c1 : Code := { maxStack := 1, maxLocals := 1, code := jdk_42_method_55_code, exceptionTable := #[], attributes := #[] }
def k9m1 : Method := { name := "isEmpty", desc := "()Z", sig := { parameters := [], returnType := some .boolean }, accessFlags := 1, code := some k9c1 }
def k9c2 : Code := { maxStack := 2, maxLocals := 3, code := jdk_42_method_66_code, exceptionTable := #[], attributes := #[] }
def k9m2 : Method := { name := "equals", desc := "(Ljava/lang/Object;)Z", sig := { parameters := [(.object "java/lang/Object")], returnType := some .boolean }, accessFlags := 1, code := some k9c2 }
/-- java/lang/String -/
def k9 : Class := { plain "java/lang/String" (some 0) with
  accessFlags := 49
  interfaces := #[4, 5, 6, 7, 8]
  cf := some (fileOf pool9 10 #[.nestMembers #[1103]] #[{ accessFlags := 1, nameIndex := 5, descriptorIndex := 6, attributes := #[] }, { accessFlags := 1, nameIndex := 692, descriptorIndex := 142, attributes := #[] }, { accessFlags := 1, nameIndex := 543, descriptorIndex := 573, attributes := #[] }] 49 2 #[1106, 1108, 575, 1110, 1112] #[{ accessFlags := 18, nameIndex := 13, descriptorIndex := 14, attributes := #[] }, { accessFlags := 18, nameIndex := 17, descriptorIndex := 18, attributes := #[] }, { accessFlags := 2, nameIndex := 21, descriptorIndex := 22, attributes := #[] }, { accessFlags := 2, nameIndex := 25, descriptorIndex := 26, attributes := #[] }, { accessFlags := 26, nameIndex := 1116, descriptorIndex := 1117, attributes := #[] }, { accessFlags := 24, nameIndex := 40, descriptorIndex := 26, attributes := #[] }, { accessFlags := 26, nameIndex := 1101, descriptorIndex := 1102, attributes := #[] }, { accessFlags := 26, nameIndex := 1121, descriptorIndex := 1122, attributes := #[] }, { accessFlags := 25, nameIndex := 599, descriptorIndex := 600, attributes := #[] }, { accessFlags := 24, nameIndex := 1125, descriptorIndex := 18, attributes := #[] }, { accessFlags := 24, nameIndex := 1127, descriptorIndex := 18, attributes := #[] }])
  fields := #[{ name := "value", type := (.array .byte), accessFlags := 18, slot := 0, constantValue := 0 }, { name := "coder", type := .byte, accessFlags := 18, slot := 1, constantValue := 0 }, { name := "hash", type := .int, accessFlags := 2, slot := 2, constantValue := 0 }, { name := "hashIsZero", type := .boolean, accessFlags := 2, slot := 3, constantValue := 0 }, { name := "serialVersionUID", type := .long, accessFlags := 26, slot := 0, constantValue := 0 }, { name := "COMPACT_STRINGS", type := .boolean, accessFlags := 24, slot := 1, constantValue := 0 }, { name := "serialPersistentFields", type := (.array (.object "java/io/ObjectStreamField")), accessFlags := 26, slot := 2, constantValue := 0 }, { name := "REPL", type := .char, accessFlags := 26, slot := 3, constantValue := 0 }, { name := "CASE_INSENSITIVE_ORDER", type := (.object "java/util/Comparator"), accessFlags := 25, slot := 4, constantValue := 0 }, { name := "LATIN1", type := .byte, accessFlags := 24, slot := 5, constantValue := 0 }, { name := "UTF16", type := .byte, accessFlags := 24, slot := 6, constantValue := 0 }]
  methods := #[k9m0, k9m1, k9m2]
  instanceTypes := #[(.array .byte), .byte, .int, .boolean]
  staticTypes := #[.long, .boolean, (.array (.object "java/io/ObjectStreamField")), .char, (.object "java/util/Comparator"), .byte, .byte]
  resolved := Array.replicate 1451 none
  statics := some 0 }

def pool10 : Array CpInfo := pool [(2, .class_ 4), (1, u "java/lang/Object"), (0, u "<init>"), (0, u "()V"), (35, .class_ 44), (1, u "java/util/Objects"), (0, u "requireNonNull"), (48, u "(Ljava/lang/Object;Ljava/lang/String;)Ljava/lang/Object;")] 89

def k10m0 : Method := { name := "<init>", desc := "()V", sig := { parameters := [], returnType := none }, accessFlags := 2, code := none }
def k10c1 : Code := { maxStack := 3, maxLocals := 2, code := jdk_31_method_11_code, exceptionTable := #[], attributes := #[] }
def k10m1 : Method := { name := "requireNonNull", desc := "(Ljava/lang/Object;Ljava/lang/String;)Ljava/lang/Object;", sig := { parameters := [(.object "java/lang/Object"), (.object "java/lang/String")], returnType := some (.object "java/lang/Object") }, accessFlags := 9, code := some k10c1 }
/-- java/util/Objects -/
def k10 : Class := { plain "java/util/Objects" (some 0) with
  accessFlags := 49
  interfaces := #[]
  cf := some (fileOf pool10 42 #[] #[{ accessFlags := 2, nameIndex := 5, descriptorIndex := 6, attributes := #[] }, { accessFlags := 9, nameIndex := 45, descriptorIndex := 94, attributes := #[] }] 49 2 #[] #[])
  fields := #[]
  methods := #[k10m0, k10m1]
  instanceTypes := #[]
  staticTypes := #[]
  resolved := Array.replicate 184 none
  statics := none }

def pool11 : Array CpInfo := pool [(4, .class_ 6), (1, u "java/lang/Object"), (0, u "<init>"), (0, u "()V"), (5, .class_ 16), (1, u "java/lang/StringLatin1"), (104, u "$assertionsDisabled"), (0, u "Z"), (98, .class_ 223), (1, u "java/lang/StringLatin1$LinesSpliterator"), (57, u "equals"), (0, u "([B[B)Z"), (107, .class_ 391), (0, u "java/lang/StringLatin1$CharsSpliterator")] 3

def k11m0 : Method := { name := "<init>", desc := "()V", sig := { parameters := [], returnType := none }, accessFlags := 0, code := none }
def k11c1 : Code := { maxStack := 3, maxLocals := 3, code := jdk_43_method_13_code, exceptionTable := #[], attributes := #[] }
def k11m1 : Method := { name := "equals", desc := "([B[B)Z", sig := { parameters := [(.array .byte), (.array .byte)], returnType := some .boolean }, accessFlags := 9, code := some k11c1 }
/-- java/lang/StringLatin1 -/
def k11 : Class := { plain "java/lang/StringLatin1" (some 0) with
  accessFlags := 48
  interfaces := #[]
  cf := some (fileOf pool11 14 #[.nestMembers #[390, 221]] #[{ accessFlags := 0, nameIndex := 7, descriptorIndex := 8, attributes := #[] }, { accessFlags := 9, nameIndex := 281, descriptorIndex := 282, attributes := #[] }] 48 4 #[] #[{ accessFlags := 4120, nameIndex := 121, descriptorIndex := 122, attributes := #[] }])
  fields := #[{ name := "$assertionsDisabled", type := .boolean, accessFlags := 4120, slot := 0, constantValue := 0 }]
  methods := #[k11m0, k11m1]
  instanceTypes := #[]
  staticTypes := #[.boolean]
  resolved := Array.replicate 395 none
  statics := none }

def pool12 : Array CpInfo := pool [(2, .class_ 4), (1, u "java/lang/Object"), (0, u "<init>"), (0, u "()V"), (1, .class_ 10), (1, u "java/lang/Number"), (2, .class_ 14), (0, u "java/io/Serializable"), (0, u "serialVersionUID"), (0, u "J")] 20

def k12m0 : Method := { name := "<init>", desc := "()V", sig := { parameters := [], returnType := none }, accessFlags := 1, code := none }
/-- java/lang/Number -/
def k12 : Class := { plain "java/lang/Number" (some 0) with
  accessFlags := 1057
  interfaces := #[4]
  cf := some (fileOf pool12 8 #[] #[{ accessFlags := 1, nameIndex := 5, descriptorIndex := 6, attributes := #[] }] 1057 2 #[13] #[{ accessFlags := 26, nameIndex := 15, descriptorIndex := 16, attributes := #[] }])
  fields := #[{ name := "serialVersionUID", type := .long, accessFlags := 26, slot := 0, constantValue := 0 }]
  methods := #[k12m0]
  instanceTypes := #[]
  staticTypes := #[.long]
  resolved := Array.replicate 37 none
  statics := none }

def pool13 : Array CpInfo := pool [(1, .class_ 2), (0, u "java/lang/Double"), (11, u "(D)Z"), (8, .class_ 25), (1, u "java/lang/Math"), (12, .methodref 23 39), (0, .nameAndType 40 41), (0, u "abs"), (0, u "(D)D"), (69, .double 9218868437227405311), (2, .class_ 116), (1, u "java/lang/Number"), (3, u "value"), (0, u "D"), (5, u "isInfinite"), (45, u "TYPE"), (0, u "Ljava/lang/Class;"), (0, .class_ 176), (0, u "java/lang/Comparable"), (0, .class_ 178), (0, u "java/lang/constant/Constable"), (0, .class_ 180), (0, u "java/lang/constant/ConstantDesc"), (0, u "POSITIVE_INFINITY"), (3, u "NEGATIVE_INFINITY"), (2, u "NaN"), (2, u "MAX_VALUE"), (0, u "MIN_NORMAL"), (0, u "MIN_VALUE"), (2, u "SIZE"), (0, u "I"), (1, u "PRECISION"), (1, u "MAX_EXPONENT"), (1, u "MIN_EXPONENT"), (1, u "BYTES"), (3, u "serialVersionUID"), (0, u "J")] 79

def k13c0 : Code := { maxStack := 4, maxLocals := 2, code := jdk_117_method_7_code, exceptionTable := #[], attributes := #[] }
def k13m0 : Method := { name := "isInfinite", desc := "(D)Z", sig := { parameters := [.double], returnType := some .boolean }, accessFlags := 9, code := some k13c0 }
/-- java/lang/Double -/
def k13 : Class := { plain "java/lang/Double" (some 12) with
  accessFlags := 49
  interfaces := #[5, 7, 8]
  cf := some (fileOf pool13 1 #[] #[{ accessFlags := 9, nameIndex := 127, descriptorIndex := 14, attributes := #[] }] 49 114 #[175, 177, 179] #[{ accessFlags := 25, nameIndex := 181, descriptorIndex := 121, attributes := #[] }, { accessFlags := 25, nameIndex := 185, descriptorIndex := 121, attributes := #[] }, { accessFlags := 25, nameIndex := 188, descriptorIndex := 121, attributes := #[] }, { accessFlags := 25, nameIndex := 191, descriptorIndex := 121, attributes := #[] }, { accessFlags := 25, nameIndex := 192, descriptorIndex := 121, attributes := #[] }, { accessFlags := 25, nameIndex := 193, descriptorIndex := 121, attributes := #[] }, { accessFlags := 25, nameIndex := 196, descriptorIndex := 197, attributes := #[] }, { accessFlags := 25, nameIndex := 199, descriptorIndex := 197, attributes := #[] }, { accessFlags := 25, nameIndex := 201, descriptorIndex := 197, attributes := #[] }, { accessFlags := 25, nameIndex := 203, descriptorIndex := 197, attributes := #[] }, { accessFlags := 25, nameIndex := 205, descriptorIndex := 197, attributes := #[] }, { accessFlags := 25, nameIndex := 173, descriptorIndex := 174, attributes := #[] }, { accessFlags := 18, nameIndex := 120, descriptorIndex := 121, attributes := #[] }, { accessFlags := 26, nameIndex := 209, descriptorIndex := 210, attributes := #[] }])
  fields := #[{ name := "POSITIVE_INFINITY", type := .double, accessFlags := 25, slot := 0, constantValue := 0 }, { name := "NEGATIVE_INFINITY", type := .double, accessFlags := 25, slot := 1, constantValue := 0 }, { name := "NaN", type := .double, accessFlags := 25, slot := 2, constantValue := 0 }, { name := "MAX_VALUE", type := .double, accessFlags := 25, slot := 3, constantValue := 0 }, { name := "MIN_NORMAL", type := .double, accessFlags := 25, slot := 4, constantValue := 0 }, { name := "MIN_VALUE", type := .double, accessFlags := 25, slot := 5, constantValue := 0 }, { name := "SIZE", type := .int, accessFlags := 25, slot := 6, constantValue := 0 }, { name := "PRECISION", type := .int, accessFlags := 25, slot := 7, constantValue := 0 }, { name := "MAX_EXPONENT", type := .int, accessFlags := 25, slot := 8, constantValue := 0 }, { name := "MIN_EXPONENT", type := .int, accessFlags := 25, slot := 9, constantValue := 0 }, { name := "BYTES", type := .int, accessFlags := 25, slot := 10, constantValue := 0 }, { name := "TYPE", type := (.object "java/lang/Class"), accessFlags := 25, slot := 11, constantValue := 0 }, { name := "value", type := .double, accessFlags := 18, slot := 0, constantValue := 0 }, { name := "serialVersionUID", type := .long, accessFlags := 26, slot := 12, constantValue := 0 }]
  methods := #[k13m0]
  instanceTypes := #[.double]
  staticTypes := #[.double, .double, .double, .double, .double, .double, .int, .int, .int, .int, .int, (.object "java/lang/Class"), .long]
  resolved := Array.replicate 290 none
  statics := none }

def pool14 : Array CpInfo := pool [(1, .class_ 2), (0, u "java/lang/Math"), (1, .class_ 6), (1, u "java/lang/Object"), (0, u "<init>"), (0, u "()V"), (5, u "(D)D"), (83, .class_ 100), (1, u "java/lang/Math$RandomNumberGeneratorHolder"), (23, u "abs"), (47, u "negativeZeroFloatBits"), (0, u "J"), (2, u "negativeZeroDoubleBits"), (68, u "$assertionsDisabled"), (0, u "Z"), (91, u "twoToTheDoubleScaleDown"), (0, u "D"), (4, u "twoToTheDoubleScaleUp"), (9, u "E"), (3, u "PI"), (2, u "TAU"), (2, u "DEGREES_TO_RADIANS"), (0, u "RADIANS_TO_DEGREES")] 94

def k14m0 : Method := { name := "<init>", desc := "()V", sig := { parameters := [], returnType := none }, accessFlags := 2, code := none }
def k14c1 : Code := { maxStack := 4, maxLocals := 2, code := jdk_29_method_64_code, exceptionTable := #[], attributes := #[] }
def k14m1 : Method := { name := "abs", desc := "(D)D", sig := { parameters := [.double], returnType := some .double }, accessFlags := 9, code := some k14c1 }
/-- java/lang/Math -/
def k14 : Class := { plain "java/lang/Math" (some 0) with
  accessFlags := 49
  interfaces := #[]
  cf := some (fileOf pool14 1 #[.nestMembers #[98]] #[{ accessFlags := 2, nameIndex := 7, descriptorIndex := 8, attributes := #[] }, { accessFlags := 9, nameIndex := 124, descriptorIndex := 14, attributes := #[] }] 49 4 #[] #[{ accessFlags := 25, nameIndex := 354, descriptorIndex := 339, attributes := #[] }, { accessFlags := 25, nameIndex := 358, descriptorIndex := 339, attributes := #[] }, { accessFlags := 25, nameIndex := 361, descriptorIndex := 339, attributes := #[] }, { accessFlags := 26, nameIndex := 364, descriptorIndex := 339, attributes := #[] }, { accessFlags := 26, nameIndex := 365, descriptorIndex := 339, attributes := #[] }, { accessFlags := 26, nameIndex := 172, descriptorIndex := 173, attributes := #[] }, { accessFlags := 26, nameIndex := 176, descriptorIndex := 173, attributes := #[] }, { accessFlags := 8, nameIndex := 344, descriptorIndex := 339, attributes := #[] }, { accessFlags := 8, nameIndex := 338, descriptorIndex := 339, attributes := #[] }, { accessFlags := 4120, nameIndex := 245, descriptorIndex := 246, attributes := #[] }])
  fields := #[{ name := "E", type := .double, accessFlags := 25, slot := 0, constantValue := 0 }, { name := "PI", type := .double, accessFlags := 25, slot := 1, constantValue := 0 }, { name := "TAU", type := .double, accessFlags := 25, slot := 2, constantValue := 0 }, { name := "DEGREES_TO_RADIANS", type := .double, accessFlags := 26, slot := 3, constantValue := 0 }, { name := "RADIANS_TO_DEGREES", type := .double, accessFlags := 26, slot := 4, constantValue := 0 }, { name := "negativeZeroFloatBits", type := .long, accessFlags := 26, slot := 5, constantValue := 0 }, { name := "negativeZeroDoubleBits", type := .long, accessFlags := 26, slot := 6, constantValue := 0 }, { name := "twoToTheDoubleScaleUp", type := .double, accessFlags := 8, slot := 7, constantValue := 0 }, { name := "twoToTheDoubleScaleDown", type := .double, accessFlags := 8, slot := 8, constantValue := 0 }, { name := "$assertionsDisabled", type := .boolean, accessFlags := 4120, slot := 9, constantValue := 0 }]
  methods := #[k14m0, k14m1]
  instanceTypes := #[]
  staticTypes := #[.double, .double, .double, .double, .double, .long, .long, .double, .double, .boolean]
  resolved := Array.replicate 460 none
  statics := none }

def pool15 : Array CpInfo := pool [(2, .class_ 4), (1, u "java/lang/Object"), (0, u "<init>"), (0, u "()V"), (17, .class_ 26), (1, u "jdk/internal/util/Preconditions"), (28, .class_ 56), (0, u "jdk/internal/util/Preconditions$4"), (57, .class_ 115), (0, u "jdk/internal/util/Preconditions$1"), (7, u "SIOOBE_FORMATTER"), (0, u "Ljava/util/function/BiFunction;"), (0, .class_ 126), (0, u "jdk/internal/util/Preconditions$2"), (3, u "AIOOBE_FORMATTER"), (0, .class_ 132), (0, u "jdk/internal/util/Preconditions$3"), (3, u "IOOBE_FORMATTER")] 57

def k15m0 : Method := { name := "<init>", desc := "()V", sig := { parameters := [], returnType := none }, accessFlags := 1, code := none }
/-- jdk/internal/util/Preconditions -/
def k15 : Class := { plain "jdk/internal/util/Preconditions" (some 0) with
  accessFlags := 33
  interfaces := #[]
  cf := some (fileOf pool15 24 #[.nestMembers #[55, 131, 125, 114]] #[{ accessFlags := 1, nameIndex := 5, descriptorIndex := 6, attributes := #[] }] 33 2 #[] #[{ accessFlags := 25, nameIndex := 123, descriptorIndex := 124, attributes := #[] }, { accessFlags := 25, nameIndex := 130, descriptorIndex := 124, attributes := #[] }, { accessFlags := 25, nameIndex := 136, descriptorIndex := 124, attributes := #[] }])
  fields := #[{ name := "SIOOBE_FORMATTER", type := (.object "java/util/function/BiFunction"), accessFlags := 25, slot := 0, constantValue := 0 }, { name := "AIOOBE_FORMATTER", type := (.object "java/util/function/BiFunction"), accessFlags := 25, slot := 1, constantValue := 0 }, { name := "IOOBE_FORMATTER", type := (.object "java/util/function/BiFunction"), accessFlags := 25, slot := 2, constantValue := 0 }]
  methods := #[k15m0]
  instanceTypes := #[]
  staticTypes := #[(.object "java/util/function/BiFunction"), (.object "java/util/function/BiFunction"), (.object "java/util/function/BiFunction")]
  resolved := Array.replicate 194 none
  statics := some 1 }

def pool16 : Array CpInfo := pool [(9, u "<init>"), (6, .class_ 18), (1, u "java/lang/Object"), (0, u "()V"), (1, .class_ 23), (1, u "jdk/internal/util/ArraysSupport"), (0, u "LOG2_ARRAY_LONG_INDEX_SCALE"), (0, u "I"), (2, u "U"), (0, u "Ljdk/internal/misc/Unsafe;"), (8, u "BIG_ENDIAN"), (0, u "Z"), (8, u "LOG2_BYTE_BIT_SIZE"), (4, u "LOG2_ARRAY_INT_INDEX_SCALE"), (54, u "JLA"), (0, u "Ljdk/internal/access/JavaLangAccess;"), (11, u "LOG2_ARRAY_BOOLEAN_INDEX_SCALE"), (9, u "LOG2_ARRAY_BYTE_INDEX_SCALE"), (5, u "LOG2_ARRAY_CHAR_INDEX_SCALE"), (5, u "LOG2_ARRAY_SHORT_INDEX_SCALE"), (18, u "LOG2_ARRAY_FLOAT_INDEX_SCALE"), (24, u "LOG2_ARRAY_DOUBLE_INDEX_SCALE"), (89, u "T_BOOLEAN"), (2, u "T_CHAR"), (1, u "T_FLOAT"), (1, u "T_DOUBLE"), (1, u "T_BYTE"), (1, u "T_SHORT"), (1, u "T_INT"), (1, u "T_LONG"), (1, u "SOFT_MAX_ARRAY_LENGTH")] 83

def k16m0 : Method := { name := "<init>", desc := "()V", sig := { parameters := [], returnType := none }, accessFlags := 2, code := none }
/-- jdk/internal/util/ArraysSupport -/
def k16 : Class := { plain "jdk/internal/util/ArraysSupport" (some 0) with
  accessFlags := 33
  interfaces := #[]
  cf := some (fileOf pool16 21 #[] #[{ accessFlags := 2, nameIndex := 9, descriptorIndex := 19, attributes := #[] }] 33 16 #[] #[{ accessFlags := 24, nameIndex := 28, descriptorIndex := 29, attributes := #[] }, { accessFlags := 26, nameIndex := 38, descriptorIndex := 39, attributes := #[] }, { accessFlags := 25, nameIndex := 121, descriptorIndex := 25, attributes := #[] }, { accessFlags := 25, nameIndex := 131, descriptorIndex := 25, attributes := #[] }, { accessFlags := 25, nameIndex := 137, descriptorIndex := 25, attributes := #[] }, { accessFlags := 25, nameIndex := 143, descriptorIndex := 25, attributes := #[] }, { accessFlags := 25, nameIndex := 53, descriptorIndex := 25, attributes := #[] }, { accessFlags := 25, nameIndex := 24, descriptorIndex := 25, attributes := #[] }, { accessFlags := 25, nameIndex := 162, descriptorIndex := 25, attributes := #[] }, { accessFlags := 25, nameIndex := 187, descriptorIndex := 25, attributes := #[] }, { accessFlags := 26, nameIndex := 48, descriptorIndex := 25, attributes := #[] }, { accessFlags := 25, nameIndex := 277, descriptorIndex := 25, attributes := #[] }, { accessFlags := 25, nameIndex := 280, descriptorIndex := 25, attributes := #[] }, { accessFlags := 25, nameIndex := 282, descriptorIndex := 25, attributes := #[] }, { accessFlags := 25, nameIndex := 284, descriptorIndex := 25, attributes := #[] }, { accessFlags := 25, nameIndex := 286, descriptorIndex := 25, attributes := #[] }, { accessFlags := 25, nameIndex := 288, descriptorIndex := 25, attributes := #[] }, { accessFlags := 25, nameIndex := 290, descriptorIndex := 25, attributes := #[] }, { accessFlags := 25, nameIndex := 292, descriptorIndex := 25, attributes := #[] }, { accessFlags := 26, nameIndex := 108, descriptorIndex := 109, attributes := #[] }, { accessFlags := 25, nameIndex := 294, descriptorIndex := 25, attributes := #[] }])
  fields := #[{ name := "U", type := (.object "jdk/internal/misc/Unsafe"), accessFlags := 24, slot := 0, constantValue := 0 }, { name := "BIG_ENDIAN", type := .boolean, accessFlags := 26, slot := 1, constantValue := 0 }, { name := "LOG2_ARRAY_BOOLEAN_INDEX_SCALE", type := .int, accessFlags := 25, slot := 2, constantValue := 0 }, { name := "LOG2_ARRAY_BYTE_INDEX_SCALE", type := .int, accessFlags := 25, slot := 3, constantValue := 0 }, { name := "LOG2_ARRAY_CHAR_INDEX_SCALE", type := .int, accessFlags := 25, slot := 4, constantValue := 0 }, { name := "LOG2_ARRAY_SHORT_INDEX_SCALE", type := .int, accessFlags := 25, slot := 5, constantValue := 0 }, { name := "LOG2_ARRAY_INT_INDEX_SCALE", type := .int, accessFlags := 25, slot := 6, constantValue := 0 }, { name := "LOG2_ARRAY_LONG_INDEX_SCALE", type := .int, accessFlags := 25, slot := 7, constantValue := 0 }, { name := "LOG2_ARRAY_FLOAT_INDEX_SCALE", type := .int, accessFlags := 25, slot := 8, constantValue := 0 }, { name := "LOG2_ARRAY_DOUBLE_INDEX_SCALE", type := .int, accessFlags := 25, slot := 9, constantValue := 0 }, { name := "LOG2_BYTE_BIT_SIZE", type := .int, accessFlags := 26, slot := 10, constantValue := 0 }, { name := "T_BOOLEAN", type := .int, accessFlags := 25, slot := 11, constantValue := 0 }, { name := "T_CHAR", type := .int, accessFlags := 25, slot := 12, constantValue := 0 }, { name := "T_FLOAT", type := .int, accessFlags := 25, slot := 13, constantValue := 0 }, { name := "T_DOUBLE", type := .int, accessFlags := 25, slot := 14, constantValue := 0 }, { name := "T_BYTE", type := .int, accessFlags := 25, slot := 15, constantValue := 0 }, { name := "T_SHORT", type := .int, accessFlags := 25, slot := 16, constantValue := 0 }, { name := "T_INT", type := .int, accessFlags := 25, slot := 17, constantValue := 0 }, { name := "T_LONG", type := .int, accessFlags := 25, slot := 18, constantValue := 0 }, { name := "JLA", type := (.object "jdk/internal/access/JavaLangAccess"), accessFlags := 26, slot := 19, constantValue := 0 }, { name := "SOFT_MAX_ARRAY_LENGTH", type := .int, accessFlags := 25, slot := 20, constantValue := 0 }]
  methods := #[k16m0]
  instanceTypes := #[]
  staticTypes := #[(.object "jdk/internal/misc/Unsafe"), .boolean, .int, .int, .int, .int, .int, .int, .int, .int, .int, .int, .int, .int, .int, .int, .int, .int, .int, (.object "jdk/internal/access/JavaLangAccess"), .int]
  resolved := Array.replicate 378 none
  statics := none }

def pool17 : Array CpInfo := pool [(1, u "java/lang/Cloneable"), (0, .class_ 1), (0, u "java/lang/Object"), (0, .class_ 3)] 3

/-- java/lang/Cloneable -/
def k17 : Class := { plain "java/lang/Cloneable" (some 0) with
  accessFlags := 1537
  interfaces := #[]
  cf := some (fileOf pool17 2 #[] #[] 1537 4 #[] #[])
  fields := #[]
  methods := #[]
  instanceTypes := #[]
  staticTypes := #[]
  resolved := Array.replicate 8 none
  statics := none }

/-- the primitive byte -/
def k18 : Class := { plain "byte" none with kind := .primitive 'B', accessFlags := 0x411 }
/-- [B -/
def k19 : Class := { plain "[B" (some 0) with kind := .array 18 .byte, interfaces := #[17, 4], accessFlags := 1041 }

/-- the primitive int -/
def k20 : Class := { plain "int" none with kind := .primitive 'I', accessFlags := 0x411 }
/-- [I -/
def k21 : Class := { plain "[I" (some 0) with kind := .array 20 .int, interfaces := #[17, 4], accessFlags := 1041 }

def heap : Heap := #[{ cls := 9, slots := #[.long 0, .int 1, .null, .int 0, .null, .int 0, .int 0], vm := .statics 9 },
  { cls := 15, slots := #[.null, .null, .null], vm := .statics 15 }]
def classes : Array Class := #[k0, k1, k2, k3, k4, k5, k6, k7, k8, k9, k10, k11, k12, k13, k14, k15, k16, k17, k18, k19, k20, k21]
def interned : List (Array UInt16 × Addr) := []
def slotsUsed : Nat := 10
def theMethod : MethodId := ⟨1, 1⟩
def args0 : Array Value := #[.int 5, .int 6, .int 7]
def aboutOver (below : List Frame) : State where
  vm := { classes := classes, interned := interned.toArray }
  heap := heap
  slotsUsed := slotsUsed
  threads := #[{ frames := .invoking theMethod args0 :: below }]
def below0 : List Frame := [.native { method := ⟨0, 0⟩, args := #[] }]
def about1 : State := aboutOver below0
def p0 : Program := .bare "" "" ""
def e0 : Env := launch0.env 0 0 0
theorem w_frames : about1.frames = Frame.invoking theMethod args0 :: below0 := rfl
set_option maxRecDepth 65536 in
theorem w_args : argsFit about1.vm theMethod args0 = true := by decide +kernel
set_option maxRecDepth 65536 in
theorem w_heap : heapFits about1 = true := by decide +kernel
set_option maxRecDepth 65536 in
theorem w_runnable : about1.curStatus? = some .runnable := by decide +kernel
set_option maxRecDepth 65536 in
theorem w_alone : about1.alone = true := by decide +kernel
set_option maxRecDepth 65536 in
theorem w_named : about1.methodNamed? x = some theMethod := by decide +kernel
set_option maxRecDepth 65536 in
theorem w_hears : about1.hears theMethod below0 = true := by decide +kernel
set_option maxRecDepth 65536 in
theorem w_ripe : about1.ripe theMethod args0 below0 = true := by decide +kernel
theorem w_running : about1.status = .running := rfl
set_option maxRecDepth 65536 in
theorem w_room : about1.hasRoom e0.platform room_1 = true :=
  launch0.hasRoom_least _ room_1 (by decide +kernel) (by decide +kernel) (by decide +kernel) (by decide +kernel) (by decide +kernel) (by decide +kernel)
theorem allAtoms_all (ts : List Jvm.Cond) (a : Array Jvm.Value) (st : Jvm.State) : (allAtoms ts).before a st = ts.all (fun c => c.before a st) := by
  induction ts with
  | nil => rfl
  | cons c t ih =>
    show (Jvm.Cond.and c (allAtoms t)).before a st = _
    rw [Jvm.Cond.before_and, ih, List.all_cons]
def words1 : List Jvm.Cond := Jvm.Cond.code x code maxLocals ret :: tables_1
/-- a 'code' word, met by the world's own term for the bytes: nothing is compared byte by byte -/
theorem code_word {y : MethodName} {bytes : ByteArray} {mx : Nat} {rt : Option FieldType} {a : Array Value} {s : State} {m : MethodId} {meth : Method} {c : Code} (h1 : s.methodNamed? y = some m) (h2 : s.vm.method? m = some meth) (h3 : meth.code = some c) (h4 : c.code = bytes)
    (h5 : (c.maxLocals == mx && c.exceptionTable.isEmpty && decide (c.maxStack ≤ mostOperands) && decide (meth.sig.returnType = rt) && !meth.locks && decide (parseMethodDescriptor y.desc = some meth.sig)) = true) : (Jvm.Cond.code y bytes mx rt).before a s = true := by
  simp only [Bool.and_eq_true, beq_iff_eq, Bool.not_eq_true', decide_eq_true_eq] at h5
  obtain ⟨⟨⟨⟨⟨g1, g2⟩, g3⟩, g4⟩, g5⟩, g6⟩ := h5
  simp [Cond.before, Cond.holds, Cond.value, h1, h2, h3, h4, g1, g2, g3, g4, g5, g6]
def isCode : Jvm.Cond → Bool
  | .code _ _ _ _ => true
  | _ => false
theorem all_split {L : List Jvm.Cond} {P : Jvm.Cond → Bool} (h1 : L.all (fun c => isCode c || P c) = true) (h2 : ∀ c ∈ L.filter isCode, P c = true) : L.all P = true := by
  refine List.all_eq_true.mpr fun c hc => ?_
  have h := List.all_eq_true.mp h1 c hc
  rcases Bool.eq_false_or_eq_true (isCode c) with hi | hi
  · exact h2 c (List.mem_filter.mpr ⟨hc, hi⟩)
  · simpa [hi] using h
set_option maxRecDepth 65536 in
theorem w_c0 : (Jvm.Cond.code x code maxLocals ret).before args0 about1 = true := code_word (m := ⟨1, 1⟩) (meth := k1m1) (c := k1c1) (by decide +kernel) rfl rfl rfl (by decide +kernel)
set_option maxRecDepth 65536 in
theorem w_c1 : (Jvm.Cond.code ({ cls := "com/example/duepath/duepath/Request", name := "<init>", desc := "(Ljava/lang/String;Ljava/lang/String;Ljava/lang/String;DDDD)V" } : Jvm.MethodName) prog_8_method_1_code (12 : Nat) (Option.none : Option Jvm.ClassFile.FieldType)).before args0 about1 = true := code_word (m := ⟨3, 0⟩) (meth := k3m0) (c := k3c0) (by decide +kernel) rfl rfl rfl (by decide +kernel)
set_option maxRecDepth 65536 in
theorem w_c2 : (Jvm.Cond.code ({ cls := "java/lang/Record", name := "<init>", desc := "()V" } : Jvm.MethodName) jdk_30_method_1_code (1 : Nat) (Option.none : Option Jvm.ClassFile.FieldType)).before args0 about1 = true := code_word (m := ⟨2, 0⟩) (meth := k2m0) (c := k2c0) (by decide +kernel) rfl rfl rfl (by decide +kernel)
set_option maxRecDepth 65536 in
theorem w_c3 : (Jvm.Cond.code ({ cls := "java/lang/Object", name := "<init>", desc := "()V" } : Jvm.MethodName) object_method_1_code (1 : Nat) (Option.none : Option Jvm.ClassFile.FieldType)).before args0 about1 = true := code_word (m := ⟨0, 0⟩) (meth := k0m0) (c := k0c0) (by decide +kernel) rfl rfl rfl (by decide +kernel)
set_option maxRecDepth 65536 in
theorem w_c4 : (Jvm.Cond.code ({ cls := "java/util/Objects", name := "requireNonNull", desc := "(Ljava/lang/Object;Ljava/lang/String;)Ljava/lang/Object;" } : Jvm.MethodName) jdk_31_method_11_code (2 : Nat) (Option.some (Jvm.ClassFile.FieldType.object "java/lang/Object"))).before args0 about1 = true := code_word (m := ⟨10, 1⟩) (meth := k10m1) (c := k10c1) (by decide +kernel) rfl rfl rfl (by decide +kernel)
set_option maxRecDepth 65536 in
theorem w_c5 : (Jvm.Cond.code ({ cls := "java/lang/String", name := "isEmpty", desc := "()Z" } : Jvm.MethodName) jdk_42_method_55_code (1 : Nat) (Option.some Jvm.ClassFile.FieldType.boolean)).before args0 about1 = true := code_word (m := ⟨9, 1⟩) (meth := k9m1) (c := k9c1) (by decide +kernel) rfl rfl rfl (by decide +kernel)
set_option maxRecDepth 65536 in
theorem w_c6 : (Jvm.Cond.code ({ cls := "java/lang/String", name := "equals", desc := "(Ljava/lang/Object;)Z" } : Jvm.MethodName) jdk_42_method_66_code (3 : Nat) (Option.some Jvm.ClassFile.FieldType.boolean)).before args0 about1 = true := code_word (m := ⟨9, 2⟩) (meth := k9m2) (c := k9c2) (by decide +kernel) rfl rfl rfl (by decide +kernel)
set_option maxRecDepth 65536 in
theorem w_c7 : (Jvm.Cond.code ({ cls := "java/lang/StringLatin1", name := "equals", desc := "([B[B)Z" } : Jvm.MethodName) jdk_43_method_13_code (3 : Nat) (Option.some Jvm.ClassFile.FieldType.boolean)).before args0 about1 = true := code_word (m := ⟨11, 1⟩) (meth := k11m1) (c := k11c1) (by decide +kernel) rfl rfl rfl (by decide +kernel)
set_option maxRecDepth 65536 in
theorem w_c8 : (Jvm.Cond.code ({ cls := "java/lang/Double", name := "isInfinite", desc := "(D)Z" } : Jvm.MethodName) jdk_117_method_7_code (2 : Nat) (Option.some Jvm.ClassFile.FieldType.boolean)).before args0 about1 = true := code_word (m := ⟨13, 0⟩) (meth := k13m0) (c := k13c0) (by decide +kernel) rfl rfl rfl (by decide +kernel)
set_option maxRecDepth 65536 in
theorem w_c9 : (Jvm.Cond.code ({ cls := "java/lang/Math", name := "abs", desc := "(D)D" } : Jvm.MethodName) jdk_29_method_64_code (2 : Nat) (Option.some Jvm.ClassFile.FieldType.double)).before args0 about1 = true := code_word (m := ⟨14, 1⟩) (meth := k14m1) (c := k14c1) (by decide +kernel) rfl rfl rfl (by decide +kernel)
set_option maxRecDepth 65536 in
theorem w_c10 : (Jvm.Cond.code ({ cls := "com/example/duepath/duepath/Request", name := "isMetBy", desc := "(D)Z" } : Jvm.MethodName) prog_8_method_3_code (3 : Nat) (Option.some Jvm.ClassFile.FieldType.boolean)).before args0 about1 = true := code_word (m := ⟨3, 1⟩) (meth := k3m1) (c := k3c1) (by decide +kernel) rfl rfl rfl (by decide +kernel)
def codes1 : List Jvm.Cond := [Jvm.Cond.code x code maxLocals ret, Jvm.Cond.code ({ cls := "com/example/duepath/duepath/Request", name := "<init>", desc := "(Ljava/lang/String;Ljava/lang/String;Ljava/lang/String;DDDD)V" } : Jvm.MethodName) prog_8_method_1_code (12 : Nat) (Option.none : Option Jvm.ClassFile.FieldType), Jvm.Cond.code ({ cls := "java/lang/Record", name := "<init>", desc := "()V" } : Jvm.MethodName) jdk_30_method_1_code (1 : Nat) (Option.none : Option Jvm.ClassFile.FieldType), Jvm.Cond.code ({ cls := "java/lang/Object", name := "<init>", desc := "()V" } : Jvm.MethodName) object_method_1_code (1 : Nat) (Option.none : Option Jvm.ClassFile.FieldType), Jvm.Cond.code ({ cls := "java/util/Objects", name := "requireNonNull", desc := "(Ljava/lang/Object;Ljava/lang/String;)Ljava/lang/Object;" } : Jvm.MethodName) jdk_31_method_11_code (2 : Nat) (Option.some (Jvm.ClassFile.FieldType.object "java/lang/Object")), Jvm.Cond.code ({ cls := "java/lang/String", name := "isEmpty", desc := "()Z" } : Jvm.MethodName) jdk_42_method_55_code (1 : Nat) (Option.some Jvm.ClassFile.FieldType.boolean), Jvm.Cond.code ({ cls := "java/lang/String", name := "equals", desc := "(Ljava/lang/Object;)Z" } : Jvm.MethodName) jdk_42_method_66_code (3 : Nat) (Option.some Jvm.ClassFile.FieldType.boolean), Jvm.Cond.code ({ cls := "java/lang/StringLatin1", name := "equals", desc := "([B[B)Z" } : Jvm.MethodName) jdk_43_method_13_code (3 : Nat) (Option.some Jvm.ClassFile.FieldType.boolean), Jvm.Cond.code ({ cls := "java/lang/Double", name := "isInfinite", desc := "(D)Z" } : Jvm.MethodName) jdk_117_method_7_code (2 : Nat) (Option.some Jvm.ClassFile.FieldType.boolean), Jvm.Cond.code ({ cls := "java/lang/Math", name := "abs", desc := "(D)D" } : Jvm.MethodName) jdk_29_method_64_code (2 : Nat) (Option.some Jvm.ClassFile.FieldType.double), Jvm.Cond.code ({ cls := "com/example/duepath/duepath/Request", name := "isMetBy", desc := "(D)Z" } : Jvm.MethodName) prog_8_method_3_code (3 : Nat) (Option.some Jvm.ClassFile.FieldType.boolean)]
set_option maxRecDepth 65536 in
theorem codes_eq : words1.filter isCode = codes1 := rfl
theorem w_codes : ∀ c ∈ words1.filter isCode, c.before args0 about1 = true := by
  rw [codes_eq]
  intro c hc
  simp only [codes1, List.mem_cons, List.not_mem_nil, or_false] at hc
  rcases hc with rfl | rfl | rfl | rfl | rfl | rfl | rfl | rfl | rfl | rfl | rfl
  · exact w_c0
  · exact w_c1
  · exact w_c2
  · exact w_c3
  · exact w_c4
  · exact w_c5
  · exact w_c6
  · exact w_c7
  · exact w_c8
  · exact w_c9
  · exact w_c10
set_option maxRecDepth 65536 in
theorem w_t1 : (words1.take 24).all (fun c => isCode c || c.before args0 about1) = true := by decide +kernel
set_option maxRecDepth 65536 in
theorem w_t2 : ((words1.drop 24).take 24).all (fun c => isCode c || c.before args0 about1) = true := by decide +kernel
set_option maxRecDepth 65536 in
theorem w_t3 : (((words1.drop 24).drop 24).take 24).all (fun c => isCode c || c.before args0 about1) = true := by decide +kernel
set_option maxRecDepth 65536 in
theorem w_t4 : (((words1.drop 24).drop 24).drop 24).all (fun c => isCode c || c.before args0 about1) = true := by decide +kernel
theorem w_tables : (allAtoms (Jvm.Cond.code x code maxLocals ret :: tables_1)).before args0 about1 = true := by
  rw [allAtoms_all]
  show words1.all (fun c => c.before args0 about1) = true
  refine all_split ?_ w_codes
  rw [← List.take_append_drop 24 words1, List.all_append, w_t1, ← List.take_append_drop 24 (words1.drop 24), List.all_append, w_t2, ← List.take_append_drop 24 ((words1.drop 24).drop 24), List.all_append, w_t3, w_t4]
  rfl
set_option maxRecDepth 65536 in
theorem w_rest : rest_1_c.before args0 about1 = true := by decide +kernel
set_option maxRecDepth 65536 in
theorem w_case : (Jvm.Cond.and given_1 narrow_1).before args0 about1 = true := by decide +kernel
set_option maxRecDepth 65536 in
theorem w_consts : constsHeld consts_1 about1 := Jvm.Lit.constsHeldB_iff.mp (by decide +kernel)
theorem w_applies : (headSpec (Jvm.Cond.code x code maxLocals ret :: tables_1) room_1).applies x e0.platform about1 = true :=
  (Spec.applies_iff w_frames).mpr ⟨w_running, w_runnable, w_alone, w_named, w_hears, w_ripe, w_room, w_tables⟩
theorem atStart : AtStart classFile x code maxLocals ret World_1 tables_1 room_1 Calls_1 rest_1 Pre_1 launch0 p0 e0 about1 theMethod args0 below0 :=
  ⟨lists_1, trivial, launch0.admits_env _ _ _, launch0.least_env, fairChoices_fair.cas, fairChoices_fair.clock, w_frames, w_args, w_heap, w_applies, ⟨w_consts, trivial⟩, w_rest, w_case⟩
end start1
theorem witness_1 : WitnessClaimed_1 := ⟨start1.p0, start1.e0, start1.about1, start1.theMethod, start1.args0, start1.below0, start1.atStart⟩
end Jvm.Pilot.@@N@@
