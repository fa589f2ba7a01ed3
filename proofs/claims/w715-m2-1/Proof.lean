import JvmDerived
import JvmDerived.Pilot.@@N@@Statement
import JvmDerived.Pilot.@@N@@Code
set_option linter.unusedVariables false
set_option linter.unusedSimpArgs false
namespace Jvm.Pilot.@@N@@
open Jvm Jvm.ClassFile Sem Op Lib Jvm.Free Jvm.Stand Jvm.LawKit Jvm.RoadKit Bundle Jvm.Pilot.@@N@@.Jvm.D
section OwnWalk
variable {p : Program} {l : Launch} {e : Env} {R : Room} {s : State} {m : MethodId} {args : Array Value} {below : List Frame} {meth : Method} {c : Code} {Z : State} {own : String} {bytes : ByteArray} {ml : Nat} {rt : Option FieldType} {nm : String} {n0 : Nat} {T : State} {h : Heap} {cells slots : Nat} {Q : Option Value → Heap → Prop} {Φ : State → Outcome → Prop} {pc pc' : Nat} {Ls : Array Slot} {rest : List Value} {a0 : Array Value}
/-- where the walk stands: the library's Stand, every place written so far is new (Fr), the heap, and the body's own data -/
def own_St (p : Program) (l : Launch) (e : Env) (R : Room) (s : State) (m : MethodId) (args : Array Value) (below : List Frame) (meth : Method) (c : Code) (Z : State) (own : String) (bytes : ByteArray) (ml : Nat) (rt : Option FieldType) (nm : String) (n0 : Nat) (T : State) (h : Heap) (cells slots : Nat) : Prop :=
  ∃ locs, Stand p l e R s m args below meth c T locs cells slots ∧ Fr n0 locs ∧ T.heap = h ∧ n0 ≤ h.size ∧ p.tables.exec = Jvm.exec ∧ Z.Warmed39 s.vm ∧ s.vm.findClass own = some m.cls ∧ c.code = bytes ∧ c.maxLocals = ml ∧ meth.sig.returnType = rt ∧ meth.locks = false ∧ meth.name = nm
/-- what a return that meets Q leaves -/
def own_Fin (below : List Frame) (s : State) (R : Room) (n0 : Nat) (Q : Option Value → Heap → Prop) : State → Outcome → Prop := fun s₂ o =>
  s₂.status = .running ∧ Ended s₂ below o ∧ ∃ v L, o = .returned v ∧ ((Q v s₂.heap ∧ n0 ≤ s₂.heap.size) ∧ Fr n0 L) ∧ FrameEnd s o s₂ L R.cells R.slots
/-- from frame g over T the run comes to an end that meets Φ -/
def own_Goal (p : Program) (e : Env) (below : List Frame) (Φ : State → Outcome → Prop) (T : State) (g : JFrame) : Prop :=
  ∃ s₂ o, Steps p.tables e below (T.setTop g) s₂ ∧ Φ s₂ o
theorem own_St.le (X : own_St p l e R s m args below meth c Z own bytes ml rt nm n0 T h cells slots) : n0 ≤ h.size := by obtain ⟨_, _, _, _, q, _⟩ := X; exact q
theorem own_step {T' : State} {g g' : JFrame} (f : ∀ t, Steps p.tables e below (T'.setTop g') t → Steps p.tables e below (T.setTop g) t) (k : own_Goal p e below Φ T' g') : own_Goal p e below Φ T g := by
  obtain ⟨s2, o, a, r⟩ := k
  exact ⟨s2, o, f _ a, r⟩
theorem own_cast {g g' : JFrame} (q : g = g') (k : own_Goal p e below Φ T g') : own_Goal p e below Φ T g := q ▸ k
theorem own_pure (X : own_St p l e R s m args below meth c Z own bytes ml rt nm n0 T h cells slots) {g g' : JFrame} (f : ∀ {locs}, Stand p l e R s m args below meth c T locs cells slots → p.tables.exec = Jvm.exec → c.code = bytes → ∀ t, Steps p.tables e below (T.setTop g') t → Steps p.tables e below (T.setTop g) t) (k : own_Goal p e below Φ T g') : own_Goal p e below Φ T g := by
  obtain ⟨locs, X, -, -, -, hx, -, -, hby, -⟩ := X
  exact own_step (f X hx hby) k
theorem own_iconst (X : own_St p l e R s m args below meth c Z own bytes ml rt nm n0 T h cells slots) {i : Int} {v : Int32} (hv : Int32.ofInt i = v) (hd : decode bytes pc = .ok (.iconst i, 1)) (hp : pc + 1 = pc') (k : own_Goal p e below Φ T (mkF m pc' Ls (.int v :: rest))) : own_Goal p e below Φ T (mkF m pc Ls (rest)) := by
  subst hp hv
  exact own_pure X (fun X hx hby _ a => XS.iconst X.here hx rfl (hb hby hd) a) k
theorem own_bipush (X : own_St p l e R s m args below meth c Z own bytes ml rt nm n0 T h cells slots) {i : Int} {v : Int32} (hv : (Int8.ofInt i).toInt32 = v) (hd : decode bytes pc = .ok (.bipush i, 2)) (hp : pc + 2 = pc') (k : own_Goal p e below Φ T (mkF m pc' Ls (.int v :: rest))) : own_Goal p e below Φ T (mkF m pc Ls (rest)) := by
  subst hp hv
  exact own_pure X (fun X hx hby _ a => XS.bipush X.here hx rfl (hb hby hd) a) k
theorem own_sipush (X : own_St p l e R s m args below meth c Z own bytes ml rt nm n0 T h cells slots) {i : Int} {v : Int32} (hv : (Int16.ofInt i).toInt32 = v) (hd : decode bytes pc = .ok (.sipush i, 3)) (hp : pc + 3 = pc') (k : own_Goal p e below Φ T (mkF m pc' Ls (.int v :: rest))) : own_Goal p e below Φ T (mkF m pc Ls (rest)) := by
  subst hp hv
  exact own_pure X (fun X hx hby _ a => XS.sipush X.here hx rfl (hb hby hd) a) k
theorem own_aconst_null (X : own_St p l e R s m args below meth c Z own bytes ml rt nm n0 T h cells slots)  (hd : decode bytes pc = .ok (.aconst_null, 1)) (hp : pc + 1 = pc') (k : own_Goal p e below Φ T (mkF m pc' Ls (.null :: rest))) : own_Goal p e below Φ T (mkF m pc Ls (rest)) := by
  subst hp
  exact own_pure X (fun X hx hby _ a => XS.aconstNull X.here hx rfl (hb hby hd) a) k
theorem own_lconst (X : own_St p l e R s m args below meth c Z own bytes ml rt nm n0 T h cells slots) {k : Fin 2} {v : Int64} (hv : Int64.ofNat k = v) (hd : decode bytes pc = .ok (.lconst k, 1)) (hp : pc + 1 = pc') (k : own_Goal p e below Φ T (mkF m pc' Ls (.long v :: rest))) : own_Goal p e below Φ T (mkF m pc Ls (rest)) := by
  subst hp hv
  exact own_pure X (fun X hx hby _ a => XT.lconst X.here hx rfl (hb hby hd) a) k
theorem own_dconst0 (X : own_St p l e R s m args below meth c Z own bytes ml rt nm n0 T h cells slots) {v : UInt64} (hv : FP.dconst0 = v) (hd : decode bytes pc = .ok (.dconst 0, 1)) (hp : pc + 1 = pc') (k : own_Goal p e below Φ T (mkF m pc' Ls (.double v :: rest))) : own_Goal p e below Φ T (mkF m pc Ls (rest)) := by
  subst hp
  exact own_pure X (fun X hx hby _ a => XS.dconst0 X.here hx rfl (hb hby hd) hv a) k
theorem own_dconst1 (X : own_St p l e R s m args below meth c Z own bytes ml rt nm n0 T h cells slots) {v : UInt64} (hv : FP.dconst1 = v) (hd : decode bytes pc = .ok (.dconst 1, 1)) (hp : pc + 1 = pc') (k : own_Goal p e below Φ T (mkF m pc' Ls (.double v :: rest))) : own_Goal p e below Φ T (mkF m pc Ls (rest)) := by
  subst hp
  exact own_pure X (fun X hx hby _ a => XS.dconst1 X.here hx rfl (hb hby hd) hv a) k
theorem own_iload (X : own_St p l e R s m args below meth c Z own bytes ml rt nm n0 T h cells slots) {k : Nat} {v : Int32} (hl : Ls[k]? = some (.val (.int v))) (hd : decode bytes pc = .ok (.iload k, 2)) (hp : pc + 2 = pc') (k : own_Goal p e below Φ T (mkF m pc' Ls (.int v :: rest))) : own_Goal p e below Φ T (mkF m pc Ls (rest)) := by
  subst hp
  exact own_pure X (fun X hx hby _ a => XS.iload X.here hx rfl (hb hby hd) hl a) k
theorem own_iloadN (X : own_St p l e R s m args below meth c Z own bytes ml rt nm n0 T h cells slots) {k : Fin 4} {v : Int32} (hl : Ls[k.val]? = some (.val (.int v))) (hd : decode bytes pc = .ok (.iload_n k, 1)) (hp : pc + 1 = pc') (k : own_Goal p e below Φ T (mkF m pc' Ls (.int v :: rest))) : own_Goal p e below Φ T (mkF m pc Ls (rest)) := by
  subst hp
  exact own_pure X (fun X hx hby _ a => XS.iloadN X.here hx rfl (hb hby hd) hl a) k
theorem own_istore (X : own_St p l e R s m args below meth c Z own bytes ml rt nm n0 T h cells slots) {k : Nat} {v : Int32} {Ls' : Array Slot} (hl : storeLocals Ls k (.int v) = some Ls') (hd : decode bytes pc = .ok (.istore k, 2)) (hp : pc + 2 = pc') (k : own_Goal p e below Φ T (mkF m pc' Ls' (rest))) : own_Goal p e below Φ T (mkF m pc Ls (.int v :: rest)) := by
  subst hp
  exact own_pure X (fun X hx hby _ a => XS.istore X.here hx rfl (hb hby hd) rfl hl a) k
theorem own_istoreN (X : own_St p l e R s m args below meth c Z own bytes ml rt nm n0 T h cells slots) {k : Fin 4} {v : Int32} {Ls' : Array Slot} (hl : storeLocals Ls k.val (.int v) = some Ls') (hd : decode bytes pc = .ok (.istore_n k, 1)) (hp : pc + 1 = pc') (k : own_Goal p e below Φ T (mkF m pc' Ls' (rest))) : own_Goal p e below Φ T (mkF m pc Ls (.int v :: rest)) := by
  subst hp
  exact own_pure X (fun X hx hby _ a => XS.istoreN X.here hx rfl (hb hby hd) rfl hl a) k
theorem own_lload (X : own_St p l e R s m args below meth c Z own bytes ml rt nm n0 T h cells slots) {k : Nat} {v : Int64} (hl : Ls[k]? = some (.val (.long v))) (hd : decode bytes pc = .ok (.lload k, 2)) (hp : pc + 2 = pc') (k : own_Goal p e below Φ T (mkF m pc' Ls (.long v :: rest))) : own_Goal p e below Φ T (mkF m pc Ls (rest)) := by
  subst hp
  exact own_pure X (fun X hx hby _ a => XT.lload X.here hx rfl (hb hby hd) hl a) k
theorem own_lloadN (X : own_St p l e R s m args below meth c Z own bytes ml rt nm n0 T h cells slots) {k : Fin 4} {v : Int64} (hl : Ls[k.val]? = some (.val (.long v))) (hd : decode bytes pc = .ok (.lload_n k, 1)) (hp : pc + 1 = pc') (k : own_Goal p e below Φ T (mkF m pc' Ls (.long v :: rest))) : own_Goal p e below Φ T (mkF m pc Ls (rest)) := by
  subst hp
  exact own_pure X (fun X hx hby _ a => XT.lloadN X.here hx rfl (hb hby hd) hl a) k
theorem own_lstore (X : own_St p l e R s m args below meth c Z own bytes ml rt nm n0 T h cells slots) {k : Nat} {v : Int64} {Ls' : Array Slot} (hl : storeLocals Ls k (.long v) = some Ls') (hd : decode bytes pc = .ok (.lstore k, 2)) (hp : pc + 2 = pc') (k : own_Goal p e below Φ T (mkF m pc' Ls' (rest))) : own_Goal p e below Φ T (mkF m pc Ls (.long v :: rest)) := by
  subst hp
  exact own_pure X (fun X hx hby _ a => XT.lstore X.here hx rfl (hb hby hd) rfl hl a) k
theorem own_lstoreN (X : own_St p l e R s m args below meth c Z own bytes ml rt nm n0 T h cells slots) {k : Fin 4} {v : Int64} {Ls' : Array Slot} (hl : storeLocals Ls k.val (.long v) = some Ls') (hd : decode bytes pc = .ok (.lstore_n k, 1)) (hp : pc + 1 = pc') (k : own_Goal p e below Φ T (mkF m pc' Ls' (rest))) : own_Goal p e below Φ T (mkF m pc Ls (.long v :: rest)) := by
  subst hp
  exact own_pure X (fun X hx hby _ a => XT.lstoreN X.here hx rfl (hb hby hd) rfl hl a) k
theorem own_dload (X : own_St p l e R s m args below meth c Z own bytes ml rt nm n0 T h cells slots) {k : Nat} {v : UInt64} (hl : Ls[k]? = some (.val (.double v))) (hd : decode bytes pc = .ok (.dload k, 2)) (hp : pc + 2 = pc') (k : own_Goal p e below Φ T (mkF m pc' Ls (.double v :: rest))) : own_Goal p e below Φ T (mkF m pc Ls (rest)) := by
  subst hp
  exact own_pure X (fun X hx hby _ a => XS.dload X.here hx rfl (hb hby hd) hl a) k
theorem own_dloadN (X : own_St p l e R s m args below meth c Z own bytes ml rt nm n0 T h cells slots) {k : Fin 4} {v : UInt64} (hl : Ls[k.val]? = some (.val (.double v))) (hd : decode bytes pc = .ok (.dload_n k, 1)) (hp : pc + 1 = pc') (k : own_Goal p e below Φ T (mkF m pc' Ls (.double v :: rest))) : own_Goal p e below Φ T (mkF m pc Ls (rest)) := by
  subst hp
  exact own_pure X (fun X hx hby _ a => XS.dloadN X.here hx rfl (hb hby hd) hl a) k
theorem own_dstore (X : own_St p l e R s m args below meth c Z own bytes ml rt nm n0 T h cells slots) {k : Nat} {v : UInt64} {Ls' : Array Slot} (hl : storeLocals Ls k (.double v) = some Ls') (hd : decode bytes pc = .ok (.dstore k, 2)) (hp : pc + 2 = pc') (k : own_Goal p e below Φ T (mkF m pc' Ls' (rest))) : own_Goal p e below Φ T (mkF m pc Ls (.double v :: rest)) := by
  subst hp
  exact own_pure X (fun X hx hby _ a => XS.dstore X.here hx rfl (hb hby hd) rfl hl a) k
theorem own_dstoreN (X : own_St p l e R s m args below meth c Z own bytes ml rt nm n0 T h cells slots) {k : Fin 4} {v : UInt64} {Ls' : Array Slot} (hl : storeLocals Ls k.val (.double v) = some Ls') (hd : decode bytes pc = .ok (.dstore_n k, 1)) (hp : pc + 1 = pc') (k : own_Goal p e below Φ T (mkF m pc' Ls' (rest))) : own_Goal p e below Φ T (mkF m pc Ls (.double v :: rest)) := by
  subst hp
  exact own_pure X (fun X hx hby _ a => XS.dstoreN X.here hx rfl (hb hby hd) rfl hl a) k
theorem own_aload (X : own_St p l e R s m args below meth c Z own bytes ml rt nm n0 T h cells slots) {k : Nat} {v : Value} (hl : Ls[k]? = some (.val v)) (hv : v.isRef = true) (hd : decode bytes pc = .ok (.aload k, 2)) (hp : pc + 2 = pc') (k : own_Goal p e below Φ T (mkF m pc' Ls (v :: rest))) : own_Goal p e below Φ T (mkF m pc Ls (rest)) := by
  subst hp
  exact own_pure X (fun X hx hby _ a => XS.aload X.here hx rfl (hb hby hd) hl hv a) k
theorem own_aloadN (X : own_St p l e R s m args below meth c Z own bytes ml rt nm n0 T h cells slots) {k : Fin 4} {v : Value} (hl : Ls[k.val]? = some (.val v)) (hv : v.isRef = true) (hd : decode bytes pc = .ok (.aload_n k, 1)) (hp : pc + 1 = pc') (k : own_Goal p e below Φ T (mkF m pc' Ls (v :: rest))) : own_Goal p e below Φ T (mkF m pc Ls (rest)) := by
  subst hp
  exact own_pure X (fun X hx hby _ a => XS.aloadN X.here hx rfl (hb hby hd) hl hv a) k
theorem own_astore (X : own_St p l e R s m args below meth c Z own bytes ml rt nm n0 T h cells slots) {k : Nat} {v : Value} {Ls' : Array Slot} (hl : storeLocals Ls k v = some Ls') (hv : v.isRef = true) (hd : decode bytes pc = .ok (.astore k, 2)) (hp : pc + 2 = pc') (k : own_Goal p e below Φ T (mkF m pc' Ls' (rest))) : own_Goal p e below Φ T (mkF m pc Ls (v :: rest)) := by
  subst hp
  exact own_pure X (fun X hx hby _ a => XS.astore X.here hx rfl (hb hby hd) rfl hv hl a) k
theorem own_astoreN (X : own_St p l e R s m args below meth c Z own bytes ml rt nm n0 T h cells slots) {k : Fin 4} {v : Value} {Ls' : Array Slot} (hl : storeLocals Ls k.val v = some Ls') (hv : v.isRef = true) (hd : decode bytes pc = .ok (.astore_n k, 1)) (hp : pc + 1 = pc') (k : own_Goal p e below Φ T (mkF m pc' Ls' (rest))) : own_Goal p e below Φ T (mkF m pc Ls (v :: rest)) := by
  subst hp
  exact own_pure X (fun X hx hby _ a => XS.astoreN X.here hx rfl (hb hby hd) rfl hv hl a) k
theorem own_iinc (X : own_St p l e R s m args below meth c Z own bytes ml rt nm n0 T h cells slots) {k : Nat} {i : Int} {x v : Int32} {Ls' : Array Slot} (hl : Ls[k]? = some (.val (.int x))) (hv : x + Int32.ofInt i = v) (hl' : storeLocals Ls k (.int v) = some Ls') (hd : decode bytes pc = .ok (.iinc k i, 3)) (hp : pc + 3 = pc') (k : own_Goal p e below Φ T (mkF m pc' Ls' (rest))) : own_Goal p e below Φ T (mkF m pc Ls (rest)) := by
  subst hp hv
  exact own_pure X (fun X hx hby _ a => XS.iinc X.here hx rfl (hb hby hd) hl hl' a) k
theorem own_iadd (X : own_St p l e R s m args below meth c Z own bytes ml rt nm n0 T h cells slots) {x y v : Int32} (hv : x + y = v) (hd : decode bytes pc = .ok (.iadd, 1)) (hp : pc + 1 = pc') (k : own_Goal p e below Φ T (mkF m pc' Ls (.int v :: rest))) : own_Goal p e below Φ T (mkF m pc Ls (.int y :: .int x :: rest)) := by
  subst hp hv
  exact own_pure X (fun X hx hby _ a => XS.iadd X.here hx rfl (hb hby hd) rfl a) k
theorem own_isub (X : own_St p l e R s m args below meth c Z own bytes ml rt nm n0 T h cells slots) {x y v : Int32} (hv : x - y = v) (hd : decode bytes pc = .ok (.isub, 1)) (hp : pc + 1 = pc') (k : own_Goal p e below Φ T (mkF m pc' Ls (.int v :: rest))) : own_Goal p e below Φ T (mkF m pc Ls (.int y :: .int x :: rest)) := by
  subst hp hv
  exact own_pure X (fun X hx hby _ a => XS.isub X.here hx rfl (hb hby hd) rfl a) k
theorem own_imul (X : own_St p l e R s m args below meth c Z own bytes ml rt nm n0 T h cells slots) {x y v : Int32} (hv : x * y = v) (hd : decode bytes pc = .ok (.imul, 1)) (hp : pc + 1 = pc') (k : own_Goal p e below Φ T (mkF m pc' Ls (.int v :: rest))) : own_Goal p e below Φ T (mkF m pc Ls (.int y :: .int x :: rest)) := by
  subst hp hv
  exact own_pure X (fun X hx hby _ a => XS.imul X.here hx rfl (hb hby hd) rfl a) k
theorem own_iand (X : own_St p l e R s m args below meth c Z own bytes ml rt nm n0 T h cells slots) {x y v : Int32} (hv : x &&& y = v) (hd : decode bytes pc = .ok (.iand, 1)) (hp : pc + 1 = pc') (k : own_Goal p e below Φ T (mkF m pc' Ls (.int v :: rest))) : own_Goal p e below Φ T (mkF m pc Ls (.int y :: .int x :: rest)) := by
  subst hp hv
  exact own_pure X (fun X hx hby _ a => XS.iand X.here hx rfl (hb hby hd) rfl a) k
theorem own_ior (X : own_St p l e R s m args below meth c Z own bytes ml rt nm n0 T h cells slots) {x y v : Int32} (hv : x ||| y = v) (hd : decode bytes pc = .ok (.ior, 1)) (hp : pc + 1 = pc') (k : own_Goal p e below Φ T (mkF m pc' Ls (.int v :: rest))) : own_Goal p e below Φ T (mkF m pc Ls (.int y :: .int x :: rest)) := by
  subst hp hv
  exact own_pure X (fun X hx hby _ a => XT.ior X.here hx rfl (hb hby hd) rfl a) k
theorem own_ixor (X : own_St p l e R s m args below meth c Z own bytes ml rt nm n0 T h cells slots) {x y v : Int32} (hv : x ^^^ y = v) (hd : decode bytes pc = .ok (.ixor, 1)) (hp : pc + 1 = pc') (k : own_Goal p e below Φ T (mkF m pc' Ls (.int v :: rest))) : own_Goal p e below Φ T (mkF m pc Ls (.int y :: .int x :: rest)) := by
  subst hp hv
  exact own_pure X (fun X hx hby _ a => XT.ixor X.here hx rfl (hb hby hd) rfl a) k
theorem own_ishl (X : own_St p l e R s m args below meth c Z own bytes ml rt nm n0 T h cells slots) {x y v : Int32} (hv : x <<< (y &&& 31) = v) (hd : decode bytes pc = .ok (.ishl, 1)) (hp : pc + 1 = pc') (k : own_Goal p e below Φ T (mkF m pc' Ls (.int v :: rest))) : own_Goal p e below Φ T (mkF m pc Ls (.int y :: .int x :: rest)) := by
  subst hp hv
  exact own_pure X (fun X hx hby _ a => XT.ishl X.here hx rfl (hb hby hd) rfl a) k
theorem own_ishr (X : own_St p l e R s m args below meth c Z own bytes ml rt nm n0 T h cells slots) {x y v : Int32} (hv : x >>> (y &&& 31) = v) (hd : decode bytes pc = .ok (.ishr, 1)) (hp : pc + 1 = pc') (k : own_Goal p e below Φ T (mkF m pc' Ls (.int v :: rest))) : own_Goal p e below Φ T (mkF m pc Ls (.int y :: .int x :: rest)) := by
  subst hp hv
  exact own_pure X (fun X hx hby _ a => XT.ishr X.here hx rfl (hb hby hd) rfl a) k
theorem own_iushr (X : own_St p l e R s m args below meth c Z own bytes ml rt nm n0 T h cells slots) {x y v : Int32} (hv : XT.ushr x y = v) (hd : decode bytes pc = .ok (.iushr, 1)) (hp : pc + 1 = pc') (k : own_Goal p e below Φ T (mkF m pc' Ls (.int v :: rest))) : own_Goal p e below Φ T (mkF m pc Ls (.int y :: .int x :: rest)) := by
  subst hp hv
  exact own_pure X (fun X hx hby _ a => XT.iushr X.here hx rfl (hb hby hd) rfl a) k
theorem own_irem (X : own_St p l e R s m args below meth c Z own bytes ml rt nm n0 T h cells slots) {x y v : Int32} (hy : y ≠ 0) (hv : x % y = v) (hd : decode bytes pc = .ok (.irem, 1)) (hp : pc + 1 = pc') (k : own_Goal p e below Φ T (mkF m pc' Ls (.int v :: rest))) : own_Goal p e below Φ T (mkF m pc Ls (.int y :: .int x :: rest)) := by
  subst hp hv
  exact own_pure X (fun X hx hby _ a => iremM X hx rfl (hb hby hd) rfl hy a) k
theorem own_ineg (X : own_St p l e R s m args below meth c Z own bytes ml rt nm n0 T h cells slots) {x v : Int32} (hv : -x = v) (hd : decode bytes pc = .ok (.ineg, 1)) (hp : pc + 1 = pc') (k : own_Goal p e below Φ T (mkF m pc' Ls (.int v :: rest))) : own_Goal p e below Φ T (mkF m pc Ls (.int x :: rest)) := by
  subst hp hv
  exact own_pure X (fun X hx hby _ a => XS.ineg X.here hx rfl (hb hby hd) rfl a) k
theorem own_ladd (X : own_St p l e R s m args below meth c Z own bytes ml rt nm n0 T h cells slots) {x y v : Int64} (hv : x + y = v) (hd : decode bytes pc = .ok (.ladd, 1)) (hp : pc + 1 = pc') (k : own_Goal p e below Φ T (mkF m pc' Ls (.long v :: rest))) : own_Goal p e below Φ T (mkF m pc Ls (.long y :: .long x :: rest)) := by
  subst hp hv
  exact own_pure X (fun X hx hby _ a => XT.ladd X.here hx rfl (hb hby hd) rfl a) k
theorem own_lsub (X : own_St p l e R s m args below meth c Z own bytes ml rt nm n0 T h cells slots) {x y v : Int64} (hv : x - y = v) (hd : decode bytes pc = .ok (.lsub, 1)) (hp : pc + 1 = pc') (k : own_Goal p e below Φ T (mkF m pc' Ls (.long v :: rest))) : own_Goal p e below Φ T (mkF m pc Ls (.long y :: .long x :: rest)) := by
  subst hp hv
  exact own_pure X (fun X hx hby _ a => XT.lsub X.here hx rfl (hb hby hd) rfl a) k
theorem own_lmul (X : own_St p l e R s m args below meth c Z own bytes ml rt nm n0 T h cells slots) {x y v : Int64} (hv : x * y = v) (hd : decode bytes pc = .ok (.lmul, 1)) (hp : pc + 1 = pc') (k : own_Goal p e below Φ T (mkF m pc' Ls (.long v :: rest))) : own_Goal p e below Φ T (mkF m pc Ls (.long y :: .long x :: rest)) := by
  subst hp hv
  exact own_pure X (fun X hx hby _ a => XT.lmul X.here hx rfl (hb hby hd) rfl a) k
theorem own_land (X : own_St p l e R s m args below meth c Z own bytes ml rt nm n0 T h cells slots) {x y v : Int64} (hv : x &&& y = v) (hd : decode bytes pc = .ok (.land, 1)) (hp : pc + 1 = pc') (k : own_Goal p e below Φ T (mkF m pc' Ls (.long v :: rest))) : own_Goal p e below Φ T (mkF m pc Ls (.long y :: .long x :: rest)) := by
  subst hp hv
  exact own_pure X (fun X hx hby _ a => XT.land X.here hx rfl (hb hby hd) rfl a) k
theorem own_lor (X : own_St p l e R s m args below meth c Z own bytes ml rt nm n0 T h cells slots) {x y v : Int64} (hv : x ||| y = v) (hd : decode bytes pc = .ok (.lor, 1)) (hp : pc + 1 = pc') (k : own_Goal p e below Φ T (mkF m pc' Ls (.long v :: rest))) : own_Goal p e below Φ T (mkF m pc Ls (.long y :: .long x :: rest)) := by
  subst hp hv
  exact own_pure X (fun X hx hby _ a => XT.lor X.here hx rfl (hb hby hd) rfl a) k
theorem own_ldiv (X : own_St p l e R s m args below meth c Z own bytes ml rt nm n0 T h cells slots) {x y v : Int64} (hy : y ≠ 0) (hv : x / y = v) (hd : decode bytes pc = .ok (.ldiv, 1)) (hp : pc + 1 = pc') (k : own_Goal p e below Φ T (mkF m pc' Ls (.long v :: rest))) : own_Goal p e below Φ T (mkF m pc Ls (.long y :: .long x :: rest)) := by
  subst hp hv
  exact own_pure X (fun X hx hby _ a => XT.ldiv X.here hx rfl (hb hby hd) rfl hy a) k
theorem own_lrem (X : own_St p l e R s m args below meth c Z own bytes ml rt nm n0 T h cells slots) {x y v : Int64} (hy : y ≠ 0) (hv : x - (x / y) * y = v) (hd : decode bytes pc = .ok (.lrem, 1)) (hp : pc + 1 = pc') (k : own_Goal p e below Φ T (mkF m pc' Ls (.long v :: rest))) : own_Goal p e below Φ T (mkF m pc Ls (.long y :: .long x :: rest)) := by
  subst hp hv
  exact own_pure X (fun X hx hby _ a => XT.lrem X.here hx rfl (hb hby hd) rfl hy a) k
theorem own_lneg (X : own_St p l e R s m args below meth c Z own bytes ml rt nm n0 T h cells slots) {x v : Int64} (hv : -x = v) (hd : decode bytes pc = .ok (.lneg, 1)) (hp : pc + 1 = pc') (k : own_Goal p e below Φ T (mkF m pc' Ls (.long v :: rest))) : own_Goal p e below Φ T (mkF m pc Ls (.long x :: rest)) := by
  subst hp hv
  exact own_pure X (fun X hx hby _ a => XT.lneg X.here hx rfl (hb hby hd) rfl a) k
theorem own_lshl (X : own_St p l e R s m args below meth c Z own bytes ml rt nm n0 T h cells slots) {x v : Int64} {y : Int32} (hv : x <<< (y.toInt64 &&& 63) = v) (hd : decode bytes pc = .ok (.lshl, 1)) (hp : pc + 1 = pc') (k : own_Goal p e below Φ T (mkF m pc' Ls (.long v :: rest))) : own_Goal p e below Φ T (mkF m pc Ls (.int y :: .long x :: rest)) := by
  subst hp hv
  exact own_pure X (fun X hx hby _ a => XT.lshl X.here hx rfl (hb hby hd) rfl a) k
theorem own_lcmp (X : own_St p l e R s m args below meth c Z own bytes ml rt nm n0 T h cells slots) {x y : Int64} {v : Int32} (hv : XT.cmpL x y = v) (hd : decode bytes pc = .ok (.lcmp, 1)) (hp : pc + 1 = pc') (k : own_Goal p e below Φ T (mkF m pc' Ls (.int v :: rest))) : own_Goal p e below Φ T (mkF m pc Ls (.long y :: .long x :: rest)) := by
  subst hp hv
  exact own_pure X (fun X hx hby _ a => XT.lcmp X.here hx rfl (hb hby hd) rfl a) k
theorem own_i2l (X : own_St p l e R s m args below meth c Z own bytes ml rt nm n0 T h cells slots) {x : Int32} {v : Int64} (hv : x.toInt64 = v) (hd : decode bytes pc = .ok (.i2l, 1)) (hp : pc + 1 = pc') (k : own_Goal p e below Φ T (mkF m pc' Ls (.long v :: rest))) : own_Goal p e below Φ T (mkF m pc Ls (.int x :: rest)) := by
  subst hp hv
  exact own_pure X (fun X hx hby _ a => XT.i2l X.here hx rfl (hb hby hd) rfl a) k
theorem own_l2i (X : own_St p l e R s m args below meth c Z own bytes ml rt nm n0 T h cells slots) {x : Int64} {v : Int32} (hv : x.toInt32 = v) (hd : decode bytes pc = .ok (.l2i, 1)) (hp : pc + 1 = pc') (k : own_Goal p e below Φ T (mkF m pc' Ls (.int v :: rest))) : own_Goal p e below Φ T (mkF m pc Ls (.long x :: rest)) := by
  subst hp hv
  exact own_pure X (fun X hx hby _ a => XT.l2i X.here hx rfl (hb hby hd) rfl a) k
theorem own_i2c (X : own_St p l e R s m args below meth c Z own bytes ml rt nm n0 T h cells slots) {x v : Int32} (hv : x.toUInt32.toUInt16.toUInt32.toInt32 = v) (hd : decode bytes pc = .ok (.i2c, 1)) (hp : pc + 1 = pc') (k : own_Goal p e below Φ T (mkF m pc' Ls (.int v :: rest))) : own_Goal p e below Φ T (mkF m pc Ls (.int x :: rest)) := by
  subst hp hv
  exact own_pure X (fun X hx hby _ a => XT.i2c X.here hx rfl (hb hby hd) rfl a) k
theorem own_i2d (X : own_St p l e R s m args below meth c Z own bytes ml rt nm n0 T h cells slots) {x : Int32} {v : UInt64} (hv : FP.i2d x = v) (hd : decode bytes pc = .ok (.i2d, 1)) (hp : pc + 1 = pc') (k : own_Goal p e below Φ T (mkF m pc' Ls (.double v :: rest))) : own_Goal p e below Φ T (mkF m pc Ls (.int x :: rest)) := by
  subst hp
  exact own_pure X (fun X hx hby _ a => XS.i2dS X.here hx rfl (hb hby hd) rfl hv a) k
theorem own_l2d (X : own_St p l e R s m args below meth c Z own bytes ml rt nm n0 T h cells slots) {x : Int64} {v : UInt64} (hv : FP.l2d x = v) (hd : decode bytes pc = .ok (.l2d, 1)) (hp : pc + 1 = pc') (k : own_Goal p e below Φ T (mkF m pc' Ls (.double v :: rest))) : own_Goal p e below Φ T (mkF m pc Ls (.long x :: rest)) := by
  subst hp
  exact own_pure X (fun X hx hby _ a => XS.l2dS X.here hx rfl (hb hby hd) rfl hv a) k
theorem own_dadd (X : own_St p l e R s m args below meth c Z own bytes ml rt nm n0 T h cells slots) {x y v : UInt64} (hv : FP.dadd x y = v) (hn : Jvm.Free.Fl.NoNaN64 v) (hd : decode bytes pc = .ok (.dadd, 1)) (hp : pc + 1 = pc') (k : own_Goal p e below Φ T (mkF m pc' Ls (.double v :: rest))) : own_Goal p e below Φ T (mkF m pc Ls (.double y :: .double x :: rest)) := by
  subst hp
  exact own_pure X (fun X hx hby _ a => XS.daddS X.here hx rfl (hb hby hd) rfl (by rw [hv]; exact hn) hv a) k
theorem own_dsub (X : own_St p l e R s m args below meth c Z own bytes ml rt nm n0 T h cells slots) {x y v : UInt64} (hv : FP.dsub x y = v) (hn : Jvm.Free.Fl.NoNaN64 v) (hd : decode bytes pc = .ok (.dsub, 1)) (hp : pc + 1 = pc') (k : own_Goal p e below Φ T (mkF m pc' Ls (.double v :: rest))) : own_Goal p e below Φ T (mkF m pc Ls (.double y :: .double x :: rest)) := by
  subst hp
  exact own_pure X (fun X hx hby _ a => XS.dsubS X.here hx rfl (hb hby hd) rfl (by rw [hv]; exact hn) hv a) k
theorem own_dmul (X : own_St p l e R s m args below meth c Z own bytes ml rt nm n0 T h cells slots) {x y v : UInt64} (hv : FP.dmul x y = v) (hn : Jvm.Free.Fl.NoNaN64 v) (hd : decode bytes pc = .ok (.dmul, 1)) (hp : pc + 1 = pc') (k : own_Goal p e below Φ T (mkF m pc' Ls (.double v :: rest))) : own_Goal p e below Φ T (mkF m pc Ls (.double y :: .double x :: rest)) := by
  subst hp
  exact own_pure X (fun X hx hby _ a => XS.dmulS X.here hx rfl (hb hby hd) rfl (by rw [hv]; exact hn) hv a) k
theorem own_ddiv (X : own_St p l e R s m args below meth c Z own bytes ml rt nm n0 T h cells slots) {x y v : UInt64} (hv : FP.ddiv x y = v) (hn : Jvm.Free.Fl.NoNaN64 v) (hd : decode bytes pc = .ok (.ddiv, 1)) (hp : pc + 1 = pc') (k : own_Goal p e below Φ T (mkF m pc' Ls (.double v :: rest))) : own_Goal p e below Φ T (mkF m pc Ls (.double y :: .double x :: rest)) := by
  subst hp
  exact own_pure X (fun X hx hby _ a => XS.ddivS X.here hx rfl (hb hby hd) rfl (by rw [hv]; exact hn) hv a) k
theorem own_dneg (X : own_St p l e R s m args below meth c Z own bytes ml rt nm n0 T h cells slots) {x v : UInt64} (hv : FP.dneg x = v) (hd : decode bytes pc = .ok (.dneg, 1)) (hp : pc + 1 = pc') (k : own_Goal p e below Φ T (mkF m pc' Ls (.double v :: rest))) : own_Goal p e below Φ T (mkF m pc Ls (.double x :: rest)) := by
  subst hp
  exact own_pure X (fun X hx hby _ a => XS.dnegS X.here hx rfl (hb hby hd) rfl hv a) k
theorem own_dcmp (X : own_St p l e R s m args below meth c Z own bytes ml rt nm n0 T h cells slots) {o : CmpOp} {x y : UInt64} {v : Int32} (hv : cmpValue (FP.dcmp x y) o = v) (hd : decode bytes pc = .ok (.dcmp o, 1)) (hp : pc + 1 = pc') (k : own_Goal p e below Φ T (mkF m pc' Ls (.int v :: rest))) : own_Goal p e below Φ T (mkF m pc Ls (.double y :: .double x :: rest)) := by
  subst hp
  exact own_pure X (fun X hx hby _ a => XS.dcmpS X.here hx rfl (hb hby hd) rfl hv a) k
theorem own_dremS {tb : Tables} [Ours tb] {e : Env} {below : List Frame} {T target : State} {m : MethodId} {c : Code} {g : JFrame} (h : At T m c below) (hx : tb.exec = Jvm.exec) (hg : g.method = m) {x y v : UInt64} {rest : List Value} (hd : decode c.code g.pc = .ok (.drem, 1)) (hs : g.stack = .double y :: .double x :: rest) (hn : Jvm.Free.Fl.NoNaN64 (FP.drem x y)) (hv : FP.drem x y = v)
    (hr : Steps tb e below (T.setTop { g with pc := g.pc + 1, stack := .double v :: rest }) target) : Steps tb e below (T.setTop g) target := by
  subst hg
  subst hv
  obtain ⟨gm, gp, gl, gs, gk, ge, gr⟩ := g
  simp only at hs hd
  subst hs
  jvm_step h [h.top, hx, hd, Op.drem.at_number h.top hn]
  exact hr
theorem own_drem (X : own_St p l e R s m args below meth c Z own bytes ml rt nm n0 T h cells slots) {x y v : UInt64} (hv : FP.drem x y = v) (hn : Jvm.Free.Fl.NoNaN64 v) (hd : decode bytes pc = .ok (.drem, 1)) (hp : pc + 1 = pc') (k : own_Goal p e below Φ T (mkF m pc' Ls (.double v :: rest))) : own_Goal p e below Φ T (mkF m pc Ls (.double y :: .double x :: rest)) := by
  subst hp
  exact own_pure X (fun X hx hby _ a => own_dremS X.here hx rfl (hb hby hd) rfl (by rw [hv]; exact hn) hv a) k
theorem own_dup (X : own_St p l e R s m args below meth c Z own bytes ml rt nm n0 T h cells slots) {x : Value} (hc : x.category = 1) (hd : decode bytes pc = .ok (.dup, 1)) (hp : pc + 1 = pc') (k : own_Goal p e below Φ T (mkF m pc' Ls (x :: x :: rest))) : own_Goal p e below Φ T (mkF m pc Ls (x :: rest)) := by
  subst hp
  exact own_pure X (fun X hx hby _ a => XS.dup X.here hx rfl (hb hby hd) rfl hc a) k
theorem own_dup2 (X : own_St p l e R s m args below meth c Z own bytes ml rt nm n0 T h cells slots) {x y : Value} (hc : x.category = 1) (hc' : y.category = 1) (hd : decode bytes pc = .ok (.dup2, 1)) (hp : pc + 1 = pc') (k : own_Goal p e below Φ T (mkF m pc' Ls (x :: y :: x :: y :: rest))) : own_Goal p e below Φ T (mkF m pc Ls (x :: y :: rest)) := by
  subst hp
  exact own_pure X (fun X hx hby _ a => XT.dup2 X.here hx rfl (hb hby hd) rfl hc hc' a) k
theorem own_pop (X : own_St p l e R s m args below meth c Z own bytes ml rt nm n0 T h cells slots) {x : Value} (hc : x.category = 1) (hd : decode bytes pc = .ok (.pop, 1)) (hp : pc + 1 = pc') (k : own_Goal p e below Φ T (mkF m pc' Ls (rest))) : own_Goal p e below Φ T (mkF m pc Ls (x :: rest)) := by
  subst hp
  exact own_pure X (fun X hx hby _ a => XT.pop X.here hx rfl (hb hby hd) rfl hc a) k
theorem own_goto (X : own_St p l e R s m args below meth c Z own bytes ml rt nm n0 T h cells slots) {o : Int}  (hd : decode bytes pc = .ok (.goto o, 3)) (ho : 0 ≤ (pc : Int) + o) (hp : ((pc : Int) + o).toNat = pc') (k : own_Goal p e below Φ T (mkF m pc' Ls rest)) : own_Goal p e below Φ T (mkF m pc Ls (rest)) := by
  exact own_pure X (fun X hx hby _ a => XS.goto X.here hx rfl rfl (hb hby hd) ho hp a) k
theorem own_ifT (X : own_St p l e R s m args below meth c Z own bytes ml rt nm n0 T h cells slots) {o : Int} {cd : ClassFile.Cond} {x : Int32} (hc : ifCond.holds cd x = true) (hd : decode bytes pc = .ok (.ifCond cd o, 3)) (ho : 0 ≤ (pc : Int) + o) (hp : ((pc : Int) + o).toNat = pc') (k : own_Goal p e below Φ T (mkF m pc' Ls rest)) : own_Goal p e below Φ T (mkF m pc Ls (.int x :: rest)) := by
  exact own_pure X (fun X hx hby _ a => XS.ifYes X.here hx rfl rfl (hb hby hd) rfl hc ho hp a) k
theorem own_ifF (X : own_St p l e R s m args below meth c Z own bytes ml rt nm n0 T h cells slots) {o : Int} {cd : ClassFile.Cond} {x : Int32} (hc : ifCond.holds cd x = false) (hd : decode bytes pc = .ok (.ifCond cd o, 3)) (hp : pc + 3 = pc') (k : own_Goal p e below Φ T (mkF m pc' Ls rest)) : own_Goal p e below Φ T (mkF m pc Ls (.int x :: rest)) := by
  subst hp
  exact own_pure X (fun X hx hby _ a => XS.ifNo X.here hx rfl (hb hby hd) rfl hc a) k
theorem own_icmpT (X : own_St p l e R s m args below meth c Z own bytes ml rt nm n0 T h cells slots) {o : Int} {cd : ClassFile.Cond} {x y : Int32} (hc : if_icmp.holds cd x y = true) (hd : decode bytes pc = .ok (.if_icmp cd o, 3)) (ho : 0 ≤ (pc : Int) + o) (hp : ((pc : Int) + o).toNat = pc') (k : own_Goal p e below Φ T (mkF m pc' Ls rest)) : own_Goal p e below Φ T (mkF m pc Ls (.int y :: .int x :: rest)) := by
  exact own_pure X (fun X hx hby _ a => XS.icmpYes X.here hx rfl rfl (hb hby hd) rfl hc ho hp a) k
theorem own_icmpF (X : own_St p l e R s m args below meth c Z own bytes ml rt nm n0 T h cells slots) {o : Int} {cd : ClassFile.Cond} {x y : Int32} (hc : if_icmp.holds cd x y = false) (hd : decode bytes pc = .ok (.if_icmp cd o, 3)) (hp : pc + 3 = pc') (k : own_Goal p e below Φ T (mkF m pc' Ls rest)) : own_Goal p e below Φ T (mkF m pc Ls (.int y :: .int x :: rest)) := by
  subst hp
  exact own_pure X (fun X hx hby _ a => XS.icmpNo X.here hx rfl (hb hby hd) rfl hc a) k
theorem own_ifnullT (X : own_St p l e R s m args below meth c Z own bytes ml rt nm n0 T h cells slots) {o : Int}  (hd : decode bytes pc = .ok (.ifnull o, 3)) (ho : 0 ≤ (pc : Int) + o) (hp : ((pc : Int) + o).toNat = pc') (k : own_Goal p e below Φ T (mkF m pc' Ls rest)) : own_Goal p e below Φ T (mkF m pc Ls (.null :: rest)) := by
  exact own_pure X (fun X hx hby _ a => XS.ifnullYes X.here hx rfl rfl (hb hby hd) rfl ho hp a) k
theorem own_ifnullF (X : own_St p l e R s m args below meth c Z own bytes ml rt nm n0 T h cells slots) {o : Int} {b : Addr} (hd : decode bytes pc = .ok (.ifnull o, 3)) (hp : pc + 3 = pc') (k : own_Goal p e below Φ T (mkF m pc' Ls rest)) : own_Goal p e below Φ T (mkF m pc Ls (.ref b :: rest)) := by
  subst hp
  exact own_pure X (fun X hx hby _ a => XS.ifnullNo X.here hx rfl (hb hby hd) rfl a) k
theorem own_ifnonnullT (X : own_St p l e R s m args below meth c Z own bytes ml rt nm n0 T h cells slots) {o : Int} {b : Addr} (hd : decode bytes pc = .ok (.ifnonnull o, 3)) (ho : 0 ≤ (pc : Int) + o) (hp : ((pc : Int) + o).toNat = pc') (k : own_Goal p e below Φ T (mkF m pc' Ls rest)) : own_Goal p e below Φ T (mkF m pc Ls (.ref b :: rest)) := by
  exact own_pure X (fun X hx hby _ a => XT.ifnonnullYes X.here hx rfl rfl (hb hby hd) rfl ho hp a) k
theorem own_ifnonnullF (X : own_St p l e R s m args below meth c Z own bytes ml rt nm n0 T h cells slots) {o : Int}  (hd : decode bytes pc = .ok (.ifnonnull o, 3)) (hp : pc + 3 = pc') (k : own_Goal p e below Φ T (mkF m pc' Ls rest)) : own_Goal p e below Φ T (mkF m pc Ls (.null :: rest)) := by
  subst hp
  exact own_pure X (fun X hx hby _ a => XT.ifnonnullNo X.here hx rfl (hb hby hd) rfl a) k
theorem own_ldcI (X : own_St p l e R s m args below meth c Z own bytes ml rt nm n0 T h cells slots) {i : Nat} {v : Int32} (w : (Jvm.Cond.constant own i v).before a0 Z = true) (hd : decode bytes pc = .ok (.ldc i, 2)) (hp : pc + 2 = pc') (k : own_Goal p e below Φ T (mkF m pc' Ls (.int v :: rest))) : own_Goal p e below Φ T (mkF m pc Ls rest) := by
  subst hp
  obtain ⟨locs, X, -, -, -, hx, hZ, hown, hby, -⟩ := X
  exact own_step (fun t a => X.ldcInt hx hown (mvT hZ w) (g := mkF m pc Ls rest) rfl (hb hby hd) t a) k
theorem own_ldcJ (X : own_St p l e R s m args below meth c Z own bytes ml rt nm n0 T h cells slots) {i : Nat} {v : Int64} (w : (Jvm.Cond.constantLong own i v).before a0 Z = true) (hd : decode bytes pc = .ok (.ldc2_w i, 3)) (hp : pc + 3 = pc') (k : own_Goal p e below Φ T (mkF m pc' Ls (.long v :: rest))) : own_Goal p e below Φ T (mkF m pc Ls rest) := by
  subst hp
  obtain ⟨locs, X, -, -, -, hx, hZ, hown, hby, -⟩ := X
  exact own_step (fun t a => X.ldc2Long hx hown (mvT hZ w) (g := mkF m pc Ls rest) rfl (hb hby hd) t a) k
theorem own_ldcD (X : own_St p l e R s m args below meth c Z own bytes ml rt nm n0 T h cells slots) {i : Nat} {v : UInt64} (w : (Jvm.Cond.constantDouble own i v).before a0 Z = true) (hd : decode bytes pc = .ok (.ldc2_w i, 3)) (hp : pc + 3 = pc') (k : own_Goal p e below Φ T (mkF m pc' Ls (.double v :: rest))) : own_Goal p e below Φ T (mkF m pc Ls rest) := by
  subst hp
  obtain ⟨locs, X, -, -, -, hx, hZ, hown, hby, -⟩ := X
  exact own_step (fun t a => X.ldc2DoubleC hx hown (mvT hZ w) (g := mkF m pc Ls rest) rfl (hb hby hd) t a) k
theorem own_retI (X : own_St p l e R s m args below meth c Z own bytes ml rt nm n0 T h cells slots) {v : Int32} (hd : decode bytes pc = .ok (.ireturn, 1)) (hr : rt = some .int) (hc : cells ≤ R.cells) (hs : slots ≤ R.slots) (q : Q (some (.int v)) h) : own_Goal p e below (own_Fin below s R n0 Q) T (mkF m pc Ls (.int v :: rest)) := by
  obtain ⟨locs, X, N, e1, n1, hx, hZ, hown, hby, -, hrt, hlk, -⟩ := X
  obtain ⟨fs, hl, hrun, hended, hW, hsame⟩ := X.leave (v := some (.int v)) (fun z => by rw [hrt, hr] at z; cases z) hlk
  exact ⟨_, _, retOut X hx (hrt.trans hr) rfl (Or.inl ⟨rfl, Or.inl rfl, _, rfl⟩) (hb hby hd) hl, hrun, hended, _, _, rfl, ⟨⟨by show Q _ T.heap; rw [e1]; exact q, by show n0 ≤ T.heap.size; rw [e1]; exact n1⟩, N⟩, ⟨_, rfl⟩, hW, hsame.mono hc hs⟩
theorem own_retJ (X : own_St p l e R s m args below meth c Z own bytes ml rt nm n0 T h cells slots) {v : Int64} (hd : decode bytes pc = .ok (.lreturn, 1)) (hr : rt = some .long) (hc : cells ≤ R.cells) (hs : slots ≤ R.slots) (q : Q (some (.long v)) h) : own_Goal p e below (own_Fin below s R n0 Q) T (mkF m pc Ls (.long v :: rest)) := by
  obtain ⟨locs, X, N, e1, n1, hx, hZ, hown, hby, -, hrt, hlk, -⟩ := X
  obtain ⟨fs, hl, hrun, hended, hW, hsame⟩ := X.leave (v := some (.long v)) (fun z => by rw [hrt, hr] at z; cases z) hlk
  exact ⟨_, _, retOut X hx (hrt.trans hr) rfl (Or.inr (Or.inl ⟨rfl, rfl, _, rfl⟩)) (hb hby hd) hl, hrun, hended, _, _, rfl, ⟨⟨by show Q _ T.heap; rw [e1]; exact q, by show n0 ≤ T.heap.size; rw [e1]; exact n1⟩, N⟩, ⟨_, rfl⟩, hW, hsame.mono hc hs⟩
theorem own_retD (X : own_St p l e R s m args below meth c Z own bytes ml rt nm n0 T h cells slots) {v : UInt64} (hd : decode bytes pc = .ok (.dreturn, 1)) (hr : rt = some .double) (hc : cells ≤ R.cells) (hs : slots ≤ R.slots) (q : Q (some (.double v)) h) : own_Goal p e below (own_Fin below s R n0 Q) T (mkF m pc Ls (.double v :: rest)) := by
  obtain ⟨locs, X, N, e1, n1, hx, hZ, hown, hby, -, hrt, hlk, -⟩ := X
  obtain ⟨fs, hl, hrun, hended, hW, hsame⟩ := X.leave (v := some (.double v)) (fun z => by rw [hrt, hr] at z; cases z) hlk
  exact ⟨_, _, retOut X hx (hrt.trans hr) rfl (Or.inr (Or.inr (Or.inl ⟨rfl, rfl, _, rfl⟩))) (hb hby hd) hl, hrun, hended, _, _, rfl, ⟨⟨by show Q _ T.heap; rw [e1]; exact q, by show n0 ≤ T.heap.size; rw [e1]; exact n1⟩, N⟩, ⟨_, rfl⟩, hW, hsame.mono hc hs⟩
theorem own_retZ (X : own_St p l e R s m args below meth c Z own bytes ml rt nm n0 T h cells slots) {v : Int32} (hv : v = 0 ∨ v = 1) (hd : decode bytes pc = .ok (.ireturn, 1)) (hr : rt = some .boolean) (hc : cells ≤ R.cells) (hs : slots ≤ R.slots) (q : Q (some (.int v)) h) : own_Goal p e below (own_Fin below s R n0 Q) T (mkF m pc Ls (.int v :: rest)) := by
  obtain ⟨locs, X, N, e1, n1, hx, hZ, hown, hby, -, hrt, hlk, -⟩ := X
  obtain ⟨fs, hl, hrun, hended, hW, hsame⟩ := X.leave (v := some (.int v)) (fun z => by rw [hrt, hr] at z; cases z) hlk
  have hn : nar .boolean v = v := by rcases hv with rfl | rfl <;> rfl
  exact ⟨_, _, retN X hx (t := .boolean) (hrt.trans hr) (by simp) (hb hby hd) (by rw [hn]; exact hl), hrun, hended, _, _, rfl, ⟨⟨by show Q _ T.heap; rw [e1]; exact q, by show n0 ≤ T.heap.size; rw [e1]; exact n1⟩, N⟩, ⟨_, rfl⟩, hW, hsame.mono hc hs⟩
theorem own_retA (X : own_St p l e R s m args below meth c Z own bytes ml rt nm n0 T h cells slots) {b : Addr} {t : FieldType} (ht : t.isReference = true) (hd : decode bytes pc = .ok (.areturn, 1)) (hr : rt = some t) (hc : cells ≤ R.cells) (hs : slots ≤ R.slots) (q : Q (some (.ref b)) h) : own_Goal p e below (own_Fin below s R n0 Q) T (mkF m pc Ls (.ref b :: rest)) := by
  obtain ⟨locs, X, N, e1, n1, hx, hZ, hown, hby, -, hrt, hlk, -⟩ := X
  obtain ⟨fs, hl, hrun, hended, hW, hsame⟩ := X.leave (v := some (.ref b)) (fun z => by rw [hrt, hr] at z; cases z) hlk
  have hn : narrow t (.ref b) = .ref b := by cases t <;> rfl
  exact ⟨_, _, retOut X hx (hrt.trans hr) hn (Or.inr (Or.inr (Or.inr (Or.inr ⟨rfl, ht, rfl⟩)))) (hb hby hd) hl, hrun, hended, _, _, rfl, ⟨⟨by show Q _ T.heap; rw [e1]; exact q, by show n0 ≤ T.heap.size; rw [e1]; exact n1⟩, N⟩, ⟨_, rfl⟩, hW, hsame.mono hc hs⟩
theorem own_retV (X : own_St p l e R s m args below meth c Z own bytes ml rt nm n0 T h cells slots) (hd : decode bytes pc = .ok (.return_, 1)) (hr : rt = none) (hc : cells ≤ R.cells) (hs : slots ≤ R.slots) (q : Q none h) : own_Goal p e below (own_Fin below s R n0 Q) T (mkF m pc Ls []) := by
  obtain ⟨locs, X, N, e1, n1, hx, hZ, hown, hby, -, hrt, hlk, -⟩ := X
  obtain ⟨fs, hl, hrun, hended, hW, hsame⟩ := X.leave (v := none) (fun _ => rfl) hlk
  exact ⟨_, _, X.returnOut hx (hrt.trans hr) (hb hby hd) hl, hrun, hended, _, _, rfl, ⟨⟨by show Q _ T.heap; rw [e1]; exact q, by show n0 ≤ T.heap.size; rw [e1]; exact n1⟩, N⟩, ⟨_, rfl⟩, hW, hsame.mono hc hs⟩
/-- an array and all it holds -/
def own_Vec (Z : State) (h : Heap) (a : Addr) (ty : FieldType) (vs : List Value) : Prop := ∃ c : Cell, Arr Z h a c ty ∧ c.slots = vs.toArray
theorem own_Vec.lt {a : Addr} {ty : FieldType} {vs : List Value} (F : own_Vec Z h a ty vs) : a < h.size := by obtain ⟨c, A, -⟩ := F; exact A.lt
theorem own_Vec.ext {h' : Heap} {a : Addr} {ty : FieldType} {vs : List Value} (F : own_Vec Z h a ty vs) (E : Ext h h') : own_Vec Z h' a ty vs := by obtain ⟨c, A, r⟩ := F; exact ⟨c, A.ext E, r⟩
theorem own_Vec.other {h' : Heap} {a b : Addr} {sl : Nat} {v : Value} {ty : FieldType} {vs : List Value} (F : own_Vec Z h b ty vs) (W : Wr h h' a sl v) (q : b ≠ a) : own_Vec Z h' b ty vs := by obtain ⟨c, A, r⟩ := F; exact ⟨c, A.other W q, r⟩
theorem own_Vec.keep {h' : Heap} {ws : List Addr} {a : Addr} {ty : FieldType} {vs : List Value} (F : own_Vec Z h a ty vs) (K : Keep h h' ws) (q : a ∉ ws) : own_Vec Z h' a ty vs := by obtain ⟨c, A, r⟩ := F; exact ⟨c, ⟨K.2.1 a c A.1 q, A.2⟩, r⟩
theorem own_Vec.set {h' : Heap} {a : Addr} {i : Nat} {v : Value} {ty : FieldType} {vs : List Value} (F : own_Vec Z h a ty vs) (W : Wr h h' a i v) : own_Vec Z h' a ty (vs.set i v) := by
  obtain ⟨c, A, r⟩ := F
  refine ⟨_, A.same W, ?_⟩
  show c.slots.setIfInBounds i v = _
  rw [r]; simp
theorem own_lt_ne {a b : Addr} (q : b < h.size) (g : a = h.size) : b ≠ a := by subst g; exact Nat.ne_of_lt q
/-- an index in an array, as the library's laws ask it -/
theorem own_in {n i : Nat} {j : Int32} (hj : j.toNatClampNeg = i) (h0 : ¬ j < 0) (hi : i < n) : ¬ (j < 0 ∨ n ≤ j.toNatClampNeg) := by
  rw [hj]; rintro (q | q)
  · exact h0 q
  · omega
theorem own_len (X : own_St p l e R s m args below meth c Z own bytes ml rt nm n0 T h cells slots) {a : Addr} {ty : FieldType} {vs : List Value} (F : own_Vec Z h a ty vs) {v : Int32} (hv : vs.length.toInt32 = v) (hd : decode bytes pc = .ok (.arraylength, 1)) (hp : pc + 1 = pc') (k : own_Goal p e below Φ T (mkF m pc' Ls (.int v :: rest))) : own_Goal p e below Φ T (mkF m pc Ls (.ref a :: rest)) := by
  subst hp
  obtain ⟨locs, X, N, e1, -, hx, hZ, hown, hby, -⟩ := X
  obtain ⟨cl, A, r⟩ := F
  have e2 : cl.slots.size.toInt32 = v := by rw [r]; simpa using hv
  exact own_step (fun t a => X.arraylength hx (cell := cl) (by rw [e1]; exact A.1) (State.isArrayOf_alike hZ.alike A.2.1) (g := mkF m pc Ls _) rfl rfl (hb hby hd) t (by rw [e2]; exact a)) k
theorem own_iaload (X : own_St p l e R s m args below meth c Z own bytes ml rt nm n0 T h cells slots) {a : Addr} {vs : List Value} (F : own_Vec Z h a .int vs) {j : Int32} {i : Nat} {v : Value} (hj : j.toNatClampNeg = i) (h0 : ¬ j < 0) (hv : vs[i]? = some v) (hd : decode bytes pc = .ok (.iaload, 1)) (hp : pc + 1 = pc') (k : own_Goal p e below Φ T (mkF m pc' Ls (v :: rest))) : own_Goal p e below Φ T (mkF m pc Ls (.int j :: .ref a :: rest)) := by
  subst hp
  obtain ⟨locs, X, N, e1, -, hx, hZ, hown, hby, -⟩ := X
  obtain ⟨cl, A, r⟩ := F
  have q1 : i < vs.length := (List.getElem?_eq_some_iff.mp hv).1
  exact own_step (fun t a => X.iaload hx (cell := cl) (by rw [e1]; exact A.1) (State.isArrayOf_alike hZ.alike A.2.1) A.2.2 (own_in hj h0 (by rw [r]; simpa using q1)) (by rw [hj, r]; simpa using hv) (g := mkF m pc Ls _) rfl rfl (hb hby hd) t a) k
theorem own_laload (X : own_St p l e R s m args below meth c Z own bytes ml rt nm n0 T h cells slots) {a : Addr} {vs : List Value} (F : own_Vec Z h a .long vs) {j : Int32} {i : Nat} {v : Value} (hj : j.toNatClampNeg = i) (h0 : ¬ j < 0) (hv : vs[i]? = some v) (hd : decode bytes pc = .ok (.laload, 1)) (hp : pc + 1 = pc') (k : own_Goal p e below Φ T (mkF m pc' Ls (v :: rest))) : own_Goal p e below Φ T (mkF m pc Ls (.int j :: .ref a :: rest)) := by
  subst hp
  obtain ⟨locs, X, N, e1, -, hx, hZ, hown, hby, -⟩ := X
  obtain ⟨cl, A, r⟩ := F
  have q1 : i < vs.length := (List.getElem?_eq_some_iff.mp hv).1
  exact own_step (fun t a => X.laload hx (cell := cl) (by rw [e1]; exact A.1) (State.isArrayOf_alike hZ.alike A.2.1) A.2.2 (own_in hj h0 (by rw [r]; simpa using q1)) (by rw [hj, r]; simpa using hv) (g := mkF m pc Ls _) rfl rfl (hb hby hd) t a) k
theorem own_daload (X : own_St p l e R s m args below meth c Z own bytes ml rt nm n0 T h cells slots) {a : Addr} {vs : List Value} (F : own_Vec Z h a .double vs) {j : Int32} {i : Nat} {v : Value} (hj : j.toNatClampNeg = i) (h0 : ¬ j < 0) (hv : vs[i]? = some v) (hd : decode bytes pc = .ok (.daload, 1)) (hp : pc + 1 = pc') (k : own_Goal p e below Φ T (mkF m pc' Ls (v :: rest))) : own_Goal p e below Φ T (mkF m pc Ls (.int j :: .ref a :: rest)) := by
  subst hp
  obtain ⟨locs, X, N, e1, -, hx, hZ, hown, hby, -⟩ := X
  obtain ⟨cl, A, r⟩ := F
  have q1 : i < vs.length := (List.getElem?_eq_some_iff.mp hv).1
  exact own_step (fun t a => X.daload hx (cell := cl) (by rw [e1]; exact A.1) (State.isArrayOf_alike hZ.alike A.2.1) A.2.2 (own_in hj h0 (by rw [r]; simpa using q1)) (by rw [hj, r]; simpa using hv) (g := mkF m pc Ls _) rfl rfl (hb hby hd) t a) k
theorem own_iastore (X : own_St p l e R s m args below meth c Z own bytes ml rt nm n0 T h cells slots) {a : Addr} {vs : List Value} (F : own_Vec Z h a .int vs) (ha : n0 ≤ a) {j : Int32} {i : Nat} {x : Int32} (hj : j.toNatClampNeg = i) (h0 : ¬ j < 0) (hi : i < vs.length) (hd : decode bytes pc = .ok (.iastore, 1)) (hp : pc + 1 = pc')
    (k : ∀ T' h', own_St p l e R s m args below meth c Z own bytes ml rt nm n0 T' h' cells slots → Wr h h' a i (.int x) → own_Vec Z h' a .int (vs.set i (.int x)) → own_Goal p e below Φ T' (mkF m pc' Ls rest)) : own_Goal p e below Φ T (mkF m pc Ls (.int x :: .int j :: .ref a :: rest)) := by
  subst hp
  obtain ⟨locs, X, N, e1, n1, hx, hZ, hown, hby, r0⟩ := X
  have F0 := F
  obtain ⟨cl, A, r⟩ := F
  obtain ⟨T', h', X', e', W, st⟩ := stI X hx hZ e1 A (own_in hj h0 (by rw [r]; simpa using hi)) (g := mkF m pc Ls _) rfl rfl (hb hby hd)
  have N' := Fr.snoc X' N ha
  rw [hj] at W
  exact own_step st (k T' h' ⟨_, X', N', e', by rw [W.size]; exact n1, hx, hZ, hown, hby, r0⟩ W (F0.set W))
theorem own_dastore (X : own_St p l e R s m args below meth c Z own bytes ml rt nm n0 T h cells slots) {a : Addr} {vs : List Value} (F : own_Vec Z h a .double vs) (ha : n0 ≤ a) {j : Int32} {i : Nat} {x : UInt64} (hj : j.toNatClampNeg = i) (h0 : ¬ j < 0) (hi : i < vs.length) (hd : decode bytes pc = .ok (.dastore, 1)) (hp : pc + 1 = pc')
    (k : ∀ T' h', own_St p l e R s m args below meth c Z own bytes ml rt nm n0 T' h' cells slots → Wr h h' a i (.double x) → own_Vec Z h' a .double (vs.set i (.double x)) → own_Goal p e below Φ T' (mkF m pc' Ls rest)) : own_Goal p e below Φ T (mkF m pc Ls (.double x :: .int j :: .ref a :: rest)) := by
  subst hp
  obtain ⟨locs, X, N, e1, n1, hx, hZ, hown, hby, r0⟩ := X
  have F0 := F
  obtain ⟨cl, A, r⟩ := F
  obtain ⟨T', h', X', e', W, st⟩ := stD X hx hZ e1 A (own_in hj h0 (by rw [r]; simpa using hi)) (g := mkF m pc Ls _) rfl rfl (hb hby hd)
  have N' := Fr.snoc X' N ha
  rw [hj] at W
  exact own_step st (k T' h' ⟨_, X', N', e', by rw [W.size]; exact n1, hx, hZ, hown, hby, r0⟩ W (F0.set W))
theorem own_newarray (X : own_St p l e R s m args below meth c Z own bytes ml rt nm n0 T h cells slots) {aty : ArrayType} {ty : FieldType} (hty : newarray.typeOf aty = ty) (w : (Jvm.Cond.arrayClass ty).before a0 Z = true) {j : Int32} {n : Nat} {vs : List Value} (hj : j.toNatClampNeg = n) (h0 : ¬ j < 0) (hn : n ≤ 1000) (hvs : List.replicate n (defaultValue ty) = vs) {cells' slots' : Nat} (hc' : cells + 1 = cells') (hs' : slots + n = slots') (hc : cells' ≤ R.cells) (hs : slots' ≤ R.slots) (hd : decode bytes pc = .ok (.newarray aty, 2)) (hp : pc + 2 = pc')
    (k : ∀ a T' h', a = h.size → n0 ≤ a → own_St p l e R s m args below meth c Z own bytes ml rt nm n0 T' h' cells' slots' → Ext h h' → own_Vec Z h' a ty vs → own_Goal p e below Φ T' (mkF m pc' Ls (.ref a :: rest))) : own_Goal p e below Φ T (mkF m pc Ls (.int j :: rest)) := by
  subst hp hty hvs hc' hs'
  obtain ⟨locs, X, N, e1, n1, hx, hZ, hown, hby, r0⟩ := X
  obtain ⟨T', h', cA, X', e', E, A, st⟩ := newP X hx hZ w e1 (g := mkF m pc Ls _) rfl (hb hby hd) rfl h0 (cap := n) (by omega) (by omega) hc hs
  refine own_step st (k _ T' h' rfl n1 ⟨_, X', N, e', Nat.le_trans n1 E.1, hx, hZ, hown, hby, r0⟩ E ⟨_, A, ?_⟩)
  simp [newA, hj]
theorem own_new (X : own_St p l e R s m args below meth c Z own bytes ml rt nm n0 T h cells slots) {i : Nat} {C : String} {n : Nat} (w : (Jvm.Cond.classLink own i C).before a0 Z = true) (wi : (Jvm.Cond.instantiable C n).before a0 Z = true) (wz : (Jvm.Cond.initialized C).before a0 Z = true) {cells' slots' : Nat} (hc' : cells + 1 = cells') (hs' : slots + n = slots') (hc : cells' ≤ R.cells) (hs : slots' ≤ R.slots) (hd : decode bytes pc = .ok (.new i, 3)) (hp : pc + 3 = pc')
    (k : ∀ a T' h', a = h.size → n0 ≤ a → own_St p l e R s m args below meth c Z own bytes ml rt nm n0 T' h' cells' slots' → Ext h h' → Exa Z h' a C → (∀ {O nm d : String} {ty : FieldType}, Laid Z a0 C O nm d → parseFieldDescriptor d = some ty → Fld Z h' a O nm d (defaultValue ty)) → own_Goal p e below Φ T' (mkF m pc' Ls (.ref a :: rest))) : own_Goal p e below Φ T (mkF m pc Ls rest) := by
  subst hp hc' hs'
  obtain ⟨locs, X, N, e1, n1, hx, hZ, hown, hby, r0⟩ := X
  obtain ⟨T', h', X', e', E, A, D, -, st⟩ := newO X hx hZ hown w wi wz e1 (g := mkF m pc Ls _) rfl (hb hby hd) hc hs
  exact own_step st (k _ T' h' rfl n1 ⟨_, X', N, e', Nat.le_trans n1 E.1, hx, hZ, hown, hby, r0⟩ E A D)
theorem own_getF (X : own_St p l e R s m args below meth c Z own bytes ml rt nm n0 T h cells slots) {i : Nat} {O n d : String} (w : (Jvm.Cond.fieldLink own i O n d).before a0 Z = true) {a : Addr} {v : Value} (F : Fld Z h a O n d v) (hd : decode bytes pc = .ok (.getfield i, 3)) (hp : pc + 3 = pc')
    (k : ∀ T', own_St p l e R s m args below meth c Z own bytes ml rt nm n0 T' h cells slots → own_Goal p e below Φ T' (mkF m pc' Ls (v :: rest))) : own_Goal p e below Φ T (mkF m pc Ls (.ref a :: rest)) := by
  subst hp
  obtain ⟨locs, X, N, e1, n1, hx, hZ, hown, hby, r0⟩ := X
  obtain ⟨T', X', e', st⟩ := getF X hx hZ hown (host := "") (Or.inl w) Via.refl e1 F (g := mkF m pc Ls _) rfl rfl (hb hby hd)
  exact own_step st (k T' ⟨_, X', N, e', n1, hx, hZ, hown, hby, r0⟩)
theorem own_putF (X : own_St p l e R s m args below meth c Z own bytes ml rt nm n0 T h cells slots) {i : Nat} {O n d C : String} {kk : Nat} {ty : FieldType} (w : (Jvm.Cond.fieldLink own i O n d).before a0 Z = true) {a : Addr} {v old : Value} (F : Fld Z h a O n d old) (E : Exa Z h a C) (L : (Jvm.Cond.lays C O n d).before a0 Z = true ∨ ((Jvm.Cond.laysFinal C O n d).before a0 Z = true ∧ own = O ∧ nm = "<init>")) (wi : (Jvm.Cond.instantiable C kk).before a0 Z = true) (hty : parseFieldDescriptor d = some ty) (hn : narrow ty v = v) (hf : fits ty v = true) (ha : n0 ≤ a) (hd : decode bytes pc = .ok (.putfield i, 3)) (hp : pc + 3 = pc')
    (k : ∀ T' h', own_St p l e R s m args below meth c Z own bytes ml rt nm n0 T' h' cells slots → Wr h h' a (RoadKit.slotOf Z O n d) v → own_Goal p e below Φ T' (mkF m pc' Ls rest)) : own_Goal p e below Φ T (mkF m pc Ls (v :: .ref a :: rest)) := by
  subst hp
  obtain ⟨locs, X, N, e1, n1, hx, hZ, hown, hby, q1, q2, q3, q4⟩ := X
  obtain ⟨T', h', X', e', W, st⟩ := putF X hx hZ hown (host := "") (Or.inl w) Via.refl e1 F E (L.imp id fun z => ⟨z.1, z.2.1, q4.trans z.2.2⟩) wi hty hn hf (g := mkF m pc Ls _) rfl rfl (hb hby hd)
  exact own_step st (k T' h' ⟨_, X', Fr.snoc X' N ha, e', by rw [W.size]; exact n1, hx, hZ, hown, hby, q1, q2, q3, q4⟩ W)
theorem own_initO (X : own_St p l e R s m args below meth c Z own bytes ml rt nm n0 T h cells slots) {i : Nat} (w1 : (Jvm.Cond.methodLink own i Lib.objectInit).before a0 Z = true) (w2 : (Jvm.Cond.instanceMethod Lib.objectInit).before a0 Z = true) (w3 : (Jvm.Cond.code Lib.objectInit ⟨#[0xb1]⟩ 1 none).before a0 Z = true) {a : Addr} (hsz : Ls.size = ml) (hf : 1 ≤ R.frames) {W : Nat} (hW : (rest.map fun v => v.category).sum ≤ W) (hl : W + 12 ≤ R.locals) (hd : decode bytes pc = .ok (.invokespecial i, 3)) (hp : pc + 3 = pc')
    (k : ∀ T', own_St p l e R s m args below meth c Z own bytes ml rt nm n0 T' h cells slots → own_Goal p e below Φ T' (mkF m pc' Ls rest)) : own_Goal p e below Φ T (mkF m pc Ls (.ref a :: rest)) := by
  subst hp
  obtain ⟨locs, X, N, e1, n1, hx, hZ, hown, hby, hml, r0⟩ := X
  obtain ⟨T', X', e', st⟩ := initO X hx hZ hown w1 w2 w3 e1 (g := mkF m pc Ls (.ref a :: rest)) (rest := rest) rfl (hsz.trans hml.symm) rfl (hb hby hd) hf (W := W) (by show 2 * 0 + _ ≤ _; omega) hl
  exact own_step st (k T' ⟨_, X', N, e', n1, hx, hZ, hown, hby, hml, r0⟩)
/-- a callee's contract: called with as' over the heap h0 it returns, and Q says what it leaves -/
def own_Met (l : Launch) (Z : State) (y : MethodName) (bytes : ByteArray) (ml : Nat) (rt : Option FieldType) (ws : List Jvm.Cond) (rm : Room) (as' : Array Value) (h0 : Heap) (n0 : Nat) (Q : Option Value → Heap → Prop) : Prop :=
  MetFree l y (head1 (Jvm.Cond.code y bytes ml rt :: ws) rm) (fun a U => a = as' ∧ Z.Warmed39 U.vm ∧ U.heap = h0) (fun _ _ _ _ _ => True) (fun _ U o U' => ∃ v L, o = .returned v ∧ ((Q v U'.heap ∧ n0 ≤ U'.heap.size) ∧ Fr n0 L) ∧ FrameEnd U o U' L rm.cells rm.slots)
theorem own_meet {y : MethodName} {ws : List Jvm.Cond} {rm : Room} {as' : Array Value} {h0 : Heap} (hpn : plainFor y = true) (hle : n0 ≤ h0.size) {Ls0 : Array Slot} (hef : ∀ m, entryFrame m as' ml = mkF m 0 Ls0 [])
    (body : ∀ (p : Program) (e : Env) (s : State) (m : MethodId) (below : List Frame) (meth : Method) (c : Code) (T : State), own_St p l e rm s m as' below meth c Z y.cls bytes ml rt y.name n0 T h0 0 0 → own_Goal p e below (own_Fin below s rm n0 Q) T (mkF m 0 Ls0 [])) : own_Met l Z y bytes ml rt ws rm as' h0 n0 Q := by
  refine MetFree.of_bodySF hpn hisR ?_
  intro p e s m args below meth c s₁ Bd hml0 hP hK
  obtain ⟨rfl, hZ, hh⟩ := hP
  have e0 : s₁.heap = h0 := by rw [← hh, Bd.state]; rfl
  obtain ⟨s2, o, st, r1, r2, r3⟩ := body p e s m below meth c s₁ ⟨[], Stand.of_body Bd, Fr.nil n0, e0, hle, Bd.exec, hZ, findClass_of_methodNamed Bd.named, Bd.bytes, hml0, Bd.returns, Bd.notSynchronized, (name_of_methodNamed Bd.named Bd.method).1⟩
  exact ⟨s2, o, castTop (hef m) st, r1, r2, r3⟩
theorem own_callS (X : own_St p l e R s m args below meth c Z own bytes ml rt nm n0 T h cells slots) {y : MethodName} {yb : ByteArray} {yl : Nat} {yr : Option FieldType} {rm : Room} {as' : Array Value} {Q' : Option Value → Heap → Prop} (M : own_Met l Z y yb yl yr [] rm as' h n0 Q') {i : Nat} (w1 : (Jvm.Cond.methodLink own i y).before a0 Z = true) (w2 : (Jvm.Cond.static y).before a0 Z = true) (w3 : (Jvm.Cond.initialized y.cls).before a0 Z = true) (w4 : (Jvm.Cond.code y yb yl yr).before a0 Z = true) (hy : y.cls ≠ "java/lang/invoke/MethodHandle" ∧ y.cls ≠ "java/lang/invoke/VarHandle") (hsz : Ls.size = ml) (hf : rm.frames + 1 ≤ R.frames) {W : Nat} (hW : (rest.map fun v => v.category).sum ≤ W) (hl : W + (yl + 11) + rm.locals ≤ R.locals) {cells' slots' : Nat} (hc' : cells + rm.cells = cells') (hs' : slots + rm.slots = slots') (hc : cells' ≤ R.cells) (hs : slots' ≤ R.slots) {argsL stk : List Value} (hlen : ∀ sig, parseMethodDescriptor y.desc = some sig → argsL.length = sig.parameters.length) (hst : stk = argsL.reverse ++ rest) (has : argsL.toArray = as') (hd : decode bytes pc = .ok (.invokestatic i, 3)) (hp : pc + 3 = pc')
    (k : ∀ v T' h', own_St p l e R s m args below meth c Z own bytes ml rt nm n0 T' h' cells' slots' → Q' v h' → own_Goal p e below Φ T' (mkF m pc' Ls (v.toList ++ rest))) : own_Goal p e below Φ T (mkF m pc Ls stk) := by
  subst hp hst has hc' hs'
  obtain ⟨locs, X, N, e1, n1, hx, hZ, hown, hby, hml, r0⟩ := X
  obtain ⟨v, vm1, ⟨T', L', k', n'⟩, -, X', ⟨Lc, ⟨⟨hQ, hG⟩, NL⟩, l1, y1, z1⟩, st⟩ := Jvm.LawKit.callS X hx (y := y) hown (mvT hZ w1) (mvT hZ w2) (mvT hZ w3) (mvT hZ w4) hy (backOf (W := W) (Q := fun v hh L => (Q' v hh ∧ n0 ≤ hh.size) ∧ Fr n0 L) M hZ w4 w3 hf hl) (g := mkF m pc Ls (argsL.reverse ++ rest)) rfl (hsz.trans hml.symm) (argsL := argsL) (rest := rest) hlen rfl (by show 2 * 0 + _ ≤ _; omega) (hb hby hd) (fun _ _ => ⟨rfl, e1, hc, hs⟩)
  dsimp only [Pt.U, Pt.locs, Pt.cells, Pt.slots] at X' l1 y1 z1 st hQ
  subst l1 y1 z1
  exact own_step st (k v T' _ ⟨_, X', Fr.app N NL, rfl, hG, hx, hZ, hown, hby, hml, r0⟩ hQ)
theorem own_special (X : own_St p l e R s m args below meth c Z own bytes ml rt nm n0 T h cells slots) {y : MethodName} {yb : ByteArray} {yl : Nat} {yr : Option FieldType} {rm : Room} {as' : Array Value} {Q' : Option Value → Heap → Prop} (M : own_Met l Z y yb yl yr [] rm as' h n0 Q') (hy1 : y.name = "<init>") (hyr : yr = none) {i : Nat} (w1 : (Jvm.Cond.methodLink own i y).before a0 Z = true) (w2 : (Jvm.Cond.instanceMethod y).before a0 Z = true) (w3 : (Jvm.Cond.initialized y.cls).before a0 Z = true) (w4 : (Jvm.Cond.code y yb yl yr).before a0 Z = true) (hy : y.cls ≠ "java/lang/invoke/MethodHandle" ∧ y.cls ≠ "java/lang/invoke/VarHandle") (hsz : Ls.size = ml) (hf : rm.frames + 1 ≤ R.frames) {W : Nat} (hW : (rest.map fun v => v.category).sum ≤ W) (hl : W + (yl + 11) + rm.locals ≤ R.locals) {cells' slots' : Nat} (hc' : cells + rm.cells = cells') (hs' : slots + rm.slots = slots') (hc : cells' ≤ R.cells) (hs : slots' ≤ R.slots) {a : Addr} {argsL stk : List Value} (hlen : ∀ sig, parseMethodDescriptor y.desc = some sig → argsL.length = sig.parameters.length) (hst : stk = argsL.reverse ++ .ref a :: rest) (has : (.ref a :: argsL).toArray = as') (hd : decode bytes pc = .ok (.invokespecial i, 3)) (hp : pc + 3 = pc')
    (k : ∀ v T' h', own_St p l e R s m args below meth c Z own bytes ml rt nm n0 T' h' cells' slots' → Q' v h' → own_Goal p e below Φ T' (mkF m pc' Ls (v.toList ++ rest))) : own_Goal p e below Φ T (mkF m pc Ls stk) := by
  subst hp hst has hc' hs' hyr
  obtain ⟨locs, X, N, e1, n1, hx, hZ, hown, hby, hml, r0⟩ := X
  obtain ⟨v, vm1, ⟨T', L', k', n'⟩, -, X', ⟨Lc, ⟨⟨hQ, hG⟩, NL⟩, l1, y1, z1⟩, st⟩ := X.specialBack hx (y := y) hy1 hown (mvT hZ w1) (mvT hZ w2) (mvT hZ w4) hy (backOf (W := W) (Q := fun v hh L => (Q' v hh ∧ n0 ≤ hh.size) ∧ Fr n0 L) M hZ w4 w3 hf hl) (g := mkF m pc Ls (argsL.reverse ++ .ref a :: rest)) rfl (hsz.trans hml.symm) (Steps.refl _) (a := a) (argsL := argsL) (rest := rest) hlen rfl (by show 2 * 0 + _ ≤ _; omega) (hb hby hd) (fun _ _ => ⟨rfl, e1, hc, hs⟩)
  dsimp only [Pt.U, Pt.locs, Pt.cells, Pt.slots] at X' l1 y1 z1 st hQ
  subst l1 y1 z1
  exact own_step (fun t b => st.trans b) (k v T' _ ⟨_, X', Fr.app N NL, rfl, hG, hx, hZ, hown, hby, hml, r0⟩ hQ)
theorem own_virtual (X : own_St p l e R s m args below meth c Z own bytes ml rt nm n0 T h cells slots) {y : MethodName} {yb : ByteArray} {yl : Nat} {yr : Option FieldType} {rm : Room} {as' : Array Value} {Q' : Option Value → Heap → Prop} (M : own_Met l Z y yb yl yr [] rm as' h n0 Q') {C : String} {z : MethodName} {i : Nat} (hz : y = z) (w1 : (Jvm.Cond.methodLink own i z).before a0 Z = true) (wd : (Jvm.Cond.declares z).before a0 Z = true) (wsl : (Jvm.Cond.selects C z y).before a0 Z = true) (w2 : (Jvm.Cond.instanceMethod y).before a0 Z = true) (w3 : (Jvm.Cond.initialized y.cls).before a0 Z = true) (w4 : (Jvm.Cond.code y yb yl yr).before a0 Z = true) (hy : y.cls ≠ "java/lang/invoke/MethodHandle" ∧ y.cls ≠ "java/lang/invoke/VarHandle") (hsz : Ls.size = ml) (hf : rm.frames + 1 ≤ R.frames) {W : Nat} (hW : (rest.map fun v => v.category).sum ≤ W) (hl : W + (yl + 11) + rm.locals ≤ R.locals) {cells' slots' : Nat} (hc' : cells + rm.cells = cells') (hs' : slots + rm.slots = slots') (hc : cells' ≤ R.cells) (hs : slots' ≤ R.slots) {a : Addr} (E : Exa Z h a C) {argsL stk : List Value} (hlen : ∀ sig, parseMethodDescriptor y.desc = some sig → argsL.length = sig.parameters.length) (hst : stk = argsL.reverse ++ .ref a :: rest) (has : (.ref a :: argsL).toArray = as') (hd : decode bytes pc = .ok (.invokevirtual i, 3)) (hp : pc + 3 = pc')
    (k : ∀ v T' h', own_St p l e R s m args below meth c Z own bytes ml rt nm n0 T' h' cells' slots' → Q' v h' → own_Goal p e below Φ T' (mkF m pc' Ls (v.toList ++ rest))) : own_Goal p e below Φ T (mkF m pc Ls stk) := by
  subst hp hst has hc' hs' hz
  obtain ⟨locs, X, N, e1, n1, hx, hZ, hown, hby, hml, r0⟩ := X
  obtain ⟨cq, kq, qa, qb, qc⟩ := isOf (T := T) hZ e1 E
  obtain ⟨v, vm1, ⟨T', L', k', n'⟩, -, X', ⟨Lc, ⟨⟨hQ, hG⟩, NL⟩, l1, y1, z1⟩, st⟩ := X.virtualBack hx (y := y) (z := y) hown (mvT hZ w1) (mvT hZ wd) (notFace_of_selects (args := #[]) (mvT hZ wsl)) (mvT hZ wsl) (mvT hZ w2) hy (backOf (W := W) (Q := fun v hh L => (Q' v hh ∧ n0 ≤ hh.size) ∧ Fr n0 L) M hZ w4 w3 hf hl) qa qc (g := mkF m pc Ls (argsL.reverse ++ .ref a :: rest)) rfl (hsz.trans hml.symm) (Steps.refl _) (argsL := argsL) (rest := rest) hlen rfl (by show 2 * 0 + _ ≤ _; omega) (hb hby hd) (fun _ _ => ⟨rfl, e1, hc, hs⟩)
  dsimp only [Pt.U, Pt.locs, Pt.cells, Pt.slots] at X' l1 y1 z1 st hQ
  subst l1 y1 z1
  exact own_step (fun t b => st.trans b) (k v T' _ ⟨_, X', Fr.app N NL, rfl, hG, hx, hZ, hown, hby, hml, r0⟩ hQ)
end OwnWalk
section OwnNum
open Jvm.FP Jvm.FP.Core
/-- the int x is the whole number i, at most B in size -/
def own_I (B : Nat) (i : Int) (x : Int32) : Prop := x.toInt = i ∧ i.natAbs ≤ B
def own_L (B : Nat) (i : Int) (x : Int64) : Prop := x.toInt = i ∧ i.natAbs ≤ B
section
variable {A B C M : Nat} {i j : Int}
theorem own_I.start (x : Int32) : own_I 2147483648 x.toInt x := by
  have := x.toInt_lt; have := x.le_toInt
  exact ⟨rfl, by omega⟩
theorem own_L.start (x : Int64) : own_L 9223372036854775808 x.toInt x := by
  have := x.toInt_lt; have := x.le_toInt
  exact ⟨rfl, by omega⟩
theorem own_I.lit {x : Int32} (h : x.toInt = i) (hB : i.natAbs ≤ B) : own_I B i x := ⟨h, hB⟩
theorem own_I.self {x : Int32} (a : own_I A i x) : own_I A x.toInt x := ⟨rfl, by rw [a.1]; exact a.2⟩
theorem own_L.self {x : Int64} (a : own_L A i x) : own_L A x.toInt x := ⟨rfl, by rw [a.1]; exact a.2⟩
theorem own_L.lit {x : Int64} (h : x.toInt = i) (hB : i.natAbs ≤ B) : own_L B i x := ⟨h, hB⟩
theorem own_abs_mul {i j : Int} (h1 : i.natAbs ≤ A) (h2 : j.natAbs ≤ B) : (i * j).natAbs ≤ A * B := by
  rw [Int.natAbs_mul]; exact Nat.mul_le_mul h1 h2
theorem own_I.add {x y v : Int32} (a : own_I A i x) (b : own_I B j y) (hv : x + y = v) (hC : A + B ≤ C) (h : C < 2147483648) : own_I C (i + j) v := by
  obtain ⟨rfl, h1⟩ := a; obtain ⟨rfl, h2⟩ := b; subst hv
  refine ⟨?_, by omega⟩
  rw [Int32.toInt_add]; exact Int.bmod_eq_of_le (by omega) (by omega)
theorem own_I.sub {x y v : Int32} (a : own_I A i x) (b : own_I B j y) (hv : x - y = v) (hC : A + B ≤ C) (h : C < 2147483648) : own_I C (i - j) v := by
  obtain ⟨rfl, h1⟩ := a; obtain ⟨rfl, h2⟩ := b; subst hv
  refine ⟨?_, by omega⟩
  rw [Int32.toInt_sub]; exact Int.bmod_eq_of_le (by omega) (by omega)
theorem own_I.mul {x y v : Int32} (a : own_I A i x) (b : own_I B j y) (hv : x * y = v) (hC : A * B ≤ C) (h : C < 2147483648) : own_I C (i * j) v := by
  obtain ⟨rfl, h1⟩ := a; obtain ⟨rfl, h2⟩ := b; subst hv
  have h3 := Nat.le_trans (own_abs_mul h1 h2) hC
  refine ⟨?_, h3⟩
  rw [Int32.toInt_mul]; exact Int.bmod_eq_of_le (by omega) (by omega)
theorem own_I.neg {x v : Int32} (a : own_I A i x) (hv : -x = v) (h : A < 2147483648) : own_I A (-i) v := by
  obtain ⟨rfl, h1⟩ := a; subst hv
  refine ⟨?_, by omega⟩
  rw [Int32.toInt_neg]; exact Int.bmod_eq_of_le (by omega) (by omega)
theorem own_and_nn {x m v : Int32} (hv : x &&& m = v) (hm : m.toInt = M) : 0 ≤ v.toInt ∧ v.toInt ≤ M := by
  subst hv; have := c_and x m (by omega); omega
theorem own_I.and {x m v : Int32} (hv : x &&& m = v) (hm : m.toInt = M) : own_I M v.toInt v := by
  have := own_and_nn hv hm
  exact ⟨rfl, by omega⟩
theorem own_land_nn {x m v : Int64} (hv : x &&& m = v) (hm : m.toInt = M) : 0 ≤ v.toInt ∧ v.toInt ≤ M := by
  subst hv
  have h1 := (c_andSL x m).2.2 (by omega)
  refine ⟨h1, ?_⟩
  have la := x.toBitVec.isLt; have lm := m.toBitVec.isLt
  have q : (x &&& m).toBitVec.toNat = x.toBitVec.toNat &&& m.toBitVec.toNat := by show (x.toBitVec &&& m.toBitVec).toNat = _; rw [BitVec.toNat_and]
  have q2 : x.toBitVec.toNat &&& m.toBitVec.toNat ≤ m.toBitVec.toNat := Nat.and_le_right
  change 0 ≤ (x &&& m).toBitVec.toInt at h1
  show (x &&& m).toBitVec.toInt ≤ _
  change m.toBitVec.toInt = _ at hm
  rw [BitVec.toInt_eq_toNat_cond] at h1 hm ⊢
  rw [q] at h1 ⊢
  split at hm <;> split <;> omega
theorem own_L.and {x m v : Int64} (hv : x &&& m = v) (hm : m.toInt = M) : own_L M v.toInt v := by
  have := own_land_nn hv hm
  exact ⟨rfl, by omega⟩
theorem own_lrem_eq {x y v : Int64} (hv : x - (x / y) * y = v) (hx : 0 ≤ x.toInt) (hy : 0 < y.toInt) : v.toInt = x.toInt % y.toInt := by
  subst hv; exact (c_lrem x y _ rfl).1 hx
theorem own_I.shr {x q v : Int32} {k : Nat} (hv : x >>> (q &&& 31) = v) (hk : q.toBitVec.toNat % 32 = k) (hM : 2147483648 ≤ M * 2 ^ k) : own_I M v.toInt v := by
  subst hv
  have h1 := c_ishr x q k hk
  have h2 := x.toInt_lt; have h3 := x.le_toInt
  refine ⟨rfl, ?_⟩
  rw [h1]
  have p : 0 < 2 ^ k := Nat.two_pow_pos k
  generalize 2 ^ k = P at *
  have hP : (0 : Int) < (P : Int) := by omega
  have e1 : x.toInt / (P : Int) ≤ M := by
    refine Int.ediv_le_of_le_mul hP ?_
    have : ((M * P : Nat) : Int) = (M : Int) * P := Int.natCast_mul ..
    omega
  have e2 : -(M : Int) ≤ x.toInt / (P : Int) := by
    refine (Int.le_ediv_iff_mul_le hP).mpr ?_
    have : ((M * P : Nat) : Int) = (M : Int) * P := Int.natCast_mul ..
    rw [Int.neg_mul]; omega
  omega
theorem own_L.ofI {x : Int32} {v : Int64} (a : own_I A i x) (hv : x.toInt64 = v) : own_L A i v := by
  obtain ⟨rfl, h1⟩ := a; subst hv
  exact ⟨Int32.toInt_toInt64 x, h1⟩
theorem own_L.add {x y v : Int64} (a : own_L A i x) (b : own_L B j y) (hv : x + y = v) (hC : A + B ≤ C) (h : C < 9223372036854775808) : own_L C (i + j) v := by
  obtain ⟨rfl, h1⟩ := a; obtain ⟨rfl, h2⟩ := b; subst hv
  refine ⟨?_, by omega⟩
  rw [Int64.toInt_add]; exact Int.bmod_eq_of_le (by omega) (by omega)
theorem own_L.sub {x y v : Int64} (a : own_L A i x) (b : own_L B j y) (hv : x - y = v) (hC : A + B ≤ C) (h : C < 9223372036854775808) : own_L C (i - j) v := by
  obtain ⟨rfl, h1⟩ := a; obtain ⟨rfl, h2⟩ := b; subst hv
  refine ⟨?_, by omega⟩
  rw [Int64.toInt_sub]; exact Int.bmod_eq_of_le (by omega) (by omega)
theorem own_L.mul {x y v : Int64} (a : own_L A i x) (b : own_L B j y) (hv : x * y = v) (hC : A * B ≤ C) (h : C < 9223372036854775808) : own_L C (i * j) v := by
  obtain ⟨rfl, h1⟩ := a; obtain ⟨rfl, h2⟩ := b; subst hv
  have h3 := Nat.le_trans (own_abs_mul h1 h2) hC
  refine ⟨?_, h3⟩
  rw [Int64.toInt_mul]; exact Int.bmod_eq_of_le (by omega) (by omega)
theorem own_L.neg {x v : Int64} (a : own_L A i x) (hv : -x = v) (h : A < 9223372036854775808) : own_L A (-i) v := by
  obtain ⟨rfl, h1⟩ := a; subst hv
  refine ⟨?_, by omega⟩
  rw [Int64.toInt_neg]; exact Int.bmod_eq_of_le (by omega) (by omega)
end
/-- a datum times 2^k -/
def own_sh (k : Int) : Datum → Datum
  | .fin s c q => .fin s c (q + k)
  | d => d
theorem own_sh_sum (k : Int) (x y : Datum) : exactSum (own_sh k x) (own_sh k y) = own_sh k (exactSum x y) := by
  cases x with
  | nan => rfl
  | inf s => cases y with
    | nan => rfl
    | inf t => by_cases h : s = t <;> simp [own_sh, exactSum, h]
    | fin t d r => rfl
  | fin s c q => cases y with
    | nan => rfl
    | inf t => rfl
    | fin t d r =>
      have e1 : min (q + k) (r + k) = min q r + k := by omega
      have e2 : sumUnits s c (q + k) t d (r + k) (min q r + k) = sumUnits s c q t d r (min q r) := by
        unfold sumUnits inUnits
        rw [show q + k - (min q r + k) = q - min q r by omega, show r + k - (min q r + k) = r - min q r by omega]
      simp only [own_sh, exactSum, e1, e2]
theorem own_sh_prod (k r : Int) (x y : Datum) : exactProduct (own_sh k x) (own_sh r y) = own_sh (k + r) (exactProduct x y) := by
  cases x with
  | nan => rfl
  | inf s => cases y with
    | nan => rfl
    | inf t => rfl
    | fin t d u => simp only [own_sh, exactProduct]; split <;> rfl
  | fin s c q => cases y with
    | nan => rfl
    | inf t => simp only [own_sh, exactProduct]; split <;> rfl
    | fin t d u =>
      simp only [own_sh, exactProduct]
      rw [show q + k + (u + r) = q + u + (k + r) by omega]
theorem own_sh_neg (k : Int) (x : Datum) : negate (own_sh k x) = own_sh k (negate x) := by cases x <;> rfl
theorem own_sh_order (k : Int) (x y : Datum) : order (own_sh k x) (own_sh k y) = order x y := by
  cases x <;> cases y <;> try rfl
  rename_i s c q t d r
  simp only [own_sh, order]
  rw [show min (q + k) (r + k) = min q r + k by omega]
  unfold inUnits
  rw [show q + k - (min q r + k) = q - min q r by omega, show r + k - (min q r + k) = r - min q r by omega]
theorem own_sh_sh (k r : Int) (x : Datum) : own_sh r (own_sh k x) = own_sh (k + r) x := by
  cases x <;> simp only [own_sh]
  rw [Int.add_assoc]
theorem own_sh_zero (x : Datum) : own_sh 0 x = x := by cases x <;> simp [own_sh]
theorem own_signed_nat {i : Int} {s : Bool} {n : Nat} (h : n = i.natAbs) (hs : i ≠ 0 → s = decide (i < 0)) : signed s n = i := by
  by_cases h0 : i = 0
  · subst h0; subst h; exact signed_zero s
  · rw [hs h0, h]; unfold signed
    by_cases q : i < 0 <;> simp [q] <;> omega
/-- what is i * 2^-k in size rounds to itself, if i has 53 digits at the most -/
theorem own_round_core {k : Nat} {i : Int} {s : Bool} {c : Nat} {q : Int} (hk : k ≤ 1074) (hi : i.natAbs < 9007199254740992) (hs : i ≠ 0 → s = decide (i < 0)) : Whole i (own_sh k (roundRatio b64 s i.natAbs 1 (-(k : Int)))) := by
  obtain ⟨c', q', e1, e2⟩ := round_exact good_b64 s (c := i.natAbs) (q := -(k : Int)) (show i.natAbs < 2 ^ 53 by omega) (show (-1074 : Int) ≤ _ by omega) (show _ ≤ (971 : Int) by omega)
  have e3 : roundRatio b64 s i.natAbs 1 (-(k : Int)) = .fin s c' q' := e1
  have hf : Core.fits b64 (.fin s c' q') := by rw [← e1]; exact round_fits good_b64 _
  have hq : (-1074 : Int) ≤ q' := hf.2.1
  rw [e3]
  show signed s (c' * 2 ^ (q' + k).toNat) = i * ((2 ^ (-(q' + k)).toNat : Nat) : Int)
  have e4 : c' * 2 ^ (q' + 1074).toNat = i.natAbs * 2 ^ (1074 - k) := by
    have := e2
    unfold inUnits at this
    rw [show (q' - b64.qmin).toNat = (q' + 1074).toNat by rw [show b64.qmin = -1074 from rfl]; omega, show (-(k : Int) - b64.qmin).toNat = 1074 - k by rw [show b64.qmin = -1074 from rfl]; omega] at this
    exact this
  have e5 : c' * 2 ^ (q' + k).toNat = i.natAbs * 2 ^ (-(q' + k)).toNat := by
    refine Nat.eq_of_mul_eq_mul_right (Nat.two_pow_pos (1074 - k)) ?_
    have x1 : c' * 2 ^ (q' + k).toNat * 2 ^ (1074 - k) = c' * 2 ^ (q' + 1074).toNat * 2 ^ (-(q' + k)).toNat := by
      rw [Nat.mul_assoc, Nat.mul_assoc, ← Nat.pow_add, ← Nat.pow_add]; congr 2; omega
    rw [x1, e4, Nat.mul_right_comm]
  rw [e5, signed_mul, own_signed_nat rfl hs]
theorem own_round {k : Nat} {i : Int} {d : Datum} (hk : k ≤ 1074) (hi : i.natAbs < 9007199254740992) (h : Whole i (own_sh k d)) : Whole i (own_sh k (round b64 d)) := by
  cases d with
  | nan => exact h.elim
  | inf => exact h.elim
  | fin s c q =>
    have h1 : c * 2 ^ (q + k).toNat = i.natAbs * 2 ^ (-(q + k)).toNat := whole_natAbs h
    have e : round b64 (.fin s c q) = roundRatio b64 s i.natAbs 1 (-(k : Int)) := by
      refine roundRatio_congr (by decide) (by decide) ?_
      rw [show (q - -(k : Int)).toNat = (q + k).toNat by omega, show (-(k : Int) - q).toNat = (-(q + k)).toNat by omega]
      simpa using h1
    rw [e]
    exact own_round_core (c := c) (q := q) hk hi (fun h0 => whole_sign h h0)
/-- the double x is i * 2^-k, i at most B in size (both zeros are 0) -/
def own_D (k B : Nat) (i : Int) (x : UInt64) : Prop := Whole i (own_sh k (val64 x)) ∧ i.natAbs ≤ B
section
variable {k r t A B C : Nat} {i j : Int} {x y v : UInt64}
theorem own_D.fin (a : own_D k A i x) : ∃ s c q, val64 x = .fin s c q := by
  cases e : val64 x with
  | nan => have := a.1; rw [e] at this; exact this.elim
  | inf => have := a.1; rw [e] at this; exact this.elim
  | fin s c q => exact ⟨s, c, q, rfl⟩
theorem own_D.nn (a : own_D k A i x) : Jvm.Free.Fl.NoNaN64 x := by
  obtain ⟨s, c, q, e⟩ := a.fin
  exact Jvm.Free.Fl.val64_no.mpr (by rw [e]; exact Datum.noConfusion)
theorem own_D.isFin (a : own_D k A i x) : Jvm.Free.Fl.Fin64 x := by
  obtain ⟨s, c, q, e⟩ := a.fin
  exact Jvm.Free.Fl.fin64_core.mpr ⟨s, c, q, e⟩
theorem own_D.lit {s : Bool} {c : Nat} {q : Int} (h : val64 x = .fin s c q) (hw : signed s (c * 2 ^ (q + k).toNat) = i * ((2 ^ (-(q + k)).toNat : Nat) : Int)) (hB : i.natAbs ≤ B) : own_D k B i x := by
  refine ⟨?_, hB⟩
  rw [h]; exact hw
theorem own_D.mono (a : own_D k A i x) (h : A ≤ B) : own_D k B i x := ⟨a.1, Nat.le_trans a.2 h⟩
theorem own_D.zero {s : Bool} (h : val64 x = .fin s 0 b64.qmin) (k : Nat) : own_D k 0 0 x := by
  refine ⟨?_, by decide⟩
  rw [h]
  show signed s (0 * _) = 0 * _
  rw [Nat.zero_mul, signed_zero, Int.zero_mul]
theorem own_D.ofInt (h : DInt i x) (hB : i.natAbs ≤ B) : own_D 0 B i x := ⟨by rw [show ((0 : Nat) : Int) = 0 from rfl, own_sh_zero]; exact h, hB⟩
theorem own_D.i2d {z : Int32} (a : own_I A i z) (hv : FP.i2d z = v) : own_D 0 A i v := by
  subst hv; obtain ⟨rfl, h⟩ := a
  exact own_D.ofInt (i2d_int z) h
theorem own_D.l2d {z : Int64} (a : own_L A i z) (hv : FP.l2d z = v) (h : A ≤ 9007199254740992) : own_D 0 A i v := by
  subst hv; obtain ⟨rfl, h1⟩ := a
  exact own_D.ofInt (l2d_int (show _ ≤ 2 ^ 53 by omega)) h1
theorem own_D.add (a : own_D k A i x) (b : own_D k B j y) (hv : FP.dadd x y = v) (hC : A + B ≤ C) (h : C < 9007199254740992) (hk : k ≤ 1074) : own_D k C (i + j) v := by
  subst hv
  have h2 : (i + j).natAbs ≤ C := by have := a.2; have := b.2; omega
  refine ⟨?_, h2⟩
  show Whole _ (own_sh k (val64 (Core.dadd x y)))
  rw [val64_dadd]
  refine own_round hk (by omega) ?_
  rw [← own_sh_sum]; exact whole_sum a.1 b.1
theorem own_D.sub (a : own_D k A i x) (b : own_D k B j y) (hv : FP.dsub x y = v) (hC : A + B ≤ C) (h : C < 9007199254740992) (hk : k ≤ 1074) : own_D k C (i - j) v := by
  subst hv
  have h2 : (i - j).natAbs ≤ C := by have := a.2; have := b.2; omega
  refine ⟨?_, h2⟩
  show Whole _ (own_sh k (val64 (Core.dsub x y)))
  rw [val64_dsub]
  refine own_round hk (by omega) ?_
  rw [← own_sh_sum, ← own_sh_neg]; exact whole_sum a.1 (whole_negate b.1)
theorem own_D.mul (a : own_D k A i x) (b : own_D r B j y) (hv : FP.dmul x y = v) (hC : A * B ≤ C) (h : C < 9007199254740992) (ht : k + r = t) (hk : t ≤ 1074) : own_D t C (i * j) v := by
  subst hv ht
  have h2 : (i * j).natAbs ≤ C := Nat.le_trans (own_abs_mul a.2 b.2) hC
  refine ⟨?_, h2⟩
  show Whole _ (own_sh ((k + r : Nat) : Int) (val64 (Core.dmul x y)))
  rw [val64_dmul]
  refine own_round hk (by omega) ?_
  rw [Int.natCast_add, ← own_sh_prod]; exact whole_product a.1 b.1
theorem own_D.neg (a : own_D k A i x) (hv : FP.dneg x = v) : own_D k A (-i) v := by
  subst hv
  refine ⟨?_, by have := a.2; omega⟩
  rw [FP.val64_dneg, ← own_sh_neg]; exact whole_negate a.1
theorem own_whole_up {i : Int} {d : Datum} (r : Nat) (h : Whole i d) : Whole (i * ((2 ^ r : Nat) : Int)) (own_sh r d) := by
  cases d with
  | nan => exact h.elim
  | inf => exact h.elim
  | fin s c q =>
    have h1 : signed s (c * 2 ^ q.toNat) = i * ((2 ^ (-q).toNat : Nat) : Int) := h
    show signed s (c * 2 ^ (q + r).toNat) = i * ((2 ^ r : Nat) : Int) * ((2 ^ (-(q + r)).toNat : Nat) : Int)
    have p2 : ((2 ^ (-q).toNat : Nat) : Int) ≠ 0 := by
      have := Nat.two_pow_pos (-q).toNat; omega
    refine Int.eq_of_mul_eq_mul_right p2 ?_
    have e : (q + r).toNat + (-q).toNat = q.toNat + r + (-(q + r)).toNat := by omega
    calc signed s (c * 2 ^ (q + r).toNat) * ((2 ^ (-q).toNat : Nat) : Int)
        = signed s (c * 2 ^ ((q + r).toNat + (-q).toNat)) := by rw [← signed_mul, Nat.mul_assoc, ← Nat.pow_add]
      _ = signed s (c * 2 ^ q.toNat * 2 ^ r * 2 ^ (-(q + r)).toNat) := by rw [e, Nat.pow_add, Nat.pow_add]; congr 1; ac_rfl
      _ = i * ((2 ^ (-q).toNat : Nat) : Int) * ((2 ^ r : Nat) : Int) * ((2 ^ (-(q + r)).toNat : Nat) : Int) := by rw [signed_mul, signed_mul, h1]
      _ = _ := by ac_rfl
theorem own_D.up (a : own_D k A i x) {P : Nat} (hP : 2 ^ r = P) (ht : k + r = t) (hC : A * P ≤ C) : own_D t C (i * (P : Int)) x := by
  subst hP ht
  refine ⟨?_, Nat.le_trans (own_abs_mul a.2 (Nat.le_of_eq (Int.natAbs_natCast _))) hC⟩
  rw [Int.natCast_add, ← own_sh_sh]; exact own_whole_up r a.1
theorem own_D.dcmp (a : own_D k A i x) (b : own_D k B j y) : FP.dcmp x y = some (compare i j) := by
  show order (val64 x) (val64 y) = _
  rw [← own_sh_order k]; exact order_whole a.1 b.1
end
def own_c3 (i j : Int) : Int32 := if i < j then -1 else if i = j then 0 else 1
theorem own_c3_cmp (i j : Int) (o : CmpOp) : cmpValue (some (compare i j)) o = own_c3 i j := by
  unfold own_c3
  by_cases h : i < j
  · rw [if_pos h, show compare i j = .lt from Int.compare_eq_lt.mpr h]; rfl
  · rw [if_neg h]
    by_cases h2 : i = j
    · rw [if_pos h2, show compare i j = .eq from Int.compare_eq_eq.mpr h2]; rfl
    · rw [if_neg h2, show compare i j = .gt from Int.compare_eq_gt.mpr (by omega)]; rfl
theorem own_D.cmp {k A B : Nat} {i j : Int} {x y : UInt64} (a : own_D k A i x) (b : own_D k B j y) {o : CmpOp} : cmpValue (FP.dcmp x y) o = own_c3 i j := by
  rw [a.dcmp b]; exact own_c3_cmp i j o
theorem own_c3_eq {i j : Int} (h : i = j) : ifCond.holds .eq (own_c3 i j) = true ∧ ifCond.holds .ne (own_c3 i j) = false := by
  subst h; unfold own_c3; simp [ifCond.holds]
theorem own_c3_ne {i j : Int} (h : ¬ i = j) : ifCond.holds .eq (own_c3 i j) = false ∧ ifCond.holds .ne (own_c3 i j) = true := by
  unfold own_c3; by_cases q : i < j <;> simp [q, h, ifCond.holds]
theorem own_c3_lt {i j : Int} (h : i < j) : ifCond.holds .lt (own_c3 i j) = true ∧ ifCond.holds .ge (own_c3 i j) = false := by
  unfold own_c3; simp [h]; decide
theorem own_c3_nlt {i j : Int} (h : ¬ i < j) : ifCond.holds .lt (own_c3 i j) = false ∧ ifCond.holds .ge (own_c3 i j) = true := by
  unfold own_c3; rw [if_neg h]; by_cases q : i = j
  · rw [if_pos q]; decide
  · rw [if_neg q]; decide
theorem own_c3_gt {i j : Int} (h : j < i) : ifCond.holds .gt (own_c3 i j) = true ∧ ifCond.holds .le (own_c3 i j) = false := by
  unfold own_c3; rw [if_neg (by omega), if_neg (by omega)]; decide
theorem own_c3_ngt {i j : Int} (h : ¬ j < i) : ifCond.holds .gt (own_c3 i j) = false ∧ ifCond.holds .le (own_c3 i j) = true := by
  unfold own_c3; by_cases q : i < j
  · rw [if_pos q]; decide
  · rw [if_neg q, if_pos (by omega)]; decide
/-- the branches on ints, by what is known of them -/
theorem own_i_eq {x y : Int32} (h : x = y) : if_icmp.holds .eq x y = true ∧ if_icmp.holds .ne x y = false := teq h
theorem own_i_ne {x y : Int32} (h : ¬ x = y) : if_icmp.holds .eq x y = false ∧ if_icmp.holds .ne x y = true := feq h
theorem own_i_lt {x y : Int32} (h : x < y) : if_icmp.holds .lt x y = true ∧ if_icmp.holds .ge x y = false := ⟨(tlt h).1, (tlt h).2.1⟩
theorem own_i_nlt {x y : Int32} (h : ¬ x < y) : if_icmp.holds .lt x y = false ∧ if_icmp.holds .ge x y = true := ⟨(flt h).1, (flt h).2.1⟩
theorem own_i_gt {x y : Int32} (h : y < x) : if_icmp.holds .gt x y = true ∧ if_icmp.holds .le x y = false := ⟨(tlt h).2.2.1, (tlt h).2.2.2⟩
theorem own_i_ngt {x y : Int32} (h : ¬ y < x) : if_icmp.holds .gt x y = false ∧ if_icmp.holds .le x y = true := ⟨(flt h).2.2.1, (flt h).2.2.2⟩
theorem own_z_eq {x : Int32} (h : x = 0) : ifCond.holds .eq x = true ∧ ifCond.holds .ne x = false := by rw [if0, if0]; exact teq h
theorem own_z_ne {x : Int32} (h : ¬ x = 0) : ifCond.holds .eq x = false ∧ ifCond.holds .ne x = true := by rw [if0, if0]; exact feq h
theorem own_z_lt {x : Int32} (h : x < 0) : ifCond.holds .lt x = true ∧ ifCond.holds .ge x = false := by rw [if0, if0]; exact own_i_lt h
theorem own_z_nlt {x : Int32} (h : ¬ x < 0) : ifCond.holds .lt x = false ∧ ifCond.holds .ge x = true := by rw [if0, if0]; exact own_i_nlt h
theorem own_z_gt {x : Int32} (h : 0 < x) : ifCond.holds .gt x = true ∧ ifCond.holds .le x = false := by rw [if0, if0]; exact own_i_gt h
theorem own_z_ngt {x : Int32} (h : ¬ 0 < x) : ifCond.holds .gt x = false ∧ ifCond.holds .le x = true := by rw [if0, if0]; exact own_i_ngt h
theorem own_cases2 {v : Int32} (h : 0 ≤ v.toInt ∧ v.toInt ≤ ((1 : Nat) : Int)) : v = (0 : Int32) ∨ v = (1 : Int32) := by
  have : v.toInt = 0 ∨ v.toInt = 1 := by omega
  rcases this with q | q
  · exact Or.inl (Int32.toInt_inj.mp q)
  · exact Or.inr (Int32.toInt_inj.mp q)
theorem own_cases4 {v : Int32} (h : 0 ≤ v.toInt ∧ v.toInt ≤ ((3 : Nat) : Int)) : v = (0 : Int32) ∨ v = (1 : Int32) ∨ v = (2 : Int32) ∨ v = (3 : Int32) := by
  have : v.toInt = 0 ∨ v.toInt = 1 ∨ v.toInt = 2 ∨ v.toInt = 3 := by omega
  rcases this with q | q | q | q
  · exact Or.inl (Int32.toInt_inj.mp q)
  · exact Or.inr (Or.inl (Int32.toInt_inj.mp q))
  · exact Or.inr (Or.inr (Or.inl (Int32.toInt_inj.mp q)))
  · exact Or.inr (Or.inr (Or.inr (Int32.toInt_inj.mp q)))
theorem own_cases16 {v : Int32} (h : 0 ≤ v.toInt ∧ v.toInt ≤ ((15 : Nat) : Int)) : v = (0 : Int32) ∨ v = (1 : Int32) ∨ v = (2 : Int32) ∨ v = (3 : Int32) ∨ v = (4 : Int32) ∨ v = (5 : Int32) ∨ v = (6 : Int32) ∨ v = (7 : Int32) ∨ v = (8 : Int32) ∨ v = (9 : Int32) ∨ v = (10 : Int32) ∨ v = (11 : Int32) ∨ v = (12 : Int32) ∨ v = (13 : Int32) ∨ v = (14 : Int32) ∨ v = (15 : Int32) := by
  have : v.toInt = 0 ∨ v.toInt = 1 ∨ v.toInt = 2 ∨ v.toInt = 3 ∨ v.toInt = 4 ∨ v.toInt = 5 ∨ v.toInt = 6 ∨ v.toInt = 7 ∨ v.toInt = 8 ∨ v.toInt = 9 ∨ v.toInt = 10 ∨ v.toInt = 11 ∨ v.toInt = 12 ∨ v.toInt = 13 ∨ v.toInt = 14 ∨ v.toInt = 15 := by omega
  rcases this with q | q | q | q | q | q | q | q | q | q | q | q | q | q | q | q
  · exact Or.inl (Int32.toInt_inj.mp q)
  · exact Or.inr (Or.inl (Int32.toInt_inj.mp q))
  · exact Or.inr (Or.inr (Or.inl (Int32.toInt_inj.mp q)))
  · exact Or.inr (Or.inr (Or.inr (Or.inl (Int32.toInt_inj.mp q))))
  · exact Or.inr (Or.inr (Or.inr (Or.inr (Or.inl (Int32.toInt_inj.mp q)))))
  · exact Or.inr (Or.inr (Or.inr (Or.inr (Or.inr (Or.inl (Int32.toInt_inj.mp q))))))
  · exact Or.inr (Or.inr (Or.inr (Or.inr (Or.inr (Or.inr (Or.inl (Int32.toInt_inj.mp q)))))))
  · exact Or.inr (Or.inr (Or.inr (Or.inr (Or.inr (Or.inr (Or.inr (Or.inl (Int32.toInt_inj.mp q))))))))
  · exact Or.inr (Or.inr (Or.inr (Or.inr (Or.inr (Or.inr (Or.inr (Or.inr (Or.inl (Int32.toInt_inj.mp q)))))))))
  · exact Or.inr (Or.inr (Or.inr (Or.inr (Or.inr (Or.inr (Or.inr (Or.inr (Or.inr (Or.inl (Int32.toInt_inj.mp q))))))))))
  · exact Or.inr (Or.inr (Or.inr (Or.inr (Or.inr (Or.inr (Or.inr (Or.inr (Or.inr (Or.inr (Or.inl (Int32.toInt_inj.mp q)))))))))))
  · exact Or.inr (Or.inr (Or.inr (Or.inr (Or.inr (Or.inr (Or.inr (Or.inr (Or.inr (Or.inr (Or.inr (Or.inl (Int32.toInt_inj.mp q))))))))))))
  · exact Or.inr (Or.inr (Or.inr (Or.inr (Or.inr (Or.inr (Or.inr (Or.inr (Or.inr (Or.inr (Or.inr (Or.inr (Or.inl (Int32.toInt_inj.mp q)))))))))))))
  · exact Or.inr (Or.inr (Or.inr (Or.inr (Or.inr (Or.inr (Or.inr (Or.inr (Or.inr (Or.inr (Or.inr (Or.inr (Or.inr (Or.inl (Int32.toInt_inj.mp q))))))))))))))
  · exact Or.inr (Or.inr (Or.inr (Or.inr (Or.inr (Or.inr (Or.inr (Or.inr (Or.inr (Or.inr (Or.inr (Or.inr (Or.inr (Or.inr (Or.inl (Int32.toInt_inj.mp q)))))))))))))))
  · exact Or.inr (Or.inr (Or.inr (Or.inr (Or.inr (Or.inr (Or.inr (Or.inr (Or.inr (Or.inr (Or.inr (Or.inr (Or.inr (Or.inr (Or.inr (Int32.toInt_inj.mp q)))))))))))))))
/-- lcmp as a comparison of whole numbers -/
theorem own_lcmp_c3 (x y : Int64) : XT.cmpL x y = own_c3 x.toInt y.toInt := by
  unfold XT.cmpL own_c3
  simp only [Int64.lt_iff_toInt_lt, ← Int64.toInt_inj]
  by_cases h : x.toInt < y.toInt
  · simp [h, show ¬ y.toInt < x.toInt by omega, show ¬ x.toInt = y.toInt by omega]
  · by_cases h2 : x.toInt = y.toInt
    · simp [h2]
    · simp [h, h2, show y.toInt < x.toInt by omega]
theorem own_L.cmp {A B : Nat} {i j : Int} {x y : Int64} (a : own_L A i x) (b : own_L B j y) : XT.cmpL x y = own_c3 i j := by
  rw [own_lcmp_c3, a.1, b.1]
end OwnNum
section OwnDiv
open Jvm.FP Jvm.FP.Core
theorem own_quotient {s t : Bool} {c d : Nat} {q r : Int} (hd : d ≠ 0) : quotient b64 (.fin s c q) (.fin t d r) = roundRatio b64 (s != t) c d (q - r) := by
  show (if d = 0 then _ else _) = _
  rw [if_neg hd]
/-- the quotient of i * 2^-k and j is the rounded |i| / |j| * 2^-k -/
theorem own_quot {k A B : Nat} {i j : Int} {x z v : UInt64} (a : own_D k A i x) (b : own_D 0 B j z) (hj : j ≠ 0) (hv : FP.ddiv x z = v) :
    ∃ sg : Bool, val64 v = roundRatio b64 sg i.natAbs j.natAbs (-(k : Int)) ∧ (i ≠ 0 → sg = (decide (i < 0) != decide (j < 0))) := by
  subst hv
  obtain ⟨s, c, q, e1⟩ := a.fin
  obtain ⟨t, d, r, e2⟩ := b.fin
  have w1 : Whole i (.fin s c (q + k)) := by have := a.1; rw [e1] at this; exact this
  have w2 : Whole j (.fin t d r) := by have := b.1; rw [e2, show ((0 : Nat) : Int) = 0 from rfl, own_sh_zero] at this; exact this
  have hd : d ≠ 0 := fun h => hj ((whole_zero w2).mp h)
  refine ⟨s != t, ?_, fun hi => by rw [whole_sign w1 hi, whole_sign w2 hj]⟩
  show val64 (Core.ddiv x z) = _
  rw [val64_ddiv, e1, e2]
  show (if d = 0 then _ else roundRatio b64 (s != t) c d (q - r)) = _
  rw [if_neg hd]
  refine roundRatio_congr (by omega) (by omega) ?_
  have h1 : c * 2 ^ (q + k).toNat = i.natAbs * 2 ^ (-(q + k)).toNat := whole_natAbs w1
  have h2 : d * 2 ^ r.toNat = j.natAbs * 2 ^ (-r).toNat := whole_natAbs w2
  generalize i.natAbs = I at *
  generalize j.natAbs = J at *
  refine Nat.eq_of_mul_eq_mul_right (Nat.two_pow_pos ((-r).toNat + (q + k).toNat)) ?_
  have x1 : c * J * 2 ^ (q - r - -(k : Int)).toNat * 2 ^ ((-r).toNat + (q + k).toNat) = (c * 2 ^ (q + k).toNat) * (J * 2 ^ (-r).toNat) * 2 ^ (q - r - -(k : Int)).toNat := by rw [Nat.pow_add]; ac_rfl
  have x2 : I * d * 2 ^ (-(k : Int) - (q - r)).toNat * 2 ^ ((-r).toNat + (q + k).toNat) = I * d * 2 ^ ((-(q + k)).toNat + r.toNat + (q - r - -(k : Int)).toNat) := by rw [Nat.mul_assoc (I * d), ← Nat.pow_add]; congr 2; omega
  rw [x1, x2, h1, ← h2, Nat.pow_add, Nat.pow_add]; ac_rfl
theorem own_quot_nn {k A B : Nat} {i j : Int} {x z v : UInt64} (a : own_D k A i x) (b : own_D 0 B j z) (hj : j ≠ 0) (hv : FP.ddiv x z = v) : Jvm.Free.Fl.NoNaN64 v := by
  obtain ⟨sg, e, -⟩ := own_quot a b hj hv
  exact Jvm.Free.Fl.val64_no.mpr (by rw [e]; exact roundRatio_ne_nan _ _ _ _ _)
theorem own_round_zero (sg : Bool) (d : Nat) (e : Int) : roundRatio b64 sg 0 d e = .fin sg 0 b64.qmin := by unfold roundRatio; rw [if_pos rfl]
/-- two quotients of equal whole numbers compare as equal -/
theorem own_quot_eq {k A B A' B' : Nat} {i j : Int} {x y z w v u : UInt64} (a : own_D k A i x) (b : own_D 0 B j z) (a' : own_D k A' i y) (b' : own_D 0 B' j w) (hj : j ≠ 0) (hv : FP.ddiv x z = v) (hu : FP.ddiv y w = u) : FP.dcmp v u = some .eq := by
  obtain ⟨s1, e1, f1⟩ := own_quot a b hj hv
  obtain ⟨s2, e2, f2⟩ := own_quot a' b' hj hu
  by_cases hi : i = 0
  · subst hi
    have d1 := own_D.zero (x := v) (s := s1) (by rw [e1]; exact own_round_zero ..) 0
    have d2 := own_D.zero (x := u) (s := s2) (by rw [e2]; exact own_round_zero ..) 0
    rw [d1.dcmp d2]; rfl
  · have e3 : s1 = s2 := (f1 hi).trans (f2 hi).symm
    subst e3
    have e4 : v = u := val64_inj (by rw [e1]; exact roundRatio_ne_nan _ _ _ _ _) (e1.trans e2.symm)
    subst e4
    exact dcmp_self (by rw [e1]; exact roundRatio_ne_nan _ _ _ _ _)
theorem own_quot_cmp {k A B A' B' : Nat} {i j : Int} {x y z w v u : UInt64} (a : own_D k A i x) (b : own_D 0 B j z) (a' : own_D k A' i y) (b' : own_D 0 B' j w) (hj : j ≠ 0) (hv : FP.ddiv x z = v) (hu : FP.ddiv y w = u) {o : CmpOp} : cmpValue (FP.dcmp v u) o = 0 := by
  rw [own_quot_eq a b a' b' hj hv hu]; rfl
theorem own_D.of_eq {k A : Nat} {i j : Int} {x : UInt64} (a : own_D k A i x) (h : i = j) : own_D k A j x := h ▸ a
/-- a quotient by a power of two is exact -/
theorem own_D.divp {k r t A B P : Nat} {i : Int} {x z v : UInt64} (a : own_D k A i x) (b : own_D 0 B (P : Int) z) (hP : P = 2 ^ r) (hv : FP.ddiv x z = v) (hA : A < 9007199254740992) (ht : k + r = t) (hk : t ≤ 1074) : own_D t A i v := by
  subst ht
  have p := Nat.two_pow_pos r
  have hj : (P : Int) ≠ 0 := by omega
  obtain ⟨sg, e, f⟩ := own_quot a b hj hv
  refine ⟨?_, a.2⟩
  have e2 : roundRatio b64 sg i.natAbs ((P : Int)).natAbs (-(k : Int)) = roundRatio b64 sg i.natAbs 1 (-((k + r : Nat) : Int)) := by
    refine roundRatio_congr (by omega) (by decide) ?_
    rw [Int.natAbs_natCast, hP, show (-(k : Int) - -((k + r : Nat) : Int)).toNat = r by omega, show (-((k + r : Nat) : Int) - -(k : Int)).toNat = 0 by omega]
    simp
  rw [e, e2]
  refine own_round_core (c := 0) (q := 0) hk (by have := a.2; omega) fun hi => ?_
  rw [f hi, show decide ((P : Int) < 0) = false by simp]
  cases decide (i < 0) <;> rfl
theorem own_ushr_nn {x q v : Int32} {k : Nat} (hv : XT.ushr x q = v) (hk : q.toBitVec.toNat % 32 = k) (h0 : 0 < k) : 0 ≤ v.toInt := by
  subst hv
  have := c_iushr x q k hk h0
  show 0 ≤ ((x.toUInt32 >>> (q &&& 31).toUInt32).toInt32).toInt
  rw [this]
  exact Int.ediv_nonneg (Int.emod_nonneg _ (by decide)) (Int.natCast_nonneg _)
theorem own_irem_bd {x y v : Int32} {d : Int} (hv : x % y = v) (hx : 0 ≤ x.toInt) (hy : y.toInt = d) (hd : 0 < d) : 0 ≤ v.toInt ∧ v.toInt < d := by
  subst hv
  rw [(c_irem x y d hy).1 hx]
  exact ⟨Int.emod_nonneg _ (by omega), Int.emod_lt_of_pos _ hd⟩
end OwnDiv
theorem own_d_jdk_30_method_1_code_0 : decode jdk_30_method_1_code 0 = .ok (.aload_n 0, 1) := by decide +kernel
theorem own_d_jdk_30_method_1_code_1 : decode jdk_30_method_1_code 1 = .ok (.invokespecial 1, 3) := by decide +kernel
theorem own_d_jdk_30_method_1_code_4 : decode jdk_30_method_1_code 4 = .ok (.return_, 1) := by decide +kernel
theorem own_pd0 : parseMethodDescriptor "()V" = some ⟨[], none⟩ := by decide +kernel
theorem own_pn0 : plainName "java/lang/Record" = true := by first | (simp [plainName, overriddenIn]; done) | decide +kernel
abbrev own_rm_own_rec : Room := ({ frames := 1, cells := 0, slots := 0, locals := 12 } : Room)
set_option maxRecDepth 65536 in
set_option maxHeartbeats 40000000 in
theorem own_rec (l : Launch) (Z : State) (a0 : Array Value) (hw : ∀ d ∈ tables_1, d.before a0 Z = true) (a1 : Addr) (h0 : Heap) (n0 : Nat) (Z0 : n0 ≤ h0.size)  :
    own_Met l Z ({ cls := "java/lang/Record", name := "<init>", desc := "()V" } : Jvm.MethodName) jdk_30_method_1_code 1 none [] own_rm_own_rec #[(.ref a1)] h0 n0 (fun v h => v = none ∧ h = h0) := by
  refine own_meet (plainFor_of_name own_pn0) Z0 (Ls0 := #[.val (.ref a1)]) (by intro m; first | (simp [entryFrame, mkF, argsToLocals, Value.category]; done) | rfl) ?_
  intro p e s m below meth c T0 X0
  refine own_aloadN X0 rfl rfl own_d_jdk_30_method_1_code_0 (pc' := 1) rfl ?_
  refine own_initO X0 (hw _ (List.mem_of_getElem? (i := 13) rfl)) (hw _ (List.mem_of_getElem? (i := 14) rfl)) (hw _ (List.mem_of_getElem? (i := 15) rfl)) rfl (by decide) (W := 0) (Nat.le_of_eq rfl) (by decide) own_d_jdk_30_method_1_code_1 (pc' := 4) rfl fun T1 X1 => ?_
  exact own_retV X1  own_d_jdk_30_method_1_code_4 rfl (by decide) (by decide) ⟨rfl, rfl⟩
theorem own_d_prog_21_method_1_code_0 : decode prog_21_method_1_code 0 = .ok (.aload_n 0, 1) := by decide +kernel
theorem own_d_prog_21_method_1_code_1 : decode prog_21_method_1_code 1 = .ok (.invokespecial 1, 3) := by decide +kernel
theorem own_d_prog_21_method_1_code_4 : decode prog_21_method_1_code 4 = .ok (.dload_n 3, 1) := by decide +kernel
theorem own_d_prog_21_method_1_code_5 : decode prog_21_method_1_code 5 = .ok (.dconst 0, 1) := by decide +kernel
theorem own_d_prog_21_method_1_code_6 : decode prog_21_method_1_code 6 = .ok (.dcmp .l, 1) := by decide +kernel
theorem own_d_prog_21_method_1_code_7 : decode prog_21_method_1_code 7 = .ok (.ifCond .lt 11, 3) := by decide +kernel
theorem own_d_prog_21_method_1_code_10 : decode prog_21_method_1_code 10 = .ok (.dload_n 3, 1) := by decide +kernel
theorem own_d_prog_21_method_1_code_11 : decode prog_21_method_1_code 11 = .ok (.ldc2_w 9, 3) := by decide +kernel
theorem own_d_prog_21_method_1_code_14 : decode prog_21_method_1_code 14 = .ok (.dcmp .g, 1) := by decide +kernel
theorem own_d_prog_21_method_1_code_15 : decode prog_21_method_1_code 15 = .ok (.ifCond .lt 17, 3) := by decide +kernel
theorem own_d_prog_21_method_1_code_18 : decode prog_21_method_1_code 18 = .ok (.new 11, 3) := by decide +kernel
theorem own_d_prog_21_method_1_code_21 : decode prog_21_method_1_code 21 = .ok (.dup, 1) := by decide +kernel
theorem own_d_prog_21_method_1_code_22 : decode prog_21_method_1_code 22 = .ok (.dload_n 3, 1) := by decide +kernel
theorem own_d_prog_21_method_1_code_28 : decode prog_21_method_1_code 28 = .ok (.invokespecial 17, 3) := by decide +kernel
theorem own_d_prog_21_method_1_code_31 : decode prog_21_method_1_code 31 = .ok (.athrow, 1) := by decide +kernel
theorem own_d_prog_21_method_1_code_32 : decode prog_21_method_1_code 32 = .ok (.dload_n 3, 1) := by decide +kernel
theorem own_d_prog_21_method_1_code_33 : decode prog_21_method_1_code 33 = .ok (.dconst 0, 1) := by decide +kernel
theorem own_d_prog_21_method_1_code_34 : decode prog_21_method_1_code 34 = .ok (.dcmp .l, 1) := by decide +kernel
theorem own_d_prog_21_method_1_code_35 : decode prog_21_method_1_code 35 = .ok (.ifCond .ne 7, 3) := by decide +kernel
theorem own_d_prog_21_method_1_code_38 : decode prog_21_method_1_code 38 = .ok (.iconst 1, 1) := by decide +kernel
theorem own_d_prog_21_method_1_code_39 : decode prog_21_method_1_code 39 = .ok (.goto 4, 3) := by decide +kernel
theorem own_d_prog_21_method_1_code_42 : decode prog_21_method_1_code 42 = .ok (.iconst 0, 1) := by decide +kernel
theorem own_d_prog_21_method_1_code_43 : decode prog_21_method_1_code 43 = .ok (.iload_n 1, 1) := by decide +kernel
theorem own_d_prog_21_method_1_code_44 : decode prog_21_method_1_code 44 = .ok (.iload_n 2, 1) := by decide +kernel
theorem own_d_prog_21_method_1_code_45 : decode prog_21_method_1_code 45 = .ok (.if_icmp .ne 7, 3) := by decide +kernel
theorem own_d_prog_21_method_1_code_48 : decode prog_21_method_1_code 48 = .ok (.iconst 1, 1) := by decide +kernel
theorem own_d_prog_21_method_1_code_49 : decode prog_21_method_1_code 49 = .ok (.goto 4, 3) := by decide +kernel
theorem own_d_prog_21_method_1_code_52 : decode prog_21_method_1_code 52 = .ok (.iconst 0, 1) := by decide +kernel
theorem own_d_prog_21_method_1_code_53 : decode prog_21_method_1_code 53 = .ok (.if_icmp .eq 19, 3) := by decide +kernel
theorem own_d_prog_21_method_1_code_56 : decode prog_21_method_1_code 56 = .ok (.new 11, 3) := by decide +kernel
theorem own_d_prog_21_method_1_code_59 : decode prog_21_method_1_code 59 = .ok (.dup, 1) := by decide +kernel
theorem own_d_prog_21_method_1_code_60 : decode prog_21_method_1_code 60 = .ok (.dload_n 3, 1) := by decide +kernel
theorem own_d_prog_21_method_1_code_61 : decode prog_21_method_1_code 61 = .ok (.iload_n 1, 1) := by decide +kernel
theorem own_d_prog_21_method_1_code_62 : decode prog_21_method_1_code 62 = .ok (.iload_n 2, 1) := by decide +kernel
theorem own_d_prog_21_method_1_code_68 : decode prog_21_method_1_code 68 = .ok (.invokespecial 17, 3) := by decide +kernel
theorem own_d_prog_21_method_1_code_71 : decode prog_21_method_1_code 71 = .ok (.athrow, 1) := by decide +kernel
theorem own_d_prog_21_method_1_code_72 : decode prog_21_method_1_code 72 = .ok (.aload_n 0, 1) := by decide +kernel
theorem own_d_prog_21_method_1_code_73 : decode prog_21_method_1_code 73 = .ok (.iload_n 1, 1) := by decide +kernel
theorem own_d_prog_21_method_1_code_74 : decode prog_21_method_1_code 74 = .ok (.putfield 23, 3) := by decide +kernel
theorem own_d_prog_21_method_1_code_77 : decode prog_21_method_1_code 77 = .ok (.aload_n 0, 1) := by decide +kernel
theorem own_d_prog_21_method_1_code_78 : decode prog_21_method_1_code 78 = .ok (.iload_n 2, 1) := by decide +kernel
theorem own_d_prog_21_method_1_code_79 : decode prog_21_method_1_code 79 = .ok (.putfield 29, 3) := by decide +kernel
theorem own_d_prog_21_method_1_code_82 : decode prog_21_method_1_code 82 = .ok (.aload_n 0, 1) := by decide +kernel
theorem own_d_prog_21_method_1_code_83 : decode prog_21_method_1_code 83 = .ok (.dload_n 3, 1) := by decide +kernel
theorem own_d_prog_21_method_1_code_84 : decode prog_21_method_1_code 84 = .ok (.putfield 32, 3) := by decide +kernel
theorem own_d_prog_21_method_1_code_87 : decode prog_21_method_1_code 87 = .ok (.return_, 1) := by decide +kernel
theorem own_pd1 : parseMethodDescriptor "(IID)V" = some ⟨[.int, .int, .double], none⟩ := by decide +kernel
theorem own_pn1 : plainName "com/example/kourier/kourier/metric/Position" = true := by first | (simp [plainName, overriddenIn]; done) | decide +kernel
abbrev own_rm_own_init_pt : Room := ({ frames := 2, cells := 0, slots := 0, locals := 24 } : Room)
set_option maxRecDepth 65536 in
set_option maxHeartbeats 40000000 in
theorem own_init_pt (l : Launch) (Z : State) (a0 : Array Value) (hw : ∀ d ∈ tables_1, d.before a0 Z = true) (a1 : Addr) (q1 q2 : Int32) (x0 : UInt64)  (h0 : Heap) (n0 : Nat) (Z0 : n0 ≤ h0.size) (ge1 : n0 ≤ a1) (A1 : Exa Z h0 a1 "com/example/kourier/kourier/metric/Position") (F1 : Fld Z h0 a1 "com/example/kourier/kourier/metric/Position" "from" "I" (.int (0 : Int32))) (F2 : Fld Z h0 a1 "com/example/kourier/kourier/metric/Position" "toward" "I" (.int (0 : Int32))) (F3 : Fld Z h0 a1 "com/example/kourier/kourier/metric/Position" "offset" "D" (.double (0 : UInt64))) (D_x0 : own_D 0 0 0 x0) (hq : q1 = q2) :
    own_Met l Z ({ cls := "com/example/kourier/kourier/metric/Position", name := "<init>", desc := "(IID)V" } : Jvm.MethodName) prog_21_method_1_code 5 none [] own_rm_own_init_pt #[(.ref a1), (.int q1), (.int q2), (.double x0)] h0 n0 (fun v h => v = none ∧ Exa Z h a1 "com/example/kourier/kourier/metric/Position" ∧ Fld Z h a1 "com/example/kourier/kourier/metric/Position" "from" "I" (.int q1) ∧ Fld Z h a1 "com/example/kourier/kourier/metric/Position" "toward" "I" (.int q2) ∧ Fld Z h a1 "com/example/kourier/kourier/metric/Position" "offset" "D" (.double x0)) := by
  refine own_meet (plainFor_of_name own_pn1) Z0 (Ls0 := #[.val (.ref a1), .val (.int q1), .val (.int q2), .val (.double x0), .second]) (by intro m; first | (simp [entryFrame, mkF, argsToLocals, Value.category]; done) | rfl) ?_
  intro p e s m below meth c T0 X0
  refine own_aloadN X0 rfl rfl own_d_prog_21_method_1_code_0 (pc' := 1) rfl ?_
  refine own_special X0 (own_rec l Z a0 hw a1 _ n0 X0.le) rfl rfl (hw _ (List.mem_of_getElem? (i := 8) rfl)) (hw _ (List.mem_of_getElem? (i := 9) rfl)) (hw _ (List.mem_of_getElem? (i := 11) rfl)) (hw _ (List.mem_of_getElem? (i := 12) rfl)) (by decide) rfl (by decide) (W := 0) (Nat.le_of_eq rfl) (by decide) (cells' := 0) (slots' := 0) rfl rfl (by decide) (by decide) (argsL := []) (rest := []) (lenOf own_pd0 rfl) rfl rfl own_d_prog_21_method_1_code_1 (pc' := 4) rfl ?_
  rintro _ T2 h2 X2 ⟨rfl, e2⟩
  subst e2
  show own_Goal p e below _ T2 (mkF m 4 #[.val (.ref a1), .val (.int q1), .val (.int q2), .val (.double x0), .second] [])
  refine own_dloadN X2 rfl own_d_prog_21_method_1_code_4 (pc' := 5) rfl ?_
  refine own_dconst0 X2 (v := (0 : UInt64)) rfl own_d_prog_21_method_1_code_5 (pc' := 6) rfl ?_
  have f3 : own_D 0 0 (0 : Int) (0 : UInt64) := own_D.lit (s := false) (c := 0) (q := -1074) (by decide +kernel) (by decide +kernel) (by decide)
  refine own_dcmp X2 (D_x0.cmp f3) own_d_prog_21_method_1_code_6 (pc' := 7) rfl ?_
  have c4 : ¬ ((0 : Int) < (0 : Int)) := by omega
  refine own_ifF X2 (own_c3_nlt c4).1 own_d_prog_21_method_1_code_7 (pc' := 10) rfl ?_
  refine own_dloadN X2 rfl own_d_prog_21_method_1_code_10 (pc' := 11) rfl ?_
  refine own_ldcD X2 (v := (9218868437227405312 : UInt64)) (hw _ (List.mem_of_getElem? (i := 16) rfl)) own_d_prog_21_method_1_code_11 (pc' := 14) rfl ?_
  refine own_dcmp X2 (v := (-1 : Int32)) (dcmp_pinf D_x0.isFin _) own_d_prog_21_method_1_code_14 (pc' := 15) rfl ?_
  refine own_ifT X2 (by decide) own_d_prog_21_method_1_code_15 (pc' := 32) (by decide) (by decide) ?_
  refine own_dloadN X2 rfl own_d_prog_21_method_1_code_32 (pc' := 33) rfl ?_
  refine own_dconst0 X2 (v := (0 : UInt64)) rfl own_d_prog_21_method_1_code_33 (pc' := 34) rfl ?_
  have f5 : own_D 0 0 (0 : Int) (0 : UInt64) := own_D.lit (s := false) (c := 0) (q := -1074) (by decide +kernel) (by decide +kernel) (by decide)
  refine own_dcmp X2 (D_x0.cmp f5) own_d_prog_21_method_1_code_34 (pc' := 35) rfl ?_
  have c6 : (0 : Int) = (0 : Int) := rfl
  refine own_ifF X2 (own_c3_eq c6).2 own_d_prog_21_method_1_code_35 (pc' := 38) rfl ?_
  refine own_iconst X2 (v := (1 : Int32)) (by decide) own_d_prog_21_method_1_code_38 (pc' := 39) rfl ?_
  refine own_goto X2 own_d_prog_21_method_1_code_39 (pc' := 43) (by decide) (by decide) ?_
  refine own_iloadN X2 rfl own_d_prog_21_method_1_code_43 (pc' := 44) rfl ?_
  refine own_iloadN X2 rfl own_d_prog_21_method_1_code_44 (pc' := 45) rfl ?_
  have c7 : q1 = q2 := hq
  refine own_icmpF X2 (own_i_eq c7).2 own_d_prog_21_method_1_code_45 (pc' := 48) rfl ?_
  refine own_iconst X2 (v := (1 : Int32)) (by decide) own_d_prog_21_method_1_code_48 (pc' := 49) rfl ?_
  refine own_goto X2 own_d_prog_21_method_1_code_49 (pc' := 53) (by decide) (by decide) ?_
  refine own_icmpT X2 (by decide) own_d_prog_21_method_1_code_53 (pc' := 72) (by decide) (by decide) ?_
  refine own_aloadN X2 rfl rfl own_d_prog_21_method_1_code_72 (pc' := 73) rfl ?_
  refine own_iloadN X2 rfl own_d_prog_21_method_1_code_73 (pc' := 74) rfl ?_
  refine own_putF X2 (hw _ (List.mem_of_getElem? (i := 17) rfl)) F1 A1 (Or.inr ⟨(hw _ (List.mem_of_getElem? (i := 18) rfl)), rfl, rfl⟩) (hw _ (List.mem_of_getElem? (i := 3) rfl)) (ty := .int) (by decide) rfl rfl ge1 own_d_prog_21_method_1_code_74 (pc' := 77) rfl fun T8 h8 X8 W8 => ?_
  have A9 := A1.wr W8
  have F10 := F1.same W8
  have F11 := F2.other W8 (Or.inr (slot_ne (C := "com/example/kourier/kourier/metric/Position") (Or.inr (hw _ (List.mem_of_getElem? (i := 20) rfl))) (Or.inr (hw _ (List.mem_of_getElem? (i := 18) rfl))) (by decide) (t := .int) (t' := .int) (by decide) (by decide)))
  have F12 := F3.other W8 (Or.inr (slot_ne (C := "com/example/kourier/kourier/metric/Position") (Or.inr (hw _ (List.mem_of_getElem? (i := 22) rfl))) (Or.inr (hw _ (List.mem_of_getElem? (i := 18) rfl))) (by decide) (t := .double) (t' := .int) (by decide) (by decide)))
  refine own_aloadN X8 rfl rfl own_d_prog_21_method_1_code_77 (pc' := 78) rfl ?_
  refine own_iloadN X8 rfl own_d_prog_21_method_1_code_78 (pc' := 79) rfl ?_
  refine own_putF X8 (hw _ (List.mem_of_getElem? (i := 19) rfl)) F11 A9 (Or.inr ⟨(hw _ (List.mem_of_getElem? (i := 20) rfl)), rfl, rfl⟩) (hw _ (List.mem_of_getElem? (i := 3) rfl)) (ty := .int) (by decide) rfl rfl ge1 own_d_prog_21_method_1_code_79 (pc' := 82) rfl fun T13 h13 X13 W13 => ?_
  have A14 := A9.wr W13
  have F15 := F11.same W13
  have F16 := F10.other W13 (Or.inr (slot_ne (C := "com/example/kourier/kourier/metric/Position") (Or.inr (hw _ (List.mem_of_getElem? (i := 18) rfl))) (Or.inr (hw _ (List.mem_of_getElem? (i := 20) rfl))) (by decide) (t := .int) (t' := .int) (by decide) (by decide)))
  have F17 := F12.other W13 (Or.inr (slot_ne (C := "com/example/kourier/kourier/metric/Position") (Or.inr (hw _ (List.mem_of_getElem? (i := 22) rfl))) (Or.inr (hw _ (List.mem_of_getElem? (i := 20) rfl))) (by decide) (t := .double) (t' := .int) (by decide) (by decide)))
  refine own_aloadN X13 rfl rfl own_d_prog_21_method_1_code_82 (pc' := 83) rfl ?_
  refine own_dloadN X13 rfl own_d_prog_21_method_1_code_83 (pc' := 84) rfl ?_
  refine own_putF X13 (hw _ (List.mem_of_getElem? (i := 21) rfl)) F17 A14 (Or.inr ⟨(hw _ (List.mem_of_getElem? (i := 22) rfl)), rfl, rfl⟩) (hw _ (List.mem_of_getElem? (i := 3) rfl)) (ty := .double) (by decide) rfl rfl ge1 own_d_prog_21_method_1_code_84 (pc' := 87) rfl fun T18 h18 X18 W18 => ?_
  have A19 := A14.wr W18
  have F20 := F17.same W18
  have F21 := F15.other W18 (Or.inr (slot_ne (C := "com/example/kourier/kourier/metric/Position") (Or.inr (hw _ (List.mem_of_getElem? (i := 20) rfl))) (Or.inr (hw _ (List.mem_of_getElem? (i := 22) rfl))) (by decide) (t := .int) (t' := .double) (by decide) (by decide)))
  have F22 := F16.other W18 (Or.inr (slot_ne (C := "com/example/kourier/kourier/metric/Position") (Or.inr (hw _ (List.mem_of_getElem? (i := 18) rfl))) (Or.inr (hw _ (List.mem_of_getElem? (i := 22) rfl))) (by decide) (t := .int) (t' := .double) (by decide) (by decide)))
  exact own_retV X18  own_d_prog_21_method_1_code_87 rfl (by decide) (by decide) ⟨rfl, A19, F22, F21, F20⟩
theorem own_d_prog_21_method_3_code_0 : decode prog_21_method_3_code 0 = .ok (.aload_n 0, 1) := by decide +kernel
theorem own_d_prog_21_method_3_code_1 : decode prog_21_method_3_code 1 = .ok (.getfield 32, 3) := by decide +kernel
theorem own_d_prog_21_method_3_code_4 : decode prog_21_method_3_code 4 = .ok (.dconst 0, 1) := by decide +kernel
theorem own_d_prog_21_method_3_code_5 : decode prog_21_method_3_code 5 = .ok (.dcmp .l, 1) := by decide +kernel
theorem own_d_prog_21_method_3_code_6 : decode prog_21_method_3_code 6 = .ok (.ifCond .ne 7, 3) := by decide +kernel
theorem own_d_prog_21_method_3_code_9 : decode prog_21_method_3_code 9 = .ok (.iconst 1, 1) := by decide +kernel
theorem own_d_prog_21_method_3_code_10 : decode prog_21_method_3_code 10 = .ok (.goto 4, 3) := by decide +kernel
theorem own_d_prog_21_method_3_code_13 : decode prog_21_method_3_code 13 = .ok (.iconst 0, 1) := by decide +kernel
theorem own_d_prog_21_method_3_code_14 : decode prog_21_method_3_code 14 = .ok (.ireturn, 1) := by decide +kernel
theorem own_pd2 : parseMethodDescriptor "()Z" = some ⟨[], some .boolean⟩ := by decide +kernel
abbrev own_rm_own_isp_pt : Room := ({ frames := 0, cells := 0, slots := 0, locals := 0 } : Room)
set_option maxRecDepth 65536 in
set_option maxHeartbeats 40000000 in
theorem own_isp_pt (l : Launch) (Z : State) (a0 : Array Value) (hw : ∀ d ∈ tables_1, d.before a0 Z = true) (a1 : Addr) (x0 : UInt64)  (h0 : Heap) (n0 : Nat) (Z0 : n0 ≤ h0.size) (F3 : Fld Z h0 a1 "com/example/kourier/kourier/metric/Position" "offset" "D" (.double x0)) (D_x0 : own_D 0 0 0 x0) :
    own_Met l Z ({ cls := "com/example/kourier/kourier/metric/Position", name := "isPoint", desc := "()Z" } : Jvm.MethodName) prog_21_method_3_code 1 (some .boolean) [] own_rm_own_isp_pt #[(.ref a1)] h0 n0 (fun v h => v = some (.int 1) ∧ h = h0) := by
  refine own_meet (plainFor_of_name own_pn1) Z0 (Ls0 := #[.val (.ref a1)]) (by intro m; first | (simp [entryFrame, mkF, argsToLocals, Value.category]; done) | rfl) ?_
  intro p e s m below meth c T0 X0
  refine own_aloadN X0 rfl rfl own_d_prog_21_method_3_code_0 (pc' := 1) rfl ?_
  refine own_getF X0 (hw _ (List.mem_of_getElem? (i := 21) rfl)) F3 own_d_prog_21_method_3_code_1 (pc' := 4) rfl fun T23 X23 => ?_
  refine own_dconst0 X23 (v := (0 : UInt64)) rfl own_d_prog_21_method_3_code_4 (pc' := 5) rfl ?_
  have f24 : own_D 0 0 (0 : Int) (0 : UInt64) := own_D.lit (s := false) (c := 0) (q := -1074) (by decide +kernel) (by decide +kernel) (by decide)
  refine own_dcmp X23 (D_x0.cmp f24) own_d_prog_21_method_3_code_5 (pc' := 6) rfl ?_
  have c25 : (0 : Int) = (0 : Int) := rfl
  refine own_ifF X23 (own_c3_eq c25).2 own_d_prog_21_method_3_code_6 (pc' := 9) rfl ?_
  refine own_iconst X23 (v := (1 : Int32)) (by decide) own_d_prog_21_method_3_code_9 (pc' := 10) rfl ?_
  refine own_goto X23 own_d_prog_21_method_3_code_10 (pc' := 14) (by decide) (by decide) ?_
  exact own_retZ X23 (by decide) own_d_prog_21_method_3_code_14 rfl (by decide) (by decide) ⟨rfl, rfl⟩
abbrev own_rm_own_init_np : Room := ({ frames := 2, cells := 0, slots := 0, locals := 24 } : Room)
set_option maxRecDepth 65536 in
set_option maxHeartbeats 40000000 in
theorem own_init_np (l : Launch) (Z : State) (a0 : Array Value) (hw : ∀ d ∈ tables_1, d.before a0 Z = true) (a1 : Addr) (q1 q2 : Int32) (x0 : UInt64) (k0 b0 : Nat) (i_x0 : Int)  (h0 : Heap) (n0 : Nat) (Z0 : n0 ≤ h0.size) (ge1 : n0 ≤ a1) (A1 : Exa Z h0 a1 "com/example/kourier/kourier/metric/Position") (F1 : Fld Z h0 a1 "com/example/kourier/kourier/metric/Position" "from" "I" (.int (0 : Int32))) (F2 : Fld Z h0 a1 "com/example/kourier/kourier/metric/Position" "toward" "I" (.int (0 : Int32))) (F3 : Fld Z h0 a1 "com/example/kourier/kourier/metric/Position" "offset" "D" (.double (0 : UInt64))) (D_x0 : own_D k0 b0 i_x0 x0) (hi : 0 < i_x0) (hq : ¬ q1 = q2) :
    own_Met l Z ({ cls := "com/example/kourier/kourier/metric/Position", name := "<init>", desc := "(IID)V" } : Jvm.MethodName) prog_21_method_1_code 5 none [] own_rm_own_init_np #[(.ref a1), (.int q1), (.int q2), (.double x0)] h0 n0 (fun v h => v = none ∧ Exa Z h a1 "com/example/kourier/kourier/metric/Position" ∧ Fld Z h a1 "com/example/kourier/kourier/metric/Position" "from" "I" (.int q1) ∧ Fld Z h a1 "com/example/kourier/kourier/metric/Position" "toward" "I" (.int q2) ∧ Fld Z h a1 "com/example/kourier/kourier/metric/Position" "offset" "D" (.double x0)) := by
  refine own_meet (plainFor_of_name own_pn1) Z0 (Ls0 := #[.val (.ref a1), .val (.int q1), .val (.int q2), .val (.double x0), .second]) (by intro m; first | (simp [entryFrame, mkF, argsToLocals, Value.category]; done) | rfl) ?_
  intro p e s m below meth c T0 X0
  refine own_aloadN X0 rfl rfl own_d_prog_21_method_1_code_0 (pc' := 1) rfl ?_
  refine own_special X0 (own_rec l Z a0 hw a1 _ n0 X0.le) rfl rfl (hw _ (List.mem_of_getElem? (i := 8) rfl)) (hw _ (List.mem_of_getElem? (i := 9) rfl)) (hw _ (List.mem_of_getElem? (i := 11) rfl)) (hw _ (List.mem_of_getElem? (i := 12) rfl)) (by decide) rfl (by decide) (W := 0) (Nat.le_of_eq rfl) (by decide) (cells' := 0) (slots' := 0) rfl rfl (by decide) (by decide) (argsL := []) (rest := []) (lenOf own_pd0 rfl) rfl rfl own_d_prog_21_method_1_code_1 (pc' := 4) rfl ?_
  rintro _ T26 h26 X26 ⟨rfl, e26⟩
  subst e26
  show own_Goal p e below _ T26 (mkF m 4 #[.val (.ref a1), .val (.int q1), .val (.int q2), .val (.double x0), .second] [])
  refine own_dloadN X26 rfl own_d_prog_21_method_1_code_4 (pc' := 5) rfl ?_
  refine own_dconst0 X26 (v := (0 : UInt64)) rfl own_d_prog_21_method_1_code_5 (pc' := 6) rfl ?_
  have f27 : own_D 0 0 (0 : Int) (0 : UInt64) := own_D.lit (s := false) (c := 0) (q := -1074) (by decide +kernel) (by decide +kernel) (by decide)
  have f28 : own_D k0 0 (0 : Int) (0 : UInt64) := own_D.zero (s := false) (by decide +kernel) _
  refine own_dcmp X26 (D_x0.cmp f28) own_d_prog_21_method_1_code_6 (pc' := 7) rfl ?_
  have c29 : ¬ (i_x0 < (0 : Int)) := by omega
  refine own_ifF X26 (own_c3_nlt c29).1 own_d_prog_21_method_1_code_7 (pc' := 10) rfl ?_
  refine own_dloadN X26 rfl own_d_prog_21_method_1_code_10 (pc' := 11) rfl ?_
  refine own_ldcD X26 (v := (9218868437227405312 : UInt64)) (hw _ (List.mem_of_getElem? (i := 16) rfl)) own_d_prog_21_method_1_code_11 (pc' := 14) rfl ?_
  refine own_dcmp X26 (v := (-1 : Int32)) (dcmp_pinf D_x0.isFin _) own_d_prog_21_method_1_code_14 (pc' := 15) rfl ?_
  refine own_ifT X26 (by decide) own_d_prog_21_method_1_code_15 (pc' := 32) (by decide) (by decide) ?_
  refine own_dloadN X26 rfl own_d_prog_21_method_1_code_32 (pc' := 33) rfl ?_
  refine own_dconst0 X26 (v := (0 : UInt64)) rfl own_d_prog_21_method_1_code_33 (pc' := 34) rfl ?_
  have f30 : own_D 0 0 (0 : Int) (0 : UInt64) := own_D.lit (s := false) (c := 0) (q := -1074) (by decide +kernel) (by decide +kernel) (by decide)
  have f31 : own_D k0 0 (0 : Int) (0 : UInt64) := own_D.zero (s := false) (by decide +kernel) _
  refine own_dcmp X26 (D_x0.cmp f31) own_d_prog_21_method_1_code_34 (pc' := 35) rfl ?_
  have c32 : ¬ (i_x0 = (0 : Int)) := by omega
  refine own_ifT X26 (own_c3_ne c32).2 own_d_prog_21_method_1_code_35 (pc' := 42) (by decide) (by decide) ?_
  refine own_iconst X26 (v := (0 : Int32)) (by decide) own_d_prog_21_method_1_code_42 (pc' := 43) rfl ?_
  refine own_iloadN X26 rfl own_d_prog_21_method_1_code_43 (pc' := 44) rfl ?_
  refine own_iloadN X26 rfl own_d_prog_21_method_1_code_44 (pc' := 45) rfl ?_
  have c33 : ¬ (q1 = q2) := hq
  refine own_icmpT X26 (own_i_ne c33).2 own_d_prog_21_method_1_code_45 (pc' := 52) (by decide) (by decide) ?_
  refine own_iconst X26 (v := (0 : Int32)) (by decide) own_d_prog_21_method_1_code_52 (pc' := 53) rfl ?_
  refine own_icmpT X26 (by decide) own_d_prog_21_method_1_code_53 (pc' := 72) (by decide) (by decide) ?_
  refine own_aloadN X26 rfl rfl own_d_prog_21_method_1_code_72 (pc' := 73) rfl ?_
  refine own_iloadN X26 rfl own_d_prog_21_method_1_code_73 (pc' := 74) rfl ?_
  refine own_putF X26 (hw _ (List.mem_of_getElem? (i := 17) rfl)) F1 A1 (Or.inr ⟨(hw _ (List.mem_of_getElem? (i := 18) rfl)), rfl, rfl⟩) (hw _ (List.mem_of_getElem? (i := 3) rfl)) (ty := .int) (by decide) rfl rfl ge1 own_d_prog_21_method_1_code_74 (pc' := 77) rfl fun T34 h34 X34 W34 => ?_
  have A35 := A1.wr W34
  have F36 := F1.same W34
  have F37 := F2.other W34 (Or.inr (slot_ne (C := "com/example/kourier/kourier/metric/Position") (Or.inr (hw _ (List.mem_of_getElem? (i := 20) rfl))) (Or.inr (hw _ (List.mem_of_getElem? (i := 18) rfl))) (by decide) (t := .int) (t' := .int) (by decide) (by decide)))
  have F38 := F3.other W34 (Or.inr (slot_ne (C := "com/example/kourier/kourier/metric/Position") (Or.inr (hw _ (List.mem_of_getElem? (i := 22) rfl))) (Or.inr (hw _ (List.mem_of_getElem? (i := 18) rfl))) (by decide) (t := .double) (t' := .int) (by decide) (by decide)))
  refine own_aloadN X34 rfl rfl own_d_prog_21_method_1_code_77 (pc' := 78) rfl ?_
  refine own_iloadN X34 rfl own_d_prog_21_method_1_code_78 (pc' := 79) rfl ?_
  refine own_putF X34 (hw _ (List.mem_of_getElem? (i := 19) rfl)) F37 A35 (Or.inr ⟨(hw _ (List.mem_of_getElem? (i := 20) rfl)), rfl, rfl⟩) (hw _ (List.mem_of_getElem? (i := 3) rfl)) (ty := .int) (by decide) rfl rfl ge1 own_d_prog_21_method_1_code_79 (pc' := 82) rfl fun T39 h39 X39 W39 => ?_
  have A40 := A35.wr W39
  have F41 := F37.same W39
  have F42 := F36.other W39 (Or.inr (slot_ne (C := "com/example/kourier/kourier/metric/Position") (Or.inr (hw _ (List.mem_of_getElem? (i := 18) rfl))) (Or.inr (hw _ (List.mem_of_getElem? (i := 20) rfl))) (by decide) (t := .int) (t' := .int) (by decide) (by decide)))
  have F43 := F38.other W39 (Or.inr (slot_ne (C := "com/example/kourier/kourier/metric/Position") (Or.inr (hw _ (List.mem_of_getElem? (i := 22) rfl))) (Or.inr (hw _ (List.mem_of_getElem? (i := 20) rfl))) (by decide) (t := .double) (t' := .int) (by decide) (by decide)))
  refine own_aloadN X39 rfl rfl own_d_prog_21_method_1_code_82 (pc' := 83) rfl ?_
  refine own_dloadN X39 rfl own_d_prog_21_method_1_code_83 (pc' := 84) rfl ?_
  refine own_putF X39 (hw _ (List.mem_of_getElem? (i := 21) rfl)) F43 A40 (Or.inr ⟨(hw _ (List.mem_of_getElem? (i := 22) rfl)), rfl, rfl⟩) (hw _ (List.mem_of_getElem? (i := 3) rfl)) (ty := .double) (by decide) rfl rfl ge1 own_d_prog_21_method_1_code_84 (pc' := 87) rfl fun T44 h44 X44 W44 => ?_
  have A45 := A40.wr W44
  have F46 := F43.same W44
  have F47 := F41.other W44 (Or.inr (slot_ne (C := "com/example/kourier/kourier/metric/Position") (Or.inr (hw _ (List.mem_of_getElem? (i := 20) rfl))) (Or.inr (hw _ (List.mem_of_getElem? (i := 22) rfl))) (by decide) (t := .int) (t' := .double) (by decide) (by decide)))
  have F48 := F42.other W44 (Or.inr (slot_ne (C := "com/example/kourier/kourier/metric/Position") (Or.inr (hw _ (List.mem_of_getElem? (i := 18) rfl))) (Or.inr (hw _ (List.mem_of_getElem? (i := 22) rfl))) (by decide) (t := .int) (t' := .double) (by decide) (by decide)))
  exact own_retV X44  own_d_prog_21_method_1_code_87 rfl (by decide) (by decide) ⟨rfl, A45, F48, F47, F46⟩
abbrev own_rm_own_isp_np : Room := ({ frames := 0, cells := 0, slots := 0, locals := 0 } : Room)
set_option maxRecDepth 65536 in
set_option maxHeartbeats 40000000 in
theorem own_isp_np (l : Launch) (Z : State) (a0 : Array Value) (hw : ∀ d ∈ tables_1, d.before a0 Z = true) (a1 : Addr) (x0 : UInt64) (k0 b0 : Nat) (i_x0 : Int)  (h0 : Heap) (n0 : Nat) (Z0 : n0 ≤ h0.size) (F3 : Fld Z h0 a1 "com/example/kourier/kourier/metric/Position" "offset" "D" (.double x0)) (D_x0 : own_D k0 b0 i_x0 x0) (hi : 0 < i_x0) :
    own_Met l Z ({ cls := "com/example/kourier/kourier/metric/Position", name := "isPoint", desc := "()Z" } : Jvm.MethodName) prog_21_method_3_code 1 (some .boolean) [] own_rm_own_isp_np #[(.ref a1)] h0 n0 (fun v h => v = some (.int 0) ∧ h = h0) := by
  refine own_meet (plainFor_of_name own_pn1) Z0 (Ls0 := #[.val (.ref a1)]) (by intro m; first | (simp [entryFrame, mkF, argsToLocals, Value.category]; done) | rfl) ?_
  intro p e s m below meth c T0 X0
  refine own_aloadN X0 rfl rfl own_d_prog_21_method_3_code_0 (pc' := 1) rfl ?_
  refine own_getF X0 (hw _ (List.mem_of_getElem? (i := 21) rfl)) F3 own_d_prog_21_method_3_code_1 (pc' := 4) rfl fun T49 X49 => ?_
  refine own_dconst0 X49 (v := (0 : UInt64)) rfl own_d_prog_21_method_3_code_4 (pc' := 5) rfl ?_
  have f50 : own_D 0 0 (0 : Int) (0 : UInt64) := own_D.lit (s := false) (c := 0) (q := -1074) (by decide +kernel) (by decide +kernel) (by decide)
  have f51 : own_D k0 0 (0 : Int) (0 : UInt64) := own_D.zero (s := false) (by decide +kernel) _
  refine own_dcmp X49 (D_x0.cmp f51) own_d_prog_21_method_3_code_5 (pc' := 6) rfl ?_
  have c52 : ¬ (i_x0 = (0 : Int)) := by omega
  refine own_ifT X49 (own_c3_ne c52).2 own_d_prog_21_method_3_code_6 (pc' := 13) (by decide) (by decide) ?_
  refine own_iconst X49 (v := (0 : Int32)) (by decide) own_d_prog_21_method_3_code_13 (pc' := 14) rfl ?_
  exact own_retZ X49 (by decide) own_d_prog_21_method_3_code_14 rfl (by decide) (by decide) ⟨rfl, rfl⟩
theorem own_d_prog_21_method_4_code_0 : decode prog_21_method_4_code 0 = .ok (.aload_n 0, 1) := by decide +kernel
theorem own_d_prog_21_method_4_code_1 : decode prog_21_method_4_code 1 = .ok (.invokevirtual 39, 3) := by decide +kernel
theorem own_d_prog_21_method_4_code_4 : decode prog_21_method_4_code 4 = .ok (.ifCond .eq 15, 3) := by decide +kernel
theorem own_d_prog_21_method_4_code_7 : decode prog_21_method_4_code 7 = .ok (.aload_n 0, 1) := by decide +kernel
theorem own_d_prog_21_method_4_code_8 : decode prog_21_method_4_code 8 = .ok (.getfield 23, 3) := by decide +kernel
theorem own_d_prog_21_method_4_code_11 : decode prog_21_method_4_code 11 = .ok (.iload_n 1, 1) := by decide +kernel
theorem own_d_prog_21_method_4_code_12 : decode prog_21_method_4_code 12 = .ok (.if_icmp .ne 7, 3) := by decide +kernel
theorem own_d_prog_21_method_4_code_15 : decode prog_21_method_4_code 15 = .ok (.iconst 1, 1) := by decide +kernel
theorem own_d_prog_21_method_4_code_16 : decode prog_21_method_4_code 16 = .ok (.goto 4, 3) := by decide +kernel
theorem own_d_prog_21_method_4_code_19 : decode prog_21_method_4_code 19 = .ok (.iconst 0, 1) := by decide +kernel
theorem own_d_prog_21_method_4_code_20 : decode prog_21_method_4_code 20 = .ok (.ireturn, 1) := by decide +kernel
theorem own_pd3 : parseMethodDescriptor "(I)Z" = some ⟨[.int], some .boolean⟩ := by decide +kernel
abbrev own_rm_own_at_pt : Room := ({ frames := 1, cells := 0, slots := 0, locals := 12 } : Room)
set_option maxRecDepth 65536 in
set_option maxHeartbeats 40000000 in
theorem own_at_pt (l : Launch) (Z : State) (a0 : Array Value) (hw : ∀ d ∈ tables_1, d.before a0 Z = true) (a1 : Addr) (q1 q3 : Int32) (x0 : UInt64)  (h0 : Heap) (n0 : Nat) (Z0 : n0 ≤ h0.size) (A1 : Exa Z h0 a1 "com/example/kourier/kourier/metric/Position") (F1 : Fld Z h0 a1 "com/example/kourier/kourier/metric/Position" "from" "I" (.int q1)) (F3 : Fld Z h0 a1 "com/example/kourier/kourier/metric/Position" "offset" "D" (.double x0)) (D_x0 : own_D 0 0 0 x0) :
    own_Met l Z ({ cls := "com/example/kourier/kourier/metric/Position", name := "isAt", desc := "(I)Z" } : Jvm.MethodName) prog_21_method_4_code 2 (some .boolean) [] own_rm_own_at_pt #[(.ref a1), (.int q3)] h0 n0 (fun v h => v = some (.int (if q1 = q3 then 1 else 0)) ∧ h = h0) := by
  refine own_meet (plainFor_of_name own_pn1) Z0 (Ls0 := #[.val (.ref a1), .val (.int q3)]) (by intro m; first | (simp [entryFrame, mkF, argsToLocals, Value.category]; done) | rfl) ?_
  intro p e s m below meth c T0 X0
  refine own_aloadN X0 rfl rfl own_d_prog_21_method_4_code_0 (pc' := 1) rfl ?_
  refine own_virtual X0 (own_isp_pt l Z a0 hw a1 x0  _ n0 X0.le F3 D_x0 ) (C := "com/example/kourier/kourier/metric/Position") rfl (hw _ (List.mem_of_getElem? (i := 28) rfl)) (hw _ (List.mem_of_getElem? (i := 29) rfl)) (hw _ (List.mem_of_getElem? (i := 31) rfl)) (hw _ (List.mem_of_getElem? (i := 30) rfl)) (hw _ (List.mem_of_getElem? (i := 4) rfl)) (hw _ (List.mem_of_getElem? (i := 32) rfl)) (by decide) rfl (by decide) (W := 0) (Nat.le_of_eq rfl) (by decide) (cells' := 0) (slots' := 0) rfl rfl (by decide) (by decide) A1 (argsL := []) (rest := []) (lenOf own_pd2 rfl) rfl rfl own_d_prog_21_method_4_code_1 (pc' := 4) rfl ?_
  rintro _ T53 h53 X53 ⟨rfl, e53⟩
  subst e53
  show own_Goal p e below _ T53 (mkF m 4 #[.val (.ref a1), .val (.int q3)] [(.int (1 : Int32))])
  refine own_ifF X53 (by decide) own_d_prog_21_method_4_code_4 (pc' := 7) rfl ?_
  refine own_aloadN X53 rfl rfl own_d_prog_21_method_4_code_7 (pc' := 8) rfl ?_
  refine own_getF X53 (hw _ (List.mem_of_getElem? (i := 17) rfl)) F1 own_d_prog_21_method_4_code_8 (pc' := 11) rfl fun T54 X54 => ?_
  refine own_iloadN X54 rfl own_d_prog_21_method_4_code_11 (pc' := 12) rfl ?_
  by_cases c55 : q1 = q3
  · -- yes c55
    refine own_icmpF X54 (own_i_eq c55).2 own_d_prog_21_method_4_code_12 (pc' := 15) rfl ?_
    refine own_iconst X54 (v := (1 : Int32)) (by decide) own_d_prog_21_method_4_code_15 (pc' := 16) rfl ?_
    refine own_goto X54 own_d_prog_21_method_4_code_16 (pc' := 20) (by decide) (by decide) ?_
    exact own_retZ X54 (by decide) own_d_prog_21_method_4_code_20 rfl (by decide) (by decide) ⟨by rw [if_pos c55], rfl⟩
  · -- no c55
    refine own_icmpT X54 (own_i_ne c55).2 own_d_prog_21_method_4_code_12 (pc' := 19) (by decide) (by decide) ?_
    refine own_iconst X54 (v := (0 : Int32)) (by decide) own_d_prog_21_method_4_code_19 (pc' := 20) rfl ?_
    exact own_retZ X54 (by decide) own_d_prog_21_method_4_code_20 rfl (by decide) (by decide) ⟨by rw [if_neg c55], rfl⟩
abbrev own_rm_own_at_np : Room := ({ frames := 1, cells := 0, slots := 0, locals := 12 } : Room)
set_option maxRecDepth 65536 in
set_option maxHeartbeats 40000000 in
theorem own_at_np (l : Launch) (Z : State) (a0 : Array Value) (hw : ∀ d ∈ tables_1, d.before a0 Z = true) (a1 : Addr) (q1 q3 : Int32) (x0 : UInt64) (k0 b0 : Nat) (i_x0 : Int)  (h0 : Heap) (n0 : Nat) (Z0 : n0 ≤ h0.size) (A1 : Exa Z h0 a1 "com/example/kourier/kourier/metric/Position") (F1 : Fld Z h0 a1 "com/example/kourier/kourier/metric/Position" "from" "I" (.int q1)) (F3 : Fld Z h0 a1 "com/example/kourier/kourier/metric/Position" "offset" "D" (.double x0)) (D_x0 : own_D k0 b0 i_x0 x0) (hi : 0 < i_x0) :
    own_Met l Z ({ cls := "com/example/kourier/kourier/metric/Position", name := "isAt", desc := "(I)Z" } : Jvm.MethodName) prog_21_method_4_code 2 (some .boolean) [] own_rm_own_at_np #[(.ref a1), (.int q3)] h0 n0 (fun v h => v = some (.int 0) ∧ h = h0) := by
  refine own_meet (plainFor_of_name own_pn1) Z0 (Ls0 := #[.val (.ref a1), .val (.int q3)]) (by intro m; first | (simp [entryFrame, mkF, argsToLocals, Value.category]; done) | rfl) ?_
  intro p e s m below meth c T0 X0
  refine own_aloadN X0 rfl rfl own_d_prog_21_method_4_code_0 (pc' := 1) rfl ?_
  refine own_virtual X0 (own_isp_np l Z a0 hw a1 x0 k0 b0 i_x0  _ n0 X0.le F3 D_x0 hi) (C := "com/example/kourier/kourier/metric/Position") rfl (hw _ (List.mem_of_getElem? (i := 28) rfl)) (hw _ (List.mem_of_getElem? (i := 29) rfl)) (hw _ (List.mem_of_getElem? (i := 31) rfl)) (hw _ (List.mem_of_getElem? (i := 30) rfl)) (hw _ (List.mem_of_getElem? (i := 4) rfl)) (hw _ (List.mem_of_getElem? (i := 32) rfl)) (by decide) rfl (by decide) (W := 0) (Nat.le_of_eq rfl) (by decide) (cells' := 0) (slots' := 0) rfl rfl (by decide) (by decide) A1 (argsL := []) (rest := []) (lenOf own_pd2 rfl) rfl rfl own_d_prog_21_method_4_code_1 (pc' := 4) rfl ?_
  rintro _ T56 h56 X56 ⟨rfl, e56⟩
  subst e56
  show own_Goal p e below _ T56 (mkF m 4 #[.val (.ref a1), .val (.int q3)] [(.int (0 : Int32))])
  refine own_ifT X56 (by decide) own_d_prog_21_method_4_code_4 (pc' := 19) (by decide) (by decide) ?_
  refine own_iconst X56 (v := (0 : Int32)) (by decide) own_d_prog_21_method_4_code_19 (pc' := 20) rfl ?_
  exact own_retZ X56 (by decide) own_d_prog_21_method_4_code_20 rfl (by decide) (by decide) ⟨rfl, rfl⟩
theorem own_pn2 : plainName "com/example/kourier/kourier/metric/PositionIsAtPinLaw" = true := by first | (simp [plainName, overriddenIn]; done) | decide +kernel
set_option maxRecDepth 65536 in
set_option maxHeartbeats 40000000 in
theorem own_law (l : Launch) (Z : State) (a0 : Array Value) (hw : ∀ d ∈ tables_1, d.before a0 Z = true) (ws : List Jvm.Cond) (p0 : Int32) (p1 : Int32) (p2 : Int32) (p3 : Int32) (p4 : Int32) (h0 : Heap) (n0 : Nat) (Z0 : n0 ≤ h0.size)  :
    own_Met l Z x code maxLocals ret ws room_1 #[(.int p0), (.int p1), (.int p2), (.int p3), (.int p4)] h0 n0 (fun v _ => v = some (.int 1)) := by
  refine own_meet (plainFor_of_name own_pn2) Z0 (Ls0 := #[.val (.int p0), .val (.int p1), .val (.int p2), .val (.int p3), .val (.int p4), .unset, .unset, .unset, .unset, .unset, .unset, .unset]) (by intro m; first | (simp [entryFrame, mkF, argsToLocals, Value.category, maxLocals]; done) | rfl) ?_
  intro p e s m below meth c T0 X0
  refine own_iload X0 rfl at_0 (pc' := 2) rfl ?_
  refine own_iconst X0 (v := (1 : Int32)) (by decide) at_2 (pc' := 3) rfl ?_
  obtain ⟨i57, e57⟩ : ∃ v, p4 &&& (1 : Int32) = v := ⟨_, rfl⟩
  have f57 : own_I 1 i57.toInt i57 := own_I.and e57 (by decide)
  have nn57 := own_and_nn (M := 1) e57 (by decide)
  refine own_iand X0 e57 at_3 (pc' := 4) rfl ?_
  by_cases c58 : i57 = 0
  · -- yes c58
    refine own_ifT X0 (own_z_eq c58).1 at_4 (pc' := 11) (by decide) (by decide) ?_
    refine own_iloadN X0 rfl at_11 (pc' := 12) rfl ?_
    refine own_istore X0 (Ls' := #[.val (.int p0), .val (.int p1), .val (.int p2), .val (.int p3), .val (.int p4), .val (.int p1), .unset, .unset, .unset, .unset, .unset, .unset]) rfl at_12 (pc' := 14) rfl ?_
    refine own_iloadN X0 rfl at_14 (pc' := 15) rfl ?_
    refine own_iload X0 rfl at_15 (pc' := 17) rfl ?_
    by_cases c59 : p0 = p1
    · -- yes c59
      refine own_icmpF X0 (own_i_eq c59).2 at_17 (pc' := 20) rfl ?_
      refine own_dconst0 X0 (v := (0 : UInt64)) rfl at_20 (pc' := 21) rfl ?_
      refine own_goto X0 at_21 (pc' := 35) (by decide) (by decide) ?_
      refine own_dstore X0 (Ls' := #[.val (.int p0), .val (.int p1), .val (.int p2), .val (.int p3), .val (.int p4), .val (.int p1), .val (.double (0 : UInt64)), .second, .unset, .unset, .unset, .unset]) rfl at_35 (pc' := 37) rfl ?_
      refine own_iload X0 rfl at_37 (pc' := 39) rfl ?_
      refine own_iconst X0 (v := (1 : Int32)) (by decide) at_39 (pc' := 40) rfl ?_
      obtain ⟨i60, e60⟩ : ∃ v, XT.ushr p4 (1 : Int32) = v := ⟨_, rfl⟩
      refine own_iushr X0 e60 at_40 (pc' := 41) rfl ?_
      refine own_iconst X0 (v := (3 : Int32)) (by decide) at_41 (pc' := 42) rfl ?_
      obtain ⟨i61, e61⟩ : ∃ v, i60 &&& (3 : Int32) = v := ⟨_, rfl⟩
      have f61 : own_I 3 i61.toInt i61 := own_I.and e61 (by decide)
      have nn61 := own_and_nn (M := 3) e61 (by decide)
      refine own_iand X0 e61 at_42 (pc' := 43) rfl ?_
      rcases own_cases4 nn61 with rfl | rfl | rfl | rfl
      · -- 0
        refine own_istore X0 (Ls' := #[.val (.int p0), .val (.int p1), .val (.int p2), .val (.int p3), .val (.int p4), .val (.int p1), .val (.double (0 : UInt64)), .second, .val (.int (0 : Int32)), .unset, .unset, .unset]) rfl at_43 (pc' := 45) rfl ?_
        refine own_iload X0 rfl at_45 (pc' := 47) rfl ?_
        refine own_iconst X0 (v := (1 : Int32)) (by decide) at_47 (pc' := 48) rfl ?_
        refine own_icmpT X0 (by decide) at_48 (pc' := 57) (by decide) (by decide) ?_
        refine own_iload X0 rfl at_57 (pc' := 59) rfl ?_
        refine own_iconst X0 (v := (2 : Int32)) (by decide) at_59 (pc' := 60) rfl ?_
        refine own_icmpT X0 (by decide) at_60 (pc' := 70) (by decide) (by decide) ?_
        refine own_iloadN X0 rfl at_70 (pc' := 71) rfl ?_
        refine own_istore X0 (Ls' := #[.val (.int p0), .val (.int p1), .val (.int p2), .val (.int p3), .val (.int p4), .val (.int p1), .val (.double (0 : UInt64)), .second, .val (.int (0 : Int32)), .val (.int p3), .unset, .unset]) rfl at_71 (pc' := 73) rfl ?_
        refine own_new X0 (hw _ (List.mem_of_getElem? (i := 2) rfl)) (hw _ (List.mem_of_getElem? (i := 3) rfl)) (hw _ (List.mem_of_getElem? (i := 4) rfl)) (cells' := 1) (slots' := 3) rfl rfl (by decide) (by decide) at_73 (pc' := 76) rfl fun a62 T62 h62 g62 ge62 X62 E62 A62 D62 => ?_
        have F63 : Fld Z h62 a62 "com/example/kourier/kourier/metric/Position" "from" "I" (.int (0 : Int32)) := D62 (Or.inr (hw _ (List.mem_of_getElem? (i := 18) rfl))) (ty := .int) (by decide)
        have F64 : Fld Z h62 a62 "com/example/kourier/kourier/metric/Position" "toward" "I" (.int (0 : Int32)) := D62 (Or.inr (hw _ (List.mem_of_getElem? (i := 20) rfl))) (ty := .int) (by decide)
        have F65 : Fld Z h62 a62 "com/example/kourier/kourier/metric/Position" "offset" "D" (.double (0 : UInt64)) := D62 (Or.inr (hw _ (List.mem_of_getElem? (i := 22) rfl))) (ty := .double) (by decide)
        refine own_dup X62 rfl at_76 (pc' := 77) rfl ?_
        refine own_iloadN X62 rfl at_77 (pc' := 78) rfl ?_
        refine own_iload X62 rfl at_78 (pc' := 80) rfl ?_
        refine own_dload X62 rfl at_80 (pc' := 82) rfl ?_
        have f66 : own_D 0 0 (0 : Int) (0 : UInt64) := own_D.lit (s := false) (c := 0) (q := -1074) (by decide +kernel) (by decide +kernel) (by decide)
        refine own_special X62 (own_init_pt l Z a0 hw a62 p0 p1 (0 : UInt64)  _ n0 X62.le ge62 A62 F63 F64 F65 f66  c59) rfl rfl (hw _ (List.mem_of_getElem? (i := 5) rfl)) (hw _ (List.mem_of_getElem? (i := 6) rfl)) (hw _ (List.mem_of_getElem? (i := 4) rfl)) (hw _ (List.mem_of_getElem? (i := 7) rfl)) (by decide) rfl (by decide) (W := 1) (Nat.le_of_eq rfl) (by decide) (cells' := 1) (slots' := 3) rfl rfl (by decide) (by decide) (argsL := [(.int p0), (.int p1), (.double (0 : UInt64))]) (rest := [(.ref a62)]) (lenOf own_pd1 rfl) rfl rfl at_82 (pc' := 85) rfl ?_
        rintro _ T67 h67 X67 ⟨rfl, A67, F67a, F67b, F67c⟩
        show own_Goal p e below _ T67 (mkF m 85 #[.val (.int p0), .val (.int p1), .val (.int p2), .val (.int p3), .val (.int p4), .val (.int p1), .val (.double (0 : UInt64)), .second, .val (.int (0 : Int32)), .val (.int p3), .unset, .unset] [(.ref a62)])
        refine own_astore X67 (Ls' := #[.val (.int p0), .val (.int p1), .val (.int p2), .val (.int p3), .val (.int p4), .val (.int p1), .val (.double (0 : UInt64)), .second, .val (.int (0 : Int32)), .val (.int p3), .val (.ref a62), .unset]) rfl rfl at_85 (pc' := 87) rfl ?_
        refine own_iloadN X67 rfl at_87 (pc' := 88) rfl ?_
        refine own_iload X67 rfl at_88 (pc' := 90) rfl ?_
        have c68 : p0 = p1 := c59
        refine own_icmpF X67 (own_i_eq c68).2 at_90 (pc' := 93) rfl ?_
        refine own_iload X67 rfl at_93 (pc' := 95) rfl ?_
        refine own_iloadN X67 rfl at_95 (pc' := 96) rfl ?_
        by_cases c69 : p3 = p0
        · -- yes c69
          refine own_icmpF X67 (own_i_eq c69).2 at_96 (pc' := 99) rfl ?_
          refine own_iconst X67 (v := (1 : Int32)) (by decide) at_99 (pc' := 100) rfl ?_
          refine own_goto X67 at_100 (pc' := 104) (by decide) (by decide) ?_
          refine own_istore X67 (Ls' := #[.val (.int p0), .val (.int p1), .val (.int p2), .val (.int p3), .val (.int p4), .val (.int p1), .val (.double (0 : UInt64)), .second, .val (.int (0 : Int32)), .val (.int p3), .val (.ref a62), .val (.int (1 : Int32))]) rfl at_104 (pc' := 106) rfl ?_
          refine own_aload X67 rfl rfl at_106 (pc' := 108) rfl ?_
          refine own_iload X67 rfl at_108 (pc' := 110) rfl ?_
          refine own_virtual X67 (own_at_pt l Z a0 hw a62 p0 p3 (0 : UInt64)  _ n0 X67.le A67 F67a F67c f66 ) (C := "com/example/kourier/kourier/metric/Position") rfl (hw _ (List.mem_of_getElem? (i := 23) rfl)) (hw _ (List.mem_of_getElem? (i := 24) rfl)) (hw _ (List.mem_of_getElem? (i := 26) rfl)) (hw _ (List.mem_of_getElem? (i := 25) rfl)) (hw _ (List.mem_of_getElem? (i := 4) rfl)) (hw _ (List.mem_of_getElem? (i := 27) rfl)) (by decide) rfl (by decide) (W := 0) (Nat.le_of_eq rfl) (by decide) (cells' := 1) (slots' := 3) rfl rfl (by decide) (by decide) A67 (argsL := [(.int p3)]) (rest := []) (lenOf own_pd3 rfl) rfl rfl at_110 (pc' := 113) rfl ?_
          rintro _ T70 h70 X70 ⟨rfl, e70⟩
          subst e70
          show own_Goal p e below _ T70 (mkF m 113 #[.val (.int p0), .val (.int p1), .val (.int p2), .val (.int p3), .val (.int p4), .val (.int p1), .val (.double (0 : UInt64)), .second, .val (.int (0 : Int32)), .val (.int p3), .val (.ref a62), .val (.int (1 : Int32))] [(.int (if p0 = p3 then 1 else 0 : Int32))])
          refine own_iload X70 rfl at_113 (pc' := 115) rfl ?_
          have c71 : (if p0 = p3 then 1 else 0 : Int32) = (1 : Int32) := if_pos (Eq.symm c69)
          refine own_icmpF X70 (own_i_eq c71).2 at_115 (pc' := 118) rfl ?_
          refine own_iconst X70 (v := (1 : Int32)) (by decide) at_118 (pc' := 119) rfl ?_
          refine own_goto X70 at_119 (pc' := 123) (by decide) (by decide) ?_
          exact own_retZ X70 (by decide) at_123 rfl (by decide) (by decide) rfl
        · -- no c69
          refine own_icmpT X67 (own_i_ne c69).2 at_96 (pc' := 103) (by decide) (by decide) ?_
          refine own_iconst X67 (v := (0 : Int32)) (by decide) at_103 (pc' := 104) rfl ?_
          refine own_istore X67 (Ls' := #[.val (.int p0), .val (.int p1), .val (.int p2), .val (.int p3), .val (.int p4), .val (.int p1), .val (.double (0 : UInt64)), .second, .val (.int (0 : Int32)), .val (.int p3), .val (.ref a62), .val (.int (0 : Int32))]) rfl at_104 (pc' := 106) rfl ?_
          refine own_aload X67 rfl rfl at_106 (pc' := 108) rfl ?_
          refine own_iload X67 rfl at_108 (pc' := 110) rfl ?_
          refine own_virtual X67 (own_at_pt l Z a0 hw a62 p0 p3 (0 : UInt64)  _ n0 X67.le A67 F67a F67c f66 ) (C := "com/example/kourier/kourier/metric/Position") rfl (hw _ (List.mem_of_getElem? (i := 23) rfl)) (hw _ (List.mem_of_getElem? (i := 24) rfl)) (hw _ (List.mem_of_getElem? (i := 26) rfl)) (hw _ (List.mem_of_getElem? (i := 25) rfl)) (hw _ (List.mem_of_getElem? (i := 4) rfl)) (hw _ (List.mem_of_getElem? (i := 27) rfl)) (by decide) rfl (by decide) (W := 0) (Nat.le_of_eq rfl) (by decide) (cells' := 1) (slots' := 3) rfl rfl (by decide) (by decide) A67 (argsL := [(.int p3)]) (rest := []) (lenOf own_pd3 rfl) rfl rfl at_110 (pc' := 113) rfl ?_
          rintro _ T72 h72 X72 ⟨rfl, e72⟩
          subst e72
          show own_Goal p e below _ T72 (mkF m 113 #[.val (.int p0), .val (.int p1), .val (.int p2), .val (.int p3), .val (.int p4), .val (.int p1), .val (.double (0 : UInt64)), .second, .val (.int (0 : Int32)), .val (.int p3), .val (.ref a62), .val (.int (0 : Int32))] [(.int (if p0 = p3 then 1 else 0 : Int32))])
          refine own_iload X72 rfl at_113 (pc' := 115) rfl ?_
          have c73 : (if p0 = p3 then 1 else 0 : Int32) = (0 : Int32) := if_neg fun z => c69 z.symm
          refine own_icmpF X72 (own_i_eq c73).2 at_115 (pc' := 118) rfl ?_
          refine own_iconst X72 (v := (1 : Int32)) (by decide) at_118 (pc' := 119) rfl ?_
          refine own_goto X72 at_119 (pc' := 123) (by decide) (by decide) ?_
          exact own_retZ X72 (by decide) at_123 rfl (by decide) (by decide) rfl
      · -- 1
        refine own_istore X0 (Ls' := #[.val (.int p0), .val (.int p1), .val (.int p2), .val (.int p3), .val (.int p4), .val (.int p1), .val (.double (0 : UInt64)), .second, .val (.int (1 : Int32)), .unset, .unset, .unset]) rfl at_43 (pc' := 45) rfl ?_
        refine own_iload X0 rfl at_45 (pc' := 47) rfl ?_
        refine own_iconst X0 (v := (1 : Int32)) (by decide) at_47 (pc' := 48) rfl ?_
        refine own_icmpF X0 (by decide) at_48 (pc' := 51) rfl ?_
        refine own_iloadN X0 rfl at_51 (pc' := 52) rfl ?_
        refine own_istore X0 (Ls' := #[.val (.int p0), .val (.int p1), .val (.int p2), .val (.int p3), .val (.int p4), .val (.int p1), .val (.double (0 : UInt64)), .second, .val (.int (1 : Int32)), .val (.int p0), .unset, .unset]) rfl at_52 (pc' := 54) rfl ?_
        refine own_goto X0 at_54 (pc' := 73) (by decide) (by decide) ?_
        refine own_new X0 (hw _ (List.mem_of_getElem? (i := 2) rfl)) (hw _ (List.mem_of_getElem? (i := 3) rfl)) (hw _ (List.mem_of_getElem? (i := 4) rfl)) (cells' := 1) (slots' := 3) rfl rfl (by decide) (by decide) at_73 (pc' := 76) rfl fun a74 T74 h74 g74 ge74 X74 E74 A74 D74 => ?_
        have F75 : Fld Z h74 a74 "com/example/kourier/kourier/metric/Position" "from" "I" (.int (0 : Int32)) := D74 (Or.inr (hw _ (List.mem_of_getElem? (i := 18) rfl))) (ty := .int) (by decide)
        have F76 : Fld Z h74 a74 "com/example/kourier/kourier/metric/Position" "toward" "I" (.int (0 : Int32)) := D74 (Or.inr (hw _ (List.mem_of_getElem? (i := 20) rfl))) (ty := .int) (by decide)
        have F77 : Fld Z h74 a74 "com/example/kourier/kourier/metric/Position" "offset" "D" (.double (0 : UInt64)) := D74 (Or.inr (hw _ (List.mem_of_getElem? (i := 22) rfl))) (ty := .double) (by decide)
        refine own_dup X74 rfl at_76 (pc' := 77) rfl ?_
        refine own_iloadN X74 rfl at_77 (pc' := 78) rfl ?_
        refine own_iload X74 rfl at_78 (pc' := 80) rfl ?_
        refine own_dload X74 rfl at_80 (pc' := 82) rfl ?_
        have f78 : own_D 0 0 (0 : Int) (0 : UInt64) := own_D.lit (s := false) (c := 0) (q := -1074) (by decide +kernel) (by decide +kernel) (by decide)
        refine own_special X74 (own_init_pt l Z a0 hw a74 p0 p1 (0 : UInt64)  _ n0 X74.le ge74 A74 F75 F76 F77 f78  c59) rfl rfl (hw _ (List.mem_of_getElem? (i := 5) rfl)) (hw _ (List.mem_of_getElem? (i := 6) rfl)) (hw _ (List.mem_of_getElem? (i := 4) rfl)) (hw _ (List.mem_of_getElem? (i := 7) rfl)) (by decide) rfl (by decide) (W := 1) (Nat.le_of_eq rfl) (by decide) (cells' := 1) (slots' := 3) rfl rfl (by decide) (by decide) (argsL := [(.int p0), (.int p1), (.double (0 : UInt64))]) (rest := [(.ref a74)]) (lenOf own_pd1 rfl) rfl rfl at_82 (pc' := 85) rfl ?_
        rintro _ T79 h79 X79 ⟨rfl, A79, F79a, F79b, F79c⟩
        show own_Goal p e below _ T79 (mkF m 85 #[.val (.int p0), .val (.int p1), .val (.int p2), .val (.int p3), .val (.int p4), .val (.int p1), .val (.double (0 : UInt64)), .second, .val (.int (1 : Int32)), .val (.int p0), .unset, .unset] [(.ref a74)])
        refine own_astore X79 (Ls' := #[.val (.int p0), .val (.int p1), .val (.int p2), .val (.int p3), .val (.int p4), .val (.int p1), .val (.double (0 : UInt64)), .second, .val (.int (1 : Int32)), .val (.int p0), .val (.ref a74), .unset]) rfl rfl at_85 (pc' := 87) rfl ?_
        refine own_iloadN X79 rfl at_87 (pc' := 88) rfl ?_
        refine own_iload X79 rfl at_88 (pc' := 90) rfl ?_
        have c80 : p0 = p1 := c59
        refine own_icmpF X79 (own_i_eq c80).2 at_90 (pc' := 93) rfl ?_
        refine own_iload X79 rfl at_93 (pc' := 95) rfl ?_
        refine own_iloadN X79 rfl at_95 (pc' := 96) rfl ?_
        have c81 : p0 = p0 := rfl
        refine own_icmpF X79 (own_i_eq c81).2 at_96 (pc' := 99) rfl ?_
        refine own_iconst X79 (v := (1 : Int32)) (by decide) at_99 (pc' := 100) rfl ?_
        refine own_goto X79 at_100 (pc' := 104) (by decide) (by decide) ?_
        refine own_istore X79 (Ls' := #[.val (.int p0), .val (.int p1), .val (.int p2), .val (.int p3), .val (.int p4), .val (.int p1), .val (.double (0 : UInt64)), .second, .val (.int (1 : Int32)), .val (.int p0), .val (.ref a74), .val (.int (1 : Int32))]) rfl at_104 (pc' := 106) rfl ?_
        refine own_aload X79 rfl rfl at_106 (pc' := 108) rfl ?_
        refine own_iload X79 rfl at_108 (pc' := 110) rfl ?_
        refine own_virtual X79 (own_at_pt l Z a0 hw a74 p0 p0 (0 : UInt64)  _ n0 X79.le A79 F79a F79c f78 ) (C := "com/example/kourier/kourier/metric/Position") rfl (hw _ (List.mem_of_getElem? (i := 23) rfl)) (hw _ (List.mem_of_getElem? (i := 24) rfl)) (hw _ (List.mem_of_getElem? (i := 26) rfl)) (hw _ (List.mem_of_getElem? (i := 25) rfl)) (hw _ (List.mem_of_getElem? (i := 4) rfl)) (hw _ (List.mem_of_getElem? (i := 27) rfl)) (by decide) rfl (by decide) (W := 0) (Nat.le_of_eq rfl) (by decide) (cells' := 1) (slots' := 3) rfl rfl (by decide) (by decide) A79 (argsL := [(.int p0)]) (rest := []) (lenOf own_pd3 rfl) rfl rfl at_110 (pc' := 113) rfl ?_
        rintro _ T82 h82 X82 ⟨rfl, e82⟩
        subst e82
        show own_Goal p e below _ T82 (mkF m 113 #[.val (.int p0), .val (.int p1), .val (.int p2), .val (.int p3), .val (.int p4), .val (.int p1), .val (.double (0 : UInt64)), .second, .val (.int (1 : Int32)), .val (.int p0), .val (.ref a74), .val (.int (1 : Int32))] [(.int (if p0 = p0 then 1 else 0 : Int32))])
        refine own_iload X82 rfl at_113 (pc' := 115) rfl ?_
        have c83 : (if p0 = p0 then 1 else 0 : Int32) = (1 : Int32) := if_pos (Eq.symm c81)
        refine own_icmpF X82 (own_i_eq c83).2 at_115 (pc' := 118) rfl ?_
        refine own_iconst X82 (v := (1 : Int32)) (by decide) at_118 (pc' := 119) rfl ?_
        refine own_goto X82 at_119 (pc' := 123) (by decide) (by decide) ?_
        exact own_retZ X82 (by decide) at_123 rfl (by decide) (by decide) rfl
      · -- 2
        refine own_istore X0 (Ls' := #[.val (.int p0), .val (.int p1), .val (.int p2), .val (.int p3), .val (.int p4), .val (.int p1), .val (.double (0 : UInt64)), .second, .val (.int (2 : Int32)), .unset, .unset, .unset]) rfl at_43 (pc' := 45) rfl ?_
        refine own_iload X0 rfl at_45 (pc' := 47) rfl ?_
        refine own_iconst X0 (v := (1 : Int32)) (by decide) at_47 (pc' := 48) rfl ?_
        refine own_icmpT X0 (by decide) at_48 (pc' := 57) (by decide) (by decide) ?_
        refine own_iload X0 rfl at_57 (pc' := 59) rfl ?_
        refine own_iconst X0 (v := (2 : Int32)) (by decide) at_59 (pc' := 60) rfl ?_
        refine own_icmpF X0 (by decide) at_60 (pc' := 63) rfl ?_
        refine own_iload X0 rfl at_63 (pc' := 65) rfl ?_
        refine own_istore X0 (Ls' := #[.val (.int p0), .val (.int p1), .val (.int p2), .val (.int p3), .val (.int p4), .val (.int p1), .val (.double (0 : UInt64)), .second, .val (.int (2 : Int32)), .val (.int p1), .unset, .unset]) rfl at_65 (pc' := 67) rfl ?_
        refine own_goto X0 at_67 (pc' := 73) (by decide) (by decide) ?_
        refine own_new X0 (hw _ (List.mem_of_getElem? (i := 2) rfl)) (hw _ (List.mem_of_getElem? (i := 3) rfl)) (hw _ (List.mem_of_getElem? (i := 4) rfl)) (cells' := 1) (slots' := 3) rfl rfl (by decide) (by decide) at_73 (pc' := 76) rfl fun a84 T84 h84 g84 ge84 X84 E84 A84 D84 => ?_
        have F85 : Fld Z h84 a84 "com/example/kourier/kourier/metric/Position" "from" "I" (.int (0 : Int32)) := D84 (Or.inr (hw _ (List.mem_of_getElem? (i := 18) rfl))) (ty := .int) (by decide)
        have F86 : Fld Z h84 a84 "com/example/kourier/kourier/metric/Position" "toward" "I" (.int (0 : Int32)) := D84 (Or.inr (hw _ (List.mem_of_getElem? (i := 20) rfl))) (ty := .int) (by decide)
        have F87 : Fld Z h84 a84 "com/example/kourier/kourier/metric/Position" "offset" "D" (.double (0 : UInt64)) := D84 (Or.inr (hw _ (List.mem_of_getElem? (i := 22) rfl))) (ty := .double) (by decide)
        refine own_dup X84 rfl at_76 (pc' := 77) rfl ?_
        refine own_iloadN X84 rfl at_77 (pc' := 78) rfl ?_
        refine own_iload X84 rfl at_78 (pc' := 80) rfl ?_
        refine own_dload X84 rfl at_80 (pc' := 82) rfl ?_
        have f88 : own_D 0 0 (0 : Int) (0 : UInt64) := own_D.lit (s := false) (c := 0) (q := -1074) (by decide +kernel) (by decide +kernel) (by decide)
        refine own_special X84 (own_init_pt l Z a0 hw a84 p0 p1 (0 : UInt64)  _ n0 X84.le ge84 A84 F85 F86 F87 f88  c59) rfl rfl (hw _ (List.mem_of_getElem? (i := 5) rfl)) (hw _ (List.mem_of_getElem? (i := 6) rfl)) (hw _ (List.mem_of_getElem? (i := 4) rfl)) (hw _ (List.mem_of_getElem? (i := 7) rfl)) (by decide) rfl (by decide) (W := 1) (Nat.le_of_eq rfl) (by decide) (cells' := 1) (slots' := 3) rfl rfl (by decide) (by decide) (argsL := [(.int p0), (.int p1), (.double (0 : UInt64))]) (rest := [(.ref a84)]) (lenOf own_pd1 rfl) rfl rfl at_82 (pc' := 85) rfl ?_
        rintro _ T89 h89 X89 ⟨rfl, A89, F89a, F89b, F89c⟩
        show own_Goal p e below _ T89 (mkF m 85 #[.val (.int p0), .val (.int p1), .val (.int p2), .val (.int p3), .val (.int p4), .val (.int p1), .val (.double (0 : UInt64)), .second, .val (.int (2 : Int32)), .val (.int p1), .unset, .unset] [(.ref a84)])
        refine own_astore X89 (Ls' := #[.val (.int p0), .val (.int p1), .val (.int p2), .val (.int p3), .val (.int p4), .val (.int p1), .val (.double (0 : UInt64)), .second, .val (.int (2 : Int32)), .val (.int p1), .val (.ref a84), .unset]) rfl rfl at_85 (pc' := 87) rfl ?_
        refine own_iloadN X89 rfl at_87 (pc' := 88) rfl ?_
        refine own_iload X89 rfl at_88 (pc' := 90) rfl ?_
        have c90 : p0 = p1 := c59
        refine own_icmpF X89 (own_i_eq c90).2 at_90 (pc' := 93) rfl ?_
        refine own_iload X89 rfl at_93 (pc' := 95) rfl ?_
        refine own_iloadN X89 rfl at_95 (pc' := 96) rfl ?_
        by_cases c91 : p1 = p0
        · -- yes c91
          refine own_icmpF X89 (own_i_eq c91).2 at_96 (pc' := 99) rfl ?_
          refine own_iconst X89 (v := (1 : Int32)) (by decide) at_99 (pc' := 100) rfl ?_
          refine own_goto X89 at_100 (pc' := 104) (by decide) (by decide) ?_
          refine own_istore X89 (Ls' := #[.val (.int p0), .val (.int p1), .val (.int p2), .val (.int p3), .val (.int p4), .val (.int p1), .val (.double (0 : UInt64)), .second, .val (.int (2 : Int32)), .val (.int p1), .val (.ref a84), .val (.int (1 : Int32))]) rfl at_104 (pc' := 106) rfl ?_
          refine own_aload X89 rfl rfl at_106 (pc' := 108) rfl ?_
          refine own_iload X89 rfl at_108 (pc' := 110) rfl ?_
          refine own_virtual X89 (own_at_pt l Z a0 hw a84 p0 p1 (0 : UInt64)  _ n0 X89.le A89 F89a F89c f88 ) (C := "com/example/kourier/kourier/metric/Position") rfl (hw _ (List.mem_of_getElem? (i := 23) rfl)) (hw _ (List.mem_of_getElem? (i := 24) rfl)) (hw _ (List.mem_of_getElem? (i := 26) rfl)) (hw _ (List.mem_of_getElem? (i := 25) rfl)) (hw _ (List.mem_of_getElem? (i := 4) rfl)) (hw _ (List.mem_of_getElem? (i := 27) rfl)) (by decide) rfl (by decide) (W := 0) (Nat.le_of_eq rfl) (by decide) (cells' := 1) (slots' := 3) rfl rfl (by decide) (by decide) A89 (argsL := [(.int p1)]) (rest := []) (lenOf own_pd3 rfl) rfl rfl at_110 (pc' := 113) rfl ?_
          rintro _ T92 h92 X92 ⟨rfl, e92⟩
          subst e92
          show own_Goal p e below _ T92 (mkF m 113 #[.val (.int p0), .val (.int p1), .val (.int p2), .val (.int p3), .val (.int p4), .val (.int p1), .val (.double (0 : UInt64)), .second, .val (.int (2 : Int32)), .val (.int p1), .val (.ref a84), .val (.int (1 : Int32))] [(.int (if p0 = p1 then 1 else 0 : Int32))])
          refine own_iload X92 rfl at_113 (pc' := 115) rfl ?_
          have c93 : (if p0 = p1 then 1 else 0 : Int32) = (1 : Int32) := if_pos (Eq.symm c91)
          refine own_icmpF X92 (own_i_eq c93).2 at_115 (pc' := 118) rfl ?_
          refine own_iconst X92 (v := (1 : Int32)) (by decide) at_118 (pc' := 119) rfl ?_
          refine own_goto X92 at_119 (pc' := 123) (by decide) (by decide) ?_
          exact own_retZ X92 (by decide) at_123 rfl (by decide) (by decide) rfl
        · -- no c91
          refine own_icmpT X89 (own_i_ne c91).2 at_96 (pc' := 103) (by decide) (by decide) ?_
          refine own_iconst X89 (v := (0 : Int32)) (by decide) at_103 (pc' := 104) rfl ?_
          refine own_istore X89 (Ls' := #[.val (.int p0), .val (.int p1), .val (.int p2), .val (.int p3), .val (.int p4), .val (.int p1), .val (.double (0 : UInt64)), .second, .val (.int (2 : Int32)), .val (.int p1), .val (.ref a84), .val (.int (0 : Int32))]) rfl at_104 (pc' := 106) rfl ?_
          refine own_aload X89 rfl rfl at_106 (pc' := 108) rfl ?_
          refine own_iload X89 rfl at_108 (pc' := 110) rfl ?_
          refine own_virtual X89 (own_at_pt l Z a0 hw a84 p0 p1 (0 : UInt64)  _ n0 X89.le A89 F89a F89c f88 ) (C := "com/example/kourier/kourier/metric/Position") rfl (hw _ (List.mem_of_getElem? (i := 23) rfl)) (hw _ (List.mem_of_getElem? (i := 24) rfl)) (hw _ (List.mem_of_getElem? (i := 26) rfl)) (hw _ (List.mem_of_getElem? (i := 25) rfl)) (hw _ (List.mem_of_getElem? (i := 4) rfl)) (hw _ (List.mem_of_getElem? (i := 27) rfl)) (by decide) rfl (by decide) (W := 0) (Nat.le_of_eq rfl) (by decide) (cells' := 1) (slots' := 3) rfl rfl (by decide) (by decide) A89 (argsL := [(.int p1)]) (rest := []) (lenOf own_pd3 rfl) rfl rfl at_110 (pc' := 113) rfl ?_
          rintro _ T94 h94 X94 ⟨rfl, e94⟩
          subst e94
          show own_Goal p e below _ T94 (mkF m 113 #[.val (.int p0), .val (.int p1), .val (.int p2), .val (.int p3), .val (.int p4), .val (.int p1), .val (.double (0 : UInt64)), .second, .val (.int (2 : Int32)), .val (.int p1), .val (.ref a84), .val (.int (0 : Int32))] [(.int (if p0 = p1 then 1 else 0 : Int32))])
          refine own_iload X94 rfl at_113 (pc' := 115) rfl ?_
          have c95 : (if p0 = p1 then 1 else 0 : Int32) = (0 : Int32) := if_neg fun z => c91 z.symm
          refine own_icmpF X94 (own_i_eq c95).2 at_115 (pc' := 118) rfl ?_
          refine own_iconst X94 (v := (1 : Int32)) (by decide) at_118 (pc' := 119) rfl ?_
          refine own_goto X94 at_119 (pc' := 123) (by decide) (by decide) ?_
          exact own_retZ X94 (by decide) at_123 rfl (by decide) (by decide) rfl
      · -- 3
        refine own_istore X0 (Ls' := #[.val (.int p0), .val (.int p1), .val (.int p2), .val (.int p3), .val (.int p4), .val (.int p1), .val (.double (0 : UInt64)), .second, .val (.int (3 : Int32)), .unset, .unset, .unset]) rfl at_43 (pc' := 45) rfl ?_
        refine own_iload X0 rfl at_45 (pc' := 47) rfl ?_
        refine own_iconst X0 (v := (1 : Int32)) (by decide) at_47 (pc' := 48) rfl ?_
        refine own_icmpT X0 (by decide) at_48 (pc' := 57) (by decide) (by decide) ?_
        refine own_iload X0 rfl at_57 (pc' := 59) rfl ?_
        refine own_iconst X0 (v := (2 : Int32)) (by decide) at_59 (pc' := 60) rfl ?_
        refine own_icmpT X0 (by decide) at_60 (pc' := 70) (by decide) (by decide) ?_
        refine own_iloadN X0 rfl at_70 (pc' := 71) rfl ?_
        refine own_istore X0 (Ls' := #[.val (.int p0), .val (.int p1), .val (.int p2), .val (.int p3), .val (.int p4), .val (.int p1), .val (.double (0 : UInt64)), .second, .val (.int (3 : Int32)), .val (.int p3), .unset, .unset]) rfl at_71 (pc' := 73) rfl ?_
        refine own_new X0 (hw _ (List.mem_of_getElem? (i := 2) rfl)) (hw _ (List.mem_of_getElem? (i := 3) rfl)) (hw _ (List.mem_of_getElem? (i := 4) rfl)) (cells' := 1) (slots' := 3) rfl rfl (by decide) (by decide) at_73 (pc' := 76) rfl fun a96 T96 h96 g96 ge96 X96 E96 A96 D96 => ?_
        have F97 : Fld Z h96 a96 "com/example/kourier/kourier/metric/Position" "from" "I" (.int (0 : Int32)) := D96 (Or.inr (hw _ (List.mem_of_getElem? (i := 18) rfl))) (ty := .int) (by decide)
        have F98 : Fld Z h96 a96 "com/example/kourier/kourier/metric/Position" "toward" "I" (.int (0 : Int32)) := D96 (Or.inr (hw _ (List.mem_of_getElem? (i := 20) rfl))) (ty := .int) (by decide)
        have F99 : Fld Z h96 a96 "com/example/kourier/kourier/metric/Position" "offset" "D" (.double (0 : UInt64)) := D96 (Or.inr (hw _ (List.mem_of_getElem? (i := 22) rfl))) (ty := .double) (by decide)
        refine own_dup X96 rfl at_76 (pc' := 77) rfl ?_
        refine own_iloadN X96 rfl at_77 (pc' := 78) rfl ?_
        refine own_iload X96 rfl at_78 (pc' := 80) rfl ?_
        refine own_dload X96 rfl at_80 (pc' := 82) rfl ?_
        have f100 : own_D 0 0 (0 : Int) (0 : UInt64) := own_D.lit (s := false) (c := 0) (q := -1074) (by decide +kernel) (by decide +kernel) (by decide)
        refine own_special X96 (own_init_pt l Z a0 hw a96 p0 p1 (0 : UInt64)  _ n0 X96.le ge96 A96 F97 F98 F99 f100  c59) rfl rfl (hw _ (List.mem_of_getElem? (i := 5) rfl)) (hw _ (List.mem_of_getElem? (i := 6) rfl)) (hw _ (List.mem_of_getElem? (i := 4) rfl)) (hw _ (List.mem_of_getElem? (i := 7) rfl)) (by decide) rfl (by decide) (W := 1) (Nat.le_of_eq rfl) (by decide) (cells' := 1) (slots' := 3) rfl rfl (by decide) (by decide) (argsL := [(.int p0), (.int p1), (.double (0 : UInt64))]) (rest := [(.ref a96)]) (lenOf own_pd1 rfl) rfl rfl at_82 (pc' := 85) rfl ?_
        rintro _ T101 h101 X101 ⟨rfl, A101, F101a, F101b, F101c⟩
        show own_Goal p e below _ T101 (mkF m 85 #[.val (.int p0), .val (.int p1), .val (.int p2), .val (.int p3), .val (.int p4), .val (.int p1), .val (.double (0 : UInt64)), .second, .val (.int (3 : Int32)), .val (.int p3), .unset, .unset] [(.ref a96)])
        refine own_astore X101 (Ls' := #[.val (.int p0), .val (.int p1), .val (.int p2), .val (.int p3), .val (.int p4), .val (.int p1), .val (.double (0 : UInt64)), .second, .val (.int (3 : Int32)), .val (.int p3), .val (.ref a96), .unset]) rfl rfl at_85 (pc' := 87) rfl ?_
        refine own_iloadN X101 rfl at_87 (pc' := 88) rfl ?_
        refine own_iload X101 rfl at_88 (pc' := 90) rfl ?_
        have c102 : p0 = p1 := c59
        refine own_icmpF X101 (own_i_eq c102).2 at_90 (pc' := 93) rfl ?_
        refine own_iload X101 rfl at_93 (pc' := 95) rfl ?_
        refine own_iloadN X101 rfl at_95 (pc' := 96) rfl ?_
        by_cases c103 : p3 = p0
        · -- yes c103
          refine own_icmpF X101 (own_i_eq c103).2 at_96 (pc' := 99) rfl ?_
          refine own_iconst X101 (v := (1 : Int32)) (by decide) at_99 (pc' := 100) rfl ?_
          refine own_goto X101 at_100 (pc' := 104) (by decide) (by decide) ?_
          refine own_istore X101 (Ls' := #[.val (.int p0), .val (.int p1), .val (.int p2), .val (.int p3), .val (.int p4), .val (.int p1), .val (.double (0 : UInt64)), .second, .val (.int (3 : Int32)), .val (.int p3), .val (.ref a96), .val (.int (1 : Int32))]) rfl at_104 (pc' := 106) rfl ?_
          refine own_aload X101 rfl rfl at_106 (pc' := 108) rfl ?_
          refine own_iload X101 rfl at_108 (pc' := 110) rfl ?_
          refine own_virtual X101 (own_at_pt l Z a0 hw a96 p0 p3 (0 : UInt64)  _ n0 X101.le A101 F101a F101c f100 ) (C := "com/example/kourier/kourier/metric/Position") rfl (hw _ (List.mem_of_getElem? (i := 23) rfl)) (hw _ (List.mem_of_getElem? (i := 24) rfl)) (hw _ (List.mem_of_getElem? (i := 26) rfl)) (hw _ (List.mem_of_getElem? (i := 25) rfl)) (hw _ (List.mem_of_getElem? (i := 4) rfl)) (hw _ (List.mem_of_getElem? (i := 27) rfl)) (by decide) rfl (by decide) (W := 0) (Nat.le_of_eq rfl) (by decide) (cells' := 1) (slots' := 3) rfl rfl (by decide) (by decide) A101 (argsL := [(.int p3)]) (rest := []) (lenOf own_pd3 rfl) rfl rfl at_110 (pc' := 113) rfl ?_
          rintro _ T104 h104 X104 ⟨rfl, e104⟩
          subst e104
          show own_Goal p e below _ T104 (mkF m 113 #[.val (.int p0), .val (.int p1), .val (.int p2), .val (.int p3), .val (.int p4), .val (.int p1), .val (.double (0 : UInt64)), .second, .val (.int (3 : Int32)), .val (.int p3), .val (.ref a96), .val (.int (1 : Int32))] [(.int (if p0 = p3 then 1 else 0 : Int32))])
          refine own_iload X104 rfl at_113 (pc' := 115) rfl ?_
          have c105 : (if p0 = p3 then 1 else 0 : Int32) = (1 : Int32) := if_pos (Eq.symm c103)
          refine own_icmpF X104 (own_i_eq c105).2 at_115 (pc' := 118) rfl ?_
          refine own_iconst X104 (v := (1 : Int32)) (by decide) at_118 (pc' := 119) rfl ?_
          refine own_goto X104 at_119 (pc' := 123) (by decide) (by decide) ?_
          exact own_retZ X104 (by decide) at_123 rfl (by decide) (by decide) rfl
        · -- no c103
          refine own_icmpT X101 (own_i_ne c103).2 at_96 (pc' := 103) (by decide) (by decide) ?_
          refine own_iconst X101 (v := (0 : Int32)) (by decide) at_103 (pc' := 104) rfl ?_
          refine own_istore X101 (Ls' := #[.val (.int p0), .val (.int p1), .val (.int p2), .val (.int p3), .val (.int p4), .val (.int p1), .val (.double (0 : UInt64)), .second, .val (.int (3 : Int32)), .val (.int p3), .val (.ref a96), .val (.int (0 : Int32))]) rfl at_104 (pc' := 106) rfl ?_
          refine own_aload X101 rfl rfl at_106 (pc' := 108) rfl ?_
          refine own_iload X101 rfl at_108 (pc' := 110) rfl ?_
          refine own_virtual X101 (own_at_pt l Z a0 hw a96 p0 p3 (0 : UInt64)  _ n0 X101.le A101 F101a F101c f100 ) (C := "com/example/kourier/kourier/metric/Position") rfl (hw _ (List.mem_of_getElem? (i := 23) rfl)) (hw _ (List.mem_of_getElem? (i := 24) rfl)) (hw _ (List.mem_of_getElem? (i := 26) rfl)) (hw _ (List.mem_of_getElem? (i := 25) rfl)) (hw _ (List.mem_of_getElem? (i := 4) rfl)) (hw _ (List.mem_of_getElem? (i := 27) rfl)) (by decide) rfl (by decide) (W := 0) (Nat.le_of_eq rfl) (by decide) (cells' := 1) (slots' := 3) rfl rfl (by decide) (by decide) A101 (argsL := [(.int p3)]) (rest := []) (lenOf own_pd3 rfl) rfl rfl at_110 (pc' := 113) rfl ?_
          rintro _ T106 h106 X106 ⟨rfl, e106⟩
          subst e106
          show own_Goal p e below _ T106 (mkF m 113 #[.val (.int p0), .val (.int p1), .val (.int p2), .val (.int p3), .val (.int p4), .val (.int p1), .val (.double (0 : UInt64)), .second, .val (.int (3 : Int32)), .val (.int p3), .val (.ref a96), .val (.int (0 : Int32))] [(.int (if p0 = p3 then 1 else 0 : Int32))])
          refine own_iload X106 rfl at_113 (pc' := 115) rfl ?_
          have c107 : (if p0 = p3 then 1 else 0 : Int32) = (0 : Int32) := if_neg fun z => c103 z.symm
          refine own_icmpF X106 (own_i_eq c107).2 at_115 (pc' := 118) rfl ?_
          refine own_iconst X106 (v := (1 : Int32)) (by decide) at_118 (pc' := 119) rfl ?_
          refine own_goto X106 at_119 (pc' := 123) (by decide) (by decide) ?_
          exact own_retZ X106 (by decide) at_123 rfl (by decide) (by decide) rfl
    · -- no c59
      refine own_icmpT X0 (own_i_ne c59).2 at_17 (pc' := 24) (by decide) (by decide) ?_
      refine own_iloadN X0 rfl at_24 (pc' := 25) rfl ?_
      refine own_ldcI X0 (v := (65535 : Int32)) (hw _ (List.mem_of_getElem? (i := 0) rfl)) at_25 (pc' := 27) rfl ?_
      obtain ⟨i108, e108⟩ : ∃ v, p2 &&& (65535 : Int32) = v := ⟨_, rfl⟩
      have f108 : own_I 65535 i108.toInt i108 := own_I.and e108 (by decide)
      have nn108 := own_and_nn (M := 65535) e108 (by decide)
      refine own_iand X0 e108 at_27 (pc' := 28) rfl ?_
      refine own_iconst X0 (v := (1 : Int32)) (by decide) at_28 (pc' := 29) rfl ?_
      obtain ⟨i109, e109⟩ : ∃ v, i108 + (1 : Int32) = v := ⟨_, rfl⟩
      have f110 : own_I 1 (1 : Int) (1 : Int32) := own_I.lit (by decide) (by decide)
      have f109 : own_I 65536 (i108.toInt + (1 : Int)) i109 := f108.add f110 e109 (by decide) (by decide)
      refine own_iadd X0 e109 at_29 (pc' := 30) rfl ?_
      obtain ⟨d111, e111⟩ : ∃ v, FP.i2d i109 = v := ⟨_, rfl⟩
      have f111 : own_D 0 65536 (i108.toInt + (1 : Int)) d111 := own_D.i2d f109 e111
      refine own_i2d X0 e111 at_30 (pc' := 31) rfl ?_
      refine own_ldcD X0 (v := (4652218415073722368 : UInt64)) (hw _ (List.mem_of_getElem? (i := 1) rfl)) at_31 (pc' := 34) rfl ?_
      have f113 : own_D 0 1024 (1024 : Int) (4652218415073722368 : UInt64) := own_D.lit (s := false) (c := 4503599627370496) (q := -42) (by decide +kernel) (by decide +kernel) (by decide)
      obtain ⟨d112, e112⟩ : ∃ v, FP.ddiv d111 (4652218415073722368 : UInt64) = v := ⟨_, rfl⟩
      have f112 : own_D 10 65536 (i108.toInt + (1 : Int)) d112 := own_D.divp (r := 10) (P := 1024) f111 f113 (by decide) e112 (by decide) (by decide) (by decide)
      refine own_ddiv X0 e112 f112.nn at_34 (pc' := 35) rfl ?_
      refine own_dstore X0 (Ls' := #[.val (.int p0), .val (.int p1), .val (.int p2), .val (.int p3), .val (.int p4), .val (.int p1), .val (.double d112), .second, .unset, .unset, .unset, .unset]) rfl at_35 (pc' := 37) rfl ?_
      refine own_iload X0 rfl at_37 (pc' := 39) rfl ?_
      refine own_iconst X0 (v := (1 : Int32)) (by decide) at_39 (pc' := 40) rfl ?_
      obtain ⟨i114, e114⟩ : ∃ v, XT.ushr p4 (1 : Int32) = v := ⟨_, rfl⟩
      refine own_iushr X0 e114 at_40 (pc' := 41) rfl ?_
      refine own_iconst X0 (v := (3 : Int32)) (by decide) at_41 (pc' := 42) rfl ?_
      obtain ⟨i115, e115⟩ : ∃ v, i114 &&& (3 : Int32) = v := ⟨_, rfl⟩
      have f115 : own_I 3 i115.toInt i115 := own_I.and e115 (by decide)
      have nn115 := own_and_nn (M := 3) e115 (by decide)
      refine own_iand X0 e115 at_42 (pc' := 43) rfl ?_
      rcases own_cases4 nn115 with rfl | rfl | rfl | rfl
      · -- 0
        refine own_istore X0 (Ls' := #[.val (.int p0), .val (.int p1), .val (.int p2), .val (.int p3), .val (.int p4), .val (.int p1), .val (.double d112), .second, .val (.int (0 : Int32)), .unset, .unset, .unset]) rfl at_43 (pc' := 45) rfl ?_
        refine own_iload X0 rfl at_45 (pc' := 47) rfl ?_
        refine own_iconst X0 (v := (1 : Int32)) (by decide) at_47 (pc' := 48) rfl ?_
        refine own_icmpT X0 (by decide) at_48 (pc' := 57) (by decide) (by decide) ?_
        refine own_iload X0 rfl at_57 (pc' := 59) rfl ?_
        refine own_iconst X0 (v := (2 : Int32)) (by decide) at_59 (pc' := 60) rfl ?_
        refine own_icmpT X0 (by decide) at_60 (pc' := 70) (by decide) (by decide) ?_
        refine own_iloadN X0 rfl at_70 (pc' := 71) rfl ?_
        refine own_istore X0 (Ls' := #[.val (.int p0), .val (.int p1), .val (.int p2), .val (.int p3), .val (.int p4), .val (.int p1), .val (.double d112), .second, .val (.int (0 : Int32)), .val (.int p3), .unset, .unset]) rfl at_71 (pc' := 73) rfl ?_
        refine own_new X0 (hw _ (List.mem_of_getElem? (i := 2) rfl)) (hw _ (List.mem_of_getElem? (i := 3) rfl)) (hw _ (List.mem_of_getElem? (i := 4) rfl)) (cells' := 1) (slots' := 3) rfl rfl (by decide) (by decide) at_73 (pc' := 76) rfl fun a116 T116 h116 g116 ge116 X116 E116 A116 D116 => ?_
        have F117 : Fld Z h116 a116 "com/example/kourier/kourier/metric/Position" "from" "I" (.int (0 : Int32)) := D116 (Or.inr (hw _ (List.mem_of_getElem? (i := 18) rfl))) (ty := .int) (by decide)
        have F118 : Fld Z h116 a116 "com/example/kourier/kourier/metric/Position" "toward" "I" (.int (0 : Int32)) := D116 (Or.inr (hw _ (List.mem_of_getElem? (i := 20) rfl))) (ty := .int) (by decide)
        have F119 : Fld Z h116 a116 "com/example/kourier/kourier/metric/Position" "offset" "D" (.double (0 : UInt64)) := D116 (Or.inr (hw _ (List.mem_of_getElem? (i := 22) rfl))) (ty := .double) (by decide)
        refine own_dup X116 rfl at_76 (pc' := 77) rfl ?_
        refine own_iloadN X116 rfl at_77 (pc' := 78) rfl ?_
        refine own_iload X116 rfl at_78 (pc' := 80) rfl ?_
        refine own_dload X116 rfl at_80 (pc' := 82) rfl ?_
        have hi120 : 0 < (i108.toInt + (1 : Int)) := by omega
        refine own_special X116 (own_init_np l Z a0 hw a116 p0 p1 d112 10 65536 (i108.toInt + (1 : Int)) _ n0 X116.le ge116 A116 F117 F118 F119 f112 hi120 c59) rfl rfl (hw _ (List.mem_of_getElem? (i := 5) rfl)) (hw _ (List.mem_of_getElem? (i := 6) rfl)) (hw _ (List.mem_of_getElem? (i := 4) rfl)) (hw _ (List.mem_of_getElem? (i := 7) rfl)) (by decide) rfl (by decide) (W := 1) (Nat.le_of_eq rfl) (by decide) (cells' := 1) (slots' := 3) rfl rfl (by decide) (by decide) (argsL := [(.int p0), (.int p1), (.double d112)]) (rest := [(.ref a116)]) (lenOf own_pd1 rfl) rfl rfl at_82 (pc' := 85) rfl ?_
        rintro _ T121 h121 X121 ⟨rfl, A121, F121a, F121b, F121c⟩
        show own_Goal p e below _ T121 (mkF m 85 #[.val (.int p0), .val (.int p1), .val (.int p2), .val (.int p3), .val (.int p4), .val (.int p1), .val (.double d112), .second, .val (.int (0 : Int32)), .val (.int p3), .unset, .unset] [(.ref a116)])
        refine own_astore X121 (Ls' := #[.val (.int p0), .val (.int p1), .val (.int p2), .val (.int p3), .val (.int p4), .val (.int p1), .val (.double d112), .second, .val (.int (0 : Int32)), .val (.int p3), .val (.ref a116), .unset]) rfl rfl at_85 (pc' := 87) rfl ?_
        refine own_iloadN X121 rfl at_87 (pc' := 88) rfl ?_
        refine own_iload X121 rfl at_88 (pc' := 90) rfl ?_
        have c122 : ¬ (p0 = p1) := c59
        refine own_icmpT X121 (own_i_ne c122).2 at_90 (pc' := 103) (by decide) (by decide) ?_
        refine own_iconst X121 (v := (0 : Int32)) (by decide) at_103 (pc' := 104) rfl ?_
        refine own_istore X121 (Ls' := #[.val (.int p0), .val (.int p1), .val (.int p2), .val (.int p3), .val (.int p4), .val (.int p1), .val (.double d112), .second, .val (.int (0 : Int32)), .val (.int p3), .val (.ref a116), .val (.int (0 : Int32))]) rfl at_104 (pc' := 106) rfl ?_
        refine own_aload X121 rfl rfl at_106 (pc' := 108) rfl ?_
        refine own_iload X121 rfl at_108 (pc' := 110) rfl ?_
        refine own_virtual X121 (own_at_np l Z a0 hw a116 p0 p3 d112 10 65536 (i108.toInt + (1 : Int)) _ n0 X121.le A121 F121a F121c f112 hi120) (C := "com/example/kourier/kourier/metric/Position") rfl (hw _ (List.mem_of_getElem? (i := 23) rfl)) (hw _ (List.mem_of_getElem? (i := 24) rfl)) (hw _ (List.mem_of_getElem? (i := 26) rfl)) (hw _ (List.mem_of_getElem? (i := 25) rfl)) (hw _ (List.mem_of_getElem? (i := 4) rfl)) (hw _ (List.mem_of_getElem? (i := 27) rfl)) (by decide) rfl (by decide) (W := 0) (Nat.le_of_eq rfl) (by decide) (cells' := 1) (slots' := 3) rfl rfl (by decide) (by decide) A121 (argsL := [(.int p3)]) (rest := []) (lenOf own_pd3 rfl) rfl rfl at_110 (pc' := 113) rfl ?_
        rintro _ T123 h123 X123 ⟨rfl, e123⟩
        subst e123
        show own_Goal p e below _ T123 (mkF m 113 #[.val (.int p0), .val (.int p1), .val (.int p2), .val (.int p3), .val (.int p4), .val (.int p1), .val (.double d112), .second, .val (.int (0 : Int32)), .val (.int p3), .val (.ref a116), .val (.int (0 : Int32))] [(.int (0 : Int32))])
        refine own_iload X123 rfl at_113 (pc' := 115) rfl ?_
        refine own_icmpF X123 (by decide) at_115 (pc' := 118) rfl ?_
        refine own_iconst X123 (v := (1 : Int32)) (by decide) at_118 (pc' := 119) rfl ?_
        refine own_goto X123 at_119 (pc' := 123) (by decide) (by decide) ?_
        exact own_retZ X123 (by decide) at_123 rfl (by decide) (by decide) rfl
      · -- 1
        refine own_istore X0 (Ls' := #[.val (.int p0), .val (.int p1), .val (.int p2), .val (.int p3), .val (.int p4), .val (.int p1), .val (.double d112), .second, .val (.int (1 : Int32)), .unset, .unset, .unset]) rfl at_43 (pc' := 45) rfl ?_
        refine own_iload X0 rfl at_45 (pc' := 47) rfl ?_
        refine own_iconst X0 (v := (1 : Int32)) (by decide) at_47 (pc' := 48) rfl ?_
        refine own_icmpF X0 (by decide) at_48 (pc' := 51) rfl ?_
        refine own_iloadN X0 rfl at_51 (pc' := 52) rfl ?_
        refine own_istore X0 (Ls' := #[.val (.int p0), .val (.int p1), .val (.int p2), .val (.int p3), .val (.int p4), .val (.int p1), .val (.double d112), .second, .val (.int (1 : Int32)), .val (.int p0), .unset, .unset]) rfl at_52 (pc' := 54) rfl ?_
        refine own_goto X0 at_54 (pc' := 73) (by decide) (by decide) ?_
        refine own_new X0 (hw _ (List.mem_of_getElem? (i := 2) rfl)) (hw _ (List.mem_of_getElem? (i := 3) rfl)) (hw _ (List.mem_of_getElem? (i := 4) rfl)) (cells' := 1) (slots' := 3) rfl rfl (by decide) (by decide) at_73 (pc' := 76) rfl fun a124 T124 h124 g124 ge124 X124 E124 A124 D124 => ?_
        have F125 : Fld Z h124 a124 "com/example/kourier/kourier/metric/Position" "from" "I" (.int (0 : Int32)) := D124 (Or.inr (hw _ (List.mem_of_getElem? (i := 18) rfl))) (ty := .int) (by decide)
        have F126 : Fld Z h124 a124 "com/example/kourier/kourier/metric/Position" "toward" "I" (.int (0 : Int32)) := D124 (Or.inr (hw _ (List.mem_of_getElem? (i := 20) rfl))) (ty := .int) (by decide)
        have F127 : Fld Z h124 a124 "com/example/kourier/kourier/metric/Position" "offset" "D" (.double (0 : UInt64)) := D124 (Or.inr (hw _ (List.mem_of_getElem? (i := 22) rfl))) (ty := .double) (by decide)
        refine own_dup X124 rfl at_76 (pc' := 77) rfl ?_
        refine own_iloadN X124 rfl at_77 (pc' := 78) rfl ?_
        refine own_iload X124 rfl at_78 (pc' := 80) rfl ?_
        refine own_dload X124 rfl at_80 (pc' := 82) rfl ?_
        have hi128 : 0 < (i108.toInt + (1 : Int)) := by omega
        refine own_special X124 (own_init_np l Z a0 hw a124 p0 p1 d112 10 65536 (i108.toInt + (1 : Int)) _ n0 X124.le ge124 A124 F125 F126 F127 f112 hi128 c59) rfl rfl (hw _ (List.mem_of_getElem? (i := 5) rfl)) (hw _ (List.mem_of_getElem? (i := 6) rfl)) (hw _ (List.mem_of_getElem? (i := 4) rfl)) (hw _ (List.mem_of_getElem? (i := 7) rfl)) (by decide) rfl (by decide) (W := 1) (Nat.le_of_eq rfl) (by decide) (cells' := 1) (slots' := 3) rfl rfl (by decide) (by decide) (argsL := [(.int p0), (.int p1), (.double d112)]) (rest := [(.ref a124)]) (lenOf own_pd1 rfl) rfl rfl at_82 (pc' := 85) rfl ?_
        rintro _ T129 h129 X129 ⟨rfl, A129, F129a, F129b, F129c⟩
        show own_Goal p e below _ T129 (mkF m 85 #[.val (.int p0), .val (.int p1), .val (.int p2), .val (.int p3), .val (.int p4), .val (.int p1), .val (.double d112), .second, .val (.int (1 : Int32)), .val (.int p0), .unset, .unset] [(.ref a124)])
        refine own_astore X129 (Ls' := #[.val (.int p0), .val (.int p1), .val (.int p2), .val (.int p3), .val (.int p4), .val (.int p1), .val (.double d112), .second, .val (.int (1 : Int32)), .val (.int p0), .val (.ref a124), .unset]) rfl rfl at_85 (pc' := 87) rfl ?_
        refine own_iloadN X129 rfl at_87 (pc' := 88) rfl ?_
        refine own_iload X129 rfl at_88 (pc' := 90) rfl ?_
        have c130 : ¬ (p0 = p1) := c59
        refine own_icmpT X129 (own_i_ne c130).2 at_90 (pc' := 103) (by decide) (by decide) ?_
        refine own_iconst X129 (v := (0 : Int32)) (by decide) at_103 (pc' := 104) rfl ?_
        refine own_istore X129 (Ls' := #[.val (.int p0), .val (.int p1), .val (.int p2), .val (.int p3), .val (.int p4), .val (.int p1), .val (.double d112), .second, .val (.int (1 : Int32)), .val (.int p0), .val (.ref a124), .val (.int (0 : Int32))]) rfl at_104 (pc' := 106) rfl ?_
        refine own_aload X129 rfl rfl at_106 (pc' := 108) rfl ?_
        refine own_iload X129 rfl at_108 (pc' := 110) rfl ?_
        refine own_virtual X129 (own_at_np l Z a0 hw a124 p0 p0 d112 10 65536 (i108.toInt + (1 : Int)) _ n0 X129.le A129 F129a F129c f112 hi128) (C := "com/example/kourier/kourier/metric/Position") rfl (hw _ (List.mem_of_getElem? (i := 23) rfl)) (hw _ (List.mem_of_getElem? (i := 24) rfl)) (hw _ (List.mem_of_getElem? (i := 26) rfl)) (hw _ (List.mem_of_getElem? (i := 25) rfl)) (hw _ (List.mem_of_getElem? (i := 4) rfl)) (hw _ (List.mem_of_getElem? (i := 27) rfl)) (by decide) rfl (by decide) (W := 0) (Nat.le_of_eq rfl) (by decide) (cells' := 1) (slots' := 3) rfl rfl (by decide) (by decide) A129 (argsL := [(.int p0)]) (rest := []) (lenOf own_pd3 rfl) rfl rfl at_110 (pc' := 113) rfl ?_
        rintro _ T131 h131 X131 ⟨rfl, e131⟩
        subst e131
        show own_Goal p e below _ T131 (mkF m 113 #[.val (.int p0), .val (.int p1), .val (.int p2), .val (.int p3), .val (.int p4), .val (.int p1), .val (.double d112), .second, .val (.int (1 : Int32)), .val (.int p0), .val (.ref a124), .val (.int (0 : Int32))] [(.int (0 : Int32))])
        refine own_iload X131 rfl at_113 (pc' := 115) rfl ?_
        refine own_icmpF X131 (by decide) at_115 (pc' := 118) rfl ?_
        refine own_iconst X131 (v := (1 : Int32)) (by decide) at_118 (pc' := 119) rfl ?_
        refine own_goto X131 at_119 (pc' := 123) (by decide) (by decide) ?_
        exact own_retZ X131 (by decide) at_123 rfl (by decide) (by decide) rfl
      · -- 2
        refine own_istore X0 (Ls' := #[.val (.int p0), .val (.int p1), .val (.int p2), .val (.int p3), .val (.int p4), .val (.int p1), .val (.double d112), .second, .val (.int (2 : Int32)), .unset, .unset, .unset]) rfl at_43 (pc' := 45) rfl ?_
        refine own_iload X0 rfl at_45 (pc' := 47) rfl ?_
        refine own_iconst X0 (v := (1 : Int32)) (by decide) at_47 (pc' := 48) rfl ?_
        refine own_icmpT X0 (by decide) at_48 (pc' := 57) (by decide) (by decide) ?_
        refine own_iload X0 rfl at_57 (pc' := 59) rfl ?_
        refine own_iconst X0 (v := (2 : Int32)) (by decide) at_59 (pc' := 60) rfl ?_
        refine own_icmpF X0 (by decide) at_60 (pc' := 63) rfl ?_
        refine own_iload X0 rfl at_63 (pc' := 65) rfl ?_
        refine own_istore X0 (Ls' := #[.val (.int p0), .val (.int p1), .val (.int p2), .val (.int p3), .val (.int p4), .val (.int p1), .val (.double d112), .second, .val (.int (2 : Int32)), .val (.int p1), .unset, .unset]) rfl at_65 (pc' := 67) rfl ?_
        refine own_goto X0 at_67 (pc' := 73) (by decide) (by decide) ?_
        refine own_new X0 (hw _ (List.mem_of_getElem? (i := 2) rfl)) (hw _ (List.mem_of_getElem? (i := 3) rfl)) (hw _ (List.mem_of_getElem? (i := 4) rfl)) (cells' := 1) (slots' := 3) rfl rfl (by decide) (by decide) at_73 (pc' := 76) rfl fun a132 T132 h132 g132 ge132 X132 E132 A132 D132 => ?_
        have F133 : Fld Z h132 a132 "com/example/kourier/kourier/metric/Position" "from" "I" (.int (0 : Int32)) := D132 (Or.inr (hw _ (List.mem_of_getElem? (i := 18) rfl))) (ty := .int) (by decide)
        have F134 : Fld Z h132 a132 "com/example/kourier/kourier/metric/Position" "toward" "I" (.int (0 : Int32)) := D132 (Or.inr (hw _ (List.mem_of_getElem? (i := 20) rfl))) (ty := .int) (by decide)
        have F135 : Fld Z h132 a132 "com/example/kourier/kourier/metric/Position" "offset" "D" (.double (0 : UInt64)) := D132 (Or.inr (hw _ (List.mem_of_getElem? (i := 22) rfl))) (ty := .double) (by decide)
        refine own_dup X132 rfl at_76 (pc' := 77) rfl ?_
        refine own_iloadN X132 rfl at_77 (pc' := 78) rfl ?_
        refine own_iload X132 rfl at_78 (pc' := 80) rfl ?_
        refine own_dload X132 rfl at_80 (pc' := 82) rfl ?_
        have hi136 : 0 < (i108.toInt + (1 : Int)) := by omega
        refine own_special X132 (own_init_np l Z a0 hw a132 p0 p1 d112 10 65536 (i108.toInt + (1 : Int)) _ n0 X132.le ge132 A132 F133 F134 F135 f112 hi136 c59) rfl rfl (hw _ (List.mem_of_getElem? (i := 5) rfl)) (hw _ (List.mem_of_getElem? (i := 6) rfl)) (hw _ (List.mem_of_getElem? (i := 4) rfl)) (hw _ (List.mem_of_getElem? (i := 7) rfl)) (by decide) rfl (by decide) (W := 1) (Nat.le_of_eq rfl) (by decide) (cells' := 1) (slots' := 3) rfl rfl (by decide) (by decide) (argsL := [(.int p0), (.int p1), (.double d112)]) (rest := [(.ref a132)]) (lenOf own_pd1 rfl) rfl rfl at_82 (pc' := 85) rfl ?_
        rintro _ T137 h137 X137 ⟨rfl, A137, F137a, F137b, F137c⟩
        show own_Goal p e below _ T137 (mkF m 85 #[.val (.int p0), .val (.int p1), .val (.int p2), .val (.int p3), .val (.int p4), .val (.int p1), .val (.double d112), .second, .val (.int (2 : Int32)), .val (.int p1), .unset, .unset] [(.ref a132)])
        refine own_astore X137 (Ls' := #[.val (.int p0), .val (.int p1), .val (.int p2), .val (.int p3), .val (.int p4), .val (.int p1), .val (.double d112), .second, .val (.int (2 : Int32)), .val (.int p1), .val (.ref a132), .unset]) rfl rfl at_85 (pc' := 87) rfl ?_
        refine own_iloadN X137 rfl at_87 (pc' := 88) rfl ?_
        refine own_iload X137 rfl at_88 (pc' := 90) rfl ?_
        have c138 : ¬ (p0 = p1) := c59
        refine own_icmpT X137 (own_i_ne c138).2 at_90 (pc' := 103) (by decide) (by decide) ?_
        refine own_iconst X137 (v := (0 : Int32)) (by decide) at_103 (pc' := 104) rfl ?_
        refine own_istore X137 (Ls' := #[.val (.int p0), .val (.int p1), .val (.int p2), .val (.int p3), .val (.int p4), .val (.int p1), .val (.double d112), .second, .val (.int (2 : Int32)), .val (.int p1), .val (.ref a132), .val (.int (0 : Int32))]) rfl at_104 (pc' := 106) rfl ?_
        refine own_aload X137 rfl rfl at_106 (pc' := 108) rfl ?_
        refine own_iload X137 rfl at_108 (pc' := 110) rfl ?_
        refine own_virtual X137 (own_at_np l Z a0 hw a132 p0 p1 d112 10 65536 (i108.toInt + (1 : Int)) _ n0 X137.le A137 F137a F137c f112 hi136) (C := "com/example/kourier/kourier/metric/Position") rfl (hw _ (List.mem_of_getElem? (i := 23) rfl)) (hw _ (List.mem_of_getElem? (i := 24) rfl)) (hw _ (List.mem_of_getElem? (i := 26) rfl)) (hw _ (List.mem_of_getElem? (i := 25) rfl)) (hw _ (List.mem_of_getElem? (i := 4) rfl)) (hw _ (List.mem_of_getElem? (i := 27) rfl)) (by decide) rfl (by decide) (W := 0) (Nat.le_of_eq rfl) (by decide) (cells' := 1) (slots' := 3) rfl rfl (by decide) (by decide) A137 (argsL := [(.int p1)]) (rest := []) (lenOf own_pd3 rfl) rfl rfl at_110 (pc' := 113) rfl ?_
        rintro _ T139 h139 X139 ⟨rfl, e139⟩
        subst e139
        show own_Goal p e below _ T139 (mkF m 113 #[.val (.int p0), .val (.int p1), .val (.int p2), .val (.int p3), .val (.int p4), .val (.int p1), .val (.double d112), .second, .val (.int (2 : Int32)), .val (.int p1), .val (.ref a132), .val (.int (0 : Int32))] [(.int (0 : Int32))])
        refine own_iload X139 rfl at_113 (pc' := 115) rfl ?_
        refine own_icmpF X139 (by decide) at_115 (pc' := 118) rfl ?_
        refine own_iconst X139 (v := (1 : Int32)) (by decide) at_118 (pc' := 119) rfl ?_
        refine own_goto X139 at_119 (pc' := 123) (by decide) (by decide) ?_
        exact own_retZ X139 (by decide) at_123 rfl (by decide) (by decide) rfl
      · -- 3
        refine own_istore X0 (Ls' := #[.val (.int p0), .val (.int p1), .val (.int p2), .val (.int p3), .val (.int p4), .val (.int p1), .val (.double d112), .second, .val (.int (3 : Int32)), .unset, .unset, .unset]) rfl at_43 (pc' := 45) rfl ?_
        refine own_iload X0 rfl at_45 (pc' := 47) rfl ?_
        refine own_iconst X0 (v := (1 : Int32)) (by decide) at_47 (pc' := 48) rfl ?_
        refine own_icmpT X0 (by decide) at_48 (pc' := 57) (by decide) (by decide) ?_
        refine own_iload X0 rfl at_57 (pc' := 59) rfl ?_
        refine own_iconst X0 (v := (2 : Int32)) (by decide) at_59 (pc' := 60) rfl ?_
        refine own_icmpT X0 (by decide) at_60 (pc' := 70) (by decide) (by decide) ?_
        refine own_iloadN X0 rfl at_70 (pc' := 71) rfl ?_
        refine own_istore X0 (Ls' := #[.val (.int p0), .val (.int p1), .val (.int p2), .val (.int p3), .val (.int p4), .val (.int p1), .val (.double d112), .second, .val (.int (3 : Int32)), .val (.int p3), .unset, .unset]) rfl at_71 (pc' := 73) rfl ?_
        refine own_new X0 (hw _ (List.mem_of_getElem? (i := 2) rfl)) (hw _ (List.mem_of_getElem? (i := 3) rfl)) (hw _ (List.mem_of_getElem? (i := 4) rfl)) (cells' := 1) (slots' := 3) rfl rfl (by decide) (by decide) at_73 (pc' := 76) rfl fun a140 T140 h140 g140 ge140 X140 E140 A140 D140 => ?_
        have F141 : Fld Z h140 a140 "com/example/kourier/kourier/metric/Position" "from" "I" (.int (0 : Int32)) := D140 (Or.inr (hw _ (List.mem_of_getElem? (i := 18) rfl))) (ty := .int) (by decide)
        have F142 : Fld Z h140 a140 "com/example/kourier/kourier/metric/Position" "toward" "I" (.int (0 : Int32)) := D140 (Or.inr (hw _ (List.mem_of_getElem? (i := 20) rfl))) (ty := .int) (by decide)
        have F143 : Fld Z h140 a140 "com/example/kourier/kourier/metric/Position" "offset" "D" (.double (0 : UInt64)) := D140 (Or.inr (hw _ (List.mem_of_getElem? (i := 22) rfl))) (ty := .double) (by decide)
        refine own_dup X140 rfl at_76 (pc' := 77) rfl ?_
        refine own_iloadN X140 rfl at_77 (pc' := 78) rfl ?_
        refine own_iload X140 rfl at_78 (pc' := 80) rfl ?_
        refine own_dload X140 rfl at_80 (pc' := 82) rfl ?_
        have hi144 : 0 < (i108.toInt + (1 : Int)) := by omega
        refine own_special X140 (own_init_np l Z a0 hw a140 p0 p1 d112 10 65536 (i108.toInt + (1 : Int)) _ n0 X140.le ge140 A140 F141 F142 F143 f112 hi144 c59) rfl rfl (hw _ (List.mem_of_getElem? (i := 5) rfl)) (hw _ (List.mem_of_getElem? (i := 6) rfl)) (hw _ (List.mem_of_getElem? (i := 4) rfl)) (hw _ (List.mem_of_getElem? (i := 7) rfl)) (by decide) rfl (by decide) (W := 1) (Nat.le_of_eq rfl) (by decide) (cells' := 1) (slots' := 3) rfl rfl (by decide) (by decide) (argsL := [(.int p0), (.int p1), (.double d112)]) (rest := [(.ref a140)]) (lenOf own_pd1 rfl) rfl rfl at_82 (pc' := 85) rfl ?_
        rintro _ T145 h145 X145 ⟨rfl, A145, F145a, F145b, F145c⟩
        show own_Goal p e below _ T145 (mkF m 85 #[.val (.int p0), .val (.int p1), .val (.int p2), .val (.int p3), .val (.int p4), .val (.int p1), .val (.double d112), .second, .val (.int (3 : Int32)), .val (.int p3), .unset, .unset] [(.ref a140)])
        refine own_astore X145 (Ls' := #[.val (.int p0), .val (.int p1), .val (.int p2), .val (.int p3), .val (.int p4), .val (.int p1), .val (.double d112), .second, .val (.int (3 : Int32)), .val (.int p3), .val (.ref a140), .unset]) rfl rfl at_85 (pc' := 87) rfl ?_
        refine own_iloadN X145 rfl at_87 (pc' := 88) rfl ?_
        refine own_iload X145 rfl at_88 (pc' := 90) rfl ?_
        have c146 : ¬ (p0 = p1) := c59
        refine own_icmpT X145 (own_i_ne c146).2 at_90 (pc' := 103) (by decide) (by decide) ?_
        refine own_iconst X145 (v := (0 : Int32)) (by decide) at_103 (pc' := 104) rfl ?_
        refine own_istore X145 (Ls' := #[.val (.int p0), .val (.int p1), .val (.int p2), .val (.int p3), .val (.int p4), .val (.int p1), .val (.double d112), .second, .val (.int (3 : Int32)), .val (.int p3), .val (.ref a140), .val (.int (0 : Int32))]) rfl at_104 (pc' := 106) rfl ?_
        refine own_aload X145 rfl rfl at_106 (pc' := 108) rfl ?_
        refine own_iload X145 rfl at_108 (pc' := 110) rfl ?_
        refine own_virtual X145 (own_at_np l Z a0 hw a140 p0 p3 d112 10 65536 (i108.toInt + (1 : Int)) _ n0 X145.le A145 F145a F145c f112 hi144) (C := "com/example/kourier/kourier/metric/Position") rfl (hw _ (List.mem_of_getElem? (i := 23) rfl)) (hw _ (List.mem_of_getElem? (i := 24) rfl)) (hw _ (List.mem_of_getElem? (i := 26) rfl)) (hw _ (List.mem_of_getElem? (i := 25) rfl)) (hw _ (List.mem_of_getElem? (i := 4) rfl)) (hw _ (List.mem_of_getElem? (i := 27) rfl)) (by decide) rfl (by decide) (W := 0) (Nat.le_of_eq rfl) (by decide) (cells' := 1) (slots' := 3) rfl rfl (by decide) (by decide) A145 (argsL := [(.int p3)]) (rest := []) (lenOf own_pd3 rfl) rfl rfl at_110 (pc' := 113) rfl ?_
        rintro _ T147 h147 X147 ⟨rfl, e147⟩
        subst e147
        show own_Goal p e below _ T147 (mkF m 113 #[.val (.int p0), .val (.int p1), .val (.int p2), .val (.int p3), .val (.int p4), .val (.int p1), .val (.double d112), .second, .val (.int (3 : Int32)), .val (.int p3), .val (.ref a140), .val (.int (0 : Int32))] [(.int (0 : Int32))])
        refine own_iload X147 rfl at_113 (pc' := 115) rfl ?_
        refine own_icmpF X147 (by decide) at_115 (pc' := 118) rfl ?_
        refine own_iconst X147 (v := (1 : Int32)) (by decide) at_118 (pc' := 119) rfl ?_
        refine own_goto X147 at_119 (pc' := 123) (by decide) (by decide) ?_
        exact own_retZ X147 (by decide) at_123 rfl (by decide) (by decide) rfl
  · -- no c58
    refine own_ifF X0 (own_z_ne c58).1 at_4 (pc' := 7) rfl ?_
    refine own_iloadN X0 rfl at_7 (pc' := 8) rfl ?_
    refine own_goto X0 at_8 (pc' := 12) (by decide) (by decide) ?_
    refine own_istore X0 (Ls' := #[.val (.int p0), .val (.int p1), .val (.int p2), .val (.int p3), .val (.int p4), .val (.int p0), .unset, .unset, .unset, .unset, .unset, .unset]) rfl at_12 (pc' := 14) rfl ?_
    refine own_iloadN X0 rfl at_14 (pc' := 15) rfl ?_
    refine own_iload X0 rfl at_15 (pc' := 17) rfl ?_
    have c148 : p0 = p0 := rfl
    refine own_icmpF X0 (own_i_eq c148).2 at_17 (pc' := 20) rfl ?_
    refine own_dconst0 X0 (v := (0 : UInt64)) rfl at_20 (pc' := 21) rfl ?_
    refine own_goto X0 at_21 (pc' := 35) (by decide) (by decide) ?_
    refine own_dstore X0 (Ls' := #[.val (.int p0), .val (.int p1), .val (.int p2), .val (.int p3), .val (.int p4), .val (.int p0), .val (.double (0 : UInt64)), .second, .unset, .unset, .unset, .unset]) rfl at_35 (pc' := 37) rfl ?_
    refine own_iload X0 rfl at_37 (pc' := 39) rfl ?_
    refine own_iconst X0 (v := (1 : Int32)) (by decide) at_39 (pc' := 40) rfl ?_
    obtain ⟨i149, e149⟩ : ∃ v, XT.ushr p4 (1 : Int32) = v := ⟨_, rfl⟩
    refine own_iushr X0 e149 at_40 (pc' := 41) rfl ?_
    refine own_iconst X0 (v := (3 : Int32)) (by decide) at_41 (pc' := 42) rfl ?_
    obtain ⟨i150, e150⟩ : ∃ v, i149 &&& (3 : Int32) = v := ⟨_, rfl⟩
    have f150 : own_I 3 i150.toInt i150 := own_I.and e150 (by decide)
    have nn150 := own_and_nn (M := 3) e150 (by decide)
    refine own_iand X0 e150 at_42 (pc' := 43) rfl ?_
    rcases own_cases4 nn150 with rfl | rfl | rfl | rfl
    · -- 0
      refine own_istore X0 (Ls' := #[.val (.int p0), .val (.int p1), .val (.int p2), .val (.int p3), .val (.int p4), .val (.int p0), .val (.double (0 : UInt64)), .second, .val (.int (0 : Int32)), .unset, .unset, .unset]) rfl at_43 (pc' := 45) rfl ?_
      refine own_iload X0 rfl at_45 (pc' := 47) rfl ?_
      refine own_iconst X0 (v := (1 : Int32)) (by decide) at_47 (pc' := 48) rfl ?_
      refine own_icmpT X0 (by decide) at_48 (pc' := 57) (by decide) (by decide) ?_
      refine own_iload X0 rfl at_57 (pc' := 59) rfl ?_
      refine own_iconst X0 (v := (2 : Int32)) (by decide) at_59 (pc' := 60) rfl ?_
      refine own_icmpT X0 (by decide) at_60 (pc' := 70) (by decide) (by decide) ?_
      refine own_iloadN X0 rfl at_70 (pc' := 71) rfl ?_
      refine own_istore X0 (Ls' := #[.val (.int p0), .val (.int p1), .val (.int p2), .val (.int p3), .val (.int p4), .val (.int p0), .val (.double (0 : UInt64)), .second, .val (.int (0 : Int32)), .val (.int p3), .unset, .unset]) rfl at_71 (pc' := 73) rfl ?_
      refine own_new X0 (hw _ (List.mem_of_getElem? (i := 2) rfl)) (hw _ (List.mem_of_getElem? (i := 3) rfl)) (hw _ (List.mem_of_getElem? (i := 4) rfl)) (cells' := 1) (slots' := 3) rfl rfl (by decide) (by decide) at_73 (pc' := 76) rfl fun a151 T151 h151 g151 ge151 X151 E151 A151 D151 => ?_
      have F152 : Fld Z h151 a151 "com/example/kourier/kourier/metric/Position" "from" "I" (.int (0 : Int32)) := D151 (Or.inr (hw _ (List.mem_of_getElem? (i := 18) rfl))) (ty := .int) (by decide)
      have F153 : Fld Z h151 a151 "com/example/kourier/kourier/metric/Position" "toward" "I" (.int (0 : Int32)) := D151 (Or.inr (hw _ (List.mem_of_getElem? (i := 20) rfl))) (ty := .int) (by decide)
      have F154 : Fld Z h151 a151 "com/example/kourier/kourier/metric/Position" "offset" "D" (.double (0 : UInt64)) := D151 (Or.inr (hw _ (List.mem_of_getElem? (i := 22) rfl))) (ty := .double) (by decide)
      refine own_dup X151 rfl at_76 (pc' := 77) rfl ?_
      refine own_iloadN X151 rfl at_77 (pc' := 78) rfl ?_
      refine own_iload X151 rfl at_78 (pc' := 80) rfl ?_
      refine own_dload X151 rfl at_80 (pc' := 82) rfl ?_
      have f155 : own_D 0 0 (0 : Int) (0 : UInt64) := own_D.lit (s := false) (c := 0) (q := -1074) (by decide +kernel) (by decide +kernel) (by decide)
      refine own_special X151 (own_init_pt l Z a0 hw a151 p0 p0 (0 : UInt64)  _ n0 X151.le ge151 A151 F152 F153 F154 f155  rfl) rfl rfl (hw _ (List.mem_of_getElem? (i := 5) rfl)) (hw _ (List.mem_of_getElem? (i := 6) rfl)) (hw _ (List.mem_of_getElem? (i := 4) rfl)) (hw _ (List.mem_of_getElem? (i := 7) rfl)) (by decide) rfl (by decide) (W := 1) (Nat.le_of_eq rfl) (by decide) (cells' := 1) (slots' := 3) rfl rfl (by decide) (by decide) (argsL := [(.int p0), (.int p0), (.double (0 : UInt64))]) (rest := [(.ref a151)]) (lenOf own_pd1 rfl) rfl rfl at_82 (pc' := 85) rfl ?_
      rintro _ T156 h156 X156 ⟨rfl, A156, F156a, F156b, F156c⟩
      show own_Goal p e below _ T156 (mkF m 85 #[.val (.int p0), .val (.int p1), .val (.int p2), .val (.int p3), .val (.int p4), .val (.int p0), .val (.double (0 : UInt64)), .second, .val (.int (0 : Int32)), .val (.int p3), .unset, .unset] [(.ref a151)])
      refine own_astore X156 (Ls' := #[.val (.int p0), .val (.int p1), .val (.int p2), .val (.int p3), .val (.int p4), .val (.int p0), .val (.double (0 : UInt64)), .second, .val (.int (0 : Int32)), .val (.int p3), .val (.ref a151), .unset]) rfl rfl at_85 (pc' := 87) rfl ?_
      refine own_iloadN X156 rfl at_87 (pc' := 88) rfl ?_
      refine own_iload X156 rfl at_88 (pc' := 90) rfl ?_
      have c157 : p0 = p0 := rfl
      refine own_icmpF X156 (own_i_eq c157).2 at_90 (pc' := 93) rfl ?_
      refine own_iload X156 rfl at_93 (pc' := 95) rfl ?_
      refine own_iloadN X156 rfl at_95 (pc' := 96) rfl ?_
      by_cases c158 : p3 = p0
      · -- yes c158
        refine own_icmpF X156 (own_i_eq c158).2 at_96 (pc' := 99) rfl ?_
        refine own_iconst X156 (v := (1 : Int32)) (by decide) at_99 (pc' := 100) rfl ?_
        refine own_goto X156 at_100 (pc' := 104) (by decide) (by decide) ?_
        refine own_istore X156 (Ls' := #[.val (.int p0), .val (.int p1), .val (.int p2), .val (.int p3), .val (.int p4), .val (.int p0), .val (.double (0 : UInt64)), .second, .val (.int (0 : Int32)), .val (.int p3), .val (.ref a151), .val (.int (1 : Int32))]) rfl at_104 (pc' := 106) rfl ?_
        refine own_aload X156 rfl rfl at_106 (pc' := 108) rfl ?_
        refine own_iload X156 rfl at_108 (pc' := 110) rfl ?_
        refine own_virtual X156 (own_at_pt l Z a0 hw a151 p0 p3 (0 : UInt64)  _ n0 X156.le A156 F156a F156c f155 ) (C := "com/example/kourier/kourier/metric/Position") rfl (hw _ (List.mem_of_getElem? (i := 23) rfl)) (hw _ (List.mem_of_getElem? (i := 24) rfl)) (hw _ (List.mem_of_getElem? (i := 26) rfl)) (hw _ (List.mem_of_getElem? (i := 25) rfl)) (hw _ (List.mem_of_getElem? (i := 4) rfl)) (hw _ (List.mem_of_getElem? (i := 27) rfl)) (by decide) rfl (by decide) (W := 0) (Nat.le_of_eq rfl) (by decide) (cells' := 1) (slots' := 3) rfl rfl (by decide) (by decide) A156 (argsL := [(.int p3)]) (rest := []) (lenOf own_pd3 rfl) rfl rfl at_110 (pc' := 113) rfl ?_
        rintro _ T159 h159 X159 ⟨rfl, e159⟩
        subst e159
        show own_Goal p e below _ T159 (mkF m 113 #[.val (.int p0), .val (.int p1), .val (.int p2), .val (.int p3), .val (.int p4), .val (.int p0), .val (.double (0 : UInt64)), .second, .val (.int (0 : Int32)), .val (.int p3), .val (.ref a151), .val (.int (1 : Int32))] [(.int (if p0 = p3 then 1 else 0 : Int32))])
        refine own_iload X159 rfl at_113 (pc' := 115) rfl ?_
        have c160 : (if p0 = p3 then 1 else 0 : Int32) = (1 : Int32) := if_pos (Eq.symm c158)
        refine own_icmpF X159 (own_i_eq c160).2 at_115 (pc' := 118) rfl ?_
        refine own_iconst X159 (v := (1 : Int32)) (by decide) at_118 (pc' := 119) rfl ?_
        refine own_goto X159 at_119 (pc' := 123) (by decide) (by decide) ?_
        exact own_retZ X159 (by decide) at_123 rfl (by decide) (by decide) rfl
      · -- no c158
        refine own_icmpT X156 (own_i_ne c158).2 at_96 (pc' := 103) (by decide) (by decide) ?_
        refine own_iconst X156 (v := (0 : Int32)) (by decide) at_103 (pc' := 104) rfl ?_
        refine own_istore X156 (Ls' := #[.val (.int p0), .val (.int p1), .val (.int p2), .val (.int p3), .val (.int p4), .val (.int p0), .val (.double (0 : UInt64)), .second, .val (.int (0 : Int32)), .val (.int p3), .val (.ref a151), .val (.int (0 : Int32))]) rfl at_104 (pc' := 106) rfl ?_
        refine own_aload X156 rfl rfl at_106 (pc' := 108) rfl ?_
        refine own_iload X156 rfl at_108 (pc' := 110) rfl ?_
        refine own_virtual X156 (own_at_pt l Z a0 hw a151 p0 p3 (0 : UInt64)  _ n0 X156.le A156 F156a F156c f155 ) (C := "com/example/kourier/kourier/metric/Position") rfl (hw _ (List.mem_of_getElem? (i := 23) rfl)) (hw _ (List.mem_of_getElem? (i := 24) rfl)) (hw _ (List.mem_of_getElem? (i := 26) rfl)) (hw _ (List.mem_of_getElem? (i := 25) rfl)) (hw _ (List.mem_of_getElem? (i := 4) rfl)) (hw _ (List.mem_of_getElem? (i := 27) rfl)) (by decide) rfl (by decide) (W := 0) (Nat.le_of_eq rfl) (by decide) (cells' := 1) (slots' := 3) rfl rfl (by decide) (by decide) A156 (argsL := [(.int p3)]) (rest := []) (lenOf own_pd3 rfl) rfl rfl at_110 (pc' := 113) rfl ?_
        rintro _ T161 h161 X161 ⟨rfl, e161⟩
        subst e161
        show own_Goal p e below _ T161 (mkF m 113 #[.val (.int p0), .val (.int p1), .val (.int p2), .val (.int p3), .val (.int p4), .val (.int p0), .val (.double (0 : UInt64)), .second, .val (.int (0 : Int32)), .val (.int p3), .val (.ref a151), .val (.int (0 : Int32))] [(.int (if p0 = p3 then 1 else 0 : Int32))])
        refine own_iload X161 rfl at_113 (pc' := 115) rfl ?_
        have c162 : (if p0 = p3 then 1 else 0 : Int32) = (0 : Int32) := if_neg fun z => c158 z.symm
        refine own_icmpF X161 (own_i_eq c162).2 at_115 (pc' := 118) rfl ?_
        refine own_iconst X161 (v := (1 : Int32)) (by decide) at_118 (pc' := 119) rfl ?_
        refine own_goto X161 at_119 (pc' := 123) (by decide) (by decide) ?_
        exact own_retZ X161 (by decide) at_123 rfl (by decide) (by decide) rfl
    · -- 1
      refine own_istore X0 (Ls' := #[.val (.int p0), .val (.int p1), .val (.int p2), .val (.int p3), .val (.int p4), .val (.int p0), .val (.double (0 : UInt64)), .second, .val (.int (1 : Int32)), .unset, .unset, .unset]) rfl at_43 (pc' := 45) rfl ?_
      refine own_iload X0 rfl at_45 (pc' := 47) rfl ?_
      refine own_iconst X0 (v := (1 : Int32)) (by decide) at_47 (pc' := 48) rfl ?_
      refine own_icmpF X0 (by decide) at_48 (pc' := 51) rfl ?_
      refine own_iloadN X0 rfl at_51 (pc' := 52) rfl ?_
      refine own_istore X0 (Ls' := #[.val (.int p0), .val (.int p1), .val (.int p2), .val (.int p3), .val (.int p4), .val (.int p0), .val (.double (0 : UInt64)), .second, .val (.int (1 : Int32)), .val (.int p0), .unset, .unset]) rfl at_52 (pc' := 54) rfl ?_
      refine own_goto X0 at_54 (pc' := 73) (by decide) (by decide) ?_
      refine own_new X0 (hw _ (List.mem_of_getElem? (i := 2) rfl)) (hw _ (List.mem_of_getElem? (i := 3) rfl)) (hw _ (List.mem_of_getElem? (i := 4) rfl)) (cells' := 1) (slots' := 3) rfl rfl (by decide) (by decide) at_73 (pc' := 76) rfl fun a163 T163 h163 g163 ge163 X163 E163 A163 D163 => ?_
      have F164 : Fld Z h163 a163 "com/example/kourier/kourier/metric/Position" "from" "I" (.int (0 : Int32)) := D163 (Or.inr (hw _ (List.mem_of_getElem? (i := 18) rfl))) (ty := .int) (by decide)
      have F165 : Fld Z h163 a163 "com/example/kourier/kourier/metric/Position" "toward" "I" (.int (0 : Int32)) := D163 (Or.inr (hw _ (List.mem_of_getElem? (i := 20) rfl))) (ty := .int) (by decide)
      have F166 : Fld Z h163 a163 "com/example/kourier/kourier/metric/Position" "offset" "D" (.double (0 : UInt64)) := D163 (Or.inr (hw _ (List.mem_of_getElem? (i := 22) rfl))) (ty := .double) (by decide)
      refine own_dup X163 rfl at_76 (pc' := 77) rfl ?_
      refine own_iloadN X163 rfl at_77 (pc' := 78) rfl ?_
      refine own_iload X163 rfl at_78 (pc' := 80) rfl ?_
      refine own_dload X163 rfl at_80 (pc' := 82) rfl ?_
      have f167 : own_D 0 0 (0 : Int) (0 : UInt64) := own_D.lit (s := false) (c := 0) (q := -1074) (by decide +kernel) (by decide +kernel) (by decide)
      refine own_special X163 (own_init_pt l Z a0 hw a163 p0 p0 (0 : UInt64)  _ n0 X163.le ge163 A163 F164 F165 F166 f167  rfl) rfl rfl (hw _ (List.mem_of_getElem? (i := 5) rfl)) (hw _ (List.mem_of_getElem? (i := 6) rfl)) (hw _ (List.mem_of_getElem? (i := 4) rfl)) (hw _ (List.mem_of_getElem? (i := 7) rfl)) (by decide) rfl (by decide) (W := 1) (Nat.le_of_eq rfl) (by decide) (cells' := 1) (slots' := 3) rfl rfl (by decide) (by decide) (argsL := [(.int p0), (.int p0), (.double (0 : UInt64))]) (rest := [(.ref a163)]) (lenOf own_pd1 rfl) rfl rfl at_82 (pc' := 85) rfl ?_
      rintro _ T168 h168 X168 ⟨rfl, A168, F168a, F168b, F168c⟩
      show own_Goal p e below _ T168 (mkF m 85 #[.val (.int p0), .val (.int p1), .val (.int p2), .val (.int p3), .val (.int p4), .val (.int p0), .val (.double (0 : UInt64)), .second, .val (.int (1 : Int32)), .val (.int p0), .unset, .unset] [(.ref a163)])
      refine own_astore X168 (Ls' := #[.val (.int p0), .val (.int p1), .val (.int p2), .val (.int p3), .val (.int p4), .val (.int p0), .val (.double (0 : UInt64)), .second, .val (.int (1 : Int32)), .val (.int p0), .val (.ref a163), .unset]) rfl rfl at_85 (pc' := 87) rfl ?_
      refine own_iloadN X168 rfl at_87 (pc' := 88) rfl ?_
      refine own_iload X168 rfl at_88 (pc' := 90) rfl ?_
      have c169 : p0 = p0 := rfl
      refine own_icmpF X168 (own_i_eq c169).2 at_90 (pc' := 93) rfl ?_
      refine own_iload X168 rfl at_93 (pc' := 95) rfl ?_
      refine own_iloadN X168 rfl at_95 (pc' := 96) rfl ?_
      have c170 : p0 = p0 := rfl
      refine own_icmpF X168 (own_i_eq c170).2 at_96 (pc' := 99) rfl ?_
      refine own_iconst X168 (v := (1 : Int32)) (by decide) at_99 (pc' := 100) rfl ?_
      refine own_goto X168 at_100 (pc' := 104) (by decide) (by decide) ?_
      refine own_istore X168 (Ls' := #[.val (.int p0), .val (.int p1), .val (.int p2), .val (.int p3), .val (.int p4), .val (.int p0), .val (.double (0 : UInt64)), .second, .val (.int (1 : Int32)), .val (.int p0), .val (.ref a163), .val (.int (1 : Int32))]) rfl at_104 (pc' := 106) rfl ?_
      refine own_aload X168 rfl rfl at_106 (pc' := 108) rfl ?_
      refine own_iload X168 rfl at_108 (pc' := 110) rfl ?_
      refine own_virtual X168 (own_at_pt l Z a0 hw a163 p0 p0 (0 : UInt64)  _ n0 X168.le A168 F168a F168c f167 ) (C := "com/example/kourier/kourier/metric/Position") rfl (hw _ (List.mem_of_getElem? (i := 23) rfl)) (hw _ (List.mem_of_getElem? (i := 24) rfl)) (hw _ (List.mem_of_getElem? (i := 26) rfl)) (hw _ (List.mem_of_getElem? (i := 25) rfl)) (hw _ (List.mem_of_getElem? (i := 4) rfl)) (hw _ (List.mem_of_getElem? (i := 27) rfl)) (by decide) rfl (by decide) (W := 0) (Nat.le_of_eq rfl) (by decide) (cells' := 1) (slots' := 3) rfl rfl (by decide) (by decide) A168 (argsL := [(.int p0)]) (rest := []) (lenOf own_pd3 rfl) rfl rfl at_110 (pc' := 113) rfl ?_
      rintro _ T171 h171 X171 ⟨rfl, e171⟩
      subst e171
      show own_Goal p e below _ T171 (mkF m 113 #[.val (.int p0), .val (.int p1), .val (.int p2), .val (.int p3), .val (.int p4), .val (.int p0), .val (.double (0 : UInt64)), .second, .val (.int (1 : Int32)), .val (.int p0), .val (.ref a163), .val (.int (1 : Int32))] [(.int (if p0 = p0 then 1 else 0 : Int32))])
      refine own_iload X171 rfl at_113 (pc' := 115) rfl ?_
      have c172 : (if p0 = p0 then 1 else 0 : Int32) = (1 : Int32) := if_pos (Eq.symm c170)
      refine own_icmpF X171 (own_i_eq c172).2 at_115 (pc' := 118) rfl ?_
      refine own_iconst X171 (v := (1 : Int32)) (by decide) at_118 (pc' := 119) rfl ?_
      refine own_goto X171 at_119 (pc' := 123) (by decide) (by decide) ?_
      exact own_retZ X171 (by decide) at_123 rfl (by decide) (by decide) rfl
    · -- 2
      refine own_istore X0 (Ls' := #[.val (.int p0), .val (.int p1), .val (.int p2), .val (.int p3), .val (.int p4), .val (.int p0), .val (.double (0 : UInt64)), .second, .val (.int (2 : Int32)), .unset, .unset, .unset]) rfl at_43 (pc' := 45) rfl ?_
      refine own_iload X0 rfl at_45 (pc' := 47) rfl ?_
      refine own_iconst X0 (v := (1 : Int32)) (by decide) at_47 (pc' := 48) rfl ?_
      refine own_icmpT X0 (by decide) at_48 (pc' := 57) (by decide) (by decide) ?_
      refine own_iload X0 rfl at_57 (pc' := 59) rfl ?_
      refine own_iconst X0 (v := (2 : Int32)) (by decide) at_59 (pc' := 60) rfl ?_
      refine own_icmpF X0 (by decide) at_60 (pc' := 63) rfl ?_
      refine own_iload X0 rfl at_63 (pc' := 65) rfl ?_
      refine own_istore X0 (Ls' := #[.val (.int p0), .val (.int p1), .val (.int p2), .val (.int p3), .val (.int p4), .val (.int p0), .val (.double (0 : UInt64)), .second, .val (.int (2 : Int32)), .val (.int p0), .unset, .unset]) rfl at_65 (pc' := 67) rfl ?_
      refine own_goto X0 at_67 (pc' := 73) (by decide) (by decide) ?_
      refine own_new X0 (hw _ (List.mem_of_getElem? (i := 2) rfl)) (hw _ (List.mem_of_getElem? (i := 3) rfl)) (hw _ (List.mem_of_getElem? (i := 4) rfl)) (cells' := 1) (slots' := 3) rfl rfl (by decide) (by decide) at_73 (pc' := 76) rfl fun a173 T173 h173 g173 ge173 X173 E173 A173 D173 => ?_
      have F174 : Fld Z h173 a173 "com/example/kourier/kourier/metric/Position" "from" "I" (.int (0 : Int32)) := D173 (Or.inr (hw _ (List.mem_of_getElem? (i := 18) rfl))) (ty := .int) (by decide)
      have F175 : Fld Z h173 a173 "com/example/kourier/kourier/metric/Position" "toward" "I" (.int (0 : Int32)) := D173 (Or.inr (hw _ (List.mem_of_getElem? (i := 20) rfl))) (ty := .int) (by decide)
      have F176 : Fld Z h173 a173 "com/example/kourier/kourier/metric/Position" "offset" "D" (.double (0 : UInt64)) := D173 (Or.inr (hw _ (List.mem_of_getElem? (i := 22) rfl))) (ty := .double) (by decide)
      refine own_dup X173 rfl at_76 (pc' := 77) rfl ?_
      refine own_iloadN X173 rfl at_77 (pc' := 78) rfl ?_
      refine own_iload X173 rfl at_78 (pc' := 80) rfl ?_
      refine own_dload X173 rfl at_80 (pc' := 82) rfl ?_
      have f177 : own_D 0 0 (0 : Int) (0 : UInt64) := own_D.lit (s := false) (c := 0) (q := -1074) (by decide +kernel) (by decide +kernel) (by decide)
      refine own_special X173 (own_init_pt l Z a0 hw a173 p0 p0 (0 : UInt64)  _ n0 X173.le ge173 A173 F174 F175 F176 f177  rfl) rfl rfl (hw _ (List.mem_of_getElem? (i := 5) rfl)) (hw _ (List.mem_of_getElem? (i := 6) rfl)) (hw _ (List.mem_of_getElem? (i := 4) rfl)) (hw _ (List.mem_of_getElem? (i := 7) rfl)) (by decide) rfl (by decide) (W := 1) (Nat.le_of_eq rfl) (by decide) (cells' := 1) (slots' := 3) rfl rfl (by decide) (by decide) (argsL := [(.int p0), (.int p0), (.double (0 : UInt64))]) (rest := [(.ref a173)]) (lenOf own_pd1 rfl) rfl rfl at_82 (pc' := 85) rfl ?_
      rintro _ T178 h178 X178 ⟨rfl, A178, F178a, F178b, F178c⟩
      show own_Goal p e below _ T178 (mkF m 85 #[.val (.int p0), .val (.int p1), .val (.int p2), .val (.int p3), .val (.int p4), .val (.int p0), .val (.double (0 : UInt64)), .second, .val (.int (2 : Int32)), .val (.int p0), .unset, .unset] [(.ref a173)])
      refine own_astore X178 (Ls' := #[.val (.int p0), .val (.int p1), .val (.int p2), .val (.int p3), .val (.int p4), .val (.int p0), .val (.double (0 : UInt64)), .second, .val (.int (2 : Int32)), .val (.int p0), .val (.ref a173), .unset]) rfl rfl at_85 (pc' := 87) rfl ?_
      refine own_iloadN X178 rfl at_87 (pc' := 88) rfl ?_
      refine own_iload X178 rfl at_88 (pc' := 90) rfl ?_
      have c179 : p0 = p0 := rfl
      refine own_icmpF X178 (own_i_eq c179).2 at_90 (pc' := 93) rfl ?_
      refine own_iload X178 rfl at_93 (pc' := 95) rfl ?_
      refine own_iloadN X178 rfl at_95 (pc' := 96) rfl ?_
      have c180 : p0 = p0 := rfl
      refine own_icmpF X178 (own_i_eq c180).2 at_96 (pc' := 99) rfl ?_
      refine own_iconst X178 (v := (1 : Int32)) (by decide) at_99 (pc' := 100) rfl ?_
      refine own_goto X178 at_100 (pc' := 104) (by decide) (by decide) ?_
      refine own_istore X178 (Ls' := #[.val (.int p0), .val (.int p1), .val (.int p2), .val (.int p3), .val (.int p4), .val (.int p0), .val (.double (0 : UInt64)), .second, .val (.int (2 : Int32)), .val (.int p0), .val (.ref a173), .val (.int (1 : Int32))]) rfl at_104 (pc' := 106) rfl ?_
      refine own_aload X178 rfl rfl at_106 (pc' := 108) rfl ?_
      refine own_iload X178 rfl at_108 (pc' := 110) rfl ?_
      refine own_virtual X178 (own_at_pt l Z a0 hw a173 p0 p0 (0 : UInt64)  _ n0 X178.le A178 F178a F178c f177 ) (C := "com/example/kourier/kourier/metric/Position") rfl (hw _ (List.mem_of_getElem? (i := 23) rfl)) (hw _ (List.mem_of_getElem? (i := 24) rfl)) (hw _ (List.mem_of_getElem? (i := 26) rfl)) (hw _ (List.mem_of_getElem? (i := 25) rfl)) (hw _ (List.mem_of_getElem? (i := 4) rfl)) (hw _ (List.mem_of_getElem? (i := 27) rfl)) (by decide) rfl (by decide) (W := 0) (Nat.le_of_eq rfl) (by decide) (cells' := 1) (slots' := 3) rfl rfl (by decide) (by decide) A178 (argsL := [(.int p0)]) (rest := []) (lenOf own_pd3 rfl) rfl rfl at_110 (pc' := 113) rfl ?_
      rintro _ T181 h181 X181 ⟨rfl, e181⟩
      subst e181
      show own_Goal p e below _ T181 (mkF m 113 #[.val (.int p0), .val (.int p1), .val (.int p2), .val (.int p3), .val (.int p4), .val (.int p0), .val (.double (0 : UInt64)), .second, .val (.int (2 : Int32)), .val (.int p0), .val (.ref a173), .val (.int (1 : Int32))] [(.int (if p0 = p0 then 1 else 0 : Int32))])
      refine own_iload X181 rfl at_113 (pc' := 115) rfl ?_
      have c182 : (if p0 = p0 then 1 else 0 : Int32) = (1 : Int32) := if_pos (Eq.symm c180)
      refine own_icmpF X181 (own_i_eq c182).2 at_115 (pc' := 118) rfl ?_
      refine own_iconst X181 (v := (1 : Int32)) (by decide) at_118 (pc' := 119) rfl ?_
      refine own_goto X181 at_119 (pc' := 123) (by decide) (by decide) ?_
      exact own_retZ X181 (by decide) at_123 rfl (by decide) (by decide) rfl
    · -- 3
      refine own_istore X0 (Ls' := #[.val (.int p0), .val (.int p1), .val (.int p2), .val (.int p3), .val (.int p4), .val (.int p0), .val (.double (0 : UInt64)), .second, .val (.int (3 : Int32)), .unset, .unset, .unset]) rfl at_43 (pc' := 45) rfl ?_
      refine own_iload X0 rfl at_45 (pc' := 47) rfl ?_
      refine own_iconst X0 (v := (1 : Int32)) (by decide) at_47 (pc' := 48) rfl ?_
      refine own_icmpT X0 (by decide) at_48 (pc' := 57) (by decide) (by decide) ?_
      refine own_iload X0 rfl at_57 (pc' := 59) rfl ?_
      refine own_iconst X0 (v := (2 : Int32)) (by decide) at_59 (pc' := 60) rfl ?_
      refine own_icmpT X0 (by decide) at_60 (pc' := 70) (by decide) (by decide) ?_
      refine own_iloadN X0 rfl at_70 (pc' := 71) rfl ?_
      refine own_istore X0 (Ls' := #[.val (.int p0), .val (.int p1), .val (.int p2), .val (.int p3), .val (.int p4), .val (.int p0), .val (.double (0 : UInt64)), .second, .val (.int (3 : Int32)), .val (.int p3), .unset, .unset]) rfl at_71 (pc' := 73) rfl ?_
      refine own_new X0 (hw _ (List.mem_of_getElem? (i := 2) rfl)) (hw _ (List.mem_of_getElem? (i := 3) rfl)) (hw _ (List.mem_of_getElem? (i := 4) rfl)) (cells' := 1) (slots' := 3) rfl rfl (by decide) (by decide) at_73 (pc' := 76) rfl fun a183 T183 h183 g183 ge183 X183 E183 A183 D183 => ?_
      have F184 : Fld Z h183 a183 "com/example/kourier/kourier/metric/Position" "from" "I" (.int (0 : Int32)) := D183 (Or.inr (hw _ (List.mem_of_getElem? (i := 18) rfl))) (ty := .int) (by decide)
      have F185 : Fld Z h183 a183 "com/example/kourier/kourier/metric/Position" "toward" "I" (.int (0 : Int32)) := D183 (Or.inr (hw _ (List.mem_of_getElem? (i := 20) rfl))) (ty := .int) (by decide)
      have F186 : Fld Z h183 a183 "com/example/kourier/kourier/metric/Position" "offset" "D" (.double (0 : UInt64)) := D183 (Or.inr (hw _ (List.mem_of_getElem? (i := 22) rfl))) (ty := .double) (by decide)
      refine own_dup X183 rfl at_76 (pc' := 77) rfl ?_
      refine own_iloadN X183 rfl at_77 (pc' := 78) rfl ?_
      refine own_iload X183 rfl at_78 (pc' := 80) rfl ?_
      refine own_dload X183 rfl at_80 (pc' := 82) rfl ?_
      have f187 : own_D 0 0 (0 : Int) (0 : UInt64) := own_D.lit (s := false) (c := 0) (q := -1074) (by decide +kernel) (by decide +kernel) (by decide)
      refine own_special X183 (own_init_pt l Z a0 hw a183 p0 p0 (0 : UInt64)  _ n0 X183.le ge183 A183 F184 F185 F186 f187  rfl) rfl rfl (hw _ (List.mem_of_getElem? (i := 5) rfl)) (hw _ (List.mem_of_getElem? (i := 6) rfl)) (hw _ (List.mem_of_getElem? (i := 4) rfl)) (hw _ (List.mem_of_getElem? (i := 7) rfl)) (by decide) rfl (by decide) (W := 1) (Nat.le_of_eq rfl) (by decide) (cells' := 1) (slots' := 3) rfl rfl (by decide) (by decide) (argsL := [(.int p0), (.int p0), (.double (0 : UInt64))]) (rest := [(.ref a183)]) (lenOf own_pd1 rfl) rfl rfl at_82 (pc' := 85) rfl ?_
      rintro _ T188 h188 X188 ⟨rfl, A188, F188a, F188b, F188c⟩
      show own_Goal p e below _ T188 (mkF m 85 #[.val (.int p0), .val (.int p1), .val (.int p2), .val (.int p3), .val (.int p4), .val (.int p0), .val (.double (0 : UInt64)), .second, .val (.int (3 : Int32)), .val (.int p3), .unset, .unset] [(.ref a183)])
      refine own_astore X188 (Ls' := #[.val (.int p0), .val (.int p1), .val (.int p2), .val (.int p3), .val (.int p4), .val (.int p0), .val (.double (0 : UInt64)), .second, .val (.int (3 : Int32)), .val (.int p3), .val (.ref a183), .unset]) rfl rfl at_85 (pc' := 87) rfl ?_
      refine own_iloadN X188 rfl at_87 (pc' := 88) rfl ?_
      refine own_iload X188 rfl at_88 (pc' := 90) rfl ?_
      have c189 : p0 = p0 := rfl
      refine own_icmpF X188 (own_i_eq c189).2 at_90 (pc' := 93) rfl ?_
      refine own_iload X188 rfl at_93 (pc' := 95) rfl ?_
      refine own_iloadN X188 rfl at_95 (pc' := 96) rfl ?_
      by_cases c190 : p3 = p0
      · -- yes c190
        refine own_icmpF X188 (own_i_eq c190).2 at_96 (pc' := 99) rfl ?_
        refine own_iconst X188 (v := (1 : Int32)) (by decide) at_99 (pc' := 100) rfl ?_
        refine own_goto X188 at_100 (pc' := 104) (by decide) (by decide) ?_
        refine own_istore X188 (Ls' := #[.val (.int p0), .val (.int p1), .val (.int p2), .val (.int p3), .val (.int p4), .val (.int p0), .val (.double (0 : UInt64)), .second, .val (.int (3 : Int32)), .val (.int p3), .val (.ref a183), .val (.int (1 : Int32))]) rfl at_104 (pc' := 106) rfl ?_
        refine own_aload X188 rfl rfl at_106 (pc' := 108) rfl ?_
        refine own_iload X188 rfl at_108 (pc' := 110) rfl ?_
        refine own_virtual X188 (own_at_pt l Z a0 hw a183 p0 p3 (0 : UInt64)  _ n0 X188.le A188 F188a F188c f187 ) (C := "com/example/kourier/kourier/metric/Position") rfl (hw _ (List.mem_of_getElem? (i := 23) rfl)) (hw _ (List.mem_of_getElem? (i := 24) rfl)) (hw _ (List.mem_of_getElem? (i := 26) rfl)) (hw _ (List.mem_of_getElem? (i := 25) rfl)) (hw _ (List.mem_of_getElem? (i := 4) rfl)) (hw _ (List.mem_of_getElem? (i := 27) rfl)) (by decide) rfl (by decide) (W := 0) (Nat.le_of_eq rfl) (by decide) (cells' := 1) (slots' := 3) rfl rfl (by decide) (by decide) A188 (argsL := [(.int p3)]) (rest := []) (lenOf own_pd3 rfl) rfl rfl at_110 (pc' := 113) rfl ?_
        rintro _ T191 h191 X191 ⟨rfl, e191⟩
        subst e191
        show own_Goal p e below _ T191 (mkF m 113 #[.val (.int p0), .val (.int p1), .val (.int p2), .val (.int p3), .val (.int p4), .val (.int p0), .val (.double (0 : UInt64)), .second, .val (.int (3 : Int32)), .val (.int p3), .val (.ref a183), .val (.int (1 : Int32))] [(.int (if p0 = p3 then 1 else 0 : Int32))])
        refine own_iload X191 rfl at_113 (pc' := 115) rfl ?_
        have c192 : (if p0 = p3 then 1 else 0 : Int32) = (1 : Int32) := if_pos (Eq.symm c190)
        refine own_icmpF X191 (own_i_eq c192).2 at_115 (pc' := 118) rfl ?_
        refine own_iconst X191 (v := (1 : Int32)) (by decide) at_118 (pc' := 119) rfl ?_
        refine own_goto X191 at_119 (pc' := 123) (by decide) (by decide) ?_
        exact own_retZ X191 (by decide) at_123 rfl (by decide) (by decide) rfl
      · -- no c190
        refine own_icmpT X188 (own_i_ne c190).2 at_96 (pc' := 103) (by decide) (by decide) ?_
        refine own_iconst X188 (v := (0 : Int32)) (by decide) at_103 (pc' := 104) rfl ?_
        refine own_istore X188 (Ls' := #[.val (.int p0), .val (.int p1), .val (.int p2), .val (.int p3), .val (.int p4), .val (.int p0), .val (.double (0 : UInt64)), .second, .val (.int (3 : Int32)), .val (.int p3), .val (.ref a183), .val (.int (0 : Int32))]) rfl at_104 (pc' := 106) rfl ?_
        refine own_aload X188 rfl rfl at_106 (pc' := 108) rfl ?_
        refine own_iload X188 rfl at_108 (pc' := 110) rfl ?_
        refine own_virtual X188 (own_at_pt l Z a0 hw a183 p0 p3 (0 : UInt64)  _ n0 X188.le A188 F188a F188c f187 ) (C := "com/example/kourier/kourier/metric/Position") rfl (hw _ (List.mem_of_getElem? (i := 23) rfl)) (hw _ (List.mem_of_getElem? (i := 24) rfl)) (hw _ (List.mem_of_getElem? (i := 26) rfl)) (hw _ (List.mem_of_getElem? (i := 25) rfl)) (hw _ (List.mem_of_getElem? (i := 4) rfl)) (hw _ (List.mem_of_getElem? (i := 27) rfl)) (by decide) rfl (by decide) (W := 0) (Nat.le_of_eq rfl) (by decide) (cells' := 1) (slots' := 3) rfl rfl (by decide) (by decide) A188 (argsL := [(.int p3)]) (rest := []) (lenOf own_pd3 rfl) rfl rfl at_110 (pc' := 113) rfl ?_
        rintro _ T193 h193 X193 ⟨rfl, e193⟩
        subst e193
        show own_Goal p e below _ T193 (mkF m 113 #[.val (.int p0), .val (.int p1), .val (.int p2), .val (.int p3), .val (.int p4), .val (.int p0), .val (.double (0 : UInt64)), .second, .val (.int (3 : Int32)), .val (.int p3), .val (.ref a183), .val (.int (0 : Int32))] [(.int (if p0 = p3 then 1 else 0 : Int32))])
        refine own_iload X193 rfl at_113 (pc' := 115) rfl ?_
        have c194 : (if p0 = p3 then 1 else 0 : Int32) = (0 : Int32) := if_neg fun z => c190 z.symm
        refine own_icmpF X193 (own_i_eq c194).2 at_115 (pc' := 118) rfl ?_
        refine own_iconst X193 (v := (1 : Int32)) (by decide) at_118 (pc' := 119) rfl ?_
        refine own_goto X193 at_119 (pc' := 123) (by decide) (by decide) ?_
        exact own_retZ X193 (by decide) at_123 rfl (by decide) (by decide) rfl
set_option maxRecDepth 65536 in
set_option maxHeartbeats 40000000 in
theorem comes_1 {Post : Tables → Env → Array Value → State → Outcome → State → Prop} (hpost : ∀ tb e args s v u, (limb_1_1.after args s (.returned v) u = true ∧ limb_1_2.after args s (.returned v) u = true ∧ True) → FrameEnd s (.returned v) u (Jvm.fieldLocs frame_1_writes args s ++ Jvm.arrayLocs frame_1_arrays args s ++ Jvm.staticLocs frame_1_statics s) 16 128 → Post tb e args s (.returned v) u) :
    ArmFor flags0 classFile x code maxLocals ret World_1 tables_1 room_1 Calls_1 rest_1 Pre_1 Post := by
  intro l hfl _ _ p e ha hc hk s m args below hf hA hF happ hP
  obtain ⟨hcalls, hrest, hpre⟩ := hP
  obtain ⟨-, -, -, hnamed, -, -, -, hat⟩ := (Spec.applies_iff hf).mp happ
  obtain ⟨hg, hn⟩ := and_e (Cond.before_iff.mp (show (Jvm.Cond.and given_1 narrow_1).before args s = true from hpre))
  obtain ⟨h1, g0⟩ := and_e hg
  obtain ⟨k0, g1⟩ := and_e g0
  obtain ⟨k1, g2⟩ := and_e g1
  obtain ⟨k2, g3⟩ := and_e g2
  obtain ⟨k3, g4⟩ := and_e g3
  obtain ⟨w0, w1, w2, w3, w4, rfl⟩ : ∃ w0 w1 w2 w3 w4 : Value, args = #[w0, w1, w2, w3, w4] := by
    have hs : args.size = 5 := by simpa [Cond.value, given_1] using h1
    obtain ⟨L⟩ := args
    match L, hs with
    | [w0, w1, w2, w3, w4], _ => exact ⟨w0, w1, w2, w3, w4, rfl⟩
  have hw := fun d (hd : d ∈ tables_1) => atoms_spec (ws := Jvm.Cond.code x code maxLocals ret :: tables_1) hat d (List.mem_cons_of_mem _ hd)
  obtain ⟨p0, e0⟩ := is_v k0
  obtain rfl : w0 = (.int p0) := Option.some.inj e0
  obtain ⟨p1, e1⟩ := is_v k1
  obtain rfl : w1 = (.int p1) := Option.some.inj e1
  obtain ⟨p2, e2⟩ := is_v k2
  obtain rfl : w2 = (.int p2) := Option.some.inj e2
  obtain ⟨p3, e3⟩ := is_v k3
  obtain rfl : w3 = (.int p3) := Option.some.inj e3
  obtain ⟨p4, e4⟩ := is_v g4
  obtain rfl : w4 = (.int p4) := Option.some.inj e4
  obtain ⟨n, o, h1, h2, h3, _, L, rfl, ⟨⟨rfl, -⟩, N⟩, hq⟩ := own_law l s _ hw tables_1 p0 p1 p2 p3 p4 s.heap s.heap.size (Nat.le_refl _)  p e ha hc hk s m _ below hf ((Spec.applies_iff_loose hf).mp happ).1 ⟨rfl, State.Warmed39.refl s, rfl⟩ trivial
  refine ⟨n, _, h1, h2, h3, hpost _ _ _ _ _ _ ⟨Cond.after_iff.mpr rfl, Cond.after_iff.mpr (eq_i res_at (Term.int_eval (1)) rfl), trivial⟩ ⟨hq.1, hq.2.1, (hq.2.2.sift fun y hy => Or.inr (N y hy)).mono (by decide) (by decide)⟩⟩
theorem main_1_1 : Claimed_1_1 := comes_1 fun _ _ _ _ _ _ h hF => ⟨h.1, hF⟩
theorem main_1_2 : Claimed_1_2 := comes_1 fun _ _ _ _ _ _ h hF => ⟨h.2.1, hF⟩
end Jvm.Pilot.@@N@@
namespace Jvm.Pilot.@@N@@
open Jvm Jvm.ClassFile Sem Op Lib Jvm.Free Jvm.Stand Jvm.Pilot.@@N@@.Jvm.D
/-! MADE BY PROGRAM (witnessworld.py) out of the Statement's table words and the real class files: 10 classes; the members and pool entries that the words name. The judged class is class 1, her method 1. -/
namespace start1
open Jvm.ClassFile
def u (s : String) : CpInfo := .utf8 (stringToUtf16 s)
/-- a pool by its gaps: so many unusable entries, then the entry; so many at the end -/
def gap : Nat → List CpInfo → List CpInfo
  | 0, r => r
  | n + 1, r => .unusable :: gap n r
def poolList (es : List (Nat × CpInfo)) (last : Nat) : List CpInfo := es.foldr (fun e r => gap e.1 (e.2 :: r)) (gap last [])
def pool (es : List (Nat × CpInfo)) (last : Nat) : Array CpInfo := ⟨poolList es last⟩
def fileOf (pool : Array CpInfo) (this : Nat) (attrs : Array Attribute := #[]) (ms : Array MethodInfo := #[]) (fl : Nat := 33) (sup : Nat := 0) (ifs : Array Nat := #[]) (fds : Array FieldInfo := #[]) : ClassFile where
  minorVersion := 0
  majorVersion := 65
  constantPool := pool
  accessFlags := fl
  thisClass := this
  superClass := sup
  interfaces := ifs
  fields := fds
  methods := ms
  attributes := attrs
def plain (name : String) (sup : Option ClassId) : Class where
  name := name
  kind := .ordinary
  loader := none
  accessFlags := 33
  super := sup
  interfaces := #[]
  cf := none
  fields := #[]
  methods := #[]
  instanceTypes := #[]
  staticTypes := #[]
  resolved := #[]
  callSites := []
  init := .initialized
  statics := none
  mirror := none

def pool0 : Array CpInfo := pool [(5, u "<init>"), (0, u "()V"), (1, .class_ 10), (1, u "java/lang/Object")] 113

def k0c0 : Code := { maxStack := 0, maxLocals := 1, code := object_method_1_code, exceptionTable := #[], attributes := #[] }
def k0m0 : Method := { name := "<init>", desc := "()V", sig := { parameters := [], returnType := none }, accessFlags := 1, code := some k0c0 }
/-- java/lang/Object -/
def k0 : Class := { plain "java/lang/Object" none with
  accessFlags := 33
  interfaces := #[]
  cf := some (fileOf pool0 8 #[] #[{ accessFlags := 1, nameIndex := 5, descriptorIndex := 6, attributes := #[] }] 33 0 #[] #[])
  fields := #[]
  methods := #[k0m0]
  instanceTypes := #[]
  staticTypes := #[]
  resolved := Array.replicate 124 none
  statics := none }

def pool1 : Array CpInfo := pool [(2, .class_ 4), (1, u "java/lang/Object"), (0, u "<init>"), (0, u "()V"), (0, .integer 65535), (0, .double 4652218415073722368), (1, .class_ 11), (0, u "com/example/kourier/kourier/metric/Position"), (0, .methodref 10 13), (0, .nameAndType 5 14), (0, u "(IID)V"), (0, .methodref 10 16), (0, .nameAndType 17 18), (0, u "isAt"), (0, u "(I)Z"), (0, .class_ 20), (0, u "com/example/kourier/kourier/metric/PositionIsAtPinLaw"), (2, u "law"), (0, u "(IIIII)Z")] 3

def k1m0 : Method := { name := "<init>", desc := "()V", sig := { parameters := [], returnType := none }, accessFlags := 1, code := none }
def k1c1 : Code := { maxStack := 6, maxLocals := 12, code := code, exceptionTable := #[], attributes := #[] }
def k1m1 : Method := { name := "law", desc := "(IIIII)Z", sig := { parameters := [.int, .int, .int, .int, .int], returnType := some .boolean }, accessFlags := 9, code := some k1c1 }
/-- com/example/kourier/kourier/metric/PositionIsAtPinLaw -/
def k1 : Class := { plain "com/example/kourier/kourier/metric/PositionIsAtPinLaw" (some 0) with
  accessFlags := 49
  interfaces := #[]
  cf := some (fileOf pool1 19 #[] #[{ accessFlags := 1, nameIndex := 5, descriptorIndex := 6, attributes := #[] }, { accessFlags := 9, nameIndex := 23, descriptorIndex := 24, attributes := #[] }] 49 2 #[] #[])
  fields := #[]
  methods := #[k1m0, k1m1]
  instanceTypes := #[]
  staticTypes := #[]
  resolved := Array.replicate 28 none
  statics := none }

def pool2 : Array CpInfo := pool [(1, .methodref 2 3), (0, .class_ 4), (0, .nameAndType 5 6), (0, u "java/lang/Object"), (0, u "<init>"), (0, u "()V"), (0, .class_ 8), (0, u "java/lang/Record")] 13

def k2c0 : Code := { maxStack := 1, maxLocals := 1, code := jdk_30_method_1_code, exceptionTable := #[], attributes := #[] }
def k2m0 : Method := { name := "<init>", desc := "()V", sig := { parameters := [], returnType := none }, accessFlags := 4, code := some k2c0 }
/-- java/lang/Record -/
def k2 : Class := { plain "java/lang/Record" (some 0) with
  accessFlags := 1057
  interfaces := #[]
  cf := some (fileOf pool2 7 #[] #[{ accessFlags := 4, nameIndex := 5, descriptorIndex := 6, attributes := #[] }] 1057 2 #[] #[])
  fields := #[]
  methods := #[k2m0]
  instanceTypes := #[]
  staticTypes := #[]
  resolved := Array.replicate 22 none
  statics := none }

def pool3 : Array CpInfo := pool [(1, .methodref 2 3), (0, .class_ 4), (0, .nameAndType 5 6), (0, u "java/lang/Record"), (0, u "<init>"), (0, u "()V"), (2, .double 9218868437227405312), (13, .fieldref 24 25), (0, .class_ 26), (0, .nameAndType 27 28), (0, u "com/example/kourier/kourier/metric/Position"), (0, u "from"), (0, u "I"), (0, .fieldref 24 30), (0, .nameAndType 31 28), (0, u "toward"), (0, .fieldref 24 33), (0, .nameAndType 34 35), (0, u "offset"), (0, u "D"), (2, u "(IID)V"), (0, .methodref 24 40), (0, .nameAndType 41 42), (0, u "isPoint"), (0, u "()Z"), (30, u "isAt"), (0, u "(I)Z")] 39

def k3c0 : Code := { maxStack := 6, maxLocals := 5, code := prog_21_method_1_code, exceptionTable := #[], attributes := #[] }
def k3m0 : Method := { name := "<init>", desc := "(IID)V", sig := { parameters := [.int, .int, .double], returnType := none }, accessFlags := 1, code := some k3c0 }
def k3c1 : Code := { maxStack := 4, maxLocals := 1, code := prog_21_method_3_code, exceptionTable := #[], attributes := #[] }
def k3m1 : Method := { name := "isPoint", desc := "()Z", sig := { parameters := [], returnType := some .boolean }, accessFlags := 1, code := some k3c1 }
def k3c2 : Code := { maxStack := 2, maxLocals := 2, code := prog_21_method_4_code, exceptionTable := #[], attributes := #[] }
def k3m2 : Method := { name := "isAt", desc := "(I)Z", sig := { parameters := [.int], returnType := some .boolean }, accessFlags := 1, code := some k3c2 }
/-- com/example/kourier/kourier/metric/Position -/
def k3 : Class := { plain "com/example/kourier/kourier/metric/Position" (some 2) with
  accessFlags := 49
  interfaces := #[]
  cf := some (fileOf pool3 24 #[] #[{ accessFlags := 1, nameIndex := 5, descriptorIndex := 38, attributes := #[] }, { accessFlags := 1, nameIndex := 41, descriptorIndex := 42, attributes := #[] }, { accessFlags := 1, nameIndex := 73, descriptorIndex := 74, attributes := #[] }] 49 2 #[] #[{ accessFlags := 18, nameIndex := 27, descriptorIndex := 28, attributes := #[] }, { accessFlags := 18, nameIndex := 31, descriptorIndex := 28, attributes := #[] }, { accessFlags := 18, nameIndex := 34, descriptorIndex := 35, attributes := #[] }])
  fields := #[{ name := "from", type := .int, accessFlags := 18, slot := 0, constantValue := 0 }, { name := "toward", type := .int, accessFlags := 18, slot := 1, constantValue := 0 }, { name := "offset", type := .double, accessFlags := 18, slot := 2, constantValue := 0 }]
  methods := #[k3m0, k3m1, k3m2]
  instanceTypes := #[.int, .int, .double]
  staticTypes := #[]
  resolved := Array.replicate 114 none
  statics := none }

def pool4 : Array CpInfo := pool [(1, u "java/lang/Cloneable"), (0, .class_ 1), (0, u "java/lang/Object"), (0, .class_ 3)] 3

/-- java/lang/Cloneable -/
def k4 : Class := { plain "java/lang/Cloneable" (some 0) with
  accessFlags := 1537
  interfaces := #[]
  cf := some (fileOf pool4 2 #[] #[] 1537 4 #[] #[])
  fields := #[]
  methods := #[]
  instanceTypes := #[]
  staticTypes := #[]
  resolved := Array.replicate 8 none
  statics := none }

def pool5 : Array CpInfo := pool [(1, u "java/io/Serializable"), (0, .class_ 1), (0, u "java/lang/Object"), (0, .class_ 3)] 3

/-- java/io/Serializable -/
def k5 : Class := { plain "java/io/Serializable" (some 0) with
  accessFlags := 1537
  interfaces := #[]
  cf := some (fileOf pool5 2 #[] #[] 1537 4 #[] #[])
  fields := #[]
  methods := #[]
  instanceTypes := #[]
  staticTypes := #[]
  resolved := Array.replicate 8 none
  statics := none }

/-- the primitive byte -/
def k6 : Class := { plain "byte" none with kind := .primitive 'B', accessFlags := 0x411 }
/-- [B -/
def k7 : Class := { plain "[B" (some 0) with kind := .array 6 .byte, interfaces := #[4, 5], accessFlags := 1041 }

/-- the primitive int -/
def k8 : Class := { plain "int" none with kind := .primitive 'I', accessFlags := 0x411 }
/-- [I -/
def k9 : Class := { plain "[I" (some 0) with kind := .array 8 .int, interfaces := #[4, 5], accessFlags := 1041 }

def heap : Heap := #[]
def classes : Array Class := #[k0, k1, k2, k3, k4, k5, k6, k7, k8, k9]
def interned : List (Array UInt16 × Addr) := []
def slotsUsed : Nat := 0
def theMethod : MethodId := ⟨1, 1⟩
def args0 : Array Value := #[.int 5, .int 6, .int 7, .int 8, .int 9]
def aboutOver (below : List Frame) : State where
  vm := { classes := classes, interned := interned.toArray }
  heap := heap
  slotsUsed := slotsUsed
  threads := #[{ frames := .invoking theMethod args0 :: below }]
def below0 : List Frame := [.native { method := ⟨0, 0⟩, args := #[] }]
def about1 : State := aboutOver below0
def p0 : Program := .bare "" "" ""
def e0 : Env := launch0.env 0 0 0
theorem w_frames : about1.frames = Frame.invoking theMethod args0 :: below0 := rfl
set_option maxRecDepth 65536 in
theorem w_args : argsFit about1.vm theMethod args0 = true := by decide +kernel
set_option maxRecDepth 65536 in
theorem w_heap : heapFits about1 = true := by decide +kernel
set_option maxRecDepth 65536 in
theorem w_runnable : about1.curStatus? = some .runnable := by decide +kernel
set_option maxRecDepth 65536 in
theorem w_alone : about1.alone = true := by decide +kernel
set_option maxRecDepth 65536 in
theorem w_named : about1.methodNamed? x = some theMethod := by decide +kernel
set_option maxRecDepth 65536 in
theorem w_hears : about1.hears theMethod below0 = true := by decide +kernel
set_option maxRecDepth 65536 in
theorem w_ripe : about1.ripe theMethod args0 below0 = true := by decide +kernel
theorem w_running : about1.status = .running := rfl
set_option maxRecDepth 65536 in
theorem w_room : about1.hasRoom e0.platform room_1 = true :=
  launch0.hasRoom_least _ room_1 (by decide +kernel) (by decide +kernel) (by decide +kernel) (by decide +kernel) (by decide +kernel) (by decide +kernel)
theorem allAtoms_all (ts : List Jvm.Cond) (a : Array Jvm.Value) (st : Jvm.State) : (allAtoms ts).before a st = ts.all (fun c => c.before a st) := by
  induction ts with
  | nil => rfl
  | cons c t ih =>
    show (Jvm.Cond.and c (allAtoms t)).before a st = _
    rw [Jvm.Cond.before_and, ih, List.all_cons]
def words1 : List Jvm.Cond := Jvm.Cond.code x code maxLocals ret :: tables_1
/-- a 'code' word, met by the world's own term for the bytes: nothing is compared byte by byte -/
theorem code_word {y : MethodName} {bytes : ByteArray} {mx : Nat} {rt : Option FieldType} {a : Array Value} {s : State} {m : MethodId} {meth : Method} {c : Code} (h1 : s.methodNamed? y = some m) (h2 : s.vm.method? m = some meth) (h3 : meth.code = some c) (h4 : c.code = bytes)
    (h5 : (c.maxLocals == mx && c.exceptionTable.isEmpty && decide (c.maxStack ≤ mostOperands) && decide (meth.sig.returnType = rt) && !meth.locks && decide (parseMethodDescriptor y.desc = some meth.sig)) = true) : (Jvm.Cond.code y bytes mx rt).before a s = true := by
  simp only [Bool.and_eq_true, beq_iff_eq, Bool.not_eq_true', decide_eq_true_eq] at h5
  obtain ⟨⟨⟨⟨⟨g1, g2⟩, g3⟩, g4⟩, g5⟩, g6⟩ := h5
  simp [Cond.before, Cond.holds, Cond.value, h1, h2, h3, h4, g1, g2, g3, g4, g5, g6]
def isCode : Jvm.Cond → Bool
  | .code _ _ _ _ => true
  | _ => false
theorem all_split {L : List Jvm.Cond} {P : Jvm.Cond → Bool} (h1 : L.all (fun c => isCode c || P c) = true) (h2 : ∀ c ∈ L.filter isCode, P c = true) : L.all P = true := by
  refine List.all_eq_true.mpr fun c hc => ?_
  have h := List.all_eq_true.mp h1 c hc
  rcases Bool.eq_false_or_eq_true (isCode c) with hi | hi
  · exact h2 c (List.mem_filter.mpr ⟨hc, hi⟩)
  · simpa [hi] using h
set_option maxRecDepth 65536 in
theorem w_c0 : (Jvm.Cond.code x code maxLocals ret).before args0 about1 = true := code_word (m := ⟨1, 1⟩) (meth := k1m1) (c := k1c1) (by decide +kernel) rfl rfl rfl (by decide +kernel)
set_option maxRecDepth 65536 in
theorem w_c1 : (Jvm.Cond.code ({ cls := "com/example/kourier/kourier/metric/Position", name := "<init>", desc := "(IID)V" } : Jvm.MethodName) prog_21_method_1_code (5 : Nat) (Option.none : Option Jvm.ClassFile.FieldType)).before args0 about1 = true := code_word (m := ⟨3, 0⟩) (meth := k3m0) (c := k3c0) (by decide +kernel) rfl rfl rfl (by decide +kernel)
set_option maxRecDepth 65536 in
theorem w_c2 : (Jvm.Cond.code ({ cls := "java/lang/Record", name := "<init>", desc := "()V" } : Jvm.MethodName) jdk_30_method_1_code (1 : Nat) (Option.none : Option Jvm.ClassFile.FieldType)).before args0 about1 = true := code_word (m := ⟨2, 0⟩) (meth := k2m0) (c := k2c0) (by decide +kernel) rfl rfl rfl (by decide +kernel)
set_option maxRecDepth 65536 in
theorem w_c3 : (Jvm.Cond.code ({ cls := "java/lang/Object", name := "<init>", desc := "()V" } : Jvm.MethodName) object_method_1_code (1 : Nat) (Option.none : Option Jvm.ClassFile.FieldType)).before args0 about1 = true := code_word (m := ⟨0, 0⟩) (meth := k0m0) (c := k0c0) (by decide +kernel) rfl rfl rfl (by decide +kernel)
set_option maxRecDepth 65536 in
theorem w_c4 : (Jvm.Cond.code ({ cls := "com/example/kourier/kourier/metric/Position", name := "isAt", desc := "(I)Z" } : Jvm.MethodName) prog_21_method_4_code (2 : Nat) (Option.some Jvm.ClassFile.FieldType.boolean)).before args0 about1 = true := code_word (m := ⟨3, 2⟩) (meth := k3m2) (c := k3c2) (by decide +kernel) rfl rfl rfl (by decide +kernel)
set_option maxRecDepth 65536 in
theorem w_c5 : (Jvm.Cond.code ({ cls := "com/example/kourier/kourier/metric/Position", name := "isPoint", desc := "()Z" } : Jvm.MethodName) prog_21_method_3_code (1 : Nat) (Option.some Jvm.ClassFile.FieldType.boolean)).before args0 about1 = true := code_word (m := ⟨3, 1⟩) (meth := k3m1) (c := k3c1) (by decide +kernel) rfl rfl rfl (by decide +kernel)
def codes1 : List Jvm.Cond := [Jvm.Cond.code x code maxLocals ret, Jvm.Cond.code ({ cls := "com/example/kourier/kourier/metric/Position", name := "<init>", desc := "(IID)V" } : Jvm.MethodName) prog_21_method_1_code (5 : Nat) (Option.none : Option Jvm.ClassFile.FieldType), Jvm.Cond.code ({ cls := "java/lang/Record", name := "<init>", desc := "()V" } : Jvm.MethodName) jdk_30_method_1_code (1 : Nat) (Option.none : Option Jvm.ClassFile.FieldType), Jvm.Cond.code ({ cls := "java/lang/Object", name := "<init>", desc := "()V" } : Jvm.MethodName) object_method_1_code (1 : Nat) (Option.none : Option Jvm.ClassFile.FieldType), Jvm.Cond.code ({ cls := "com/example/kourier/kourier/metric/Position", name := "isAt", desc := "(I)Z" } : Jvm.MethodName) prog_21_method_4_code (2 : Nat) (Option.some Jvm.ClassFile.FieldType.boolean), Jvm.Cond.code ({ cls := "com/example/kourier/kourier/metric/Position", name := "isPoint", desc := "()Z" } : Jvm.MethodName) prog_21_method_3_code (1 : Nat) (Option.some Jvm.ClassFile.FieldType.boolean)]
set_option maxRecDepth 65536 in
theorem codes_eq : words1.filter isCode = codes1 := rfl
theorem w_codes : ∀ c ∈ words1.filter isCode, c.before args0 about1 = true := by
  rw [codes_eq]
  intro c hc
  simp only [codes1, List.mem_cons, List.not_mem_nil, or_false] at hc
  rcases hc with rfl | rfl | rfl | rfl | rfl | rfl
  · exact w_c0
  · exact w_c1
  · exact w_c2
  · exact w_c3
  · exact w_c4
  · exact w_c5
set_option maxRecDepth 65536 in
theorem w_t1 : (words1.take 24).all (fun c => isCode c || c.before args0 about1) = true := by decide +kernel
set_option maxRecDepth 65536 in
theorem w_t2 : (words1.drop 24).all (fun c => isCode c || c.before args0 about1) = true := by decide +kernel
theorem w_tables : (allAtoms (Jvm.Cond.code x code maxLocals ret :: tables_1)).before args0 about1 = true := by
  rw [allAtoms_all]
  show words1.all (fun c => c.before args0 about1) = true
  refine all_split ?_ w_codes
  rw [← List.take_append_drop 24 words1, List.all_append, w_t1, w_t2]
  rfl
set_option maxRecDepth 65536 in
theorem w_case : (Jvm.Cond.and given_1 narrow_1).before args0 about1 = true := by decide +kernel
theorem w_applies : (headSpec (Jvm.Cond.code x code maxLocals ret :: tables_1) room_1).applies x e0.platform about1 = true :=
  (Spec.applies_iff w_frames).mpr ⟨w_running, w_runnable, w_alone, w_named, w_hears, w_ripe, w_room, w_tables⟩
theorem atStart : AtStart classFile x code maxLocals ret World_1 tables_1 room_1 Calls_1 rest_1 Pre_1 launch0 p0 e0 about1 theMethod args0 below0 :=
  ⟨lists_1, trivial, launch0.admits_env _ _ _, launch0.least_env, fairChoices_fair.cas, fairChoices_fair.clock, w_frames, w_args, w_heap, w_applies, trivial, trivial, w_case⟩
end start1
theorem witness_1 : WitnessClaimed_1 := ⟨start1.p0, start1.e0, start1.about1, start1.theMethod, start1.args0, start1.below0, start1.atStart⟩
end Jvm.Pilot.@@N@@
