import JvmDerived
import JvmDerived.Pilot.@@N@@Statement
import JvmDerived.Pilot.@@N@@Code
set_option linter.unusedVariables false
set_option linter.unusedSimpArgs false
namespace Jvm.Pilot.@@N@@
open Jvm Jvm.ClassFile Sem Op Lib Jvm.Free Jvm.Stand Jvm.LawKit Jvm.RoadKit Bundle Jvm.Pilot.@@N@@.Jvm.D
section OwnWalk
variable {p : Program} {l : Launch} {e : Env} {R : Room} {s : State} {m : MethodId} {args : Array Value} {below : List Frame} {meth : Method} {c : Code} {Z : State} {own : String} {bytes : ByteArray} {ml : Nat} {rt : Option FieldType} {nm : String} {n0 : Nat} {T : State} {h : Heap} {cells slots : Nat} {Q : Option Value → Heap → Prop} {Φ : State → Outcome → Prop} {pc pc' : Nat} {Ls : Array Slot} {rest : List Value} {a0 : Array Value}
/-- where the walk stands: the library's Stand, every place written so far is new (Fr), the heap, and the body's own data -/
def own_St (p : Program) (l : Launch) (e : Env) (R : Room) (s : State) (m : MethodId) (args : Array Value) (below : List Frame) (meth : Method) (c : Code) (Z : State) (own : String) (bytes : ByteArray) (ml : Nat) (rt : Option FieldType) (nm : String) (n0 : Nat) (T : State) (h : Heap) (cells slots : Nat) : Prop :=
  ∃ locs, Stand p l e R s m args below meth c T locs cells slots ∧ Fr n0 locs ∧ T.heap = h ∧ n0 ≤ h.size ∧ p.tables.exec = Jvm.exec ∧ Z.Warmed39 s.vm ∧ s.vm.findClass own = some m.cls ∧ c.code = bytes ∧ c.maxLocals = ml ∧ meth.sig.returnType = rt ∧ meth.locks = false ∧ meth.name = nm
/-- what a return that meets Q leaves -/
def own_Fin (below : List Frame) (s : State) (R : Room) (n0 : Nat) (Q : Option Value → Heap → Prop) : State → Outcome → Prop := fun s₂ o =>
  s₂.status = .running ∧ Ended s₂ below o ∧ ∃ v L, o = .returned v ∧ ((Q v s₂.heap ∧ n0 ≤ s₂.heap.size) ∧ Fr n0 L) ∧ FrameEnd s o s₂ L R.cells R.slots
/-- from frame g over T the run comes to an end that meets Φ -/
def own_Goal (p : Program) (e : Env) (below : List Frame) (Φ : State → Outcome → Prop) (T : State) (g : JFrame) : Prop :=
  ∃ s₂ o, Steps p.tables e below (T.setTop g) s₂ ∧ Φ s₂ o
theorem own_St.le (X : own_St p l e R s m args below meth c Z own bytes ml rt nm n0 T h cells slots) : n0 ≤ h.size := by obtain ⟨_, _, _, _, q, _⟩ := X; exact q
theorem own_step {T' : State} {g g' : JFrame} (f : ∀ t, Steps p.tables e below (T'.setTop g') t → Steps p.tables e below (T.setTop g) t) (k : own_Goal p e below Φ T' g') : own_Goal p e below Φ T g := by
  obtain ⟨s2, o, a, r⟩ := k
  exact ⟨s2, o, f _ a, r⟩
theorem own_cast {g g' : JFrame} (q : g = g') (k : own_Goal p e below Φ T g') : own_Goal p e below Φ T g := q ▸ k
theorem own_pure (X : own_St p l e R s m args below meth c Z own bytes ml rt nm n0 T h cells slots) {g g' : JFrame} (f : ∀ {locs}, Stand p l e R s m args below meth c T locs cells slots → p.tables.exec = Jvm.exec → c.code = bytes → ∀ t, Steps p.tables e below (T.setTop g') t → Steps p.tables e below (T.setTop g) t) (k : own_Goal p e below Φ T g') : own_Goal p e below Φ T g := by
  obtain ⟨locs, X, -, -, -, hx, -, -, hby, -⟩ := X
  exact own_step (f X hx hby) k
theorem own_iconst (X : own_St p l e R s m args below meth c Z own bytes ml rt nm n0 T h cells slots) {i : Int} {v : Int32} (hv : Int32.ofInt i = v) (hd : decode bytes pc = .ok (.iconst i, 1)) (hp : pc + 1 = pc') (k : own_Goal p e below Φ T (mkF m pc' Ls (.int v :: rest))) : own_Goal p e below Φ T (mkF m pc Ls (rest)) := by
  subst hp hv
  exact own_pure X (fun X hx hby _ a => XS.iconst X.here hx rfl (hb hby hd) a) k
theorem own_bipush (X : own_St p l e R s m args below meth c Z own bytes ml rt nm n0 T h cells slots) {i : Int} {v : Int32} (hv : (Int8.ofInt i).toInt32 = v) (hd : decode bytes pc = .ok (.bipush i, 2)) (hp : pc + 2 = pc') (k : own_Goal p e below Φ T (mkF m pc' Ls (.int v :: rest))) : own_Goal p e below Φ T (mkF m pc Ls (rest)) := by
  subst hp hv
  exact own_pure X (fun X hx hby _ a => XS.bipush X.here hx rfl (hb hby hd) a) k
theorem own_sipush (X : own_St p l e R s m args below meth c Z own bytes ml rt nm n0 T h cells slots) {i : Int} {v : Int32} (hv : (Int16.ofInt i).toInt32 = v) (hd : decode bytes pc = .ok (.sipush i, 3)) (hp : pc + 3 = pc') (k : own_Goal p e below Φ T (mkF m pc' Ls (.int v :: rest))) : own_Goal p e below Φ T (mkF m pc Ls (rest)) := by
  subst hp hv
  exact own_pure X (fun X hx hby _ a => XS.sipush X.here hx rfl (hb hby hd) a) k
theorem own_aconst_null (X : own_St p l e R s m args below meth c Z own bytes ml rt nm n0 T h cells slots)  (hd : decode bytes pc = .ok (.aconst_null, 1)) (hp : pc + 1 = pc') (k : own_Goal p e below Φ T (mkF m pc' Ls (.null :: rest))) : own_Goal p e below Φ T (mkF m pc Ls (rest)) := by
  subst hp
  exact own_pure X (fun X hx hby _ a => XS.aconstNull X.here hx rfl (hb hby hd) a) k
theorem own_lconst (X : own_St p l e R s m args below meth c Z own bytes ml rt nm n0 T h cells slots) {k : Fin 2} {v : Int64} (hv : Int64.ofNat k = v) (hd : decode bytes pc = .ok (.lconst k, 1)) (hp : pc + 1 = pc') (k : own_Goal p e below Φ T (mkF m pc' Ls (.long v :: rest))) : own_Goal p e below Φ T (mkF m pc Ls (rest)) := by
  subst hp hv
  exact own_pure X (fun X hx hby _ a => XT.lconst X.here hx rfl (hb hby hd) a) k
theorem own_dconst0 (X : own_St p l e R s m args below meth c Z own bytes ml rt nm n0 T h cells slots) {v : UInt64} (hv : FP.dconst0 = v) (hd : decode bytes pc = .ok (.dconst 0, 1)) (hp : pc + 1 = pc') (k : own_Goal p e below Φ T (mkF m pc' Ls (.double v :: rest))) : own_Goal p e below Φ T (mkF m pc Ls (rest)) := by
  subst hp
  exact own_pure X (fun X hx hby _ a => XS.dconst0 X.here hx rfl (hb hby hd) hv a) k
theorem own_dconst1 (X : own_St p l e R s m args below meth c Z own bytes ml rt nm n0 T h cells slots) {v : UInt64} (hv : FP.dconst1 = v) (hd : decode bytes pc = .ok (.dconst 1, 1)) (hp : pc + 1 = pc') (k : own_Goal p e below Φ T (mkF m pc' Ls (.double v :: rest))) : own_Goal p e below Φ T (mkF m pc Ls (rest)) := by
  subst hp
  exact own_pure X (fun X hx hby _ a => XS.dconst1 X.here hx rfl (hb hby hd) hv a) k
theorem own_iload (X : own_St p l e R s m args below meth c Z own bytes ml rt nm n0 T h cells slots) {k : Nat} {v : Int32} (hl : Ls[k]? = some (.val (.int v))) (hd : decode bytes pc = .ok (.iload k, 2)) (hp : pc + 2 = pc') (k : own_Goal p e below Φ T (mkF m pc' Ls (.int v :: rest))) : own_Goal p e below Φ T (mkF m pc Ls (rest)) := by
  subst hp
  exact own_pure X (fun X hx hby _ a => XS.iload X.here hx rfl (hb hby hd) hl a) k
theorem own_iloadN (X : own_St p l e R s m args below meth c Z own bytes ml rt nm n0 T h cells slots) {k : Fin 4} {v : Int32} (hl : Ls[k.val]? = some (.val (.int v))) (hd : decode bytes pc = .ok (.iload_n k, 1)) (hp : pc + 1 = pc') (k : own_Goal p e below Φ T (mkF m pc' Ls (.int v :: rest))) : own_Goal p e below Φ T (mkF m pc Ls (rest)) := by
  subst hp
  exact own_pure X (fun X hx hby _ a => XS.iloadN X.here hx rfl (hb hby hd) hl a) k
theorem own_istore (X : own_St p l e R s m args below meth c Z own bytes ml rt nm n0 T h cells slots) {k : Nat} {v : Int32} {Ls' : Array Slot} (hl : storeLocals Ls k (.int v) = some Ls') (hd : decode bytes pc = .ok (.istore k, 2)) (hp : pc + 2 = pc') (k : own_Goal p e below Φ T (mkF m pc' Ls' (rest))) : own_Goal p e below Φ T (mkF m pc Ls (.int v :: rest)) := by
  subst hp
  exact own_pure X (fun X hx hby _ a => XS.istore X.here hx rfl (hb hby hd) rfl hl a) k
theorem own_istoreN (X : own_St p l e R s m args below meth c Z own bytes ml rt nm n0 T h cells slots) {k : Fin 4} {v : Int32} {Ls' : Array Slot} (hl : storeLocals Ls k.val (.int v) = some Ls') (hd : decode bytes pc = .ok (.istore_n k, 1)) (hp : pc + 1 = pc') (k : own_Goal p e below Φ T (mkF m pc' Ls' (rest))) : own_Goal p e below Φ T (mkF m pc Ls (.int v :: rest)) := by
  subst hp
  exact own_pure X (fun X hx hby _ a => XS.istoreN X.here hx rfl (hb hby hd) rfl hl a) k
theorem own_lload (X : own_St p l e R s m args below meth c Z own bytes ml rt nm n0 T h cells slots) {k : Nat} {v : Int64} (hl : Ls[k]? = some (.val (.long v))) (hd : decode bytes pc = .ok (.lload k, 2)) (hp : pc + 2 = pc') (k : own_Goal p e below Φ T (mkF m pc' Ls (.long v :: rest))) : own_Goal p e below Φ T (mkF m pc Ls (rest)) := by
  subst hp
  exact own_pure X (fun X hx hby _ a => XT.lload X.here hx rfl (hb hby hd) hl a) k
theorem own_lloadN (X : own_St p l e R s m args below meth c Z own bytes ml rt nm n0 T h cells slots) {k : Fin 4} {v : Int64} (hl : Ls[k.val]? = some (.val (.long v))) (hd : decode bytes pc = .ok (.lload_n k, 1)) (hp : pc + 1 = pc') (k : own_Goal p e below Φ T (mkF m pc' Ls (.long v :: rest))) : own_Goal p e below Φ T (mkF m pc Ls (rest)) := by
  subst hp
  exact own_pure X (fun X hx hby _ a => XT.lloadN X.here hx rfl (hb hby hd) hl a) k
theorem own_lstore (X : own_St p l e R s m args below meth c Z own bytes ml rt nm n0 T h cells slots) {k : Nat} {v : Int64} {Ls' : Array Slot} (hl : storeLocals Ls k (.long v) = some Ls') (hd : decode bytes pc = .ok (.lstore k, 2)) (hp : pc + 2 = pc') (k : own_Goal p e below Φ T (mkF m pc' Ls' (rest))) : own_Goal p e below Φ T (mkF m pc Ls (.long v :: rest)) := by
  subst hp
  exact own_pure X (fun X hx hby _ a => XT.lstore X.here hx rfl (hb hby hd) rfl hl a) k
theorem own_lstoreN (X : own_St p l e R s m args below meth c Z own bytes ml rt nm n0 T h cells slots) {k : Fin 4} {v : Int64} {Ls' : Array Slot} (hl : storeLocals Ls k.val (.long v) = some Ls') (hd : decode bytes pc = .ok (.lstore_n k, 1)) (hp : pc + 1 = pc') (k : own_Goal p e below Φ T (mkF m pc' Ls' (rest))) : own_Goal p e below Φ T (mkF m pc Ls (.long v :: rest)) := by
  subst hp
  exact own_pure X (fun X hx hby _ a => XT.lstoreN X.here hx rfl (hb hby hd) rfl hl a) k
theorem own_dload (X : own_St p l e R s m args below meth c Z own bytes ml rt nm n0 T h cells slots) {k : Nat} {v : UInt64} (hl : Ls[k]? = some (.val (.double v))) (hd : decode bytes pc = .ok (.dload k, 2)) (hp : pc + 2 = pc') (k : own_Goal p e below Φ T (mkF m pc' Ls (.double v :: rest))) : own_Goal p e below Φ T (mkF m pc Ls (rest)) := by
  subst hp
  exact own_pure X (fun X hx hby _ a => XS.dload X.here hx rfl (hb hby hd) hl a) k
theorem own_dloadN (X : own_St p l e R s m args below meth c Z own bytes ml rt nm n0 T h cells slots) {k : Fin 4} {v : UInt64} (hl : Ls[k.val]? = some (.val (.double v))) (hd : decode bytes pc = .ok (.dload_n k, 1)) (hp : pc + 1 = pc') (k : own_Goal p e below Φ T (mkF m pc' Ls (.double v :: rest))) : own_Goal p e below Φ T (mkF m pc Ls (rest)) := by
  subst hp
  exact own_pure X (fun X hx hby _ a => XS.dloadN X.here hx rfl (hb hby hd) hl a) k
theorem own_dstore (X : own_St p l e R s m args below meth c Z own bytes ml rt nm n0 T h cells slots) {k : Nat} {v : UInt64} {Ls' : Array Slot} (hl : storeLocals Ls k (.double v) = some Ls') (hd : decode bytes pc = .ok (.dstore k, 2)) (hp : pc + 2 = pc') (k : own_Goal p e below Φ T (mkF m pc' Ls' (rest))) : own_Goal p e below Φ T (mkF m pc Ls (.double v :: rest)) := by
  subst hp
  exact own_pure X (fun X hx hby _ a => XS.dstore X.here hx rfl (hb hby hd) rfl hl a) k
theorem own_dstoreN (X : own_St p l e R s m args below meth c Z own bytes ml rt nm n0 T h cells slots) {k : Fin 4} {v : UInt64} {Ls' : Array Slot} (hl : storeLocals Ls k.val (.double v) = some Ls') (hd : decode bytes pc = .ok (.dstore_n k, 1)) (hp : pc + 1 = pc') (k : own_Goal p e below Φ T (mkF m pc' Ls' (rest))) : own_Goal p e below Φ T (mkF m pc Ls (.double v :: rest)) := by
  subst hp
  exact own_pure X (fun X hx hby _ a => XS.dstoreN X.here hx rfl (hb hby hd) rfl hl a) k
theorem own_aload (X : own_St p l e R s m args below meth c Z own bytes ml rt nm n0 T h cells slots) {k : Nat} {v : Value} (hl : Ls[k]? = some (.val v)) (hv : v.isRef = true) (hd : decode bytes pc = .ok (.aload k, 2)) (hp : pc + 2 = pc') (k : own_Goal p e below Φ T (mkF m pc' Ls (v :: rest))) : own_Goal p e below Φ T (mkF m pc Ls (rest)) := by
  subst hp
  exact own_pure X (fun X hx hby _ a => XS.aload X.here hx rfl (hb hby hd) hl hv a) k
theorem own_aloadN (X : own_St p l e R s m args below meth c Z own bytes ml rt nm n0 T h cells slots) {k : Fin 4} {v : Value} (hl : Ls[k.val]? = some (.val v)) (hv : v.isRef = true) (hd : decode bytes pc = .ok (.aload_n k, 1)) (hp : pc + 1 = pc') (k : own_Goal p e below Φ T (mkF m pc' Ls (v :: rest))) : own_Goal p e below Φ T (mkF m pc Ls (rest)) := by
  subst hp
  exact own_pure X (fun X hx hby _ a => XS.aloadN X.here hx rfl (hb hby hd) hl hv a) k
theorem own_astore (X : own_St p l e R s m args below meth c Z own bytes ml rt nm n0 T h cells slots) {k : Nat} {v : Value} {Ls' : Array Slot} (hl : storeLocals Ls k v = some Ls') (hv : v.isRef = true) (hd : decode bytes pc = .ok (.astore k, 2)) (hp : pc + 2 = pc') (k : own_Goal p e below Φ T (mkF m pc' Ls' (rest))) : own_Goal p e below Φ T (mkF m pc Ls (v :: rest)) := by
  subst hp
  exact own_pure X (fun X hx hby _ a => XS.astore X.here hx rfl (hb hby hd) rfl hv hl a) k
theorem own_astoreN (X : own_St p l e R s m args below meth c Z own bytes ml rt nm n0 T h cells slots) {k : Fin 4} {v : Value} {Ls' : Array Slot} (hl : storeLocals Ls k.val v = some Ls') (hv : v.isRef = true) (hd : decode bytes pc = .ok (.astore_n k, 1)) (hp : pc + 1 = pc') (k : own_Goal p e below Φ T (mkF m pc' Ls' (rest))) : own_Goal p e below Φ T (mkF m pc Ls (v :: rest)) := by
  subst hp
  exact own_pure X (fun X hx hby _ a => XS.astoreN X.here hx rfl (hb hby hd) rfl hv hl a) k
theorem own_iinc (X : own_St p l e R s m args below meth c Z own bytes ml rt nm n0 T h cells slots) {k : Nat} {i : Int} {x v : Int32} {Ls' : Array Slot} (hl : Ls[k]? = some (.val (.int x))) (hv : x + Int32.ofInt i = v) (hl' : storeLocals Ls k (.int v) = some Ls') (hd : decode bytes pc = .ok (.iinc k i, 3)) (hp : pc + 3 = pc') (k : own_Goal p e below Φ T (mkF m pc' Ls' (rest))) : own_Goal p e below Φ T (mkF m pc Ls (rest)) := by
  subst hp hv
  exact own_pure X (fun X hx hby _ a => XS.iinc X.here hx rfl (hb hby hd) hl hl' a) k
theorem own_iadd (X : own_St p l e R s m args below meth c Z own bytes ml rt nm n0 T h cells slots) {x y v : Int32} (hv : x + y = v) (hd : decode bytes pc = .ok (.iadd, 1)) (hp : pc + 1 = pc') (k : own_Goal p e below Φ T (mkF m pc' Ls (.int v :: rest))) : own_Goal p e below Φ T (mkF m pc Ls (.int y :: .int x :: rest)) := by
  subst hp hv
  exact own_pure X (fun X hx hby _ a => XS.iadd X.here hx rfl (hb hby hd) rfl a) k
theorem own_isub (X : own_St p l e R s m args below meth c Z own bytes ml rt nm n0 T h cells slots) {x y v : Int32} (hv : x - y = v) (hd : decode bytes pc = .ok (.isub, 1)) (hp : pc + 1 = pc') (k : own_Goal p e below Φ T (mkF m pc' Ls (.int v :: rest))) : own_Goal p e below Φ T (mkF m pc Ls (.int y :: .int x :: rest)) := by
  subst hp hv
  exact own_pure X (fun X hx hby _ a => XS.isub X.here hx rfl (hb hby hd) rfl a) k
theorem own_imul (X : own_St p l e R s m args below meth c Z own bytes ml rt nm n0 T h cells slots) {x y v : Int32} (hv : x * y = v) (hd : decode bytes pc = .ok (.imul, 1)) (hp : pc + 1 = pc') (k : own_Goal p e below Φ T (mkF m pc' Ls (.int v :: rest))) : own_Goal p e below Φ T (mkF m pc Ls (.int y :: .int x :: rest)) := by
  subst hp hv
  exact own_pure X (fun X hx hby _ a => XS.imul X.here hx rfl (hb hby hd) rfl a) k
theorem own_iand (X : own_St p l e R s m args below meth c Z own bytes ml rt nm n0 T h cells slots) {x y v : Int32} (hv : x &&& y = v) (hd : decode bytes pc = .ok (.iand, 1)) (hp : pc + 1 = pc') (k : own_Goal p e below Φ T (mkF m pc' Ls (.int v :: rest))) : own_Goal p e below Φ T (mkF m pc Ls (.int y :: .int x :: rest)) := by
  subst hp hv
  exact own_pure X (fun X hx hby _ a => XS.iand X.here hx rfl (hb hby hd) rfl a) k
theorem own_ior (X : own_St p l e R s m args below meth c Z own bytes ml rt nm n0 T h cells slots) {x y v : Int32} (hv : x ||| y = v) (hd : decode bytes pc = .ok (.ior, 1)) (hp : pc + 1 = pc') (k : own_Goal p e below Φ T (mkF m pc' Ls (.int v :: rest))) : own_Goal p e below Φ T (mkF m pc Ls (.int y :: .int x :: rest)) := by
  subst hp hv
  exact own_pure X (fun X hx hby _ a => XT.ior X.here hx rfl (hb hby hd) rfl a) k
theorem own_ixor (X : own_St p l e R s m args below meth c Z own bytes ml rt nm n0 T h cells slots) {x y v : Int32} (hv : x ^^^ y = v) (hd : decode bytes pc = .ok (.ixor, 1)) (hp : pc + 1 = pc') (k : own_Goal p e below Φ T (mkF m pc' Ls (.int v :: rest))) : own_Goal p e below Φ T (mkF m pc Ls (.int y :: .int x :: rest)) := by
  subst hp hv
  exact own_pure X (fun X hx hby _ a => XT.ixor X.here hx rfl (hb hby hd) rfl a) k
theorem own_ishl (X : own_St p l e R s m args below meth c Z own bytes ml rt nm n0 T h cells slots) {x y v : Int32} (hv : x <<< (y &&& 31) = v) (hd : decode bytes pc = .ok (.ishl, 1)) (hp : pc + 1 = pc') (k : own_Goal p e below Φ T (mkF m pc' Ls (.int v :: rest))) : own_Goal p e below Φ T (mkF m pc Ls (.int y :: .int x :: rest)) := by
  subst hp hv
  exact own_pure X (fun X hx hby _ a => XT.ishl X.here hx rfl (hb hby hd) rfl a) k
theorem own_ishr (X : own_St p l e R s m args below meth c Z own bytes ml rt nm n0 T h cells slots) {x y v : Int32} (hv : x >>> (y &&& 31) = v) (hd : decode bytes pc = .ok (.ishr, 1)) (hp : pc + 1 = pc') (k : own_Goal p e below Φ T (mkF m pc' Ls (.int v :: rest))) : own_Goal p e below Φ T (mkF m pc Ls (.int y :: .int x :: rest)) := by
  subst hp hv
  exact own_pure X (fun X hx hby _ a => XT.ishr X.here hx rfl (hb hby hd) rfl a) k
theorem own_iushr (X : own_St p l e R s m args below meth c Z own bytes ml rt nm n0 T h cells slots) {x y v : Int32} (hv : XT.ushr x y = v) (hd : decode bytes pc = .ok (.iushr, 1)) (hp : pc + 1 = pc') (k : own_Goal p e below Φ T (mkF m pc' Ls (.int v :: rest))) : own_Goal p e below Φ T (mkF m pc Ls (.int y :: .int x :: rest)) := by
  subst hp hv
  exact own_pure X (fun X hx hby _ a => XT.iushr X.here hx rfl (hb hby hd) rfl a) k
theorem own_irem (X : own_St p l e R s m args below meth c Z own bytes ml rt nm n0 T h cells slots) {x y v : Int32} (hy : y ≠ 0) (hv : x % y = v) (hd : decode bytes pc = .ok (.irem, 1)) (hp : pc + 1 = pc') (k : own_Goal p e below Φ T (mkF m pc' Ls (.int v :: rest))) : own_Goal p e below Φ T (mkF m pc Ls (.int y :: .int x :: rest)) := by
  subst hp hv
  exact own_pure X (fun X hx hby _ a => iremM X hx rfl (hb hby hd) rfl hy a) k
theorem own_ineg (X : own_St p l e R s m args below meth c Z own bytes ml rt nm n0 T h cells slots) {x v : Int32} (hv : -x = v) (hd : decode bytes pc = .ok (.ineg, 1)) (hp : pc + 1 = pc') (k : own_Goal p e below Φ T (mkF m pc' Ls (.int v :: rest))) : own_Goal p e below Φ T (mkF m pc Ls (.int x :: rest)) := by
  subst hp hv
  exact own_pure X (fun X hx hby _ a => XS.ineg X.here hx rfl (hb hby hd) rfl a) k
theorem own_ladd (X : own_St p l e R s m args below meth c Z own bytes ml rt nm n0 T h cells slots) {x y v : Int64} (hv : x + y = v) (hd : decode bytes pc = .ok (.ladd, 1)) (hp : pc + 1 = pc') (k : own_Goal p e below Φ T (mkF m pc' Ls (.long v :: rest))) : own_Goal p e below Φ T (mkF m pc Ls (.long y :: .long x :: rest)) := by
  subst hp hv
  exact own_pure X (fun X hx hby _ a => XT.ladd X.here hx rfl (hb hby hd) rfl a) k
theorem own_lsub (X : own_St p l e R s m args below meth c Z own bytes ml rt nm n0 T h cells slots) {x y v : Int64} (hv : x - y = v) (hd : decode bytes pc = .ok (.lsub, 1)) (hp : pc + 1 = pc') (k : own_Goal p e below Φ T (mkF m pc' Ls (.long v :: rest))) : own_Goal p e below Φ T (mkF m pc Ls (.long y :: .long x :: rest)) := by
  subst hp hv
  exact own_pure X (fun X hx hby _ a => XT.lsub X.here hx rfl (hb hby hd) rfl a) k
theorem own_lmul (X : own_St p l e R s m args below meth c Z own bytes ml rt nm n0 T h cells slots) {x y v : Int64} (hv : x * y = v) (hd : decode bytes pc = .ok (.lmul, 1)) (hp : pc + 1 = pc') (k : own_Goal p e below Φ T (mkF m pc' Ls (.long v :: rest))) : own_Goal p e below Φ T (mkF m pc Ls (.long y :: .long x :: rest)) := by
  subst hp hv
  exact own_pure X (fun X hx hby _ a => XT.lmul X.here hx rfl (hb hby hd) rfl a) k
theorem own_land (X : own_St p l e R s m args below meth c Z own bytes ml rt nm n0 T h cells slots) {x y v : Int64} (hv : x &&& y = v) (hd : decode bytes pc = .ok (.land, 1)) (hp : pc + 1 = pc') (k : own_Goal p e below Φ T (mkF m pc' Ls (.long v :: rest))) : own_Goal p e below Φ T (mkF m pc Ls (.long y :: .long x :: rest)) := by
  subst hp hv
  exact own_pure X (fun X hx hby _ a => XT.land X.here hx rfl (hb hby hd) rfl a) k
theorem own_lor (X : own_St p l e R s m args below meth c Z own bytes ml rt nm n0 T h cells slots) {x y v : Int64} (hv : x ||| y = v) (hd : decode bytes pc = .ok (.lor, 1)) (hp : pc + 1 = pc') (k : own_Goal p e below Φ T (mkF m pc' Ls (.long v :: rest))) : own_Goal p e below Φ T (mkF m pc Ls (.long y :: .long x :: rest)) := by
  subst hp hv
  exact own_pure X (fun X hx hby _ a => XT.lor X.here hx rfl (hb hby hd) rfl a) k
theorem own_ldiv (X : own_St p l e R s m args below meth c Z own bytes ml rt nm n0 T h cells slots) {x y v : Int64} (hy : y ≠ 0) (hv : x / y = v) (hd : decode bytes pc = .ok (.ldiv, 1)) (hp : pc + 1 = pc') (k : own_Goal p e below Φ T (mkF m pc' Ls (.long v :: rest))) : own_Goal p e below Φ T (mkF m pc Ls (.long y :: .long x :: rest)) := by
  subst hp hv
  exact own_pure X (fun X hx hby _ a => XT.ldiv X.here hx rfl (hb hby hd) rfl hy a) k
theorem own_lrem (X : own_St p l e R s m args below meth c Z own bytes ml rt nm n0 T h cells slots) {x y v : Int64} (hy : y ≠ 0) (hv : x - (x / y) * y = v) (hd : decode bytes pc = .ok (.lrem, 1)) (hp : pc + 1 = pc') (k : own_Goal p e below Φ T (mkF m pc' Ls (.long v :: rest))) : own_Goal p e below Φ T (mkF m pc Ls (.long y :: .long x :: rest)) := by
  subst hp hv
  exact own_pure X (fun X hx hby _ a => XT.lrem X.here hx rfl (hb hby hd) rfl hy a) k
theorem own_lneg (X : own_St p l e R s m args below meth c Z own bytes ml rt nm n0 T h cells slots) {x v : Int64} (hv : -x = v) (hd : decode bytes pc = .ok (.lneg, 1)) (hp : pc + 1 = pc') (k : own_Goal p e below Φ T (mkF m pc' Ls (.long v :: rest))) : own_Goal p e below Φ T (mkF m pc Ls (.long x :: rest)) := by
  subst hp hv
  exact own_pure X (fun X hx hby _ a => XT.lneg X.here hx rfl (hb hby hd) rfl a) k
theorem own_lshl (X : own_St p l e R s m args below meth c Z own bytes ml rt nm n0 T h cells slots) {x v : Int64} {y : Int32} (hv : x <<< (y.toInt64 &&& 63) = v) (hd : decode bytes pc = .ok (.lshl, 1)) (hp : pc + 1 = pc') (k : own_Goal p e below Φ T (mkF m pc' Ls (.long v :: rest))) : own_Goal p e below Φ T (mkF m pc Ls (.int y :: .long x :: rest)) := by
  subst hp hv
  exact own_pure X (fun X hx hby _ a => XT.lshl X.here hx rfl (hb hby hd) rfl a) k
theorem own_lcmp (X : own_St p l e R s m args below meth c Z own bytes ml rt nm n0 T h cells slots) {x y : Int64} {v : Int32} (hv : XT.cmpL x y = v) (hd : decode bytes pc = .ok (.lcmp, 1)) (hp : pc + 1 = pc') (k : own_Goal p e below Φ T (mkF m pc' Ls (.int v :: rest))) : own_Goal p e below Φ T (mkF m pc Ls (.long y :: .long x :: rest)) := by
  subst hp hv
  exact own_pure X (fun X hx hby _ a => XT.lcmp X.here hx rfl (hb hby hd) rfl a) k
theorem own_i2l (X : own_St p l e R s m args below meth c Z own bytes ml rt nm n0 T h cells slots) {x : Int32} {v : Int64} (hv : x.toInt64 = v) (hd : decode bytes pc = .ok (.i2l, 1)) (hp : pc + 1 = pc') (k : own_Goal p e below Φ T (mkF m pc' Ls (.long v :: rest))) : own_Goal p e below Φ T (mkF m pc Ls (.int x :: rest)) := by
  subst hp hv
  exact own_pure X (fun X hx hby _ a => XT.i2l X.here hx rfl (hb hby hd) rfl a) k
theorem own_l2i (X : own_St p l e R s m args below meth c Z own bytes ml rt nm n0 T h cells slots) {x : Int64} {v : Int32} (hv : x.toInt32 = v) (hd : decode bytes pc = .ok (.l2i, 1)) (hp : pc + 1 = pc') (k : own_Goal p e below Φ T (mkF m pc' Ls (.int v :: rest))) : own_Goal p e below Φ T (mkF m pc Ls (.long x :: rest)) := by
  subst hp hv
  exact own_pure X (fun X hx hby _ a => XT.l2i X.here hx rfl (hb hby hd) rfl a) k
theorem own_i2c (X : own_St p l e R s m args below meth c Z own bytes ml rt nm n0 T h cells slots) {x v : Int32} (hv : x.toUInt32.toUInt16.toUInt32.toInt32 = v) (hd : decode bytes pc = .ok (.i2c, 1)) (hp : pc + 1 = pc') (k : own_Goal p e below Φ T (mkF m pc' Ls (.int v :: rest))) : own_Goal p e below Φ T (mkF m pc Ls (.int x :: rest)) := by
  subst hp hv
  exact own_pure X (fun X hx hby _ a => XT.i2c X.here hx rfl (hb hby hd) rfl a) k
theorem own_i2d (X : own_St p l e R s m args below meth c Z own bytes ml rt nm n0 T h cells slots) {x : Int32} {v : UInt64} (hv : FP.i2d x = v) (hd : decode bytes pc = .ok (.i2d, 1)) (hp : pc + 1 = pc') (k : own_Goal p e below Φ T (mkF m pc' Ls (.double v :: rest))) : own_Goal p e below Φ T (mkF m pc Ls (.int x :: rest)) := by
  subst hp
  exact own_pure X (fun X hx hby _ a => XS.i2dS X.here hx rfl (hb hby hd) rfl hv a) k
theorem own_l2d (X : own_St p l e R s m args below meth c Z own bytes ml rt nm n0 T h cells slots) {x : Int64} {v : UInt64} (hv : FP.l2d x = v) (hd : decode bytes pc = .ok (.l2d, 1)) (hp : pc + 1 = pc') (k : own_Goal p e below Φ T (mkF m pc' Ls (.double v :: rest))) : own_Goal p e below Φ T (mkF m pc Ls (.long x :: rest)) := by
  subst hp
  exact own_pure X (fun X hx hby _ a => XS.l2dS X.here hx rfl (hb hby hd) rfl hv a) k
theorem own_dadd (X : own_St p l e R s m args below meth c Z own bytes ml rt nm n0 T h cells slots) {x y v : UInt64} (hv : FP.dadd x y = v) (hn : Jvm.Free.Fl.NoNaN64 v) (hd : decode bytes pc = .ok (.dadd, 1)) (hp : pc + 1 = pc') (k : own_Goal p e below Φ T (mkF m pc' Ls (.double v :: rest))) : own_Goal p e below Φ T (mkF m pc Ls (.double y :: .double x :: rest)) := by
  subst hp
  exact own_pure X (fun X hx hby _ a => XS.daddS X.here hx rfl (hb hby hd) rfl (by rw [hv]; exact hn) hv a) k
theorem own_dsub (X : own_St p l e R s m args below meth c Z own bytes ml rt nm n0 T h cells slots) {x y v : UInt64} (hv : FP.dsub x y = v) (hn : Jvm.Free.Fl.NoNaN64 v) (hd : decode bytes pc = .ok (.dsub, 1)) (hp : pc + 1 = pc') (k : own_Goal p e below Φ T (mkF m pc' Ls (.double v :: rest))) : own_Goal p e below Φ T (mkF m pc Ls (.double y :: .double x :: rest)) := by
  subst hp
  exact own_pure X (fun X hx hby _ a => XS.dsubS X.here hx rfl (hb hby hd) rfl (by rw [hv]; exact hn) hv a) k
theorem own_dmul (X : own_St p l e R s m args below meth c Z own bytes ml rt nm n0 T h cells slots) {x y v : UInt64} (hv : FP.dmul x y = v) (hn : Jvm.Free.Fl.NoNaN64 v) (hd : decode bytes pc = .ok (.dmul, 1)) (hp : pc + 1 = pc') (k : own_Goal p e below Φ T (mkF m pc' Ls (.double v :: rest))) : own_Goal p e below Φ T (mkF m pc Ls (.double y :: .double x :: rest)) := by
  subst hp
  exact own_pure X (fun X hx hby _ a => XS.dmulS X.here hx rfl (hb hby hd) rfl (by rw [hv]; exact hn) hv a) k
theorem own_ddiv (X : own_St p l e R s m args below meth c Z own bytes ml rt nm n0 T h cells slots) {x y v : UInt64} (hv : FP.ddiv x y = v) (hn : Jvm.Free.Fl.NoNaN64 v) (hd : decode bytes pc = .ok (.ddiv, 1)) (hp : pc + 1 = pc') (k : own_Goal p e below Φ T (mkF m pc' Ls (.double v :: rest))) : own_Goal p e below Φ T (mkF m pc Ls (.double y :: .double x :: rest)) := by
  subst hp
  exact own_pure X (fun X hx hby _ a => XS.ddivS X.here hx rfl (hb hby hd) rfl (by rw [hv]; exact hn) hv a) k
theorem own_dneg (X : own_St p l e R s m args below meth c Z own bytes ml rt nm n0 T h cells slots) {x v : UInt64} (hv : FP.dneg x = v) (hd : decode bytes pc = .ok (.dneg, 1)) (hp : pc + 1 = pc') (k : own_Goal p e below Φ T (mkF m pc' Ls (.double v :: rest))) : own_Goal p e below Φ T (mkF m pc Ls (.double x :: rest)) := by
  subst hp
  exact own_pure X (fun X hx hby _ a => XS.dnegS X.here hx rfl (hb hby hd) rfl hv a) k
theorem own_dcmp (X : own_St p l e R s m args below meth c Z own bytes ml rt nm n0 T h cells slots) {o : CmpOp} {x y : UInt64} {v : Int32} (hv : cmpValue (FP.dcmp x y) o = v) (hd : decode bytes pc = .ok (.dcmp o, 1)) (hp : pc + 1 = pc') (k : own_Goal p e below Φ T (mkF m pc' Ls (.int v :: rest))) : own_Goal p e below Φ T (mkF m pc Ls (.double y :: .double x :: rest)) := by
  subst hp
  exact own_pure X (fun X hx hby _ a => XS.dcmpS X.here hx rfl (hb hby hd) rfl hv a) k
theorem own_dremS {tb : Tables} [Ours tb] {e : Env} {below : List Frame} {T target : State} {m : MethodId} {c : Code} {g : JFrame} (h : At T m c below) (hx : tb.exec = Jvm.exec) (hg : g.method = m) {x y v : UInt64} {rest : List Value} (hd : decode c.code g.pc = .ok (.drem, 1)) (hs : g.stack = .double y :: .double x :: rest) (hn : Jvm.Free.Fl.NoNaN64 (FP.drem x y)) (hv : FP.drem x y = v)
    (hr : Steps tb e below (T.setTop { g with pc := g.pc + 1, stack := .double v :: rest }) target) : Steps tb e below (T.setTop g) target := by
  subst hg
  subst hv
  obtain ⟨gm, gp, gl, gs, gk, ge, gr⟩ := g
  simp only at hs hd
  subst hs
  jvm_step h [h.top, hx, hd, Op.drem.at_number h.top hn]
  exact hr
theorem own_drem (X : own_St p l e R s m args below meth c Z own bytes ml rt nm n0 T h cells slots) {x y v : UInt64} (hv : FP.drem x y = v) (hn : Jvm.Free.Fl.NoNaN64 v) (hd : decode bytes pc = .ok (.drem, 1)) (hp : pc + 1 = pc') (k : own_Goal p e below Φ T (mkF m pc' Ls (.double v :: rest))) : own_Goal p e below Φ T (mkF m pc Ls (.double y :: .double x :: rest)) := by
  subst hp
  exact own_pure X (fun X hx hby _ a => own_dremS X.here hx rfl (hb hby hd) rfl (by rw [hv]; exact hn) hv a) k
theorem own_dup (X : own_St p l e R s m args below meth c Z own bytes ml rt nm n0 T h cells slots) {x : Value} (hc : x.category = 1) (hd : decode bytes pc = .ok (.dup, 1)) (hp : pc + 1 = pc') (k : own_Goal p e below Φ T (mkF m pc' Ls (x :: x :: rest))) : own_Goal p e below Φ T (mkF m pc Ls (x :: rest)) := by
  subst hp
  exact own_pure X (fun X hx hby _ a => XS.dup X.here hx rfl (hb hby hd) rfl hc a) k
theorem own_dup2 (X : own_St p l e R s m args below meth c Z own bytes ml rt nm n0 T h cells slots) {x y : Value} (hc : x.category = 1) (hc' : y.category = 1) (hd : decode bytes pc = .ok (.dup2, 1)) (hp : pc + 1 = pc') (k : own_Goal p e below Φ T (mkF m pc' Ls (x :: y :: x :: y :: rest))) : own_Goal p e below Φ T (mkF m pc Ls (x :: y :: rest)) := by
  subst hp
  exact own_pure X (fun X hx hby _ a => XT.dup2 X.here hx rfl (hb hby hd) rfl hc hc' a) k
theorem own_pop (X : own_St p l e R s m args below meth c Z own bytes ml rt nm n0 T h cells slots) {x : Value} (hc : x.category = 1) (hd : decode bytes pc = .ok (.pop, 1)) (hp : pc + 1 = pc') (k : own_Goal p e below Φ T (mkF m pc' Ls (rest))) : own_Goal p e below Φ T (mkF m pc Ls (x :: rest)) := by
  subst hp
  exact own_pure X (fun X hx hby _ a => XT.pop X.here hx rfl (hb hby hd) rfl hc a) k
theorem own_goto (X : own_St p l e R s m args below meth c Z own bytes ml rt nm n0 T h cells slots) {o : Int}  (hd : decode bytes pc = .ok (.goto o, 3)) (ho : 0 ≤ (pc : Int) + o) (hp : ((pc : Int) + o).toNat = pc') (k : own_Goal p e below Φ T (mkF m pc' Ls rest)) : own_Goal p e below Φ T (mkF m pc Ls (rest)) := by
  exact own_pure X (fun X hx hby _ a => XS.goto X.here hx rfl rfl (hb hby hd) ho hp a) k
theorem own_ifT (X : own_St p l e R s m args below meth c Z own bytes ml rt nm n0 T h cells slots) {o : Int} {cd : ClassFile.Cond} {x : Int32} (hc : ifCond.holds cd x = true) (hd : decode bytes pc = .ok (.ifCond cd o, 3)) (ho : 0 ≤ (pc : Int) + o) (hp : ((pc : Int) + o).toNat = pc') (k : own_Goal p e below Φ T (mkF m pc' Ls rest)) : own_Goal p e below Φ T (mkF m pc Ls (.int x :: rest)) := by
  exact own_pure X (fun X hx hby _ a => XS.ifYes X.here hx rfl rfl (hb hby hd) rfl hc ho hp a) k
theorem own_ifF (X : own_St p l e R s m args below meth c Z own bytes ml rt nm n0 T h cells slots) {o : Int} {cd : ClassFile.Cond} {x : Int32} (hc : ifCond.holds cd x = false) (hd : decode bytes pc = .ok (.ifCond cd o, 3)) (hp : pc + 3 = pc') (k : own_Goal p e below Φ T (mkF m pc' Ls rest)) : own_Goal p e below Φ T (mkF m pc Ls (.int x :: rest)) := by
  subst hp
  exact own_pure X (fun X hx hby _ a => XS.ifNo X.here hx rfl (hb hby hd) rfl hc a) k
theorem own_icmpT (X : own_St p l e R s m args below meth c Z own bytes ml rt nm n0 T h cells slots) {o : Int} {cd : ClassFile.Cond} {x y : Int32} (hc : if_icmp.holds cd x y = true) (hd : decode bytes pc = .ok (.if_icmp cd o, 3)) (ho : 0 ≤ (pc : Int) + o) (hp : ((pc : Int) + o).toNat = pc') (k : own_Goal p e below Φ T (mkF m pc' Ls rest)) : own_Goal p e below Φ T (mkF m pc Ls (.int y :: .int x :: rest)) := by
  exact own_pure X (fun X hx hby _ a => XS.icmpYes X.here hx rfl rfl (hb hby hd) rfl hc ho hp a) k
theorem own_icmpF (X : own_St p l e R s m args below meth c Z own bytes ml rt nm n0 T h cells slots) {o : Int} {cd : ClassFile.Cond} {x y : Int32} (hc : if_icmp.holds cd x y = false) (hd : decode bytes pc = .ok (.if_icmp cd o, 3)) (hp : pc + 3 = pc') (k : own_Goal p e below Φ T (mkF m pc' Ls rest)) : own_Goal p e below Φ T (mkF m pc Ls (.int y :: .int x :: rest)) := by
  subst hp
  exact own_pure X (fun X hx hby _ a => XS.icmpNo X.here hx rfl (hb hby hd) rfl hc a) k
theorem own_ifnullT (X : own_St p l e R s m args below meth c Z own bytes ml rt nm n0 T h cells slots) {o : Int}  (hd : decode bytes pc = .ok (.ifnull o, 3)) (ho : 0 ≤ (pc : Int) + o) (hp : ((pc : Int) + o).toNat = pc') (k : own_Goal p e below Φ T (mkF m pc' Ls rest)) : own_Goal p e below Φ T (mkF m pc Ls (.null :: rest)) := by
  exact own_pure X (fun X hx hby _ a => XS.ifnullYes X.here hx rfl rfl (hb hby hd) rfl ho hp a) k
theorem own_ifnullF (X : own_St p l e R s m args below meth c Z own bytes ml rt nm n0 T h cells slots) {o : Int} {b : Addr} (hd : decode bytes pc = .ok (.ifnull o, 3)) (hp : pc + 3 = pc') (k : own_Goal p e below Φ T (mkF m pc' Ls rest)) : own_Goal p e below Φ T (mkF m pc Ls (.ref b :: rest)) := by
  subst hp
  exact own_pure X (fun X hx hby _ a => XS.ifnullNo X.here hx rfl (hb hby hd) rfl a) k
theorem own_ifnonnullT (X : own_St p l e R s m args below meth c Z own bytes ml rt nm n0 T h cells slots) {o : Int} {b : Addr} (hd : decode bytes pc = .ok (.ifnonnull o, 3)) (ho : 0 ≤ (pc : Int) + o) (hp : ((pc : Int) + o).toNat = pc') (k : own_Goal p e below Φ T (mkF m pc' Ls rest)) : own_Goal p e below Φ T (mkF m pc Ls (.ref b :: rest)) := by
  exact own_pure X (fun X hx hby _ a => XT.ifnonnullYes X.here hx rfl rfl (hb hby hd) rfl ho hp a) k
theorem own_ifnonnullF (X : own_St p l e R s m args below meth c Z own bytes ml rt nm n0 T h cells slots) {o : Int}  (hd : decode bytes pc = .ok (.ifnonnull o, 3)) (hp : pc + 3 = pc') (k : own_Goal p e below Φ T (mkF m pc' Ls rest)) : own_Goal p e below Φ T (mkF m pc Ls (.null :: rest)) := by
  subst hp
  exact own_pure X (fun X hx hby _ a => XT.ifnonnullNo X.here hx rfl (hb hby hd) rfl a) k
theorem own_ldcI (X : own_St p l e R s m args below meth c Z own bytes ml rt nm n0 T h cells slots) {i : Nat} {v : Int32} (w : (Jvm.Cond.constant own i v).before a0 Z = true) (hd : decode bytes pc = .ok (.ldc i, 2)) (hp : pc + 2 = pc') (k : own_Goal p e below Φ T (mkF m pc' Ls (.int v :: rest))) : own_Goal p e below Φ T (mkF m pc Ls rest) := by
  subst hp
  obtain ⟨locs, X, -, -, -, hx, hZ, hown, hby, -⟩ := X
  exact own_step (fun t a => X.ldcInt hx hown (mvT hZ w) (g := mkF m pc Ls rest) rfl (hb hby hd) t a) k
theorem own_ldcJ (X : own_St p l e R s m args below meth c Z own bytes ml rt nm n0 T h cells slots) {i : Nat} {v : Int64} (w : (Jvm.Cond.constantLong own i v).before a0 Z = true) (hd : decode bytes pc = .ok (.ldc2_w i, 3)) (hp : pc + 3 = pc') (k : own_Goal p e below Φ T (mkF m pc' Ls (.long v :: rest))) : own_Goal p e below Φ T (mkF m pc Ls rest) := by
  subst hp
  obtain ⟨locs, X, -, -, -, hx, hZ, hown, hby, -⟩ := X
  exact own_step (fun t a => X.ldc2Long hx hown (mvT hZ w) (g := mkF m pc Ls rest) rfl (hb hby hd) t a) k
theorem own_ldcD (X : own_St p l e R s m args below meth c Z own bytes ml rt nm n0 T h cells slots) {i : Nat} {v : UInt64} (w : (Jvm.Cond.constantDouble own i v).before a0 Z = true) (hd : decode bytes pc = .ok (.ldc2_w i, 3)) (hp : pc + 3 = pc') (k : own_Goal p e below Φ T (mkF m pc' Ls (.double v :: rest))) : own_Goal p e below Φ T (mkF m pc Ls rest) := by
  subst hp
  obtain ⟨locs, X, -, -, -, hx, hZ, hown, hby, -⟩ := X
  exact own_step (fun t a => X.ldc2DoubleC hx hown (mvT hZ w) (g := mkF m pc Ls rest) rfl (hb hby hd) t a) k
theorem own_retI (X : own_St p l e R s m args below meth c Z own bytes ml rt nm n0 T h cells slots) {v : Int32} (hd : decode bytes pc = .ok (.ireturn, 1)) (hr : rt = some .int) (hc : cells ≤ R.cells) (hs : slots ≤ R.slots) (q : Q (some (.int v)) h) : own_Goal p e below (own_Fin below s R n0 Q) T (mkF m pc Ls (.int v :: rest)) := by
  obtain ⟨locs, X, N, e1, n1, hx, hZ, hown, hby, -, hrt, hlk, -⟩ := X
  obtain ⟨fs, hl, hrun, hended, hW, hsame⟩ := X.leave (v := some (.int v)) (fun z => by rw [hrt, hr] at z; cases z) hlk
  exact ⟨_, _, retOut X hx (hrt.trans hr) rfl (Or.inl ⟨rfl, Or.inl rfl, _, rfl⟩) (hb hby hd) hl, hrun, hended, _, _, rfl, ⟨⟨by show Q _ T.heap; rw [e1]; exact q, by show n0 ≤ T.heap.size; rw [e1]; exact n1⟩, N⟩, ⟨_, rfl⟩, hW, hsame.mono hc hs⟩
theorem own_retJ (X : own_St p l e R s m args below meth c Z own bytes ml rt nm n0 T h cells slots) {v : Int64} (hd : decode bytes pc = .ok (.lreturn, 1)) (hr : rt = some .long) (hc : cells ≤ R.cells) (hs : slots ≤ R.slots) (q : Q (some (.long v)) h) : own_Goal p e below (own_Fin below s R n0 Q) T (mkF m pc Ls (.long v :: rest)) := by
  obtain ⟨locs, X, N, e1, n1, hx, hZ, hown, hby, -, hrt, hlk, -⟩ := X
  obtain ⟨fs, hl, hrun, hended, hW, hsame⟩ := X.leave (v := some (.long v)) (fun z => by rw [hrt, hr] at z; cases z) hlk
  exact ⟨_, _, retOut X hx (hrt.trans hr) rfl (Or.inr (Or.inl ⟨rfl, rfl, _, rfl⟩)) (hb hby hd) hl, hrun, hended, _, _, rfl, ⟨⟨by show Q _ T.heap; rw [e1]; exact q, by show n0 ≤ T.heap.size; rw [e1]; exact n1⟩, N⟩, ⟨_, rfl⟩, hW, hsame.mono hc hs⟩
theorem own_retD (X : own_St p l e R s m args below meth c Z own bytes ml rt nm n0 T h cells slots) {v : UInt64} (hd : decode bytes pc = .ok (.dreturn, 1)) (hr : rt = some .double) (hc : cells ≤ R.cells) (hs : slots ≤ R.slots) (q : Q (some (.double v)) h) : own_Goal p e below (own_Fin below s R n0 Q) T (mkF m pc Ls (.double v :: rest)) := by
  obtain ⟨locs, X, N, e1, n1, hx, hZ, hown, hby, -, hrt, hlk, -⟩ := X
  obtain ⟨fs, hl, hrun, hended, hW, hsame⟩ := X.leave (v := some (.double v)) (fun z => by rw [hrt, hr] at z; cases z) hlk
  exact ⟨_, _, retOut X hx (hrt.trans hr) rfl (Or.inr (Or.inr (Or.inl ⟨rfl, rfl, _, rfl⟩))) (hb hby hd) hl, hrun, hended, _, _, rfl, ⟨⟨by show Q _ T.heap; rw [e1]; exact q, by show n0 ≤ T.heap.size; rw [e1]; exact n1⟩, N⟩, ⟨_, rfl⟩, hW, hsame.mono hc hs⟩
theorem own_retZ (X : own_St p l e R s m args below meth c Z own bytes ml rt nm n0 T h cells slots) {v : Int32} (hv : v = 0 ∨ v = 1) (hd : decode bytes pc = .ok (.ireturn, 1)) (hr : rt = some .boolean) (hc : cells ≤ R.cells) (hs : slots ≤ R.slots) (q : Q (some (.int v)) h) : own_Goal p e below (own_Fin below s R n0 Q) T (mkF m pc Ls (.int v :: rest)) := by
  obtain ⟨locs, X, N, e1, n1, hx, hZ, hown, hby, -, hrt, hlk, -⟩ := X
  obtain ⟨fs, hl, hrun, hended, hW, hsame⟩ := X.leave (v := some (.int v)) (fun z => by rw [hrt, hr] at z; cases z) hlk
  have hn : nar .boolean v = v := by rcases hv with rfl | rfl <;> rfl
  exact ⟨_, _, retN X hx (t := .boolean) (hrt.trans hr) (by simp) (hb hby hd) (by rw [hn]; exact hl), hrun, hended, _, _, rfl, ⟨⟨by show Q _ T.heap; rw [e1]; exact q, by show n0 ≤ T.heap.size; rw [e1]; exact n1⟩, N⟩, ⟨_, rfl⟩, hW, hsame.mono hc hs⟩
theorem own_retA (X : own_St p l e R s m args below meth c Z own bytes ml rt nm n0 T h cells slots) {b : Addr} {t : FieldType} (ht : t.isReference = true) (hd : decode bytes pc = .ok (.areturn, 1)) (hr : rt = some t) (hc : cells ≤ R.cells) (hs : slots ≤ R.slots) (q : Q (some (.ref b)) h) : own_Goal p e below (own_Fin below s R n0 Q) T (mkF m pc Ls (.ref b :: rest)) := by
  obtain ⟨locs, X, N, e1, n1, hx, hZ, hown, hby, -, hrt, hlk, -⟩ := X
  obtain ⟨fs, hl, hrun, hended, hW, hsame⟩ := X.leave (v := some (.ref b)) (fun z => by rw [hrt, hr] at z; cases z) hlk
  have hn : narrow t (.ref b) = .ref b := by cases t <;> rfl
  exact ⟨_, _, retOut X hx (hrt.trans hr) hn (Or.inr (Or.inr (Or.inr (Or.inr ⟨rfl, ht, rfl⟩)))) (hb hby hd) hl, hrun, hended, _, _, rfl, ⟨⟨by show Q _ T.heap; rw [e1]; exact q, by show n0 ≤ T.heap.size; rw [e1]; exact n1⟩, N⟩, ⟨_, rfl⟩, hW, hsame.mono hc hs⟩
theorem own_retV (X : own_St p l e R s m args below meth c Z own bytes ml rt nm n0 T h cells slots) (hd : decode bytes pc = .ok (.return_, 1)) (hr : rt = none) (hc : cells ≤ R.cells) (hs : slots ≤ R.slots) (q : Q none h) : own_Goal p e below (own_Fin below s R n0 Q) T (mkF m pc Ls []) := by
  obtain ⟨locs, X, N, e1, n1, hx, hZ, hown, hby, -, hrt, hlk, -⟩ := X
  obtain ⟨fs, hl, hrun, hended, hW, hsame⟩ := X.leave (v := none) (fun _ => rfl) hlk
  exact ⟨_, _, X.returnOut hx (hrt.trans hr) (hb hby hd) hl, hrun, hended, _, _, rfl, ⟨⟨by show Q _ T.heap; rw [e1]; exact q, by show n0 ≤ T.heap.size; rw [e1]; exact n1⟩, N⟩, ⟨_, rfl⟩, hW, hsame.mono hc hs⟩
/-- an array and all it holds -/
def own_Vec (Z : State) (h : Heap) (a : Addr) (ty : FieldType) (vs : List Value) : Prop := ∃ c : Cell, Arr Z h a c ty ∧ c.slots = vs.toArray
theorem own_Vec.lt {a : Addr} {ty : FieldType} {vs : List Value} (F : own_Vec Z h a ty vs) : a < h.size := by obtain ⟨c, A, -⟩ := F; exact A.lt
theorem own_Vec.ext {h' : Heap} {a : Addr} {ty : FieldType} {vs : List Value} (F : own_Vec Z h a ty vs) (E : Ext h h') : own_Vec Z h' a ty vs := by obtain ⟨c, A, r⟩ := F; exact ⟨c, A.ext E, r⟩
theorem own_Vec.other {h' : Heap} {a b : Addr} {sl : Nat} {v : Value} {ty : FieldType} {vs : List Value} (F : own_Vec Z h b ty vs) (W : Wr h h' a sl v) (q : b ≠ a) : own_Vec Z h' b ty vs := by obtain ⟨c, A, r⟩ := F; exact ⟨c, A.other W q, r⟩
theorem own_Vec.keep {h' : Heap} {ws : List Addr} {a : Addr} {ty : FieldType} {vs : List Value} (F : own_Vec Z h a ty vs) (K : Keep h h' ws) (q : a ∉ ws) : own_Vec Z h' a ty vs := by obtain ⟨c, A, r⟩ := F; exact ⟨c, ⟨K.2.1 a c A.1 q, A.2⟩, r⟩
theorem own_Vec.set {h' : Heap} {a : Addr} {i : Nat} {v : Value} {ty : FieldType} {vs : List Value} (F : own_Vec Z h a ty vs) (W : Wr h h' a i v) : own_Vec Z h' a ty (vs.set i v) := by
  obtain ⟨c, A, r⟩ := F
  refine ⟨_, A.same W, ?_⟩
  show c.slots.setIfInBounds i v = _
  rw [r]; simp
theorem own_lt_ne {a b : Addr} (q : b < h.size) (g : a = h.size) : b ≠ a := by subst g; exact Nat.ne_of_lt q
/-- an index in an array, as the library's laws ask it -/
theorem own_in {n i : Nat} {j : Int32} (hj : j.toNatClampNeg = i) (h0 : ¬ j < 0) (hi : i < n) : ¬ (j < 0 ∨ n ≤ j.toNatClampNeg) := by
  rw [hj]; rintro (q | q)
  · exact h0 q
  · omega
theorem own_len (X : own_St p l e R s m args below meth c Z own bytes ml rt nm n0 T h cells slots) {a : Addr} {ty : FieldType} {vs : List Value} (F : own_Vec Z h a ty vs) {v : Int32} (hv : vs.length.toInt32 = v) (hd : decode bytes pc = .ok (.arraylength, 1)) (hp : pc + 1 = pc') (k : own_Goal p e below Φ T (mkF m pc' Ls (.int v :: rest))) : own_Goal p e below Φ T (mkF m pc Ls (.ref a :: rest)) := by
  subst hp
  obtain ⟨locs, X, N, e1, -, hx, hZ, hown, hby, -⟩ := X
  obtain ⟨cl, A, r⟩ := F
  have e2 : cl.slots.size.toInt32 = v := by rw [r]; simpa using hv
  exact own_step (fun t a => X.arraylength hx (cell := cl) (by rw [e1]; exact A.1) (State.isArrayOf_alike hZ.alike A.2.1) (g := mkF m pc Ls _) rfl rfl (hb hby hd) t (by rw [e2]; exact a)) k
theorem own_iaload (X : own_St p l e R s m args below meth c Z own bytes ml rt nm n0 T h cells slots) {a : Addr} {vs : List Value} (F : own_Vec Z h a .int vs) {j : Int32} {i : Nat} {v : Value} (hj : j.toNatClampNeg = i) (h0 : ¬ j < 0) (hv : vs[i]? = some v) (hd : decode bytes pc = .ok (.iaload, 1)) (hp : pc + 1 = pc') (k : own_Goal p e below Φ T (mkF m pc' Ls (v :: rest))) : own_Goal p e below Φ T (mkF m pc Ls (.int j :: .ref a :: rest)) := by
  subst hp
  obtain ⟨locs, X, N, e1, -, hx, hZ, hown, hby, -⟩ := X
  obtain ⟨cl, A, r⟩ := F
  have q1 : i < vs.length := (List.getElem?_eq_some_iff.mp hv).1
  exact own_step (fun t a => X.iaload hx (cell := cl) (by rw [e1]; exact A.1) (State.isArrayOf_alike hZ.alike A.2.1) A.2.2 (own_in hj h0 (by rw [r]; simpa using q1)) (by rw [hj, r]; simpa using hv) (g := mkF m pc Ls _) rfl rfl (hb hby hd) t a) k
theorem own_laload (X : own_St p l e R s m args below meth c Z own bytes ml rt nm n0 T h cells slots) {a : Addr} {vs : List Value} (F : own_Vec Z h a .long vs) {j : Int32} {i : Nat} {v : Value} (hj : j.toNatClampNeg = i) (h0 : ¬ j < 0) (hv : vs[i]? = some v) (hd : decode bytes pc = .ok (.laload, 1)) (hp : pc + 1 = pc') (k : own_Goal p e below Φ T (mkF m pc' Ls (v :: rest))) : own_Goal p e below Φ T (mkF m pc Ls (.int j :: .ref a :: rest)) := by
  subst hp
  obtain ⟨locs, X, N, e1, -, hx, hZ, hown, hby, -⟩ := X
  obtain ⟨cl, A, r⟩ := F
  have q1 : i < vs.length := (List.getElem?_eq_some_iff.mp hv).1
  exact own_step (fun t a => X.laload hx (cell := cl) (by rw [e1]; exact A.1) (State.isArrayOf_alike hZ.alike A.2.1) A.2.2 (own_in hj h0 (by rw [r]; simpa using q1)) (by rw [hj, r]; simpa using hv) (g := mkF m pc Ls _) rfl rfl (hb hby hd) t a) k
theorem own_daload (X : own_St p l e R s m args below meth c Z own bytes ml rt nm n0 T h cells slots) {a : Addr} {vs : List Value} (F : own_Vec Z h a .double vs) {j : Int32} {i : Nat} {v : Value} (hj : j.toNatClampNeg = i) (h0 : ¬ j < 0) (hv : vs[i]? = some v) (hd : decode bytes pc = .ok (.daload, 1)) (hp : pc + 1 = pc') (k : own_Goal p e below Φ T (mkF m pc' Ls (v :: rest))) : own_Goal p e below Φ T (mkF m pc Ls (.int j :: .ref a :: rest)) := by
  subst hp
  obtain ⟨locs, X, N, e1, -, hx, hZ, hown, hby, -⟩ := X
  obtain ⟨cl, A, r⟩ := F
  have q1 : i < vs.length := (List.getElem?_eq_some_iff.mp hv).1
  exact own_step (fun t a => X.daload hx (cell := cl) (by rw [e1]; exact A.1) (State.isArrayOf_alike hZ.alike A.2.1) A.2.2 (own_in hj h0 (by rw [r]; simpa using q1)) (by rw [hj, r]; simpa using hv) (g := mkF m pc Ls _) rfl rfl (hb hby hd) t a) k
theorem own_iastore (X : own_St p l e R s m args below meth c Z own bytes ml rt nm n0 T h cells slots) {a : Addr} {vs : List Value} (F : own_Vec Z h a .int vs) (ha : n0 ≤ a) {j : Int32} {i : Nat} {x : Int32} (hj : j.toNatClampNeg = i) (h0 : ¬ j < 0) (hi : i < vs.length) (hd : decode bytes pc = .ok (.iastore, 1)) (hp : pc + 1 = pc')
    (k : ∀ T' h', own_St p l e R s m args below meth c Z own bytes ml rt nm n0 T' h' cells slots → Wr h h' a i (.int x) → own_Vec Z h' a .int (vs.set i (.int x)) → own_Goal p e below Φ T' (mkF m pc' Ls rest)) : own_Goal p e below Φ T (mkF m pc Ls (.int x :: .int j :: .ref a :: rest)) := by
  subst hp
  obtain ⟨locs, X, N, e1, n1, hx, hZ, hown, hby, r0⟩ := X
  have F0 := F
  obtain ⟨cl, A, r⟩ := F
  obtain ⟨T', h', X', e', W, st⟩ := stI X hx hZ e1 A (own_in hj h0 (by rw [r]; simpa using hi)) (g := mkF m pc Ls _) rfl rfl (hb hby hd)
  have N' := Fr.snoc X' N ha
  rw [hj] at W
  exact own_step st (k T' h' ⟨_, X', N', e', by rw [W.size]; exact n1, hx, hZ, hown, hby, r0⟩ W (F0.set W))
theorem own_dastore (X : own_St p l e R s m args below meth c Z own bytes ml rt nm n0 T h cells slots) {a : Addr} {vs : List Value} (F : own_Vec Z h a .double vs) (ha : n0 ≤ a) {j : Int32} {i : Nat} {x : UInt64} (hj : j.toNatClampNeg = i) (h0 : ¬ j < 0) (hi : i < vs.length) (hd : decode bytes pc = .ok (.dastore, 1)) (hp : pc + 1 = pc')
    (k : ∀ T' h', own_St p l e R s m args below meth c Z own bytes ml rt nm n0 T' h' cells slots → Wr h h' a i (.double x) → own_Vec Z h' a .double (vs.set i (.double x)) → own_Goal p e below Φ T' (mkF m pc' Ls rest)) : own_Goal p e below Φ T (mkF m pc Ls (.double x :: .int j :: .ref a :: rest)) := by
  subst hp
  obtain ⟨locs, X, N, e1, n1, hx, hZ, hown, hby, r0⟩ := X
  have F0 := F
  obtain ⟨cl, A, r⟩ := F
  obtain ⟨T', h', X', e', W, st⟩ := stD X hx hZ e1 A (own_in hj h0 (by rw [r]; simpa using hi)) (g := mkF m pc Ls _) rfl rfl (hb hby hd)
  have N' := Fr.snoc X' N ha
  rw [hj] at W
  exact own_step st (k T' h' ⟨_, X', N', e', by rw [W.size]; exact n1, hx, hZ, hown, hby, r0⟩ W (F0.set W))
theorem own_newarray (X : own_St p l e R s m args below meth c Z own bytes ml rt nm n0 T h cells slots) {aty : ArrayType} {ty : FieldType} (hty : newarray.typeOf aty = ty) (w : (Jvm.Cond.arrayClass ty).before a0 Z = true) {j : Int32} {n : Nat} {vs : List Value} (hj : j.toNatClampNeg = n) (h0 : ¬ j < 0) (hn : n ≤ 1000) (hvs : List.replicate n (defaultValue ty) = vs) {cells' slots' : Nat} (hc' : cells + 1 = cells') (hs' : slots + n = slots') (hc : cells' ≤ R.cells) (hs : slots' ≤ R.slots) (hd : decode bytes pc = .ok (.newarray aty, 2)) (hp : pc + 2 = pc')
    (k : ∀ a T' h', a = h.size → n0 ≤ a → own_St p l e R s m args below meth c Z own bytes ml rt nm n0 T' h' cells' slots' → Ext h h' → own_Vec Z h' a ty vs → own_Goal p e below Φ T' (mkF m pc' Ls (.ref a :: rest))) : own_Goal p e below Φ T (mkF m pc Ls (.int j :: rest)) := by
  subst hp hty hvs hc' hs'
  obtain ⟨locs, X, N, e1, n1, hx, hZ, hown, hby, r0⟩ := X
  obtain ⟨T', h', cA, X', e', E, A, st⟩ := newP X hx hZ w e1 (g := mkF m pc Ls _) rfl (hb hby hd) rfl h0 (cap := n) (by omega) (by omega) hc hs
  refine own_step st (k _ T' h' rfl n1 ⟨_, X', N, e', Nat.le_trans n1 E.1, hx, hZ, hown, hby, r0⟩ E ⟨_, A, ?_⟩)
  simp [newA, hj]
theorem own_new (X : own_St p l e R s m args below meth c Z own bytes ml rt nm n0 T h cells slots) {i : Nat} {C : String} {n : Nat} (w : (Jvm.Cond.classLink own i C).before a0 Z = true) (wi : (Jvm.Cond.instantiable C n).before a0 Z = true) (wz : (Jvm.Cond.initialized C).before a0 Z = true) {cells' slots' : Nat} (hc' : cells + 1 = cells') (hs' : slots + n = slots') (hc : cells' ≤ R.cells) (hs : slots' ≤ R.slots) (hd : decode bytes pc = .ok (.new i, 3)) (hp : pc + 3 = pc')
    (k : ∀ a T' h', a = h.size → n0 ≤ a → own_St p l e R s m args below meth c Z own bytes ml rt nm n0 T' h' cells' slots' → Ext h h' → Exa Z h' a C → (∀ {O nm d : String} {ty : FieldType}, Laid Z a0 C O nm d → parseFieldDescriptor d = some ty → Fld Z h' a O nm d (defaultValue ty)) → own_Goal p e below Φ T' (mkF m pc' Ls (.ref a :: rest))) : own_Goal p e below Φ T (mkF m pc Ls rest) := by
  subst hp hc' hs'
  obtain ⟨locs, X, N, e1, n1, hx, hZ, hown, hby, r0⟩ := X
  obtain ⟨T', h', X', e', E, A, D, -, st⟩ := newO X hx hZ hown w wi wz e1 (g := mkF m pc Ls _) rfl (hb hby hd) hc hs
  exact own_step st (k _ T' h' rfl n1 ⟨_, X', N, e', Nat.le_trans n1 E.1, hx, hZ, hown, hby, r0⟩ E A D)
theorem own_getF (X : own_St p l e R s m args below meth c Z own bytes ml rt nm n0 T h cells slots) {i : Nat} {O n d : String} (w : (Jvm.Cond.fieldLink own i O n d).before a0 Z = true) {a : Addr} {v : Value} (F : Fld Z h a O n d v) (hd : decode bytes pc = .ok (.getfield i, 3)) (hp : pc + 3 = pc')
    (k : ∀ T', own_St p l e R s m args below meth c Z own bytes ml rt nm n0 T' h cells slots → own_Goal p e below Φ T' (mkF m pc' Ls (v :: rest))) : own_Goal p e below Φ T (mkF m pc Ls (.ref a :: rest)) := by
  subst hp
  obtain ⟨locs, X, N, e1, n1, hx, hZ, hown, hby, r0⟩ := X
  obtain ⟨T', X', e', st⟩ := getF X hx hZ hown (host := "") (Or.inl w) Via.refl e1 F (g := mkF m pc Ls _) rfl rfl (hb hby hd)
  exact own_step st (k T' ⟨_, X', N, e', n1, hx, hZ, hown, hby, r0⟩)
theorem own_putF (X : own_St p l e R s m args below meth c Z own bytes ml rt nm n0 T h cells slots) {i : Nat} {O n d C : String} {kk : Nat} {ty : FieldType} (w : (Jvm.Cond.fieldLink own i O n d).before a0 Z = true) {a : Addr} {v old : Value} (F : Fld Z h a O n d old) (E : Exa Z h a C) (L : (Jvm.Cond.lays C O n d).before a0 Z = true ∨ ((Jvm.Cond.laysFinal C O n d).before a0 Z = true ∧ own = O ∧ nm = "<init>")) (wi : (Jvm.Cond.instantiable C kk).before a0 Z = true) (hty : parseFieldDescriptor d = some ty) (hn : narrow ty v = v) (hf : fits ty v = true) (ha : n0 ≤ a) (hd : decode bytes pc = .ok (.putfield i, 3)) (hp : pc + 3 = pc')
    (k : ∀ T' h', own_St p l e R s m args below meth c Z own bytes ml rt nm n0 T' h' cells slots → Wr h h' a (RoadKit.slotOf Z O n d) v → own_Goal p e below Φ T' (mkF m pc' Ls rest)) : own_Goal p e below Φ T (mkF m pc Ls (v :: .ref a :: rest)) := by
  subst hp
  obtain ⟨locs, X, N, e1, n1, hx, hZ, hown, hby, q1, q2, q3, q4⟩ := X
  obtain ⟨T', h', X', e', W, st⟩ := putF X hx hZ hown (host := "") (Or.inl w) Via.refl e1 F E (L.imp id fun z => ⟨z.1, z.2.1, q4.trans z.2.2⟩) wi hty hn hf (g := mkF m pc Ls _) rfl rfl (hb hby hd)
  exact own_step st (k T' h' ⟨_, X', Fr.snoc X' N ha, e', by rw [W.size]; exact n1, hx, hZ, hown, hby, q1, q2, q3, q4⟩ W)
theorem own_initO (X : own_St p l e R s m args below meth c Z own bytes ml rt nm n0 T h cells slots) {i : Nat} (w1 : (Jvm.Cond.methodLink own i Lib.objectInit).before a0 Z = true) (w2 : (Jvm.Cond.instanceMethod Lib.objectInit).before a0 Z = true) (w3 : (Jvm.Cond.code Lib.objectInit ⟨#[0xb1]⟩ 1 none).before a0 Z = true) {a : Addr} (hsz : Ls.size = ml) (hf : 1 ≤ R.frames) {W : Nat} (hW : (rest.map fun v => v.category).sum ≤ W) (hl : W + 12 ≤ R.locals) (hd : decode bytes pc = .ok (.invokespecial i, 3)) (hp : pc + 3 = pc')
    (k : ∀ T', own_St p l e R s m args below meth c Z own bytes ml rt nm n0 T' h cells slots → own_Goal p e below Φ T' (mkF m pc' Ls rest)) : own_Goal p e below Φ T (mkF m pc Ls (.ref a :: rest)) := by
  subst hp
  obtain ⟨locs, X, N, e1, n1, hx, hZ, hown, hby, hml, r0⟩ := X
  obtain ⟨T', X', e', st⟩ := initO X hx hZ hown w1 w2 w3 e1 (g := mkF m pc Ls (.ref a :: rest)) (rest := rest) rfl (hsz.trans hml.symm) rfl (hb hby hd) hf (W := W) (by show 2 * 0 + _ ≤ _; omega) hl
  exact own_step st (k T' ⟨_, X', N, e', n1, hx, hZ, hown, hby, hml, r0⟩)
/-- a callee's contract: called with as' over the heap h0 it returns, and Q says what it leaves -/
def own_Met (l : Launch) (Z : State) (y : MethodName) (bytes : ByteArray) (ml : Nat) (rt : Option FieldType) (ws : List Jvm.Cond) (rm : Room) (as' : Array Value) (h0 : Heap) (n0 : Nat) (Q : Option Value → Heap → Prop) : Prop :=
  MetFree l y (head1 (Jvm.Cond.code y bytes ml rt :: ws) rm) (fun a U => a = as' ∧ Z.Warmed39 U.vm ∧ U.heap = h0) (fun _ _ _ _ _ => True) (fun _ U o U' => ∃ v L, o = .returned v ∧ ((Q v U'.heap ∧ n0 ≤ U'.heap.size) ∧ Fr n0 L) ∧ FrameEnd U o U' L rm.cells rm.slots)
theorem own_meet {y : MethodName} {ws : List Jvm.Cond} {rm : Room} {as' : Array Value} {h0 : Heap} (hpn : plainFor y = true) (hle : n0 ≤ h0.size) {Ls0 : Array Slot} (hef : ∀ m, entryFrame m as' ml = mkF m 0 Ls0 [])
    (body : ∀ (p : Program) (e : Env) (s : State) (m : MethodId) (below : List Frame) (meth : Method) (c : Code) (T : State), own_St p l e rm s m as' below meth c Z y.cls bytes ml rt y.name n0 T h0 0 0 → own_Goal p e below (own_Fin below s rm n0 Q) T (mkF m 0 Ls0 [])) : own_Met l Z y bytes ml rt ws rm as' h0 n0 Q := by
  refine MetFree.of_bodySF hpn hisR ?_
  intro p e s m args below meth c s₁ Bd hml0 hP hK
  obtain ⟨rfl, hZ, hh⟩ := hP
  have e0 : s₁.heap = h0 := by rw [← hh, Bd.state]; rfl
  obtain ⟨s2, o, st, r1, r2, r3⟩ := body p e s m below meth c s₁ ⟨[], Stand.of_body Bd, Fr.nil n0, e0, hle, Bd.exec, hZ, findClass_of_methodNamed Bd.named, Bd.bytes, hml0, Bd.returns, Bd.notSynchronized, (name_of_methodNamed Bd.named Bd.method).1⟩
  exact ⟨s2, o, castTop (hef m) st, r1, r2, r3⟩
theorem own_callS (X : own_St p l e R s m args below meth c Z own bytes ml rt nm n0 T h cells slots) {y : MethodName} {yb : ByteArray} {yl : Nat} {yr : Option FieldType} {rm : Room} {as' : Array Value} {Q' : Option Value → Heap → Prop} (M : own_Met l Z y yb yl yr [] rm as' h n0 Q') {i : Nat} (w1 : (Jvm.Cond.methodLink own i y).before a0 Z = true) (w2 : (Jvm.Cond.static y).before a0 Z = true) (w3 : (Jvm.Cond.initialized y.cls).before a0 Z = true) (w4 : (Jvm.Cond.code y yb yl yr).before a0 Z = true) (hy : y.cls ≠ "java/lang/invoke/MethodHandle" ∧ y.cls ≠ "java/lang/invoke/VarHandle") (hsz : Ls.size = ml) (hf : rm.frames + 1 ≤ R.frames) {W : Nat} (hW : (rest.map fun v => v.category).sum ≤ W) (hl : W + (yl + 11) + rm.locals ≤ R.locals) {cells' slots' : Nat} (hc' : cells + rm.cells = cells') (hs' : slots + rm.slots = slots') (hc : cells' ≤ R.cells) (hs : slots' ≤ R.slots) {argsL stk : List Value} (hlen : ∀ sig, parseMethodDescriptor y.desc = some sig → argsL.length = sig.parameters.length) (hst : stk = argsL.reverse ++ rest) (has : argsL.toArray = as') (hd : decode bytes pc = .ok (.invokestatic i, 3)) (hp : pc + 3 = pc')
    (k : ∀ v T' h', own_St p l e R s m args below meth c Z own bytes ml rt nm n0 T' h' cells' slots' → Q' v h' → own_Goal p e below Φ T' (mkF m pc' Ls (v.toList ++ rest))) : own_Goal p e below Φ T (mkF m pc Ls stk) := by
  subst hp hst has hc' hs'
  obtain ⟨locs, X, N, e1, n1, hx, hZ, hown, hby, hml, r0⟩ := X
  obtain ⟨v, vm1, ⟨T', L', k', n'⟩, -, X', ⟨Lc, ⟨⟨hQ, hG⟩, NL⟩, l1, y1, z1⟩, st⟩ := Jvm.LawKit.callS X hx (y := y) hown (mvT hZ w1) (mvT hZ w2) (mvT hZ w3) (mvT hZ w4) hy (backOf (W := W) (Q := fun v hh L => (Q' v hh ∧ n0 ≤ hh.size) ∧ Fr n0 L) M hZ w4 w3 hf hl) (g := mkF m pc Ls (argsL.reverse ++ rest)) rfl (hsz.trans hml.symm) (argsL := argsL) (rest := rest) hlen rfl (by show 2 * 0 + _ ≤ _; omega) (hb hby hd) (fun _ _ => ⟨rfl, e1, hc, hs⟩)
  dsimp only [Pt.U, Pt.locs, Pt.cells, Pt.slots] at X' l1 y1 z1 st hQ
  subst l1 y1 z1
  exact own_step st (k v T' _ ⟨_, X', Fr.app N NL, rfl, hG, hx, hZ, hown, hby, hml, r0⟩ hQ)
theorem own_special (X : own_St p l e R s m args below meth c Z own bytes ml rt nm n0 T h cells slots) {y : MethodName} {yb : ByteArray} {yl : Nat} {yr : Option FieldType} {rm : Room} {as' : Array Value} {Q' : Option Value → Heap → Prop} (M : own_Met l Z y yb yl yr [] rm as' h n0 Q') (hy1 : y.name = "<init>") (hyr : yr = none) {i : Nat} (w1 : (Jvm.Cond.methodLink own i y).before a0 Z = true) (w2 : (Jvm.Cond.instanceMethod y).before a0 Z = true) (w3 : (Jvm.Cond.initialized y.cls).before a0 Z = true) (w4 : (Jvm.Cond.code y yb yl yr).before a0 Z = true) (hy : y.cls ≠ "java/lang/invoke/MethodHandle" ∧ y.cls ≠ "java/lang/invoke/VarHandle") (hsz : Ls.size = ml) (hf : rm.frames + 1 ≤ R.frames) {W : Nat} (hW : (rest.map fun v => v.category).sum ≤ W) (hl : W + (yl + 11) + rm.locals ≤ R.locals) {cells' slots' : Nat} (hc' : cells + rm.cells = cells') (hs' : slots + rm.slots = slots') (hc : cells' ≤ R.cells) (hs : slots' ≤ R.slots) {a : Addr} {argsL stk : List Value} (hlen : ∀ sig, parseMethodDescriptor y.desc = some sig → argsL.length = sig.parameters.length) (hst : stk = argsL.reverse ++ .ref a :: rest) (has : (.ref a :: argsL).toArray = as') (hd : decode bytes pc = .ok (.invokespecial i, 3)) (hp : pc + 3 = pc')
    (k : ∀ v T' h', own_St p l e R s m args below meth c Z own bytes ml rt nm n0 T' h' cells' slots' → Q' v h' → own_Goal p e below Φ T' (mkF m pc' Ls (v.toList ++ rest))) : own_Goal p e below Φ T (mkF m pc Ls stk) := by
  subst hp hst has hc' hs' hyr
  obtain ⟨locs, X, N, e1, n1, hx, hZ, hown, hby, hml, r0⟩ := X
  obtain ⟨v, vm1, ⟨T', L', k', n'⟩, -, X', ⟨Lc, ⟨⟨hQ, hG⟩, NL⟩, l1, y1, z1⟩, st⟩ := X.specialBack hx (y := y) hy1 hown (mvT hZ w1) (mvT hZ w2) (mvT hZ w4) hy (backOf (W := W) (Q := fun v hh L => (Q' v hh ∧ n0 ≤ hh.size) ∧ Fr n0 L) M hZ w4 w3 hf hl) (g := mkF m pc Ls (argsL.reverse ++ .ref a :: rest)) rfl (hsz.trans hml.symm) (Steps.refl _) (a := a) (argsL := argsL) (rest := rest) hlen rfl (by show 2 * 0 + _ ≤ _; omega) (hb hby hd) (fun _ _ => ⟨rfl, e1, hc, hs⟩)
  dsimp only [Pt.U, Pt.locs, Pt.cells, Pt.slots] at X' l1 y1 z1 st hQ
  subst l1 y1 z1
  exact own_step (fun t b => st.trans b) (k v T' _ ⟨_, X', Fr.app N NL, rfl, hG, hx, hZ, hown, hby, hml, r0⟩ hQ)
theorem own_virtual (X : own_St p l e R s m args below meth c Z own bytes ml rt nm n0 T h cells slots) {y : MethodName} {yb : ByteArray} {yl : Nat} {yr : Option FieldType} {rm : Room} {as' : Array Value} {Q' : Option Value → Heap → Prop} (M : own_Met l Z y yb yl yr [] rm as' h n0 Q') {C : String} {z : MethodName} {i : Nat} (hz : y = z) (w1 : (Jvm.Cond.methodLink own i z).before a0 Z = true) (wd : (Jvm.Cond.declares z).before a0 Z = true) (wsl : (Jvm.Cond.selects C z y).before a0 Z = true) (w2 : (Jvm.Cond.instanceMethod y).before a0 Z = true) (w3 : (Jvm.Cond.initialized y.cls).before a0 Z = true) (w4 : (Jvm.Cond.code y yb yl yr).before a0 Z = true) (hy : y.cls ≠ "java/lang/invoke/MethodHandle" ∧ y.cls ≠ "java/lang/invoke/VarHandle") (hsz : Ls.size = ml) (hf : rm.frames + 1 ≤ R.frames) {W : Nat} (hW : (rest.map fun v => v.category).sum ≤ W) (hl : W + (yl + 11) + rm.locals ≤ R.locals) {cells' slots' : Nat} (hc' : cells + rm.cells = cells') (hs' : slots + rm.slots = slots') (hc : cells' ≤ R.cells) (hs : slots' ≤ R.slots) {a : Addr} (E : Exa Z h a C) {argsL stk : List Value} (hlen : ∀ sig, parseMethodDescriptor y.desc = some sig → argsL.length = sig.parameters.length) (hst : stk = argsL.reverse ++ .ref a :: rest) (has : (.ref a :: argsL).toArray = as') (hd : decode bytes pc = .ok (.invokevirtual i, 3)) (hp : pc + 3 = pc')
    (k : ∀ v T' h', own_St p l e R s m args below meth c Z own bytes ml rt nm n0 T' h' cells' slots' → Q' v h' → own_Goal p e below Φ T' (mkF m pc' Ls (v.toList ++ rest))) : own_Goal p e below Φ T (mkF m pc Ls stk) := by
  subst hp hst has hc' hs' hz
  obtain ⟨locs, X, N, e1, n1, hx, hZ, hown, hby, hml, r0⟩ := X
  obtain ⟨cq, kq, qa, qb, qc⟩ := isOf (T := T) hZ e1 E
  obtain ⟨v, vm1, ⟨T', L', k', n'⟩, -, X', ⟨Lc, ⟨⟨hQ, hG⟩, NL⟩, l1, y1, z1⟩, st⟩ := X.virtualBack hx (y := y) (z := y) hown (mvT hZ w1) (mvT hZ wd) (notFace_of_selects (args := #[]) (mvT hZ wsl)) (mvT hZ wsl) (mvT hZ w2) hy (backOf (W := W) (Q := fun v hh L => (Q' v hh ∧ n0 ≤ hh.size) ∧ Fr n0 L) M hZ w4 w3 hf hl) qa qc (g := mkF m pc Ls (argsL.reverse ++ .ref a :: rest)) rfl (hsz.trans hml.symm) (Steps.refl _) (argsL := argsL) (rest := rest) hlen rfl (by show 2 * 0 + _ ≤ _; omega) (hb hby hd) (fun _ _ => ⟨rfl, e1, hc, hs⟩)
  dsimp only [Pt.U, Pt.locs, Pt.cells, Pt.slots] at X' l1 y1 z1 st hQ
  subst l1 y1 z1
  exact own_step (fun t b => st.trans b) (k v T' _ ⟨_, X', Fr.app N NL, rfl, hG, hx, hZ, hown, hby, hml, r0⟩ hQ)
end OwnWalk
section OwnNum
open Jvm.FP Jvm.FP.Core
/-- the int x is the whole number i, at most B in size -/
def own_I (B : Nat) (i : Int) (x : Int32) : Prop := x.toInt = i ∧ i.natAbs ≤ B
def own_L (B : Nat) (i : Int) (x : Int64) : Prop := x.toInt = i ∧ i.natAbs ≤ B
section
variable {A B C M : Nat} {i j : Int}
theorem own_I.start (x : Int32) : own_I 2147483648 x.toInt x := by
  have := x.toInt_lt; have := x.le_toInt
  exact ⟨rfl, by omega⟩
theorem own_L.start (x : Int64) : own_L 9223372036854775808 x.toInt x := by
  have := x.toInt_lt; have := x.le_toInt
  exact ⟨rfl, by omega⟩
theorem own_I.lit {x : Int32} (h : x.toInt = i) (hB : i.natAbs ≤ B) : own_I B i x := ⟨h, hB⟩
theorem own_I.self {x : Int32} (a : own_I A i x) : own_I A x.toInt x := ⟨rfl, by rw [a.1]; exact a.2⟩
theorem own_L.self {x : Int64} (a : own_L A i x) : own_L A x.toInt x := ⟨rfl, by rw [a.1]; exact a.2⟩
theorem own_L.lit {x : Int64} (h : x.toInt = i) (hB : i.natAbs ≤ B) : own_L B i x := ⟨h, hB⟩
theorem own_abs_mul {i j : Int} (h1 : i.natAbs ≤ A) (h2 : j.natAbs ≤ B) : (i * j).natAbs ≤ A * B := by
  rw [Int.natAbs_mul]; exact Nat.mul_le_mul h1 h2
theorem own_I.add {x y v : Int32} (a : own_I A i x) (b : own_I B j y) (hv : x + y = v) (hC : A + B ≤ C) (h : C < 2147483648) : own_I C (i + j) v := by
  obtain ⟨rfl, h1⟩ := a; obtain ⟨rfl, h2⟩ := b; subst hv
  refine ⟨?_, by omega⟩
  rw [Int32.toInt_add]; exact Int.bmod_eq_of_le (by omega) (by omega)
theorem own_I.sub {x y v : Int32} (a : own_I A i x) (b : own_I B j y) (hv : x - y = v) (hC : A + B ≤ C) (h : C < 2147483648) : own_I C (i - j) v := by
  obtain ⟨rfl, h1⟩ := a; obtain ⟨rfl, h2⟩ := b; subst hv
  refine ⟨?_, by omega⟩
  rw [Int32.toInt_sub]; exact Int.bmod_eq_of_le (by omega) (by omega)
theorem own_I.mul {x y v : Int32} (a : own_I A i x) (b : own_I B j y) (hv : x * y = v) (hC : A * B ≤ C) (h : C < 2147483648) : own_I C (i * j) v := by
  obtain ⟨rfl, h1⟩ := a; obtain ⟨rfl, h2⟩ := b; subst hv
  have h3 := Nat.le_trans (own_abs_mul h1 h2) hC
  refine ⟨?_, h3⟩
  rw [Int32.toInt_mul]; exact Int.bmod_eq_of_le (by omega) (by omega)
theorem own_I.neg {x v : Int32} (a : own_I A i x) (hv : -x = v) (h : A < 2147483648) : own_I A (-i) v := by
  obtain ⟨rfl, h1⟩ := a; subst hv
  refine ⟨?_, by omega⟩
  rw [Int32.toInt_neg]; exact Int.bmod_eq_of_le (by omega) (by omega)
theorem own_and_nn {x m v : Int32} (hv : x &&& m = v) (hm : m.toInt = M) : 0 ≤ v.toInt ∧ v.toInt ≤ M := by
  subst hv; have := c_and x m (by omega); omega
theorem own_I.and {x m v : Int32} (hv : x &&& m = v) (hm : m.toInt = M) : own_I M v.toInt v := by
  have := own_and_nn hv hm
  exact ⟨rfl, by omega⟩
theorem own_land_nn {x m v : Int64} (hv : x &&& m = v) (hm : m.toInt = M) : 0 ≤ v.toInt ∧ v.toInt ≤ M := by
  subst hv
  have h1 := (c_andSL x m).2.2 (by omega)
  refine ⟨h1, ?_⟩
  have la := x.toBitVec.isLt; have lm := m.toBitVec.isLt
  have q : (x &&& m).toBitVec.toNat = x.toBitVec.toNat &&& m.toBitVec.toNat := by show (x.toBitVec &&& m.toBitVec).toNat = _; rw [BitVec.toNat_and]
  have q2 : x.toBitVec.toNat &&& m.toBitVec.toNat ≤ m.toBitVec.toNat := Nat.and_le_right
  change 0 ≤ (x &&& m).toBitVec.toInt at h1
  show (x &&& m).toBitVec.toInt ≤ _
  change m.toBitVec.toInt = _ at hm
  rw [BitVec.toInt_eq_toNat_cond] at h1 hm ⊢
  rw [q] at h1 ⊢
  split at hm <;> split <;> omega
theorem own_L.and {x m v : Int64} (hv : x &&& m = v) (hm : m.toInt = M) : own_L M v.toInt v := by
  have := own_land_nn hv hm
  exact ⟨rfl, by omega⟩
theorem own_lrem_eq {x y v : Int64} (hv : x - (x / y) * y = v) (hx : 0 ≤ x.toInt) (hy : 0 < y.toInt) : v.toInt = x.toInt % y.toInt := by
  subst hv; exact (c_lrem x y _ rfl).1 hx
theorem own_I.shr {x q v : Int32} {k : Nat} (hv : x >>> (q &&& 31) = v) (hk : q.toBitVec.toNat % 32 = k) (hM : 2147483648 ≤ M * 2 ^ k) : own_I M v.toInt v := by
  subst hv
  have h1 := c_ishr x q k hk
  have h2 := x.toInt_lt; have h3 := x.le_toInt
  refine ⟨rfl, ?_⟩
  rw [h1]
  have p : 0 < 2 ^ k := Nat.two_pow_pos k
  generalize 2 ^ k = P at *
  have hP : (0 : Int) < (P : Int) := by omega
  have e1 : x.toInt / (P : Int) ≤ M := by
    refine Int.ediv_le_of_le_mul hP ?_
    have : ((M * P : Nat) : Int) = (M : Int) * P := Int.natCast_mul ..
    omega
  have e2 : -(M : Int) ≤ x.toInt / (P : Int) := by
    refine (Int.le_ediv_iff_mul_le hP).mpr ?_
    have : ((M * P : Nat) : Int) = (M : Int) * P := Int.natCast_mul ..
    rw [Int.neg_mul]; omega
  omega
theorem own_L.ofI {x : Int32} {v : Int64} (a : own_I A i x) (hv : x.toInt64 = v) : own_L A i v := by
  obtain ⟨rfl, h1⟩ := a; subst hv
  exact ⟨Int32.toInt_toInt64 x, h1⟩
theorem own_L.add {x y v : Int64} (a : own_L A i x) (b : own_L B j y) (hv : x + y = v) (hC : A + B ≤ C) (h : C < 9223372036854775808) : own_L C (i + j) v := by
  obtain ⟨rfl, h1⟩ := a; obtain ⟨rfl, h2⟩ := b; subst hv
  refine ⟨?_, by omega⟩
  rw [Int64.toInt_add]; exact Int.bmod_eq_of_le (by omega) (by omega)
theorem own_L.sub {x y v : Int64} (a : own_L A i x) (b : own_L B j y) (hv : x - y = v) (hC : A + B ≤ C) (h : C < 9223372036854775808) : own_L C (i - j) v := by
  obtain ⟨rfl, h1⟩ := a; obtain ⟨rfl, h2⟩ := b; subst hv
  refine ⟨?_, by omega⟩
  rw [Int64.toInt_sub]; exact Int.bmod_eq_of_le (by omega) (by omega)
theorem own_L.mul {x y v : Int64} (a : own_L A i x) (b : own_L B j y) (hv : x * y = v) (hC : A * B ≤ C) (h : C < 9223372036854775808) : own_L C (i * j) v := by
  obtain ⟨rfl, h1⟩ := a; obtain ⟨rfl, h2⟩ := b; subst hv
  have h3 := Nat.le_trans (own_abs_mul h1 h2) hC
  refine ⟨?_, h3⟩
  rw [Int64.toInt_mul]; exact Int.bmod_eq_of_le (by omega) (by omega)
theorem own_L.neg {x v : Int64} (a : own_L A i x) (hv : -x = v) (h : A < 9223372036854775808) : own_L A (-i) v := by
  obtain ⟨rfl, h1⟩ := a; subst hv
  refine ⟨?_, by omega⟩
  rw [Int64.toInt_neg]; exact Int.bmod_eq_of_le (by omega) (by omega)
end
/-- a datum times 2^k -/
def own_sh (k : Int) : Datum → Datum
  | .fin s c q => .fin s c (q + k)
  | d => d
theorem own_sh_sum (k : Int) (x y : Datum) : exactSum (own_sh k x) (own_sh k y) = own_sh k (exactSum x y) := by
  cases x with
  | nan => rfl
  | inf s => cases y with
    | nan => rfl
    | inf t => by_cases h : s = t <;> simp [own_sh, exactSum, h]
    | fin t d r => rfl
  | fin s c q => cases y with
    | nan => rfl
    | inf t => rfl
    | fin t d r =>
      have e1 : min (q + k) (r + k) = min q r + k := by omega
      have e2 : sumUnits s c (q + k) t d (r + k) (min q r + k) = sumUnits s c q t d r (min q r) := by
        unfold sumUnits inUnits
        rw [show q + k - (min q r + k) = q - min q r by omega, show r + k - (min q r + k) = r - min q r by omega]
      simp only [own_sh, exactSum, e1, e2]
theorem own_sh_prod (k r : Int) (x y : Datum) : exactProduct (own_sh k x) (own_sh r y) = own_sh (k + r) (exactProduct x y) := by
  cases x with
  | nan => rfl
  | inf s => cases y with
    | nan => rfl
    | inf t => rfl
    | fin t d u => simp only [own_sh, exactProduct]; split <;> rfl
  | fin s c q => cases y with
    | nan => rfl
    | inf t => simp only [own_sh, exactProduct]; split <;> rfl
    | fin t d u =>
      simp only [own_sh, exactProduct]
      rw [show q + k + (u + r) = q + u + (k + r) by omega]
theorem own_sh_neg (k : Int) (x : Datum) : negate (own_sh k x) = own_sh k (negate x) := by cases x <;> rfl
theorem own_sh_order (k : Int) (x y : Datum) : order (own_sh k x) (own_sh k y) = order x y := by
  cases x <;> cases y <;> try rfl
  rename_i s c q t d r
  simp only [own_sh, order]
  rw [show min (q + k) (r + k) = min q r + k by omega]
  unfold inUnits
  rw [show q + k - (min q r + k) = q - min q r by omega, show r + k - (min q r + k) = r - min q r by omega]
theorem own_sh_sh (k r : Int) (x : Datum) : own_sh r (own_sh k x) = own_sh (k + r) x := by
  cases x <;> simp only [own_sh]
  rw [Int.add_assoc]
theorem own_sh_zero (x : Datum) : own_sh 0 x = x := by cases x <;> simp [own_sh]
theorem own_signed_nat {i : Int} {s : Bool} {n : Nat} (h : n = i.natAbs) (hs : i ≠ 0 → s = decide (i < 0)) : signed s n = i := by
  by_cases h0 : i = 0
  · subst h0; subst h; exact signed_zero s
  · rw [hs h0, h]; unfold signed
    by_cases q : i < 0 <;> simp [q] <;> omega
/-- what is i * 2^-k in size rounds to itself, if i has 53 digits at the most -/
theorem own_round_core {k : Nat} {i : Int} {s : Bool} {c : Nat} {q : Int} (hk : k ≤ 1074) (hi : i.natAbs < 9007199254740992) (hs : i ≠ 0 → s = decide (i < 0)) : Whole i (own_sh k (roundRatio b64 s i.natAbs 1 (-(k : Int)))) := by
  obtain ⟨c', q', e1, e2⟩ := round_exact good_b64 s (c := i.natAbs) (q := -(k : Int)) (show i.natAbs < 2 ^ 53 by omega) (show (-1074 : Int) ≤ _ by omega) (show _ ≤ (971 : Int) by omega)
  have e3 : roundRatio b64 s i.natAbs 1 (-(k : Int)) = .fin s c' q' := e1
  have hf : Core.fits b64 (.fin s c' q') := by rw [← e1]; exact round_fits good_b64 _
  have hq : (-1074 : Int) ≤ q' := hf.2.1
  rw [e3]
  show signed s (c' * 2 ^ (q' + k).toNat) = i * ((2 ^ (-(q' + k)).toNat : Nat) : Int)
  have e4 : c' * 2 ^ (q' + 1074).toNat = i.natAbs * 2 ^ (1074 - k) := by
    have := e2
    unfold inUnits at this
    rw [show (q' - b64.qmin).toNat = (q' + 1074).toNat by rw [show b64.qmin = -1074 from rfl]; omega, show (-(k : Int) - b64.qmin).toNat = 1074 - k by rw [show b64.qmin = -1074 from rfl]; omega] at this
    exact this
  have e5 : c' * 2 ^ (q' + k).toNat = i.natAbs * 2 ^ (-(q' + k)).toNat := by
    refine Nat.eq_of_mul_eq_mul_right (Nat.two_pow_pos (1074 - k)) ?_
    have x1 : c' * 2 ^ (q' + k).toNat * 2 ^ (1074 - k) = c' * 2 ^ (q' + 1074).toNat * 2 ^ (-(q' + k)).toNat := by
      rw [Nat.mul_assoc, Nat.mul_assoc, ← Nat.pow_add, ← Nat.pow_add]; congr 2; omega
    rw [x1, e4, Nat.mul_right_comm]
  rw [e5, signed_mul, own_signed_nat rfl hs]
theorem own_round {k : Nat} {i : Int} {d : Datum} (hk : k ≤ 1074) (hi : i.natAbs < 9007199254740992) (h : Whole i (own_sh k d)) : Whole i (own_sh k (round b64 d)) := by
  cases d with
  | nan => exact h.elim
  | inf => exact h.elim
  | fin s c q =>
    have h1 : c * 2 ^ (q + k).toNat = i.natAbs * 2 ^ (-(q + k)).toNat := whole_natAbs h
    have e : round b64 (.fin s c q) = roundRatio b64 s i.natAbs 1 (-(k : Int)) := by
      refine roundRatio_congr (by decide) (by decide) ?_
      rw [show (q - -(k : Int)).toNat = (q + k).toNat by omega, show (-(k : Int) - q).toNat = (-(q + k)).toNat by omega]
      simpa using h1
    rw [e]
    exact own_round_core (c := c) (q := q) hk hi (fun h0 => whole_sign h h0)
/-- the double x is i * 2^-k, i at most B in size (both zeros are 0) -/
def own_D (k B : Nat) (i : Int) (x : UInt64) : Prop := Whole i (own_sh k (val64 x)) ∧ i.natAbs ≤ B
section
variable {k r t A B C : Nat} {i j : Int} {x y v : UInt64}
theorem own_D.fin (a : own_D k A i x) : ∃ s c q, val64 x = .fin s c q := by
  cases e : val64 x with
  | nan => have := a.1; rw [e] at this; exact this.elim
  | inf => have := a.1; rw [e] at this; exact this.elim
  | fin s c q => exact ⟨s, c, q, rfl⟩
theorem own_D.nn (a : own_D k A i x) : Jvm.Free.Fl.NoNaN64 x := by
  obtain ⟨s, c, q, e⟩ := a.fin
  exact Jvm.Free.Fl.val64_no.mpr (by rw [e]; exact Datum.noConfusion)
theorem own_D.isFin (a : own_D k A i x) : Jvm.Free.Fl.Fin64 x := by
  obtain ⟨s, c, q, e⟩ := a.fin
  exact Jvm.Free.Fl.fin64_core.mpr ⟨s, c, q, e⟩
theorem own_D.lit {s : Bool} {c : Nat} {q : Int} (h : val64 x = .fin s c q) (hw : signed s (c * 2 ^ (q + k).toNat) = i * ((2 ^ (-(q + k)).toNat : Nat) : Int)) (hB : i.natAbs ≤ B) : own_D k B i x := by
  refine ⟨?_, hB⟩
  rw [h]; exact hw
theorem own_D.mono (a : own_D k A i x) (h : A ≤ B) : own_D k B i x := ⟨a.1, Nat.le_trans a.2 h⟩
theorem own_D.zero {s : Bool} (h : val64 x = .fin s 0 b64.qmin) (k : Nat) : own_D k 0 0 x := by
  refine ⟨?_, by decide⟩
  rw [h]
  show signed s (0 * _) = 0 * _
  rw [Nat.zero_mul, signed_zero, Int.zero_mul]
theorem own_D.ofInt (h : DInt i x) (hB : i.natAbs ≤ B) : own_D 0 B i x := ⟨by rw [show ((0 : Nat) : Int) = 0 from rfl, own_sh_zero]; exact h, hB⟩
theorem own_D.i2d {z : Int32} (a : own_I A i z) (hv : FP.i2d z = v) : own_D 0 A i v := by
  subst hv; obtain ⟨rfl, h⟩ := a
  exact own_D.ofInt (i2d_int z) h
theorem own_D.l2d {z : Int64} (a : own_L A i z) (hv : FP.l2d z = v) (h : A ≤ 9007199254740992) : own_D 0 A i v := by
  subst hv; obtain ⟨rfl, h1⟩ := a
  exact own_D.ofInt (l2d_int (show _ ≤ 2 ^ 53 by omega)) h1
theorem own_D.add (a : own_D k A i x) (b : own_D k B j y) (hv : FP.dadd x y = v) (hC : A + B ≤ C) (h : C < 9007199254740992) (hk : k ≤ 1074) : own_D k C (i + j) v := by
  subst hv
  have h2 : (i + j).natAbs ≤ C := by have := a.2; have := b.2; omega
  refine ⟨?_, h2⟩
  show Whole _ (own_sh k (val64 (Core.dadd x y)))
  rw [val64_dadd]
  refine own_round hk (by omega) ?_
  rw [← own_sh_sum]; exact whole_sum a.1 b.1
theorem own_D.sub (a : own_D k A i x) (b : own_D k B j y) (hv : FP.dsub x y = v) (hC : A + B ≤ C) (h : C < 9007199254740992) (hk : k ≤ 1074) : own_D k C (i - j) v := by
  subst hv
  have h2 : (i - j).natAbs ≤ C := by have := a.2; have := b.2; omega
  refine ⟨?_, h2⟩
  show Whole _ (own_sh k (val64 (Core.dsub x y)))
  rw [val64_dsub]
  refine own_round hk (by omega) ?_
  rw [← own_sh_sum, ← own_sh_neg]; exact whole_sum a.1 (whole_negate b.1)
theorem own_D.mul (a : own_D k A i x) (b : own_D r B j y) (hv : FP.dmul x y = v) (hC : A * B ≤ C) (h : C < 9007199254740992) (ht : k + r = t) (hk : t ≤ 1074) : own_D t C (i * j) v := by
  subst hv ht
  have h2 : (i * j).natAbs ≤ C := Nat.le_trans (own_abs_mul a.2 b.2) hC
  refine ⟨?_, h2⟩
  show Whole _ (own_sh ((k + r : Nat) : Int) (val64 (Core.dmul x y)))
  rw [val64_dmul]
  refine own_round hk (by omega) ?_
  rw [Int.natCast_add, ← own_sh_prod]; exact whole_product a.1 b.1
theorem own_D.neg (a : own_D k A i x) (hv : FP.dneg x = v) : own_D k A (-i) v := by
  subst hv
  refine ⟨?_, by have := a.2; omega⟩
  rw [FP.val64_dneg, ← own_sh_neg]; exact whole_negate a.1
theorem own_whole_up {i : Int} {d : Datum} (r : Nat) (h : Whole i d) : Whole (i * ((2 ^ r : Nat) : Int)) (own_sh r d) := by
  cases d with
  | nan => exact h.elim
  | inf => exact h.elim
  | fin s c q =>
    have h1 : signed s (c * 2 ^ q.toNat) = i * ((2 ^ (-q).toNat : Nat) : Int) := h
    show signed s (c * 2 ^ (q + r).toNat) = i * ((2 ^ r : Nat) : Int) * ((2 ^ (-(q + r)).toNat : Nat) : Int)
    have p2 : ((2 ^ (-q).toNat : Nat) : Int) ≠ 0 := by
      have := Nat.two_pow_pos (-q).toNat; omega
    refine Int.eq_of_mul_eq_mul_right p2 ?_
    have e : (q + r).toNat + (-q).toNat = q.toNat + r + (-(q + r)).toNat := by omega
    calc signed s (c * 2 ^ (q + r).toNat) * ((2 ^ (-q).toNat : Nat) : Int)
        = signed s (c * 2 ^ ((q + r).toNat + (-q).toNat)) := by rw [← signed_mul, Nat.mul_assoc, ← Nat.pow_add]
      _ = signed s (c * 2 ^ q.toNat * 2 ^ r * 2 ^ (-(q + r)).toNat) := by rw [e, Nat.pow_add, Nat.pow_add]; congr 1; ac_rfl
      _ = i * ((2 ^ (-q).toNat : Nat) : Int) * ((2 ^ r : Nat) : Int) * ((2 ^ (-(q + r)).toNat : Nat) : Int) := by rw [signed_mul, signed_mul, h1]
      _ = _ := by ac_rfl
theorem own_D.up (a : own_D k A i x) {P : Nat} (hP : 2 ^ r = P) (ht : k + r = t) (hC : A * P ≤ C) : own_D t C (i * (P : Int)) x := by
  subst hP ht
  refine ⟨?_, Nat.le_trans (own_abs_mul a.2 (Nat.le_of_eq (Int.natAbs_natCast _))) hC⟩
  rw [Int.natCast_add, ← own_sh_sh]; exact own_whole_up r a.1
theorem own_D.dcmp (a : own_D k A i x) (b : own_D k B j y) : FP.dcmp x y = some (compare i j) := by
  show order (val64 x) (val64 y) = _
  rw [← own_sh_order k]; exact order_whole a.1 b.1
end
def own_c3 (i j : Int) : Int32 := if i < j then -1 else if i = j then 0 else 1
theorem own_c3_cmp (i j : Int) (o : CmpOp) : cmpValue (some (compare i j)) o = own_c3 i j := by
  unfold own_c3
  by_cases h : i < j
  · rw [if_pos h, show compare i j = .lt from Int.compare_eq_lt.mpr h]; rfl
  · rw [if_neg h]
    by_cases h2 : i = j
    · rw [if_pos h2, show compare i j = .eq from Int.compare_eq_eq.mpr h2]; rfl
    · rw [if_neg h2, show compare i j = .gt from Int.compare_eq_gt.mpr (by omega)]; rfl
theorem own_D.cmp {k A B : Nat} {i j : Int} {x y : UInt64} (a : own_D k A i x) (b : own_D k B j y) {o : CmpOp} : cmpValue (FP.dcmp x y) o = own_c3 i j := by
  rw [a.dcmp b]; exact own_c3_cmp i j o
theorem own_c3_eq {i j : Int} (h : i = j) : ifCond.holds .eq (own_c3 i j) = true ∧ ifCond.holds .ne (own_c3 i j) = false := by
  subst h; unfold own_c3; simp [ifCond.holds]
theorem own_c3_ne {i j : Int} (h : ¬ i = j) : ifCond.holds .eq (own_c3 i j) = false ∧ ifCond.holds .ne (own_c3 i j) = true := by
  unfold own_c3; by_cases q : i < j <;> simp [q, h, ifCond.holds]
theorem own_c3_lt {i j : Int} (h : i < j) : ifCond.holds .lt (own_c3 i j) = true ∧ ifCond.holds .ge (own_c3 i j) = false := by
  unfold own_c3; simp [h]; decide
theorem own_c3_nlt {i j : Int} (h : ¬ i < j) : ifCond.holds .lt (own_c3 i j) = false ∧ ifCond.holds .ge (own_c3 i j) = true := by
  unfold own_c3; rw [if_neg h]; by_cases q : i = j
  · rw [if_pos q]; decide
  · rw [if_neg q]; decide
theorem own_c3_gt {i j : Int} (h : j < i) : ifCond.holds .gt (own_c3 i j) = true ∧ ifCond.holds .le (own_c3 i j) = false := by
  unfold own_c3; rw [if_neg (by omega), if_neg (by omega)]; decide
theorem own_c3_ngt {i j : Int} (h : ¬ j < i) : ifCond.holds .gt (own_c3 i j) = false ∧ ifCond.holds .le (own_c3 i j) = true := by
  unfold own_c3; by_cases q : i < j
  · rw [if_pos q]; decide
  · rw [if_neg q, if_pos (by omega)]; decide
/-- the branches on ints, by what is known of them -/
theorem own_i_eq {x y : Int32} (h : x = y) : if_icmp.holds .eq x y = true ∧ if_icmp.holds .ne x y = false := teq h
theorem own_i_ne {x y : Int32} (h : ¬ x = y) : if_icmp.holds .eq x y = false ∧ if_icmp.holds .ne x y = true := feq h
theorem own_i_lt {x y : Int32} (h : x < y) : if_icmp.holds .lt x y = true ∧ if_icmp.holds .ge x y = false := ⟨(tlt h).1, (tlt h).2.1⟩
theorem own_i_nlt {x y : Int32} (h : ¬ x < y) : if_icmp.holds .lt x y = false ∧ if_icmp.holds .ge x y = true := ⟨(flt h).1, (flt h).2.1⟩
theorem own_i_gt {x y : Int32} (h : y < x) : if_icmp.holds .gt x y = true ∧ if_icmp.holds .le x y = false := ⟨(tlt h).2.2.1, (tlt h).2.2.2⟩
theorem own_i_ngt {x y : Int32} (h : ¬ y < x) : if_icmp.holds .gt x y = false ∧ if_icmp.holds .le x y = true := ⟨(flt h).2.2.1, (flt h).2.2.2⟩
theorem own_z_eq {x : Int32} (h : x = 0) : ifCond.holds .eq x = true ∧ ifCond.holds .ne x = false := by rw [if0, if0]; exact teq h
theorem own_z_ne {x : Int32} (h : ¬ x = 0) : ifCond.holds .eq x = false ∧ ifCond.holds .ne x = true := by rw [if0, if0]; exact feq h
theorem own_z_lt {x : Int32} (h : x < 0) : ifCond.holds .lt x = true ∧ ifCond.holds .ge x = false := by rw [if0, if0]; exact own_i_lt h
theorem own_z_nlt {x : Int32} (h : ¬ x < 0) : ifCond.holds .lt x = false ∧ ifCond.holds .ge x = true := by rw [if0, if0]; exact own_i_nlt h
theorem own_z_gt {x : Int32} (h : 0 < x) : ifCond.holds .gt x = true ∧ ifCond.holds .le x = false := by rw [if0, if0]; exact own_i_gt h
theorem own_z_ngt {x : Int32} (h : ¬ 0 < x) : ifCond.holds .gt x = false ∧ ifCond.holds .le x = true := by rw [if0, if0]; exact own_i_ngt h
theorem own_cases2 {v : Int32} (h : 0 ≤ v.toInt ∧ v.toInt ≤ ((1 : Nat) : Int)) : v = (0 : Int32) ∨ v = (1 : Int32) := by
  have : v.toInt = 0 ∨ v.toInt = 1 := by omega
  rcases this with q | q
  · exact Or.inl (Int32.toInt_inj.mp q)
  · exact Or.inr (Int32.toInt_inj.mp q)
theorem own_cases4 {v : Int32} (h : 0 ≤ v.toInt ∧ v.toInt ≤ ((3 : Nat) : Int)) : v = (0 : Int32) ∨ v = (1 : Int32) ∨ v = (2 : Int32) ∨ v = (3 : Int32) := by
  have : v.toInt = 0 ∨ v.toInt = 1 ∨ v.toInt = 2 ∨ v.toInt = 3 := by omega
  rcases this with q | q | q | q
  · exact Or.inl (Int32.toInt_inj.mp q)
  · exact Or.inr (Or.inl (Int32.toInt_inj.mp q))
  · exact Or.inr (Or.inr (Or.inl (Int32.toInt_inj.mp q)))
  · exact Or.inr (Or.inr (Or.inr (Int32.toInt_inj.mp q)))
theorem own_cases16 {v : Int32} (h : 0 ≤ v.toInt ∧ v.toInt ≤ ((15 : Nat) : Int)) : v = (0 : Int32) ∨ v = (1 : Int32) ∨ v = (2 : Int32) ∨ v = (3 : Int32) ∨ v = (4 : Int32) ∨ v = (5 : Int32) ∨ v = (6 : Int32) ∨ v = (7 : Int32) ∨ v = (8 : Int32) ∨ v = (9 : Int32) ∨ v = (10 : Int32) ∨ v = (11 : Int32) ∨ v = (12 : Int32) ∨ v = (13 : Int32) ∨ v = (14 : Int32) ∨ v = (15 : Int32) := by
  have : v.toInt = 0 ∨ v.toInt = 1 ∨ v.toInt = 2 ∨ v.toInt = 3 ∨ v.toInt = 4 ∨ v.toInt = 5 ∨ v.toInt = 6 ∨ v.toInt = 7 ∨ v.toInt = 8 ∨ v.toInt = 9 ∨ v.toInt = 10 ∨ v.toInt = 11 ∨ v.toInt = 12 ∨ v.toInt = 13 ∨ v.toInt = 14 ∨ v.toInt = 15 := by omega
  rcases this with q | q | q | q | q | q | q | q | q | q | q | q | q | q | q | q
  · exact Or.inl (Int32.toInt_inj.mp q)
  · exact Or.inr (Or.inl (Int32.toInt_inj.mp q))
  · exact Or.inr (Or.inr (Or.inl (Int32.toInt_inj.mp q)))
  · exact Or.inr (Or.inr (Or.inr (Or.inl (Int32.toInt_inj.mp q))))
  · exact Or.inr (Or.inr (Or.inr (Or.inr (Or.inl (Int32.toInt_inj.mp q)))))
  · exact Or.inr (Or.inr (Or.inr (Or.inr (Or.inr (Or.inl (Int32.toInt_inj.mp q))))))
  · exact Or.inr (Or.inr (Or.inr (Or.inr (Or.inr (Or.inr (Or.inl (Int32.toInt_inj.mp q)))))))
  · exact Or.inr (Or.inr (Or.inr (Or.inr (Or.inr (Or.inr (Or.inr (Or.inl (Int32.toInt_inj.mp q))))))))
  · exact Or.inr (Or.inr (Or.inr (Or.inr (Or.inr (Or.inr (Or.inr (Or.inr (Or.inl (Int32.toInt_inj.mp q)))))))))
  · exact Or.inr (Or.inr (Or.inr (Or.inr (Or.inr (Or.inr (Or.inr (Or.inr (Or.inr (Or.inl (Int32.toInt_inj.mp q))))))))))
  · exact Or.inr (Or.inr (Or.inr (Or.inr (Or.inr (Or.inr (Or.inr (Or.inr (Or.inr (Or.inr (Or.inl (Int32.toInt_inj.mp q)))))))))))
  · exact Or.inr (Or.inr (Or.inr (Or.inr (Or.inr (Or.inr (Or.inr (Or.inr (Or.inr (Or.inr (Or.inr (Or.inl (Int32.toInt_inj.mp q))))))))))))
  · exact Or.inr (Or.inr (Or.inr (Or.inr (Or.inr (Or.inr (Or.inr (Or.inr (Or.inr (Or.inr (Or.inr (Or.inr (Or.inl (Int32.toInt_inj.mp q)))))))))))))
  · exact Or.inr (Or.inr (Or.inr (Or.inr (Or.inr (Or.inr (Or.inr (Or.inr (Or.inr (Or.inr (Or.inr (Or.inr (Or.inr (Or.inl (Int32.toInt_inj.mp q))))))))))))))
  · exact Or.inr (Or.inr (Or.inr (Or.inr (Or.inr (Or.inr (Or.inr (Or.inr (Or.inr (Or.inr (Or.inr (Or.inr (Or.inr (Or.inr (Or.inl (Int32.toInt_inj.mp q)))))))))))))))
  · exact Or.inr (Or.inr (Or.inr (Or.inr (Or.inr (Or.inr (Or.inr (Or.inr (Or.inr (Or.inr (Or.inr (Or.inr (Or.inr (Or.inr (Or.inr (Int32.toInt_inj.mp q)))))))))))))))
/-- lcmp as a comparison of whole numbers -/
theorem own_lcmp_c3 (x y : Int64) : XT.cmpL x y = own_c3 x.toInt y.toInt := by
  unfold XT.cmpL own_c3
  simp only [Int64.lt_iff_toInt_lt, ← Int64.toInt_inj]
  by_cases h : x.toInt < y.toInt
  · simp [h, show ¬ y.toInt < x.toInt by omega, show ¬ x.toInt = y.toInt by omega]
  · by_cases h2 : x.toInt = y.toInt
    · simp [h2]
    · simp [h, h2, show y.toInt < x.toInt by omega]
theorem own_L.cmp {A B : Nat} {i j : Int} {x y : Int64} (a : own_L A i x) (b : own_L B j y) : XT.cmpL x y = own_c3 i j := by
  rw [own_lcmp_c3, a.1, b.1]
end OwnNum
section OwnDiv
open Jvm.FP Jvm.FP.Core
theorem own_quotient {s t : Bool} {c d : Nat} {q r : Int} (hd : d ≠ 0) : quotient b64 (.fin s c q) (.fin t d r) = roundRatio b64 (s != t) c d (q - r) := by
  show (if d = 0 then _ else _) = _
  rw [if_neg hd]
/-- the quotient of i * 2^-k and j is the rounded |i| / |j| * 2^-k -/
theorem own_quot {k A B : Nat} {i j : Int} {x z v : UInt64} (a : own_D k A i x) (b : own_D 0 B j z) (hj : j ≠ 0) (hv : FP.ddiv x z = v) :
    ∃ sg : Bool, val64 v = roundRatio b64 sg i.natAbs j.natAbs (-(k : Int)) ∧ (i ≠ 0 → sg = (decide (i < 0) != decide (j < 0))) := by
  subst hv
  obtain ⟨s, c, q, e1⟩ := a.fin
  obtain ⟨t, d, r, e2⟩ := b.fin
  have w1 : Whole i (.fin s c (q + k)) := by have := a.1; rw [e1] at this; exact this
  have w2 : Whole j (.fin t d r) := by have := b.1; rw [e2, show ((0 : Nat) : Int) = 0 from rfl, own_sh_zero] at this; exact this
  have hd : d ≠ 0 := fun h => hj ((whole_zero w2).mp h)
  refine ⟨s != t, ?_, fun hi => by rw [whole_sign w1 hi, whole_sign w2 hj]⟩
  show val64 (Core.ddiv x z) = _
  rw [val64_ddiv, e1, e2]
  show (if d = 0 then _ else roundRatio b64 (s != t) c d (q - r)) = _
  rw [if_neg hd]
  refine roundRatio_congr (by omega) (by omega) ?_
  have h1 : c * 2 ^ (q + k).toNat = i.natAbs * 2 ^ (-(q + k)).toNat := whole_natAbs w1
  have h2 : d * 2 ^ r.toNat = j.natAbs * 2 ^ (-r).toNat := whole_natAbs w2
  generalize i.natAbs = I at *
  generalize j.natAbs = J at *
  refine Nat.eq_of_mul_eq_mul_right (Nat.two_pow_pos ((-r).toNat + (q + k).toNat)) ?_
  have x1 : c * J * 2 ^ (q - r - -(k : Int)).toNat * 2 ^ ((-r).toNat + (q + k).toNat) = (c * 2 ^ (q + k).toNat) * (J * 2 ^ (-r).toNat) * 2 ^ (q - r - -(k : Int)).toNat := by rw [Nat.pow_add]; ac_rfl
  have x2 : I * d * 2 ^ (-(k : Int) - (q - r)).toNat * 2 ^ ((-r).toNat + (q + k).toNat) = I * d * 2 ^ ((-(q + k)).toNat + r.toNat + (q - r - -(k : Int)).toNat) := by rw [Nat.mul_assoc (I * d), ← Nat.pow_add]; congr 2; omega
  rw [x1, x2, h1, ← h2, Nat.pow_add, Nat.pow_add]; ac_rfl
theorem own_quot_nn {k A B : Nat} {i j : Int} {x z v : UInt64} (a : own_D k A i x) (b : own_D 0 B j z) (hj : j ≠ 0) (hv : FP.ddiv x z = v) : Jvm.Free.Fl.NoNaN64 v := by
  obtain ⟨sg, e, -⟩ := own_quot a b hj hv
  exact Jvm.Free.Fl.val64_no.mpr (by rw [e]; exact roundRatio_ne_nan _ _ _ _ _)
theorem own_round_zero (sg : Bool) (d : Nat) (e : Int) : roundRatio b64 sg 0 d e = .fin sg 0 b64.qmin := by unfold roundRatio; rw [if_pos rfl]
/-- two quotients of equal whole numbers compare as equal -/
theorem own_quot_eq {k A B A' B' : Nat} {i j : Int} {x y z w v u : UInt64} (a : own_D k A i x) (b : own_D 0 B j z) (a' : own_D k A' i y) (b' : own_D 0 B' j w) (hj : j ≠ 0) (hv : FP.ddiv x z = v) (hu : FP.ddiv y w = u) : FP.dcmp v u = some .eq := by
  obtain ⟨s1, e1, f1⟩ := own_quot a b hj hv
  obtain ⟨s2, e2, f2⟩ := own_quot a' b' hj hu
  by_cases hi : i = 0
  · subst hi
    have d1 := own_D.zero (x := v) (s := s1) (by rw [e1]; exact own_round_zero ..) 0
    have d2 := own_D.zero (x := u) (s := s2) (by rw [e2]; exact own_round_zero ..) 0
    rw [d1.dcmp d2]; rfl
  · have e3 : s1 = s2 := (f1 hi).trans (f2 hi).symm
    subst e3
    have e4 : v = u := val64_inj (by rw [e1]; exact roundRatio_ne_nan _ _ _ _ _) (e1.trans e2.symm)
    subst e4
    exact dcmp_self (by rw [e1]; exact roundRatio_ne_nan _ _ _ _ _)
theorem own_quot_cmp {k A B A' B' : Nat} {i j : Int} {x y z w v u : UInt64} (a : own_D k A i x) (b : own_D 0 B j z) (a' : own_D k A' i y) (b' : own_D 0 B' j w) (hj : j ≠ 0) (hv : FP.ddiv x z = v) (hu : FP.ddiv y w = u) {o : CmpOp} : cmpValue (FP.dcmp v u) o = 0 := by
  rw [own_quot_eq a b a' b' hj hv hu]; rfl
theorem own_D.of_eq {k A : Nat} {i j : Int} {x : UInt64} (a : own_D k A i x) (h : i = j) : own_D k A j x := h ▸ a
/-- a quotient by a power of two is exact -/
theorem own_D.divp {k r t A B P : Nat} {i : Int} {x z v : UInt64} (a : own_D k A i x) (b : own_D 0 B (P : Int) z) (hP : P = 2 ^ r) (hv : FP.ddiv x z = v) (hA : A < 9007199254740992) (ht : k + r = t) (hk : t ≤ 1074) : own_D t A i v := by
  subst ht
  have p := Nat.two_pow_pos r
  have hj : (P : Int) ≠ 0 := by omega
  obtain ⟨sg, e, f⟩ := own_quot a b hj hv
  refine ⟨?_, a.2⟩
  have e2 : roundRatio b64 sg i.natAbs ((P : Int)).natAbs (-(k : Int)) = roundRatio b64 sg i.natAbs 1 (-((k + r : Nat) : Int)) := by
    refine roundRatio_congr (by omega) (by decide) ?_
    rw [Int.natAbs_natCast, hP, show (-(k : Int) - -((k + r : Nat) : Int)).toNat = r by omega, show (-((k + r : Nat) : Int) - -(k : Int)).toNat = 0 by omega]
    simp
  rw [e, e2]
  refine own_round_core (c := 0) (q := 0) hk (by have := a.2; omega) fun hi => ?_
  rw [f hi, show decide ((P : Int) < 0) = false by simp]
  cases decide (i < 0) <;> rfl
theorem own_ushr_nn {x q v : Int32} {k : Nat} (hv : XT.ushr x q = v) (hk : q.toBitVec.toNat % 32 = k) (h0 : 0 < k) : 0 ≤ v.toInt := by
  subst hv
  have := c_iushr x q k hk h0
  show 0 ≤ ((x.toUInt32 >>> (q &&& 31).toUInt32).toInt32).toInt
  rw [this]
  exact Int.ediv_nonneg (Int.emod_nonneg _ (by decide)) (Int.natCast_nonneg _)
theorem own_irem_bd {x y v : Int32} {d : Int} (hv : x % y = v) (hx : 0 ≤ x.toInt) (hy : y.toInt = d) (hd : 0 < d) : 0 ≤ v.toInt ∧ v.toInt < d := by
  subst hv
  rw [(c_irem x y d hy).1 hx]
  exact ⟨Int.emod_nonneg _ (by omega), Int.emod_lt_of_pos _ hd⟩
end OwnDiv
section OwnRnd
open Jvm.FP Jvm.FP.Core
/-- one rounding, in units of 2^e0: half a unit of the last of 53 digits, or of the least unit -/
theorem own_rr {s : Bool} {A B : Nat} {e e0 : Int} (hA : 0 < A) (hB : 0 < B) (h0 : e0 ≤ e) (h1 : e0 ≤ b64.qmin)
    (hT : A * 2 ^ (e - e0).toNat < B * 2 ^ (2000 + (b64.qmin - e0).toNat)) :
    ∃ c q, roundRatio b64 s A B e = .fin s c q ∧ b64.qmin ≤ q ∧
      ((((c * 2 ^ (q - e0).toNat * B : Nat) : Int) - ((A * 2 ^ (e - e0).toNat : Nat) : Int)).natAbs * (2 * 2 ^ 52) ≤ A * 2 ^ (e - e0).toNat ∨
       (((c * 2 ^ (q - e0).toNat * B : Nat) : Int) - ((A * 2 ^ (e - e0).toNat : Nat) : Int)).natAbs * 2 ≤ B * 2 ^ (b64.qmin - e0).toNat ∧ A * 2 ^ (e - e0).toNat < 2 ^ 52 * (B * 2 ^ (b64.qmin - e0).toNat)) := by
  obtain ⟨qn, hqn⟩ : ∃ q, quantum b64 A B e = q := ⟨_, rfl⟩
  have g1 : b64.qmin ≤ qn := hqn ▸ quantum_ge ..
  have g2 := quantum_not_below (f := b64) hA hB e
  rw [hqn] at g2
  obtain ⟨n, hn⟩ : ∃ n, nearest (unitsNum A e qn) (unitsDen B e qn) = n := ⟨_, rfl⟩
  have hud : 0 < unitsDen B e qn := unitsDen_pos hB ..
  have ns := nearest_spec (unitsNum A e qn) (unitsDen B e qn) hud
  have nle : n ≤ 2 ^ 53 := by rw [← hn, ← hqn]; exact nearest_units_le hA hB e
  rw [hn] at ns
  obtain ⟨ns1, ns2, -⟩ := ns
  -- the upper end
  have hq : qn ≤ 969 := by
    have hb : Below A B (((2000 + (b64.qmin - e0).toNat : Nat) : Int) - ((e - e0).toNat : Nat)) := (below_iff _ _ _ _).mpr hT
    have := lt_of_below (leading_spec hA hB).1 hb
    have e1 : qn = max b64.qmin (leading A B + e - 52) := hqn.symm
    have e2 : b64.qmin = -1074 := rfl
    rw [e2] at e1 this h1
    omega
  have hr : roundRatio b64 s A B e = settle b64 s n qn := by
    unfold roundRatio roundAt
    rw [if_neg (by omega), hqn, hn]
  -- the value
  have hv : ∃ c q, settle b64 s n qn = .fin s c q ∧ b64.qmin ≤ q ∧ c * 2 ^ (q - e0).toNat = n * 2 ^ (qn - e0).toNat := by
    unfold settle bound
    by_cases hlt : n < 2 ^ b64.p
    · rw [if_pos hlt, if_pos (show qn ≤ b64.qmax from (show qn ≤ (971 : Int) by omega))]
      exact ⟨_, _, rfl, g1, rfl⟩
    · rw [if_neg hlt, if_pos (show qn + 1 ≤ b64.qmax from (show qn + 1 ≤ (971 : Int) by omega))]
      refine ⟨_, _, rfl, by omega, ?_⟩
      have hn2 : n = 2 ^ 53 := Nat.le_antisymm nle (Nat.le_of_not_lt hlt)
      rw [hn2, show b64.tails = 2 ^ 52 from rfl, ← Nat.pow_add, ← Nat.pow_add]
      congr 1; omega
  obtain ⟨c, q, v1, v2, v3⟩ := hv
  refine ⟨c, q, hr.trans v1, v2, ?_⟩
  rw [v3]
  -- in the units of the rounding
  have k1 : unitsNum A e qn * 2 ^ (qn - e0).toNat = A * 2 ^ (e - e0).toNat * 2 ^ (qn - e).toNat := by
    unfold unitsNum; rw [Nat.mul_assoc, Nat.mul_assoc, ← Nat.pow_add, ← Nat.pow_add]; congr 2; omega
  have k2 : n * unitsDen B e qn * 2 ^ (qn - e0).toNat = n * 2 ^ (qn - e0).toNat * B * 2 ^ (qn - e).toNat := by
    unfold unitsDen; ac_rfl
  have k3 : unitsDen B e qn * 2 ^ (qn - e0).toNat = B * 2 ^ (qn - e0).toNat * 2 ^ (qn - e).toNat := by
    unfold unitsDen; ac_rfl
  have pw : 0 < 2 ^ (qn - e).toNat := Nat.two_pow_pos _
  have pz : 0 < 2 ^ (qn - e0).toNat := Nat.two_pow_pos _
  generalize A * 2 ^ (e - e0).toNat = V at *
  -- |n 2^.. B - V| 2 ≤ B 2^(qn - e0)
  have m1 : 2 * V ≤ (2 * (n * 2 ^ (qn - e0).toNat)) * B + B * 2 ^ (qn - e0).toNat := by
    refine Nat.le_of_mul_le_mul_right ?_ pw
    have := Nat.mul_le_mul_right (2 ^ (qn - e0).toNat) ns1
    have t1 : 2 * unitsNum A e qn * 2 ^ (qn - e0).toNat = 2 * V * 2 ^ (qn - e).toNat := by rw [Nat.mul_assoc, k1, Nat.mul_assoc]
    have t2 : (2 * n + 1) * unitsDen B e qn * 2 ^ (qn - e0).toNat = ((2 * (n * 2 ^ (qn - e0).toNat)) * B + B * 2 ^ (qn - e0).toNat) * 2 ^ (qn - e).toNat := by
      rw [Nat.add_mul, Nat.add_mul, Nat.one_mul, k3, Nat.add_mul, Nat.mul_assoc 2 n, Nat.mul_assoc 2, k2]; congr 1; ac_rfl
    omega
  have m2 : (2 * (n * 2 ^ (qn - e0).toNat)) * B ≤ 2 * V + B * 2 ^ (qn - e0).toNat := by
    refine Nat.le_of_mul_le_mul_right ?_ pw
    have := Nat.mul_le_mul_right (2 ^ (qn - e0).toNat) ns2
    have t1 : (2 * unitsNum A e qn + unitsDen B e qn) * 2 ^ (qn - e0).toNat = (2 * V + B * 2 ^ (qn - e0).toNat) * 2 ^ (qn - e).toNat := by
      rw [Nat.add_mul, Nat.mul_assoc, k1, k3, Nat.add_mul]; congr 1; ac_rfl
    have t2 : 2 * n * unitsDen B e qn * 2 ^ (qn - e0).toNat = (2 * (n * 2 ^ (qn - e0).toNat)) * B * 2 ^ (qn - e).toNat := by
      rw [Nat.mul_assoc 2 n, Nat.mul_assoc 2, k2]; ac_rfl
    omega
  have mm : (((n * 2 ^ (qn - e0).toNat * B : Nat) : Int) - ((V : Nat) : Int)).natAbs * 2 ≤ B * 2 ^ (qn - e0).toNat := by
    have : 2 * (n * 2 ^ (qn - e0).toNat) * B = 2 * (n * 2 ^ (qn - e0).toNat * B) := by ac_rfl
    rw [this] at m1 m2
    generalize n * 2 ^ (qn - e0).toNat * B = W at *
    generalize B * 2 ^ (qn - e0).toNat = X at *
    omega
  -- the digits
  have big : qn = b64.qmin ∨ 2 ^ 52 * (B * 2 ^ (qn - e0).toNat) ≤ V := by
    rcases g2 with g | g
    · exact Or.inl g
    · right
      have g' : ¬ unitsNum A e qn < 2 ^ 52 * unitsDen B e qn := fun z => g (by have := (units_below A B e qn 52).mp z; exact this)
      refine Nat.le_of_mul_le_mul_right ?_ pw
      have := Nat.mul_le_mul_right (2 ^ (qn - e0).toNat) (Nat.le_of_not_lt g')
      rw [k1, Nat.mul_assoc, k3] at this
      calc 2 ^ 52 * (B * 2 ^ (qn - e0).toNat) * 2 ^ (qn - e).toNat = 2 ^ 52 * (B * 2 ^ (qn - e0).toNat * 2 ^ (qn - e).toNat) := by ac_rfl
        _ ≤ _ := this
  by_cases hbig : 2 ^ 52 * (B * 2 ^ (qn - e0).toNat) ≤ V
  · left
    generalize (((n * 2 ^ (qn - e0).toNat * B : Nat) : Int) - ((V : Nat) : Int)).natAbs = D at *
    generalize B * 2 ^ (qn - e0).toNat = X at *
    omega
  · right
    have hqq : qn = b64.qmin := big.resolve_right hbig
    rw [hqq] at mm hbig ⊢
    exact ⟨mm, Nat.lt_of_not_le hbig⟩
/-- a finite double, counted in units of 2^-1074 -/
def own_Z (z : Int) (x : UInt64) : Prop := (∃ s c q, val64 x = .fin s c q) ∧ zval b64 (val64 x) = z
theorem own_Z.nn {z : Int} {x : UInt64} (a : own_Z z x) : Jvm.Free.Fl.NoNaN64 x := by
  obtain ⟨⟨s, c, q, e⟩, -⟩ := a
  exact Jvm.Free.Fl.val64_no.mpr (by rw [e]; exact Datum.noConfusion)
theorem own_Z.ex {z : Int} {x : UInt64} (a : own_Z z x) : ∃ s c q, val64 x = .fin s c q ∧ b64.qmin ≤ q ∧ signed s (c * 2 ^ (q - b64.qmin).toNat) = z := by
  obtain ⟨⟨s, c, q, e⟩, h⟩ := a
  have hf : Core.fits b64 (.fin s c q) := by rw [← e]; exact val64_fits _
  rw [e] at h
  exact ⟨s, c, q, e, hf.2.1, h⟩
theorem own_Z.cmp {z w : Int} {x y : UInt64} (a : own_Z z x) (b : own_Z w y) {o : CmpOp} : cmpValue (FP.dcmp x y) o = own_c3 z w := by
  have e : FP.dcmp x y = some (compare z w) := by
    obtain ⟨⟨s, c, q, e1⟩, h1⟩ := a
    obtain ⟨⟨t, d, r, e2⟩, h2⟩ := b
    have := order_zval good_b64 (val64_fits x) (val64_fits y) (by rw [e1]; exact Datum.noConfusion) (by rw [e2]; exact Datum.noConfusion)
    rw [h1, h2] at this
    exact this
  rw [e]; exact own_c3_cmp z w o
theorem own_signed_sub (s : Bool) (R V : Nat) : (signed s R - signed s V).natAbs = ((R : Int) - (V : Int)).natAbs := by
  cases s <;> simp only [signed] <;> simp <;> omega
theorem own_signed_abs {s : Bool} {V : Nat} {a : Int} (h : signed s V = a) : a.natAbs = V := by rw [← h]; exact natAbs_signed s V
/-- the sum -/
theorem own_Zadd {a b : Int} {x y v : UInt64} (ha : own_Z a x) (hb : own_Z b y) (hv : FP.dadd x y = v) (hT : (a + b).natAbs < 2 ^ 2000) : ∃ z, own_Z z v ∧ (z - (a + b)).natAbs * (2 * 2 ^ 52) ≤ (a + b).natAbs := by
  subst hv
  obtain ⟨s, c, q, e1, q1, h1⟩ := ha.ex
  obtain ⟨t, d, r, e2, r1, h2⟩ := hb.ex
  obtain ⟨mq, hmq⟩ : ∃ m, m = b64.qmin := ⟨_, rfl⟩
  obtain ⟨u, hu⟩ : ∃ u, sumUnits s c q t d r (min q r) = u := ⟨_, rfl⟩
  have hm : mq ≤ min q r := by omega
  have hs : a + b = u * ((2 ^ (min q r - mq).toNat : Nat) : Int) := by
    rw [← hu, ← h1, ← h2, ← hmq]
    unfold sumUnits inUnits
    rw [Int.add_mul, ← signed_mul, ← signed_mul, Nat.mul_assoc, Nat.mul_assoc, ← Nat.pow_add, ← Nat.pow_add]
    congr 4 <;> omega
  have hV : (a + b).natAbs = u.natAbs * 2 ^ (min q r - mq).toNat := by rw [hs, Int.natAbs_mul, Int.natAbs_natCast]
  have ev : val64 (FP.dadd x y) = roundRatio b64 (sumSign s t u) u.natAbs 1 (min q r) := by
    rw [show val64 (FP.dadd x y) = round b64 (exactSum (val64 x) (val64 y)) from val64_dadd _ _, e1, e2, ← hu]; rfl
  by_cases h0 : u = 0
  · refine ⟨0, ⟨⟨sumSign s t u, 0, b64.qmin, by rw [ev, h0]; exact own_round_zero ..⟩, ?_⟩, ?_⟩
    · rw [ev, h0, show (0 : Int).natAbs = 0 from rfl, own_round_zero]
      show signed _ (0 * _) = 0
      rw [Nat.zero_mul, signed_zero]
    · rw [hs, h0, Int.zero_mul]; simp
  · obtain ⟨c', q', f1, f2, f3⟩ := own_rr (s := sumSign s t u) (A := u.natAbs) (B := 1) (e := min q r) (e0 := mq) (by omega) (by decide) hm (by omega) (by
      rw [← hV, Nat.one_mul, hmq, Int.sub_self]; exact hT)
    rw [← hV, Nat.mul_one, Nat.one_mul, hmq, Int.sub_self, show (0 : Int).toNat = 0 from rfl, Nat.pow_zero] at f3
    refine ⟨signed (sumSign s t u) (c' * 2 ^ (q' - b64.qmin).toNat), ⟨⟨_, c', q', ev.trans f1⟩, by rw [ev, f1]; rfl⟩, ?_⟩
    have hsg : signed (sumSign s t u) (a + b).natAbs = a + b := by
      rw [hV, signed_mul, signed_sumSign, ← hs]
    have e5 : (signed (sumSign s t u) (c' * 2 ^ (q' - b64.qmin).toNat) - (a + b)).natAbs = (((c' * 2 ^ (q' - b64.qmin).toNat : Nat) : Int) - ((a + b).natAbs : Int)).natAbs := by
      have := own_signed_sub (sumSign s t u) (c' * 2 ^ (q' - b64.qmin).toNat) (a + b).natAbs
      rwa [hsg] at this
    rw [e5]
    rcases f3 with f | ⟨f, -⟩
    · exact f
    · generalize (((c' * 2 ^ (q' - b64.qmin).toNat : Nat) : Int) - ((a + b).natAbs : Int)).natAbs = D at f
      have : D = 0 := by omega
      rw [this, Nat.zero_mul]; exact Nat.zero_le _
theorem own_Z.neg {a : Int} {x : UInt64} (ha : own_Z a x) : own_Z (-a) (Core.dneg x) := by
  obtain ⟨⟨s, c, q, e⟩, h⟩ := ha
  refine ⟨⟨!s, c, q, by rw [Core.val64_dneg, e]; rfl⟩, ?_⟩
  rw [Core.val64_dneg, zval_negate, h]
theorem own_Zsub {a b : Int} {x y v : UInt64} (ha : own_Z a x) (hb : own_Z b y) (hv : FP.dsub x y = v) (hT : (a - b).natAbs < 2 ^ 2000) : ∃ z, own_Z z v ∧ (z - (a - b)).natAbs * (2 * 2 ^ 52) ≤ (a - b).natAbs := by
  have e : a - b = a + -b := by omega
  rw [e] at hT ⊢
  exact own_Zadd ha hb.neg ((dsub_eq x y).symm.trans hv) hT
/-- the product -/
theorem own_Zmul {U : Nat} (hU : U = 2 ^ (0 - b64.qmin).toNat) {a b : Int} {x y v : UInt64} (ha : own_Z a x) (hb : own_Z b y) (hv : FP.dmul x y = v) (hT : (a * b).natAbs < 2 ^ 2000 * U) :
    ∃ z, own_Z z v ∧ (z * U - a * b).natAbs * (2 * 2 ^ 52) ≤ (a * b).natAbs + 2 ^ 52 * U ∧ (a * b = 0 ∨ 2 ^ 52 * U ≤ (a * b).natAbs → (z * U - a * b).natAbs * (2 * 2 ^ 52) ≤ (a * b).natAbs) := by
  subst hv
  obtain ⟨s, c, q, e1, q1, h1⟩ := ha.ex
  obtain ⟨t, d, r, e2, r1, h2⟩ := hb.ex
  obtain ⟨mq, hmq⟩ : ∃ m, m = b64.qmin := ⟨_, rfl⟩
  have hneg : mq ≤ 0 := by rw [hmq]; decide
  rw [← hmq] at hU h1 h2 q1 r1
  have hab : a * b = signed (s != t) (c * d * 2 ^ (q + r - (mq + mq)).toNat) := by
    rw [← h1, ← h2, ← signed_xor]; congr 1
    have : 2 ^ (q + r - (mq + mq)).toNat = 2 ^ (q - mq).toNat * 2 ^ (r - mq).toNat := by rw [← Nat.pow_add]; congr 1; omega
    rw [this]; ac_rfl
  have hV : (a * b).natAbs = c * d * 2 ^ (q + r - (mq + mq)).toNat := own_signed_abs hab.symm
  have ev : val64 (FP.dmul x y) = roundRatio b64 (s != t) (c * d) 1 (q + r) := by
    rw [show val64 (FP.dmul x y) = round b64 (exactProduct (val64 x) (val64 y)) from val64_dmul _ _, e1, e2]; rfl
  by_cases h0 : c * d = 0
  · have hz : a * b = 0 := by rw [hab, h0, Nat.zero_mul, signed_zero]
    refine ⟨0, ⟨⟨s != t, 0, b64.qmin, by rw [ev, h0]; exact own_round_zero ..⟩, ?_⟩, ?_, fun _ => ?_⟩
    · rw [ev, h0, own_round_zero]
      show signed _ (0 * _) = 0
      rw [Nat.zero_mul, signed_zero]
    · rw [hz, Int.zero_mul]; simp
    · rw [hz, Int.zero_mul]; simp
  · have hmm : (mq - (mq + mq)).toNat = (0 - mq).toNat := by omega
    obtain ⟨c', q', f1, f2, f3⟩ := own_rr (s := (s != t)) (A := c * d) (B := 1) (e := q + r) (e0 := mq + mq) (by omega) (by decide) (by omega) (by omega) (by
      rw [← hV, Nat.one_mul, ← hmq, hmm, Nat.pow_add, ← hU]; exact hT)
    rw [← hV, Nat.mul_one, Nat.one_mul, ← hmq, hmm, ← hU] at f3
    rw [← hmq] at f2
    have hR : c' * 2 ^ (q' - (mq + mq)).toNat = c' * 2 ^ (q' - mq).toNat * U := by
      rw [hU, Nat.mul_assoc, ← Nat.pow_add]; congr 2; omega
    rw [hR] at f3
    refine ⟨signed (s != t) (c' * 2 ^ (q' - mq).toNat), ⟨⟨_, c', q', ev.trans f1⟩, by rw [ev, f1, hmq]; rfl⟩, ?_⟩
    have e5 : (signed (s != t) (c' * 2 ^ (q' - mq).toNat) * (U : Int) - a * b).natAbs = (((c' * 2 ^ (q' - mq).toNat * U : Nat) : Int) - ((a * b).natAbs : Int)).natAbs := by
      have hx : a * b = signed (s != t) (a * b).natAbs := by rw [hV]; exact hab
      have hy := own_signed_sub (s != t) (c' * 2 ^ (q' - mq).toNat * U) (a * b).natAbs
      rw [← hx] at hy
      rw [← signed_mul]; exact hy
    rw [e5]
    generalize (((c' * 2 ^ (q' - mq).toNat * U : Nat) : Int) - ((a * b).natAbs : Int)).natAbs = D at f3
    generalize (a * b).natAbs = N at *
    refine ⟨by omega, fun hc => ?_⟩
    rcases f3 with f | ⟨f, f'⟩
    · exact f
    · rcases hc with z | z
      · exact absurd (own_signed_abs (show signed (s != t) _ = a * b from hab.symm)) (by rw [z]; intro w; have := Nat.mul_pos (Nat.pos_of_ne_zero h0) (Nat.two_pow_pos (q + r - (mq + mq)).toNat); simp at w; omega)
      · omega
/-- the quotient -/
theorem own_Zdiv {U : Nat} (hU : U = 2 ^ (0 - b64.qmin).toNat) {a b : Int} {x y v : UInt64} (ha : own_Z a x) (hb : own_Z b y) (hv : FP.ddiv x y = v) (hb0 : b ≠ 0) (hT : a.natAbs * U < b.natAbs * 2 ^ 2000) :
    ∃ z, own_Z z v ∧ (a = 0 ∨ 2 ^ 52 * b.natAbs ≤ a.natAbs * U → (z * b - a * U).natAbs * (2 * 2 ^ 52) ≤ a.natAbs * U) := by
  subst hv
  obtain ⟨s, c, q, e1, q1, h1⟩ := ha.ex
  obtain ⟨t, d, r, e2, r1, h2⟩ := hb.ex
  obtain ⟨mq, hmq⟩ : ∃ m, m = b64.qmin := ⟨_, rfl⟩
  have hneg : mq = -1074 := hmq
  have hr2 : r ≤ 971 := by
    have : Core.fits b64 (.fin t d r) := by rw [← e2]; exact val64_fits _
    exact this.2.2.1
  rw [← hmq] at hU h1 h2 q1 r1
  have hA : a.natAbs = c * 2 ^ (q - mq).toNat := own_signed_abs h1
  have hB : b.natAbs = d * 2 ^ (r - mq).toNat := own_signed_abs h2
  have hd : d ≠ 0 := fun z => hb0 (by rw [← h2, z, Nat.zero_mul, signed_zero])
  have hUp : 0 < U := hU ▸ Nat.two_pow_pos _
  have ev : val64 (FP.ddiv x y) = roundRatio b64 (s != t) c d (q - r) := by
    rw [show val64 (FP.ddiv x y) = quotient b64 (val64 x) (val64 y) from val64_ddiv _ _, e1, e2, own_quotient hd]
  by_cases h0 : c = 0
  · have hz : a = 0 := by rw [← h1, h0, Nat.zero_mul, signed_zero]
    refine ⟨0, ⟨⟨s != t, 0, b64.qmin, by rw [ev, h0]; exact own_round_zero ..⟩, ?_⟩, fun _ => ?_⟩
    · rw [ev, h0, own_round_zero]
      show signed _ (0 * _) = 0
      rw [Nat.zero_mul, signed_zero]
    · rw [hz, Int.zero_mul, Int.zero_mul]; simp
  · have hmm : (mq - (mq + mq)).toNat = (0 - mq).toNat := by omega
    have pw : 0 < 2 ^ (r - mq).toNat := Nat.two_pow_pos _
    have kV : c * 2 ^ (q - r - (mq + mq)).toNat * 2 ^ (r - mq).toNat = a.natAbs * U * U := by
      rw [hA, hU, Nat.mul_assoc, Nat.mul_assoc, Nat.mul_assoc, ← Nat.pow_add, ← Nat.pow_add, ← Nat.pow_add]; congr 2; omega
    obtain ⟨c', q', f1, f2, f3⟩ := own_rr (s := (s != t)) (A := c) (B := d) (e := q - r) (e0 := mq + mq) (by omega) (by omega) (by omega) (by omega) (by
      rw [← hmq, hmm, Nat.pow_add, ← hU]
      refine Nat.lt_of_mul_lt_mul_right (a := 2 ^ (r - mq).toNat) ?_
      rw [kV]
      generalize (2 ^ 2000 : Nat) = TT at hT ⊢
      calc a.natAbs * U * U < b.natAbs * TT * U := Nat.mul_lt_mul_of_pos_right hT hUp
        _ = d * (TT * U) * 2 ^ (r - mq).toNat := by rw [hB]; ac_rfl)
    rw [← hmq] at f2
    rw [← hmq, hmm, ← hU] at f3
    have hR : c' * 2 ^ (q' - (mq + mq)).toNat = c' * 2 ^ (q' - mq).toNat * U := by
      rw [hU, Nat.mul_assoc, ← Nat.pow_add]; congr 2; omega
    rw [hR] at f3
    refine ⟨signed (s != t) (c' * 2 ^ (q' - mq).toNat), ⟨⟨_, c', q', ev.trans f1⟩, by rw [ev, f1, hmq]; rfl⟩, fun hc => ?_⟩
    have hnot : ¬ c * 2 ^ (q - r - (mq + mq)).toNat < 2 ^ 52 * (d * U) := fun z => by
      have z2 := Nat.mul_lt_mul_of_pos_right z pw
      rw [kV] at z2
      have z3 : 2 ^ 52 * (d * U) * 2 ^ (r - mq).toNat = 2 ^ 52 * b.natAbs * U := by rw [hB]; ac_rfl
      rw [z3] at z2
      have z4 := Nat.lt_of_mul_lt_mul_right z2
      rcases hc with w | w
      · have : 0 < a.natAbs := by rw [hA]; exact Nat.mul_pos (Nat.pos_of_ne_zero h0) (Nat.two_pow_pos _)
        rw [w] at this; simp at this
      · omega
    have f4 := f3.resolve_right fun z => hnot z.2
    -- U | |z| |b| - |a| U | = |R B - V| 2^(r - mq)
    have e5 : (signed (s != t) (c' * 2 ^ (q' - mq).toNat) * b - a * U).natAbs * U = (((c' * 2 ^ (q' - mq).toNat * U * d : Nat) : Int) - ((c * 2 ^ (q - r - (mq + mq)).toNat : Nat) : Int)).natAbs * 2 ^ (r - mq).toNat := by
      have g1 : signed (s != t) (c' * 2 ^ (q' - mq).toNat) * b = signed s (c' * 2 ^ (q' - mq).toNat * (d * 2 ^ (r - mq).toNat)) := by
        rw [← h2, ← signed_xor]; congr 1; cases s <;> cases t <;> rfl
      have g2 : a * U = signed s (c * 2 ^ (q - mq).toNat * U) := by rw [← h1, signed_mul _ _ U]
      rw [g1, g2, own_signed_sub]
      have g3 : ∀ (P Q : Int) (k : Nat), (P - Q).natAbs * k = (P * k - Q * k).natAbs := fun P Q k => by rw [← Int.sub_mul, Int.natAbs_mul, Int.natAbs_natCast]
      rw [g3, g3, ← Int.natCast_mul, ← Int.natCast_mul, ← Int.natCast_mul, ← Int.natCast_mul, kV, hA]
      congr 3
      ac_rfl
    refine Nat.le_of_mul_le_mul_right ?_ hUp
    calc (signed (s != t) (c' * 2 ^ (q' - mq).toNat) * b - a * U).natAbs * (2 * 2 ^ 52) * U
        = (signed (s != t) (c' * 2 ^ (q' - mq).toNat) * b - a * U).natAbs * U * (2 * 2 ^ 52) := by ac_rfl
      _ = (((c' * 2 ^ (q' - mq).toNat * U * d : Nat) : Int) - ((c * 2 ^ (q - r - (mq + mq)).toNat : Nat) : Int)).natAbs * (2 * 2 ^ 52) * 2 ^ (r - mq).toNat := by rw [e5]; ac_rfl
      _ ≤ c * 2 ^ (q - r - (mq + mq)).toNat * 2 ^ (r - mq).toNat := Nat.mul_le_mul_right _ f4
      _ = _ := kV
/-- an exact whole number -/
theorem own_D.toZ {U : Nat} (hU : U = 2 ^ (0 - b64.qmin).toNat) {A : Nat} {i : Int} {x : UInt64} (a : own_D 0 A i x) : own_Z (i * U) x := by
  obtain ⟨s, c, q, e⟩ := a.fin
  have hf : Core.fits b64 (.fin s c q) := by rw [← e]; exact val64_fits _
  refine ⟨⟨s, c, q, e⟩, ?_⟩
  have w : Whole i (.fin s c q) := by have := a.1; rw [e, show ((0 : Nat) : Int) = 0 from rfl, own_sh_zero] at this; exact this
  obtain ⟨mq, hmq⟩ : ∃ m, m = b64.qmin := ⟨_, rfl⟩
  have hneg : mq = -1074 := hmq
  have hq : mq ≤ q := hmq ▸ hf.2.1
  have w2 := own_whole_up (0 - mq).toNat w
  rw [e, hU, ← hmq]
  show signed s (c * 2 ^ (q - b64.qmin).toNat) = _
  have w3 : signed s (c * 2 ^ (q + ((0 - mq).toNat : Nat)).toNat) = i * ((2 ^ (0 - mq).toNat : Nat) : Int) * ((2 ^ (-(q + ((0 - mq).toNat : Nat))).toNat : Nat) : Int) := w2
  rw [show (q + ((0 - mq).toNat : Nat)).toNat = (q - mq).toNat by omega, show (-(q + ((0 - mq).toNat : Nat))).toNat = 0 by omega, Nat.pow_zero] at w3
  rw [← hmq, w3]; simp
end OwnRnd
section OwnRel
/-- z counts, in units of 1/U, a number that is p / q but for a relative error of K / M -/
def own_Rel (M U : Nat) (p q : Int) (K : Nat) (z : Int) : Prop := M * (z * q - p * U).natAbs ≤ K * (p.natAbs * U)
theorem own_core_mul {M : Nat} (hM : M = 4503599627370496) {r d1 d2 y1 y2 x1 x2 K1 K2 : Nat} (h1 : M * d1 ≤ K1 * y1) (h2 : M * d2 ≤ K2 * y2) (k1 : K1 ≤ 1024) (k2 : K2 ≤ 1024) (hx1 : x1 ≤ y1 + d1) (hx2 : x2 ≤ y2 + d2) (hr : 2 * M * r ≤ x1 * x2) :
    M * (r + (d1 * d2 + y1 * d2 + d1 * y2)) ≤ (K1 + K2 + 1) * (y1 * y2) := by
  obtain ⟨N, hN⟩ : ∃ N : Nat, N = 4398046511104 := ⟨_, rfl⟩
  have a1 : N * d1 ≤ y1 := by
    have h3 : K1 * y1 ≤ 1024 * y1 := Nat.mul_le_mul_right _ k1
    have h4 := Nat.le_trans h1 h3
    clear h1 h2 hr h3
    rewrite [hM] at h4; rewrite [hN]; omega
  have e1 : M * (y1 * d2) ≤ K2 * (y1 * y2) := by
    calc M * (y1 * d2) = y1 * (M * d2) := by ac_rfl
      _ ≤ y1 * (K2 * y2) := Nat.mul_le_mul_left _ h2
      _ = K2 * (y1 * y2) := by ac_rfl
  have e2 : M * (d1 * y2) ≤ K1 * (y1 * y2) := by
    calc M * (d1 * y2) = (M * d1) * y2 := by ac_rfl
      _ ≤ (K1 * y1) * y2 := Nat.mul_le_mul_right _ h1
      _ = K1 * (y1 * y2) := by ac_rfl
  have e3 : N * (d1 * d2) ≤ y1 * d2 := by
    calc N * (d1 * d2) = (N * d1) * d2 := by ac_rfl
      _ ≤ y1 * d2 := Nat.mul_le_mul_right _ a1
  have e4 : 2 * M * r ≤ y1 * y2 + y1 * d2 + d1 * y2 + d1 * d2 := by
    refine Nat.le_trans hr (Nat.le_trans (Nat.mul_le_mul hx1 hx2) ?_)
    rw [Nat.add_mul, Nat.mul_add, Nat.mul_add]; omega
  have e5 : K1 * (y1 * y2) ≤ 1024 * (y1 * y2) := Nat.mul_le_mul_right _ k1
  have e6 : K2 * (y1 * y2) ≤ 1024 * (y1 * y2) := Nat.mul_le_mul_right _ k2
  rw [Nat.add_mul (K1 + K2), Nat.add_mul K1, Nat.one_mul]
  clear h1 h2 hr a1
  generalize K1 * (y1 * y2) = k1y at *
  generalize K2 * (y1 * y2) = k2y at *
  generalize y1 * y2 = y at *
  generalize y1 * d2 = b at *
  generalize d1 * y2 = c at *
  generalize d1 * d2 = a at *
  rewrite [hM] at e1 e2 e4 ⊢; rewrite [hN] at e3; omega
theorem own_tri (a b : Int) : (a + b).natAbs ≤ a.natAbs + b.natAbs := Int.natAbs_add_le a b
theorem own_tri1 (p z q : Int) (U : Nat) : (z * q).natAbs ≤ p.natAbs * U + (z * q - p * U).natAbs := by
  have := own_tri (p * U) (z * q - p * U)
  rw [show p * (U : Int) + (z * q - p * U) = z * q by omega, Int.natAbs_mul p, Int.natAbs_natCast] at this
  exact this
theorem own_tri2 (p z q : Int) (U : Nat) : p.natAbs * U ≤ (z * q).natAbs + (z * q - p * U).natAbs := by
  have := own_tri (z * q) (-(z * q - p * U))
  rw [show z * q + -(z * q - p * U) = p * U by omega, Int.natAbs_neg, Int.natAbs_mul p, Int.natAbs_natCast] at this
  exact this
theorem own_Rel.mul {M U : Nat} (hM : M = 4503599627370496) (hU : 0 < U) {p1 q1 p2 q2 z1 z2 z3 : Int} {K1 K2 K3 : Nat} (a : own_Rel M U p1 q1 K1 z1) (b : own_Rel M U p2 q2 K2 z2) (h : 2 * M * (z3 * U - z1 * z2).natAbs ≤ (z1 * z2).natAbs) (hK : K1 + K2 + 1 = K3) (k1 : K1 ≤ 1024) (k2 : K2 ≤ 1024) : own_Rel M U (p1 * p2) (q1 * q2) K3 z3 := by
  subst hK
  unfold own_Rel at *
  have id : (z3 * (q1 * q2) - p1 * p2 * U) * U = q1 * q2 * (z3 * U - z1 * z2) + ((z1 * q1 - p1 * U) * (z2 * q2 - p2 * U) + p1 * U * (z2 * q2 - p2 * U) + (z1 * q1 - p1 * U) * (p2 * U)) := by grind
  have hr : 2 * M * ((q1 * q2).natAbs * (z3 * U - z1 * z2).natAbs) ≤ (z1 * q1).natAbs * (z2 * q2).natAbs := by
    calc 2 * M * ((q1 * q2).natAbs * (z3 * U - z1 * z2).natAbs) = (q1 * q2).natAbs * (2 * M * (z3 * U - z1 * z2).natAbs) := by ac_rfl
      _ ≤ (q1 * q2).natAbs * (z1 * z2).natAbs := Nat.mul_le_mul_left _ h
      _ = _ := by simp only [Int.natAbs_mul]; ac_rfl
  have core := own_core_mul hM a b k1 k2 (own_tri1 p1 z1 q1 U) (own_tri1 p2 z2 q2 U) hr
  have hD : (z3 * (q1 * q2) - p1 * p2 * U).natAbs * U ≤ (q1 * q2).natAbs * (z3 * U - z1 * z2).natAbs + ((z1 * q1 - p1 * U).natAbs * (z2 * q2 - p2 * U).natAbs + p1.natAbs * U * (z2 * q2 - p2 * U).natAbs + (z1 * q1 - p1 * U).natAbs * (p2.natAbs * U)) := by
    have e := congrArg Int.natAbs id
    rw [Int.natAbs_mul, Int.natAbs_natCast] at e
    rw [e]
    refine Nat.le_trans (own_tri _ _) (Nat.add_le_add (Nat.le_of_eq (Int.natAbs_mul ..)) (Nat.le_trans (own_tri _ _) (Nat.add_le_add (Nat.le_trans (own_tri _ _) (Nat.add_le_add (Nat.le_of_eq (Int.natAbs_mul ..)) ?_)) ?_)))
    · rw [Int.natAbs_mul, Int.natAbs_mul, Int.natAbs_natCast]; exact Nat.le_refl _
    · rw [Int.natAbs_mul, Int.natAbs_mul p2, Int.natAbs_natCast]; exact Nat.le_refl _
  refine Nat.le_of_mul_le_mul_right (c := U) ?_ hU
  calc M * (z3 * (q1 * q2) - p1 * p2 * U).natAbs * U = M * ((z3 * (q1 * q2) - p1 * p2 * U).natAbs * U) := Nat.mul_assoc ..
    _ ≤ _ := Nat.mul_le_mul_left _ hD
    _ ≤ _ := core
    _ = (K1 + K2 + 1) * ((p1 * p2).natAbs * U) * U := by rw [Int.natAbs_mul]; ac_rfl
theorem own_core_div {M : Nat} (hM : M = 4503599627370496) {r g d1 d2 y1 h y2 x1 x2 K1 K2 : Nat} (h1 : M * d1 ≤ K1 * y1) (h2 : M * d2 ≤ K2 * y2) (k1 : K1 ≤ 1024) (k2 : K2 ≤ 1024) (hx1 : x1 ≤ y1 + d1) (hy2 : y2 ≤ x2 + d2) (hr : 2 * M * r ≤ x1 * h) (hg : g * x2 ≤ x1 * h + r) :
    M * (r + g * d2 + d1 * h) ≤ (K1 + K2 + 2) * (y1 * h) := by
  have e1 : M * (d1 * h) ≤ K1 * (y1 * h) := by
    calc M * (d1 * h) = (M * d1) * h := by ac_rfl
      _ ≤ (K1 * y1) * h := Nat.mul_le_mul_right _ h1
      _ = K1 * (y1 * h) := by ac_rfl
  have e2 : x1 * h ≤ y1 * h + d1 * h := by rw [← Nat.add_mul]; exact Nat.mul_le_mul_right _ hx1
  have e3 : M * (g * d2) ≤ K2 * (g * y2) := by
    calc M * (g * d2) = g * (M * d2) := by ac_rfl
      _ ≤ g * (K2 * y2) := Nat.mul_le_mul_left _ h2
      _ = K2 * (g * y2) := by ac_rfl
  have e4 : g * y2 ≤ g * x2 + g * d2 := by rw [← Nat.mul_add]; exact Nat.mul_le_mul_left _ hy2
  have e5 : K2 * (g * y2) ≤ K2 * (y1 * h) + 1024 * (d1 * h + r + g * d2) := by
    refine Nat.le_trans (Nat.mul_le_mul_left _ (show g * y2 ≤ y1 * h + (d1 * h + r + g * d2) by clear h1 h2 hr e1 e3; omega)) ?_
    rw [Nat.mul_add]
    exact Nat.add_le_add_left (Nat.mul_le_mul_right _ k2) _
  have e6 : K1 * (y1 * h) ≤ 1024 * (y1 * h) := Nat.mul_le_mul_right _ k1
  have e7 : K2 * (y1 * h) ≤ 1024 * (y1 * h) := Nat.mul_le_mul_right _ k2
  rw [Nat.add_mul (K1 + K2), Nat.add_mul K1]
  clear h1 h2
  generalize K1 * (y1 * h) = k1y at *
  generalize K2 * (y1 * h) = k2y at *
  generalize K2 * (g * y2) = k2g at *
  generalize y1 * h = w at *
  generalize d1 * h = c at *
  generalize g * d2 = b at *
  generalize g * x2 = gx at *
  generalize g * y2 = gy at *
  generalize x1 * h = xh at *
  rewrite [hM] at e1 e3 hr ⊢; omega
theorem own_Rel.div {M U : Nat} (hM : M = 4503599627370496) (hU : 0 < U) {p1 q1 p2 q2 z1 z2 z3 : Int} {K1 K2 K3 : Nat} (a : own_Rel M U p1 q1 K1 z1) (b : own_Rel M U p2 q2 K2 z2) (h : 2 * M * (z3 * z2 - z1 * U).natAbs ≤ z1.natAbs * U) (hK : K1 + K2 + 2 = K3) (k1 : K1 ≤ 1024) (k2 : K2 ≤ 1024) : own_Rel M U (p1 * q2) (q1 * p2) K3 z3 := by
  subst hK
  unfold own_Rel at *
  have id : (z3 * (q1 * p2) - p1 * q2 * U) * U = q1 * q2 * (z3 * z2 - z1 * U) + z3 * q1 * (p2 * U - z2 * q2) + (z1 * q1 - p1 * U) * (q2 * U) := by grind
  have hr : 2 * M * ((q1 * q2).natAbs * (z3 * z2 - z1 * U).natAbs) ≤ (z1 * q1).natAbs * (q2.natAbs * U) := by
    calc 2 * M * ((q1 * q2).natAbs * (z3 * z2 - z1 * U).natAbs) = (q1 * q2).natAbs * (2 * M * (z3 * z2 - z1 * U).natAbs) := by ac_rfl
      _ ≤ (q1 * q2).natAbs * (z1.natAbs * U) := Nat.mul_le_mul_left _ h
      _ = _ := by simp only [Int.natAbs_mul]; ac_rfl
  have hg : (z3 * q1).natAbs * (z2 * q2).natAbs ≤ (z1 * q1).natAbs * (q2.natAbs * U) + (q1 * q2).natAbs * (z3 * z2 - z1 * U).natAbs := by
    have e : z3 * q1 * (z2 * q2) = z1 * q1 * (q2 * U) + q1 * q2 * (z3 * z2 - z1 * U) := by grind
    rw [← Int.natAbs_mul, e]
    refine Nat.le_trans (own_tri _ _) (Nat.add_le_add (Nat.le_of_eq ?_) (Nat.le_of_eq (Int.natAbs_mul ..)))
    rw [Int.natAbs_mul, Int.natAbs_mul q2, Int.natAbs_natCast]
  have core := own_core_div hM (h := q2.natAbs * U) a b k1 k2 (own_tri1 p1 z1 q1 U) (own_tri2 p2 z2 q2 U) hr hg
  have hD : (z3 * (q1 * p2) - p1 * q2 * U).natAbs * U ≤ (q1 * q2).natAbs * (z3 * z2 - z1 * U).natAbs + (z3 * q1).natAbs * (z2 * q2 - p2 * U).natAbs + (z1 * q1 - p1 * U).natAbs * (q2.natAbs * U) := by
    have e := congrArg Int.natAbs id
    rw [Int.natAbs_mul, Int.natAbs_natCast] at e
    rw [e]
    refine Nat.le_trans (own_tri _ _) (Nat.add_le_add (Nat.le_trans (own_tri _ _) (Nat.add_le_add (Nat.le_of_eq (Int.natAbs_mul ..)) ?_)) ?_)
    · rw [Int.natAbs_mul, show p2 * (U : Int) - z2 * q2 = -(z2 * q2 - p2 * U) by omega, Int.natAbs_neg]; exact Nat.le_refl _
    · rw [Int.natAbs_mul, Int.natAbs_mul q2, Int.natAbs_natCast]; exact Nat.le_refl _
  refine Nat.le_of_mul_le_mul_right (c := U) ?_ hU
  calc M * (z3 * (q1 * p2) - p1 * q2 * U).natAbs * U = M * ((z3 * (q1 * p2) - p1 * q2 * U).natAbs * U) := Nat.mul_assoc ..
    _ ≤ _ := Nat.mul_le_mul_left _ hD
    _ ≤ _ := core
    _ = (K1 + K2 + 2) * ((p1 * q2).natAbs * U) * U := by rw [Int.natAbs_mul]; ac_rfl
/-- 1 - p/q, where |p| ≤ 16 |q - p| -/
theorem own_Rel.one_sub {M U : Nat} (hM : M = 4503599627370496) {p q z1 z3 : Int} {K K3 : Nat} (a : own_Rel M U p q K z1) (h : 2 * M * (z3 - (U - z1)).natAbs ≤ (U - z1).natAbs) (hp : p.natAbs ≤ 16 * (q - p).natAbs) (hK : 16 * K + 1 = K3) (k1 : K ≤ 60) : own_Rel M U (q - p) q K3 z3 := by
  subst hK
  unfold own_Rel at *
  have id : z3 * q - (q - p) * U = q * (z3 - (U - z1)) + -(z1 * q - p * U) := by grind
  have hD : (z3 * q - (q - p) * U).natAbs ≤ q.natAbs * (z3 - (U - z1)).natAbs + (z1 * q - p * U).natAbs := by
    rw [id]; refine Nat.le_trans (own_tri _ _) (Nat.add_le_add (Nat.le_of_eq (Int.natAbs_mul ..)) (Nat.le_of_eq (Int.natAbs_neg _)))
  have hr : 2 * M * (q.natAbs * (z3 - (U - z1)).natAbs) ≤ (q - p).natAbs * U + (z1 * q - p * U).natAbs := by
    calc 2 * M * (q.natAbs * (z3 - (U - z1)).natAbs) = q.natAbs * (2 * M * (z3 - (U - z1)).natAbs) := by ac_rfl
      _ ≤ q.natAbs * (U - z1).natAbs := Nat.mul_le_mul_left _ h
      _ = ((q - p) * U + -(z1 * q - p * U)).natAbs := by rw [← Int.natAbs_mul]; congr 1; grind
      _ ≤ _ := by
        refine Nat.le_trans (own_tri _ _) (Nat.add_le_add (Nat.le_of_eq ?_) (Nat.le_of_eq (Int.natAbs_neg _)))
        rw [Int.natAbs_mul, Int.natAbs_natCast]
  have hk : K * (p.natAbs * U) ≤ 16 * (K * ((q - p).natAbs * U)) := by
    calc K * (p.natAbs * U) ≤ K * (16 * (q - p).natAbs * U) := Nat.mul_le_mul_left _ (Nat.mul_le_mul_right _ hp)
      _ = 16 * (K * ((q - p).natAbs * U)) := by ac_rfl
  have hk2 : K * ((q - p).natAbs * U) ≤ 60 * ((q - p).natAbs * U) := Nat.mul_le_mul_right _ k1
  rw [Nat.add_mul, Nat.mul_assoc 16, Nat.one_mul]
  clear h id
  generalize K * ((q - p).natAbs * U) = kw at *
  generalize K * (p.natAbs * U) = kp at *
  generalize (q - p).natAbs * U = w at *
  generalize q.natAbs * (z3 - (U - z1)).natAbs = r at *
  generalize (z3 * q - (q - p) * U).natAbs = D at *
  generalize (z1 * q - p * U).natAbs = d at *
  rewrite [hM] at a hr ⊢; omega
theorem own_Rel.sub_one {M U : Nat} (hM : M = 4503599627370496) {p q z1 z3 : Int} {K K3 : Nat} (a : own_Rel M U p q K z1) (h : 2 * M * (z3 - (z1 - U)).natAbs ≤ (z1 - U).natAbs) (hp : p.natAbs ≤ 16 * (p - q).natAbs) (hK : 16 * K + 1 = K3) (k1 : K ≤ 60) : own_Rel M U (p - q) q K3 z3 := by
  have a2 := own_Rel.one_sub hM (z3 := -z3) a (by
    rw [show -z3 - ((U : Int) - z1) = -(z3 - (z1 - U)) by omega, Int.natAbs_neg, show (U : Int) - z1 = -(z1 - U) by omega, Int.natAbs_neg]; exact h) (by rw [show q - p = -(p - q) by omega, Int.natAbs_neg]; exact hp) hK k1
  unfold own_Rel at *
  rw [show -z3 * q - (q - p) * (U : Int) = -(z3 * q - (p - q) * U) by grind, Int.natAbs_neg, show q - p = -(p - q) by omega, Int.natAbs_neg] at a2
  exact a2
theorem own_Rel.exact (M U : Nat) (i : Int) : own_Rel M U i 1 0 (i * U) := by
  unfold own_Rel
  rw [Int.mul_one, Int.sub_self]; simp
theorem own_Rel.cancel {M U : Nat} {p q k z : Int} {K : Nat} (hk : k ≠ 0) (a : own_Rel M U (p * k) (q * k) K z) : own_Rel M U p q K z := by
  unfold own_Rel at *
  refine Nat.le_of_mul_le_mul_right (c := k.natAbs) ?_ (Int.natAbs_pos.mpr hk)
  rw [show z * (q * k) - p * k * U = (z * q - p * U) * k by grind, Int.natAbs_mul, Int.natAbs_mul p] at a
  calc M * (z * q - p * U).natAbs * k.natAbs = M * ((z * q - p * U).natAbs * k.natAbs) := Nat.mul_assoc ..
    _ ≤ _ := a
    _ = _ := by ac_rfl
theorem own_Rel.scale {M U : Nat} {p q z : Int} {K : Nat} (k : Int) (a : own_Rel M U p q K z) : own_Rel M U (p * k) (q * k) K z := by
  unfold own_Rel at *
  rw [show z * (q * k) - p * k * U = (z * q - p * U) * k by grind, Int.natAbs_mul, Int.natAbs_mul p]
  calc M * ((z * q - p * U).natAbs * k.natAbs) = M * (z * q - p * U).natAbs * k.natAbs := by ac_rfl
    _ ≤ _ := Nat.mul_le_mul_right _ a
    _ = _ := by ac_rfl
theorem own_Rel.of_eq {M U : Nat} {p q p' q' z : Int} {K : Nat} (a : own_Rel M U p q K z) (h1 : p = p') (h2 : q = q') : own_Rel M U p' q' K z := by subst h1 h2; exact a
/-- how great and how small such a number is -/
theorem own_Rel.up {M U : Nat} (hM : M = 4503599627370496) {p q z : Int} {K : Nat} (a : own_Rel M U p q K z) (hq : q ≠ 0) (k1 : K ≤ 1024) : z.natAbs ≤ 2 * (p.natAbs * U) := by
  unfold own_Rel at a
  have h := own_tri1 p z q U
  rw [Int.natAbs_mul] at h
  have hz : z.natAbs ≤ z.natAbs * q.natAbs := Nat.le_mul_of_pos_right _ (by omega)
  have hk : K * (p.natAbs * U) ≤ 1024 * (p.natAbs * U) := Nat.mul_le_mul_right _ k1
  generalize z.natAbs * q.natAbs = zq at *
  generalize K * (p.natAbs * U) = kp at *
  generalize p.natAbs * U = pu at *
  generalize (z * q - p * U).natAbs = D at *
  rewrite [hM] at a; omega
theorem own_Rel.low {M U : Nat} (hM : M = 4503599627370496) {p q z : Int} {K : Nat} (a : own_Rel M U p q K z) (k1 : K ≤ 1024) : p.natAbs * U ≤ 2 * (z.natAbs * q.natAbs) := by
  unfold own_Rel at a
  have h := own_tri2 p z q U
  rw [Int.natAbs_mul] at h
  have hk : K * (p.natAbs * U) ≤ 1024 * (p.natAbs * U) := Nat.mul_le_mul_right _ k1
  generalize z.natAbs * q.natAbs = zq at *
  generalize K * (p.natAbs * U) = kp at *
  generalize p.natAbs * U = pu at *
  generalize (z * q - p * U).natAbs = D at *
  rewrite [hM] at a; omega
theorem own_Rel.nz {M U : Nat} (hM : M = 4503599627370496) {p q z : Int} {K : Nat} (a : own_Rel M U p q K z) (k1 : K ≤ 1024) (hU : 0 < U) (hp : p ≠ 0) : z ≠ 0 := by
  intro hz
  have := own_Rel.low hM a k1
  rw [hz] at this
  have h2 : 0 < p.natAbs * U := Nat.mul_pos (by omega) hU
  simp at this; omega
end OwnRel
section OwnApx
open Jvm.FP Jvm.FP.Core
def own_Env (M U : Nat) : Prop := M = 4503599627370496 ∧ U = 2 ^ (0 - b64.qmin).toNat ∧ 0 < U ∧ 4611686018427387904 * U < 2 ^ 2000 ∧ 4611686018427387904 * 4503599627370496 ≤ U
theorem own_env : ∃ M U, own_Env M U := by
  refine ⟨_, _, rfl, rfl, Nat.two_pow_pos _, ?_, ?_⟩
  · obtain ⟨k, hk⟩ : ∃ k, k = (0 - b64.qmin).toNat := ⟨_, rfl⟩
    have hk2 : k = 1074 := hk
    rw [← hk, show (4611686018427387904 : Nat) = 2 ^ 62 from rfl, ← Nat.pow_add]
    exact Nat.pow_lt_pow_right (by decide) (by omega)
  · obtain ⟨k, hk⟩ : ∃ k, k = (0 - b64.qmin).toNat := ⟨_, rfl⟩
    have hk2 : k = 1074 := hk
    rw [← hk, show (4611686018427387904 * 4503599627370496 : Nat) = 2 ^ 114 from rfl]
    exact Nat.pow_le_pow_right (by decide) (by omega)
/-- the double x is p / q but for a relative error of K / M -/
def own_A (M U P Q K : Nat) (p q : Int) (x : UInt64) : Prop := p.natAbs ≤ P ∧ q.natAbs ≤ Q ∧ q ≠ 0 ∧ ∃ z, own_Z z x ∧ own_Rel M U p q K z
theorem own_A.nn {M U P Q K : Nat} {p q : Int} {x : UInt64} (a : own_A M U P Q K p q x) : Jvm.Free.Fl.NoNaN64 x := by obtain ⟨-, -, -, z, h, -⟩ := a; exact h.nn
theorem own_D.toA {M U : Nat} (env : own_Env M U) {A : Nat} {i : Int} {x : UInt64} (a : own_D 0 A i x) : own_A M U A 1 0 i 1 x := ⟨a.2, by decide, by decide, _, a.toZ env.2.1, own_Rel.exact M U i⟩
theorem own_A.of_eq {M U P Q K : Nat} {p q p' q' : Int} {x : UInt64} (a : own_A M U P Q K p q x) (h1 : p = p') (h2 : q = q') : own_A M U P Q K p' q' x := by subst h1 h2; exact a
/-- the sizes of such a number -/
theorem own_sizes {M U P Q K : Nat} (env : own_Env M U) {p q z : Int} (hp : p.natAbs ≤ P) (hq : q.natAbs ≤ Q) (hq0 : q ≠ 0) (r : own_Rel M U p q K z) (k1 : K ≤ 1024) (bP : P ≤ 1073741824) (bQ : Q ≤ 1073741824) :
    z.natAbs ≤ 2147483648 * U ∧ (p = 0 → z = 0) ∧ (p ≠ 0 → U ≤ 2147483648 * z.natAbs) := by
  have h1 := own_Rel.up env.1 r hq0 k1
  have h2 := own_Rel.low env.1 r k1
  have h3 : p.natAbs * U ≤ 1073741824 * U := Nat.mul_le_mul_right _ (Nat.le_trans hp bP)
  have h4 : z.natAbs * q.natAbs ≤ z.natAbs * 1073741824 := Nat.mul_le_mul_left _ (Nat.le_trans hq bQ)
  rw [Nat.mul_comm z.natAbs 1073741824] at h4
  refine ⟨?_, fun hz => ?_, fun hz => ?_⟩
  · generalize p.natAbs * U = pu at *
    omega
  · rw [hz] at h1
    rw [show (0 : Int).natAbs = 0 from rfl, Nat.zero_mul] at h1
    omega
  · have h5 : U ≤ p.natAbs * U := Nat.le_mul_of_pos_left _ (by omega)
    generalize p.natAbs * U = pu at *
    generalize z.natAbs * q.natAbs = zq at *
    omega
theorem own_A.mul {M U P1 Q1 K1 P2 Q2 K2 P3 Q3 K3 : Nat} (env : own_Env M U) {p1 q1 p2 q2 : Int} {x y v : UInt64} (a : own_A M U P1 Q1 K1 p1 q1 x) (b : own_A M U P2 Q2 K2 p2 q2 y) (hv : FP.dmul x y = v) (hP : P1 * P2 = P3) (hQ : Q1 * Q2 = Q3) (hK : K1 + K2 + 1 = K3)
    (c : P1 ≤ 1073741824 ∧ Q1 ≤ 1073741824 ∧ P2 ≤ 1073741824 ∧ Q2 ≤ 1073741824 ∧ K1 ≤ 1024 ∧ K2 ≤ 1024) : own_A M U P3 Q3 K3 (p1 * p2) (q1 * q2) v := by
  subst hP hQ
  obtain ⟨c1, c2, c3, c4, c5, c6⟩ := c
  obtain ⟨a1, a2, a3, z1, a4, a5⟩ := a
  obtain ⟨b1, b2, b3, z2, b4, b5⟩ := b
  obtain ⟨s1, s2, s3⟩ := own_sizes env a1 a2 a3 a5 c5 c1 c2
  obtain ⟨t1, t2, t3⟩ := own_sizes env b1 b2 b3 b5 c6 c3 c4
  obtain ⟨hM, hU, hU0, hTop, hBig⟩ := env
  have hT : (z1 * z2).natAbs < 2 ^ 2000 * U := by
    rw [Int.natAbs_mul]
    refine Nat.lt_of_le_of_lt (Nat.mul_le_mul s1 t1) ?_
    calc 2147483648 * U * (2147483648 * U) = 4611686018427387904 * U * U := by
          rw [show (4611686018427387904 : Nat) = 2147483648 * 2147483648 from rfl]; generalize 2147483648 = B; ac_rfl
      _ < 2 ^ 2000 * U := Nat.mul_lt_mul_of_pos_right hTop hU0
  obtain ⟨z, hz, -, hz2⟩ := own_Zmul hU a4 b4 hv hT
  refine ⟨own_abs_mul a1 b1, own_abs_mul a2 b2, Int.mul_ne_zero a3 b3, z, hz, own_Rel.mul hM hU0 a5 b5 ?_ hK c5 c6⟩
  have h3 := hz2 (by
    by_cases e1 : p1 = 0
    · left; rw [s2 e1, Int.zero_mul]
    · by_cases e2 : p2 = 0
      · left; rw [t2 e2, Int.mul_zero]
      · right
        rw [Int.natAbs_mul]
        refine Nat.le_of_not_lt fun hlt => ?_
        have g1 : U * U ≤ 4611686018427387904 * (z1.natAbs * z2.natAbs) := by
          refine Nat.le_trans (Nat.mul_le_mul (s3 e1) (t3 e2)) (Nat.le_of_eq ?_)
          rw [show (4611686018427387904 : Nat) = 2147483648 * 2147483648 from rfl]; generalize 2147483648 = B; ac_rfl
        have g2 : 4611686018427387904 * (z1.natAbs * z2.natAbs) < 4611686018427387904 * (2 ^ 52 * U) := Nat.mul_lt_mul_of_pos_left hlt (by decide)
        have g3 : 4611686018427387904 * (2 ^ 52 * U) ≤ U * U := by
          rw [← Nat.mul_assoc]; exact Nat.mul_le_mul_right _ hBig
        exact absurd (Nat.lt_of_le_of_lt g1 (Nat.lt_of_lt_of_le g2 g3)) (Nat.lt_irrefl _))
  rw [hM, Nat.mul_comm]
  exact h3
theorem own_A.div {M U P1 Q1 K1 P2 Q2 K2 P3 Q3 K3 : Nat} (env : own_Env M U) {p1 q1 p2 q2 : Int} {x y v : UInt64} (a : own_A M U P1 Q1 K1 p1 q1 x) (b : own_A M U P2 Q2 K2 p2 q2 y) (hp2 : p2 ≠ 0) (hv : FP.ddiv x y = v) (hP : P1 * Q2 = P3) (hQ : Q1 * P2 = Q3) (hK : K1 + K2 + 2 = K3)
    (c : P1 ≤ 1073741824 ∧ Q1 ≤ 1073741824 ∧ P2 ≤ 1073741824 ∧ Q2 ≤ 1073741824 ∧ K1 ≤ 1024 ∧ K2 ≤ 1024) : own_A M U P3 Q3 K3 (p1 * q2) (q1 * p2) v := by
  subst hP hQ
  obtain ⟨c1, c2, c3, c4, c5, c6⟩ := c
  obtain ⟨a1, a2, a3, z1, a4, a5⟩ := a
  obtain ⟨b1, b2, b3, z2, b4, b5⟩ := b
  obtain ⟨s1, s2, s3⟩ := own_sizes env a1 a2 a3 a5 c5 c1 c2
  obtain ⟨t1, t2, t3⟩ := own_sizes env b1 b2 b3 b5 c6 c3 c4
  have t4 := t3 hp2
  have hz2 : z2 ≠ 0 := own_Rel.nz env.1 b5 c6 env.2.2.1 hp2
  obtain ⟨hM, hU, hU0, hTop, hBig⟩ := env
  have hT : z1.natAbs * U < z2.natAbs * 2 ^ 2000 := by
    refine Nat.lt_of_mul_lt_mul_left (a := 2147483648) ?_
    calc 2147483648 * (z1.natAbs * U) ≤ 2147483648 * (2147483648 * U * U) := Nat.mul_le_mul_left _ (Nat.mul_le_mul_right _ s1)
      _ = 4611686018427387904 * U * U := by
          rw [show (4611686018427387904 : Nat) = 2147483648 * 2147483648 from rfl]; generalize 2147483648 = B; ac_rfl
      _ < 2 ^ 2000 * U := Nat.mul_lt_mul_of_pos_right hTop hU0
      _ ≤ 2 ^ 2000 * (2147483648 * z2.natAbs) := Nat.mul_le_mul_left _ t4
      _ = 2147483648 * (z2.natAbs * 2 ^ 2000) := by generalize 2147483648 = B; generalize 2 ^ 2000 = TT; ac_rfl
  obtain ⟨z, hz, hz3⟩ := own_Zdiv hU a4 b4 hv hz2 hT
  refine ⟨own_abs_mul a1 b2, own_abs_mul a2 b1, Int.mul_ne_zero a3 hp2, z, hz, own_Rel.div hM hU0 a5 b5 ?_ hK c5 c6⟩
  have h3 := hz3 (by
    by_cases e1 : p1 = 0
    · left; exact s2 e1
    · right
      refine Nat.le_of_mul_le_mul_left (c := 2147483648) ?_ (by decide)
      calc 2147483648 * (2 ^ 52 * z2.natAbs) ≤ 2147483648 * (2 ^ 52 * (2147483648 * U)) := Nat.mul_le_mul_left _ (Nat.mul_le_mul_left _ t1)
        _ = 4611686018427387904 * 4503599627370496 * U := by
            rw [show (4611686018427387904 : Nat) = 2147483648 * 2147483648 from rfl, show (4503599627370496 : Nat) = 2 ^ 52 from rfl]; generalize 2147483648 = B; generalize 2 ^ 52 = C; ac_rfl
        _ ≤ U * U := Nat.mul_le_mul_right _ hBig
        _ ≤ 2147483648 * z1.natAbs * U := Nat.mul_le_mul_right _ (s3 e1)
        _ = 2147483648 * (z1.natAbs * U) := Nat.mul_assoc ..)
  rw [hM, Nat.mul_comm]
  exact h3
theorem own_one {M U : Nat} (env : own_Env M U) : own_Z (U : Int) (4607182418800017408 : UInt64) := by
  have := own_D.toZ env.2.1 (own_D.lit (k := 0) (B := 1) (i := 1) (x := (4607182418800017408 : UInt64)) (s := false) (c := 4503599627370496) (q := -52) (by decide +kernel) (by decide +kernel) (by decide))
  rwa [Int.one_mul] at this
theorem own_A.one_sub {M U P Q K P3 K3 : Nat} (env : own_Env M U) {p q : Int} {x v : UInt64} (a : own_A M U P Q K p q x) (hv : FP.dsub (4607182418800017408 : UInt64) x = v) (hne : q - p ≠ 0) (h16 : P ≤ 16) (bQ : Q ≤ 16) (hP : P + Q = P3) (hK : 16 * K + 1 = K3) (k1 : K ≤ 60) : own_A M U P3 Q K3 (q - p) q v := by
  obtain ⟨a1, a2, a3, z1, a4, a5⟩ := a
  obtain ⟨s1, -, -⟩ := own_sizes env a1 a2 a3 a5 (by omega) (by omega) (by omega)
  have h1 := own_one env
  obtain ⟨hM, hU, hU0, hTop, hBig⟩ := env
  have hle : ((U : Int) - z1).natAbs ≤ 4611686018427387904 * U := by omega
  obtain ⟨z, hz, hz2⟩ := own_Zsub h1 a4 hv (Nat.lt_of_le_of_lt hle hTop)
  refine ⟨by omega, a2, a3, z, hz, own_Rel.one_sub hM a5 ?_ (by omega) hK k1⟩
  rw [hM, Nat.mul_comm]; exact hz2
theorem own_A.sub_one {M U P Q K P3 K3 : Nat} (env : own_Env M U) {p q : Int} {x v : UInt64} (a : own_A M U P Q K p q x) (hv : FP.dsub x (4607182418800017408 : UInt64) = v) (hne : p - q ≠ 0) (h16 : P ≤ 16) (bQ : Q ≤ 16) (hP : P + Q = P3) (hK : 16 * K + 1 = K3) (k1 : K ≤ 60) : own_A M U P3 Q K3 (p - q) q v := by
  obtain ⟨a1, a2, a3, z1, a4, a5⟩ := a
  obtain ⟨s1, -, -⟩ := own_sizes env a1 a2 a3 a5 (by omega) (by omega) (by omega)
  have h1 := own_one env
  obtain ⟨hM, hU, hU0, hTop, hBig⟩ := env
  have hle : (z1 - (U : Int)).natAbs ≤ 4611686018427387904 * U := by omega
  obtain ⟨z, hz, hz2⟩ := own_Zsub a4 h1 hv (Nat.lt_of_le_of_lt hle hTop)
  refine ⟨by omega, a2, a3, z, hz, own_Rel.sub_one hM a5 ?_ (by omega) hK k1⟩
  rw [hM, Nat.mul_comm]; exact hz2
theorem own_end1 {M U : Nat} (hM : M = 4503599627370496) {P1 P2 d t1 t2 zr : Int} (r1 : own_Rel M U P1 d 72 t1) (r2 : own_Rel M U P2 d 75 t2) (b1 : P1.natAbs ≤ 1048576) (b2 : P2.natAbs ≤ 1048576) (h : (zr - (t1 + t2)).natAbs * (2 * 2 ^ 52) ≤ (t1 + t2).natAbs) : M * (zr * d - (P1 + P2) * U).natAbs ≤ 268435456 * U := by
  unfold own_Rel at r1 r2
  have id : zr * d - (P1 + P2) * U = d * (zr - (t1 + t2)) + ((t1 * d - P1 * U) + (t2 * d - P2 * U)) := by grind
  have hD : (zr * d - (P1 + P2) * U).natAbs ≤ d.natAbs * (zr - (t1 + t2)).natAbs + ((t1 * d - P1 * U).natAbs + (t2 * d - P2 * U).natAbs) := by
    rw [id]
    exact Nat.le_trans (own_tri _ _) (Nat.add_le_add (Nat.le_of_eq (Int.natAbs_mul ..)) (own_tri _ _))
  have hr : 2 * M * (d.natAbs * (zr - (t1 + t2)).natAbs) ≤ (t1 * d).natAbs + (t2 * d).natAbs := by
    calc 2 * M * (d.natAbs * (zr - (t1 + t2)).natAbs) = d.natAbs * ((zr - (t1 + t2)).natAbs * (2 * M)) := by ac_rfl
      _ ≤ d.natAbs * (t1 + t2).natAbs := Nat.mul_le_mul_left _ (by rw [hM]; exact h)
      _ = (t1 * d + t2 * d).natAbs := by rw [← Int.natAbs_mul]; congr 1; grind
      _ ≤ _ := own_tri _ _
  have g1 := own_tri1 P1 t1 d U
  have g2 := own_tri1 P2 t2 d U
  have u1 : P1.natAbs * U ≤ 1048576 * U := Nat.mul_le_mul_right _ b1
  have u2 : P2.natAbs * U ≤ 1048576 * U := Nat.mul_le_mul_right _ b2
  clear id h
  generalize d.natAbs * (zr - (t1 + t2)).natAbs = r at *
  generalize (zr * d - (P1 + P2) * U).natAbs = D at *
  generalize (t1 * d - P1 * U).natAbs = e1 at *
  generalize (t2 * d - P2 * U).natAbs = e2 at *
  generalize P1.natAbs * U = p1 at *
  generalize P2.natAbs * U = p2 at *
  generalize (t1 * d).natAbs = x1 at *
  generalize (t2 * d).natAbs = x2 at *
  rewrite [hM] at r1 r2 hr ⊢; omega
theorem own_end2 {M U B : Nat} (env : own_Env M U) {d m zr : Int} {x y v : UInt64} (hx : own_Z zr x) (hy : own_D 0 B d y) (hr : M * (zr * d - m * U).natAbs ≤ 268435456 * U) (hm : m.natAbs ≤ 4194304) (hv : FP.dmul x y = v) : ∃ z, own_Z z v ∧ M * (z - m * U).natAbs ≤ 536870912 * U := by
  have hyz := hy.toZ env.2.1
  obtain ⟨hM, hU, hU0, hTop, hBig⟩ := env
  have g1 := own_tri1 m zr d U
  have u1 : m.natAbs * U ≤ 4194304 * U := Nat.mul_le_mul_right _ hm
  have hn : (zr * d).natAbs ≤ 8388608 * U := by
    generalize m.natAbs * U = p1 at *
    generalize (zr * d - m * U).natAbs = e1 at *
    rewrite [hM] at hr; omega
  have e0 : zr * (d * U) = zr * d * U := (Int.mul_assoc ..).symm
  have hT : (zr * (d * U)).natAbs < 2 ^ 2000 * U := by
    rw [e0, Int.natAbs_mul, Int.natAbs_natCast]
    refine Nat.mul_lt_mul_of_pos_right (Nat.lt_of_le_of_lt hn (Nat.lt_of_le_of_lt ?_ hTop)) hU0
    exact Nat.mul_le_mul_right _ (by decide)
  obtain ⟨z, hz, h1, -⟩ := own_Zmul hU hx hyz hv hT
  refine ⟨z, hz, ?_⟩
  rw [e0, show z * (U : Int) - zr * d * U = (z - zr * d) * U by grind, Int.natAbs_mul, Int.natAbs_mul (zr * d), Int.natAbs_natCast] at h1
  have h2 : 2 * M * (z - zr * d).natAbs ≤ (zr * d).natAbs + M := by
    refine Nat.le_of_mul_le_mul_right (c := U) ?_ hU0
    calc 2 * M * (z - zr * d).natAbs * U = (z - zr * d).natAbs * U * (2 * M) := by ac_rfl
      _ ≤ (zr * d).natAbs * U + M * U := by rw [hM]; exact h1
      _ = _ := (Nat.add_mul ..).symm
  have h3 : (z - m * U).natAbs ≤ (z - zr * d).natAbs + (zr * d - m * U).natAbs := by
    have := own_tri (z - zr * d) (zr * d - m * U)
    rwa [show z - zr * d + (zr * d - m * U) = z - m * U by omega] at this
  clear h1 hT e0
  generalize (z - m * U).natAbs = D at *
  generalize (z - zr * d).natAbs = a at *
  generalize (zr * d - m * U).natAbs = b at *
  generalize (zr * d).natAbs = n at *
  rewrite [hM] at hr h2 ⊢; omega
theorem own_end3 {M U B : Nat} (env : own_Env M U) {m zp : Int} {x y v : UInt64} (hx : own_Z zp x) (hy : own_D 0 B m y) (hr : M * (zp - m * U).natAbs ≤ 536870912 * U) (hv : FP.dsub x y = v) : ∃ z, own_Z z v ∧ M * z.natAbs ≤ 1073741824 * U := by
  have hyz := hy.toZ env.2.1
  obtain ⟨hM, hU, hU0, hTop, hBig⟩ := env
  have hn : (zp - m * U).natAbs ≤ 4611686018427387904 * U := by
    generalize (zp - m * U).natAbs = e1 at *
    rewrite [hM] at hr; omega
  obtain ⟨z, hz, h1⟩ := own_Zsub hx hyz hv (Nat.lt_of_le_of_lt hn hTop)
  refine ⟨z, hz, ?_⟩
  have h3 : z.natAbs ≤ (z - (zp - m * U)).natAbs + (zp - m * U).natAbs := by
    have := own_tri (z - (zp - m * U)) (zp - m * U)
    rwa [show z - (zp - m * U) + (zp - m * U) = z by omega] at this
  have h4 : 2 * M * (z - (zp - m * U)).natAbs ≤ (zp - m * U).natAbs := by rw [hM, Nat.mul_comm]; exact h1
  clear h1
  generalize (z - (zp - m * U)).natAbs = a at *
  generalize (zp - m * U).natAbs = b at *
  generalize z.natAbs = n at *
  rewrite [hM] at hr h4 ⊢; omega
theorem own_end4 {M U : Nat} (env : own_Env M U) {zp : Int} {x y v : UInt64} (hx : own_Z zp x) (hy : own_D 0 1024 1024 y) (hr : M * zp.natAbs ≤ 1073741824 * U) (hv : FP.dmul x y = v) : ∃ z, own_Z z v ∧ z.natAbs < U := by
  have hyz := hy.toZ env.2.1
  obtain ⟨hM, hU, hU0, hTop, hBig⟩ := env
  have hn : (zp * 1024).natAbs ≤ 1024 * U := by
    rw [Int.natAbs_mul, Nat.mul_comm]
    show 1024 * zp.natAbs ≤ _
    generalize zp.natAbs = e1 at *
    rewrite [hM] at hr; omega
  have e0 : zp * (1024 * (U : Int)) = zp * 1024 * U := (Int.mul_assoc ..).symm
  have hT : (zp * (1024 * (U : Int))).natAbs < 2 ^ 2000 * U := by
    rw [e0, Int.natAbs_mul, Int.natAbs_natCast]
    refine Nat.mul_lt_mul_of_pos_right (Nat.lt_of_le_of_lt hn (Nat.lt_of_le_of_lt ?_ hTop)) hU0
    exact Nat.mul_le_mul_right _ (by decide)
  obtain ⟨z, hz, h1, -⟩ := own_Zmul hU hx hyz hv hT
  refine ⟨z, hz, ?_⟩
  rw [e0, show z * (U : Int) - zp * 1024 * U = (z - zp * 1024) * U by grind, Int.natAbs_mul, Int.natAbs_mul (zp * 1024), Int.natAbs_natCast] at h1
  have h2 : 2 * M * (z - zp * 1024).natAbs ≤ (zp * 1024).natAbs + M := by
    refine Nat.le_of_mul_le_mul_right (c := U) ?_ hU0
    calc 2 * M * (z - zp * 1024).natAbs * U = (z - zp * 1024).natAbs * U * (2 * M) := by ac_rfl
      _ ≤ (zp * 1024).natAbs * U + M * U := by rw [hM]; exact h1
      _ = _ := (Nat.add_mul ..).symm
  have h3 : z.natAbs ≤ (z - zp * 1024).natAbs + (zp * 1024).natAbs := by
    have := own_tri (z - zp * 1024) (zp * 1024)
    rwa [show z - zp * 1024 + zp * 1024 = z by omega] at this
  have h5 : (zp * 1024).natAbs = 1024 * zp.natAbs := by rw [Int.natAbs_mul, Nat.mul_comm]; rfl
  rw [h5] at h2 h3 hn
  clear h1 hT e0 h5
  generalize (z - zp * 1024).natAbs = a at *
  generalize zp.natAbs = b at *
  generalize z.natAbs = n at *
  rewrite [hM] at hr h2; omega
theorem own_mone {M U : Nat} (env : own_Env M U) : own_Z (-(U : Int)) (13830554455654793216 : UInt64) := by
  have := own_D.toZ env.2.1 (own_D.lit (k := 0) (B := 1) (i := -1) (x := (13830554455654793216 : UInt64)) (s := true) (c := 4503599627370496) (q := -52) (by decide +kernel) (by decide +kernel) (by decide))
  rwa [Int.neg_mul, Int.one_mul] at this
theorem own_I.ne {A B : Nat} {i j : Int} {x y : Int32} (a : own_I A i x) (b : own_I B j y) (h : ¬ x = y) : i ≠ j := fun e => h (Int32.toInt_inj.mp (by rw [a.1, b.1, e]))
end OwnApx
theorem own_sum_small {M U K1 K2 : Nat} (env : own_Env M U) {P1 P2 d t1 t2 : Int} (r1 : own_Rel M U P1 d K1 t1) (r2 : own_Rel M U P2 d K2 t2) (b1 : P1.natAbs ≤ 1048576) (b2 : P2.natAbs ≤ 1048576) (hd : d ≠ 0) (k1 : K1 ≤ 1024 := by decide) (k2 : K2 ≤ 1024 := by decide) : (t1 + t2).natAbs < 2 ^ 2000 := by
  have h1 := own_Rel.up env.1 r1 hd k1
  have h2 := own_Rel.up env.1 r2 hd k2
  have u1 : P1.natAbs * U ≤ 1048576 * U := Nat.mul_le_mul_right _ b1
  have u2 : P2.natAbs * U ≤ 1048576 * U := Nat.mul_le_mul_right _ b2
  have h3 := own_tri t1 t2
  refine Nat.lt_of_le_of_lt ?_ env.2.2.2.1
  generalize P1.natAbs * U = p1 at *
  generalize P2.natAbs * U = p2 at *
  omega
theorem own_d_prog_18_method_3_code_0 : decode prog_18_method_3_code 0 = .ok (.dload 6, 2) := by decide +kernel
theorem own_d_prog_18_method_3_code_2 : decode prog_18_method_3_code 2 = .ok (.dload_n 2, 1) := by decide +kernel
theorem own_d_prog_18_method_3_code_3 : decode prog_18_method_3_code 3 = .ok (.ddiv, 1) := by decide +kernel
theorem own_d_prog_18_method_3_code_4 : decode prog_18_method_3_code 4 = .ok (.dstore 12, 2) := by decide +kernel
theorem own_d_prog_18_method_3_code_6 : decode prog_18_method_3_code 6 = .ok (.dload_n 2, 1) := by decide +kernel
theorem own_d_prog_18_method_3_code_7 : decode prog_18_method_3_code 7 = .ok (.dload 10, 2) := by decide +kernel
theorem own_d_prog_18_method_3_code_9 : decode prog_18_method_3_code 9 = .ok (.ddiv, 1) := by decide +kernel
theorem own_d_prog_18_method_3_code_10 : decode prog_18_method_3_code 10 = .ok (.dstore 14, 2) := by decide +kernel
theorem own_d_prog_18_method_3_code_12 : decode prog_18_method_3_code 12 = .ok (.dload 6, 2) := by decide +kernel
theorem own_d_prog_18_method_3_code_14 : decode prog_18_method_3_code 14 = .ok (.dload 10, 2) := by decide +kernel
theorem own_d_prog_18_method_3_code_16 : decode prog_18_method_3_code 16 = .ok (.ddiv, 1) := by decide +kernel
theorem own_d_prog_18_method_3_code_17 : decode prog_18_method_3_code 17 = .ok (.dstore 16, 2) := by decide +kernel
theorem own_d_prog_18_method_3_code_19 : decode prog_18_method_3_code 19 = .ok (.dload_n 0, 1) := by decide +kernel
theorem own_d_prog_18_method_3_code_20 : decode prog_18_method_3_code 20 = .ok (.dload 4, 2) := by decide +kernel
theorem own_d_prog_18_method_3_code_22 : decode prog_18_method_3_code 22 = .ok (.dsub, 1) := by decide +kernel
theorem own_d_prog_18_method_3_code_23 : decode prog_18_method_3_code 23 = .ok (.dload 12, 2) := by decide +kernel
theorem own_d_prog_18_method_3_code_25 : decode prog_18_method_3_code 25 = .ok (.dmul, 1) := by decide +kernel
theorem own_d_prog_18_method_3_code_26 : decode prog_18_method_3_code 26 = .ok (.dconst 1, 1) := by decide +kernel
theorem own_d_prog_18_method_3_code_27 : decode prog_18_method_3_code 27 = .ok (.dload 12, 2) := by decide +kernel
theorem own_d_prog_18_method_3_code_29 : decode prog_18_method_3_code 29 = .ok (.dsub, 1) := by decide +kernel
theorem own_d_prog_18_method_3_code_30 : decode prog_18_method_3_code 30 = .ok (.dload 14, 2) := by decide +kernel
theorem own_d_prog_18_method_3_code_32 : decode prog_18_method_3_code 32 = .ok (.dconst 1, 1) := by decide +kernel
theorem own_d_prog_18_method_3_code_33 : decode prog_18_method_3_code 33 = .ok (.dsub, 1) := by decide +kernel
theorem own_d_prog_18_method_3_code_34 : decode prog_18_method_3_code 34 = .ok (.dmul, 1) := by decide +kernel
theorem own_d_prog_18_method_3_code_35 : decode prog_18_method_3_code 35 = .ok (.ddiv, 1) := by decide +kernel
theorem own_d_prog_18_method_3_code_36 : decode prog_18_method_3_code 36 = .ok (.dload 8, 2) := by decide +kernel
theorem own_d_prog_18_method_3_code_38 : decode prog_18_method_3_code 38 = .ok (.dload 4, 2) := by decide +kernel
theorem own_d_prog_18_method_3_code_40 : decode prog_18_method_3_code 40 = .ok (.dsub, 1) := by decide +kernel
theorem own_d_prog_18_method_3_code_41 : decode prog_18_method_3_code 41 = .ok (.dload 14, 2) := by decide +kernel
theorem own_d_prog_18_method_3_code_43 : decode prog_18_method_3_code 43 = .ok (.dmul, 1) := by decide +kernel
theorem own_d_prog_18_method_3_code_44 : decode prog_18_method_3_code 44 = .ok (.dload 16, 2) := by decide +kernel
theorem own_d_prog_18_method_3_code_46 : decode prog_18_method_3_code 46 = .ok (.dmul, 1) := by decide +kernel
theorem own_d_prog_18_method_3_code_47 : decode prog_18_method_3_code 47 = .ok (.dconst 1, 1) := by decide +kernel
theorem own_d_prog_18_method_3_code_48 : decode prog_18_method_3_code 48 = .ok (.dload 14, 2) := by decide +kernel
theorem own_d_prog_18_method_3_code_50 : decode prog_18_method_3_code 50 = .ok (.dsub, 1) := by decide +kernel
theorem own_d_prog_18_method_3_code_51 : decode prog_18_method_3_code 51 = .ok (.dconst 1, 1) := by decide +kernel
theorem own_d_prog_18_method_3_code_52 : decode prog_18_method_3_code 52 = .ok (.dload 16, 2) := by decide +kernel
theorem own_d_prog_18_method_3_code_54 : decode prog_18_method_3_code 54 = .ok (.dsub, 1) := by decide +kernel
theorem own_d_prog_18_method_3_code_55 : decode prog_18_method_3_code 55 = .ok (.dmul, 1) := by decide +kernel
theorem own_d_prog_18_method_3_code_56 : decode prog_18_method_3_code 56 = .ok (.ddiv, 1) := by decide +kernel
theorem own_d_prog_18_method_3_code_57 : decode prog_18_method_3_code 57 = .ok (.dadd, 1) := by decide +kernel
theorem own_d_prog_18_method_3_code_58 : decode prog_18_method_3_code 58 = .ok (.dreturn, 1) := by decide +kernel
theorem own_pd0 : parseMethodDescriptor "(DDDDDD)D" = some ⟨[.double, .double, .double, .double, .double, .double], some .double⟩ := by decide +kernel
theorem own_pn0 : plainName "com/example/nullstelle/nullstelle/Interpolation" = true := by first | (simp [plainName, overriddenIn]; done) | decide +kernel
abbrev own_rm_own_iq : Room := ({ frames := 0, cells := 0, slots := 0, locals := 0 } : Room)
set_option maxRecDepth 65536 in
set_option maxHeartbeats 40000000 in
theorem own_iq (l : Launch) (Z : State) (a0 : Array Value) (hw : ∀ d ∈ tables_1, d.before a0 Z = true) (M U : Nat) (x_a : UInt64) (i_a : Int) (x_fa : UInt64) (i_fa : Int) (x_b : UInt64) (i_b : Int) (x_fb : UInt64) (i_fb : Int) (x_c : UInt64) (i_c : Int) (x_fc : UInt64) (i_fc : Int) (h0 : Heap) (n0 : Nat) (Z0 : n0 ≤ h0.size) (env : own_Env M U) (D_a : own_D 0 64 i_a x_a) (D_fa : own_D 0 16 i_fa x_fa) (D_b : own_D 0 64 i_b x_b) (D_fb : own_D 0 16 i_fb x_fb) (D_c : own_D 0 64 i_c x_c) (D_fc : own_D 0 16 i_fc x_fc) (nfa : i_fa ≠ 0) (nfc : i_fc ≠ 0) (nab : i_fa - i_fb ≠ 0) (nac : i_fa - i_fc ≠ 0) (nbc : i_fb - i_fc ≠ 0) :
    own_Met l Z ({ cls := "com/example/nullstelle/nullstelle/Interpolation", name := "inverseQuadratic", desc := "(DDDDDD)D" } : Jvm.MethodName) prog_18_method_3_code 18 (some .double) [] own_rm_own_iq #[(.double x_a), (.double x_fa), (.double x_b), (.double x_fb), (.double x_c), (.double x_fc)] h0 n0 (fun v h => (∃ r z, v = some (.double r) ∧ own_Z z r ∧ M * (z * ((i_fa - i_fb) * (i_fa - i_fc) * (i_fb - i_fc)) - ((i_a - i_b) * i_fb * i_fc * (i_fb - i_fc) + (i_c - i_b) * i_fa * i_fb * (i_fa - i_fb)) * U).natAbs ≤ 268435456 * U) ∧ h = h0) := by
  refine own_meet (plainFor_of_name own_pn0) Z0 (Ls0 := #[.val (.double x_a), .second, .val (.double x_fa), .second, .val (.double x_b), .second, .val (.double x_fb), .second, .val (.double x_c), .second, .val (.double x_fc), .second, .unset, .unset, .unset, .unset, .unset, .unset]) (by intro m; first | (simp [entryFrame, mkF, argsToLocals, Value.category]; done) | rfl) ?_
  intro p e s m below meth c T0 X0
  have nca : i_fc - i_fa ≠ 0 := by omega
  have ncb : i_fc - i_fb ≠ 0 := by omega
  have nab' := nab
  refine own_dload X0 rfl own_d_prog_18_method_3_code_0 (pc' := 2) rfl ?_
  refine own_dloadN X0 rfl own_d_prog_18_method_3_code_2 (pc' := 3) rfl ?_
  obtain ⟨d2, e2⟩ : ∃ v, FP.ddiv x_fb x_fa = v := ⟨_, rfl⟩
  have A3 := own_D.toA env D_fb
  have A4 := own_D.toA env D_fa
  have A2 := own_A.div env A3 A4 nfa e2 (P3 := 16) (Q3 := 16) (K3 := 2) (by decide) (by decide) (by decide) (by decide)
  replace A2 := A2.of_eq (p' := i_fb) (q' := i_fa) (by omega) (by omega)
  refine own_ddiv X0 e2 A2.nn own_d_prog_18_method_3_code_3 (pc' := 4) rfl ?_
  refine own_dstore X0 (Ls' := #[.val (.double x_a), .second, .val (.double x_fa), .second, .val (.double x_b), .second, .val (.double x_fb), .second, .val (.double x_c), .second, .val (.double x_fc), .second, .val (.double d2), .second, .unset, .unset, .unset, .unset]) rfl own_d_prog_18_method_3_code_4 (pc' := 6) rfl ?_
  refine own_dloadN X0 rfl own_d_prog_18_method_3_code_6 (pc' := 7) rfl ?_
  refine own_dload X0 rfl own_d_prog_18_method_3_code_7 (pc' := 9) rfl ?_
  obtain ⟨d6, e6⟩ : ∃ v, FP.ddiv x_fa x_fc = v := ⟨_, rfl⟩
  have A7 := own_D.toA env D_fc
  have A6 := own_A.div env A4 A7 nfc e6 (P3 := 16) (Q3 := 16) (K3 := 2) (by decide) (by decide) (by decide) (by decide)
  replace A6 := A6.of_eq (p' := i_fa) (q' := i_fc) (by omega) (by omega)
  refine own_ddiv X0 e6 A6.nn own_d_prog_18_method_3_code_9 (pc' := 10) rfl ?_
  refine own_dstore X0 (Ls' := #[.val (.double x_a), .second, .val (.double x_fa), .second, .val (.double x_b), .second, .val (.double x_fb), .second, .val (.double x_c), .second, .val (.double x_fc), .second, .val (.double d2), .second, .val (.double d6), .second, .unset, .unset]) rfl own_d_prog_18_method_3_code_10 (pc' := 12) rfl ?_
  refine own_dload X0 rfl own_d_prog_18_method_3_code_12 (pc' := 14) rfl ?_
  refine own_dload X0 rfl own_d_prog_18_method_3_code_14 (pc' := 16) rfl ?_
  obtain ⟨d9, e9⟩ : ∃ v, FP.ddiv x_fb x_fc = v := ⟨_, rfl⟩
  have A9 := own_A.div env A3 A7 nfc e9 (P3 := 16) (Q3 := 16) (K3 := 2) (by decide) (by decide) (by decide) (by decide)
  replace A9 := A9.of_eq (p' := i_fb) (q' := i_fc) (by omega) (by omega)
  refine own_ddiv X0 e9 A9.nn own_d_prog_18_method_3_code_16 (pc' := 17) rfl ?_
  refine own_dstore X0 (Ls' := #[.val (.double x_a), .second, .val (.double x_fa), .second, .val (.double x_b), .second, .val (.double x_fb), .second, .val (.double x_c), .second, .val (.double x_fc), .second, .val (.double d2), .second, .val (.double d6), .second, .val (.double d9), .second]) rfl own_d_prog_18_method_3_code_17 (pc' := 19) rfl ?_
  refine own_dloadN X0 rfl own_d_prog_18_method_3_code_19 (pc' := 20) rfl ?_
  refine own_dload X0 rfl own_d_prog_18_method_3_code_20 (pc' := 22) rfl ?_
  obtain ⟨d10, e10⟩ : ∃ v, FP.dsub x_a x_b = v := ⟨_, rfl⟩
  have f10 : own_D 0 128 (i_a - i_b) d10 := own_D.sub D_a D_b e10 (by decide) (by decide) (by decide)
  refine own_dsub X0 e10 f10.nn own_d_prog_18_method_3_code_22 (pc' := 23) rfl ?_
  refine own_dload X0 rfl own_d_prog_18_method_3_code_23 (pc' := 25) rfl ?_
  obtain ⟨d13, e13⟩ : ∃ v, FP.dmul d10 d2 = v := ⟨_, rfl⟩
  have A14 := own_D.toA env f10
  have A13 := own_A.mul env A14 A2 e13 (P3 := 2048) (Q3 := 16) (K3 := 3) (by decide) (by decide) (by decide) (by decide)
  refine own_dmul X0 e13 A13.nn own_d_prog_18_method_3_code_25 (pc' := 26) rfl ?_
  refine own_dconst1 X0 (v := (4607182418800017408 : UInt64)) rfl own_d_prog_18_method_3_code_26 (pc' := 27) rfl ?_
  refine own_dload X0 rfl own_d_prog_18_method_3_code_27 (pc' := 29) rfl ?_
  obtain ⟨d16, e16⟩ : ∃ v, FP.dsub (4607182418800017408 : UInt64) d2 = v := ⟨_, rfl⟩
  have A16 := own_A.one_sub env A2 e16 nab (by decide) (by decide) (P3 := 32) (K3 := 33) (by decide) (by decide) (by decide)
  refine own_dsub X0 e16 A16.nn own_d_prog_18_method_3_code_29 (pc' := 30) rfl ?_
  refine own_dload X0 rfl own_d_prog_18_method_3_code_30 (pc' := 32) rfl ?_
  refine own_dconst1 X0 (v := (4607182418800017408 : UInt64)) rfl own_d_prog_18_method_3_code_32 (pc' := 33) rfl ?_
  obtain ⟨d18, e18⟩ : ∃ v, FP.dsub d6 (4607182418800017408 : UInt64) = v := ⟨_, rfl⟩
  have A18 := own_A.sub_one env A6 e18 nac (by decide) (by decide) (P3 := 32) (K3 := 33) (by decide) (by decide) (by decide)
  refine own_dsub X0 e18 A18.nn own_d_prog_18_method_3_code_33 (pc' := 34) rfl ?_
  obtain ⟨d20, e20⟩ : ∃ v, FP.dmul d16 d18 = v := ⟨_, rfl⟩
  have A20 := own_A.mul env A16 A18 e20 (P3 := 1024) (Q3 := 256) (K3 := 67) (by decide) (by decide) (by decide) (by decide)
  refine own_dmul X0 e20 A20.nn own_d_prog_18_method_3_code_34 (pc' := 35) rfl ?_
  obtain ⟨d22, e22⟩ : ∃ v, FP.ddiv d13 d20 = v := ⟨_, rfl⟩
  have A22 := own_A.div env A13 A20 (Int.mul_ne_zero nab nac) e22 (P3 := 524288) (Q3 := 16384) (K3 := 72) (by decide) (by decide) (by decide) (by decide)
  refine own_ddiv X0 e22 A22.nn own_d_prog_18_method_3_code_35 (pc' := 36) rfl ?_
  refine own_dload X0 rfl own_d_prog_18_method_3_code_36 (pc' := 38) rfl ?_
  refine own_dload X0 rfl own_d_prog_18_method_3_code_38 (pc' := 40) rfl ?_
  obtain ⟨d23, e23⟩ : ∃ v, FP.dsub x_c x_b = v := ⟨_, rfl⟩
  have f23 : own_D 0 128 (i_c - i_b) d23 := own_D.sub D_c D_b e23 (by decide) (by decide) (by decide)
  refine own_dsub X0 e23 f23.nn own_d_prog_18_method_3_code_40 (pc' := 41) rfl ?_
  refine own_dload X0 rfl own_d_prog_18_method_3_code_41 (pc' := 43) rfl ?_
  obtain ⟨d26, e26⟩ : ∃ v, FP.dmul d23 d6 = v := ⟨_, rfl⟩
  have A27 := own_D.toA env f23
  have A26 := own_A.mul env A27 A6 e26 (P3 := 2048) (Q3 := 16) (K3 := 3) (by decide) (by decide) (by decide) (by decide)
  refine own_dmul X0 e26 A26.nn own_d_prog_18_method_3_code_43 (pc' := 44) rfl ?_
  refine own_dload X0 rfl own_d_prog_18_method_3_code_44 (pc' := 46) rfl ?_
  obtain ⟨d29, e29⟩ : ∃ v, FP.dmul d26 d9 = v := ⟨_, rfl⟩
  have A29 := own_A.mul env A26 A9 e29 (P3 := 32768) (Q3 := 256) (K3 := 6) (by decide) (by decide) (by decide) (by decide)
  refine own_dmul X0 e29 A29.nn own_d_prog_18_method_3_code_46 (pc' := 47) rfl ?_
  refine own_dconst1 X0 (v := (4607182418800017408 : UInt64)) rfl own_d_prog_18_method_3_code_47 (pc' := 48) rfl ?_
  refine own_dload X0 rfl own_d_prog_18_method_3_code_48 (pc' := 50) rfl ?_
  obtain ⟨d31, e31⟩ : ∃ v, FP.dsub (4607182418800017408 : UInt64) d6 = v := ⟨_, rfl⟩
  have A31 := own_A.one_sub env A6 e31 nca (by decide) (by decide) (P3 := 32) (K3 := 33) (by decide) (by decide) (by decide)
  refine own_dsub X0 e31 A31.nn own_d_prog_18_method_3_code_50 (pc' := 51) rfl ?_
  refine own_dconst1 X0 (v := (4607182418800017408 : UInt64)) rfl own_d_prog_18_method_3_code_51 (pc' := 52) rfl ?_
  refine own_dload X0 rfl own_d_prog_18_method_3_code_52 (pc' := 54) rfl ?_
  obtain ⟨d33, e33⟩ : ∃ v, FP.dsub (4607182418800017408 : UInt64) d9 = v := ⟨_, rfl⟩
  have A33 := own_A.one_sub env A9 e33 ncb (by decide) (by decide) (P3 := 32) (K3 := 33) (by decide) (by decide) (by decide)
  refine own_dsub X0 e33 A33.nn own_d_prog_18_method_3_code_54 (pc' := 55) rfl ?_
  obtain ⟨d35, e35⟩ : ∃ v, FP.dmul d31 d33 = v := ⟨_, rfl⟩
  have A35 := own_A.mul env A31 A33 e35 (P3 := 1024) (Q3 := 256) (K3 := 67) (by decide) (by decide) (by decide) (by decide)
  refine own_dmul X0 e35 A35.nn own_d_prog_18_method_3_code_55 (pc' := 56) rfl ?_
  obtain ⟨d37, e37⟩ : ∃ v, FP.ddiv d29 d35 = v := ⟨_, rfl⟩
  have A37 := own_A.div env A29 A35 (Int.mul_ne_zero nca ncb) e37 (P3 := 8388608) (Q3 := 262144) (K3 := 75) (by decide) (by decide) (by decide) (by decide)
  refine own_ddiv X0 e37 A37.nn own_d_prog_18_method_3_code_56 (pc' := 57) rfl ?_
  obtain ⟨d39, e39⟩ : ∃ v, FP.dadd d22 d37 = v := ⟨_, rfl⟩
  obtain ⟨-, -, -, z39a, Z39a, R39a⟩ := A22
  obtain ⟨-, -, -, z39b, Z39b, R39b⟩ := A37
  have S39a : own_Rel M U ((i_a - i_b) * i_fb * i_fc * (i_fb - i_fc)) ((i_fa - i_fb) * (i_fa - i_fc) * (i_fb - i_fc)) 72 z39a := (own_Rel.cancel (k := i_fa) nfa (R39a.of_eq (p' := (i_a - i_b) * i_fb * i_fc * i_fa) (q' := (i_fa - i_fb) * (i_fa - i_fc) * i_fa) (by grind) (by grind))).scale (i_fb - i_fc)
  have S39b : own_Rel M U ((i_c - i_b) * i_fa * i_fb * (i_fa - i_fb)) ((i_fa - i_fb) * (i_fa - i_fc) * (i_fb - i_fc)) 75 z39b := ((own_Rel.cancel (k := i_fc * i_fc) (Int.mul_ne_zero nfc nfc) (R39b.of_eq (p' := (i_c - i_b) * i_fa * i_fb * (i_fc * i_fc)) (q' := (i_fc - i_fa) * (i_fc - i_fb) * (i_fc * i_fc)) (by grind) (by grind))).scale (i_fa - i_fb)).of_eq rfl (by grind)
  have u39a : ((i_a - i_b) * i_fb * i_fc * (i_fb - i_fc)).natAbs ≤ 128 * 16 * 16 * 32 := own_abs_mul (own_abs_mul (own_abs_mul (A := 128) (B := 16) (by have := D_a.2; have := D_b.2; omega) D_fb.2) D_fc.2) (by have := D_fb.2; have := D_fc.2; omega)
  have u39b : ((i_c - i_b) * i_fa * i_fb * (i_fa - i_fb)).natAbs ≤ 128 * 16 * 16 * 32 := own_abs_mul (own_abs_mul (own_abs_mul (A := 128) (B := 16) (by have := D_c.2; have := D_b.2; omega) D_fa.2) D_fb.2) (by have := D_fa.2; have := D_fb.2; omega)
  obtain ⟨z39, Z39, h39r⟩ := own_Zadd Z39a Z39b e39 (own_sum_small env S39a S39b u39a u39b (Int.mul_ne_zero (Int.mul_ne_zero nab' nac) nbc))
  have W39 := own_end1 env.1 S39a S39b u39a u39b h39r
  refine own_dadd X0 e39 Z39.nn own_d_prog_18_method_3_code_57 (pc' := 58) rfl ?_
  exact own_retD X0  own_d_prog_18_method_3_code_58 rfl (by decide) (by decide) ⟨⟨_, _, rfl, Z39, W39⟩, rfl⟩
theorem own_pn1 : plainName "com/example/nullstelle/nullstelle/InterpolationInverseQuadraticPinLaw" = true := by first | (simp [plainName, overriddenIn]; done) | decide +kernel
set_option maxRecDepth 65536 in
set_option maxHeartbeats 40000000 in
theorem own_law (l : Launch) (Z : State) (a0 : Array Value) (hw : ∀ d ∈ tables_1, d.before a0 Z = true) (ws : List Jvm.Cond) (p0 : Int32) (p1 : Int32) (p2 : Int32) (p3 : Int32) (p4 : Int32) (p5 : Int32) (h0 : Heap) (n0 : Nat) (Z0 : n0 ≤ h0.size)  :
    own_Met l Z x code maxLocals ret ws room_1 #[(.int p0), (.int p1), (.int p2), (.int p3), (.int p4), (.int p5)] h0 n0 (fun v _ => v = some (.int 1)) := by
  refine own_meet (plainFor_of_name own_pn1) Z0 (Ls0 := #[.val (.int p0), .val (.int p1), .val (.int p2), .val (.int p3), .val (.int p4), .val (.int p5), .unset, .unset, .unset, .unset, .unset, .unset, .unset, .unset, .unset, .unset, .unset, .unset, .unset, .unset, .unset, .unset, .unset, .unset, .unset, .unset, .unset, .unset, .unset, .unset, .unset, .unset, .unset, .unset]) (by intro m; first | (simp [entryFrame, mkF, argsToLocals, Value.category, maxLocals]; done) | rfl) ?_
  intro p e s m below meth c T0 X0
  obtain ⟨M, U, env⟩ := own_env
  refine own_iloadN X0 rfl at_0 (pc' := 1) rfl ?_
  refine own_bipush X0 (v := (127 : Int32)) (by decide) at_1 (pc' := 3) rfl ?_
  obtain ⟨i40, e40⟩ : ∃ v, p0 &&& (127 : Int32) = v := ⟨_, rfl⟩
  have f40 : own_I 127 i40.toInt i40 := own_I.and e40 (by decide)
  have nn40 := own_and_nn (M := 127) e40 (by decide)
  refine own_iand X0 e40 at_3 (pc' := 4) rfl ?_
  refine own_bipush X0 (v := (64 : Int32)) (by decide) at_4 (pc' := 6) rfl ?_
  obtain ⟨i41, e41⟩ : ∃ v, i40 - (64 : Int32) = v := ⟨_, rfl⟩
  have f42 : own_I 64 (64 : Int) (64 : Int32) := own_I.lit (by decide) (by decide)
  have f41 : own_I 191 (i40.toInt - (64 : Int)) i41 := f40.sub f42 e41 (by decide) (by decide)
  refine own_isub X0 e41 at_6 (pc' := 7) rfl ?_
  refine own_istore X0 (Ls' := #[.val (.int p0), .val (.int p1), .val (.int p2), .val (.int p3), .val (.int p4), .val (.int p5), .val (.int i41), .unset, .unset, .unset, .unset, .unset, .unset, .unset, .unset, .unset, .unset, .unset, .unset, .unset, .unset, .unset, .unset, .unset, .unset, .unset, .unset, .unset, .unset, .unset, .unset, .unset, .unset, .unset]) rfl at_7 (pc' := 9) rfl ?_
  refine own_iloadN X0 rfl at_9 (pc' := 10) rfl ?_
  refine own_bipush X0 (v := (127 : Int32)) (by decide) at_10 (pc' := 12) rfl ?_
  obtain ⟨i43, e43⟩ : ∃ v, p1 &&& (127 : Int32) = v := ⟨_, rfl⟩
  have f43 : own_I 127 i43.toInt i43 := own_I.and e43 (by decide)
  have nn43 := own_and_nn (M := 127) e43 (by decide)
  refine own_iand X0 e43 at_12 (pc' := 13) rfl ?_
  refine own_bipush X0 (v := (64 : Int32)) (by decide) at_13 (pc' := 15) rfl ?_
  obtain ⟨i44, e44⟩ : ∃ v, i43 - (64 : Int32) = v := ⟨_, rfl⟩
  have f45 : own_I 64 (64 : Int) (64 : Int32) := own_I.lit (by decide) (by decide)
  have f44 : own_I 191 (i43.toInt - (64 : Int)) i44 := f43.sub f45 e44 (by decide) (by decide)
  refine own_isub X0 e44 at_15 (pc' := 16) rfl ?_
  refine own_istore X0 (Ls' := #[.val (.int p0), .val (.int p1), .val (.int p2), .val (.int p3), .val (.int p4), .val (.int p5), .val (.int i41), .val (.int i44), .unset, .unset, .unset, .unset, .unset, .unset, .unset, .unset, .unset, .unset, .unset, .unset, .unset, .unset, .unset, .unset, .unset, .unset, .unset, .unset, .unset, .unset, .unset, .unset, .unset, .unset]) rfl at_16 (pc' := 18) rfl ?_
  refine own_iloadN X0 rfl at_18 (pc' := 19) rfl ?_
  refine own_bipush X0 (v := (127 : Int32)) (by decide) at_19 (pc' := 21) rfl ?_
  obtain ⟨i46, e46⟩ : ∃ v, p2 &&& (127 : Int32) = v := ⟨_, rfl⟩
  have f46 : own_I 127 i46.toInt i46 := own_I.and e46 (by decide)
  have nn46 := own_and_nn (M := 127) e46 (by decide)
  refine own_iand X0 e46 at_21 (pc' := 22) rfl ?_
  refine own_bipush X0 (v := (64 : Int32)) (by decide) at_22 (pc' := 24) rfl ?_
  obtain ⟨i47, e47⟩ : ∃ v, i46 - (64 : Int32) = v := ⟨_, rfl⟩
  have f48 : own_I 64 (64 : Int) (64 : Int32) := own_I.lit (by decide) (by decide)
  have f47 : own_I 191 (i46.toInt - (64 : Int)) i47 := f46.sub f48 e47 (by decide) (by decide)
  refine own_isub X0 e47 at_24 (pc' := 25) rfl ?_
  refine own_istore X0 (Ls' := #[.val (.int p0), .val (.int p1), .val (.int p2), .val (.int p3), .val (.int p4), .val (.int p5), .val (.int i41), .val (.int i44), .val (.int i47), .unset, .unset, .unset, .unset, .unset, .unset, .unset, .unset, .unset, .unset, .unset, .unset, .unset, .unset, .unset, .unset, .unset, .unset, .unset, .unset, .unset, .unset, .unset, .unset, .unset]) rfl at_25 (pc' := 27) rfl ?_
  refine own_iloadN X0 rfl at_27 (pc' := 28) rfl ?_
  refine own_bipush X0 (v := (31 : Int32)) (by decide) at_28 (pc' := 30) rfl ?_
  obtain ⟨i49, e49⟩ : ∃ v, p3 &&& (31 : Int32) = v := ⟨_, rfl⟩
  have f49 : own_I 31 i49.toInt i49 := own_I.and e49 (by decide)
  have nn49 := own_and_nn (M := 31) e49 (by decide)
  refine own_iand X0 e49 at_30 (pc' := 31) rfl ?_
  refine own_bipush X0 (v := (16 : Int32)) (by decide) at_31 (pc' := 33) rfl ?_
  obtain ⟨i50, e50⟩ : ∃ v, i49 - (16 : Int32) = v := ⟨_, rfl⟩
  have f51 : own_I 16 (16 : Int) (16 : Int32) := own_I.lit (by decide) (by decide)
  have f50 : own_I 47 (i49.toInt - (16 : Int)) i50 := f49.sub f51 e50 (by decide) (by decide)
  refine own_isub X0 e50 at_33 (pc' := 34) rfl ?_
  refine own_istore X0 (Ls' := #[.val (.int p0), .val (.int p1), .val (.int p2), .val (.int p3), .val (.int p4), .val (.int p5), .val (.int i41), .val (.int i44), .val (.int i47), .val (.int i50), .unset, .unset, .unset, .unset, .unset, .unset, .unset, .unset, .unset, .unset, .unset, .unset, .unset, .unset, .unset, .unset, .unset, .unset, .unset, .unset, .unset, .unset, .unset, .unset]) rfl at_34 (pc' := 36) rfl ?_
  refine own_iload X0 rfl at_36 (pc' := 38) rfl ?_
  refine own_bipush X0 (v := (31 : Int32)) (by decide) at_38 (pc' := 40) rfl ?_
  obtain ⟨i52, e52⟩ : ∃ v, p4 &&& (31 : Int32) = v := ⟨_, rfl⟩
  have f52 : own_I 31 i52.toInt i52 := own_I.and e52 (by decide)
  have nn52 := own_and_nn (M := 31) e52 (by decide)
  refine own_iand X0 e52 at_40 (pc' := 41) rfl ?_
  refine own_bipush X0 (v := (16 : Int32)) (by decide) at_41 (pc' := 43) rfl ?_
  obtain ⟨i53, e53⟩ : ∃ v, i52 - (16 : Int32) = v := ⟨_, rfl⟩
  have f54 : own_I 16 (16 : Int) (16 : Int32) := own_I.lit (by decide) (by decide)
  have f53 : own_I 47 (i52.toInt - (16 : Int)) i53 := f52.sub f54 e53 (by decide) (by decide)
  refine own_isub X0 e53 at_43 (pc' := 44) rfl ?_
  refine own_istore X0 (Ls' := #[.val (.int p0), .val (.int p1), .val (.int p2), .val (.int p3), .val (.int p4), .val (.int p5), .val (.int i41), .val (.int i44), .val (.int i47), .val (.int i50), .val (.int i53), .unset, .unset, .unset, .unset, .unset, .unset, .unset, .unset, .unset, .unset, .unset, .unset, .unset, .unset, .unset, .unset, .unset, .unset, .unset, .unset, .unset, .unset, .unset]) rfl at_44 (pc' := 46) rfl ?_
  refine own_iload X0 rfl at_46 (pc' := 48) rfl ?_
  refine own_bipush X0 (v := (31 : Int32)) (by decide) at_48 (pc' := 50) rfl ?_
  obtain ⟨i55, e55⟩ : ∃ v, p5 &&& (31 : Int32) = v := ⟨_, rfl⟩
  have f55 : own_I 31 i55.toInt i55 := own_I.and e55 (by decide)
  have nn55 := own_and_nn (M := 31) e55 (by decide)
  refine own_iand X0 e55 at_50 (pc' := 51) rfl ?_
  refine own_bipush X0 (v := (16 : Int32)) (by decide) at_51 (pc' := 53) rfl ?_
  obtain ⟨i56, e56⟩ : ∃ v, i55 - (16 : Int32) = v := ⟨_, rfl⟩
  have f57 : own_I 16 (16 : Int) (16 : Int32) := own_I.lit (by decide) (by decide)
  have f56 : own_I 47 (i55.toInt - (16 : Int)) i56 := f55.sub f57 e56 (by decide) (by decide)
  refine own_isub X0 e56 at_53 (pc' := 54) rfl ?_
  refine own_istore X0 (Ls' := #[.val (.int p0), .val (.int p1), .val (.int p2), .val (.int p3), .val (.int p4), .val (.int p5), .val (.int i41), .val (.int i44), .val (.int i47), .val (.int i50), .val (.int i53), .val (.int i56), .unset, .unset, .unset, .unset, .unset, .unset, .unset, .unset, .unset, .unset, .unset, .unset, .unset, .unset, .unset, .unset, .unset, .unset, .unset, .unset, .unset, .unset]) rfl at_54 (pc' := 56) rfl ?_
  refine own_iload X0 rfl at_56 (pc' := 58) rfl ?_
  by_cases c58 : i50 = 0
  · -- yes c58
    refine own_ifT X0 (own_z_eq c58).1 at_58 (pc' := 87) (by decide) (by decide) ?_
    refine own_iconst X0 (v := (1 : Int32)) (by decide) at_87 (pc' := 88) rfl ?_
    exact own_retZ X0 (by decide) at_88 rfl (by decide) (by decide) rfl
  · -- no c58
    refine own_ifF X0 (own_z_ne c58).1 at_58 (pc' := 61) rfl ?_
    refine own_iload X0 rfl at_61 (pc' := 63) rfl ?_
    by_cases c59 : i56 = 0
    · -- yes c59
      refine own_ifT X0 (own_z_eq c59).1 at_63 (pc' := 87) (by decide) (by decide) ?_
      refine own_iconst X0 (v := (1 : Int32)) (by decide) at_87 (pc' := 88) rfl ?_
      exact own_retZ X0 (by decide) at_88 rfl (by decide) (by decide) rfl
    · -- no c59
      refine own_ifF X0 (own_z_ne c59).1 at_63 (pc' := 66) rfl ?_
      refine own_iload X0 rfl at_66 (pc' := 68) rfl ?_
      refine own_iload X0 rfl at_68 (pc' := 70) rfl ?_
      by_cases c60 : i50 = i53
      · -- yes c60
        refine own_icmpT X0 (own_i_eq c60).1 at_70 (pc' := 87) (by decide) (by decide) ?_
        refine own_iconst X0 (v := (1 : Int32)) (by decide) at_87 (pc' := 88) rfl ?_
        exact own_retZ X0 (by decide) at_88 rfl (by decide) (by decide) rfl
      · -- no c60
        refine own_icmpF X0 (own_i_ne c60).1 at_70 (pc' := 73) rfl ?_
        refine own_iload X0 rfl at_73 (pc' := 75) rfl ?_
        refine own_iload X0 rfl at_75 (pc' := 77) rfl ?_
        by_cases c61 : i50 = i56
        · -- yes c61
          refine own_icmpT X0 (own_i_eq c61).1 at_77 (pc' := 87) (by decide) (by decide) ?_
          refine own_iconst X0 (v := (1 : Int32)) (by decide) at_87 (pc' := 88) rfl ?_
          exact own_retZ X0 (by decide) at_88 rfl (by decide) (by decide) rfl
        · -- no c61
          refine own_icmpF X0 (own_i_ne c61).1 at_77 (pc' := 80) rfl ?_
          refine own_iload X0 rfl at_80 (pc' := 82) rfl ?_
          refine own_iload X0 rfl at_82 (pc' := 84) rfl ?_
          by_cases c62 : i53 = i56
          · -- yes c62
            refine own_icmpF X0 (own_i_eq c62).2 at_84 (pc' := 87) rfl ?_
            refine own_iconst X0 (v := (1 : Int32)) (by decide) at_87 (pc' := 88) rfl ?_
            exact own_retZ X0 (by decide) at_88 rfl (by decide) (by decide) rfl
          · -- no c62
            refine own_icmpT X0 (own_i_ne c62).2 at_84 (pc' := 89) (by decide) (by decide) ?_
            refine own_iload X0 rfl at_89 (pc' := 91) rfl ?_
            obtain ⟨j63, e63⟩ : ∃ v, i41.toInt64 = v := ⟨_, rfl⟩
            have f63 : own_L 191 (i40.toInt - (64 : Int)) j63 := own_L.ofI f41 e63
            refine own_i2l X0 e63 at_91 (pc' := 92) rfl ?_
            refine own_lstore X0 (Ls' := #[.val (.int p0), .val (.int p1), .val (.int p2), .val (.int p3), .val (.int p4), .val (.int p5), .val (.int i41), .val (.int i44), .val (.int i47), .val (.int i50), .val (.int i53), .val (.int i56), .val (.long j63), .second, .unset, .unset, .unset, .unset, .unset, .unset, .unset, .unset, .unset, .unset, .unset, .unset, .unset, .unset, .unset, .unset, .unset, .unset, .unset, .unset]) rfl at_92 (pc' := 94) rfl ?_
            refine own_iload X0 rfl at_94 (pc' := 96) rfl ?_
            obtain ⟨j64, e64⟩ : ∃ v, i44.toInt64 = v := ⟨_, rfl⟩
            have f64 : own_L 191 (i43.toInt - (64 : Int)) j64 := own_L.ofI f44 e64
            refine own_i2l X0 e64 at_96 (pc' := 97) rfl ?_
            refine own_lstore X0 (Ls' := #[.val (.int p0), .val (.int p1), .val (.int p2), .val (.int p3), .val (.int p4), .val (.int p5), .val (.int i41), .val (.int i44), .val (.int i47), .val (.int i50), .val (.int i53), .val (.int i56), .val (.long j63), .second, .val (.long j64), .second, .unset, .unset, .unset, .unset, .unset, .unset, .unset, .unset, .unset, .unset, .unset, .unset, .unset, .unset, .unset, .unset, .unset, .unset]) rfl at_97 (pc' := 99) rfl ?_
            refine own_iload X0 rfl at_99 (pc' := 101) rfl ?_
            obtain ⟨j65, e65⟩ : ∃ v, i47.toInt64 = v := ⟨_, rfl⟩
            have f65 : own_L 191 (i46.toInt - (64 : Int)) j65 := own_L.ofI f47 e65
            refine own_i2l X0 e65 at_101 (pc' := 102) rfl ?_
            refine own_lstore X0 (Ls' := #[.val (.int p0), .val (.int p1), .val (.int p2), .val (.int p3), .val (.int p4), .val (.int p5), .val (.int i41), .val (.int i44), .val (.int i47), .val (.int i50), .val (.int i53), .val (.int i56), .val (.long j63), .second, .val (.long j64), .second, .val (.long j65), .second, .unset, .unset, .unset, .unset, .unset, .unset, .unset, .unset, .unset, .unset, .unset, .unset, .unset, .unset, .unset, .unset]) rfl at_102 (pc' := 104) rfl ?_
            refine own_iload X0 rfl at_104 (pc' := 106) rfl ?_
            obtain ⟨j66, e66⟩ : ∃ v, i50.toInt64 = v := ⟨_, rfl⟩
            have f66 : own_L 47 (i49.toInt - (16 : Int)) j66 := own_L.ofI f50 e66
            refine own_i2l X0 e66 at_106 (pc' := 107) rfl ?_
            refine own_lstore X0 (Ls' := #[.val (.int p0), .val (.int p1), .val (.int p2), .val (.int p3), .val (.int p4), .val (.int p5), .val (.int i41), .val (.int i44), .val (.int i47), .val (.int i50), .val (.int i53), .val (.int i56), .val (.long j63), .second, .val (.long j64), .second, .val (.long j65), .second, .val (.long j66), .second, .unset, .unset, .unset, .unset, .unset, .unset, .unset, .unset, .unset, .unset, .unset, .unset, .unset, .unset]) rfl at_107 (pc' := 109) rfl ?_
            refine own_iload X0 rfl at_109 (pc' := 111) rfl ?_
            obtain ⟨j67, e67⟩ : ∃ v, i53.toInt64 = v := ⟨_, rfl⟩
            have f67 : own_L 47 (i52.toInt - (16 : Int)) j67 := own_L.ofI f53 e67
            refine own_i2l X0 e67 at_111 (pc' := 112) rfl ?_
            refine own_lstore X0 (Ls' := #[.val (.int p0), .val (.int p1), .val (.int p2), .val (.int p3), .val (.int p4), .val (.int p5), .val (.int i41), .val (.int i44), .val (.int i47), .val (.int i50), .val (.int i53), .val (.int i56), .val (.long j63), .second, .val (.long j64), .second, .val (.long j65), .second, .val (.long j66), .second, .val (.long j67), .second, .unset, .unset, .unset, .unset, .unset, .unset, .unset, .unset, .unset, .unset, .unset, .unset]) rfl at_112 (pc' := 114) rfl ?_
            refine own_iload X0 rfl at_114 (pc' := 116) rfl ?_
            obtain ⟨j68, e68⟩ : ∃ v, i56.toInt64 = v := ⟨_, rfl⟩
            have f68 : own_L 47 (i55.toInt - (16 : Int)) j68 := own_L.ofI f56 e68
            refine own_i2l X0 e68 at_116 (pc' := 117) rfl ?_
            refine own_lstore X0 (Ls' := #[.val (.int p0), .val (.int p1), .val (.int p2), .val (.int p3), .val (.int p4), .val (.int p5), .val (.int i41), .val (.int i44), .val (.int i47), .val (.int i50), .val (.int i53), .val (.int i56), .val (.long j63), .second, .val (.long j64), .second, .val (.long j65), .second, .val (.long j66), .second, .val (.long j67), .second, .val (.long j68), .second, .unset, .unset, .unset, .unset, .unset, .unset, .unset, .unset, .unset, .unset]) rfl at_117 (pc' := 119) rfl ?_
            refine own_lload X0 rfl at_119 (pc' := 121) rfl ?_
            refine own_lload X0 rfl at_121 (pc' := 123) rfl ?_
            obtain ⟨j69, e69⟩ : ∃ v, j66 - j67 = v := ⟨_, rfl⟩
            have f69 : own_L 94 ((i49.toInt - (16 : Int)) - (i52.toInt - (16 : Int))) j69 := f66.sub f67 e69 (by decide) (by decide)
            refine own_lsub X0 e69 at_123 (pc' := 124) rfl ?_
            refine own_lload X0 rfl at_124 (pc' := 126) rfl ?_
            refine own_lload X0 rfl at_126 (pc' := 128) rfl ?_
            obtain ⟨j70, e70⟩ : ∃ v, j66 - j68 = v := ⟨_, rfl⟩
            have f70 : own_L 94 ((i49.toInt - (16 : Int)) - (i55.toInt - (16 : Int))) j70 := f66.sub f68 e70 (by decide) (by decide)
            refine own_lsub X0 e70 at_128 (pc' := 129) rfl ?_
            obtain ⟨j71, e71⟩ : ∃ v, j69 * j70 = v := ⟨_, rfl⟩
            have f71 : own_L 8836 (((i49.toInt - (16 : Int)) - (i52.toInt - (16 : Int))) * ((i49.toInt - (16 : Int)) - (i55.toInt - (16 : Int)))) j71 := f69.mul f70 e71 (by decide) (by decide)
            refine own_lmul X0 e71 at_129 (pc' := 130) rfl ?_
            refine own_lload X0 rfl at_130 (pc' := 132) rfl ?_
            refine own_lload X0 rfl at_132 (pc' := 134) rfl ?_
            obtain ⟨j72, e72⟩ : ∃ v, j67 - j68 = v := ⟨_, rfl⟩
            have f72 : own_L 94 ((i52.toInt - (16 : Int)) - (i55.toInt - (16 : Int))) j72 := f67.sub f68 e72 (by decide) (by decide)
            refine own_lsub X0 e72 at_134 (pc' := 135) rfl ?_
            obtain ⟨j73, e73⟩ : ∃ v, j71 * j72 = v := ⟨_, rfl⟩
            have f73 : own_L 830584 ((((i49.toInt - (16 : Int)) - (i52.toInt - (16 : Int))) * ((i49.toInt - (16 : Int)) - (i55.toInt - (16 : Int)))) * ((i52.toInt - (16 : Int)) - (i55.toInt - (16 : Int)))) j73 := f71.mul f72 e73 (by decide) (by decide)
            refine own_lmul X0 e73 at_135 (pc' := 136) rfl ?_
            refine own_lstore X0 (Ls' := #[.val (.int p0), .val (.int p1), .val (.int p2), .val (.int p3), .val (.int p4), .val (.int p5), .val (.int i41), .val (.int i44), .val (.int i47), .val (.int i50), .val (.int i53), .val (.int i56), .val (.long j63), .second, .val (.long j64), .second, .val (.long j65), .second, .val (.long j66), .second, .val (.long j67), .second, .val (.long j68), .second, .val (.long j73), .second, .unset, .unset, .unset, .unset, .unset, .unset, .unset, .unset]) rfl at_136 (pc' := 138) rfl ?_
            refine own_lload X0 rfl at_138 (pc' := 140) rfl ?_
            refine own_lload X0 rfl at_140 (pc' := 142) rfl ?_
            obtain ⟨j74, e74⟩ : ∃ v, j63 * j67 = v := ⟨_, rfl⟩
            have f74 : own_L 8977 ((i40.toInt - (64 : Int)) * (i52.toInt - (16 : Int))) j74 := f63.mul f67 e74 (by decide) (by decide)
            refine own_lmul X0 e74 at_142 (pc' := 143) rfl ?_
            refine own_lload X0 rfl at_143 (pc' := 145) rfl ?_
            obtain ⟨j75, e75⟩ : ∃ v, j74 * j68 = v := ⟨_, rfl⟩
            have f75 : own_L 421919 (((i40.toInt - (64 : Int)) * (i52.toInt - (16 : Int))) * (i55.toInt - (16 : Int))) j75 := f74.mul f68 e75 (by decide) (by decide)
            refine own_lmul X0 e75 at_145 (pc' := 146) rfl ?_
            refine own_lload X0 rfl at_146 (pc' := 148) rfl ?_
            refine own_lload X0 rfl at_148 (pc' := 150) rfl ?_
            obtain ⟨j76, e76⟩ : ∃ v, j67 - j68 = v := ⟨_, rfl⟩
            have f76 : own_L 94 ((i52.toInt - (16 : Int)) - (i55.toInt - (16 : Int))) j76 := f67.sub f68 e76 (by decide) (by decide)
            refine own_lsub X0 e76 at_150 (pc' := 151) rfl ?_
            obtain ⟨j77, e77⟩ : ∃ v, j75 * j76 = v := ⟨_, rfl⟩
            have f77 : own_L 39660386 ((((i40.toInt - (64 : Int)) * (i52.toInt - (16 : Int))) * (i55.toInt - (16 : Int))) * ((i52.toInt - (16 : Int)) - (i55.toInt - (16 : Int)))) j77 := f75.mul f76 e77 (by decide) (by decide)
            refine own_lmul X0 e77 at_151 (pc' := 152) rfl ?_
            refine own_lload X0 rfl at_152 (pc' := 154) rfl ?_
            refine own_lload X0 rfl at_154 (pc' := 156) rfl ?_
            obtain ⟨j78, e78⟩ : ∃ v, j64 * j66 = v := ⟨_, rfl⟩
            have f78 : own_L 8977 ((i43.toInt - (64 : Int)) * (i49.toInt - (16 : Int))) j78 := f64.mul f66 e78 (by decide) (by decide)
            refine own_lmul X0 e78 at_156 (pc' := 157) rfl ?_
            refine own_lload X0 rfl at_157 (pc' := 159) rfl ?_
            obtain ⟨j79, e79⟩ : ∃ v, j78 * j68 = v := ⟨_, rfl⟩
            have f79 : own_L 421919 (((i43.toInt - (64 : Int)) * (i49.toInt - (16 : Int))) * (i55.toInt - (16 : Int))) j79 := f78.mul f68 e79 (by decide) (by decide)
            refine own_lmul X0 e79 at_159 (pc' := 160) rfl ?_
            refine own_lload X0 rfl at_160 (pc' := 162) rfl ?_
            refine own_lload X0 rfl at_162 (pc' := 164) rfl ?_
            obtain ⟨j80, e80⟩ : ∃ v, j66 - j68 = v := ⟨_, rfl⟩
            have f80 : own_L 94 ((i49.toInt - (16 : Int)) - (i55.toInt - (16 : Int))) j80 := f66.sub f68 e80 (by decide) (by decide)
            refine own_lsub X0 e80 at_164 (pc' := 165) rfl ?_
            obtain ⟨j81, e81⟩ : ∃ v, j79 * j80 = v := ⟨_, rfl⟩
            have f81 : own_L 39660386 ((((i43.toInt - (64 : Int)) * (i49.toInt - (16 : Int))) * (i55.toInt - (16 : Int))) * ((i49.toInt - (16 : Int)) - (i55.toInt - (16 : Int)))) j81 := f79.mul f80 e81 (by decide) (by decide)
            refine own_lmul X0 e81 at_165 (pc' := 166) rfl ?_
            obtain ⟨j82, e82⟩ : ∃ v, j77 - j81 = v := ⟨_, rfl⟩
            have f82 : own_L 79320772 (((((i40.toInt - (64 : Int)) * (i52.toInt - (16 : Int))) * (i55.toInt - (16 : Int))) * ((i52.toInt - (16 : Int)) - (i55.toInt - (16 : Int)))) - ((((i43.toInt - (64 : Int)) * (i49.toInt - (16 : Int))) * (i55.toInt - (16 : Int))) * ((i49.toInt - (16 : Int)) - (i55.toInt - (16 : Int))))) j82 := f77.sub f81 e82 (by decide) (by decide)
            refine own_lsub X0 e82 at_166 (pc' := 167) rfl ?_
            refine own_lload X0 rfl at_167 (pc' := 169) rfl ?_
            refine own_lload X0 rfl at_169 (pc' := 171) rfl ?_
            obtain ⟨j83, e83⟩ : ∃ v, j65 * j66 = v := ⟨_, rfl⟩
            have f83 : own_L 8977 ((i46.toInt - (64 : Int)) * (i49.toInt - (16 : Int))) j83 := f65.mul f66 e83 (by decide) (by decide)
            refine own_lmul X0 e83 at_171 (pc' := 172) rfl ?_
            refine own_lload X0 rfl at_172 (pc' := 174) rfl ?_
            obtain ⟨j84, e84⟩ : ∃ v, j83 * j67 = v := ⟨_, rfl⟩
            have f84 : own_L 421919 (((i46.toInt - (64 : Int)) * (i49.toInt - (16 : Int))) * (i52.toInt - (16 : Int))) j84 := f83.mul f67 e84 (by decide) (by decide)
            refine own_lmul X0 e84 at_174 (pc' := 175) rfl ?_
            refine own_lload X0 rfl at_175 (pc' := 177) rfl ?_
            refine own_lload X0 rfl at_177 (pc' := 179) rfl ?_
            obtain ⟨j85, e85⟩ : ∃ v, j66 - j67 = v := ⟨_, rfl⟩
            have f85 : own_L 94 ((i49.toInt - (16 : Int)) - (i52.toInt - (16 : Int))) j85 := f66.sub f67 e85 (by decide) (by decide)
            refine own_lsub X0 e85 at_179 (pc' := 180) rfl ?_
            obtain ⟨j86, e86⟩ : ∃ v, j84 * j85 = v := ⟨_, rfl⟩
            have f86 : own_L 39660386 ((((i46.toInt - (64 : Int)) * (i49.toInt - (16 : Int))) * (i52.toInt - (16 : Int))) * ((i49.toInt - (16 : Int)) - (i52.toInt - (16 : Int)))) j86 := f84.mul f85 e86 (by decide) (by decide)
            refine own_lmul X0 e86 at_180 (pc' := 181) rfl ?_
            obtain ⟨j87, e87⟩ : ∃ v, j82 + j86 = v := ⟨_, rfl⟩
            have f87 : own_L 118981158 ((((((i40.toInt - (64 : Int)) * (i52.toInt - (16 : Int))) * (i55.toInt - (16 : Int))) * ((i52.toInt - (16 : Int)) - (i55.toInt - (16 : Int)))) - ((((i43.toInt - (64 : Int)) * (i49.toInt - (16 : Int))) * (i55.toInt - (16 : Int))) * ((i49.toInt - (16 : Int)) - (i55.toInt - (16 : Int))))) + ((((i46.toInt - (64 : Int)) * (i49.toInt - (16 : Int))) * (i52.toInt - (16 : Int))) * ((i49.toInt - (16 : Int)) - (i52.toInt - (16 : Int))))) j87 := f82.add f86 e87 (by decide) (by decide)
            refine own_ladd X0 e87 at_181 (pc' := 182) rfl ?_
            refine own_lstore X0 (Ls' := #[.val (.int p0), .val (.int p1), .val (.int p2), .val (.int p3), .val (.int p4), .val (.int p5), .val (.int i41), .val (.int i44), .val (.int i47), .val (.int i50), .val (.int i53), .val (.int i56), .val (.long j63), .second, .val (.long j64), .second, .val (.long j65), .second, .val (.long j66), .second, .val (.long j67), .second, .val (.long j68), .second, .val (.long j73), .second, .val (.long j87), .second, .unset, .unset, .unset, .unset, .unset, .unset]) rfl at_182 (pc' := 184) rfl ?_
            refine own_lload X0 rfl at_184 (pc' := 186) rfl ?_
            refine own_lload X0 rfl at_186 (pc' := 188) rfl ?_
            refine own_lload X0 rfl at_188 (pc' := 190) rfl ?_
            obtain ⟨j88, e88⟩ : ∃ v, j64 * j73 = v := ⟨_, rfl⟩
            have f88 : own_L 158641544 ((i43.toInt - (64 : Int)) * ((((i49.toInt - (16 : Int)) - (i52.toInt - (16 : Int))) * ((i49.toInt - (16 : Int)) - (i55.toInt - (16 : Int)))) * ((i52.toInt - (16 : Int)) - (i55.toInt - (16 : Int))))) j88 := f64.mul f73 e88 (by decide) (by decide)
            refine own_lmul X0 e88 at_190 (pc' := 191) rfl ?_
            obtain ⟨j89, e89⟩ : ∃ v, j87 - j88 = v := ⟨_, rfl⟩
            have f89 : own_L 277622702 (((((((i40.toInt - (64 : Int)) * (i52.toInt - (16 : Int))) * (i55.toInt - (16 : Int))) * ((i52.toInt - (16 : Int)) - (i55.toInt - (16 : Int)))) - ((((i43.toInt - (64 : Int)) * (i49.toInt - (16 : Int))) * (i55.toInt - (16 : Int))) * ((i49.toInt - (16 : Int)) - (i55.toInt - (16 : Int))))) + ((((i46.toInt - (64 : Int)) * (i49.toInt - (16 : Int))) * (i52.toInt - (16 : Int))) * ((i49.toInt - (16 : Int)) - (i52.toInt - (16 : Int))))) - ((i43.toInt - (64 : Int)) * ((((i49.toInt - (16 : Int)) - (i52.toInt - (16 : Int))) * ((i49.toInt - (16 : Int)) - (i55.toInt - (16 : Int)))) * ((i52.toInt - (16 : Int)) - (i55.toInt - (16 : Int)))))) j89 := f87.sub f88 e89 (by decide) (by decide)
            refine own_lsub X0 e89 at_191 (pc' := 192) rfl ?_
            refine own_lstore X0 (Ls' := #[.val (.int p0), .val (.int p1), .val (.int p2), .val (.int p3), .val (.int p4), .val (.int p5), .val (.int i41), .val (.int i44), .val (.int i47), .val (.int i50), .val (.int i53), .val (.int i56), .val (.long j63), .second, .val (.long j64), .second, .val (.long j65), .second, .val (.long j66), .second, .val (.long j67), .second, .val (.long j68), .second, .val (.long j73), .second, .val (.long j87), .second, .val (.long j89), .second, .unset, .unset, .unset, .unset]) rfl at_192 (pc' := 194) rfl ?_
            refine own_iload X0 rfl at_194 (pc' := 196) rfl ?_
            obtain ⟨d90, e90⟩ : ∃ v, FP.i2d i41 = v := ⟨_, rfl⟩
            have f90 : own_D 0 191 (i40.toInt - (64 : Int)) d90 := own_D.i2d f41 e90
            refine own_i2d X0 e90 at_196 (pc' := 197) rfl ?_
            refine own_iload X0 rfl at_197 (pc' := 199) rfl ?_
            obtain ⟨d91, e91⟩ : ∃ v, FP.i2d i50 = v := ⟨_, rfl⟩
            have f91 : own_D 0 47 (i49.toInt - (16 : Int)) d91 := own_D.i2d f50 e91
            refine own_i2d X0 e91 at_199 (pc' := 200) rfl ?_
            refine own_iload X0 rfl at_200 (pc' := 202) rfl ?_
            obtain ⟨d92, e92⟩ : ∃ v, FP.i2d i44 = v := ⟨_, rfl⟩
            have f92 : own_D 0 191 (i43.toInt - (64 : Int)) d92 := own_D.i2d f44 e92
            refine own_i2d X0 e92 at_202 (pc' := 203) rfl ?_
            refine own_iload X0 rfl at_203 (pc' := 205) rfl ?_
            obtain ⟨d93, e93⟩ : ∃ v, FP.i2d i53 = v := ⟨_, rfl⟩
            have f93 : own_D 0 47 (i52.toInt - (16 : Int)) d93 := own_D.i2d f53 e93
            refine own_i2d X0 e93 at_205 (pc' := 206) rfl ?_
            refine own_iload X0 rfl at_206 (pc' := 208) rfl ?_
            obtain ⟨d94, e94⟩ : ∃ v, FP.i2d i47 = v := ⟨_, rfl⟩
            have f94 : own_D 0 191 (i46.toInt - (64 : Int)) d94 := own_D.i2d f47 e94
            refine own_i2d X0 e94 at_208 (pc' := 209) rfl ?_
            refine own_iload X0 rfl at_209 (pc' := 211) rfl ?_
            obtain ⟨d95, e95⟩ : ∃ v, FP.i2d i56 = v := ⟨_, rfl⟩
            have f95 : own_D 0 47 (i55.toInt - (16 : Int)) d95 := own_D.i2d f56 e95
            refine own_i2d X0 e95 at_211 (pc' := 212) rfl ?_
            have g96 : own_D 0 64 (i40.toInt - (64 : Int)) d90 := ⟨f90.1, by omega⟩
            have g97 : own_D 0 16 (i49.toInt - (16 : Int)) d91 := ⟨f91.1, by omega⟩
            have g98 : own_D 0 64 (i43.toInt - (64 : Int)) d92 := ⟨f92.1, by omega⟩
            have g99 : own_D 0 16 (i52.toInt - (16 : Int)) d93 := ⟨f93.1, by omega⟩
            have g100 : own_D 0 64 (i46.toInt - (64 : Int)) d94 := ⟨f94.1, by omega⟩
            have g101 : own_D 0 16 (i55.toInt - (16 : Int)) d95 := ⟨f95.1, by omega⟩
            have z102 : own_I 0 0 (0 : Int32) := own_I.lit (by decide) (by decide)
            have nfa102 := own_I.ne f50 z102 c58
            have nfc102 := own_I.ne f56 z102 c59
            have nab102 := own_I.ne f50 f53 c60
            have nac102 := own_I.ne f50 f56 c61
            have nbc102 := own_I.ne f53 f56 c62
            refine own_callS X0 (own_iq l Z a0 hw M U d90 (i40.toInt - (64 : Int)) d91 (i49.toInt - (16 : Int)) d92 (i43.toInt - (64 : Int)) d93 (i52.toInt - (16 : Int)) d94 (i46.toInt - (64 : Int)) d95 (i55.toInt - (16 : Int)) _ n0 X0.le env g96 g97 g98 g99 g100 g101 nfa102 nfc102 (by omega) (by omega) (by omega)) (hw _ (List.mem_of_getElem? (i := 0) rfl)) (hw _ (List.mem_of_getElem? (i := 1) rfl)) (hw _ (List.mem_of_getElem? (i := 2) rfl)) (hw _ (List.mem_of_getElem? (i := 3) rfl)) (by decide) rfl (by decide) (W := 0) (Nat.le_of_eq rfl) (by decide) (cells' := 0) (slots' := 0) rfl rfl (by decide) (by decide) (argsL := [(.double d90), (.double d91), (.double d92), (.double d93), (.double d94), (.double d95)]) (rest := []) (lenOf own_pd0 rfl) rfl rfl at_212 (pc' := 215) rfl ?_
            rintro _ T103 h103 X103 ⟨⟨r103, z103, rfl, Z103, W103⟩, e103⟩
            subst e103
            show own_Goal p e below _ T103 (mkF m 215 #[.val (.int p0), .val (.int p1), .val (.int p2), .val (.int p3), .val (.int p4), .val (.int p5), .val (.int i41), .val (.int i44), .val (.int i47), .val (.int i50), .val (.int i53), .val (.int i56), .val (.long j63), .second, .val (.long j64), .second, .val (.long j65), .second, .val (.long j66), .second, .val (.long j67), .second, .val (.long j68), .second, .val (.long j73), .second, .val (.long j87), .second, .val (.long j89), .second, .unset, .unset, .unset, .unset] [(.double r103)])
            refine own_dstore X103 (Ls' := #[.val (.int p0), .val (.int p1), .val (.int p2), .val (.int p3), .val (.int p4), .val (.int p5), .val (.int i41), .val (.int i44), .val (.int i47), .val (.int i50), .val (.int i53), .val (.int i56), .val (.long j63), .second, .val (.long j64), .second, .val (.long j65), .second, .val (.long j66), .second, .val (.long j67), .second, .val (.long j68), .second, .val (.long j73), .second, .val (.long j87), .second, .val (.long j89), .second, .val (.double r103), .second, .unset, .unset]) rfl at_215 (pc' := 217) rfl ?_
            refine own_dload X103 rfl at_217 (pc' := 219) rfl ?_
            refine own_lload X103 rfl at_219 (pc' := 221) rfl ?_
            obtain ⟨d104, e104⟩ : ∃ v, FP.l2d j73 = v := ⟨_, rfl⟩
            have f104 : own_D 0 830584 ((((i49.toInt - (16 : Int)) - (i52.toInt - (16 : Int))) * ((i49.toInt - (16 : Int)) - (i55.toInt - (16 : Int)))) * ((i52.toInt - (16 : Int)) - (i55.toInt - (16 : Int)))) d104 := own_D.l2d f73 e104 (by decide)
            refine own_l2d X103 e104 at_221 (pc' := 222) rfl ?_
            obtain ⟨d106, e106⟩ : ∃ v, FP.dmul r103 d104 = v := ⟨_, rfl⟩
            have m106 : ((((i40.toInt - (64 : Int)) - (i43.toInt - (64 : Int))) * (i52.toInt - (16 : Int)) * (i55.toInt - (16 : Int)) * ((i52.toInt - (16 : Int)) - (i55.toInt - (16 : Int))) + ((i46.toInt - (64 : Int)) - (i43.toInt - (64 : Int))) * (i49.toInt - (16 : Int)) * (i52.toInt - (16 : Int)) * ((i49.toInt - (16 : Int)) - (i52.toInt - (16 : Int))))).natAbs ≤ 4194304 := by
              refine Nat.le_trans (own_tri _ _) ?_
              have u1 : (((i40.toInt - (64 : Int)) - (i43.toInt - (64 : Int))) * (i52.toInt - (16 : Int)) * (i55.toInt - (16 : Int)) * ((i52.toInt - (16 : Int)) - (i55.toInt - (16 : Int)))).natAbs ≤ 128 * 16 * 16 * 32 := own_abs_mul (own_abs_mul (own_abs_mul (A := 128) (B := 16) (by omega) (by omega)) (by omega)) (by omega)
              have u2 : (((i46.toInt - (64 : Int)) - (i43.toInt - (64 : Int))) * (i49.toInt - (16 : Int)) * (i52.toInt - (16 : Int)) * ((i49.toInt - (16 : Int)) - (i52.toInt - (16 : Int)))).natAbs ≤ 128 * 16 * 16 * 32 := own_abs_mul (own_abs_mul (own_abs_mul (A := 128) (B := 16) (by omega) (by omega)) (by omega)) (by omega)
              omega
            have y106 := own_D.of_eq f104 (j := (((i49.toInt - (16 : Int)) - (i52.toInt - (16 : Int))) * ((i49.toInt - (16 : Int)) - (i55.toInt - (16 : Int))) * ((i52.toInt - (16 : Int)) - (i55.toInt - (16 : Int))))) (by grind)
            obtain ⟨z106, Z106, W106⟩ := own_end2 env Z103 y106 W103 m106 e106
            refine own_dmul X103 e106 Z106.nn at_222 (pc' := 223) rfl ?_
            refine own_lload X103 rfl at_223 (pc' := 225) rfl ?_
            obtain ⟨d107, e107⟩ : ∃ v, FP.l2d j89 = v := ⟨_, rfl⟩
            have f107 : own_D 0 277622702 (((((((i40.toInt - (64 : Int)) * (i52.toInt - (16 : Int))) * (i55.toInt - (16 : Int))) * ((i52.toInt - (16 : Int)) - (i55.toInt - (16 : Int)))) - ((((i43.toInt - (64 : Int)) * (i49.toInt - (16 : Int))) * (i55.toInt - (16 : Int))) * ((i49.toInt - (16 : Int)) - (i55.toInt - (16 : Int))))) + ((((i46.toInt - (64 : Int)) * (i49.toInt - (16 : Int))) * (i52.toInt - (16 : Int))) * ((i49.toInt - (16 : Int)) - (i52.toInt - (16 : Int))))) - ((i43.toInt - (64 : Int)) * ((((i49.toInt - (16 : Int)) - (i52.toInt - (16 : Int))) * ((i49.toInt - (16 : Int)) - (i55.toInt - (16 : Int)))) * ((i52.toInt - (16 : Int)) - (i55.toInt - (16 : Int)))))) d107 := own_D.l2d f89 e107 (by decide)
            refine own_l2d X103 e107 at_225 (pc' := 226) rfl ?_
            obtain ⟨d109, e109⟩ : ∃ v, FP.dsub d106 d107 = v := ⟨_, rfl⟩
            have y109 := own_D.of_eq f107 (j := (((i40.toInt - (64 : Int)) - (i43.toInt - (64 : Int))) * (i52.toInt - (16 : Int)) * (i55.toInt - (16 : Int)) * ((i52.toInt - (16 : Int)) - (i55.toInt - (16 : Int))) + ((i46.toInt - (64 : Int)) - (i43.toInt - (64 : Int))) * (i49.toInt - (16 : Int)) * (i52.toInt - (16 : Int)) * ((i49.toInt - (16 : Int)) - (i52.toInt - (16 : Int))))) (by grind)
            obtain ⟨z109, Z109, W109⟩ := own_end3 env Z106 y109 W106 e109
            refine own_dsub X103 e109 Z109.nn at_226 (pc' := 227) rfl ?_
            refine own_ldcD X103 (v := (4652218415073722368 : UInt64)) (hw _ (List.mem_of_getElem? (i := 4) rfl)) at_227 (pc' := 230) rfl ?_
            obtain ⟨d111, e111⟩ : ∃ v, FP.dmul d109 (4652218415073722368 : UInt64) = v := ⟨_, rfl⟩
            have f112 : own_D 0 1024 (1024 : Int) (4652218415073722368 : UInt64) := own_D.lit (s := false) (c := 4503599627370496) (q := -42) (by decide +kernel) (by decide +kernel) (by decide)
            obtain ⟨z111, Z111, W111⟩ := own_end4 env Z109 f112 W109 e111
            refine own_dmul X103 e111 Z111.nn at_230 (pc' := 231) rfl ?_
            refine own_dstore X103 (Ls' := #[.val (.int p0), .val (.int p1), .val (.int p2), .val (.int p3), .val (.int p4), .val (.int p5), .val (.int i41), .val (.int i44), .val (.int i47), .val (.int i50), .val (.int i53), .val (.int i56), .val (.long j63), .second, .val (.long j64), .second, .val (.long j65), .second, .val (.long j66), .second, .val (.long j67), .second, .val (.long j68), .second, .val (.long j73), .second, .val (.long j87), .second, .val (.long j89), .second, .val (.double r103), .second, .val (.double d111), .second]) rfl at_231 (pc' := 233) rfl ?_
            refine own_dload X103 rfl at_233 (pc' := 235) rfl ?_
            refine own_dconst1 X103 (v := (4607182418800017408 : UInt64)) rfl at_235 (pc' := 236) rfl ?_
            refine own_dcmp X103 (Z111.cmp (own_one env)) at_236 (pc' := 237) rfl ?_
            have c113 : z111 < (U : Int) := by omega
            refine own_ifF X103 (own_c3_lt c113).2 at_237 (pc' := 240) rfl ?_
            refine own_ldcD X103 (v := (13830554455654793216 : UInt64)) (hw _ (List.mem_of_getElem? (i := 5) rfl)) at_240 (pc' := 243) rfl ?_
            refine own_dload X103 rfl at_243 (pc' := 245) rfl ?_
            refine own_dcmp X103 ((own_mone env).cmp Z111) at_245 (pc' := 246) rfl ?_
            have c114 : (-(U : Int)) < z111 := by omega
            refine own_ifF X103 (own_c3_lt c114).2 at_246 (pc' := 249) rfl ?_
            refine own_iconst X103 (v := (1 : Int32)) (by decide) at_249 (pc' := 250) rfl ?_
            refine own_goto X103 at_250 (pc' := 254) (by decide) (by decide) ?_
            exact own_retZ X103 (by decide) at_254 rfl (by decide) (by decide) rfl
set_option maxRecDepth 65536 in
set_option maxHeartbeats 40000000 in
theorem comes_1 {Post : Tables → Env → Array Value → State → Outcome → State → Prop} (hpost : ∀ tb e args s v u, (limb_1_1.after args s (.returned v) u = true ∧ limb_1_2.after args s (.returned v) u = true ∧ True) → FrameEnd s (.returned v) u (Jvm.fieldLocs frame_1_writes args s ++ Jvm.arrayLocs frame_1_arrays args s ++ Jvm.staticLocs frame_1_statics s) 0 0 → Post tb e args s (.returned v) u) :
    ArmFor flags0 classFile x code maxLocals ret World_1 tables_1 room_1 Calls_1 rest_1 Pre_1 Post := by
  intro l hfl _ _ p e ha hc hk s m args below hf hA hF happ hP
  obtain ⟨hcalls, hrest, hpre⟩ := hP
  obtain ⟨-, -, -, hnamed, -, -, -, hat⟩ := (Spec.applies_iff hf).mp happ
  obtain ⟨hg, hn⟩ := and_e (Cond.before_iff.mp (show (Jvm.Cond.and given_1 narrow_1).before args s = true from hpre))
  obtain ⟨h1, g0⟩ := and_e hg
  obtain ⟨k0, g1⟩ := and_e g0
  obtain ⟨k1, g2⟩ := and_e g1
  obtain ⟨k2, g3⟩ := and_e g2
  obtain ⟨k3, g4⟩ := and_e g3
  obtain ⟨k4, g5⟩ := and_e g4
  obtain ⟨w0, w1, w2, w3, w4, w5, rfl⟩ : ∃ w0 w1 w2 w3 w4 w5 : Value, args = #[w0, w1, w2, w3, w4, w5] := by
    have hs : args.size = 6 := by simpa [Cond.value, given_1] using h1
    obtain ⟨L⟩ := args
    match L, hs with
    | [w0, w1, w2, w3, w4, w5], _ => exact ⟨w0, w1, w2, w3, w4, w5, rfl⟩
  have hw := fun d (hd : d ∈ tables_1) => atoms_spec (ws := Jvm.Cond.code x code maxLocals ret :: tables_1) hat d (List.mem_cons_of_mem _ hd)
  obtain ⟨p0, e0⟩ := is_v k0
  obtain rfl : w0 = (.int p0) := Option.some.inj e0
  obtain ⟨p1, e1⟩ := is_v k1
  obtain rfl : w1 = (.int p1) := Option.some.inj e1
  obtain ⟨p2, e2⟩ := is_v k2
  obtain rfl : w2 = (.int p2) := Option.some.inj e2
  obtain ⟨p3, e3⟩ := is_v k3
  obtain rfl : w3 = (.int p3) := Option.some.inj e3
  obtain ⟨p4, e4⟩ := is_v k4
  obtain rfl : w4 = (.int p4) := Option.some.inj e4
  obtain ⟨p5, e5⟩ := is_v g5
  obtain rfl : w5 = (.int p5) := Option.some.inj e5
  obtain ⟨n, o, h1, h2, h3, _, L, rfl, ⟨⟨rfl, -⟩, N⟩, hq⟩ := own_law l s _ hw tables_1 p0 p1 p2 p3 p4 p5 s.heap s.heap.size (Nat.le_refl _)  p e ha hc hk s m _ below hf ((Spec.applies_iff_loose hf).mp happ).1 ⟨rfl, State.Warmed39.refl s, rfl⟩ trivial
  refine ⟨n, _, h1, h2, h3, hpost _ _ _ _ _ _ ⟨Cond.after_iff.mpr rfl, Cond.after_iff.mpr (eq_i res_at (Term.int_eval (1)) rfl), trivial⟩ ⟨hq.1, hq.2.1, (hq.2.2.sift fun y hy => Or.inr (N y hy)).mono (by decide) (by decide)⟩⟩
theorem main_1_1 : Claimed_1_1 := comes_1 fun _ _ _ _ _ _ h hF => ⟨h.1, hF⟩
theorem main_1_2 : Claimed_1_2 := comes_1 fun _ _ _ _ _ _ h hF => ⟨h.2.1, hF⟩
end Jvm.Pilot.@@N@@
namespace Jvm.Pilot.@@N@@
open Jvm Jvm.ClassFile Sem Op Lib Jvm.Free Jvm.Stand Jvm.Pilot.@@N@@.Jvm.D
/-! MADE BY PROGRAM (witnessworld.py) out of the Statement's table words and the real class files: 9 classes; the members and pool entries that the words name. The judged class is class 1, her method 1. -/
namespace start1
open Jvm.ClassFile
def u (s : String) : CpInfo := .utf8 (stringToUtf16 s)
/-- a pool by its gaps: so many unusable entries, then the entry; so many at the end -/
def gap : Nat → List CpInfo → List CpInfo
  | 0, r => r
  | n + 1, r => .unusable :: gap n r
def poolList (es : List (Nat × CpInfo)) (last : Nat) : List CpInfo := es.foldr (fun e r => gap e.1 (e.2 :: r)) (gap last [])
def pool (es : List (Nat × CpInfo)) (last : Nat) : Array CpInfo := ⟨poolList es last⟩
def fileOf (pool : Array CpInfo) (this : Nat) (attrs : Array Attribute := #[]) (ms : Array MethodInfo := #[]) (fl : Nat := 33) (sup : Nat := 0) (ifs : Array Nat := #[]) (fds : Array FieldInfo := #[]) : ClassFile where
  minorVersion := 0
  majorVersion := 65
  constantPool := pool
  accessFlags := fl
  thisClass := this
  superClass := sup
  interfaces := ifs
  fields := fds
  methods := ms
  attributes := attrs
def plain (name : String) (sup : Option ClassId) : Class where
  name := name
  kind := .ordinary
  loader := none
  accessFlags := 33
  super := sup
  interfaces := #[]
  cf := none
  fields := #[]
  methods := #[]
  instanceTypes := #[]
  staticTypes := #[]
  resolved := #[]
  callSites := []
  init := .initialized
  statics := none
  mirror := none

def pool0 : Array CpInfo := pool [(5, u "<init>"), (0, u "()V"), (1, .class_ 10), (1, u "java/lang/Object")] 113

def k0m0 : Method := { name := "<init>", desc := "()V", sig := { parameters := [], returnType := none }, accessFlags := 1, code := none }
/-- java/lang/Object -/
def k0 : Class := { plain "java/lang/Object" none with
  accessFlags := 33
  interfaces := #[]
  cf := some (fileOf pool0 8 #[] #[{ accessFlags := 1, nameIndex := 5, descriptorIndex := 6, attributes := #[] }] 33 0 #[] #[])
  fields := #[]
  methods := #[k0m0]
  instanceTypes := #[]
  staticTypes := #[]
  resolved := Array.replicate 124 none
  statics := none }

def pool1 : Array CpInfo := pool [(2, .class_ 4), (1, u "java/lang/Object"), (0, u "<init>"), (0, u "()V"), (0, .methodref 8 9), (0, .class_ 10), (0, .nameAndType 11 12), (0, u "com/example/nullstelle/nullstelle/Interpolation"), (0, u "inverseQuadratic"), (0, u "(DDDDDD)D"), (0, .double 4652218415073722368), (1, .double 13830554455654793216), (1, .class_ 18), (0, u "com/example/nullstelle/nullstelle/InterpolationInverseQuadraticPinLaw"), (2, u "law"), (0, u "(IIIIII)Z")] 3

def k1m0 : Method := { name := "<init>", desc := "()V", sig := { parameters := [], returnType := none }, accessFlags := 2, code := none }
def k1c1 : Code := { maxStack := 12, maxLocals := 34, code := code, exceptionTable := #[], attributes := #[] }
def k1m1 : Method := { name := "law", desc := "(IIIIII)Z", sig := { parameters := [.int, .int, .int, .int, .int, .int], returnType := some .boolean }, accessFlags := 9, code := some k1c1 }
/-- com/example/nullstelle/nullstelle/InterpolationInverseQuadraticPinLaw -/
def k1 : Class := { plain "com/example/nullstelle/nullstelle/InterpolationInverseQuadraticPinLaw" (some 0) with
  accessFlags := 49
  interfaces := #[]
  cf := some (fileOf pool1 17 #[] #[{ accessFlags := 2, nameIndex := 5, descriptorIndex := 6, attributes := #[] }, { accessFlags := 9, nameIndex := 21, descriptorIndex := 22, attributes := #[] }] 49 2 #[] #[])
  fields := #[]
  methods := #[k1m0, k1m1]
  instanceTypes := #[]
  staticTypes := #[]
  resolved := Array.replicate 26 none
  statics := none }

def pool2 : Array CpInfo := pool [(2, .class_ 4), (1, u "java/lang/Object"), (0, u "<init>"), (0, u "()V"), (38, .class_ 46), (0, u "com/example/nullstelle/nullstelle/Interpolation"), (5, u "inverseQuadratic"), (0, u "(DDDDDD)D")] 4

def k2m0 : Method := { name := "<init>", desc := "()V", sig := { parameters := [], returnType := none }, accessFlags := 2, code := none }
def k2c1 : Code := { maxStack := 10, maxLocals := 18, code := prog_18_method_3_code, exceptionTable := #[], attributes := #[] }
def k2m1 : Method := { name := "inverseQuadratic", desc := "(DDDDDD)D", sig := { parameters := [.double, .double, .double, .double, .double, .double], returnType := some .double }, accessFlags := 8, code := some k2c1 }
/-- com/example/nullstelle/nullstelle/Interpolation -/
def k2 : Class := { plain "com/example/nullstelle/nullstelle/Interpolation" (some 0) with
  accessFlags := 48
  interfaces := #[]
  cf := some (fileOf pool2 45 #[] #[{ accessFlags := 2, nameIndex := 5, descriptorIndex := 6, attributes := #[] }, { accessFlags := 8, nameIndex := 52, descriptorIndex := 53, attributes := #[] }] 48 2 #[] #[])
  fields := #[]
  methods := #[k2m0, k2m1]
  instanceTypes := #[]
  staticTypes := #[]
  resolved := Array.replicate 58 none
  statics := none }

def pool3 : Array CpInfo := pool [(1, u "java/lang/Cloneable"), (0, .class_ 1), (0, u "java/lang/Object"), (0, .class_ 3)] 3

/-- java/lang/Cloneable -/
def k3 : Class := { plain "java/lang/Cloneable" (some 0) with
  accessFlags := 1537
  interfaces := #[]
  cf := some (fileOf pool3 2 #[] #[] 1537 4 #[] #[])
  fields := #[]
  methods := #[]
  instanceTypes := #[]
  staticTypes := #[]
  resolved := Array.replicate 8 none
  statics := none }

def pool4 : Array CpInfo := pool [(1, u "java/io/Serializable"), (0, .class_ 1), (0, u "java/lang/Object"), (0, .class_ 3)] 3

/-- java/io/Serializable -/
def k4 : Class := { plain "java/io/Serializable" (some 0) with
  accessFlags := 1537
  interfaces := #[]
  cf := some (fileOf pool4 2 #[] #[] 1537 4 #[] #[])
  fields := #[]
  methods := #[]
  instanceTypes := #[]
  staticTypes := #[]
  resolved := Array.replicate 8 none
  statics := none }

/-- the primitive byte -/
def k5 : Class := { plain "byte" none with kind := .primitive 'B', accessFlags := 0x411 }
/-- [B -/
def k6 : Class := { plain "[B" (some 0) with kind := .array 5 .byte, interfaces := #[3, 4], accessFlags := 1041 }

/-- the primitive int -/
def k7 : Class := { plain "int" none with kind := .primitive 'I', accessFlags := 0x411 }
/-- [I -/
def k8 : Class := { plain "[I" (some 0) with kind := .array 7 .int, interfaces := #[3, 4], accessFlags := 1041 }

def heap : Heap := #[]
def classes : Array Class := #[k0, k1, k2, k3, k4, k5, k6, k7, k8]
def interned : List (Array UInt16 × Addr) := []
def slotsUsed : Nat := 0
def theMethod : MethodId := ⟨1, 1⟩
def args0 : Array Value := #[.int 5, .int 6, .int 7, .int 8, .int 9, .int 10]
def aboutOver (below : List Frame) : State where
  vm := { classes := classes, interned := interned.toArray }
  heap := heap
  slotsUsed := slotsUsed
  threads := #[{ frames := .invoking theMethod args0 :: below }]
def below0 : List Frame := [.native { method := ⟨0, 0⟩, args := #[] }]
def about1 : State := aboutOver below0
def p0 : Program := .bare "" "" ""
def e0 : Env := launch0.env 0 0 0
theorem w_frames : about1.frames = Frame.invoking theMethod args0 :: below0 := rfl
set_option maxRecDepth 65536 in
theorem w_args : argsFit about1.vm theMethod args0 = true := by decide +kernel
set_option maxRecDepth 65536 in
theorem w_heap : heapFits about1 = true := by decide +kernel
set_option maxRecDepth 65536 in
theorem w_runnable : about1.curStatus? = some .runnable := by decide +kernel
set_option maxRecDepth 65536 in
theorem w_alone : about1.alone = true := by decide +kernel
set_option maxRecDepth 65536 in
theorem w_named : about1.methodNamed? x = some theMethod := by decide +kernel
set_option maxRecDepth 65536 in
theorem w_hears : about1.hears theMethod below0 = true := by decide +kernel
set_option maxRecDepth 65536 in
theorem w_ripe : about1.ripe theMethod args0 below0 = true := by decide +kernel
theorem w_running : about1.status = .running := rfl
set_option maxRecDepth 65536 in
theorem w_room : about1.hasRoom e0.platform room_1 = true :=
  launch0.hasRoom_least _ room_1 (by decide +kernel) (by decide +kernel) (by decide +kernel) (by decide +kernel) (by decide +kernel) (by decide +kernel)
theorem allAtoms_all (ts : List Jvm.Cond) (a : Array Jvm.Value) (st : Jvm.State) : (allAtoms ts).before a st = ts.all (fun c => c.before a st) := by
  induction ts with
  | nil => rfl
  | cons c t ih =>
    show (Jvm.Cond.and c (allAtoms t)).before a st = _
    rw [Jvm.Cond.before_and, ih, List.all_cons]
def words1 : List Jvm.Cond := Jvm.Cond.code x code maxLocals ret :: tables_1
/-- a 'code' word, met by the world's own term for the bytes: nothing is compared byte by byte -/
theorem code_word {y : MethodName} {bytes : ByteArray} {mx : Nat} {rt : Option FieldType} {a : Array Value} {s : State} {m : MethodId} {meth : Method} {c : Code} (h1 : s.methodNamed? y = some m) (h2 : s.vm.method? m = some meth) (h3 : meth.code = some c) (h4 : c.code = bytes)
    (h5 : (c.maxLocals == mx && c.exceptionTable.isEmpty && decide (c.maxStack ≤ mostOperands) && decide (meth.sig.returnType = rt) && !meth.locks && decide (parseMethodDescriptor y.desc = some meth.sig)) = true) : (Jvm.Cond.code y bytes mx rt).before a s = true := by
  simp only [Bool.and_eq_true, beq_iff_eq, Bool.not_eq_true', decide_eq_true_eq] at h5
  obtain ⟨⟨⟨⟨⟨g1, g2⟩, g3⟩, g4⟩, g5⟩, g6⟩ := h5
  simp [Cond.before, Cond.holds, Cond.value, h1, h2, h3, h4, g1, g2, g3, g4, g5, g6]
def isCode : Jvm.Cond → Bool
  | .code _ _ _ _ => true
  | _ => false
theorem all_split {L : List Jvm.Cond} {P : Jvm.Cond → Bool} (h1 : L.all (fun c => isCode c || P c) = true) (h2 : ∀ c ∈ L.filter isCode, P c = true) : L.all P = true := by
  refine List.all_eq_true.mpr fun c hc => ?_
  have h := List.all_eq_true.mp h1 c hc
  rcases Bool.eq_false_or_eq_true (isCode c) with hi | hi
  · exact h2 c (List.mem_filter.mpr ⟨hc, hi⟩)
  · simpa [hi] using h
set_option maxRecDepth 65536 in
theorem w_c0 : (Jvm.Cond.code x code maxLocals ret).before args0 about1 = true := code_word (m := ⟨1, 1⟩) (meth := k1m1) (c := k1c1) (by decide +kernel) rfl rfl rfl (by decide +kernel)
set_option maxRecDepth 65536 in
theorem w_c1 : (Jvm.Cond.code ({ cls := "com/example/nullstelle/nullstelle/Interpolation", name := "inverseQuadratic", desc := "(DDDDDD)D" } : Jvm.MethodName) prog_18_method_3_code (18 : Nat) (Option.some Jvm.ClassFile.FieldType.double)).before args0 about1 = true := code_word (m := ⟨2, 1⟩) (meth := k2m1) (c := k2c1) (by decide +kernel) rfl rfl rfl (by decide +kernel)
def codes1 : List Jvm.Cond := [Jvm.Cond.code x code maxLocals ret, Jvm.Cond.code ({ cls := "com/example/nullstelle/nullstelle/Interpolation", name := "inverseQuadratic", desc := "(DDDDDD)D" } : Jvm.MethodName) prog_18_method_3_code (18 : Nat) (Option.some Jvm.ClassFile.FieldType.double)]
set_option maxRecDepth 65536 in
theorem codes_eq : words1.filter isCode = codes1 := rfl
theorem w_codes : ∀ c ∈ words1.filter isCode, c.before args0 about1 = true := by
  rw [codes_eq]
  intro c hc
  simp only [codes1, List.mem_cons, List.not_mem_nil, or_false] at hc
  rcases hc with rfl | rfl
  · exact w_c0
  · exact w_c1
set_option maxRecDepth 65536 in
theorem w_t1 : words1.all (fun c => isCode c || c.before args0 about1) = true := by decide +kernel
theorem w_tables : (allAtoms (Jvm.Cond.code x code maxLocals ret :: tables_1)).before args0 about1 = true := by
  rw [allAtoms_all]
  show words1.all (fun c => c.before args0 about1) = true
  refine all_split ?_ w_codes
  rw [w_t1]
set_option maxRecDepth 65536 in
theorem w_case : (Jvm.Cond.and given_1 narrow_1).before args0 about1 = true := by decide +kernel
theorem w_applies : (headSpec (Jvm.Cond.code x code maxLocals ret :: tables_1) room_1).applies x e0.platform about1 = true :=
  (Spec.applies_iff w_frames).mpr ⟨w_running, w_runnable, w_alone, w_named, w_hears, w_ripe, w_room, w_tables⟩
theorem atStart : AtStart classFile x code maxLocals ret World_1 tables_1 room_1 Calls_1 rest_1 Pre_1 launch0 p0 e0 about1 theMethod args0 below0 :=
  ⟨lists_1, trivial, launch0.admits_env _ _ _, launch0.least_env, fairChoices_fair.cas, fairChoices_fair.clock, w_frames, w_args, w_heap, w_applies, trivial, trivial, w_case⟩
end start1
theorem witness_1 : WitnessClaimed_1 := ⟨start1.p0, start1.e0, start1.about1, start1.theMethod, start1.args0, start1.below0, start1.atStart⟩
end Jvm.Pilot.@@N@@
