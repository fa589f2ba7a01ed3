import JvmDerived
import JvmDerived.Pilot.@@N@@Statement
import JvmDerived.Pilot.@@N@@Code
set_option linter.unusedVariables false
set_option linter.unusedSimpArgs false
namespace Jvm.Pilot.@@N@@
open Jvm Jvm.ClassFile Sem Op Lib Jvm.Free Jvm.Stand Jvm.LawKit Jvm.RoadKit Bundle Jvm.Pilot.@@N@@.Jvm.D
section OwnWalk
variable {p : Program} {l : Launch} {e : Env} {R : Room} {s : State} {m : MethodId} {args : Array Value} {below : List Frame} {meth : Method} {c : Code} {Z : State} {own : String} {bytes : ByteArray} {ml : Nat} {rt : Option FieldType} {nm : String} {n0 : Nat} {T : State} {h : Heap} {cells slots : Nat} {Q : Option Value → Heap → Prop} {Φ : State → Outcome → Prop} {pc pc' : Nat} {Ls : Array Slot} {rest : List Value} {a0 : Array Value}
/-- where the walk stands: the library's Stand, every place written so far is new (Fr), the heap, and the body's own data -/
def own_St (p : Program) (l : Launch) (e : Env) (R : Room) (s : State) (m : MethodId) (args : Array Value) (below : List Frame) (meth : Method) (c : Code) (Z : State) (own : String) (bytes : ByteArray) (ml : Nat) (rt : Option FieldType) (nm : String) (n0 : Nat) (T : State) (h : Heap) (cells slots : Nat) : Prop :=
  ∃ locs, Stand p l e R s m args below meth c T locs cells slots ∧ Fr n0 locs ∧ T.heap = h ∧ n0 ≤ h.size ∧ p.tables.exec = Jvm.exec ∧ Z.Warmed39 s.vm ∧ s.vm.findClass own = some m.cls ∧ c.code = bytes ∧ c.maxLocals = ml ∧ meth.sig.returnType = rt ∧ meth.locks = false ∧ meth.name = nm
/-- what a return that meets Q leaves -/
def own_Fin (below : List Frame) (s : State) (R : Room) (n0 : Nat) (Q : Option Value → Heap → Prop) : State → Outcome → Prop := fun s₂ o =>
  s₂.status = .running ∧ Ended s₂ below o ∧ ∃ v L, o = .returned v ∧ ((Q v s₂.heap ∧ n0 ≤ s₂.heap.size) ∧ Fr n0 L) ∧ FrameEnd s o s₂ L R.cells R.slots
/-- from frame g over T the run comes to an end that meets Φ -/
def own_Goal (p : Program) (e : Env) (below : List Frame) (Φ : State → Outcome → Prop) (T : State) (g : JFrame) : Prop :=
  ∃ s₂ o, Steps p.tables e below (T.setTop g) s₂ ∧ Φ s₂ o
theorem own_St.le (X : own_St p l e R s m args below meth c Z own bytes ml rt nm n0 T h cells slots) : n0 ≤ h.size := by obtain ⟨_, _, _, _, q, _⟩ := X; exact q
theorem own_step {T' : State} {g g' : JFrame} (f : ∀ t, Steps p.tables e below (T'.setTop g') t → Steps p.tables e below (T.setTop g) t) (k : own_Goal p e below Φ T' g') : own_Goal p e below Φ T g := by
  obtain ⟨s2, o, a, r⟩ := k
  exact ⟨s2, o, f _ a, r⟩
theorem own_cast {g g' : JFrame} (q : g = g') (k : own_Goal p e below Φ T g') : own_Goal p e below Φ T g := q ▸ k
theorem own_pure (X : own_St p l e R s m args below meth c Z own bytes ml rt nm n0 T h cells slots) {g g' : JFrame} (f : ∀ {locs}, Stand p l e R s m args below meth c T locs cells slots → p.tables.exec = Jvm.exec → c.code = bytes → ∀ t, Steps p.tables e below (T.setTop g') t → Steps p.tables e below (T.setTop g) t) (k : own_Goal p e below Φ T g') : own_Goal p e below Φ T g := by
  obtain ⟨locs, X, -, -, -, hx, -, -, hby, -⟩ := X
  exact own_step (f X hx hby) k
theorem own_iconst (X : own_St p l e R s m args below meth c Z own bytes ml rt nm n0 T h cells slots) {i : Int} {v : Int32} (hv : Int32.ofInt i = v) (hd : decode bytes pc = .ok (.iconst i, 1)) (hp : pc + 1 = pc') (k : own_Goal p e below Φ T (mkF m pc' Ls (.int v :: rest))) : own_Goal p e below Φ T (mkF m pc Ls (rest)) := by
  subst hp hv
  exact own_pure X (fun X hx hby _ a => XS.iconst X.here hx rfl (hb hby hd) a) k
theorem own_bipush (X : own_St p l e R s m args below meth c Z own bytes ml rt nm n0 T h cells slots) {i : Int} {v : Int32} (hv : (Int8.ofInt i).toInt32 = v) (hd : decode bytes pc = .ok (.bipush i, 2)) (hp : pc + 2 = pc') (k : own_Goal p e below Φ T (mkF m pc' Ls (.int v :: rest))) : own_Goal p e below Φ T (mkF m pc Ls (rest)) := by
  subst hp hv
  exact own_pure X (fun X hx hby _ a => XS.bipush X.here hx rfl (hb hby hd) a) k
theorem own_sipush (X : own_St p l e R s m args below meth c Z own bytes ml rt nm n0 T h cells slots) {i : Int} {v : Int32} (hv : (Int16.ofInt i).toInt32 = v) (hd : decode bytes pc = .ok (.sipush i, 3)) (hp : pc + 3 = pc') (k : own_Goal p e below Φ T (mkF m pc' Ls (.int v :: rest))) : own_Goal p e below Φ T (mkF m pc Ls (rest)) := by
  subst hp hv
  exact own_pure X (fun X hx hby _ a => XS.sipush X.here hx rfl (hb hby hd) a) k
theorem own_aconst_null (X : own_St p l e R s m args below meth c Z own bytes ml rt nm n0 T h cells slots)  (hd : decode bytes pc = .ok (.aconst_null, 1)) (hp : pc + 1 = pc') (k : own_Goal p e below Φ T (mkF m pc' Ls (.null :: rest))) : own_Goal p e below Φ T (mkF m pc Ls (rest)) := by
  subst hp
  exact own_pure X (fun X hx hby _ a => XS.aconstNull X.here hx rfl (hb hby hd) a) k
theorem own_lconst (X : own_St p l e R s m args below meth c Z own bytes ml rt nm n0 T h cells slots) {k : Fin 2} {v : Int64} (hv : Int64.ofNat k = v) (hd : decode bytes pc = .ok (.lconst k, 1)) (hp : pc + 1 = pc') (k : own_Goal p e below Φ T (mkF m pc' Ls (.long v :: rest))) : own_Goal p e below Φ T (mkF m pc Ls (rest)) := by
  subst hp hv
  exact own_pure X (fun X hx hby _ a => XT.lconst X.here hx rfl (hb hby hd) a) k
theorem own_dconst0 (X : own_St p l e R s m args below meth c Z own bytes ml rt nm n0 T h cells slots) {v : UInt64} (hv : FP.dconst0 = v) (hd : decode bytes pc = .ok (.dconst 0, 1)) (hp : pc + 1 = pc') (k : own_Goal p e below Φ T (mkF m pc' Ls (.double v :: rest))) : own_Goal p e below Φ T (mkF m pc Ls (rest)) := by
  subst hp
  exact own_pure X (fun X hx hby _ a => XS.dconst0 X.here hx rfl (hb hby hd) hv a) k
theorem own_dconst1 (X : own_St p l e R s m args below meth c Z own bytes ml rt nm n0 T h cells slots) {v : UInt64} (hv : FP.dconst1 = v) (hd : decode bytes pc = .ok (.dconst 1, 1)) (hp : pc + 1 = pc') (k : own_Goal p e below Φ T (mkF m pc' Ls (.double v :: rest))) : own_Goal p e below Φ T (mkF m pc Ls (rest)) := by
  subst hp
  exact own_pure X (fun X hx hby _ a => XS.dconst1 X.here hx rfl (hb hby hd) hv a) k
theorem own_iload (X : own_St p l e R s m args below meth c Z own bytes ml rt nm n0 T h cells slots) {k : Nat} {v : Int32} (hl : Ls[k]? = some (.val (.int v))) (hd : decode bytes pc = .ok (.iload k, 2)) (hp : pc + 2 = pc') (k : own_Goal p e below Φ T (mkF m pc' Ls (.int v :: rest))) : own_Goal p e below Φ T (mkF m pc Ls (rest)) := by
  subst hp
  exact own_pure X (fun X hx hby _ a => XS.iload X.here hx rfl (hb hby hd) hl a) k
theorem own_iloadN (X : own_St p l e R s m args below meth c Z own bytes ml rt nm n0 T h cells slots) {k : Fin 4} {v : Int32} (hl : Ls[k.val]? = some (.val (.int v))) (hd : decode bytes pc = .ok (.iload_n k, 1)) (hp : pc + 1 = pc') (k : own_Goal p e below Φ T (mkF m pc' Ls (.int v :: rest))) : own_Goal p e below Φ T (mkF m pc Ls (rest)) := by
  subst hp
  exact own_pure X (fun X hx hby _ a => XS.iloadN X.here hx rfl (hb hby hd) hl a) k
theorem own_istore (X : own_St p l e R s m args below meth c Z own bytes ml rt nm n0 T h cells slots) {k : Nat} {v : Int32} {Ls' : Array Slot} (hl : storeLocals Ls k (.int v) = some Ls') (hd : decode bytes pc = .ok (.istore k, 2)) (hp : pc + 2 = pc') (k : own_Goal p e below Φ T (mkF m pc' Ls' (rest))) : own_Goal p e below Φ T (mkF m pc Ls (.int v :: rest)) := by
  subst hp
  exact own_pure X (fun X hx hby _ a => XS.istore X.here hx rfl (hb hby hd) rfl hl a) k
theorem own_istoreN (X : own_St p l e R s m args below meth c Z own bytes ml rt nm n0 T h cells slots) {k : Fin 4} {v : Int32} {Ls' : Array Slot} (hl : storeLocals Ls k.val (.int v) = some Ls') (hd : decode bytes pc = .ok (.istore_n k, 1)) (hp : pc + 1 = pc') (k : own_Goal p e below Φ T (mkF m pc' Ls' (rest))) : own_Goal p e below Φ T (mkF m pc Ls (.int v :: rest)) := by
  subst hp
  exact own_pure X (fun X hx hby _ a => XS.istoreN X.here hx rfl (hb hby hd) rfl hl a) k
theorem own_lload (X : own_St p l e R s m args below meth c Z own bytes ml rt nm n0 T h cells slots) {k : Nat} {v : Int64} (hl : Ls[k]? = some (.val (.long v))) (hd : decode bytes pc = .ok (.lload k, 2)) (hp : pc + 2 = pc') (k : own_Goal p e below Φ T (mkF m pc' Ls (.long v :: rest))) : own_Goal p e below Φ T (mkF m pc Ls (rest)) := by
  subst hp
  exact own_pure X (fun X hx hby _ a => XT.lload X.here hx rfl (hb hby hd) hl a) k
theorem own_lloadN (X : own_St p l e R s m args below meth c Z own bytes ml rt nm n0 T h cells slots) {k : Fin 4} {v : Int64} (hl : Ls[k.val]? = some (.val (.long v))) (hd : decode bytes pc = .ok (.lload_n k, 1)) (hp : pc + 1 = pc') (k : own_Goal p e below Φ T (mkF m pc' Ls (.long v :: rest))) : own_Goal p e below Φ T (mkF m pc Ls (rest)) := by
  subst hp
  exact own_pure X (fun X hx hby _ a => XT.lloadN X.here hx rfl (hb hby hd) hl a) k
theorem own_lstore (X : own_St p l e R s m args below meth c Z own bytes ml rt nm n0 T h cells slots) {k : Nat} {v : Int64} {Ls' : Array Slot} (hl : storeLocals Ls k (.long v) = some Ls') (hd : decode bytes pc = .ok (.lstore k, 2)) (hp : pc + 2 = pc') (k : own_Goal p e below Φ T (mkF m pc' Ls' (rest))) : own_Goal p e below Φ T (mkF m pc Ls (.long v :: rest)) := by
  subst hp
  exact own_pure X (fun X hx hby _ a => XT.lstore X.here hx rfl (hb hby hd) rfl hl a) k
theorem own_lstoreN (X : own_St p l e R s m args below meth c Z own bytes ml rt nm n0 T h cells slots) {k : Fin 4} {v : Int64} {Ls' : Array Slot} (hl : storeLocals Ls k.val (.long v) = some Ls') (hd : decode bytes pc = .ok (.lstore_n k, 1)) (hp : pc + 1 = pc') (k : own_Goal p e below Φ T (mkF m pc' Ls' (rest))) : own_Goal p e below Φ T (mkF m pc Ls (.long v :: rest)) := by
  subst hp
  exact own_pure X (fun X hx hby _ a => XT.lstoreN X.here hx rfl (hb hby hd) rfl hl a) k
theorem own_dload (X : own_St p l e R s m args below meth c Z own bytes ml rt nm n0 T h cells slots) {k : Nat} {v : UInt64} (hl : Ls[k]? = some (.val (.double v))) (hd : decode bytes pc = .ok (.dload k, 2)) (hp : pc + 2 = pc') (k : own_Goal p e below Φ T (mkF m pc' Ls (.double v :: rest))) : own_Goal p e below Φ T (mkF m pc Ls (rest)) := by
  subst hp
  exact own_pure X (fun X hx hby _ a => XS.dload X.here hx rfl (hb hby hd) hl a) k
theorem own_dloadN (X : own_St p l e R s m args below meth c Z own bytes ml rt nm n0 T h cells slots) {k : Fin 4} {v : UInt64} (hl : Ls[k.val]? = some (.val (.double v))) (hd : decode bytes pc = .ok (.dload_n k, 1)) (hp : pc + 1 = pc') (k : own_Goal p e below Φ T (mkF m pc' Ls (.double v :: rest))) : own_Goal p e below Φ T (mkF m pc Ls (rest)) := by
  subst hp
  exact own_pure X (fun X hx hby _ a => XS.dloadN X.here hx rfl (hb hby hd) hl a) k
theorem own_dstore (X : own_St p l e R s m args below meth c Z own bytes ml rt nm n0 T h cells slots) {k : Nat} {v : UInt64} {Ls' : Array Slot} (hl : storeLocals Ls k (.double v) = some Ls') (hd : decode bytes pc = .ok (.dstore k, 2)) (hp : pc + 2 = pc') (k : own_Goal p e below Φ T (mkF m pc' Ls' (rest))) : own_Goal p e below Φ T (mkF m pc Ls (.double v :: rest)) := by
  subst hp
  exact own_pure X (fun X hx hby _ a => XS.dstore X.here hx rfl (hb hby hd) rfl hl a) k
theorem own_dstoreN (X : own_St p l e R s m args below meth c Z own bytes ml rt nm n0 T h cells slots) {k : Fin 4} {v : UInt64} {Ls' : Array Slot} (hl : storeLocals Ls k.val (.double v) = some Ls') (hd : decode bytes pc = .ok (.dstore_n k, 1)) (hp : pc + 1 = pc') (k : own_Goal p e below Φ T (mkF m pc' Ls' (rest))) : own_Goal p e below Φ T (mkF m pc Ls (.double v :: rest)) := by
  subst hp
  exact own_pure X (fun X hx hby _ a => XS.dstoreN X.here hx rfl (hb hby hd) rfl hl a) k
theorem own_aload (X : own_St p l e R s m args below meth c Z own bytes ml rt nm n0 T h cells slots) {k : Nat} {v : Value} (hl : Ls[k]? = some (.val v)) (hv : v.isRef = true) (hd : decode bytes pc = .ok (.aload k, 2)) (hp : pc + 2 = pc') (k : own_Goal p e below Φ T (mkF m pc' Ls (v :: rest))) : own_Goal p e below Φ T (mkF m pc Ls (rest)) := by
  subst hp
  exact own_pure X (fun X hx hby _ a => XS.aload X.here hx rfl (hb hby hd) hl hv a) k
theorem own_aloadN (X : own_St p l e R s m args below meth c Z own bytes ml rt nm n0 T h cells slots) {k : Fin 4} {v : Value} (hl : Ls[k.val]? = some (.val v)) (hv : v.isRef = true) (hd : decode bytes pc = .ok (.aload_n k, 1)) (hp : pc + 1 = pc') (k : own_Goal p e below Φ T (mkF m pc' Ls (v :: rest))) : own_Goal p e below Φ T (mkF m pc Ls (rest)) := by
  subst hp
  exact own_pure X (fun X hx hby _ a => XS.aloadN X.here hx rfl (hb hby hd) hl hv a) k
theorem own_astore (X : own_St p l e R s m args below meth c Z own bytes ml rt nm n0 T h cells slots) {k : Nat} {v : Value} {Ls' : Array Slot} (hl : storeLocals Ls k v = some Ls') (hv : v.isRef = true) (hd : decode bytes pc = .ok (.astore k, 2)) (hp : pc + 2 = pc') (k : own_Goal p e below Φ T (mkF m pc' Ls' (rest))) : own_Goal p e below Φ T (mkF m pc Ls (v :: rest)) := by
  subst hp
  exact own_pure X (fun X hx hby _ a => XS.astore X.here hx rfl (hb hby hd) rfl hv hl a) k
theorem own_astoreN (X : own_St p l e R s m args below meth c Z own bytes ml rt nm n0 T h cells slots) {k : Fin 4} {v : Value} {Ls' : Array Slot} (hl : storeLocals Ls k.val v = some Ls') (hv : v.isRef = true) (hd : decode bytes pc = .ok (.astore_n k, 1)) (hp : pc + 1 = pc') (k : own_Goal p e below Φ T (mkF m pc' Ls' (rest))) : own_Goal p e below Φ T (mkF m pc Ls (v :: rest)) := by
  subst hp
  exact own_pure X (fun X hx hby _ a => XS.astoreN X.here hx rfl (hb hby hd) rfl hv hl a) k
theorem own_iinc (X : own_St p l e R s m args below meth c Z own bytes ml rt nm n0 T h cells slots) {k : Nat} {i : Int} {x v : Int32} {Ls' : Array Slot} (hl : Ls[k]? = some (.val (.int x))) (hv : x + Int32.ofInt i = v) (hl' : storeLocals Ls k (.int v) = some Ls') (hd : decode bytes pc = .ok (.iinc k i, 3)) (hp : pc + 3 = pc') (k : own_Goal p e below Φ T (mkF m pc' Ls' (rest))) : own_Goal p e below Φ T (mkF m pc Ls (rest)) := by
  subst hp hv
  exact own_pure X (fun X hx hby _ a => XS.iinc X.here hx rfl (hb hby hd) hl hl' a) k
theorem own_iadd (X : own_St p l e R s m args below meth c Z own bytes ml rt nm n0 T h cells slots) {x y v : Int32} (hv : x + y = v) (hd : decode bytes pc = .ok (.iadd, 1)) (hp : pc + 1 = pc') (k : own_Goal p e below Φ T (mkF m pc' Ls (.int v :: rest))) : own_Goal p e below Φ T (mkF m pc Ls (.int y :: .int x :: rest)) := by
  subst hp hv
  exact own_pure X (fun X hx hby _ a => XS.iadd X.here hx rfl (hb hby hd) rfl a) k
theorem own_isub (X : own_St p l e R s m args below meth c Z own bytes ml rt nm n0 T h cells slots) {x y v : Int32} (hv : x - y = v) (hd : decode bytes pc = .ok (.isub, 1)) (hp : pc + 1 = pc') (k : own_Goal p e below Φ T (mkF m pc' Ls (.int v :: rest))) : own_Goal p e below Φ T (mkF m pc Ls (.int y :: .int x :: rest)) := by
  subst hp hv
  exact own_pure X (fun X hx hby _ a => XS.isub X.here hx rfl (hb hby hd) rfl a) k
theorem own_imul (X : own_St p l e R s m args below meth c Z own bytes ml rt nm n0 T h cells slots) {x y v : Int32} (hv : x * y = v) (hd : decode bytes pc = .ok (.imul, 1)) (hp : pc + 1 = pc') (k : own_Goal p e below Φ T (mkF m pc' Ls (.int v :: rest))) : own_Goal p e below Φ T (mkF m pc Ls (.int y :: .int x :: rest)) := by
  subst hp hv
  exact own_pure X (fun X hx hby _ a => XS.imul X.here hx rfl (hb hby hd) rfl a) k
theorem own_iand (X : own_St p l e R s m args below meth c Z own bytes ml rt nm n0 T h cells slots) {x y v : Int32} (hv : x &&& y = v) (hd : decode bytes pc = .ok (.iand, 1)) (hp : pc + 1 = pc') (k : own_Goal p e below Φ T (mkF m pc' Ls (.int v :: rest))) : own_Goal p e below Φ T (mkF m pc Ls (.int y :: .int x :: rest)) := by
  subst hp hv
  exact own_pure X (fun X hx hby _ a => XS.iand X.here hx rfl (hb hby hd) rfl a) k
theorem own_ior (X : own_St p l e R s m args below meth c Z own bytes ml rt nm n0 T h cells slots) {x y v : Int32} (hv : x ||| y = v) (hd : decode bytes pc = .ok (.ior, 1)) (hp : pc + 1 = pc') (k : own_Goal p e below Φ T (mkF m pc' Ls (.int v :: rest))) : own_Goal p e below Φ T (mkF m pc Ls (.int y :: .int x :: rest)) := by
  subst hp hv
  exact own_pure X (fun X hx hby _ a => XT.ior X.here hx rfl (hb hby hd) rfl a) k
theorem own_ixor (X : own_St p l e R s m args below meth c Z own bytes ml rt nm n0 T h cells slots) {x y v : Int32} (hv : x ^^^ y = v) (hd : decode bytes pc = .ok (.ixor, 1)) (hp : pc + 1 = pc') (k : own_Goal p e below Φ T (mkF m pc' Ls (.int v :: rest))) : own_Goal p e below Φ T (mkF m pc Ls (.int y :: .int x :: rest)) := by
  subst hp hv
  exact own_pure X (fun X hx hby _ a => XT.ixor X.here hx rfl (hb hby hd) rfl a) k
theorem own_ishl (X : own_St p l e R s m args below meth c Z own bytes ml rt nm n0 T h cells slots) {x y v : Int32} (hv : x <<< (y &&& 31) = v) (hd : decode bytes pc = .ok (.ishl, 1)) (hp : pc + 1 = pc') (k : own_Goal p e below Φ T (mkF m pc' Ls (.int v :: rest))) : own_Goal p e below Φ T (mkF m pc Ls (.int y :: .int x :: rest)) := by
  subst hp hv
  exact own_pure X (fun X hx hby _ a => XT.ishl X.here hx rfl (hb hby hd) rfl a) k
theorem own_ishr (X : own_St p l e R s m args below meth c Z own bytes ml rt nm n0 T h cells slots) {x y v : Int32} (hv : x >>> (y &&& 31) = v) (hd : decode bytes pc = .ok (.ishr, 1)) (hp : pc + 1 = pc') (k : own_Goal p e below Φ T (mkF m pc' Ls (.int v :: rest))) : own_Goal p e below Φ T (mkF m pc Ls (.int y :: .int x :: rest)) := by
  subst hp hv
  exact own_pure X (fun X hx hby _ a => XT.ishr X.here hx rfl (hb hby hd) rfl a) k
theorem own_iushr (X : own_St p l e R s m args below meth c Z own bytes ml rt nm n0 T h cells slots) {x y v : Int32} (hv : XT.ushr x y = v) (hd : decode bytes pc = .ok (.iushr, 1)) (hp : pc + 1 = pc') (k : own_Goal p e below Φ T (mkF m pc' Ls (.int v :: rest))) : own_Goal p e below Φ T (mkF m pc Ls (.int y :: .int x :: rest)) := by
  subst hp hv
  exact own_pure X (fun X hx hby _ a => XT.iushr X.here hx rfl (hb hby hd) rfl a) k
theorem own_irem (X : own_St p l e R s m args below meth c Z own bytes ml rt nm n0 T h cells slots) {x y v : Int32} (hy : y ≠ 0) (hv : x % y = v) (hd : decode bytes pc = .ok (.irem, 1)) (hp : pc + 1 = pc') (k : own_Goal p e below Φ T (mkF m pc' Ls (.int v :: rest))) : own_Goal p e below Φ T (mkF m pc Ls (.int y :: .int x :: rest)) := by
  subst hp hv
  exact own_pure X (fun X hx hby _ a => iremM X hx rfl (hb hby hd) rfl hy a) k
theorem own_ineg (X : own_St p l e R s m args below meth c Z own bytes ml rt nm n0 T h cells slots) {x v : Int32} (hv : -x = v) (hd : decode bytes pc = .ok (.ineg, 1)) (hp : pc + 1 = pc') (k : own_Goal p e below Φ T (mkF m pc' Ls (.int v :: rest))) : own_Goal p e below Φ T (mkF m pc Ls (.int x :: rest)) := by
  subst hp hv
  exact own_pure X (fun X hx hby _ a => XS.ineg X.here hx rfl (hb hby hd) rfl a) k
theorem own_ladd (X : own_St p l e R s m args below meth c Z own bytes ml rt nm n0 T h cells slots) {x y v : Int64} (hv : x + y = v) (hd : decode bytes pc = .ok (.ladd, 1)) (hp : pc + 1 = pc') (k : own_Goal p e below Φ T (mkF m pc' Ls (.long v :: rest))) : own_Goal p e below Φ T (mkF m pc Ls (.long y :: .long x :: rest)) := by
  subst hp hv
  exact own_pure X (fun X hx hby _ a => XT.ladd X.here hx rfl (hb hby hd) rfl a) k
theorem own_lsub (X : own_St p l e R s m args below meth c Z own bytes ml rt nm n0 T h cells slots) {x y v : Int64} (hv : x - y = v) (hd : decode bytes pc = .ok (.lsub, 1)) (hp : pc + 1 = pc') (k : own_Goal p e below Φ T (mkF m pc' Ls (.long v :: rest))) : own_Goal p e below Φ T (mkF m pc Ls (.long y :: .long x :: rest)) := by
  subst hp hv
  exact own_pure X (fun X hx hby _ a => XT.lsub X.here hx rfl (hb hby hd) rfl a) k
theorem own_lmul (X : own_St p l e R s m args below meth c Z own bytes ml rt nm n0 T h cells slots) {x y v : Int64} (hv : x * y = v) (hd : decode bytes pc = .ok (.lmul, 1)) (hp : pc + 1 = pc') (k : own_Goal p e below Φ T (mkF m pc' Ls (.long v :: rest))) : own_Goal p e below Φ T (mkF m pc Ls (.long y :: .long x :: rest)) := by
  subst hp hv
  exact own_pure X (fun X hx hby _ a => XT.lmul X.here hx rfl (hb hby hd) rfl a) k
theorem own_land (X : own_St p l e R s m args below meth c Z own bytes ml rt nm n0 T h cells slots) {x y v : Int64} (hv : x &&& y = v) (hd : decode bytes pc = .ok (.land, 1)) (hp : pc + 1 = pc') (k : own_Goal p e below Φ T (mkF m pc' Ls (.long v :: rest))) : own_Goal p e below Φ T (mkF m pc Ls (.long y :: .long x :: rest)) := by
  subst hp hv
  exact own_pure X (fun X hx hby _ a => XT.land X.here hx rfl (hb hby hd) rfl a) k
theorem own_lor (X : own_St p l e R s m args below meth c Z own bytes ml rt nm n0 T h cells slots) {x y v : Int64} (hv : x ||| y = v) (hd : decode bytes pc = .ok (.lor, 1)) (hp : pc + 1 = pc') (k : own_Goal p e below Φ T (mkF m pc' Ls (.long v :: rest))) : own_Goal p e below Φ T (mkF m pc Ls (.long y :: .long x :: rest)) := by
  subst hp hv
  exact own_pure X (fun X hx hby _ a => XT.lor X.here hx rfl (hb hby hd) rfl a) k
theorem own_ldiv (X : own_St p l e R s m args below meth c Z own bytes ml rt nm n0 T h cells slots) {x y v : Int64} (hy : y ≠ 0) (hv : x / y = v) (hd : decode bytes pc = .ok (.ldiv, 1)) (hp : pc + 1 = pc') (k : own_Goal p e below Φ T (mkF m pc' Ls (.long v :: rest))) : own_Goal p e below Φ T (mkF m pc Ls (.long y :: .long x :: rest)) := by
  subst hp hv
  exact own_pure X (fun X hx hby _ a => XT.ldiv X.here hx rfl (hb hby hd) rfl hy a) k
theorem own_lrem (X : own_St p l e R s m args below meth c Z own bytes ml rt nm n0 T h cells slots) {x y v : Int64} (hy : y ≠ 0) (hv : x - (x / y) * y = v) (hd : decode bytes pc = .ok (.lrem, 1)) (hp : pc + 1 = pc') (k : own_Goal p e below Φ T (mkF m pc' Ls (.long v :: rest))) : own_Goal p e below Φ T (mkF m pc Ls (.long y :: .long x :: rest)) := by
  subst hp hv
  exact own_pure X (fun X hx hby _ a => XT.lrem X.here hx rfl (hb hby hd) rfl hy a) k
theorem own_lneg (X : own_St p l e R s m args below meth c Z own bytes ml rt nm n0 T h cells slots) {x v : Int64} (hv : -x = v) (hd : decode bytes pc = .ok (.lneg, 1)) (hp : pc + 1 = pc') (k : own_Goal p e below Φ T (mkF m pc' Ls (.long v :: rest))) : own_Goal p e below Φ T (mkF m pc Ls (.long x :: rest)) := by
  subst hp hv
  exact own_pure X (fun X hx hby _ a => XT.lneg X.here hx rfl (hb hby hd) rfl a) k
theorem own_lshl (X : own_St p l e R s m args below meth c Z own bytes ml rt nm n0 T h cells slots) {x v : Int64} {y : Int32} (hv : x <<< (y.toInt64 &&& 63) = v) (hd : decode bytes pc = .ok (.lshl, 1)) (hp : pc + 1 = pc') (k : own_Goal p e below Φ T (mkF m pc' Ls (.long v :: rest))) : own_Goal p e below Φ T (mkF m pc Ls (.int y :: .long x :: rest)) := by
  subst hp hv
  exact own_pure X (fun X hx hby _ a => XT.lshl X.here hx rfl (hb hby hd) rfl a) k
theorem own_lcmp (X : own_St p l e R s m args below meth c Z own bytes ml rt nm n0 T h cells slots) {x y : Int64} {v : Int32} (hv : XT.cmpL x y = v) (hd : decode bytes pc = .ok (.lcmp, 1)) (hp : pc + 1 = pc') (k : own_Goal p e below Φ T (mkF m pc' Ls (.int v :: rest))) : own_Goal p e below Φ T (mkF m pc Ls (.long y :: .long x :: rest)) := by
  subst hp hv
  exact own_pure X (fun X hx hby _ a => XT.lcmp X.here hx rfl (hb hby hd) rfl a) k
theorem own_i2l (X : own_St p l e R s m args below meth c Z own bytes ml rt nm n0 T h cells slots) {x : Int32} {v : Int64} (hv : x.toInt64 = v) (hd : decode bytes pc = .ok (.i2l, 1)) (hp : pc + 1 = pc') (k : own_Goal p e below Φ T (mkF m pc' Ls (.long v :: rest))) : own_Goal p e below Φ T (mkF m pc Ls (.int x :: rest)) := by
  subst hp hv
  exact own_pure X (fun X hx hby _ a => XT.i2l X.here hx rfl (hb hby hd) rfl a) k
theorem own_l2i (X : own_St p l e R s m args below meth c Z own bytes ml rt nm n0 T h cells slots) {x : Int64} {v : Int32} (hv : x.toInt32 = v) (hd : decode bytes pc = .ok (.l2i, 1)) (hp : pc + 1 = pc') (k : own_Goal p e below Φ T (mkF m pc' Ls (.int v :: rest))) : own_Goal p e below Φ T (mkF m pc Ls (.long x :: rest)) := by
  subst hp hv
  exact own_pure X (fun X hx hby _ a => XT.l2i X.here hx rfl (hb hby hd) rfl a) k
theorem own_i2c (X : own_St p l e R s m args below meth c Z own bytes ml rt nm n0 T h cells slots) {x v : Int32} (hv : x.toUInt32.toUInt16.toUInt32.toInt32 = v) (hd : decode bytes pc = .ok (.i2c, 1)) (hp : pc + 1 = pc') (k : own_Goal p e below Φ T (mkF m pc' Ls (.int v :: rest))) : own_Goal p e below Φ T (mkF m pc Ls (.int x :: rest)) := by
  subst hp hv
  exact own_pure X (fun X hx hby _ a => XT.i2c X.here hx rfl (hb hby hd) rfl a) k
theorem own_i2d (X : own_St p l e R s m args below meth c Z own bytes ml rt nm n0 T h cells slots) {x : Int32} {v : UInt64} (hv : FP.i2d x = v) (hd : decode bytes pc = .ok (.i2d, 1)) (hp : pc + 1 = pc') (k : own_Goal p e below Φ T (mkF m pc' Ls (.double v :: rest))) : own_Goal p e below Φ T (mkF m pc Ls (.int x :: rest)) := by
  subst hp
  exact own_pure X (fun X hx hby _ a => XS.i2dS X.here hx rfl (hb hby hd) rfl hv a) k
theorem own_l2d (X : own_St p l e R s m args below meth c Z own bytes ml rt nm n0 T h cells slots) {x : Int64} {v : UInt64} (hv : FP.l2d x = v) (hd : decode bytes pc = .ok (.l2d, 1)) (hp : pc + 1 = pc') (k : own_Goal p e below Φ T (mkF m pc' Ls (.double v :: rest))) : own_Goal p e below Φ T (mkF m pc Ls (.long x :: rest)) := by
  subst hp
  exact own_pure X (fun X hx hby _ a => XS.l2dS X.here hx rfl (hb hby hd) rfl hv a) k
theorem own_dadd (X : own_St p l e R s m args below meth c Z own bytes ml rt nm n0 T h cells slots) {x y v : UInt64} (hv : FP.dadd x y = v) (hn : Jvm.Free.Fl.NoNaN64 v) (hd : decode bytes pc = .ok (.dadd, 1)) (hp : pc + 1 = pc') (k : own_Goal p e below Φ T (mkF m pc' Ls (.double v :: rest))) : own_Goal p e below Φ T (mkF m pc Ls (.double y :: .double x :: rest)) := by
  subst hp
  exact own_pure X (fun X hx hby _ a => XS.daddS X.here hx rfl (hb hby hd) rfl (by rw [hv]; exact hn) hv a) k
theorem own_dsub (X : own_St p l e R s m args below meth c Z own bytes ml rt nm n0 T h cells slots) {x y v : UInt64} (hv : FP.dsub x y = v) (hn : Jvm.Free.Fl.NoNaN64 v) (hd : decode bytes pc = .ok (.dsub, 1)) (hp : pc + 1 = pc') (k : own_Goal p e below Φ T (mkF m pc' Ls (.double v :: rest))) : own_Goal p e below Φ T (mkF m pc Ls (.double y :: .double x :: rest)) := by
  subst hp
  exact own_pure X (fun X hx hby _ a => XS.dsubS X.here hx rfl (hb hby hd) rfl (by rw [hv]; exact hn) hv a) k
theorem own_dmul (X : own_St p l e R s m args below meth c Z own bytes ml rt nm n0 T h cells slots) {x y v : UInt64} (hv : FP.dmul x y = v) (hn : Jvm.Free.Fl.NoNaN64 v) (hd : decode bytes pc = .ok (.dmul, 1)) (hp : pc + 1 = pc') (k : own_Goal p e below Φ T (mkF m pc' Ls (.double v :: rest))) : own_Goal p e below Φ T (mkF m pc Ls (.double y :: .double x :: rest)) := by
  subst hp
  exact own_pure X (fun X hx hby _ a => XS.dmulS X.here hx rfl (hb hby hd) rfl (by rw [hv]; exact hn) hv a) k
theorem own_ddiv (X : own_St p l e R s m args below meth c Z own bytes ml rt nm n0 T h cells slots) {x y v : UInt64} (hv : FP.ddiv x y = v) (hn : Jvm.Free.Fl.NoNaN64 v) (hd : decode bytes pc = .ok (.ddiv, 1)) (hp : pc + 1 = pc') (k : own_Goal p e below Φ T (mkF m pc' Ls (.double v :: rest))) : own_Goal p e below Φ T (mkF m pc Ls (.double y :: .double x :: rest)) := by
  subst hp
  exact own_pure X (fun X hx hby _ a => XS.ddivS X.here hx rfl (hb hby hd) rfl (by rw [hv]; exact hn) hv a) k
theorem own_dneg (X : own_St p l e R s m args below meth c Z own bytes ml rt nm n0 T h cells slots) {x v : UInt64} (hv : FP.dneg x = v) (hd : decode bytes pc = .ok (.dneg, 1)) (hp : pc + 1 = pc') (k : own_Goal p e below Φ T (mkF m pc' Ls (.double v :: rest))) : own_Goal p e below Φ T (mkF m pc Ls (.double x :: rest)) := by
  subst hp
  exact own_pure X (fun X hx hby _ a => XS.dnegS X.here hx rfl (hb hby hd) rfl hv a) k
theorem own_dcmp (X : own_St p l e R s m args below meth c Z own bytes ml rt nm n0 T h cells slots) {o : CmpOp} {x y : UInt64} {v : Int32} (hv : cmpValue (FP.dcmp x y) o = v) (hd : decode bytes pc = .ok (.dcmp o, 1)) (hp : pc + 1 = pc') (k : own_Goal p e below Φ T (mkF m pc' Ls (.int v :: rest))) : own_Goal p e below Φ T (mkF m pc Ls (.double y :: .double x :: rest)) := by
  subst hp
  exact own_pure X (fun X hx hby _ a => XS.dcmpS X.here hx rfl (hb hby hd) rfl hv a) k
theorem own_dremS {tb : Tables} [Ours tb] {e : Env} {below : List Frame} {T target : State} {m : MethodId} {c : Code} {g : JFrame} (h : At T m c below) (hx : tb.exec = Jvm.exec) (hg : g.method = m) {x y v : UInt64} {rest : List Value} (hd : decode c.code g.pc = .ok (.drem, 1)) (hs : g.stack = .double y :: .double x :: rest) (hn : Jvm.Free.Fl.NoNaN64 (FP.drem x y)) (hv : FP.drem x y = v)
    (hr : Steps tb e below (T.setTop { g with pc := g.pc + 1, stack := .double v :: rest }) target) : Steps tb e below (T.setTop g) target := by
  subst hg
  subst hv
  obtain ⟨gm, gp, gl, gs, gk, ge, gr⟩ := g
  simp only at hs hd
  subst hs
  jvm_step h [h.top, hx, hd, Op.drem.at_number h.top hn]
  exact hr
theorem own_drem (X : own_St p l e R s m args below meth c Z own bytes ml rt nm n0 T h cells slots) {x y v : UInt64} (hv : FP.drem x y = v) (hn : Jvm.Free.Fl.NoNaN64 v) (hd : decode bytes pc = .ok (.drem, 1)) (hp : pc + 1 = pc') (k : own_Goal p e below Φ T (mkF m pc' Ls (.double v :: rest))) : own_Goal p e below Φ T (mkF m pc Ls (.double y :: .double x :: rest)) := by
  subst hp
  exact own_pure X (fun X hx hby _ a => own_dremS X.here hx rfl (hb hby hd) rfl (by rw [hv]; exact hn) hv a) k
theorem own_dup (X : own_St p l e R s m args below meth c Z own bytes ml rt nm n0 T h cells slots) {x : Value} (hc : x.category = 1) (hd : decode bytes pc = .ok (.dup, 1)) (hp : pc + 1 = pc') (k : own_Goal p e below Φ T (mkF m pc' Ls (x :: x :: rest))) : own_Goal p e below Φ T (mkF m pc Ls (x :: rest)) := by
  subst hp
  exact own_pure X (fun X hx hby _ a => XS.dup X.here hx rfl (hb hby hd) rfl hc a) k
theorem own_dup2 (X : own_St p l e R s m args below meth c Z own bytes ml rt nm n0 T h cells slots) {x y : Value} (hc : x.category = 1) (hc' : y.category = 1) (hd : decode bytes pc = .ok (.dup2, 1)) (hp : pc + 1 = pc') (k : own_Goal p e below Φ T (mkF m pc' Ls (x :: y :: x :: y :: rest))) : own_Goal p e below Φ T (mkF m pc Ls (x :: y :: rest)) := by
  subst hp
  exact own_pure X (fun X hx hby _ a => XT.dup2 X.here hx rfl (hb hby hd) rfl hc hc' a) k
theorem own_pop (X : own_St p l e R s m args below meth c Z own bytes ml rt nm n0 T h cells slots) {x : Value} (hc : x.category = 1) (hd : decode bytes pc = .ok (.pop, 1)) (hp : pc + 1 = pc') (k : own_Goal p e below Φ T (mkF m pc' Ls (rest))) : own_Goal p e below Φ T (mkF m pc Ls (x :: rest)) := by
  subst hp
  exact own_pure X (fun X hx hby _ a => XT.pop X.here hx rfl (hb hby hd) rfl hc a) k
theorem own_goto (X : own_St p l e R s m args below meth c Z own bytes ml rt nm n0 T h cells slots) {o : Int}  (hd : decode bytes pc = .ok (.goto o, 3)) (ho : 0 ≤ (pc : Int) + o) (hp : ((pc : Int) + o).toNat = pc') (k : own_Goal p e below Φ T (mkF m pc' Ls rest)) : own_Goal p e below Φ T (mkF m pc Ls (rest)) := by
  exact own_pure X (fun X hx hby _ a => XS.goto X.here hx rfl rfl (hb hby hd) ho hp a) k
theorem own_ifT (X : own_St p l e R s m args below meth c Z own bytes ml rt nm n0 T h cells slots) {o : Int} {cd : ClassFile.Cond} {x : Int32} (hc : ifCond.holds cd x = true) (hd : decode bytes pc = .ok (.ifCond cd o, 3)) (ho : 0 ≤ (pc : Int) + o) (hp : ((pc : Int) + o).toNat = pc') (k : own_Goal p e below Φ T (mkF m pc' Ls rest)) : own_Goal p e below Φ T (mkF m pc Ls (.int x :: rest)) := by
  exact own_pure X (fun X hx hby _ a => XS.ifYes X.here hx rfl rfl (hb hby hd) rfl hc ho hp a) k
theorem own_ifF (X : own_St p l e R s m args below meth c Z own bytes ml rt nm n0 T h cells slots) {o : Int} {cd : ClassFile.Cond} {x : Int32} (hc : ifCond.holds cd x = false) (hd : decode bytes pc = .ok (.ifCond cd o, 3)) (hp : pc + 3 = pc') (k : own_Goal p e below Φ T (mkF m pc' Ls rest)) : own_Goal p e below Φ T (mkF m pc Ls (.int x :: rest)) := by
  subst hp
  exact own_pure X (fun X hx hby _ a => XS.ifNo X.here hx rfl (hb hby hd) rfl hc a) k
theorem own_icmpT (X : own_St p l e R s m args below meth c Z own bytes ml rt nm n0 T h cells slots) {o : Int} {cd : ClassFile.Cond} {x y : Int32} (hc : if_icmp.holds cd x y = true) (hd : decode bytes pc = .ok (.if_icmp cd o, 3)) (ho : 0 ≤ (pc : Int) + o) (hp : ((pc : Int) + o).toNat = pc') (k : own_Goal p e below Φ T (mkF m pc' Ls rest)) : own_Goal p e below Φ T (mkF m pc Ls (.int y :: .int x :: rest)) := by
  exact own_pure X (fun X hx hby _ a => XS.icmpYes X.here hx rfl rfl (hb hby hd) rfl hc ho hp a) k
theorem own_icmpF (X : own_St p l e R s m args below meth c Z own bytes ml rt nm n0 T h cells slots) {o : Int} {cd : ClassFile.Cond} {x y : Int32} (hc : if_icmp.holds cd x y = false) (hd : decode bytes pc = .ok (.if_icmp cd o, 3)) (hp : pc + 3 = pc') (k : own_Goal p e below Φ T (mkF m pc' Ls rest)) : own_Goal p e below Φ T (mkF m pc Ls (.int y :: .int x :: rest)) := by
  subst hp
  exact own_pure X (fun X hx hby _ a => XS.icmpNo X.here hx rfl (hb hby hd) rfl hc a) k
theorem own_ifnullT (X : own_St p l e R s m args below meth c Z own bytes ml rt nm n0 T h cells slots) {o : Int}  (hd : decode bytes pc = .ok (.ifnull o, 3)) (ho : 0 ≤ (pc : Int) + o) (hp : ((pc : Int) + o).toNat = pc') (k : own_Goal p e below Φ T (mkF m pc' Ls rest)) : own_Goal p e below Φ T (mkF m pc Ls (.null :: rest)) := by
  exact own_pure X (fun X hx hby _ a => XS.ifnullYes X.here hx rfl rfl (hb hby hd) rfl ho hp a) k
theorem own_ifnullF (X : own_St p l e R s m args below meth c Z own bytes ml rt nm n0 T h cells slots) {o : Int} {b : Addr} (hd : decode bytes pc = .ok (.ifnull o, 3)) (hp : pc + 3 = pc') (k : own_Goal p e below Φ T (mkF m pc' Ls rest)) : own_Goal p e below Φ T (mkF m pc Ls (.ref b :: rest)) := by
  subst hp
  exact own_pure X (fun X hx hby _ a => XS.ifnullNo X.here hx rfl (hb hby hd) rfl a) k
theorem own_ifnonnullT (X : own_St p l e R s m args below meth c Z own bytes ml rt nm n0 T h cells slots) {o : Int} {b : Addr} (hd : decode bytes pc = .ok (.ifnonnull o, 3)) (ho : 0 ≤ (pc : Int) + o) (hp : ((pc : Int) + o).toNat = pc') (k : own_Goal p e below Φ T (mkF m pc' Ls rest)) : own_Goal p e below Φ T (mkF m pc Ls (.ref b :: rest)) := by
  exact own_pure X (fun X hx hby _ a => XT.ifnonnullYes X.here hx rfl rfl (hb hby hd) rfl ho hp a) k
theorem own_ifnonnullF (X : own_St p l e R s m args below meth c Z own bytes ml rt nm n0 T h cells slots) {o : Int}  (hd : decode bytes pc = .ok (.ifnonnull o, 3)) (hp : pc + 3 = pc') (k : own_Goal p e below Φ T (mkF m pc' Ls rest)) : own_Goal p e below Φ T (mkF m pc Ls (.null :: rest)) := by
  subst hp
  exact own_pure X (fun X hx hby _ a => XT.ifnonnullNo X.here hx rfl (hb hby hd) rfl a) k
theorem own_ldcI (X : own_St p l e R s m args below meth c Z own bytes ml rt nm n0 T h cells slots) {i : Nat} {v : Int32} (w : (Jvm.Cond.constant own i v).before a0 Z = true) (hd : decode bytes pc = .ok (.ldc i, 2)) (hp : pc + 2 = pc') (k : own_Goal p e below Φ T (mkF m pc' Ls (.int v :: rest))) : own_Goal p e below Φ T (mkF m pc Ls rest) := by
  subst hp
  obtain ⟨locs, X, -, -, -, hx, hZ, hown, hby, -⟩ := X
  exact own_step (fun t a => X.ldcInt hx hown (mvT hZ w) (g := mkF m pc Ls rest) rfl (hb hby hd) t a) k
theorem own_ldcJ (X : own_St p l e R s m args below meth c Z own bytes ml rt nm n0 T h cells slots) {i : Nat} {v : Int64} (w : (Jvm.Cond.constantLong own i v).before a0 Z = true) (hd : decode bytes pc = .ok (.ldc2_w i, 3)) (hp : pc + 3 = pc') (k : own_Goal p e below Φ T (mkF m pc' Ls (.long v :: rest))) : own_Goal p e below Φ T (mkF m pc Ls rest) := by
  subst hp
  obtain ⟨locs, X, -, -, -, hx, hZ, hown, hby, -⟩ := X
  exact own_step (fun t a => X.ldc2Long hx hown (mvT hZ w) (g := mkF m pc Ls rest) rfl (hb hby hd) t a) k
theorem own_ldcD (X : own_St p l e R s m args below meth c Z own bytes ml rt nm n0 T h cells slots) {i : Nat} {v : UInt64} (w : (Jvm.Cond.constantDouble own i v).before a0 Z = true) (hd : decode bytes pc = .ok (.ldc2_w i, 3)) (hp : pc + 3 = pc') (k : own_Goal p e below Φ T (mkF m pc' Ls (.double v :: rest))) : own_Goal p e below Φ T (mkF m pc Ls rest) := by
  subst hp
  obtain ⟨locs, X, -, -, -, hx, hZ, hown, hby, -⟩ := X
  exact own_step (fun t a => X.ldc2DoubleC hx hown (mvT hZ w) (g := mkF m pc Ls rest) rfl (hb hby hd) t a) k
theorem own_retI (X : own_St p l e R s m args below meth c Z own bytes ml rt nm n0 T h cells slots) {v : Int32} (hd : decode bytes pc = .ok (.ireturn, 1)) (hr : rt = some .int) (hc : cells ≤ R.cells) (hs : slots ≤ R.slots) (q : Q (some (.int v)) h) : own_Goal p e below (own_Fin below s R n0 Q) T (mkF m pc Ls (.int v :: rest)) := by
  obtain ⟨locs, X, N, e1, n1, hx, hZ, hown, hby, -, hrt, hlk, -⟩ := X
  obtain ⟨fs, hl, hrun, hended, hW, hsame⟩ := X.leave (v := some (.int v)) (fun z => by rw [hrt, hr] at z; cases z) hlk
  exact ⟨_, _, retOut X hx (hrt.trans hr) rfl (Or.inl ⟨rfl, Or.inl rfl, _, rfl⟩) (hb hby hd) hl, hrun, hended, _, _, rfl, ⟨⟨by show Q _ T.heap; rw [e1]; exact q, by show n0 ≤ T.heap.size; rw [e1]; exact n1⟩, N⟩, ⟨_, rfl⟩, hW, hsame.mono hc hs⟩
theorem own_retJ (X : own_St p l e R s m args below meth c Z own bytes ml rt nm n0 T h cells slots) {v : Int64} (hd : decode bytes pc = .ok (.lreturn, 1)) (hr : rt = some .long) (hc : cells ≤ R.cells) (hs : slots ≤ R.slots) (q : Q (some (.long v)) h) : own_Goal p e below (own_Fin below s R n0 Q) T (mkF m pc Ls (.long v :: rest)) := by
  obtain ⟨locs, X, N, e1, n1, hx, hZ, hown, hby, -, hrt, hlk, -⟩ := X
  obtain ⟨fs, hl, hrun, hended, hW, hsame⟩ := X.leave (v := some (.long v)) (fun z => by rw [hrt, hr] at z; cases z) hlk
  exact ⟨_, _, retOut X hx (hrt.trans hr) rfl (Or.inr (Or.inl ⟨rfl, rfl, _, rfl⟩)) (hb hby hd) hl, hrun, hended, _, _, rfl, ⟨⟨by show Q _ T.heap; rw [e1]; exact q, by show n0 ≤ T.heap.size; rw [e1]; exact n1⟩, N⟩, ⟨_, rfl⟩, hW, hsame.mono hc hs⟩
theorem own_retD (X : own_St p l e R s m args below meth c Z own bytes ml rt nm n0 T h cells slots) {v : UInt64} (hd : decode bytes pc = .ok (.dreturn, 1)) (hr : rt = some .double) (hc : cells ≤ R.cells) (hs : slots ≤ R.slots) (q : Q (some (.double v)) h) : own_Goal p e below (own_Fin below s R n0 Q) T (mkF m pc Ls (.double v :: rest)) := by
  obtain ⟨locs, X, N, e1, n1, hx, hZ, hown, hby, -, hrt, hlk, -⟩ := X
  obtain ⟨fs, hl, hrun, hended, hW, hsame⟩ := X.leave (v := some (.double v)) (fun z => by rw [hrt, hr] at z; cases z) hlk
  exact ⟨_, _, retOut X hx (hrt.trans hr) rfl (Or.inr (Or.inr (Or.inl ⟨rfl, rfl, _, rfl⟩))) (hb hby hd) hl, hrun, hended, _, _, rfl, ⟨⟨by show Q _ T.heap; rw [e1]; exact q, by show n0 ≤ T.heap.size; rw [e1]; exact n1⟩, N⟩, ⟨_, rfl⟩, hW, hsame.mono hc hs⟩
theorem own_retZ (X : own_St p l e R s m args below meth c Z own bytes ml rt nm n0 T h cells slots) {v : Int32} (hv : v = 0 ∨ v = 1) (hd : decode bytes pc = .ok (.ireturn, 1)) (hr : rt = some .boolean) (hc : cells ≤ R.cells) (hs : slots ≤ R.slots) (q : Q (some (.int v)) h) : own_Goal p e below (own_Fin below s R n0 Q) T (mkF m pc Ls (.int v :: rest)) := by
  obtain ⟨locs, X, N, e1, n1, hx, hZ, hown, hby, -, hrt, hlk, -⟩ := X
  obtain ⟨fs, hl, hrun, hended, hW, hsame⟩ := X.leave (v := some (.int v)) (fun z => by rw [hrt, hr] at z; cases z) hlk
  have hn : nar .boolean v = v := by rcases hv with rfl | rfl <;> rfl
  exact ⟨_, _, retN X hx (t := .boolean) (hrt.trans hr) (by simp) (hb hby hd) (by rw [hn]; exact hl), hrun, hended, _, _, rfl, ⟨⟨by show Q _ T.heap; rw [e1]; exact q, by show n0 ≤ T.heap.size; rw [e1]; exact n1⟩, N⟩, ⟨_, rfl⟩, hW, hsame.mono hc hs⟩
theorem own_retA (X : own_St p l e R s m args below meth c Z own bytes ml rt nm n0 T h cells slots) {b : Addr} {t : FieldType} (ht : t.isReference = true) (hd : decode bytes pc = .ok (.areturn, 1)) (hr : rt = some t) (hc : cells ≤ R.cells) (hs : slots ≤ R.slots) (q : Q (some (.ref b)) h) : own_Goal p e below (own_Fin below s R n0 Q) T (mkF m pc Ls (.ref b :: rest)) := by
  obtain ⟨locs, X, N, e1, n1, hx, hZ, hown, hby, -, hrt, hlk, -⟩ := X
  obtain ⟨fs, hl, hrun, hended, hW, hsame⟩ := X.leave (v := some (.ref b)) (fun z => by rw [hrt, hr] at z; cases z) hlk
  have hn : narrow t (.ref b) = .ref b := by cases t <;> rfl
  exact ⟨_, _, retOut X hx (hrt.trans hr) hn (Or.inr (Or.inr (Or.inr (Or.inr ⟨rfl, ht, rfl⟩)))) (hb hby hd) hl, hrun, hended, _, _, rfl, ⟨⟨by show Q _ T.heap; rw [e1]; exact q, by show n0 ≤ T.heap.size; rw [e1]; exact n1⟩, N⟩, ⟨_, rfl⟩, hW, hsame.mono hc hs⟩
theorem own_retV (X : own_St p l e R s m args below meth c Z own bytes ml rt nm n0 T h cells slots) (hd : decode bytes pc = .ok (.return_, 1)) (hr : rt = none) (hc : cells ≤ R.cells) (hs : slots ≤ R.slots) (q : Q none h) : own_Goal p e below (own_Fin below s R n0 Q) T (mkF m pc Ls []) := by
  obtain ⟨locs, X, N, e1, n1, hx, hZ, hown, hby, -, hrt, hlk, -⟩ := X
  obtain ⟨fs, hl, hrun, hended, hW, hsame⟩ := X.leave (v := none) (fun _ => rfl) hlk
  exact ⟨_, _, X.returnOut hx (hrt.trans hr) (hb hby hd) hl, hrun, hended, _, _, rfl, ⟨⟨by show Q _ T.heap; rw [e1]; exact q, by show n0 ≤ T.heap.size; rw [e1]; exact n1⟩, N⟩, ⟨_, rfl⟩, hW, hsame.mono hc hs⟩
/-- an array and all it holds -/
def own_Vec (Z : State) (h : Heap) (a : Addr) (ty : FieldType) (vs : List Value) : Prop := ∃ c : Cell, Arr Z h a c ty ∧ c.slots = vs.toArray
theorem own_Vec.lt {a : Addr} {ty : FieldType} {vs : List Value} (F : own_Vec Z h a ty vs) : a < h.size := by obtain ⟨c, A, -⟩ := F; exact A.lt
theorem own_Vec.ext {h' : Heap} {a : Addr} {ty : FieldType} {vs : List Value} (F : own_Vec Z h a ty vs) (E : Ext h h') : own_Vec Z h' a ty vs := by obtain ⟨c, A, r⟩ := F; exact ⟨c, A.ext E, r⟩
theorem own_Vec.other {h' : Heap} {a b : Addr} {sl : Nat} {v : Value} {ty : FieldType} {vs : List Value} (F : own_Vec Z h b ty vs) (W : Wr h h' a sl v) (q : b ≠ a) : own_Vec Z h' b ty vs := by obtain ⟨c, A, r⟩ := F; exact ⟨c, A.other W q, r⟩
theorem own_Vec.keep {h' : Heap} {ws : List Addr} {a : Addr} {ty : FieldType} {vs : List Value} (F : own_Vec Z h a ty vs) (K : Keep h h' ws) (q : a ∉ ws) : own_Vec Z h' a ty vs := by obtain ⟨c, A, r⟩ := F; exact ⟨c, ⟨K.2.1 a c A.1 q, A.2⟩, r⟩
theorem own_Vec.set {h' : Heap} {a : Addr} {i : Nat} {v : Value} {ty : FieldType} {vs : List Value} (F : own_Vec Z h a ty vs) (W : Wr h h' a i v) : own_Vec Z h' a ty (vs.set i v) := by
  obtain ⟨c, A, r⟩ := F
  refine ⟨_, A.same W, ?_⟩
  show c.slots.setIfInBounds i v = _
  rw [r]; simp
theorem own_lt_ne {a b : Addr} (q : b < h.size) (g : a = h.size) : b ≠ a := by subst g; exact Nat.ne_of_lt q
/-- an index in an array, as the library's laws ask it -/
theorem own_in {n i : Nat} {j : Int32} (hj : j.toNatClampNeg = i) (h0 : ¬ j < 0) (hi : i < n) : ¬ (j < 0 ∨ n ≤ j.toNatClampNeg) := by
  rw [hj]; rintro (q | q)
  · exact h0 q
  · omega
theorem own_len (X : own_St p l e R s m args below meth c Z own bytes ml rt nm n0 T h cells slots) {a : Addr} {ty : FieldType} {vs : List Value} (F : own_Vec Z h a ty vs) {v : Int32} (hv : vs.length.toInt32 = v) (hd : decode bytes pc = .ok (.arraylength, 1)) (hp : pc + 1 = pc') (k : own_Goal p e below Φ T (mkF m pc' Ls (.int v :: rest))) : own_Goal p e below Φ T (mkF m pc Ls (.ref a :: rest)) := by
  subst hp
  obtain ⟨locs, X, N, e1, -, hx, hZ, hown, hby, -⟩ := X
  obtain ⟨cl, A, r⟩ := F
  have e2 : cl.slots.size.toInt32 = v := by rw [r]; simpa using hv
  exact own_step (fun t a => X.arraylength hx (cell := cl) (by rw [e1]; exact A.1) (State.isArrayOf_alike hZ.alike A.2.1) (g := mkF m pc Ls _) rfl rfl (hb hby hd) t (by rw [e2]; exact a)) k
theorem own_iaload (X : own_St p l e R s m args below meth c Z own bytes ml rt nm n0 T h cells slots) {a : Addr} {vs : List Value} (F : own_Vec Z h a .int vs) {j : Int32} {i : Nat} {v : Value} (hj : j.toNatClampNeg = i) (h0 : ¬ j < 0) (hv : vs[i]? = some v) (hd : decode bytes pc = .ok (.iaload, 1)) (hp : pc + 1 = pc') (k : own_Goal p e below Φ T (mkF m pc' Ls (v :: rest))) : own_Goal p e below Φ T (mkF m pc Ls (.int j :: .ref a :: rest)) := by
  subst hp
  obtain ⟨locs, X, N, e1, -, hx, hZ, hown, hby, -⟩ := X
  obtain ⟨cl, A, r⟩ := F
  have q1 : i < vs.length := (List.getElem?_eq_some_iff.mp hv).1
  exact own_step (fun t a => X.iaload hx (cell := cl) (by rw [e1]; exact A.1) (State.isArrayOf_alike hZ.alike A.2.1) A.2.2 (own_in hj h0 (by rw [r]; simpa using q1)) (by rw [hj, r]; simpa using hv) (g := mkF m pc Ls _) rfl rfl (hb hby hd) t a) k
theorem own_laload (X : own_St p l e R s m args below meth c Z own bytes ml rt nm n0 T h cells slots) {a : Addr} {vs : List Value} (F : own_Vec Z h a .long vs) {j : Int32} {i : Nat} {v : Value} (hj : j.toNatClampNeg = i) (h0 : ¬ j < 0) (hv : vs[i]? = some v) (hd : decode bytes pc = .ok (.laload, 1)) (hp : pc + 1 = pc') (k : own_Goal p e below Φ T (mkF m pc' Ls (v :: rest))) : own_Goal p e below Φ T (mkF m pc Ls (.int j :: .ref a :: rest)) := by
  subst hp
  obtain ⟨locs, X, N, e1, -, hx, hZ, hown, hby, -⟩ := X
  obtain ⟨cl, A, r⟩ := F
  have q1 : i < vs.length := (List.getElem?_eq_some_iff.mp hv).1
  exact own_step (fun t a => X.laload hx (cell := cl) (by rw [e1]; exact A.1) (State.isArrayOf_alike hZ.alike A.2.1) A.2.2 (own_in hj h0 (by rw [r]; simpa using q1)) (by rw [hj, r]; simpa using hv) (g := mkF m pc Ls _) rfl rfl (hb hby hd) t a) k
theorem own_daload (X : own_St p l e R s m args below meth c Z own bytes ml rt nm n0 T h cells slots) {a : Addr} {vs : List Value} (F : own_Vec Z h a .double vs) {j : Int32} {i : Nat} {v : Value} (hj : j.toNatClampNeg = i) (h0 : ¬ j < 0) (hv : vs[i]? = some v) (hd : decode bytes pc = .ok (.daload, 1)) (hp : pc + 1 = pc') (k : own_Goal p e below Φ T (mkF m pc' Ls (v :: rest))) : own_Goal p e below Φ T (mkF m pc Ls (.int j :: .ref a :: rest)) := by
  subst hp
  obtain ⟨locs, X, N, e1, -, hx, hZ, hown, hby, -⟩ := X
  obtain ⟨cl, A, r⟩ := F
  have q1 : i < vs.length := (List.getElem?_eq_some_iff.mp hv).1
  exact own_step (fun t a => X.daload hx (cell := cl) (by rw [e1]; exact A.1) (State.isArrayOf_alike hZ.alike A.2.1) A.2.2 (own_in hj h0 (by rw [r]; simpa using q1)) (by rw [hj, r]; simpa using hv) (g := mkF m pc Ls _) rfl rfl (hb hby hd) t a) k
theorem own_iastore (X : own_St p l e R s m args below meth c Z own bytes ml rt nm n0 T h cells slots) {a : Addr} {vs : List Value} (F : own_Vec Z h a .int vs) (ha : n0 ≤ a) {j : Int32} {i : Nat} {x : Int32} (hj : j.toNatClampNeg = i) (h0 : ¬ j < 0) (hi : i < vs.length) (hd : decode bytes pc = .ok (.iastore, 1)) (hp : pc + 1 = pc')
    (k : ∀ T' h', own_St p l e R s m args below meth c Z own bytes ml rt nm n0 T' h' cells slots → Wr h h' a i (.int x) → own_Vec Z h' a .int (vs.set i (.int x)) → own_Goal p e below Φ T' (mkF m pc' Ls rest)) : own_Goal p e below Φ T (mkF m pc Ls (.int x :: .int j :: .ref a :: rest)) := by
  subst hp
  obtain ⟨locs, X, N, e1, n1, hx, hZ, hown, hby, r0⟩ := X
  have F0 := F
  obtain ⟨cl, A, r⟩ := F
  obtain ⟨T', h', X', e', W, st⟩ := stI X hx hZ e1 A (own_in hj h0 (by rw [r]; simpa using hi)) (g := mkF m pc Ls _) rfl rfl (hb hby hd)
  have N' := Fr.snoc X' N ha
  rw [hj] at W
  exact own_step st (k T' h' ⟨_, X', N', e', by rw [W.size]; exact n1, hx, hZ, hown, hby, r0⟩ W (F0.set W))
theorem own_dastore (X : own_St p l e R s m args below meth c Z own bytes ml rt nm n0 T h cells slots) {a : Addr} {vs : List Value} (F : own_Vec Z h a .double vs) (ha : n0 ≤ a) {j : Int32} {i : Nat} {x : UInt64} (hj : j.toNatClampNeg = i) (h0 : ¬ j < 0) (hi : i < vs.length) (hd : decode bytes pc = .ok (.dastore, 1)) (hp : pc + 1 = pc')
    (k : ∀ T' h', own_St p l e R s m args below meth c Z own bytes ml rt nm n0 T' h' cells slots → Wr h h' a i (.double x) → own_Vec Z h' a .double (vs.set i (.double x)) → own_Goal p e below Φ T' (mkF m pc' Ls rest)) : own_Goal p e below Φ T (mkF m pc Ls (.double x :: .int j :: .ref a :: rest)) := by
  subst hp
  obtain ⟨locs, X, N, e1, n1, hx, hZ, hown, hby, r0⟩ := X
  have F0 := F
  obtain ⟨cl, A, r⟩ := F
  obtain ⟨T', h', X', e', W, st⟩ := stD X hx hZ e1 A (own_in hj h0 (by rw [r]; simpa using hi)) (g := mkF m pc Ls _) rfl rfl (hb hby hd)
  have N' := Fr.snoc X' N ha
  rw [hj] at W
  exact own_step st (k T' h' ⟨_, X', N', e', by rw [W.size]; exact n1, hx, hZ, hown, hby, r0⟩ W (F0.set W))
theorem own_newarray (X : own_St p l e R s m args below meth c Z own bytes ml rt nm n0 T h cells slots) {aty : ArrayType} {ty : FieldType} (hty : newarray.typeOf aty = ty) (w : (Jvm.Cond.arrayClass ty).before a0 Z = true) {j : Int32} {n : Nat} {vs : List Value} (hj : j.toNatClampNeg = n) (h0 : ¬ j < 0) (hn : n ≤ 1000) (hvs : List.replicate n (defaultValue ty) = vs) {cells' slots' : Nat} (hc' : cells + 1 = cells') (hs' : slots + n = slots') (hc : cells' ≤ R.cells) (hs : slots' ≤ R.slots) (hd : decode bytes pc = .ok (.newarray aty, 2)) (hp : pc + 2 = pc')
    (k : ∀ a T' h', a = h.size → n0 ≤ a → own_St p l e R s m args below meth c Z own bytes ml rt nm n0 T' h' cells' slots' → Ext h h' → own_Vec Z h' a ty vs → own_Goal p e below Φ T' (mkF m pc' Ls (.ref a :: rest))) : own_Goal p e below Φ T (mkF m pc Ls (.int j :: rest)) := by
  subst hp hty hvs hc' hs'
  obtain ⟨locs, X, N, e1, n1, hx, hZ, hown, hby, r0⟩ := X
  obtain ⟨T', h', cA, X', e', E, A, st⟩ := newP X hx hZ w e1 (g := mkF m pc Ls _) rfl (hb hby hd) rfl h0 (cap := n) (by omega) (by omega) hc hs
  refine own_step st (k _ T' h' rfl n1 ⟨_, X', N, e', Nat.le_trans n1 E.1, hx, hZ, hown, hby, r0⟩ E ⟨_, A, ?_⟩)
  simp [newA, hj]
theorem own_new (X : own_St p l e R s m args below meth c Z own bytes ml rt nm n0 T h cells slots) {i : Nat} {C : String} {n : Nat} (w : (Jvm.Cond.classLink own i C).before a0 Z = true) (wi : (Jvm.Cond.instantiable C n).before a0 Z = true) (wz : (Jvm.Cond.initialized C).before a0 Z = true) {cells' slots' : Nat} (hc' : cells + 1 = cells') (hs' : slots + n = slots') (hc : cells' ≤ R.cells) (hs : slots' ≤ R.slots) (hd : decode bytes pc = .ok (.new i, 3)) (hp : pc + 3 = pc')
    (k : ∀ a T' h', a = h.size → n0 ≤ a → own_St p l e R s m args below meth c Z own bytes ml rt nm n0 T' h' cells' slots' → Ext h h' → Exa Z h' a C → (∀ {O nm d : String} {ty : FieldType}, Laid Z a0 C O nm d → parseFieldDescriptor d = some ty → Fld Z h' a O nm d (defaultValue ty)) → own_Goal p e below Φ T' (mkF m pc' Ls (.ref a :: rest))) : own_Goal p e below Φ T (mkF m pc Ls rest) := by
  subst hp hc' hs'
  obtain ⟨locs, X, N, e1, n1, hx, hZ, hown, hby, r0⟩ := X
  obtain ⟨T', h', X', e', E, A, D, -, st⟩ := newO X hx hZ hown w wi wz e1 (g := mkF m pc Ls _) rfl (hb hby hd) hc hs
  exact own_step st (k _ T' h' rfl n1 ⟨_, X', N, e', Nat.le_trans n1 E.1, hx, hZ, hown, hby, r0⟩ E A D)
theorem own_getF (X : own_St p l e R s m args below meth c Z own bytes ml rt nm n0 T h cells slots) {i : Nat} {O n d : String} (w : (Jvm.Cond.fieldLink own i O n d).before a0 Z = true) {a : Addr} {v : Value} (F : Fld Z h a O n d v) (hd : decode bytes pc = .ok (.getfield i, 3)) (hp : pc + 3 = pc')
    (k : ∀ T', own_St p l e R s m args below meth c Z own bytes ml rt nm n0 T' h cells slots → own_Goal p e below Φ T' (mkF m pc' Ls (v :: rest))) : own_Goal p e below Φ T (mkF m pc Ls (.ref a :: rest)) := by
  subst hp
  obtain ⟨locs, X, N, e1, n1, hx, hZ, hown, hby, r0⟩ := X
  obtain ⟨T', X', e', st⟩ := getF X hx hZ hown (host := "") (Or.inl w) Via.refl e1 F (g := mkF m pc Ls _) rfl rfl (hb hby hd)
  exact own_step st (k T' ⟨_, X', N, e', n1, hx, hZ, hown, hby, r0⟩)
theorem own_putF (X : own_St p l e R s m args below meth c Z own bytes ml rt nm n0 T h cells slots) {i : Nat} {O n d C : String} {kk : Nat} {ty : FieldType} (w : (Jvm.Cond.fieldLink own i O n d).before a0 Z = true) {a : Addr} {v old : Value} (F : Fld Z h a O n d old) (E : Exa Z h a C) (L : (Jvm.Cond.lays C O n d).before a0 Z = true ∨ ((Jvm.Cond.laysFinal C O n d).before a0 Z = true ∧ own = O ∧ nm = "<init>")) (wi : (Jvm.Cond.instantiable C kk).before a0 Z = true) (hty : parseFieldDescriptor d = some ty) (hn : narrow ty v = v) (hf : fits ty v = true) (ha : n0 ≤ a) (hd : decode bytes pc = .ok (.putfield i, 3)) (hp : pc + 3 = pc')
    (k : ∀ T' h', own_St p l e R s m args below meth c Z own bytes ml rt nm n0 T' h' cells slots → Wr h h' a (RoadKit.slotOf Z O n d) v → own_Goal p e below Φ T' (mkF m pc' Ls rest)) : own_Goal p e below Φ T (mkF m pc Ls (v :: .ref a :: rest)) := by
  subst hp
  obtain ⟨locs, X, N, e1, n1, hx, hZ, hown, hby, q1, q2, q3, q4⟩ := X
  obtain ⟨T', h', X', e', W, st⟩ := putF X hx hZ hown (host := "") (Or.inl w) Via.refl e1 F E (L.imp id fun z => ⟨z.1, z.2.1, q4.trans z.2.2⟩) wi hty hn hf (g := mkF m pc Ls _) rfl rfl (hb hby hd)
  exact own_step st (k T' h' ⟨_, X', Fr.snoc X' N ha, e', by rw [W.size]; exact n1, hx, hZ, hown, hby, q1, q2, q3, q4⟩ W)
theorem own_initO (X : own_St p l e R s m args below meth c Z own bytes ml rt nm n0 T h cells slots) {i : Nat} (w1 : (Jvm.Cond.methodLink own i Lib.objectInit).before a0 Z = true) (w2 : (Jvm.Cond.instanceMethod Lib.objectInit).before a0 Z = true) (w3 : (Jvm.Cond.code Lib.objectInit ⟨#[0xb1]⟩ 1 none).before a0 Z = true) {a : Addr} (hsz : Ls.size = ml) (hf : 1 ≤ R.frames) {W : Nat} (hW : (rest.map fun v => v.category).sum ≤ W) (hl : W + 12 ≤ R.locals) (hd : decode bytes pc = .ok (.invokespecial i, 3)) (hp : pc + 3 = pc')
    (k : ∀ T', own_St p l e R s m args below meth c Z own bytes ml rt nm n0 T' h cells slots → own_Goal p e below Φ T' (mkF m pc' Ls rest)) : own_Goal p e below Φ T (mkF m pc Ls (.ref a :: rest)) := by
  subst hp
  obtain ⟨locs, X, N, e1, n1, hx, hZ, hown, hby, hml, r0⟩ := X
  obtain ⟨T', X', e', st⟩ := initO X hx hZ hown w1 w2 w3 e1 (g := mkF m pc Ls (.ref a :: rest)) (rest := rest) rfl (hsz.trans hml.symm) rfl (hb hby hd) hf (W := W) (by show 2 * 0 + _ ≤ _; omega) hl
  exact own_step st (k T' ⟨_, X', N, e', n1, hx, hZ, hown, hby, hml, r0⟩)
/-- a callee's contract: called with as' over the heap h0 it returns, and Q says what it leaves -/
def own_Met (l : Launch) (Z : State) (y : MethodName) (bytes : ByteArray) (ml : Nat) (rt : Option FieldType) (ws : List Jvm.Cond) (rm : Room) (as' : Array Value) (h0 : Heap) (n0 : Nat) (Q : Option Value → Heap → Prop) : Prop :=
  MetFree l y (head1 (Jvm.Cond.code y bytes ml rt :: ws) rm) (fun a U => a = as' ∧ Z.Warmed39 U.vm ∧ U.heap = h0) (fun _ _ _ _ _ => True) (fun _ U o U' => ∃ v L, o = .returned v ∧ ((Q v U'.heap ∧ n0 ≤ U'.heap.size) ∧ Fr n0 L) ∧ FrameEnd U o U' L rm.cells rm.slots)
theorem own_meet {y : MethodName} {ws : List Jvm.Cond} {rm : Room} {as' : Array Value} {h0 : Heap} (hpn : plainFor y = true) (hle : n0 ≤ h0.size) {Ls0 : Array Slot} (hef : ∀ m, entryFrame m as' ml = mkF m 0 Ls0 [])
    (body : ∀ (p : Program) (e : Env) (s : State) (m : MethodId) (below : List Frame) (meth : Method) (c : Code) (T : State), own_St p l e rm s m as' below meth c Z y.cls bytes ml rt y.name n0 T h0 0 0 → own_Goal p e below (own_Fin below s rm n0 Q) T (mkF m 0 Ls0 [])) : own_Met l Z y bytes ml rt ws rm as' h0 n0 Q := by
  refine MetFree.of_bodySF hpn hisR ?_
  intro p e s m args below meth c s₁ Bd hml0 hP hK
  obtain ⟨rfl, hZ, hh⟩ := hP
  have e0 : s₁.heap = h0 := by rw [← hh, Bd.state]; rfl
  obtain ⟨s2, o, st, r1, r2, r3⟩ := body p e s m below meth c s₁ ⟨[], Stand.of_body Bd, Fr.nil n0, e0, hle, Bd.exec, hZ, findClass_of_methodNamed Bd.named, Bd.bytes, hml0, Bd.returns, Bd.notSynchronized, (name_of_methodNamed Bd.named Bd.method).1⟩
  exact ⟨s2, o, castTop (hef m) st, r1, r2, r3⟩
theorem own_callS (X : own_St p l e R s m args below meth c Z own bytes ml rt nm n0 T h cells slots) {y : MethodName} {yb : ByteArray} {yl : Nat} {yr : Option FieldType} {rm : Room} {as' : Array Value} {Q' : Option Value → Heap → Prop} (M : own_Met l Z y yb yl yr [] rm as' h n0 Q') {i : Nat} (w1 : (Jvm.Cond.methodLink own i y).before a0 Z = true) (w2 : (Jvm.Cond.static y).before a0 Z = true) (w3 : (Jvm.Cond.initialized y.cls).before a0 Z = true) (w4 : (Jvm.Cond.code y yb yl yr).before a0 Z = true) (hy : y.cls ≠ "java/lang/invoke/MethodHandle" ∧ y.cls ≠ "java/lang/invoke/VarHandle") (hsz : Ls.size = ml) (hf : rm.frames + 1 ≤ R.frames) {W : Nat} (hW : (rest.map fun v => v.category).sum ≤ W) (hl : W + (yl + 11) + rm.locals ≤ R.locals) {cells' slots' : Nat} (hc' : cells + rm.cells = cells') (hs' : slots + rm.slots = slots') (hc : cells' ≤ R.cells) (hs : slots' ≤ R.slots) {argsL stk : List Value} (hlen : ∀ sig, parseMethodDescriptor y.desc = some sig → argsL.length = sig.parameters.length) (hst : stk = argsL.reverse ++ rest) (has : argsL.toArray = as') (hd : decode bytes pc = .ok (.invokestatic i, 3)) (hp : pc + 3 = pc')
    (k : ∀ v T' h', own_St p l e R s m args below meth c Z own bytes ml rt nm n0 T' h' cells' slots' → Q' v h' → own_Goal p e below Φ T' (mkF m pc' Ls (v.toList ++ rest))) : own_Goal p e below Φ T (mkF m pc Ls stk) := by
  subst hp hst has hc' hs'
  obtain ⟨locs, X, N, e1, n1, hx, hZ, hown, hby, hml, r0⟩ := X
  obtain ⟨v, vm1, ⟨T', L', k', n'⟩, -, X', ⟨Lc, ⟨⟨hQ, hG⟩, NL⟩, l1, y1, z1⟩, st⟩ := Jvm.LawKit.callS X hx (y := y) hown (mvT hZ w1) (mvT hZ w2) (mvT hZ w3) (mvT hZ w4) hy (backOf (W := W) (Q := fun v hh L => (Q' v hh ∧ n0 ≤ hh.size) ∧ Fr n0 L) M hZ w4 w3 hf hl) (g := mkF m pc Ls (argsL.reverse ++ rest)) rfl (hsz.trans hml.symm) (argsL := argsL) (rest := rest) hlen rfl (by show 2 * 0 + _ ≤ _; omega) (hb hby hd) (fun _ _ => ⟨rfl, e1, hc, hs⟩)
  dsimp only [Pt.U, Pt.locs, Pt.cells, Pt.slots] at X' l1 y1 z1 st hQ
  subst l1 y1 z1
  exact own_step st (k v T' _ ⟨_, X', Fr.app N NL, rfl, hG, hx, hZ, hown, hby, hml, r0⟩ hQ)
theorem own_special (X : own_St p l e R s m args below meth c Z own bytes ml rt nm n0 T h cells slots) {y : MethodName} {yb : ByteArray} {yl : Nat} {yr : Option FieldType} {rm : Room} {as' : Array Value} {Q' : Option Value → Heap → Prop} (M : own_Met l Z y yb yl yr [] rm as' h n0 Q') (hy1 : y.name = "<init>") (hyr : yr = none) {i : Nat} (w1 : (Jvm.Cond.methodLink own i y).before a0 Z = true) (w2 : (Jvm.Cond.instanceMethod y).before a0 Z = true) (w3 : (Jvm.Cond.initialized y.cls).before a0 Z = true) (w4 : (Jvm.Cond.code y yb yl yr).before a0 Z = true) (hy : y.cls ≠ "java/lang/invoke/MethodHandle" ∧ y.cls ≠ "java/lang/invoke/VarHandle") (hsz : Ls.size = ml) (hf : rm.frames + 1 ≤ R.frames) {W : Nat} (hW : (rest.map fun v => v.category).sum ≤ W) (hl : W + (yl + 11) + rm.locals ≤ R.locals) {cells' slots' : Nat} (hc' : cells + rm.cells = cells') (hs' : slots + rm.slots = slots') (hc : cells' ≤ R.cells) (hs : slots' ≤ R.slots) {a : Addr} {argsL stk : List Value} (hlen : ∀ sig, parseMethodDescriptor y.desc = some sig → argsL.length = sig.parameters.length) (hst : stk = argsL.reverse ++ .ref a :: rest) (has : (.ref a :: argsL).toArray = as') (hd : decode bytes pc = .ok (.invokespecial i, 3)) (hp : pc + 3 = pc')
    (k : ∀ v T' h', own_St p l e R s m args below meth c Z own bytes ml rt nm n0 T' h' cells' slots' → Q' v h' → own_Goal p e below Φ T' (mkF m pc' Ls (v.toList ++ rest))) : own_Goal p e below Φ T (mkF m pc Ls stk) := by
  subst hp hst has hc' hs' hyr
  obtain ⟨locs, X, N, e1, n1, hx, hZ, hown, hby, hml, r0⟩ := X
  obtain ⟨v, vm1, ⟨T', L', k', n'⟩, -, X', ⟨Lc, ⟨⟨hQ, hG⟩, NL⟩, l1, y1, z1⟩, st⟩ := X.specialBack hx (y := y) hy1 hown (mvT hZ w1) (mvT hZ w2) (mvT hZ w4) hy (backOf (W := W) (Q := fun v hh L => (Q' v hh ∧ n0 ≤ hh.size) ∧ Fr n0 L) M hZ w4 w3 hf hl) (g := mkF m pc Ls (argsL.reverse ++ .ref a :: rest)) rfl (hsz.trans hml.symm) (Steps.refl _) (a := a) (argsL := argsL) (rest := rest) hlen rfl (by show 2 * 0 + _ ≤ _; omega) (hb hby hd) (fun _ _ => ⟨rfl, e1, hc, hs⟩)
  dsimp only [Pt.U, Pt.locs, Pt.cells, Pt.slots] at X' l1 y1 z1 st hQ
  subst l1 y1 z1
  exact own_step (fun t b => st.trans b) (k v T' _ ⟨_, X', Fr.app N NL, rfl, hG, hx, hZ, hown, hby, hml, r0⟩ hQ)
theorem own_virtual (X : own_St p l e R s m args below meth c Z own bytes ml rt nm n0 T h cells slots) {y : MethodName} {yb : ByteArray} {yl : Nat} {yr : Option FieldType} {rm : Room} {as' : Array Value} {Q' : Option Value → Heap → Prop} (M : own_Met l Z y yb yl yr [] rm as' h n0 Q') {C : String} {z : MethodName} {i : Nat} (hz : y = z) (w1 : (Jvm.Cond.methodLink own i z).before a0 Z = true) (wd : (Jvm.Cond.declares z).before a0 Z = true) (wsl : (Jvm.Cond.selects C z y).before a0 Z = true) (w2 : (Jvm.Cond.instanceMethod y).before a0 Z = true) (w3 : (Jvm.Cond.initialized y.cls).before a0 Z = true) (w4 : (Jvm.Cond.code y yb yl yr).before a0 Z = true) (hy : y.cls ≠ "java/lang/invoke/MethodHandle" ∧ y.cls ≠ "java/lang/invoke/VarHandle") (hsz : Ls.size = ml) (hf : rm.frames + 1 ≤ R.frames) {W : Nat} (hW : (rest.map fun v => v.category).sum ≤ W) (hl : W + (yl + 11) + rm.locals ≤ R.locals) {cells' slots' : Nat} (hc' : cells + rm.cells = cells') (hs' : slots + rm.slots = slots') (hc : cells' ≤ R.cells) (hs : slots' ≤ R.slots) {a : Addr} (E : Exa Z h a C) {argsL stk : List Value} (hlen : ∀ sig, parseMethodDescriptor y.desc = some sig → argsL.length = sig.parameters.length) (hst : stk = argsL.reverse ++ .ref a :: rest) (has : (.ref a :: argsL).toArray = as') (hd : decode bytes pc = .ok (.invokevirtual i, 3)) (hp : pc + 3 = pc')
    (k : ∀ v T' h', own_St p l e R s m args below meth c Z own bytes ml rt nm n0 T' h' cells' slots' → Q' v h' → own_Goal p e below Φ T' (mkF m pc' Ls (v.toList ++ rest))) : own_Goal p e below Φ T (mkF m pc Ls stk) := by
  subst hp hst has hc' hs' hz
  obtain ⟨locs, X, N, e1, n1, hx, hZ, hown, hby, hml, r0⟩ := X
  obtain ⟨cq, kq, qa, qb, qc⟩ := isOf (T := T) hZ e1 E
  obtain ⟨v, vm1, ⟨T', L', k', n'⟩, -, X', ⟨Lc, ⟨⟨hQ, hG⟩, NL⟩, l1, y1, z1⟩, st⟩ := X.virtualBack hx (y := y) (z := y) hown (mvT hZ w1) (mvT hZ wd) (notFace_of_selects (args := #[]) (mvT hZ wsl)) (mvT hZ wsl) (mvT hZ w2) hy (backOf (W := W) (Q := fun v hh L => (Q' v hh ∧ n0 ≤ hh.size) ∧ Fr n0 L) M hZ w4 w3 hf hl) qa qc (g := mkF m pc Ls (argsL.reverse ++ .ref a :: rest)) rfl (hsz.trans hml.symm) (Steps.refl _) (argsL := argsL) (rest := rest) hlen rfl (by show 2 * 0 + _ ≤ _; omega) (hb hby hd) (fun _ _ => ⟨rfl, e1, hc, hs⟩)
  dsimp only [Pt.U, Pt.locs, Pt.cells, Pt.slots] at X' l1 y1 z1 st hQ
  subst l1 y1 z1
  exact own_step (fun t b => st.trans b) (k v T' _ ⟨_, X', Fr.app N NL, rfl, hG, hx, hZ, hown, hby, hml, r0⟩ hQ)
end OwnWalk
section OwnNum
open Jvm.FP Jvm.FP.Core
/-- the int x is the whole number i, at most B in size -/
def own_I (B : Nat) (i : Int) (x : Int32) : Prop := x.toInt = i ∧ i.natAbs ≤ B
def own_L (B : Nat) (i : Int) (x : Int64) : Prop := x.toInt = i ∧ i.natAbs ≤ B
section
variable {A B C M : Nat} {i j : Int}
theorem own_I.start (x : Int32) : own_I 2147483648 x.toInt x := by
  have := x.toInt_lt; have := x.le_toInt
  exact ⟨rfl, by omega⟩
theorem own_L.start (x : Int64) : own_L 9223372036854775808 x.toInt x := by
  have := x.toInt_lt; have := x.le_toInt
  exact ⟨rfl, by omega⟩
theorem own_I.lit {x : Int32} (h : x.toInt = i) (hB : i.natAbs ≤ B) : own_I B i x := ⟨h, hB⟩
theorem own_I.self {x : Int32} (a : own_I A i x) : own_I A x.toInt x := ⟨rfl, by rw [a.1]; exact a.2⟩
theorem own_L.self {x : Int64} (a : own_L A i x) : own_L A x.toInt x := ⟨rfl, by rw [a.1]; exact a.2⟩
theorem own_L.lit {x : Int64} (h : x.toInt = i) (hB : i.natAbs ≤ B) : own_L B i x := ⟨h, hB⟩
theorem own_abs_mul {i j : Int} (h1 : i.natAbs ≤ A) (h2 : j.natAbs ≤ B) : (i * j).natAbs ≤ A * B := by
  rw [Int.natAbs_mul]; exact Nat.mul_le_mul h1 h2
theorem own_I.add {x y v : Int32} (a : own_I A i x) (b : own_I B j y) (hv : x + y = v) (hC : A + B ≤ C) (h : C < 2147483648) : own_I C (i + j) v := by
  obtain ⟨rfl, h1⟩ := a; obtain ⟨rfl, h2⟩ := b; subst hv
  refine ⟨?_, by omega⟩
  rw [Int32.toInt_add]; exact Int.bmod_eq_of_le (by omega) (by omega)
theorem own_I.sub {x y v : Int32} (a : own_I A i x) (b : own_I B j y) (hv : x - y = v) (hC : A + B ≤ C) (h : C < 2147483648) : own_I C (i - j) v := by
  obtain ⟨rfl, h1⟩ := a; obtain ⟨rfl, h2⟩ := b; subst hv
  refine ⟨?_, by omega⟩
  rw [Int32.toInt_sub]; exact Int.bmod_eq_of_le (by omega) (by omega)
theorem own_I.mul {x y v : Int32} (a : own_I A i x) (b : own_I B j y) (hv : x * y = v) (hC : A * B ≤ C) (h : C < 2147483648) : own_I C (i * j) v := by
  obtain ⟨rfl, h1⟩ := a; obtain ⟨rfl, h2⟩ := b; subst hv
  have h3 := Nat.le_trans (own_abs_mul h1 h2) hC
  refine ⟨?_, h3⟩
  rw [Int32.toInt_mul]; exact Int.bmod_eq_of_le (by omega) (by omega)
theorem own_I.neg {x v : Int32} (a : own_I A i x) (hv : -x = v) (h : A < 2147483648) : own_I A (-i) v := by
  obtain ⟨rfl, h1⟩ := a; subst hv
  refine ⟨?_, by omega⟩
  rw [Int32.toInt_neg]; exact Int.bmod_eq_of_le (by omega) (by omega)
theorem own_and_nn {x m v : Int32} (hv : x &&& m = v) (hm : m.toInt = M) : 0 ≤ v.toInt ∧ v.toInt ≤ M := by
  subst hv; have := c_and x m (by omega); omega
theorem own_I.and {x m v : Int32} (hv : x &&& m = v) (hm : m.toInt = M) : own_I M v.toInt v := by
  have := own_and_nn hv hm
  exact ⟨rfl, by omega⟩
theorem own_land_nn {x m v : Int64} (hv : x &&& m = v) (hm : m.toInt = M) : 0 ≤ v.toInt ∧ v.toInt ≤ M := by
  subst hv
  have h1 := (c_andSL x m).2.2 (by omega)
  refine ⟨h1, ?_⟩
  have la := x.toBitVec.isLt; have lm := m.toBitVec.isLt
  have q : (x &&& m).toBitVec.toNat = x.toBitVec.toNat &&& m.toBitVec.toNat := by show (x.toBitVec &&& m.toBitVec).toNat = _; rw [BitVec.toNat_and]
  have q2 : x.toBitVec.toNat &&& m.toBitVec.toNat ≤ m.toBitVec.toNat := Nat.and_le_right
  change 0 ≤ (x &&& m).toBitVec.toInt at h1
  show (x &&& m).toBitVec.toInt ≤ _
  change m.toBitVec.toInt = _ at hm
  rw [BitVec.toInt_eq_toNat_cond] at h1 hm ⊢
  rw [q] at h1 ⊢
  split at hm <;> split <;> omega
theorem own_L.and {x m v : Int64} (hv : x &&& m = v) (hm : m.toInt = M) : own_L M v.toInt v := by
  have := own_land_nn hv hm
  exact ⟨rfl, by omega⟩
theorem own_lrem_eq {x y v : Int64} (hv : x - (x / y) * y = v) (hx : 0 ≤ x.toInt) (hy : 0 < y.toInt) : v.toInt = x.toInt % y.toInt := by
  subst hv; exact (c_lrem x y _ rfl).1 hx
theorem own_I.shr {x q v : Int32} {k : Nat} (hv : x >>> (q &&& 31) = v) (hk : q.toBitVec.toNat % 32 = k) (hM : 2147483648 ≤ M * 2 ^ k) : own_I M v.toInt v := by
  subst hv
  have h1 := c_ishr x q k hk
  have h2 := x.toInt_lt; have h3 := x.le_toInt
  refine ⟨rfl, ?_⟩
  rw [h1]
  have p : 0 < 2 ^ k := Nat.two_pow_pos k
  generalize 2 ^ k = P at *
  have hP : (0 : Int) < (P : Int) := by omega
  have e1 : x.toInt / (P : Int) ≤ M := by
    refine Int.ediv_le_of_le_mul hP ?_
    have : ((M * P : Nat) : Int) = (M : Int) * P := Int.natCast_mul ..
    omega
  have e2 : -(M : Int) ≤ x.toInt / (P : Int) := by
    refine (Int.le_ediv_iff_mul_le hP).mpr ?_
    have : ((M * P : Nat) : Int) = (M : Int) * P := Int.natCast_mul ..
    rw [Int.neg_mul]; omega
  omega
theorem own_L.ofI {x : Int32} {v : Int64} (a : own_I A i x) (hv : x.toInt64 = v) : own_L A i v := by
  obtain ⟨rfl, h1⟩ := a; subst hv
  exact ⟨Int32.toInt_toInt64 x, h1⟩
theorem own_L.add {x y v : Int64} (a : own_L A i x) (b : own_L B j y) (hv : x + y = v) (hC : A + B ≤ C) (h : C < 9223372036854775808) : own_L C (i + j) v := by
  obtain ⟨rfl, h1⟩ := a; obtain ⟨rfl, h2⟩ := b; subst hv
  refine ⟨?_, by omega⟩
  rw [Int64.toInt_add]; exact Int.bmod_eq_of_le (by omega) (by omega)
theorem own_L.sub {x y v : Int64} (a : own_L A i x) (b : own_L B j y) (hv : x - y = v) (hC : A + B ≤ C) (h : C < 9223372036854775808) : own_L C (i - j) v := by
  obtain ⟨rfl, h1⟩ := a; obtain ⟨rfl, h2⟩ := b; subst hv
  refine ⟨?_, by omega⟩
  rw [Int64.toInt_sub]; exact Int.bmod_eq_of_le (by omega) (by omega)
theorem own_L.mul {x y v : Int64} (a : own_L A i x) (b : own_L B j y) (hv : x * y = v) (hC : A * B ≤ C) (h : C < 9223372036854775808) : own_L C (i * j) v := by
  obtain ⟨rfl, h1⟩ := a; obtain ⟨rfl, h2⟩ := b; subst hv
  have h3 := Nat.le_trans (own_abs_mul h1 h2) hC
  refine ⟨?_, h3⟩
  rw [Int64.toInt_mul]; exact Int.bmod_eq_of_le (by omega) (by omega)
theorem own_L.neg {x v : Int64} (a : own_L A i x) (hv : -x = v) (h : A < 9223372036854775808) : own_L A (-i) v := by
  obtain ⟨rfl, h1⟩ := a; subst hv
  refine ⟨?_, by omega⟩
  rw [Int64.toInt_neg]; exact Int.bmod_eq_of_le (by omega) (by omega)
end
/-- a datum times 2^k -/
def own_sh (k : Int) : Datum → Datum
  | .fin s c q => .fin s c (q + k)
  | d => d
theorem own_sh_sum (k : Int) (x y : Datum) : exactSum (own_sh k x) (own_sh k y) = own_sh k (exactSum x y) := by
  cases x with
  | nan => rfl
  | inf s => cases y with
    | nan => rfl
    | inf t => by_cases h : s = t <;> simp [own_sh, exactSum, h]
    | fin t d r => rfl
  | fin s c q => cases y with
    | nan => rfl
    | inf t => rfl
    | fin t d r =>
      have e1 : min (q + k) (r + k) = min q r + k := by omega
      have e2 : sumUnits s c (q + k) t d (r + k) (min q r + k) = sumUnits s c q t d r (min q r) := by
        unfold sumUnits inUnits
        rw [show q + k - (min q r + k) = q - min q r by omega, show r + k - (min q r + k) = r - min q r by omega]
      simp only [own_sh, exactSum, e1, e2]
theorem own_sh_prod (k r : Int) (x y : Datum) : exactProduct (own_sh k x) (own_sh r y) = own_sh (k + r) (exactProduct x y) := by
  cases x with
  | nan => rfl
  | inf s => cases y with
    | nan => rfl
    | inf t => rfl
    | fin t d u => simp only [own_sh, exactProduct]; split <;> rfl
  | fin s c q => cases y with
    | nan => rfl
    | inf t => simp only [own_sh, exactProduct]; split <;> rfl
    | fin t d u =>
      simp only [own_sh, exactProduct]
      rw [show q + k + (u + r) = q + u + (k + r) by omega]
theorem own_sh_neg (k : Int) (x : Datum) : negate (own_sh k x) = own_sh k (negate x) := by cases x <;> rfl
theorem own_sh_order (k : Int) (x y : Datum) : order (own_sh k x) (own_sh k y) = order x y := by
  cases x <;> cases y <;> try rfl
  rename_i s c q t d r
  simp only [own_sh, order]
  rw [show min (q + k) (r + k) = min q r + k by omega]
  unfold inUnits
  rw [show q + k - (min q r + k) = q - min q r by omega, show r + k - (min q r + k) = r - min q r by omega]
theorem own_sh_sh (k r : Int) (x : Datum) : own_sh r (own_sh k x) = own_sh (k + r) x := by
  cases x <;> simp only [own_sh]
  rw [Int.add_assoc]
theorem own_sh_zero (x : Datum) : own_sh 0 x = x := by cases x <;> simp [own_sh]
theorem own_signed_nat {i : Int} {s : Bool} {n : Nat} (h : n = i.natAbs) (hs : i ≠ 0 → s = decide (i < 0)) : signed s n = i := by
  by_cases h0 : i = 0
  · subst h0; subst h; exact signed_zero s
  · rw [hs h0, h]; unfold signed
    by_cases q : i < 0 <;> simp [q] <;> omega
/-- what is i * 2^-k in size rounds to itself, if i has 53 digits at the most -/
theorem own_round_core {k : Nat} {i : Int} {s : Bool} {c : Nat} {q : Int} (hk : k ≤ 1074) (hi : i.natAbs < 9007199254740992) (hs : i ≠ 0 → s = decide (i < 0)) : Whole i (own_sh k (roundRatio b64 s i.natAbs 1 (-(k : Int)))) := by
  obtain ⟨c', q', e1, e2⟩ := round_exact good_b64 s (c := i.natAbs) (q := -(k : Int)) (show i.natAbs < 2 ^ 53 by omega) (show (-1074 : Int) ≤ _ by omega) (show _ ≤ (971 : Int) by omega)
  have e3 : roundRatio b64 s i.natAbs 1 (-(k : Int)) = .fin s c' q' := e1
  have hf : Core.fits b64 (.fin s c' q') := by rw [← e1]; exact round_fits good_b64 _
  have hq : (-1074 : Int) ≤ q' := hf.2.1
  rw [e3]
  show signed s (c' * 2 ^ (q' + k).toNat) = i * ((2 ^ (-(q' + k)).toNat : Nat) : Int)
  have e4 : c' * 2 ^ (q' + 1074).toNat = i.natAbs * 2 ^ (1074 - k) := by
    have := e2
    unfold inUnits at this
    rw [show (q' - b64.qmin).toNat = (q' + 1074).toNat by rw [show b64.qmin = -1074 from rfl]; omega, show (-(k : Int) - b64.qmin).toNat = 1074 - k by rw [show b64.qmin = -1074 from rfl]; omega] at this
    exact this
  have e5 : c' * 2 ^ (q' + k).toNat = i.natAbs * 2 ^ (-(q' + k)).toNat := by
    refine Nat.eq_of_mul_eq_mul_right (Nat.two_pow_pos (1074 - k)) ?_
    have x1 : c' * 2 ^ (q' + k).toNat * 2 ^ (1074 - k) = c' * 2 ^ (q' + 1074).toNat * 2 ^ (-(q' + k)).toNat := by
      rw [Nat.mul_assoc, Nat.mul_assoc, ← Nat.pow_add, ← Nat.pow_add]; congr 2; omega
    rw [x1, e4, Nat.mul_right_comm]
  rw [e5, signed_mul, own_signed_nat rfl hs]
theorem own_round {k : Nat} {i : Int} {d : Datum} (hk : k ≤ 1074) (hi : i.natAbs < 9007199254740992) (h : Whole i (own_sh k d)) : Whole i (own_sh k (round b64 d)) := by
  cases d with
  | nan => exact h.elim
  | inf => exact h.elim
  | fin s c q =>
    have h1 : c * 2 ^ (q + k).toNat = i.natAbs * 2 ^ (-(q + k)).toNat := whole_natAbs h
    have e : round b64 (.fin s c q) = roundRatio b64 s i.natAbs 1 (-(k : Int)) := by
      refine roundRatio_congr (by decide) (by decide) ?_
      rw [show (q - -(k : Int)).toNat = (q + k).toNat by omega, show (-(k : Int) - q).toNat = (-(q + k)).toNat by omega]
      simpa using h1
    rw [e]
    exact own_round_core (c := c) (q := q) hk hi (fun h0 => whole_sign h h0)
/-- the double x is i * 2^-k, i at most B in size (both zeros are 0) -/
def own_D (k B : Nat) (i : Int) (x : UInt64) : Prop := Whole i (own_sh k (val64 x)) ∧ i.natAbs ≤ B
section
variable {k r t A B C : Nat} {i j : Int} {x y v : UInt64}
theorem own_D.fin (a : own_D k A i x) : ∃ s c q, val64 x = .fin s c q := by
  cases e : val64 x with
  | nan => have := a.1; rw [e] at this; exact this.elim
  | inf => have := a.1; rw [e] at this; exact this.elim
  | fin s c q => exact ⟨s, c, q, rfl⟩
theorem own_D.nn (a : own_D k A i x) : Jvm.Free.Fl.NoNaN64 x := by
  obtain ⟨s, c, q, e⟩ := a.fin
  exact Jvm.Free.Fl.val64_no.mpr (by rw [e]; exact Datum.noConfusion)
theorem own_D.isFin (a : own_D k A i x) : Jvm.Free.Fl.Fin64 x := by
  obtain ⟨s, c, q, e⟩ := a.fin
  exact Jvm.Free.Fl.fin64_core.mpr ⟨s, c, q, e⟩
theorem own_D.lit {s : Bool} {c : Nat} {q : Int} (h : val64 x = .fin s c q) (hw : signed s (c * 2 ^ (q + k).toNat) = i * ((2 ^ (-(q + k)).toNat : Nat) : Int)) (hB : i.natAbs ≤ B) : own_D k B i x := by
  refine ⟨?_, hB⟩
  rw [h]; exact hw
theorem own_D.mono (a : own_D k A i x) (h : A ≤ B) : own_D k B i x := ⟨a.1, Nat.le_trans a.2 h⟩
theorem own_D.zero {s : Bool} (h : val64 x = .fin s 0 b64.qmin) (k : Nat) : own_D k 0 0 x := by
  refine ⟨?_, by decide⟩
  rw [h]
  show signed s (0 * _) = 0 * _
  rw [Nat.zero_mul, signed_zero, Int.zero_mul]
theorem own_D.ofInt (h : DInt i x) (hB : i.natAbs ≤ B) : own_D 0 B i x := ⟨by rw [show ((0 : Nat) : Int) = 0 from rfl, own_sh_zero]; exact h, hB⟩
theorem own_D.i2d {z : Int32} (a : own_I A i z) (hv : FP.i2d z = v) : own_D 0 A i v := by
  subst hv; obtain ⟨rfl, h⟩ := a
  exact own_D.ofInt (i2d_int z) h
theorem own_D.l2d {z : Int64} (a : own_L A i z) (hv : FP.l2d z = v) (h : A ≤ 9007199254740992) : own_D 0 A i v := by
  subst hv; obtain ⟨rfl, h1⟩ := a
  exact own_D.ofInt (l2d_int (show _ ≤ 2 ^ 53 by omega)) h1
theorem own_D.add (a : own_D k A i x) (b : own_D k B j y) (hv : FP.dadd x y = v) (hC : A + B ≤ C) (h : C < 9007199254740992) (hk : k ≤ 1074) : own_D k C (i + j) v := by
  subst hv
  have h2 : (i + j).natAbs ≤ C := by have := a.2; have := b.2; omega
  refine ⟨?_, h2⟩
  show Whole _ (own_sh k (val64 (Core.dadd x y)))
  rw [val64_dadd]
  refine own_round hk (by omega) ?_
  rw [← own_sh_sum]; exact whole_sum a.1 b.1
theorem own_D.sub (a : own_D k A i x) (b : own_D k B j y) (hv : FP.dsub x y = v) (hC : A + B ≤ C) (h : C < 9007199254740992) (hk : k ≤ 1074) : own_D k C (i - j) v := by
  subst hv
  have h2 : (i - j).natAbs ≤ C := by have := a.2; have := b.2; omega
  refine ⟨?_, h2⟩
  show Whole _ (own_sh k (val64 (Core.dsub x y)))
  rw [val64_dsub]
  refine own_round hk (by omega) ?_
  rw [← own_sh_sum, ← own_sh_neg]; exact whole_sum a.1 (whole_negate b.1)
theorem own_D.mul (a : own_D k A i x) (b : own_D r B j y) (hv : FP.dmul x y = v) (hC : A * B ≤ C) (h : C < 9007199254740992) (ht : k + r = t) (hk : t ≤ 1074) : own_D t C (i * j) v := by
  subst hv ht
  have h2 : (i * j).natAbs ≤ C := Nat.le_trans (own_abs_mul a.2 b.2) hC
  refine ⟨?_, h2⟩
  show Whole _ (own_sh ((k + r : Nat) : Int) (val64 (Core.dmul x y)))
  rw [val64_dmul]
  refine own_round hk (by omega) ?_
  rw [Int.natCast_add, ← own_sh_prod]; exact whole_product a.1 b.1
theorem own_D.neg (a : own_D k A i x) (hv : FP.dneg x = v) : own_D k A (-i) v := by
  subst hv
  refine ⟨?_, by have := a.2; omega⟩
  rw [FP.val64_dneg, ← own_sh_neg]; exact whole_negate a.1
theorem own_whole_up {i : Int} {d : Datum} (r : Nat) (h : Whole i d) : Whole (i * ((2 ^ r : Nat) : Int)) (own_sh r d) := by
  cases d with
  | nan => exact h.elim
  | inf => exact h.elim
  | fin s c q =>
    have h1 : signed s (c * 2 ^ q.toNat) = i * ((2 ^ (-q).toNat : Nat) : Int) := h
    show signed s (c * 2 ^ (q + r).toNat) = i * ((2 ^ r : Nat) : Int) * ((2 ^ (-(q + r)).toNat : Nat) : Int)
    have p2 : ((2 ^ (-q).toNat : Nat) : Int) ≠ 0 := by
      have := Nat.two_pow_pos (-q).toNat; omega
    refine Int.eq_of_mul_eq_mul_right p2 ?_
    have e : (q + r).toNat + (-q).toNat = q.toNat + r + (-(q + r)).toNat := by omega
    calc signed s (c * 2 ^ (q + r).toNat) * ((2 ^ (-q).toNat : Nat) : Int)
        = signed s (c * 2 ^ ((q + r).toNat + (-q).toNat)) := by rw [← signed_mul, Nat.mul_assoc, ← Nat.pow_add]
      _ = signed s (c * 2 ^ q.toNat * 2 ^ r * 2 ^ (-(q + r)).toNat) := by rw [e, Nat.pow_add, Nat.pow_add]; congr 1; ac_rfl
      _ = i * ((2 ^ (-q).toNat : Nat) : Int) * ((2 ^ r : Nat) : Int) * ((2 ^ (-(q + r)).toNat : Nat) : Int) := by rw [signed_mul, signed_mul, h1]
      _ = _ := by ac_rfl
theorem own_D.up (a : own_D k A i x) {P : Nat} (hP : 2 ^ r = P) (ht : k + r = t) (hC : A * P ≤ C) : own_D t C (i * (P : Int)) x := by
  subst hP ht
  refine ⟨?_, Nat.le_trans (own_abs_mul a.2 (Nat.le_of_eq (Int.natAbs_natCast _))) hC⟩
  rw [Int.natCast_add, ← own_sh_sh]; exact own_whole_up r a.1
theorem own_D.dcmp (a : own_D k A i x) (b : own_D k B j y) : FP.dcmp x y = some (compare i j) := by
  show order (val64 x) (val64 y) = _
  rw [← own_sh_order k]; exact order_whole a.1 b.1
end
def own_c3 (i j : Int) : Int32 := if i < j then -1 else if i = j then 0 else 1
theorem own_c3_cmp (i j : Int) (o : CmpOp) : cmpValue (some (compare i j)) o = own_c3 i j := by
  unfold own_c3
  by_cases h : i < j
  · rw [if_pos h, show compare i j = .lt from Int.compare_eq_lt.mpr h]; rfl
  · rw [if_neg h]
    by_cases h2 : i = j
    · rw [if_pos h2, show compare i j = .eq from Int.compare_eq_eq.mpr h2]; rfl
    · rw [if_neg h2, show compare i j = .gt from Int.compare_eq_gt.mpr (by omega)]; rfl
theorem own_D.cmp {k A B : Nat} {i j : Int} {x y : UInt64} (a : own_D k A i x) (b : own_D k B j y) {o : CmpOp} : cmpValue (FP.dcmp x y) o = own_c3 i j := by
  rw [a.dcmp b]; exact own_c3_cmp i j o
theorem own_c3_eq {i j : Int} (h : i = j) : ifCond.holds .eq (own_c3 i j) = true ∧ ifCond.holds .ne (own_c3 i j) = false := by
  subst h; unfold own_c3; simp [ifCond.holds]
theorem own_c3_ne {i j : Int} (h : ¬ i = j) : ifCond.holds .eq (own_c3 i j) = false ∧ ifCond.holds .ne (own_c3 i j) = true := by
  unfold own_c3; by_cases q : i < j <;> simp [q, h, ifCond.holds]
theorem own_c3_lt {i j : Int} (h : i < j) : ifCond.holds .lt (own_c3 i j) = true ∧ ifCond.holds .ge (own_c3 i j) = false := by
  unfold own_c3; simp [h]; decide
theorem own_c3_nlt {i j : Int} (h : ¬ i < j) : ifCond.holds .lt (own_c3 i j) = false ∧ ifCond.holds .ge (own_c3 i j) = true := by
  unfold own_c3; rw [if_neg h]; by_cases q : i = j
  · rw [if_pos q]; decide
  · rw [if_neg q]; decide
theorem own_c3_gt {i j : Int} (h : j < i) : ifCond.holds .gt (own_c3 i j) = true ∧ ifCond.holds .le (own_c3 i j) = false := by
  unfold own_c3; rw [if_neg (by omega), if_neg (by omega)]; decide
theorem own_c3_ngt {i j : Int} (h : ¬ j < i) : ifCond.holds .gt (own_c3 i j) = false ∧ ifCond.holds .le (own_c3 i j) = true := by
  unfold own_c3; by_cases q : i < j
  · rw [if_pos q]; decide
  · rw [if_neg q, if_pos (by omega)]; decide
/-- the branches on ints, by what is known of them -/
theorem own_i_eq {x y : Int32} (h : x = y) : if_icmp.holds .eq x y = true ∧ if_icmp.holds .ne x y = false := teq h
theorem own_i_ne {x y : Int32} (h : ¬ x = y) : if_icmp.holds .eq x y = false ∧ if_icmp.holds .ne x y = true := feq h
theorem own_i_lt {x y : Int32} (h : x < y) : if_icmp.holds .lt x y = true ∧ if_icmp.holds .ge x y = false := ⟨(tlt h).1, (tlt h).2.1⟩
theorem own_i_nlt {x y : Int32} (h : ¬ x < y) : if_icmp.holds .lt x y = false ∧ if_icmp.holds .ge x y = true := ⟨(flt h).1, (flt h).2.1⟩
theorem own_i_gt {x y : Int32} (h : y < x) : if_icmp.holds .gt x y = true ∧ if_icmp.holds .le x y = false := ⟨(tlt h).2.2.1, (tlt h).2.2.2⟩
theorem own_i_ngt {x y : Int32} (h : ¬ y < x) : if_icmp.holds .gt x y = false ∧ if_icmp.holds .le x y = true := ⟨(flt h).2.2.1, (flt h).2.2.2⟩
theorem own_z_eq {x : Int32} (h : x = 0) : ifCond.holds .eq x = true ∧ ifCond.holds .ne x = false := by rw [if0, if0]; exact teq h
theorem own_z_ne {x : Int32} (h : ¬ x = 0) : ifCond.holds .eq x = false ∧ ifCond.holds .ne x = true := by rw [if0, if0]; exact feq h
theorem own_z_lt {x : Int32} (h : x < 0) : ifCond.holds .lt x = true ∧ ifCond.holds .ge x = false := by rw [if0, if0]; exact own_i_lt h
theorem own_z_nlt {x : Int32} (h : ¬ x < 0) : ifCond.holds .lt x = false ∧ ifCond.holds .ge x = true := by rw [if0, if0]; exact own_i_nlt h
theorem own_z_gt {x : Int32} (h : 0 < x) : ifCond.holds .gt x = true ∧ ifCond.holds .le x = false := by rw [if0, if0]; exact own_i_gt h
theorem own_z_ngt {x : Int32} (h : ¬ 0 < x) : ifCond.holds .gt x = false ∧ ifCond.holds .le x = true := by rw [if0, if0]; exact own_i_ngt h
theorem own_cases2 {v : Int32} (h : 0 ≤ v.toInt ∧ v.toInt ≤ ((1 : Nat) : Int)) : v = (0 : Int32) ∨ v = (1 : Int32) := by
  have : v.toInt = 0 ∨ v.toInt = 1 := by omega
  rcases this with q | q
  · exact Or.inl (Int32.toInt_inj.mp q)
  · exact Or.inr (Int32.toInt_inj.mp q)
theorem own_cases4 {v : Int32} (h : 0 ≤ v.toInt ∧ v.toInt ≤ ((3 : Nat) : Int)) : v = (0 : Int32) ∨ v = (1 : Int32) ∨ v = (2 : Int32) ∨ v = (3 : Int32) := by
  have : v.toInt = 0 ∨ v.toInt = 1 ∨ v.toInt = 2 ∨ v.toInt = 3 := by omega
  rcases this with q | q | q | q
  · exact Or.inl (Int32.toInt_inj.mp q)
  · exact Or.inr (Or.inl (Int32.toInt_inj.mp q))
  · exact Or.inr (Or.inr (Or.inl (Int32.toInt_inj.mp q)))
  · exact Or.inr (Or.inr (Or.inr (Int32.toInt_inj.mp q)))
theorem own_cases16 {v : Int32} (h : 0 ≤ v.toInt ∧ v.toInt ≤ ((15 : Nat) : Int)) : v = (0 : Int32) ∨ v = (1 : Int32) ∨ v = (2 : Int32) ∨ v = (3 : Int32) ∨ v = (4 : Int32) ∨ v = (5 : Int32) ∨ v = (6 : Int32) ∨ v = (7 : Int32) ∨ v = (8 : Int32) ∨ v = (9 : Int32) ∨ v = (10 : Int32) ∨ v = (11 : Int32) ∨ v = (12 : Int32) ∨ v = (13 : Int32) ∨ v = (14 : Int32) ∨ v = (15 : Int32) := by
  have : v.toInt = 0 ∨ v.toInt = 1 ∨ v.toInt = 2 ∨ v.toInt = 3 ∨ v.toInt = 4 ∨ v.toInt = 5 ∨ v.toInt = 6 ∨ v.toInt = 7 ∨ v.toInt = 8 ∨ v.toInt = 9 ∨ v.toInt = 10 ∨ v.toInt = 11 ∨ v.toInt = 12 ∨ v.toInt = 13 ∨ v.toInt = 14 ∨ v.toInt = 15 := by omega
  rcases this with q | q | q | q | q | q | q | q | q | q | q | q | q | q | q | q
  · exact Or.inl (Int32.toInt_inj.mp q)
  · exact Or.inr (Or.inl (Int32.toInt_inj.mp q))
  · exact Or.inr (Or.inr (Or.inl (Int32.toInt_inj.mp q)))
  · exact Or.inr (Or.inr (Or.inr (Or.inl (Int32.toInt_inj.mp q))))
  · exact Or.inr (Or.inr (Or.inr (Or.inr (Or.inl (Int32.toInt_inj.mp q)))))
  · exact Or.inr (Or.inr (Or.inr (Or.inr (Or.inr (Or.inl (Int32.toInt_inj.mp q))))))
  · exact Or.inr (Or.inr (Or.inr (Or.inr (Or.inr (Or.inr (Or.inl (Int32.toInt_inj.mp q)))))))
  · exact Or.inr (Or.inr (Or.inr (Or.inr (Or.inr (Or.inr (Or.inr (Or.inl (Int32.toInt_inj.mp q))))))))
  · exact Or.inr (Or.inr (Or.inr (Or.inr (Or.inr (Or.inr (Or.inr (Or.inr (Or.inl (Int32.toInt_inj.mp q)))))))))
  · exact Or.inr (Or.inr (Or.inr (Or.inr (Or.inr (Or.inr (Or.inr (Or.inr (Or.inr (Or.inl (Int32.toInt_inj.mp q))))))))))
  · exact Or.inr (Or.inr (Or.inr (Or.inr (Or.inr (Or.inr (Or.inr (Or.inr (Or.inr (Or.inr (Or.inl (Int32.toInt_inj.mp q)))))))))))
  · exact Or.inr (Or.inr (Or.inr (Or.inr (Or.inr (Or.inr (Or.inr (Or.inr (Or.inr (Or.inr (Or.inr (Or.inl (Int32.toInt_inj.mp q))))))))))))
  · exact Or.inr (Or.inr (Or.inr (Or.inr (Or.inr (Or.inr (Or.inr (Or.inr (Or.inr (Or.inr (Or.inr (Or.inr (Or.inl (Int32.toInt_inj.mp q)))))))))))))
  · exact Or.inr (Or.inr (Or.inr (Or.inr (Or.inr (Or.inr (Or.inr (Or.inr (Or.inr (Or.inr (Or.inr (Or.inr (Or.inr (Or.inl (Int32.toInt_inj.mp q))))))))))))))
  · exact Or.inr (Or.inr (Or.inr (Or.inr (Or.inr (Or.inr (Or.inr (Or.inr (Or.inr (Or.inr (Or.inr (Or.inr (Or.inr (Or.inr (Or.inl (Int32.toInt_inj.mp q)))))))))))))))
  · exact Or.inr (Or.inr (Or.inr (Or.inr (Or.inr (Or.inr (Or.inr (Or.inr (Or.inr (Or.inr (Or.inr (Or.inr (Or.inr (Or.inr (Or.inr (Int32.toInt_inj.mp q)))))))))))))))
/-- lcmp as a comparison of whole numbers -/
theorem own_lcmp_c3 (x y : Int64) : XT.cmpL x y = own_c3 x.toInt y.toInt := by
  unfold XT.cmpL own_c3
  simp only [Int64.lt_iff_toInt_lt, ← Int64.toInt_inj]
  by_cases h : x.toInt < y.toInt
  · simp [h, show ¬ y.toInt < x.toInt by omega, show ¬ x.toInt = y.toInt by omega]
  · by_cases h2 : x.toInt = y.toInt
    · simp [h2]
    · simp [h, h2, show y.toInt < x.toInt by omega]
theorem own_L.cmp {A B : Nat} {i j : Int} {x y : Int64} (a : own_L A i x) (b : own_L B j y) : XT.cmpL x y = own_c3 i j := by
  rw [own_lcmp_c3, a.1, b.1]
end OwnNum
section OwnDiv
open Jvm.FP Jvm.FP.Core
theorem own_quotient {s t : Bool} {c d : Nat} {q r : Int} (hd : d ≠ 0) : quotient b64 (.fin s c q) (.fin t d r) = roundRatio b64 (s != t) c d (q - r) := by
  show (if d = 0 then _ else _) = _
  rw [if_neg hd]
/-- the quotient of i * 2^-k and j is the rounded |i| / |j| * 2^-k -/
theorem own_quot {k A B : Nat} {i j : Int} {x z v : UInt64} (a : own_D k A i x) (b : own_D 0 B j z) (hj : j ≠ 0) (hv : FP.ddiv x z = v) :
    ∃ sg : Bool, val64 v = roundRatio b64 sg i.natAbs j.natAbs (-(k : Int)) ∧ (i ≠ 0 → sg = (decide (i < 0) != decide (j < 0))) := by
  subst hv
  obtain ⟨s, c, q, e1⟩ := a.fin
  obtain ⟨t, d, r, e2⟩ := b.fin
  have w1 : Whole i (.fin s c (q + k)) := by have := a.1; rw [e1] at this; exact this
  have w2 : Whole j (.fin t d r) := by have := b.1; rw [e2, show ((0 : Nat) : Int) = 0 from rfl, own_sh_zero] at this; exact this
  have hd : d ≠ 0 := fun h => hj ((whole_zero w2).mp h)
  refine ⟨s != t, ?_, fun hi => by rw [whole_sign w1 hi, whole_sign w2 hj]⟩
  show val64 (Core.ddiv x z) = _
  rw [val64_ddiv, e1, e2]
  show (if d = 0 then _ else roundRatio b64 (s != t) c d (q - r)) = _
  rw [if_neg hd]
  refine roundRatio_congr (by omega) (by omega) ?_
  have h1 : c * 2 ^ (q + k).toNat = i.natAbs * 2 ^ (-(q + k)).toNat := whole_natAbs w1
  have h2 : d * 2 ^ r.toNat = j.natAbs * 2 ^ (-r).toNat := whole_natAbs w2
  generalize i.natAbs = I at *
  generalize j.natAbs = J at *
  refine Nat.eq_of_mul_eq_mul_right (Nat.two_pow_pos ((-r).toNat + (q + k).toNat)) ?_
  have x1 : c * J * 2 ^ (q - r - -(k : Int)).toNat * 2 ^ ((-r).toNat + (q + k).toNat) = (c * 2 ^ (q + k).toNat) * (J * 2 ^ (-r).toNat) * 2 ^ (q - r - -(k : Int)).toNat := by rw [Nat.pow_add]; ac_rfl
  have x2 : I * d * 2 ^ (-(k : Int) - (q - r)).toNat * 2 ^ ((-r).toNat + (q + k).toNat) = I * d * 2 ^ ((-(q + k)).toNat + r.toNat + (q - r - -(k : Int)).toNat) := by rw [Nat.mul_assoc (I * d), ← Nat.pow_add]; congr 2; omega
  rw [x1, x2, h1, ← h2, Nat.pow_add, Nat.pow_add]; ac_rfl
theorem own_quot_nn {k A B : Nat} {i j : Int} {x z v : UInt64} (a : own_D k A i x) (b : own_D 0 B j z) (hj : j ≠ 0) (hv : FP.ddiv x z = v) : Jvm.Free.Fl.NoNaN64 v := by
  obtain ⟨sg, e, -⟩ := own_quot a b hj hv
  exact Jvm.Free.Fl.val64_no.mpr (by rw [e]; exact roundRatio_ne_nan _ _ _ _ _)
theorem own_round_zero (sg : Bool) (d : Nat) (e : Int) : roundRatio b64 sg 0 d e = .fin sg 0 b64.qmin := by unfold roundRatio; rw [if_pos rfl]
/-- two quotients of equal whole numbers compare as equal -/
theorem own_quot_eq {k A B A' B' : Nat} {i j : Int} {x y z w v u : UInt64} (a : own_D k A i x) (b : own_D 0 B j z) (a' : own_D k A' i y) (b' : own_D 0 B' j w) (hj : j ≠ 0) (hv : FP.ddiv x z = v) (hu : FP.ddiv y w = u) : FP.dcmp v u = some .eq := by
  obtain ⟨s1, e1, f1⟩ := own_quot a b hj hv
  obtain ⟨s2, e2, f2⟩ := own_quot a' b' hj hu
  by_cases hi : i = 0
  · subst hi
    have d1 := own_D.zero (x := v) (s := s1) (by rw [e1]; exact own_round_zero ..) 0
    have d2 := own_D.zero (x := u) (s := s2) (by rw [e2]; exact own_round_zero ..) 0
    rw [d1.dcmp d2]; rfl
  · have e3 : s1 = s2 := (f1 hi).trans (f2 hi).symm
    subst e3
    have e4 : v = u := val64_inj (by rw [e1]; exact roundRatio_ne_nan _ _ _ _ _) (e1.trans e2.symm)
    subst e4
    exact dcmp_self (by rw [e1]; exact roundRatio_ne_nan _ _ _ _ _)
theorem own_quot_cmp {k A B A' B' : Nat} {i j : Int} {x y z w v u : UInt64} (a : own_D k A i x) (b : own_D 0 B j z) (a' : own_D k A' i y) (b' : own_D 0 B' j w) (hj : j ≠ 0) (hv : FP.ddiv x z = v) (hu : FP.ddiv y w = u) {o : CmpOp} : cmpValue (FP.dcmp v u) o = 0 := by
  rw [own_quot_eq a b a' b' hj hv hu]; rfl
theorem own_D.of_eq {k A : Nat} {i j : Int} {x : UInt64} (a : own_D k A i x) (h : i = j) : own_D k A j x := h ▸ a
/-- a quotient by a power of two is exact -/
theorem own_D.divp {k r t A B P : Nat} {i : Int} {x z v : UInt64} (a : own_D k A i x) (b : own_D 0 B (P : Int) z) (hP : P = 2 ^ r) (hv : FP.ddiv x z = v) (hA : A < 9007199254740992) (ht : k + r = t) (hk : t ≤ 1074) : own_D t A i v := by
  subst ht
  have p := Nat.two_pow_pos r
  have hj : (P : Int) ≠ 0 := by omega
  obtain ⟨sg, e, f⟩ := own_quot a b hj hv
  refine ⟨?_, a.2⟩
  have e2 : roundRatio b64 sg i.natAbs ((P : Int)).natAbs (-(k : Int)) = roundRatio b64 sg i.natAbs 1 (-((k + r : Nat) : Int)) := by
    refine roundRatio_congr (by omega) (by decide) ?_
    rw [Int.natAbs_natCast, hP, show (-(k : Int) - -((k + r : Nat) : Int)).toNat = r by omega, show (-((k + r : Nat) : Int) - -(k : Int)).toNat = 0 by omega]
    simp
  rw [e, e2]
  refine own_round_core (c := 0) (q := 0) hk (by have := a.2; omega) fun hi => ?_
  rw [f hi, show decide ((P : Int) < 0) = false by simp]
  cases decide (i < 0) <;> rfl
theorem own_ushr_nn {x q v : Int32} {k : Nat} (hv : XT.ushr x q = v) (hk : q.toBitVec.toNat % 32 = k) (h0 : 0 < k) : 0 ≤ v.toInt := by
  subst hv
  have := c_iushr x q k hk h0
  show 0 ≤ ((x.toUInt32 >>> (q &&& 31).toUInt32).toInt32).toInt
  rw [this]
  exact Int.ediv_nonneg (Int.emod_nonneg _ (by decide)) (Int.natCast_nonneg _)
theorem own_irem_bd {x y v : Int32} {d : Int} (hv : x % y = v) (hx : 0 ≤ x.toInt) (hy : y.toInt = d) (hd : 0 < d) : 0 ≤ v.toInt ∧ v.toInt < d := by
  subst hv
  rw [(c_irem x y d hy).1 hx]
  exact ⟨Int.emod_nonneg _ (by omega), Int.emod_lt_of_pos _ hd⟩
end OwnDiv
theorem own_d_prog_3_method_16_code_0 : decode prog_3_method_16_code 0 = .ok (.dload_n 0, 1) := by decide +kernel
theorem own_d_prog_3_method_16_code_1 : decode prog_3_method_16_code 1 = .ok (.dload_n 2, 1) := by decide +kernel
theorem own_d_prog_3_method_16_code_2 : decode prog_3_method_16_code 2 = .ok (.ldc2_w 212, 3) := by decide +kernel
theorem own_d_prog_3_method_16_code_5 : decode prog_3_method_16_code 5 = .ok (.ddiv, 1) := by decide +kernel
theorem own_d_prog_3_method_16_code_6 : decode prog_3_method_16_code 6 = .ok (.dcmp .g, 1) := by decide +kernel
theorem own_d_prog_3_method_16_code_7 : decode prog_3_method_16_code 7 = .ok (.ifCond .ge 7, 3) := by decide +kernel
theorem own_d_prog_3_method_16_code_10 : decode prog_3_method_16_code 10 = .ok (.iconst 1, 1) := by decide +kernel
theorem own_d_prog_3_method_16_code_11 : decode prog_3_method_16_code 11 = .ok (.goto 4, 3) := by decide +kernel
theorem own_d_prog_3_method_16_code_14 : decode prog_3_method_16_code 14 = .ok (.iconst 0, 1) := by decide +kernel
theorem own_d_prog_3_method_16_code_15 : decode prog_3_method_16_code 15 = .ok (.ireturn, 1) := by decide +kernel
theorem own_pd0 : parseMethodDescriptor "(DD)Z" = some ⟨[.double, .double], some .boolean⟩ := by decide +kernel
theorem own_pn0 : plainName "com/example/nullstelle/nullstelle/Bracket" = true := by first | (simp [plainName, overriddenIn]; done) | decide +kernel
abbrev own_rm_own_sf : Room := ({ frames := 0, cells := 0, slots := 0, locals := 0 } : Room)
set_option maxRecDepth 65536 in
set_option maxHeartbeats 40000000 in
theorem own_sf (l : Launch) (Z : State) (a0 : Array Value) (hw : ∀ d ∈ tables_1, d.before a0 Z = true) (x0 y0 : UInt64) (i_x i_y : Int) (k0 b0 b1 : Nat) (h0 : Heap) (n0 : Nat) (Z0 : n0 ≤ h0.size) (D_x : own_D k0 b0 i_x x0) (D_y : own_D k0 b1 i_y y0) (hb : b1 < 9007199254740992) (hk : k0 + 1 ≤ 1074) :
    own_Met l Z ({ cls := "com/example/nullstelle/nullstelle/Bracket", name := "shrinksFast", desc := "(DD)Z" } : Jvm.MethodName) prog_3_method_16_code 4 (some .boolean) [] own_rm_own_sf #[(.double x0), (.double y0)] h0 n0 (fun v h => v = some (.int (if 2 * i_x < i_y then 1 else 0)) ∧ h = h0) := by
  refine own_meet (plainFor_of_name own_pn0) Z0 (Ls0 := #[.val (.double x0), .second, .val (.double y0), .second]) (by intro m; first | (simp [entryFrame, mkF, argsToLocals, Value.category]; done) | rfl) ?_
  intro p e s m below meth c T0 X0
  refine own_dloadN X0 rfl own_d_prog_3_method_16_code_0 (pc' := 1) rfl ?_
  refine own_dloadN X0 rfl own_d_prog_3_method_16_code_1 (pc' := 2) rfl ?_
  refine own_ldcD X0 (v := (4611686018427387904 : UInt64)) (hw _ (List.mem_of_getElem? (i := 5) rfl)) own_d_prog_3_method_16_code_2 (pc' := 5) rfl ?_
  have f2 : own_D 0 2 (2 : Int) (4611686018427387904 : UInt64) := own_D.lit (s := false) (c := 4503599627370496) (q := -51) (by decide +kernel) (by decide +kernel) (by decide)
  obtain ⟨d3, e3⟩ : ∃ v, FP.ddiv y0 (4611686018427387904 : UInt64) = v := ⟨_, rfl⟩
  have f3 : own_D (k0 + 1) b1 i_y d3 := own_D.divp (r := 1) (P := 2) D_y f2 (by decide) e3 hb rfl hk
  refine own_ddiv X0 e3 f3.nn own_d_prog_3_method_16_code_5 (pc' := 6) rfl ?_
  have f4 := own_D.up (r := 1) (P := 2) (t := k0 + 1) (C := b0 * 2) D_x (by decide) rfl (Nat.le_refl _)
  refine own_dcmp X0 (f4.cmp f3) own_d_prog_3_method_16_code_6 (pc' := 7) rfl ?_
  by_cases c5 : (i_x * ((2 : Nat) : Int)) < i_y
  · -- yes c5
    refine own_ifF X0 (own_c3_lt c5).2 own_d_prog_3_method_16_code_7 (pc' := 10) rfl ?_
    refine own_iconst X0 (v := (1 : Int32)) (by decide) own_d_prog_3_method_16_code_10 (pc' := 11) rfl ?_
    refine own_goto X0 own_d_prog_3_method_16_code_11 (pc' := 15) (by decide) (by decide) ?_
    exact own_retZ X0 (by decide) own_d_prog_3_method_16_code_15 rfl (by decide) (by decide) ⟨by rw [if_pos (by omega)], rfl⟩
  · -- no c5
    refine own_ifT X0 (own_c3_nlt c5).2 own_d_prog_3_method_16_code_7 (pc' := 14) (by decide) (by decide) ?_
    refine own_iconst X0 (v := (0 : Int32)) (by decide) own_d_prog_3_method_16_code_14 (pc' := 15) rfl ?_
    exact own_retZ X0 (by decide) own_d_prog_3_method_16_code_15 rfl (by decide) (by decide) ⟨by rw [if_neg (by omega)], rfl⟩
abbrev own_rm_own_si : Room := ({ frames := 0, cells := 0, slots := 0, locals := 0 } : Room)
set_option maxRecDepth 65536 in
set_option maxHeartbeats 40000000 in
theorem own_si (l : Launch) (Z : State) (a0 : Array Value) (hw : ∀ d ∈ tables_1, d.before a0 Z = true) (x0 : UInt64) (i_x : Int) (k0 b0 : Nat) (h0 : Heap) (n0 : Nat) (Z0 : n0 ≤ h0.size) (D_x : own_D k0 b0 i_x x0) :
    own_Met l Z ({ cls := "com/example/nullstelle/nullstelle/Bracket", name := "shrinksFast", desc := "(DD)Z" } : Jvm.MethodName) prog_3_method_16_code 4 (some .boolean) [] own_rm_own_si #[(.double x0), (.double (9218868437227405312 : UInt64))] h0 n0 (fun v h => v = some (.int 1) ∧ h = h0) := by
  refine own_meet (plainFor_of_name own_pn0) Z0 (Ls0 := #[.val (.double x0), .second, .val (.double (9218868437227405312 : UInt64)), .second]) (by intro m; first | (simp [entryFrame, mkF, argsToLocals, Value.category]; done) | rfl) ?_
  intro p e s m below meth c T0 X0
  refine own_dloadN X0 rfl own_d_prog_3_method_16_code_0 (pc' := 1) rfl ?_
  refine own_dloadN X0 rfl own_d_prog_3_method_16_code_1 (pc' := 2) rfl ?_
  refine own_ldcD X0 (v := (4611686018427387904 : UInt64)) (hw _ (List.mem_of_getElem? (i := 5) rfl)) own_d_prog_3_method_16_code_2 (pc' := 5) rfl ?_
  have e7 : FP.ddiv (9218868437227405312 : UInt64) (4611686018427387904 : UInt64) = (9218868437227405312 : UInt64) := by decide +kernel
  have q7 : Jvm.Free.Fl.NoNaN64 (9218868437227405312 : UInt64) := by unfold Jvm.Free.Fl.NoNaN64; decide
  refine own_ddiv X0 e7 q7 own_d_prog_3_method_16_code_5 (pc' := 6) rfl ?_
  refine own_dcmp X0 (v := (-1 : Int32)) (dcmp_pinf D_x.isFin _) own_d_prog_3_method_16_code_6 (pc' := 7) rfl ?_
  refine own_ifF X0 (by decide) own_d_prog_3_method_16_code_7 (pc' := 10) rfl ?_
  refine own_iconst X0 (v := (1 : Int32)) (by decide) own_d_prog_3_method_16_code_10 (pc' := 11) rfl ?_
  refine own_goto X0 own_d_prog_3_method_16_code_11 (pc' := 15) (by decide) (by decide) ?_
  exact own_retZ X0 (by decide) own_d_prog_3_method_16_code_15 rfl (by decide) (by decide) ⟨rfl, rfl⟩
theorem own_pn1 : plainName "com/example/nullstelle/nullstelle/BracketShrinksFastPinLaw" = true := by first | (simp [plainName, overriddenIn]; done) | decide +kernel
set_option maxRecDepth 65536 in
set_option maxHeartbeats 40000000 in
theorem own_law (l : Launch) (Z : State) (a0 : Array Value) (hw : ∀ d ∈ tables_1, d.before a0 Z = true) (ws : List Jvm.Cond) (p0 : Int32) (p1 : Int32) (p2 : Int32) (h0 : Heap) (n0 : Nat) (Z0 : n0 ≤ h0.size)  :
    own_Met l Z x code maxLocals ret ws room_1 #[(.int p0), (.int p1), (.int p2)] h0 n0 (fun v _ => v = some (.int 1)) := by
  refine own_meet (plainFor_of_name own_pn1) Z0 (Ls0 := #[.val (.int p0), .val (.int p1), .val (.int p2), .unset, .unset, .unset, .unset, .unset, .unset, .unset, .unset]) (by intro m; first | (simp [entryFrame, mkF, argsToLocals, Value.category, maxLocals]; done) | rfl) ?_
  intro p e s m below meth c T0 X0
  refine own_iconst X0 (v := (1 : Int32)) (by decide) at_0 (pc' := 1) rfl ?_
  refine own_iloadN X0 rfl at_1 (pc' := 2) rfl ?_
  refine own_bipush X0 (v := (15 : Int32)) (by decide) at_2 (pc' := 4) rfl ?_
  obtain ⟨i8, e8⟩ : ∃ v, p2 &&& (15 : Int32) = v := ⟨_, rfl⟩
  have f8 : own_I 15 i8.toInt i8 := own_I.and e8 (by decide)
  have nn8 := own_and_nn (M := 15) e8 (by decide)
  refine own_iand X0 e8 at_4 (pc' := 5) rfl ?_
  rcases own_cases16 nn8 with rfl | rfl | rfl | rfl | rfl | rfl | rfl | rfl | rfl | rfl | rfl | rfl | rfl | rfl | rfl | rfl
  · -- 0
    refine own_ishl X0 (v := (1 : Int32)) (by decide) at_5 (pc' := 6) rfl ?_
    have f9 : own_I 1 (1 : Int) (1 : Int32) := own_I.lit (by decide) (by decide)
    obtain ⟨d10, e10⟩ : ∃ v, FP.i2d (1 : Int32) = v := ⟨_, rfl⟩
    have f10 : own_D 0 1 (1 : Int) d10 := own_D.i2d f9 e10
    refine own_i2d X0 e10 at_6 (pc' := 7) rfl ?_
    refine own_dstoreN X0 (Ls' := #[.val (.int p0), .val (.int p1), .val (.int p2), .val (.double d10), .second, .unset, .unset, .unset, .unset, .unset, .unset]) rfl at_7 (pc' := 8) rfl ?_
    refine own_iloadN X0 rfl at_8 (pc' := 9) rfl ?_
    refine own_iconst X0 (v := (4 : Int32)) (by decide) at_9 (pc' := 10) rfl ?_
    obtain ⟨i11, e11⟩ : ∃ v, XT.ushr p2 (4 : Int32) = v := ⟨_, rfl⟩
    refine own_iushr X0 e11 at_10 (pc' := 11) rfl ?_
    refine own_iconst X0 (v := (1 : Int32)) (by decide) at_11 (pc' := 12) rfl ?_
    obtain ⟨i12, e12⟩ : ∃ v, i11 &&& (1 : Int32) = v := ⟨_, rfl⟩
    have f12 : own_I 1 i12.toInt i12 := own_I.and e12 (by decide)
    have nn12 := own_and_nn (M := 1) e12 (by decide)
    refine own_iand X0 e12 at_12 (pc' := 13) rfl ?_
    by_cases c13 : i12 = 0
    · -- yes c13
      refine own_ifT X0 (own_z_eq c13).1 at_13 (pc' := 20) (by decide) (by decide) ?_
      refine own_iconst X0 (v := (0 : Int32)) (by decide) at_20 (pc' := 21) rfl ?_
      refine own_istore X0 (Ls' := #[.val (.int p0), .val (.int p1), .val (.int p2), .val (.double d10), .second, .val (.int (0 : Int32)), .unset, .unset, .unset, .unset, .unset]) rfl at_21 (pc' := 23) rfl ?_
      refine own_iloadN X0 rfl at_23 (pc' := 24) rfl ?_
      have f14 := own_I.start p0
      obtain ⟨d15, e15⟩ : ∃ v, FP.i2d p0 = v := ⟨_, rfl⟩
      have f15 : own_D 0 2147483648 p0.toInt d15 := own_D.i2d f14 e15
      refine own_i2d X0 e15 at_24 (pc' := 25) rfl ?_
      refine own_dloadN X0 rfl at_25 (pc' := 26) rfl ?_
      obtain ⟨d16, e16⟩ : ∃ v, FP.ddiv d15 d10 = v := ⟨_, rfl⟩
      have f16 : own_D 0 2147483648 p0.toInt d16 := own_D.divp (r := 0) (P := 1) f15 f10 (by decide) e16 (by decide) (by decide) (by decide)
      refine own_ddiv X0 e16 f16.nn at_26 (pc' := 27) rfl ?_
      refine own_dstore X0 (Ls' := #[.val (.int p0), .val (.int p1), .val (.int p2), .val (.double d10), .second, .val (.int (0 : Int32)), .val (.double d16), .second, .unset, .unset, .unset]) rfl at_27 (pc' := 29) rfl ?_
      refine own_iload X0 rfl at_29 (pc' := 31) rfl ?_
      refine own_ifT X0 (by decide) at_31 (pc' := 40) (by decide) (by decide) ?_
      refine own_iloadN X0 rfl at_40 (pc' := 41) rfl ?_
      have f17 := own_I.start p1
      obtain ⟨d18, e18⟩ : ∃ v, FP.i2d p1 = v := ⟨_, rfl⟩
      have f18 : own_D 0 2147483648 p1.toInt d18 := own_D.i2d f17 e18
      refine own_i2d X0 e18 at_41 (pc' := 42) rfl ?_
      refine own_dloadN X0 rfl at_42 (pc' := 43) rfl ?_
      obtain ⟨d19, e19⟩ : ∃ v, FP.ddiv d18 d10 = v := ⟨_, rfl⟩
      have f19 : own_D 0 2147483648 p1.toInt d19 := own_D.divp (r := 0) (P := 1) f18 f10 (by decide) e19 (by decide) (by decide) (by decide)
      refine own_ddiv X0 e19 f19.nn at_43 (pc' := 44) rfl ?_
      refine own_dstore X0 (Ls' := #[.val (.int p0), .val (.int p1), .val (.int p2), .val (.double d10), .second, .val (.int (0 : Int32)), .val (.double d16), .second, .val (.double d19), .second, .unset]) rfl at_44 (pc' := 46) rfl ?_
      refine own_iload X0 rfl at_46 (pc' := 48) rfl ?_
      refine own_ifT X0 (by decide) at_48 (pc' := 55) (by decide) (by decide) ?_
      refine own_ldcJ X0 (v := (2 : Int64)) (hw _ (List.mem_of_getElem? (i := 0) rfl)) at_55 (pc' := 58) rfl ?_
      refine own_iloadN X0 rfl at_58 (pc' := 59) rfl ?_
      obtain ⟨j20, e20⟩ : ∃ v, p0.toInt64 = v := ⟨_, rfl⟩
      have f20 : own_L 2147483648 p0.toInt j20 := own_L.ofI f14 e20
      refine own_i2l X0 e20 at_59 (pc' := 60) rfl ?_
      obtain ⟨j21, e21⟩ : ∃ v, (2 : Int64) * j20 = v := ⟨_, rfl⟩
      have f22 : own_L 2 (2 : Int) (2 : Int64) := own_L.lit (by decide) (by decide)
      have f21 : own_L 4294967296 ((2 : Int) * p0.toInt) j21 := f22.mul f20 e21 (by decide) (by decide)
      refine own_lmul X0 e21 at_60 (pc' := 61) rfl ?_
      refine own_iloadN X0 rfl at_61 (pc' := 62) rfl ?_
      obtain ⟨j23, e23⟩ : ∃ v, p1.toInt64 = v := ⟨_, rfl⟩
      have f23 : own_L 2147483648 p1.toInt j23 := own_L.ofI f17 e23
      refine own_i2l X0 e23 at_62 (pc' := 63) rfl ?_
      refine own_lcmp X0 (f21.cmp f23) at_63 (pc' := 64) rfl ?_
      by_cases c24 : ((2 : Int) * p0.toInt) < p1.toInt
      · -- yes c24
        refine own_ifF X0 (own_c3_lt c24).2 at_64 (pc' := 67) rfl ?_
        refine own_iconst X0 (v := (1 : Int32)) (by decide) at_67 (pc' := 68) rfl ?_
        refine own_goto X0 at_68 (pc' := 72) (by decide) (by decide) ?_
        refine own_istore X0 (Ls' := #[.val (.int p0), .val (.int p1), .val (.int p2), .val (.double d10), .second, .val (.int (0 : Int32)), .val (.double d16), .second, .val (.double d19), .second, .val (.int (1 : Int32))]) rfl at_72 (pc' := 74) rfl ?_
        refine own_dload X0 rfl at_74 (pc' := 76) rfl ?_
        refine own_dload X0 rfl at_76 (pc' := 78) rfl ?_
        refine own_callS X0 (own_sf l Z a0 hw d16 d19 p0.toInt p1.toInt 0 2147483648 2147483648 _ n0 X0.le f16 f19 (by decide) (by decide)) (hw _ (List.mem_of_getElem? (i := 1) rfl)) (hw _ (List.mem_of_getElem? (i := 2) rfl)) (hw _ (List.mem_of_getElem? (i := 3) rfl)) (hw _ (List.mem_of_getElem? (i := 4) rfl)) (by decide) rfl (by decide) (W := 0) (Nat.le_of_eq rfl) (by decide) (cells' := 0) (slots' := 0) rfl rfl (by decide) (by decide) (argsL := [(.double d16), (.double d19)]) (rest := []) (lenOf own_pd0 rfl) rfl rfl at_78 (pc' := 81) rfl ?_
        rintro _ T25 h25 X25 ⟨rfl, e25⟩
        subst e25
        show own_Goal p e below _ T25 (mkF m 81 #[.val (.int p0), .val (.int p1), .val (.int p2), .val (.double d10), .second, .val (.int (0 : Int32)), .val (.double d16), .second, .val (.double d19), .second, .val (.int (1 : Int32))] [(.int (if 2 * p0.toInt < p1.toInt then 1 else 0 : Int32))])
        refine own_iload X25 rfl at_81 (pc' := 83) rfl ?_
        have c26 : (if 2 * p0.toInt < p1.toInt then 1 else 0 : Int32) = (1 : Int32) := if_pos c24
        refine own_icmpF X25 (own_i_eq c26).2 at_83 (pc' := 86) rfl ?_
        refine own_iconst X25 (v := (1 : Int32)) (by decide) at_86 (pc' := 87) rfl ?_
        refine own_goto X25 at_87 (pc' := 91) (by decide) (by decide) ?_
        exact own_retZ X25 (by decide) at_91 rfl (by decide) (by decide) rfl
      · -- no c24
        refine own_ifT X0 (own_c3_nlt c24).2 at_64 (pc' := 71) (by decide) (by decide) ?_
        refine own_iconst X0 (v := (0 : Int32)) (by decide) at_71 (pc' := 72) rfl ?_
        refine own_istore X0 (Ls' := #[.val (.int p0), .val (.int p1), .val (.int p2), .val (.double d10), .second, .val (.int (0 : Int32)), .val (.double d16), .second, .val (.double d19), .second, .val (.int (0 : Int32))]) rfl at_72 (pc' := 74) rfl ?_
        refine own_dload X0 rfl at_74 (pc' := 76) rfl ?_
        refine own_dload X0 rfl at_76 (pc' := 78) rfl ?_
        refine own_callS X0 (own_sf l Z a0 hw d16 d19 p0.toInt p1.toInt 0 2147483648 2147483648 _ n0 X0.le f16 f19 (by decide) (by decide)) (hw _ (List.mem_of_getElem? (i := 1) rfl)) (hw _ (List.mem_of_getElem? (i := 2) rfl)) (hw _ (List.mem_of_getElem? (i := 3) rfl)) (hw _ (List.mem_of_getElem? (i := 4) rfl)) (by decide) rfl (by decide) (W := 0) (Nat.le_of_eq rfl) (by decide) (cells' := 0) (slots' := 0) rfl rfl (by decide) (by decide) (argsL := [(.double d16), (.double d19)]) (rest := []) (lenOf own_pd0 rfl) rfl rfl at_78 (pc' := 81) rfl ?_
        rintro _ T27 h27 X27 ⟨rfl, e27⟩
        subst e27
        show own_Goal p e below _ T27 (mkF m 81 #[.val (.int p0), .val (.int p1), .val (.int p2), .val (.double d10), .second, .val (.int (0 : Int32)), .val (.double d16), .second, .val (.double d19), .second, .val (.int (0 : Int32))] [(.int (if 2 * p0.toInt < p1.toInt then 1 else 0 : Int32))])
        refine own_iload X27 rfl at_81 (pc' := 83) rfl ?_
        have c28 : (if 2 * p0.toInt < p1.toInt then 1 else 0 : Int32) = (0 : Int32) := if_neg c24
        refine own_icmpF X27 (own_i_eq c28).2 at_83 (pc' := 86) rfl ?_
        refine own_iconst X27 (v := (1 : Int32)) (by decide) at_86 (pc' := 87) rfl ?_
        refine own_goto X27 at_87 (pc' := 91) (by decide) (by decide) ?_
        exact own_retZ X27 (by decide) at_91 rfl (by decide) (by decide) rfl
    · -- no c13
      refine own_ifF X0 (own_z_ne c13).1 at_13 (pc' := 16) rfl ?_
      refine own_iconst X0 (v := (1 : Int32)) (by decide) at_16 (pc' := 17) rfl ?_
      refine own_goto X0 at_17 (pc' := 21) (by decide) (by decide) ?_
      refine own_istore X0 (Ls' := #[.val (.int p0), .val (.int p1), .val (.int p2), .val (.double d10), .second, .val (.int (1 : Int32)), .unset, .unset, .unset, .unset, .unset]) rfl at_21 (pc' := 23) rfl ?_
      refine own_iloadN X0 rfl at_23 (pc' := 24) rfl ?_
      have f29 := own_I.start p0
      obtain ⟨d30, e30⟩ : ∃ v, FP.i2d p0 = v := ⟨_, rfl⟩
      have f30 : own_D 0 2147483648 p0.toInt d30 := own_D.i2d f29 e30
      refine own_i2d X0 e30 at_24 (pc' := 25) rfl ?_
      refine own_dloadN X0 rfl at_25 (pc' := 26) rfl ?_
      obtain ⟨d31, e31⟩ : ∃ v, FP.ddiv d30 d10 = v := ⟨_, rfl⟩
      have f31 : own_D 0 2147483648 p0.toInt d31 := own_D.divp (r := 0) (P := 1) f30 f10 (by decide) e31 (by decide) (by decide) (by decide)
      refine own_ddiv X0 e31 f31.nn at_26 (pc' := 27) rfl ?_
      refine own_dstore X0 (Ls' := #[.val (.int p0), .val (.int p1), .val (.int p2), .val (.double d10), .second, .val (.int (1 : Int32)), .val (.double d31), .second, .unset, .unset, .unset]) rfl at_27 (pc' := 29) rfl ?_
      refine own_iload X0 rfl at_29 (pc' := 31) rfl ?_
      refine own_ifF X0 (by decide) at_31 (pc' := 34) rfl ?_
      refine own_ldcD X0 (v := (9218868437227405312 : UInt64)) (hw _ (List.mem_of_getElem? (i := 6) rfl)) at_34 (pc' := 37) rfl ?_
      refine own_goto X0 at_37 (pc' := 44) (by decide) (by decide) ?_
      refine own_dstore X0 (Ls' := #[.val (.int p0), .val (.int p1), .val (.int p2), .val (.double d10), .second, .val (.int (1 : Int32)), .val (.double d31), .second, .val (.double (9218868437227405312 : UInt64)), .second, .unset]) rfl at_44 (pc' := 46) rfl ?_
      refine own_iload X0 rfl at_46 (pc' := 48) rfl ?_
      refine own_ifF X0 (by decide) at_48 (pc' := 51) rfl ?_
      refine own_iconst X0 (v := (1 : Int32)) (by decide) at_51 (pc' := 52) rfl ?_
      refine own_goto X0 at_52 (pc' := 72) (by decide) (by decide) ?_
      refine own_istore X0 (Ls' := #[.val (.int p0), .val (.int p1), .val (.int p2), .val (.double d10), .second, .val (.int (1 : Int32)), .val (.double d31), .second, .val (.double (9218868437227405312 : UInt64)), .second, .val (.int (1 : Int32))]) rfl at_72 (pc' := 74) rfl ?_
      refine own_dload X0 rfl at_74 (pc' := 76) rfl ?_
      refine own_dload X0 rfl at_76 (pc' := 78) rfl ?_
      refine own_callS X0 (own_si l Z a0 hw d31 p0.toInt 0 2147483648 _ n0 X0.le f31) (hw _ (List.mem_of_getElem? (i := 1) rfl)) (hw _ (List.mem_of_getElem? (i := 2) rfl)) (hw _ (List.mem_of_getElem? (i := 3) rfl)) (hw _ (List.mem_of_getElem? (i := 4) rfl)) (by decide) rfl (by decide) (W := 0) (Nat.le_of_eq rfl) (by decide) (cells' := 0) (slots' := 0) rfl rfl (by decide) (by decide) (argsL := [(.double d31), (.double (9218868437227405312 : UInt64))]) (rest := []) (lenOf own_pd0 rfl) rfl rfl at_78 (pc' := 81) rfl ?_
      rintro _ T32 h32 X32 ⟨rfl, e32⟩
      subst e32
      show own_Goal p e below _ T32 (mkF m 81 #[.val (.int p0), .val (.int p1), .val (.int p2), .val (.double d10), .second, .val (.int (1 : Int32)), .val (.double d31), .second, .val (.double (9218868437227405312 : UInt64)), .second, .val (.int (1 : Int32))] [(.int (1 : Int32))])
      refine own_iload X32 rfl at_81 (pc' := 83) rfl ?_
      refine own_icmpF X32 (by decide) at_83 (pc' := 86) rfl ?_
      refine own_iconst X32 (v := (1 : Int32)) (by decide) at_86 (pc' := 87) rfl ?_
      refine own_goto X32 at_87 (pc' := 91) (by decide) (by decide) ?_
      exact own_retZ X32 (by decide) at_91 rfl (by decide) (by decide) rfl
  · -- 1
    refine own_ishl X0 (v := (2 : Int32)) (by decide) at_5 (pc' := 6) rfl ?_
    have f33 : own_I 2 (2 : Int) (2 : Int32) := own_I.lit (by decide) (by decide)
    obtain ⟨d34, e34⟩ : ∃ v, FP.i2d (2 : Int32) = v := ⟨_, rfl⟩
    have f34 : own_D 0 2 (2 : Int) d34 := own_D.i2d f33 e34
    refine own_i2d X0 e34 at_6 (pc' := 7) rfl ?_
    refine own_dstoreN X0 (Ls' := #[.val (.int p0), .val (.int p1), .val (.int p2), .val (.double d34), .second, .unset, .unset, .unset, .unset, .unset, .unset]) rfl at_7 (pc' := 8) rfl ?_
    refine own_iloadN X0 rfl at_8 (pc' := 9) rfl ?_
    refine own_iconst X0 (v := (4 : Int32)) (by decide) at_9 (pc' := 10) rfl ?_
    obtain ⟨i35, e35⟩ : ∃ v, XT.ushr p2 (4 : Int32) = v := ⟨_, rfl⟩
    refine own_iushr X0 e35 at_10 (pc' := 11) rfl ?_
    refine own_iconst X0 (v := (1 : Int32)) (by decide) at_11 (pc' := 12) rfl ?_
    obtain ⟨i36, e36⟩ : ∃ v, i35 &&& (1 : Int32) = v := ⟨_, rfl⟩
    have f36 : own_I 1 i36.toInt i36 := own_I.and e36 (by decide)
    have nn36 := own_and_nn (M := 1) e36 (by decide)
    refine own_iand X0 e36 at_12 (pc' := 13) rfl ?_
    by_cases c37 : i36 = 0
    · -- yes c37
      refine own_ifT X0 (own_z_eq c37).1 at_13 (pc' := 20) (by decide) (by decide) ?_
      refine own_iconst X0 (v := (0 : Int32)) (by decide) at_20 (pc' := 21) rfl ?_
      refine own_istore X0 (Ls' := #[.val (.int p0), .val (.int p1), .val (.int p2), .val (.double d34), .second, .val (.int (0 : Int32)), .unset, .unset, .unset, .unset, .unset]) rfl at_21 (pc' := 23) rfl ?_
      refine own_iloadN X0 rfl at_23 (pc' := 24) rfl ?_
      have f38 := own_I.start p0
      obtain ⟨d39, e39⟩ : ∃ v, FP.i2d p0 = v := ⟨_, rfl⟩
      have f39 : own_D 0 2147483648 p0.toInt d39 := own_D.i2d f38 e39
      refine own_i2d X0 e39 at_24 (pc' := 25) rfl ?_
      refine own_dloadN X0 rfl at_25 (pc' := 26) rfl ?_
      obtain ⟨d40, e40⟩ : ∃ v, FP.ddiv d39 d34 = v := ⟨_, rfl⟩
      have f40 : own_D 1 2147483648 p0.toInt d40 := own_D.divp (r := 1) (P := 2) f39 f34 (by decide) e40 (by decide) (by decide) (by decide)
      refine own_ddiv X0 e40 f40.nn at_26 (pc' := 27) rfl ?_
      refine own_dstore X0 (Ls' := #[.val (.int p0), .val (.int p1), .val (.int p2), .val (.double d34), .second, .val (.int (0 : Int32)), .val (.double d40), .second, .unset, .unset, .unset]) rfl at_27 (pc' := 29) rfl ?_
      refine own_iload X0 rfl at_29 (pc' := 31) rfl ?_
      refine own_ifT X0 (by decide) at_31 (pc' := 40) (by decide) (by decide) ?_
      refine own_iloadN X0 rfl at_40 (pc' := 41) rfl ?_
      have f41 := own_I.start p1
      obtain ⟨d42, e42⟩ : ∃ v, FP.i2d p1 = v := ⟨_, rfl⟩
      have f42 : own_D 0 2147483648 p1.toInt d42 := own_D.i2d f41 e42
      refine own_i2d X0 e42 at_41 (pc' := 42) rfl ?_
      refine own_dloadN X0 rfl at_42 (pc' := 43) rfl ?_
      obtain ⟨d43, e43⟩ : ∃ v, FP.ddiv d42 d34 = v := ⟨_, rfl⟩
      have f43 : own_D 1 2147483648 p1.toInt d43 := own_D.divp (r := 1) (P := 2) f42 f34 (by decide) e43 (by decide) (by decide) (by decide)
      refine own_ddiv X0 e43 f43.nn at_43 (pc' := 44) rfl ?_
      refine own_dstore X0 (Ls' := #[.val (.int p0), .val (.int p1), .val (.int p2), .val (.double d34), .second, .val (.int (0 : Int32)), .val (.double d40), .second, .val (.double d43), .second, .unset]) rfl at_44 (pc' := 46) rfl ?_
      refine own_iload X0 rfl at_46 (pc' := 48) rfl ?_
      refine own_ifT X0 (by decide) at_48 (pc' := 55) (by decide) (by decide) ?_
      refine own_ldcJ X0 (v := (2 : Int64)) (hw _ (List.mem_of_getElem? (i := 0) rfl)) at_55 (pc' := 58) rfl ?_
      refine own_iloadN X0 rfl at_58 (pc' := 59) rfl ?_
      obtain ⟨j44, e44⟩ : ∃ v, p0.toInt64 = v := ⟨_, rfl⟩
      have f44 : own_L 2147483648 p0.toInt j44 := own_L.ofI f38 e44
      refine own_i2l X0 e44 at_59 (pc' := 60) rfl ?_
      obtain ⟨j45, e45⟩ : ∃ v, (2 : Int64) * j44 = v := ⟨_, rfl⟩
      have f46 : own_L 2 (2 : Int) (2 : Int64) := own_L.lit (by decide) (by decide)
      have f45 : own_L 4294967296 ((2 : Int) * p0.toInt) j45 := f46.mul f44 e45 (by decide) (by decide)
      refine own_lmul X0 e45 at_60 (pc' := 61) rfl ?_
      refine own_iloadN X0 rfl at_61 (pc' := 62) rfl ?_
      obtain ⟨j47, e47⟩ : ∃ v, p1.toInt64 = v := ⟨_, rfl⟩
      have f47 : own_L 2147483648 p1.toInt j47 := own_L.ofI f41 e47
      refine own_i2l X0 e47 at_62 (pc' := 63) rfl ?_
      refine own_lcmp X0 (f45.cmp f47) at_63 (pc' := 64) rfl ?_
      by_cases c48 : ((2 : Int) * p0.toInt) < p1.toInt
      · -- yes c48
        refine own_ifF X0 (own_c3_lt c48).2 at_64 (pc' := 67) rfl ?_
        refine own_iconst X0 (v := (1 : Int32)) (by decide) at_67 (pc' := 68) rfl ?_
        refine own_goto X0 at_68 (pc' := 72) (by decide) (by decide) ?_
        refine own_istore X0 (Ls' := #[.val (.int p0), .val (.int p1), .val (.int p2), .val (.double d34), .second, .val (.int (0 : Int32)), .val (.double d40), .second, .val (.double d43), .second, .val (.int (1 : Int32))]) rfl at_72 (pc' := 74) rfl ?_
        refine own_dload X0 rfl at_74 (pc' := 76) rfl ?_
        refine own_dload X0 rfl at_76 (pc' := 78) rfl ?_
        refine own_callS X0 (own_sf l Z a0 hw d40 d43 p0.toInt p1.toInt 1 2147483648 2147483648 _ n0 X0.le f40 f43 (by decide) (by decide)) (hw _ (List.mem_of_getElem? (i := 1) rfl)) (hw _ (List.mem_of_getElem? (i := 2) rfl)) (hw _ (List.mem_of_getElem? (i := 3) rfl)) (hw _ (List.mem_of_getElem? (i := 4) rfl)) (by decide) rfl (by decide) (W := 0) (Nat.le_of_eq rfl) (by decide) (cells' := 0) (slots' := 0) rfl rfl (by decide) (by decide) (argsL := [(.double d40), (.double d43)]) (rest := []) (lenOf own_pd0 rfl) rfl rfl at_78 (pc' := 81) rfl ?_
        rintro _ T49 h49 X49 ⟨rfl, e49⟩
        subst e49
        show own_Goal p e below _ T49 (mkF m 81 #[.val (.int p0), .val (.int p1), .val (.int p2), .val (.double d34), .second, .val (.int (0 : Int32)), .val (.double d40), .second, .val (.double d43), .second, .val (.int (1 : Int32))] [(.int (if 2 * p0.toInt < p1.toInt then 1 else 0 : Int32))])
        refine own_iload X49 rfl at_81 (pc' := 83) rfl ?_
        have c50 : (if 2 * p0.toInt < p1.toInt then 1 else 0 : Int32) = (1 : Int32) := if_pos c48
        refine own_icmpF X49 (own_i_eq c50).2 at_83 (pc' := 86) rfl ?_
        refine own_iconst X49 (v := (1 : Int32)) (by decide) at_86 (pc' := 87) rfl ?_
        refine own_goto X49 at_87 (pc' := 91) (by decide) (by decide) ?_
        exact own_retZ X49 (by decide) at_91 rfl (by decide) (by decide) rfl
      · -- no c48
        refine own_ifT X0 (own_c3_nlt c48).2 at_64 (pc' := 71) (by decide) (by decide) ?_
        refine own_iconst X0 (v := (0 : Int32)) (by decide) at_71 (pc' := 72) rfl ?_
        refine own_istore X0 (Ls' := #[.val (.int p0), .val (.int p1), .val (.int p2), .val (.double d34), .second, .val (.int (0 : Int32)), .val (.double d40), .second, .val (.double d43), .second, .val (.int (0 : Int32))]) rfl at_72 (pc' := 74) rfl ?_
        refine own_dload X0 rfl at_74 (pc' := 76) rfl ?_
        refine own_dload X0 rfl at_76 (pc' := 78) rfl ?_
        refine own_callS X0 (own_sf l Z a0 hw d40 d43 p0.toInt p1.toInt 1 2147483648 2147483648 _ n0 X0.le f40 f43 (by decide) (by decide)) (hw _ (List.mem_of_getElem? (i := 1) rfl)) (hw _ (List.mem_of_getElem? (i := 2) rfl)) (hw _ (List.mem_of_getElem? (i := 3) rfl)) (hw _ (List.mem_of_getElem? (i := 4) rfl)) (by decide) rfl (by decide) (W := 0) (Nat.le_of_eq rfl) (by decide) (cells' := 0) (slots' := 0) rfl rfl (by decide) (by decide) (argsL := [(.double d40), (.double d43)]) (rest := []) (lenOf own_pd0 rfl) rfl rfl at_78 (pc' := 81) rfl ?_
        rintro _ T51 h51 X51 ⟨rfl, e51⟩
        subst e51
        show own_Goal p e below _ T51 (mkF m 81 #[.val (.int p0), .val (.int p1), .val (.int p2), .val (.double d34), .second, .val (.int (0 : Int32)), .val (.double d40), .second, .val (.double d43), .second, .val (.int (0 : Int32))] [(.int (if 2 * p0.toInt < p1.toInt then 1 else 0 : Int32))])
        refine own_iload X51 rfl at_81 (pc' := 83) rfl ?_
        have c52 : (if 2 * p0.toInt < p1.toInt then 1 else 0 : Int32) = (0 : Int32) := if_neg c48
        refine own_icmpF X51 (own_i_eq c52).2 at_83 (pc' := 86) rfl ?_
        refine own_iconst X51 (v := (1 : Int32)) (by decide) at_86 (pc' := 87) rfl ?_
        refine own_goto X51 at_87 (pc' := 91) (by decide) (by decide) ?_
        exact own_retZ X51 (by decide) at_91 rfl (by decide) (by decide) rfl
    · -- no c37
      refine own_ifF X0 (own_z_ne c37).1 at_13 (pc' := 16) rfl ?_
      refine own_iconst X0 (v := (1 : Int32)) (by decide) at_16 (pc' := 17) rfl ?_
      refine own_goto X0 at_17 (pc' := 21) (by decide) (by decide) ?_
      refine own_istore X0 (Ls' := #[.val (.int p0), .val (.int p1), .val (.int p2), .val (.double d34), .second, .val (.int (1 : Int32)), .unset, .unset, .unset, .unset, .unset]) rfl at_21 (pc' := 23) rfl ?_
      refine own_iloadN X0 rfl at_23 (pc' := 24) rfl ?_
      have f53 := own_I.start p0
      obtain ⟨d54, e54⟩ : ∃ v, FP.i2d p0 = v := ⟨_, rfl⟩
      have f54 : own_D 0 2147483648 p0.toInt d54 := own_D.i2d f53 e54
      refine own_i2d X0 e54 at_24 (pc' := 25) rfl ?_
      refine own_dloadN X0 rfl at_25 (pc' := 26) rfl ?_
      obtain ⟨d55, e55⟩ : ∃ v, FP.ddiv d54 d34 = v := ⟨_, rfl⟩
      have f55 : own_D 1 2147483648 p0.toInt d55 := own_D.divp (r := 1) (P := 2) f54 f34 (by decide) e55 (by decide) (by decide) (by decide)
      refine own_ddiv X0 e55 f55.nn at_26 (pc' := 27) rfl ?_
      refine own_dstore X0 (Ls' := #[.val (.int p0), .val (.int p1), .val (.int p2), .val (.double d34), .second, .val (.int (1 : Int32)), .val (.double d55), .second, .unset, .unset, .unset]) rfl at_27 (pc' := 29) rfl ?_
      refine own_iload X0 rfl at_29 (pc' := 31) rfl ?_
      refine own_ifF X0 (by decide) at_31 (pc' := 34) rfl ?_
      refine own_ldcD X0 (v := (9218868437227405312 : UInt64)) (hw _ (List.mem_of_getElem? (i := 6) rfl)) at_34 (pc' := 37) rfl ?_
      refine own_goto X0 at_37 (pc' := 44) (by decide) (by decide) ?_
      refine own_dstore X0 (Ls' := #[.val (.int p0), .val (.int p1), .val (.int p2), .val (.double d34), .second, .val (.int (1 : Int32)), .val (.double d55), .second, .val (.double (9218868437227405312 : UInt64)), .second, .unset]) rfl at_44 (pc' := 46) rfl ?_
      refine own_iload X0 rfl at_46 (pc' := 48) rfl ?_
      refine own_ifF X0 (by decide) at_48 (pc' := 51) rfl ?_
      refine own_iconst X0 (v := (1 : Int32)) (by decide) at_51 (pc' := 52) rfl ?_
      refine own_goto X0 at_52 (pc' := 72) (by decide) (by decide) ?_
      refine own_istore X0 (Ls' := #[.val (.int p0), .val (.int p1), .val (.int p2), .val (.double d34), .second, .val (.int (1 : Int32)), .val (.double d55), .second, .val (.double (9218868437227405312 : UInt64)), .second, .val (.int (1 : Int32))]) rfl at_72 (pc' := 74) rfl ?_
      refine own_dload X0 rfl at_74 (pc' := 76) rfl ?_
      refine own_dload X0 rfl at_76 (pc' := 78) rfl ?_
      refine own_callS X0 (own_si l Z a0 hw d55 p0.toInt 1 2147483648 _ n0 X0.le f55) (hw _ (List.mem_of_getElem? (i := 1) rfl)) (hw _ (List.mem_of_getElem? (i := 2) rfl)) (hw _ (List.mem_of_getElem? (i := 3) rfl)) (hw _ (List.mem_of_getElem? (i := 4) rfl)) (by decide) rfl (by decide) (W := 0) (Nat.le_of_eq rfl) (by decide) (cells' := 0) (slots' := 0) rfl rfl (by decide) (by decide) (argsL := [(.double d55), (.double (9218868437227405312 : UInt64))]) (rest := []) (lenOf own_pd0 rfl) rfl rfl at_78 (pc' := 81) rfl ?_
      rintro _ T56 h56 X56 ⟨rfl, e56⟩
      subst e56
      show own_Goal p e below _ T56 (mkF m 81 #[.val (.int p0), .val (.int p1), .val (.int p2), .val (.double d34), .second, .val (.int (1 : Int32)), .val (.double d55), .second, .val (.double (9218868437227405312 : UInt64)), .second, .val (.int (1 : Int32))] [(.int (1 : Int32))])
      refine own_iload X56 rfl at_81 (pc' := 83) rfl ?_
      refine own_icmpF X56 (by decide) at_83 (pc' := 86) rfl ?_
      refine own_iconst X56 (v := (1 : Int32)) (by decide) at_86 (pc' := 87) rfl ?_
      refine own_goto X56 at_87 (pc' := 91) (by decide) (by decide) ?_
      exact own_retZ X56 (by decide) at_91 rfl (by decide) (by decide) rfl
  · -- 2
    refine own_ishl X0 (v := (4 : Int32)) (by decide) at_5 (pc' := 6) rfl ?_
    have f57 : own_I 4 (4 : Int) (4 : Int32) := own_I.lit (by decide) (by decide)
    obtain ⟨d58, e58⟩ : ∃ v, FP.i2d (4 : Int32) = v := ⟨_, rfl⟩
    have f58 : own_D 0 4 (4 : Int) d58 := own_D.i2d f57 e58
    refine own_i2d X0 e58 at_6 (pc' := 7) rfl ?_
    refine own_dstoreN X0 (Ls' := #[.val (.int p0), .val (.int p1), .val (.int p2), .val (.double d58), .second, .unset, .unset, .unset, .unset, .unset, .unset]) rfl at_7 (pc' := 8) rfl ?_
    refine own_iloadN X0 rfl at_8 (pc' := 9) rfl ?_
    refine own_iconst X0 (v := (4 : Int32)) (by decide) at_9 (pc' := 10) rfl ?_
    obtain ⟨i59, e59⟩ : ∃ v, XT.ushr p2 (4 : Int32) = v := ⟨_, rfl⟩
    refine own_iushr X0 e59 at_10 (pc' := 11) rfl ?_
    refine own_iconst X0 (v := (1 : Int32)) (by decide) at_11 (pc' := 12) rfl ?_
    obtain ⟨i60, e60⟩ : ∃ v, i59 &&& (1 : Int32) = v := ⟨_, rfl⟩
    have f60 : own_I 1 i60.toInt i60 := own_I.and e60 (by decide)
    have nn60 := own_and_nn (M := 1) e60 (by decide)
    refine own_iand X0 e60 at_12 (pc' := 13) rfl ?_
    by_cases c61 : i60 = 0
    · -- yes c61
      refine own_ifT X0 (own_z_eq c61).1 at_13 (pc' := 20) (by decide) (by decide) ?_
      refine own_iconst X0 (v := (0 : Int32)) (by decide) at_20 (pc' := 21) rfl ?_
      refine own_istore X0 (Ls' := #[.val (.int p0), .val (.int p1), .val (.int p2), .val (.double d58), .second, .val (.int (0 : Int32)), .unset, .unset, .unset, .unset, .unset]) rfl at_21 (pc' := 23) rfl ?_
      refine own_iloadN X0 rfl at_23 (pc' := 24) rfl ?_
      have f62 := own_I.start p0
      obtain ⟨d63, e63⟩ : ∃ v, FP.i2d p0 = v := ⟨_, rfl⟩
      have f63 : own_D 0 2147483648 p0.toInt d63 := own_D.i2d f62 e63
      refine own_i2d X0 e63 at_24 (pc' := 25) rfl ?_
      refine own_dloadN X0 rfl at_25 (pc' := 26) rfl ?_
      obtain ⟨d64, e64⟩ : ∃ v, FP.ddiv d63 d58 = v := ⟨_, rfl⟩
      have f64 : own_D 2 2147483648 p0.toInt d64 := own_D.divp (r := 2) (P := 4) f63 f58 (by decide) e64 (by decide) (by decide) (by decide)
      refine own_ddiv X0 e64 f64.nn at_26 (pc' := 27) rfl ?_
      refine own_dstore X0 (Ls' := #[.val (.int p0), .val (.int p1), .val (.int p2), .val (.double d58), .second, .val (.int (0 : Int32)), .val (.double d64), .second, .unset, .unset, .unset]) rfl at_27 (pc' := 29) rfl ?_
      refine own_iload X0 rfl at_29 (pc' := 31) rfl ?_
      refine own_ifT X0 (by decide) at_31 (pc' := 40) (by decide) (by decide) ?_
      refine own_iloadN X0 rfl at_40 (pc' := 41) rfl ?_
      have f65 := own_I.start p1
      obtain ⟨d66, e66⟩ : ∃ v, FP.i2d p1 = v := ⟨_, rfl⟩
      have f66 : own_D 0 2147483648 p1.toInt d66 := own_D.i2d f65 e66
      refine own_i2d X0 e66 at_41 (pc' := 42) rfl ?_
      refine own_dloadN X0 rfl at_42 (pc' := 43) rfl ?_
      obtain ⟨d67, e67⟩ : ∃ v, FP.ddiv d66 d58 = v := ⟨_, rfl⟩
      have f67 : own_D 2 2147483648 p1.toInt d67 := own_D.divp (r := 2) (P := 4) f66 f58 (by decide) e67 (by decide) (by decide) (by decide)
      refine own_ddiv X0 e67 f67.nn at_43 (pc' := 44) rfl ?_
      refine own_dstore X0 (Ls' := #[.val (.int p0), .val (.int p1), .val (.int p2), .val (.double d58), .second, .val (.int (0 : Int32)), .val (.double d64), .second, .val (.double d67), .second, .unset]) rfl at_44 (pc' := 46) rfl ?_
      refine own_iload X0 rfl at_46 (pc' := 48) rfl ?_
      refine own_ifT X0 (by decide) at_48 (pc' := 55) (by decide) (by decide) ?_
      refine own_ldcJ X0 (v := (2 : Int64)) (hw _ (List.mem_of_getElem? (i := 0) rfl)) at_55 (pc' := 58) rfl ?_
      refine own_iloadN X0 rfl at_58 (pc' := 59) rfl ?_
      obtain ⟨j68, e68⟩ : ∃ v, p0.toInt64 = v := ⟨_, rfl⟩
      have f68 : own_L 2147483648 p0.toInt j68 := own_L.ofI f62 e68
      refine own_i2l X0 e68 at_59 (pc' := 60) rfl ?_
      obtain ⟨j69, e69⟩ : ∃ v, (2 : Int64) * j68 = v := ⟨_, rfl⟩
      have f70 : own_L 2 (2 : Int) (2 : Int64) := own_L.lit (by decide) (by decide)
      have f69 : own_L 4294967296 ((2 : Int) * p0.toInt) j69 := f70.mul f68 e69 (by decide) (by decide)
      refine own_lmul X0 e69 at_60 (pc' := 61) rfl ?_
      refine own_iloadN X0 rfl at_61 (pc' := 62) rfl ?_
      obtain ⟨j71, e71⟩ : ∃ v, p1.toInt64 = v := ⟨_, rfl⟩
      have f71 : own_L 2147483648 p1.toInt j71 := own_L.ofI f65 e71
      refine own_i2l X0 e71 at_62 (pc' := 63) rfl ?_
      refine own_lcmp X0 (f69.cmp f71) at_63 (pc' := 64) rfl ?_
      by_cases c72 : ((2 : Int) * p0.toInt) < p1.toInt
      · -- yes c72
        refine own_ifF X0 (own_c3_lt c72).2 at_64 (pc' := 67) rfl ?_
        refine own_iconst X0 (v := (1 : Int32)) (by decide) at_67 (pc' := 68) rfl ?_
        refine own_goto X0 at_68 (pc' := 72) (by decide) (by decide) ?_
        refine own_istore X0 (Ls' := #[.val (.int p0), .val (.int p1), .val (.int p2), .val (.double d58), .second, .val (.int (0 : Int32)), .val (.double d64), .second, .val (.double d67), .second, .val (.int (1 : Int32))]) rfl at_72 (pc' := 74) rfl ?_
        refine own_dload X0 rfl at_74 (pc' := 76) rfl ?_
        refine own_dload X0 rfl at_76 (pc' := 78) rfl ?_
        refine own_callS X0 (own_sf l Z a0 hw d64 d67 p0.toInt p1.toInt 2 2147483648 2147483648 _ n0 X0.le f64 f67 (by decide) (by decide)) (hw _ (List.mem_of_getElem? (i := 1) rfl)) (hw _ (List.mem_of_getElem? (i := 2) rfl)) (hw _ (List.mem_of_getElem? (i := 3) rfl)) (hw _ (List.mem_of_getElem? (i := 4) rfl)) (by decide) rfl (by decide) (W := 0) (Nat.le_of_eq rfl) (by decide) (cells' := 0) (slots' := 0) rfl rfl (by decide) (by decide) (argsL := [(.double d64), (.double d67)]) (rest := []) (lenOf own_pd0 rfl) rfl rfl at_78 (pc' := 81) rfl ?_
        rintro _ T73 h73 X73 ⟨rfl, e73⟩
        subst e73
        show own_Goal p e below _ T73 (mkF m 81 #[.val (.int p0), .val (.int p1), .val (.int p2), .val (.double d58), .second, .val (.int (0 : Int32)), .val (.double d64), .second, .val (.double d67), .second, .val (.int (1 : Int32))] [(.int (if 2 * p0.toInt < p1.toInt then 1 else 0 : Int32))])
        refine own_iload X73 rfl at_81 (pc' := 83) rfl ?_
        have c74 : (if 2 * p0.toInt < p1.toInt then 1 else 0 : Int32) = (1 : Int32) := if_pos c72
        refine own_icmpF X73 (own_i_eq c74).2 at_83 (pc' := 86) rfl ?_
        refine own_iconst X73 (v := (1 : Int32)) (by decide) at_86 (pc' := 87) rfl ?_
        refine own_goto X73 at_87 (pc' := 91) (by decide) (by decide) ?_
        exact own_retZ X73 (by decide) at_91 rfl (by decide) (by decide) rfl
      · -- no c72
        refine own_ifT X0 (own_c3_nlt c72).2 at_64 (pc' := 71) (by decide) (by decide) ?_
        refine own_iconst X0 (v := (0 : Int32)) (by decide) at_71 (pc' := 72) rfl ?_
        refine own_istore X0 (Ls' := #[.val (.int p0), .val (.int p1), .val (.int p2), .val (.double d58), .second, .val (.int (0 : Int32)), .val (.double d64), .second, .val (.double d67), .second, .val (.int (0 : Int32))]) rfl at_72 (pc' := 74) rfl ?_
        refine own_dload X0 rfl at_74 (pc' := 76) rfl ?_
        refine own_dload X0 rfl at_76 (pc' := 78) rfl ?_
        refine own_callS X0 (own_sf l Z a0 hw d64 d67 p0.toInt p1.toInt 2 2147483648 2147483648 _ n0 X0.le f64 f67 (by decide) (by decide)) (hw _ (List.mem_of_getElem? (i := 1) rfl)) (hw _ (List.mem_of_getElem? (i := 2) rfl)) (hw _ (List.mem_of_getElem? (i := 3) rfl)) (hw _ (List.mem_of_getElem? (i := 4) rfl)) (by decide) rfl (by decide) (W := 0) (Nat.le_of_eq rfl) (by decide) (cells' := 0) (slots' := 0) rfl rfl (by decide) (by decide) (argsL := [(.double d64), (.double d67)]) (rest := []) (lenOf own_pd0 rfl) rfl rfl at_78 (pc' := 81) rfl ?_
        rintro _ T75 h75 X75 ⟨rfl, e75⟩
        subst e75
        show own_Goal p e below _ T75 (mkF m 81 #[.val (.int p0), .val (.int p1), .val (.int p2), .val (.double d58), .second, .val (.int (0 : Int32)), .val (.double d64), .second, .val (.double d67), .second, .val (.int (0 : Int32))] [(.int (if 2 * p0.toInt < p1.toInt then 1 else 0 : Int32))])
        refine own_iload X75 rfl at_81 (pc' := 83) rfl ?_
        have c76 : (if 2 * p0.toInt < p1.toInt then 1 else 0 : Int32) = (0 : Int32) := if_neg c72
        refine own_icmpF X75 (own_i_eq c76).2 at_83 (pc' := 86) rfl ?_
        refine own_iconst X75 (v := (1 : Int32)) (by decide) at_86 (pc' := 87) rfl ?_
        refine own_goto X75 at_87 (pc' := 91) (by decide) (by decide) ?_
        exact own_retZ X75 (by decide) at_91 rfl (by decide) (by decide) rfl
    · -- no c61
      refine own_ifF X0 (own_z_ne c61).1 at_13 (pc' := 16) rfl ?_
      refine own_iconst X0 (v := (1 : Int32)) (by decide) at_16 (pc' := 17) rfl ?_
      refine own_goto X0 at_17 (pc' := 21) (by decide) (by decide) ?_
      refine own_istore X0 (Ls' := #[.val (.int p0), .val (.int p1), .val (.int p2), .val (.double d58), .second, .val (.int (1 : Int32)), .unset, .unset, .unset, .unset, .unset]) rfl at_21 (pc' := 23) rfl ?_
      refine own_iloadN X0 rfl at_23 (pc' := 24) rfl ?_
      have f77 := own_I.start p0
      obtain ⟨d78, e78⟩ : ∃ v, FP.i2d p0 = v := ⟨_, rfl⟩
      have f78 : own_D 0 2147483648 p0.toInt d78 := own_D.i2d f77 e78
      refine own_i2d X0 e78 at_24 (pc' := 25) rfl ?_
      refine own_dloadN X0 rfl at_25 (pc' := 26) rfl ?_
      obtain ⟨d79, e79⟩ : ∃ v, FP.ddiv d78 d58 = v := ⟨_, rfl⟩
      have f79 : own_D 2 2147483648 p0.toInt d79 := own_D.divp (r := 2) (P := 4) f78 f58 (by decide) e79 (by decide) (by decide) (by decide)
      refine own_ddiv X0 e79 f79.nn at_26 (pc' := 27) rfl ?_
      refine own_dstore X0 (Ls' := #[.val (.int p0), .val (.int p1), .val (.int p2), .val (.double d58), .second, .val (.int (1 : Int32)), .val (.double d79), .second, .unset, .unset, .unset]) rfl at_27 (pc' := 29) rfl ?_
      refine own_iload X0 rfl at_29 (pc' := 31) rfl ?_
      refine own_ifF X0 (by decide) at_31 (pc' := 34) rfl ?_
      refine own_ldcD X0 (v := (9218868437227405312 : UInt64)) (hw _ (List.mem_of_getElem? (i := 6) rfl)) at_34 (pc' := 37) rfl ?_
      refine own_goto X0 at_37 (pc' := 44) (by decide) (by decide) ?_
      refine own_dstore X0 (Ls' := #[.val (.int p0), .val (.int p1), .val (.int p2), .val (.double d58), .second, .val (.int (1 : Int32)), .val (.double d79), .second, .val (.double (9218868437227405312 : UInt64)), .second, .unset]) rfl at_44 (pc' := 46) rfl ?_
      refine own_iload X0 rfl at_46 (pc' := 48) rfl ?_
      refine own_ifF X0 (by decide) at_48 (pc' := 51) rfl ?_
      refine own_iconst X0 (v := (1 : Int32)) (by decide) at_51 (pc' := 52) rfl ?_
      refine own_goto X0 at_52 (pc' := 72) (by decide) (by decide) ?_
      refine own_istore X0 (Ls' := #[.val (.int p0), .val (.int p1), .val (.int p2), .val (.double d58), .second, .val (.int (1 : Int32)), .val (.double d79), .second, .val (.double (9218868437227405312 : UInt64)), .second, .val (.int (1 : Int32))]) rfl at_72 (pc' := 74) rfl ?_
      refine own_dload X0 rfl at_74 (pc' := 76) rfl ?_
      refine own_dload X0 rfl at_76 (pc' := 78) rfl ?_
      refine own_callS X0 (own_si l Z a0 hw d79 p0.toInt 2 2147483648 _ n0 X0.le f79) (hw _ (List.mem_of_getElem? (i := 1) rfl)) (hw _ (List.mem_of_getElem? (i := 2) rfl)) (hw _ (List.mem_of_getElem? (i := 3) rfl)) (hw _ (List.mem_of_getElem? (i := 4) rfl)) (by decide) rfl (by decide) (W := 0) (Nat.le_of_eq rfl) (by decide) (cells' := 0) (slots' := 0) rfl rfl (by decide) (by decide) (argsL := [(.double d79), (.double (9218868437227405312 : UInt64))]) (rest := []) (lenOf own_pd0 rfl) rfl rfl at_78 (pc' := 81) rfl ?_
      rintro _ T80 h80 X80 ⟨rfl, e80⟩
      subst e80
      show own_Goal p e below _ T80 (mkF m 81 #[.val (.int p0), .val (.int p1), .val (.int p2), .val (.double d58), .second, .val (.int (1 : Int32)), .val (.double d79), .second, .val (.double (9218868437227405312 : UInt64)), .second, .val (.int (1 : Int32))] [(.int (1 : Int32))])
      refine own_iload X80 rfl at_81 (pc' := 83) rfl ?_
      refine own_icmpF X80 (by decide) at_83 (pc' := 86) rfl ?_
      refine own_iconst X80 (v := (1 : Int32)) (by decide) at_86 (pc' := 87) rfl ?_
      refine own_goto X80 at_87 (pc' := 91) (by decide) (by decide) ?_
      exact own_retZ X80 (by decide) at_91 rfl (by decide) (by decide) rfl
  · -- 3
    refine own_ishl X0 (v := (8 : Int32)) (by decide) at_5 (pc' := 6) rfl ?_
    have f81 : own_I 8 (8 : Int) (8 : Int32) := own_I.lit (by decide) (by decide)
    obtain ⟨d82, e82⟩ : ∃ v, FP.i2d (8 : Int32) = v := ⟨_, rfl⟩
    have f82 : own_D 0 8 (8 : Int) d82 := own_D.i2d f81 e82
    refine own_i2d X0 e82 at_6 (pc' := 7) rfl ?_
    refine own_dstoreN X0 (Ls' := #[.val (.int p0), .val (.int p1), .val (.int p2), .val (.double d82), .second, .unset, .unset, .unset, .unset, .unset, .unset]) rfl at_7 (pc' := 8) rfl ?_
    refine own_iloadN X0 rfl at_8 (pc' := 9) rfl ?_
    refine own_iconst X0 (v := (4 : Int32)) (by decide) at_9 (pc' := 10) rfl ?_
    obtain ⟨i83, e83⟩ : ∃ v, XT.ushr p2 (4 : Int32) = v := ⟨_, rfl⟩
    refine own_iushr X0 e83 at_10 (pc' := 11) rfl ?_
    refine own_iconst X0 (v := (1 : Int32)) (by decide) at_11 (pc' := 12) rfl ?_
    obtain ⟨i84, e84⟩ : ∃ v, i83 &&& (1 : Int32) = v := ⟨_, rfl⟩
    have f84 : own_I 1 i84.toInt i84 := own_I.and e84 (by decide)
    have nn84 := own_and_nn (M := 1) e84 (by decide)
    refine own_iand X0 e84 at_12 (pc' := 13) rfl ?_
    by_cases c85 : i84 = 0
    · -- yes c85
      refine own_ifT X0 (own_z_eq c85).1 at_13 (pc' := 20) (by decide) (by decide) ?_
      refine own_iconst X0 (v := (0 : Int32)) (by decide) at_20 (pc' := 21) rfl ?_
      refine own_istore X0 (Ls' := #[.val (.int p0), .val (.int p1), .val (.int p2), .val (.double d82), .second, .val (.int (0 : Int32)), .unset, .unset, .unset, .unset, .unset]) rfl at_21 (pc' := 23) rfl ?_
      refine own_iloadN X0 rfl at_23 (pc' := 24) rfl ?_
      have f86 := own_I.start p0
      obtain ⟨d87, e87⟩ : ∃ v, FP.i2d p0 = v := ⟨_, rfl⟩
      have f87 : own_D 0 2147483648 p0.toInt d87 := own_D.i2d f86 e87
      refine own_i2d X0 e87 at_24 (pc' := 25) rfl ?_
      refine own_dloadN X0 rfl at_25 (pc' := 26) rfl ?_
      obtain ⟨d88, e88⟩ : ∃ v, FP.ddiv d87 d82 = v := ⟨_, rfl⟩
      have f88 : own_D 3 2147483648 p0.toInt d88 := own_D.divp (r := 3) (P := 8) f87 f82 (by decide) e88 (by decide) (by decide) (by decide)
      refine own_ddiv X0 e88 f88.nn at_26 (pc' := 27) rfl ?_
      refine own_dstore X0 (Ls' := #[.val (.int p0), .val (.int p1), .val (.int p2), .val (.double d82), .second, .val (.int (0 : Int32)), .val (.double d88), .second, .unset, .unset, .unset]) rfl at_27 (pc' := 29) rfl ?_
      refine own_iload X0 rfl at_29 (pc' := 31) rfl ?_
      refine own_ifT X0 (by decide) at_31 (pc' := 40) (by decide) (by decide) ?_
      refine own_iloadN X0 rfl at_40 (pc' := 41) rfl ?_
      have f89 := own_I.start p1
      obtain ⟨d90, e90⟩ : ∃ v, FP.i2d p1 = v := ⟨_, rfl⟩
      have f90 : own_D 0 2147483648 p1.toInt d90 := own_D.i2d f89 e90
      refine own_i2d X0 e90 at_41 (pc' := 42) rfl ?_
      refine own_dloadN X0 rfl at_42 (pc' := 43) rfl ?_
      obtain ⟨d91, e91⟩ : ∃ v, FP.ddiv d90 d82 = v := ⟨_, rfl⟩
      have f91 : own_D 3 2147483648 p1.toInt d91 := own_D.divp (r := 3) (P := 8) f90 f82 (by decide) e91 (by decide) (by decide) (by decide)
      refine own_ddiv X0 e91 f91.nn at_43 (pc' := 44) rfl ?_
      refine own_dstore X0 (Ls' := #[.val (.int p0), .val (.int p1), .val (.int p2), .val (.double d82), .second, .val (.int (0 : Int32)), .val (.double d88), .second, .val (.double d91), .second, .unset]) rfl at_44 (pc' := 46) rfl ?_
      refine own_iload X0 rfl at_46 (pc' := 48) rfl ?_
      refine own_ifT X0 (by decide) at_48 (pc' := 55) (by decide) (by decide) ?_
      refine own_ldcJ X0 (v := (2 : Int64)) (hw _ (List.mem_of_getElem? (i := 0) rfl)) at_55 (pc' := 58) rfl ?_
      refine own_iloadN X0 rfl at_58 (pc' := 59) rfl ?_
      obtain ⟨j92, e92⟩ : ∃ v, p0.toInt64 = v := ⟨_, rfl⟩
      have f92 : own_L 2147483648 p0.toInt j92 := own_L.ofI f86 e92
      refine own_i2l X0 e92 at_59 (pc' := 60) rfl ?_
      obtain ⟨j93, e93⟩ : ∃ v, (2 : Int64) * j92 = v := ⟨_, rfl⟩
      have f94 : own_L 2 (2 : Int) (2 : Int64) := own_L.lit (by decide) (by decide)
      have f93 : own_L 4294967296 ((2 : Int) * p0.toInt) j93 := f94.mul f92 e93 (by decide) (by decide)
      refine own_lmul X0 e93 at_60 (pc' := 61) rfl ?_
      refine own_iloadN X0 rfl at_61 (pc' := 62) rfl ?_
      obtain ⟨j95, e95⟩ : ∃ v, p1.toInt64 = v := ⟨_, rfl⟩
      have f95 : own_L 2147483648 p1.toInt j95 := own_L.ofI f89 e95
      refine own_i2l X0 e95 at_62 (pc' := 63) rfl ?_
      refine own_lcmp X0 (f93.cmp f95) at_63 (pc' := 64) rfl ?_
      by_cases c96 : ((2 : Int) * p0.toInt) < p1.toInt
      · -- yes c96
        refine own_ifF X0 (own_c3_lt c96).2 at_64 (pc' := 67) rfl ?_
        refine own_iconst X0 (v := (1 : Int32)) (by decide) at_67 (pc' := 68) rfl ?_
        refine own_goto X0 at_68 (pc' := 72) (by decide) (by decide) ?_
        refine own_istore X0 (Ls' := #[.val (.int p0), .val (.int p1), .val (.int p2), .val (.double d82), .second, .val (.int (0 : Int32)), .val (.double d88), .second, .val (.double d91), .second, .val (.int (1 : Int32))]) rfl at_72 (pc' := 74) rfl ?_
        refine own_dload X0 rfl at_74 (pc' := 76) rfl ?_
        refine own_dload X0 rfl at_76 (pc' := 78) rfl ?_
        refine own_callS X0 (own_sf l Z a0 hw d88 d91 p0.toInt p1.toInt 3 2147483648 2147483648 _ n0 X0.le f88 f91 (by decide) (by decide)) (hw _ (List.mem_of_getElem? (i := 1) rfl)) (hw _ (List.mem_of_getElem? (i := 2) rfl)) (hw _ (List.mem_of_getElem? (i := 3) rfl)) (hw _ (List.mem_of_getElem? (i := 4) rfl)) (by decide) rfl (by decide) (W := 0) (Nat.le_of_eq rfl) (by decide) (cells' := 0) (slots' := 0) rfl rfl (by decide) (by decide) (argsL := [(.double d88), (.double d91)]) (rest := []) (lenOf own_pd0 rfl) rfl rfl at_78 (pc' := 81) rfl ?_
        rintro _ T97 h97 X97 ⟨rfl, e97⟩
        subst e97
        show own_Goal p e below _ T97 (mkF m 81 #[.val (.int p0), .val (.int p1), .val (.int p2), .val (.double d82), .second, .val (.int (0 : Int32)), .val (.double d88), .second, .val (.double d91), .second, .val (.int (1 : Int32))] [(.int (if 2 * p0.toInt < p1.toInt then 1 else 0 : Int32))])
        refine own_iload X97 rfl at_81 (pc' := 83) rfl ?_
        have c98 : (if 2 * p0.toInt < p1.toInt then 1 else 0 : Int32) = (1 : Int32) := if_pos c96
        refine own_icmpF X97 (own_i_eq c98).2 at_83 (pc' := 86) rfl ?_
        refine own_iconst X97 (v := (1 : Int32)) (by decide) at_86 (pc' := 87) rfl ?_
        refine own_goto X97 at_87 (pc' := 91) (by decide) (by decide) ?_
        exact own_retZ X97 (by decide) at_91 rfl (by decide) (by decide) rfl
      · -- no c96
        refine own_ifT X0 (own_c3_nlt c96).2 at_64 (pc' := 71) (by decide) (by decide) ?_
        refine own_iconst X0 (v := (0 : Int32)) (by decide) at_71 (pc' := 72) rfl ?_
        refine own_istore X0 (Ls' := #[.val (.int p0), .val (.int p1), .val (.int p2), .val (.double d82), .second, .val (.int (0 : Int32)), .val (.double d88), .second, .val (.double d91), .second, .val (.int (0 : Int32))]) rfl at_72 (pc' := 74) rfl ?_
        refine own_dload X0 rfl at_74 (pc' := 76) rfl ?_
        refine own_dload X0 rfl at_76 (pc' := 78) rfl ?_
        refine own_callS X0 (own_sf l Z a0 hw d88 d91 p0.toInt p1.toInt 3 2147483648 2147483648 _ n0 X0.le f88 f91 (by decide) (by decide)) (hw _ (List.mem_of_getElem? (i := 1) rfl)) (hw _ (List.mem_of_getElem? (i := 2) rfl)) (hw _ (List.mem_of_getElem? (i := 3) rfl)) (hw _ (List.mem_of_getElem? (i := 4) rfl)) (by decide) rfl (by decide) (W := 0) (Nat.le_of_eq rfl) (by decide) (cells' := 0) (slots' := 0) rfl rfl (by decide) (by decide) (argsL := [(.double d88), (.double d91)]) (rest := []) (lenOf own_pd0 rfl) rfl rfl at_78 (pc' := 81) rfl ?_
        rintro _ T99 h99 X99 ⟨rfl, e99⟩
        subst e99
        show own_Goal p e below _ T99 (mkF m 81 #[.val (.int p0), .val (.int p1), .val (.int p2), .val (.double d82), .second, .val (.int (0 : Int32)), .val (.double d88), .second, .val (.double d91), .second, .val (.int (0 : Int32))] [(.int (if 2 * p0.toInt < p1.toInt then 1 else 0 : Int32))])
        refine own_iload X99 rfl at_81 (pc' := 83) rfl ?_
        have c100 : (if 2 * p0.toInt < p1.toInt then 1 else 0 : Int32) = (0 : Int32) := if_neg c96
        refine own_icmpF X99 (own_i_eq c100).2 at_83 (pc' := 86) rfl ?_
        refine own_iconst X99 (v := (1 : Int32)) (by decide) at_86 (pc' := 87) rfl ?_
        refine own_goto X99 at_87 (pc' := 91) (by decide) (by decide) ?_
        exact own_retZ X99 (by decide) at_91 rfl (by decide) (by decide) rfl
    · -- no c85
      refine own_ifF X0 (own_z_ne c85).1 at_13 (pc' := 16) rfl ?_
      refine own_iconst X0 (v := (1 : Int32)) (by decide) at_16 (pc' := 17) rfl ?_
      refine own_goto X0 at_17 (pc' := 21) (by decide) (by decide) ?_
      refine own_istore X0 (Ls' := #[.val (.int p0), .val (.int p1), .val (.int p2), .val (.double d82), .second, .val (.int (1 : Int32)), .unset, .unset, .unset, .unset, .unset]) rfl at_21 (pc' := 23) rfl ?_
      refine own_iloadN X0 rfl at_23 (pc' := 24) rfl ?_
      have f101 := own_I.start p0
      obtain ⟨d102, e102⟩ : ∃ v, FP.i2d p0 = v := ⟨_, rfl⟩
      have f102 : own_D 0 2147483648 p0.toInt d102 := own_D.i2d f101 e102
      refine own_i2d X0 e102 at_24 (pc' := 25) rfl ?_
      refine own_dloadN X0 rfl at_25 (pc' := 26) rfl ?_
      obtain ⟨d103, e103⟩ : ∃ v, FP.ddiv d102 d82 = v := ⟨_, rfl⟩
      have f103 : own_D 3 2147483648 p0.toInt d103 := own_D.divp (r := 3) (P := 8) f102 f82 (by decide) e103 (by decide) (by decide) (by decide)
      refine own_ddiv X0 e103 f103.nn at_26 (pc' := 27) rfl ?_
      refine own_dstore X0 (Ls' := #[.val (.int p0), .val (.int p1), .val (.int p2), .val (.double d82), .second, .val (.int (1 : Int32)), .val (.double d103), .second, .unset, .unset, .unset]) rfl at_27 (pc' := 29) rfl ?_
      refine own_iload X0 rfl at_29 (pc' := 31) rfl ?_
      refine own_ifF X0 (by decide) at_31 (pc' := 34) rfl ?_
      refine own_ldcD X0 (v := (9218868437227405312 : UInt64)) (hw _ (List.mem_of_getElem? (i := 6) rfl)) at_34 (pc' := 37) rfl ?_
      refine own_goto X0 at_37 (pc' := 44) (by decide) (by decide) ?_
      refine own_dstore X0 (Ls' := #[.val (.int p0), .val (.int p1), .val (.int p2), .val (.double d82), .second, .val (.int (1 : Int32)), .val (.double d103), .second, .val (.double (9218868437227405312 : UInt64)), .second, .unset]) rfl at_44 (pc' := 46) rfl ?_
      refine own_iload X0 rfl at_46 (pc' := 48) rfl ?_
      refine own_ifF X0 (by decide) at_48 (pc' := 51) rfl ?_
      refine own_iconst X0 (v := (1 : Int32)) (by decide) at_51 (pc' := 52) rfl ?_
      refine own_goto X0 at_52 (pc' := 72) (by decide) (by decide) ?_
      refine own_istore X0 (Ls' := #[.val (.int p0), .val (.int p1), .val (.int p2), .val (.double d82), .second, .val (.int (1 : Int32)), .val (.double d103), .second, .val (.double (9218868437227405312 : UInt64)), .second, .val (.int (1 : Int32))]) rfl at_72 (pc' := 74) rfl ?_
      refine own_dload X0 rfl at_74 (pc' := 76) rfl ?_
      refine own_dload X0 rfl at_76 (pc' := 78) rfl ?_
      refine own_callS X0 (own_si l Z a0 hw d103 p0.toInt 3 2147483648 _ n0 X0.le f103) (hw _ (List.mem_of_getElem? (i := 1) rfl)) (hw _ (List.mem_of_getElem? (i := 2) rfl)) (hw _ (List.mem_of_getElem? (i := 3) rfl)) (hw _ (List.mem_of_getElem? (i := 4) rfl)) (by decide) rfl (by decide) (W := 0) (Nat.le_of_eq rfl) (by decide) (cells' := 0) (slots' := 0) rfl rfl (by decide) (by decide) (argsL := [(.double d103), (.double (9218868437227405312 : UInt64))]) (rest := []) (lenOf own_pd0 rfl) rfl rfl at_78 (pc' := 81) rfl ?_
      rintro _ T104 h104 X104 ⟨rfl, e104⟩
      subst e104
      show own_Goal p e below _ T104 (mkF m 81 #[.val (.int p0), .val (.int p1), .val (.int p2), .val (.double d82), .second, .val (.int (1 : Int32)), .val (.double d103), .second, .val (.double (9218868437227405312 : UInt64)), .second, .val (.int (1 : Int32))] [(.int (1 : Int32))])
      refine own_iload X104 rfl at_81 (pc' := 83) rfl ?_
      refine own_icmpF X104 (by decide) at_83 (pc' := 86) rfl ?_
      refine own_iconst X104 (v := (1 : Int32)) (by decide) at_86 (pc' := 87) rfl ?_
      refine own_goto X104 at_87 (pc' := 91) (by decide) (by decide) ?_
      exact own_retZ X104 (by decide) at_91 rfl (by decide) (by decide) rfl
  · -- 4
    refine own_ishl X0 (v := (16 : Int32)) (by decide) at_5 (pc' := 6) rfl ?_
    have f105 : own_I 16 (16 : Int) (16 : Int32) := own_I.lit (by decide) (by decide)
    obtain ⟨d106, e106⟩ : ∃ v, FP.i2d (16 : Int32) = v := ⟨_, rfl⟩
    have f106 : own_D 0 16 (16 : Int) d106 := own_D.i2d f105 e106
    refine own_i2d X0 e106 at_6 (pc' := 7) rfl ?_
    refine own_dstoreN X0 (Ls' := #[.val (.int p0), .val (.int p1), .val (.int p2), .val (.double d106), .second, .unset, .unset, .unset, .unset, .unset, .unset]) rfl at_7 (pc' := 8) rfl ?_
    refine own_iloadN X0 rfl at_8 (pc' := 9) rfl ?_
    refine own_iconst X0 (v := (4 : Int32)) (by decide) at_9 (pc' := 10) rfl ?_
    obtain ⟨i107, e107⟩ : ∃ v, XT.ushr p2 (4 : Int32) = v := ⟨_, rfl⟩
    refine own_iushr X0 e107 at_10 (pc' := 11) rfl ?_
    refine own_iconst X0 (v := (1 : Int32)) (by decide) at_11 (pc' := 12) rfl ?_
    obtain ⟨i108, e108⟩ : ∃ v, i107 &&& (1 : Int32) = v := ⟨_, rfl⟩
    have f108 : own_I 1 i108.toInt i108 := own_I.and e108 (by decide)
    have nn108 := own_and_nn (M := 1) e108 (by decide)
    refine own_iand X0 e108 at_12 (pc' := 13) rfl ?_
    by_cases c109 : i108 = 0
    · -- yes c109
      refine own_ifT X0 (own_z_eq c109).1 at_13 (pc' := 20) (by decide) (by decide) ?_
      refine own_iconst X0 (v := (0 : Int32)) (by decide) at_20 (pc' := 21) rfl ?_
      refine own_istore X0 (Ls' := #[.val (.int p0), .val (.int p1), .val (.int p2), .val (.double d106), .second, .val (.int (0 : Int32)), .unset, .unset, .unset, .unset, .unset]) rfl at_21 (pc' := 23) rfl ?_
      refine own_iloadN X0 rfl at_23 (pc' := 24) rfl ?_
      have f110 := own_I.start p0
      obtain ⟨d111, e111⟩ : ∃ v, FP.i2d p0 = v := ⟨_, rfl⟩
      have f111 : own_D 0 2147483648 p0.toInt d111 := own_D.i2d f110 e111
      refine own_i2d X0 e111 at_24 (pc' := 25) rfl ?_
      refine own_dloadN X0 rfl at_25 (pc' := 26) rfl ?_
      obtain ⟨d112, e112⟩ : ∃ v, FP.ddiv d111 d106 = v := ⟨_, rfl⟩
      have f112 : own_D 4 2147483648 p0.toInt d112 := own_D.divp (r := 4) (P := 16) f111 f106 (by decide) e112 (by decide) (by decide) (by decide)
      refine own_ddiv X0 e112 f112.nn at_26 (pc' := 27) rfl ?_
      refine own_dstore X0 (Ls' := #[.val (.int p0), .val (.int p1), .val (.int p2), .val (.double d106), .second, .val (.int (0 : Int32)), .val (.double d112), .second, .unset, .unset, .unset]) rfl at_27 (pc' := 29) rfl ?_
      refine own_iload X0 rfl at_29 (pc' := 31) rfl ?_
      refine own_ifT X0 (by decide) at_31 (pc' := 40) (by decide) (by decide) ?_
      refine own_iloadN X0 rfl at_40 (pc' := 41) rfl ?_
      have f113 := own_I.start p1
      obtain ⟨d114, e114⟩ : ∃ v, FP.i2d p1 = v := ⟨_, rfl⟩
      have f114 : own_D 0 2147483648 p1.toInt d114 := own_D.i2d f113 e114
      refine own_i2d X0 e114 at_41 (pc' := 42) rfl ?_
      refine own_dloadN X0 rfl at_42 (pc' := 43) rfl ?_
      obtain ⟨d115, e115⟩ : ∃ v, FP.ddiv d114 d106 = v := ⟨_, rfl⟩
      have f115 : own_D 4 2147483648 p1.toInt d115 := own_D.divp (r := 4) (P := 16) f114 f106 (by decide) e115 (by decide) (by decide) (by decide)
      refine own_ddiv X0 e115 f115.nn at_43 (pc' := 44) rfl ?_
      refine own_dstore X0 (Ls' := #[.val (.int p0), .val (.int p1), .val (.int p2), .val (.double d106), .second, .val (.int (0 : Int32)), .val (.double d112), .second, .val (.double d115), .second, .unset]) rfl at_44 (pc' := 46) rfl ?_
      refine own_iload X0 rfl at_46 (pc' := 48) rfl ?_
      refine own_ifT X0 (by decide) at_48 (pc' := 55) (by decide) (by decide) ?_
      refine own_ldcJ X0 (v := (2 : Int64)) (hw _ (List.mem_of_getElem? (i := 0) rfl)) at_55 (pc' := 58) rfl ?_
      refine own_iloadN X0 rfl at_58 (pc' := 59) rfl ?_
      obtain ⟨j116, e116⟩ : ∃ v, p0.toInt64 = v := ⟨_, rfl⟩
      have f116 : own_L 2147483648 p0.toInt j116 := own_L.ofI f110 e116
      refine own_i2l X0 e116 at_59 (pc' := 60) rfl ?_
      obtain ⟨j117, e117⟩ : ∃ v, (2 : Int64) * j116 = v := ⟨_, rfl⟩
      have f118 : own_L 2 (2 : Int) (2 : Int64) := own_L.lit (by decide) (by decide)
      have f117 : own_L 4294967296 ((2 : Int) * p0.toInt) j117 := f118.mul f116 e117 (by decide) (by decide)
      refine own_lmul X0 e117 at_60 (pc' := 61) rfl ?_
      refine own_iloadN X0 rfl at_61 (pc' := 62) rfl ?_
      obtain ⟨j119, e119⟩ : ∃ v, p1.toInt64 = v := ⟨_, rfl⟩
      have f119 : own_L 2147483648 p1.toInt j119 := own_L.ofI f113 e119
      refine own_i2l X0 e119 at_62 (pc' := 63) rfl ?_
      refine own_lcmp X0 (f117.cmp f119) at_63 (pc' := 64) rfl ?_
      by_cases c120 : ((2 : Int) * p0.toInt) < p1.toInt
      · -- yes c120
        refine own_ifF X0 (own_c3_lt c120).2 at_64 (pc' := 67) rfl ?_
        refine own_iconst X0 (v := (1 : Int32)) (by decide) at_67 (pc' := 68) rfl ?_
        refine own_goto X0 at_68 (pc' := 72) (by decide) (by decide) ?_
        refine own_istore X0 (Ls' := #[.val (.int p0), .val (.int p1), .val (.int p2), .val (.double d106), .second, .val (.int (0 : Int32)), .val (.double d112), .second, .val (.double d115), .second, .val (.int (1 : Int32))]) rfl at_72 (pc' := 74) rfl ?_
        refine own_dload X0 rfl at_74 (pc' := 76) rfl ?_
        refine own_dload X0 rfl at_76 (pc' := 78) rfl ?_
        refine own_callS X0 (own_sf l Z a0 hw d112 d115 p0.toInt p1.toInt 4 2147483648 2147483648 _ n0 X0.le f112 f115 (by decide) (by decide)) (hw _ (List.mem_of_getElem? (i := 1) rfl)) (hw _ (List.mem_of_getElem? (i := 2) rfl)) (hw _ (List.mem_of_getElem? (i := 3) rfl)) (hw _ (List.mem_of_getElem? (i := 4) rfl)) (by decide) rfl (by decide) (W := 0) (Nat.le_of_eq rfl) (by decide) (cells' := 0) (slots' := 0) rfl rfl (by decide) (by decide) (argsL := [(.double d112), (.double d115)]) (rest := []) (lenOf own_pd0 rfl) rfl rfl at_78 (pc' := 81) rfl ?_
        rintro _ T121 h121 X121 ⟨rfl, e121⟩
        subst e121
        show own_Goal p e below _ T121 (mkF m 81 #[.val (.int p0), .val (.int p1), .val (.int p2), .val (.double d106), .second, .val (.int (0 : Int32)), .val (.double d112), .second, .val (.double d115), .second, .val (.int (1 : Int32))] [(.int (if 2 * p0.toInt < p1.toInt then 1 else 0 : Int32))])
        refine own_iload X121 rfl at_81 (pc' := 83) rfl ?_
        have c122 : (if 2 * p0.toInt < p1.toInt then 1 else 0 : Int32) = (1 : Int32) := if_pos c120
        refine own_icmpF X121 (own_i_eq c122).2 at_83 (pc' := 86) rfl ?_
        refine own_iconst X121 (v := (1 : Int32)) (by decide) at_86 (pc' := 87) rfl ?_
        refine own_goto X121 at_87 (pc' := 91) (by decide) (by decide) ?_
        exact own_retZ X121 (by decide) at_91 rfl (by decide) (by decide) rfl
      · -- no c120
        refine own_ifT X0 (own_c3_nlt c120).2 at_64 (pc' := 71) (by decide) (by decide) ?_
        refine own_iconst X0 (v := (0 : Int32)) (by decide) at_71 (pc' := 72) rfl ?_
        refine own_istore X0 (Ls' := #[.val (.int p0), .val (.int p1), .val (.int p2), .val (.double d106), .second, .val (.int (0 : Int32)), .val (.double d112), .second, .val (.double d115), .second, .val (.int (0 : Int32))]) rfl at_72 (pc' := 74) rfl ?_
        refine own_dload X0 rfl at_74 (pc' := 76) rfl ?_
        refine own_dload X0 rfl at_76 (pc' := 78) rfl ?_
        refine own_callS X0 (own_sf l Z a0 hw d112 d115 p0.toInt p1.toInt 4 2147483648 2147483648 _ n0 X0.le f112 f115 (by decide) (by decide)) (hw _ (List.mem_of_getElem? (i := 1) rfl)) (hw _ (List.mem_of_getElem? (i := 2) rfl)) (hw _ (List.mem_of_getElem? (i := 3) rfl)) (hw _ (List.mem_of_getElem? (i := 4) rfl)) (by decide) rfl (by decide) (W := 0) (Nat.le_of_eq rfl) (by decide) (cells' := 0) (slots' := 0) rfl rfl (by decide) (by decide) (argsL := [(.double d112), (.double d115)]) (rest := []) (lenOf own_pd0 rfl) rfl rfl at_78 (pc' := 81) rfl ?_
        rintro _ T123 h123 X123 ⟨rfl, e123⟩
        subst e123
        show own_Goal p e below _ T123 (mkF m 81 #[.val (.int p0), .val (.int p1), .val (.int p2), .val (.double d106), .second, .val (.int (0 : Int32)), .val (.double d112), .second, .val (.double d115), .second, .val (.int (0 : Int32))] [(.int (if 2 * p0.toInt < p1.toInt then 1 else 0 : Int32))])
        refine own_iload X123 rfl at_81 (pc' := 83) rfl ?_
        have c124 : (if 2 * p0.toInt < p1.toInt then 1 else 0 : Int32) = (0 : Int32) := if_neg c120
        refine own_icmpF X123 (own_i_eq c124).2 at_83 (pc' := 86) rfl ?_
        refine own_iconst X123 (v := (1 : Int32)) (by decide) at_86 (pc' := 87) rfl ?_
        refine own_goto X123 at_87 (pc' := 91) (by decide) (by decide) ?_
        exact own_retZ X123 (by decide) at_91 rfl (by decide) (by decide) rfl
    · -- no c109
      refine own_ifF X0 (own_z_ne c109).1 at_13 (pc' := 16) rfl ?_
      refine own_iconst X0 (v := (1 : Int32)) (by decide) at_16 (pc' := 17) rfl ?_
      refine own_goto X0 at_17 (pc' := 21) (by decide) (by decide) ?_
      refine own_istore X0 (Ls' := #[.val (.int p0), .val (.int p1), .val (.int p2), .val (.double d106), .second, .val (.int (1 : Int32)), .unset, .unset, .unset, .unset, .unset]) rfl at_21 (pc' := 23) rfl ?_
      refine own_iloadN X0 rfl at_23 (pc' := 24) rfl ?_
      have f125 := own_I.start p0
      obtain ⟨d126, e126⟩ : ∃ v, FP.i2d p0 = v := ⟨_, rfl⟩
      have f126 : own_D 0 2147483648 p0.toInt d126 := own_D.i2d f125 e126
      refine own_i2d X0 e126 at_24 (pc' := 25) rfl ?_
      refine own_dloadN X0 rfl at_25 (pc' := 26) rfl ?_
      obtain ⟨d127, e127⟩ : ∃ v, FP.ddiv d126 d106 = v := ⟨_, rfl⟩
      have f127 : own_D 4 2147483648 p0.toInt d127 := own_D.divp (r := 4) (P := 16) f126 f106 (by decide) e127 (by decide) (by decide) (by decide)
      refine own_ddiv X0 e127 f127.nn at_26 (pc' := 27) rfl ?_
      refine own_dstore X0 (Ls' := #[.val (.int p0), .val (.int p1), .val (.int p2), .val (.double d106), .second, .val (.int (1 : Int32)), .val (.double d127), .second, .unset, .unset, .unset]) rfl at_27 (pc' := 29) rfl ?_
      refine own_iload X0 rfl at_29 (pc' := 31) rfl ?_
      refine own_ifF X0 (by decide) at_31 (pc' := 34) rfl ?_
      refine own_ldcD X0 (v := (9218868437227405312 : UInt64)) (hw _ (List.mem_of_getElem? (i := 6) rfl)) at_34 (pc' := 37) rfl ?_
      refine own_goto X0 at_37 (pc' := 44) (by decide) (by decide) ?_
      refine own_dstore X0 (Ls' := #[.val (.int p0), .val (.int p1), .val (.int p2), .val (.double d106), .second, .val (.int (1 : Int32)), .val (.double d127), .second, .val (.double (9218868437227405312 : UInt64)), .second, .unset]) rfl at_44 (pc' := 46) rfl ?_
      refine own_iload X0 rfl at_46 (pc' := 48) rfl ?_
      refine own_ifF X0 (by decide) at_48 (pc' := 51) rfl ?_
      refine own_iconst X0 (v := (1 : Int32)) (by decide) at_51 (pc' := 52) rfl ?_
      refine own_goto X0 at_52 (pc' := 72) (by decide) (by decide) ?_
      refine own_istore X0 (Ls' := #[.val (.int p0), .val (.int p1), .val (.int p2), .val (.double d106), .second, .val (.int (1 : Int32)), .val (.double d127), .second, .val (.double (9218868437227405312 : UInt64)), .second, .val (.int (1 : Int32))]) rfl at_72 (pc' := 74) rfl ?_
      refine own_dload X0 rfl at_74 (pc' := 76) rfl ?_
      refine own_dload X0 rfl at_76 (pc' := 78) rfl ?_
      refine own_callS X0 (own_si l Z a0 hw d127 p0.toInt 4 2147483648 _ n0 X0.le f127) (hw _ (List.mem_of_getElem? (i := 1) rfl)) (hw _ (List.mem_of_getElem? (i := 2) rfl)) (hw _ (List.mem_of_getElem? (i := 3) rfl)) (hw _ (List.mem_of_getElem? (i := 4) rfl)) (by decide) rfl (by decide) (W := 0) (Nat.le_of_eq rfl) (by decide) (cells' := 0) (slots' := 0) rfl rfl (by decide) (by decide) (argsL := [(.double d127), (.double (9218868437227405312 : UInt64))]) (rest := []) (lenOf own_pd0 rfl) rfl rfl at_78 (pc' := 81) rfl ?_
      rintro _ T128 h128 X128 ⟨rfl, e128⟩
      subst e128
      show own_Goal p e below _ T128 (mkF m 81 #[.val (.int p0), .val (.int p1), .val (.int p2), .val (.double d106), .second, .val (.int (1 : Int32)), .val (.double d127), .second, .val (.double (9218868437227405312 : UInt64)), .second, .val (.int (1 : Int32))] [(.int (1 : Int32))])
      refine own_iload X128 rfl at_81 (pc' := 83) rfl ?_
      refine own_icmpF X128 (by decide) at_83 (pc' := 86) rfl ?_
      refine own_iconst X128 (v := (1 : Int32)) (by decide) at_86 (pc' := 87) rfl ?_
      refine own_goto X128 at_87 (pc' := 91) (by decide) (by decide) ?_
      exact own_retZ X128 (by decide) at_91 rfl (by decide) (by decide) rfl
  · -- 5
    refine own_ishl X0 (v := (32 : Int32)) (by decide) at_5 (pc' := 6) rfl ?_
    have f129 : own_I 32 (32 : Int) (32 : Int32) := own_I.lit (by decide) (by decide)
    obtain ⟨d130, e130⟩ : ∃ v, FP.i2d (32 : Int32) = v := ⟨_, rfl⟩
    have f130 : own_D 0 32 (32 : Int) d130 := own_D.i2d f129 e130
    refine own_i2d X0 e130 at_6 (pc' := 7) rfl ?_
    refine own_dstoreN X0 (Ls' := #[.val (.int p0), .val (.int p1), .val (.int p2), .val (.double d130), .second, .unset, .unset, .unset, .unset, .unset, .unset]) rfl at_7 (pc' := 8) rfl ?_
    refine own_iloadN X0 rfl at_8 (pc' := 9) rfl ?_
    refine own_iconst X0 (v := (4 : Int32)) (by decide) at_9 (pc' := 10) rfl ?_
    obtain ⟨i131, e131⟩ : ∃ v, XT.ushr p2 (4 : Int32) = v := ⟨_, rfl⟩
    refine own_iushr X0 e131 at_10 (pc' := 11) rfl ?_
    refine own_iconst X0 (v := (1 : Int32)) (by decide) at_11 (pc' := 12) rfl ?_
    obtain ⟨i132, e132⟩ : ∃ v, i131 &&& (1 : Int32) = v := ⟨_, rfl⟩
    have f132 : own_I 1 i132.toInt i132 := own_I.and e132 (by decide)
    have nn132 := own_and_nn (M := 1) e132 (by decide)
    refine own_iand X0 e132 at_12 (pc' := 13) rfl ?_
    by_cases c133 : i132 = 0
    · -- yes c133
      refine own_ifT X0 (own_z_eq c133).1 at_13 (pc' := 20) (by decide) (by decide) ?_
      refine own_iconst X0 (v := (0 : Int32)) (by decide) at_20 (pc' := 21) rfl ?_
      refine own_istore X0 (Ls' := #[.val (.int p0), .val (.int p1), .val (.int p2), .val (.double d130), .second, .val (.int (0 : Int32)), .unset, .unset, .unset, .unset, .unset]) rfl at_21 (pc' := 23) rfl ?_
      refine own_iloadN X0 rfl at_23 (pc' := 24) rfl ?_
      have f134 := own_I.start p0
      obtain ⟨d135, e135⟩ : ∃ v, FP.i2d p0 = v := ⟨_, rfl⟩
      have f135 : own_D 0 2147483648 p0.toInt d135 := own_D.i2d f134 e135
      refine own_i2d X0 e135 at_24 (pc' := 25) rfl ?_
      refine own_dloadN X0 rfl at_25 (pc' := 26) rfl ?_
      obtain ⟨d136, e136⟩ : ∃ v, FP.ddiv d135 d130 = v := ⟨_, rfl⟩
      have f136 : own_D 5 2147483648 p0.toInt d136 := own_D.divp (r := 5) (P := 32) f135 f130 (by decide) e136 (by decide) (by decide) (by decide)
      refine own_ddiv X0 e136 f136.nn at_26 (pc' := 27) rfl ?_
      refine own_dstore X0 (Ls' := #[.val (.int p0), .val (.int p1), .val (.int p2), .val (.double d130), .second, .val (.int (0 : Int32)), .val (.double d136), .second, .unset, .unset, .unset]) rfl at_27 (pc' := 29) rfl ?_
      refine own_iload X0 rfl at_29 (pc' := 31) rfl ?_
      refine own_ifT X0 (by decide) at_31 (pc' := 40) (by decide) (by decide) ?_
      refine own_iloadN X0 rfl at_40 (pc' := 41) rfl ?_
      have f137 := own_I.start p1
      obtain ⟨d138, e138⟩ : ∃ v, FP.i2d p1 = v := ⟨_, rfl⟩
      have f138 : own_D 0 2147483648 p1.toInt d138 := own_D.i2d f137 e138
      refine own_i2d X0 e138 at_41 (pc' := 42) rfl ?_
      refine own_dloadN X0 rfl at_42 (pc' := 43) rfl ?_
      obtain ⟨d139, e139⟩ : ∃ v, FP.ddiv d138 d130 = v := ⟨_, rfl⟩
      have f139 : own_D 5 2147483648 p1.toInt d139 := own_D.divp (r := 5) (P := 32) f138 f130 (by decide) e139 (by decide) (by decide) (by decide)
      refine own_ddiv X0 e139 f139.nn at_43 (pc' := 44) rfl ?_
      refine own_dstore X0 (Ls' := #[.val (.int p0), .val (.int p1), .val (.int p2), .val (.double d130), .second, .val (.int (0 : Int32)), .val (.double d136), .second, .val (.double d139), .second, .unset]) rfl at_44 (pc' := 46) rfl ?_
      refine own_iload X0 rfl at_46 (pc' := 48) rfl ?_
      refine own_ifT X0 (by decide) at_48 (pc' := 55) (by decide) (by decide) ?_
      refine own_ldcJ X0 (v := (2 : Int64)) (hw _ (List.mem_of_getElem? (i := 0) rfl)) at_55 (pc' := 58) rfl ?_
      refine own_iloadN X0 rfl at_58 (pc' := 59) rfl ?_
      obtain ⟨j140, e140⟩ : ∃ v, p0.toInt64 = v := ⟨_, rfl⟩
      have f140 : own_L 2147483648 p0.toInt j140 := own_L.ofI f134 e140
      refine own_i2l X0 e140 at_59 (pc' := 60) rfl ?_
      obtain ⟨j141, e141⟩ : ∃ v, (2 : Int64) * j140 = v := ⟨_, rfl⟩
      have f142 : own_L 2 (2 : Int) (2 : Int64) := own_L.lit (by decide) (by decide)
      have f141 : own_L 4294967296 ((2 : Int) * p0.toInt) j141 := f142.mul f140 e141 (by decide) (by decide)
      refine own_lmul X0 e141 at_60 (pc' := 61) rfl ?_
      refine own_iloadN X0 rfl at_61 (pc' := 62) rfl ?_
      obtain ⟨j143, e143⟩ : ∃ v, p1.toInt64 = v := ⟨_, rfl⟩
      have f143 : own_L 2147483648 p1.toInt j143 := own_L.ofI f137 e143
      refine own_i2l X0 e143 at_62 (pc' := 63) rfl ?_
      refine own_lcmp X0 (f141.cmp f143) at_63 (pc' := 64) rfl ?_
      by_cases c144 : ((2 : Int) * p0.toInt) < p1.toInt
      · -- yes c144
        refine own_ifF X0 (own_c3_lt c144).2 at_64 (pc' := 67) rfl ?_
        refine own_iconst X0 (v := (1 : Int32)) (by decide) at_67 (pc' := 68) rfl ?_
        refine own_goto X0 at_68 (pc' := 72) (by decide) (by decide) ?_
        refine own_istore X0 (Ls' := #[.val (.int p0), .val (.int p1), .val (.int p2), .val (.double d130), .second, .val (.int (0 : Int32)), .val (.double d136), .second, .val (.double d139), .second, .val (.int (1 : Int32))]) rfl at_72 (pc' := 74) rfl ?_
        refine own_dload X0 rfl at_74 (pc' := 76) rfl ?_
        refine own_dload X0 rfl at_76 (pc' := 78) rfl ?_
        refine own_callS X0 (own_sf l Z a0 hw d136 d139 p0.toInt p1.toInt 5 2147483648 2147483648 _ n0 X0.le f136 f139 (by decide) (by decide)) (hw _ (List.mem_of_getElem? (i := 1) rfl)) (hw _ (List.mem_of_getElem? (i := 2) rfl)) (hw _ (List.mem_of_getElem? (i := 3) rfl)) (hw _ (List.mem_of_getElem? (i := 4) rfl)) (by decide) rfl (by decide) (W := 0) (Nat.le_of_eq rfl) (by decide) (cells' := 0) (slots' := 0) rfl rfl (by decide) (by decide) (argsL := [(.double d136), (.double d139)]) (rest := []) (lenOf own_pd0 rfl) rfl rfl at_78 (pc' := 81) rfl ?_
        rintro _ T145 h145 X145 ⟨rfl, e145⟩
        subst e145
        show own_Goal p e below _ T145 (mkF m 81 #[.val (.int p0), .val (.int p1), .val (.int p2), .val (.double d130), .second, .val (.int (0 : Int32)), .val (.double d136), .second, .val (.double d139), .second, .val (.int (1 : Int32))] [(.int (if 2 * p0.toInt < p1.toInt then 1 else 0 : Int32))])
        refine own_iload X145 rfl at_81 (pc' := 83) rfl ?_
        have c146 : (if 2 * p0.toInt < p1.toInt then 1 else 0 : Int32) = (1 : Int32) := if_pos c144
        refine own_icmpF X145 (own_i_eq c146).2 at_83 (pc' := 86) rfl ?_
        refine own_iconst X145 (v := (1 : Int32)) (by decide) at_86 (pc' := 87) rfl ?_
        refine own_goto X145 at_87 (pc' := 91) (by decide) (by decide) ?_
        exact own_retZ X145 (by decide) at_91 rfl (by decide) (by decide) rfl
      · -- no c144
        refine own_ifT X0 (own_c3_nlt c144).2 at_64 (pc' := 71) (by decide) (by decide) ?_
        refine own_iconst X0 (v := (0 : Int32)) (by decide) at_71 (pc' := 72) rfl ?_
        refine own_istore X0 (Ls' := #[.val (.int p0), .val (.int p1), .val (.int p2), .val (.double d130), .second, .val (.int (0 : Int32)), .val (.double d136), .second, .val (.double d139), .second, .val (.int (0 : Int32))]) rfl at_72 (pc' := 74) rfl ?_
        refine own_dload X0 rfl at_74 (pc' := 76) rfl ?_
        refine own_dload X0 rfl at_76 (pc' := 78) rfl ?_
        refine own_callS X0 (own_sf l Z a0 hw d136 d139 p0.toInt p1.toInt 5 2147483648 2147483648 _ n0 X0.le f136 f139 (by decide) (by decide)) (hw _ (List.mem_of_getElem? (i := 1) rfl)) (hw _ (List.mem_of_getElem? (i := 2) rfl)) (hw _ (List.mem_of_getElem? (i := 3) rfl)) (hw _ (List.mem_of_getElem? (i := 4) rfl)) (by decide) rfl (by decide) (W := 0) (Nat.le_of_eq rfl) (by decide) (cells' := 0) (slots' := 0) rfl rfl (by decide) (by decide) (argsL := [(.double d136), (.double d139)]) (rest := []) (lenOf own_pd0 rfl) rfl rfl at_78 (pc' := 81) rfl ?_
        rintro _ T147 h147 X147 ⟨rfl, e147⟩
        subst e147
        show own_Goal p e below _ T147 (mkF m 81 #[.val (.int p0), .val (.int p1), .val (.int p2), .val (.double d130), .second, .val (.int (0 : Int32)), .val (.double d136), .second, .val (.double d139), .second, .val (.int (0 : Int32))] [(.int (if 2 * p0.toInt < p1.toInt then 1 else 0 : Int32))])
        refine own_iload X147 rfl at_81 (pc' := 83) rfl ?_
        have c148 : (if 2 * p0.toInt < p1.toInt then 1 else 0 : Int32) = (0 : Int32) := if_neg c144
        refine own_icmpF X147 (own_i_eq c148).2 at_83 (pc' := 86) rfl ?_
        refine own_iconst X147 (v := (1 : Int32)) (by decide) at_86 (pc' := 87) rfl ?_
        refine own_goto X147 at_87 (pc' := 91) (by decide) (by decide) ?_
        exact own_retZ X147 (by decide) at_91 rfl (by decide) (by decide) rfl
    · -- no c133
      refine own_ifF X0 (own_z_ne c133).1 at_13 (pc' := 16) rfl ?_
      refine own_iconst X0 (v := (1 : Int32)) (by decide) at_16 (pc' := 17) rfl ?_
      refine own_goto X0 at_17 (pc' := 21) (by decide) (by decide) ?_
      refine own_istore X0 (Ls' := #[.val (.int p0), .val (.int p1), .val (.int p2), .val (.double d130), .second, .val (.int (1 : Int32)), .unset, .unset, .unset, .unset, .unset]) rfl at_21 (pc' := 23) rfl ?_
      refine own_iloadN X0 rfl at_23 (pc' := 24) rfl ?_
      have f149 := own_I.start p0
      obtain ⟨d150, e150⟩ : ∃ v, FP.i2d p0 = v := ⟨_, rfl⟩
      have f150 : own_D 0 2147483648 p0.toInt d150 := own_D.i2d f149 e150
      refine own_i2d X0 e150 at_24 (pc' := 25) rfl ?_
      refine own_dloadN X0 rfl at_25 (pc' := 26) rfl ?_
      obtain ⟨d151, e151⟩ : ∃ v, FP.ddiv d150 d130 = v := ⟨_, rfl⟩
      have f151 : own_D 5 2147483648 p0.toInt d151 := own_D.divp (r := 5) (P := 32) f150 f130 (by decide) e151 (by decide) (by decide) (by decide)
      refine own_ddiv X0 e151 f151.nn at_26 (pc' := 27) rfl ?_
      refine own_dstore X0 (Ls' := #[.val (.int p0), .val (.int p1), .val (.int p2), .val (.double d130), .second, .val (.int (1 : Int32)), .val (.double d151), .second, .unset, .unset, .unset]) rfl at_27 (pc' := 29) rfl ?_
      refine own_iload X0 rfl at_29 (pc' := 31) rfl ?_
      refine own_ifF X0 (by decide) at_31 (pc' := 34) rfl ?_
      refine own_ldcD X0 (v := (9218868437227405312 : UInt64)) (hw _ (List.mem_of_getElem? (i := 6) rfl)) at_34 (pc' := 37) rfl ?_
      refine own_goto X0 at_37 (pc' := 44) (by decide) (by decide) ?_
      refine own_dstore X0 (Ls' := #[.val (.int p0), .val (.int p1), .val (.int p2), .val (.double d130), .second, .val (.int (1 : Int32)), .val (.double d151), .second, .val (.double (9218868437227405312 : UInt64)), .second, .unset]) rfl at_44 (pc' := 46) rfl ?_
      refine own_iload X0 rfl at_46 (pc' := 48) rfl ?_
      refine own_ifF X0 (by decide) at_48 (pc' := 51) rfl ?_
      refine own_iconst X0 (v := (1 : Int32)) (by decide) at_51 (pc' := 52) rfl ?_
      refine own_goto X0 at_52 (pc' := 72) (by decide) (by decide) ?_
      refine own_istore X0 (Ls' := #[.val (.int p0), .val (.int p1), .val (.int p2), .val (.double d130), .second, .val (.int (1 : Int32)), .val (.double d151), .second, .val (.double (9218868437227405312 : UInt64)), .second, .val (.int (1 : Int32))]) rfl at_72 (pc' := 74) rfl ?_
      refine own_dload X0 rfl at_74 (pc' := 76) rfl ?_
      refine own_dload X0 rfl at_76 (pc' := 78) rfl ?_
      refine own_callS X0 (own_si l Z a0 hw d151 p0.toInt 5 2147483648 _ n0 X0.le f151) (hw _ (List.mem_of_getElem? (i := 1) rfl)) (hw _ (List.mem_of_getElem? (i := 2) rfl)) (hw _ (List.mem_of_getElem? (i := 3) rfl)) (hw _ (List.mem_of_getElem? (i := 4) rfl)) (by decide) rfl (by decide) (W := 0) (Nat.le_of_eq rfl) (by decide) (cells' := 0) (slots' := 0) rfl rfl (by decide) (by decide) (argsL := [(.double d151), (.double (9218868437227405312 : UInt64))]) (rest := []) (lenOf own_pd0 rfl) rfl rfl at_78 (pc' := 81) rfl ?_
      rintro _ T152 h152 X152 ⟨rfl, e152⟩
      subst e152
      show own_Goal p e below _ T152 (mkF m 81 #[.val (.int p0), .val (.int p1), .val (.int p2), .val (.double d130), .second, .val (.int (1 : Int32)), .val (.double d151), .second, .val (.double (9218868437227405312 : UInt64)), .second, .val (.int (1 : Int32))] [(.int (1 : Int32))])
      refine own_iload X152 rfl at_81 (pc' := 83) rfl ?_
      refine own_icmpF X152 (by decide) at_83 (pc' := 86) rfl ?_
      refine own_iconst X152 (v := (1 : Int32)) (by decide) at_86 (pc' := 87) rfl ?_
      refine own_goto X152 at_87 (pc' := 91) (by decide) (by decide) ?_
      exact own_retZ X152 (by decide) at_91 rfl (by decide) (by decide) rfl
  · -- 6
    refine own_ishl X0 (v := (64 : Int32)) (by decide) at_5 (pc' := 6) rfl ?_
    have f153 : own_I 64 (64 : Int) (64 : Int32) := own_I.lit (by decide) (by decide)
    obtain ⟨d154, e154⟩ : ∃ v, FP.i2d (64 : Int32) = v := ⟨_, rfl⟩
    have f154 : own_D 0 64 (64 : Int) d154 := own_D.i2d f153 e154
    refine own_i2d X0 e154 at_6 (pc' := 7) rfl ?_
    refine own_dstoreN X0 (Ls' := #[.val (.int p0), .val (.int p1), .val (.int p2), .val (.double d154), .second, .unset, .unset, .unset, .unset, .unset, .unset]) rfl at_7 (pc' := 8) rfl ?_
    refine own_iloadN X0 rfl at_8 (pc' := 9) rfl ?_
    refine own_iconst X0 (v := (4 : Int32)) (by decide) at_9 (pc' := 10) rfl ?_
    obtain ⟨i155, e155⟩ : ∃ v, XT.ushr p2 (4 : Int32) = v := ⟨_, rfl⟩
    refine own_iushr X0 e155 at_10 (pc' := 11) rfl ?_
    refine own_iconst X0 (v := (1 : Int32)) (by decide) at_11 (pc' := 12) rfl ?_
    obtain ⟨i156, e156⟩ : ∃ v, i155 &&& (1 : Int32) = v := ⟨_, rfl⟩
    have f156 : own_I 1 i156.toInt i156 := own_I.and e156 (by decide)
    have nn156 := own_and_nn (M := 1) e156 (by decide)
    refine own_iand X0 e156 at_12 (pc' := 13) rfl ?_
    by_cases c157 : i156 = 0
    · -- yes c157
      refine own_ifT X0 (own_z_eq c157).1 at_13 (pc' := 20) (by decide) (by decide) ?_
      refine own_iconst X0 (v := (0 : Int32)) (by decide) at_20 (pc' := 21) rfl ?_
      refine own_istore X0 (Ls' := #[.val (.int p0), .val (.int p1), .val (.int p2), .val (.double d154), .second, .val (.int (0 : Int32)), .unset, .unset, .unset, .unset, .unset]) rfl at_21 (pc' := 23) rfl ?_
      refine own_iloadN X0 rfl at_23 (pc' := 24) rfl ?_
      have f158 := own_I.start p0
      obtain ⟨d159, e159⟩ : ∃ v, FP.i2d p0 = v := ⟨_, rfl⟩
      have f159 : own_D 0 2147483648 p0.toInt d159 := own_D.i2d f158 e159
      refine own_i2d X0 e159 at_24 (pc' := 25) rfl ?_
      refine own_dloadN X0 rfl at_25 (pc' := 26) rfl ?_
      obtain ⟨d160, e160⟩ : ∃ v, FP.ddiv d159 d154 = v := ⟨_, rfl⟩
      have f160 : own_D 6 2147483648 p0.toInt d160 := own_D.divp (r := 6) (P := 64) f159 f154 (by decide) e160 (by decide) (by decide) (by decide)
      refine own_ddiv X0 e160 f160.nn at_26 (pc' := 27) rfl ?_
      refine own_dstore X0 (Ls' := #[.val (.int p0), .val (.int p1), .val (.int p2), .val (.double d154), .second, .val (.int (0 : Int32)), .val (.double d160), .second, .unset, .unset, .unset]) rfl at_27 (pc' := 29) rfl ?_
      refine own_iload X0 rfl at_29 (pc' := 31) rfl ?_
      refine own_ifT X0 (by decide) at_31 (pc' := 40) (by decide) (by decide) ?_
      refine own_iloadN X0 rfl at_40 (pc' := 41) rfl ?_
      have f161 := own_I.start p1
      obtain ⟨d162, e162⟩ : ∃ v, FP.i2d p1 = v := ⟨_, rfl⟩
      have f162 : own_D 0 2147483648 p1.toInt d162 := own_D.i2d f161 e162
      refine own_i2d X0 e162 at_41 (pc' := 42) rfl ?_
      refine own_dloadN X0 rfl at_42 (pc' := 43) rfl ?_
      obtain ⟨d163, e163⟩ : ∃ v, FP.ddiv d162 d154 = v := ⟨_, rfl⟩
      have f163 : own_D 6 2147483648 p1.toInt d163 := own_D.divp (r := 6) (P := 64) f162 f154 (by decide) e163 (by decide) (by decide) (by decide)
      refine own_ddiv X0 e163 f163.nn at_43 (pc' := 44) rfl ?_
      refine own_dstore X0 (Ls' := #[.val (.int p0), .val (.int p1), .val (.int p2), .val (.double d154), .second, .val (.int (0 : Int32)), .val (.double d160), .second, .val (.double d163), .second, .unset]) rfl at_44 (pc' := 46) rfl ?_
      refine own_iload X0 rfl at_46 (pc' := 48) rfl ?_
      refine own_ifT X0 (by decide) at_48 (pc' := 55) (by decide) (by decide) ?_
      refine own_ldcJ X0 (v := (2 : Int64)) (hw _ (List.mem_of_getElem? (i := 0) rfl)) at_55 (pc' := 58) rfl ?_
      refine own_iloadN X0 rfl at_58 (pc' := 59) rfl ?_
      obtain ⟨j164, e164⟩ : ∃ v, p0.toInt64 = v := ⟨_, rfl⟩
      have f164 : own_L 2147483648 p0.toInt j164 := own_L.ofI f158 e164
      refine own_i2l X0 e164 at_59 (pc' := 60) rfl ?_
      obtain ⟨j165, e165⟩ : ∃ v, (2 : Int64) * j164 = v := ⟨_, rfl⟩
      have f166 : own_L 2 (2 : Int) (2 : Int64) := own_L.lit (by decide) (by decide)
      have f165 : own_L 4294967296 ((2 : Int) * p0.toInt) j165 := f166.mul f164 e165 (by decide) (by decide)
      refine own_lmul X0 e165 at_60 (pc' := 61) rfl ?_
      refine own_iloadN X0 rfl at_61 (pc' := 62) rfl ?_
      obtain ⟨j167, e167⟩ : ∃ v, p1.toInt64 = v := ⟨_, rfl⟩
      have f167 : own_L 2147483648 p1.toInt j167 := own_L.ofI f161 e167
      refine own_i2l X0 e167 at_62 (pc' := 63) rfl ?_
      refine own_lcmp X0 (f165.cmp f167) at_63 (pc' := 64) rfl ?_
      by_cases c168 : ((2 : Int) * p0.toInt) < p1.toInt
      · -- yes c168
        refine own_ifF X0 (own_c3_lt c168).2 at_64 (pc' := 67) rfl ?_
        refine own_iconst X0 (v := (1 : Int32)) (by decide) at_67 (pc' := 68) rfl ?_
        refine own_goto X0 at_68 (pc' := 72) (by decide) (by decide) ?_
        refine own_istore X0 (Ls' := #[.val (.int p0), .val (.int p1), .val (.int p2), .val (.double d154), .second, .val (.int (0 : Int32)), .val (.double d160), .second, .val (.double d163), .second, .val (.int (1 : Int32))]) rfl at_72 (pc' := 74) rfl ?_
        refine own_dload X0 rfl at_74 (pc' := 76) rfl ?_
        refine own_dload X0 rfl at_76 (pc' := 78) rfl ?_
        refine own_callS X0 (own_sf l Z a0 hw d160 d163 p0.toInt p1.toInt 6 2147483648 2147483648 _ n0 X0.le f160 f163 (by decide) (by decide)) (hw _ (List.mem_of_getElem? (i := 1) rfl)) (hw _ (List.mem_of_getElem? (i := 2) rfl)) (hw _ (List.mem_of_getElem? (i := 3) rfl)) (hw _ (List.mem_of_getElem? (i := 4) rfl)) (by decide) rfl (by decide) (W := 0) (Nat.le_of_eq rfl) (by decide) (cells' := 0) (slots' := 0) rfl rfl (by decide) (by decide) (argsL := [(.double d160), (.double d163)]) (rest := []) (lenOf own_pd0 rfl) rfl rfl at_78 (pc' := 81) rfl ?_
        rintro _ T169 h169 X169 ⟨rfl, e169⟩
        subst e169
        show own_Goal p e below _ T169 (mkF m 81 #[.val (.int p0), .val (.int p1), .val (.int p2), .val (.double d154), .second, .val (.int (0 : Int32)), .val (.double d160), .second, .val (.double d163), .second, .val (.int (1 : Int32))] [(.int (if 2 * p0.toInt < p1.toInt then 1 else 0 : Int32))])
        refine own_iload X169 rfl at_81 (pc' := 83) rfl ?_
        have c170 : (if 2 * p0.toInt < p1.toInt then 1 else 0 : Int32) = (1 : Int32) := if_pos c168
        refine own_icmpF X169 (own_i_eq c170).2 at_83 (pc' := 86) rfl ?_
        refine own_iconst X169 (v := (1 : Int32)) (by decide) at_86 (pc' := 87) rfl ?_
        refine own_goto X169 at_87 (pc' := 91) (by decide) (by decide) ?_
        exact own_retZ X169 (by decide) at_91 rfl (by decide) (by decide) rfl
      · -- no c168
        refine own_ifT X0 (own_c3_nlt c168).2 at_64 (pc' := 71) (by decide) (by decide) ?_
        refine own_iconst X0 (v := (0 : Int32)) (by decide) at_71 (pc' := 72) rfl ?_
        refine own_istore X0 (Ls' := #[.val (.int p0), .val (.int p1), .val (.int p2), .val (.double d154), .second, .val (.int (0 : Int32)), .val (.double d160), .second, .val (.double d163), .second, .val (.int (0 : Int32))]) rfl at_72 (pc' := 74) rfl ?_
        refine own_dload X0 rfl at_74 (pc' := 76) rfl ?_
        refine own_dload X0 rfl at_76 (pc' := 78) rfl ?_
        refine own_callS X0 (own_sf l Z a0 hw d160 d163 p0.toInt p1.toInt 6 2147483648 2147483648 _ n0 X0.le f160 f163 (by decide) (by decide)) (hw _ (List.mem_of_getElem? (i := 1) rfl)) (hw _ (List.mem_of_getElem? (i := 2) rfl)) (hw _ (List.mem_of_getElem? (i := 3) rfl)) (hw _ (List.mem_of_getElem? (i := 4) rfl)) (by decide) rfl (by decide) (W := 0) (Nat.le_of_eq rfl) (by decide) (cells' := 0) (slots' := 0) rfl rfl (by decide) (by decide) (argsL := [(.double d160), (.double d163)]) (rest := []) (lenOf own_pd0 rfl) rfl rfl at_78 (pc' := 81) rfl ?_
        rintro _ T171 h171 X171 ⟨rfl, e171⟩
        subst e171
        show own_Goal p e below _ T171 (mkF m 81 #[.val (.int p0), .val (.int p1), .val (.int p2), .val (.double d154), .second, .val (.int (0 : Int32)), .val (.double d160), .second, .val (.double d163), .second, .val (.int (0 : Int32))] [(.int (if 2 * p0.toInt < p1.toInt then 1 else 0 : Int32))])
        refine own_iload X171 rfl at_81 (pc' := 83) rfl ?_
        have c172 : (if 2 * p0.toInt < p1.toInt then 1 else 0 : Int32) = (0 : Int32) := if_neg c168
        refine own_icmpF X171 (own_i_eq c172).2 at_83 (pc' := 86) rfl ?_
        refine own_iconst X171 (v := (1 : Int32)) (by decide) at_86 (pc' := 87) rfl ?_
        refine own_goto X171 at_87 (pc' := 91) (by decide) (by decide) ?_
        exact own_retZ X171 (by decide) at_91 rfl (by decide) (by decide) rfl
    · -- no c157
      refine own_ifF X0 (own_z_ne c157).1 at_13 (pc' := 16) rfl ?_
      refine own_iconst X0 (v := (1 : Int32)) (by decide) at_16 (pc' := 17) rfl ?_
      refine own_goto X0 at_17 (pc' := 21) (by decide) (by decide) ?_
      refine own_istore X0 (Ls' := #[.val (.int p0), .val (.int p1), .val (.int p2), .val (.double d154), .second, .val (.int (1 : Int32)), .unset, .unset, .unset, .unset, .unset]) rfl at_21 (pc' := 23) rfl ?_
      refine own_iloadN X0 rfl at_23 (pc' := 24) rfl ?_
      have f173 := own_I.start p0
      obtain ⟨d174, e174⟩ : ∃ v, FP.i2d p0 = v := ⟨_, rfl⟩
      have f174 : own_D 0 2147483648 p0.toInt d174 := own_D.i2d f173 e174
      refine own_i2d X0 e174 at_24 (pc' := 25) rfl ?_
      refine own_dloadN X0 rfl at_25 (pc' := 26) rfl ?_
      obtain ⟨d175, e175⟩ : ∃ v, FP.ddiv d174 d154 = v := ⟨_, rfl⟩
      have f175 : own_D 6 2147483648 p0.toInt d175 := own_D.divp (r := 6) (P := 64) f174 f154 (by decide) e175 (by decide) (by decide) (by decide)
      refine own_ddiv X0 e175 f175.nn at_26 (pc' := 27) rfl ?_
      refine own_dstore X0 (Ls' := #[.val (.int p0), .val (.int p1), .val (.int p2), .val (.double d154), .second, .val (.int (1 : Int32)), .val (.double d175), .second, .unset, .unset, .unset]) rfl at_27 (pc' := 29) rfl ?_
      refine own_iload X0 rfl at_29 (pc' := 31) rfl ?_
      refine own_ifF X0 (by decide) at_31 (pc' := 34) rfl ?_
      refine own_ldcD X0 (v := (9218868437227405312 : UInt64)) (hw _ (List.mem_of_getElem? (i := 6) rfl)) at_34 (pc' := 37) rfl ?_
      refine own_goto X0 at_37 (pc' := 44) (by decide) (by decide) ?_
      refine own_dstore X0 (Ls' := #[.val (.int p0), .val (.int p1), .val (.int p2), .val (.double d154), .second, .val (.int (1 : Int32)), .val (.double d175), .second, .val (.double (9218868437227405312 : UInt64)), .second, .unset]) rfl at_44 (pc' := 46) rfl ?_
      refine own_iload X0 rfl at_46 (pc' := 48) rfl ?_
      refine own_ifF X0 (by decide) at_48 (pc' := 51) rfl ?_
      refine own_iconst X0 (v := (1 : Int32)) (by decide) at_51 (pc' := 52) rfl ?_
      refine own_goto X0 at_52 (pc' := 72) (by decide) (by decide) ?_
      refine own_istore X0 (Ls' := #[.val (.int p0), .val (.int p1), .val (.int p2), .val (.double d154), .second, .val (.int (1 : Int32)), .val (.double d175), .second, .val (.double (9218868437227405312 : UInt64)), .second, .val (.int (1 : Int32))]) rfl at_72 (pc' := 74) rfl ?_
      refine own_dload X0 rfl at_74 (pc' := 76) rfl ?_
      refine own_dload X0 rfl at_76 (pc' := 78) rfl ?_
      refine own_callS X0 (own_si l Z a0 hw d175 p0.toInt 6 2147483648 _ n0 X0.le f175) (hw _ (List.mem_of_getElem? (i := 1) rfl)) (hw _ (List.mem_of_getElem? (i := 2) rfl)) (hw _ (List.mem_of_getElem? (i := 3) rfl)) (hw _ (List.mem_of_getElem? (i := 4) rfl)) (by decide) rfl (by decide) (W := 0) (Nat.le_of_eq rfl) (by decide) (cells' := 0) (slots' := 0) rfl rfl (by decide) (by decide) (argsL := [(.double d175), (.double (9218868437227405312 : UInt64))]) (rest := []) (lenOf own_pd0 rfl) rfl rfl at_78 (pc' := 81) rfl ?_
      rintro _ T176 h176 X176 ⟨rfl, e176⟩
      subst e176
      show own_Goal p e below _ T176 (mkF m 81 #[.val (.int p0), .val (.int p1), .val (.int p2), .val (.double d154), .second, .val (.int (1 : Int32)), .val (.double d175), .second, .val (.double (9218868437227405312 : UInt64)), .second, .val (.int (1 : Int32))] [(.int (1 : Int32))])
      refine own_iload X176 rfl at_81 (pc' := 83) rfl ?_
      refine own_icmpF X176 (by decide) at_83 (pc' := 86) rfl ?_
      refine own_iconst X176 (v := (1 : Int32)) (by decide) at_86 (pc' := 87) rfl ?_
      refine own_goto X176 at_87 (pc' := 91) (by decide) (by decide) ?_
      exact own_retZ X176 (by decide) at_91 rfl (by decide) (by decide) rfl
  · -- 7
    refine own_ishl X0 (v := (128 : Int32)) (by decide) at_5 (pc' := 6) rfl ?_
    have f177 : own_I 128 (128 : Int) (128 : Int32) := own_I.lit (by decide) (by decide)
    obtain ⟨d178, e178⟩ : ∃ v, FP.i2d (128 : Int32) = v := ⟨_, rfl⟩
    have f178 : own_D 0 128 (128 : Int) d178 := own_D.i2d f177 e178
    refine own_i2d X0 e178 at_6 (pc' := 7) rfl ?_
    refine own_dstoreN X0 (Ls' := #[.val (.int p0), .val (.int p1), .val (.int p2), .val (.double d178), .second, .unset, .unset, .unset, .unset, .unset, .unset]) rfl at_7 (pc' := 8) rfl ?_
    refine own_iloadN X0 rfl at_8 (pc' := 9) rfl ?_
    refine own_iconst X0 (v := (4 : Int32)) (by decide) at_9 (pc' := 10) rfl ?_
    obtain ⟨i179, e179⟩ : ∃ v, XT.ushr p2 (4 : Int32) = v := ⟨_, rfl⟩
    refine own_iushr X0 e179 at_10 (pc' := 11) rfl ?_
    refine own_iconst X0 (v := (1 : Int32)) (by decide) at_11 (pc' := 12) rfl ?_
    obtain ⟨i180, e180⟩ : ∃ v, i179 &&& (1 : Int32) = v := ⟨_, rfl⟩
    have f180 : own_I 1 i180.toInt i180 := own_I.and e180 (by decide)
    have nn180 := own_and_nn (M := 1) e180 (by decide)
    refine own_iand X0 e180 at_12 (pc' := 13) rfl ?_
    by_cases c181 : i180 = 0
    · -- yes c181
      refine own_ifT X0 (own_z_eq c181).1 at_13 (pc' := 20) (by decide) (by decide) ?_
      refine own_iconst X0 (v := (0 : Int32)) (by decide) at_20 (pc' := 21) rfl ?_
      refine own_istore X0 (Ls' := #[.val (.int p0), .val (.int p1), .val (.int p2), .val (.double d178), .second, .val (.int (0 : Int32)), .unset, .unset, .unset, .unset, .unset]) rfl at_21 (pc' := 23) rfl ?_
      refine own_iloadN X0 rfl at_23 (pc' := 24) rfl ?_
      have f182 := own_I.start p0
      obtain ⟨d183, e183⟩ : ∃ v, FP.i2d p0 = v := ⟨_, rfl⟩
      have f183 : own_D 0 2147483648 p0.toInt d183 := own_D.i2d f182 e183
      refine own_i2d X0 e183 at_24 (pc' := 25) rfl ?_
      refine own_dloadN X0 rfl at_25 (pc' := 26) rfl ?_
      obtain ⟨d184, e184⟩ : ∃ v, FP.ddiv d183 d178 = v := ⟨_, rfl⟩
      have f184 : own_D 7 2147483648 p0.toInt d184 := own_D.divp (r := 7) (P := 128) f183 f178 (by decide) e184 (by decide) (by decide) (by decide)
      refine own_ddiv X0 e184 f184.nn at_26 (pc' := 27) rfl ?_
      refine own_dstore X0 (Ls' := #[.val (.int p0), .val (.int p1), .val (.int p2), .val (.double d178), .second, .val (.int (0 : Int32)), .val (.double d184), .second, .unset, .unset, .unset]) rfl at_27 (pc' := 29) rfl ?_
      refine own_iload X0 rfl at_29 (pc' := 31) rfl ?_
      refine own_ifT X0 (by decide) at_31 (pc' := 40) (by decide) (by decide) ?_
      refine own_iloadN X0 rfl at_40 (pc' := 41) rfl ?_
      have f185 := own_I.start p1
      obtain ⟨d186, e186⟩ : ∃ v, FP.i2d p1 = v := ⟨_, rfl⟩
      have f186 : own_D 0 2147483648 p1.toInt d186 := own_D.i2d f185 e186
      refine own_i2d X0 e186 at_41 (pc' := 42) rfl ?_
      refine own_dloadN X0 rfl at_42 (pc' := 43) rfl ?_
      obtain ⟨d187, e187⟩ : ∃ v, FP.ddiv d186 d178 = v := ⟨_, rfl⟩
      have f187 : own_D 7 2147483648 p1.toInt d187 := own_D.divp (r := 7) (P := 128) f186 f178 (by decide) e187 (by decide) (by decide) (by decide)
      refine own_ddiv X0 e187 f187.nn at_43 (pc' := 44) rfl ?_
      refine own_dstore X0 (Ls' := #[.val (.int p0), .val (.int p1), .val (.int p2), .val (.double d178), .second, .val (.int (0 : Int32)), .val (.double d184), .second, .val (.double d187), .second, .unset]) rfl at_44 (pc' := 46) rfl ?_
      refine own_iload X0 rfl at_46 (pc' := 48) rfl ?_
      refine own_ifT X0 (by decide) at_48 (pc' := 55) (by decide) (by decide) ?_
      refine own_ldcJ X0 (v := (2 : Int64)) (hw _ (List.mem_of_getElem? (i := 0) rfl)) at_55 (pc' := 58) rfl ?_
      refine own_iloadN X0 rfl at_58 (pc' := 59) rfl ?_
      obtain ⟨j188, e188⟩ : ∃ v, p0.toInt64 = v := ⟨_, rfl⟩
      have f188 : own_L 2147483648 p0.toInt j188 := own_L.ofI f182 e188
      refine own_i2l X0 e188 at_59 (pc' := 60) rfl ?_
      obtain ⟨j189, e189⟩ : ∃ v, (2 : Int64) * j188 = v := ⟨_, rfl⟩
      have f190 : own_L 2 (2 : Int) (2 : Int64) := own_L.lit (by decide) (by decide)
      have f189 : own_L 4294967296 ((2 : Int) * p0.toInt) j189 := f190.mul f188 e189 (by decide) (by decide)
      refine own_lmul X0 e189 at_60 (pc' := 61) rfl ?_
      refine own_iloadN X0 rfl at_61 (pc' := 62) rfl ?_
      obtain ⟨j191, e191⟩ : ∃ v, p1.toInt64 = v := ⟨_, rfl⟩
      have f191 : own_L 2147483648 p1.toInt j191 := own_L.ofI f185 e191
      refine own_i2l X0 e191 at_62 (pc' := 63) rfl ?_
      refine own_lcmp X0 (f189.cmp f191) at_63 (pc' := 64) rfl ?_
      by_cases c192 : ((2 : Int) * p0.toInt) < p1.toInt
      · -- yes c192
        refine own_ifF X0 (own_c3_lt c192).2 at_64 (pc' := 67) rfl ?_
        refine own_iconst X0 (v := (1 : Int32)) (by decide) at_67 (pc' := 68) rfl ?_
        refine own_goto X0 at_68 (pc' := 72) (by decide) (by decide) ?_
        refine own_istore X0 (Ls' := #[.val (.int p0), .val (.int p1), .val (.int p2), .val (.double d178), .second, .val (.int (0 : Int32)), .val (.double d184), .second, .val (.double d187), .second, .val (.int (1 : Int32))]) rfl at_72 (pc' := 74) rfl ?_
        refine own_dload X0 rfl at_74 (pc' := 76) rfl ?_
        refine own_dload X0 rfl at_76 (pc' := 78) rfl ?_
        refine own_callS X0 (own_sf l Z a0 hw d184 d187 p0.toInt p1.toInt 7 2147483648 2147483648 _ n0 X0.le f184 f187 (by decide) (by decide)) (hw _ (List.mem_of_getElem? (i := 1) rfl)) (hw _ (List.mem_of_getElem? (i := 2) rfl)) (hw _ (List.mem_of_getElem? (i := 3) rfl)) (hw _ (List.mem_of_getElem? (i := 4) rfl)) (by decide) rfl (by decide) (W := 0) (Nat.le_of_eq rfl) (by decide) (cells' := 0) (slots' := 0) rfl rfl (by decide) (by decide) (argsL := [(.double d184), (.double d187)]) (rest := []) (lenOf own_pd0 rfl) rfl rfl at_78 (pc' := 81) rfl ?_
        rintro _ T193 h193 X193 ⟨rfl, e193⟩
        subst e193
        show own_Goal p e below _ T193 (mkF m 81 #[.val (.int p0), .val (.int p1), .val (.int p2), .val (.double d178), .second, .val (.int (0 : Int32)), .val (.double d184), .second, .val (.double d187), .second, .val (.int (1 : Int32))] [(.int (if 2 * p0.toInt < p1.toInt then 1 else 0 : Int32))])
        refine own_iload X193 rfl at_81 (pc' := 83) rfl ?_
        have c194 : (if 2 * p0.toInt < p1.toInt then 1 else 0 : Int32) = (1 : Int32) := if_pos c192
        refine own_icmpF X193 (own_i_eq c194).2 at_83 (pc' := 86) rfl ?_
        refine own_iconst X193 (v := (1 : Int32)) (by decide) at_86 (pc' := 87) rfl ?_
        refine own_goto X193 at_87 (pc' := 91) (by decide) (by decide) ?_
        exact own_retZ X193 (by decide) at_91 rfl (by decide) (by decide) rfl
      · -- no c192
        refine own_ifT X0 (own_c3_nlt c192).2 at_64 (pc' := 71) (by decide) (by decide) ?_
        refine own_iconst X0 (v := (0 : Int32)) (by decide) at_71 (pc' := 72) rfl ?_
        refine own_istore X0 (Ls' := #[.val (.int p0), .val (.int p1), .val (.int p2), .val (.double d178), .second, .val (.int (0 : Int32)), .val (.double d184), .second, .val (.double d187), .second, .val (.int (0 : Int32))]) rfl at_72 (pc' := 74) rfl ?_
        refine own_dload X0 rfl at_74 (pc' := 76) rfl ?_
        refine own_dload X0 rfl at_76 (pc' := 78) rfl ?_
        refine own_callS X0 (own_sf l Z a0 hw d184 d187 p0.toInt p1.toInt 7 2147483648 2147483648 _ n0 X0.le f184 f187 (by decide) (by decide)) (hw _ (List.mem_of_getElem? (i := 1) rfl)) (hw _ (List.mem_of_getElem? (i := 2) rfl)) (hw _ (List.mem_of_getElem? (i := 3) rfl)) (hw _ (List.mem_of_getElem? (i := 4) rfl)) (by decide) rfl (by decide) (W := 0) (Nat.le_of_eq rfl) (by decide) (cells' := 0) (slots' := 0) rfl rfl (by decide) (by decide) (argsL := [(.double d184), (.double d187)]) (rest := []) (lenOf own_pd0 rfl) rfl rfl at_78 (pc' := 81) rfl ?_
        rintro _ T195 h195 X195 ⟨rfl, e195⟩
        subst e195
        show own_Goal p e below _ T195 (mkF m 81 #[.val (.int p0), .val (.int p1), .val (.int p2), .val (.double d178), .second, .val (.int (0 : Int32)), .val (.double d184), .second, .val (.double d187), .second, .val (.int (0 : Int32))] [(.int (if 2 * p0.toInt < p1.toInt then 1 else 0 : Int32))])
        refine own_iload X195 rfl at_81 (pc' := 83) rfl ?_
        have c196 : (if 2 * p0.toInt < p1.toInt then 1 else 0 : Int32) = (0 : Int32) := if_neg c192
        refine own_icmpF X195 (own_i_eq c196).2 at_83 (pc' := 86) rfl ?_
        refine own_iconst X195 (v := (1 : Int32)) (by decide) at_86 (pc' := 87) rfl ?_
        refine own_goto X195 at_87 (pc' := 91) (by decide) (by decide) ?_
        exact own_retZ X195 (by decide) at_91 rfl (by decide) (by decide) rfl
    · -- no c181
      refine own_ifF X0 (own_z_ne c181).1 at_13 (pc' := 16) rfl ?_
      refine own_iconst X0 (v := (1 : Int32)) (by decide) at_16 (pc' := 17) rfl ?_
      refine own_goto X0 at_17 (pc' := 21) (by decide) (by decide) ?_
      refine own_istore X0 (Ls' := #[.val (.int p0), .val (.int p1), .val (.int p2), .val (.double d178), .second, .val (.int (1 : Int32)), .unset, .unset, .unset, .unset, .unset]) rfl at_21 (pc' := 23) rfl ?_
      refine own_iloadN X0 rfl at_23 (pc' := 24) rfl ?_
      have f197 := own_I.start p0
      obtain ⟨d198, e198⟩ : ∃ v, FP.i2d p0 = v := ⟨_, rfl⟩
      have f198 : own_D 0 2147483648 p0.toInt d198 := own_D.i2d f197 e198
      refine own_i2d X0 e198 at_24 (pc' := 25) rfl ?_
      refine own_dloadN X0 rfl at_25 (pc' := 26) rfl ?_
      obtain ⟨d199, e199⟩ : ∃ v, FP.ddiv d198 d178 = v := ⟨_, rfl⟩
      have f199 : own_D 7 2147483648 p0.toInt d199 := own_D.divp (r := 7) (P := 128) f198 f178 (by decide) e199 (by decide) (by decide) (by decide)
      refine own_ddiv X0 e199 f199.nn at_26 (pc' := 27) rfl ?_
      refine own_dstore X0 (Ls' := #[.val (.int p0), .val (.int p1), .val (.int p2), .val (.double d178), .second, .val (.int (1 : Int32)), .val (.double d199), .second, .unset, .unset, .unset]) rfl at_27 (pc' := 29) rfl ?_
      refine own_iload X0 rfl at_29 (pc' := 31) rfl ?_
      refine own_ifF X0 (by decide) at_31 (pc' := 34) rfl ?_
      refine own_ldcD X0 (v := (9218868437227405312 : UInt64)) (hw _ (List.mem_of_getElem? (i := 6) rfl)) at_34 (pc' := 37) rfl ?_
      refine own_goto X0 at_37 (pc' := 44) (by decide) (by decide) ?_
      refine own_dstore X0 (Ls' := #[.val (.int p0), .val (.int p1), .val (.int p2), .val (.double d178), .second, .val (.int (1 : Int32)), .val (.double d199), .second, .val (.double (9218868437227405312 : UInt64)), .second, .unset]) rfl at_44 (pc' := 46) rfl ?_
      refine own_iload X0 rfl at_46 (pc' := 48) rfl ?_
      refine own_ifF X0 (by decide) at_48 (pc' := 51) rfl ?_
      refine own_iconst X0 (v := (1 : Int32)) (by decide) at_51 (pc' := 52) rfl ?_
      refine own_goto X0 at_52 (pc' := 72) (by decide) (by decide) ?_
      refine own_istore X0 (Ls' := #[.val (.int p0), .val (.int p1), .val (.int p2), .val (.double d178), .second, .val (.int (1 : Int32)), .val (.double d199), .second, .val (.double (9218868437227405312 : UInt64)), .second, .val (.int (1 : Int32))]) rfl at_72 (pc' := 74) rfl ?_
      refine own_dload X0 rfl at_74 (pc' := 76) rfl ?_
      refine own_dload X0 rfl at_76 (pc' := 78) rfl ?_
      refine own_callS X0 (own_si l Z a0 hw d199 p0.toInt 7 2147483648 _ n0 X0.le f199) (hw _ (List.mem_of_getElem? (i := 1) rfl)) (hw _ (List.mem_of_getElem? (i := 2) rfl)) (hw _ (List.mem_of_getElem? (i := 3) rfl)) (hw _ (List.mem_of_getElem? (i := 4) rfl)) (by decide) rfl (by decide) (W := 0) (Nat.le_of_eq rfl) (by decide) (cells' := 0) (slots' := 0) rfl rfl (by decide) (by decide) (argsL := [(.double d199), (.double (9218868437227405312 : UInt64))]) (rest := []) (lenOf own_pd0 rfl) rfl rfl at_78 (pc' := 81) rfl ?_
      rintro _ T200 h200 X200 ⟨rfl, e200⟩
      subst e200
      show own_Goal p e below _ T200 (mkF m 81 #[.val (.int p0), .val (.int p1), .val (.int p2), .val (.double d178), .second, .val (.int (1 : Int32)), .val (.double d199), .second, .val (.double (9218868437227405312 : UInt64)), .second, .val (.int (1 : Int32))] [(.int (1 : Int32))])
      refine own_iload X200 rfl at_81 (pc' := 83) rfl ?_
      refine own_icmpF X200 (by decide) at_83 (pc' := 86) rfl ?_
      refine own_iconst X200 (v := (1 : Int32)) (by decide) at_86 (pc' := 87) rfl ?_
      refine own_goto X200 at_87 (pc' := 91) (by decide) (by decide) ?_
      exact own_retZ X200 (by decide) at_91 rfl (by decide) (by decide) rfl
  · -- 8
    refine own_ishl X0 (v := (256 : Int32)) (by decide) at_5 (pc' := 6) rfl ?_
    have f201 : own_I 256 (256 : Int) (256 : Int32) := own_I.lit (by decide) (by decide)
    obtain ⟨d202, e202⟩ : ∃ v, FP.i2d (256 : Int32) = v := ⟨_, rfl⟩
    have f202 : own_D 0 256 (256 : Int) d202 := own_D.i2d f201 e202
    refine own_i2d X0 e202 at_6 (pc' := 7) rfl ?_
    refine own_dstoreN X0 (Ls' := #[.val (.int p0), .val (.int p1), .val (.int p2), .val (.double d202), .second, .unset, .unset, .unset, .unset, .unset, .unset]) rfl at_7 (pc' := 8) rfl ?_
    refine own_iloadN X0 rfl at_8 (pc' := 9) rfl ?_
    refine own_iconst X0 (v := (4 : Int32)) (by decide) at_9 (pc' := 10) rfl ?_
    obtain ⟨i203, e203⟩ : ∃ v, XT.ushr p2 (4 : Int32) = v := ⟨_, rfl⟩
    refine own_iushr X0 e203 at_10 (pc' := 11) rfl ?_
    refine own_iconst X0 (v := (1 : Int32)) (by decide) at_11 (pc' := 12) rfl ?_
    obtain ⟨i204, e204⟩ : ∃ v, i203 &&& (1 : Int32) = v := ⟨_, rfl⟩
    have f204 : own_I 1 i204.toInt i204 := own_I.and e204 (by decide)
    have nn204 := own_and_nn (M := 1) e204 (by decide)
    refine own_iand X0 e204 at_12 (pc' := 13) rfl ?_
    by_cases c205 : i204 = 0
    · -- yes c205
      refine own_ifT X0 (own_z_eq c205).1 at_13 (pc' := 20) (by decide) (by decide) ?_
      refine own_iconst X0 (v := (0 : Int32)) (by decide) at_20 (pc' := 21) rfl ?_
      refine own_istore X0 (Ls' := #[.val (.int p0), .val (.int p1), .val (.int p2), .val (.double d202), .second, .val (.int (0 : Int32)), .unset, .unset, .unset, .unset, .unset]) rfl at_21 (pc' := 23) rfl ?_
      refine own_iloadN X0 rfl at_23 (pc' := 24) rfl ?_
      have f206 := own_I.start p0
      obtain ⟨d207, e207⟩ : ∃ v, FP.i2d p0 = v := ⟨_, rfl⟩
      have f207 : own_D 0 2147483648 p0.toInt d207 := own_D.i2d f206 e207
      refine own_i2d X0 e207 at_24 (pc' := 25) rfl ?_
      refine own_dloadN X0 rfl at_25 (pc' := 26) rfl ?_
      obtain ⟨d208, e208⟩ : ∃ v, FP.ddiv d207 d202 = v := ⟨_, rfl⟩
      have f208 : own_D 8 2147483648 p0.toInt d208 := own_D.divp (r := 8) (P := 256) f207 f202 (by decide) e208 (by decide) (by decide) (by decide)
      refine own_ddiv X0 e208 f208.nn at_26 (pc' := 27) rfl ?_
      refine own_dstore X0 (Ls' := #[.val (.int p0), .val (.int p1), .val (.int p2), .val (.double d202), .second, .val (.int (0 : Int32)), .val (.double d208), .second, .unset, .unset, .unset]) rfl at_27 (pc' := 29) rfl ?_
      refine own_iload X0 rfl at_29 (pc' := 31) rfl ?_
      refine own_ifT X0 (by decide) at_31 (pc' := 40) (by decide) (by decide) ?_
      refine own_iloadN X0 rfl at_40 (pc' := 41) rfl ?_
      have f209 := own_I.start p1
      obtain ⟨d210, e210⟩ : ∃ v, FP.i2d p1 = v := ⟨_, rfl⟩
      have f210 : own_D 0 2147483648 p1.toInt d210 := own_D.i2d f209 e210
      refine own_i2d X0 e210 at_41 (pc' := 42) rfl ?_
      refine own_dloadN X0 rfl at_42 (pc' := 43) rfl ?_
      obtain ⟨d211, e211⟩ : ∃ v, FP.ddiv d210 d202 = v := ⟨_, rfl⟩
      have f211 : own_D 8 2147483648 p1.toInt d211 := own_D.divp (r := 8) (P := 256) f210 f202 (by decide) e211 (by decide) (by decide) (by decide)
      refine own_ddiv X0 e211 f211.nn at_43 (pc' := 44) rfl ?_
      refine own_dstore X0 (Ls' := #[.val (.int p0), .val (.int p1), .val (.int p2), .val (.double d202), .second, .val (.int (0 : Int32)), .val (.double d208), .second, .val (.double d211), .second, .unset]) rfl at_44 (pc' := 46) rfl ?_
      refine own_iload X0 rfl at_46 (pc' := 48) rfl ?_
      refine own_ifT X0 (by decide) at_48 (pc' := 55) (by decide) (by decide) ?_
      refine own_ldcJ X0 (v := (2 : Int64)) (hw _ (List.mem_of_getElem? (i := 0) rfl)) at_55 (pc' := 58) rfl ?_
      refine own_iloadN X0 rfl at_58 (pc' := 59) rfl ?_
      obtain ⟨j212, e212⟩ : ∃ v, p0.toInt64 = v := ⟨_, rfl⟩
      have f212 : own_L 2147483648 p0.toInt j212 := own_L.ofI f206 e212
      refine own_i2l X0 e212 at_59 (pc' := 60) rfl ?_
      obtain ⟨j213, e213⟩ : ∃ v, (2 : Int64) * j212 = v := ⟨_, rfl⟩
      have f214 : own_L 2 (2 : Int) (2 : Int64) := own_L.lit (by decide) (by decide)
      have f213 : own_L 4294967296 ((2 : Int) * p0.toInt) j213 := f214.mul f212 e213 (by decide) (by decide)
      refine own_lmul X0 e213 at_60 (pc' := 61) rfl ?_
      refine own_iloadN X0 rfl at_61 (pc' := 62) rfl ?_
      obtain ⟨j215, e215⟩ : ∃ v, p1.toInt64 = v := ⟨_, rfl⟩
      have f215 : own_L 2147483648 p1.toInt j215 := own_L.ofI f209 e215
      refine own_i2l X0 e215 at_62 (pc' := 63) rfl ?_
      refine own_lcmp X0 (f213.cmp f215) at_63 (pc' := 64) rfl ?_
      by_cases c216 : ((2 : Int) * p0.toInt) < p1.toInt
      · -- yes c216
        refine own_ifF X0 (own_c3_lt c216).2 at_64 (pc' := 67) rfl ?_
        refine own_iconst X0 (v := (1 : Int32)) (by decide) at_67 (pc' := 68) rfl ?_
        refine own_goto X0 at_68 (pc' := 72) (by decide) (by decide) ?_
        refine own_istore X0 (Ls' := #[.val (.int p0), .val (.int p1), .val (.int p2), .val (.double d202), .second, .val (.int (0 : Int32)), .val (.double d208), .second, .val (.double d211), .second, .val (.int (1 : Int32))]) rfl at_72 (pc' := 74) rfl ?_
        refine own_dload X0 rfl at_74 (pc' := 76) rfl ?_
        refine own_dload X0 rfl at_76 (pc' := 78) rfl ?_
        refine own_callS X0 (own_sf l Z a0 hw d208 d211 p0.toInt p1.toInt 8 2147483648 2147483648 _ n0 X0.le f208 f211 (by decide) (by decide)) (hw _ (List.mem_of_getElem? (i := 1) rfl)) (hw _ (List.mem_of_getElem? (i := 2) rfl)) (hw _ (List.mem_of_getElem? (i := 3) rfl)) (hw _ (List.mem_of_getElem? (i := 4) rfl)) (by decide) rfl (by decide) (W := 0) (Nat.le_of_eq rfl) (by decide) (cells' := 0) (slots' := 0) rfl rfl (by decide) (by decide) (argsL := [(.double d208), (.double d211)]) (rest := []) (lenOf own_pd0 rfl) rfl rfl at_78 (pc' := 81) rfl ?_
        rintro _ T217 h217 X217 ⟨rfl, e217⟩
        subst e217
        show own_Goal p e below _ T217 (mkF m 81 #[.val (.int p0), .val (.int p1), .val (.int p2), .val (.double d202), .second, .val (.int (0 : Int32)), .val (.double d208), .second, .val (.double d211), .second, .val (.int (1 : Int32))] [(.int (if 2 * p0.toInt < p1.toInt then 1 else 0 : Int32))])
        refine own_iload X217 rfl at_81 (pc' := 83) rfl ?_
        have c218 : (if 2 * p0.toInt < p1.toInt then 1 else 0 : Int32) = (1 : Int32) := if_pos c216
        refine own_icmpF X217 (own_i_eq c218).2 at_83 (pc' := 86) rfl ?_
        refine own_iconst X217 (v := (1 : Int32)) (by decide) at_86 (pc' := 87) rfl ?_
        refine own_goto X217 at_87 (pc' := 91) (by decide) (by decide) ?_
        exact own_retZ X217 (by decide) at_91 rfl (by decide) (by decide) rfl
      · -- no c216
        refine own_ifT X0 (own_c3_nlt c216).2 at_64 (pc' := 71) (by decide) (by decide) ?_
        refine own_iconst X0 (v := (0 : Int32)) (by decide) at_71 (pc' := 72) rfl ?_
        refine own_istore X0 (Ls' := #[.val (.int p0), .val (.int p1), .val (.int p2), .val (.double d202), .second, .val (.int (0 : Int32)), .val (.double d208), .second, .val (.double d211), .second, .val (.int (0 : Int32))]) rfl at_72 (pc' := 74) rfl ?_
        refine own_dload X0 rfl at_74 (pc' := 76) rfl ?_
        refine own_dload X0 rfl at_76 (pc' := 78) rfl ?_
        refine own_callS X0 (own_sf l Z a0 hw d208 d211 p0.toInt p1.toInt 8 2147483648 2147483648 _ n0 X0.le f208 f211 (by decide) (by decide)) (hw _ (List.mem_of_getElem? (i := 1) rfl)) (hw _ (List.mem_of_getElem? (i := 2) rfl)) (hw _ (List.mem_of_getElem? (i := 3) rfl)) (hw _ (List.mem_of_getElem? (i := 4) rfl)) (by decide) rfl (by decide) (W := 0) (Nat.le_of_eq rfl) (by decide) (cells' := 0) (slots' := 0) rfl rfl (by decide) (by decide) (argsL := [(.double d208), (.double d211)]) (rest := []) (lenOf own_pd0 rfl) rfl rfl at_78 (pc' := 81) rfl ?_
        rintro _ T219 h219 X219 ⟨rfl, e219⟩
        subst e219
        show own_Goal p e below _ T219 (mkF m 81 #[.val (.int p0), .val (.int p1), .val (.int p2), .val (.double d202), .second, .val (.int (0 : Int32)), .val (.double d208), .second, .val (.double d211), .second, .val (.int (0 : Int32))] [(.int (if 2 * p0.toInt < p1.toInt then 1 else 0 : Int32))])
        refine own_iload X219 rfl at_81 (pc' := 83) rfl ?_
        have c220 : (if 2 * p0.toInt < p1.toInt then 1 else 0 : Int32) = (0 : Int32) := if_neg c216
        refine own_icmpF X219 (own_i_eq c220).2 at_83 (pc' := 86) rfl ?_
        refine own_iconst X219 (v := (1 : Int32)) (by decide) at_86 (pc' := 87) rfl ?_
        refine own_goto X219 at_87 (pc' := 91) (by decide) (by decide) ?_
        exact own_retZ X219 (by decide) at_91 rfl (by decide) (by decide) rfl
    · -- no c205
      refine own_ifF X0 (own_z_ne c205).1 at_13 (pc' := 16) rfl ?_
      refine own_iconst X0 (v := (1 : Int32)) (by decide) at_16 (pc' := 17) rfl ?_
      refine own_goto X0 at_17 (pc' := 21) (by decide) (by decide) ?_
      refine own_istore X0 (Ls' := #[.val (.int p0), .val (.int p1), .val (.int p2), .val (.double d202), .second, .val (.int (1 : Int32)), .unset, .unset, .unset, .unset, .unset]) rfl at_21 (pc' := 23) rfl ?_
      refine own_iloadN X0 rfl at_23 (pc' := 24) rfl ?_
      have f221 := own_I.start p0
      obtain ⟨d222, e222⟩ : ∃ v, FP.i2d p0 = v := ⟨_, rfl⟩
      have f222 : own_D 0 2147483648 p0.toInt d222 := own_D.i2d f221 e222
      refine own_i2d X0 e222 at_24 (pc' := 25) rfl ?_
      refine own_dloadN X0 rfl at_25 (pc' := 26) rfl ?_
      obtain ⟨d223, e223⟩ : ∃ v, FP.ddiv d222 d202 = v := ⟨_, rfl⟩
      have f223 : own_D 8 2147483648 p0.toInt d223 := own_D.divp (r := 8) (P := 256) f222 f202 (by decide) e223 (by decide) (by decide) (by decide)
      refine own_ddiv X0 e223 f223.nn at_26 (pc' := 27) rfl ?_
      refine own_dstore X0 (Ls' := #[.val (.int p0), .val (.int p1), .val (.int p2), .val (.double d202), .second, .val (.int (1 : Int32)), .val (.double d223), .second, .unset, .unset, .unset]) rfl at_27 (pc' := 29) rfl ?_
      refine own_iload X0 rfl at_29 (pc' := 31) rfl ?_
      refine own_ifF X0 (by decide) at_31 (pc' := 34) rfl ?_
      refine own_ldcD X0 (v := (9218868437227405312 : UInt64)) (hw _ (List.mem_of_getElem? (i := 6) rfl)) at_34 (pc' := 37) rfl ?_
      refine own_goto X0 at_37 (pc' := 44) (by decide) (by decide) ?_
      refine own_dstore X0 (Ls' := #[.val (.int p0), .val (.int p1), .val (.int p2), .val (.double d202), .second, .val (.int (1 : Int32)), .val (.double d223), .second, .val (.double (9218868437227405312 : UInt64)), .second, .unset]) rfl at_44 (pc' := 46) rfl ?_
      refine own_iload X0 rfl at_46 (pc' := 48) rfl ?_
      refine own_ifF X0 (by decide) at_48 (pc' := 51) rfl ?_
      refine own_iconst X0 (v := (1 : Int32)) (by decide) at_51 (pc' := 52) rfl ?_
      refine own_goto X0 at_52 (pc' := 72) (by decide) (by decide) ?_
      refine own_istore X0 (Ls' := #[.val (.int p0), .val (.int p1), .val (.int p2), .val (.double d202), .second, .val (.int (1 : Int32)), .val (.double d223), .second, .val (.double (9218868437227405312 : UInt64)), .second, .val (.int (1 : Int32))]) rfl at_72 (pc' := 74) rfl ?_
      refine own_dload X0 rfl at_74 (pc' := 76) rfl ?_
      refine own_dload X0 rfl at_76 (pc' := 78) rfl ?_
      refine own_callS X0 (own_si l Z a0 hw d223 p0.toInt 8 2147483648 _ n0 X0.le f223) (hw _ (List.mem_of_getElem? (i := 1) rfl)) (hw _ (List.mem_of_getElem? (i := 2) rfl)) (hw _ (List.mem_of_getElem? (i := 3) rfl)) (hw _ (List.mem_of_getElem? (i := 4) rfl)) (by decide) rfl (by decide) (W := 0) (Nat.le_of_eq rfl) (by decide) (cells' := 0) (slots' := 0) rfl rfl (by decide) (by decide) (argsL := [(.double d223), (.double (9218868437227405312 : UInt64))]) (rest := []) (lenOf own_pd0 rfl) rfl rfl at_78 (pc' := 81) rfl ?_
      rintro _ T224 h224 X224 ⟨rfl, e224⟩
      subst e224
      show own_Goal p e below _ T224 (mkF m 81 #[.val (.int p0), .val (.int p1), .val (.int p2), .val (.double d202), .second, .val (.int (1 : Int32)), .val (.double d223), .second, .val (.double (9218868437227405312 : UInt64)), .second, .val (.int (1 : Int32))] [(.int (1 : Int32))])
      refine own_iload X224 rfl at_81 (pc' := 83) rfl ?_
      refine own_icmpF X224 (by decide) at_83 (pc' := 86) rfl ?_
      refine own_iconst X224 (v := (1 : Int32)) (by decide) at_86 (pc' := 87) rfl ?_
      refine own_goto X224 at_87 (pc' := 91) (by decide) (by decide) ?_
      exact own_retZ X224 (by decide) at_91 rfl (by decide) (by decide) rfl
  · -- 9
    refine own_ishl X0 (v := (512 : Int32)) (by decide) at_5 (pc' := 6) rfl ?_
    have f225 : own_I 512 (512 : Int) (512 : Int32) := own_I.lit (by decide) (by decide)
    obtain ⟨d226, e226⟩ : ∃ v, FP.i2d (512 : Int32) = v := ⟨_, rfl⟩
    have f226 : own_D 0 512 (512 : Int) d226 := own_D.i2d f225 e226
    refine own_i2d X0 e226 at_6 (pc' := 7) rfl ?_
    refine own_dstoreN X0 (Ls' := #[.val (.int p0), .val (.int p1), .val (.int p2), .val (.double d226), .second, .unset, .unset, .unset, .unset, .unset, .unset]) rfl at_7 (pc' := 8) rfl ?_
    refine own_iloadN X0 rfl at_8 (pc' := 9) rfl ?_
    refine own_iconst X0 (v := (4 : Int32)) (by decide) at_9 (pc' := 10) rfl ?_
    obtain ⟨i227, e227⟩ : ∃ v, XT.ushr p2 (4 : Int32) = v := ⟨_, rfl⟩
    refine own_iushr X0 e227 at_10 (pc' := 11) rfl ?_
    refine own_iconst X0 (v := (1 : Int32)) (by decide) at_11 (pc' := 12) rfl ?_
    obtain ⟨i228, e228⟩ : ∃ v, i227 &&& (1 : Int32) = v := ⟨_, rfl⟩
    have f228 : own_I 1 i228.toInt i228 := own_I.and e228 (by decide)
    have nn228 := own_and_nn (M := 1) e228 (by decide)
    refine own_iand X0 e228 at_12 (pc' := 13) rfl ?_
    by_cases c229 : i228 = 0
    · -- yes c229
      refine own_ifT X0 (own_z_eq c229).1 at_13 (pc' := 20) (by decide) (by decide) ?_
      refine own_iconst X0 (v := (0 : Int32)) (by decide) at_20 (pc' := 21) rfl ?_
      refine own_istore X0 (Ls' := #[.val (.int p0), .val (.int p1), .val (.int p2), .val (.double d226), .second, .val (.int (0 : Int32)), .unset, .unset, .unset, .unset, .unset]) rfl at_21 (pc' := 23) rfl ?_
      refine own_iloadN X0 rfl at_23 (pc' := 24) rfl ?_
      have f230 := own_I.start p0
      obtain ⟨d231, e231⟩ : ∃ v, FP.i2d p0 = v := ⟨_, rfl⟩
      have f231 : own_D 0 2147483648 p0.toInt d231 := own_D.i2d f230 e231
      refine own_i2d X0 e231 at_24 (pc' := 25) rfl ?_
      refine own_dloadN X0 rfl at_25 (pc' := 26) rfl ?_
      obtain ⟨d232, e232⟩ : ∃ v, FP.ddiv d231 d226 = v := ⟨_, rfl⟩
      have f232 : own_D 9 2147483648 p0.toInt d232 := own_D.divp (r := 9) (P := 512) f231 f226 (by decide) e232 (by decide) (by decide) (by decide)
      refine own_ddiv X0 e232 f232.nn at_26 (pc' := 27) rfl ?_
      refine own_dstore X0 (Ls' := #[.val (.int p0), .val (.int p1), .val (.int p2), .val (.double d226), .second, .val (.int (0 : Int32)), .val (.double d232), .second, .unset, .unset, .unset]) rfl at_27 (pc' := 29) rfl ?_
      refine own_iload X0 rfl at_29 (pc' := 31) rfl ?_
      refine own_ifT X0 (by decide) at_31 (pc' := 40) (by decide) (by decide) ?_
      refine own_iloadN X0 rfl at_40 (pc' := 41) rfl ?_
      have f233 := own_I.start p1
      obtain ⟨d234, e234⟩ : ∃ v, FP.i2d p1 = v := ⟨_, rfl⟩
      have f234 : own_D 0 2147483648 p1.toInt d234 := own_D.i2d f233 e234
      refine own_i2d X0 e234 at_41 (pc' := 42) rfl ?_
      refine own_dloadN X0 rfl at_42 (pc' := 43) rfl ?_
      obtain ⟨d235, e235⟩ : ∃ v, FP.ddiv d234 d226 = v := ⟨_, rfl⟩
      have f235 : own_D 9 2147483648 p1.toInt d235 := own_D.divp (r := 9) (P := 512) f234 f226 (by decide) e235 (by decide) (by decide) (by decide)
      refine own_ddiv X0 e235 f235.nn at_43 (pc' := 44) rfl ?_
      refine own_dstore X0 (Ls' := #[.val (.int p0), .val (.int p1), .val (.int p2), .val (.double d226), .second, .val (.int (0 : Int32)), .val (.double d232), .second, .val (.double d235), .second, .unset]) rfl at_44 (pc' := 46) rfl ?_
      refine own_iload X0 rfl at_46 (pc' := 48) rfl ?_
      refine own_ifT X0 (by decide) at_48 (pc' := 55) (by decide) (by decide) ?_
      refine own_ldcJ X0 (v := (2 : Int64)) (hw _ (List.mem_of_getElem? (i := 0) rfl)) at_55 (pc' := 58) rfl ?_
      refine own_iloadN X0 rfl at_58 (pc' := 59) rfl ?_
      obtain ⟨j236, e236⟩ : ∃ v, p0.toInt64 = v := ⟨_, rfl⟩
      have f236 : own_L 2147483648 p0.toInt j236 := own_L.ofI f230 e236
      refine own_i2l X0 e236 at_59 (pc' := 60) rfl ?_
      obtain ⟨j237, e237⟩ : ∃ v, (2 : Int64) * j236 = v := ⟨_, rfl⟩
      have f238 : own_L 2 (2 : Int) (2 : Int64) := own_L.lit (by decide) (by decide)
      have f237 : own_L 4294967296 ((2 : Int) * p0.toInt) j237 := f238.mul f236 e237 (by decide) (by decide)
      refine own_lmul X0 e237 at_60 (pc' := 61) rfl ?_
      refine own_iloadN X0 rfl at_61 (pc' := 62) rfl ?_
      obtain ⟨j239, e239⟩ : ∃ v, p1.toInt64 = v := ⟨_, rfl⟩
      have f239 : own_L 2147483648 p1.toInt j239 := own_L.ofI f233 e239
      refine own_i2l X0 e239 at_62 (pc' := 63) rfl ?_
      refine own_lcmp X0 (f237.cmp f239) at_63 (pc' := 64) rfl ?_
      by_cases c240 : ((2 : Int) * p0.toInt) < p1.toInt
      · -- yes c240
        refine own_ifF X0 (own_c3_lt c240).2 at_64 (pc' := 67) rfl ?_
        refine own_iconst X0 (v := (1 : Int32)) (by decide) at_67 (pc' := 68) rfl ?_
        refine own_goto X0 at_68 (pc' := 72) (by decide) (by decide) ?_
        refine own_istore X0 (Ls' := #[.val (.int p0), .val (.int p1), .val (.int p2), .val (.double d226), .second, .val (.int (0 : Int32)), .val (.double d232), .second, .val (.double d235), .second, .val (.int (1 : Int32))]) rfl at_72 (pc' := 74) rfl ?_
        refine own_dload X0 rfl at_74 (pc' := 76) rfl ?_
        refine own_dload X0 rfl at_76 (pc' := 78) rfl ?_
        refine own_callS X0 (own_sf l Z a0 hw d232 d235 p0.toInt p1.toInt 9 2147483648 2147483648 _ n0 X0.le f232 f235 (by decide) (by decide)) (hw _ (List.mem_of_getElem? (i := 1) rfl)) (hw _ (List.mem_of_getElem? (i := 2) rfl)) (hw _ (List.mem_of_getElem? (i := 3) rfl)) (hw _ (List.mem_of_getElem? (i := 4) rfl)) (by decide) rfl (by decide) (W := 0) (Nat.le_of_eq rfl) (by decide) (cells' := 0) (slots' := 0) rfl rfl (by decide) (by decide) (argsL := [(.double d232), (.double d235)]) (rest := []) (lenOf own_pd0 rfl) rfl rfl at_78 (pc' := 81) rfl ?_
        rintro _ T241 h241 X241 ⟨rfl, e241⟩
        subst e241
        show own_Goal p e below _ T241 (mkF m 81 #[.val (.int p0), .val (.int p1), .val (.int p2), .val (.double d226), .second, .val (.int (0 : Int32)), .val (.double d232), .second, .val (.double d235), .second, .val (.int (1 : Int32))] [(.int (if 2 * p0.toInt < p1.toInt then 1 else 0 : Int32))])
        refine own_iload X241 rfl at_81 (pc' := 83) rfl ?_
        have c242 : (if 2 * p0.toInt < p1.toInt then 1 else 0 : Int32) = (1 : Int32) := if_pos c240
        refine own_icmpF X241 (own_i_eq c242).2 at_83 (pc' := 86) rfl ?_
        refine own_iconst X241 (v := (1 : Int32)) (by decide) at_86 (pc' := 87) rfl ?_
        refine own_goto X241 at_87 (pc' := 91) (by decide) (by decide) ?_
        exact own_retZ X241 (by decide) at_91 rfl (by decide) (by decide) rfl
      · -- no c240
        refine own_ifT X0 (own_c3_nlt c240).2 at_64 (pc' := 71) (by decide) (by decide) ?_
        refine own_iconst X0 (v := (0 : Int32)) (by decide) at_71 (pc' := 72) rfl ?_
        refine own_istore X0 (Ls' := #[.val (.int p0), .val (.int p1), .val (.int p2), .val (.double d226), .second, .val (.int (0 : Int32)), .val (.double d232), .second, .val (.double d235), .second, .val (.int (0 : Int32))]) rfl at_72 (pc' := 74) rfl ?_
        refine own_dload X0 rfl at_74 (pc' := 76) rfl ?_
        refine own_dload X0 rfl at_76 (pc' := 78) rfl ?_
        refine own_callS X0 (own_sf l Z a0 hw d232 d235 p0.toInt p1.toInt 9 2147483648 2147483648 _ n0 X0.le f232 f235 (by decide) (by decide)) (hw _ (List.mem_of_getElem? (i := 1) rfl)) (hw _ (List.mem_of_getElem? (i := 2) rfl)) (hw _ (List.mem_of_getElem? (i := 3) rfl)) (hw _ (List.mem_of_getElem? (i := 4) rfl)) (by decide) rfl (by decide) (W := 0) (Nat.le_of_eq rfl) (by decide) (cells' := 0) (slots' := 0) rfl rfl (by decide) (by decide) (argsL := [(.double d232), (.double d235)]) (rest := []) (lenOf own_pd0 rfl) rfl rfl at_78 (pc' := 81) rfl ?_
        rintro _ T243 h243 X243 ⟨rfl, e243⟩
        subst e243
        show own_Goal p e below _ T243 (mkF m 81 #[.val (.int p0), .val (.int p1), .val (.int p2), .val (.double d226), .second, .val (.int (0 : Int32)), .val (.double d232), .second, .val (.double d235), .second, .val (.int (0 : Int32))] [(.int (if 2 * p0.toInt < p1.toInt then 1 else 0 : Int32))])
        refine own_iload X243 rfl at_81 (pc' := 83) rfl ?_
        have c244 : (if 2 * p0.toInt < p1.toInt then 1 else 0 : Int32) = (0 : Int32) := if_neg c240
        refine own_icmpF X243 (own_i_eq c244).2 at_83 (pc' := 86) rfl ?_
        refine own_iconst X243 (v := (1 : Int32)) (by decide) at_86 (pc' := 87) rfl ?_
        refine own_goto X243 at_87 (pc' := 91) (by decide) (by decide) ?_
        exact own_retZ X243 (by decide) at_91 rfl (by decide) (by decide) rfl
    · -- no c229
      refine own_ifF X0 (own_z_ne c229).1 at_13 (pc' := 16) rfl ?_
      refine own_iconst X0 (v := (1 : Int32)) (by decide) at_16 (pc' := 17) rfl ?_
      refine own_goto X0 at_17 (pc' := 21) (by decide) (by decide) ?_
      refine own_istore X0 (Ls' := #[.val (.int p0), .val (.int p1), .val (.int p2), .val (.double d226), .second, .val (.int (1 : Int32)), .unset, .unset, .unset, .unset, .unset]) rfl at_21 (pc' := 23) rfl ?_
      refine own_iloadN X0 rfl at_23 (pc' := 24) rfl ?_
      have f245 := own_I.start p0
      obtain ⟨d246, e246⟩ : ∃ v, FP.i2d p0 = v := ⟨_, rfl⟩
      have f246 : own_D 0 2147483648 p0.toInt d246 := own_D.i2d f245 e246
      refine own_i2d X0 e246 at_24 (pc' := 25) rfl ?_
      refine own_dloadN X0 rfl at_25 (pc' := 26) rfl ?_
      obtain ⟨d247, e247⟩ : ∃ v, FP.ddiv d246 d226 = v := ⟨_, rfl⟩
      have f247 : own_D 9 2147483648 p0.toInt d247 := own_D.divp (r := 9) (P := 512) f246 f226 (by decide) e247 (by decide) (by decide) (by decide)
      refine own_ddiv X0 e247 f247.nn at_26 (pc' := 27) rfl ?_
      refine own_dstore X0 (Ls' := #[.val (.int p0), .val (.int p1), .val (.int p2), .val (.double d226), .second, .val (.int (1 : Int32)), .val (.double d247), .second, .unset, .unset, .unset]) rfl at_27 (pc' := 29) rfl ?_
      refine own_iload X0 rfl at_29 (pc' := 31) rfl ?_
      refine own_ifF X0 (by decide) at_31 (pc' := 34) rfl ?_
      refine own_ldcD X0 (v := (9218868437227405312 : UInt64)) (hw _ (List.mem_of_getElem? (i := 6) rfl)) at_34 (pc' := 37) rfl ?_
      refine own_goto X0 at_37 (pc' := 44) (by decide) (by decide) ?_
      refine own_dstore X0 (Ls' := #[.val (.int p0), .val (.int p1), .val (.int p2), .val (.double d226), .second, .val (.int (1 : Int32)), .val (.double d247), .second, .val (.double (9218868437227405312 : UInt64)), .second, .unset]) rfl at_44 (pc' := 46) rfl ?_
      refine own_iload X0 rfl at_46 (pc' := 48) rfl ?_
      refine own_ifF X0 (by decide) at_48 (pc' := 51) rfl ?_
      refine own_iconst X0 (v := (1 : Int32)) (by decide) at_51 (pc' := 52) rfl ?_
      refine own_goto X0 at_52 (pc' := 72) (by decide) (by decide) ?_
      refine own_istore X0 (Ls' := #[.val (.int p0), .val (.int p1), .val (.int p2), .val (.double d226), .second, .val (.int (1 : Int32)), .val (.double d247), .second, .val (.double (9218868437227405312 : UInt64)), .second, .val (.int (1 : Int32))]) rfl at_72 (pc' := 74) rfl ?_
      refine own_dload X0 rfl at_74 (pc' := 76) rfl ?_
      refine own_dload X0 rfl at_76 (pc' := 78) rfl ?_
      refine own_callS X0 (own_si l Z a0 hw d247 p0.toInt 9 2147483648 _ n0 X0.le f247) (hw _ (List.mem_of_getElem? (i := 1) rfl)) (hw _ (List.mem_of_getElem? (i := 2) rfl)) (hw _ (List.mem_of_getElem? (i := 3) rfl)) (hw _ (List.mem_of_getElem? (i := 4) rfl)) (by decide) rfl (by decide) (W := 0) (Nat.le_of_eq rfl) (by decide) (cells' := 0) (slots' := 0) rfl rfl (by decide) (by decide) (argsL := [(.double d247), (.double (9218868437227405312 : UInt64))]) (rest := []) (lenOf own_pd0 rfl) rfl rfl at_78 (pc' := 81) rfl ?_
      rintro _ T248 h248 X248 ⟨rfl, e248⟩
      subst e248
      show own_Goal p e below _ T248 (mkF m 81 #[.val (.int p0), .val (.int p1), .val (.int p2), .val (.double d226), .second, .val (.int (1 : Int32)), .val (.double d247), .second, .val (.double (9218868437227405312 : UInt64)), .second, .val (.int (1 : Int32))] [(.int (1 : Int32))])
      refine own_iload X248 rfl at_81 (pc' := 83) rfl ?_
      refine own_icmpF X248 (by decide) at_83 (pc' := 86) rfl ?_
      refine own_iconst X248 (v := (1 : Int32)) (by decide) at_86 (pc' := 87) rfl ?_
      refine own_goto X248 at_87 (pc' := 91) (by decide) (by decide) ?_
      exact own_retZ X248 (by decide) at_91 rfl (by decide) (by decide) rfl
  · -- 10
    refine own_ishl X0 (v := (1024 : Int32)) (by decide) at_5 (pc' := 6) rfl ?_
    have f249 : own_I 1024 (1024 : Int) (1024 : Int32) := own_I.lit (by decide) (by decide)
    obtain ⟨d250, e250⟩ : ∃ v, FP.i2d (1024 : Int32) = v := ⟨_, rfl⟩
    have f250 : own_D 0 1024 (1024 : Int) d250 := own_D.i2d f249 e250
    refine own_i2d X0 e250 at_6 (pc' := 7) rfl ?_
    refine own_dstoreN X0 (Ls' := #[.val (.int p0), .val (.int p1), .val (.int p2), .val (.double d250), .second, .unset, .unset, .unset, .unset, .unset, .unset]) rfl at_7 (pc' := 8) rfl ?_
    refine own_iloadN X0 rfl at_8 (pc' := 9) rfl ?_
    refine own_iconst X0 (v := (4 : Int32)) (by decide) at_9 (pc' := 10) rfl ?_
    obtain ⟨i251, e251⟩ : ∃ v, XT.ushr p2 (4 : Int32) = v := ⟨_, rfl⟩
    refine own_iushr X0 e251 at_10 (pc' := 11) rfl ?_
    refine own_iconst X0 (v := (1 : Int32)) (by decide) at_11 (pc' := 12) rfl ?_
    obtain ⟨i252, e252⟩ : ∃ v, i251 &&& (1 : Int32) = v := ⟨_, rfl⟩
    have f252 : own_I 1 i252.toInt i252 := own_I.and e252 (by decide)
    have nn252 := own_and_nn (M := 1) e252 (by decide)
    refine own_iand X0 e252 at_12 (pc' := 13) rfl ?_
    by_cases c253 : i252 = 0
    · -- yes c253
      refine own_ifT X0 (own_z_eq c253).1 at_13 (pc' := 20) (by decide) (by decide) ?_
      refine own_iconst X0 (v := (0 : Int32)) (by decide) at_20 (pc' := 21) rfl ?_
      refine own_istore X0 (Ls' := #[.val (.int p0), .val (.int p1), .val (.int p2), .val (.double d250), .second, .val (.int (0 : Int32)), .unset, .unset, .unset, .unset, .unset]) rfl at_21 (pc' := 23) rfl ?_
      refine own_iloadN X0 rfl at_23 (pc' := 24) rfl ?_
      have f254 := own_I.start p0
      obtain ⟨d255, e255⟩ : ∃ v, FP.i2d p0 = v := ⟨_, rfl⟩
      have f255 : own_D 0 2147483648 p0.toInt d255 := own_D.i2d f254 e255
      refine own_i2d X0 e255 at_24 (pc' := 25) rfl ?_
      refine own_dloadN X0 rfl at_25 (pc' := 26) rfl ?_
      obtain ⟨d256, e256⟩ : ∃ v, FP.ddiv d255 d250 = v := ⟨_, rfl⟩
      have f256 : own_D 10 2147483648 p0.toInt d256 := own_D.divp (r := 10) (P := 1024) f255 f250 (by decide) e256 (by decide) (by decide) (by decide)
      refine own_ddiv X0 e256 f256.nn at_26 (pc' := 27) rfl ?_
      refine own_dstore X0 (Ls' := #[.val (.int p0), .val (.int p1), .val (.int p2), .val (.double d250), .second, .val (.int (0 : Int32)), .val (.double d256), .second, .unset, .unset, .unset]) rfl at_27 (pc' := 29) rfl ?_
      refine own_iload X0 rfl at_29 (pc' := 31) rfl ?_
      refine own_ifT X0 (by decide) at_31 (pc' := 40) (by decide) (by decide) ?_
      refine own_iloadN X0 rfl at_40 (pc' := 41) rfl ?_
      have f257 := own_I.start p1
      obtain ⟨d258, e258⟩ : ∃ v, FP.i2d p1 = v := ⟨_, rfl⟩
      have f258 : own_D 0 2147483648 p1.toInt d258 := own_D.i2d f257 e258
      refine own_i2d X0 e258 at_41 (pc' := 42) rfl ?_
      refine own_dloadN X0 rfl at_42 (pc' := 43) rfl ?_
      obtain ⟨d259, e259⟩ : ∃ v, FP.ddiv d258 d250 = v := ⟨_, rfl⟩
      have f259 : own_D 10 2147483648 p1.toInt d259 := own_D.divp (r := 10) (P := 1024) f258 f250 (by decide) e259 (by decide) (by decide) (by decide)
      refine own_ddiv X0 e259 f259.nn at_43 (pc' := 44) rfl ?_
      refine own_dstore X0 (Ls' := #[.val (.int p0), .val (.int p1), .val (.int p2), .val (.double d250), .second, .val (.int (0 : Int32)), .val (.double d256), .second, .val (.double d259), .second, .unset]) rfl at_44 (pc' := 46) rfl ?_
      refine own_iload X0 rfl at_46 (pc' := 48) rfl ?_
      refine own_ifT X0 (by decide) at_48 (pc' := 55) (by decide) (by decide) ?_
      refine own_ldcJ X0 (v := (2 : Int64)) (hw _ (List.mem_of_getElem? (i := 0) rfl)) at_55 (pc' := 58) rfl ?_
      refine own_iloadN X0 rfl at_58 (pc' := 59) rfl ?_
      obtain ⟨j260, e260⟩ : ∃ v, p0.toInt64 = v := ⟨_, rfl⟩
      have f260 : own_L 2147483648 p0.toInt j260 := own_L.ofI f254 e260
      refine own_i2l X0 e260 at_59 (pc' := 60) rfl ?_
      obtain ⟨j261, e261⟩ : ∃ v, (2 : Int64) * j260 = v := ⟨_, rfl⟩
      have f262 : own_L 2 (2 : Int) (2 : Int64) := own_L.lit (by decide) (by decide)
      have f261 : own_L 4294967296 ((2 : Int) * p0.toInt) j261 := f262.mul f260 e261 (by decide) (by decide)
      refine own_lmul X0 e261 at_60 (pc' := 61) rfl ?_
      refine own_iloadN X0 rfl at_61 (pc' := 62) rfl ?_
      obtain ⟨j263, e263⟩ : ∃ v, p1.toInt64 = v := ⟨_, rfl⟩
      have f263 : own_L 2147483648 p1.toInt j263 := own_L.ofI f257 e263
      refine own_i2l X0 e263 at_62 (pc' := 63) rfl ?_
      refine own_lcmp X0 (f261.cmp f263) at_63 (pc' := 64) rfl ?_
      by_cases c264 : ((2 : Int) * p0.toInt) < p1.toInt
      · -- yes c264
        refine own_ifF X0 (own_c3_lt c264).2 at_64 (pc' := 67) rfl ?_
        refine own_iconst X0 (v := (1 : Int32)) (by decide) at_67 (pc' := 68) rfl ?_
        refine own_goto X0 at_68 (pc' := 72) (by decide) (by decide) ?_
        refine own_istore X0 (Ls' := #[.val (.int p0), .val (.int p1), .val (.int p2), .val (.double d250), .second, .val (.int (0 : Int32)), .val (.double d256), .second, .val (.double d259), .second, .val (.int (1 : Int32))]) rfl at_72 (pc' := 74) rfl ?_
        refine own_dload X0 rfl at_74 (pc' := 76) rfl ?_
        refine own_dload X0 rfl at_76 (pc' := 78) rfl ?_
        refine own_callS X0 (own_sf l Z a0 hw d256 d259 p0.toInt p1.toInt 10 2147483648 2147483648 _ n0 X0.le f256 f259 (by decide) (by decide)) (hw _ (List.mem_of_getElem? (i := 1) rfl)) (hw _ (List.mem_of_getElem? (i := 2) rfl)) (hw _ (List.mem_of_getElem? (i := 3) rfl)) (hw _ (List.mem_of_getElem? (i := 4) rfl)) (by decide) rfl (by decide) (W := 0) (Nat.le_of_eq rfl) (by decide) (cells' := 0) (slots' := 0) rfl rfl (by decide) (by decide) (argsL := [(.double d256), (.double d259)]) (rest := []) (lenOf own_pd0 rfl) rfl rfl at_78 (pc' := 81) rfl ?_
        rintro _ T265 h265 X265 ⟨rfl, e265⟩
        subst e265
        show own_Goal p e below _ T265 (mkF m 81 #[.val (.int p0), .val (.int p1), .val (.int p2), .val (.double d250), .second, .val (.int (0 : Int32)), .val (.double d256), .second, .val (.double d259), .second, .val (.int (1 : Int32))] [(.int (if 2 * p0.toInt < p1.toInt then 1 else 0 : Int32))])
        refine own_iload X265 rfl at_81 (pc' := 83) rfl ?_
        have c266 : (if 2 * p0.toInt < p1.toInt then 1 else 0 : Int32) = (1 : Int32) := if_pos c264
        refine own_icmpF X265 (own_i_eq c266).2 at_83 (pc' := 86) rfl ?_
        refine own_iconst X265 (v := (1 : Int32)) (by decide) at_86 (pc' := 87) rfl ?_
        refine own_goto X265 at_87 (pc' := 91) (by decide) (by decide) ?_
        exact own_retZ X265 (by decide) at_91 rfl (by decide) (by decide) rfl
      · -- no c264
        refine own_ifT X0 (own_c3_nlt c264).2 at_64 (pc' := 71) (by decide) (by decide) ?_
        refine own_iconst X0 (v := (0 : Int32)) (by decide) at_71 (pc' := 72) rfl ?_
        refine own_istore X0 (Ls' := #[.val (.int p0), .val (.int p1), .val (.int p2), .val (.double d250), .second, .val (.int (0 : Int32)), .val (.double d256), .second, .val (.double d259), .second, .val (.int (0 : Int32))]) rfl at_72 (pc' := 74) rfl ?_
        refine own_dload X0 rfl at_74 (pc' := 76) rfl ?_
        refine own_dload X0 rfl at_76 (pc' := 78) rfl ?_
        refine own_callS X0 (own_sf l Z a0 hw d256 d259 p0.toInt p1.toInt 10 2147483648 2147483648 _ n0 X0.le f256 f259 (by decide) (by decide)) (hw _ (List.mem_of_getElem? (i := 1) rfl)) (hw _ (List.mem_of_getElem? (i := 2) rfl)) (hw _ (List.mem_of_getElem? (i := 3) rfl)) (hw _ (List.mem_of_getElem? (i := 4) rfl)) (by decide) rfl (by decide) (W := 0) (Nat.le_of_eq rfl) (by decide) (cells' := 0) (slots' := 0) rfl rfl (by decide) (by decide) (argsL := [(.double d256), (.double d259)]) (rest := []) (lenOf own_pd0 rfl) rfl rfl at_78 (pc' := 81) rfl ?_
        rintro _ T267 h267 X267 ⟨rfl, e267⟩
        subst e267
        show own_Goal p e below _ T267 (mkF m 81 #[.val (.int p0), .val (.int p1), .val (.int p2), .val (.double d250), .second, .val (.int (0 : Int32)), .val (.double d256), .second, .val (.double d259), .second, .val (.int (0 : Int32))] [(.int (if 2 * p0.toInt < p1.toInt then 1 else 0 : Int32))])
        refine own_iload X267 rfl at_81 (pc' := 83) rfl ?_
        have c268 : (if 2 * p0.toInt < p1.toInt then 1 else 0 : Int32) = (0 : Int32) := if_neg c264
        refine own_icmpF X267 (own_i_eq c268).2 at_83 (pc' := 86) rfl ?_
        refine own_iconst X267 (v := (1 : Int32)) (by decide) at_86 (pc' := 87) rfl ?_
        refine own_goto X267 at_87 (pc' := 91) (by decide) (by decide) ?_
        exact own_retZ X267 (by decide) at_91 rfl (by decide) (by decide) rfl
    · -- no c253
      refine own_ifF X0 (own_z_ne c253).1 at_13 (pc' := 16) rfl ?_
      refine own_iconst X0 (v := (1 : Int32)) (by decide) at_16 (pc' := 17) rfl ?_
      refine own_goto X0 at_17 (pc' := 21) (by decide) (by decide) ?_
      refine own_istore X0 (Ls' := #[.val (.int p0), .val (.int p1), .val (.int p2), .val (.double d250), .second, .val (.int (1 : Int32)), .unset, .unset, .unset, .unset, .unset]) rfl at_21 (pc' := 23) rfl ?_
      refine own_iloadN X0 rfl at_23 (pc' := 24) rfl ?_
      have f269 := own_I.start p0
      obtain ⟨d270, e270⟩ : ∃ v, FP.i2d p0 = v := ⟨_, rfl⟩
      have f270 : own_D 0 2147483648 p0.toInt d270 := own_D.i2d f269 e270
      refine own_i2d X0 e270 at_24 (pc' := 25) rfl ?_
      refine own_dloadN X0 rfl at_25 (pc' := 26) rfl ?_
      obtain ⟨d271, e271⟩ : ∃ v, FP.ddiv d270 d250 = v := ⟨_, rfl⟩
      have f271 : own_D 10 2147483648 p0.toInt d271 := own_D.divp (r := 10) (P := 1024) f270 f250 (by decide) e271 (by decide) (by decide) (by decide)
      refine own_ddiv X0 e271 f271.nn at_26 (pc' := 27) rfl ?_
      refine own_dstore X0 (Ls' := #[.val (.int p0), .val (.int p1), .val (.int p2), .val (.double d250), .second, .val (.int (1 : Int32)), .val (.double d271), .second, .unset, .unset, .unset]) rfl at_27 (pc' := 29) rfl ?_
      refine own_iload X0 rfl at_29 (pc' := 31) rfl ?_
      refine own_ifF X0 (by decide) at_31 (pc' := 34) rfl ?_
      refine own_ldcD X0 (v := (9218868437227405312 : UInt64)) (hw _ (List.mem_of_getElem? (i := 6) rfl)) at_34 (pc' := 37) rfl ?_
      refine own_goto X0 at_37 (pc' := 44) (by decide) (by decide) ?_
      refine own_dstore X0 (Ls' := #[.val (.int p0), .val (.int p1), .val (.int p2), .val (.double d250), .second, .val (.int (1 : Int32)), .val (.double d271), .second, .val (.double (9218868437227405312 : UInt64)), .second, .unset]) rfl at_44 (pc' := 46) rfl ?_
      refine own_iload X0 rfl at_46 (pc' := 48) rfl ?_
      refine own_ifF X0 (by decide) at_48 (pc' := 51) rfl ?_
      refine own_iconst X0 (v := (1 : Int32)) (by decide) at_51 (pc' := 52) rfl ?_
      refine own_goto X0 at_52 (pc' := 72) (by decide) (by decide) ?_
      refine own_istore X0 (Ls' := #[.val (.int p0), .val (.int p1), .val (.int p2), .val (.double d250), .second, .val (.int (1 : Int32)), .val (.double d271), .second, .val (.double (9218868437227405312 : UInt64)), .second, .val (.int (1 : Int32))]) rfl at_72 (pc' := 74) rfl ?_
      refine own_dload X0 rfl at_74 (pc' := 76) rfl ?_
      refine own_dload X0 rfl at_76 (pc' := 78) rfl ?_
      refine own_callS X0 (own_si l Z a0 hw d271 p0.toInt 10 2147483648 _ n0 X0.le f271) (hw _ (List.mem_of_getElem? (i := 1) rfl)) (hw _ (List.mem_of_getElem? (i := 2) rfl)) (hw _ (List.mem_of_getElem? (i := 3) rfl)) (hw _ (List.mem_of_getElem? (i := 4) rfl)) (by decide) rfl (by decide) (W := 0) (Nat.le_of_eq rfl) (by decide) (cells' := 0) (slots' := 0) rfl rfl (by decide) (by decide) (argsL := [(.double d271), (.double (9218868437227405312 : UInt64))]) (rest := []) (lenOf own_pd0 rfl) rfl rfl at_78 (pc' := 81) rfl ?_
      rintro _ T272 h272 X272 ⟨rfl, e272⟩
      subst e272
      show own_Goal p e below _ T272 (mkF m 81 #[.val (.int p0), .val (.int p1), .val (.int p2), .val (.double d250), .second, .val (.int (1 : Int32)), .val (.double d271), .second, .val (.double (9218868437227405312 : UInt64)), .second, .val (.int (1 : Int32))] [(.int (1 : Int32))])
      refine own_iload X272 rfl at_81 (pc' := 83) rfl ?_
      refine own_icmpF X272 (by decide) at_83 (pc' := 86) rfl ?_
      refine own_iconst X272 (v := (1 : Int32)) (by decide) at_86 (pc' := 87) rfl ?_
      refine own_goto X272 at_87 (pc' := 91) (by decide) (by decide) ?_
      exact own_retZ X272 (by decide) at_91 rfl (by decide) (by decide) rfl
  · -- 11
    refine own_ishl X0 (v := (2048 : Int32)) (by decide) at_5 (pc' := 6) rfl ?_
    have f273 : own_I 2048 (2048 : Int) (2048 : Int32) := own_I.lit (by decide) (by decide)
    obtain ⟨d274, e274⟩ : ∃ v, FP.i2d (2048 : Int32) = v := ⟨_, rfl⟩
    have f274 : own_D 0 2048 (2048 : Int) d274 := own_D.i2d f273 e274
    refine own_i2d X0 e274 at_6 (pc' := 7) rfl ?_
    refine own_dstoreN X0 (Ls' := #[.val (.int p0), .val (.int p1), .val (.int p2), .val (.double d274), .second, .unset, .unset, .unset, .unset, .unset, .unset]) rfl at_7 (pc' := 8) rfl ?_
    refine own_iloadN X0 rfl at_8 (pc' := 9) rfl ?_
    refine own_iconst X0 (v := (4 : Int32)) (by decide) at_9 (pc' := 10) rfl ?_
    obtain ⟨i275, e275⟩ : ∃ v, XT.ushr p2 (4 : Int32) = v := ⟨_, rfl⟩
    refine own_iushr X0 e275 at_10 (pc' := 11) rfl ?_
    refine own_iconst X0 (v := (1 : Int32)) (by decide) at_11 (pc' := 12) rfl ?_
    obtain ⟨i276, e276⟩ : ∃ v, i275 &&& (1 : Int32) = v := ⟨_, rfl⟩
    have f276 : own_I 1 i276.toInt i276 := own_I.and e276 (by decide)
    have nn276 := own_and_nn (M := 1) e276 (by decide)
    refine own_iand X0 e276 at_12 (pc' := 13) rfl ?_
    by_cases c277 : i276 = 0
    · -- yes c277
      refine own_ifT X0 (own_z_eq c277).1 at_13 (pc' := 20) (by decide) (by decide) ?_
      refine own_iconst X0 (v := (0 : Int32)) (by decide) at_20 (pc' := 21) rfl ?_
      refine own_istore X0 (Ls' := #[.val (.int p0), .val (.int p1), .val (.int p2), .val (.double d274), .second, .val (.int (0 : Int32)), .unset, .unset, .unset, .unset, .unset]) rfl at_21 (pc' := 23) rfl ?_
      refine own_iloadN X0 rfl at_23 (pc' := 24) rfl ?_
      have f278 := own_I.start p0
      obtain ⟨d279, e279⟩ : ∃ v, FP.i2d p0 = v := ⟨_, rfl⟩
      have f279 : own_D 0 2147483648 p0.toInt d279 := own_D.i2d f278 e279
      refine own_i2d X0 e279 at_24 (pc' := 25) rfl ?_
      refine own_dloadN X0 rfl at_25 (pc' := 26) rfl ?_
      obtain ⟨d280, e280⟩ : ∃ v, FP.ddiv d279 d274 = v := ⟨_, rfl⟩
      have f280 : own_D 11 2147483648 p0.toInt d280 := own_D.divp (r := 11) (P := 2048) f279 f274 (by decide) e280 (by decide) (by decide) (by decide)
      refine own_ddiv X0 e280 f280.nn at_26 (pc' := 27) rfl ?_
      refine own_dstore X0 (Ls' := #[.val (.int p0), .val (.int p1), .val (.int p2), .val (.double d274), .second, .val (.int (0 : Int32)), .val (.double d280), .second, .unset, .unset, .unset]) rfl at_27 (pc' := 29) rfl ?_
      refine own_iload X0 rfl at_29 (pc' := 31) rfl ?_
      refine own_ifT X0 (by decide) at_31 (pc' := 40) (by decide) (by decide) ?_
      refine own_iloadN X0 rfl at_40 (pc' := 41) rfl ?_
      have f281 := own_I.start p1
      obtain ⟨d282, e282⟩ : ∃ v, FP.i2d p1 = v := ⟨_, rfl⟩
      have f282 : own_D 0 2147483648 p1.toInt d282 := own_D.i2d f281 e282
      refine own_i2d X0 e282 at_41 (pc' := 42) rfl ?_
      refine own_dloadN X0 rfl at_42 (pc' := 43) rfl ?_
      obtain ⟨d283, e283⟩ : ∃ v, FP.ddiv d282 d274 = v := ⟨_, rfl⟩
      have f283 : own_D 11 2147483648 p1.toInt d283 := own_D.divp (r := 11) (P := 2048) f282 f274 (by decide) e283 (by decide) (by decide) (by decide)
      refine own_ddiv X0 e283 f283.nn at_43 (pc' := 44) rfl ?_
      refine own_dstore X0 (Ls' := #[.val (.int p0), .val (.int p1), .val (.int p2), .val (.double d274), .second, .val (.int (0 : Int32)), .val (.double d280), .second, .val (.double d283), .second, .unset]) rfl at_44 (pc' := 46) rfl ?_
      refine own_iload X0 rfl at_46 (pc' := 48) rfl ?_
      refine own_ifT X0 (by decide) at_48 (pc' := 55) (by decide) (by decide) ?_
      refine own_ldcJ X0 (v := (2 : Int64)) (hw _ (List.mem_of_getElem? (i := 0) rfl)) at_55 (pc' := 58) rfl ?_
      refine own_iloadN X0 rfl at_58 (pc' := 59) rfl ?_
      obtain ⟨j284, e284⟩ : ∃ v, p0.toInt64 = v := ⟨_, rfl⟩
      have f284 : own_L 2147483648 p0.toInt j284 := own_L.ofI f278 e284
      refine own_i2l X0 e284 at_59 (pc' := 60) rfl ?_
      obtain ⟨j285, e285⟩ : ∃ v, (2 : Int64) * j284 = v := ⟨_, rfl⟩
      have f286 : own_L 2 (2 : Int) (2 : Int64) := own_L.lit (by decide) (by decide)
      have f285 : own_L 4294967296 ((2 : Int) * p0.toInt) j285 := f286.mul f284 e285 (by decide) (by decide)
      refine own_lmul X0 e285 at_60 (pc' := 61) rfl ?_
      refine own_iloadN X0 rfl at_61 (pc' := 62) rfl ?_
      obtain ⟨j287, e287⟩ : ∃ v, p1.toInt64 = v := ⟨_, rfl⟩
      have f287 : own_L 2147483648 p1.toInt j287 := own_L.ofI f281 e287
      refine own_i2l X0 e287 at_62 (pc' := 63) rfl ?_
      refine own_lcmp X0 (f285.cmp f287) at_63 (pc' := 64) rfl ?_
      by_cases c288 : ((2 : Int) * p0.toInt) < p1.toInt
      · -- yes c288
        refine own_ifF X0 (own_c3_lt c288).2 at_64 (pc' := 67) rfl ?_
        refine own_iconst X0 (v := (1 : Int32)) (by decide) at_67 (pc' := 68) rfl ?_
        refine own_goto X0 at_68 (pc' := 72) (by decide) (by decide) ?_
        refine own_istore X0 (Ls' := #[.val (.int p0), .val (.int p1), .val (.int p2), .val (.double d274), .second, .val (.int (0 : Int32)), .val (.double d280), .second, .val (.double d283), .second, .val (.int (1 : Int32))]) rfl at_72 (pc' := 74) rfl ?_
        refine own_dload X0 rfl at_74 (pc' := 76) rfl ?_
        refine own_dload X0 rfl at_76 (pc' := 78) rfl ?_
        refine own_callS X0 (own_sf l Z a0 hw d280 d283 p0.toInt p1.toInt 11 2147483648 2147483648 _ n0 X0.le f280 f283 (by decide) (by decide)) (hw _ (List.mem_of_getElem? (i := 1) rfl)) (hw _ (List.mem_of_getElem? (i := 2) rfl)) (hw _ (List.mem_of_getElem? (i := 3) rfl)) (hw _ (List.mem_of_getElem? (i := 4) rfl)) (by decide) rfl (by decide) (W := 0) (Nat.le_of_eq rfl) (by decide) (cells' := 0) (slots' := 0) rfl rfl (by decide) (by decide) (argsL := [(.double d280), (.double d283)]) (rest := []) (lenOf own_pd0 rfl) rfl rfl at_78 (pc' := 81) rfl ?_
        rintro _ T289 h289 X289 ⟨rfl, e289⟩
        subst e289
        show own_Goal p e below _ T289 (mkF m 81 #[.val (.int p0), .val (.int p1), .val (.int p2), .val (.double d274), .second, .val (.int (0 : Int32)), .val (.double d280), .second, .val (.double d283), .second, .val (.int (1 : Int32))] [(.int (if 2 * p0.toInt < p1.toInt then 1 else 0 : Int32))])
        refine own_iload X289 rfl at_81 (pc' := 83) rfl ?_
        have c290 : (if 2 * p0.toInt < p1.toInt then 1 else 0 : Int32) = (1 : Int32) := if_pos c288
        refine own_icmpF X289 (own_i_eq c290).2 at_83 (pc' := 86) rfl ?_
        refine own_iconst X289 (v := (1 : Int32)) (by decide) at_86 (pc' := 87) rfl ?_
        refine own_goto X289 at_87 (pc' := 91) (by decide) (by decide) ?_
        exact own_retZ X289 (by decide) at_91 rfl (by decide) (by decide) rfl
      · -- no c288
        refine own_ifT X0 (own_c3_nlt c288).2 at_64 (pc' := 71) (by decide) (by decide) ?_
        refine own_iconst X0 (v := (0 : Int32)) (by decide) at_71 (pc' := 72) rfl ?_
        refine own_istore X0 (Ls' := #[.val (.int p0), .val (.int p1), .val (.int p2), .val (.double d274), .second, .val (.int (0 : Int32)), .val (.double d280), .second, .val (.double d283), .second, .val (.int (0 : Int32))]) rfl at_72 (pc' := 74) rfl ?_
        refine own_dload X0 rfl at_74 (pc' := 76) rfl ?_
        refine own_dload X0 rfl at_76 (pc' := 78) rfl ?_
        refine own_callS X0 (own_sf l Z a0 hw d280 d283 p0.toInt p1.toInt 11 2147483648 2147483648 _ n0 X0.le f280 f283 (by decide) (by decide)) (hw _ (List.mem_of_getElem? (i := 1) rfl)) (hw _ (List.mem_of_getElem? (i := 2) rfl)) (hw _ (List.mem_of_getElem? (i := 3) rfl)) (hw _ (List.mem_of_getElem? (i := 4) rfl)) (by decide) rfl (by decide) (W := 0) (Nat.le_of_eq rfl) (by decide) (cells' := 0) (slots' := 0) rfl rfl (by decide) (by decide) (argsL := [(.double d280), (.double d283)]) (rest := []) (lenOf own_pd0 rfl) rfl rfl at_78 (pc' := 81) rfl ?_
        rintro _ T291 h291 X291 ⟨rfl, e291⟩
        subst e291
        show own_Goal p e below _ T291 (mkF m 81 #[.val (.int p0), .val (.int p1), .val (.int p2), .val (.double d274), .second, .val (.int (0 : Int32)), .val (.double d280), .second, .val (.double d283), .second, .val (.int (0 : Int32))] [(.int (if 2 * p0.toInt < p1.toInt then 1 else 0 : Int32))])
        refine own_iload X291 rfl at_81 (pc' := 83) rfl ?_
        have c292 : (if 2 * p0.toInt < p1.toInt then 1 else 0 : Int32) = (0 : Int32) := if_neg c288
        refine own_icmpF X291 (own_i_eq c292).2 at_83 (pc' := 86) rfl ?_
        refine own_iconst X291 (v := (1 : Int32)) (by decide) at_86 (pc' := 87) rfl ?_
        refine own_goto X291 at_87 (pc' := 91) (by decide) (by decide) ?_
        exact own_retZ X291 (by decide) at_91 rfl (by decide) (by decide) rfl
    · -- no c277
      refine own_ifF X0 (own_z_ne c277).1 at_13 (pc' := 16) rfl ?_
      refine own_iconst X0 (v := (1 : Int32)) (by decide) at_16 (pc' := 17) rfl ?_
      refine own_goto X0 at_17 (pc' := 21) (by decide) (by decide) ?_
      refine own_istore X0 (Ls' := #[.val (.int p0), .val (.int p1), .val (.int p2), .val (.double d274), .second, .val (.int (1 : Int32)), .unset, .unset, .unset, .unset, .unset]) rfl at_21 (pc' := 23) rfl ?_
      refine own_iloadN X0 rfl at_23 (pc' := 24) rfl ?_
      have f293 := own_I.start p0
      obtain ⟨d294, e294⟩ : ∃ v, FP.i2d p0 = v := ⟨_, rfl⟩
      have f294 : own_D 0 2147483648 p0.toInt d294 := own_D.i2d f293 e294
      refine own_i2d X0 e294 at_24 (pc' := 25) rfl ?_
      refine own_dloadN X0 rfl at_25 (pc' := 26) rfl ?_
      obtain ⟨d295, e295⟩ : ∃ v, FP.ddiv d294 d274 = v := ⟨_, rfl⟩
      have f295 : own_D 11 2147483648 p0.toInt d295 := own_D.divp (r := 11) (P := 2048) f294 f274 (by decide) e295 (by decide) (by decide) (by decide)
      refine own_ddiv X0 e295 f295.nn at_26 (pc' := 27) rfl ?_
      refine own_dstore X0 (Ls' := #[.val (.int p0), .val (.int p1), .val (.int p2), .val (.double d274), .second, .val (.int (1 : Int32)), .val (.double d295), .second, .unset, .unset, .unset]) rfl at_27 (pc' := 29) rfl ?_
      refine own_iload X0 rfl at_29 (pc' := 31) rfl ?_
      refine own_ifF X0 (by decide) at_31 (pc' := 34) rfl ?_
      refine own_ldcD X0 (v := (9218868437227405312 : UInt64)) (hw _ (List.mem_of_getElem? (i := 6) rfl)) at_34 (pc' := 37) rfl ?_
      refine own_goto X0 at_37 (pc' := 44) (by decide) (by decide) ?_
      refine own_dstore X0 (Ls' := #[.val (.int p0), .val (.int p1), .val (.int p2), .val (.double d274), .second, .val (.int (1 : Int32)), .val (.double d295), .second, .val (.double (9218868437227405312 : UInt64)), .second, .unset]) rfl at_44 (pc' := 46) rfl ?_
      refine own_iload X0 rfl at_46 (pc' := 48) rfl ?_
      refine own_ifF X0 (by decide) at_48 (pc' := 51) rfl ?_
      refine own_iconst X0 (v := (1 : Int32)) (by decide) at_51 (pc' := 52) rfl ?_
      refine own_goto X0 at_52 (pc' := 72) (by decide) (by decide) ?_
      refine own_istore X0 (Ls' := #[.val (.int p0), .val (.int p1), .val (.int p2), .val (.double d274), .second, .val (.int (1 : Int32)), .val (.double d295), .second, .val (.double (9218868437227405312 : UInt64)), .second, .val (.int (1 : Int32))]) rfl at_72 (pc' := 74) rfl ?_
      refine own_dload X0 rfl at_74 (pc' := 76) rfl ?_
      refine own_dload X0 rfl at_76 (pc' := 78) rfl ?_
      refine own_callS X0 (own_si l Z a0 hw d295 p0.toInt 11 2147483648 _ n0 X0.le f295) (hw _ (List.mem_of_getElem? (i := 1) rfl)) (hw _ (List.mem_of_getElem? (i := 2) rfl)) (hw _ (List.mem_of_getElem? (i := 3) rfl)) (hw _ (List.mem_of_getElem? (i := 4) rfl)) (by decide) rfl (by decide) (W := 0) (Nat.le_of_eq rfl) (by decide) (cells' := 0) (slots' := 0) rfl rfl (by decide) (by decide) (argsL := [(.double d295), (.double (9218868437227405312 : UInt64))]) (rest := []) (lenOf own_pd0 rfl) rfl rfl at_78 (pc' := 81) rfl ?_
      rintro _ T296 h296 X296 ⟨rfl, e296⟩
      subst e296
      show own_Goal p e below _ T296 (mkF m 81 #[.val (.int p0), .val (.int p1), .val (.int p2), .val (.double d274), .second, .val (.int (1 : Int32)), .val (.double d295), .second, .val (.double (9218868437227405312 : UInt64)), .second, .val (.int (1 : Int32))] [(.int (1 : Int32))])
      refine own_iload X296 rfl at_81 (pc' := 83) rfl ?_
      refine own_icmpF X296 (by decide) at_83 (pc' := 86) rfl ?_
      refine own_iconst X296 (v := (1 : Int32)) (by decide) at_86 (pc' := 87) rfl ?_
      refine own_goto X296 at_87 (pc' := 91) (by decide) (by decide) ?_
      exact own_retZ X296 (by decide) at_91 rfl (by decide) (by decide) rfl
  · -- 12
    refine own_ishl X0 (v := (4096 : Int32)) (by decide) at_5 (pc' := 6) rfl ?_
    have f297 : own_I 4096 (4096 : Int) (4096 : Int32) := own_I.lit (by decide) (by decide)
    obtain ⟨d298, e298⟩ : ∃ v, FP.i2d (4096 : Int32) = v := ⟨_, rfl⟩
    have f298 : own_D 0 4096 (4096 : Int) d298 := own_D.i2d f297 e298
    refine own_i2d X0 e298 at_6 (pc' := 7) rfl ?_
    refine own_dstoreN X0 (Ls' := #[.val (.int p0), .val (.int p1), .val (.int p2), .val (.double d298), .second, .unset, .unset, .unset, .unset, .unset, .unset]) rfl at_7 (pc' := 8) rfl ?_
    refine own_iloadN X0 rfl at_8 (pc' := 9) rfl ?_
    refine own_iconst X0 (v := (4 : Int32)) (by decide) at_9 (pc' := 10) rfl ?_
    obtain ⟨i299, e299⟩ : ∃ v, XT.ushr p2 (4 : Int32) = v := ⟨_, rfl⟩
    refine own_iushr X0 e299 at_10 (pc' := 11) rfl ?_
    refine own_iconst X0 (v := (1 : Int32)) (by decide) at_11 (pc' := 12) rfl ?_
    obtain ⟨i300, e300⟩ : ∃ v, i299 &&& (1 : Int32) = v := ⟨_, rfl⟩
    have f300 : own_I 1 i300.toInt i300 := own_I.and e300 (by decide)
    have nn300 := own_and_nn (M := 1) e300 (by decide)
    refine own_iand X0 e300 at_12 (pc' := 13) rfl ?_
    by_cases c301 : i300 = 0
    · -- yes c301
      refine own_ifT X0 (own_z_eq c301).1 at_13 (pc' := 20) (by decide) (by decide) ?_
      refine own_iconst X0 (v := (0 : Int32)) (by decide) at_20 (pc' := 21) rfl ?_
      refine own_istore X0 (Ls' := #[.val (.int p0), .val (.int p1), .val (.int p2), .val (.double d298), .second, .val (.int (0 : Int32)), .unset, .unset, .unset, .unset, .unset]) rfl at_21 (pc' := 23) rfl ?_
      refine own_iloadN X0 rfl at_23 (pc' := 24) rfl ?_
      have f302 := own_I.start p0
      obtain ⟨d303, e303⟩ : ∃ v, FP.i2d p0 = v := ⟨_, rfl⟩
      have f303 : own_D 0 2147483648 p0.toInt d303 := own_D.i2d f302 e303
      refine own_i2d X0 e303 at_24 (pc' := 25) rfl ?_
      refine own_dloadN X0 rfl at_25 (pc' := 26) rfl ?_
      obtain ⟨d304, e304⟩ : ∃ v, FP.ddiv d303 d298 = v := ⟨_, rfl⟩
      have f304 : own_D 12 2147483648 p0.toInt d304 := own_D.divp (r := 12) (P := 4096) f303 f298 (by decide) e304 (by decide) (by decide) (by decide)
      refine own_ddiv X0 e304 f304.nn at_26 (pc' := 27) rfl ?_
      refine own_dstore X0 (Ls' := #[.val (.int p0), .val (.int p1), .val (.int p2), .val (.double d298), .second, .val (.int (0 : Int32)), .val (.double d304), .second, .unset, .unset, .unset]) rfl at_27 (pc' := 29) rfl ?_
      refine own_iload X0 rfl at_29 (pc' := 31) rfl ?_
      refine own_ifT X0 (by decide) at_31 (pc' := 40) (by decide) (by decide) ?_
      refine own_iloadN X0 rfl at_40 (pc' := 41) rfl ?_
      have f305 := own_I.start p1
      obtain ⟨d306, e306⟩ : ∃ v, FP.i2d p1 = v := ⟨_, rfl⟩
      have f306 : own_D 0 2147483648 p1.toInt d306 := own_D.i2d f305 e306
      refine own_i2d X0 e306 at_41 (pc' := 42) rfl ?_
      refine own_dloadN X0 rfl at_42 (pc' := 43) rfl ?_
      obtain ⟨d307, e307⟩ : ∃ v, FP.ddiv d306 d298 = v := ⟨_, rfl⟩
      have f307 : own_D 12 2147483648 p1.toInt d307 := own_D.divp (r := 12) (P := 4096) f306 f298 (by decide) e307 (by decide) (by decide) (by decide)
      refine own_ddiv X0 e307 f307.nn at_43 (pc' := 44) rfl ?_
      refine own_dstore X0 (Ls' := #[.val (.int p0), .val (.int p1), .val (.int p2), .val (.double d298), .second, .val (.int (0 : Int32)), .val (.double d304), .second, .val (.double d307), .second, .unset]) rfl at_44 (pc' := 46) rfl ?_
      refine own_iload X0 rfl at_46 (pc' := 48) rfl ?_
      refine own_ifT X0 (by decide) at_48 (pc' := 55) (by decide) (by decide) ?_
      refine own_ldcJ X0 (v := (2 : Int64)) (hw _ (List.mem_of_getElem? (i := 0) rfl)) at_55 (pc' := 58) rfl ?_
      refine own_iloadN X0 rfl at_58 (pc' := 59) rfl ?_
      obtain ⟨j308, e308⟩ : ∃ v, p0.toInt64 = v := ⟨_, rfl⟩
      have f308 : own_L 2147483648 p0.toInt j308 := own_L.ofI f302 e308
      refine own_i2l X0 e308 at_59 (pc' := 60) rfl ?_
      obtain ⟨j309, e309⟩ : ∃ v, (2 : Int64) * j308 = v := ⟨_, rfl⟩
      have f310 : own_L 2 (2 : Int) (2 : Int64) := own_L.lit (by decide) (by decide)
      have f309 : own_L 4294967296 ((2 : Int) * p0.toInt) j309 := f310.mul f308 e309 (by decide) (by decide)
      refine own_lmul X0 e309 at_60 (pc' := 61) rfl ?_
      refine own_iloadN X0 rfl at_61 (pc' := 62) rfl ?_
      obtain ⟨j311, e311⟩ : ∃ v, p1.toInt64 = v := ⟨_, rfl⟩
      have f311 : own_L 2147483648 p1.toInt j311 := own_L.ofI f305 e311
      refine own_i2l X0 e311 at_62 (pc' := 63) rfl ?_
      refine own_lcmp X0 (f309.cmp f311) at_63 (pc' := 64) rfl ?_
      by_cases c312 : ((2 : Int) * p0.toInt) < p1.toInt
      · -- yes c312
        refine own_ifF X0 (own_c3_lt c312).2 at_64 (pc' := 67) rfl ?_
        refine own_iconst X0 (v := (1 : Int32)) (by decide) at_67 (pc' := 68) rfl ?_
        refine own_goto X0 at_68 (pc' := 72) (by decide) (by decide) ?_
        refine own_istore X0 (Ls' := #[.val (.int p0), .val (.int p1), .val (.int p2), .val (.double d298), .second, .val (.int (0 : Int32)), .val (.double d304), .second, .val (.double d307), .second, .val (.int (1 : Int32))]) rfl at_72 (pc' := 74) rfl ?_
        refine own_dload X0 rfl at_74 (pc' := 76) rfl ?_
        refine own_dload X0 rfl at_76 (pc' := 78) rfl ?_
        refine own_callS X0 (own_sf l Z a0 hw d304 d307 p0.toInt p1.toInt 12 2147483648 2147483648 _ n0 X0.le f304 f307 (by decide) (by decide)) (hw _ (List.mem_of_getElem? (i := 1) rfl)) (hw _ (List.mem_of_getElem? (i := 2) rfl)) (hw _ (List.mem_of_getElem? (i := 3) rfl)) (hw _ (List.mem_of_getElem? (i := 4) rfl)) (by decide) rfl (by decide) (W := 0) (Nat.le_of_eq rfl) (by decide) (cells' := 0) (slots' := 0) rfl rfl (by decide) (by decide) (argsL := [(.double d304), (.double d307)]) (rest := []) (lenOf own_pd0 rfl) rfl rfl at_78 (pc' := 81) rfl ?_
        rintro _ T313 h313 X313 ⟨rfl, e313⟩
        subst e313
        show own_Goal p e below _ T313 (mkF m 81 #[.val (.int p0), .val (.int p1), .val (.int p2), .val (.double d298), .second, .val (.int (0 : Int32)), .val (.double d304), .second, .val (.double d307), .second, .val (.int (1 : Int32))] [(.int (if 2 * p0.toInt < p1.toInt then 1 else 0 : Int32))])
        refine own_iload X313 rfl at_81 (pc' := 83) rfl ?_
        have c314 : (if 2 * p0.toInt < p1.toInt then 1 else 0 : Int32) = (1 : Int32) := if_pos c312
        refine own_icmpF X313 (own_i_eq c314).2 at_83 (pc' := 86) rfl ?_
        refine own_iconst X313 (v := (1 : Int32)) (by decide) at_86 (pc' := 87) rfl ?_
        refine own_goto X313 at_87 (pc' := 91) (by decide) (by decide) ?_
        exact own_retZ X313 (by decide) at_91 rfl (by decide) (by decide) rfl
      · -- no c312
        refine own_ifT X0 (own_c3_nlt c312).2 at_64 (pc' := 71) (by decide) (by decide) ?_
        refine own_iconst X0 (v := (0 : Int32)) (by decide) at_71 (pc' := 72) rfl ?_
        refine own_istore X0 (Ls' := #[.val (.int p0), .val (.int p1), .val (.int p2), .val (.double d298), .second, .val (.int (0 : Int32)), .val (.double d304), .second, .val (.double d307), .second, .val (.int (0 : Int32))]) rfl at_72 (pc' := 74) rfl ?_
        refine own_dload X0 rfl at_74 (pc' := 76) rfl ?_
        refine own_dload X0 rfl at_76 (pc' := 78) rfl ?_
        refine own_callS X0 (own_sf l Z a0 hw d304 d307 p0.toInt p1.toInt 12 2147483648 2147483648 _ n0 X0.le f304 f307 (by decide) (by decide)) (hw _ (List.mem_of_getElem? (i := 1) rfl)) (hw _ (List.mem_of_getElem? (i := 2) rfl)) (hw _ (List.mem_of_getElem? (i := 3) rfl)) (hw _ (List.mem_of_getElem? (i := 4) rfl)) (by decide) rfl (by decide) (W := 0) (Nat.le_of_eq rfl) (by decide) (cells' := 0) (slots' := 0) rfl rfl (by decide) (by decide) (argsL := [(.double d304), (.double d307)]) (rest := []) (lenOf own_pd0 rfl) rfl rfl at_78 (pc' := 81) rfl ?_
        rintro _ T315 h315 X315 ⟨rfl, e315⟩
        subst e315
        show own_Goal p e below _ T315 (mkF m 81 #[.val (.int p0), .val (.int p1), .val (.int p2), .val (.double d298), .second, .val (.int (0 : Int32)), .val (.double d304), .second, .val (.double d307), .second, .val (.int (0 : Int32))] [(.int (if 2 * p0.toInt < p1.toInt then 1 else 0 : Int32))])
        refine own_iload X315 rfl at_81 (pc' := 83) rfl ?_
        have c316 : (if 2 * p0.toInt < p1.toInt then 1 else 0 : Int32) = (0 : Int32) := if_neg c312
        refine own_icmpF X315 (own_i_eq c316).2 at_83 (pc' := 86) rfl ?_
        refine own_iconst X315 (v := (1 : Int32)) (by decide) at_86 (pc' := 87) rfl ?_
        refine own_goto X315 at_87 (pc' := 91) (by decide) (by decide) ?_
        exact own_retZ X315 (by decide) at_91 rfl (by decide) (by decide) rfl
    · -- no c301
      refine own_ifF X0 (own_z_ne c301).1 at_13 (pc' := 16) rfl ?_
      refine own_iconst X0 (v := (1 : Int32)) (by decide) at_16 (pc' := 17) rfl ?_
      refine own_goto X0 at_17 (pc' := 21) (by decide) (by decide) ?_
      refine own_istore X0 (Ls' := #[.val (.int p0), .val (.int p1), .val (.int p2), .val (.double d298), .second, .val (.int (1 : Int32)), .unset, .unset, .unset, .unset, .unset]) rfl at_21 (pc' := 23) rfl ?_
      refine own_iloadN X0 rfl at_23 (pc' := 24) rfl ?_
      have f317 := own_I.start p0
      obtain ⟨d318, e318⟩ : ∃ v, FP.i2d p0 = v := ⟨_, rfl⟩
      have f318 : own_D 0 2147483648 p0.toInt d318 := own_D.i2d f317 e318
      refine own_i2d X0 e318 at_24 (pc' := 25) rfl ?_
      refine own_dloadN X0 rfl at_25 (pc' := 26) rfl ?_
      obtain ⟨d319, e319⟩ : ∃ v, FP.ddiv d318 d298 = v := ⟨_, rfl⟩
      have f319 : own_D 12 2147483648 p0.toInt d319 := own_D.divp (r := 12) (P := 4096) f318 f298 (by decide) e319 (by decide) (by decide) (by decide)
      refine own_ddiv X0 e319 f319.nn at_26 (pc' := 27) rfl ?_
      refine own_dstore X0 (Ls' := #[.val (.int p0), .val (.int p1), .val (.int p2), .val (.double d298), .second, .val (.int (1 : Int32)), .val (.double d319), .second, .unset, .unset, .unset]) rfl at_27 (pc' := 29) rfl ?_
      refine own_iload X0 rfl at_29 (pc' := 31) rfl ?_
      refine own_ifF X0 (by decide) at_31 (pc' := 34) rfl ?_
      refine own_ldcD X0 (v := (9218868437227405312 : UInt64)) (hw _ (List.mem_of_getElem? (i := 6) rfl)) at_34 (pc' := 37) rfl ?_
      refine own_goto X0 at_37 (pc' := 44) (by decide) (by decide) ?_
      refine own_dstore X0 (Ls' := #[.val (.int p0), .val (.int p1), .val (.int p2), .val (.double d298), .second, .val (.int (1 : Int32)), .val (.double d319), .second, .val (.double (9218868437227405312 : UInt64)), .second, .unset]) rfl at_44 (pc' := 46) rfl ?_
      refine own_iload X0 rfl at_46 (pc' := 48) rfl ?_
      refine own_ifF X0 (by decide) at_48 (pc' := 51) rfl ?_
      refine own_iconst X0 (v := (1 : Int32)) (by decide) at_51 (pc' := 52) rfl ?_
      refine own_goto X0 at_52 (pc' := 72) (by decide) (by decide) ?_
      refine own_istore X0 (Ls' := #[.val (.int p0), .val (.int p1), .val (.int p2), .val (.double d298), .second, .val (.int (1 : Int32)), .val (.double d319), .second, .val (.double (9218868437227405312 : UInt64)), .second, .val (.int (1 : Int32))]) rfl at_72 (pc' := 74) rfl ?_
      refine own_dload X0 rfl at_74 (pc' := 76) rfl ?_
      refine own_dload X0 rfl at_76 (pc' := 78) rfl ?_
      refine own_callS X0 (own_si l Z a0 hw d319 p0.toInt 12 2147483648 _ n0 X0.le f319) (hw _ (List.mem_of_getElem? (i := 1) rfl)) (hw _ (List.mem_of_getElem? (i := 2) rfl)) (hw _ (List.mem_of_getElem? (i := 3) rfl)) (hw _ (List.mem_of_getElem? (i := 4) rfl)) (by decide) rfl (by decide) (W := 0) (Nat.le_of_eq rfl) (by decide) (cells' := 0) (slots' := 0) rfl rfl (by decide) (by decide) (argsL := [(.double d319), (.double (9218868437227405312 : UInt64))]) (rest := []) (lenOf own_pd0 rfl) rfl rfl at_78 (pc' := 81) rfl ?_
      rintro _ T320 h320 X320 ⟨rfl, e320⟩
      subst e320
      show own_Goal p e below _ T320 (mkF m 81 #[.val (.int p0), .val (.int p1), .val (.int p2), .val (.double d298), .second, .val (.int (1 : Int32)), .val (.double d319), .second, .val (.double (9218868437227405312 : UInt64)), .second, .val (.int (1 : Int32))] [(.int (1 : Int32))])
      refine own_iload X320 rfl at_81 (pc' := 83) rfl ?_
      refine own_icmpF X320 (by decide) at_83 (pc' := 86) rfl ?_
      refine own_iconst X320 (v := (1 : Int32)) (by decide) at_86 (pc' := 87) rfl ?_
      refine own_goto X320 at_87 (pc' := 91) (by decide) (by decide) ?_
      exact own_retZ X320 (by decide) at_91 rfl (by decide) (by decide) rfl
  · -- 13
    refine own_ishl X0 (v := (8192 : Int32)) (by decide) at_5 (pc' := 6) rfl ?_
    have f321 : own_I 8192 (8192 : Int) (8192 : Int32) := own_I.lit (by decide) (by decide)
    obtain ⟨d322, e322⟩ : ∃ v, FP.i2d (8192 : Int32) = v := ⟨_, rfl⟩
    have f322 : own_D 0 8192 (8192 : Int) d322 := own_D.i2d f321 e322
    refine own_i2d X0 e322 at_6 (pc' := 7) rfl ?_
    refine own_dstoreN X0 (Ls' := #[.val (.int p0), .val (.int p1), .val (.int p2), .val (.double d322), .second, .unset, .unset, .unset, .unset, .unset, .unset]) rfl at_7 (pc' := 8) rfl ?_
    refine own_iloadN X0 rfl at_8 (pc' := 9) rfl ?_
    refine own_iconst X0 (v := (4 : Int32)) (by decide) at_9 (pc' := 10) rfl ?_
    obtain ⟨i323, e323⟩ : ∃ v, XT.ushr p2 (4 : Int32) = v := ⟨_, rfl⟩
    refine own_iushr X0 e323 at_10 (pc' := 11) rfl ?_
    refine own_iconst X0 (v := (1 : Int32)) (by decide) at_11 (pc' := 12) rfl ?_
    obtain ⟨i324, e324⟩ : ∃ v, i323 &&& (1 : Int32) = v := ⟨_, rfl⟩
    have f324 : own_I 1 i324.toInt i324 := own_I.and e324 (by decide)
    have nn324 := own_and_nn (M := 1) e324 (by decide)
    refine own_iand X0 e324 at_12 (pc' := 13) rfl ?_
    by_cases c325 : i324 = 0
    · -- yes c325
      refine own_ifT X0 (own_z_eq c325).1 at_13 (pc' := 20) (by decide) (by decide) ?_
      refine own_iconst X0 (v := (0 : Int32)) (by decide) at_20 (pc' := 21) rfl ?_
      refine own_istore X0 (Ls' := #[.val (.int p0), .val (.int p1), .val (.int p2), .val (.double d322), .second, .val (.int (0 : Int32)), .unset, .unset, .unset, .unset, .unset]) rfl at_21 (pc' := 23) rfl ?_
      refine own_iloadN X0 rfl at_23 (pc' := 24) rfl ?_
      have f326 := own_I.start p0
      obtain ⟨d327, e327⟩ : ∃ v, FP.i2d p0 = v := ⟨_, rfl⟩
      have f327 : own_D 0 2147483648 p0.toInt d327 := own_D.i2d f326 e327
      refine own_i2d X0 e327 at_24 (pc' := 25) rfl ?_
      refine own_dloadN X0 rfl at_25 (pc' := 26) rfl ?_
      obtain ⟨d328, e328⟩ : ∃ v, FP.ddiv d327 d322 = v := ⟨_, rfl⟩
      have f328 : own_D 13 2147483648 p0.toInt d328 := own_D.divp (r := 13) (P := 8192) f327 f322 (by decide) e328 (by decide) (by decide) (by decide)
      refine own_ddiv X0 e328 f328.nn at_26 (pc' := 27) rfl ?_
      refine own_dstore X0 (Ls' := #[.val (.int p0), .val (.int p1), .val (.int p2), .val (.double d322), .second, .val (.int (0 : Int32)), .val (.double d328), .second, .unset, .unset, .unset]) rfl at_27 (pc' := 29) rfl ?_
      refine own_iload X0 rfl at_29 (pc' := 31) rfl ?_
      refine own_ifT X0 (by decide) at_31 (pc' := 40) (by decide) (by decide) ?_
      refine own_iloadN X0 rfl at_40 (pc' := 41) rfl ?_
      have f329 := own_I.start p1
      obtain ⟨d330, e330⟩ : ∃ v, FP.i2d p1 = v := ⟨_, rfl⟩
      have f330 : own_D 0 2147483648 p1.toInt d330 := own_D.i2d f329 e330
      refine own_i2d X0 e330 at_41 (pc' := 42) rfl ?_
      refine own_dloadN X0 rfl at_42 (pc' := 43) rfl ?_
      obtain ⟨d331, e331⟩ : ∃ v, FP.ddiv d330 d322 = v := ⟨_, rfl⟩
      have f331 : own_D 13 2147483648 p1.toInt d331 := own_D.divp (r := 13) (P := 8192) f330 f322 (by decide) e331 (by decide) (by decide) (by decide)
      refine own_ddiv X0 e331 f331.nn at_43 (pc' := 44) rfl ?_
      refine own_dstore X0 (Ls' := #[.val (.int p0), .val (.int p1), .val (.int p2), .val (.double d322), .second, .val (.int (0 : Int32)), .val (.double d328), .second, .val (.double d331), .second, .unset]) rfl at_44 (pc' := 46) rfl ?_
      refine own_iload X0 rfl at_46 (pc' := 48) rfl ?_
      refine own_ifT X0 (by decide) at_48 (pc' := 55) (by decide) (by decide) ?_
      refine own_ldcJ X0 (v := (2 : Int64)) (hw _ (List.mem_of_getElem? (i := 0) rfl)) at_55 (pc' := 58) rfl ?_
      refine own_iloadN X0 rfl at_58 (pc' := 59) rfl ?_
      obtain ⟨j332, e332⟩ : ∃ v, p0.toInt64 = v := ⟨_, rfl⟩
      have f332 : own_L 2147483648 p0.toInt j332 := own_L.ofI f326 e332
      refine own_i2l X0 e332 at_59 (pc' := 60) rfl ?_
      obtain ⟨j333, e333⟩ : ∃ v, (2 : Int64) * j332 = v := ⟨_, rfl⟩
      have f334 : own_L 2 (2 : Int) (2 : Int64) := own_L.lit (by decide) (by decide)
      have f333 : own_L 4294967296 ((2 : Int) * p0.toInt) j333 := f334.mul f332 e333 (by decide) (by decide)
      refine own_lmul X0 e333 at_60 (pc' := 61) rfl ?_
      refine own_iloadN X0 rfl at_61 (pc' := 62) rfl ?_
      obtain ⟨j335, e335⟩ : ∃ v, p1.toInt64 = v := ⟨_, rfl⟩
      have f335 : own_L 2147483648 p1.toInt j335 := own_L.ofI f329 e335
      refine own_i2l X0 e335 at_62 (pc' := 63) rfl ?_
      refine own_lcmp X0 (f333.cmp f335) at_63 (pc' := 64) rfl ?_
      by_cases c336 : ((2 : Int) * p0.toInt) < p1.toInt
      · -- yes c336
        refine own_ifF X0 (own_c3_lt c336).2 at_64 (pc' := 67) rfl ?_
        refine own_iconst X0 (v := (1 : Int32)) (by decide) at_67 (pc' := 68) rfl ?_
        refine own_goto X0 at_68 (pc' := 72) (by decide) (by decide) ?_
        refine own_istore X0 (Ls' := #[.val (.int p0), .val (.int p1), .val (.int p2), .val (.double d322), .second, .val (.int (0 : Int32)), .val (.double d328), .second, .val (.double d331), .second, .val (.int (1 : Int32))]) rfl at_72 (pc' := 74) rfl ?_
        refine own_dload X0 rfl at_74 (pc' := 76) rfl ?_
        refine own_dload X0 rfl at_76 (pc' := 78) rfl ?_
        refine own_callS X0 (own_sf l Z a0 hw d328 d331 p0.toInt p1.toInt 13 2147483648 2147483648 _ n0 X0.le f328 f331 (by decide) (by decide)) (hw _ (List.mem_of_getElem? (i := 1) rfl)) (hw _ (List.mem_of_getElem? (i := 2) rfl)) (hw _ (List.mem_of_getElem? (i := 3) rfl)) (hw _ (List.mem_of_getElem? (i := 4) rfl)) (by decide) rfl (by decide) (W := 0) (Nat.le_of_eq rfl) (by decide) (cells' := 0) (slots' := 0) rfl rfl (by decide) (by decide) (argsL := [(.double d328), (.double d331)]) (rest := []) (lenOf own_pd0 rfl) rfl rfl at_78 (pc' := 81) rfl ?_
        rintro _ T337 h337 X337 ⟨rfl, e337⟩
        subst e337
        show own_Goal p e below _ T337 (mkF m 81 #[.val (.int p0), .val (.int p1), .val (.int p2), .val (.double d322), .second, .val (.int (0 : Int32)), .val (.double d328), .second, .val (.double d331), .second, .val (.int (1 : Int32))] [(.int (if 2 * p0.toInt < p1.toInt then 1 else 0 : Int32))])
        refine own_iload X337 rfl at_81 (pc' := 83) rfl ?_
        have c338 : (if 2 * p0.toInt < p1.toInt then 1 else 0 : Int32) = (1 : Int32) := if_pos c336
        refine own_icmpF X337 (own_i_eq c338).2 at_83 (pc' := 86) rfl ?_
        refine own_iconst X337 (v := (1 : Int32)) (by decide) at_86 (pc' := 87) rfl ?_
        refine own_goto X337 at_87 (pc' := 91) (by decide) (by decide) ?_
        exact own_retZ X337 (by decide) at_91 rfl (by decide) (by decide) rfl
      · -- no c336
        refine own_ifT X0 (own_c3_nlt c336).2 at_64 (pc' := 71) (by decide) (by decide) ?_
        refine own_iconst X0 (v := (0 : Int32)) (by decide) at_71 (pc' := 72) rfl ?_
        refine own_istore X0 (Ls' := #[.val (.int p0), .val (.int p1), .val (.int p2), .val (.double d322), .second, .val (.int (0 : Int32)), .val (.double d328), .second, .val (.double d331), .second, .val (.int (0 : Int32))]) rfl at_72 (pc' := 74) rfl ?_
        refine own_dload X0 rfl at_74 (pc' := 76) rfl ?_
        refine own_dload X0 rfl at_76 (pc' := 78) rfl ?_
        refine own_callS X0 (own_sf l Z a0 hw d328 d331 p0.toInt p1.toInt 13 2147483648 2147483648 _ n0 X0.le f328 f331 (by decide) (by decide)) (hw _ (List.mem_of_getElem? (i := 1) rfl)) (hw _ (List.mem_of_getElem? (i := 2) rfl)) (hw _ (List.mem_of_getElem? (i := 3) rfl)) (hw _ (List.mem_of_getElem? (i := 4) rfl)) (by decide) rfl (by decide) (W := 0) (Nat.le_of_eq rfl) (by decide) (cells' := 0) (slots' := 0) rfl rfl (by decide) (by decide) (argsL := [(.double d328), (.double d331)]) (rest := []) (lenOf own_pd0 rfl) rfl rfl at_78 (pc' := 81) rfl ?_
        rintro _ T339 h339 X339 ⟨rfl, e339⟩
        subst e339
        show own_Goal p e below _ T339 (mkF m 81 #[.val (.int p0), .val (.int p1), .val (.int p2), .val (.double d322), .second, .val (.int (0 : Int32)), .val (.double d328), .second, .val (.double d331), .second, .val (.int (0 : Int32))] [(.int (if 2 * p0.toInt < p1.toInt then 1 else 0 : Int32))])
        refine own_iload X339 rfl at_81 (pc' := 83) rfl ?_
        have c340 : (if 2 * p0.toInt < p1.toInt then 1 else 0 : Int32) = (0 : Int32) := if_neg c336
        refine own_icmpF X339 (own_i_eq c340).2 at_83 (pc' := 86) rfl ?_
        refine own_iconst X339 (v := (1 : Int32)) (by decide) at_86 (pc' := 87) rfl ?_
        refine own_goto X339 at_87 (pc' := 91) (by decide) (by decide) ?_
        exact own_retZ X339 (by decide) at_91 rfl (by decide) (by decide) rfl
    · -- no c325
      refine own_ifF X0 (own_z_ne c325).1 at_13 (pc' := 16) rfl ?_
      refine own_iconst X0 (v := (1 : Int32)) (by decide) at_16 (pc' := 17) rfl ?_
      refine own_goto X0 at_17 (pc' := 21) (by decide) (by decide) ?_
      refine own_istore X0 (Ls' := #[.val (.int p0), .val (.int p1), .val (.int p2), .val (.double d322), .second, .val (.int (1 : Int32)), .unset, .unset, .unset, .unset, .unset]) rfl at_21 (pc' := 23) rfl ?_
      refine own_iloadN X0 rfl at_23 (pc' := 24) rfl ?_
      have f341 := own_I.start p0
      obtain ⟨d342, e342⟩ : ∃ v, FP.i2d p0 = v := ⟨_, rfl⟩
      have f342 : own_D 0 2147483648 p0.toInt d342 := own_D.i2d f341 e342
      refine own_i2d X0 e342 at_24 (pc' := 25) rfl ?_
      refine own_dloadN X0 rfl at_25 (pc' := 26) rfl ?_
      obtain ⟨d343, e343⟩ : ∃ v, FP.ddiv d342 d322 = v := ⟨_, rfl⟩
      have f343 : own_D 13 2147483648 p0.toInt d343 := own_D.divp (r := 13) (P := 8192) f342 f322 (by decide) e343 (by decide) (by decide) (by decide)
      refine own_ddiv X0 e343 f343.nn at_26 (pc' := 27) rfl ?_
      refine own_dstore X0 (Ls' := #[.val (.int p0), .val (.int p1), .val (.int p2), .val (.double d322), .second, .val (.int (1 : Int32)), .val (.double d343), .second, .unset, .unset, .unset]) rfl at_27 (pc' := 29) rfl ?_
      refine own_iload X0 rfl at_29 (pc' := 31) rfl ?_
      refine own_ifF X0 (by decide) at_31 (pc' := 34) rfl ?_
      refine own_ldcD X0 (v := (9218868437227405312 : UInt64)) (hw _ (List.mem_of_getElem? (i := 6) rfl)) at_34 (pc' := 37) rfl ?_
      refine own_goto X0 at_37 (pc' := 44) (by decide) (by decide) ?_
      refine own_dstore X0 (Ls' := #[.val (.int p0), .val (.int p1), .val (.int p2), .val (.double d322), .second, .val (.int (1 : Int32)), .val (.double d343), .second, .val (.double (9218868437227405312 : UInt64)), .second, .unset]) rfl at_44 (pc' := 46) rfl ?_
      refine own_iload X0 rfl at_46 (pc' := 48) rfl ?_
      refine own_ifF X0 (by decide) at_48 (pc' := 51) rfl ?_
      refine own_iconst X0 (v := (1 : Int32)) (by decide) at_51 (pc' := 52) rfl ?_
      refine own_goto X0 at_52 (pc' := 72) (by decide) (by decide) ?_
      refine own_istore X0 (Ls' := #[.val (.int p0), .val (.int p1), .val (.int p2), .val (.double d322), .second, .val (.int (1 : Int32)), .val (.double d343), .second, .val (.double (9218868437227405312 : UInt64)), .second, .val (.int (1 : Int32))]) rfl at_72 (pc' := 74) rfl ?_
      refine own_dload X0 rfl at_74 (pc' := 76) rfl ?_
      refine own_dload X0 rfl at_76 (pc' := 78) rfl ?_
      refine own_callS X0 (own_si l Z a0 hw d343 p0.toInt 13 2147483648 _ n0 X0.le f343) (hw _ (List.mem_of_getElem? (i := 1) rfl)) (hw _ (List.mem_of_getElem? (i := 2) rfl)) (hw _ (List.mem_of_getElem? (i := 3) rfl)) (hw _ (List.mem_of_getElem? (i := 4) rfl)) (by decide) rfl (by decide) (W := 0) (Nat.le_of_eq rfl) (by decide) (cells' := 0) (slots' := 0) rfl rfl (by decide) (by decide) (argsL := [(.double d343), (.double (9218868437227405312 : UInt64))]) (rest := []) (lenOf own_pd0 rfl) rfl rfl at_78 (pc' := 81) rfl ?_
      rintro _ T344 h344 X344 ⟨rfl, e344⟩
      subst e344
      show own_Goal p e below _ T344 (mkF m 81 #[.val (.int p0), .val (.int p1), .val (.int p2), .val (.double d322), .second, .val (.int (1 : Int32)), .val (.double d343), .second, .val (.double (9218868437227405312 : UInt64)), .second, .val (.int (1 : Int32))] [(.int (1 : Int32))])
      refine own_iload X344 rfl at_81 (pc' := 83) rfl ?_
      refine own_icmpF X344 (by decide) at_83 (pc' := 86) rfl ?_
      refine own_iconst X344 (v := (1 : Int32)) (by decide) at_86 (pc' := 87) rfl ?_
      refine own_goto X344 at_87 (pc' := 91) (by decide) (by decide) ?_
      exact own_retZ X344 (by decide) at_91 rfl (by decide) (by decide) rfl
  · -- 14
    refine own_ishl X0 (v := (16384 : Int32)) (by decide) at_5 (pc' := 6) rfl ?_
    have f345 : own_I 16384 (16384 : Int) (16384 : Int32) := own_I.lit (by decide) (by decide)
    obtain ⟨d346, e346⟩ : ∃ v, FP.i2d (16384 : Int32) = v := ⟨_, rfl⟩
    have f346 : own_D 0 16384 (16384 : Int) d346 := own_D.i2d f345 e346
    refine own_i2d X0 e346 at_6 (pc' := 7) rfl ?_
    refine own_dstoreN X0 (Ls' := #[.val (.int p0), .val (.int p1), .val (.int p2), .val (.double d346), .second, .unset, .unset, .unset, .unset, .unset, .unset]) rfl at_7 (pc' := 8) rfl ?_
    refine own_iloadN X0 rfl at_8 (pc' := 9) rfl ?_
    refine own_iconst X0 (v := (4 : Int32)) (by decide) at_9 (pc' := 10) rfl ?_
    obtain ⟨i347, e347⟩ : ∃ v, XT.ushr p2 (4 : Int32) = v := ⟨_, rfl⟩
    refine own_iushr X0 e347 at_10 (pc' := 11) rfl ?_
    refine own_iconst X0 (v := (1 : Int32)) (by decide) at_11 (pc' := 12) rfl ?_
    obtain ⟨i348, e348⟩ : ∃ v, i347 &&& (1 : Int32) = v := ⟨_, rfl⟩
    have f348 : own_I 1 i348.toInt i348 := own_I.and e348 (by decide)
    have nn348 := own_and_nn (M := 1) e348 (by decide)
    refine own_iand X0 e348 at_12 (pc' := 13) rfl ?_
    by_cases c349 : i348 = 0
    · -- yes c349
      refine own_ifT X0 (own_z_eq c349).1 at_13 (pc' := 20) (by decide) (by decide) ?_
      refine own_iconst X0 (v := (0 : Int32)) (by decide) at_20 (pc' := 21) rfl ?_
      refine own_istore X0 (Ls' := #[.val (.int p0), .val (.int p1), .val (.int p2), .val (.double d346), .second, .val (.int (0 : Int32)), .unset, .unset, .unset, .unset, .unset]) rfl at_21 (pc' := 23) rfl ?_
      refine own_iloadN X0 rfl at_23 (pc' := 24) rfl ?_
      have f350 := own_I.start p0
      obtain ⟨d351, e351⟩ : ∃ v, FP.i2d p0 = v := ⟨_, rfl⟩
      have f351 : own_D 0 2147483648 p0.toInt d351 := own_D.i2d f350 e351
      refine own_i2d X0 e351 at_24 (pc' := 25) rfl ?_
      refine own_dloadN X0 rfl at_25 (pc' := 26) rfl ?_
      obtain ⟨d352, e352⟩ : ∃ v, FP.ddiv d351 d346 = v := ⟨_, rfl⟩
      have f352 : own_D 14 2147483648 p0.toInt d352 := own_D.divp (r := 14) (P := 16384) f351 f346 (by decide) e352 (by decide) (by decide) (by decide)
      refine own_ddiv X0 e352 f352.nn at_26 (pc' := 27) rfl ?_
      refine own_dstore X0 (Ls' := #[.val (.int p0), .val (.int p1), .val (.int p2), .val (.double d346), .second, .val (.int (0 : Int32)), .val (.double d352), .second, .unset, .unset, .unset]) rfl at_27 (pc' := 29) rfl ?_
      refine own_iload X0 rfl at_29 (pc' := 31) rfl ?_
      refine own_ifT X0 (by decide) at_31 (pc' := 40) (by decide) (by decide) ?_
      refine own_iloadN X0 rfl at_40 (pc' := 41) rfl ?_
      have f353 := own_I.start p1
      obtain ⟨d354, e354⟩ : ∃ v, FP.i2d p1 = v := ⟨_, rfl⟩
      have f354 : own_D 0 2147483648 p1.toInt d354 := own_D.i2d f353 e354
      refine own_i2d X0 e354 at_41 (pc' := 42) rfl ?_
      refine own_dloadN X0 rfl at_42 (pc' := 43) rfl ?_
      obtain ⟨d355, e355⟩ : ∃ v, FP.ddiv d354 d346 = v := ⟨_, rfl⟩
      have f355 : own_D 14 2147483648 p1.toInt d355 := own_D.divp (r := 14) (P := 16384) f354 f346 (by decide) e355 (by decide) (by decide) (by decide)
      refine own_ddiv X0 e355 f355.nn at_43 (pc' := 44) rfl ?_
      refine own_dstore X0 (Ls' := #[.val (.int p0), .val (.int p1), .val (.int p2), .val (.double d346), .second, .val (.int (0 : Int32)), .val (.double d352), .second, .val (.double d355), .second, .unset]) rfl at_44 (pc' := 46) rfl ?_
      refine own_iload X0 rfl at_46 (pc' := 48) rfl ?_
      refine own_ifT X0 (by decide) at_48 (pc' := 55) (by decide) (by decide) ?_
      refine own_ldcJ X0 (v := (2 : Int64)) (hw _ (List.mem_of_getElem? (i := 0) rfl)) at_55 (pc' := 58) rfl ?_
      refine own_iloadN X0 rfl at_58 (pc' := 59) rfl ?_
      obtain ⟨j356, e356⟩ : ∃ v, p0.toInt64 = v := ⟨_, rfl⟩
      have f356 : own_L 2147483648 p0.toInt j356 := own_L.ofI f350 e356
      refine own_i2l X0 e356 at_59 (pc' := 60) rfl ?_
      obtain ⟨j357, e357⟩ : ∃ v, (2 : Int64) * j356 = v := ⟨_, rfl⟩
      have f358 : own_L 2 (2 : Int) (2 : Int64) := own_L.lit (by decide) (by decide)
      have f357 : own_L 4294967296 ((2 : Int) * p0.toInt) j357 := f358.mul f356 e357 (by decide) (by decide)
      refine own_lmul X0 e357 at_60 (pc' := 61) rfl ?_
      refine own_iloadN X0 rfl at_61 (pc' := 62) rfl ?_
      obtain ⟨j359, e359⟩ : ∃ v, p1.toInt64 = v := ⟨_, rfl⟩
      have f359 : own_L 2147483648 p1.toInt j359 := own_L.ofI f353 e359
      refine own_i2l X0 e359 at_62 (pc' := 63) rfl ?_
      refine own_lcmp X0 (f357.cmp f359) at_63 (pc' := 64) rfl ?_
      by_cases c360 : ((2 : Int) * p0.toInt) < p1.toInt
      · -- yes c360
        refine own_ifF X0 (own_c3_lt c360).2 at_64 (pc' := 67) rfl ?_
        refine own_iconst X0 (v := (1 : Int32)) (by decide) at_67 (pc' := 68) rfl ?_
        refine own_goto X0 at_68 (pc' := 72) (by decide) (by decide) ?_
        refine own_istore X0 (Ls' := #[.val (.int p0), .val (.int p1), .val (.int p2), .val (.double d346), .second, .val (.int (0 : Int32)), .val (.double d352), .second, .val (.double d355), .second, .val (.int (1 : Int32))]) rfl at_72 (pc' := 74) rfl ?_
        refine own_dload X0 rfl at_74 (pc' := 76) rfl ?_
        refine own_dload X0 rfl at_76 (pc' := 78) rfl ?_
        refine own_callS X0 (own_sf l Z a0 hw d352 d355 p0.toInt p1.toInt 14 2147483648 2147483648 _ n0 X0.le f352 f355 (by decide) (by decide)) (hw _ (List.mem_of_getElem? (i := 1) rfl)) (hw _ (List.mem_of_getElem? (i := 2) rfl)) (hw _ (List.mem_of_getElem? (i := 3) rfl)) (hw _ (List.mem_of_getElem? (i := 4) rfl)) (by decide) rfl (by decide) (W := 0) (Nat.le_of_eq rfl) (by decide) (cells' := 0) (slots' := 0) rfl rfl (by decide) (by decide) (argsL := [(.double d352), (.double d355)]) (rest := []) (lenOf own_pd0 rfl) rfl rfl at_78 (pc' := 81) rfl ?_
        rintro _ T361 h361 X361 ⟨rfl, e361⟩
        subst e361
        show own_Goal p e below _ T361 (mkF m 81 #[.val (.int p0), .val (.int p1), .val (.int p2), .val (.double d346), .second, .val (.int (0 : Int32)), .val (.double d352), .second, .val (.double d355), .second, .val (.int (1 : Int32))] [(.int (if 2 * p0.toInt < p1.toInt then 1 else 0 : Int32))])
        refine own_iload X361 rfl at_81 (pc' := 83) rfl ?_
        have c362 : (if 2 * p0.toInt < p1.toInt then 1 else 0 : Int32) = (1 : Int32) := if_pos c360
        refine own_icmpF X361 (own_i_eq c362).2 at_83 (pc' := 86) rfl ?_
        refine own_iconst X361 (v := (1 : Int32)) (by decide) at_86 (pc' := 87) rfl ?_
        refine own_goto X361 at_87 (pc' := 91) (by decide) (by decide) ?_
        exact own_retZ X361 (by decide) at_91 rfl (by decide) (by decide) rfl
      · -- no c360
        refine own_ifT X0 (own_c3_nlt c360).2 at_64 (pc' := 71) (by decide) (by decide) ?_
        refine own_iconst X0 (v := (0 : Int32)) (by decide) at_71 (pc' := 72) rfl ?_
        refine own_istore X0 (Ls' := #[.val (.int p0), .val (.int p1), .val (.int p2), .val (.double d346), .second, .val (.int (0 : Int32)), .val (.double d352), .second, .val (.double d355), .second, .val (.int (0 : Int32))]) rfl at_72 (pc' := 74) rfl ?_
        refine own_dload X0 rfl at_74 (pc' := 76) rfl ?_
        refine own_dload X0 rfl at_76 (pc' := 78) rfl ?_
        refine own_callS X0 (own_sf l Z a0 hw d352 d355 p0.toInt p1.toInt 14 2147483648 2147483648 _ n0 X0.le f352 f355 (by decide) (by decide)) (hw _ (List.mem_of_getElem? (i := 1) rfl)) (hw _ (List.mem_of_getElem? (i := 2) rfl)) (hw _ (List.mem_of_getElem? (i := 3) rfl)) (hw _ (List.mem_of_getElem? (i := 4) rfl)) (by decide) rfl (by decide) (W := 0) (Nat.le_of_eq rfl) (by decide) (cells' := 0) (slots' := 0) rfl rfl (by decide) (by decide) (argsL := [(.double d352), (.double d355)]) (rest := []) (lenOf own_pd0 rfl) rfl rfl at_78 (pc' := 81) rfl ?_
        rintro _ T363 h363 X363 ⟨rfl, e363⟩
        subst e363
        show own_Goal p e below _ T363 (mkF m 81 #[.val (.int p0), .val (.int p1), .val (.int p2), .val (.double d346), .second, .val (.int (0 : Int32)), .val (.double d352), .second, .val (.double d355), .second, .val (.int (0 : Int32))] [(.int (if 2 * p0.toInt < p1.toInt then 1 else 0 : Int32))])
        refine own_iload X363 rfl at_81 (pc' := 83) rfl ?_
        have c364 : (if 2 * p0.toInt < p1.toInt then 1 else 0 : Int32) = (0 : Int32) := if_neg c360
        refine own_icmpF X363 (own_i_eq c364).2 at_83 (pc' := 86) rfl ?_
        refine own_iconst X363 (v := (1 : Int32)) (by decide) at_86 (pc' := 87) rfl ?_
        refine own_goto X363 at_87 (pc' := 91) (by decide) (by decide) ?_
        exact own_retZ X363 (by decide) at_91 rfl (by decide) (by decide) rfl
    · -- no c349
      refine own_ifF X0 (own_z_ne c349).1 at_13 (pc' := 16) rfl ?_
      refine own_iconst X0 (v := (1 : Int32)) (by decide) at_16 (pc' := 17) rfl ?_
      refine own_goto X0 at_17 (pc' := 21) (by decide) (by decide) ?_
      refine own_istore X0 (Ls' := #[.val (.int p0), .val (.int p1), .val (.int p2), .val (.double d346), .second, .val (.int (1 : Int32)), .unset, .unset, .unset, .unset, .unset]) rfl at_21 (pc' := 23) rfl ?_
      refine own_iloadN X0 rfl at_23 (pc' := 24) rfl ?_
      have f365 := own_I.start p0
      obtain ⟨d366, e366⟩ : ∃ v, FP.i2d p0 = v := ⟨_, rfl⟩
      have f366 : own_D 0 2147483648 p0.toInt d366 := own_D.i2d f365 e366
      refine own_i2d X0 e366 at_24 (pc' := 25) rfl ?_
      refine own_dloadN X0 rfl at_25 (pc' := 26) rfl ?_
      obtain ⟨d367, e367⟩ : ∃ v, FP.ddiv d366 d346 = v := ⟨_, rfl⟩
      have f367 : own_D 14 2147483648 p0.toInt d367 := own_D.divp (r := 14) (P := 16384) f366 f346 (by decide) e367 (by decide) (by decide) (by decide)
      refine own_ddiv X0 e367 f367.nn at_26 (pc' := 27) rfl ?_
      refine own_dstore X0 (Ls' := #[.val (.int p0), .val (.int p1), .val (.int p2), .val (.double d346), .second, .val (.int (1 : Int32)), .val (.double d367), .second, .unset, .unset, .unset]) rfl at_27 (pc' := 29) rfl ?_
      refine own_iload X0 rfl at_29 (pc' := 31) rfl ?_
      refine own_ifF X0 (by decide) at_31 (pc' := 34) rfl ?_
      refine own_ldcD X0 (v := (9218868437227405312 : UInt64)) (hw _ (List.mem_of_getElem? (i := 6) rfl)) at_34 (pc' := 37) rfl ?_
      refine own_goto X0 at_37 (pc' := 44) (by decide) (by decide) ?_
      refine own_dstore X0 (Ls' := #[.val (.int p0), .val (.int p1), .val (.int p2), .val (.double d346), .second, .val (.int (1 : Int32)), .val (.double d367), .second, .val (.double (9218868437227405312 : UInt64)), .second, .unset]) rfl at_44 (pc' := 46) rfl ?_
      refine own_iload X0 rfl at_46 (pc' := 48) rfl ?_
      refine own_ifF X0 (by decide) at_48 (pc' := 51) rfl ?_
      refine own_iconst X0 (v := (1 : Int32)) (by decide) at_51 (pc' := 52) rfl ?_
      refine own_goto X0 at_52 (pc' := 72) (by decide) (by decide) ?_
      refine own_istore X0 (Ls' := #[.val (.int p0), .val (.int p1), .val (.int p2), .val (.double d346), .second, .val (.int (1 : Int32)), .val (.double d367), .second, .val (.double (9218868437227405312 : UInt64)), .second, .val (.int (1 : Int32))]) rfl at_72 (pc' := 74) rfl ?_
      refine own_dload X0 rfl at_74 (pc' := 76) rfl ?_
      refine own_dload X0 rfl at_76 (pc' := 78) rfl ?_
      refine own_callS X0 (own_si l Z a0 hw d367 p0.toInt 14 2147483648 _ n0 X0.le f367) (hw _ (List.mem_of_getElem? (i := 1) rfl)) (hw _ (List.mem_of_getElem? (i := 2) rfl)) (hw _ (List.mem_of_getElem? (i := 3) rfl)) (hw _ (List.mem_of_getElem? (i := 4) rfl)) (by decide) rfl (by decide) (W := 0) (Nat.le_of_eq rfl) (by decide) (cells' := 0) (slots' := 0) rfl rfl (by decide) (by decide) (argsL := [(.double d367), (.double (9218868437227405312 : UInt64))]) (rest := []) (lenOf own_pd0 rfl) rfl rfl at_78 (pc' := 81) rfl ?_
      rintro _ T368 h368 X368 ⟨rfl, e368⟩
      subst e368
      show own_Goal p e below _ T368 (mkF m 81 #[.val (.int p0), .val (.int p1), .val (.int p2), .val (.double d346), .second, .val (.int (1 : Int32)), .val (.double d367), .second, .val (.double (9218868437227405312 : UInt64)), .second, .val (.int (1 : Int32))] [(.int (1 : Int32))])
      refine own_iload X368 rfl at_81 (pc' := 83) rfl ?_
      refine own_icmpF X368 (by decide) at_83 (pc' := 86) rfl ?_
      refine own_iconst X368 (v := (1 : Int32)) (by decide) at_86 (pc' := 87) rfl ?_
      refine own_goto X368 at_87 (pc' := 91) (by decide) (by decide) ?_
      exact own_retZ X368 (by decide) at_91 rfl (by decide) (by decide) rfl
  · -- 15
    refine own_ishl X0 (v := (32768 : Int32)) (by decide) at_5 (pc' := 6) rfl ?_
    have f369 : own_I 32768 (32768 : Int) (32768 : Int32) := own_I.lit (by decide) (by decide)
    obtain ⟨d370, e370⟩ : ∃ v, FP.i2d (32768 : Int32) = v := ⟨_, rfl⟩
    have f370 : own_D 0 32768 (32768 : Int) d370 := own_D.i2d f369 e370
    refine own_i2d X0 e370 at_6 (pc' := 7) rfl ?_
    refine own_dstoreN X0 (Ls' := #[.val (.int p0), .val (.int p1), .val (.int p2), .val (.double d370), .second, .unset, .unset, .unset, .unset, .unset, .unset]) rfl at_7 (pc' := 8) rfl ?_
    refine own_iloadN X0 rfl at_8 (pc' := 9) rfl ?_
    refine own_iconst X0 (v := (4 : Int32)) (by decide) at_9 (pc' := 10) rfl ?_
    obtain ⟨i371, e371⟩ : ∃ v, XT.ushr p2 (4 : Int32) = v := ⟨_, rfl⟩
    refine own_iushr X0 e371 at_10 (pc' := 11) rfl ?_
    refine own_iconst X0 (v := (1 : Int32)) (by decide) at_11 (pc' := 12) rfl ?_
    obtain ⟨i372, e372⟩ : ∃ v, i371 &&& (1 : Int32) = v := ⟨_, rfl⟩
    have f372 : own_I 1 i372.toInt i372 := own_I.and e372 (by decide)
    have nn372 := own_and_nn (M := 1) e372 (by decide)
    refine own_iand X0 e372 at_12 (pc' := 13) rfl ?_
    by_cases c373 : i372 = 0
    · -- yes c373
      refine own_ifT X0 (own_z_eq c373).1 at_13 (pc' := 20) (by decide) (by decide) ?_
      refine own_iconst X0 (v := (0 : Int32)) (by decide) at_20 (pc' := 21) rfl ?_
      refine own_istore X0 (Ls' := #[.val (.int p0), .val (.int p1), .val (.int p2), .val (.double d370), .second, .val (.int (0 : Int32)), .unset, .unset, .unset, .unset, .unset]) rfl at_21 (pc' := 23) rfl ?_
      refine own_iloadN X0 rfl at_23 (pc' := 24) rfl ?_
      have f374 := own_I.start p0
      obtain ⟨d375, e375⟩ : ∃ v, FP.i2d p0 = v := ⟨_, rfl⟩
      have f375 : own_D 0 2147483648 p0.toInt d375 := own_D.i2d f374 e375
      refine own_i2d X0 e375 at_24 (pc' := 25) rfl ?_
      refine own_dloadN X0 rfl at_25 (pc' := 26) rfl ?_
      obtain ⟨d376, e376⟩ : ∃ v, FP.ddiv d375 d370 = v := ⟨_, rfl⟩
      have f376 : own_D 15 2147483648 p0.toInt d376 := own_D.divp (r := 15) (P := 32768) f375 f370 (by decide) e376 (by decide) (by decide) (by decide)
      refine own_ddiv X0 e376 f376.nn at_26 (pc' := 27) rfl ?_
      refine own_dstore X0 (Ls' := #[.val (.int p0), .val (.int p1), .val (.int p2), .val (.double d370), .second, .val (.int (0 : Int32)), .val (.double d376), .second, .unset, .unset, .unset]) rfl at_27 (pc' := 29) rfl ?_
      refine own_iload X0 rfl at_29 (pc' := 31) rfl ?_
      refine own_ifT X0 (by decide) at_31 (pc' := 40) (by decide) (by decide) ?_
      refine own_iloadN X0 rfl at_40 (pc' := 41) rfl ?_
      have f377 := own_I.start p1
      obtain ⟨d378, e378⟩ : ∃ v, FP.i2d p1 = v := ⟨_, rfl⟩
      have f378 : own_D 0 2147483648 p1.toInt d378 := own_D.i2d f377 e378
      refine own_i2d X0 e378 at_41 (pc' := 42) rfl ?_
      refine own_dloadN X0 rfl at_42 (pc' := 43) rfl ?_
      obtain ⟨d379, e379⟩ : ∃ v, FP.ddiv d378 d370 = v := ⟨_, rfl⟩
      have f379 : own_D 15 2147483648 p1.toInt d379 := own_D.divp (r := 15) (P := 32768) f378 f370 (by decide) e379 (by decide) (by decide) (by decide)
      refine own_ddiv X0 e379 f379.nn at_43 (pc' := 44) rfl ?_
      refine own_dstore X0 (Ls' := #[.val (.int p0), .val (.int p1), .val (.int p2), .val (.double d370), .second, .val (.int (0 : Int32)), .val (.double d376), .second, .val (.double d379), .second, .unset]) rfl at_44 (pc' := 46) rfl ?_
      refine own_iload X0 rfl at_46 (pc' := 48) rfl ?_
      refine own_ifT X0 (by decide) at_48 (pc' := 55) (by decide) (by decide) ?_
      refine own_ldcJ X0 (v := (2 : Int64)) (hw _ (List.mem_of_getElem? (i := 0) rfl)) at_55 (pc' := 58) rfl ?_
      refine own_iloadN X0 rfl at_58 (pc' := 59) rfl ?_
      obtain ⟨j380, e380⟩ : ∃ v, p0.toInt64 = v := ⟨_, rfl⟩
      have f380 : own_L 2147483648 p0.toInt j380 := own_L.ofI f374 e380
      refine own_i2l X0 e380 at_59 (pc' := 60) rfl ?_
      obtain ⟨j381, e381⟩ : ∃ v, (2 : Int64) * j380 = v := ⟨_, rfl⟩
      have f382 : own_L 2 (2 : Int) (2 : Int64) := own_L.lit (by decide) (by decide)
      have f381 : own_L 4294967296 ((2 : Int) * p0.toInt) j381 := f382.mul f380 e381 (by decide) (by decide)
      refine own_lmul X0 e381 at_60 (pc' := 61) rfl ?_
      refine own_iloadN X0 rfl at_61 (pc' := 62) rfl ?_
      obtain ⟨j383, e383⟩ : ∃ v, p1.toInt64 = v := ⟨_, rfl⟩
      have f383 : own_L 2147483648 p1.toInt j383 := own_L.ofI f377 e383
      refine own_i2l X0 e383 at_62 (pc' := 63) rfl ?_
      refine own_lcmp X0 (f381.cmp f383) at_63 (pc' := 64) rfl ?_
      by_cases c384 : ((2 : Int) * p0.toInt) < p1.toInt
      · -- yes c384
        refine own_ifF X0 (own_c3_lt c384).2 at_64 (pc' := 67) rfl ?_
        refine own_iconst X0 (v := (1 : Int32)) (by decide) at_67 (pc' := 68) rfl ?_
        refine own_goto X0 at_68 (pc' := 72) (by decide) (by decide) ?_
        refine own_istore X0 (Ls' := #[.val (.int p0), .val (.int p1), .val (.int p2), .val (.double d370), .second, .val (.int (0 : Int32)), .val (.double d376), .second, .val (.double d379), .second, .val (.int (1 : Int32))]) rfl at_72 (pc' := 74) rfl ?_
        refine own_dload X0 rfl at_74 (pc' := 76) rfl ?_
        refine own_dload X0 rfl at_76 (pc' := 78) rfl ?_
        refine own_callS X0 (own_sf l Z a0 hw d376 d379 p0.toInt p1.toInt 15 2147483648 2147483648 _ n0 X0.le f376 f379 (by decide) (by decide)) (hw _ (List.mem_of_getElem? (i := 1) rfl)) (hw _ (List.mem_of_getElem? (i := 2) rfl)) (hw _ (List.mem_of_getElem? (i := 3) rfl)) (hw _ (List.mem_of_getElem? (i := 4) rfl)) (by decide) rfl (by decide) (W := 0) (Nat.le_of_eq rfl) (by decide) (cells' := 0) (slots' := 0) rfl rfl (by decide) (by decide) (argsL := [(.double d376), (.double d379)]) (rest := []) (lenOf own_pd0 rfl) rfl rfl at_78 (pc' := 81) rfl ?_
        rintro _ T385 h385 X385 ⟨rfl, e385⟩
        subst e385
        show own_Goal p e below _ T385 (mkF m 81 #[.val (.int p0), .val (.int p1), .val (.int p2), .val (.double d370), .second, .val (.int (0 : Int32)), .val (.double d376), .second, .val (.double d379), .second, .val (.int (1 : Int32))] [(.int (if 2 * p0.toInt < p1.toInt then 1 else 0 : Int32))])
        refine own_iload X385 rfl at_81 (pc' := 83) rfl ?_
        have c386 : (if 2 * p0.toInt < p1.toInt then 1 else 0 : Int32) = (1 : Int32) := if_pos c384
        refine own_icmpF X385 (own_i_eq c386).2 at_83 (pc' := 86) rfl ?_
        refine own_iconst X385 (v := (1 : Int32)) (by decide) at_86 (pc' := 87) rfl ?_
        refine own_goto X385 at_87 (pc' := 91) (by decide) (by decide) ?_
        exact own_retZ X385 (by decide) at_91 rfl (by decide) (by decide) rfl
      · -- no c384
        refine own_ifT X0 (own_c3_nlt c384).2 at_64 (pc' := 71) (by decide) (by decide) ?_
        refine own_iconst X0 (v := (0 : Int32)) (by decide) at_71 (pc' := 72) rfl ?_
        refine own_istore X0 (Ls' := #[.val (.int p0), .val (.int p1), .val (.int p2), .val (.double d370), .second, .val (.int (0 : Int32)), .val (.double d376), .second, .val (.double d379), .second, .val (.int (0 : Int32))]) rfl at_72 (pc' := 74) rfl ?_
        refine own_dload X0 rfl at_74 (pc' := 76) rfl ?_
        refine own_dload X0 rfl at_76 (pc' := 78) rfl ?_
        refine own_callS X0 (own_sf l Z a0 hw d376 d379 p0.toInt p1.toInt 15 2147483648 2147483648 _ n0 X0.le f376 f379 (by decide) (by decide)) (hw _ (List.mem_of_getElem? (i := 1) rfl)) (hw _ (List.mem_of_getElem? (i := 2) rfl)) (hw _ (List.mem_of_getElem? (i := 3) rfl)) (hw _ (List.mem_of_getElem? (i := 4) rfl)) (by decide) rfl (by decide) (W := 0) (Nat.le_of_eq rfl) (by decide) (cells' := 0) (slots' := 0) rfl rfl (by decide) (by decide) (argsL := [(.double d376), (.double d379)]) (rest := []) (lenOf own_pd0 rfl) rfl rfl at_78 (pc' := 81) rfl ?_
        rintro _ T387 h387 X387 ⟨rfl, e387⟩
        subst e387
        show own_Goal p e below _ T387 (mkF m 81 #[.val (.int p0), .val (.int p1), .val (.int p2), .val (.double d370), .second, .val (.int (0 : Int32)), .val (.double d376), .second, .val (.double d379), .second, .val (.int (0 : Int32))] [(.int (if 2 * p0.toInt < p1.toInt then 1 else 0 : Int32))])
        refine own_iload X387 rfl at_81 (pc' := 83) rfl ?_
        have c388 : (if 2 * p0.toInt < p1.toInt then 1 else 0 : Int32) = (0 : Int32) := if_neg c384
        refine own_icmpF X387 (own_i_eq c388).2 at_83 (pc' := 86) rfl ?_
        refine own_iconst X387 (v := (1 : Int32)) (by decide) at_86 (pc' := 87) rfl ?_
        refine own_goto X387 at_87 (pc' := 91) (by decide) (by decide) ?_
        exact own_retZ X387 (by decide) at_91 rfl (by decide) (by decide) rfl
    · -- no c373
      refine own_ifF X0 (own_z_ne c373).1 at_13 (pc' := 16) rfl ?_
      refine own_iconst X0 (v := (1 : Int32)) (by decide) at_16 (pc' := 17) rfl ?_
      refine own_goto X0 at_17 (pc' := 21) (by decide) (by decide) ?_
      refine own_istore X0 (Ls' := #[.val (.int p0), .val (.int p1), .val (.int p2), .val (.double d370), .second, .val (.int (1 : Int32)), .unset, .unset, .unset, .unset, .unset]) rfl at_21 (pc' := 23) rfl ?_
      refine own_iloadN X0 rfl at_23 (pc' := 24) rfl ?_
      have f389 := own_I.start p0
      obtain ⟨d390, e390⟩ : ∃ v, FP.i2d p0 = v := ⟨_, rfl⟩
      have f390 : own_D 0 2147483648 p0.toInt d390 := own_D.i2d f389 e390
      refine own_i2d X0 e390 at_24 (pc' := 25) rfl ?_
      refine own_dloadN X0 rfl at_25 (pc' := 26) rfl ?_
      obtain ⟨d391, e391⟩ : ∃ v, FP.ddiv d390 d370 = v := ⟨_, rfl⟩
      have f391 : own_D 15 2147483648 p0.toInt d391 := own_D.divp (r := 15) (P := 32768) f390 f370 (by decide) e391 (by decide) (by decide) (by decide)
      refine own_ddiv X0 e391 f391.nn at_26 (pc' := 27) rfl ?_
      refine own_dstore X0 (Ls' := #[.val (.int p0), .val (.int p1), .val (.int p2), .val (.double d370), .second, .val (.int (1 : Int32)), .val (.double d391), .second, .unset, .unset, .unset]) rfl at_27 (pc' := 29) rfl ?_
      refine own_iload X0 rfl at_29 (pc' := 31) rfl ?_
      refine own_ifF X0 (by decide) at_31 (pc' := 34) rfl ?_
      refine own_ldcD X0 (v := (9218868437227405312 : UInt64)) (hw _ (List.mem_of_getElem? (i := 6) rfl)) at_34 (pc' := 37) rfl ?_
      refine own_goto X0 at_37 (pc' := 44) (by decide) (by decide) ?_
      refine own_dstore X0 (Ls' := #[.val (.int p0), .val (.int p1), .val (.int p2), .val (.double d370), .second, .val (.int (1 : Int32)), .val (.double d391), .second, .val (.double (9218868437227405312 : UInt64)), .second, .unset]) rfl at_44 (pc' := 46) rfl ?_
      refine own_iload X0 rfl at_46 (pc' := 48) rfl ?_
      refine own_ifF X0 (by decide) at_48 (pc' := 51) rfl ?_
      refine own_iconst X0 (v := (1 : Int32)) (by decide) at_51 (pc' := 52) rfl ?_
      refine own_goto X0 at_52 (pc' := 72) (by decide) (by decide) ?_
      refine own_istore X0 (Ls' := #[.val (.int p0), .val (.int p1), .val (.int p2), .val (.double d370), .second, .val (.int (1 : Int32)), .val (.double d391), .second, .val (.double (9218868437227405312 : UInt64)), .second, .val (.int (1 : Int32))]) rfl at_72 (pc' := 74) rfl ?_
      refine own_dload X0 rfl at_74 (pc' := 76) rfl ?_
      refine own_dload X0 rfl at_76 (pc' := 78) rfl ?_
      refine own_callS X0 (own_si l Z a0 hw d391 p0.toInt 15 2147483648 _ n0 X0.le f391) (hw _ (List.mem_of_getElem? (i := 1) rfl)) (hw _ (List.mem_of_getElem? (i := 2) rfl)) (hw _ (List.mem_of_getElem? (i := 3) rfl)) (hw _ (List.mem_of_getElem? (i := 4) rfl)) (by decide) rfl (by decide) (W := 0) (Nat.le_of_eq rfl) (by decide) (cells' := 0) (slots' := 0) rfl rfl (by decide) (by decide) (argsL := [(.double d391), (.double (9218868437227405312 : UInt64))]) (rest := []) (lenOf own_pd0 rfl) rfl rfl at_78 (pc' := 81) rfl ?_
      rintro _ T392 h392 X392 ⟨rfl, e392⟩
      subst e392
      show own_Goal p e below _ T392 (mkF m 81 #[.val (.int p0), .val (.int p1), .val (.int p2), .val (.double d370), .second, .val (.int (1 : Int32)), .val (.double d391), .second, .val (.double (9218868437227405312 : UInt64)), .second, .val (.int (1 : Int32))] [(.int (1 : Int32))])
      refine own_iload X392 rfl at_81 (pc' := 83) rfl ?_
      refine own_icmpF X392 (by decide) at_83 (pc' := 86) rfl ?_
      refine own_iconst X392 (v := (1 : Int32)) (by decide) at_86 (pc' := 87) rfl ?_
      refine own_goto X392 at_87 (pc' := 91) (by decide) (by decide) ?_
      exact own_retZ X392 (by decide) at_91 rfl (by decide) (by decide) rfl
set_option maxRecDepth 65536 in
set_option maxHeartbeats 40000000 in
theorem comes_1 {Post : Tables → Env → Array Value → State → Outcome → State → Prop} (hpost : ∀ tb e args s v u, (limb_1_1.after args s (.returned v) u = true ∧ limb_1_2.after args s (.returned v) u = true ∧ True) → FrameEnd s (.returned v) u (Jvm.fieldLocs frame_1_writes args s ++ Jvm.arrayLocs frame_1_arrays args s ++ Jvm.staticLocs frame_1_statics s) 0 0 → Post tb e args s (.returned v) u) :
    ArmFor flags0 classFile x code maxLocals ret World_1 tables_1 room_1 Calls_1 rest_1 Pre_1 Post := by
  intro l hfl _ _ p e ha hc hk s m args below hf hA hF happ hP
  obtain ⟨hcalls, hrest, hpre⟩ := hP
  obtain ⟨-, -, -, hnamed, -, -, -, hat⟩ := (Spec.applies_iff hf).mp happ
  obtain ⟨hg, hn⟩ := and_e (Cond.before_iff.mp (show (Jvm.Cond.and given_1 narrow_1).before args s = true from hpre))
  obtain ⟨h1, g0⟩ := and_e hg
  obtain ⟨k0, g1⟩ := and_e g0
  obtain ⟨k1, g2⟩ := and_e g1
  obtain ⟨w0, w1, w2, rfl⟩ : ∃ w0 w1 w2 : Value, args = #[w0, w1, w2] := by
    have hs : args.size = 3 := by simpa [Cond.value, given_1] using h1
    obtain ⟨L⟩ := args
    match L, hs with
    | [w0, w1, w2], _ => exact ⟨w0, w1, w2, rfl⟩
  have hw := fun d (hd : d ∈ tables_1) => atoms_spec (ws := Jvm.Cond.code x code maxLocals ret :: tables_1) hat d (List.mem_cons_of_mem _ hd)
  obtain ⟨p0, e0⟩ := is_v k0
  obtain rfl : w0 = (.int p0) := Option.some.inj e0
  obtain ⟨p1, e1⟩ := is_v k1
  obtain rfl : w1 = (.int p1) := Option.some.inj e1
  obtain ⟨p2, e2⟩ := is_v g2
  obtain rfl : w2 = (.int p2) := Option.some.inj e2
  obtain ⟨n, o, h1, h2, h3, _, L, rfl, ⟨⟨rfl, -⟩, N⟩, hq⟩ := own_law l s _ hw tables_1 p0 p1 p2 s.heap s.heap.size (Nat.le_refl _)  p e ha hc hk s m _ below hf ((Spec.applies_iff_loose hf).mp happ).1 ⟨rfl, State.Warmed39.refl s, rfl⟩ trivial
  refine ⟨n, _, h1, h2, h3, hpost _ _ _ _ _ _ ⟨Cond.after_iff.mpr rfl, Cond.after_iff.mpr (eq_i res_at (Term.int_eval (1)) rfl), trivial⟩ ⟨hq.1, hq.2.1, (hq.2.2.sift fun y hy => Or.inr (N y hy)).mono (by decide) (by decide)⟩⟩
theorem main_1_1 : Claimed_1_1 := comes_1 fun _ _ _ _ _ _ h hF => ⟨h.1, hF⟩
theorem main_1_2 : Claimed_1_2 := comes_1 fun _ _ _ _ _ _ h hF => ⟨h.2.1, hF⟩
end Jvm.Pilot.@@N@@
namespace Jvm.Pilot.@@N@@
open Jvm Jvm.ClassFile Sem Op Lib Jvm.Free Jvm.Stand Jvm.Pilot.@@N@@.Jvm.D
/-! MADE BY PROGRAM (witnessworld.py) out of the Statement's table words and the real class files: 9 classes; the members and pool entries that the words name. The judged class is class 1, her method 1. -/
namespace start1
open Jvm.ClassFile
def u (s : String) : CpInfo := .utf8 (stringToUtf16 s)
/-- a pool by its gaps: so many unusable entries, then the entry; so many at the end -/
def gap : Nat → List CpInfo → List CpInfo
  | 0, r => r
  | n + 1, r => .unusable :: gap n r
def poolList (es : List (Nat × CpInfo)) (last : Nat) : List CpInfo := es.foldr (fun e r => gap e.1 (e.2 :: r)) (gap last [])
def pool (es : List (Nat × CpInfo)) (last : Nat) : Array CpInfo := ⟨poolList es last⟩
def fileOf (pool : Array CpInfo) (this : Nat) (attrs : Array Attribute := #[]) (ms : Array MethodInfo := #[]) (fl : Nat := 33) (sup : Nat := 0) (ifs : Array Nat := #[]) (fds : Array FieldInfo := #[]) : ClassFile where
  minorVersion := 0
  majorVersion := 65
  constantPool := pool
  accessFlags := fl
  thisClass := this
  superClass := sup
  interfaces := ifs
  fields := fds
  methods := ms
  attributes := attrs
def plain (name : String) (sup : Option ClassId) : Class where
  name := name
  kind := .ordinary
  loader := none
  accessFlags := 33
  super := sup
  interfaces := #[]
  cf := none
  fields := #[]
  methods := #[]
  instanceTypes := #[]
  staticTypes := #[]
  resolved := #[]
  callSites := []
  init := .initialized
  statics := none
  mirror := none

def pool0 : Array CpInfo := pool [(5, u "<init>"), (0, u "()V"), (1, .class_ 10), (1, u "java/lang/Object")] 113

def k0m0 : Method := { name := "<init>", desc := "()V", sig := { parameters := [], returnType := none }, accessFlags := 1, code := none }
/-- java/lang/Object -/
def k0 : Class := { plain "java/lang/Object" none with
  accessFlags := 33
  interfaces := #[]
  cf := some (fileOf pool0 8 #[] #[{ accessFlags := 1, nameIndex := 5, descriptorIndex := 6, attributes := #[] }] 33 0 #[] #[])
  fields := #[]
  methods := #[k0m0]
  instanceTypes := #[]
  staticTypes := #[]
  resolved := Array.replicate 124 none
  statics := none }

def pool1 : Array CpInfo := pool [(2, .class_ 4), (1, u "java/lang/Object"), (0, u "<init>"), (0, u "()V"), (2, .double 9218868437227405312), (1, .long 2), (1, .methodref 14 15), (0, .class_ 16), (0, .nameAndType 17 18), (0, u "com/example/nullstelle/nullstelle/Bracket"), (0, u "shrinksFast"), (0, u "(DD)Z"), (0, .class_ 20), (0, u "com/example/nullstelle/nullstelle/BracketShrinksFastPinLaw"), (2, u "law"), (0, u "(III)Z")] 3

def k1m0 : Method := { name := "<init>", desc := "()V", sig := { parameters := [], returnType := none }, accessFlags := 1, code := none }
def k1c1 : Code := { maxStack := 4, maxLocals := 11, code := code, exceptionTable := #[], attributes := #[] }
def k1m1 : Method := { name := "law", desc := "(III)Z", sig := { parameters := [.int, .int, .int], returnType := some .boolean }, accessFlags := 9, code := some k1c1 }
/-- com/example/nullstelle/nullstelle/BracketShrinksFastPinLaw -/
def k1 : Class := { plain "com/example/nullstelle/nullstelle/BracketShrinksFastPinLaw" (some 0) with
  accessFlags := 49
  interfaces := #[]
  cf := some (fileOf pool1 19 #[] #[{ accessFlags := 1, nameIndex := 5, descriptorIndex := 6, attributes := #[] }, { accessFlags := 9, nameIndex := 23, descriptorIndex := 24, attributes := #[] }] 49 2 #[] #[])
  fields := #[]
  methods := #[k1m0, k1m1]
  instanceTypes := #[]
  staticTypes := #[]
  resolved := Array.replicate 28 none
  statics := none }

def pool2 : Array CpInfo := pool [(22, .class_ 24), (1, u "com/example/nullstelle/nullstelle/Bracket"), (3, u "lo"), (3, u "fLo"), (2, u "hi"), (2, u "fHi"), (5, .class_ 46), (1, u "java/lang/Object"), (7, u "D"), (8, u "replaced"), (2, u "fReplaced"), (2, u "startSize"), (2, u "startWidth"), (2, u "width"), (2, u "evaluator"), (0, u "Lcom/example/nullstelle/nullstelle/Evaluator;"), (38, .class_ 119), (0, u "com/example/nullstelle/nullstelle/Bracket$Step"), (55, u "iterations"), (0, u "I"), (35, .double 4611686018427387904), (45, u "betterIsLo"), (0, u "Z"), (2, u "newestIsLo"), (27, u "(DD)Z"), (26, u "shrinksFast")] 29

def k2c0 : Code := { maxStack := 6, maxLocals := 4, code := prog_3_method_16_code, exceptionTable := #[], attributes := #[] }
def k2m0 : Method := { name := "shrinksFast", desc := "(DD)Z", sig := { parameters := [.double, .double], returnType := some .boolean }, accessFlags := 8, code := some k2c0 }
/-- com/example/nullstelle/nullstelle/Bracket -/
def k2 : Class := { plain "com/example/nullstelle/nullstelle/Bracket" (some 0) with
  accessFlags := 48
  interfaces := #[]
  cf := some (fileOf pool2 22 #[.nestMembers #[118]] #[{ accessFlags := 8, nameIndex := 317, descriptorIndex := 290, attributes := #[] }] 48 44 #[] #[{ accessFlags := 18, nameIndex := 78, descriptorIndex := 79, attributes := #[] }, { accessFlags := 2, nameIndex := 28, descriptorIndex := 54, attributes := #[] }, { accessFlags := 2, nameIndex := 35, descriptorIndex := 54, attributes := #[] }, { accessFlags := 2, nameIndex := 32, descriptorIndex := 54, attributes := #[] }, { accessFlags := 2, nameIndex := 38, descriptorIndex := 54, attributes := #[] }, { accessFlags := 2, nameIndex := 63, descriptorIndex := 54, attributes := #[] }, { accessFlags := 2, nameIndex := 66, descriptorIndex := 54, attributes := #[] }, { accessFlags := 2, nameIndex := 258, descriptorIndex := 259, attributes := #[] }, { accessFlags := 2, nameIndex := 262, descriptorIndex := 259, attributes := #[] }, { accessFlags := 2, nameIndex := 175, descriptorIndex := 176, attributes := #[] }, { accessFlags := 2, nameIndex := 69, descriptorIndex := 54, attributes := #[] }, { accessFlags := 2, nameIndex := 72, descriptorIndex := 54, attributes := #[] }, { accessFlags := 2, nameIndex := 75, descriptorIndex := 54, attributes := #[] }])
  fields := #[{ name := "evaluator", type := (.object "com/example/nullstelle/nullstelle/Evaluator"), accessFlags := 18, slot := 0, constantValue := 0 }, { name := "lo", type := .double, accessFlags := 2, slot := 1, constantValue := 0 }, { name := "hi", type := .double, accessFlags := 2, slot := 2, constantValue := 0 }, { name := "fLo", type := .double, accessFlags := 2, slot := 3, constantValue := 0 }, { name := "fHi", type := .double, accessFlags := 2, slot := 4, constantValue := 0 }, { name := "replaced", type := .double, accessFlags := 2, slot := 5, constantValue := 0 }, { name := "fReplaced", type := .double, accessFlags := 2, slot := 6, constantValue := 0 }, { name := "betterIsLo", type := .boolean, accessFlags := 2, slot := 7, constantValue := 0 }, { name := "newestIsLo", type := .boolean, accessFlags := 2, slot := 8, constantValue := 0 }, { name := "iterations", type := .int, accessFlags := 2, slot := 9, constantValue := 0 }, { name := "startSize", type := .double, accessFlags := 2, slot := 10, constantValue := 0 }, { name := "startWidth", type := .double, accessFlags := 2, slot := 11, constantValue := 0 }, { name := "width", type := .double, accessFlags := 2, slot := 12, constantValue := 0 }]
  methods := #[k2m0]
  instanceTypes := #[(.object "com/example/nullstelle/nullstelle/Evaluator"), .double, .double, .double, .double, .double, .double, .boolean, .boolean, .int, .double, .double, .double]
  staticTypes := #[]
  resolved := Array.replicate 347 none
  statics := none }

def pool3 : Array CpInfo := pool [(1, u "java/lang/Cloneable"), (0, .class_ 1), (0, u "java/lang/Object"), (0, .class_ 3)] 3

/-- java/lang/Cloneable -/
def k3 : Class := { plain "java/lang/Cloneable" (some 0) with
  accessFlags := 1537
  interfaces := #[]
  cf := some (fileOf pool3 2 #[] #[] 1537 4 #[] #[])
  fields := #[]
  methods := #[]
  instanceTypes := #[]
  staticTypes := #[]
  resolved := Array.replicate 8 none
  statics := none }

def pool4 : Array CpInfo := pool [(1, u "java/io/Serializable"), (0, .class_ 1), (0, u "java/lang/Object"), (0, .class_ 3)] 3

/-- java/io/Serializable -/
def k4 : Class := { plain "java/io/Serializable" (some 0) with
  accessFlags := 1537
  interfaces := #[]
  cf := some (fileOf pool4 2 #[] #[] 1537 4 #[] #[])
  fields := #[]
  methods := #[]
  instanceTypes := #[]
  staticTypes := #[]
  resolved := Array.replicate 8 none
  statics := none }

/-- the primitive byte -/
def k5 : Class := { plain "byte" none with kind := .primitive 'B', accessFlags := 0x411 }
/-- [B -/
def k6 : Class := { plain "[B" (some 0) with kind := .array 5 .byte, interfaces := #[3, 4], accessFlags := 1041 }

/-- the primitive int -/
def k7 : Class := { plain "int" none with kind := .primitive 'I', accessFlags := 0x411 }
/-- [I -/
def k8 : Class := { plain "[I" (some 0) with kind := .array 7 .int, interfaces := #[3, 4], accessFlags := 1041 }

def heap : Heap := #[]
def classes : Array Class := #[k0, k1, k2, k3, k4, k5, k6, k7, k8]
def interned : List (Array UInt16 × Addr) := []
def slotsUsed : Nat := 0
def theMethod : MethodId := ⟨1, 1⟩
def args0 : Array Value := #[.int 5, .int 6, .int 7]
def aboutOver (below : List Frame) : State where
  vm := { classes := classes, interned := interned.toArray }
  heap := heap
  slotsUsed := slotsUsed
  threads := #[{ frames := .invoking theMethod args0 :: below }]
def below0 : List Frame := [.native { method := ⟨0, 0⟩, args := #[] }]
def about1 : State := aboutOver below0
def p0 : Program := .bare "" "" ""
def e0 : Env := launch0.env 0 0 0
theorem w_frames : about1.frames = Frame.invoking theMethod args0 :: below0 := rfl
set_option maxRecDepth 65536 in
theorem w_args : argsFit about1.vm theMethod args0 = true := by decide +kernel
set_option maxRecDepth 65536 in
theorem w_heap : heapFits about1 = true := by decide +kernel
set_option maxRecDepth 65536 in
theorem w_runnable : about1.curStatus? = some .runnable := by decide +kernel
set_option maxRecDepth 65536 in
theorem w_alone : about1.alone = true := by decide +kernel
set_option maxRecDepth 65536 in
theorem w_named : about1.methodNamed? x = some theMethod := by decide +kernel
set_option maxRecDepth 65536 in
theorem w_hears : about1.hears theMethod below0 = true := by decide +kernel
set_option maxRecDepth 65536 in
theorem w_ripe : about1.ripe theMethod args0 below0 = true := by decide +kernel
theorem w_running : about1.status = .running := rfl
set_option maxRecDepth 65536 in
theorem w_room : about1.hasRoom e0.platform room_1 = true :=
  launch0.hasRoom_least _ room_1 (by decide +kernel) (by decide +kernel) (by decide +kernel) (by decide +kernel) (by decide +kernel) (by decide +kernel)
theorem allAtoms_all (ts : List Jvm.Cond) (a : Array Jvm.Value) (st : Jvm.State) : (allAtoms ts).before a st = ts.all (fun c => c.before a st) := by
  induction ts with
  | nil => rfl
  | cons c t ih =>
    show (Jvm.Cond.and c (allAtoms t)).before a st = _
    rw [Jvm.Cond.before_and, ih, List.all_cons]
def words1 : List Jvm.Cond := Jvm.Cond.code x code maxLocals ret :: tables_1
/-- a 'code' word, met by the world's own term for the bytes: nothing is compared byte by byte -/
theorem code_word {y : MethodName} {bytes : ByteArray} {mx : Nat} {rt : Option FieldType} {a : Array Value} {s : State} {m : MethodId} {meth : Method} {c : Code} (h1 : s.methodNamed? y = some m) (h2 : s.vm.method? m = some meth) (h3 : meth.code = some c) (h4 : c.code = bytes)
    (h5 : (c.maxLocals == mx && c.exceptionTable.isEmpty && decide (c.maxStack ≤ mostOperands) && decide (meth.sig.returnType = rt) && !meth.locks && decide (parseMethodDescriptor y.desc = some meth.sig)) = true) : (Jvm.Cond.code y bytes mx rt).before a s = true := by
  simp only [Bool.and_eq_true, beq_iff_eq, Bool.not_eq_true', decide_eq_true_eq] at h5
  obtain ⟨⟨⟨⟨⟨g1, g2⟩, g3⟩, g4⟩, g5⟩, g6⟩ := h5
  simp [Cond.before, Cond.holds, Cond.value, h1, h2, h3, h4, g1, g2, g3, g4, g5, g6]
def isCode : Jvm.Cond → Bool
  | .code _ _ _ _ => true
  | _ => false
theorem all_split {L : List Jvm.Cond} {P : Jvm.Cond → Bool} (h1 : L.all (fun c => isCode c || P c) = true) (h2 : ∀ c ∈ L.filter isCode, P c = true) : L.all P = true := by
  refine List.all_eq_true.mpr fun c hc => ?_
  have h := List.all_eq_true.mp h1 c hc
  rcases Bool.eq_false_or_eq_true (isCode c) with hi | hi
  · exact h2 c (List.mem_filter.mpr ⟨hc, hi⟩)
  · simpa [hi] using h
set_option maxRecDepth 65536 in
theorem w_c0 : (Jvm.Cond.code x code maxLocals ret).before args0 about1 = true := code_word (m := ⟨1, 1⟩) (meth := k1m1) (c := k1c1) (by decide +kernel) rfl rfl rfl (by decide +kernel)
set_option maxRecDepth 65536 in
theorem w_c1 : (Jvm.Cond.code ({ cls := "com/example/nullstelle/nullstelle/Bracket", name := "shrinksFast", desc := "(DD)Z" } : Jvm.MethodName) prog_3_method_16_code (4 : Nat) (Option.some Jvm.ClassFile.FieldType.boolean)).before args0 about1 = true := code_word (m := ⟨2, 0⟩) (meth := k2m0) (c := k2c0) (by decide +kernel) rfl rfl rfl (by decide +kernel)
def codes1 : List Jvm.Cond := [Jvm.Cond.code x code maxLocals ret, Jvm.Cond.code ({ cls := "com/example/nullstelle/nullstelle/Bracket", name := "shrinksFast", desc := "(DD)Z" } : Jvm.MethodName) prog_3_method_16_code (4 : Nat) (Option.some Jvm.ClassFile.FieldType.boolean)]
set_option maxRecDepth 65536 in
theorem codes_eq : words1.filter isCode = codes1 := rfl
theorem w_codes : ∀ c ∈ words1.filter isCode, c.before args0 about1 = true := by
  rw [codes_eq]
  intro c hc
  simp only [codes1, List.mem_cons, List.not_mem_nil, or_false] at hc
  rcases hc with rfl | rfl
  · exact w_c0
  · exact w_c1
set_option maxRecDepth 65536 in
theorem w_t1 : words1.all (fun c => isCode c || c.before args0 about1) = true := by decide +kernel
theorem w_tables : (allAtoms (Jvm.Cond.code x code maxLocals ret :: tables_1)).before args0 about1 = true := by
  rw [allAtoms_all]
  show words1.all (fun c => c.before args0 about1) = true
  refine all_split ?_ w_codes
  rw [w_t1]
set_option maxRecDepth 65536 in
theorem w_case : (Jvm.Cond.and given_1 narrow_1).before args0 about1 = true := by decide +kernel
theorem w_applies : (headSpec (Jvm.Cond.code x code maxLocals ret :: tables_1) room_1).applies x e0.platform about1 = true :=
  (Spec.applies_iff w_frames).mpr ⟨w_running, w_runnable, w_alone, w_named, w_hears, w_ripe, w_room, w_tables⟩
theorem atStart : AtStart classFile x code maxLocals ret World_1 tables_1 room_1 Calls_1 rest_1 Pre_1 launch0 p0 e0 about1 theMethod args0 below0 :=
  ⟨lists_1, trivial, launch0.admits_env _ _ _, launch0.least_env, fairChoices_fair.cas, fairChoices_fair.clock, w_frames, w_args, w_heap, w_applies, trivial, trivial, w_case⟩
end start1
theorem witness_1 : WitnessClaimed_1 := ⟨start1.p0, start1.e0, start1.about1, start1.theMethod, start1.args0, start1.below0, start1.atStart⟩
end Jvm.Pilot.@@N@@
