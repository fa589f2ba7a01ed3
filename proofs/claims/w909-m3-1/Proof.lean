import JvmDerived
import JvmDerived.Pilot.@@N@@Statement
import JvmDerived.Pilot.@@N@@Code
set_option linter.unusedVariables false
set_option linter.unusedSimpArgs false
namespace Jvm.Pilot.@@N@@
open Jvm Jvm.ClassFile Sem Op Lib Jvm.Free Jvm.Stand Jvm.LawKit Jvm.RoadKit Bundle Jvm.Pilot.@@N@@.Jvm.D
section OwnWalk
variable {p : Program} {l : Launch} {e : Env} {R : Room} {s : State} {m : MethodId} {args : Array Value} {below : List Frame} {meth : Method} {c : Code} {Z : State} {own : String} {bytes : ByteArray} {ml : Nat} {rt : Option FieldType} {nm : String} {n0 : Nat} {T : State} {h : Heap} {cells slots : Nat} {Q : Option Value → Heap → Prop} {Φ : State → Outcome → Prop} {pc pc' : Nat} {Ls : Array Slot} {rest : List Value} {a0 : Array Value}
/-- where the walk stands: the library's Stand, every place written so far is new (Fr), the heap, and the body's own data -/
def own_St (p : Program) (l : Launch) (e : Env) (R : Room) (s : State) (m : MethodId) (args : Array Value) (below : List Frame) (meth : Method) (c : Code) (Z : State) (own : String) (bytes : ByteArray) (ml : Nat) (rt : Option FieldType) (nm : String) (n0 : Nat) (T : State) (h : Heap) (cells slots : Nat) : Prop :=
  ∃ locs, Stand p l e R s m args below meth c T locs cells slots ∧ Fr n0 locs ∧ T.heap = h ∧ n0 ≤ h.size ∧ p.tables.exec = Jvm.exec ∧ Z.Warmed39 s.vm ∧ s.vm.findClass own = some m.cls ∧ c.code = bytes ∧ c.maxLocals = ml ∧ meth.sig.returnType = rt ∧ meth.locks = false ∧ meth.name = nm
/-- what a return that meets Q leaves -/
def own_Fin (below : List Frame) (s : State) (R : Room) (n0 : Nat) (Q : Option Value → Heap → Prop) : State → Outcome → Prop := fun s₂ o =>
  s₂.status = .running ∧ Ended s₂ below o ∧ ∃ v L, o = .returned v ∧ ((Q v s₂.heap ∧ n0 ≤ s₂.heap.size) ∧ Fr n0 L) ∧ FrameEnd s o s₂ L R.cells R.slots
/-- from frame g over T the run comes to an end that meets Φ -/
def own_Goal (p : Program) (e : Env) (below : List Frame) (Φ : State → Outcome → Prop) (T : State) (g : JFrame) : Prop :=
  ∃ s₂ o, Steps p.tables e below (T.setTop g) s₂ ∧ Φ s₂ o
theorem own_St.le (X : own_St p l e R s m args below meth c Z own bytes ml rt nm n0 T h cells slots) : n0 ≤ h.size := by obtain ⟨_, _, _, _, q, _⟩ := X; exact q
theorem own_step {T' : State} {g g' : JFrame} (f : ∀ t, Steps p.tables e below (T'.setTop g') t → Steps p.tables e below (T.setTop g) t) (k : own_Goal p e below Φ T' g') : own_Goal p e below Φ T g := by
  obtain ⟨s2, o, a, r⟩ := k
  exact ⟨s2, o, f _ a, r⟩
theorem own_cast {g g' : JFrame} (q : g = g') (k : own_Goal p e below Φ T g') : own_Goal p e below Φ T g := q ▸ k
theorem own_pure (X : own_St p l e R s m args below meth c Z own bytes ml rt nm n0 T h cells slots) {g g' : JFrame} (f : ∀ {locs}, Stand p l e R s m args below meth c T locs cells slots → p.tables.exec = Jvm.exec → c.code = bytes → ∀ t, Steps p.tables e below (T.setTop g') t → Steps p.tables e below (T.setTop g) t) (k : own_Goal p e below Φ T g') : own_Goal p e below Φ T g := by
  obtain ⟨locs, X, -, -, -, hx, -, -, hby, -⟩ := X
  exact own_step (f X hx hby) k
theorem own_iconst (X : own_St p l e R s m args below meth c Z own bytes ml rt nm n0 T h cells slots) {i : Int} {v : Int32} (hv : Int32.ofInt i = v) (hd : decode bytes pc = .ok (.iconst i, 1)) (hp : pc + 1 = pc') (k : own_Goal p e below Φ T (mkF m pc' Ls (.int v :: rest))) : own_Goal p e below Φ T (mkF m pc Ls (rest)) := by
  subst hp hv
  exact own_pure X (fun X hx hby _ a => XS.iconst X.here hx rfl (hb hby hd) a) k
theorem own_bipush (X : own_St p l e R s m args below meth c Z own bytes ml rt nm n0 T h cells slots) {i : Int} {v : Int32} (hv : (Int8.ofInt i).toInt32 = v) (hd : decode bytes pc = .ok (.bipush i, 2)) (hp : pc + 2 = pc') (k : own_Goal p e below Φ T (mkF m pc' Ls (.int v :: rest))) : own_Goal p e below Φ T (mkF m pc Ls (rest)) := by
  subst hp hv
  exact own_pure X (fun X hx hby _ a => XS.bipush X.here hx rfl (hb hby hd) a) k
theorem own_sipush (X : own_St p l e R s m args below meth c Z own bytes ml rt nm n0 T h cells slots) {i : Int} {v : Int32} (hv : (Int16.ofInt i).toInt32 = v) (hd : decode bytes pc = .ok (.sipush i, 3)) (hp : pc + 3 = pc') (k : own_Goal p e below Φ T (mkF m pc' Ls (.int v :: rest))) : own_Goal p e below Φ T (mkF m pc Ls (rest)) := by
  subst hp hv
  exact own_pure X (fun X hx hby _ a => XS.sipush X.here hx rfl (hb hby hd) a) k
theorem own_aconst_null (X : own_St p l e R s m args below meth c Z own bytes ml rt nm n0 T h cells slots)  (hd : decode bytes pc = .ok (.aconst_null, 1)) (hp : pc + 1 = pc') (k : own_Goal p e below Φ T (mkF m pc' Ls (.null :: rest))) : own_Goal p e below Φ T (mkF m pc Ls (rest)) := by
  subst hp
  exact own_pure X (fun X hx hby _ a => XS.aconstNull X.here hx rfl (hb hby hd) a) k
theorem own_lconst (X : own_St p l e R s m args below meth c Z own bytes ml rt nm n0 T h cells slots) {k : Fin 2} {v : Int64} (hv : Int64.ofNat k = v) (hd : decode bytes pc = .ok (.lconst k, 1)) (hp : pc + 1 = pc') (k : own_Goal p e below Φ T (mkF m pc' Ls (.long v :: rest))) : own_Goal p e below Φ T (mkF m pc Ls (rest)) := by
  subst hp hv
  exact own_pure X (fun X hx hby _ a => XT.lconst X.here hx rfl (hb hby hd) a) k
theorem own_dconst0 (X : own_St p l e R s m args below meth c Z own bytes ml rt nm n0 T h cells slots) {v : UInt64} (hv : FP.dconst0 = v) (hd : decode bytes pc = .ok (.dconst 0, 1)) (hp : pc + 1 = pc') (k : own_Goal p e below Φ T (mkF m pc' Ls (.double v :: rest))) : own_Goal p e below Φ T (mkF m pc Ls (rest)) := by
  subst hp
  exact own_pure X (fun X hx hby _ a => XS.dconst0 X.here hx rfl (hb hby hd) hv a) k
theorem own_dconst1 (X : own_St p l e R s m args below meth c Z own bytes ml rt nm n0 T h cells slots) {v : UInt64} (hv : FP.dconst1 = v) (hd : decode bytes pc = .ok (.dconst 1, 1)) (hp : pc + 1 = pc') (k : own_Goal p e below Φ T (mkF m pc' Ls (.double v :: rest))) : own_Goal p e below Φ T (mkF m pc Ls (rest)) := by
  subst hp
  exact own_pure X (fun X hx hby _ a => XS.dconst1 X.here hx rfl (hb hby hd) hv a) k
theorem own_iload (X : own_St p l e R s m args below meth c Z own bytes ml rt nm n0 T h cells slots) {k : Nat} {v : Int32} (hl : Ls[k]? = some (.val (.int v))) (hd : decode bytes pc = .ok (.iload k, 2)) (hp : pc + 2 = pc') (k : own_Goal p e below Φ T (mkF m pc' Ls (.int v :: rest))) : own_Goal p e below Φ T (mkF m pc Ls (rest)) := by
  subst hp
  exact own_pure X (fun X hx hby _ a => XS.iload X.here hx rfl (hb hby hd) hl a) k
theorem own_iloadN (X : own_St p l e R s m args below meth c Z own bytes ml rt nm n0 T h cells slots) {k : Fin 4} {v : Int32} (hl : Ls[k.val]? = some (.val (.int v))) (hd : decode bytes pc = .ok (.iload_n k, 1)) (hp : pc + 1 = pc') (k : own_Goal p e below Φ T (mkF m pc' Ls (.int v :: rest))) : own_Goal p e below Φ T (mkF m pc Ls (rest)) := by
  subst hp
  exact own_pure X (fun X hx hby _ a => XS.iloadN X.here hx rfl (hb hby hd) hl a) k
theorem own_istore (X : own_St p l e R s m args below meth c Z own bytes ml rt nm n0 T h cells slots) {k : Nat} {v : Int32} {Ls' : Array Slot} (hl : storeLocals Ls k (.int v) = some Ls') (hd : decode bytes pc = .ok (.istore k, 2)) (hp : pc + 2 = pc') (k : own_Goal p e below Φ T (mkF m pc' Ls' (rest))) : own_Goal p e below Φ T (mkF m pc Ls (.int v :: rest)) := by
  subst hp
  exact own_pure X (fun X hx hby _ a => XS.istore X.here hx rfl (hb hby hd) rfl hl a) k
theorem own_istoreN (X : own_St p l e R s m args below meth c Z own bytes ml rt nm n0 T h cells slots) {k : Fin 4} {v : Int32} {Ls' : Array Slot} (hl : storeLocals Ls k.val (.int v) = some Ls') (hd : decode bytes pc = .ok (.istore_n k, 1)) (hp : pc + 1 = pc') (k : own_Goal p e below Φ T (mkF m pc' Ls' (rest))) : own_Goal p e below Φ T (mkF m pc Ls (.int v :: rest)) := by
  subst hp
  exact own_pure X (fun X hx hby _ a => XS.istoreN X.here hx rfl (hb hby hd) rfl hl a) k
theorem own_lload (X : own_St p l e R s m args below meth c Z own bytes ml rt nm n0 T h cells slots) {k : Nat} {v : Int64} (hl : Ls[k]? = some (.val (.long v))) (hd : decode bytes pc = .ok (.lload k, 2)) (hp : pc + 2 = pc') (k : own_Goal p e below Φ T (mkF m pc' Ls (.long v :: rest))) : own_Goal p e below Φ T (mkF m pc Ls (rest)) := by
  subst hp
  exact own_pure X (fun X hx hby _ a => XT.lload X.here hx rfl (hb hby hd) hl a) k
theorem own_lloadN (X : own_St p l e R s m args below meth c Z own bytes ml rt nm n0 T h cells slots) {k : Fin 4} {v : Int64} (hl : Ls[k.val]? = some (.val (.long v))) (hd : decode bytes pc = .ok (.lload_n k, 1)) (hp : pc + 1 = pc') (k : own_Goal p e below Φ T (mkF m pc' Ls (.long v :: rest))) : own_Goal p e below Φ T (mkF m pc Ls (rest)) := by
  subst hp
  exact own_pure X (fun X hx hby _ a => XT.lloadN X.here hx rfl (hb hby hd) hl a) k
theorem own_lstore (X : own_St p l e R s m args below meth c Z own bytes ml rt nm n0 T h cells slots) {k : Nat} {v : Int64} {Ls' : Array Slot} (hl : storeLocals Ls k (.long v) = some Ls') (hd : decode bytes pc = .ok (.lstore k, 2)) (hp : pc + 2 = pc') (k : own_Goal p e below Φ T (mkF m pc' Ls' (rest))) : own_Goal p e below Φ T (mkF m pc Ls (.long v :: rest)) := by
  subst hp
  exact own_pure X (fun X hx hby _ a => XT.lstore X.here hx rfl (hb hby hd) rfl hl a) k
theorem own_lstoreN (X : own_St p l e R s m args below meth c Z own bytes ml rt nm n0 T h cells slots) {k : Fin 4} {v : Int64} {Ls' : Array Slot} (hl : storeLocals Ls k.val (.long v) = some Ls') (hd : decode bytes pc = .ok (.lstore_n k, 1)) (hp : pc + 1 = pc') (k : own_Goal p e below Φ T (mkF m pc' Ls' (rest))) : own_Goal p e below Φ T (mkF m pc Ls (.long v :: rest)) := by
  subst hp
  exact own_pure X (fun X hx hby _ a => XT.lstoreN X.here hx rfl (hb hby hd) rfl hl a) k
theorem own_dload (X : own_St p l e R s m args below meth c Z own bytes ml rt nm n0 T h cells slots) {k : Nat} {v : UInt64} (hl : Ls[k]? = some (.val (.double v))) (hd : decode bytes pc = .ok (.dload k, 2)) (hp : pc + 2 = pc') (k : own_Goal p e below Φ T (mkF m pc' Ls (.double v :: rest))) : own_Goal p e below Φ T (mkF m pc Ls (rest)) := by
  subst hp
  exact own_pure X (fun X hx hby _ a => XS.dload X.here hx rfl (hb hby hd) hl a) k
theorem own_dloadN (X : own_St p l e R s m args below meth c Z own bytes ml rt nm n0 T h cells slots) {k : Fin 4} {v : UInt64} (hl : Ls[k.val]? = some (.val (.double v))) (hd : decode bytes pc = .ok (.dload_n k, 1)) (hp : pc + 1 = pc') (k : own_Goal p e below Φ T (mkF m pc' Ls (.double v :: rest))) : own_Goal p e below Φ T (mkF m pc Ls (rest)) := by
  subst hp
  exact own_pure X (fun X hx hby _ a => XS.dloadN X.here hx rfl (hb hby hd) hl a) k
theorem own_dstore (X : own_St p l e R s m args below meth c Z own bytes ml rt nm n0 T h cells slots) {k : Nat} {v : UInt64} {Ls' : Array Slot} (hl : storeLocals Ls k (.double v) = some Ls') (hd : decode bytes pc = .ok (.dstore k, 2)) (hp : pc + 2 = pc') (k : own_Goal p e below Φ T (mkF m pc' Ls' (rest))) : own_Goal p e below Φ T (mkF m pc Ls (.double v :: rest)) := by
  subst hp
  exact own_pure X (fun X hx hby _ a => XS.dstore X.here hx rfl (hb hby hd) rfl hl a) k
theorem own_dstoreN (X : own_St p l e R s m args below meth c Z own bytes ml rt nm n0 T h cells slots) {k : Fin 4} {v : UInt64} {Ls' : Array Slot} (hl : storeLocals Ls k.val (.double v) = some Ls') (hd : decode bytes pc = .ok (.dstore_n k, 1)) (hp : pc + 1 = pc') (k : own_Goal p e below Φ T (mkF m pc' Ls' (rest))) : own_Goal p e below Φ T (mkF m pc Ls (.double v :: rest)) := by
  subst hp
  exact own_pure X (fun X hx hby _ a => XS.dstoreN X.here hx rfl (hb hby hd) rfl hl a) k
theorem own_aload (X : own_St p l e R s m args below meth c Z own bytes ml rt nm n0 T h cells slots) {k : Nat} {v : Value} (hl : Ls[k]? = some (.val v)) (hv : v.isRef = true) (hd : decode bytes pc = .ok (.aload k, 2)) (hp : pc + 2 = pc') (k : own_Goal p e below Φ T (mkF m pc' Ls (v :: rest))) : own_Goal p e below Φ T (mkF m pc Ls (rest)) := by
  subst hp
  exact own_pure X (fun X hx hby _ a => XS.aload X.here hx rfl (hb hby hd) hl hv a) k
theorem own_aloadN (X : own_St p l e R s m args below meth c Z own bytes ml rt nm n0 T h cells slots) {k : Fin 4} {v : Value} (hl : Ls[k.val]? = some (.val v)) (hv : v.isRef = true) (hd : decode bytes pc = .ok (.aload_n k, 1)) (hp : pc + 1 = pc') (k : own_Goal p e below Φ T (mkF m pc' Ls (v :: rest))) : own_Goal p e below Φ T (mkF m pc Ls (rest)) := by
  subst hp
  exact own_pure X (fun X hx hby _ a => XS.aloadN X.here hx rfl (hb hby hd) hl hv a) k
theorem own_astore (X : own_St p l e R s m args below meth c Z own bytes ml rt nm n0 T h cells slots) {k : Nat} {v : Value} {Ls' : Array Slot} (hl : storeLocals Ls k v = some Ls') (hv : v.isRef = true) (hd : decode bytes pc = .ok (.astore k, 2)) (hp : pc + 2 = pc') (k : own_Goal p e below Φ T (mkF m pc' Ls' (rest))) : own_Goal p e below Φ T (mkF m pc Ls (v :: rest)) := by
  subst hp
  exact own_pure X (fun X hx hby _ a => XS.astore X.here hx rfl (hb hby hd) rfl hv hl a) k
theorem own_astoreN (X : own_St p l e R s m args below meth c Z own bytes ml rt nm n0 T h cells slots) {k : Fin 4} {v : Value} {Ls' : Array Slot} (hl : storeLocals Ls k.val v = some Ls') (hv : v.isRef = true) (hd : decode bytes pc = .ok (.astore_n k, 1)) (hp : pc + 1 = pc') (k : own_Goal p e below Φ T (mkF m pc' Ls' (rest))) : own_Goal p e below Φ T (mkF m pc Ls (v :: rest)) := by
  subst hp
  exact own_pure X (fun X hx hby _ a => XS.astoreN X.here hx rfl (hb hby hd) rfl hv hl a) k
theorem own_iinc (X : own_St p l e R s m args below meth c Z own bytes ml rt nm n0 T h cells slots) {k : Nat} {i : Int} {x v : Int32} {Ls' : Array Slot} (hl : Ls[k]? = some (.val (.int x))) (hv : x + Int32.ofInt i = v) (hl' : storeLocals Ls k (.int v) = some Ls') (hd : decode bytes pc = .ok (.iinc k i, 3)) (hp : pc + 3 = pc') (k : own_Goal p e below Φ T (mkF m pc' Ls' (rest))) : own_Goal p e below Φ T (mkF m pc Ls (rest)) := by
  subst hp hv
  exact own_pure X (fun X hx hby _ a => XS.iinc X.here hx rfl (hb hby hd) hl hl' a) k
theorem own_iadd (X : own_St p l e R s m args below meth c Z own bytes ml rt nm n0 T h cells slots) {x y v : Int32} (hv : x + y = v) (hd : decode bytes pc = .ok (.iadd, 1)) (hp : pc + 1 = pc') (k : own_Goal p e below Φ T (mkF m pc' Ls (.int v :: rest))) : own_Goal p e below Φ T (mkF m pc Ls (.int y :: .int x :: rest)) := by
  subst hp hv
  exact own_pure X (fun X hx hby _ a => XS.iadd X.here hx rfl (hb hby hd) rfl a) k
theorem own_isub (X : own_St p l e R s m args below meth c Z own bytes ml rt nm n0 T h cells slots) {x y v : Int32} (hv : x - y = v) (hd : decode bytes pc = .ok (.isub, 1)) (hp : pc + 1 = pc') (k : own_Goal p e below Φ T (mkF m pc' Ls (.int v :: rest))) : own_Goal p e below Φ T (mkF m pc Ls (.int y :: .int x :: rest)) := by
  subst hp hv
  exact own_pure X (fun X hx hby _ a => XS.isub X.here hx rfl (hb hby hd) rfl a) k
theorem own_imul (X : own_St p l e R s m args below meth c Z own bytes ml rt nm n0 T h cells slots) {x y v : Int32} (hv : x * y = v) (hd : decode bytes pc = .ok (.imul, 1)) (hp : pc + 1 = pc') (k : own_Goal p e below Φ T (mkF m pc' Ls (.int v :: rest))) : own_Goal p e below Φ T (mkF m pc Ls (.int y :: .int x :: rest)) := by
  subst hp hv
  exact own_pure X (fun X hx hby _ a => XS.imul X.here hx rfl (hb hby hd) rfl a) k
theorem own_iand (X : own_St p l e R s m args below meth c Z own bytes ml rt nm n0 T h cells slots) {x y v : Int32} (hv : x &&& y = v) (hd : decode bytes pc = .ok (.iand, 1)) (hp : pc + 1 = pc') (k : own_Goal p e below Φ T (mkF m pc' Ls (.int v :: rest))) : own_Goal p e below Φ T (mkF m pc Ls (.int y :: .int x :: rest)) := by
  subst hp hv
  exact own_pure X (fun X hx hby _ a => XS.iand X.here hx rfl (hb hby hd) rfl a) k
theorem own_ior (X : own_St p l e R s m args below meth c Z own bytes ml rt nm n0 T h cells slots) {x y v : Int32} (hv : x ||| y = v) (hd : decode bytes pc = .ok (.ior, 1)) (hp : pc + 1 = pc') (k : own_Goal p e below Φ T (mkF m pc' Ls (.int v :: rest))) : own_Goal p e below Φ T (mkF m pc Ls (.int y :: .int x :: rest)) := by
  subst hp hv
  exact own_pure X (fun X hx hby _ a => XT.ior X.here hx rfl (hb hby hd) rfl a) k
theorem own_ixor (X : own_St p l e R s m args below meth c Z own bytes ml rt nm n0 T h cells slots) {x y v : Int32} (hv : x ^^^ y = v) (hd : decode bytes pc = .ok (.ixor, 1)) (hp : pc + 1 = pc') (k : own_Goal p e below Φ T (mkF m pc' Ls (.int v :: rest))) : own_Goal p e below Φ T (mkF m pc Ls (.int y :: .int x :: rest)) := by
  subst hp hv
  exact own_pure X (fun X hx hby _ a => XT.ixor X.here hx rfl (hb hby hd) rfl a) k
theorem own_ishl (X : own_St p l e R s m args below meth c Z own bytes ml rt nm n0 T h cells slots) {x y v : Int32} (hv : x <<< (y &&& 31) = v) (hd : decode bytes pc = .ok (.ishl, 1)) (hp : pc + 1 = pc') (k : own_Goal p e below Φ T (mkF m pc' Ls (.int v :: rest))) : own_Goal p e below Φ T (mkF m pc Ls (.int y :: .int x :: rest)) := by
  subst hp hv
  exact own_pure X (fun X hx hby _ a => XT.ishl X.here hx rfl (hb hby hd) rfl a) k
theorem own_ishr (X : own_St p l e R s m args below meth c Z own bytes ml rt nm n0 T h cells slots) {x y v : Int32} (hv : x >>> (y &&& 31) = v) (hd : decode bytes pc = .ok (.ishr, 1)) (hp : pc + 1 = pc') (k : own_Goal p e below Φ T (mkF m pc' Ls (.int v :: rest))) : own_Goal p e below Φ T (mkF m pc Ls (.int y :: .int x :: rest)) := by
  subst hp hv
  exact own_pure X (fun X hx hby _ a => XT.ishr X.here hx rfl (hb hby hd) rfl a) k
theorem own_iushr (X : own_St p l e R s m args below meth c Z own bytes ml rt nm n0 T h cells slots) {x y v : Int32} (hv : XT.ushr x y = v) (hd : decode bytes pc = .ok (.iushr, 1)) (hp : pc + 1 = pc') (k : own_Goal p e below Φ T (mkF m pc' Ls (.int v :: rest))) : own_Goal p e below Φ T (mkF m pc Ls (.int y :: .int x :: rest)) := by
  subst hp hv
  exact own_pure X (fun X hx hby _ a => XT.iushr X.here hx rfl (hb hby hd) rfl a) k
theorem own_irem (X : own_St p l e R s m args below meth c Z own bytes ml rt nm n0 T h cells slots) {x y v : Int32} (hy : y ≠ 0) (hv : x % y = v) (hd : decode bytes pc = .ok (.irem, 1)) (hp : pc + 1 = pc') (k : own_Goal p e below Φ T (mkF m pc' Ls (.int v :: rest))) : own_Goal p e below Φ T (mkF m pc Ls (.int y :: .int x :: rest)) := by
  subst hp hv
  exact own_pure X (fun X hx hby _ a => iremM X hx rfl (hb hby hd) rfl hy a) k
theorem own_ineg (X : own_St p l e R s m args below meth c Z own bytes ml rt nm n0 T h cells slots) {x v : Int32} (hv : -x = v) (hd : decode bytes pc = .ok (.ineg, 1)) (hp : pc + 1 = pc') (k : own_Goal p e below Φ T (mkF m pc' Ls (.int v :: rest))) : own_Goal p e below Φ T (mkF m pc Ls (.int x :: rest)) := by
  subst hp hv
  exact own_pure X (fun X hx hby _ a => XS.ineg X.here hx rfl (hb hby hd) rfl a) k
theorem own_ladd (X : own_St p l e R s m args below meth c Z own bytes ml rt nm n0 T h cells slots) {x y v : Int64} (hv : x + y = v) (hd : decode bytes pc = .ok (.ladd, 1)) (hp : pc + 1 = pc') (k : own_Goal p e below Φ T (mkF m pc' Ls (.long v :: rest))) : own_Goal p e below Φ T (mkF m pc Ls (.long y :: .long x :: rest)) := by
  subst hp hv
  exact own_pure X (fun X hx hby _ a => XT.ladd X.here hx rfl (hb hby hd) rfl a) k
theorem own_lsub (X : own_St p l e R s m args below meth c Z own bytes ml rt nm n0 T h cells slots) {x y v : Int64} (hv : x - y = v) (hd : decode bytes pc = .ok (.lsub, 1)) (hp : pc + 1 = pc') (k : own_Goal p e below Φ T (mkF m pc' Ls (.long v :: rest))) : own_Goal p e below Φ T (mkF m pc Ls (.long y :: .long x :: rest)) := by
  subst hp hv
  exact own_pure X (fun X hx hby _ a => XT.lsub X.here hx rfl (hb hby hd) rfl a) k
theorem own_lmul (X : own_St p l e R s m args below meth c Z own bytes ml rt nm n0 T h cells slots) {x y v : Int64} (hv : x * y = v) (hd : decode bytes pc = .ok (.lmul, 1)) (hp : pc + 1 = pc') (k : own_Goal p e below Φ T (mkF m pc' Ls (.long v :: rest))) : own_Goal p e below Φ T (mkF m pc Ls (.long y :: .long x :: rest)) := by
  subst hp hv
  exact own_pure X (fun X hx hby _ a => XT.lmul X.here hx rfl (hb hby hd) rfl a) k
theorem own_land (X : own_St p l e R s m args below meth c Z own bytes ml rt nm n0 T h cells slots) {x y v : Int64} (hv : x &&& y = v) (hd : decode bytes pc = .ok (.land, 1)) (hp : pc + 1 = pc') (k : own_Goal p e below Φ T (mkF m pc' Ls (.long v :: rest))) : own_Goal p e below Φ T (mkF m pc Ls (.long y :: .long x :: rest)) := by
  subst hp hv
  exact own_pure X (fun X hx hby _ a => XT.land X.here hx rfl (hb hby hd) rfl a) k
theorem own_lor (X : own_St p l e R s m args below meth c Z own bytes ml rt nm n0 T h cells slots) {x y v : Int64} (hv : x ||| y = v) (hd : decode bytes pc = .ok (.lor, 1)) (hp : pc + 1 = pc') (k : own_Goal p e below Φ T (mkF m pc' Ls (.long v :: rest))) : own_Goal p e below Φ T (mkF m pc Ls (.long y :: .long x :: rest)) := by
  subst hp hv
  exact own_pure X (fun X hx hby _ a => XT.lor X.here hx rfl (hb hby hd) rfl a) k
theorem own_ldiv (X : own_St p l e R s m args below meth c Z own bytes ml rt nm n0 T h cells slots) {x y v : Int64} (hy : y ≠ 0) (hv : x / y = v) (hd : decode bytes pc = .ok (.ldiv, 1)) (hp : pc + 1 = pc') (k : own_Goal p e below Φ T (mkF m pc' Ls (.long v :: rest))) : own_Goal p e below Φ T (mkF m pc Ls (.long y :: .long x :: rest)) := by
  subst hp hv
  exact own_pure X (fun X hx hby _ a => XT.ldiv X.here hx rfl (hb hby hd) rfl hy a) k
theorem own_lrem (X : own_St p l e R s m args below meth c Z own bytes ml rt nm n0 T h cells slots) {x y v : Int64} (hy : y ≠ 0) (hv : x - (x / y) * y = v) (hd : decode bytes pc = .ok (.lrem, 1)) (hp : pc + 1 = pc') (k : own_Goal p e below Φ T (mkF m pc' Ls (.long v :: rest))) : own_Goal p e below Φ T (mkF m pc Ls (.long y :: .long x :: rest)) := by
  subst hp hv
  exact own_pure X (fun X hx hby _ a => XT.lrem X.here hx rfl (hb hby hd) rfl hy a) k
theorem own_lneg (X : own_St p l e R s m args below meth c Z own bytes ml rt nm n0 T h cells slots) {x v : Int64} (hv : -x = v) (hd : decode bytes pc = .ok (.lneg, 1)) (hp : pc + 1 = pc') (k : own_Goal p e below Φ T (mkF m pc' Ls (.long v :: rest))) : own_Goal p e below Φ T (mkF m pc Ls (.long x :: rest)) := by
  subst hp hv
  exact own_pure X (fun X hx hby _ a => XT.lneg X.here hx rfl (hb hby hd) rfl a) k
theorem own_lshl (X : own_St p l e R s m args below meth c Z own bytes ml rt nm n0 T h cells slots) {x v : Int64} {y : Int32} (hv : x <<< (y.toInt64 &&& 63) = v) (hd : decode bytes pc = .ok (.lshl, 1)) (hp : pc + 1 = pc') (k : own_Goal p e below Φ T (mkF m pc' Ls (.long v :: rest))) : own_Goal p e below Φ T (mkF m pc Ls (.int y :: .long x :: rest)) := by
  subst hp hv
  exact own_pure X (fun X hx hby _ a => XT.lshl X.here hx rfl (hb hby hd) rfl a) k
theorem own_lcmp (X : own_St p l e R s m args below meth c Z own bytes ml rt nm n0 T h cells slots) {x y : Int64} {v : Int32} (hv : XT.cmpL x y = v) (hd : decode bytes pc = .ok (.lcmp, 1)) (hp : pc + 1 = pc') (k : own_Goal p e below Φ T (mkF m pc' Ls (.int v :: rest))) : own_Goal p e below Φ T (mkF m pc Ls (.long y :: .long x :: rest)) := by
  subst hp hv
  exact own_pure X (fun X hx hby _ a => XT.lcmp X.here hx rfl (hb hby hd) rfl a) k
theorem own_i2l (X : own_St p l e R s m args below meth c Z own bytes ml rt nm n0 T h cells slots) {x : Int32} {v : Int64} (hv : x.toInt64 = v) (hd : decode bytes pc = .ok (.i2l, 1)) (hp : pc + 1 = pc') (k : own_Goal p e below Φ T (mkF m pc' Ls (.long v :: rest))) : own_Goal p e below Φ T (mkF m pc Ls (.int x :: rest)) := by
  subst hp hv
  exact own_pure X (fun X hx hby _ a => XT.i2l X.here hx rfl (hb hby hd) rfl a) k
theorem own_l2i (X : own_St p l e R s m args below meth c Z own bytes ml rt nm n0 T h cells slots) {x : Int64} {v : Int32} (hv : x.toInt32 = v) (hd : decode bytes pc = .ok (.l2i, 1)) (hp : pc + 1 = pc') (k : own_Goal p e below Φ T (mkF m pc' Ls (.int v :: rest))) : own_Goal p e below Φ T (mkF m pc Ls (.long x :: rest)) := by
  subst hp hv
  exact own_pure X (fun X hx hby _ a => XT.l2i X.here hx rfl (hb hby hd) rfl a) k
theorem own_i2c (X : own_St p l e R s m args below meth c Z own bytes ml rt nm n0 T h cells slots) {x v : Int32} (hv : x.toUInt32.toUInt16.toUInt32.toInt32 = v) (hd : decode bytes pc = .ok (.i2c, 1)) (hp : pc + 1 = pc') (k : own_Goal p e below Φ T (mkF m pc' Ls (.int v :: rest))) : own_Goal p e below Φ T (mkF m pc Ls (.int x :: rest)) := by
  subst hp hv
  exact own_pure X (fun X hx hby _ a => XT.i2c X.here hx rfl (hb hby hd) rfl a) k
theorem own_i2d (X : own_St p l e R s m args below meth c Z own bytes ml rt nm n0 T h cells slots) {x : Int32} {v : UInt64} (hv : FP.i2d x = v) (hd : decode bytes pc = .ok (.i2d, 1)) (hp : pc + 1 = pc') (k : own_Goal p e below Φ T (mkF m pc' Ls (.double v :: rest))) : own_Goal p e below Φ T (mkF m pc Ls (.int x :: rest)) := by
  subst hp
  exact own_pure X (fun X hx hby _ a => XS.i2dS X.here hx rfl (hb hby hd) rfl hv a) k
theorem own_l2d (X : own_St p l e R s m args below meth c Z own bytes ml rt nm n0 T h cells slots) {x : Int64} {v : UInt64} (hv : FP.l2d x = v) (hd : decode bytes pc = .ok (.l2d, 1)) (hp : pc + 1 = pc') (k : own_Goal p e below Φ T (mkF m pc' Ls (.double v :: rest))) : own_Goal p e below Φ T (mkF m pc Ls (.long x :: rest)) := by
  subst hp
  exact own_pure X (fun X hx hby _ a => XS.l2dS X.here hx rfl (hb hby hd) rfl hv a) k
theorem own_dadd (X : own_St p l e R s m args below meth c Z own bytes ml rt nm n0 T h cells slots) {x y v : UInt64} (hv : FP.dadd x y = v) (hn : Jvm.Free.Fl.NoNaN64 v) (hd : decode bytes pc = .ok (.dadd, 1)) (hp : pc + 1 = pc') (k : own_Goal p e below Φ T (mkF m pc' Ls (.double v :: rest))) : own_Goal p e below Φ T (mkF m pc Ls (.double y :: .double x :: rest)) := by
  subst hp
  exact own_pure X (fun X hx hby _ a => XS.daddS X.here hx rfl (hb hby hd) rfl (by rw [hv]; exact hn) hv a) k
theorem own_dsub (X : own_St p l e R s m args below meth c Z own bytes ml rt nm n0 T h cells slots) {x y v : UInt64} (hv : FP.dsub x y = v) (hn : Jvm.Free.Fl.NoNaN64 v) (hd : decode bytes pc = .ok (.dsub, 1)) (hp : pc + 1 = pc') (k : own_Goal p e below Φ T (mkF m pc' Ls (.double v :: rest))) : own_Goal p e below Φ T (mkF m pc Ls (.double y :: .double x :: rest)) := by
  subst hp
  exact own_pure X (fun X hx hby _ a => XS.dsubS X.here hx rfl (hb hby hd) rfl (by rw [hv]; exact hn) hv a) k
theorem own_dmul (X : own_St p l e R s m args below meth c Z own bytes ml rt nm n0 T h cells slots) {x y v : UInt64} (hv : FP.dmul x y = v) (hn : Jvm.Free.Fl.NoNaN64 v) (hd : decode bytes pc = .ok (.dmul, 1)) (hp : pc + 1 = pc') (k : own_Goal p e below Φ T (mkF m pc' Ls (.double v :: rest))) : own_Goal p e below Φ T (mkF m pc Ls (.double y :: .double x :: rest)) := by
  subst hp
  exact own_pure X (fun X hx hby _ a => XS.dmulS X.here hx rfl (hb hby hd) rfl (by rw [hv]; exact hn) hv a) k
theorem own_ddiv (X : own_St p l e R s m args below meth c Z own bytes ml rt nm n0 T h cells slots) {x y v : UInt64} (hv : FP.ddiv x y = v) (hn : Jvm.Free.Fl.NoNaN64 v) (hd : decode bytes pc = .ok (.ddiv, 1)) (hp : pc + 1 = pc') (k : own_Goal p e below Φ T (mkF m pc' Ls (.double v :: rest))) : own_Goal p e below Φ T (mkF m pc Ls (.double y :: .double x :: rest)) := by
  subst hp
  exact own_pure X (fun X hx hby _ a => XS.ddivS X.here hx rfl (hb hby hd) rfl (by rw [hv]; exact hn) hv a) k
theorem own_dneg (X : own_St p l e R s m args below meth c Z own bytes ml rt nm n0 T h cells slots) {x v : UInt64} (hv : FP.dneg x = v) (hd : decode bytes pc = .ok (.dneg, 1)) (hp : pc + 1 = pc') (k : own_Goal p e below Φ T (mkF m pc' Ls (.double v :: rest))) : own_Goal p e below Φ T (mkF m pc Ls (.double x :: rest)) := by
  subst hp
  exact own_pure X (fun X hx hby _ a => XS.dnegS X.here hx rfl (hb hby hd) rfl hv a) k
theorem own_dcmp (X : own_St p l e R s m args below meth c Z own bytes ml rt nm n0 T h cells slots) {o : CmpOp} {x y : UInt64} {v : Int32} (hv : cmpValue (FP.dcmp x y) o = v) (hd : decode bytes pc = .ok (.dcmp o, 1)) (hp : pc + 1 = pc') (k : own_Goal p e below Φ T (mkF m pc' Ls (.int v :: rest))) : own_Goal p e below Φ T (mkF m pc Ls (.double y :: .double x :: rest)) := by
  subst hp
  exact own_pure X (fun X hx hby _ a => XS.dcmpS X.here hx rfl (hb hby hd) rfl hv a) k
theorem own_dremS {tb : Tables} [Ours tb] {e : Env} {below : List Frame} {T target : State} {m : MethodId} {c : Code} {g : JFrame} (h : At T m c below) (hx : tb.exec = Jvm.exec) (hg : g.method = m) {x y v : UInt64} {rest : List Value} (hd : decode c.code g.pc = .ok (.drem, 1)) (hs : g.stack = .double y :: .double x :: rest) (hn : Jvm.Free.Fl.NoNaN64 (FP.drem x y)) (hv : FP.drem x y = v)
    (hr : Steps tb e below (T.setTop { g with pc := g.pc + 1, stack := .double v :: rest }) target) : Steps tb e below (T.setTop g) target := by
  subst hg
  subst hv
  obtain ⟨gm, gp, gl, gs, gk, ge, gr⟩ := g
  simp only at hs hd
  subst hs
  jvm_step h [h.top, hx, hd, Op.drem.at_number h.top hn]
  exact hr
theorem own_drem (X : own_St p l e R s m args below meth c Z own bytes ml rt nm n0 T h cells slots) {x y v : UInt64} (hv : FP.drem x y = v) (hn : Jvm.Free.Fl.NoNaN64 v) (hd : decode bytes pc = .ok (.drem, 1)) (hp : pc + 1 = pc') (k : own_Goal p e below Φ T (mkF m pc' Ls (.double v :: rest))) : own_Goal p e below Φ T (mkF m pc Ls (.double y :: .double x :: rest)) := by
  subst hp
  exact own_pure X (fun X hx hby _ a => own_dremS X.here hx rfl (hb hby hd) rfl (by rw [hv]; exact hn) hv a) k
theorem own_dup (X : own_St p l e R s m args below meth c Z own bytes ml rt nm n0 T h cells slots) {x : Value} (hc : x.category = 1) (hd : decode bytes pc = .ok (.dup, 1)) (hp : pc + 1 = pc') (k : own_Goal p e below Φ T (mkF m pc' Ls (x :: x :: rest))) : own_Goal p e below Φ T (mkF m pc Ls (x :: rest)) := by
  subst hp
  exact own_pure X (fun X hx hby _ a => XS.dup X.here hx rfl (hb hby hd) rfl hc a) k
theorem own_dup2 (X : own_St p l e R s m args below meth c Z own bytes ml rt nm n0 T h cells slots) {x y : Value} (hc : x.category = 1) (hc' : y.category = 1) (hd : decode bytes pc = .ok (.dup2, 1)) (hp : pc + 1 = pc') (k : own_Goal p e below Φ T (mkF m pc' Ls (x :: y :: x :: y :: rest))) : own_Goal p e below Φ T (mkF m pc Ls (x :: y :: rest)) := by
  subst hp
  exact own_pure X (fun X hx hby _ a => XT.dup2 X.here hx rfl (hb hby hd) rfl hc hc' a) k
theorem own_pop (X : own_St p l e R s m args below meth c Z own bytes ml rt nm n0 T h cells slots) {x : Value} (hc : x.category = 1) (hd : decode bytes pc = .ok (.pop, 1)) (hp : pc + 1 = pc') (k : own_Goal p e below Φ T (mkF m pc' Ls (rest))) : own_Goal p e below Φ T (mkF m pc Ls (x :: rest)) := by
  subst hp
  exact own_pure X (fun X hx hby _ a => XT.pop X.here hx rfl (hb hby hd) rfl hc a) k
theorem own_goto (X : own_St p l e R s m args below meth c Z own bytes ml rt nm n0 T h cells slots) {o : Int}  (hd : decode bytes pc = .ok (.goto o, 3)) (ho : 0 ≤ (pc : Int) + o) (hp : ((pc : Int) + o).toNat = pc') (k : own_Goal p e below Φ T (mkF m pc' Ls rest)) : own_Goal p e below Φ T (mkF m pc Ls (rest)) := by
  exact own_pure X (fun X hx hby _ a => XS.goto X.here hx rfl rfl (hb hby hd) ho hp a) k
theorem own_ifT (X : own_St p l e R s m args below meth c Z own bytes ml rt nm n0 T h cells slots) {o : Int} {cd : ClassFile.Cond} {x : Int32} (hc : ifCond.holds cd x = true) (hd : decode bytes pc = .ok (.ifCond cd o, 3)) (ho : 0 ≤ (pc : Int) + o) (hp : ((pc : Int) + o).toNat = pc') (k : own_Goal p e below Φ T (mkF m pc' Ls rest)) : own_Goal p e below Φ T (mkF m pc Ls (.int x :: rest)) := by
  exact own_pure X (fun X hx hby _ a => XS.ifYes X.here hx rfl rfl (hb hby hd) rfl hc ho hp a) k
theorem own_ifF (X : own_St p l e R s m args below meth c Z own bytes ml rt nm n0 T h cells slots) {o : Int} {cd : ClassFile.Cond} {x : Int32} (hc : ifCond.holds cd x = false) (hd : decode bytes pc = .ok (.ifCond cd o, 3)) (hp : pc + 3 = pc') (k : own_Goal p e below Φ T (mkF m pc' Ls rest)) : own_Goal p e below Φ T (mkF m pc Ls (.int x :: rest)) := by
  subst hp
  exact own_pure X (fun X hx hby _ a => XS.ifNo X.here hx rfl (hb hby hd) rfl hc a) k
theorem own_icmpT (X : own_St p l e R s m args below meth c Z own bytes ml rt nm n0 T h cells slots) {o : Int} {cd : ClassFile.Cond} {x y : Int32} (hc : if_icmp.holds cd x y = true) (hd : decode bytes pc = .ok (.if_icmp cd o, 3)) (ho : 0 ≤ (pc : Int) + o) (hp : ((pc : Int) + o).toNat = pc') (k : own_Goal p e below Φ T (mkF m pc' Ls rest)) : own_Goal p e below Φ T (mkF m pc Ls (.int y :: .int x :: rest)) := by
  exact own_pure X (fun X hx hby _ a => XS.icmpYes X.here hx rfl rfl (hb hby hd) rfl hc ho hp a) k
theorem own_icmpF (X : own_St p l e R s m args below meth c Z own bytes ml rt nm n0 T h cells slots) {o : Int} {cd : ClassFile.Cond} {x y : Int32} (hc : if_icmp.holds cd x y = false) (hd : decode bytes pc = .ok (.if_icmp cd o, 3)) (hp : pc + 3 = pc') (k : own_Goal p e below Φ T (mkF m pc' Ls rest)) : own_Goal p e below Φ T (mkF m pc Ls (.int y :: .int x :: rest)) := by
  subst hp
  exact own_pure X (fun X hx hby _ a => XS.icmpNo X.here hx rfl (hb hby hd) rfl hc a) k
theorem own_ifnullT (X : own_St p l e R s m args below meth c Z own bytes ml rt nm n0 T h cells slots) {o : Int}  (hd : decode bytes pc = .ok (.ifnull o, 3)) (ho : 0 ≤ (pc : Int) + o) (hp : ((pc : Int) + o).toNat = pc') (k : own_Goal p e below Φ T (mkF m pc' Ls rest)) : own_Goal p e below Φ T (mkF m pc Ls (.null :: rest)) := by
  exact own_pure X (fun X hx hby _ a => XS.ifnullYes X.here hx rfl rfl (hb hby hd) rfl ho hp a) k
theorem own_ifnullF (X : own_St p l e R s m args below meth c Z own bytes ml rt nm n0 T h cells slots) {o : Int} {b : Addr} (hd : decode bytes pc = .ok (.ifnull o, 3)) (hp : pc + 3 = pc') (k : own_Goal p e below Φ T (mkF m pc' Ls rest)) : own_Goal p e below Φ T (mkF m pc Ls (.ref b :: rest)) := by
  subst hp
  exact own_pure X (fun X hx hby _ a => XS.ifnullNo X.here hx rfl (hb hby hd) rfl a) k
theorem own_ifnonnullT (X : own_St p l e R s m args below meth c Z own bytes ml rt nm n0 T h cells slots) {o : Int} {b : Addr} (hd : decode bytes pc = .ok (.ifnonnull o, 3)) (ho : 0 ≤ (pc : Int) + o) (hp : ((pc : Int) + o).toNat = pc') (k : own_Goal p e below Φ T (mkF m pc' Ls rest)) : own_Goal p e below Φ T (mkF m pc Ls (.ref b :: rest)) := by
  exact own_pure X (fun X hx hby _ a => XT.ifnonnullYes X.here hx rfl rfl (hb hby hd) rfl ho hp a) k
theorem own_ifnonnullF (X : own_St p l e R s m args below meth c Z own bytes ml rt nm n0 T h cells slots) {o : Int}  (hd : decode bytes pc = .ok (.ifnonnull o, 3)) (hp : pc + 3 = pc') (k : own_Goal p e below Φ T (mkF m pc' Ls rest)) : own_Goal p e below Φ T (mkF m pc Ls (.null :: rest)) := by
  subst hp
  exact own_pure X (fun X hx hby _ a => XT.ifnonnullNo X.here hx rfl (hb hby hd) rfl a) k
theorem own_ldcI (X : own_St p l e R s m args below meth c Z own bytes ml rt nm n0 T h cells slots) {i : Nat} {v : Int32} (w : (Jvm.Cond.constant own i v).before a0 Z = true) (hd : decode bytes pc = .ok (.ldc i, 2)) (hp : pc + 2 = pc') (k : own_Goal p e below Φ T (mkF m pc' Ls (.int v :: rest))) : own_Goal p e below Φ T (mkF m pc Ls rest) := by
  subst hp
  obtain ⟨locs, X, -, -, -, hx, hZ, hown, hby, -⟩ := X
  exact own_step (fun t a => X.ldcInt hx hown (mvT hZ w) (g := mkF m pc Ls rest) rfl (hb hby hd) t a) k
theorem own_ldcJ (X : own_St p l e R s m args below meth c Z own bytes ml rt nm n0 T h cells slots) {i : Nat} {v : Int64} (w : (Jvm.Cond.constantLong own i v).before a0 Z = true) (hd : decode bytes pc = .ok (.ldc2_w i, 3)) (hp : pc + 3 = pc') (k : own_Goal p e below Φ T (mkF m pc' Ls (.long v :: rest))) : own_Goal p e below Φ T (mkF m pc Ls rest) := by
  subst hp
  obtain ⟨locs, X, -, -, -, hx, hZ, hown, hby, -⟩ := X
  exact own_step (fun t a => X.ldc2Long hx hown (mvT hZ w) (g := mkF m pc Ls rest) rfl (hb hby hd) t a) k
theorem own_ldcD (X : own_St p l e R s m args below meth c Z own bytes ml rt nm n0 T h cells slots) {i : Nat} {v : UInt64} (w : (Jvm.Cond.constantDouble own i v).before a0 Z = true) (hd : decode bytes pc = .ok (.ldc2_w i, 3)) (hp : pc + 3 = pc') (k : own_Goal p e below Φ T (mkF m pc' Ls (.double v :: rest))) : own_Goal p e below Φ T (mkF m pc Ls rest) := by
  subst hp
  obtain ⟨locs, X, -, -, -, hx, hZ, hown, hby, -⟩ := X
  exact own_step (fun t a => X.ldc2DoubleC hx hown (mvT hZ w) (g := mkF m pc Ls rest) rfl (hb hby hd) t a) k
theorem own_retI (X : own_St p l e R s m args below meth c Z own bytes ml rt nm n0 T h cells slots) {v : Int32} (hd : decode bytes pc = .ok (.ireturn, 1)) (hr : rt = some .int) (hc : cells ≤ R.cells) (hs : slots ≤ R.slots) (q : Q (some (.int v)) h) : own_Goal p e below (own_Fin below s R n0 Q) T (mkF m pc Ls (.int v :: rest)) := by
  obtain ⟨locs, X, N, e1, n1, hx, hZ, hown, hby, -, hrt, hlk, -⟩ := X
  obtain ⟨fs, hl, hrun, hended, hW, hsame⟩ := X.leave (v := some (.int v)) (fun z => by rw [hrt, hr] at z; cases z) hlk
  exact ⟨_, _, retOut X hx (hrt.trans hr) rfl (Or.inl ⟨rfl, Or.inl rfl, _, rfl⟩) (hb hby hd) hl, hrun, hended, _, _, rfl, ⟨⟨by show Q _ T.heap; rw [e1]; exact q, by show n0 ≤ T.heap.size; rw [e1]; exact n1⟩, N⟩, ⟨_, rfl⟩, hW, hsame.mono hc hs⟩
theorem own_retJ (X : own_St p l e R s m args below meth c Z own bytes ml rt nm n0 T h cells slots) {v : Int64} (hd : decode bytes pc = .ok (.lreturn, 1)) (hr : rt = some .long) (hc : cells ≤ R.cells) (hs : slots ≤ R.slots) (q : Q (some (.long v)) h) : own_Goal p e below (own_Fin below s R n0 Q) T (mkF m pc Ls (.long v :: rest)) := by
  obtain ⟨locs, X, N, e1, n1, hx, hZ, hown, hby, -, hrt, hlk, -⟩ := X
  obtain ⟨fs, hl, hrun, hended, hW, hsame⟩ := X.leave (v := some (.long v)) (fun z => by rw [hrt, hr] at z; cases z) hlk
  exact ⟨_, _, retOut X hx (hrt.trans hr) rfl (Or.inr (Or.inl ⟨rfl, rfl, _, rfl⟩)) (hb hby hd) hl, hrun, hended, _, _, rfl, ⟨⟨by show Q _ T.heap; rw [e1]; exact q, by show n0 ≤ T.heap.size; rw [e1]; exact n1⟩, N⟩, ⟨_, rfl⟩, hW, hsame.mono hc hs⟩
theorem own_retD (X : own_St p l e R s m args below meth c Z own bytes ml rt nm n0 T h cells slots) {v : UInt64} (hd : decode bytes pc = .ok (.dreturn, 1)) (hr : rt = some .double) (hc : cells ≤ R.cells) (hs : slots ≤ R.slots) (q : Q (some (.double v)) h) : own_Goal p e below (own_Fin below s R n0 Q) T (mkF m pc Ls (.double v :: rest)) := by
  obtain ⟨locs, X, N, e1, n1, hx, hZ, hown, hby, -, hrt, hlk, -⟩ := X
  obtain ⟨fs, hl, hrun, hended, hW, hsame⟩ := X.leave (v := some (.double v)) (fun z => by rw [hrt, hr] at z; cases z) hlk
  exact ⟨_, _, retOut X hx (hrt.trans hr) rfl (Or.inr (Or.inr (Or.inl ⟨rfl, rfl, _, rfl⟩))) (hb hby hd) hl, hrun, hended, _, _, rfl, ⟨⟨by show Q _ T.heap; rw [e1]; exact q, by show n0 ≤ T.heap.size; rw [e1]; exact n1⟩, N⟩, ⟨_, rfl⟩, hW, hsame.mono hc hs⟩
theorem own_retZ (X : own_St p l e R s m args below meth c Z own bytes ml rt nm n0 T h cells slots) {v : Int32} (hv : v = 0 ∨ v = 1) (hd : decode bytes pc = .ok (.ireturn, 1)) (hr : rt = some .boolean) (hc : cells ≤ R.cells) (hs : slots ≤ R.slots) (q : Q (some (.int v)) h) : own_Goal p e below (own_Fin below s R n0 Q) T (mkF m pc Ls (.int v :: rest)) := by
  obtain ⟨locs, X, N, e1, n1, hx, hZ, hown, hby, -, hrt, hlk, -⟩ := X
  obtain ⟨fs, hl, hrun, hended, hW, hsame⟩ := X.leave (v := some (.int v)) (fun z => by rw [hrt, hr] at z; cases z) hlk
  have hn : nar .boolean v = v := by rcases hv with rfl | rfl <;> rfl
  exact ⟨_, _, retN X hx (t := .boolean) (hrt.trans hr) (by simp) (hb hby hd) (by rw [hn]; exact hl), hrun, hended, _, _, rfl, ⟨⟨by show Q _ T.heap; rw [e1]; exact q, by show n0 ≤ T.heap.size; rw [e1]; exact n1⟩, N⟩, ⟨_, rfl⟩, hW, hsame.mono hc hs⟩
theorem own_retA (X : own_St p l e R s m args below meth c Z own bytes ml rt nm n0 T h cells slots) {b : Addr} {t : FieldType} (ht : t.isReference = true) (hd : decode bytes pc = .ok (.areturn, 1)) (hr : rt = some t) (hc : cells ≤ R.cells) (hs : slots ≤ R.slots) (q : Q (some (.ref b)) h) : own_Goal p e below (own_Fin below s R n0 Q) T (mkF m pc Ls (.ref b :: rest)) := by
  obtain ⟨locs, X, N, e1, n1, hx, hZ, hown, hby, -, hrt, hlk, -⟩ := X
  obtain ⟨fs, hl, hrun, hended, hW, hsame⟩ := X.leave (v := some (.ref b)) (fun z => by rw [hrt, hr] at z; cases z) hlk
  have hn : narrow t (.ref b) = .ref b := by cases t <;> rfl
  exact ⟨_, _, retOut X hx (hrt.trans hr) hn (Or.inr (Or.inr (Or.inr (Or.inr ⟨rfl, ht, rfl⟩)))) (hb hby hd) hl, hrun, hended, _, _, rfl, ⟨⟨by show Q _ T.heap; rw [e1]; exact q, by show n0 ≤ T.heap.size; rw [e1]; exact n1⟩, N⟩, ⟨_, rfl⟩, hW, hsame.mono hc hs⟩
theorem own_retV (X : own_St p l e R s m args below meth c Z own bytes ml rt nm n0 T h cells slots) (hd : decode bytes pc = .ok (.return_, 1)) (hr : rt = none) (hc : cells ≤ R.cells) (hs : slots ≤ R.slots) (q : Q none h) : own_Goal p e below (own_Fin below s R n0 Q) T (mkF m pc Ls []) := by
  obtain ⟨locs, X, N, e1, n1, hx, hZ, hown, hby, -, hrt, hlk, -⟩ := X
  obtain ⟨fs, hl, hrun, hended, hW, hsame⟩ := X.leave (v := none) (fun _ => rfl) hlk
  exact ⟨_, _, X.returnOut hx (hrt.trans hr) (hb hby hd) hl, hrun, hended, _, _, rfl, ⟨⟨by show Q _ T.heap; rw [e1]; exact q, by show n0 ≤ T.heap.size; rw [e1]; exact n1⟩, N⟩, ⟨_, rfl⟩, hW, hsame.mono hc hs⟩
/-- an array and all it holds -/
def own_Vec (Z : State) (h : Heap) (a : Addr) (ty : FieldType) (vs : List Value) : Prop := ∃ c : Cell, Arr Z h a c ty ∧ c.slots = vs.toArray
theorem own_Vec.lt {a : Addr} {ty : FieldType} {vs : List Value} (F : own_Vec Z h a ty vs) : a < h.size := by obtain ⟨c, A, -⟩ := F; exact A.lt
theorem own_Vec.ext {h' : Heap} {a : Addr} {ty : FieldType} {vs : List Value} (F : own_Vec Z h a ty vs) (E : Ext h h') : own_Vec Z h' a ty vs := by obtain ⟨c, A, r⟩ := F; exact ⟨c, A.ext E, r⟩
theorem own_Vec.other {h' : Heap} {a b : Addr} {sl : Nat} {v : Value} {ty : FieldType} {vs : List Value} (F : own_Vec Z h b ty vs) (W : Wr h h' a sl v) (q : b ≠ a) : own_Vec Z h' b ty vs := by obtain ⟨c, A, r⟩ := F; exact ⟨c, A.other W q, r⟩
theorem own_Vec.keep {h' : Heap} {ws : List Addr} {a : Addr} {ty : FieldType} {vs : List Value} (F : own_Vec Z h a ty vs) (K : Keep h h' ws) (q : a ∉ ws) : own_Vec Z h' a ty vs := by obtain ⟨c, A, r⟩ := F; exact ⟨c, ⟨K.2.1 a c A.1 q, A.2⟩, r⟩
theorem own_Vec.set {h' : Heap} {a : Addr} {i : Nat} {v : Value} {ty : FieldType} {vs : List Value} (F : own_Vec Z h a ty vs) (W : Wr h h' a i v) : own_Vec Z h' a ty (vs.set i v) := by
  obtain ⟨c, A, r⟩ := F
  refine ⟨_, A.same W, ?_⟩
  show c.slots.setIfInBounds i v = _
  rw [r]; simp
theorem own_lt_ne {a b : Addr} (q : b < h.size) (g : a = h.size) : b ≠ a := by subst g; exact Nat.ne_of_lt q
/-- an index in an array, as the library's laws ask it -/
theorem own_in {n i : Nat} {j : Int32} (hj : j.toNatClampNeg = i) (h0 : ¬ j < 0) (hi : i < n) : ¬ (j < 0 ∨ n ≤ j.toNatClampNeg) := by
  rw [hj]; rintro (q | q)
  · exact h0 q
  · omega
theorem own_len (X : own_St p l e R s m args below meth c Z own bytes ml rt nm n0 T h cells slots) {a : Addr} {ty : FieldType} {vs : List Value} (F : own_Vec Z h a ty vs) {v : Int32} (hv : vs.length.toInt32 = v) (hd : decode bytes pc = .ok (.arraylength, 1)) (hp : pc + 1 = pc') (k : own_Goal p e below Φ T (mkF m pc' Ls (.int v :: rest))) : own_Goal p e below Φ T (mkF m pc Ls (.ref a :: rest)) := by
  subst hp
  obtain ⟨locs, X, N, e1, -, hx, hZ, hown, hby, -⟩ := X
  obtain ⟨cl, A, r⟩ := F
  have e2 : cl.slots.size.toInt32 = v := by rw [r]; simpa using hv
  exact own_step (fun t a => X.arraylength hx (cell := cl) (by rw [e1]; exact A.1) (State.isArrayOf_alike hZ.alike A.2.1) (g := mkF m pc Ls _) rfl rfl (hb hby hd) t (by rw [e2]; exact a)) k
theorem own_iaload (X : own_St p l e R s m args below meth c Z own bytes ml rt nm n0 T h cells slots) {a : Addr} {vs : List Value} (F : own_Vec Z h a .int vs) {j : Int32} {i : Nat} {v : Value} (hj : j.toNatClampNeg = i) (h0 : ¬ j < 0) (hv : vs[i]? = some v) (hd : decode bytes pc = .ok (.iaload, 1)) (hp : pc + 1 = pc') (k : own_Goal p e below Φ T (mkF m pc' Ls (v :: rest))) : own_Goal p e below Φ T (mkF m pc Ls (.int j :: .ref a :: rest)) := by
  subst hp
  obtain ⟨locs, X, N, e1, -, hx, hZ, hown, hby, -⟩ := X
  obtain ⟨cl, A, r⟩ := F
  have q1 : i < vs.length := (List.getElem?_eq_some_iff.mp hv).1
  exact own_step (fun t a => X.iaload hx (cell := cl) (by rw [e1]; exact A.1) (State.isArrayOf_alike hZ.alike A.2.1) A.2.2 (own_in hj h0 (by rw [r]; simpa using q1)) (by rw [hj, r]; simpa using hv) (g := mkF m pc Ls _) rfl rfl (hb hby hd) t a) k
theorem own_laload (X : own_St p l e R s m args below meth c Z own bytes ml rt nm n0 T h cells slots) {a : Addr} {vs : List Value} (F : own_Vec Z h a .long vs) {j : Int32} {i : Nat} {v : Value} (hj : j.toNatClampNeg = i) (h0 : ¬ j < 0) (hv : vs[i]? = some v) (hd : decode bytes pc = .ok (.laload, 1)) (hp : pc + 1 = pc') (k : own_Goal p e below Φ T (mkF m pc' Ls (v :: rest))) : own_Goal p e below Φ T (mkF m pc Ls (.int j :: .ref a :: rest)) := by
  subst hp
  obtain ⟨locs, X, N, e1, -, hx, hZ, hown, hby, -⟩ := X
  obtain ⟨cl, A, r⟩ := F
  have q1 : i < vs.length := (List.getElem?_eq_some_iff.mp hv).1
  exact own_step (fun t a => X.laload hx (cell := cl) (by rw [e1]; exact A.1) (State.isArrayOf_alike hZ.alike A.2.1) A.2.2 (own_in hj h0 (by rw [r]; simpa using q1)) (by rw [hj, r]; simpa using hv) (g := mkF m pc Ls _) rfl rfl (hb hby hd) t a) k
theorem own_daload (X : own_St p l e R s m args below meth c Z own bytes ml rt nm n0 T h cells slots) {a : Addr} {vs : List Value} (F : own_Vec Z h a .double vs) {j : Int32} {i : Nat} {v : Value} (hj : j.toNatClampNeg = i) (h0 : ¬ j < 0) (hv : vs[i]? = some v) (hd : decode bytes pc = .ok (.daload, 1)) (hp : pc + 1 = pc') (k : own_Goal p e below Φ T (mkF m pc' Ls (v :: rest))) : own_Goal p e below Φ T (mkF m pc Ls (.int j :: .ref a :: rest)) := by
  subst hp
  obtain ⟨locs, X, N, e1, -, hx, hZ, hown, hby, -⟩ := X
  obtain ⟨cl, A, r⟩ := F
  have q1 : i < vs.length := (List.getElem?_eq_some_iff.mp hv).1
  exact own_step (fun t a => X.daload hx (cell := cl) (by rw [e1]; exact A.1) (State.isArrayOf_alike hZ.alike A.2.1) A.2.2 (own_in hj h0 (by rw [r]; simpa using q1)) (by rw [hj, r]; simpa using hv) (g := mkF m pc Ls _) rfl rfl (hb hby hd) t a) k
theorem own_iastore (X : own_St p l e R s m args below meth c Z own bytes ml rt nm n0 T h cells slots) {a : Addr} {vs : List Value} (F : own_Vec Z h a .int vs) (ha : n0 ≤ a) {j : Int32} {i : Nat} {x : Int32} (hj : j.toNatClampNeg = i) (h0 : ¬ j < 0) (hi : i < vs.length) (hd : decode bytes pc = .ok (.iastore, 1)) (hp : pc + 1 = pc')
    (k : ∀ T' h', own_St p l e R s m args below meth c Z own bytes ml rt nm n0 T' h' cells slots → Wr h h' a i (.int x) → own_Vec Z h' a .int (vs.set i (.int x)) → own_Goal p e below Φ T' (mkF m pc' Ls rest)) : own_Goal p e below Φ T (mkF m pc Ls (.int x :: .int j :: .ref a :: rest)) := by
  subst hp
  obtain ⟨locs, X, N, e1, n1, hx, hZ, hown, hby, r0⟩ := X
  have F0 := F
  obtain ⟨cl, A, r⟩ := F
  obtain ⟨T', h', X', e', W, st⟩ := stI X hx hZ e1 A (own_in hj h0 (by rw [r]; simpa using hi)) (g := mkF m pc Ls _) rfl rfl (hb hby hd)
  have N' := Fr.snoc X' N ha
  rw [hj] at W
  exact own_step st (k T' h' ⟨_, X', N', e', by rw [W.size]; exact n1, hx, hZ, hown, hby, r0⟩ W (F0.set W))
theorem own_dastore (X : own_St p l e R s m args below meth c Z own bytes ml rt nm n0 T h cells slots) {a : Addr} {vs : List Value} (F : own_Vec Z h a .double vs) (ha : n0 ≤ a) {j : Int32} {i : Nat} {x : UInt64} (hj : j.toNatClampNeg = i) (h0 : ¬ j < 0) (hi : i < vs.length) (hd : decode bytes pc = .ok (.dastore, 1)) (hp : pc + 1 = pc')
    (k : ∀ T' h', own_St p l e R s m args below meth c Z own bytes ml rt nm n0 T' h' cells slots → Wr h h' a i (.double x) → own_Vec Z h' a .double (vs.set i (.double x)) → own_Goal p e below Φ T' (mkF m pc' Ls rest)) : own_Goal p e below Φ T (mkF m pc Ls (.double x :: .int j :: .ref a :: rest)) := by
  subst hp
  obtain ⟨locs, X, N, e1, n1, hx, hZ, hown, hby, r0⟩ := X
  have F0 := F
  obtain ⟨cl, A, r⟩ := F
  obtain ⟨T', h', X', e', W, st⟩ := stD X hx hZ e1 A (own_in hj h0 (by rw [r]; simpa using hi)) (g := mkF m pc Ls _) rfl rfl (hb hby hd)
  have N' := Fr.snoc X' N ha
  rw [hj] at W
  exact own_step st (k T' h' ⟨_, X', N', e', by rw [W.size]; exact n1, hx, hZ, hown, hby, r0⟩ W (F0.set W))
theorem own_newarray (X : own_St p l e R s m args below meth c Z own bytes ml rt nm n0 T h cells slots) {aty : ArrayType} {ty : FieldType} (hty : newarray.typeOf aty = ty) (w : (Jvm.Cond.arrayClass ty).before a0 Z = true) {j : Int32} {n : Nat} {vs : List Value} (hj : j.toNatClampNeg = n) (h0 : ¬ j < 0) (hn : n ≤ 1000) (hvs : List.replicate n (defaultValue ty) = vs) {cells' slots' : Nat} (hc' : cells + 1 = cells') (hs' : slots + n = slots') (hc : cells' ≤ R.cells) (hs : slots' ≤ R.slots) (hd : decode bytes pc = .ok (.newarray aty, 2)) (hp : pc + 2 = pc')
    (k : ∀ a T' h', a = h.size → n0 ≤ a → own_St p l e R s m args below meth c Z own bytes ml rt nm n0 T' h' cells' slots' → Ext h h' → own_Vec Z h' a ty vs → own_Goal p e below Φ T' (mkF m pc' Ls (.ref a :: rest))) : own_Goal p e below Φ T (mkF m pc Ls (.int j :: rest)) := by
  subst hp hty hvs hc' hs'
  obtain ⟨locs, X, N, e1, n1, hx, hZ, hown, hby, r0⟩ := X
  obtain ⟨T', h', cA, X', e', E, A, st⟩ := newP X hx hZ w e1 (g := mkF m pc Ls _) rfl (hb hby hd) rfl h0 (cap := n) (by omega) (by omega) hc hs
  refine own_step st (k _ T' h' rfl n1 ⟨_, X', N, e', Nat.le_trans n1 E.1, hx, hZ, hown, hby, r0⟩ E ⟨_, A, ?_⟩)
  simp [newA, hj]
theorem own_new (X : own_St p l e R s m args below meth c Z own bytes ml rt nm n0 T h cells slots) {i : Nat} {C : String} {n : Nat} (w : (Jvm.Cond.classLink own i C).before a0 Z = true) (wi : (Jvm.Cond.instantiable C n).before a0 Z = true) (wz : (Jvm.Cond.initialized C).before a0 Z = true) {cells' slots' : Nat} (hc' : cells + 1 = cells') (hs' : slots + n = slots') (hc : cells' ≤ R.cells) (hs : slots' ≤ R.slots) (hd : decode bytes pc = .ok (.new i, 3)) (hp : pc + 3 = pc')
    (k : ∀ a T' h', a = h.size → n0 ≤ a → own_St p l e R s m args below meth c Z own bytes ml rt nm n0 T' h' cells' slots' → Ext h h' → Exa Z h' a C → (∀ {O nm d : String} {ty : FieldType}, Laid Z a0 C O nm d → parseFieldDescriptor d = some ty → Fld Z h' a O nm d (defaultValue ty)) → own_Goal p e below Φ T' (mkF m pc' Ls (.ref a :: rest))) : own_Goal p e below Φ T (mkF m pc Ls rest) := by
  subst hp hc' hs'
  obtain ⟨locs, X, N, e1, n1, hx, hZ, hown, hby, r0⟩ := X
  obtain ⟨T', h', X', e', E, A, D, -, st⟩ := newO X hx hZ hown w wi wz e1 (g := mkF m pc Ls _) rfl (hb hby hd) hc hs
  exact own_step st (k _ T' h' rfl n1 ⟨_, X', N, e', Nat.le_trans n1 E.1, hx, hZ, hown, hby, r0⟩ E A D)
theorem own_getF (X : own_St p l e R s m args below meth c Z own bytes ml rt nm n0 T h cells slots) {i : Nat} {O n d : String} (w : (Jvm.Cond.fieldLink own i O n d).before a0 Z = true) {a : Addr} {v : Value} (F : Fld Z h a O n d v) (hd : decode bytes pc = .ok (.getfield i, 3)) (hp : pc + 3 = pc')
    (k : ∀ T', own_St p l e R s m args below meth c Z own bytes ml rt nm n0 T' h cells slots → own_Goal p e below Φ T' (mkF m pc' Ls (v :: rest))) : own_Goal p e below Φ T (mkF m pc Ls (.ref a :: rest)) := by
  subst hp
  obtain ⟨locs, X, N, e1, n1, hx, hZ, hown, hby, r0⟩ := X
  obtain ⟨T', X', e', st⟩ := getF X hx hZ hown (host := "") (Or.inl w) Via.refl e1 F (g := mkF m pc Ls _) rfl rfl (hb hby hd)
  exact own_step st (k T' ⟨_, X', N, e', n1, hx, hZ, hown, hby, r0⟩)
theorem own_putF (X : own_St p l e R s m args below meth c Z own bytes ml rt nm n0 T h cells slots) {i : Nat} {O n d C : String} {kk : Nat} {ty : FieldType} (w : (Jvm.Cond.fieldLink own i O n d).before a0 Z = true) {a : Addr} {v old : Value} (F : Fld Z h a O n d old) (E : Exa Z h a C) (L : (Jvm.Cond.lays C O n d).before a0 Z = true ∨ ((Jvm.Cond.laysFinal C O n d).before a0 Z = true ∧ own = O ∧ nm = "<init>")) (wi : (Jvm.Cond.instantiable C kk).before a0 Z = true) (hty : parseFieldDescriptor d = some ty) (hn : narrow ty v = v) (hf : fits ty v = true) (ha : n0 ≤ a) (hd : decode bytes pc = .ok (.putfield i, 3)) (hp : pc + 3 = pc')
    (k : ∀ T' h', own_St p l e R s m args below meth c Z own bytes ml rt nm n0 T' h' cells slots → Wr h h' a (RoadKit.slotOf Z O n d) v → own_Goal p e below Φ T' (mkF m pc' Ls rest)) : own_Goal p e below Φ T (mkF m pc Ls (v :: .ref a :: rest)) := by
  subst hp
  obtain ⟨locs, X, N, e1, n1, hx, hZ, hown, hby, q1, q2, q3, q4⟩ := X
  obtain ⟨T', h', X', e', W, st⟩ := putF X hx hZ hown (host := "") (Or.inl w) Via.refl e1 F E (L.imp id fun z => ⟨z.1, z.2.1, q4.trans z.2.2⟩) wi hty hn hf (g := mkF m pc Ls _) rfl rfl (hb hby hd)
  exact own_step st (k T' h' ⟨_, X', Fr.snoc X' N ha, e', by rw [W.size]; exact n1, hx, hZ, hown, hby, q1, q2, q3, q4⟩ W)
theorem own_initO (X : own_St p l e R s m args below meth c Z own bytes ml rt nm n0 T h cells slots) {i : Nat} (w1 : (Jvm.Cond.methodLink own i Lib.objectInit).before a0 Z = true) (w2 : (Jvm.Cond.instanceMethod Lib.objectInit).before a0 Z = true) (w3 : (Jvm.Cond.code Lib.objectInit ⟨#[0xb1]⟩ 1 none).before a0 Z = true) {a : Addr} (hsz : Ls.size = ml) (hf : 1 ≤ R.frames) {W : Nat} (hW : (rest.map fun v => v.category).sum ≤ W) (hl : W + 12 ≤ R.locals) (hd : decode bytes pc = .ok (.invokespecial i, 3)) (hp : pc + 3 = pc')
    (k : ∀ T', own_St p l e R s m args below meth c Z own bytes ml rt nm n0 T' h cells slots → own_Goal p e below Φ T' (mkF m pc' Ls rest)) : own_Goal p e below Φ T (mkF m pc Ls (.ref a :: rest)) := by
  subst hp
  obtain ⟨locs, X, N, e1, n1, hx, hZ, hown, hby, hml, r0⟩ := X
  obtain ⟨T', X', e', st⟩ := initO X hx hZ hown w1 w2 w3 e1 (g := mkF m pc Ls (.ref a :: rest)) (rest := rest) rfl (hsz.trans hml.symm) rfl (hb hby hd) hf (W := W) (by show 2 * 0 + _ ≤ _; omega) hl
  exact own_step st (k T' ⟨_, X', N, e', n1, hx, hZ, hown, hby, hml, r0⟩)
/-- a callee's contract: called with as' over the heap h0 it returns, and Q says what it leaves -/
def own_Met (l : Launch) (Z : State) (y : MethodName) (bytes : ByteArray) (ml : Nat) (rt : Option FieldType) (ws : List Jvm.Cond) (rm : Room) (as' : Array Value) (h0 : Heap) (n0 : Nat) (Q : Option Value → Heap → Prop) : Prop :=
  MetFree l y (head1 (Jvm.Cond.code y bytes ml rt :: ws) rm) (fun a U => a = as' ∧ Z.Warmed39 U.vm ∧ U.heap = h0) (fun _ _ _ _ _ => True) (fun _ U o U' => ∃ v L, o = .returned v ∧ ((Q v U'.heap ∧ n0 ≤ U'.heap.size) ∧ Fr n0 L) ∧ FrameEnd U o U' L rm.cells rm.slots)
theorem own_meet {y : MethodName} {ws : List Jvm.Cond} {rm : Room} {as' : Array Value} {h0 : Heap} (hpn : plainFor y = true) (hle : n0 ≤ h0.size) {Ls0 : Array Slot} (hef : ∀ m, entryFrame m as' ml = mkF m 0 Ls0 [])
    (body : ∀ (p : Program) (e : Env) (s : State) (m : MethodId) (below : List Frame) (meth : Method) (c : Code) (T : State), own_St p l e rm s m as' below meth c Z y.cls bytes ml rt y.name n0 T h0 0 0 → own_Goal p e below (own_Fin below s rm n0 Q) T (mkF m 0 Ls0 [])) : own_Met l Z y bytes ml rt ws rm as' h0 n0 Q := by
  refine MetFree.of_bodySF hpn hisR ?_
  intro p e s m args below meth c s₁ Bd hml0 hP hK
  obtain ⟨rfl, hZ, hh⟩ := hP
  have e0 : s₁.heap = h0 := by rw [← hh, Bd.state]; rfl
  obtain ⟨s2, o, st, r1, r2, r3⟩ := body p e s m below meth c s₁ ⟨[], Stand.of_body Bd, Fr.nil n0, e0, hle, Bd.exec, hZ, findClass_of_methodNamed Bd.named, Bd.bytes, hml0, Bd.returns, Bd.notSynchronized, (name_of_methodNamed Bd.named Bd.method).1⟩
  exact ⟨s2, o, castTop (hef m) st, r1, r2, r3⟩
theorem own_callS (X : own_St p l e R s m args below meth c Z own bytes ml rt nm n0 T h cells slots) {y : MethodName} {yb : ByteArray} {yl : Nat} {yr : Option FieldType} {rm : Room} {as' : Array Value} {Q' : Option Value → Heap → Prop} (M : own_Met l Z y yb yl yr [] rm as' h n0 Q') {i : Nat} (w1 : (Jvm.Cond.methodLink own i y).before a0 Z = true) (w2 : (Jvm.Cond.static y).before a0 Z = true) (w3 : (Jvm.Cond.initialized y.cls).before a0 Z = true) (w4 : (Jvm.Cond.code y yb yl yr).before a0 Z = true) (hy : y.cls ≠ "java/lang/invoke/MethodHandle" ∧ y.cls ≠ "java/lang/invoke/VarHandle") (hsz : Ls.size = ml) (hf : rm.frames + 1 ≤ R.frames) {W : Nat} (hW : (rest.map fun v => v.category).sum ≤ W) (hl : W + (yl + 11) + rm.locals ≤ R.locals) {cells' slots' : Nat} (hc' : cells + rm.cells = cells') (hs' : slots + rm.slots = slots') (hc : cells' ≤ R.cells) (hs : slots' ≤ R.slots) {argsL stk : List Value} (hlen : ∀ sig, parseMethodDescriptor y.desc = some sig → argsL.length = sig.parameters.length) (hst : stk = argsL.reverse ++ rest) (has : argsL.toArray = as') (hd : decode bytes pc = .ok (.invokestatic i, 3)) (hp : pc + 3 = pc')
    (k : ∀ v T' h', own_St p l e R s m args below meth c Z own bytes ml rt nm n0 T' h' cells' slots' → Q' v h' → own_Goal p e below Φ T' (mkF m pc' Ls (v.toList ++ rest))) : own_Goal p e below Φ T (mkF m pc Ls stk) := by
  subst hp hst has hc' hs'
  obtain ⟨locs, X, N, e1, n1, hx, hZ, hown, hby, hml, r0⟩ := X
  obtain ⟨v, vm1, ⟨T', L', k', n'⟩, -, X', ⟨Lc, ⟨⟨hQ, hG⟩, NL⟩, l1, y1, z1⟩, st⟩ := Jvm.LawKit.callS X hx (y := y) hown (mvT hZ w1) (mvT hZ w2) (mvT hZ w3) (mvT hZ w4) hy (backOf (W := W) (Q := fun v hh L => (Q' v hh ∧ n0 ≤ hh.size) ∧ Fr n0 L) M hZ w4 w3 hf hl) (g := mkF m pc Ls (argsL.reverse ++ rest)) rfl (hsz.trans hml.symm) (argsL := argsL) (rest := rest) hlen rfl (by show 2 * 0 + _ ≤ _; omega) (hb hby hd) (fun _ _ => ⟨rfl, e1, hc, hs⟩)
  dsimp only [Pt.U, Pt.locs, Pt.cells, Pt.slots] at X' l1 y1 z1 st hQ
  subst l1 y1 z1
  exact own_step st (k v T' _ ⟨_, X', Fr.app N NL, rfl, hG, hx, hZ, hown, hby, hml, r0⟩ hQ)
theorem own_special (X : own_St p l e R s m args below meth c Z own bytes ml rt nm n0 T h cells slots) {y : MethodName} {yb : ByteArray} {yl : Nat} {yr : Option FieldType} {rm : Room} {as' : Array Value} {Q' : Option Value → Heap → Prop} (M : own_Met l Z y yb yl yr [] rm as' h n0 Q') (hy1 : y.name = "<init>") (hyr : yr = none) {i : Nat} (w1 : (Jvm.Cond.methodLink own i y).before a0 Z = true) (w2 : (Jvm.Cond.instanceMethod y).before a0 Z = true) (w3 : (Jvm.Cond.initialized y.cls).before a0 Z = true) (w4 : (Jvm.Cond.code y yb yl yr).before a0 Z = true) (hy : y.cls ≠ "java/lang/invoke/MethodHandle" ∧ y.cls ≠ "java/lang/invoke/VarHandle") (hsz : Ls.size = ml) (hf : rm.frames + 1 ≤ R.frames) {W : Nat} (hW : (rest.map fun v => v.category).sum ≤ W) (hl : W + (yl + 11) + rm.locals ≤ R.locals) {cells' slots' : Nat} (hc' : cells + rm.cells = cells') (hs' : slots + rm.slots = slots') (hc : cells' ≤ R.cells) (hs : slots' ≤ R.slots) {a : Addr} {argsL stk : List Value} (hlen : ∀ sig, parseMethodDescriptor y.desc = some sig → argsL.length = sig.parameters.length) (hst : stk = argsL.reverse ++ .ref a :: rest) (has : (.ref a :: argsL).toArray = as') (hd : decode bytes pc = .ok (.invokespecial i, 3)) (hp : pc + 3 = pc')
    (k : ∀ v T' h', own_St p l e R s m args below meth c Z own bytes ml rt nm n0 T' h' cells' slots' → Q' v h' → own_Goal p e below Φ T' (mkF m pc' Ls (v.toList ++ rest))) : own_Goal p e below Φ T (mkF m pc Ls stk) := by
  subst hp hst has hc' hs' hyr
  obtain ⟨locs, X, N, e1, n1, hx, hZ, hown, hby, hml, r0⟩ := X
  obtain ⟨v, vm1, ⟨T', L', k', n'⟩, -, X', ⟨Lc, ⟨⟨hQ, hG⟩, NL⟩, l1, y1, z1⟩, st⟩ := X.specialBack hx (y := y) hy1 hown (mvT hZ w1) (mvT hZ w2) (mvT hZ w4) hy (backOf (W := W) (Q := fun v hh L => (Q' v hh ∧ n0 ≤ hh.size) ∧ Fr n0 L) M hZ w4 w3 hf hl) (g := mkF m pc Ls (argsL.reverse ++ .ref a :: rest)) rfl (hsz.trans hml.symm) (Steps.refl _) (a := a) (argsL := argsL) (rest := rest) hlen rfl (by show 2 * 0 + _ ≤ _; omega) (hb hby hd) (fun _ _ => ⟨rfl, e1, hc, hs⟩)
  dsimp only [Pt.U, Pt.locs, Pt.cells, Pt.slots] at X' l1 y1 z1 st hQ
  subst l1 y1 z1
  exact own_step (fun t b => st.trans b) (k v T' _ ⟨_, X', Fr.app N NL, rfl, hG, hx, hZ, hown, hby, hml, r0⟩ hQ)
theorem own_virtual (X : own_St p l e R s m args below meth c Z own bytes ml rt nm n0 T h cells slots) {y : MethodName} {yb : ByteArray} {yl : Nat} {yr : Option FieldType} {rm : Room} {as' : Array Value} {Q' : Option Value → Heap → Prop} (M : own_Met l Z y yb yl yr [] rm as' h n0 Q') {C : String} {z : MethodName} {i : Nat} (hz : y = z) (w1 : (Jvm.Cond.methodLink own i z).before a0 Z = true) (wd : (Jvm.Cond.declares z).before a0 Z = true) (wsl : (Jvm.Cond.selects C z y).before a0 Z = true) (w2 : (Jvm.Cond.instanceMethod y).before a0 Z = true) (w3 : (Jvm.Cond.initialized y.cls).before a0 Z = true) (w4 : (Jvm.Cond.code y yb yl yr).before a0 Z = true) (hy : y.cls ≠ "java/lang/invoke/MethodHandle" ∧ y.cls ≠ "java/lang/invoke/VarHandle") (hsz : Ls.size = ml) (hf : rm.frames + 1 ≤ R.frames) {W : Nat} (hW : (rest.map fun v => v.category).sum ≤ W) (hl : W + (yl + 11) + rm.locals ≤ R.locals) {cells' slots' : Nat} (hc' : cells + rm.cells = cells') (hs' : slots + rm.slots = slots') (hc : cells' ≤ R.cells) (hs : slots' ≤ R.slots) {a : Addr} (E : Exa Z h a C) {argsL stk : List Value} (hlen : ∀ sig, parseMethodDescriptor y.desc = some sig → argsL.length = sig.parameters.length) (hst : stk = argsL.reverse ++ .ref a :: rest) (has : (.ref a :: argsL).toArray = as') (hd : decode bytes pc = .ok (.invokevirtual i, 3)) (hp : pc + 3 = pc')
    (k : ∀ v T' h', own_St p l e R s m args below meth c Z own bytes ml rt nm n0 T' h' cells' slots' → Q' v h' → own_Goal p e below Φ T' (mkF m pc' Ls (v.toList ++ rest))) : own_Goal p e below Φ T (mkF m pc Ls stk) := by
  subst hp hst has hc' hs' hz
  obtain ⟨locs, X, N, e1, n1, hx, hZ, hown, hby, hml, r0⟩ := X
  obtain ⟨cq, kq, qa, qb, qc⟩ := isOf (T := T) hZ e1 E
  obtain ⟨v, vm1, ⟨T', L', k', n'⟩, -, X', ⟨Lc, ⟨⟨hQ, hG⟩, NL⟩, l1, y1, z1⟩, st⟩ := X.virtualBack hx (y := y) (z := y) hown (mvT hZ w1) (mvT hZ wd) (notFace_of_selects (args := #[]) (mvT hZ wsl)) (mvT hZ wsl) (mvT hZ w2) hy (backOf (W := W) (Q := fun v hh L => (Q' v hh ∧ n0 ≤ hh.size) ∧ Fr n0 L) M hZ w4 w3 hf hl) qa qc (g := mkF m pc Ls (argsL.reverse ++ .ref a :: rest)) rfl (hsz.trans hml.symm) (Steps.refl _) (argsL := argsL) (rest := rest) hlen rfl (by show 2 * 0 + _ ≤ _; omega) (hb hby hd) (fun _ _ => ⟨rfl, e1, hc, hs⟩)
  dsimp only [Pt.U, Pt.locs, Pt.cells, Pt.slots] at X' l1 y1 z1 st hQ
  subst l1 y1 z1
  exact own_step (fun t b => st.trans b) (k v T' _ ⟨_, X', Fr.app N NL, rfl, hG, hx, hZ, hown, hby, hml, r0⟩ hQ)
end OwnWalk
section OwnNum
open Jvm.FP Jvm.FP.Core
/-- the int x is the whole number i, at most B in size -/
def own_I (B : Nat) (i : Int) (x : Int32) : Prop := x.toInt = i ∧ i.natAbs ≤ B
def own_L (B : Nat) (i : Int) (x : Int64) : Prop := x.toInt = i ∧ i.natAbs ≤ B
section
variable {A B C M : Nat} {i j : Int}
theorem own_I.start (x : Int32) : own_I 2147483648 x.toInt x := by
  have := x.toInt_lt; have := x.le_toInt
  exact ⟨rfl, by omega⟩
theorem own_L.start (x : Int64) : own_L 9223372036854775808 x.toInt x := by
  have := x.toInt_lt; have := x.le_toInt
  exact ⟨rfl, by omega⟩
theorem own_I.lit {x : Int32} (h : x.toInt = i) (hB : i.natAbs ≤ B) : own_I B i x := ⟨h, hB⟩
theorem own_I.self {x : Int32} (a : own_I A i x) : own_I A x.toInt x := ⟨rfl, by rw [a.1]; exact a.2⟩
theorem own_L.self {x : Int64} (a : own_L A i x) : own_L A x.toInt x := ⟨rfl, by rw [a.1]; exact a.2⟩
theorem own_L.lit {x : Int64} (h : x.toInt = i) (hB : i.natAbs ≤ B) : own_L B i x := ⟨h, hB⟩
theorem own_abs_mul {i j : Int} (h1 : i.natAbs ≤ A) (h2 : j.natAbs ≤ B) : (i * j).natAbs ≤ A * B := by
  rw [Int.natAbs_mul]; exact Nat.mul_le_mul h1 h2
theorem own_I.add {x y v : Int32} (a : own_I A i x) (b : own_I B j y) (hv : x + y = v) (hC : A + B ≤ C) (h : C < 2147483648) : own_I C (i + j) v := by
  obtain ⟨rfl, h1⟩ := a; obtain ⟨rfl, h2⟩ := b; subst hv
  refine ⟨?_, by omega⟩
  rw [Int32.toInt_add]; exact Int.bmod_eq_of_le (by omega) (by omega)
theorem own_I.sub {x y v : Int32} (a : own_I A i x) (b : own_I B j y) (hv : x - y = v) (hC : A + B ≤ C) (h : C < 2147483648) : own_I C (i - j) v := by
  obtain ⟨rfl, h1⟩ := a; obtain ⟨rfl, h2⟩ := b; subst hv
  refine ⟨?_, by omega⟩
  rw [Int32.toInt_sub]; exact Int.bmod_eq_of_le (by omega) (by omega)
theorem own_I.mul {x y v : Int32} (a : own_I A i x) (b : own_I B j y) (hv : x * y = v) (hC : A * B ≤ C) (h : C < 2147483648) : own_I C (i * j) v := by
  obtain ⟨rfl, h1⟩ := a; obtain ⟨rfl, h2⟩ := b; subst hv
  have h3 := Nat.le_trans (own_abs_mul h1 h2) hC
  refine ⟨?_, h3⟩
  rw [Int32.toInt_mul]; exact Int.bmod_eq_of_le (by omega) (by omega)
theorem own_I.neg {x v : Int32} (a : own_I A i x) (hv : -x = v) (h : A < 2147483648) : own_I A (-i) v := by
  obtain ⟨rfl, h1⟩ := a; subst hv
  refine ⟨?_, by omega⟩
  rw [Int32.toInt_neg]; exact Int.bmod_eq_of_le (by omega) (by omega)
theorem own_and_nn {x m v : Int32} (hv : x &&& m = v) (hm : m.toInt = M) : 0 ≤ v.toInt ∧ v.toInt ≤ M := by
  subst hv; have := c_and x m (by omega); omega
theorem own_I.and {x m v : Int32} (hv : x &&& m = v) (hm : m.toInt = M) : own_I M v.toInt v := by
  have := own_and_nn hv hm
  exact ⟨rfl, by omega⟩
theorem own_land_nn {x m v : Int64} (hv : x &&& m = v) (hm : m.toInt = M) : 0 ≤ v.toInt ∧ v.toInt ≤ M := by
  subst hv
  have h1 := (c_andSL x m).2.2 (by omega)
  refine ⟨h1, ?_⟩
  have la := x.toBitVec.isLt; have lm := m.toBitVec.isLt
  have q : (x &&& m).toBitVec.toNat = x.toBitVec.toNat &&& m.toBitVec.toNat := by show (x.toBitVec &&& m.toBitVec).toNat = _; rw [BitVec.toNat_and]
  have q2 : x.toBitVec.toNat &&& m.toBitVec.toNat ≤ m.toBitVec.toNat := Nat.and_le_right
  change 0 ≤ (x &&& m).toBitVec.toInt at h1
  show (x &&& m).toBitVec.toInt ≤ _
  change m.toBitVec.toInt = _ at hm
  rw [BitVec.toInt_eq_toNat_cond] at h1 hm ⊢
  rw [q] at h1 ⊢
  split at hm <;> split <;> omega
theorem own_L.and {x m v : Int64} (hv : x &&& m = v) (hm : m.toInt = M) : own_L M v.toInt v := by
  have := own_land_nn hv hm
  exact ⟨rfl, by omega⟩
theorem own_lrem_eq {x y v : Int64} (hv : x - (x / y) * y = v) (hx : 0 ≤ x.toInt) (hy : 0 < y.toInt) : v.toInt = x.toInt % y.toInt := by
  subst hv; exact (c_lrem x y _ rfl).1 hx
theorem own_I.shr {x q v : Int32} {k : Nat} (hv : x >>> (q &&& 31) = v) (hk : q.toBitVec.toNat % 32 = k) (hM : 2147483648 ≤ M * 2 ^ k) : own_I M v.toInt v := by
  subst hv
  have h1 := c_ishr x q k hk
  have h2 := x.toInt_lt; have h3 := x.le_toInt
  refine ⟨rfl, ?_⟩
  rw [h1]
  have p : 0 < 2 ^ k := Nat.two_pow_pos k
  generalize 2 ^ k = P at *
  have hP : (0 : Int) < (P : Int) := by omega
  have e1 : x.toInt / (P : Int) ≤ M := by
    refine Int.ediv_le_of_le_mul hP ?_
    have : ((M * P : Nat) : Int) = (M : Int) * P := Int.natCast_mul ..
    omega
  have e2 : -(M : Int) ≤ x.toInt / (P : Int) := by
    refine (Int.le_ediv_iff_mul_le hP).mpr ?_
    have : ((M * P : Nat) : Int) = (M : Int) * P := Int.natCast_mul ..
    rw [Int.neg_mul]; omega
  omega
theorem own_L.ofI {x : Int32} {v : Int64} (a : own_I A i x) (hv : x.toInt64 = v) : own_L A i v := by
  obtain ⟨rfl, h1⟩ := a; subst hv
  exact ⟨Int32.toInt_toInt64 x, h1⟩
theorem own_L.add {x y v : Int64} (a : own_L A i x) (b : own_L B j y) (hv : x + y = v) (hC : A + B ≤ C) (h : C < 9223372036854775808) : own_L C (i + j) v := by
  obtain ⟨rfl, h1⟩ := a; obtain ⟨rfl, h2⟩ := b; subst hv
  refine ⟨?_, by omega⟩
  rw [Int64.toInt_add]; exact Int.bmod_eq_of_le (by omega) (by omega)
theorem own_L.sub {x y v : Int64} (a : own_L A i x) (b : own_L B j y) (hv : x - y = v) (hC : A + B ≤ C) (h : C < 9223372036854775808) : own_L C (i - j) v := by
  obtain ⟨rfl, h1⟩ := a; obtain ⟨rfl, h2⟩ := b; subst hv
  refine ⟨?_, by omega⟩
  rw [Int64.toInt_sub]; exact Int.bmod_eq_of_le (by omega) (by omega)
theorem own_L.mul {x y v : Int64} (a : own_L A i x) (b : own_L B j y) (hv : x * y = v) (hC : A * B ≤ C) (h : C < 9223372036854775808) : own_L C (i * j) v := by
  obtain ⟨rfl, h1⟩ := a; obtain ⟨rfl, h2⟩ := b; subst hv
  have h3 := Nat.le_trans (own_abs_mul h1 h2) hC
  refine ⟨?_, h3⟩
  rw [Int64.toInt_mul]; exact Int.bmod_eq_of_le (by omega) (by omega)
theorem own_L.neg {x v : Int64} (a : own_L A i x) (hv : -x = v) (h : A < 9223372036854775808) : own_L A (-i) v := by
  obtain ⟨rfl, h1⟩ := a; subst hv
  refine ⟨?_, by omega⟩
  rw [Int64.toInt_neg]; exact Int.bmod_eq_of_le (by omega) (by omega)
end
/-- a datum times 2^k -/
def own_sh (k : Int) : Datum → Datum
  | .fin s c q => .fin s c (q + k)
  | d => d
theorem own_sh_sum (k : Int) (x y : Datum) : exactSum (own_sh k x) (own_sh k y) = own_sh k (exactSum x y) := by
  cases x with
  | nan => rfl
  | inf s => cases y with
    | nan => rfl
    | inf t => by_cases h : s = t <;> simp [own_sh, exactSum, h]
    | fin t d r => rfl
  | fin s c q => cases y with
    | nan => rfl
    | inf t => rfl
    | fin t d r =>
      have e1 : min (q + k) (r + k) = min q r + k := by omega
      have e2 : sumUnits s c (q + k) t d (r + k) (min q r + k) = sumUnits s c q t d r (min q r) := by
        unfold sumUnits inUnits
        rw [show q + k - (min q r + k) = q - min q r by omega, show r + k - (min q r + k) = r - min q r by omega]
      simp only [own_sh, exactSum, e1, e2]
theorem own_sh_prod (k r : Int) (x y : Datum) : exactProduct (own_sh k x) (own_sh r y) = own_sh (k + r) (exactProduct x y) := by
  cases x with
  | nan => rfl
  | inf s => cases y with
    | nan => rfl
    | inf t => rfl
    | fin t d u => simp only [own_sh, exactProduct]; split <;> rfl
  | fin s c q => cases y with
    | nan => rfl
    | inf t => simp only [own_sh, exactProduct]; split <;> rfl
    | fin t d u =>
      simp only [own_sh, exactProduct]
      rw [show q + k + (u + r) = q + u + (k + r) by omega]
theorem own_sh_neg (k : Int) (x : Datum) : negate (own_sh k x) = own_sh k (negate x) := by cases x <;> rfl
theorem own_sh_order (k : Int) (x y : Datum) : order (own_sh k x) (own_sh k y) = order x y := by
  cases x <;> cases y <;> try rfl
  rename_i s c q t d r
  simp only [own_sh, order]
  rw [show min (q + k) (r + k) = min q r + k by omega]
  unfold inUnits
  rw [show q + k - (min q r + k) = q - min q r by omega, show r + k - (min q r + k) = r - min q r by omega]
theorem own_sh_sh (k r : Int) (x : Datum) : own_sh r (own_sh k x) = own_sh (k + r) x := by
  cases x <;> simp only [own_sh]
  rw [Int.add_assoc]
theorem own_sh_zero (x : Datum) : own_sh 0 x = x := by cases x <;> simp [own_sh]
theorem own_signed_nat {i : Int} {s : Bool} {n : Nat} (h : n = i.natAbs) (hs : i ≠ 0 → s = decide (i < 0)) : signed s n = i := by
  by_cases h0 : i = 0
  · subst h0; subst h; exact signed_zero s
  · rw [hs h0, h]; unfold signed
    by_cases q : i < 0 <;> simp [q] <;> omega
/-- what is i * 2^-k in size rounds to itself, if i has 53 digits at the most -/
theorem own_round_core {k : Nat} {i : Int} {s : Bool} {c : Nat} {q : Int} (hk : k ≤ 1074) (hi : i.natAbs < 9007199254740992) (hs : i ≠ 0 → s = decide (i < 0)) : Whole i (own_sh k (roundRatio b64 s i.natAbs 1 (-(k : Int)))) := by
  obtain ⟨c', q', e1, e2⟩ := round_exact good_b64 s (c := i.natAbs) (q := -(k : Int)) (show i.natAbs < 2 ^ 53 by omega) (show (-1074 : Int) ≤ _ by omega) (show _ ≤ (971 : Int) by omega)
  have e3 : roundRatio b64 s i.natAbs 1 (-(k : Int)) = .fin s c' q' := e1
  have hf : Core.fits b64 (.fin s c' q') := by rw [← e1]; exact round_fits good_b64 _
  have hq : (-1074 : Int) ≤ q' := hf.2.1
  rw [e3]
  show signed s (c' * 2 ^ (q' + k).toNat) = i * ((2 ^ (-(q' + k)).toNat : Nat) : Int)
  have e4 : c' * 2 ^ (q' + 1074).toNat = i.natAbs * 2 ^ (1074 - k) := by
    have := e2
    unfold inUnits at this
    rw [show (q' - b64.qmin).toNat = (q' + 1074).toNat by rw [show b64.qmin = -1074 from rfl]; omega, show (-(k : Int) - b64.qmin).toNat = 1074 - k by rw [show b64.qmin = -1074 from rfl]; omega] at this
    exact this
  have e5 : c' * 2 ^ (q' + k).toNat = i.natAbs * 2 ^ (-(q' + k)).toNat := by
    refine Nat.eq_of_mul_eq_mul_right (Nat.two_pow_pos (1074 - k)) ?_
    have x1 : c' * 2 ^ (q' + k).toNat * 2 ^ (1074 - k) = c' * 2 ^ (q' + 1074).toNat * 2 ^ (-(q' + k)).toNat := by
      rw [Nat.mul_assoc, Nat.mul_assoc, ← Nat.pow_add, ← Nat.pow_add]; congr 2; omega
    rw [x1, e4, Nat.mul_right_comm]
  rw [e5, signed_mul, own_signed_nat rfl hs]
theorem own_round {k : Nat} {i : Int} {d : Datum} (hk : k ≤ 1074) (hi : i.natAbs < 9007199254740992) (h : Whole i (own_sh k d)) : Whole i (own_sh k (round b64 d)) := by
  cases d with
  | nan => exact h.elim
  | inf => exact h.elim
  | fin s c q =>
    have h1 : c * 2 ^ (q + k).toNat = i.natAbs * 2 ^ (-(q + k)).toNat := whole_natAbs h
    have e : round b64 (.fin s c q) = roundRatio b64 s i.natAbs 1 (-(k : Int)) := by
      refine roundRatio_congr (by decide) (by decide) ?_
      rw [show (q - -(k : Int)).toNat = (q + k).toNat by omega, show (-(k : Int) - q).toNat = (-(q + k)).toNat by omega]
      simpa using h1
    rw [e]
    exact own_round_core (c := c) (q := q) hk hi (fun h0 => whole_sign h h0)
/-- the double x is i * 2^-k, i at most B in size (both zeros are 0) -/
def own_D (k B : Nat) (i : Int) (x : UInt64) : Prop := Whole i (own_sh k (val64 x)) ∧ i.natAbs ≤ B
section
variable {k r t A B C : Nat} {i j : Int} {x y v : UInt64}
theorem own_D.fin (a : own_D k A i x) : ∃ s c q, val64 x = .fin s c q := by
  cases e : val64 x with
  | nan => have := a.1; rw [e] at this; exact this.elim
  | inf => have := a.1; rw [e] at this; exact this.elim
  | fin s c q => exact ⟨s, c, q, rfl⟩
theorem own_D.nn (a : own_D k A i x) : Jvm.Free.Fl.NoNaN64 x := by
  obtain ⟨s, c, q, e⟩ := a.fin
  exact Jvm.Free.Fl.val64_no.mpr (by rw [e]; exact Datum.noConfusion)
theorem own_D.isFin (a : own_D k A i x) : Jvm.Free.Fl.Fin64 x := by
  obtain ⟨s, c, q, e⟩ := a.fin
  exact Jvm.Free.Fl.fin64_core.mpr ⟨s, c, q, e⟩
theorem own_D.lit {s : Bool} {c : Nat} {q : Int} (h : val64 x = .fin s c q) (hw : signed s (c * 2 ^ (q + k).toNat) = i * ((2 ^ (-(q + k)).toNat : Nat) : Int)) (hB : i.natAbs ≤ B) : own_D k B i x := by
  refine ⟨?_, hB⟩
  rw [h]; exact hw
theorem own_D.mono (a : own_D k A i x) (h : A ≤ B) : own_D k B i x := ⟨a.1, Nat.le_trans a.2 h⟩
theorem own_D.zero {s : Bool} (h : val64 x = .fin s 0 b64.qmin) (k : Nat) : own_D k 0 0 x := by
  refine ⟨?_, by decide⟩
  rw [h]
  show signed s (0 * _) = 0 * _
  rw [Nat.zero_mul, signed_zero, Int.zero_mul]
theorem own_D.ofInt (h : DInt i x) (hB : i.natAbs ≤ B) : own_D 0 B i x := ⟨by rw [show ((0 : Nat) : Int) = 0 from rfl, own_sh_zero]; exact h, hB⟩
theorem own_D.i2d {z : Int32} (a : own_I A i z) (hv : FP.i2d z = v) : own_D 0 A i v := by
  subst hv; obtain ⟨rfl, h⟩ := a
  exact own_D.ofInt (i2d_int z) h
theorem own_D.l2d {z : Int64} (a : own_L A i z) (hv : FP.l2d z = v) (h : A ≤ 9007199254740992) : own_D 0 A i v := by
  subst hv; obtain ⟨rfl, h1⟩ := a
  exact own_D.ofInt (l2d_int (show _ ≤ 2 ^ 53 by omega)) h1
theorem own_D.add (a : own_D k A i x) (b : own_D k B j y) (hv : FP.dadd x y = v) (hC : A + B ≤ C) (h : C < 9007199254740992) (hk : k ≤ 1074) : own_D k C (i + j) v := by
  subst hv
  have h2 : (i + j).natAbs ≤ C := by have := a.2; have := b.2; omega
  refine ⟨?_, h2⟩
  show Whole _ (own_sh k (val64 (Core.dadd x y)))
  rw [val64_dadd]
  refine own_round hk (by omega) ?_
  rw [← own_sh_sum]; exact whole_sum a.1 b.1
theorem own_D.sub (a : own_D k A i x) (b : own_D k B j y) (hv : FP.dsub x y = v) (hC : A + B ≤ C) (h : C < 9007199254740992) (hk : k ≤ 1074) : own_D k C (i - j) v := by
  subst hv
  have h2 : (i - j).natAbs ≤ C := by have := a.2; have := b.2; omega
  refine ⟨?_, h2⟩
  show Whole _ (own_sh k (val64 (Core.dsub x y)))
  rw [val64_dsub]
  refine own_round hk (by omega) ?_
  rw [← own_sh_sum, ← own_sh_neg]; exact whole_sum a.1 (whole_negate b.1)
theorem own_D.mul (a : own_D k A i x) (b : own_D r B j y) (hv : FP.dmul x y = v) (hC : A * B ≤ C) (h : C < 9007199254740992) (ht : k + r = t) (hk : t ≤ 1074) : own_D t C (i * j) v := by
  subst hv ht
  have h2 : (i * j).natAbs ≤ C := Nat.le_trans (own_abs_mul a.2 b.2) hC
  refine ⟨?_, h2⟩
  show Whole _ (own_sh ((k + r : Nat) : Int) (val64 (Core.dmul x y)))
  rw [val64_dmul]
  refine own_round hk (by omega) ?_
  rw [Int.natCast_add, ← own_sh_prod]; exact whole_product a.1 b.1
theorem own_D.neg (a : own_D k A i x) (hv : FP.dneg x = v) : own_D k A (-i) v := by
  subst hv
  refine ⟨?_, by have := a.2; omega⟩
  rw [FP.val64_dneg, ← own_sh_neg]; exact whole_negate a.1
theorem own_whole_up {i : Int} {d : Datum} (r : Nat) (h : Whole i d) : Whole (i * ((2 ^ r : Nat) : Int)) (own_sh r d) := by
  cases d with
  | nan => exact h.elim
  | inf => exact h.elim
  | fin s c q =>
    have h1 : signed s (c * 2 ^ q.toNat) = i * ((2 ^ (-q).toNat : Nat) : Int) := h
    show signed s (c * 2 ^ (q + r).toNat) = i * ((2 ^ r : Nat) : Int) * ((2 ^ (-(q + r)).toNat : Nat) : Int)
    have p2 : ((2 ^ (-q).toNat : Nat) : Int) ≠ 0 := by
      have := Nat.two_pow_pos (-q).toNat; omega
    refine Int.eq_of_mul_eq_mul_right p2 ?_
    have e : (q + r).toNat + (-q).toNat = q.toNat + r + (-(q + r)).toNat := by omega
    calc signed s (c * 2 ^ (q + r).toNat) * ((2 ^ (-q).toNat : Nat) : Int)
        = signed s (c * 2 ^ ((q + r).toNat + (-q).toNat)) := by rw [← signed_mul, Nat.mul_assoc, ← Nat.pow_add]
      _ = signed s (c * 2 ^ q.toNat * 2 ^ r * 2 ^ (-(q + r)).toNat) := by rw [e, Nat.pow_add, Nat.pow_add]; congr 1; ac_rfl
      _ = i * ((2 ^ (-q).toNat : Nat) : Int) * ((2 ^ r : Nat) : Int) * ((2 ^ (-(q + r)).toNat : Nat) : Int) := by rw [signed_mul, signed_mul, h1]
      _ = _ := by ac_rfl
theorem own_D.up (a : own_D k A i x) {P : Nat} (hP : 2 ^ r = P) (ht : k + r = t) (hC : A * P ≤ C) : own_D t C (i * (P : Int)) x := by
  subst hP ht
  refine ⟨?_, Nat.le_trans (own_abs_mul a.2 (Nat.le_of_eq (Int.natAbs_natCast _))) hC⟩
  rw [Int.natCast_add, ← own_sh_sh]; exact own_whole_up r a.1
theorem own_D.dcmp (a : own_D k A i x) (b : own_D k B j y) : FP.dcmp x y = some (compare i j) := by
  show order (val64 x) (val64 y) = _
  rw [← own_sh_order k]; exact order_whole a.1 b.1
end
def own_c3 (i j : Int) : Int32 := if i < j then -1 else if i = j then 0 else 1
theorem own_c3_cmp (i j : Int) (o : CmpOp) : cmpValue (some (compare i j)) o = own_c3 i j := by
  unfold own_c3
  by_cases h : i < j
  · rw [if_pos h, show compare i j = .lt from Int.compare_eq_lt.mpr h]; rfl
  · rw [if_neg h]
    by_cases h2 : i = j
    · rw [if_pos h2, show compare i j = .eq from Int.compare_eq_eq.mpr h2]; rfl
    · rw [if_neg h2, show compare i j = .gt from Int.compare_eq_gt.mpr (by omega)]; rfl
theorem own_D.cmp {k A B : Nat} {i j : Int} {x y : UInt64} (a : own_D k A i x) (b : own_D k B j y) {o : CmpOp} : cmpValue (FP.dcmp x y) o = own_c3 i j := by
  rw [a.dcmp b]; exact own_c3_cmp i j o
theorem own_c3_eq {i j : Int} (h : i = j) : ifCond.holds .eq (own_c3 i j) = true ∧ ifCond.holds .ne (own_c3 i j) = false := by
  subst h; unfold own_c3; simp [ifCond.holds]
theorem own_c3_ne {i j : Int} (h : ¬ i = j) : ifCond.holds .eq (own_c3 i j) = false ∧ ifCond.holds .ne (own_c3 i j) = true := by
  unfold own_c3; by_cases q : i < j <;> simp [q, h, ifCond.holds]
theorem own_c3_lt {i j : Int} (h : i < j) : ifCond.holds .lt (own_c3 i j) = true ∧ ifCond.holds .ge (own_c3 i j) = false := by
  unfold own_c3; simp [h]; decide
theorem own_c3_nlt {i j : Int} (h : ¬ i < j) : ifCond.holds .lt (own_c3 i j) = false ∧ ifCond.holds .ge (own_c3 i j) = true := by
  unfold own_c3; rw [if_neg h]; by_cases q : i = j
  · rw [if_pos q]; decide
  · rw [if_neg q]; decide
theorem own_c3_gt {i j : Int} (h : j < i) : ifCond.holds .gt (own_c3 i j) = true ∧ ifCond.holds .le (own_c3 i j) = false := by
  unfold own_c3; rw [if_neg (by omega), if_neg (by omega)]; decide
theorem own_c3_ngt {i j : Int} (h : ¬ j < i) : ifCond.holds .gt (own_c3 i j) = false ∧ ifCond.holds .le (own_c3 i j) = true := by
  unfold own_c3; by_cases q : i < j
  · rw [if_pos q]; decide
  · rw [if_neg q, if_pos (by omega)]; decide
/-- the branches on ints, by what is known of them -/
theorem own_i_eq {x y : Int32} (h : x = y) : if_icmp.holds .eq x y = true ∧ if_icmp.holds .ne x y = false := teq h
theorem own_i_ne {x y : Int32} (h : ¬ x = y) : if_icmp.holds .eq x y = false ∧ if_icmp.holds .ne x y = true := feq h
theorem own_i_lt {x y : Int32} (h : x < y) : if_icmp.holds .lt x y = true ∧ if_icmp.holds .ge x y = false := ⟨(tlt h).1, (tlt h).2.1⟩
theorem own_i_nlt {x y : Int32} (h : ¬ x < y) : if_icmp.holds .lt x y = false ∧ if_icmp.holds .ge x y = true := ⟨(flt h).1, (flt h).2.1⟩
theorem own_i_gt {x y : Int32} (h : y < x) : if_icmp.holds .gt x y = true ∧ if_icmp.holds .le x y = false := ⟨(tlt h).2.2.1, (tlt h).2.2.2⟩
theorem own_i_ngt {x y : Int32} (h : ¬ y < x) : if_icmp.holds .gt x y = false ∧ if_icmp.holds .le x y = true := ⟨(flt h).2.2.1, (flt h).2.2.2⟩
theorem own_z_eq {x : Int32} (h : x = 0) : ifCond.holds .eq x = true ∧ ifCond.holds .ne x = false := by rw [if0, if0]; exact teq h
theorem own_z_ne {x : Int32} (h : ¬ x = 0) : ifCond.holds .eq x = false ∧ ifCond.holds .ne x = true := by rw [if0, if0]; exact feq h
theorem own_z_lt {x : Int32} (h : x < 0) : ifCond.holds .lt x = true ∧ ifCond.holds .ge x = false := by rw [if0, if0]; exact own_i_lt h
theorem own_z_nlt {x : Int32} (h : ¬ x < 0) : ifCond.holds .lt x = false ∧ ifCond.holds .ge x = true := by rw [if0, if0]; exact own_i_nlt h
theorem own_z_gt {x : Int32} (h : 0 < x) : ifCond.holds .gt x = true ∧ ifCond.holds .le x = false := by rw [if0, if0]; exact own_i_gt h
theorem own_z_ngt {x : Int32} (h : ¬ 0 < x) : ifCond.holds .gt x = false ∧ ifCond.holds .le x = true := by rw [if0, if0]; exact own_i_ngt h
theorem own_cases2 {v : Int32} (h : 0 ≤ v.toInt ∧ v.toInt ≤ ((1 : Nat) : Int)) : v = (0 : Int32) ∨ v = (1 : Int32) := by
  have : v.toInt = 0 ∨ v.toInt = 1 := by omega
  rcases this with q | q
  · exact Or.inl (Int32.toInt_inj.mp q)
  · exact Or.inr (Int32.toInt_inj.mp q)
theorem own_cases4 {v : Int32} (h : 0 ≤ v.toInt ∧ v.toInt ≤ ((3 : Nat) : Int)) : v = (0 : Int32) ∨ v = (1 : Int32) ∨ v = (2 : Int32) ∨ v = (3 : Int32) := by
  have : v.toInt = 0 ∨ v.toInt = 1 ∨ v.toInt = 2 ∨ v.toInt = 3 := by omega
  rcases this with q | q | q | q
  · exact Or.inl (Int32.toInt_inj.mp q)
  · exact Or.inr (Or.inl (Int32.toInt_inj.mp q))
  · exact Or.inr (Or.inr (Or.inl (Int32.toInt_inj.mp q)))
  · exact Or.inr (Or.inr (Or.inr (Int32.toInt_inj.mp q)))
theorem own_cases16 {v : Int32} (h : 0 ≤ v.toInt ∧ v.toInt ≤ ((15 : Nat) : Int)) : v = (0 : Int32) ∨ v = (1 : Int32) ∨ v = (2 : Int32) ∨ v = (3 : Int32) ∨ v = (4 : Int32) ∨ v = (5 : Int32) ∨ v = (6 : Int32) ∨ v = (7 : Int32) ∨ v = (8 : Int32) ∨ v = (9 : Int32) ∨ v = (10 : Int32) ∨ v = (11 : Int32) ∨ v = (12 : Int32) ∨ v = (13 : Int32) ∨ v = (14 : Int32) ∨ v = (15 : Int32) := by
  have : v.toInt = 0 ∨ v.toInt = 1 ∨ v.toInt = 2 ∨ v.toInt = 3 ∨ v.toInt = 4 ∨ v.toInt = 5 ∨ v.toInt = 6 ∨ v.toInt = 7 ∨ v.toInt = 8 ∨ v.toInt = 9 ∨ v.toInt = 10 ∨ v.toInt = 11 ∨ v.toInt = 12 ∨ v.toInt = 13 ∨ v.toInt = 14 ∨ v.toInt = 15 := by omega
  rcases this with q | q | q | q | q | q | q | q | q | q | q | q | q | q | q | q
  · exact Or.inl (Int32.toInt_inj.mp q)
  · exact Or.inr (Or.inl (Int32.toInt_inj.mp q))
  · exact Or.inr (Or.inr (Or.inl (Int32.toInt_inj.mp q)))
  · exact Or.inr (Or.inr (Or.inr (Or.inl (Int32.toInt_inj.mp q))))
  · exact Or.inr (Or.inr (Or.inr (Or.inr (Or.inl (Int32.toInt_inj.mp q)))))
  · exact Or.inr (Or.inr (Or.inr (Or.inr (Or.inr (Or.inl (Int32.toInt_inj.mp q))))))
  · exact Or.inr (Or.inr (Or.inr (Or.inr (Or.inr (Or.inr (Or.inl (Int32.toInt_inj.mp q)))))))
  · exact Or.inr (Or.inr (Or.inr (Or.inr (Or.inr (Or.inr (Or.inr (Or.inl (Int32.toInt_inj.mp q))))))))
  · exact Or.inr (Or.inr (Or.inr (Or.inr (Or.inr (Or.inr (Or.inr (Or.inr (Or.inl (Int32.toInt_inj.mp q)))))))))
  · exact Or.inr (Or.inr (Or.inr (Or.inr (Or.inr (Or.inr (Or.inr (Or.inr (Or.inr (Or.inl (Int32.toInt_inj.mp q))))))))))
  · exact Or.inr (Or.inr (Or.inr (Or.inr (Or.inr (Or.inr (Or.inr (Or.inr (Or.inr (Or.inr (Or.inl (Int32.toInt_inj.mp q)))))))))))
  · exact Or.inr (Or.inr (Or.inr (Or.inr (Or.inr (Or.inr (Or.inr (Or.inr (Or.inr (Or.inr (Or.inr (Or.inl (Int32.toInt_inj.mp q))))))))))))
  · exact Or.inr (Or.inr (Or.inr (Or.inr (Or.inr (Or.inr (Or.inr (Or.inr (Or.inr (Or.inr (Or.inr (Or.inr (Or.inl (Int32.toInt_inj.mp q)))))))))))))
  · exact Or.inr (Or.inr (Or.inr (Or.inr (Or.inr (Or.inr (Or.inr (Or.inr (Or.inr (Or.inr (Or.inr (Or.inr (Or.inr (Or.inl (Int32.toInt_inj.mp q))))))))))))))
  · exact Or.inr (Or.inr (Or.inr (Or.inr (Or.inr (Or.inr (Or.inr (Or.inr (Or.inr (Or.inr (Or.inr (Or.inr (Or.inr (Or.inr (Or.inl (Int32.toInt_inj.mp q)))))))))))))))
  · exact Or.inr (Or.inr (Or.inr (Or.inr (Or.inr (Or.inr (Or.inr (Or.inr (Or.inr (Or.inr (Or.inr (Or.inr (Or.inr (Or.inr (Or.inr (Int32.toInt_inj.mp q)))))))))))))))
/-- lcmp as a comparison of whole numbers -/
theorem own_lcmp_c3 (x y : Int64) : XT.cmpL x y = own_c3 x.toInt y.toInt := by
  unfold XT.cmpL own_c3
  simp only [Int64.lt_iff_toInt_lt, ← Int64.toInt_inj]
  by_cases h : x.toInt < y.toInt
  · simp [h, show ¬ y.toInt < x.toInt by omega, show ¬ x.toInt = y.toInt by omega]
  · by_cases h2 : x.toInt = y.toInt
    · simp [h2]
    · simp [h, h2, show y.toInt < x.toInt by omega]
theorem own_L.cmp {A B : Nat} {i j : Int} {x y : Int64} (a : own_L A i x) (b : own_L B j y) : XT.cmpL x y = own_c3 i j := by
  rw [own_lcmp_c3, a.1, b.1]
end OwnNum
section OwnDiv
open Jvm.FP Jvm.FP.Core
theorem own_quotient {s t : Bool} {c d : Nat} {q r : Int} (hd : d ≠ 0) : quotient b64 (.fin s c q) (.fin t d r) = roundRatio b64 (s != t) c d (q - r) := by
  show (if d = 0 then _ else _) = _
  rw [if_neg hd]
/-- the quotient of i * 2^-k and j is the rounded |i| / |j| * 2^-k -/
theorem own_quot {k A B : Nat} {i j : Int} {x z v : UInt64} (a : own_D k A i x) (b : own_D 0 B j z) (hj : j ≠ 0) (hv : FP.ddiv x z = v) :
    ∃ sg : Bool, val64 v = roundRatio b64 sg i.natAbs j.natAbs (-(k : Int)) ∧ (i ≠ 0 → sg = (decide (i < 0) != decide (j < 0))) := by
  subst hv
  obtain ⟨s, c, q, e1⟩ := a.fin
  obtain ⟨t, d, r, e2⟩ := b.fin
  have w1 : Whole i (.fin s c (q + k)) := by have := a.1; rw [e1] at this; exact this
  have w2 : Whole j (.fin t d r) := by have := b.1; rw [e2, show ((0 : Nat) : Int) = 0 from rfl, own_sh_zero] at this; exact this
  have hd : d ≠ 0 := fun h => hj ((whole_zero w2).mp h)
  refine ⟨s != t, ?_, fun hi => by rw [whole_sign w1 hi, whole_sign w2 hj]⟩
  show val64 (Core.ddiv x z) = _
  rw [val64_ddiv, e1, e2]
  show (if d = 0 then _ else roundRatio b64 (s != t) c d (q - r)) = _
  rw [if_neg hd]
  refine roundRatio_congr (by omega) (by omega) ?_
  have h1 : c * 2 ^ (q + k).toNat = i.natAbs * 2 ^ (-(q + k)).toNat := whole_natAbs w1
  have h2 : d * 2 ^ r.toNat = j.natAbs * 2 ^ (-r).toNat := whole_natAbs w2
  generalize i.natAbs = I at *
  generalize j.natAbs = J at *
  refine Nat.eq_of_mul_eq_mul_right (Nat.two_pow_pos ((-r).toNat + (q + k).toNat)) ?_
  have x1 : c * J * 2 ^ (q - r - -(k : Int)).toNat * 2 ^ ((-r).toNat + (q + k).toNat) = (c * 2 ^ (q + k).toNat) * (J * 2 ^ (-r).toNat) * 2 ^ (q - r - -(k : Int)).toNat := by rw [Nat.pow_add]; ac_rfl
  have x2 : I * d * 2 ^ (-(k : Int) - (q - r)).toNat * 2 ^ ((-r).toNat + (q + k).toNat) = I * d * 2 ^ ((-(q + k)).toNat + r.toNat + (q - r - -(k : Int)).toNat) := by rw [Nat.mul_assoc (I * d), ← Nat.pow_add]; congr 2; omega
  rw [x1, x2, h1, ← h2, Nat.pow_add, Nat.pow_add]; ac_rfl
theorem own_quot_nn {k A B : Nat} {i j : Int} {x z v : UInt64} (a : own_D k A i x) (b : own_D 0 B j z) (hj : j ≠ 0) (hv : FP.ddiv x z = v) : Jvm.Free.Fl.NoNaN64 v := by
  obtain ⟨sg, e, -⟩ := own_quot a b hj hv
  exact Jvm.Free.Fl.val64_no.mpr (by rw [e]; exact roundRatio_ne_nan _ _ _ _ _)
theorem own_round_zero (sg : Bool) (d : Nat) (e : Int) : roundRatio b64 sg 0 d e = .fin sg 0 b64.qmin := by unfold roundRatio; rw [if_pos rfl]
/-- two quotients of equal whole numbers compare as equal -/
theorem own_quot_eq {k A B A' B' : Nat} {i j : Int} {x y z w v u : UInt64} (a : own_D k A i x) (b : own_D 0 B j z) (a' : own_D k A' i y) (b' : own_D 0 B' j w) (hj : j ≠ 0) (hv : FP.ddiv x z = v) (hu : FP.ddiv y w = u) : FP.dcmp v u = some .eq := by
  obtain ⟨s1, e1, f1⟩ := own_quot a b hj hv
  obtain ⟨s2, e2, f2⟩ := own_quot a' b' hj hu
  by_cases hi : i = 0
  · subst hi
    have d1 := own_D.zero (x := v) (s := s1) (by rw [e1]; exact own_round_zero ..) 0
    have d2 := own_D.zero (x := u) (s := s2) (by rw [e2]; exact own_round_zero ..) 0
    rw [d1.dcmp d2]; rfl
  · have e3 : s1 = s2 := (f1 hi).trans (f2 hi).symm
    subst e3
    have e4 : v = u := val64_inj (by rw [e1]; exact roundRatio_ne_nan _ _ _ _ _) (e1.trans e2.symm)
    subst e4
    exact dcmp_self (by rw [e1]; exact roundRatio_ne_nan _ _ _ _ _)
theorem own_quot_cmp {k A B A' B' : Nat} {i j : Int} {x y z w v u : UInt64} (a : own_D k A i x) (b : own_D 0 B j z) (a' : own_D k A' i y) (b' : own_D 0 B' j w) (hj : j ≠ 0) (hv : FP.ddiv x z = v) (hu : FP.ddiv y w = u) {o : CmpOp} : cmpValue (FP.dcmp v u) o = 0 := by
  rw [own_quot_eq a b a' b' hj hv hu]; rfl
theorem own_D.of_eq {k A : Nat} {i j : Int} {x : UInt64} (a : own_D k A i x) (h : i = j) : own_D k A j x := h ▸ a
/-- a quotient by a power of two is exact -/
theorem own_D.divp {k r t A B P : Nat} {i : Int} {x z v : UInt64} (a : own_D k A i x) (b : own_D 0 B (P : Int) z) (hP : P = 2 ^ r) (hv : FP.ddiv x z = v) (hA : A < 9007199254740992) (ht : k + r = t) (hk : t ≤ 1074) : own_D t A i v := by
  subst ht
  have p := Nat.two_pow_pos r
  have hj : (P : Int) ≠ 0 := by omega
  obtain ⟨sg, e, f⟩ := own_quot a b hj hv
  refine ⟨?_, a.2⟩
  have e2 : roundRatio b64 sg i.natAbs ((P : Int)).natAbs (-(k : Int)) = roundRatio b64 sg i.natAbs 1 (-((k + r : Nat) : Int)) := by
    refine roundRatio_congr (by omega) (by decide) ?_
    rw [Int.natAbs_natCast, hP, show (-(k : Int) - -((k + r : Nat) : Int)).toNat = r by omega, show (-((k + r : Nat) : Int) - -(k : Int)).toNat = 0 by omega]
    simp
  rw [e, e2]
  refine own_round_core (c := 0) (q := 0) hk (by have := a.2; omega) fun hi => ?_
  rw [f hi, show decide ((P : Int) < 0) = false by simp]
  cases decide (i < 0) <;> rfl
theorem own_ushr_nn {x q v : Int32} {k : Nat} (hv : XT.ushr x q = v) (hk : q.toBitVec.toNat % 32 = k) (h0 : 0 < k) : 0 ≤ v.toInt := by
  subst hv
  have := c_iushr x q k hk h0
  show 0 ≤ ((x.toUInt32 >>> (q &&& 31).toUInt32).toInt32).toInt
  rw [this]
  exact Int.ediv_nonneg (Int.emod_nonneg _ (by decide)) (Int.natCast_nonneg _)
theorem own_irem_bd {x y v : Int32} {d : Int} (hv : x % y = v) (hx : 0 ≤ x.toInt) (hy : y.toInt = d) (hd : 0 < d) : 0 ≤ v.toInt ∧ v.toInt < d := by
  subst hv
  rw [(c_irem x y d hy).1 hx]
  exact ⟨Int.emod_nonneg _ (by omega), Int.emod_lt_of_pos _ hd⟩
end OwnDiv
section OwnRem
open Jvm.FP Jvm.FP.Core
/-- the remainder that truncates, of two whole multiples of 2^-k -/
theorem own_D.rem {k A B : Nat} {i j : Int} {x y v : UInt64} (a : own_D k A i x) (b : own_D k B j y) (hj : j ≠ 0) (hv : FP.drem x y = v) (hA : A < 9007199254740992) (hk : k ≤ 1074) : own_D k A (i.tmod j) v := by
  subst hv
  have hn : (i.tmod j).natAbs = i.natAbs % j.natAbs := Int.natAbs_tmod i j
  have hle : (i.tmod j).natAbs ≤ A := by rw [hn]; exact Nat.le_trans (Nat.mod_le _ _) a.2
  refine ⟨?_, hle⟩
  rw [show val64 (FP.drem x y) = round b64 (exactRemainder (val64 x) (val64 y)) from val64_drem _ _]
  refine own_round hk (by omega) ?_
  obtain ⟨s, c, q, e1⟩ := a.fin
  obtain ⟨t, d, r, e2⟩ := b.fin
  have w1 : Whole i (.fin s c (q + k)) := by have := a.1; rw [e1] at this; exact this
  have w2 : Whole j (.fin t d (r + k)) := by have := b.1; rw [e2] at this; exact this
  have hd : d ≠ 0 := fun h => hj ((whole_zero w2).mp h)
  rw [e1, e2]
  have e3 : exactRemainder (.fin s c q) (.fin t d r) = .fin s (inUnits c q (min q r) % inUnits d r (min q r)) (min q r) := by
    show (if d = 0 then _ else _) = _
    rw [if_neg hd]
  rw [e3]
  show signed s (inUnits c q (min q r) % inUnits d r (min q r) * 2 ^ (min q r + k).toNat) = i.tmod j * ((2 ^ (-(min q r + k)).toNat : Nat) : Int)
  have u1 := whole_units w1 (e := min q r + k) (by omega)
  have u2 := whole_units w2 (e := min q r + k) (by omega)
  have f1 : inUnits c (q + k) (min q r + k) = inUnits c q (min q r) := by unfold inUnits; rw [show q + k - (min q r + k) = q - min q r by omega]
  have f2 : inUnits d (r + k) (min q r + k) = inUnits d r (min q r) := by unfold inUnits; rw [show r + k - (min q r + k) = r - min q r by omega]
  rw [f1] at u1; rw [f2] at u2
  have n1 : inUnits c q (min q r) * 2 ^ (min q r + k).toNat = i.natAbs * 2 ^ (-(min q r + k)).toNat := by
    have := congrArg Int.natAbs u1
    rwa [Int.natAbs_mul, Int.natAbs_mul, natAbs_signed, Int.natAbs_natCast, Int.natAbs_natCast] at this
  have n2 : inUnits d r (min q r) * 2 ^ (min q r + k).toNat = j.natAbs * 2 ^ (-(min q r + k)).toNat := by
    have := congrArg Int.natAbs u2
    rwa [Int.natAbs_mul, Int.natAbs_mul, natAbs_signed, Int.natAbs_natCast, Int.natAbs_natCast] at this
  rw [← Nat.mul_mod_mul_right, n1, n2, Nat.mul_mod_mul_right, signed_mul]
  congr 1
  refine own_signed_nat hn.symm fun h0 => ?_
  have hi : i ≠ 0 := fun z => h0 (by rw [z, Int.zero_tmod])
  rw [whole_sign w1 hi]
  have := (RoadKit.tr i j.natAbs)
  rw [decide_eq_decide]
  by_cases hlt : i < 0
  · have h1 : i.tmod j ≤ 0 := by have := Int.tmod_nonneg j (show 0 ≤ -i by omega); rw [Int.neg_tmod] at this; omega
    exact ⟨fun _ => by omega, fun _ => hlt⟩
  · have h1 : 0 ≤ i.tmod j := Int.tmod_nonneg j (by omega)
    exact ⟨fun z => absurd z hlt, fun z => by omega⟩
/-- a zero and 0.0 add to 0.0 -/
theorem own_add_zero {k A : Nat} {x : UInt64} (a : own_D k A 0 x) : FP.dadd x (0 : UInt64) = (0 : UInt64) := by
  obtain ⟨s, c, q, e⟩ := a.fin
  have w : Whole 0 (.fin s c (q + k)) := by have := a.1; rw [e] at this; exact this
  have hc : c = 0 := (whole_zero w).mpr rfl
  subst hc
  refine val64_inj ?_ ?_
  · rw [show val64 (FP.dadd x 0) = round b64 (exactSum (val64 x) (val64 0)) from val64_dadd _ _, e, show val64 (0 : UInt64) = .fin false 0 b64.qmin from val64_dconst0]
    exact roundRatio_ne_nan _ _ _ _ _
  · rw [show val64 (FP.dadd x 0) = round b64 (exactSum (val64 x) (val64 0)) from val64_dadd _ _, e, show val64 (0 : UInt64) = .fin false 0 b64.qmin from val64_dconst0]
    have hs : sumUnits s 0 q false 0 b64.qmin (min q b64.qmin) = 0 := by
      unfold sumUnits inUnits; rw [Nat.zero_mul, Nat.zero_mul, signed_zero, signed_zero]; rfl
    show round b64 (.fin (sumSign s false (sumUnits s 0 q false 0 b64.qmin (min q b64.qmin))) (sumUnits s 0 q false 0 b64.qmin (min q b64.qmin)).natAbs (min q b64.qmin)) = _
    rw [hs]
    show roundRatio b64 (sumSign s false 0) 0 1 _ = _
    rw [own_round_zero]
    unfold sumSign
    rw [if_pos rfl, Bool.and_false]
theorem own_near360 : ∀ n : Fin 1024, roundRatio b64 false (415051741658464911360 - (n.val + 1)) 1 (-60) = .fin false 6333186975989760 (-44) := by decide +kernel
/-- 360.0 and a little below nought add to 360.0 -/
theorem own_to360 {A : Nat} {i : Int} {x : UInt64} (a : own_D 60 A i x) (h1 : i < 0) (h2 : -1024 ≤ i) : FP.dadd x (4645040803167600640 : UInt64) = (4645040803167600640 : UInt64) := by
  have hb : own_D 60 415051741658464911360 415051741658464911360 (4645040803167600640 : UInt64) := own_D.lit (s := false) (c := 6333186975989760) (q := -44) (by decide +kernel) (by decide +kernel) (by decide)
  have hw : Whole (i + 415051741658464911360) (own_sh (60 : Nat) (exactSum (val64 x) (val64 (4645040803167600640 : UInt64)))) := by rw [← own_sh_sum]; exact whole_sum a.1 hb.1
  have e0 : val64 (4645040803167600640 : UInt64) = .fin false 6333186975989760 (-44) := by decide +kernel
  have e1 : val64 (FP.dadd x (4645040803167600640 : UInt64)) = .fin false 6333186975989760 (-44) := by
    rw [show val64 (FP.dadd x (4645040803167600640 : UInt64)) = round b64 (exactSum (val64 x) (val64 (4645040803167600640 : UInt64))) from val64_dadd _ _]
    cases hd : exactSum (val64 x) (val64 (4645040803167600640 : UInt64)) with
    | nan => rw [hd] at hw; exact hw.elim
    | inf => rw [hd] at hw; exact hw.elim
    | fin s c q =>
      rw [hd] at hw
      have h3 : c * 2 ^ (q + (60 : Nat)).toNat = (i + 415051741658464911360).natAbs * 2 ^ (-(q + (60 : Nat))).toNat := whole_natAbs hw
      have hs : s = false := by
        have := whole_sign hw (by omega)
        rw [this]; simp; omega
      subst hs
      have e : round b64 (.fin false c q) = roundRatio b64 false (i + 415051741658464911360).natAbs 1 (-60) := by
        refine roundRatio_congr (by decide) (by decide) ?_
        rw [show (q - -60).toNat = (q + (60 : Nat)).toNat by omega, show (-60 - q).toNat = (-(q + (60 : Nat))).toNat by omega]
        simpa using h3
      rw [e]
      have := own_near360 ⟨(-i - 1).toNat, by omega⟩
      rw [show (i + 415051741658464911360).natAbs = 415051741658464911360 - ((-i - 1).toNat + 1) by omega]
      exact this
  exact val64_inj (by rw [e1]; exact Datum.noConfusion) (e1.trans e0.symm)
theorem own_tmod (i : Int) : (0 ≤ i → i.tmod 2880 = i % 2880) ∧ (i < 0 → i.tmod 2880 = -((-i) % 2880)) := RoadKit.tr i 2880
theorem own_tmod_small {i j : Int} (h1 : -j < i) (h2 : i < j) : i.tmod j = i := by
  by_cases h : 0 ≤ i
  · exact Int.tmod_eq_of_lt h h2
  · have := Int.tmod_eq_of_lt (a := -i) (b := j) (by omega) (by omega)
    rw [Int.neg_tmod] at this; omega
end OwnRem
theorem own_d_prog_3_method_12_code_0 : decode prog_3_method_12_code 0 = .ok (.dload_n 0, 1) := by decide +kernel
theorem own_d_prog_3_method_12_code_1 : decode prog_3_method_12_code 1 = .ok (.ldc2_w 67, 3) := by decide +kernel
theorem own_d_prog_3_method_12_code_4 : decode prog_3_method_12_code 4 = .ok (.drem, 1) := by decide +kernel
theorem own_d_prog_3_method_12_code_5 : decode prog_3_method_12_code 5 = .ok (.dstore 4, 2) := by decide +kernel
theorem own_d_prog_3_method_12_code_7 : decode prog_3_method_12_code 7 = .ok (.dload 4, 2) := by decide +kernel
theorem own_d_prog_3_method_12_code_9 : decode prog_3_method_12_code 9 = .ok (.dload_n 2, 1) := by decide +kernel
theorem own_d_prog_3_method_12_code_10 : decode prog_3_method_12_code 10 = .ok (.dcmp .g, 1) := by decide +kernel
theorem own_d_prog_3_method_12_code_11 : decode prog_3_method_12_code 11 = .ok (.ifCond .ge 14, 3) := by decide +kernel
theorem own_d_prog_3_method_12_code_14 : decode prog_3_method_12_code 14 = .ok (.dload 4, 2) := by decide +kernel
theorem own_d_prog_3_method_12_code_16 : decode prog_3_method_12_code 16 = .ok (.ldc2_w 67, 3) := by decide +kernel
theorem own_d_prog_3_method_12_code_19 : decode prog_3_method_12_code 19 = .ok (.dadd, 1) := by decide +kernel
theorem own_d_prog_3_method_12_code_20 : decode prog_3_method_12_code 20 = .ok (.dstore 4, 2) := by decide +kernel
theorem own_d_prog_3_method_12_code_22 : decode prog_3_method_12_code 22 = .ok (.goto 22, 3) := by decide +kernel
theorem own_d_prog_3_method_12_code_25 : decode prog_3_method_12_code 25 = .ok (.dload 4, 2) := by decide +kernel
theorem own_d_prog_3_method_12_code_27 : decode prog_3_method_12_code 27 = .ok (.dload_n 2, 1) := by decide +kernel
theorem own_d_prog_3_method_12_code_28 : decode prog_3_method_12_code 28 = .ok (.ldc2_w 67, 3) := by decide +kernel
theorem own_d_prog_3_method_12_code_31 : decode prog_3_method_12_code 31 = .ok (.dadd, 1) := by decide +kernel
theorem own_d_prog_3_method_12_code_32 : decode prog_3_method_12_code 32 = .ok (.dcmp .l, 1) := by decide +kernel
theorem own_d_prog_3_method_12_code_33 : decode prog_3_method_12_code 33 = .ok (.ifCond .lt 11, 3) := by decide +kernel
theorem own_d_prog_3_method_12_code_36 : decode prog_3_method_12_code 36 = .ok (.dload 4, 2) := by decide +kernel
theorem own_d_prog_3_method_12_code_38 : decode prog_3_method_12_code 38 = .ok (.ldc2_w 67, 3) := by decide +kernel
theorem own_d_prog_3_method_12_code_41 : decode prog_3_method_12_code 41 = .ok (.dsub, 1) := by decide +kernel
theorem own_d_prog_3_method_12_code_42 : decode prog_3_method_12_code 42 = .ok (.dstore 4, 2) := by decide +kernel
theorem own_d_prog_3_method_12_code_44 : decode prog_3_method_12_code 44 = .ok (.dload 4, 2) := by decide +kernel
theorem own_d_prog_3_method_12_code_46 : decode prog_3_method_12_code 46 = .ok (.dload_n 2, 1) := by decide +kernel
theorem own_d_prog_3_method_12_code_47 : decode prog_3_method_12_code 47 = .ok (.ldc2_w 67, 3) := by decide +kernel
theorem own_d_prog_3_method_12_code_50 : decode prog_3_method_12_code 50 = .ok (.dadd, 1) := by decide +kernel
theorem own_d_prog_3_method_12_code_51 : decode prog_3_method_12_code 51 = .ok (.dcmp .l, 1) := by decide +kernel
theorem own_d_prog_3_method_12_code_52 : decode prog_3_method_12_code 52 = .ok (.ifCond .ne 7, 3) := by decide +kernel
theorem own_d_prog_3_method_12_code_55 : decode prog_3_method_12_code 55 = .ok (.dload_n 2, 1) := by decide +kernel
theorem own_d_prog_3_method_12_code_56 : decode prog_3_method_12_code 56 = .ok (.goto 7, 3) := by decide +kernel
theorem own_d_prog_3_method_12_code_59 : decode prog_3_method_12_code 59 = .ok (.dload 4, 2) := by decide +kernel
theorem own_d_prog_3_method_12_code_61 : decode prog_3_method_12_code 61 = .ok (.dconst 0, 1) := by decide +kernel
theorem own_d_prog_3_method_12_code_62 : decode prog_3_method_12_code 62 = .ok (.dadd, 1) := by decide +kernel
theorem own_d_prog_3_method_12_code_63 : decode prog_3_method_12_code 63 = .ok (.dreturn, 1) := by decide +kernel
theorem own_pd0 : parseMethodDescriptor "(DD)D" = some ⟨[.double, .double], some .double⟩ := by decide +kernel
theorem own_pn0 : plainName "com/example/orthodrome/orthodrome/Coordinates" = true := by first | (simp [plainName, overriddenIn]; done) | decide +kernel
abbrev own_rm_own_n_m0 : Room := ({ frames := 0, cells := 0, slots := 0, locals := 0 } : Room)
set_option maxRecDepth 65536 in
set_option maxHeartbeats 40000000 in
theorem own_n_m0 (l : Launch) (Z : State) (a0 : Array Value) (hw : ∀ d ∈ tables_1, d.before a0 Z = true) (x0 : UInt64) (i_x0 : Int) (h0 : Heap) (n0 : Nat) (Z0 : n0 ≤ h0.size) (D_x0 : own_D 3 8796093022208 i_x0 x0) :
    own_Met l Z ({ cls := "com/example/orthodrome/orthodrome/Coordinates", name := "normalized", desc := "(DD)D" } : Jvm.MethodName) prog_3_method_12_code 6 (some .double) [] own_rm_own_n_m0 #[(.double x0), (.double (0 : UInt64))] h0 n0 (fun v h => (∃ r e, v = some (.double r) ∧ own_D 3 17592186044416 e r ∧ e = 0 + (i_x0 - 0) % 2880 ∧ (e = 0 → r = 0)) ∧ h = h0) := by
  refine own_meet (plainFor_of_name own_pn0) Z0 (Ls0 := #[.val (.double x0), .second, .val (.double (0 : UInt64)), .second, .unset, .unset]) (by intro m; first | (simp [entryFrame, mkF, argsToLocals, Value.category]; done) | rfl) ?_
  intro p e s m below meth c T0 X0
  refine own_dloadN X0 rfl own_d_prog_3_method_12_code_0 (pc' := 1) rfl ?_
  refine own_ldcD X0 (v := (4645040803167600640 : UInt64)) (hw _ (List.mem_of_getElem? (i := 5) rfl)) own_d_prog_3_method_12_code_1 (pc' := 4) rfl ?_
  have f2 : own_D 0 360 (360 : Int) (4645040803167600640 : UInt64) := own_D.lit (s := false) (c := 6333186975989760) (q := -44) (by decide +kernel) (by decide +kernel) (by decide)
  have f4 := own_D.up (r := 3) (P := 8) (t := 3) (C := 2880) f2 (by decide) (by decide) (by decide)
  have g3 := f4.of_eq (show ((360 : Int) * ((8 : Nat) : Int)) = (2880 : Int) by decide)
  obtain ⟨d3, e3⟩ : ∃ v, FP.drem x0 (4645040803167600640 : UInt64) = v := ⟨_, rfl⟩
  have f3 := own_D.rem D_x0 g3 (by decide) e3 (by decide) (by decide)
  have t3 := own_tmod i_x0
  obtain ⟨R, hR⟩ : ∃ R, i_x0.tmod 2880 = R := ⟨_, rfl⟩
  rw [hR] at f3 t3
  refine own_drem X0 e3 f3.nn own_d_prog_3_method_12_code_4 (pc' := 5) rfl ?_
  refine own_dstore X0 (Ls' := #[.val (.double x0), .second, .val (.double (0 : UInt64)), .second, .val (.double d3), .second]) rfl own_d_prog_3_method_12_code_5 (pc' := 7) rfl ?_
  refine own_dload X0 rfl own_d_prog_3_method_12_code_7 (pc' := 9) rfl ?_
  refine own_dloadN X0 rfl own_d_prog_3_method_12_code_9 (pc' := 10) rfl ?_
  have f5 : own_D 0 0 (0 : Int) (0 : UInt64) := own_D.lit (s := false) (c := 0) (q := -1074) (by decide +kernel) (by decide +kernel) (by decide)
  have f6 : own_D 3 0 (0 : Int) (0 : UInt64) := own_D.zero (s := false) (by decide +kernel) _
  refine own_dcmp X0 (f3.cmp f6) own_d_prog_3_method_12_code_10 (pc' := 11) rfl ?_
  by_cases c7 : R < (0 : Int)
  · -- yes c7
    refine own_ifF X0 (own_c3_lt c7).2 own_d_prog_3_method_12_code_11 (pc' := 14) rfl ?_
    refine own_dload X0 rfl own_d_prog_3_method_12_code_14 (pc' := 16) rfl ?_
    refine own_ldcD X0 (v := (4645040803167600640 : UInt64)) (hw _ (List.mem_of_getElem? (i := 5) rfl)) own_d_prog_3_method_12_code_16 (pc' := 19) rfl ?_
    have f9 : own_D 0 360 (360 : Int) (4645040803167600640 : UInt64) := own_D.lit (s := false) (c := 6333186975989760) (q := -44) (by decide +kernel) (by decide +kernel) (by decide)
    obtain ⟨d8, e8⟩ : ∃ v, FP.dadd d3 (4645040803167600640 : UInt64) = v := ⟨_, rfl⟩
    have f10 := own_D.up (r := 3) (P := 8) (t := 3) (C := 2880) f9 (by decide) (by decide) (by decide)
    have f8 : own_D 3 8796093025088 (R + ((360 : Int) * ((8 : Nat) : Int))) d8 := own_D.add f3 f10 e8 (by decide) (by decide) (by decide)
    refine own_dadd X0 e8 f8.nn own_d_prog_3_method_12_code_19 (pc' := 20) rfl ?_
    refine own_dstore X0 (Ls' := #[.val (.double x0), .second, .val (.double (0 : UInt64)), .second, .val (.double d8), .second]) rfl own_d_prog_3_method_12_code_20 (pc' := 22) rfl ?_
    refine own_goto X0 own_d_prog_3_method_12_code_22 (pc' := 44) (by decide) (by decide) ?_
    refine own_dload X0 rfl own_d_prog_3_method_12_code_44 (pc' := 46) rfl ?_
    refine own_dloadN X0 rfl own_d_prog_3_method_12_code_46 (pc' := 47) rfl ?_
    refine own_ldcD X0 (v := (4645040803167600640 : UInt64)) (hw _ (List.mem_of_getElem? (i := 5) rfl)) own_d_prog_3_method_12_code_47 (pc' := 50) rfl ?_
    have f12 : own_D 0 360 (360 : Int) (4645040803167600640 : UInt64) := own_D.lit (s := false) (c := 6333186975989760) (q := -44) (by decide +kernel) (by decide +kernel) (by decide)
    obtain ⟨d11, e11⟩ : ∃ v, FP.dadd (0 : UInt64) (4645040803167600640 : UInt64) = v := ⟨_, rfl⟩
    have f11 : own_D 0 360 ((0 : Int) + (360 : Int)) d11 := own_D.add f5 f12 e11 (by decide) (by decide) (by decide)
    refine own_dadd X0 e11 f11.nn own_d_prog_3_method_12_code_50 (pc' := 51) rfl ?_
    have f13 := own_D.up (r := 3) (P := 8) (t := 3) (C := 2880) f11 (by decide) (by decide) (by decide)
    refine own_dcmp X0 (f8.cmp f13) own_d_prog_3_method_12_code_51 (pc' := 52) rfl ?_
    have c14 : ¬ ((R + ((360 : Int) * ((8 : Nat) : Int))) = (((0 : Int) + (360 : Int)) * ((8 : Nat) : Int))) := by omega
    refine own_ifT X0 (own_c3_ne c14).2 own_d_prog_3_method_12_code_52 (pc' := 59) (by decide) (by decide) ?_
    refine own_dload X0 rfl own_d_prog_3_method_12_code_59 (pc' := 61) rfl ?_
    refine own_dconst0 X0 (v := (0 : UInt64)) rfl own_d_prog_3_method_12_code_61 (pc' := 62) rfl ?_
    have f17 : own_D 0 0 (0 : Int) (0 : UInt64) := own_D.lit (s := false) (c := 0) (q := -1074) (by decide +kernel) (by decide +kernel) (by decide)
    have f18 : own_D 3 0 (0 : Int) (0 : UInt64) := own_D.zero (s := false) (by decide +kernel) _
    obtain ⟨d16, e16⟩ : ∃ v, FP.dadd d8 (0 : UInt64) = v := ⟨_, rfl⟩
    have f16 : own_D 3 8796093025088 ((R + ((360 : Int) * ((8 : Nat) : Int))) + (0 : Int)) d16 := own_D.add f8 f18 e16 (by decide) (by decide) (by decide)
    refine own_dadd X0 e16 f16.nn own_d_prog_3_method_12_code_62 (pc' := 63) rfl ?_
    exact own_retD X0  own_d_prog_3_method_12_code_63 rfl (by decide) (by decide) ⟨⟨_, ((R + ((360 : Int) * ((8 : Nat) : Int))) + (0 : Int)), rfl, f16.mono (by decide), by omega, fun q => e16.symm.trans (own_add_zero (f8.of_eq (by omega)))⟩, rfl⟩
  · -- no c7
    refine own_ifT X0 (own_c3_nlt c7).2 own_d_prog_3_method_12_code_11 (pc' := 25) (by decide) (by decide) ?_
    refine own_dload X0 rfl own_d_prog_3_method_12_code_25 (pc' := 27) rfl ?_
    refine own_dloadN X0 rfl own_d_prog_3_method_12_code_27 (pc' := 28) rfl ?_
    refine own_ldcD X0 (v := (4645040803167600640 : UInt64)) (hw _ (List.mem_of_getElem? (i := 5) rfl)) own_d_prog_3_method_12_code_28 (pc' := 31) rfl ?_
    have f20 : own_D 0 360 (360 : Int) (4645040803167600640 : UInt64) := own_D.lit (s := false) (c := 6333186975989760) (q := -44) (by decide +kernel) (by decide +kernel) (by decide)
    obtain ⟨d19, e19⟩ : ∃ v, FP.dadd (0 : UInt64) (4645040803167600640 : UInt64) = v := ⟨_, rfl⟩
    have f19 : own_D 0 360 ((0 : Int) + (360 : Int)) d19 := own_D.add f5 f20 e19 (by decide) (by decide) (by decide)
    refine own_dadd X0 e19 f19.nn own_d_prog_3_method_12_code_31 (pc' := 32) rfl ?_
    have f21 := own_D.up (r := 3) (P := 8) (t := 3) (C := 2880) f19 (by decide) (by decide) (by decide)
    refine own_dcmp X0 (f3.cmp f21) own_d_prog_3_method_12_code_32 (pc' := 33) rfl ?_
    have c22 : R < (((0 : Int) + (360 : Int)) * ((8 : Nat) : Int)) := by omega
    refine own_ifT X0 (own_c3_lt c22).1 own_d_prog_3_method_12_code_33 (pc' := 44) (by decide) (by decide) ?_
    refine own_dload X0 rfl own_d_prog_3_method_12_code_44 (pc' := 46) rfl ?_
    refine own_dloadN X0 rfl own_d_prog_3_method_12_code_46 (pc' := 47) rfl ?_
    refine own_ldcD X0 (v := (4645040803167600640 : UInt64)) (hw _ (List.mem_of_getElem? (i := 5) rfl)) own_d_prog_3_method_12_code_47 (pc' := 50) rfl ?_
    have f24 : own_D 0 360 (360 : Int) (4645040803167600640 : UInt64) := own_D.lit (s := false) (c := 6333186975989760) (q := -44) (by decide +kernel) (by decide +kernel) (by decide)
    obtain ⟨d23, e23⟩ : ∃ v, FP.dadd (0 : UInt64) (4645040803167600640 : UInt64) = v := ⟨_, rfl⟩
    have f23 : own_D 0 360 ((0 : Int) + (360 : Int)) d23 := own_D.add f5 f24 e23 (by decide) (by decide) (by decide)
    refine own_dadd X0 e23 f23.nn own_d_prog_3_method_12_code_50 (pc' := 51) rfl ?_
    have f25 := own_D.up (r := 3) (P := 8) (t := 3) (C := 2880) f23 (by decide) (by decide) (by decide)
    refine own_dcmp X0 (f3.cmp f25) own_d_prog_3_method_12_code_51 (pc' := 52) rfl ?_
    have c26 : ¬ (R = (((0 : Int) + (360 : Int)) * ((8 : Nat) : Int))) := by omega
    refine own_ifT X0 (own_c3_ne c26).2 own_d_prog_3_method_12_code_52 (pc' := 59) (by decide) (by decide) ?_
    refine own_dload X0 rfl own_d_prog_3_method_12_code_59 (pc' := 61) rfl ?_
    refine own_dconst0 X0 (v := (0 : UInt64)) rfl own_d_prog_3_method_12_code_61 (pc' := 62) rfl ?_
    have f29 : own_D 0 0 (0 : Int) (0 : UInt64) := own_D.lit (s := false) (c := 0) (q := -1074) (by decide +kernel) (by decide +kernel) (by decide)
    have f30 : own_D 3 0 (0 : Int) (0 : UInt64) := own_D.zero (s := false) (by decide +kernel) _
    obtain ⟨d28, e28⟩ : ∃ v, FP.dadd d3 (0 : UInt64) = v := ⟨_, rfl⟩
    have f28 : own_D 3 8796093022208 (R + (0 : Int)) d28 := own_D.add f3 f30 e28 (by decide) (by decide) (by decide)
    refine own_dadd X0 e28 f28.nn own_d_prog_3_method_12_code_62 (pc' := 63) rfl ?_
    exact own_retD X0  own_d_prog_3_method_12_code_63 rfl (by decide) (by decide) ⟨⟨_, (R + (0 : Int)), rfl, f28.mono (by decide), by omega, fun q => e28.symm.trans (own_add_zero (f3.of_eq (by omega)))⟩, rfl⟩
abbrev own_rm_own_n_m180 : Room := ({ frames := 0, cells := 0, slots := 0, locals := 0 } : Room)
set_option maxRecDepth 65536 in
set_option maxHeartbeats 40000000 in
theorem own_n_m180 (l : Launch) (Z : State) (a0 : Array Value) (hw : ∀ d ∈ tables_1, d.before a0 Z = true) (x0 : UInt64) (i_x0 : Int) (h0 : Heap) (n0 : Nat) (Z0 : n0 ≤ h0.size) (D_x0 : own_D 3 8796093022208 i_x0 x0) :
    own_Met l Z ({ cls := "com/example/orthodrome/orthodrome/Coordinates", name := "normalized", desc := "(DD)D" } : Jvm.MethodName) prog_3_method_12_code 6 (some .double) [] own_rm_own_n_m180 #[(.double x0), (.double (13863909240395005952 : UInt64))] h0 n0 (fun v h => (∃ r e, v = some (.double r) ∧ own_D 3 17592186044416 e r ∧ e = -1440 + (i_x0 - -1440) % 2880 ∧ (e = 0 → r = 0)) ∧ h = h0) := by
  refine own_meet (plainFor_of_name own_pn0) Z0 (Ls0 := #[.val (.double x0), .second, .val (.double (13863909240395005952 : UInt64)), .second, .unset, .unset]) (by intro m; first | (simp [entryFrame, mkF, argsToLocals, Value.category]; done) | rfl) ?_
  intro p e s m below meth c T0 X0
  refine own_dloadN X0 rfl own_d_prog_3_method_12_code_0 (pc' := 1) rfl ?_
  refine own_ldcD X0 (v := (4645040803167600640 : UInt64)) (hw _ (List.mem_of_getElem? (i := 5) rfl)) own_d_prog_3_method_12_code_1 (pc' := 4) rfl ?_
  have f32 : own_D 0 360 (360 : Int) (4645040803167600640 : UInt64) := own_D.lit (s := false) (c := 6333186975989760) (q := -44) (by decide +kernel) (by decide +kernel) (by decide)
  have f34 := own_D.up (r := 3) (P := 8) (t := 3) (C := 2880) f32 (by decide) (by decide) (by decide)
  have g33 := f34.of_eq (show ((360 : Int) * ((8 : Nat) : Int)) = (2880 : Int) by decide)
  obtain ⟨d33, e33⟩ : ∃ v, FP.drem x0 (4645040803167600640 : UInt64) = v := ⟨_, rfl⟩
  have f33 := own_D.rem D_x0 g33 (by decide) e33 (by decide) (by decide)
  have t33 := own_tmod i_x0
  obtain ⟨R, hR⟩ : ∃ R, i_x0.tmod 2880 = R := ⟨_, rfl⟩
  rw [hR] at f33 t33
  refine own_drem X0 e33 f33.nn own_d_prog_3_method_12_code_4 (pc' := 5) rfl ?_
  refine own_dstore X0 (Ls' := #[.val (.double x0), .second, .val (.double (13863909240395005952 : UInt64)), .second, .val (.double d33), .second]) rfl own_d_prog_3_method_12_code_5 (pc' := 7) rfl ?_
  refine own_dload X0 rfl own_d_prog_3_method_12_code_7 (pc' := 9) rfl ?_
  refine own_dloadN X0 rfl own_d_prog_3_method_12_code_9 (pc' := 10) rfl ?_
  have f35 : own_D 0 180 (-180 : Int) (13863909240395005952 : UInt64) := own_D.lit (s := true) (c := 6333186975989760) (q := -45) (by decide +kernel) (by decide +kernel) (by decide)
  have f36 := own_D.up (r := 3) (P := 8) (t := 3) (C := 1440) f35 (by decide) (by decide) (by decide)
  refine own_dcmp X0 (f33.cmp f36) own_d_prog_3_method_12_code_10 (pc' := 11) rfl ?_
  by_cases c37 : R < ((-180 : Int) * ((8 : Nat) : Int))
  · -- yes c37
    refine own_ifF X0 (own_c3_lt c37).2 own_d_prog_3_method_12_code_11 (pc' := 14) rfl ?_
    refine own_dload X0 rfl own_d_prog_3_method_12_code_14 (pc' := 16) rfl ?_
    refine own_ldcD X0 (v := (4645040803167600640 : UInt64)) (hw _ (List.mem_of_getElem? (i := 5) rfl)) own_d_prog_3_method_12_code_16 (pc' := 19) rfl ?_
    have f39 : own_D 0 360 (360 : Int) (4645040803167600640 : UInt64) := own_D.lit (s := false) (c := 6333186975989760) (q := -44) (by decide +kernel) (by decide +kernel) (by decide)
    obtain ⟨d38, e38⟩ : ∃ v, FP.dadd d33 (4645040803167600640 : UInt64) = v := ⟨_, rfl⟩
    have f40 := own_D.up (r := 3) (P := 8) (t := 3) (C := 2880) f39 (by decide) (by decide) (by decide)
    have f38 : own_D 3 8796093025088 (R + ((360 : Int) * ((8 : Nat) : Int))) d38 := own_D.add f33 f40 e38 (by decide) (by decide) (by decide)
    refine own_dadd X0 e38 f38.nn own_d_prog_3_method_12_code_19 (pc' := 20) rfl ?_
    refine own_dstore X0 (Ls' := #[.val (.double x0), .second, .val (.double (13863909240395005952 : UInt64)), .second, .val (.double d38), .second]) rfl own_d_prog_3_method_12_code_20 (pc' := 22) rfl ?_
    refine own_goto X0 own_d_prog_3_method_12_code_22 (pc' := 44) (by decide) (by decide) ?_
    refine own_dload X0 rfl own_d_prog_3_method_12_code_44 (pc' := 46) rfl ?_
    refine own_dloadN X0 rfl own_d_prog_3_method_12_code_46 (pc' := 47) rfl ?_
    refine own_ldcD X0 (v := (4645040803167600640 : UInt64)) (hw _ (List.mem_of_getElem? (i := 5) rfl)) own_d_prog_3_method_12_code_47 (pc' := 50) rfl ?_
    have f42 : own_D 0 360 (360 : Int) (4645040803167600640 : UInt64) := own_D.lit (s := false) (c := 6333186975989760) (q := -44) (by decide +kernel) (by decide +kernel) (by decide)
    obtain ⟨d41, e41⟩ : ∃ v, FP.dadd (13863909240395005952 : UInt64) (4645040803167600640 : UInt64) = v := ⟨_, rfl⟩
    have f41 : own_D 0 540 ((-180 : Int) + (360 : Int)) d41 := own_D.add f35 f42 e41 (by decide) (by decide) (by decide)
    refine own_dadd X0 e41 f41.nn own_d_prog_3_method_12_code_50 (pc' := 51) rfl ?_
    have f43 := own_D.up (r := 3) (P := 8) (t := 3) (C := 4320) f41 (by decide) (by decide) (by decide)
    refine own_dcmp X0 (f38.cmp f43) own_d_prog_3_method_12_code_51 (pc' := 52) rfl ?_
    have c44 : ¬ ((R + ((360 : Int) * ((8 : Nat) : Int))) = (((-180 : Int) + (360 : Int)) * ((8 : Nat) : Int))) := by omega
    refine own_ifT X0 (own_c3_ne c44).2 own_d_prog_3_method_12_code_52 (pc' := 59) (by decide) (by decide) ?_
    refine own_dload X0 rfl own_d_prog_3_method_12_code_59 (pc' := 61) rfl ?_
    refine own_dconst0 X0 (v := (0 : UInt64)) rfl own_d_prog_3_method_12_code_61 (pc' := 62) rfl ?_
    have f47 : own_D 0 0 (0 : Int) (0 : UInt64) := own_D.lit (s := false) (c := 0) (q := -1074) (by decide +kernel) (by decide +kernel) (by decide)
    have f48 : own_D 3 0 (0 : Int) (0 : UInt64) := own_D.zero (s := false) (by decide +kernel) _
    obtain ⟨d46, e46⟩ : ∃ v, FP.dadd d38 (0 : UInt64) = v := ⟨_, rfl⟩
    have f46 : own_D 3 8796093025088 ((R + ((360 : Int) * ((8 : Nat) : Int))) + (0 : Int)) d46 := own_D.add f38 f48 e46 (by decide) (by decide) (by decide)
    refine own_dadd X0 e46 f46.nn own_d_prog_3_method_12_code_62 (pc' := 63) rfl ?_
    exact own_retD X0  own_d_prog_3_method_12_code_63 rfl (by decide) (by decide) ⟨⟨_, ((R + ((360 : Int) * ((8 : Nat) : Int))) + (0 : Int)), rfl, f46.mono (by decide), by omega, fun q => e46.symm.trans (own_add_zero (f38.of_eq (by omega)))⟩, rfl⟩
  · -- no c37
    refine own_ifT X0 (own_c3_nlt c37).2 own_d_prog_3_method_12_code_11 (pc' := 25) (by decide) (by decide) ?_
    refine own_dload X0 rfl own_d_prog_3_method_12_code_25 (pc' := 27) rfl ?_
    refine own_dloadN X0 rfl own_d_prog_3_method_12_code_27 (pc' := 28) rfl ?_
    refine own_ldcD X0 (v := (4645040803167600640 : UInt64)) (hw _ (List.mem_of_getElem? (i := 5) rfl)) own_d_prog_3_method_12_code_28 (pc' := 31) rfl ?_
    have f50 : own_D 0 360 (360 : Int) (4645040803167600640 : UInt64) := own_D.lit (s := false) (c := 6333186975989760) (q := -44) (by decide +kernel) (by decide +kernel) (by decide)
    obtain ⟨d49, e49⟩ : ∃ v, FP.dadd (13863909240395005952 : UInt64) (4645040803167600640 : UInt64) = v := ⟨_, rfl⟩
    have f49 : own_D 0 540 ((-180 : Int) + (360 : Int)) d49 := own_D.add f35 f50 e49 (by decide) (by decide) (by decide)
    refine own_dadd X0 e49 f49.nn own_d_prog_3_method_12_code_31 (pc' := 32) rfl ?_
    have f51 := own_D.up (r := 3) (P := 8) (t := 3) (C := 4320) f49 (by decide) (by decide) (by decide)
    refine own_dcmp X0 (f33.cmp f51) own_d_prog_3_method_12_code_32 (pc' := 33) rfl ?_
    by_cases c52 : R < (((-180 : Int) + (360 : Int)) * ((8 : Nat) : Int))
    · -- yes c52
      refine own_ifT X0 (own_c3_lt c52).1 own_d_prog_3_method_12_code_33 (pc' := 44) (by decide) (by decide) ?_
      refine own_dload X0 rfl own_d_prog_3_method_12_code_44 (pc' := 46) rfl ?_
      refine own_dloadN X0 rfl own_d_prog_3_method_12_code_46 (pc' := 47) rfl ?_
      refine own_ldcD X0 (v := (4645040803167600640 : UInt64)) (hw _ (List.mem_of_getElem? (i := 5) rfl)) own_d_prog_3_method_12_code_47 (pc' := 50) rfl ?_
      have f54 : own_D 0 360 (360 : Int) (4645040803167600640 : UInt64) := own_D.lit (s := false) (c := 6333186975989760) (q := -44) (by decide +kernel) (by decide +kernel) (by decide)
      obtain ⟨d53, e53⟩ : ∃ v, FP.dadd (13863909240395005952 : UInt64) (4645040803167600640 : UInt64) = v := ⟨_, rfl⟩
      have f53 : own_D 0 540 ((-180 : Int) + (360 : Int)) d53 := own_D.add f35 f54 e53 (by decide) (by decide) (by decide)
      refine own_dadd X0 e53 f53.nn own_d_prog_3_method_12_code_50 (pc' := 51) rfl ?_
      have f55 := own_D.up (r := 3) (P := 8) (t := 3) (C := 4320) f53 (by decide) (by decide) (by decide)
      refine own_dcmp X0 (f33.cmp f55) own_d_prog_3_method_12_code_51 (pc' := 52) rfl ?_
      have c56 : ¬ (R = (((-180 : Int) + (360 : Int)) * ((8 : Nat) : Int))) := by omega
      refine own_ifT X0 (own_c3_ne c56).2 own_d_prog_3_method_12_code_52 (pc' := 59) (by decide) (by decide) ?_
      refine own_dload X0 rfl own_d_prog_3_method_12_code_59 (pc' := 61) rfl ?_
      refine own_dconst0 X0 (v := (0 : UInt64)) rfl own_d_prog_3_method_12_code_61 (pc' := 62) rfl ?_
      have f59 : own_D 0 0 (0 : Int) (0 : UInt64) := own_D.lit (s := false) (c := 0) (q := -1074) (by decide +kernel) (by decide +kernel) (by decide)
      have f60 : own_D 3 0 (0 : Int) (0 : UInt64) := own_D.zero (s := false) (by decide +kernel) _
      obtain ⟨d58, e58⟩ : ∃ v, FP.dadd d33 (0 : UInt64) = v := ⟨_, rfl⟩
      have f58 : own_D 3 8796093022208 (R + (0 : Int)) d58 := own_D.add f33 f60 e58 (by decide) (by decide) (by decide)
      refine own_dadd X0 e58 f58.nn own_d_prog_3_method_12_code_62 (pc' := 63) rfl ?_
      exact own_retD X0  own_d_prog_3_method_12_code_63 rfl (by decide) (by decide) ⟨⟨_, (R + (0 : Int)), rfl, f58.mono (by decide), by omega, fun q => e58.symm.trans (own_add_zero (f33.of_eq (by omega)))⟩, rfl⟩
    · -- no c52
      refine own_ifF X0 (own_c3_nlt c52).1 own_d_prog_3_method_12_code_33 (pc' := 36) rfl ?_
      refine own_dload X0 rfl own_d_prog_3_method_12_code_36 (pc' := 38) rfl ?_
      refine own_ldcD X0 (v := (4645040803167600640 : UInt64)) (hw _ (List.mem_of_getElem? (i := 5) rfl)) own_d_prog_3_method_12_code_38 (pc' := 41) rfl ?_
      have f62 : own_D 0 360 (360 : Int) (4645040803167600640 : UInt64) := own_D.lit (s := false) (c := 6333186975989760) (q := -44) (by decide +kernel) (by decide +kernel) (by decide)
      obtain ⟨d61, e61⟩ : ∃ v, FP.dsub d33 (4645040803167600640 : UInt64) = v := ⟨_, rfl⟩
      have f63 := own_D.up (r := 3) (P := 8) (t := 3) (C := 2880) f62 (by decide) (by decide) (by decide)
      have f61 : own_D 3 8796093025088 (R - ((360 : Int) * ((8 : Nat) : Int))) d61 := own_D.sub f33 f63 e61 (by decide) (by decide) (by decide)
      refine own_dsub X0 e61 f61.nn own_d_prog_3_method_12_code_41 (pc' := 42) rfl ?_
      refine own_dstore X0 (Ls' := #[.val (.double x0), .second, .val (.double (13863909240395005952 : UInt64)), .second, .val (.double d61), .second]) rfl own_d_prog_3_method_12_code_42 (pc' := 44) rfl ?_
      refine own_dload X0 rfl own_d_prog_3_method_12_code_44 (pc' := 46) rfl ?_
      refine own_dloadN X0 rfl own_d_prog_3_method_12_code_46 (pc' := 47) rfl ?_
      refine own_ldcD X0 (v := (4645040803167600640 : UInt64)) (hw _ (List.mem_of_getElem? (i := 5) rfl)) own_d_prog_3_method_12_code_47 (pc' := 50) rfl ?_
      have f65 : own_D 0 360 (360 : Int) (4645040803167600640 : UInt64) := own_D.lit (s := false) (c := 6333186975989760) (q := -44) (by decide +kernel) (by decide +kernel) (by decide)
      obtain ⟨d64, e64⟩ : ∃ v, FP.dadd (13863909240395005952 : UInt64) (4645040803167600640 : UInt64) = v := ⟨_, rfl⟩
      have f64 : own_D 0 540 ((-180 : Int) + (360 : Int)) d64 := own_D.add f35 f65 e64 (by decide) (by decide) (by decide)
      refine own_dadd X0 e64 f64.nn own_d_prog_3_method_12_code_50 (pc' := 51) rfl ?_
      have f66 := own_D.up (r := 3) (P := 8) (t := 3) (C := 4320) f64 (by decide) (by decide) (by decide)
      refine own_dcmp X0 (f61.cmp f66) own_d_prog_3_method_12_code_51 (pc' := 52) rfl ?_
      have c67 : ¬ ((R - ((360 : Int) * ((8 : Nat) : Int))) = (((-180 : Int) + (360 : Int)) * ((8 : Nat) : Int))) := by omega
      refine own_ifT X0 (own_c3_ne c67).2 own_d_prog_3_method_12_code_52 (pc' := 59) (by decide) (by decide) ?_
      refine own_dload X0 rfl own_d_prog_3_method_12_code_59 (pc' := 61) rfl ?_
      refine own_dconst0 X0 (v := (0 : UInt64)) rfl own_d_prog_3_method_12_code_61 (pc' := 62) rfl ?_
      have f70 : own_D 0 0 (0 : Int) (0 : UInt64) := own_D.lit (s := false) (c := 0) (q := -1074) (by decide +kernel) (by decide +kernel) (by decide)
      have f71 : own_D 3 0 (0 : Int) (0 : UInt64) := own_D.zero (s := false) (by decide +kernel) _
      obtain ⟨d69, e69⟩ : ∃ v, FP.dadd d61 (0 : UInt64) = v := ⟨_, rfl⟩
      have f69 : own_D 3 8796093025088 ((R - ((360 : Int) * ((8 : Nat) : Int))) + (0 : Int)) d69 := own_D.add f61 f71 e69 (by decide) (by decide) (by decide)
      refine own_dadd X0 e69 f69.nn own_d_prog_3_method_12_code_62 (pc' := 63) rfl ?_
      exact own_retD X0  own_d_prog_3_method_12_code_63 rfl (by decide) (by decide) ⟨⟨_, ((R - ((360 : Int) * ((8 : Nat) : Int))) + (0 : Int)), rfl, f69.mono (by decide), by omega, fun q => e69.symm.trans (own_add_zero (f61.of_eq (by omega)))⟩, rfl⟩
abbrev own_rm_own_n_t0p : Room := ({ frames := 0, cells := 0, slots := 0, locals := 0 } : Room)
set_option maxRecDepth 65536 in
set_option maxHeartbeats 40000000 in
theorem own_n_t0p (l : Launch) (Z : State) (a0 : Array Value) (hw : ∀ d ∈ tables_1, d.before a0 Z = true) (x0 : UInt64) (i_x0 : Int) (h0 : Heap) (n0 : Nat) (Z0 : n0 ≤ h0.size) (D_x0 : own_D 60 1024 i_x0 x0) (hp : 0 < i_x0 ∧ i_x0 ≤ 1024) :
    own_Met l Z ({ cls := "com/example/orthodrome/orthodrome/Coordinates", name := "normalized", desc := "(DD)D" } : Jvm.MethodName) prog_3_method_12_code 6 (some .double) [] own_rm_own_n_t0p #[(.double x0), (.double (0 : UInt64))] h0 n0 (fun v h => (∃ r, v = some (.double r) ∧ own_D 60 1024 i_x0 r) ∧ h = h0) := by
  refine own_meet (plainFor_of_name own_pn0) Z0 (Ls0 := #[.val (.double x0), .second, .val (.double (0 : UInt64)), .second, .unset, .unset]) (by intro m; first | (simp [entryFrame, mkF, argsToLocals, Value.category]; done) | rfl) ?_
  intro p e s m below meth c T0 X0
  refine own_dloadN X0 rfl own_d_prog_3_method_12_code_0 (pc' := 1) rfl ?_
  refine own_ldcD X0 (v := (4645040803167600640 : UInt64)) (hw _ (List.mem_of_getElem? (i := 5) rfl)) own_d_prog_3_method_12_code_1 (pc' := 4) rfl ?_
  have f73 : own_D 0 360 (360 : Int) (4645040803167600640 : UInt64) := own_D.lit (s := false) (c := 6333186975989760) (q := -44) (by decide +kernel) (by decide +kernel) (by decide)
  have f75 := own_D.up (r := 60) (P := 1152921504606846976) (t := 60) (C := 415051741658464911360) f73 (by decide) (by decide) (by decide)
  have g74 := f75.of_eq (show ((360 : Int) * ((1152921504606846976 : Nat) : Int)) = (415051741658464911360 : Int) by decide)
  obtain ⟨d74, e74⟩ : ∃ v, FP.drem x0 (4645040803167600640 : UInt64) = v := ⟨_, rfl⟩
  have f74 := own_D.rem D_x0 g74 (by decide) e74 (by decide) (by decide)
  rw [own_tmod_small (by omega) (by omega)] at f74
  refine own_drem X0 e74 f74.nn own_d_prog_3_method_12_code_4 (pc' := 5) rfl ?_
  refine own_dstore X0 (Ls' := #[.val (.double x0), .second, .val (.double (0 : UInt64)), .second, .val (.double d74), .second]) rfl own_d_prog_3_method_12_code_5 (pc' := 7) rfl ?_
  refine own_dload X0 rfl own_d_prog_3_method_12_code_7 (pc' := 9) rfl ?_
  refine own_dloadN X0 rfl own_d_prog_3_method_12_code_9 (pc' := 10) rfl ?_
  have f76 : own_D 0 0 (0 : Int) (0 : UInt64) := own_D.lit (s := false) (c := 0) (q := -1074) (by decide +kernel) (by decide +kernel) (by decide)
  have f77 : own_D 60 0 (0 : Int) (0 : UInt64) := own_D.zero (s := false) (by decide +kernel) _
  refine own_dcmp X0 (f74.cmp f77) own_d_prog_3_method_12_code_10 (pc' := 11) rfl ?_
  have c78 : ¬ (i_x0 < (0 : Int)) := by omega
  refine own_ifT X0 (own_c3_nlt c78).2 own_d_prog_3_method_12_code_11 (pc' := 25) (by decide) (by decide) ?_
  refine own_dload X0 rfl own_d_prog_3_method_12_code_25 (pc' := 27) rfl ?_
  refine own_dloadN X0 rfl own_d_prog_3_method_12_code_27 (pc' := 28) rfl ?_
  refine own_ldcD X0 (v := (4645040803167600640 : UInt64)) (hw _ (List.mem_of_getElem? (i := 5) rfl)) own_d_prog_3_method_12_code_28 (pc' := 31) rfl ?_
  have f80 : own_D 0 360 (360 : Int) (4645040803167600640 : UInt64) := own_D.lit (s := false) (c := 6333186975989760) (q := -44) (by decide +kernel) (by decide +kernel) (by decide)
  obtain ⟨d79, e79⟩ : ∃ v, FP.dadd (0 : UInt64) (4645040803167600640 : UInt64) = v := ⟨_, rfl⟩
  have f79 : own_D 0 360 ((0 : Int) + (360 : Int)) d79 := own_D.add f76 f80 e79 (by decide) (by decide) (by decide)
  refine own_dadd X0 e79 f79.nn own_d_prog_3_method_12_code_31 (pc' := 32) rfl ?_
  have f81 := own_D.up (r := 60) (P := 1152921504606846976) (t := 60) (C := 415051741658464911360) f79 (by decide) (by decide) (by decide)
  refine own_dcmp X0 (f74.cmp f81) own_d_prog_3_method_12_code_32 (pc' := 33) rfl ?_
  have c82 : i_x0 < (((0 : Int) + (360 : Int)) * ((1152921504606846976 : Nat) : Int)) := by omega
  refine own_ifT X0 (own_c3_lt c82).1 own_d_prog_3_method_12_code_33 (pc' := 44) (by decide) (by decide) ?_
  refine own_dload X0 rfl own_d_prog_3_method_12_code_44 (pc' := 46) rfl ?_
  refine own_dloadN X0 rfl own_d_prog_3_method_12_code_46 (pc' := 47) rfl ?_
  refine own_ldcD X0 (v := (4645040803167600640 : UInt64)) (hw _ (List.mem_of_getElem? (i := 5) rfl)) own_d_prog_3_method_12_code_47 (pc' := 50) rfl ?_
  have f84 : own_D 0 360 (360 : Int) (4645040803167600640 : UInt64) := own_D.lit (s := false) (c := 6333186975989760) (q := -44) (by decide +kernel) (by decide +kernel) (by decide)
  obtain ⟨d83, e83⟩ : ∃ v, FP.dadd (0 : UInt64) (4645040803167600640 : UInt64) = v := ⟨_, rfl⟩
  have f83 : own_D 0 360 ((0 : Int) + (360 : Int)) d83 := own_D.add f76 f84 e83 (by decide) (by decide) (by decide)
  refine own_dadd X0 e83 f83.nn own_d_prog_3_method_12_code_50 (pc' := 51) rfl ?_
  have f85 := own_D.up (r := 60) (P := 1152921504606846976) (t := 60) (C := 415051741658464911360) f83 (by decide) (by decide) (by decide)
  refine own_dcmp X0 (f74.cmp f85) own_d_prog_3_method_12_code_51 (pc' := 52) rfl ?_
  have c86 : ¬ (i_x0 = (((0 : Int) + (360 : Int)) * ((1152921504606846976 : Nat) : Int))) := by omega
  refine own_ifT X0 (own_c3_ne c86).2 own_d_prog_3_method_12_code_52 (pc' := 59) (by decide) (by decide) ?_
  refine own_dload X0 rfl own_d_prog_3_method_12_code_59 (pc' := 61) rfl ?_
  refine own_dconst0 X0 (v := (0 : UInt64)) rfl own_d_prog_3_method_12_code_61 (pc' := 62) rfl ?_
  have f89 : own_D 0 0 (0 : Int) (0 : UInt64) := own_D.lit (s := false) (c := 0) (q := -1074) (by decide +kernel) (by decide +kernel) (by decide)
  have f90 : own_D 60 0 (0 : Int) (0 : UInt64) := own_D.zero (s := false) (by decide +kernel) _
  obtain ⟨d88, e88⟩ : ∃ v, FP.dadd d74 (0 : UInt64) = v := ⟨_, rfl⟩
  have f88 : own_D 60 1024 (i_x0 + (0 : Int)) d88 := own_D.add f74 f90 e88 (by decide) (by decide) (by decide)
  refine own_dadd X0 e88 f88.nn own_d_prog_3_method_12_code_62 (pc' := 63) rfl ?_
  exact own_retD X0  own_d_prog_3_method_12_code_63 rfl (by decide) (by decide) ⟨⟨_, rfl, f88.of_eq (by omega)⟩, rfl⟩
abbrev own_rm_own_n_t0n : Room := ({ frames := 0, cells := 0, slots := 0, locals := 0 } : Room)
set_option maxRecDepth 65536 in
set_option maxHeartbeats 40000000 in
theorem own_n_t0n (l : Launch) (Z : State) (a0 : Array Value) (hw : ∀ d ∈ tables_1, d.before a0 Z = true) (x0 : UInt64) (i_x0 : Int) (h0 : Heap) (n0 : Nat) (Z0 : n0 ≤ h0.size) (D_x0 : own_D 60 1024 i_x0 x0) (hp : i_x0 < 0 ∧ -1024 ≤ i_x0) :
    own_Met l Z ({ cls := "com/example/orthodrome/orthodrome/Coordinates", name := "normalized", desc := "(DD)D" } : Jvm.MethodName) prog_3_method_12_code 6 (some .double) [] own_rm_own_n_t0n #[(.double x0), (.double (0 : UInt64))] h0 n0 (fun v h => v = some (.double 0) ∧ h = h0) := by
  refine own_meet (plainFor_of_name own_pn0) Z0 (Ls0 := #[.val (.double x0), .second, .val (.double (0 : UInt64)), .second, .unset, .unset]) (by intro m; first | (simp [entryFrame, mkF, argsToLocals, Value.category]; done) | rfl) ?_
  intro p e s m below meth c T0 X0
  refine own_dloadN X0 rfl own_d_prog_3_method_12_code_0 (pc' := 1) rfl ?_
  refine own_ldcD X0 (v := (4645040803167600640 : UInt64)) (hw _ (List.mem_of_getElem? (i := 5) rfl)) own_d_prog_3_method_12_code_1 (pc' := 4) rfl ?_
  have f92 : own_D 0 360 (360 : Int) (4645040803167600640 : UInt64) := own_D.lit (s := false) (c := 6333186975989760) (q := -44) (by decide +kernel) (by decide +kernel) (by decide)
  have f94 := own_D.up (r := 60) (P := 1152921504606846976) (t := 60) (C := 415051741658464911360) f92 (by decide) (by decide) (by decide)
  have g93 := f94.of_eq (show ((360 : Int) * ((1152921504606846976 : Nat) : Int)) = (415051741658464911360 : Int) by decide)
  obtain ⟨d93, e93⟩ : ∃ v, FP.drem x0 (4645040803167600640 : UInt64) = v := ⟨_, rfl⟩
  have f93 := own_D.rem D_x0 g93 (by decide) e93 (by decide) (by decide)
  rw [own_tmod_small (by omega) (by omega)] at f93
  refine own_drem X0 e93 f93.nn own_d_prog_3_method_12_code_4 (pc' := 5) rfl ?_
  refine own_dstore X0 (Ls' := #[.val (.double x0), .second, .val (.double (0 : UInt64)), .second, .val (.double d93), .second]) rfl own_d_prog_3_method_12_code_5 (pc' := 7) rfl ?_
  refine own_dload X0 rfl own_d_prog_3_method_12_code_7 (pc' := 9) rfl ?_
  refine own_dloadN X0 rfl own_d_prog_3_method_12_code_9 (pc' := 10) rfl ?_
  have f95 : own_D 0 0 (0 : Int) (0 : UInt64) := own_D.lit (s := false) (c := 0) (q := -1074) (by decide +kernel) (by decide +kernel) (by decide)
  have f96 : own_D 60 0 (0 : Int) (0 : UInt64) := own_D.zero (s := false) (by decide +kernel) _
  refine own_dcmp X0 (f93.cmp f96) own_d_prog_3_method_12_code_10 (pc' := 11) rfl ?_
  have c97 : i_x0 < (0 : Int) := by omega
  refine own_ifF X0 (own_c3_lt c97).2 own_d_prog_3_method_12_code_11 (pc' := 14) rfl ?_
  refine own_dload X0 rfl own_d_prog_3_method_12_code_14 (pc' := 16) rfl ?_
  refine own_ldcD X0 (v := (4645040803167600640 : UInt64)) (hw _ (List.mem_of_getElem? (i := 5) rfl)) own_d_prog_3_method_12_code_16 (pc' := 19) rfl ?_
  have e99 : FP.dadd d93 (4645040803167600640 : UInt64) = (4645040803167600640 : UInt64) := own_to360 f93 (by omega) (by omega)
  have f100 : own_D 0 360 (360 : Int) (4645040803167600640 : UInt64) := own_D.lit (s := false) (c := 6333186975989760) (q := -44) (by decide +kernel) (by decide +kernel) (by decide)
  refine own_dadd X0 e99 f100.nn own_d_prog_3_method_12_code_19 (pc' := 20) rfl ?_
  refine own_dstore X0 (Ls' := #[.val (.double x0), .second, .val (.double (0 : UInt64)), .second, .val (.double (4645040803167600640 : UInt64)), .second]) rfl own_d_prog_3_method_12_code_20 (pc' := 22) rfl ?_
  refine own_goto X0 own_d_prog_3_method_12_code_22 (pc' := 44) (by decide) (by decide) ?_
  refine own_dload X0 rfl own_d_prog_3_method_12_code_44 (pc' := 46) rfl ?_
  refine own_dloadN X0 rfl own_d_prog_3_method_12_code_46 (pc' := 47) rfl ?_
  refine own_ldcD X0 (v := (4645040803167600640 : UInt64)) (hw _ (List.mem_of_getElem? (i := 5) rfl)) own_d_prog_3_method_12_code_47 (pc' := 50) rfl ?_
  have f102 : own_D 0 360 (360 : Int) (4645040803167600640 : UInt64) := own_D.lit (s := false) (c := 6333186975989760) (q := -44) (by decide +kernel) (by decide +kernel) (by decide)
  obtain ⟨d101, e101⟩ : ∃ v, FP.dadd (0 : UInt64) (4645040803167600640 : UInt64) = v := ⟨_, rfl⟩
  have f101 : own_D 0 360 ((0 : Int) + (360 : Int)) d101 := own_D.add f95 f102 e101 (by decide) (by decide) (by decide)
  refine own_dadd X0 e101 f101.nn own_d_prog_3_method_12_code_50 (pc' := 51) rfl ?_
  refine own_dcmp X0 (f100.cmp f101) own_d_prog_3_method_12_code_51 (pc' := 52) rfl ?_
  have c103 : (360 : Int) = ((0 : Int) + (360 : Int)) := by decide
  refine own_ifF X0 (own_c3_eq c103).2 own_d_prog_3_method_12_code_52 (pc' := 55) rfl ?_
  refine own_dloadN X0 rfl own_d_prog_3_method_12_code_55 (pc' := 56) rfl ?_
  refine own_goto X0 own_d_prog_3_method_12_code_56 (pc' := 63) (by decide) (by decide) ?_
  exact own_retD X0  own_d_prog_3_method_12_code_63 rfl (by decide) (by decide) ⟨rfl, rfl⟩
abbrev own_rm_own_n_t180p : Room := ({ frames := 0, cells := 0, slots := 0, locals := 0 } : Room)
set_option maxRecDepth 65536 in
set_option maxHeartbeats 40000000 in
theorem own_n_t180p (l : Launch) (Z : State) (a0 : Array Value) (hw : ∀ d ∈ tables_1, d.before a0 Z = true) (x0 : UInt64) (i_x0 : Int) (h0 : Heap) (n0 : Nat) (Z0 : n0 ≤ h0.size) (D_x0 : own_D 60 1024 i_x0 x0) (hp : 0 < i_x0 ∧ i_x0 ≤ 1024) :
    own_Met l Z ({ cls := "com/example/orthodrome/orthodrome/Coordinates", name := "normalized", desc := "(DD)D" } : Jvm.MethodName) prog_3_method_12_code 6 (some .double) [] own_rm_own_n_t180p #[(.double x0), (.double (13863909240395005952 : UInt64))] h0 n0 (fun v h => (∃ r, v = some (.double r) ∧ own_D 60 1024 i_x0 r) ∧ h = h0) := by
  refine own_meet (plainFor_of_name own_pn0) Z0 (Ls0 := #[.val (.double x0), .second, .val (.double (13863909240395005952 : UInt64)), .second, .unset, .unset]) (by intro m; first | (simp [entryFrame, mkF, argsToLocals, Value.category]; done) | rfl) ?_
  intro p e s m below meth c T0 X0
  refine own_dloadN X0 rfl own_d_prog_3_method_12_code_0 (pc' := 1) rfl ?_
  refine own_ldcD X0 (v := (4645040803167600640 : UInt64)) (hw _ (List.mem_of_getElem? (i := 5) rfl)) own_d_prog_3_method_12_code_1 (pc' := 4) rfl ?_
  have f105 : own_D 0 360 (360 : Int) (4645040803167600640 : UInt64) := own_D.lit (s := false) (c := 6333186975989760) (q := -44) (by decide +kernel) (by decide +kernel) (by decide)
  have f107 := own_D.up (r := 60) (P := 1152921504606846976) (t := 60) (C := 415051741658464911360) f105 (by decide) (by decide) (by decide)
  have g106 := f107.of_eq (show ((360 : Int) * ((1152921504606846976 : Nat) : Int)) = (415051741658464911360 : Int) by decide)
  obtain ⟨d106, e106⟩ : ∃ v, FP.drem x0 (4645040803167600640 : UInt64) = v := ⟨_, rfl⟩
  have f106 := own_D.rem D_x0 g106 (by decide) e106 (by decide) (by decide)
  rw [own_tmod_small (by omega) (by omega)] at f106
  refine own_drem X0 e106 f106.nn own_d_prog_3_method_12_code_4 (pc' := 5) rfl ?_
  refine own_dstore X0 (Ls' := #[.val (.double x0), .second, .val (.double (13863909240395005952 : UInt64)), .second, .val (.double d106), .second]) rfl own_d_prog_3_method_12_code_5 (pc' := 7) rfl ?_
  refine own_dload X0 rfl own_d_prog_3_method_12_code_7 (pc' := 9) rfl ?_
  refine own_dloadN X0 rfl own_d_prog_3_method_12_code_9 (pc' := 10) rfl ?_
  have f108 : own_D 0 180 (-180 : Int) (13863909240395005952 : UInt64) := own_D.lit (s := true) (c := 6333186975989760) (q := -45) (by decide +kernel) (by decide +kernel) (by decide)
  have f109 := own_D.up (r := 60) (P := 1152921504606846976) (t := 60) (C := 207525870829232455680) f108 (by decide) (by decide) (by decide)
  refine own_dcmp X0 (f106.cmp f109) own_d_prog_3_method_12_code_10 (pc' := 11) rfl ?_
  have c110 : ¬ (i_x0 < ((-180 : Int) * ((1152921504606846976 : Nat) : Int))) := by omega
  refine own_ifT X0 (own_c3_nlt c110).2 own_d_prog_3_method_12_code_11 (pc' := 25) (by decide) (by decide) ?_
  refine own_dload X0 rfl own_d_prog_3_method_12_code_25 (pc' := 27) rfl ?_
  refine own_dloadN X0 rfl own_d_prog_3_method_12_code_27 (pc' := 28) rfl ?_
  refine own_ldcD X0 (v := (4645040803167600640 : UInt64)) (hw _ (List.mem_of_getElem? (i := 5) rfl)) own_d_prog_3_method_12_code_28 (pc' := 31) rfl ?_
  have f112 : own_D 0 360 (360 : Int) (4645040803167600640 : UInt64) := own_D.lit (s := false) (c := 6333186975989760) (q := -44) (by decide +kernel) (by decide +kernel) (by decide)
  obtain ⟨d111, e111⟩ : ∃ v, FP.dadd (13863909240395005952 : UInt64) (4645040803167600640 : UInt64) = v := ⟨_, rfl⟩
  have f111 : own_D 0 540 ((-180 : Int) + (360 : Int)) d111 := own_D.add f108 f112 e111 (by decide) (by decide) (by decide)
  refine own_dadd X0 e111 f111.nn own_d_prog_3_method_12_code_31 (pc' := 32) rfl ?_
  have f113 := own_D.up (r := 60) (P := 1152921504606846976) (t := 60) (C := 622577612487697367040) f111 (by decide) (by decide) (by decide)
  refine own_dcmp X0 (f106.cmp f113) own_d_prog_3_method_12_code_32 (pc' := 33) rfl ?_
  have c114 : i_x0 < (((-180 : Int) + (360 : Int)) * ((1152921504606846976 : Nat) : Int)) := by omega
  refine own_ifT X0 (own_c3_lt c114).1 own_d_prog_3_method_12_code_33 (pc' := 44) (by decide) (by decide) ?_
  refine own_dload X0 rfl own_d_prog_3_method_12_code_44 (pc' := 46) rfl ?_
  refine own_dloadN X0 rfl own_d_prog_3_method_12_code_46 (pc' := 47) rfl ?_
  refine own_ldcD X0 (v := (4645040803167600640 : UInt64)) (hw _ (List.mem_of_getElem? (i := 5) rfl)) own_d_prog_3_method_12_code_47 (pc' := 50) rfl ?_
  have f116 : own_D 0 360 (360 : Int) (4645040803167600640 : UInt64) := own_D.lit (s := false) (c := 6333186975989760) (q := -44) (by decide +kernel) (by decide +kernel) (by decide)
  obtain ⟨d115, e115⟩ : ∃ v, FP.dadd (13863909240395005952 : UInt64) (4645040803167600640 : UInt64) = v := ⟨_, rfl⟩
  have f115 : own_D 0 540 ((-180 : Int) + (360 : Int)) d115 := own_D.add f108 f116 e115 (by decide) (by decide) (by decide)
  refine own_dadd X0 e115 f115.nn own_d_prog_3_method_12_code_50 (pc' := 51) rfl ?_
  have f117 := own_D.up (r := 60) (P := 1152921504606846976) (t := 60) (C := 622577612487697367040) f115 (by decide) (by decide) (by decide)
  refine own_dcmp X0 (f106.cmp f117) own_d_prog_3_method_12_code_51 (pc' := 52) rfl ?_
  have c118 : ¬ (i_x0 = (((-180 : Int) + (360 : Int)) * ((1152921504606846976 : Nat) : Int))) := by omega
  refine own_ifT X0 (own_c3_ne c118).2 own_d_prog_3_method_12_code_52 (pc' := 59) (by decide) (by decide) ?_
  refine own_dload X0 rfl own_d_prog_3_method_12_code_59 (pc' := 61) rfl ?_
  refine own_dconst0 X0 (v := (0 : UInt64)) rfl own_d_prog_3_method_12_code_61 (pc' := 62) rfl ?_
  have f121 : own_D 0 0 (0 : Int) (0 : UInt64) := own_D.lit (s := false) (c := 0) (q := -1074) (by decide +kernel) (by decide +kernel) (by decide)
  have f122 : own_D 60 0 (0 : Int) (0 : UInt64) := own_D.zero (s := false) (by decide +kernel) _
  obtain ⟨d120, e120⟩ : ∃ v, FP.dadd d106 (0 : UInt64) = v := ⟨_, rfl⟩
  have f120 : own_D 60 1024 (i_x0 + (0 : Int)) d120 := own_D.add f106 f122 e120 (by decide) (by decide) (by decide)
  refine own_dadd X0 e120 f120.nn own_d_prog_3_method_12_code_62 (pc' := 63) rfl ?_
  exact own_retD X0  own_d_prog_3_method_12_code_63 rfl (by decide) (by decide) ⟨⟨_, rfl, f120.of_eq (by omega)⟩, rfl⟩
abbrev own_rm_own_n_t180n : Room := ({ frames := 0, cells := 0, slots := 0, locals := 0 } : Room)
set_option maxRecDepth 65536 in
set_option maxHeartbeats 40000000 in
theorem own_n_t180n (l : Launch) (Z : State) (a0 : Array Value) (hw : ∀ d ∈ tables_1, d.before a0 Z = true) (x0 : UInt64) (i_x0 : Int) (h0 : Heap) (n0 : Nat) (Z0 : n0 ≤ h0.size) (D_x0 : own_D 60 1024 i_x0 x0) (hp : i_x0 < 0 ∧ -1024 ≤ i_x0) :
    own_Met l Z ({ cls := "com/example/orthodrome/orthodrome/Coordinates", name := "normalized", desc := "(DD)D" } : Jvm.MethodName) prog_3_method_12_code 6 (some .double) [] own_rm_own_n_t180n #[(.double x0), (.double (13863909240395005952 : UInt64))] h0 n0 (fun v h => (∃ r, v = some (.double r) ∧ own_D 60 1024 i_x0 r) ∧ h = h0) := by
  refine own_meet (plainFor_of_name own_pn0) Z0 (Ls0 := #[.val (.double x0), .second, .val (.double (13863909240395005952 : UInt64)), .second, .unset, .unset]) (by intro m; first | (simp [entryFrame, mkF, argsToLocals, Value.category]; done) | rfl) ?_
  intro p e s m below meth c T0 X0
  refine own_dloadN X0 rfl own_d_prog_3_method_12_code_0 (pc' := 1) rfl ?_
  refine own_ldcD X0 (v := (4645040803167600640 : UInt64)) (hw _ (List.mem_of_getElem? (i := 5) rfl)) own_d_prog_3_method_12_code_1 (pc' := 4) rfl ?_
  have f124 : own_D 0 360 (360 : Int) (4645040803167600640 : UInt64) := own_D.lit (s := false) (c := 6333186975989760) (q := -44) (by decide +kernel) (by decide +kernel) (by decide)
  have f126 := own_D.up (r := 60) (P := 1152921504606846976) (t := 60) (C := 415051741658464911360) f124 (by decide) (by decide) (by decide)
  have g125 := f126.of_eq (show ((360 : Int) * ((1152921504606846976 : Nat) : Int)) = (415051741658464911360 : Int) by decide)
  obtain ⟨d125, e125⟩ : ∃ v, FP.drem x0 (4645040803167600640 : UInt64) = v := ⟨_, rfl⟩
  have f125 := own_D.rem D_x0 g125 (by decide) e125 (by decide) (by decide)
  rw [own_tmod_small (by omega) (by omega)] at f125
  refine own_drem X0 e125 f125.nn own_d_prog_3_method_12_code_4 (pc' := 5) rfl ?_
  refine own_dstore X0 (Ls' := #[.val (.double x0), .second, .val (.double (13863909240395005952 : UInt64)), .second, .val (.double d125), .second]) rfl own_d_prog_3_method_12_code_5 (pc' := 7) rfl ?_
  refine own_dload X0 rfl own_d_prog_3_method_12_code_7 (pc' := 9) rfl ?_
  refine own_dloadN X0 rfl own_d_prog_3_method_12_code_9 (pc' := 10) rfl ?_
  have f127 : own_D 0 180 (-180 : Int) (13863909240395005952 : UInt64) := own_D.lit (s := true) (c := 6333186975989760) (q := -45) (by decide +kernel) (by decide +kernel) (by decide)
  have f128 := own_D.up (r := 60) (P := 1152921504606846976) (t := 60) (C := 207525870829232455680) f127 (by decide) (by decide) (by decide)
  refine own_dcmp X0 (f125.cmp f128) own_d_prog_3_method_12_code_10 (pc' := 11) rfl ?_
  have c129 : ¬ (i_x0 < ((-180 : Int) * ((1152921504606846976 : Nat) : Int))) := by omega
  refine own_ifT X0 (own_c3_nlt c129).2 own_d_prog_3_method_12_code_11 (pc' := 25) (by decide) (by decide) ?_
  refine own_dload X0 rfl own_d_prog_3_method_12_code_25 (pc' := 27) rfl ?_
  refine own_dloadN X0 rfl own_d_prog_3_method_12_code_27 (pc' := 28) rfl ?_
  refine own_ldcD X0 (v := (4645040803167600640 : UInt64)) (hw _ (List.mem_of_getElem? (i := 5) rfl)) own_d_prog_3_method_12_code_28 (pc' := 31) rfl ?_
  have f131 : own_D 0 360 (360 : Int) (4645040803167600640 : UInt64) := own_D.lit (s := false) (c := 6333186975989760) (q := -44) (by decide +kernel) (by decide +kernel) (by decide)
  obtain ⟨d130, e130⟩ : ∃ v, FP.dadd (13863909240395005952 : UInt64) (4645040803167600640 : UInt64) = v := ⟨_, rfl⟩
  have f130 : own_D 0 540 ((-180 : Int) + (360 : Int)) d130 := own_D.add f127 f131 e130 (by decide) (by decide) (by decide)
  refine own_dadd X0 e130 f130.nn own_d_prog_3_method_12_code_31 (pc' := 32) rfl ?_
  have f132 := own_D.up (r := 60) (P := 1152921504606846976) (t := 60) (C := 622577612487697367040) f130 (by decide) (by decide) (by decide)
  refine own_dcmp X0 (f125.cmp f132) own_d_prog_3_method_12_code_32 (pc' := 33) rfl ?_
  have c133 : i_x0 < (((-180 : Int) + (360 : Int)) * ((1152921504606846976 : Nat) : Int)) := by omega
  refine own_ifT X0 (own_c3_lt c133).1 own_d_prog_3_method_12_code_33 (pc' := 44) (by decide) (by decide) ?_
  refine own_dload X0 rfl own_d_prog_3_method_12_code_44 (pc' := 46) rfl ?_
  refine own_dloadN X0 rfl own_d_prog_3_method_12_code_46 (pc' := 47) rfl ?_
  refine own_ldcD X0 (v := (4645040803167600640 : UInt64)) (hw _ (List.mem_of_getElem? (i := 5) rfl)) own_d_prog_3_method_12_code_47 (pc' := 50) rfl ?_
  have f135 : own_D 0 360 (360 : Int) (4645040803167600640 : UInt64) := own_D.lit (s := false) (c := 6333186975989760) (q := -44) (by decide +kernel) (by decide +kernel) (by decide)
  obtain ⟨d134, e134⟩ : ∃ v, FP.dadd (13863909240395005952 : UInt64) (4645040803167600640 : UInt64) = v := ⟨_, rfl⟩
  have f134 : own_D 0 540 ((-180 : Int) + (360 : Int)) d134 := own_D.add f127 f135 e134 (by decide) (by decide) (by decide)
  refine own_dadd X0 e134 f134.nn own_d_prog_3_method_12_code_50 (pc' := 51) rfl ?_
  have f136 := own_D.up (r := 60) (P := 1152921504606846976) (t := 60) (C := 622577612487697367040) f134 (by decide) (by decide) (by decide)
  refine own_dcmp X0 (f125.cmp f136) own_d_prog_3_method_12_code_51 (pc' := 52) rfl ?_
  have c137 : ¬ (i_x0 = (((-180 : Int) + (360 : Int)) * ((1152921504606846976 : Nat) : Int))) := by omega
  refine own_ifT X0 (own_c3_ne c137).2 own_d_prog_3_method_12_code_52 (pc' := 59) (by decide) (by decide) ?_
  refine own_dload X0 rfl own_d_prog_3_method_12_code_59 (pc' := 61) rfl ?_
  refine own_dconst0 X0 (v := (0 : UInt64)) rfl own_d_prog_3_method_12_code_61 (pc' := 62) rfl ?_
  have f140 : own_D 0 0 (0 : Int) (0 : UInt64) := own_D.lit (s := false) (c := 0) (q := -1074) (by decide +kernel) (by decide +kernel) (by decide)
  have f141 : own_D 60 0 (0 : Int) (0 : UInt64) := own_D.zero (s := false) (by decide +kernel) _
  obtain ⟨d139, e139⟩ : ∃ v, FP.dadd d125 (0 : UInt64) = v := ⟨_, rfl⟩
  have f139 : own_D 60 1024 (i_x0 + (0 : Int)) d139 := own_D.add f125 f141 e139 (by decide) (by decide) (by decide)
  refine own_dadd X0 e139 f139.nn own_d_prog_3_method_12_code_62 (pc' := 63) rfl ?_
  exact own_retD X0  own_d_prog_3_method_12_code_63 rfl (by decide) (by decide) ⟨⟨_, rfl, f139.of_eq (by omega)⟩, rfl⟩
theorem own_d_method_3_code_0 : decode method_3_code 0 = .ok (.dload_n 0, 1) := by decide +kernel
theorem own_d_method_3_code_1 : decode method_3_code 1 = .ok (.dload_n 2, 1) := by decide +kernel
theorem own_d_method_3_code_2 : decode method_3_code 2 = .ok (.dcmp .l, 1) := by decide +kernel
theorem own_d_method_3_code_3 : decode method_3_code 3 = .ok (.ifCond .eq 5, 3) := by decide +kernel
theorem own_d_method_3_code_6 : decode method_3_code 6 = .ok (.iconst 0, 1) := by decide +kernel
theorem own_d_method_3_code_7 : decode method_3_code 7 = .ok (.ireturn, 1) := by decide +kernel
theorem own_d_method_3_code_8 : decode method_3_code 8 = .ok (.dload_n 2, 1) := by decide +kernel
theorem own_d_method_3_code_9 : decode method_3_code 9 = .ok (.dconst 0, 1) := by decide +kernel
theorem own_d_method_3_code_10 : decode method_3_code 10 = .ok (.dcmp .l, 1) := by decide +kernel
theorem own_d_method_3_code_11 : decode method_3_code 11 = .ok (.ifCond .ne 17, 3) := by decide +kernel
theorem own_d_method_3_code_14 : decode method_3_code 14 = .ok (.dconst 1, 1) := by decide +kernel
theorem own_d_method_3_code_15 : decode method_3_code 15 = .ok (.dload_n 0, 1) := by decide +kernel
theorem own_d_method_3_code_16 : decode method_3_code 16 = .ok (.ddiv, 1) := by decide +kernel
theorem own_d_method_3_code_17 : decode method_3_code 17 = .ok (.dconst 0, 1) := by decide +kernel
theorem own_d_method_3_code_18 : decode method_3_code 18 = .ok (.dcmp .l, 1) := by decide +kernel
theorem own_d_method_3_code_19 : decode method_3_code 19 = .ok (.ifCond .le 7, 3) := by decide +kernel
theorem own_d_method_3_code_22 : decode method_3_code 22 = .ok (.iconst 1, 1) := by decide +kernel
theorem own_d_method_3_code_23 : decode method_3_code 23 = .ok (.goto 4, 3) := by decide +kernel
theorem own_d_method_3_code_26 : decode method_3_code 26 = .ok (.iconst 0, 1) := by decide +kernel
theorem own_d_method_3_code_27 : decode method_3_code 27 = .ok (.ireturn, 1) := by decide +kernel
theorem own_d_method_3_code_28 : decode method_3_code 28 = .ok (.iconst 1, 1) := by decide +kernel
theorem own_d_method_3_code_29 : decode method_3_code 29 = .ok (.ireturn, 1) := by decide +kernel
theorem own_pd1 : parseMethodDescriptor "(DD)Z" = some ⟨[.double, .double], some .boolean⟩ := by decide +kernel
theorem own_pn1 : plainName "com/example/orthodrome/orthodrome/CoordinatesNormalizedPinLaw" = true := by first | (simp [plainName, overriddenIn]; done) | decide +kernel
abbrev own_rm_own_same : Room := ({ frames := 0, cells := 0, slots := 0, locals := 0 } : Room)
set_option maxRecDepth 65536 in
set_option maxHeartbeats 40000000 in
theorem own_same (l : Launch) (Z : State) (a0 : Array Value) (hw : ∀ d ∈ tables_1, d.before a0 Z = true) (x0 x1 : UInt64) (i_e : Int) (k0 b0 b1 : Nat) (h0 : Heap) (n0 : Nat) (Z0 : n0 ≤ h0.size) (D_x0 : own_D k0 b0 i_e x0) (D_x1 : own_D k0 b1 i_e x1) (hz : i_e = 0 → x0 = 0) :
    own_Met l Z ({ cls := "com/example/orthodrome/orthodrome/CoordinatesNormalizedPinLaw", name := "same", desc := "(DD)Z" } : Jvm.MethodName) method_3_code 4 (some .boolean) [] own_rm_own_same #[(.double x0), (.double x1)] h0 n0 (fun v h => v = some (.int 1) ∧ h = h0) := by
  refine own_meet (plainFor_of_name own_pn1) Z0 (Ls0 := #[.val (.double x0), .second, .val (.double x1), .second]) (by intro m; first | (simp [entryFrame, mkF, argsToLocals, Value.category]; done) | rfl) ?_
  intro p e s m below meth c T0 X0
  refine own_dloadN X0 rfl own_d_method_3_code_0 (pc' := 1) rfl ?_
  refine own_dloadN X0 rfl own_d_method_3_code_1 (pc' := 2) rfl ?_
  refine own_dcmp X0 (D_x0.cmp D_x1) own_d_method_3_code_2 (pc' := 3) rfl ?_
  have c142 : i_e = i_e := rfl
  refine own_ifT X0 (own_c3_eq c142).1 own_d_method_3_code_3 (pc' := 8) (by decide) (by decide) ?_
  refine own_dloadN X0 rfl own_d_method_3_code_8 (pc' := 9) rfl ?_
  refine own_dconst0 X0 (v := (0 : UInt64)) rfl own_d_method_3_code_9 (pc' := 10) rfl ?_
  have f143 : own_D 0 0 (0 : Int) (0 : UInt64) := own_D.lit (s := false) (c := 0) (q := -1074) (by decide +kernel) (by decide +kernel) (by decide)
  have f144 : own_D k0 0 (0 : Int) (0 : UInt64) := own_D.zero (s := false) (by decide +kernel) _
  refine own_dcmp X0 (D_x1.cmp f144) own_d_method_3_code_10 (pc' := 11) rfl ?_
  by_cases c145 : i_e = (0 : Int)
  · -- yes c145
    refine own_ifF X0 (own_c3_eq c145).2 own_d_method_3_code_11 (pc' := 14) rfl ?_
    refine own_dconst1 X0 (v := (4607182418800017408 : UInt64)) rfl own_d_method_3_code_14 (pc' := 15) rfl ?_
    refine own_dloadN X0 rfl own_d_method_3_code_15 (pc' := 16) rfl ?_
    have e147 : FP.ddiv (4607182418800017408 : UInt64) x0 = (9218868437227405312 : UInt64) := by rw [hz c145]; decide +kernel
    have q147 : Jvm.Free.Fl.NoNaN64 (9218868437227405312 : UInt64) := by unfold Jvm.Free.Fl.NoNaN64; decide
    refine own_ddiv X0 e147 q147 own_d_method_3_code_16 (pc' := 17) rfl ?_
    refine own_dconst0 X0 (v := (0 : UInt64)) rfl own_d_method_3_code_17 (pc' := 18) rfl ?_
    refine own_dcmp X0 (v := (1 : Int32)) (by decide +kernel) own_d_method_3_code_18 (pc' := 19) rfl ?_
    refine own_ifF X0 (by decide) own_d_method_3_code_19 (pc' := 22) rfl ?_
    refine own_iconst X0 (v := (1 : Int32)) (by decide) own_d_method_3_code_22 (pc' := 23) rfl ?_
    refine own_goto X0 own_d_method_3_code_23 (pc' := 27) (by decide) (by decide) ?_
    exact own_retZ X0 (by decide) own_d_method_3_code_27 rfl (by decide) (by decide) ⟨rfl, rfl⟩
  · -- no c145
    refine own_ifT X0 (own_c3_ne c145).2 own_d_method_3_code_11 (pc' := 28) (by decide) (by decide) ?_
    refine own_iconst X0 (v := (1 : Int32)) (by decide) own_d_method_3_code_28 (pc' := 29) rfl ?_
    exact own_retZ X0 (by decide) own_d_method_3_code_29 rfl (by decide) (by decide) ⟨rfl, rfl⟩
set_option maxRecDepth 65536 in
set_option maxHeartbeats 40000000 in
theorem own_law (l : Launch) (Z : State) (a0 : Array Value) (hw : ∀ d ∈ tables_1, d.before a0 Z = true) (ws : List Jvm.Cond) (p0 : Int32) (p1 : Int32) (p2 : Int32) (p3 : Int32) (h0 : Heap) (n0 : Nat) (Z0 : n0 ≤ h0.size)  :
    own_Met l Z x code maxLocals ret ws room_1 #[(.int p0), (.int p1), (.int p2), (.int p3)] h0 n0 (fun v _ => v = some (.int 1)) := by
  refine own_meet (plainFor_of_name own_pn1) Z0 (Ls0 := #[.val (.int p0), .val (.int p1), .val (.int p2), .val (.int p3), .unset, .unset, .unset, .unset, .unset, .unset, .unset, .unset, .unset, .unset, .unset]) (by intro m; first | (simp [entryFrame, mkF, argsToLocals, Value.category, maxLocals]; done) | rfl) ?_
  intro p e s m below meth c T0 X0
  refine own_iloadN X0 rfl at_0 (pc' := 1) rfl ?_
  refine own_iconst X0 (v := (1 : Int32)) (by decide) at_1 (pc' := 2) rfl ?_
  obtain ⟨i148, e148⟩ : ∃ v, p2 &&& (1 : Int32) = v := ⟨_, rfl⟩
  have f148 : own_I 1 i148.toInt i148 := own_I.and e148 (by decide)
  have nn148 := own_and_nn (M := 1) e148 (by decide)
  refine own_iand X0 e148 at_2 (pc' := 3) rfl ?_
  by_cases c149 : i148 = 0
  · -- yes c149
    refine own_ifT X0 (own_z_eq c149).1 at_3 (pc' := 12) (by decide) (by decide) ?_
    refine own_dconst0 X0 (v := (0 : UInt64)) rfl at_12 (pc' := 13) rfl ?_
    refine own_dstore X0 (Ls' := #[.val (.int p0), .val (.int p1), .val (.int p2), .val (.int p3), .val (.double (0 : UInt64)), .second, .unset, .unset, .unset, .unset, .unset, .unset, .unset, .unset, .unset]) rfl at_13 (pc' := 15) rfl ?_
    refine own_iloadN X0 rfl at_15 (pc' := 16) rfl ?_
    refine own_iconst X0 (v := (2 : Int32)) (by decide) at_16 (pc' := 17) rfl ?_
    obtain ⟨i150, e150⟩ : ∃ v, p2 &&& (2 : Int32) = v := ⟨_, rfl⟩
    have f150 : own_I 2 i150.toInt i150 := own_I.and e150 (by decide)
    have nn150 := own_and_nn (M := 2) e150 (by decide)
    refine own_iand X0 e150 at_17 (pc' := 18) rfl ?_
    by_cases c151 : i150 = 0
    · -- yes c151
      refine own_ifF X0 (own_z_eq c151).2 at_18 (pc' := 21) rfl ?_
      refine own_iloadN X0 rfl at_21 (pc' := 22) rfl ?_
      refine own_ldcI X0 (v := (2147483647 : Int32)) (hw _ (List.mem_of_getElem? (i := 10) rfl)) at_22 (pc' := 24) rfl ?_
      obtain ⟨i152, e152⟩ : ∃ v, p1 &&& (2147483647 : Int32) = v := ⟨_, rfl⟩
      have f152 : own_I 2147483647 i152.toInt i152 := own_I.and e152 (by decide)
      have nn152 := own_and_nn (M := 2147483647) e152 (by decide)
      refine own_iand X0 e152 at_24 (pc' := 25) rfl ?_
      refine own_sipush X0 (v := (2880 : Int32)) (by decide) at_25 (pc' := 28) rfl ?_
      obtain ⟨i153, e153⟩ : ∃ v, i152 % (2880 : Int32) = v := ⟨_, rfl⟩
      refine own_irem X0 (by decide) e153 at_28 (pc' := 29) rfl ?_
      have rm153 := own_irem_bd (d := 2880) e153 (by omega) (by decide) (by decide)
      have f153 : own_I 2880 i153.toInt i153 := ⟨rfl, by omega⟩
      refine own_istore X0 (Ls' := #[.val (.int p0), .val (.int p1), .val (.int p2), .val (.int p3), .val (.double (0 : UInt64)), .second, .val (.int i153), .unset, .unset, .unset, .unset, .unset, .unset, .unset, .unset]) rfl at_29 (pc' := 31) rfl ?_
      refine own_dload X0 rfl at_31 (pc' := 33) rfl ?_
      refine own_iload X0 rfl at_33 (pc' := 35) rfl ?_
      obtain ⟨d154, e154⟩ : ∃ v, FP.i2d i153 = v := ⟨_, rfl⟩
      have f154 : own_D 0 2880 i153.toInt d154 := own_D.i2d f153 e154
      refine own_i2d X0 e154 at_35 (pc' := 36) rfl ?_
      refine own_ldcD X0 (v := (4620693217682128896 : UInt64)) (hw _ (List.mem_of_getElem? (i := 11) rfl)) at_36 (pc' := 39) rfl ?_
      have f156 : own_D 0 8 (8 : Int) (4620693217682128896 : UInt64) := own_D.lit (s := false) (c := 4503599627370496) (q := -49) (by decide +kernel) (by decide +kernel) (by decide)
      obtain ⟨d155, e155⟩ : ∃ v, FP.ddiv d154 (4620693217682128896 : UInt64) = v := ⟨_, rfl⟩
      have f155 : own_D 3 2880 i153.toInt d155 := own_D.divp (r := 3) (P := 8) f154 f156 (by decide) e155 (by decide) (by decide) (by decide)
      refine own_ddiv X0 e155 f155.nn at_39 (pc' := 40) rfl ?_
      have f158 : own_D 0 0 (0 : Int) (0 : UInt64) := own_D.lit (s := false) (c := 0) (q := -1074) (by decide +kernel) (by decide +kernel) (by decide)
      obtain ⟨d157, e157⟩ : ∃ v, FP.dadd (0 : UInt64) d155 = v := ⟨_, rfl⟩
      have f159 : own_D 3 0 (0 : Int) (0 : UInt64) := own_D.zero (s := false) (by decide +kernel) _
      have f157 : own_D 3 2880 ((0 : Int) + i153.toInt) d157 := own_D.add f159 f155 e157 (by decide) (by decide) (by decide)
      refine own_dadd X0 e157 f157.nn at_40 (pc' := 41) rfl ?_
      refine own_dstore X0 (Ls' := #[.val (.int p0), .val (.int p1), .val (.int p2), .val (.int p3), .val (.double (0 : UInt64)), .second, .val (.int i153), .val (.double d157), .second, .unset, .unset, .unset, .unset, .unset, .unset]) rfl at_41 (pc' := 43) rfl ?_
      refine own_ldcD X0 (v := (4645040803167600640 : UInt64)) (hw _ (List.mem_of_getElem? (i := 12) rfl)) at_43 (pc' := 46) rfl ?_
      refine own_iloadN X0 rfl at_46 (pc' := 47) rfl ?_
      have f160 := own_I.start p0
      obtain ⟨d161, e161⟩ : ∃ v, FP.i2d p0 = v := ⟨_, rfl⟩
      have f161 : own_D 0 2147483648 p0.toInt d161 := own_D.i2d f160 e161
      refine own_i2d X0 e161 at_47 (pc' := 48) rfl ?_
      have f163 : own_D 0 360 (360 : Int) (4645040803167600640 : UInt64) := own_D.lit (s := false) (c := 6333186975989760) (q := -44) (by decide +kernel) (by decide +kernel) (by decide)
      obtain ⟨d162, e162⟩ : ∃ v, FP.dmul (4645040803167600640 : UInt64) d161 = v := ⟨_, rfl⟩
      have f162 : own_D 0 773094113280 ((360 : Int) * p0.toInt) d162 := own_D.mul f163 f161 e162 (by decide) (by decide) (by decide) (by decide)
      refine own_dmul X0 e162 f162.nn at_48 (pc' := 49) rfl ?_
      refine own_dload X0 rfl at_49 (pc' := 51) rfl ?_
      obtain ⟨d164, e164⟩ : ∃ v, FP.dadd d162 (0 : UInt64) = v := ⟨_, rfl⟩
      have f164 : own_D 0 773094113280 (((360 : Int) * p0.toInt) + (0 : Int)) d164 := own_D.add f162 f158 e164 (by decide) (by decide) (by decide)
      refine own_dadd X0 e164 f164.nn at_51 (pc' := 52) rfl ?_
      refine own_iload X0 rfl at_52 (pc' := 54) rfl ?_
      obtain ⟨d165, e165⟩ : ∃ v, FP.i2d i153 = v := ⟨_, rfl⟩
      have f165 : own_D 0 2880 i153.toInt d165 := own_D.i2d f153 e165
      refine own_i2d X0 e165 at_54 (pc' := 55) rfl ?_
      refine own_ldcD X0 (v := (4620693217682128896 : UInt64)) (hw _ (List.mem_of_getElem? (i := 11) rfl)) at_55 (pc' := 58) rfl ?_
      have f167 : own_D 0 8 (8 : Int) (4620693217682128896 : UInt64) := own_D.lit (s := false) (c := 4503599627370496) (q := -49) (by decide +kernel) (by decide +kernel) (by decide)
      obtain ⟨d166, e166⟩ : ∃ v, FP.ddiv d165 (4620693217682128896 : UInt64) = v := ⟨_, rfl⟩
      have f166 : own_D 3 2880 i153.toInt d166 := own_D.divp (r := 3) (P := 8) f165 f167 (by decide) e166 (by decide) (by decide) (by decide)
      refine own_ddiv X0 e166 f166.nn at_58 (pc' := 59) rfl ?_
      obtain ⟨d168, e168⟩ : ∃ v, FP.dadd d164 d166 = v := ⟨_, rfl⟩
      have f169 := own_D.up (r := 3) (P := 8) (t := 3) (C := 6184752906240) f164 (by decide) (by decide) (by decide)
      have f168 : own_D 3 6184752909120 (((((360 : Int) * p0.toInt) + (0 : Int)) * ((8 : Nat) : Int)) + i153.toInt) d168 := own_D.add f169 f166 e168 (by decide) (by decide) (by decide)
      refine own_dadd X0 e168 f168.nn at_59 (pc' := 60) rfl ?_
      refine own_dstore X0 (Ls' := #[.val (.int p0), .val (.int p1), .val (.int p2), .val (.int p3), .val (.double (0 : UInt64)), .second, .val (.int i153), .val (.double d157), .second, .val (.double d168), .second, .unset, .unset, .unset, .unset]) rfl at_60 (pc' := 62) rfl ?_
      refine own_dload X0 rfl at_62 (pc' := 64) rfl ?_
      refine own_dload X0 rfl at_64 (pc' := 66) rfl ?_
      have f170 : own_D 3 8796093022208 (((((360 : Int) * p0.toInt) + (0 : Int)) * ((8 : Nat) : Int)) + i153.toInt) d168 := f168.mono (by decide)
      refine own_callS X0 (own_n_m0 l Z a0 hw d168 (((((360 : Int) * p0.toInt) + (0 : Int)) * ((8 : Nat) : Int)) + i153.toInt) _ n0 X0.le f170) (hw _ (List.mem_of_getElem? (i := 1) rfl)) (hw _ (List.mem_of_getElem? (i := 2) rfl)) (hw _ (List.mem_of_getElem? (i := 3) rfl)) (hw _ (List.mem_of_getElem? (i := 4) rfl)) (by decide) rfl (by decide) (W := 0) (Nat.le_of_eq rfl) (by decide) (cells' := 0) (slots' := 0) rfl rfl (by decide) (by decide) (argsL := [(.double d168), (.double (0 : UInt64))]) (rest := []) (lenOf own_pd0 rfl) rfl rfl at_66 (pc' := 69) rfl ?_
      rintro _ T171 h171 X171 ⟨⟨r171, ee171, rfl, fr171, he171, hz171⟩, e171⟩
      subst e171
      show own_Goal p e below _ T171 (mkF m 69 #[.val (.int p0), .val (.int p1), .val (.int p2), .val (.int p3), .val (.double (0 : UInt64)), .second, .val (.int i153), .val (.double d157), .second, .val (.double d168), .second, .unset, .unset, .unset, .unset] [(.double r171)])
      refine own_dstore X171 (Ls' := #[.val (.int p0), .val (.int p1), .val (.int p2), .val (.int p3), .val (.double (0 : UInt64)), .second, .val (.int i153), .val (.double d157), .second, .val (.double d168), .second, .val (.double r171), .second, .unset, .unset]) rfl at_69 (pc' := 71) rfl ?_
      refine own_dload X171 rfl at_71 (pc' := 73) rfl ?_
      refine own_dload X171 rfl at_73 (pc' := 75) rfl ?_
      have q172 := f157.of_eq (show ((0 : Int) + i153.toInt) = ee171 by omega)
      refine own_callS X171 (own_same l Z a0 hw r171 d157 ee171 3 17592186044416 2880 _ n0 X171.le fr171 q172 hz171) (hw _ (List.mem_of_getElem? (i := 6) rfl)) (hw _ (List.mem_of_getElem? (i := 7) rfl)) (hw _ (List.mem_of_getElem? (i := 8) rfl)) (hw _ (List.mem_of_getElem? (i := 9) rfl)) (by decide) rfl (by decide) (W := 0) (Nat.le_of_eq rfl) (by decide) (cells' := 0) (slots' := 0) rfl rfl (by decide) (by decide) (argsL := [(.double r171), (.double d157)]) (rest := []) (lenOf own_pd1 rfl) rfl rfl at_75 (pc' := 78) rfl ?_
      rintro _ T173 h173 X173 ⟨rfl, e173⟩
      subst e173
      show own_Goal p e below _ T173 (mkF m 78 #[.val (.int p0), .val (.int p1), .val (.int p2), .val (.int p3), .val (.double (0 : UInt64)), .second, .val (.int i153), .val (.double d157), .second, .val (.double d168), .second, .val (.double r171), .second, .unset, .unset] [(.int (1 : Int32))])
      exact own_retZ X173 (by decide) at_78 rfl (by decide) (by decide) rfl
    · -- no c151
      refine own_ifT X0 (own_z_ne c151).2 at_18 (pc' := 79) (by decide) (by decide) ?_
      refine own_iloadN X0 rfl at_79 (pc' := 80) rfl ?_
      refine own_sipush X0 (v := (1023 : Int32)) (by decide) at_80 (pc' := 83) rfl ?_
      obtain ⟨i174, e174⟩ : ∃ v, p3 &&& (1023 : Int32) = v := ⟨_, rfl⟩
      have f174 : own_I 1023 i174.toInt i174 := own_I.and e174 (by decide)
      have nn174 := own_and_nn (M := 1023) e174 (by decide)
      refine own_iand X0 e174 at_83 (pc' := 84) rfl ?_
      refine own_iconst X0 (v := (1 : Int32)) (by decide) at_84 (pc' := 85) rfl ?_
      obtain ⟨i175, e175⟩ : ∃ v, i174 + (1 : Int32) = v := ⟨_, rfl⟩
      have f176 : own_I 1 (1 : Int) (1 : Int32) := own_I.lit (by decide) (by decide)
      have f175 : own_I 1024 (i174.toInt + (1 : Int)) i175 := f174.add f176 e175 (by decide) (by decide)
      refine own_iadd X0 e175 at_85 (pc' := 86) rfl ?_
      obtain ⟨d177, e177⟩ : ∃ v, FP.i2d i175 = v := ⟨_, rfl⟩
      have f177 : own_D 0 1024 (i174.toInt + (1 : Int)) d177 := own_D.i2d f175 e177
      refine own_i2d X0 e177 at_86 (pc' := 87) rfl ?_
      refine own_ldcD X0 (v := (4877398396442247168 : UInt64)) (hw _ (List.mem_of_getElem? (i := 0) rfl)) at_87 (pc' := 90) rfl ?_
      have f179 : own_D 0 1152921504606846976 (1152921504606846976 : Int) (4877398396442247168 : UInt64) := own_D.lit (s := false) (c := 4503599627370496) (q := 8) (by decide +kernel) (by decide +kernel) (by decide)
      obtain ⟨d178, e178⟩ : ∃ v, FP.ddiv d177 (4877398396442247168 : UInt64) = v := ⟨_, rfl⟩
      have f178 : own_D 60 1024 (i174.toInt + (1 : Int)) d178 := own_D.divp (r := 60) (P := 1152921504606846976) f177 f179 (by decide) e178 (by decide) (by decide) (by decide)
      refine own_ddiv X0 e178 f178.nn at_90 (pc' := 91) rfl ?_
      refine own_dstore X0 (Ls' := #[.val (.int p0), .val (.int p1), .val (.int p2), .val (.int p3), .val (.double (0 : UInt64)), .second, .val (.double d178), .second, .unset, .unset, .unset, .unset, .unset, .unset, .unset]) rfl at_91 (pc' := 93) rfl ?_
      refine own_iloadN X0 rfl at_93 (pc' := 94) rfl ?_
      refine own_iconst X0 (v := (4 : Int32)) (by decide) at_94 (pc' := 95) rfl ?_
      obtain ⟨i180, e180⟩ : ∃ v, p2 &&& (4 : Int32) = v := ⟨_, rfl⟩
      have f180 : own_I 4 i180.toInt i180 := own_I.and e180 (by decide)
      have nn180 := own_and_nn (M := 4) e180 (by decide)
      refine own_iand X0 e180 at_95 (pc' := 96) rfl ?_
      by_cases c181 : i180 = 0
      · -- yes c181
        refine own_ifT X0 (own_z_eq c181).1 at_96 (pc' := 103) (by decide) (by decide) ?_
        refine own_iconst X0 (v := (0 : Int32)) (by decide) at_103 (pc' := 104) rfl ?_
        refine own_istore X0 (Ls' := #[.val (.int p0), .val (.int p1), .val (.int p2), .val (.int p3), .val (.double (0 : UInt64)), .second, .val (.double d178), .second, .val (.int (0 : Int32)), .unset, .unset, .unset, .unset, .unset, .unset]) rfl at_104 (pc' := 106) rfl ?_
        refine own_iload X0 rfl at_106 (pc' := 108) rfl ?_
        refine own_ifT X0 (by decide) at_108 (pc' := 117) (by decide) (by decide) ?_
        refine own_dload X0 rfl at_117 (pc' := 119) rfl ?_
        refine own_dstore X0 (Ls' := #[.val (.int p0), .val (.int p1), .val (.int p2), .val (.int p3), .val (.double (0 : UInt64)), .second, .val (.double d178), .second, .val (.int (0 : Int32)), .val (.double d178), .second, .unset, .unset, .unset, .unset]) rfl at_119 (pc' := 121) rfl ?_
        refine own_iload X0 rfl at_121 (pc' := 123) rfl ?_
        refine own_ifT X0 (by decide) at_123 (pc' := 137) (by decide) (by decide) ?_
        refine own_dload X0 rfl at_137 (pc' := 139) rfl ?_
        refine own_dstore X0 (Ls' := #[.val (.int p0), .val (.int p1), .val (.int p2), .val (.int p3), .val (.double (0 : UInt64)), .second, .val (.double d178), .second, .val (.int (0 : Int32)), .val (.double d178), .second, .val (.double d178), .second, .unset, .unset]) rfl at_139 (pc' := 141) rfl ?_
        refine own_dload X0 rfl at_141 (pc' := 143) rfl ?_
        refine own_dload X0 rfl at_143 (pc' := 145) rfl ?_
        have hp182 : 0 < (i174.toInt + (1 : Int)) ∧ (i174.toInt + (1 : Int)) ≤ 1024 := by omega
        refine own_callS X0 (own_n_t0p l Z a0 hw d178 (i174.toInt + (1 : Int)) _ n0 X0.le f178 hp182) (hw _ (List.mem_of_getElem? (i := 1) rfl)) (hw _ (List.mem_of_getElem? (i := 2) rfl)) (hw _ (List.mem_of_getElem? (i := 3) rfl)) (hw _ (List.mem_of_getElem? (i := 4) rfl)) (by decide) rfl (by decide) (W := 0) (Nat.le_of_eq rfl) (by decide) (cells' := 0) (slots' := 0) rfl rfl (by decide) (by decide) (argsL := [(.double d178), (.double (0 : UInt64))]) (rest := []) (lenOf own_pd0 rfl) rfl rfl at_145 (pc' := 148) rfl ?_
        rintro _ T183 h183 X183 ⟨⟨r183, rfl, fr183⟩, e183⟩
        subst e183
        show own_Goal p e below _ T183 (mkF m 148 #[.val (.int p0), .val (.int p1), .val (.int p2), .val (.int p3), .val (.double (0 : UInt64)), .second, .val (.double d178), .second, .val (.int (0 : Int32)), .val (.double d178), .second, .val (.double d178), .second, .unset, .unset] [(.double r183)])
        refine own_dstore X183 (Ls' := #[.val (.int p0), .val (.int p1), .val (.int p2), .val (.int p3), .val (.double (0 : UInt64)), .second, .val (.double d178), .second, .val (.int (0 : Int32)), .val (.double d178), .second, .val (.double d178), .second, .val (.double r183), .second]) rfl at_148 (pc' := 150) rfl ?_
        refine own_dload X183 rfl at_150 (pc' := 152) rfl ?_
        refine own_dload X183 rfl at_152 (pc' := 154) rfl ?_
        have q184 := f178.of_eq (show (i174.toInt + (1 : Int)) = (i174.toInt + (1 : Int)) by omega)
        refine own_callS X183 (own_same l Z a0 hw r183 d178 (i174.toInt + (1 : Int)) 60 1024 1024 _ n0 X183.le fr183 q184 (fun q => absurd q (by omega))) (hw _ (List.mem_of_getElem? (i := 6) rfl)) (hw _ (List.mem_of_getElem? (i := 7) rfl)) (hw _ (List.mem_of_getElem? (i := 8) rfl)) (hw _ (List.mem_of_getElem? (i := 9) rfl)) (by decide) rfl (by decide) (W := 0) (Nat.le_of_eq rfl) (by decide) (cells' := 0) (slots' := 0) rfl rfl (by decide) (by decide) (argsL := [(.double r183), (.double d178)]) (rest := []) (lenOf own_pd1 rfl) rfl rfl at_154 (pc' := 157) rfl ?_
        rintro _ T185 h185 X185 ⟨rfl, e185⟩
        subst e185
        show own_Goal p e below _ T185 (mkF m 157 #[.val (.int p0), .val (.int p1), .val (.int p2), .val (.int p3), .val (.double (0 : UInt64)), .second, .val (.double d178), .second, .val (.int (0 : Int32)), .val (.double d178), .second, .val (.double d178), .second, .val (.double r183), .second] [(.int (1 : Int32))])
        exact own_retZ X185 (by decide) at_157 rfl (by decide) (by decide) rfl
      · -- no c181
        refine own_ifF X0 (own_z_ne c181).1 at_96 (pc' := 99) rfl ?_
        refine own_iconst X0 (v := (1 : Int32)) (by decide) at_99 (pc' := 100) rfl ?_
        refine own_goto X0 at_100 (pc' := 104) (by decide) (by decide) ?_
        refine own_istore X0 (Ls' := #[.val (.int p0), .val (.int p1), .val (.int p2), .val (.int p3), .val (.double (0 : UInt64)), .second, .val (.double d178), .second, .val (.int (1 : Int32)), .unset, .unset, .unset, .unset, .unset, .unset]) rfl at_104 (pc' := 106) rfl ?_
        refine own_iload X0 rfl at_106 (pc' := 108) rfl ?_
        refine own_ifF X0 (by decide) at_108 (pc' := 111) rfl ?_
        refine own_dload X0 rfl at_111 (pc' := 113) rfl ?_
        obtain ⟨d186, e186⟩ : ∃ v, FP.dneg d178 = v := ⟨_, rfl⟩
        have f186 : own_D 60 1024 (-(i174.toInt + (1 : Int))) d186 := own_D.neg f178 e186
        refine own_dneg X0 e186 at_113 (pc' := 114) rfl ?_
        refine own_goto X0 at_114 (pc' := 119) (by decide) (by decide) ?_
        refine own_dstore X0 (Ls' := #[.val (.int p0), .val (.int p1), .val (.int p2), .val (.int p3), .val (.double (0 : UInt64)), .second, .val (.double d178), .second, .val (.int (1 : Int32)), .val (.double d186), .second, .unset, .unset, .unset, .unset]) rfl at_119 (pc' := 121) rfl ?_
        refine own_iload X0 rfl at_121 (pc' := 123) rfl ?_
        refine own_ifF X0 (by decide) at_123 (pc' := 126) rfl ?_
        refine own_dload X0 rfl at_126 (pc' := 128) rfl ?_
        refine own_dconst0 X0 (v := (0 : UInt64)) rfl at_128 (pc' := 129) rfl ?_
        have f187 : own_D 0 0 (0 : Int) (0 : UInt64) := own_D.lit (s := false) (c := 0) (q := -1074) (by decide +kernel) (by decide +kernel) (by decide)
        have f188 : own_D 0 0 (0 : Int) (0 : UInt64) := own_D.lit (s := false) (c := 0) (q := -1074) (by decide +kernel) (by decide +kernel) (by decide)
        refine own_dcmp X0 (f187.cmp f188) at_129 (pc' := 130) rfl ?_
        have c189 : (0 : Int) = (0 : Int) := by decide
        refine own_ifF X0 (own_c3_eq c189).2 at_130 (pc' := 133) rfl ?_
        refine own_dconst0 X0 (v := (0 : UInt64)) rfl at_133 (pc' := 134) rfl ?_
        refine own_goto X0 at_134 (pc' := 139) (by decide) (by decide) ?_
        refine own_dstore X0 (Ls' := #[.val (.int p0), .val (.int p1), .val (.int p2), .val (.int p3), .val (.double (0 : UInt64)), .second, .val (.double d178), .second, .val (.int (1 : Int32)), .val (.double d186), .second, .val (.double (0 : UInt64)), .second, .unset, .unset]) rfl at_139 (pc' := 141) rfl ?_
        refine own_dload X0 rfl at_141 (pc' := 143) rfl ?_
        refine own_dload X0 rfl at_143 (pc' := 145) rfl ?_
        have hp190 : (-(i174.toInt + (1 : Int))) < 0 ∧ -1024 ≤ (-(i174.toInt + (1 : Int))) := by omega
        refine own_callS X0 (own_n_t0n l Z a0 hw d186 (-(i174.toInt + (1 : Int))) _ n0 X0.le f186 hp190) (hw _ (List.mem_of_getElem? (i := 1) rfl)) (hw _ (List.mem_of_getElem? (i := 2) rfl)) (hw _ (List.mem_of_getElem? (i := 3) rfl)) (hw _ (List.mem_of_getElem? (i := 4) rfl)) (by decide) rfl (by decide) (W := 0) (Nat.le_of_eq rfl) (by decide) (cells' := 0) (slots' := 0) rfl rfl (by decide) (by decide) (argsL := [(.double d186), (.double (0 : UInt64))]) (rest := []) (lenOf own_pd0 rfl) rfl rfl at_145 (pc' := 148) rfl ?_
        rintro _ T191 h191 X191 ⟨rfl, e191⟩
        subst e191
        show own_Goal p e below _ T191 (mkF m 148 #[.val (.int p0), .val (.int p1), .val (.int p2), .val (.int p3), .val (.double (0 : UInt64)), .second, .val (.double d178), .second, .val (.int (1 : Int32)), .val (.double d186), .second, .val (.double (0 : UInt64)), .second, .unset, .unset] [(.double (0 : UInt64))])
        refine own_dstore X191 (Ls' := #[.val (.int p0), .val (.int p1), .val (.int p2), .val (.int p3), .val (.double (0 : UInt64)), .second, .val (.double d178), .second, .val (.int (1 : Int32)), .val (.double d186), .second, .val (.double (0 : UInt64)), .second, .val (.double (0 : UInt64)), .second]) rfl at_148 (pc' := 150) rfl ?_
        refine own_dload X191 rfl at_150 (pc' := 152) rfl ?_
        refine own_dload X191 rfl at_152 (pc' := 154) rfl ?_
        have f192 : own_D 0 0 (0 : Int) (0 : UInt64) := own_D.lit (s := false) (c := 0) (q := -1074) (by decide +kernel) (by decide +kernel) (by decide)
        have f193 : own_D 0 0 (0 : Int) (0 : UInt64) := own_D.lit (s := false) (c := 0) (q := -1074) (by decide +kernel) (by decide +kernel) (by decide)
        have q194 := f193.of_eq (show (0 : Int) = (0 : Int) by omega)
        refine own_callS X191 (own_same l Z a0 hw (0 : UInt64) (0 : UInt64) (0 : Int) 0 0 0 _ n0 X191.le f192 q194 (fun _ => rfl)) (hw _ (List.mem_of_getElem? (i := 6) rfl)) (hw _ (List.mem_of_getElem? (i := 7) rfl)) (hw _ (List.mem_of_getElem? (i := 8) rfl)) (hw _ (List.mem_of_getElem? (i := 9) rfl)) (by decide) rfl (by decide) (W := 0) (Nat.le_of_eq rfl) (by decide) (cells' := 0) (slots' := 0) rfl rfl (by decide) (by decide) (argsL := [(.double (0 : UInt64)), (.double (0 : UInt64))]) (rest := []) (lenOf own_pd1 rfl) rfl rfl at_154 (pc' := 157) rfl ?_
        rintro _ T195 h195 X195 ⟨rfl, e195⟩
        subst e195
        show own_Goal p e below _ T195 (mkF m 157 #[.val (.int p0), .val (.int p1), .val (.int p2), .val (.int p3), .val (.double (0 : UInt64)), .second, .val (.double d178), .second, .val (.int (1 : Int32)), .val (.double d186), .second, .val (.double (0 : UInt64)), .second, .val (.double (0 : UInt64)), .second] [(.int (1 : Int32))])
        exact own_retZ X195 (by decide) at_157 rfl (by decide) (by decide) rfl
  · -- no c149
    refine own_ifF X0 (own_z_ne c149).1 at_3 (pc' := 6) rfl ?_
    refine own_ldcD X0 (v := (13863909240395005952 : UInt64)) (hw _ (List.mem_of_getElem? (i := 13) rfl)) at_6 (pc' := 9) rfl ?_
    refine own_goto X0 at_9 (pc' := 13) (by decide) (by decide) ?_
    refine own_dstore X0 (Ls' := #[.val (.int p0), .val (.int p1), .val (.int p2), .val (.int p3), .val (.double (13863909240395005952 : UInt64)), .second, .unset, .unset, .unset, .unset, .unset, .unset, .unset, .unset, .unset]) rfl at_13 (pc' := 15) rfl ?_
    refine own_iloadN X0 rfl at_15 (pc' := 16) rfl ?_
    refine own_iconst X0 (v := (2 : Int32)) (by decide) at_16 (pc' := 17) rfl ?_
    obtain ⟨i196, e196⟩ : ∃ v, p2 &&& (2 : Int32) = v := ⟨_, rfl⟩
    have f196 : own_I 2 i196.toInt i196 := own_I.and e196 (by decide)
    have nn196 := own_and_nn (M := 2) e196 (by decide)
    refine own_iand X0 e196 at_17 (pc' := 18) rfl ?_
    by_cases c197 : i196 = 0
    · -- yes c197
      refine own_ifF X0 (own_z_eq c197).2 at_18 (pc' := 21) rfl ?_
      refine own_iloadN X0 rfl at_21 (pc' := 22) rfl ?_
      refine own_ldcI X0 (v := (2147483647 : Int32)) (hw _ (List.mem_of_getElem? (i := 10) rfl)) at_22 (pc' := 24) rfl ?_
      obtain ⟨i198, e198⟩ : ∃ v, p1 &&& (2147483647 : Int32) = v := ⟨_, rfl⟩
      have f198 : own_I 2147483647 i198.toInt i198 := own_I.and e198 (by decide)
      have nn198 := own_and_nn (M := 2147483647) e198 (by decide)
      refine own_iand X0 e198 at_24 (pc' := 25) rfl ?_
      refine own_sipush X0 (v := (2880 : Int32)) (by decide) at_25 (pc' := 28) rfl ?_
      obtain ⟨i199, e199⟩ : ∃ v, i198 % (2880 : Int32) = v := ⟨_, rfl⟩
      refine own_irem X0 (by decide) e199 at_28 (pc' := 29) rfl ?_
      have rm199 := own_irem_bd (d := 2880) e199 (by omega) (by decide) (by decide)
      have f199 : own_I 2880 i199.toInt i199 := ⟨rfl, by omega⟩
      refine own_istore X0 (Ls' := #[.val (.int p0), .val (.int p1), .val (.int p2), .val (.int p3), .val (.double (13863909240395005952 : UInt64)), .second, .val (.int i199), .unset, .unset, .unset, .unset, .unset, .unset, .unset, .unset]) rfl at_29 (pc' := 31) rfl ?_
      refine own_dload X0 rfl at_31 (pc' := 33) rfl ?_
      refine own_iload X0 rfl at_33 (pc' := 35) rfl ?_
      obtain ⟨d200, e200⟩ : ∃ v, FP.i2d i199 = v := ⟨_, rfl⟩
      have f200 : own_D 0 2880 i199.toInt d200 := own_D.i2d f199 e200
      refine own_i2d X0 e200 at_35 (pc' := 36) rfl ?_
      refine own_ldcD X0 (v := (4620693217682128896 : UInt64)) (hw _ (List.mem_of_getElem? (i := 11) rfl)) at_36 (pc' := 39) rfl ?_
      have f202 : own_D 0 8 (8 : Int) (4620693217682128896 : UInt64) := own_D.lit (s := false) (c := 4503599627370496) (q := -49) (by decide +kernel) (by decide +kernel) (by decide)
      obtain ⟨d201, e201⟩ : ∃ v, FP.ddiv d200 (4620693217682128896 : UInt64) = v := ⟨_, rfl⟩
      have f201 : own_D 3 2880 i199.toInt d201 := own_D.divp (r := 3) (P := 8) f200 f202 (by decide) e201 (by decide) (by decide) (by decide)
      refine own_ddiv X0 e201 f201.nn at_39 (pc' := 40) rfl ?_
      have f204 : own_D 0 180 (-180 : Int) (13863909240395005952 : UInt64) := own_D.lit (s := true) (c := 6333186975989760) (q := -45) (by decide +kernel) (by decide +kernel) (by decide)
      obtain ⟨d203, e203⟩ : ∃ v, FP.dadd (13863909240395005952 : UInt64) d201 = v := ⟨_, rfl⟩
      have f205 := own_D.up (r := 3) (P := 8) (t := 3) (C := 1440) f204 (by decide) (by decide) (by decide)
      have f203 : own_D 3 4320 (((-180 : Int) * ((8 : Nat) : Int)) + i199.toInt) d203 := own_D.add f205 f201 e203 (by decide) (by decide) (by decide)
      refine own_dadd X0 e203 f203.nn at_40 (pc' := 41) rfl ?_
      refine own_dstore X0 (Ls' := #[.val (.int p0), .val (.int p1), .val (.int p2), .val (.int p3), .val (.double (13863909240395005952 : UInt64)), .second, .val (.int i199), .val (.double d203), .second, .unset, .unset, .unset, .unset, .unset, .unset]) rfl at_41 (pc' := 43) rfl ?_
      refine own_ldcD X0 (v := (4645040803167600640 : UInt64)) (hw _ (List.mem_of_getElem? (i := 12) rfl)) at_43 (pc' := 46) rfl ?_
      refine own_iloadN X0 rfl at_46 (pc' := 47) rfl ?_
      have f206 := own_I.start p0
      obtain ⟨d207, e207⟩ : ∃ v, FP.i2d p0 = v := ⟨_, rfl⟩
      have f207 : own_D 0 2147483648 p0.toInt d207 := own_D.i2d f206 e207
      refine own_i2d X0 e207 at_47 (pc' := 48) rfl ?_
      have f209 : own_D 0 360 (360 : Int) (4645040803167600640 : UInt64) := own_D.lit (s := false) (c := 6333186975989760) (q := -44) (by decide +kernel) (by decide +kernel) (by decide)
      obtain ⟨d208, e208⟩ : ∃ v, FP.dmul (4645040803167600640 : UInt64) d207 = v := ⟨_, rfl⟩
      have f208 : own_D 0 773094113280 ((360 : Int) * p0.toInt) d208 := own_D.mul f209 f207 e208 (by decide) (by decide) (by decide) (by decide)
      refine own_dmul X0 e208 f208.nn at_48 (pc' := 49) rfl ?_
      refine own_dload X0 rfl at_49 (pc' := 51) rfl ?_
      obtain ⟨d210, e210⟩ : ∃ v, FP.dadd d208 (13863909240395005952 : UInt64) = v := ⟨_, rfl⟩
      have f210 : own_D 0 773094113460 (((360 : Int) * p0.toInt) + (-180 : Int)) d210 := own_D.add f208 f204 e210 (by decide) (by decide) (by decide)
      refine own_dadd X0 e210 f210.nn at_51 (pc' := 52) rfl ?_
      refine own_iload X0 rfl at_52 (pc' := 54) rfl ?_
      obtain ⟨d211, e211⟩ : ∃ v, FP.i2d i199 = v := ⟨_, rfl⟩
      have f211 : own_D 0 2880 i199.toInt d211 := own_D.i2d f199 e211
      refine own_i2d X0 e211 at_54 (pc' := 55) rfl ?_
      refine own_ldcD X0 (v := (4620693217682128896 : UInt64)) (hw _ (List.mem_of_getElem? (i := 11) rfl)) at_55 (pc' := 58) rfl ?_
      have f213 : own_D 0 8 (8 : Int) (4620693217682128896 : UInt64) := own_D.lit (s := false) (c := 4503599627370496) (q := -49) (by decide +kernel) (by decide +kernel) (by decide)
      obtain ⟨d212, e212⟩ : ∃ v, FP.ddiv d211 (4620693217682128896 : UInt64) = v := ⟨_, rfl⟩
      have f212 : own_D 3 2880 i199.toInt d212 := own_D.divp (r := 3) (P := 8) f211 f213 (by decide) e212 (by decide) (by decide) (by decide)
      refine own_ddiv X0 e212 f212.nn at_58 (pc' := 59) rfl ?_
      obtain ⟨d214, e214⟩ : ∃ v, FP.dadd d210 d212 = v := ⟨_, rfl⟩
      have f215 := own_D.up (r := 3) (P := 8) (t := 3) (C := 6184752907680) f210 (by decide) (by decide) (by decide)
      have f214 : own_D 3 6184752910560 (((((360 : Int) * p0.toInt) + (-180 : Int)) * ((8 : Nat) : Int)) + i199.toInt) d214 := own_D.add f215 f212 e214 (by decide) (by decide) (by decide)
      refine own_dadd X0 e214 f214.nn at_59 (pc' := 60) rfl ?_
      refine own_dstore X0 (Ls' := #[.val (.int p0), .val (.int p1), .val (.int p2), .val (.int p3), .val (.double (13863909240395005952 : UInt64)), .second, .val (.int i199), .val (.double d203), .second, .val (.double d214), .second, .unset, .unset, .unset, .unset]) rfl at_60 (pc' := 62) rfl ?_
      refine own_dload X0 rfl at_62 (pc' := 64) rfl ?_
      refine own_dload X0 rfl at_64 (pc' := 66) rfl ?_
      have f216 : own_D 3 8796093022208 (((((360 : Int) * p0.toInt) + (-180 : Int)) * ((8 : Nat) : Int)) + i199.toInt) d214 := f214.mono (by decide)
      refine own_callS X0 (own_n_m180 l Z a0 hw d214 (((((360 : Int) * p0.toInt) + (-180 : Int)) * ((8 : Nat) : Int)) + i199.toInt) _ n0 X0.le f216) (hw _ (List.mem_of_getElem? (i := 1) rfl)) (hw _ (List.mem_of_getElem? (i := 2) rfl)) (hw _ (List.mem_of_getElem? (i := 3) rfl)) (hw _ (List.mem_of_getElem? (i := 4) rfl)) (by decide) rfl (by decide) (W := 0) (Nat.le_of_eq rfl) (by decide) (cells' := 0) (slots' := 0) rfl rfl (by decide) (by decide) (argsL := [(.double d214), (.double (13863909240395005952 : UInt64))]) (rest := []) (lenOf own_pd0 rfl) rfl rfl at_66 (pc' := 69) rfl ?_
      rintro _ T217 h217 X217 ⟨⟨r217, ee217, rfl, fr217, he217, hz217⟩, e217⟩
      subst e217
      show own_Goal p e below _ T217 (mkF m 69 #[.val (.int p0), .val (.int p1), .val (.int p2), .val (.int p3), .val (.double (13863909240395005952 : UInt64)), .second, .val (.int i199), .val (.double d203), .second, .val (.double d214), .second, .unset, .unset, .unset, .unset] [(.double r217)])
      refine own_dstore X217 (Ls' := #[.val (.int p0), .val (.int p1), .val (.int p2), .val (.int p3), .val (.double (13863909240395005952 : UInt64)), .second, .val (.int i199), .val (.double d203), .second, .val (.double d214), .second, .val (.double r217), .second, .unset, .unset]) rfl at_69 (pc' := 71) rfl ?_
      refine own_dload X217 rfl at_71 (pc' := 73) rfl ?_
      refine own_dload X217 rfl at_73 (pc' := 75) rfl ?_
      have q218 := f203.of_eq (show (((-180 : Int) * ((8 : Nat) : Int)) + i199.toInt) = ee217 by omega)
      refine own_callS X217 (own_same l Z a0 hw r217 d203 ee217 3 17592186044416 4320 _ n0 X217.le fr217 q218 hz217) (hw _ (List.mem_of_getElem? (i := 6) rfl)) (hw _ (List.mem_of_getElem? (i := 7) rfl)) (hw _ (List.mem_of_getElem? (i := 8) rfl)) (hw _ (List.mem_of_getElem? (i := 9) rfl)) (by decide) rfl (by decide) (W := 0) (Nat.le_of_eq rfl) (by decide) (cells' := 0) (slots' := 0) rfl rfl (by decide) (by decide) (argsL := [(.double r217), (.double d203)]) (rest := []) (lenOf own_pd1 rfl) rfl rfl at_75 (pc' := 78) rfl ?_
      rintro _ T219 h219 X219 ⟨rfl, e219⟩
      subst e219
      show own_Goal p e below _ T219 (mkF m 78 #[.val (.int p0), .val (.int p1), .val (.int p2), .val (.int p3), .val (.double (13863909240395005952 : UInt64)), .second, .val (.int i199), .val (.double d203), .second, .val (.double d214), .second, .val (.double r217), .second, .unset, .unset] [(.int (1 : Int32))])
      exact own_retZ X219 (by decide) at_78 rfl (by decide) (by decide) rfl
    · -- no c197
      refine own_ifT X0 (own_z_ne c197).2 at_18 (pc' := 79) (by decide) (by decide) ?_
      refine own_iloadN X0 rfl at_79 (pc' := 80) rfl ?_
      refine own_sipush X0 (v := (1023 : Int32)) (by decide) at_80 (pc' := 83) rfl ?_
      obtain ⟨i220, e220⟩ : ∃ v, p3 &&& (1023 : Int32) = v := ⟨_, rfl⟩
      have f220 : own_I 1023 i220.toInt i220 := own_I.and e220 (by decide)
      have nn220 := own_and_nn (M := 1023) e220 (by decide)
      refine own_iand X0 e220 at_83 (pc' := 84) rfl ?_
      refine own_iconst X0 (v := (1 : Int32)) (by decide) at_84 (pc' := 85) rfl ?_
      obtain ⟨i221, e221⟩ : ∃ v, i220 + (1 : Int32) = v := ⟨_, rfl⟩
      have f222 : own_I 1 (1 : Int) (1 : Int32) := own_I.lit (by decide) (by decide)
      have f221 : own_I 1024 (i220.toInt + (1 : Int)) i221 := f220.add f222 e221 (by decide) (by decide)
      refine own_iadd X0 e221 at_85 (pc' := 86) rfl ?_
      obtain ⟨d223, e223⟩ : ∃ v, FP.i2d i221 = v := ⟨_, rfl⟩
      have f223 : own_D 0 1024 (i220.toInt + (1 : Int)) d223 := own_D.i2d f221 e223
      refine own_i2d X0 e223 at_86 (pc' := 87) rfl ?_
      refine own_ldcD X0 (v := (4877398396442247168 : UInt64)) (hw _ (List.mem_of_getElem? (i := 0) rfl)) at_87 (pc' := 90) rfl ?_
      have f225 : own_D 0 1152921504606846976 (1152921504606846976 : Int) (4877398396442247168 : UInt64) := own_D.lit (s := false) (c := 4503599627370496) (q := 8) (by decide +kernel) (by decide +kernel) (by decide)
      obtain ⟨d224, e224⟩ : ∃ v, FP.ddiv d223 (4877398396442247168 : UInt64) = v := ⟨_, rfl⟩
      have f224 : own_D 60 1024 (i220.toInt + (1 : Int)) d224 := own_D.divp (r := 60) (P := 1152921504606846976) f223 f225 (by decide) e224 (by decide) (by decide) (by decide)
      refine own_ddiv X0 e224 f224.nn at_90 (pc' := 91) rfl ?_
      refine own_dstore X0 (Ls' := #[.val (.int p0), .val (.int p1), .val (.int p2), .val (.int p3), .val (.double (13863909240395005952 : UInt64)), .second, .val (.double d224), .second, .unset, .unset, .unset, .unset, .unset, .unset, .unset]) rfl at_91 (pc' := 93) rfl ?_
      refine own_iloadN X0 rfl at_93 (pc' := 94) rfl ?_
      refine own_iconst X0 (v := (4 : Int32)) (by decide) at_94 (pc' := 95) rfl ?_
      obtain ⟨i226, e226⟩ : ∃ v, p2 &&& (4 : Int32) = v := ⟨_, rfl⟩
      have f226 : own_I 4 i226.toInt i226 := own_I.and e226 (by decide)
      have nn226 := own_and_nn (M := 4) e226 (by decide)
      refine own_iand X0 e226 at_95 (pc' := 96) rfl ?_
      by_cases c227 : i226 = 0
      · -- yes c227
        refine own_ifT X0 (own_z_eq c227).1 at_96 (pc' := 103) (by decide) (by decide) ?_
        refine own_iconst X0 (v := (0 : Int32)) (by decide) at_103 (pc' := 104) rfl ?_
        refine own_istore X0 (Ls' := #[.val (.int p0), .val (.int p1), .val (.int p2), .val (.int p3), .val (.double (13863909240395005952 : UInt64)), .second, .val (.double d224), .second, .val (.int (0 : Int32)), .unset, .unset, .unset, .unset, .unset, .unset]) rfl at_104 (pc' := 106) rfl ?_
        refine own_iload X0 rfl at_106 (pc' := 108) rfl ?_
        refine own_ifT X0 (by decide) at_108 (pc' := 117) (by decide) (by decide) ?_
        refine own_dload X0 rfl at_117 (pc' := 119) rfl ?_
        refine own_dstore X0 (Ls' := #[.val (.int p0), .val (.int p1), .val (.int p2), .val (.int p3), .val (.double (13863909240395005952 : UInt64)), .second, .val (.double d224), .second, .val (.int (0 : Int32)), .val (.double d224), .second, .unset, .unset, .unset, .unset]) rfl at_119 (pc' := 121) rfl ?_
        refine own_iload X0 rfl at_121 (pc' := 123) rfl ?_
        refine own_ifT X0 (by decide) at_123 (pc' := 137) (by decide) (by decide) ?_
        refine own_dload X0 rfl at_137 (pc' := 139) rfl ?_
        refine own_dstore X0 (Ls' := #[.val (.int p0), .val (.int p1), .val (.int p2), .val (.int p3), .val (.double (13863909240395005952 : UInt64)), .second, .val (.double d224), .second, .val (.int (0 : Int32)), .val (.double d224), .second, .val (.double d224), .second, .unset, .unset]) rfl at_139 (pc' := 141) rfl ?_
        refine own_dload X0 rfl at_141 (pc' := 143) rfl ?_
        refine own_dload X0 rfl at_143 (pc' := 145) rfl ?_
        have hp228 : 0 < (i220.toInt + (1 : Int)) ∧ (i220.toInt + (1 : Int)) ≤ 1024 := by omega
        refine own_callS X0 (own_n_t180p l Z a0 hw d224 (i220.toInt + (1 : Int)) _ n0 X0.le f224 hp228) (hw _ (List.mem_of_getElem? (i := 1) rfl)) (hw _ (List.mem_of_getElem? (i := 2) rfl)) (hw _ (List.mem_of_getElem? (i := 3) rfl)) (hw _ (List.mem_of_getElem? (i := 4) rfl)) (by decide) rfl (by decide) (W := 0) (Nat.le_of_eq rfl) (by decide) (cells' := 0) (slots' := 0) rfl rfl (by decide) (by decide) (argsL := [(.double d224), (.double (13863909240395005952 : UInt64))]) (rest := []) (lenOf own_pd0 rfl) rfl rfl at_145 (pc' := 148) rfl ?_
        rintro _ T229 h229 X229 ⟨⟨r229, rfl, fr229⟩, e229⟩
        subst e229
        show own_Goal p e below _ T229 (mkF m 148 #[.val (.int p0), .val (.int p1), .val (.int p2), .val (.int p3), .val (.double (13863909240395005952 : UInt64)), .second, .val (.double d224), .second, .val (.int (0 : Int32)), .val (.double d224), .second, .val (.double d224), .second, .unset, .unset] [(.double r229)])
        refine own_dstore X229 (Ls' := #[.val (.int p0), .val (.int p1), .val (.int p2), .val (.int p3), .val (.double (13863909240395005952 : UInt64)), .second, .val (.double d224), .second, .val (.int (0 : Int32)), .val (.double d224), .second, .val (.double d224), .second, .val (.double r229), .second]) rfl at_148 (pc' := 150) rfl ?_
        refine own_dload X229 rfl at_150 (pc' := 152) rfl ?_
        refine own_dload X229 rfl at_152 (pc' := 154) rfl ?_
        have q230 := f224.of_eq (show (i220.toInt + (1 : Int)) = (i220.toInt + (1 : Int)) by omega)
        refine own_callS X229 (own_same l Z a0 hw r229 d224 (i220.toInt + (1 : Int)) 60 1024 1024 _ n0 X229.le fr229 q230 (fun q => absurd q (by omega))) (hw _ (List.mem_of_getElem? (i := 6) rfl)) (hw _ (List.mem_of_getElem? (i := 7) rfl)) (hw _ (List.mem_of_getElem? (i := 8) rfl)) (hw _ (List.mem_of_getElem? (i := 9) rfl)) (by decide) rfl (by decide) (W := 0) (Nat.le_of_eq rfl) (by decide) (cells' := 0) (slots' := 0) rfl rfl (by decide) (by decide) (argsL := [(.double r229), (.double d224)]) (rest := []) (lenOf own_pd1 rfl) rfl rfl at_154 (pc' := 157) rfl ?_
        rintro _ T231 h231 X231 ⟨rfl, e231⟩
        subst e231
        show own_Goal p e below _ T231 (mkF m 157 #[.val (.int p0), .val (.int p1), .val (.int p2), .val (.int p3), .val (.double (13863909240395005952 : UInt64)), .second, .val (.double d224), .second, .val (.int (0 : Int32)), .val (.double d224), .second, .val (.double d224), .second, .val (.double r229), .second] [(.int (1 : Int32))])
        exact own_retZ X231 (by decide) at_157 rfl (by decide) (by decide) rfl
      · -- no c227
        refine own_ifF X0 (own_z_ne c227).1 at_96 (pc' := 99) rfl ?_
        refine own_iconst X0 (v := (1 : Int32)) (by decide) at_99 (pc' := 100) rfl ?_
        refine own_goto X0 at_100 (pc' := 104) (by decide) (by decide) ?_
        refine own_istore X0 (Ls' := #[.val (.int p0), .val (.int p1), .val (.int p2), .val (.int p3), .val (.double (13863909240395005952 : UInt64)), .second, .val (.double d224), .second, .val (.int (1 : Int32)), .unset, .unset, .unset, .unset, .unset, .unset]) rfl at_104 (pc' := 106) rfl ?_
        refine own_iload X0 rfl at_106 (pc' := 108) rfl ?_
        refine own_ifF X0 (by decide) at_108 (pc' := 111) rfl ?_
        refine own_dload X0 rfl at_111 (pc' := 113) rfl ?_
        obtain ⟨d232, e232⟩ : ∃ v, FP.dneg d224 = v := ⟨_, rfl⟩
        have f232 : own_D 60 1024 (-(i220.toInt + (1 : Int))) d232 := own_D.neg f224 e232
        refine own_dneg X0 e232 at_113 (pc' := 114) rfl ?_
        refine own_goto X0 at_114 (pc' := 119) (by decide) (by decide) ?_
        refine own_dstore X0 (Ls' := #[.val (.int p0), .val (.int p1), .val (.int p2), .val (.int p3), .val (.double (13863909240395005952 : UInt64)), .second, .val (.double d224), .second, .val (.int (1 : Int32)), .val (.double d232), .second, .unset, .unset, .unset, .unset]) rfl at_119 (pc' := 121) rfl ?_
        refine own_iload X0 rfl at_121 (pc' := 123) rfl ?_
        refine own_ifF X0 (by decide) at_123 (pc' := 126) rfl ?_
        refine own_dload X0 rfl at_126 (pc' := 128) rfl ?_
        refine own_dconst0 X0 (v := (0 : UInt64)) rfl at_128 (pc' := 129) rfl ?_
        have f233 : own_D 0 180 (-180 : Int) (13863909240395005952 : UInt64) := own_D.lit (s := true) (c := 6333186975989760) (q := -45) (by decide +kernel) (by decide +kernel) (by decide)
        have f234 : own_D 0 0 (0 : Int) (0 : UInt64) := own_D.lit (s := false) (c := 0) (q := -1074) (by decide +kernel) (by decide +kernel) (by decide)
        refine own_dcmp X0 (f233.cmp f234) at_129 (pc' := 130) rfl ?_
        have c235 : ¬ ((-180 : Int) = (0 : Int)) := by decide
        refine own_ifT X0 (own_c3_ne c235).2 at_130 (pc' := 137) (by decide) (by decide) ?_
        refine own_dload X0 rfl at_137 (pc' := 139) rfl ?_
        refine own_dstore X0 (Ls' := #[.val (.int p0), .val (.int p1), .val (.int p2), .val (.int p3), .val (.double (13863909240395005952 : UInt64)), .second, .val (.double d224), .second, .val (.int (1 : Int32)), .val (.double d232), .second, .val (.double d232), .second, .unset, .unset]) rfl at_139 (pc' := 141) rfl ?_
        refine own_dload X0 rfl at_141 (pc' := 143) rfl ?_
        refine own_dload X0 rfl at_143 (pc' := 145) rfl ?_
        have hp236 : (-(i220.toInt + (1 : Int))) < 0 ∧ -1024 ≤ (-(i220.toInt + (1 : Int))) := by omega
        refine own_callS X0 (own_n_t180n l Z a0 hw d232 (-(i220.toInt + (1 : Int))) _ n0 X0.le f232 hp236) (hw _ (List.mem_of_getElem? (i := 1) rfl)) (hw _ (List.mem_of_getElem? (i := 2) rfl)) (hw _ (List.mem_of_getElem? (i := 3) rfl)) (hw _ (List.mem_of_getElem? (i := 4) rfl)) (by decide) rfl (by decide) (W := 0) (Nat.le_of_eq rfl) (by decide) (cells' := 0) (slots' := 0) rfl rfl (by decide) (by decide) (argsL := [(.double d232), (.double (13863909240395005952 : UInt64))]) (rest := []) (lenOf own_pd0 rfl) rfl rfl at_145 (pc' := 148) rfl ?_
        rintro _ T237 h237 X237 ⟨⟨r237, rfl, fr237⟩, e237⟩
        subst e237
        show own_Goal p e below _ T237 (mkF m 148 #[.val (.int p0), .val (.int p1), .val (.int p2), .val (.int p3), .val (.double (13863909240395005952 : UInt64)), .second, .val (.double d224), .second, .val (.int (1 : Int32)), .val (.double d232), .second, .val (.double d232), .second, .unset, .unset] [(.double r237)])
        refine own_dstore X237 (Ls' := #[.val (.int p0), .val (.int p1), .val (.int p2), .val (.int p3), .val (.double (13863909240395005952 : UInt64)), .second, .val (.double d224), .second, .val (.int (1 : Int32)), .val (.double d232), .second, .val (.double d232), .second, .val (.double r237), .second]) rfl at_148 (pc' := 150) rfl ?_
        refine own_dload X237 rfl at_150 (pc' := 152) rfl ?_
        refine own_dload X237 rfl at_152 (pc' := 154) rfl ?_
        have q238 := f232.of_eq (show (-(i220.toInt + (1 : Int))) = (-(i220.toInt + (1 : Int))) by omega)
        refine own_callS X237 (own_same l Z a0 hw r237 d232 (-(i220.toInt + (1 : Int))) 60 1024 1024 _ n0 X237.le fr237 q238 (fun q => absurd q (by omega))) (hw _ (List.mem_of_getElem? (i := 6) rfl)) (hw _ (List.mem_of_getElem? (i := 7) rfl)) (hw _ (List.mem_of_getElem? (i := 8) rfl)) (hw _ (List.mem_of_getElem? (i := 9) rfl)) (by decide) rfl (by decide) (W := 0) (Nat.le_of_eq rfl) (by decide) (cells' := 0) (slots' := 0) rfl rfl (by decide) (by decide) (argsL := [(.double r237), (.double d232)]) (rest := []) (lenOf own_pd1 rfl) rfl rfl at_154 (pc' := 157) rfl ?_
        rintro _ T239 h239 X239 ⟨rfl, e239⟩
        subst e239
        show own_Goal p e below _ T239 (mkF m 157 #[.val (.int p0), .val (.int p1), .val (.int p2), .val (.int p3), .val (.double (13863909240395005952 : UInt64)), .second, .val (.double d224), .second, .val (.int (1 : Int32)), .val (.double d232), .second, .val (.double d232), .second, .val (.double r237), .second] [(.int (1 : Int32))])
        exact own_retZ X239 (by decide) at_157 rfl (by decide) (by decide) rfl
set_option maxRecDepth 65536 in
set_option maxHeartbeats 40000000 in
theorem comes_1 {Post : Tables → Env → Array Value → State → Outcome → State → Prop} (hpost : ∀ tb e args s v u, (limb_1_1.after args s (.returned v) u = true ∧ limb_1_2.after args s (.returned v) u = true ∧ True) → FrameEnd s (.returned v) u (Jvm.fieldLocs frame_1_writes args s ++ Jvm.arrayLocs frame_1_arrays args s ++ Jvm.staticLocs frame_1_statics s) 0 0 → Post tb e args s (.returned v) u) :
    ArmFor flags0 classFile x code maxLocals ret World_1 tables_1 room_1 Calls_1 rest_1 Pre_1 Post := by
  intro l hfl _ _ p e ha hc hk s m args below hf hA hF happ hP
  obtain ⟨hcalls, hrest, hpre⟩ := hP
  obtain ⟨-, -, -, hnamed, -, -, -, hat⟩ := (Spec.applies_iff hf).mp happ
  obtain ⟨hg, hn⟩ := and_e (Cond.before_iff.mp (show (Jvm.Cond.and given_1 narrow_1).before args s = true from hpre))
  obtain ⟨h1, g0⟩ := and_e hg
  obtain ⟨k0, g1⟩ := and_e g0
  obtain ⟨k1, g2⟩ := and_e g1
  obtain ⟨k2, g3⟩ := and_e g2
  obtain ⟨w0, w1, w2, w3, rfl⟩ : ∃ w0 w1 w2 w3 : Value, args = #[w0, w1, w2, w3] := by
    have hs : args.size = 4 := by simpa [Cond.value, given_1] using h1
    obtain ⟨L⟩ := args
    match L, hs with
    | [w0, w1, w2, w3], _ => exact ⟨w0, w1, w2, w3, rfl⟩
  have hw := fun d (hd : d ∈ tables_1) => atoms_spec (ws := Jvm.Cond.code x code maxLocals ret :: tables_1) hat d (List.mem_cons_of_mem _ hd)
  obtain ⟨p0, e0⟩ := is_v k0
  obtain rfl : w0 = (.int p0) := Option.some.inj e0
  obtain ⟨p1, e1⟩ := is_v k1
  obtain rfl : w1 = (.int p1) := Option.some.inj e1
  obtain ⟨p2, e2⟩ := is_v k2
  obtain rfl : w2 = (.int p2) := Option.some.inj e2
  obtain ⟨p3, e3⟩ := is_v g3
  obtain rfl : w3 = (.int p3) := Option.some.inj e3
  obtain ⟨n, o, h1, h2, h3, _, L, rfl, ⟨⟨rfl, -⟩, N⟩, hq⟩ := own_law l s _ hw tables_1 p0 p1 p2 p3 s.heap s.heap.size (Nat.le_refl _)  p e ha hc hk s m _ below hf ((Spec.applies_iff_loose hf).mp happ).1 ⟨rfl, State.Warmed39.refl s, rfl⟩ trivial
  refine ⟨n, _, h1, h2, h3, hpost _ _ _ _ _ _ ⟨Cond.after_iff.mpr rfl, Cond.after_iff.mpr (eq_i res_at (Term.int_eval (1)) rfl), trivial⟩ ⟨hq.1, hq.2.1, (hq.2.2.sift fun y hy => Or.inr (N y hy)).mono (by decide) (by decide)⟩⟩
theorem main_1_1 : Claimed_1_1 := comes_1 fun _ _ _ _ _ _ h hF => ⟨h.1, hF⟩
theorem main_1_2 : Claimed_1_2 := comes_1 fun _ _ _ _ _ _ h hF => ⟨h.2.1, hF⟩
end Jvm.Pilot.@@N@@
namespace Jvm.Pilot.@@N@@
open Jvm Jvm.ClassFile Sem Op Lib Jvm.Free Jvm.Stand Jvm.Pilot.@@N@@.Jvm.D
/-! MADE BY PROGRAM (witnessworld.py) out of the Statement's table words and the real class files: 9 classes; the members and pool entries that the words name. The judged class is class 1, her method 1. -/
namespace start1
open Jvm.ClassFile
def u (s : String) : CpInfo := .utf8 (stringToUtf16 s)
/-- a pool by its gaps: so many unusable entries, then the entry; so many at the end -/
def gap : Nat → List CpInfo → List CpInfo
  | 0, r => r
  | n + 1, r => .unusable :: gap n r
def poolList (es : List (Nat × CpInfo)) (last : Nat) : List CpInfo := es.foldr (fun e r => gap e.1 (e.2 :: r)) (gap last [])
def pool (es : List (Nat × CpInfo)) (last : Nat) : Array CpInfo := ⟨poolList es last⟩
def fileOf (pool : Array CpInfo) (this : Nat) (attrs : Array Attribute := #[]) (ms : Array MethodInfo := #[]) (fl : Nat := 33) (sup : Nat := 0) (ifs : Array Nat := #[]) (fds : Array FieldInfo := #[]) : ClassFile where
  minorVersion := 0
  majorVersion := 65
  constantPool := pool
  accessFlags := fl
  thisClass := this
  superClass := sup
  interfaces := ifs
  fields := fds
  methods := ms
  attributes := attrs
def plain (name : String) (sup : Option ClassId) : Class where
  name := name
  kind := .ordinary
  loader := none
  accessFlags := 33
  super := sup
  interfaces := #[]
  cf := none
  fields := #[]
  methods := #[]
  instanceTypes := #[]
  staticTypes := #[]
  resolved := #[]
  callSites := []
  init := .initialized
  statics := none
  mirror := none

def pool0 : Array CpInfo := pool [(5, u "<init>"), (0, u "()V"), (1, .class_ 10), (1, u "java/lang/Object")] 113

def k0m0 : Method := { name := "<init>", desc := "()V", sig := { parameters := [], returnType := none }, accessFlags := 1, code := none }
/-- java/lang/Object -/
def k0 : Class := { plain "java/lang/Object" none with
  accessFlags := 33
  interfaces := #[]
  cf := some (fileOf pool0 8 #[] #[{ accessFlags := 1, nameIndex := 5, descriptorIndex := 6, attributes := #[] }] 33 0 #[] #[])
  fields := #[]
  methods := #[k0m0]
  instanceTypes := #[]
  staticTypes := #[]
  resolved := Array.replicate 124 none
  statics := none }

def pool1 : Array CpInfo := pool [(2, .class_ 4), (1, u "java/lang/Object"), (0, u "<init>"), (0, u "()V"), (0, .double 13863909240395005952), (1, .integer 2147483647), (0, .double 4620693217682128896), (1, .double 4645040803167600640), (1, .methodref 15 16), (0, .class_ 17), (0, .nameAndType 18 19), (0, u "com/example/orthodrome/orthodrome/Coordinates"), (0, u "normalized"), (0, u "(DD)D"), (0, .methodref 21 22), (0, .class_ 23), (0, .nameAndType 24 25), (0, u "com/example/orthodrome/orthodrome/CoordinatesNormalizedPinLaw"), (0, u "same"), (0, u "(DD)Z"), (0, .double 4877398396442247168), (3, u "law"), (0, u "(IIII)Z")] 3

def k1m0 : Method := { name := "<init>", desc := "()V", sig := { parameters := [], returnType := none }, accessFlags := 1, code := none }
def k1c1 : Code := { maxStack := 6, maxLocals := 15, code := code, exceptionTable := #[], attributes := #[] }
def k1m1 : Method := { name := "law", desc := "(IIII)Z", sig := { parameters := [.int, .int, .int, .int], returnType := some .boolean }, accessFlags := 9, code := some k1c1 }
def k1c2 : Code := { maxStack := 4, maxLocals := 4, code := method_3_code, exceptionTable := #[], attributes := #[] }
def k1m2 : Method := { name := "same", desc := "(DD)Z", sig := { parameters := [.double, .double], returnType := some .boolean }, accessFlags := 10, code := some k1c2 }
/-- com/example/orthodrome/orthodrome/CoordinatesNormalizedPinLaw -/
def k1 : Class := { plain "com/example/orthodrome/orthodrome/CoordinatesNormalizedPinLaw" (some 0) with
  accessFlags := 49
  interfaces := #[]
  cf := some (fileOf pool1 21 #[] #[{ accessFlags := 1, nameIndex := 5, descriptorIndex := 6, attributes := #[] }, { accessFlags := 9, nameIndex := 30, descriptorIndex := 31, attributes := #[] }, { accessFlags := 10, nameIndex := 24, descriptorIndex := 25, attributes := #[] }] 49 2 #[] #[])
  fields := #[]
  methods := #[k1m0, k1m1, k1m2]
  instanceTypes := #[]
  staticTypes := #[]
  resolved := Array.replicate 35 none
  statics := none }

def pool2 : Array CpInfo := pool [(2, .class_ 4), (1, u "java/lang/Object"), (0, u "<init>"), (0, u "()V"), (9, .class_ 18), (1, u "com/example/orthodrome/orthodrome/Coordinates"), (48, .double 4645040803167600640), (8, u "(DD)D"), (22, u "LATITUDE_RANGE"), (0, u "Ljava/lang/String;"), (3, u "LONGITUDE_RANGE"), (13, u "normalized")] 32

def k2m0 : Method := { name := "<init>", desc := "()V", sig := { parameters := [], returnType := none }, accessFlags := 2, code := none }
def k2c1 : Code := { maxStack := 6, maxLocals := 6, code := prog_3_method_12_code, exceptionTable := #[], attributes := #[] }
def k2m1 : Method := { name := "normalized", desc := "(DD)D", sig := { parameters := [.double, .double], returnType := some .double }, accessFlags := 8, code := some k2c1 }
/-- com/example/orthodrome/orthodrome/Coordinates -/
def k2 : Class := { plain "com/example/orthodrome/orthodrome/Coordinates" (some 0) with
  accessFlags := 49
  interfaces := #[]
  cf := some (fileOf pool2 16 #[] #[{ accessFlags := 2, nameIndex := 5, descriptorIndex := 6, attributes := #[] }, { accessFlags := 8, nameIndex := 118, descriptorIndex := 76, attributes := #[] }] 49 2 #[] #[{ accessFlags := 25, nameIndex := 99, descriptorIndex := 100, attributes := #[] }, { accessFlags := 25, nameIndex := 104, descriptorIndex := 100, attributes := #[] }])
  fields := #[{ name := "LATITUDE_RANGE", type := (.object "java/lang/String"), accessFlags := 25, slot := 0, constantValue := 0 }, { name := "LONGITUDE_RANGE", type := (.object "java/lang/String"), accessFlags := 25, slot := 1, constantValue := 0 }]
  methods := #[k2m0, k2m1]
  instanceTypes := #[]
  staticTypes := #[(.object "java/lang/String"), (.object "java/lang/String")]
  resolved := Array.replicate 151 none
  statics := none }

def pool3 : Array CpInfo := pool [(1, u "java/lang/Cloneable"), (0, .class_ 1), (0, u "java/lang/Object"), (0, .class_ 3)] 3

/-- java/lang/Cloneable -/
def k3 : Class := { plain "java/lang/Cloneable" (some 0) with
  accessFlags := 1537
  interfaces := #[]
  cf := some (fileOf pool3 2 #[] #[] 1537 4 #[] #[])
  fields := #[]
  methods := #[]
  instanceTypes := #[]
  staticTypes := #[]
  resolved := Array.replicate 8 none
  statics := none }

def pool4 : Array CpInfo := pool [(1, u "java/io/Serializable"), (0, .class_ 1), (0, u "java/lang/Object"), (0, .class_ 3)] 3

/-- java/io/Serializable -/
def k4 : Class := { plain "java/io/Serializable" (some 0) with
  accessFlags := 1537
  interfaces := #[]
  cf := some (fileOf pool4 2 #[] #[] 1537 4 #[] #[])
  fields := #[]
  methods := #[]
  instanceTypes := #[]
  staticTypes := #[]
  resolved := Array.replicate 8 none
  statics := none }

/-- the primitive byte -/
def k5 : Class := { plain "byte" none with kind := .primitive 'B', accessFlags := 0x411 }
/-- [B -/
def k6 : Class := { plain "[B" (some 0) with kind := .array 5 .byte, interfaces := #[3, 4], accessFlags := 1041 }

/-- the primitive int -/
def k7 : Class := { plain "int" none with kind := .primitive 'I', accessFlags := 0x411 }
/-- [I -/
def k8 : Class := { plain "[I" (some 0) with kind := .array 7 .int, interfaces := #[3, 4], accessFlags := 1041 }

def heap : Heap := #[]
def classes : Array Class := #[k0, k1, k2, k3, k4, k5, k6, k7, k8]
def interned : List (Array UInt16 × Addr) := []
def slotsUsed : Nat := 0
def theMethod : MethodId := ⟨1, 1⟩
def args0 : Array Value := #[.int 5, .int 6, .int 7, .int 8]
def aboutOver (below : List Frame) : State where
  vm := { classes := classes, interned := interned.toArray }
  heap := heap
  slotsUsed := slotsUsed
  threads := #[{ frames := .invoking theMethod args0 :: below }]
def below0 : List Frame := [.native { method := ⟨0, 0⟩, args := #[] }]
def about1 : State := aboutOver below0
def p0 : Program := .bare "" "" ""
def e0 : Env := launch0.env 0 0 0
theorem w_frames : about1.frames = Frame.invoking theMethod args0 :: below0 := rfl
set_option maxRecDepth 65536 in
theorem w_args : argsFit about1.vm theMethod args0 = true := by decide +kernel
set_option maxRecDepth 65536 in
theorem w_heap : heapFits about1 = true := by decide +kernel
set_option maxRecDepth 65536 in
theorem w_runnable : about1.curStatus? = some .runnable := by decide +kernel
set_option maxRecDepth 65536 in
theorem w_alone : about1.alone = true := by decide +kernel
set_option maxRecDepth 65536 in
theorem w_named : about1.methodNamed? x = some theMethod := by decide +kernel
set_option maxRecDepth 65536 in
theorem w_hears : about1.hears theMethod below0 = true := by decide +kernel
set_option maxRecDepth 65536 in
theorem w_ripe : about1.ripe theMethod args0 below0 = true := by decide +kernel
theorem w_running : about1.status = .running := rfl
set_option maxRecDepth 65536 in
theorem w_room : about1.hasRoom e0.platform room_1 = true :=
  launch0.hasRoom_least _ room_1 (by decide +kernel) (by decide +kernel) (by decide +kernel) (by decide +kernel) (by decide +kernel) (by decide +kernel)
theorem allAtoms_all (ts : List Jvm.Cond) (a : Array Jvm.Value) (st : Jvm.State) : (allAtoms ts).before a st = ts.all (fun c => c.before a st) := by
  induction ts with
  | nil => rfl
  | cons c t ih =>
    show (Jvm.Cond.and c (allAtoms t)).before a st = _
    rw [Jvm.Cond.before_and, ih, List.all_cons]
def words1 : List Jvm.Cond := Jvm.Cond.code x code maxLocals ret :: tables_1
/-- a 'code' word, met by the world's own term for the bytes: nothing is compared byte by byte -/
theorem code_word {y : MethodName} {bytes : ByteArray} {mx : Nat} {rt : Option FieldType} {a : Array Value} {s : State} {m : MethodId} {meth : Method} {c : Code} (h1 : s.methodNamed? y = some m) (h2 : s.vm.method? m = some meth) (h3 : meth.code = some c) (h4 : c.code = bytes)
    (h5 : (c.maxLocals == mx && c.exceptionTable.isEmpty && decide (c.maxStack ≤ mostOperands) && decide (meth.sig.returnType = rt) && !meth.locks && decide (parseMethodDescriptor y.desc = some meth.sig)) = true) : (Jvm.Cond.code y bytes mx rt).before a s = true := by
  simp only [Bool.and_eq_true, beq_iff_eq, Bool.not_eq_true', decide_eq_true_eq] at h5
  obtain ⟨⟨⟨⟨⟨g1, g2⟩, g3⟩, g4⟩, g5⟩, g6⟩ := h5
  simp [Cond.before, Cond.holds, Cond.value, h1, h2, h3, h4, g1, g2, g3, g4, g5, g6]
def isCode : Jvm.Cond → Bool
  | .code _ _ _ _ => true
  | _ => false
theorem all_split {L : List Jvm.Cond} {P : Jvm.Cond → Bool} (h1 : L.all (fun c => isCode c || P c) = true) (h2 : ∀ c ∈ L.filter isCode, P c = true) : L.all P = true := by
  refine List.all_eq_true.mpr fun c hc => ?_
  have h := List.all_eq_true.mp h1 c hc
  rcases Bool.eq_false_or_eq_true (isCode c) with hi | hi
  · exact h2 c (List.mem_filter.mpr ⟨hc, hi⟩)
  · simpa [hi] using h
set_option maxRecDepth 65536 in
theorem w_c0 : (Jvm.Cond.code x code maxLocals ret).before args0 about1 = true := code_word (m := ⟨1, 1⟩) (meth := k1m1) (c := k1c1) (by decide +kernel) rfl rfl rfl (by decide +kernel)
set_option maxRecDepth 65536 in
theorem w_c1 : (Jvm.Cond.code ({ cls := "com/example/orthodrome/orthodrome/Coordinates", name := "normalized", desc := "(DD)D" } : Jvm.MethodName) prog_3_method_12_code (6 : Nat) (Option.some Jvm.ClassFile.FieldType.double)).before args0 about1 = true := code_word (m := ⟨2, 1⟩) (meth := k2m1) (c := k2c1) (by decide +kernel) rfl rfl rfl (by decide +kernel)
set_option maxRecDepth 65536 in
theorem w_c2 : (Jvm.Cond.code ({ cls := "com/example/orthodrome/orthodrome/CoordinatesNormalizedPinLaw", name := "same", desc := "(DD)Z" } : Jvm.MethodName) method_3_code (4 : Nat) (Option.some Jvm.ClassFile.FieldType.boolean)).before args0 about1 = true := code_word (m := ⟨1, 2⟩) (meth := k1m2) (c := k1c2) (by decide +kernel) rfl rfl rfl (by decide +kernel)
def codes1 : List Jvm.Cond := [Jvm.Cond.code x code maxLocals ret, Jvm.Cond.code ({ cls := "com/example/orthodrome/orthodrome/Coordinates", name := "normalized", desc := "(DD)D" } : Jvm.MethodName) prog_3_method_12_code (6 : Nat) (Option.some Jvm.ClassFile.FieldType.double), Jvm.Cond.code ({ cls := "com/example/orthodrome/orthodrome/CoordinatesNormalizedPinLaw", name := "same", desc := "(DD)Z" } : Jvm.MethodName) method_3_code (4 : Nat) (Option.some Jvm.ClassFile.FieldType.boolean)]
set_option maxRecDepth 65536 in
theorem codes_eq : words1.filter isCode = codes1 := rfl
theorem w_codes : ∀ c ∈ words1.filter isCode, c.before args0 about1 = true := by
  rw [codes_eq]
  intro c hc
  simp only [codes1, List.mem_cons, List.not_mem_nil, or_false] at hc
  rcases hc with rfl | rfl | rfl
  · exact w_c0
  · exact w_c1
  · exact w_c2
set_option maxRecDepth 65536 in
theorem w_t1 : words1.all (fun c => isCode c || c.before args0 about1) = true := by decide +kernel
theorem w_tables : (allAtoms (Jvm.Cond.code x code maxLocals ret :: tables_1)).before args0 about1 = true := by
  rw [allAtoms_all]
  show words1.all (fun c => c.before args0 about1) = true
  refine all_split ?_ w_codes
  rw [w_t1]
set_option maxRecDepth 65536 in
theorem w_case : (Jvm.Cond.and given_1 narrow_1).before args0 about1 = true := by decide +kernel
theorem w_applies : (headSpec (Jvm.Cond.code x code maxLocals ret :: tables_1) room_1).applies x e0.platform about1 = true :=
  (Spec.applies_iff w_frames).mpr ⟨w_running, w_runnable, w_alone, w_named, w_hears, w_ripe, w_room, w_tables⟩
theorem atStart : AtStart classFile x code maxLocals ret World_1 tables_1 room_1 Calls_1 rest_1 Pre_1 launch0 p0 e0 about1 theMethod args0 below0 :=
  ⟨lists_1, trivial, launch0.admits_env _ _ _, launch0.least_env, fairChoices_fair.cas, fairChoices_fair.clock, w_frames, w_args, w_heap, w_applies, trivial, trivial, w_case⟩
end start1
theorem witness_1 : WitnessClaimed_1 := ⟨start1.p0, start1.e0, start1.about1, start1.theMethod, start1.args0, start1.below0, start1.atStart⟩
end Jvm.Pilot.@@N@@
