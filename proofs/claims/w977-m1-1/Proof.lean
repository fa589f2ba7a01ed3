import JvmDerived
import JvmDerived.Pilot.@@N@@Statement
import JvmDerived.Pilot.@@N@@Code
set_option linter.unusedVariables false
set_option linter.unusedSimpArgs false
namespace Jvm.Pilot.@@N@@
open Jvm Jvm.ClassFile Sem Op Lib Jvm.Free Jvm.Stand Jvm.LawKit Jvm.RoadKit Bundle Jvm.Pilot.@@N@@.Jvm.D
section OwnWalk
variable {p : Program} {l : Launch} {e : Env} {R : Room} {s : State} {m : MethodId} {args : Array Value} {below : List Frame} {meth : Method} {c : Code} {Z : State} {own : String} {bytes : ByteArray} {ml : Nat} {rt : Option FieldType} {nm : String} {n0 : Nat} {T : State} {h : Heap} {cells slots : Nat} {Q : Option Value → Heap → Prop} {Φ : State → Outcome → Prop} {pc pc' : Nat} {Ls : Array Slot} {rest : List Value} {a0 : Array Value}
/-- where the walk stands: the library's Stand, every place written so far is new (Fr), the heap, and the body's own data -/
def own_St (p : Program) (l : Launch) (e : Env) (R : Room) (s : State) (m : MethodId) (args : Array Value) (below : List Frame) (meth : Method) (c : Code) (Z : State) (own : String) (bytes : ByteArray) (ml : Nat) (rt : Option FieldType) (nm : String) (n0 : Nat) (T : State) (h : Heap) (cells slots : Nat) : Prop :=
  ∃ locs, Stand p l e R s m args below meth c T locs cells slots ∧ Fr n0 locs ∧ T.heap = h ∧ n0 ≤ h.size ∧ p.tables.exec = Jvm.exec ∧ Z.Warmed39 s.vm ∧ s.vm.findClass own = some m.cls ∧ c.code = bytes ∧ c.maxLocals = ml ∧ meth.sig.returnType = rt ∧ meth.locks = false ∧ meth.name = nm
/-- what a return that meets Q leaves -/
def own_Fin (below : List Frame) (s : State) (R : Room) (n0 : Nat) (Q : Option Value → Heap → Prop) : State → Outcome → Prop := fun s₂ o =>
  s₂.status = .running ∧ Ended s₂ below o ∧ ∃ v L, o = .returned v ∧ ((Q v s₂.heap ∧ n0 ≤ s₂.heap.size) ∧ Fr n0 L) ∧ FrameEnd s o s₂ L R.cells R.slots
/-- from frame g over T the run comes to an end that meets Φ -/
def own_Goal (p : Program) (e : Env) (below : List Frame) (Φ : State → Outcome → Prop) (T : State) (g : JFrame) : Prop :=
  ∃ s₂ o, Steps p.tables e below (T.setTop g) s₂ ∧ Φ s₂ o
theorem own_St.le (X : own_St p l e R s m args below meth c Z own bytes ml rt nm n0 T h cells slots) : n0 ≤ h.size := by obtain ⟨_, _, _, _, q, _⟩ := X; exact q
theorem own_step {T' : State} {g g' : JFrame} (f : ∀ t, Steps p.tables e below (T'.setTop g') t → Steps p.tables e below (T.setTop g) t) (k : own_Goal p e below Φ T' g') : own_Goal p e below Φ T g := by
  obtain ⟨s2, o, a, r⟩ := k
  exact ⟨s2, o, f _ a, r⟩
theorem own_cast {g g' : JFrame} (q : g = g') (k : own_Goal p e below Φ T g') : own_Goal p e below Φ T g := q ▸ k
theorem own_pure (X : own_St p l e R s m args below meth c Z own bytes ml rt nm n0 T h cells slots) {g g' : JFrame} (f : ∀ {locs}, Stand p l e R s m args below meth c T locs cells slots → p.tables.exec = Jvm.exec → c.code = bytes → ∀ t, Steps p.tables e below (T.setTop g') t → Steps p.tables e below (T.setTop g) t) (k : own_Goal p e below Φ T g') : own_Goal p e below Φ T g := by
  obtain ⟨locs, X, -, -, -, hx, -, -, hby, -⟩ := X
  exact own_step (f X hx hby) k
theorem own_iconst (X : own_St p l e R s m args below meth c Z own bytes ml rt nm n0 T h cells slots) {i : Int} {v : Int32} (hv : Int32.ofInt i = v) (hd : decode bytes pc = .ok (.iconst i, 1)) (hp : pc + 1 = pc') (k : own_Goal p e below Φ T (mkF m pc' Ls (.int v :: rest))) : own_Goal p e below Φ T (mkF m pc Ls (rest)) := by
  subst hp hv
  exact own_pure X (fun X hx hby _ a => XS.iconst X.here hx rfl (hb hby hd) a) k
theorem own_bipush (X : own_St p l e R s m args below meth c Z own bytes ml rt nm n0 T h cells slots) {i : Int} {v : Int32} (hv : (Int8.ofInt i).toInt32 = v) (hd : decode bytes pc = .ok (.bipush i, 2)) (hp : pc + 2 = pc') (k : own_Goal p e below Φ T (mkF m pc' Ls (.int v :: rest))) : own_Goal p e below Φ T (mkF m pc Ls (rest)) := by
  subst hp hv
  exact own_pure X (fun X hx hby _ a => XS.bipush X.here hx rfl (hb hby hd) a) k
theorem own_sipush (X : own_St p l e R s m args below meth c Z own bytes ml rt nm n0 T h cells slots) {i : Int} {v : Int32} (hv : (Int16.ofInt i).toInt32 = v) (hd : decode bytes pc = .ok (.sipush i, 3)) (hp : pc + 3 = pc') (k : own_Goal p e below Φ T (mkF m pc' Ls (.int v :: rest))) : own_Goal p e below Φ T (mkF m pc Ls (rest)) := by
  subst hp hv
  exact own_pure X (fun X hx hby _ a => XS.sipush X.here hx rfl (hb hby hd) a) k
theorem own_aconst_null (X : own_St p l e R s m args below meth c Z own bytes ml rt nm n0 T h cells slots)  (hd : decode bytes pc = .ok (.aconst_null, 1)) (hp : pc + 1 = pc') (k : own_Goal p e below Φ T (mkF m pc' Ls (.null :: rest))) : own_Goal p e below Φ T (mkF m pc Ls (rest)) := by
  subst hp
  exact own_pure X (fun X hx hby _ a => XS.aconstNull X.here hx rfl (hb hby hd) a) k
theorem own_lconst (X : own_St p l e R s m args below meth c Z own bytes ml rt nm n0 T h cells slots) {k : Fin 2} {v : Int64} (hv : Int64.ofNat k = v) (hd : decode bytes pc = .ok (.lconst k, 1)) (hp : pc + 1 = pc') (k : own_Goal p e below Φ T (mkF m pc' Ls (.long v :: rest))) : own_Goal p e below Φ T (mkF m pc Ls (rest)) := by
  subst hp hv
  exact own_pure X (fun X hx hby _ a => XT.lconst X.here hx rfl (hb hby hd) a) k
theorem own_dconst0 (X : own_St p l e R s m args below meth c Z own bytes ml rt nm n0 T h cells slots) {v : UInt64} (hv : FP.dconst0 = v) (hd : decode bytes pc = .ok (.dconst 0, 1)) (hp : pc + 1 = pc') (k : own_Goal p e below Φ T (mkF m pc' Ls (.double v :: rest))) : own_Goal p e below Φ T (mkF m pc Ls (rest)) := by
  subst hp
  exact own_pure X (fun X hx hby _ a => XS.dconst0 X.here hx rfl (hb hby hd) hv a) k
theorem own_dconst1 (X : own_St p l e R s m args below meth c Z own bytes ml rt nm n0 T h cells slots) {v : UInt64} (hv : FP.dconst1 = v) (hd : decode bytes pc = .ok (.dconst 1, 1)) (hp : pc + 1 = pc') (k : own_Goal p e below Φ T (mkF m pc' Ls (.double v :: rest))) : own_Goal p e below Φ T (mkF m pc Ls (rest)) := by
  subst hp
  exact own_pure X (fun X hx hby _ a => XS.dconst1 X.here hx rfl (hb hby hd) hv a) k
theorem own_iload (X : own_St p l e R s m args below meth c Z own bytes ml rt nm n0 T h cells slots) {k : Nat} {v : Int32} (hl : Ls[k]? = some (.val (.int v))) (hd : decode bytes pc = .ok (.iload k, 2)) (hp : pc + 2 = pc') (k : own_Goal p e below Φ T (mkF m pc' Ls (.int v :: rest))) : own_Goal p e below Φ T (mkF m pc Ls (rest)) := by
  subst hp
  exact own_pure X (fun X hx hby _ a => XS.iload X.here hx rfl (hb hby hd) hl a) k
theorem own_iloadN (X : own_St p l e R s m args below meth c Z own bytes ml rt nm n0 T h cells slots) {k : Fin 4} {v : Int32} (hl : Ls[k.val]? = some (.val (.int v))) (hd : decode bytes pc = .ok (.iload_n k, 1)) (hp : pc + 1 = pc') (k : own_Goal p e below Φ T (mkF m pc' Ls (.int v :: rest))) : own_Goal p e below Φ T (mkF m pc Ls (rest)) := by
  subst hp
  exact own_pure X (fun X hx hby _ a => XS.iloadN X.here hx rfl (hb hby hd) hl a) k
theorem own_istore (X : own_St p l e R s m args below meth c Z own bytes ml rt nm n0 T h cells slots) {k : Nat} {v : Int32} {Ls' : Array Slot} (hl : storeLocals Ls k (.int v) = some Ls') (hd : decode bytes pc = .ok (.istore k, 2)) (hp : pc + 2 = pc') (k : own_Goal p e below Φ T (mkF m pc' Ls' (rest))) : own_Goal p e below Φ T (mkF m pc Ls (.int v :: rest)) := by
  subst hp
  exact own_pure X (fun X hx hby _ a => XS.istore X.here hx rfl (hb hby hd) rfl hl a) k
theorem own_istoreN (X : own_St p l e R s m args below meth c Z own bytes ml rt nm n0 T h cells slots) {k : Fin 4} {v : Int32} {Ls' : Array Slot} (hl : storeLocals Ls k.val (.int v) = some Ls') (hd : decode bytes pc = .ok (.istore_n k, 1)) (hp : pc + 1 = pc') (k : own_Goal p e below Φ T (mkF m pc' Ls' (rest))) : own_Goal p e below Φ T (mkF m pc Ls (.int v :: rest)) := by
  subst hp
  exact own_pure X (fun X hx hby _ a => XS.istoreN X.here hx rfl (hb hby hd) rfl hl a) k
theorem own_lload (X : own_St p l e R s m args below meth c Z own bytes ml rt nm n0 T h cells slots) {k : Nat} {v : Int64} (hl : Ls[k]? = some (.val (.long v))) (hd : decode bytes pc = .ok (.lload k, 2)) (hp : pc + 2 = pc') (k : own_Goal p e below Φ T (mkF m pc' Ls (.long v :: rest))) : own_Goal p e below Φ T (mkF m pc Ls (rest)) := by
  subst hp
  exact own_pure X (fun X hx hby _ a => XT.lload X.here hx rfl (hb hby hd) hl a) k
theorem own_lloadN (X : own_St p l e R s m args below meth c Z own bytes ml rt nm n0 T h cells slots) {k : Fin 4} {v : Int64} (hl : Ls[k.val]? = some (.val (.long v))) (hd : decode bytes pc = .ok (.lload_n k, 1)) (hp : pc + 1 = pc') (k : own_Goal p e below Φ T (mkF m pc' Ls (.long v :: rest))) : own_Goal p e below Φ T (mkF m pc Ls (rest)) := by
  subst hp
  exact own_pure X (fun X hx hby _ a => XT.lloadN X.here hx rfl (hb hby hd) hl a) k
theorem own_lstore (X : own_St p l e R s m args below meth c Z own bytes ml rt nm n0 T h cells slots) {k : Nat} {v : Int64} {Ls' : Array Slot} (hl : storeLocals Ls k (.long v) = some Ls') (hd : decode bytes pc = .ok (.lstore k, 2)) (hp : pc + 2 = pc') (k : own_Goal p e below Φ T (mkF m pc' Ls' (rest))) : own_Goal p e below Φ T (mkF m pc Ls (.long v :: rest)) := by
  subst hp
  exact own_pure X (fun X hx hby _ a => XT.lstore X.here hx rfl (hb hby hd) rfl hl a) k
theorem own_lstoreN (X : own_St p l e R s m args below meth c Z own bytes ml rt nm n0 T h cells slots) {k : Fin 4} {v : Int64} {Ls' : Array Slot} (hl : storeLocals Ls k.val (.long v) = some Ls') (hd : decode bytes pc = .ok (.lstore_n k, 1)) (hp : pc + 1 = pc') (k : own_Goal p e below Φ T (mkF m pc' Ls' (rest))) : own_Goal p e below Φ T (mkF m pc Ls (.long v :: rest)) := by
  subst hp
  exact own_pure X (fun X hx hby _ a => XT.lstoreN X.here hx rfl (hb hby hd) rfl hl a) k
theorem own_dload (X : own_St p l e R s m args below meth c Z own bytes ml rt nm n0 T h cells slots) {k : Nat} {v : UInt64} (hl : Ls[k]? = some (.val (.double v))) (hd : decode bytes pc = .ok (.dload k, 2)) (hp : pc + 2 = pc') (k : own_Goal p e below Φ T (mkF m pc' Ls (.double v :: rest))) : own_Goal p e below Φ T (mkF m pc Ls (rest)) := by
  subst hp
  exact own_pure X (fun X hx hby _ a => XS.dload X.here hx rfl (hb hby hd) hl a) k
theorem own_dloadN (X : own_St p l e R s m args below meth c Z own bytes ml rt nm n0 T h cells slots) {k : Fin 4} {v : UInt64} (hl : Ls[k.val]? = some (.val (.double v))) (hd : decode bytes pc = .ok (.dload_n k, 1)) (hp : pc + 1 = pc') (k : own_Goal p e below Φ T (mkF m pc' Ls (.double v :: rest))) : own_Goal p e below Φ T (mkF m pc Ls (rest)) := by
  subst hp
  exact own_pure X (fun X hx hby _ a => XS.dloadN X.here hx rfl (hb hby hd) hl a) k
theorem own_dstore (X : own_St p l e R s m args below meth c Z own bytes ml rt nm n0 T h cells slots) {k : Nat} {v : UInt64} {Ls' : Array Slot} (hl : storeLocals Ls k (.double v) = some Ls') (hd : decode bytes pc = .ok (.dstore k, 2)) (hp : pc + 2 = pc') (k : own_Goal p e below Φ T (mkF m pc' Ls' (rest))) : own_Goal p e below Φ T (mkF m pc Ls (.double v :: rest)) := by
  subst hp
  exact own_pure X (fun X hx hby _ a => XS.dstore X.here hx rfl (hb hby hd) rfl hl a) k
theorem own_dstoreN (X : own_St p l e R s m args below meth c Z own bytes ml rt nm n0 T h cells slots) {k : Fin 4} {v : UInt64} {Ls' : Array Slot} (hl : storeLocals Ls k.val (.double v) = some Ls') (hd : decode bytes pc = .ok (.dstore_n k, 1)) (hp : pc + 1 = pc') (k : own_Goal p e below Φ T (mkF m pc' Ls' (rest))) : own_Goal p e below Φ T (mkF m pc Ls (.double v :: rest)) := by
  subst hp
  exact own_pure X (fun X hx hby _ a => XS.dstoreN X.here hx rfl (hb hby hd) rfl hl a) k
theorem own_aload (X : own_St p l e R s m args below meth c Z own bytes ml rt nm n0 T h cells slots) {k : Nat} {v : Value} (hl : Ls[k]? = some (.val v)) (hv : v.isRef = true) (hd : decode bytes pc = .ok (.aload k, 2)) (hp : pc + 2 = pc') (k : own_Goal p e below Φ T (mkF m pc' Ls (v :: rest))) : own_Goal p e below Φ T (mkF m pc Ls (rest)) := by
  subst hp
  exact own_pure X (fun X hx hby _ a => XS.aload X.here hx rfl (hb hby hd) hl hv a) k
theorem own_aloadN (X : own_St p l e R s m args below meth c Z own bytes ml rt nm n0 T h cells slots) {k : Fin 4} {v : Value} (hl : Ls[k.val]? = some (.val v)) (hv : v.isRef = true) (hd : decode bytes pc = .ok (.aload_n k, 1)) (hp : pc + 1 = pc') (k : own_Goal p e below Φ T (mkF m pc' Ls (v :: rest))) : own_Goal p e below Φ T (mkF m pc Ls (rest)) := by
  subst hp
  exact own_pure X (fun X hx hby _ a => XS.aloadN X.here hx rfl (hb hby hd) hl hv a) k
theorem own_astore (X : own_St p l e R s m args below meth c Z own bytes ml rt nm n0 T h cells slots) {k : Nat} {v : Value} {Ls' : Array Slot} (hl : storeLocals Ls k v = some Ls') (hv : v.isRef = true) (hd : decode bytes pc = .ok (.astore k, 2)) (hp : pc + 2 = pc') (k : own_Goal p e below Φ T (mkF m pc' Ls' (rest))) : own_Goal p e below Φ T (mkF m pc Ls (v :: rest)) := by
  subst hp
  exact own_pure X (fun X hx hby _ a => XS.astore X.here hx rfl (hb hby hd) rfl hv hl a) k
theorem own_astoreN (X : own_St p l e R s m args below meth c Z own bytes ml rt nm n0 T h cells slots) {k : Fin 4} {v : Value} {Ls' : Array Slot} (hl : storeLocals Ls k.val v = some Ls') (hv : v.isRef = true) (hd : decode bytes pc = .ok (.astore_n k, 1)) (hp : pc + 1 = pc') (k : own_Goal p e below Φ T (mkF m pc' Ls' (rest))) : own_Goal p e below Φ T (mkF m pc Ls (v :: rest)) := by
  subst hp
  exact own_pure X (fun X hx hby _ a => XS.astoreN X.here hx rfl (hb hby hd) rfl hv hl a) k
theorem own_iinc (X : own_St p l e R s m args below meth c Z own bytes ml rt nm n0 T h cells slots) {k : Nat} {i : Int} {x v : Int32} {Ls' : Array Slot} (hl : Ls[k]? = some (.val (.int x))) (hv : x + Int32.ofInt i = v) (hl' : storeLocals Ls k (.int v) = some Ls') (hd : decode bytes pc = .ok (.iinc k i, 3)) (hp : pc + 3 = pc') (k : own_Goal p e below Φ T (mkF m pc' Ls' (rest))) : own_Goal p e below Φ T (mkF m pc Ls (rest)) := by
  subst hp hv
  exact own_pure X (fun X hx hby _ a => XS.iinc X.here hx rfl (hb hby hd) hl hl' a) k
theorem own_iadd (X : own_St p l e R s m args below meth c Z own bytes ml rt nm n0 T h cells slots) {x y v : Int32} (hv : x + y = v) (hd : decode bytes pc = .ok (.iadd, 1)) (hp : pc + 1 = pc') (k : own_Goal p e below Φ T (mkF m pc' Ls (.int v :: rest))) : own_Goal p e below Φ T (mkF m pc Ls (.int y :: .int x :: rest)) := by
  subst hp hv
  exact own_pure X (fun X hx hby _ a => XS.iadd X.here hx rfl (hb hby hd) rfl a) k
theorem own_isub (X : own_St p l e R s m args below meth c Z own bytes ml rt nm n0 T h cells slots) {x y v : Int32} (hv : x - y = v) (hd : decode bytes pc = .ok (.isub, 1)) (hp : pc + 1 = pc') (k : own_Goal p e below Φ T (mkF m pc' Ls (.int v :: rest))) : own_Goal p e below Φ T (mkF m pc Ls (.int y :: .int x :: rest)) := by
  subst hp hv
  exact own_pure X (fun X hx hby _ a => XS.isub X.here hx rfl (hb hby hd) rfl a) k
theorem own_imul (X : own_St p l e R s m args below meth c Z own bytes ml rt nm n0 T h cells slots) {x y v : Int32} (hv : x * y = v) (hd : decode bytes pc = .ok (.imul, 1)) (hp : pc + 1 = pc') (k : own_Goal p e below Φ T (mkF m pc' Ls (.int v :: rest))) : own_Goal p e below Φ T (mkF m pc Ls (.int y :: .int x :: rest)) := by
  subst hp hv
  exact own_pure X (fun X hx hby _ a => XS.imul X.here hx rfl (hb hby hd) rfl a) k
theorem own_iand (X : own_St p l e R s m args below meth c Z own bytes ml rt nm n0 T h cells slots) {x y v : Int32} (hv : x &&& y = v) (hd : decode bytes pc = .ok (.iand, 1)) (hp : pc + 1 = pc') (k : own_Goal p e below Φ T (mkF m pc' Ls (.int v :: rest))) : own_Goal p e below Φ T (mkF m pc Ls (.int y :: .int x :: rest)) := by
  subst hp hv
  exact own_pure X (fun X hx hby _ a => XS.iand X.here hx rfl (hb hby hd) rfl a) k
theorem own_ior (X : own_St p l e R s m args below meth c Z own bytes ml rt nm n0 T h cells slots) {x y v : Int32} (hv : x ||| y = v) (hd : decode bytes pc = .ok (.ior, 1)) (hp : pc + 1 = pc') (k : own_Goal p e below Φ T (mkF m pc' Ls (.int v :: rest))) : own_Goal p e below Φ T (mkF m pc Ls (.int y :: .int x :: rest)) := by
  subst hp hv
  exact own_pure X (fun X hx hby _ a => XT.ior X.here hx rfl (hb hby hd) rfl a) k
theorem own_ixor (X : own_St p l e R s m args below meth c Z own bytes ml rt nm n0 T h cells slots) {x y v : Int32} (hv : x ^^^ y = v) (hd : decode bytes pc = .ok (.ixor, 1)) (hp : pc + 1 = pc') (k : own_Goal p e below Φ T (mkF m pc' Ls (.int v :: rest))) : own_Goal p e below Φ T (mkF m pc Ls (.int y :: .int x :: rest)) := by
  subst hp hv
  exact own_pure X (fun X hx hby _ a => XT.ixor X.here hx rfl (hb hby hd) rfl a) k
theorem own_ishl (X : own_St p l e R s m args below meth c Z own bytes ml rt nm n0 T h cells slots) {x y v : Int32} (hv : x <<< (y &&& 31) = v) (hd : decode bytes pc = .ok (.ishl, 1)) (hp : pc + 1 = pc') (k : own_Goal p e below Φ T (mkF m pc' Ls (.int v :: rest))) : own_Goal p e below Φ T (mkF m pc Ls (.int y :: .int x :: rest)) := by
  subst hp hv
  exact own_pure X (fun X hx hby _ a => XT.ishl X.here hx rfl (hb hby hd) rfl a) k
theorem own_ishr (X : own_St p l e R s m args below meth c Z own bytes ml rt nm n0 T h cells slots) {x y v : Int32} (hv : x >>> (y &&& 31) = v) (hd : decode bytes pc = .ok (.ishr, 1)) (hp : pc + 1 = pc') (k : own_Goal p e below Φ T (mkF m pc' Ls (.int v :: rest))) : own_Goal p e below Φ T (mkF m pc Ls (.int y :: .int x :: rest)) := by
  subst hp hv
  exact own_pure X (fun X hx hby _ a => XT.ishr X.here hx rfl (hb hby hd) rfl a) k
theorem own_iushr (X : own_St p l e R s m args below meth c Z own bytes ml rt nm n0 T h cells slots) {x y v : Int32} (hv : XT.ushr x y = v) (hd : decode bytes pc = .ok (.iushr, 1)) (hp : pc + 1 = pc') (k : own_Goal p e below Φ T (mkF m pc' Ls (.int v :: rest))) : own_Goal p e below Φ T (mkF m pc Ls (.int y :: .int x :: rest)) := by
  subst hp hv
  exact own_pure X (fun X hx hby _ a => XT.iushr X.here hx rfl (hb hby hd) rfl a) k
theorem own_irem (X : own_St p l e R s m args below meth c Z own bytes ml rt nm n0 T h cells slots) {x y v : Int32} (hy : y ≠ 0) (hv : x % y = v) (hd : decode bytes pc = .ok (.irem, 1)) (hp : pc + 1 = pc') (k : own_Goal p e below Φ T (mkF m pc' Ls (.int v :: rest))) : own_Goal p e below Φ T (mkF m pc Ls (.int y :: .int x :: rest)) := by
  subst hp hv
  exact own_pure X (fun X hx hby _ a => iremM X hx rfl (hb hby hd) rfl hy a) k
theorem own_ineg (X : own_St p l e R s m args below meth c Z own bytes ml rt nm n0 T h cells slots) {x v : Int32} (hv : -x = v) (hd : decode bytes pc = .ok (.ineg, 1)) (hp : pc + 1 = pc') (k : own_Goal p e below Φ T (mkF m pc' Ls (.int v :: rest))) : own_Goal p e below Φ T (mkF m pc Ls (.int x :: rest)) := by
  subst hp hv
  exact own_pure X (fun X hx hby _ a => XS.ineg X.here hx rfl (hb hby hd) rfl a) k
theorem own_ladd (X : own_St p l e R s m args below meth c Z own bytes ml rt nm n0 T h cells slots) {x y v : Int64} (hv : x + y = v) (hd : decode bytes pc = .ok (.ladd, 1)) (hp : pc + 1 = pc') (k : own_Goal p e below Φ T (mkF m pc' Ls (.long v :: rest))) : own_Goal p e below Φ T (mkF m pc Ls (.long y :: .long x :: rest)) := by
  subst hp hv
  exact own_pure X (fun X hx hby _ a => XT.ladd X.here hx rfl (hb hby hd) rfl a) k
theorem own_lsub (X : own_St p l e R s m args below meth c Z own bytes ml rt nm n0 T h cells slots) {x y v : Int64} (hv : x - y = v) (hd : decode bytes pc = .ok (.lsub, 1)) (hp : pc + 1 = pc') (k : own_Goal p e below Φ T (mkF m pc' Ls (.long v :: rest))) : own_Goal p e below Φ T (mkF m pc Ls (.long y :: .long x :: rest)) := by
  subst hp hv
  exact own_pure X (fun X hx hby _ a => XT.lsub X.here hx rfl (hb hby hd) rfl a) k
theorem own_lmul (X : own_St p l e R s m args below meth c Z own bytes ml rt nm n0 T h cells slots) {x y v : Int64} (hv : x * y = v) (hd : decode bytes pc = .ok (.lmul, 1)) (hp : pc + 1 = pc') (k : own_Goal p e below Φ T (mkF m pc' Ls (.long v :: rest))) : own_Goal p e below Φ T (mkF m pc Ls (.long y :: .long x :: rest)) := by
  subst hp hv
  exact own_pure X (fun X hx hby _ a => XT.lmul X.here hx rfl (hb hby hd) rfl a) k
theorem own_land (X : own_St p l e R s m args below meth c Z own bytes ml rt nm n0 T h cells slots) {x y v : Int64} (hv : x &&& y = v) (hd : decode bytes pc = .ok (.land, 1)) (hp : pc + 1 = pc') (k : own_Goal p e below Φ T (mkF m pc' Ls (.long v :: rest))) : own_Goal p e below Φ T (mkF m pc Ls (.long y :: .long x :: rest)) := by
  subst hp hv
  exact own_pure X (fun X hx hby _ a => XT.land X.here hx rfl (hb hby hd) rfl a) k
theorem own_lor (X : own_St p l e R s m args below meth c Z own bytes ml rt nm n0 T h cells slots) {x y v : Int64} (hv : x ||| y = v) (hd : decode bytes pc = .ok (.lor, 1)) (hp : pc + 1 = pc') (k : own_Goal p e below Φ T (mkF m pc' Ls (.long v :: rest))) : own_Goal p e below Φ T (mkF m pc Ls (.long y :: .long x :: rest)) := by
  subst hp hv
  exact own_pure X (fun X hx hby _ a => XT.lor X.here hx rfl (hb hby hd) rfl a) k
theorem own_ldiv (X : own_St p l e R s m args below meth c Z own bytes ml rt nm n0 T h cells slots) {x y v : Int64} (hy : y ≠ 0) (hv : x / y = v) (hd : decode bytes pc = .ok (.ldiv, 1)) (hp : pc + 1 = pc') (k : own_Goal p e below Φ T (mkF m pc' Ls (.long v :: rest))) : own_Goal p e below Φ T (mkF m pc Ls (.long y :: .long x :: rest)) := by
  subst hp hv
  exact own_pure X (fun X hx hby _ a => XT.ldiv X.here hx rfl (hb hby hd) rfl hy a) k
theorem own_lrem (X : own_St p l e R s m args below meth c Z own bytes ml rt nm n0 T h cells slots) {x y v : Int64} (hy : y ≠ 0) (hv : x - (x / y) * y = v) (hd : decode bytes pc = .ok (.lrem, 1)) (hp : pc + 1 = pc') (k : own_Goal p e below Φ T (mkF m pc' Ls (.long v :: rest))) : own_Goal p e below Φ T (mkF m pc Ls (.long y :: .long x :: rest)) := by
  subst hp hv
  exact own_pure X (fun X hx hby _ a => XT.lrem X.here hx rfl (hb hby hd) rfl hy a) k
theorem own_lneg (X : own_St p l e R s m args below meth c Z own bytes ml rt nm n0 T h cells slots) {x v : Int64} (hv : -x = v) (hd : decode bytes pc = .ok (.lneg, 1)) (hp : pc + 1 = pc') (k : own_Goal p e below Φ T (mkF m pc' Ls (.long v :: rest))) : own_Goal p e below Φ T (mkF m pc Ls (.long x :: rest)) := by
  subst hp hv
  exact own_pure X (fun X hx hby _ a => XT.lneg X.here hx rfl (hb hby hd) rfl a) k
theorem own_lshl (X : own_St p l e R s m args below meth c Z own bytes ml rt nm n0 T h cells slots) {x v : Int64} {y : Int32} (hv : x <<< (y.toInt64 &&& 63) = v) (hd : decode bytes pc = .ok (.lshl, 1)) (hp : pc + 1 = pc') (k : own_Goal p e below Φ T (mkF m pc' Ls (.long v :: rest))) : own_Goal p e below Φ T (mkF m pc Ls (.int y :: .long x :: rest)) := by
  subst hp hv
  exact own_pure X (fun X hx hby _ a => XT.lshl X.here hx rfl (hb hby hd) rfl a) k
theorem own_lcmp (X : own_St p l e R s m args below meth c Z own bytes ml rt nm n0 T h cells slots) {x y : Int64} {v : Int32} (hv : XT.cmpL x y = v) (hd : decode bytes pc = .ok (.lcmp, 1)) (hp : pc + 1 = pc') (k : own_Goal p e below Φ T (mkF m pc' Ls (.int v :: rest))) : own_Goal p e below Φ T (mkF m pc Ls (.long y :: .long x :: rest)) := by
  subst hp hv
  exact own_pure X (fun X hx hby _ a => XT.lcmp X.here hx rfl (hb hby hd) rfl a) k
theorem own_i2l (X : own_St p l e R s m args below meth c Z own bytes ml rt nm n0 T h cells slots) {x : Int32} {v : Int64} (hv : x.toInt64 = v) (hd : decode bytes pc = .ok (.i2l, 1)) (hp : pc + 1 = pc') (k : own_Goal p e below Φ T (mkF m pc' Ls (.long v :: rest))) : own_Goal p e below Φ T (mkF m pc Ls (.int x :: rest)) := by
  subst hp hv
  exact own_pure X (fun X hx hby _ a => XT.i2l X.here hx rfl (hb hby hd) rfl a) k
theorem own_l2i (X : own_St p l e R s m args below meth c Z own bytes ml rt nm n0 T h cells slots) {x : Int64} {v : Int32} (hv : x.toInt32 = v) (hd : decode bytes pc = .ok (.l2i, 1)) (hp : pc + 1 = pc') (k : own_Goal p e below Φ T (mkF m pc' Ls (.int v :: rest))) : own_Goal p e below Φ T (mkF m pc Ls (.long x :: rest)) := by
  subst hp hv
  exact own_pure X (fun X hx hby _ a => XT.l2i X.here hx rfl (hb hby hd) rfl a) k
theorem own_i2c (X : own_St p l e R s m args below meth c Z own bytes ml rt nm n0 T h cells slots) {x v : Int32} (hv : x.toUInt32.toUInt16.toUInt32.toInt32 = v) (hd : decode bytes pc = .ok (.i2c, 1)) (hp : pc + 1 = pc') (k : own_Goal p e below Φ T (mkF m pc' Ls (.int v :: rest))) : own_Goal p e below Φ T (mkF m pc Ls (.int x :: rest)) := by
  subst hp hv
  exact own_pure X (fun X hx hby _ a => XT.i2c X.here hx rfl (hb hby hd) rfl a) k
theorem own_i2d (X : own_St p l e R s m args below meth c Z own bytes ml rt nm n0 T h cells slots) {x : Int32} {v : UInt64} (hv : FP.i2d x = v) (hd : decode bytes pc = .ok (.i2d, 1)) (hp : pc + 1 = pc') (k : own_Goal p e below Φ T (mkF m pc' Ls (.double v :: rest))) : own_Goal p e below Φ T (mkF m pc Ls (.int x :: rest)) := by
  subst hp
  exact own_pure X (fun X hx hby _ a => XS.i2dS X.here hx rfl (hb hby hd) rfl hv a) k
theorem own_l2d (X : own_St p l e R s m args below meth c Z own bytes ml rt nm n0 T h cells slots) {x : Int64} {v : UInt64} (hv : FP.l2d x = v) (hd : decode bytes pc = .ok (.l2d, 1)) (hp : pc + 1 = pc') (k : own_Goal p e below Φ T (mkF m pc' Ls (.double v :: rest))) : own_Goal p e below Φ T (mkF m pc Ls (.long x :: rest)) := by
  subst hp
  exact own_pure X (fun X hx hby _ a => XS.l2dS X.here hx rfl (hb hby hd) rfl hv a) k
theorem own_dadd (X : own_St p l e R s m args below meth c Z own bytes ml rt nm n0 T h cells slots) {x y v : UInt64} (hv : FP.dadd x y = v) (hn : Jvm.Free.Fl.NoNaN64 v) (hd : decode bytes pc = .ok (.dadd, 1)) (hp : pc + 1 = pc') (k : own_Goal p e below Φ T (mkF m pc' Ls (.double v :: rest))) : own_Goal p e below Φ T (mkF m pc Ls (.double y :: .double x :: rest)) := by
  subst hp
  exact own_pure X (fun X hx hby _ a => XS.daddS X.here hx rfl (hb hby hd) rfl (by rw [hv]; exact hn) hv a) k
theorem own_dsub (X : own_St p l e R s m args below meth c Z own bytes ml rt nm n0 T h cells slots) {x y v : UInt64} (hv : FP.dsub x y = v) (hn : Jvm.Free.Fl.NoNaN64 v) (hd : decode bytes pc = .ok (.dsub, 1)) (hp : pc + 1 = pc') (k : own_Goal p e below Φ T (mkF m pc' Ls (.double v :: rest))) : own_Goal p e below Φ T (mkF m pc Ls (.double y :: .double x :: rest)) := by
  subst hp
  exact own_pure X (fun X hx hby _ a => XS.dsubS X.here hx rfl (hb hby hd) rfl (by rw [hv]; exact hn) hv a) k
theorem own_dmul (X : own_St p l e R s m args below meth c Z own bytes ml rt nm n0 T h cells slots) {x y v : UInt64} (hv : FP.dmul x y = v) (hn : Jvm.Free.Fl.NoNaN64 v) (hd : decode bytes pc = .ok (.dmul, 1)) (hp : pc + 1 = pc') (k : own_Goal p e below Φ T (mkF m pc' Ls (.double v :: rest))) : own_Goal p e below Φ T (mkF m pc Ls (.double y :: .double x :: rest)) := by
  subst hp
  exact own_pure X (fun X hx hby _ a => XS.dmulS X.here hx rfl (hb hby hd) rfl (by rw [hv]; exact hn) hv a) k
theorem own_ddiv (X : own_St p l e R s m args below meth c Z own bytes ml rt nm n0 T h cells slots) {x y v : UInt64} (hv : FP.ddiv x y = v) (hn : Jvm.Free.Fl.NoNaN64 v) (hd : decode bytes pc = .ok (.ddiv, 1)) (hp : pc + 1 = pc') (k : own_Goal p e below Φ T (mkF m pc' Ls (.double v :: rest))) : own_Goal p e below Φ T (mkF m pc Ls (.double y :: .double x :: rest)) := by
  subst hp
  exact own_pure X (fun X hx hby _ a => XS.ddivS X.here hx rfl (hb hby hd) rfl (by rw [hv]; exact hn) hv a) k
theorem own_dneg (X : own_St p l e R s m args below meth c Z own bytes ml rt nm n0 T h cells slots) {x v : UInt64} (hv : FP.dneg x = v) (hd : decode bytes pc = .ok (.dneg, 1)) (hp : pc + 1 = pc') (k : own_Goal p e below Φ T (mkF m pc' Ls (.double v :: rest))) : own_Goal p e below Φ T (mkF m pc Ls (.double x :: rest)) := by
  subst hp
  exact own_pure X (fun X hx hby _ a => XS.dnegS X.here hx rfl (hb hby hd) rfl hv a) k
theorem own_dcmp (X : own_St p l e R s m args below meth c Z own bytes ml rt nm n0 T h cells slots) {o : CmpOp} {x y : UInt64} {v : Int32} (hv : cmpValue (FP.dcmp x y) o = v) (hd : decode bytes pc = .ok (.dcmp o, 1)) (hp : pc + 1 = pc') (k : own_Goal p e below Φ T (mkF m pc' Ls (.int v :: rest))) : own_Goal p e below Φ T (mkF m pc Ls (.double y :: .double x :: rest)) := by
  subst hp
  exact own_pure X (fun X hx hby _ a => XS.dcmpS X.here hx rfl (hb hby hd) rfl hv a) k
theorem own_dremS {tb : Tables} [Ours tb] {e : Env} {below : List Frame} {T target : State} {m : MethodId} {c : Code} {g : JFrame} (h : At T m c below) (hx : tb.exec = Jvm.exec) (hg : g.method = m) {x y v : UInt64} {rest : List Value} (hd : decode c.code g.pc = .ok (.drem, 1)) (hs : g.stack = .double y :: .double x :: rest) (hn : Jvm.Free.Fl.NoNaN64 (FP.drem x y)) (hv : FP.drem x y = v)
    (hr : Steps tb e below (T.setTop { g with pc := g.pc + 1, stack := .double v :: rest }) target) : Steps tb e below (T.setTop g) target := by
  subst hg
  subst hv
  obtain ⟨gm, gp, gl, gs, gk, ge, gr⟩ := g
  simp only at hs hd
  subst hs
  jvm_step h [h.top, hx, hd, Op.drem.at_number h.top hn]
  exact hr
theorem own_drem (X : own_St p l e R s m args below meth c Z own bytes ml rt nm n0 T h cells slots) {x y v : UInt64} (hv : FP.drem x y = v) (hn : Jvm.Free.Fl.NoNaN64 v) (hd : decode bytes pc = .ok (.drem, 1)) (hp : pc + 1 = pc') (k : own_Goal p e below Φ T (mkF m pc' Ls (.double v :: rest))) : own_Goal p e below Φ T (mkF m pc Ls (.double y :: .double x :: rest)) := by
  subst hp
  exact own_pure X (fun X hx hby _ a => own_dremS X.here hx rfl (hb hby hd) rfl (by rw [hv]; exact hn) hv a) k
theorem own_dup (X : own_St p l e R s m args below meth c Z own bytes ml rt nm n0 T h cells slots) {x : Value} (hc : x.category = 1) (hd : decode bytes pc = .ok (.dup, 1)) (hp : pc + 1 = pc') (k : own_Goal p e below Φ T (mkF m pc' Ls (x :: x :: rest))) : own_Goal p e below Φ T (mkF m pc Ls (x :: rest)) := by
  subst hp
  exact own_pure X (fun X hx hby _ a => XS.dup X.here hx rfl (hb hby hd) rfl hc a) k
theorem own_dup2 (X : own_St p l e R s m args below meth c Z own bytes ml rt nm n0 T h cells slots) {x y : Value} (hc : x.category = 1) (hc' : y.category = 1) (hd : decode bytes pc = .ok (.dup2, 1)) (hp : pc + 1 = pc') (k : own_Goal p e below Φ T (mkF m pc' Ls (x :: y :: x :: y :: rest))) : own_Goal p e below Φ T (mkF m pc Ls (x :: y :: rest)) := by
  subst hp
  exact own_pure X (fun X hx hby _ a => XT.dup2 X.here hx rfl (hb hby hd) rfl hc hc' a) k
theorem own_pop (X : own_St p l e R s m args below meth c Z own bytes ml rt nm n0 T h cells slots) {x : Value} (hc : x.category = 1) (hd : decode bytes pc = .ok (.pop, 1)) (hp : pc + 1 = pc') (k : own_Goal p e below Φ T (mkF m pc' Ls (rest))) : own_Goal p e below Φ T (mkF m pc Ls (x :: rest)) := by
  subst hp
  exact own_pure X (fun X hx hby _ a => XT.pop X.here hx rfl (hb hby hd) rfl hc a) k
theorem own_goto (X : own_St p l e R s m args below meth c Z own bytes ml rt nm n0 T h cells slots) {o : Int}  (hd : decode bytes pc = .ok (.goto o, 3)) (ho : 0 ≤ (pc : Int) + o) (hp : ((pc : Int) + o).toNat = pc') (k : own_Goal p e below Φ T (mkF m pc' Ls rest)) : own_Goal p e below Φ T (mkF m pc Ls (rest)) := by
  exact own_pure X (fun X hx hby _ a => XS.goto X.here hx rfl rfl (hb hby hd) ho hp a) k
theorem own_ifT (X : own_St p l e R s m args below meth c Z own bytes ml rt nm n0 T h cells slots) {o : Int} {cd : ClassFile.Cond} {x : Int32} (hc : ifCond.holds cd x = true) (hd : decode bytes pc = .ok (.ifCond cd o, 3)) (ho : 0 ≤ (pc : Int) + o) (hp : ((pc : Int) + o).toNat = pc') (k : own_Goal p e below Φ T (mkF m pc' Ls rest)) : own_Goal p e below Φ T (mkF m pc Ls (.int x :: rest)) := by
  exact own_pure X (fun X hx hby _ a => XS.ifYes X.here hx rfl rfl (hb hby hd) rfl hc ho hp a) k
theorem own_ifF (X : own_St p l e R s m args below meth c Z own bytes ml rt nm n0 T h cells slots) {o : Int} {cd : ClassFile.Cond} {x : Int32} (hc : ifCond.holds cd x = false) (hd : decode bytes pc = .ok (.ifCond cd o, 3)) (hp : pc + 3 = pc') (k : own_Goal p e below Φ T (mkF m pc' Ls rest)) : own_Goal p e below Φ T (mkF m pc Ls (.int x :: rest)) := by
  subst hp
  exact own_pure X (fun X hx hby _ a => XS.ifNo X.here hx rfl (hb hby hd) rfl hc a) k
theorem own_icmpT (X : own_St p l e R s m args below meth c Z own bytes ml rt nm n0 T h cells slots) {o : Int} {cd : ClassFile.Cond} {x y : Int32} (hc : if_icmp.holds cd x y = true) (hd : decode bytes pc = .ok (.if_icmp cd o, 3)) (ho : 0 ≤ (pc : Int) + o) (hp : ((pc : Int) + o).toNat = pc') (k : own_Goal p e below Φ T (mkF m pc' Ls rest)) : own_Goal p e below Φ T (mkF m pc Ls (.int y :: .int x :: rest)) := by
  exact own_pure X (fun X hx hby _ a => XS.icmpYes X.here hx rfl rfl (hb hby hd) rfl hc ho hp a) k
theorem own_icmpF (X : own_St p l e R s m args below meth c Z own bytes ml rt nm n0 T h cells slots) {o : Int} {cd : ClassFile.Cond} {x y : Int32} (hc : if_icmp.holds cd x y = false) (hd : decode bytes pc = .ok (.if_icmp cd o, 3)) (hp : pc + 3 = pc') (k : own_Goal p e below Φ T (mkF m pc' Ls rest)) : own_Goal p e below Φ T (mkF m pc Ls (.int y :: .int x :: rest)) := by
  subst hp
  exact own_pure X (fun X hx hby _ a => XS.icmpNo X.here hx rfl (hb hby hd) rfl hc a) k
theorem own_ifnullT (X : own_St p l e R s m args below meth c Z own bytes ml rt nm n0 T h cells slots) {o : Int}  (hd : decode bytes pc = .ok (.ifnull o, 3)) (ho : 0 ≤ (pc : Int) + o) (hp : ((pc : Int) + o).toNat = pc') (k : own_Goal p e below Φ T (mkF m pc' Ls rest)) : own_Goal p e below Φ T (mkF m pc Ls (.null :: rest)) := by
  exact own_pure X (fun X hx hby _ a => XS.ifnullYes X.here hx rfl rfl (hb hby hd) rfl ho hp a) k
theorem own_ifnullF (X : own_St p l e R s m args below meth c Z own bytes ml rt nm n0 T h cells slots) {o : Int} {b : Addr} (hd : decode bytes pc = .ok (.ifnull o, 3)) (hp : pc + 3 = pc') (k : own_Goal p e below Φ T (mkF m pc' Ls rest)) : own_Goal p e below Φ T (mkF m pc Ls (.ref b :: rest)) := by
  subst hp
  exact own_pure X (fun X hx hby _ a => XS.ifnullNo X.here hx rfl (hb hby hd) rfl a) k
theorem own_ifnonnullT (X : own_St p l e R s m args below meth c Z own bytes ml rt nm n0 T h cells slots) {o : Int} {b : Addr} (hd : decode bytes pc = .ok (.ifnonnull o, 3)) (ho : 0 ≤ (pc : Int) + o) (hp : ((pc : Int) + o).toNat = pc') (k : own_Goal p e below Φ T (mkF m pc' Ls rest)) : own_Goal p e below Φ T (mkF m pc Ls (.ref b :: rest)) := by
  exact own_pure X (fun X hx hby _ a => XT.ifnonnullYes X.here hx rfl rfl (hb hby hd) rfl ho hp a) k
theorem own_ifnonnullF (X : own_St p l e R s m args below meth c Z own bytes ml rt nm n0 T h cells slots) {o : Int}  (hd : decode bytes pc = .ok (.ifnonnull o, 3)) (hp : pc + 3 = pc') (k : own_Goal p e below Φ T (mkF m pc' Ls rest)) : own_Goal p e below Φ T (mkF m pc Ls (.null :: rest)) := by
  subst hp
  exact own_pure X (fun X hx hby _ a => XT.ifnonnullNo X.here hx rfl (hb hby hd) rfl a) k
theorem own_ldcI (X : own_St p l e R s m args below meth c Z own bytes ml rt nm n0 T h cells slots) {i : Nat} {v : Int32} (w : (Jvm.Cond.constant own i v).before a0 Z = true) (hd : decode bytes pc = .ok (.ldc i, 2)) (hp : pc + 2 = pc') (k : own_Goal p e below Φ T (mkF m pc' Ls (.int v :: rest))) : own_Goal p e below Φ T (mkF m pc Ls rest) := by
  subst hp
  obtain ⟨locs, X, -, -, -, hx, hZ, hown, hby, -⟩ := X
  exact own_step (fun t a => X.ldcInt hx hown (mvT hZ w) (g := mkF m pc Ls rest) rfl (hb hby hd) t a) k
theorem own_ldcJ (X : own_St p l e R s m args below meth c Z own bytes ml rt nm n0 T h cells slots) {i : Nat} {v : Int64} (w : (Jvm.Cond.constantLong own i v).before a0 Z = true) (hd : decode bytes pc = .ok (.ldc2_w i, 3)) (hp : pc + 3 = pc') (k : own_Goal p e below Φ T (mkF m pc' Ls (.long v :: rest))) : own_Goal p e below Φ T (mkF m pc Ls rest) := by
  subst hp
  obtain ⟨locs, X, -, -, -, hx, hZ, hown, hby, -⟩ := X
  exact own_step (fun t a => X.ldc2Long hx hown (mvT hZ w) (g := mkF m pc Ls rest) rfl (hb hby hd) t a) k
theorem own_ldcD (X : own_St p l e R s m args below meth c Z own bytes ml rt nm n0 T h cells slots) {i : Nat} {v : UInt64} (w : (Jvm.Cond.constantDouble own i v).before a0 Z = true) (hd : decode bytes pc = .ok (.ldc2_w i, 3)) (hp : pc + 3 = pc') (k : own_Goal p e below Φ T (mkF m pc' Ls (.double v :: rest))) : own_Goal p e below Φ T (mkF m pc Ls rest) := by
  subst hp
  obtain ⟨locs, X, -, -, -, hx, hZ, hown, hby, -⟩ := X
  exact own_step (fun t a => X.ldc2DoubleC hx hown (mvT hZ w) (g := mkF m pc Ls rest) rfl (hb hby hd) t a) k
theorem own_retI (X : own_St p l e R s m args below meth c Z own bytes ml rt nm n0 T h cells slots) {v : Int32} (hd : decode bytes pc = .ok (.ireturn, 1)) (hr : rt = some .int) (hc : cells ≤ R.cells) (hs : slots ≤ R.slots) (q : Q (some (.int v)) h) : own_Goal p e below (own_Fin below s R n0 Q) T (mkF m pc Ls (.int v :: rest)) := by
  obtain ⟨locs, X, N, e1, n1, hx, hZ, hown, hby, -, hrt, hlk, -⟩ := X
  obtain ⟨fs, hl, hrun, hended, hW, hsame⟩ := X.leave (v := some (.int v)) (fun z => by rw [hrt, hr] at z; cases z) hlk
  exact ⟨_, _, retOut X hx (hrt.trans hr) rfl (Or.inl ⟨rfl, Or.inl rfl, _, rfl⟩) (hb hby hd) hl, hrun, hended, _, _, rfl, ⟨⟨by show Q _ T.heap; rw [e1]; exact q, by show n0 ≤ T.heap.size; rw [e1]; exact n1⟩, N⟩, ⟨_, rfl⟩, hW, hsame.mono hc hs⟩
theorem own_retJ (X : own_St p l e R s m args below meth c Z own bytes ml rt nm n0 T h cells slots) {v : Int64} (hd : decode bytes pc = .ok (.lreturn, 1)) (hr : rt = some .long) (hc : cells ≤ R.cells) (hs : slots ≤ R.slots) (q : Q (some (.long v)) h) : own_Goal p e below (own_Fin below s R n0 Q) T (mkF m pc Ls (.long v :: rest)) := by
  obtain ⟨locs, X, N, e1, n1, hx, hZ, hown, hby, -, hrt, hlk, -⟩ := X
  obtain ⟨fs, hl, hrun, hended, hW, hsame⟩ := X.leave (v := some (.long v)) (fun z => by rw [hrt, hr] at z; cases z) hlk
  exact ⟨_, _, retOut X hx (hrt.trans hr) rfl (Or.inr (Or.inl ⟨rfl, rfl, _, rfl⟩)) (hb hby hd) hl, hrun, hended, _, _, rfl, ⟨⟨by show Q _ T.heap; rw [e1]; exact q, by show n0 ≤ T.heap.size; rw [e1]; exact n1⟩, N⟩, ⟨_, rfl⟩, hW, hsame.mono hc hs⟩
theorem own_retD (X : own_St p l e R s m args below meth c Z own bytes ml rt nm n0 T h cells slots) {v : UInt64} (hd : decode bytes pc = .ok (.dreturn, 1)) (hr : rt = some .double) (hc : cells ≤ R.cells) (hs : slots ≤ R.slots) (q : Q (some (.double v)) h) : own_Goal p e below (own_Fin below s R n0 Q) T (mkF m pc Ls (.double v :: rest)) := by
  obtain ⟨locs, X, N, e1, n1, hx, hZ, hown, hby, -, hrt, hlk, -⟩ := X
  obtain ⟨fs, hl, hrun, hended, hW, hsame⟩ := X.leave (v := some (.double v)) (fun z => by rw [hrt, hr] at z; cases z) hlk
  exact ⟨_, _, retOut X hx (hrt.trans hr) rfl (Or.inr (Or.inr (Or.inl ⟨rfl, rfl, _, rfl⟩))) (hb hby hd) hl, hrun, hended, _, _, rfl, ⟨⟨by show Q _ T.heap; rw [e1]; exact q, by show n0 ≤ T.heap.size; rw [e1]; exact n1⟩, N⟩, ⟨_, rfl⟩, hW, hsame.mono hc hs⟩
theorem own_retZ (X : own_St p l e R s m args below meth c Z own bytes ml rt nm n0 T h cells slots) {v : Int32} (hv : v = 0 ∨ v = 1) (hd : decode bytes pc = .ok (.ireturn, 1)) (hr : rt = some .boolean) (hc : cells ≤ R.cells) (hs : slots ≤ R.slots) (q : Q (some (.int v)) h) : own_Goal p e below (own_Fin below s R n0 Q) T (mkF m pc Ls (.int v :: rest)) := by
  obtain ⟨locs, X, N, e1, n1, hx, hZ, hown, hby, -, hrt, hlk, -⟩ := X
  obtain ⟨fs, hl, hrun, hended, hW, hsame⟩ := X.leave (v := some (.int v)) (fun z => by rw [hrt, hr] at z; cases z) hlk
  have hn : nar .boolean v = v := by rcases hv with rfl | rfl <;> rfl
  exact ⟨_, _, retN X hx (t := .boolean) (hrt.trans hr) (by simp) (hb hby hd) (by rw [hn]; exact hl), hrun, hended, _, _, rfl, ⟨⟨by show Q _ T.heap; rw [e1]; exact q, by show n0 ≤ T.heap.size; rw [e1]; exact n1⟩, N⟩, ⟨_, rfl⟩, hW, hsame.mono hc hs⟩
theorem own_retA (X : own_St p l e R s m args below meth c Z own bytes ml rt nm n0 T h cells slots) {b : Addr} {t : FieldType} (ht : t.isReference = true) (hd : decode bytes pc = .ok (.areturn, 1)) (hr : rt = some t) (hc : cells ≤ R.cells) (hs : slots ≤ R.slots) (q : Q (some (.ref b)) h) : own_Goal p e below (own_Fin below s R n0 Q) T (mkF m pc Ls (.ref b :: rest)) := by
  obtain ⟨locs, X, N, e1, n1, hx, hZ, hown, hby, -, hrt, hlk, -⟩ := X
  obtain ⟨fs, hl, hrun, hended, hW, hsame⟩ := X.leave (v := some (.ref b)) (fun z => by rw [hrt, hr] at z; cases z) hlk
  have hn : narrow t (.ref b) = .ref b := by cases t <;> rfl
  exact ⟨_, _, retOut X hx (hrt.trans hr) hn (Or.inr (Or.inr (Or.inr (Or.inr ⟨rfl, ht, rfl⟩)))) (hb hby hd) hl, hrun, hended, _, _, rfl, ⟨⟨by show Q _ T.heap; rw [e1]; exact q, by show n0 ≤ T.heap.size; rw [e1]; exact n1⟩, N⟩, ⟨_, rfl⟩, hW, hsame.mono hc hs⟩
theorem own_retV (X : own_St p l e R s m args below meth c Z own bytes ml rt nm n0 T h cells slots) (hd : decode bytes pc = .ok (.return_, 1)) (hr : rt = none) (hc : cells ≤ R.cells) (hs : slots ≤ R.slots) (q : Q none h) : own_Goal p e below (own_Fin below s R n0 Q) T (mkF m pc Ls []) := by
  obtain ⟨locs, X, N, e1, n1, hx, hZ, hown, hby, -, hrt, hlk, -⟩ := X
  obtain ⟨fs, hl, hrun, hended, hW, hsame⟩ := X.leave (v := none) (fun _ => rfl) hlk
  exact ⟨_, _, X.returnOut hx (hrt.trans hr) (hb hby hd) hl, hrun, hended, _, _, rfl, ⟨⟨by show Q _ T.heap; rw [e1]; exact q, by show n0 ≤ T.heap.size; rw [e1]; exact n1⟩, N⟩, ⟨_, rfl⟩, hW, hsame.mono hc hs⟩
/-- an array and all it holds -/
def own_Vec (Z : State) (h : Heap) (a : Addr) (ty : FieldType) (vs : List Value) : Prop := ∃ c : Cell, Arr Z h a c ty ∧ c.slots = vs.toArray
theorem own_Vec.lt {a : Addr} {ty : FieldType} {vs : List Value} (F : own_Vec Z h a ty vs) : a < h.size := by obtain ⟨c, A, -⟩ := F; exact A.lt
theorem own_Vec.ext {h' : Heap} {a : Addr} {ty : FieldType} {vs : List Value} (F : own_Vec Z h a ty vs) (E : Ext h h') : own_Vec Z h' a ty vs := by obtain ⟨c, A, r⟩ := F; exact ⟨c, A.ext E, r⟩
theorem own_Vec.other {h' : Heap} {a b : Addr} {sl : Nat} {v : Value} {ty : FieldType} {vs : List Value} (F : own_Vec Z h b ty vs) (W : Wr h h' a sl v) (q : b ≠ a) : own_Vec Z h' b ty vs := by obtain ⟨c, A, r⟩ := F; exact ⟨c, A.other W q, r⟩
theorem own_Vec.keep {h' : Heap} {ws : List Addr} {a : Addr} {ty : FieldType} {vs : List Value} (F : own_Vec Z h a ty vs) (K : Keep h h' ws) (q : a ∉ ws) : own_Vec Z h' a ty vs := by obtain ⟨c, A, r⟩ := F; exact ⟨c, ⟨K.2.1 a c A.1 q, A.2⟩, r⟩
theorem own_Vec.set {h' : Heap} {a : Addr} {i : Nat} {v : Value} {ty : FieldType} {vs : List Value} (F : own_Vec Z h a ty vs) (W : Wr h h' a i v) : own_Vec Z h' a ty (vs.set i v) := by
  obtain ⟨c, A, r⟩ := F
  refine ⟨_, A.same W, ?_⟩
  show c.slots.setIfInBounds i v = _
  rw [r]; simp
theorem own_lt_ne {a b : Addr} (q : b < h.size) (g : a = h.size) : b ≠ a := by subst g; exact Nat.ne_of_lt q
/-- an index in an array, as the library's laws ask it -/
theorem own_in {n i : Nat} {j : Int32} (hj : j.toNatClampNeg = i) (h0 : ¬ j < 0) (hi : i < n) : ¬ (j < 0 ∨ n ≤ j.toNatClampNeg) := by
  rw [hj]; rintro (q | q)
  · exact h0 q
  · omega
theorem own_len (X : own_St p l e R s m args below meth c Z own bytes ml rt nm n0 T h cells slots) {a : Addr} {ty : FieldType} {vs : List Value} (F : own_Vec Z h a ty vs) {v : Int32} (hv : vs.length.toInt32 = v) (hd : decode bytes pc = .ok (.arraylength, 1)) (hp : pc + 1 = pc') (k : own_Goal p e below Φ T (mkF m pc' Ls (.int v :: rest))) : own_Goal p e below Φ T (mkF m pc Ls (.ref a :: rest)) := by
  subst hp
  obtain ⟨locs, X, N, e1, -, hx, hZ, hown, hby, -⟩ := X
  obtain ⟨cl, A, r⟩ := F
  have e2 : cl.slots.size.toInt32 = v := by rw [r]; simpa using hv
  exact own_step (fun t a => X.arraylength hx (cell := cl) (by rw [e1]; exact A.1) (State.isArrayOf_alike hZ.alike A.2.1) (g := mkF m pc Ls _) rfl rfl (hb hby hd) t (by rw [e2]; exact a)) k
theorem own_iaload (X : own_St p l e R s m args below meth c Z own bytes ml rt nm n0 T h cells slots) {a : Addr} {vs : List Value} (F : own_Vec Z h a .int vs) {j : Int32} {i : Nat} {v : Value} (hj : j.toNatClampNeg = i) (h0 : ¬ j < 0) (hv : vs[i]? = some v) (hd : decode bytes pc = .ok (.iaload, 1)) (hp : pc + 1 = pc') (k : own_Goal p e below Φ T (mkF m pc' Ls (v :: rest))) : own_Goal p e below Φ T (mkF m pc Ls (.int j :: .ref a :: rest)) := by
  subst hp
  obtain ⟨locs, X, N, e1, -, hx, hZ, hown, hby, -⟩ := X
  obtain ⟨cl, A, r⟩ := F
  have q1 : i < vs.length := (List.getElem?_eq_some_iff.mp hv).1
  exact own_step (fun t a => X.iaload hx (cell := cl) (by rw [e1]; exact A.1) (State.isArrayOf_alike hZ.alike A.2.1) A.2.2 (own_in hj h0 (by rw [r]; simpa using q1)) (by rw [hj, r]; simpa using hv) (g := mkF m pc Ls _) rfl rfl (hb hby hd) t a) k
theorem own_laload (X : own_St p l e R s m args below meth c Z own bytes ml rt nm n0 T h cells slots) {a : Addr} {vs : List Value} (F : own_Vec Z h a .long vs) {j : Int32} {i : Nat} {v : Value} (hj : j.toNatClampNeg = i) (h0 : ¬ j < 0) (hv : vs[i]? = some v) (hd : decode bytes pc = .ok (.laload, 1)) (hp : pc + 1 = pc') (k : own_Goal p e below Φ T (mkF m pc' Ls (v :: rest))) : own_Goal p e below Φ T (mkF m pc Ls (.int j :: .ref a :: rest)) := by
  subst hp
  obtain ⟨locs, X, N, e1, -, hx, hZ, hown, hby, -⟩ := X
  obtain ⟨cl, A, r⟩ := F
  have q1 : i < vs.length := (List.getElem?_eq_some_iff.mp hv).1
  exact own_step (fun t a => X.laload hx (cell := cl) (by rw [e1]; exact A.1) (State.isArrayOf_alike hZ.alike A.2.1) A.2.2 (own_in hj h0 (by rw [r]; simpa using q1)) (by rw [hj, r]; simpa using hv) (g := mkF m pc Ls _) rfl rfl (hb hby hd) t a) k
theorem own_daload (X : own_St p l e R s m args below meth c Z own bytes ml rt nm n0 T h cells slots) {a : Addr} {vs : List Value} (F : own_Vec Z h a .double vs) {j : Int32} {i : Nat} {v : Value} (hj : j.toNatClampNeg = i) (h0 : ¬ j < 0) (hv : vs[i]? = some v) (hd : decode bytes pc = .ok (.daload, 1)) (hp : pc + 1 = pc') (k : own_Goal p e below Φ T (mkF m pc' Ls (v :: rest))) : own_Goal p e below Φ T (mkF m pc Ls (.int j :: .ref a :: rest)) := by
  subst hp
  obtain ⟨locs, X, N, e1, -, hx, hZ, hown, hby, -⟩ := X
  obtain ⟨cl, A, r⟩ := F
  have q1 : i < vs.length := (List.getElem?_eq_some_iff.mp hv).1
  exact own_step (fun t a => X.daload hx (cell := cl) (by rw [e1]; exact A.1) (State.isArrayOf_alike hZ.alike A.2.1) A.2.2 (own_in hj h0 (by rw [r]; simpa using q1)) (by rw [hj, r]; simpa using hv) (g := mkF m pc Ls _) rfl rfl (hb hby hd) t a) k
theorem own_iastore (X : own_St p l e R s m args below meth c Z own bytes ml rt nm n0 T h cells slots) {a : Addr} {vs : List Value} (F : own_Vec Z h a .int vs) (ha : n0 ≤ a) {j : Int32} {i : Nat} {x : Int32} (hj : j.toNatClampNeg = i) (h0 : ¬ j < 0) (hi : i < vs.length) (hd : decode bytes pc = .ok (.iastore, 1)) (hp : pc + 1 = pc')
    (k : ∀ T' h', own_St p l e R s m args below meth c Z own bytes ml rt nm n0 T' h' cells slots → Wr h h' a i (.int x) → own_Vec Z h' a .int (vs.set i (.int x)) → own_Goal p e below Φ T' (mkF m pc' Ls rest)) : own_Goal p e below Φ T (mkF m pc Ls (.int x :: .int j :: .ref a :: rest)) := by
  subst hp
  obtain ⟨locs, X, N, e1, n1, hx, hZ, hown, hby, r0⟩ := X
  have F0 := F
  obtain ⟨cl, A, r⟩ := F
  obtain ⟨T', h', X', e', W, st⟩ := stI X hx hZ e1 A (own_in hj h0 (by rw [r]; simpa using hi)) (g := mkF m pc Ls _) rfl rfl (hb hby hd)
  have N' := Fr.snoc X' N ha
  rw [hj] at W
  exact own_step st (k T' h' ⟨_, X', N', e', by rw [W.size]; exact n1, hx, hZ, hown, hby, r0⟩ W (F0.set W))
theorem own_dastore (X : own_St p l e R s m args below meth c Z own bytes ml rt nm n0 T h cells slots) {a : Addr} {vs : List Value} (F : own_Vec Z h a .double vs) (ha : n0 ≤ a) {j : Int32} {i : Nat} {x : UInt64} (hj : j.toNatClampNeg = i) (h0 : ¬ j < 0) (hi : i < vs.length) (hd : decode bytes pc = .ok (.dastore, 1)) (hp : pc + 1 = pc')
    (k : ∀ T' h', own_St p l e R s m args below meth c Z own bytes ml rt nm n0 T' h' cells slots → Wr h h' a i (.double x) → own_Vec Z h' a .double (vs.set i (.double x)) → own_Goal p e below Φ T' (mkF m pc' Ls rest)) : own_Goal p e below Φ T (mkF m pc Ls (.double x :: .int j :: .ref a :: rest)) := by
  subst hp
  obtain ⟨locs, X, N, e1, n1, hx, hZ, hown, hby, r0⟩ := X
  have F0 := F
  obtain ⟨cl, A, r⟩ := F
  obtain ⟨T', h', X', e', W, st⟩ := stD X hx hZ e1 A (own_in hj h0 (by rw [r]; simpa using hi)) (g := mkF m pc Ls _) rfl rfl (hb hby hd)
  have N' := Fr.snoc X' N ha
  rw [hj] at W
  exact own_step st (k T' h' ⟨_, X', N', e', by rw [W.size]; exact n1, hx, hZ, hown, hby, r0⟩ W (F0.set W))
theorem own_newarray (X : own_St p l e R s m args below meth c Z own bytes ml rt nm n0 T h cells slots) {aty : ArrayType} {ty : FieldType} (hty : newarray.typeOf aty = ty) (w : (Jvm.Cond.arrayClass ty).before a0 Z = true) {j : Int32} {n : Nat} {vs : List Value} (hj : j.toNatClampNeg = n) (h0 : ¬ j < 0) (hn : n ≤ 1000) (hvs : List.replicate n (defaultValue ty) = vs) {cells' slots' : Nat} (hc' : cells + 1 = cells') (hs' : slots + n = slots') (hc : cells' ≤ R.cells) (hs : slots' ≤ R.slots) (hd : decode bytes pc = .ok (.newarray aty, 2)) (hp : pc + 2 = pc')
    (k : ∀ a T' h', a = h.size → n0 ≤ a → own_St p l e R s m args below meth c Z own bytes ml rt nm n0 T' h' cells' slots' → Ext h h' → own_Vec Z h' a ty vs → own_Goal p e below Φ T' (mkF m pc' Ls (.ref a :: rest))) : own_Goal p e below Φ T (mkF m pc Ls (.int j :: rest)) := by
  subst hp hty hvs hc' hs'
  obtain ⟨locs, X, N, e1, n1, hx, hZ, hown, hby, r0⟩ := X
  obtain ⟨T', h', cA, X', e', E, A, st⟩ := newP X hx hZ w e1 (g := mkF m pc Ls _) rfl (hb hby hd) rfl h0 (cap := n) (by omega) (by omega) hc hs
  refine own_step st (k _ T' h' rfl n1 ⟨_, X', N, e', Nat.le_trans n1 E.1, hx, hZ, hown, hby, r0⟩ E ⟨_, A, ?_⟩)
  simp [newA, hj]
theorem own_new (X : own_St p l e R s m args below meth c Z own bytes ml rt nm n0 T h cells slots) {i : Nat} {C : String} {n : Nat} (w : (Jvm.Cond.classLink own i C).before a0 Z = true) (wi : (Jvm.Cond.instantiable C n).before a0 Z = true) (wz : (Jvm.Cond.initialized C).before a0 Z = true) {cells' slots' : Nat} (hc' : cells + 1 = cells') (hs' : slots + n = slots') (hc : cells' ≤ R.cells) (hs : slots' ≤ R.slots) (hd : decode bytes pc = .ok (.new i, 3)) (hp : pc + 3 = pc')
    (k : ∀ a T' h', a = h.size → n0 ≤ a → own_St p l e R s m args below meth c Z own bytes ml rt nm n0 T' h' cells' slots' → Ext h h' → Exa Z h' a C → (∀ {O nm d : String} {ty : FieldType}, Laid Z a0 C O nm d → parseFieldDescriptor d = some ty → Fld Z h' a O nm d (defaultValue ty)) → own_Goal p e below Φ T' (mkF m pc' Ls (.ref a :: rest))) : own_Goal p e below Φ T (mkF m pc Ls rest) := by
  subst hp hc' hs'
  obtain ⟨locs, X, N, e1, n1, hx, hZ, hown, hby, r0⟩ := X
  obtain ⟨T', h', X', e', E, A, D, -, st⟩ := newO X hx hZ hown w wi wz e1 (g := mkF m pc Ls _) rfl (hb hby hd) hc hs
  exact own_step st (k _ T' h' rfl n1 ⟨_, X', N, e', Nat.le_trans n1 E.1, hx, hZ, hown, hby, r0⟩ E A D)
theorem own_getF (X : own_St p l e R s m args below meth c Z own bytes ml rt nm n0 T h cells slots) {i : Nat} {O n d : String} (w : (Jvm.Cond.fieldLink own i O n d).before a0 Z = true) {a : Addr} {v : Value} (F : Fld Z h a O n d v) (hd : decode bytes pc = .ok (.getfield i, 3)) (hp : pc + 3 = pc')
    (k : ∀ T', own_St p l e R s m args below meth c Z own bytes ml rt nm n0 T' h cells slots → own_Goal p e below Φ T' (mkF m pc' Ls (v :: rest))) : own_Goal p e below Φ T (mkF m pc Ls (.ref a :: rest)) := by
  subst hp
  obtain ⟨locs, X, N, e1, n1, hx, hZ, hown, hby, r0⟩ := X
  obtain ⟨T', X', e', st⟩ := getF X hx hZ hown (host := "") (Or.inl w) Via.refl e1 F (g := mkF m pc Ls _) rfl rfl (hb hby hd)
  exact own_step st (k T' ⟨_, X', N, e', n1, hx, hZ, hown, hby, r0⟩)
theorem own_putF (X : own_St p l e R s m args below meth c Z own bytes ml rt nm n0 T h cells slots) {i : Nat} {O n d C : String} {kk : Nat} {ty : FieldType} (w : (Jvm.Cond.fieldLink own i O n d).before a0 Z = true) {a : Addr} {v old : Value} (F : Fld Z h a O n d old) (E : Exa Z h a C) (L : (Jvm.Cond.lays C O n d).before a0 Z = true ∨ ((Jvm.Cond.laysFinal C O n d).before a0 Z = true ∧ own = O ∧ nm = "<init>")) (wi : (Jvm.Cond.instantiable C kk).before a0 Z = true) (hty : parseFieldDescriptor d = some ty) (hn : narrow ty v = v) (hf : fits ty v = true) (ha : n0 ≤ a) (hd : decode bytes pc = .ok (.putfield i, 3)) (hp : pc + 3 = pc')
    (k : ∀ T' h', own_St p l e R s m args below meth c Z own bytes ml rt nm n0 T' h' cells slots → Wr h h' a (RoadKit.slotOf Z O n d) v → own_Goal p e below Φ T' (mkF m pc' Ls rest)) : own_Goal p e below Φ T (mkF m pc Ls (v :: .ref a :: rest)) := by
  subst hp
  obtain ⟨locs, X, N, e1, n1, hx, hZ, hown, hby, q1, q2, q3, q4⟩ := X
  obtain ⟨T', h', X', e', W, st⟩ := putF X hx hZ hown (host := "") (Or.inl w) Via.refl e1 F E (L.imp id fun z => ⟨z.1, z.2.1, q4.trans z.2.2⟩) wi hty hn hf (g := mkF m pc Ls _) rfl rfl (hb hby hd)
  exact own_step st (k T' h' ⟨_, X', Fr.snoc X' N ha, e', by rw [W.size]; exact n1, hx, hZ, hown, hby, q1, q2, q3, q4⟩ W)
theorem own_initO (X : own_St p l e R s m args below meth c Z own bytes ml rt nm n0 T h cells slots) {i : Nat} (w1 : (Jvm.Cond.methodLink own i Lib.objectInit).before a0 Z = true) (w2 : (Jvm.Cond.instanceMethod Lib.objectInit).before a0 Z = true) (w3 : (Jvm.Cond.code Lib.objectInit ⟨#[0xb1]⟩ 1 none).before a0 Z = true) {a : Addr} (hsz : Ls.size = ml) (hf : 1 ≤ R.frames) {W : Nat} (hW : (rest.map fun v => v.category).sum ≤ W) (hl : W + 12 ≤ R.locals) (hd : decode bytes pc = .ok (.invokespecial i, 3)) (hp : pc + 3 = pc')
    (k : ∀ T', own_St p l e R s m args below meth c Z own bytes ml rt nm n0 T' h cells slots → own_Goal p e below Φ T' (mkF m pc' Ls rest)) : own_Goal p e below Φ T (mkF m pc Ls (.ref a :: rest)) := by
  subst hp
  obtain ⟨locs, X, N, e1, n1, hx, hZ, hown, hby, hml, r0⟩ := X
  obtain ⟨T', X', e', st⟩ := initO X hx hZ hown w1 w2 w3 e1 (g := mkF m pc Ls (.ref a :: rest)) (rest := rest) rfl (hsz.trans hml.symm) rfl (hb hby hd) hf (W := W) (by show 2 * 0 + _ ≤ _; omega) hl
  exact own_step st (k T' ⟨_, X', N, e', n1, hx, hZ, hown, hby, hml, r0⟩)
/-- a callee's contract: called with as' over the heap h0 it returns, and Q says what it leaves -/
def own_Met (l : Launch) (Z : State) (y : MethodName) (bytes : ByteArray) (ml : Nat) (rt : Option FieldType) (ws : List Jvm.Cond) (rm : Room) (as' : Array Value) (h0 : Heap) (n0 : Nat) (Q : Option Value → Heap → Prop) : Prop :=
  MetFree l y (head1 (Jvm.Cond.code y bytes ml rt :: ws) rm) (fun a U => a = as' ∧ Z.Warmed39 U.vm ∧ U.heap = h0) (fun _ _ _ _ _ => True) (fun _ U o U' => ∃ v L, o = .returned v ∧ ((Q v U'.heap ∧ n0 ≤ U'.heap.size) ∧ Fr n0 L) ∧ FrameEnd U o U' L rm.cells rm.slots)
theorem own_meet {y : MethodName} {ws : List Jvm.Cond} {rm : Room} {as' : Array Value} {h0 : Heap} (hpn : plainFor y = true) (hle : n0 ≤ h0.size) {Ls0 : Array Slot} (hef : ∀ m, entryFrame m as' ml = mkF m 0 Ls0 [])
    (body : ∀ (p : Program) (e : Env) (s : State) (m : MethodId) (below : List Frame) (meth : Method) (c : Code) (T : State), own_St p l e rm s m as' below meth c Z y.cls bytes ml rt y.name n0 T h0 0 0 → own_Goal p e below (own_Fin below s rm n0 Q) T (mkF m 0 Ls0 [])) : own_Met l Z y bytes ml rt ws rm as' h0 n0 Q := by
  refine MetFree.of_bodySF hpn hisR ?_
  intro p e s m args below meth c s₁ Bd hml0 hP hK
  obtain ⟨rfl, hZ, hh⟩ := hP
  have e0 : s₁.heap = h0 := by rw [← hh, Bd.state]; rfl
  obtain ⟨s2, o, st, r1, r2, r3⟩ := body p e s m below meth c s₁ ⟨[], Stand.of_body Bd, Fr.nil n0, e0, hle, Bd.exec, hZ, findClass_of_methodNamed Bd.named, Bd.bytes, hml0, Bd.returns, Bd.notSynchronized, (name_of_methodNamed Bd.named Bd.method).1⟩
  exact ⟨s2, o, castTop (hef m) st, r1, r2, r3⟩
theorem own_callS (X : own_St p l e R s m args below meth c Z own bytes ml rt nm n0 T h cells slots) {y : MethodName} {yb : ByteArray} {yl : Nat} {yr : Option FieldType} {rm : Room} {as' : Array Value} {Q' : Option Value → Heap → Prop} (M : own_Met l Z y yb yl yr [] rm as' h n0 Q') {i : Nat} (w1 : (Jvm.Cond.methodLink own i y).before a0 Z = true) (w2 : (Jvm.Cond.static y).before a0 Z = true) (w3 : (Jvm.Cond.initialized y.cls).before a0 Z = true) (w4 : (Jvm.Cond.code y yb yl yr).before a0 Z = true) (hy : y.cls ≠ "java/lang/invoke/MethodHandle" ∧ y.cls ≠ "java/lang/invoke/VarHandle") (hsz : Ls.size = ml) (hf : rm.frames + 1 ≤ R.frames) {W : Nat} (hW : (rest.map fun v => v.category).sum ≤ W) (hl : W + (yl + 11) + rm.locals ≤ R.locals) {cells' slots' : Nat} (hc' : cells + rm.cells = cells') (hs' : slots + rm.slots = slots') (hc : cells' ≤ R.cells) (hs : slots' ≤ R.slots) {argsL stk : List Value} (hlen : ∀ sig, parseMethodDescriptor y.desc = some sig → argsL.length = sig.parameters.length) (hst : stk = argsL.reverse ++ rest) (has : argsL.toArray = as') (hd : decode bytes pc = .ok (.invokestatic i, 3)) (hp : pc + 3 = pc')
    (k : ∀ v T' h', own_St p l e R s m args below meth c Z own bytes ml rt nm n0 T' h' cells' slots' → Q' v h' → own_Goal p e below Φ T' (mkF m pc' Ls (v.toList ++ rest))) : own_Goal p e below Φ T (mkF m pc Ls stk) := by
  subst hp hst has hc' hs'
  obtain ⟨locs, X, N, e1, n1, hx, hZ, hown, hby, hml, r0⟩ := X
  obtain ⟨v, vm1, ⟨T', L', k', n'⟩, -, X', ⟨Lc, ⟨⟨hQ, hG⟩, NL⟩, l1, y1, z1⟩, st⟩ := Jvm.LawKit.callS X hx (y := y) hown (mvT hZ w1) (mvT hZ w2) (mvT hZ w3) (mvT hZ w4) hy (backOf (W := W) (Q := fun v hh L => (Q' v hh ∧ n0 ≤ hh.size) ∧ Fr n0 L) M hZ w4 w3 hf hl) (g := mkF m pc Ls (argsL.reverse ++ rest)) rfl (hsz.trans hml.symm) (argsL := argsL) (rest := rest) hlen rfl (by show 2 * 0 + _ ≤ _; omega) (hb hby hd) (fun _ _ => ⟨rfl, e1, hc, hs⟩)
  dsimp only [Pt.U, Pt.locs, Pt.cells, Pt.slots] at X' l1 y1 z1 st hQ
  subst l1 y1 z1
  exact own_step st (k v T' _ ⟨_, X', Fr.app N NL, rfl, hG, hx, hZ, hown, hby, hml, r0⟩ hQ)
theorem own_special (X : own_St p l e R s m args below meth c Z own bytes ml rt nm n0 T h cells slots) {y : MethodName} {yb : ByteArray} {yl : Nat} {yr : Option FieldType} {rm : Room} {as' : Array Value} {Q' : Option Value → Heap → Prop} (M : own_Met l Z y yb yl yr [] rm as' h n0 Q') (hy1 : y.name = "<init>") (hyr : yr = none) {i : Nat} (w1 : (Jvm.Cond.methodLink own i y).before a0 Z = true) (w2 : (Jvm.Cond.instanceMethod y).before a0 Z = true) (w3 : (Jvm.Cond.initialized y.cls).before a0 Z = true) (w4 : (Jvm.Cond.code y yb yl yr).before a0 Z = true) (hy : y.cls ≠ "java/lang/invoke/MethodHandle" ∧ y.cls ≠ "java/lang/invoke/VarHandle") (hsz : Ls.size = ml) (hf : rm.frames + 1 ≤ R.frames) {W : Nat} (hW : (rest.map fun v => v.category).sum ≤ W) (hl : W + (yl + 11) + rm.locals ≤ R.locals) {cells' slots' : Nat} (hc' : cells + rm.cells = cells') (hs' : slots + rm.slots = slots') (hc : cells' ≤ R.cells) (hs : slots' ≤ R.slots) {a : Addr} {argsL stk : List Value} (hlen : ∀ sig, parseMethodDescriptor y.desc = some sig → argsL.length = sig.parameters.length) (hst : stk = argsL.reverse ++ .ref a :: rest) (has : (.ref a :: argsL).toArray = as') (hd : decode bytes pc = .ok (.invokespecial i, 3)) (hp : pc + 3 = pc')
    (k : ∀ v T' h', own_St p l e R s m args below meth c Z own bytes ml rt nm n0 T' h' cells' slots' → Q' v h' → own_Goal p e below Φ T' (mkF m pc' Ls (v.toList ++ rest))) : own_Goal p e below Φ T (mkF m pc Ls stk) := by
  subst hp hst has hc' hs' hyr
  obtain ⟨locs, X, N, e1, n1, hx, hZ, hown, hby, hml, r0⟩ := X
  obtain ⟨v, vm1, ⟨T', L', k', n'⟩, -, X', ⟨Lc, ⟨⟨hQ, hG⟩, NL⟩, l1, y1, z1⟩, st⟩ := X.specialBack hx (y := y) hy1 hown (mvT hZ w1) (mvT hZ w2) (mvT hZ w4) hy (backOf (W := W) (Q := fun v hh L => (Q' v hh ∧ n0 ≤ hh.size) ∧ Fr n0 L) M hZ w4 w3 hf hl) (g := mkF m pc Ls (argsL.reverse ++ .ref a :: rest)) rfl (hsz.trans hml.symm) (Steps.refl _) (a := a) (argsL := argsL) (rest := rest) hlen rfl (by show 2 * 0 + _ ≤ _; omega) (hb hby hd) (fun _ _ => ⟨rfl, e1, hc, hs⟩)
  dsimp only [Pt.U, Pt.locs, Pt.cells, Pt.slots] at X' l1 y1 z1 st hQ
  subst l1 y1 z1
  exact own_step (fun t b => st.trans b) (k v T' _ ⟨_, X', Fr.app N NL, rfl, hG, hx, hZ, hown, hby, hml, r0⟩ hQ)
theorem own_virtual (X : own_St p l e R s m args below meth c Z own bytes ml rt nm n0 T h cells slots) {y : MethodName} {yb : ByteArray} {yl : Nat} {yr : Option FieldType} {rm : Room} {as' : Array Value} {Q' : Option Value → Heap → Prop} (M : own_Met l Z y yb yl yr [] rm as' h n0 Q') {C : String} {z : MethodName} {i : Nat} (hz : y = z) (w1 : (Jvm.Cond.methodLink own i z).before a0 Z = true) (wd : (Jvm.Cond.declares z).before a0 Z = true) (wsl : (Jvm.Cond.selects C z y).before a0 Z = true) (w2 : (Jvm.Cond.instanceMethod y).before a0 Z = true) (w3 : (Jvm.Cond.initialized y.cls).before a0 Z = true) (w4 : (Jvm.Cond.code y yb yl yr).before a0 Z = true) (hy : y.cls ≠ "java/lang/invoke/MethodHandle" ∧ y.cls ≠ "java/lang/invoke/VarHandle") (hsz : Ls.size = ml) (hf : rm.frames + 1 ≤ R.frames) {W : Nat} (hW : (rest.map fun v => v.category).sum ≤ W) (hl : W + (yl + 11) + rm.locals ≤ R.locals) {cells' slots' : Nat} (hc' : cells + rm.cells = cells') (hs' : slots + rm.slots = slots') (hc : cells' ≤ R.cells) (hs : slots' ≤ R.slots) {a : Addr} (E : Exa Z h a C) {argsL stk : List Value} (hlen : ∀ sig, parseMethodDescriptor y.desc = some sig → argsL.length = sig.parameters.length) (hst : stk = argsL.reverse ++ .ref a :: rest) (has : (.ref a :: argsL).toArray = as') (hd : decode bytes pc = .ok (.invokevirtual i, 3)) (hp : pc + 3 = pc')
    (k : ∀ v T' h', own_St p l e R s m args below meth c Z own bytes ml rt nm n0 T' h' cells' slots' → Q' v h' → own_Goal p e below Φ T' (mkF m pc' Ls (v.toList ++ rest))) : own_Goal p e below Φ T (mkF m pc Ls stk) := by
  subst hp hst has hc' hs' hz
  obtain ⟨locs, X, N, e1, n1, hx, hZ, hown, hby, hml, r0⟩ := X
  obtain ⟨cq, kq, qa, qb, qc⟩ := isOf (T := T) hZ e1 E
  obtain ⟨v, vm1, ⟨T', L', k', n'⟩, -, X', ⟨Lc, ⟨⟨hQ, hG⟩, NL⟩, l1, y1, z1⟩, st⟩ := X.virtualBack hx (y := y) (z := y) hown (mvT hZ w1) (mvT hZ wd) (notFace_of_selects (args := #[]) (mvT hZ wsl)) (mvT hZ wsl) (mvT hZ w2) hy (backOf (W := W) (Q := fun v hh L => (Q' v hh ∧ n0 ≤ hh.size) ∧ Fr n0 L) M hZ w4 w3 hf hl) qa qc (g := mkF m pc Ls (argsL.reverse ++ .ref a :: rest)) rfl (hsz.trans hml.symm) (Steps.refl _) (argsL := argsL) (rest := rest) hlen rfl (by show 2 * 0 + _ ≤ _; omega) (hb hby hd) (fun _ _ => ⟨rfl, e1, hc, hs⟩)
  dsimp only [Pt.U, Pt.locs, Pt.cells, Pt.slots] at X' l1 y1 z1 st hQ
  subst l1 y1 z1
  exact own_step (fun t b => st.trans b) (k v T' _ ⟨_, X', Fr.app N NL, rfl, hG, hx, hZ, hown, hby, hml, r0⟩ hQ)
end OwnWalk
section OwnNum
open Jvm.FP Jvm.FP.Core
/-- the int x is the whole number i, at most B in size -/
def own_I (B : Nat) (i : Int) (x : Int32) : Prop := x.toInt = i ∧ i.natAbs ≤ B
def own_L (B : Nat) (i : Int) (x : Int64) : Prop := x.toInt = i ∧ i.natAbs ≤ B
section
variable {A B C M : Nat} {i j : Int}
theorem own_I.start (x : Int32) : own_I 2147483648 x.toInt x := by
  have := x.toInt_lt; have := x.le_toInt
  exact ⟨rfl, by omega⟩
theorem own_L.start (x : Int64) : own_L 9223372036854775808 x.toInt x := by
  have := x.toInt_lt; have := x.le_toInt
  exact ⟨rfl, by omega⟩
theorem own_I.lit {x : Int32} (h : x.toInt = i) (hB : i.natAbs ≤ B) : own_I B i x := ⟨h, hB⟩
theorem own_I.self {x : Int32} (a : own_I A i x) : own_I A x.toInt x := ⟨rfl, by rw [a.1]; exact a.2⟩
theorem own_L.self {x : Int64} (a : own_L A i x) : own_L A x.toInt x := ⟨rfl, by rw [a.1]; exact a.2⟩
theorem own_L.lit {x : Int64} (h : x.toInt = i) (hB : i.natAbs ≤ B) : own_L B i x := ⟨h, hB⟩
theorem own_abs_mul {i j : Int} (h1 : i.natAbs ≤ A) (h2 : j.natAbs ≤ B) : (i * j).natAbs ≤ A * B := by
  rw [Int.natAbs_mul]; exact Nat.mul_le_mul h1 h2
theorem own_I.add {x y v : Int32} (a : own_I A i x) (b : own_I B j y) (hv : x + y = v) (hC : A + B ≤ C) (h : C < 2147483648) : own_I C (i + j) v := by
  obtain ⟨rfl, h1⟩ := a; obtain ⟨rfl, h2⟩ := b; subst hv
  refine ⟨?_, by omega⟩
  rw [Int32.toInt_add]; exact Int.bmod_eq_of_le (by omega) (by omega)
theorem own_I.sub {x y v : Int32} (a : own_I A i x) (b : own_I B j y) (hv : x - y = v) (hC : A + B ≤ C) (h : C < 2147483648) : own_I C (i - j) v := by
  obtain ⟨rfl, h1⟩ := a; obtain ⟨rfl, h2⟩ := b; subst hv
  refine ⟨?_, by omega⟩
  rw [Int32.toInt_sub]; exact Int.bmod_eq_of_le (by omega) (by omega)
theorem own_I.mul {x y v : Int32} (a : own_I A i x) (b : own_I B j y) (hv : x * y = v) (hC : A * B ≤ C) (h : C < 2147483648) : own_I C (i * j) v := by
  obtain ⟨rfl, h1⟩ := a; obtain ⟨rfl, h2⟩ := b; subst hv
  have h3 := Nat.le_trans (own_abs_mul h1 h2) hC
  refine ⟨?_, h3⟩
  rw [Int32.toInt_mul]; exact Int.bmod_eq_of_le (by omega) (by omega)
theorem own_I.neg {x v : Int32} (a : own_I A i x) (hv : -x = v) (h : A < 2147483648) : own_I A (-i) v := by
  obtain ⟨rfl, h1⟩ := a; subst hv
  refine ⟨?_, by omega⟩
  rw [Int32.toInt_neg]; exact Int.bmod_eq_of_le (by omega) (by omega)
theorem own_and_nn {x m v : Int32} (hv : x &&& m = v) (hm : m.toInt = M) : 0 ≤ v.toInt ∧ v.toInt ≤ M := by
  subst hv; have := c_and x m (by omega); omega
theorem own_I.and {x m v : Int32} (hv : x &&& m = v) (hm : m.toInt = M) : own_I M v.toInt v := by
  have := own_and_nn hv hm
  exact ⟨rfl, by omega⟩
theorem own_land_nn {x m v : Int64} (hv : x &&& m = v) (hm : m.toInt = M) : 0 ≤ v.toInt ∧ v.toInt ≤ M := by
  subst hv
  have h1 := (c_andSL x m).2.2 (by omega)
  refine ⟨h1, ?_⟩
  have la := x.toBitVec.isLt; have lm := m.toBitVec.isLt
  have q : (x &&& m).toBitVec.toNat = x.toBitVec.toNat &&& m.toBitVec.toNat := by show (x.toBitVec &&& m.toBitVec).toNat = _; rw [BitVec.toNat_and]
  have q2 : x.toBitVec.toNat &&& m.toBitVec.toNat ≤ m.toBitVec.toNat := Nat.and_le_right
  change 0 ≤ (x &&& m).toBitVec.toInt at h1
  show (x &&& m).toBitVec.toInt ≤ _
  change m.toBitVec.toInt = _ at hm
  rw [BitVec.toInt_eq_toNat_cond] at h1 hm ⊢
  rw [q] at h1 ⊢
  split at hm <;> split <;> omega
theorem own_L.and {x m v : Int64} (hv : x &&& m = v) (hm : m.toInt = M) : own_L M v.toInt v := by
  have := own_land_nn hv hm
  exact ⟨rfl, by omega⟩
theorem own_lrem_eq {x y v : Int64} (hv : x - (x / y) * y = v) (hx : 0 ≤ x.toInt) (hy : 0 < y.toInt) : v.toInt = x.toInt % y.toInt := by
  subst hv; exact (c_lrem x y _ rfl).1 hx
theorem own_I.shr {x q v : Int32} {k : Nat} (hv : x >>> (q &&& 31) = v) (hk : q.toBitVec.toNat % 32 = k) (hM : 2147483648 ≤ M * 2 ^ k) : own_I M v.toInt v := by
  subst hv
  have h1 := c_ishr x q k hk
  have h2 := x.toInt_lt; have h3 := x.le_toInt
  refine ⟨rfl, ?_⟩
  rw [h1]
  have p : 0 < 2 ^ k := Nat.two_pow_pos k
  generalize 2 ^ k = P at *
  have hP : (0 : Int) < (P : Int) := by omega
  have e1 : x.toInt / (P : Int) ≤ M := by
    refine Int.ediv_le_of_le_mul hP ?_
    have : ((M * P : Nat) : Int) = (M : Int) * P := Int.natCast_mul ..
    omega
  have e2 : -(M : Int) ≤ x.toInt / (P : Int) := by
    refine (Int.le_ediv_iff_mul_le hP).mpr ?_
    have : ((M * P : Nat) : Int) = (M : Int) * P := Int.natCast_mul ..
    rw [Int.neg_mul]; omega
  omega
theorem own_L.ofI {x : Int32} {v : Int64} (a : own_I A i x) (hv : x.toInt64 = v) : own_L A i v := by
  obtain ⟨rfl, h1⟩ := a; subst hv
  exact ⟨Int32.toInt_toInt64 x, h1⟩
theorem own_L.add {x y v : Int64} (a : own_L A i x) (b : own_L B j y) (hv : x + y = v) (hC : A + B ≤ C) (h : C < 9223372036854775808) : own_L C (i + j) v := by
  obtain ⟨rfl, h1⟩ := a; obtain ⟨rfl, h2⟩ := b; subst hv
  refine ⟨?_, by omega⟩
  rw [Int64.toInt_add]; exact Int.bmod_eq_of_le (by omega) (by omega)
theorem own_L.sub {x y v : Int64} (a : own_L A i x) (b : own_L B j y) (hv : x - y = v) (hC : A + B ≤ C) (h : C < 9223372036854775808) : own_L C (i - j) v := by
  obtain ⟨rfl, h1⟩ := a; obtain ⟨rfl, h2⟩ := b; subst hv
  refine ⟨?_, by omega⟩
  rw [Int64.toInt_sub]; exact Int.bmod_eq_of_le (by omega) (by omega)
theorem own_L.mul {x y v : Int64} (a : own_L A i x) (b : own_L B j y) (hv : x * y = v) (hC : A * B ≤ C) (h : C < 9223372036854775808) : own_L C (i * j) v := by
  obtain ⟨rfl, h1⟩ := a; obtain ⟨rfl, h2⟩ := b; subst hv
  have h3 := Nat.le_trans (own_abs_mul h1 h2) hC
  refine ⟨?_, h3⟩
  rw [Int64.toInt_mul]; exact Int.bmod_eq_of_le (by omega) (by omega)
theorem own_L.neg {x v : Int64} (a : own_L A i x) (hv : -x = v) (h : A < 9223372036854775808) : own_L A (-i) v := by
  obtain ⟨rfl, h1⟩ := a; subst hv
  refine ⟨?_, by omega⟩
  rw [Int64.toInt_neg]; exact Int.bmod_eq_of_le (by omega) (by omega)
end
/-- a datum times 2^k -/
def own_sh (k : Int) : Datum → Datum
  | .fin s c q => .fin s c (q + k)
  | d => d
theorem own_sh_sum (k : Int) (x y : Datum) : exactSum (own_sh k x) (own_sh k y) = own_sh k (exactSum x y) := by
  cases x with
  | nan => rfl
  | inf s => cases y with
    | nan => rfl
    | inf t => by_cases h : s = t <;> simp [own_sh, exactSum, h]
    | fin t d r => rfl
  | fin s c q => cases y with
    | nan => rfl
    | inf t => rfl
    | fin t d r =>
      have e1 : min (q + k) (r + k) = min q r + k := by omega
      have e2 : sumUnits s c (q + k) t d (r + k) (min q r + k) = sumUnits s c q t d r (min q r) := by
        unfold sumUnits inUnits
        rw [show q + k - (min q r + k) = q - min q r by omega, show r + k - (min q r + k) = r - min q r by omega]
      simp only [own_sh, exactSum, e1, e2]
theorem own_sh_prod (k r : Int) (x y : Datum) : exactProduct (own_sh k x) (own_sh r y) = own_sh (k + r) (exactProduct x y) := by
  cases x with
  | nan => rfl
  | inf s => cases y with
    | nan => rfl
    | inf t => rfl
    | fin t d u => simp only [own_sh, exactProduct]; split <;> rfl
  | fin s c q => cases y with
    | nan => rfl
    | inf t => simp only [own_sh, exactProduct]; split <;> rfl
    | fin t d u =>
      simp only [own_sh, exactProduct]
      rw [show q + k + (u + r) = q + u + (k + r) by omega]
theorem own_sh_neg (k : Int) (x : Datum) : negate (own_sh k x) = own_sh k (negate x) := by cases x <;> rfl
theorem own_sh_order (k : Int) (x y : Datum) : order (own_sh k x) (own_sh k y) = order x y := by
  cases x <;> cases y <;> try rfl
  rename_i s c q t d r
  simp only [own_sh, order]
  rw [show min (q + k) (r + k) = min q r + k by omega]
  unfold inUnits
  rw [show q + k - (min q r + k) = q - min q r by omega, show r + k - (min q r + k) = r - min q r by omega]
theorem own_sh_sh (k r : Int) (x : Datum) : own_sh r (own_sh k x) = own_sh (k + r) x := by
  cases x <;> simp only [own_sh]
  rw [Int.add_assoc]
theorem own_sh_zero (x : Datum) : own_sh 0 x = x := by cases x <;> simp [own_sh]
theorem own_signed_nat {i : Int} {s : Bool} {n : Nat} (h : n = i.natAbs) (hs : i ≠ 0 → s = decide (i < 0)) : signed s n = i := by
  by_cases h0 : i = 0
  · subst h0; subst h; exact signed_zero s
  · rw [hs h0, h]; unfold signed
    by_cases q : i < 0 <;> simp [q] <;> omega
/-- what is i * 2^-k in size rounds to itself, if i has 53 digits at the most -/
theorem own_round_core {k : Nat} {i : Int} {s : Bool} {c : Nat} {q : Int} (hk : k ≤ 1074) (hi : i.natAbs < 9007199254740992) (hs : i ≠ 0 → s = decide (i < 0)) : Whole i (own_sh k (roundRatio b64 s i.natAbs 1 (-(k : Int)))) := by
  obtain ⟨c', q', e1, e2⟩ := round_exact good_b64 s (c := i.natAbs) (q := -(k : Int)) (show i.natAbs < 2 ^ 53 by omega) (show (-1074 : Int) ≤ _ by omega) (show _ ≤ (971 : Int) by omega)
  have e3 : roundRatio b64 s i.natAbs 1 (-(k : Int)) = .fin s c' q' := e1
  have hf : Core.fits b64 (.fin s c' q') := by rw [← e1]; exact round_fits good_b64 _
  have hq : (-1074 : Int) ≤ q' := hf.2.1
  rw [e3]
  show signed s (c' * 2 ^ (q' + k).toNat) = i * ((2 ^ (-(q' + k)).toNat : Nat) : Int)
  have e4 : c' * 2 ^ (q' + 1074).toNat = i.natAbs * 2 ^ (1074 - k) := by
    have := e2
    unfold inUnits at this
    rw [show (q' - b64.qmin).toNat = (q' + 1074).toNat by rw [show b64.qmin = -1074 from rfl]; omega, show (-(k : Int) - b64.qmin).toNat = 1074 - k by rw [show b64.qmin = -1074 from rfl]; omega] at this
    exact this
  have e5 : c' * 2 ^ (q' + k).toNat = i.natAbs * 2 ^ (-(q' + k)).toNat := by
    refine Nat.eq_of_mul_eq_mul_right (Nat.two_pow_pos (1074 - k)) ?_
    have x1 : c' * 2 ^ (q' + k).toNat * 2 ^ (1074 - k) = c' * 2 ^ (q' + 1074).toNat * 2 ^ (-(q' + k)).toNat := by
      rw [Nat.mul_assoc, Nat.mul_assoc, ← Nat.pow_add, ← Nat.pow_add]; congr 2; omega
    rw [x1, e4, Nat.mul_right_comm]
  rw [e5, signed_mul, own_signed_nat rfl hs]
theorem own_round {k : Nat} {i : Int} {d : Datum} (hk : k ≤ 1074) (hi : i.natAbs < 9007199254740992) (h : Whole i (own_sh k d)) : Whole i (own_sh k (round b64 d)) := by
  cases d with
  | nan => exact h.elim
  | inf => exact h.elim
  | fin s c q =>
    have h1 : c * 2 ^ (q + k).toNat = i.natAbs * 2 ^ (-(q + k)).toNat := whole_natAbs h
    have e : round b64 (.fin s c q) = roundRatio b64 s i.natAbs 1 (-(k : Int)) := by
      refine roundRatio_congr (by decide) (by decide) ?_
      rw [show (q - -(k : Int)).toNat = (q + k).toNat by omega, show (-(k : Int) - q).toNat = (-(q + k)).toNat by omega]
      simpa using h1
    rw [e]
    exact own_round_core (c := c) (q := q) hk hi (fun h0 => whole_sign h h0)
/-- the double x is i * 2^-k, i at most B in size (both zeros are 0) -/
def own_D (k B : Nat) (i : Int) (x : UInt64) : Prop := Whole i (own_sh k (val64 x)) ∧ i.natAbs ≤ B
section
variable {k r t A B C : Nat} {i j : Int} {x y v : UInt64}
theorem own_D.fin (a : own_D k A i x) : ∃ s c q, val64 x = .fin s c q := by
  cases e : val64 x with
  | nan => have := a.1; rw [e] at this; exact this.elim
  | inf => have := a.1; rw [e] at this; exact this.elim
  | fin s c q => exact ⟨s, c, q, rfl⟩
theorem own_D.nn (a : own_D k A i x) : Jvm.Free.Fl.NoNaN64 x := by
  obtain ⟨s, c, q, e⟩ := a.fin
  exact Jvm.Free.Fl.val64_no.mpr (by rw [e]; exact Datum.noConfusion)
theorem own_D.isFin (a : own_D k A i x) : Jvm.Free.Fl.Fin64 x := by
  obtain ⟨s, c, q, e⟩ := a.fin
  exact Jvm.Free.Fl.fin64_core.mpr ⟨s, c, q, e⟩
theorem own_D.lit {s : Bool} {c : Nat} {q : Int} (h : val64 x = .fin s c q) (hw : signed s (c * 2 ^ (q + k).toNat) = i * ((2 ^ (-(q + k)).toNat : Nat) : Int)) (hB : i.natAbs ≤ B) : own_D k B i x := by
  refine ⟨?_, hB⟩
  rw [h]; exact hw
theorem own_D.mono (a : own_D k A i x) (h : A ≤ B) : own_D k B i x := ⟨a.1, Nat.le_trans a.2 h⟩
theorem own_D.zero {s : Bool} (h : val64 x = .fin s 0 b64.qmin) (k : Nat) : own_D k 0 0 x := by
  refine ⟨?_, by decide⟩
  rw [h]
  show signed s (0 * _) = 0 * _
  rw [Nat.zero_mul, signed_zero, Int.zero_mul]
theorem own_D.ofInt (h : DInt i x) (hB : i.natAbs ≤ B) : own_D 0 B i x := ⟨by rw [show ((0 : Nat) : Int) = 0 from rfl, own_sh_zero]; exact h, hB⟩
theorem own_D.i2d {z : Int32} (a : own_I A i z) (hv : FP.i2d z = v) : own_D 0 A i v := by
  subst hv; obtain ⟨rfl, h⟩ := a
  exact own_D.ofInt (i2d_int z) h
theorem own_D.l2d {z : Int64} (a : own_L A i z) (hv : FP.l2d z = v) (h : A ≤ 9007199254740992) : own_D 0 A i v := by
  subst hv; obtain ⟨rfl, h1⟩ := a
  exact own_D.ofInt (l2d_int (show _ ≤ 2 ^ 53 by omega)) h1
theorem own_D.add (a : own_D k A i x) (b : own_D k B j y) (hv : FP.dadd x y = v) (hC : A + B ≤ C) (h : C < 9007199254740992) (hk : k ≤ 1074) : own_D k C (i + j) v := by
  subst hv
  have h2 : (i + j).natAbs ≤ C := by have := a.2; have := b.2; omega
  refine ⟨?_, h2⟩
  show Whole _ (own_sh k (val64 (Core.dadd x y)))
  rw [val64_dadd]
  refine own_round hk (by omega) ?_
  rw [← own_sh_sum]; exact whole_sum a.1 b.1
theorem own_D.sub (a : own_D k A i x) (b : own_D k B j y) (hv : FP.dsub x y = v) (hC : A + B ≤ C) (h : C < 9007199254740992) (hk : k ≤ 1074) : own_D k C (i - j) v := by
  subst hv
  have h2 : (i - j).natAbs ≤ C := by have := a.2; have := b.2; omega
  refine ⟨?_, h2⟩
  show Whole _ (own_sh k (val64 (Core.dsub x y)))
  rw [val64_dsub]
  refine own_round hk (by omega) ?_
  rw [← own_sh_sum, ← own_sh_neg]; exact whole_sum a.1 (whole_negate b.1)
theorem own_D.mul (a : own_D k A i x) (b : own_D r B j y) (hv : FP.dmul x y = v) (hC : A * B ≤ C) (h : C < 9007199254740992) (ht : k + r = t) (hk : t ≤ 1074) : own_D t C (i * j) v := by
  subst hv ht
  have h2 : (i * j).natAbs ≤ C := Nat.le_trans (own_abs_mul a.2 b.2) hC
  refine ⟨?_, h2⟩
  show Whole _ (own_sh ((k + r : Nat) : Int) (val64 (Core.dmul x y)))
  rw [val64_dmul]
  refine own_round hk (by omega) ?_
  rw [Int.natCast_add, ← own_sh_prod]; exact whole_product a.1 b.1
theorem own_D.neg (a : own_D k A i x) (hv : FP.dneg x = v) : own_D k A (-i) v := by
  subst hv
  refine ⟨?_, by have := a.2; omega⟩
  rw [FP.val64_dneg, ← own_sh_neg]; exact whole_negate a.1
theorem own_whole_up {i : Int} {d : Datum} (r : Nat) (h : Whole i d) : Whole (i * ((2 ^ r : Nat) : Int)) (own_sh r d) := by
  cases d with
  | nan => exact h.elim
  | inf => exact h.elim
  | fin s c q =>
    have h1 : signed s (c * 2 ^ q.toNat) = i * ((2 ^ (-q).toNat : Nat) : Int) := h
    show signed s (c * 2 ^ (q + r).toNat) = i * ((2 ^ r : Nat) : Int) * ((2 ^ (-(q + r)).toNat : Nat) : Int)
    have p2 : ((2 ^ (-q).toNat : Nat) : Int) ≠ 0 := by
      have := Nat.two_pow_pos (-q).toNat; omega
    refine Int.eq_of_mul_eq_mul_right p2 ?_
    have e : (q + r).toNat + (-q).toNat = q.toNat + r + (-(q + r)).toNat := by omega
    calc signed s (c * 2 ^ (q + r).toNat) * ((2 ^ (-q).toNat : Nat) : Int)
        = signed s (c * 2 ^ ((q + r).toNat + (-q).toNat)) := by rw [← signed_mul, Nat.mul_assoc, ← Nat.pow_add]
      _ = signed s (c * 2 ^ q.toNat * 2 ^ r * 2 ^ (-(q + r)).toNat) := by rw [e, Nat.pow_add, Nat.pow_add]; congr 1; ac_rfl
      _ = i * ((2 ^ (-q).toNat : Nat) : Int) * ((2 ^ r : Nat) : Int) * ((2 ^ (-(q + r)).toNat : Nat) : Int) := by rw [signed_mul, signed_mul, h1]
      _ = _ := by ac_rfl
theorem own_D.up (a : own_D k A i x) {P : Nat} (hP : 2 ^ r = P) (ht : k + r = t) (hC : A * P ≤ C) : own_D t C (i * (P : Int)) x := by
  subst hP ht
  refine ⟨?_, Nat.le_trans (own_abs_mul a.2 (Nat.le_of_eq (Int.natAbs_natCast _))) hC⟩
  rw [Int.natCast_add, ← own_sh_sh]; exact own_whole_up r a.1
theorem own_D.dcmp (a : own_D k A i x) (b : own_D k B j y) : FP.dcmp x y = some (compare i j) := by
  show order (val64 x) (val64 y) = _
  rw [← own_sh_order k]; exact order_whole a.1 b.1
end
def own_c3 (i j : Int) : Int32 := if i < j then -1 else if i = j then 0 else 1
theorem own_c3_cmp (i j : Int) (o : CmpOp) : cmpValue (some (compare i j)) o = own_c3 i j := by
  unfold own_c3
  by_cases h : i < j
  · rw [if_pos h, show compare i j = .lt from Int.compare_eq_lt.mpr h]; rfl
  · rw [if_neg h]
    by_cases h2 : i = j
    · rw [if_pos h2, show compare i j = .eq from Int.compare_eq_eq.mpr h2]; rfl
    · rw [if_neg h2, show compare i j = .gt from Int.compare_eq_gt.mpr (by omega)]; rfl
theorem own_D.cmp {k A B : Nat} {i j : Int} {x y : UInt64} (a : own_D k A i x) (b : own_D k B j y) {o : CmpOp} : cmpValue (FP.dcmp x y) o = own_c3 i j := by
  rw [a.dcmp b]; exact own_c3_cmp i j o
theorem own_c3_eq {i j : Int} (h : i = j) : ifCond.holds .eq (own_c3 i j) = true ∧ ifCond.holds .ne (own_c3 i j) = false := by
  subst h; unfold own_c3; simp [ifCond.holds]
theorem own_c3_ne {i j : Int} (h : ¬ i = j) : ifCond.holds .eq (own_c3 i j) = false ∧ ifCond.holds .ne (own_c3 i j) = true := by
  unfold own_c3; by_cases q : i < j <;> simp [q, h, ifCond.holds]
theorem own_c3_lt {i j : Int} (h : i < j) : ifCond.holds .lt (own_c3 i j) = true ∧ ifCond.holds .ge (own_c3 i j) = false := by
  unfold own_c3; simp [h]; decide
theorem own_c3_nlt {i j : Int} (h : ¬ i < j) : ifCond.holds .lt (own_c3 i j) = false ∧ ifCond.holds .ge (own_c3 i j) = true := by
  unfold own_c3; rw [if_neg h]; by_cases q : i = j
  · rw [if_pos q]; decide
  · rw [if_neg q]; decide
theorem own_c3_gt {i j : Int} (h : j < i) : ifCond.holds .gt (own_c3 i j) = true ∧ ifCond.holds .le (own_c3 i j) = false := by
  unfold own_c3; rw [if_neg (by omega), if_neg (by omega)]; decide
theorem own_c3_ngt {i j : Int} (h : ¬ j < i) : ifCond.holds .gt (own_c3 i j) = false ∧ ifCond.holds .le (own_c3 i j) = true := by
  unfold own_c3; by_cases q : i < j
  · rw [if_pos q]; decide
  · rw [if_neg q, if_pos (by omega)]; decide
/-- the branches on ints, by what is known of them -/
theorem own_i_eq {x y : Int32} (h : x = y) : if_icmp.holds .eq x y = true ∧ if_icmp.holds .ne x y = false := teq h
theorem own_i_ne {x y : Int32} (h : ¬ x = y) : if_icmp.holds .eq x y = false ∧ if_icmp.holds .ne x y = true := feq h
theorem own_i_lt {x y : Int32} (h : x < y) : if_icmp.holds .lt x y = true ∧ if_icmp.holds .ge x y = false := ⟨(tlt h).1, (tlt h).2.1⟩
theorem own_i_nlt {x y : Int32} (h : ¬ x < y) : if_icmp.holds .lt x y = false ∧ if_icmp.holds .ge x y = true := ⟨(flt h).1, (flt h).2.1⟩
theorem own_i_gt {x y : Int32} (h : y < x) : if_icmp.holds .gt x y = true ∧ if_icmp.holds .le x y = false := ⟨(tlt h).2.2.1, (tlt h).2.2.2⟩
theorem own_i_ngt {x y : Int32} (h : ¬ y < x) : if_icmp.holds .gt x y = false ∧ if_icmp.holds .le x y = true := ⟨(flt h).2.2.1, (flt h).2.2.2⟩
theorem own_z_eq {x : Int32} (h : x = 0) : ifCond.holds .eq x = true ∧ ifCond.holds .ne x = false := by rw [if0, if0]; exact teq h
theorem own_z_ne {x : Int32} (h : ¬ x = 0) : ifCond.holds .eq x = false ∧ ifCond.holds .ne x = true := by rw [if0, if0]; exact feq h
theorem own_z_lt {x : Int32} (h : x < 0) : ifCond.holds .lt x = true ∧ ifCond.holds .ge x = false := by rw [if0, if0]; exact own_i_lt h
theorem own_z_nlt {x : Int32} (h : ¬ x < 0) : ifCond.holds .lt x = false ∧ ifCond.holds .ge x = true := by rw [if0, if0]; exact own_i_nlt h
theorem own_z_gt {x : Int32} (h : 0 < x) : ifCond.holds .gt x = true ∧ ifCond.holds .le x = false := by rw [if0, if0]; exact own_i_gt h
theorem own_z_ngt {x : Int32} (h : ¬ 0 < x) : ifCond.holds .gt x = false ∧ ifCond.holds .le x = true := by rw [if0, if0]; exact own_i_ngt h
theorem own_cases2 {v : Int32} (h : 0 ≤ v.toInt ∧ v.toInt ≤ ((1 : Nat) : Int)) : v = (0 : Int32) ∨ v = (1 : Int32) := by
  have : v.toInt = 0 ∨ v.toInt = 1 := by omega
  rcases this with q | q
  · exact Or.inl (Int32.toInt_inj.mp q)
  · exact Or.inr (Int32.toInt_inj.mp q)
theorem own_cases4 {v : Int32} (h : 0 ≤ v.toInt ∧ v.toInt ≤ ((3 : Nat) : Int)) : v = (0 : Int32) ∨ v = (1 : Int32) ∨ v = (2 : Int32) ∨ v = (3 : Int32) := by
  have : v.toInt = 0 ∨ v.toInt = 1 ∨ v.toInt = 2 ∨ v.toInt = 3 := by omega
  rcases this with q | q | q | q
  · exact Or.inl (Int32.toInt_inj.mp q)
  · exact Or.inr (Or.inl (Int32.toInt_inj.mp q))
  · exact Or.inr (Or.inr (Or.inl (Int32.toInt_inj.mp q)))
  · exact Or.inr (Or.inr (Or.inr (Int32.toInt_inj.mp q)))
theorem own_cases16 {v : Int32} (h : 0 ≤ v.toInt ∧ v.toInt ≤ ((15 : Nat) : Int)) : v = (0 : Int32) ∨ v = (1 : Int32) ∨ v = (2 : Int32) ∨ v = (3 : Int32) ∨ v = (4 : Int32) ∨ v = (5 : Int32) ∨ v = (6 : Int32) ∨ v = (7 : Int32) ∨ v = (8 : Int32) ∨ v = (9 : Int32) ∨ v = (10 : Int32) ∨ v = (11 : Int32) ∨ v = (12 : Int32) ∨ v = (13 : Int32) ∨ v = (14 : Int32) ∨ v = (15 : Int32) := by
  have : v.toInt = 0 ∨ v.toInt = 1 ∨ v.toInt = 2 ∨ v.toInt = 3 ∨ v.toInt = 4 ∨ v.toInt = 5 ∨ v.toInt = 6 ∨ v.toInt = 7 ∨ v.toInt = 8 ∨ v.toInt = 9 ∨ v.toInt = 10 ∨ v.toInt = 11 ∨ v.toInt = 12 ∨ v.toInt = 13 ∨ v.toInt = 14 ∨ v.toInt = 15 := by omega
  rcases this with q | q | q | q | q | q | q | q | q | q | q | q | q | q | q | q
  · exact Or.inl (Int32.toInt_inj.mp q)
  · exact Or.inr (Or.inl (Int32.toInt_inj.mp q))
  · exact Or.inr (Or.inr (Or.inl (Int32.toInt_inj.mp q)))
  · exact Or.inr (Or.inr (Or.inr (Or.inl (Int32.toInt_inj.mp q))))
  · exact Or.inr (Or.inr (Or.inr (Or.inr (Or.inl (Int32.toInt_inj.mp q)))))
  · exact Or.inr (Or.inr (Or.inr (Or.inr (Or.inr (Or.inl (Int32.toInt_inj.mp q))))))
  · exact Or.inr (Or.inr (Or.inr (Or.inr (Or.inr (Or.inr (Or.inl (Int32.toInt_inj.mp q)))))))
  · exact Or.inr (Or.inr (Or.inr (Or.inr (Or.inr (Or.inr (Or.inr (Or.inl (Int32.toInt_inj.mp q))))))))
  · exact Or.inr (Or.inr (Or.inr (Or.inr (Or.inr (Or.inr (Or.inr (Or.inr (Or.inl (Int32.toInt_inj.mp q)))))))))
  · exact Or.inr (Or.inr (Or.inr (Or.inr (Or.inr (Or.inr (Or.inr (Or.inr (Or.inr (Or.inl (Int32.toInt_inj.mp q))))))))))
  · exact Or.inr (Or.inr (Or.inr (Or.inr (Or.inr (Or.inr (Or.inr (Or.inr (Or.inr (Or.inr (Or.inl (Int32.toInt_inj.mp q)))))))))))
  · exact Or.inr (Or.inr (Or.inr (Or.inr (Or.inr (Or.inr (Or.inr (Or.inr (Or.inr (Or.inr (Or.inr (Or.inl (Int32.toInt_inj.mp q))))))))))))
  · exact Or.inr (Or.inr (Or.inr (Or.inr (Or.inr (Or.inr (Or.inr (Or.inr (Or.inr (Or.inr (Or.inr (Or.inr (Or.inl (Int32.toInt_inj.mp q)))))))))))))
  · exact Or.inr (Or.inr (Or.inr (Or.inr (Or.inr (Or.inr (Or.inr (Or.inr (Or.inr (Or.inr (Or.inr (Or.inr (Or.inr (Or.inl (Int32.toInt_inj.mp q))))))))))))))
  · exact Or.inr (Or.inr (Or.inr (Or.inr (Or.inr (Or.inr (Or.inr (Or.inr (Or.inr (Or.inr (Or.inr (Or.inr (Or.inr (Or.inr (Or.inl (Int32.toInt_inj.mp q)))))))))))))))
  · exact Or.inr (Or.inr (Or.inr (Or.inr (Or.inr (Or.inr (Or.inr (Or.inr (Or.inr (Or.inr (Or.inr (Or.inr (Or.inr (Or.inr (Or.inr (Int32.toInt_inj.mp q)))))))))))))))
/-- lcmp as a comparison of whole numbers -/
theorem own_lcmp_c3 (x y : Int64) : XT.cmpL x y = own_c3 x.toInt y.toInt := by
  unfold XT.cmpL own_c3
  simp only [Int64.lt_iff_toInt_lt, ← Int64.toInt_inj]
  by_cases h : x.toInt < y.toInt
  · simp [h, show ¬ y.toInt < x.toInt by omega, show ¬ x.toInt = y.toInt by omega]
  · by_cases h2 : x.toInt = y.toInt
    · simp [h2]
    · simp [h, h2, show y.toInt < x.toInt by omega]
theorem own_L.cmp {A B : Nat} {i j : Int} {x y : Int64} (a : own_L A i x) (b : own_L B j y) : XT.cmpL x y = own_c3 i j := by
  rw [own_lcmp_c3, a.1, b.1]
end OwnNum
section OwnDiv
open Jvm.FP Jvm.FP.Core
theorem own_quotient {s t : Bool} {c d : Nat} {q r : Int} (hd : d ≠ 0) : quotient b64 (.fin s c q) (.fin t d r) = roundRatio b64 (s != t) c d (q - r) := by
  show (if d = 0 then _ else _) = _
  rw [if_neg hd]
/-- the quotient of i * 2^-k and j is the rounded |i| / |j| * 2^-k -/
theorem own_quot {k A B : Nat} {i j : Int} {x z v : UInt64} (a : own_D k A i x) (b : own_D 0 B j z) (hj : j ≠ 0) (hv : FP.ddiv x z = v) :
    ∃ sg : Bool, val64 v = roundRatio b64 sg i.natAbs j.natAbs (-(k : Int)) ∧ (i ≠ 0 → sg = (decide (i < 0) != decide (j < 0))) := by
  subst hv
  obtain ⟨s, c, q, e1⟩ := a.fin
  obtain ⟨t, d, r, e2⟩ := b.fin
  have w1 : Whole i (.fin s c (q + k)) := by have := a.1; rw [e1] at this; exact this
  have w2 : Whole j (.fin t d r) := by have := b.1; rw [e2, show ((0 : Nat) : Int) = 0 from rfl, own_sh_zero] at this; exact this
  have hd : d ≠ 0 := fun h => hj ((whole_zero w2).mp h)
  refine ⟨s != t, ?_, fun hi => by rw [whole_sign w1 hi, whole_sign w2 hj]⟩
  show val64 (Core.ddiv x z) = _
  rw [val64_ddiv, e1, e2]
  show (if d = 0 then _ else roundRatio b64 (s != t) c d (q - r)) = _
  rw [if_neg hd]
  refine roundRatio_congr (by omega) (by omega) ?_
  have h1 : c * 2 ^ (q + k).toNat = i.natAbs * 2 ^ (-(q + k)).toNat := whole_natAbs w1
  have h2 : d * 2 ^ r.toNat = j.natAbs * 2 ^ (-r).toNat := whole_natAbs w2
  generalize i.natAbs = I at *
  generalize j.natAbs = J at *
  refine Nat.eq_of_mul_eq_mul_right (Nat.two_pow_pos ((-r).toNat + (q + k).toNat)) ?_
  have x1 : c * J * 2 ^ (q - r - -(k : Int)).toNat * 2 ^ ((-r).toNat + (q + k).toNat) = (c * 2 ^ (q + k).toNat) * (J * 2 ^ (-r).toNat) * 2 ^ (q - r - -(k : Int)).toNat := by rw [Nat.pow_add]; ac_rfl
  have x2 : I * d * 2 ^ (-(k : Int) - (q - r)).toNat * 2 ^ ((-r).toNat + (q + k).toNat) = I * d * 2 ^ ((-(q + k)).toNat + r.toNat + (q - r - -(k : Int)).toNat) := by rw [Nat.mul_assoc (I * d), ← Nat.pow_add]; congr 2; omega
  rw [x1, x2, h1, ← h2, Nat.pow_add, Nat.pow_add]; ac_rfl
theorem own_quot_nn {k A B : Nat} {i j : Int} {x z v : UInt64} (a : own_D k A i x) (b : own_D 0 B j z) (hj : j ≠ 0) (hv : FP.ddiv x z = v) : Jvm.Free.Fl.NoNaN64 v := by
  obtain ⟨sg, e, -⟩ := own_quot a b hj hv
  exact Jvm.Free.Fl.val64_no.mpr (by rw [e]; exact roundRatio_ne_nan _ _ _ _ _)
theorem own_round_zero (sg : Bool) (d : Nat) (e : Int) : roundRatio b64 sg 0 d e = .fin sg 0 b64.qmin := by unfold roundRatio; rw [if_pos rfl]
/-- two quotients of equal whole numbers compare as equal -/
theorem own_quot_eq {k A B A' B' : Nat} {i j : Int} {x y z w v u : UInt64} (a : own_D k A i x) (b : own_D 0 B j z) (a' : own_D k A' i y) (b' : own_D 0 B' j w) (hj : j ≠ 0) (hv : FP.ddiv x z = v) (hu : FP.ddiv y w = u) : FP.dcmp v u = some .eq := by
  obtain ⟨s1, e1, f1⟩ := own_quot a b hj hv
  obtain ⟨s2, e2, f2⟩ := own_quot a' b' hj hu
  by_cases hi : i = 0
  · subst hi
    have d1 := own_D.zero (x := v) (s := s1) (by rw [e1]; exact own_round_zero ..) 0
    have d2 := own_D.zero (x := u) (s := s2) (by rw [e2]; exact own_round_zero ..) 0
    rw [d1.dcmp d2]; rfl
  · have e3 : s1 = s2 := (f1 hi).trans (f2 hi).symm
    subst e3
    have e4 : v = u := val64_inj (by rw [e1]; exact roundRatio_ne_nan _ _ _ _ _) (e1.trans e2.symm)
    subst e4
    exact dcmp_self (by rw [e1]; exact roundRatio_ne_nan _ _ _ _ _)
theorem own_quot_cmp {k A B A' B' : Nat} {i j : Int} {x y z w v u : UInt64} (a : own_D k A i x) (b : own_D 0 B j z) (a' : own_D k A' i y) (b' : own_D 0 B' j w) (hj : j ≠ 0) (hv : FP.ddiv x z = v) (hu : FP.ddiv y w = u) {o : CmpOp} : cmpValue (FP.dcmp v u) o = 0 := by
  rw [own_quot_eq a b a' b' hj hv hu]; rfl
theorem own_D.of_eq {k A : Nat} {i j : Int} {x : UInt64} (a : own_D k A i x) (h : i = j) : own_D k A j x := h ▸ a
/-- a quotient by a power of two is exact -/
theorem own_D.divp {k r t A B P : Nat} {i : Int} {x z v : UInt64} (a : own_D k A i x) (b : own_D 0 B (P : Int) z) (hP : P = 2 ^ r) (hv : FP.ddiv x z = v) (hA : A < 9007199254740992) (ht : k + r = t) (hk : t ≤ 1074) : own_D t A i v := by
  subst ht
  have p := Nat.two_pow_pos r
  have hj : (P : Int) ≠ 0 := by omega
  obtain ⟨sg, e, f⟩ := own_quot a b hj hv
  refine ⟨?_, a.2⟩
  have e2 : roundRatio b64 sg i.natAbs ((P : Int)).natAbs (-(k : Int)) = roundRatio b64 sg i.natAbs 1 (-((k + r : Nat) : Int)) := by
    refine roundRatio_congr (by omega) (by decide) ?_
    rw [Int.natAbs_natCast, hP, show (-(k : Int) - -((k + r : Nat) : Int)).toNat = r by omega, show (-((k + r : Nat) : Int) - -(k : Int)).toNat = 0 by omega]
    simp
  rw [e, e2]
  refine own_round_core (c := 0) (q := 0) hk (by have := a.2; omega) fun hi => ?_
  rw [f hi, show decide ((P : Int) < 0) = false by simp]
  cases decide (i < 0) <;> rfl
theorem own_ushr_nn {x q v : Int32} {k : Nat} (hv : XT.ushr x q = v) (hk : q.toBitVec.toNat % 32 = k) (h0 : 0 < k) : 0 ≤ v.toInt := by
  subst hv
  have := c_iushr x q k hk h0
  show 0 ≤ ((x.toUInt32 >>> (q &&& 31).toUInt32).toInt32).toInt
  rw [this]
  exact Int.ediv_nonneg (Int.emod_nonneg _ (by decide)) (Int.natCast_nonneg _)
theorem own_irem_bd {x y v : Int32} {d : Int} (hv : x % y = v) (hx : 0 ≤ x.toInt) (hy : y.toInt = d) (hd : 0 < d) : 0 ≤ v.toInt ∧ v.toInt < d := by
  subst hv
  rw [(c_irem x y d hy).1 hx]
  exact ⟨Int.emod_nonneg _ (by omega), Int.emod_lt_of_pos _ hd⟩
end OwnDiv
section OwnSign
open Jvm.FP Jvm.FP.Core
/-- x is finite and has the sign of i -/
def own_S (i : Int) (x : UInt64) : Prop := ∃ s c q, val64 x = .fin s c q ∧ (c = 0 ↔ i = 0) ∧ (i ≠ 0 → s = decide (i < 0))
theorem own_S.nn {i : Int} {x : UInt64} (a : own_S i x) : Jvm.Free.Fl.NoNaN64 x := by
  obtain ⟨s, c, q, e, -⟩ := a
  exact Jvm.Free.Fl.val64_no.mpr (by rw [e]; exact Datum.noConfusion)
theorem own_S.cmp0 {i : Int} {x : UInt64} (a : own_S i x) {o : CmpOp} : cmpValue (FP.dcmp x (0 : UInt64)) o = own_c3 i (0 : Int) := by
  obtain ⟨s, c, q, e, h1, h2⟩ := a
  have e0 : FP.dcmp x (0 : UInt64) = some (compare i 0) := by
    show order (val64 x) (val64 (0 : UInt64)) = _
    rw [e, show val64 (0 : UInt64) = .fin false 0 b64.qmin from val64_dconst0]
    show some (compare (signed s (inUnits c q (min q b64.qmin))) (signed false (inUnits 0 b64.qmin (min q b64.qmin)))) = _
    congr 1
    rw [show signed false (inUnits 0 b64.qmin (min q b64.qmin)) = 0 by unfold inUnits; rw [Nat.zero_mul]; rfl]
    have p := Nat.two_pow_pos (q - min q b64.qmin).toNat
    unfold inUnits
    generalize 2 ^ (q - min q b64.qmin).toNat = P at p
    by_cases hi : i = 0
    · rw [h1.mpr hi, hi, Nat.zero_mul, signed_zero]
    · have hc : 0 < c * P := Nat.mul_pos (by have := h1; omega) p
      generalize c * P = N at hc
      rw [h2 hi]
      by_cases hn : i < 0
      · rw [show decide (i < 0) = true by simpa using hn, show compare i 0 = .lt from Int.compare_eq_lt.mpr hn]
        exact Int.compare_eq_lt.mpr (by show -(N : Int) < 0; omega)
      · rw [show decide (i < 0) = false by simpa using hn, show compare i 0 = .gt from Int.compare_eq_gt.mpr (by omega)]
        exact Int.compare_eq_gt.mpr (by show 0 < (N : Int); omega)
  rw [e0]; exact own_c3_cmp i 0 o
/-- a long as a double, by a power of two up to 2^62: the sign stays -/
theorem own_S.quot {a : Int64} {z v : UInt64} {r : Int} (h0 : 0 ≤ r) (h1 : r ≤ 62) (hz : val64 z = .fin false 4503599627370496 (r - 52)) (hv : FP.ddiv (FP.l2d a) z = v) : own_S a.toInt v := by
  subst hv
  unfold own_S
  rw [show val64 (FP.ddiv (FP.l2d a) z) = quotient b64 (val64 (FP.l2d a)) (val64 z) from val64_ddiv _ _, hz]
  by_cases ha : a.toInt = 0
  · have e : a = 0 := Int64.toInt_inj.mp ha
    subst e
    rw [show val64 (FP.l2d 0) = .fin false 0 b64.qmin by decide +kernel, own_quotient (by decide), own_round_zero]
    exact ⟨_, 0, b64.qmin, rfl, by simp [ha], fun q => absurd ha q⟩
  · obtain ⟨c, q, e⟩ := l2d_shape a
    have e1 : val64 (FP.l2d a) = .fin (decide (a.toInt < 0)) c q := e
    have hf : Core.fits b64 (.fin (decide (a.toInt < 0)) c q) := by rw [← e1]; exact val64_fits _
    have hr : val64 (FP.l2d a) = roundRatio b64 (decide (a.toInt < 0)) a.toInt.natAbs 1 0 := val64_l2d a
    obtain ⟨Q, hQ⟩ : ∃ Q : Int, Q = -52 := ⟨_, rfl⟩
    obtain ⟨m, hm0⟩ : ∃ m : Int, m = b64.qmin := ⟨_, rfl⟩
    have hm1 : m = -1074 := hm0
    have hm : (Q - m).toNat + 52 = ((0 : Int) - m).toNat := by omega
    have hz : zmag b64 (.fin false 4503599627370496 Q) ≤ zmag b64 (roundRatio b64 (decide (a.toInt < 0)) a.toInt.natAbs 1 0) := by
      refine zmag_roundRatio_ge good_b64 (e0 := m) (by decide) (show Core.fits b64 _ from ⟨by decide, by show (-1074 : Int) ≤ Q; omega, by show Q ≤ (971 : Int); omega, Or.inr (by decide)⟩) (by rw [hm0]; exact Int.le_refl _) (by omega) ?_
      have e3 : zmag b64 (.fin false 4503599627370496 Q) = 4503599627370496 * 2 ^ (Q - b64.qmin).toNat := rfl
      have e4 : inUnits a.toInt.natAbs 0 m = a.toInt.natAbs * 2 ^ ((0 : Int) - m).toNat := rfl
      rw [e3, e4, ← hm0, ← hm, Int.sub_self]
      generalize (Q - m).toNat = X
      rw [show (4503599627370496 : Nat) = 2 ^ 52 from rfl, show (0 : Int).toNat = 0 from rfl, Nat.pow_zero, Nat.mul_one, Nat.mul_one, ← Nat.pow_add, Nat.add_comm 52 X]
      exact Nat.le_mul_of_pos_left _ (by omega)
    rw [← hr, e1] at hz
    obtain ⟨f1, f2, f3, f4⟩ := hf
    have f1' : c < 2 ^ 53 := f1
    have f2' : (-1074 : Int) ≤ q := f2
    have f3' : q ≤ (971 : Int) := f3
    have hz2 : 4503599627370496 * 2 ^ (Q - b64.qmin).toNat ≤ c * 2 ^ (q - b64.qmin).toNat := hz
    rw [show (4503599627370496 : Nat) = 2 ^ 52 from rfl, ← hm0] at hz2
    have key : ∀ E F : Nat, 2 ^ 52 * 2 ^ E ≤ c * 2 ^ F → 0 < c ∧ E ≤ F := fun E F hEF => by
      refine ⟨Nat.pos_of_ne_zero fun z => ?_, Nat.le_of_not_lt fun hlt => ?_⟩
      · rw [z, Nat.zero_mul] at hEF
        have := Nat.mul_pos (Nat.two_pow_pos 52) (Nat.two_pow_pos E); omega
      · have h1 : c * 2 ^ F < 2 ^ 53 * 2 ^ F := Nat.mul_lt_mul_of_pos_right f1' (Nat.two_pow_pos _)
        have h2 : (2 : Nat) ^ 53 * 2 ^ F = 2 ^ 52 * 2 ^ (F + 1) := by rw [← Nat.pow_add, ← Nat.pow_add]; congr 1; omega
        have h3 : (2 : Nat) ^ 52 * 2 ^ (F + 1) ≤ 2 ^ 52 * 2 ^ E := Nat.mul_le_mul_left _ (Nat.pow_le_pow_right (by decide) hlt)
        omega
    obtain ⟨hc0, hEF⟩ := key _ _ hz2
    have hq : -52 ≤ q := by omega
    have ht : b64.tails ≤ c := by
      rcases f4 with z | z
      · rw [show b64.qmin = -1074 from rfl] at z; omega
      · exact z
    have hx : roundRatio b64 (decide (a.toInt < 0) != false) c 4503599627370496 (q - (r - 52)) = .fin (decide (a.toInt < 0) != false) c (q - r) := by
      refine roundRatio_exact good_b64 (by decide) ⟨f1, show (-1074 : Int) ≤ _ by omega, show _ ≤ (971 : Int) by omega, Or.inr ht⟩ ?_
      rw [show (q - (r - 52) - (q - r)).toNat = 52 by omega, show (q - r - (q - (r - 52))).toNat = 0 by omega, Nat.pow_zero, Nat.mul_one]
    rw [e1, own_quotient (by decide), hx]
    exact ⟨_, c, q - r, rfl, ⟨fun z => by omega, fun z => absurd z ha⟩, fun _ => by simp⟩
theorem own_pow62 : ∀ n : Fin 63, val64 (FP.l2d ((1 : Int64) <<< ((Int32.ofInt (n.val : Int)).toInt64 &&& 63))) = .fin false 4503599627370496 ((n.val : Int) - 52) := by decide +kernel
theorem own_pow {y : Int32} {j : Int64} {z : UInt64} (h0 : 0 ≤ y.toInt) (h1 : y.toInt ≤ 62) (hj : (1 : Int64) <<< (y.toInt64 &&& 63) = j) (hz : FP.l2d j = z) : val64 z = .fin false 4503599627370496 (y.toInt - 52) := by
  subst hj hz
  have e : Int32.ofInt ((y.toInt.toNat : Nat) : Int) = y := by rw [Int.toNat_of_nonneg h0]; exact Int32.ofInt_toInt y
  have q := own_pow62 ⟨y.toInt.toNat, by omega⟩
  rw [e] at q
  rw [q, Int.toNat_of_nonneg h0]
end OwnSign
theorem own_d_method_3_code_0 : decode method_3_code 0 = .ok (.lload_n 0, 1) := by decide +kernel
theorem own_d_method_3_code_1 : decode method_3_code 1 = .ok (.lconst 0, 1) := by decide +kernel
theorem own_d_method_3_code_2 : decode method_3_code 2 = .ok (.lcmp, 1) := by decide +kernel
theorem own_d_method_3_code_3 : decode method_3_code 3 = .ok (.ifCond .le 7, 3) := by decide +kernel
theorem own_d_method_3_code_6 : decode method_3_code 6 = .ok (.iconst 1, 1) := by decide +kernel
theorem own_d_method_3_code_7 : decode method_3_code 7 = .ok (.goto 4, 3) := by decide +kernel
theorem own_d_method_3_code_10 : decode method_3_code 10 = .ok (.iconst 0, 1) := by decide +kernel
theorem own_d_method_3_code_11 : decode method_3_code 11 = .ok (.ireturn, 1) := by decide +kernel
theorem own_pd0 : parseMethodDescriptor "(J)I" = some ⟨[.long], some .int⟩ := by decide +kernel
theorem own_pn0 : plainName "com/example/cladewalk/cladewalk/summary/SummariesFractionPositivePinLaw" = true := by first | (simp [plainName, overriddenIn]; done) | decide +kernel
abbrev own_rm_own_pos : Room := ({ frames := 0, cells := 0, slots := 0, locals := 0 } : Room)
set_option maxRecDepth 65536 in
set_option maxHeartbeats 40000000 in
theorem own_pos (l : Launch) (Z : State) (a0 : Array Value) (hw : ∀ d ∈ tables_1, d.before a0 Z = true) (y0 : Int64) (h0 : Heap) (n0 : Nat) (Z0 : n0 ≤ h0.size)  :
    own_Met l Z ({ cls := "com/example/cladewalk/cladewalk/summary/SummariesFractionPositivePinLaw", name := "pos", desc := "(J)I" } : Jvm.MethodName) method_3_code 2 (some .int) [] own_rm_own_pos #[(.long y0)] h0 n0 (fun v h => (∃ r, v = some (.int r) ∧ own_I 1 (if 0 < y0.toInt then 1 else 0) r) ∧ h = h0) := by
  refine own_meet (plainFor_of_name own_pn0) Z0 (Ls0 := #[.val (.long y0), .second]) (by intro m; first | (simp [entryFrame, mkF, argsToLocals, Value.category]; done) | rfl) ?_
  intro p e s m below meth c T0 X0
  refine own_lloadN X0 rfl own_d_method_3_code_0 (pc' := 1) rfl ?_
  refine own_lconst X0 (v := (0 : Int64)) (by decide) own_d_method_3_code_1 (pc' := 2) rfl ?_
  have f1 : own_L 0 (0 : Int) (0 : Int64) := own_L.lit (by decide) (by decide)
  refine own_lcmp X0 ((own_L.start y0).cmp f1) own_d_method_3_code_2 (pc' := 3) rfl ?_
  by_cases c2 : (0 : Int) < y0.toInt
  · -- yes c2
    refine own_ifF X0 (own_c3_gt c2).2 own_d_method_3_code_3 (pc' := 6) rfl ?_
    refine own_iconst X0 (v := (1 : Int32)) (by decide) own_d_method_3_code_6 (pc' := 7) rfl ?_
    refine own_goto X0 own_d_method_3_code_7 (pc' := 11) (by decide) (by decide) ?_
    exact own_retI X0  own_d_method_3_code_11 rfl (by decide) (by decide) ⟨⟨_, rfl, by rw [if_pos c2]; exact own_I.lit (by decide) (by decide)⟩, rfl⟩
  · -- no c2
    refine own_ifT X0 (own_c3_ngt c2).2 own_d_method_3_code_3 (pc' := 10) (by decide) (by decide) ?_
    refine own_iconst X0 (v := (0 : Int32)) (by decide) own_d_method_3_code_10 (pc' := 11) rfl ?_
    exact own_retI X0  own_d_method_3_code_11 rfl (by decide) (by decide) ⟨⟨_, rfl, by rw [if_neg c2]; exact own_I.lit (by decide) (by decide)⟩, rfl⟩
theorem own_d_prog_19_method_4_code_0 : decode prog_19_method_4_code 0 = .ok (.iconst 0, 1) := by decide +kernel
theorem own_d_prog_19_method_4_code_1 : decode prog_19_method_4_code 1 = .ok (.istore_n 1, 1) := by decide +kernel
theorem own_d_prog_19_method_4_code_2 : decode prog_19_method_4_code 2 = .ok (.aload_n 0, 1) := by decide +kernel
theorem own_d_prog_19_method_4_code_3 : decode prog_19_method_4_code 3 = .ok (.astore_n 2, 1) := by decide +kernel
theorem own_d_prog_19_method_4_code_4 : decode prog_19_method_4_code 4 = .ok (.aload_n 2, 1) := by decide +kernel
theorem own_d_prog_19_method_4_code_5 : decode prog_19_method_4_code 5 = .ok (.arraylength, 1) := by decide +kernel
theorem own_d_prog_19_method_4_code_6 : decode prog_19_method_4_code 6 = .ok (.istore_n 3, 1) := by decide +kernel
theorem own_d_prog_19_method_4_code_7 : decode prog_19_method_4_code 7 = .ok (.iconst 0, 1) := by decide +kernel
theorem own_d_prog_19_method_4_code_8 : decode prog_19_method_4_code 8 = .ok (.istore 4, 2) := by decide +kernel
theorem own_d_prog_19_method_4_code_10 : decode prog_19_method_4_code 10 = .ok (.iload 4, 2) := by decide +kernel
theorem own_d_prog_19_method_4_code_12 : decode prog_19_method_4_code 12 = .ok (.iload_n 3, 1) := by decide +kernel
theorem own_d_prog_19_method_4_code_13 : decode prog_19_method_4_code 13 = .ok (.if_icmp .ge 25, 3) := by decide +kernel
theorem own_d_prog_19_method_4_code_16 : decode prog_19_method_4_code 16 = .ok (.aload_n 2, 1) := by decide +kernel
theorem own_d_prog_19_method_4_code_17 : decode prog_19_method_4_code 17 = .ok (.iload 4, 2) := by decide +kernel
theorem own_d_prog_19_method_4_code_19 : decode prog_19_method_4_code 19 = .ok (.daload, 1) := by decide +kernel
theorem own_d_prog_19_method_4_code_20 : decode prog_19_method_4_code 20 = .ok (.dstore 5, 2) := by decide +kernel
theorem own_d_prog_19_method_4_code_22 : decode prog_19_method_4_code 22 = .ok (.dload 5, 2) := by decide +kernel
theorem own_d_prog_19_method_4_code_24 : decode prog_19_method_4_code 24 = .ok (.dconst 0, 1) := by decide +kernel
theorem own_d_prog_19_method_4_code_25 : decode prog_19_method_4_code 25 = .ok (.dcmp .l, 1) := by decide +kernel
theorem own_d_prog_19_method_4_code_26 : decode prog_19_method_4_code 26 = .ok (.ifCond .le 6, 3) := by decide +kernel
theorem own_d_prog_19_method_4_code_29 : decode prog_19_method_4_code 29 = .ok (.iinc 1 1, 3) := by decide +kernel
theorem own_d_prog_19_method_4_code_32 : decode prog_19_method_4_code 32 = .ok (.iinc 4 1, 3) := by decide +kernel
theorem own_d_prog_19_method_4_code_35 : decode prog_19_method_4_code 35 = .ok (.goto (-25), 3) := by decide +kernel
theorem own_d_prog_19_method_4_code_38 : decode prog_19_method_4_code 38 = .ok (.iload_n 1, 1) := by decide +kernel
theorem own_d_prog_19_method_4_code_39 : decode prog_19_method_4_code 39 = .ok (.i2d, 1) := by decide +kernel
theorem own_d_prog_19_method_4_code_40 : decode prog_19_method_4_code 40 = .ok (.aload_n 0, 1) := by decide +kernel
theorem own_d_prog_19_method_4_code_41 : decode prog_19_method_4_code 41 = .ok (.arraylength, 1) := by decide +kernel
theorem own_d_prog_19_method_4_code_42 : decode prog_19_method_4_code 42 = .ok (.i2d, 1) := by decide +kernel
theorem own_d_prog_19_method_4_code_43 : decode prog_19_method_4_code 43 = .ok (.ddiv, 1) := by decide +kernel
theorem own_d_prog_19_method_4_code_44 : decode prog_19_method_4_code 44 = .ok (.dreturn, 1) := by decide +kernel
theorem own_pd1 : parseMethodDescriptor "([D)D" = some ⟨[(.array .double)], some .double⟩ := by decide +kernel
theorem own_pn1 : plainName "com/example/cladewalk/cladewalk/summary/Summaries" = true := by first | (simp [plainName, overriddenIn]; done) | decide +kernel
abbrev own_rm_own_fp1 : Room := ({ frames := 0, cells := 0, slots := 0, locals := 0 } : Room)
set_option maxRecDepth 65536 in
set_option maxHeartbeats 40000000 in
theorem own_fp1 (l : Launch) (Z : State) (a0 : Array Value) (hw : ∀ d ∈ tables_1, d.before a0 Z = true) (a1 : Addr) (x0 : UInt64) (i_x0 : Int) (h0 : Heap) (n0 : Nat) (Z0 : n0 ≤ h0.size) (V1 : own_Vec Z h0 a1 .double [(.double x0)]) (S0 : own_S i_x0 x0) :
    own_Met l Z ({ cls := "com/example/cladewalk/cladewalk/summary/Summaries", name := "fractionPositive", desc := "([D)D" } : Jvm.MethodName) prog_19_method_4_code 7 (some .double) [] own_rm_own_fp1 #[(.ref a1)] h0 n0 (fun v h => (∃ r x z, v = some (.double r) ∧ own_D 0 4 ((if 0 < i_x0 then 1 else 0)) x ∧ own_D 0 1 (1 : Int) z ∧ FP.ddiv x z = r) ∧ h = h0) := by
  refine own_meet (plainFor_of_name own_pn1) Z0 (Ls0 := #[.val (.ref a1), .unset, .unset, .unset, .unset, .unset, .unset]) (by intro m; first | (simp [entryFrame, mkF, argsToLocals, Value.category]; done) | rfl) ?_
  intro p e s m below meth c T0 X0
  refine own_iconst X0 (v := (0 : Int32)) (by decide) own_d_prog_19_method_4_code_0 (pc' := 1) rfl ?_
  refine own_istoreN X0 (Ls' := #[.val (.ref a1), .val (.int (0 : Int32)), .unset, .unset, .unset, .unset, .unset]) rfl own_d_prog_19_method_4_code_1 (pc' := 2) rfl ?_
  refine own_aloadN X0 rfl rfl own_d_prog_19_method_4_code_2 (pc' := 3) rfl ?_
  refine own_astoreN X0 (Ls' := #[.val (.ref a1), .val (.int (0 : Int32)), .val (.ref a1), .unset, .unset, .unset, .unset]) rfl rfl own_d_prog_19_method_4_code_3 (pc' := 4) rfl ?_
  refine own_aloadN X0 rfl rfl own_d_prog_19_method_4_code_4 (pc' := 5) rfl ?_
  refine own_len X0 V1 (v := (1 : Int32)) (show (1 : Nat).toInt32 = (1 : Int32) by decide) own_d_prog_19_method_4_code_5 (pc' := 6) rfl ?_
  refine own_istoreN X0 (Ls' := #[.val (.ref a1), .val (.int (0 : Int32)), .val (.ref a1), .val (.int (1 : Int32)), .unset, .unset, .unset]) rfl own_d_prog_19_method_4_code_6 (pc' := 7) rfl ?_
  refine own_iconst X0 (v := (0 : Int32)) (by decide) own_d_prog_19_method_4_code_7 (pc' := 8) rfl ?_
  refine own_istore X0 (Ls' := #[.val (.ref a1), .val (.int (0 : Int32)), .val (.ref a1), .val (.int (1 : Int32)), .val (.int (0 : Int32)), .unset, .unset]) rfl own_d_prog_19_method_4_code_8 (pc' := 10) rfl ?_
  refine own_iload X0 rfl own_d_prog_19_method_4_code_10 (pc' := 12) rfl ?_
  refine own_iloadN X0 rfl own_d_prog_19_method_4_code_12 (pc' := 13) rfl ?_
  refine own_icmpF X0 (by decide) own_d_prog_19_method_4_code_13 (pc' := 16) rfl ?_
  refine own_aloadN X0 rfl rfl own_d_prog_19_method_4_code_16 (pc' := 17) rfl ?_
  refine own_iload X0 rfl own_d_prog_19_method_4_code_17 (pc' := 19) rfl ?_
  refine own_daload X0 V1 (i := 0) (by decide) (by decide) rfl own_d_prog_19_method_4_code_19 (pc' := 20) rfl ?_
  refine own_dstore X0 (Ls' := #[.val (.ref a1), .val (.int (0 : Int32)), .val (.ref a1), .val (.int (1 : Int32)), .val (.int (0 : Int32)), .val (.double x0), .second]) rfl own_d_prog_19_method_4_code_20 (pc' := 22) rfl ?_
  refine own_dload X0 rfl own_d_prog_19_method_4_code_22 (pc' := 24) rfl ?_
  refine own_dconst0 X0 (v := (0 : UInt64)) rfl own_d_prog_19_method_4_code_24 (pc' := 25) rfl ?_
  refine own_dcmp X0 S0.cmp0 own_d_prog_19_method_4_code_25 (pc' := 26) rfl ?_
  by_cases c3 : (0 : Int) < i_x0
  · -- yes c3
    refine own_ifF X0 (own_c3_gt c3).2 own_d_prog_19_method_4_code_26 (pc' := 29) rfl ?_
    refine own_iinc X0 (Ls' := #[.val (.ref a1), .val (.int (1 : Int32)), .val (.ref a1), .val (.int (1 : Int32)), .val (.int (0 : Int32)), .val (.double x0), .second]) rfl (by decide) rfl own_d_prog_19_method_4_code_29 (pc' := 32) rfl ?_
    refine own_iinc X0 (Ls' := #[.val (.ref a1), .val (.int (1 : Int32)), .val (.ref a1), .val (.int (1 : Int32)), .val (.int (1 : Int32)), .val (.double x0), .second]) rfl (by decide) rfl own_d_prog_19_method_4_code_32 (pc' := 35) rfl ?_
    refine own_goto X0 own_d_prog_19_method_4_code_35 (pc' := 10) (by decide) (by decide) ?_
    refine own_iload X0 rfl own_d_prog_19_method_4_code_10 (pc' := 12) rfl ?_
    refine own_iloadN X0 rfl own_d_prog_19_method_4_code_12 (pc' := 13) rfl ?_
    refine own_icmpT X0 (by decide) own_d_prog_19_method_4_code_13 (pc' := 38) (by decide) (by decide) ?_
    refine own_iloadN X0 rfl own_d_prog_19_method_4_code_38 (pc' := 39) rfl ?_
    have f4 : own_I 1 (1 : Int) (1 : Int32) := own_I.lit (by decide) (by decide)
    obtain ⟨d5, e5⟩ : ∃ v, FP.i2d (1 : Int32) = v := ⟨_, rfl⟩
    have f5 : own_D 0 1 (1 : Int) d5 := own_D.i2d f4 e5
    refine own_i2d X0 e5 own_d_prog_19_method_4_code_39 (pc' := 40) rfl ?_
    refine own_aloadN X0 rfl rfl own_d_prog_19_method_4_code_40 (pc' := 41) rfl ?_
    refine own_len X0 V1 (v := (1 : Int32)) (show (1 : Nat).toInt32 = (1 : Int32) by decide) own_d_prog_19_method_4_code_41 (pc' := 42) rfl ?_
    have f6 : own_I 1 (1 : Int) (1 : Int32) := own_I.lit (by decide) (by decide)
    obtain ⟨d7, e7⟩ : ∃ v, FP.i2d (1 : Int32) = v := ⟨_, rfl⟩
    have f7 : own_D 0 1 (1 : Int) d7 := own_D.i2d f6 e7
    refine own_i2d X0 e7 own_d_prog_19_method_4_code_42 (pc' := 43) rfl ?_
    obtain ⟨d9, e9⟩ : ∃ v, FP.ddiv d5 d7 = v := ⟨_, rfl⟩
    have q9 := own_quot_nn f5 f7 (by decide) e9
    refine own_ddiv X0 e9 q9 own_d_prog_19_method_4_code_43 (pc' := 44) rfl ?_
    have q10 : own_D 0 4 ((if 0 < i_x0 then 1 else 0)) d5 := (f5.mono (by decide)).of_eq (by simp [c3])
    exact own_retD X0  own_d_prog_19_method_4_code_44 rfl (by decide) (by decide) ⟨⟨_, _, _, rfl, q10, f7, e9⟩, rfl⟩
  · -- no c3
    refine own_ifT X0 (own_c3_ngt c3).2 own_d_prog_19_method_4_code_26 (pc' := 32) (by decide) (by decide) ?_
    refine own_iinc X0 (Ls' := #[.val (.ref a1), .val (.int (0 : Int32)), .val (.ref a1), .val (.int (1 : Int32)), .val (.int (1 : Int32)), .val (.double x0), .second]) rfl (by decide) rfl own_d_prog_19_method_4_code_32 (pc' := 35) rfl ?_
    refine own_goto X0 own_d_prog_19_method_4_code_35 (pc' := 10) (by decide) (by decide) ?_
    refine own_iload X0 rfl own_d_prog_19_method_4_code_10 (pc' := 12) rfl ?_
    refine own_iloadN X0 rfl own_d_prog_19_method_4_code_12 (pc' := 13) rfl ?_
    refine own_icmpT X0 (by decide) own_d_prog_19_method_4_code_13 (pc' := 38) (by decide) (by decide) ?_
    refine own_iloadN X0 rfl own_d_prog_19_method_4_code_38 (pc' := 39) rfl ?_
    have f11 : own_I 0 (0 : Int) (0 : Int32) := own_I.lit (by decide) (by decide)
    obtain ⟨d12, e12⟩ : ∃ v, FP.i2d (0 : Int32) = v := ⟨_, rfl⟩
    have f12 : own_D 0 0 (0 : Int) d12 := own_D.i2d f11 e12
    refine own_i2d X0 e12 own_d_prog_19_method_4_code_39 (pc' := 40) rfl ?_
    refine own_aloadN X0 rfl rfl own_d_prog_19_method_4_code_40 (pc' := 41) rfl ?_
    refine own_len X0 V1 (v := (1 : Int32)) (show (1 : Nat).toInt32 = (1 : Int32) by decide) own_d_prog_19_method_4_code_41 (pc' := 42) rfl ?_
    have f13 : own_I 1 (1 : Int) (1 : Int32) := own_I.lit (by decide) (by decide)
    obtain ⟨d14, e14⟩ : ∃ v, FP.i2d (1 : Int32) = v := ⟨_, rfl⟩
    have f14 : own_D 0 1 (1 : Int) d14 := own_D.i2d f13 e14
    refine own_i2d X0 e14 own_d_prog_19_method_4_code_42 (pc' := 43) rfl ?_
    obtain ⟨d16, e16⟩ : ∃ v, FP.ddiv d12 d14 = v := ⟨_, rfl⟩
    have q16 := own_quot_nn f12 f14 (by decide) e16
    refine own_ddiv X0 e16 q16 own_d_prog_19_method_4_code_43 (pc' := 44) rfl ?_
    have q17 : own_D 0 4 ((if 0 < i_x0 then 1 else 0)) d12 := (f12.mono (by decide)).of_eq (by simp [c3])
    exact own_retD X0  own_d_prog_19_method_4_code_44 rfl (by decide) (by decide) ⟨⟨_, _, _, rfl, q17, f14, e16⟩, rfl⟩
abbrev own_rm_own_fp2 : Room := ({ frames := 0, cells := 0, slots := 0, locals := 0 } : Room)
set_option maxRecDepth 65536 in
set_option maxHeartbeats 40000000 in
theorem own_fp2 (l : Launch) (Z : State) (a0 : Array Value) (hw : ∀ d ∈ tables_1, d.before a0 Z = true) (a1 : Addr) (x0 : UInt64) (i_x0 : Int) (x1 : UInt64) (i_x1 : Int) (h0 : Heap) (n0 : Nat) (Z0 : n0 ≤ h0.size) (V1 : own_Vec Z h0 a1 .double [(.double x0), (.double x1)]) (S0 : own_S i_x0 x0) (S1 : own_S i_x1 x1) :
    own_Met l Z ({ cls := "com/example/cladewalk/cladewalk/summary/Summaries", name := "fractionPositive", desc := "([D)D" } : Jvm.MethodName) prog_19_method_4_code 7 (some .double) [] own_rm_own_fp2 #[(.ref a1)] h0 n0 (fun v h => (∃ r x z, v = some (.double r) ∧ own_D 0 4 ((if 0 < i_x0 then 1 else 0) + (if 0 < i_x1 then 1 else 0)) x ∧ own_D 0 2 (2 : Int) z ∧ FP.ddiv x z = r) ∧ h = h0) := by
  refine own_meet (plainFor_of_name own_pn1) Z0 (Ls0 := #[.val (.ref a1), .unset, .unset, .unset, .unset, .unset, .unset]) (by intro m; first | (simp [entryFrame, mkF, argsToLocals, Value.category]; done) | rfl) ?_
  intro p e s m below meth c T0 X0
  refine own_iconst X0 (v := (0 : Int32)) (by decide) own_d_prog_19_method_4_code_0 (pc' := 1) rfl ?_
  refine own_istoreN X0 (Ls' := #[.val (.ref a1), .val (.int (0 : Int32)), .unset, .unset, .unset, .unset, .unset]) rfl own_d_prog_19_method_4_code_1 (pc' := 2) rfl ?_
  refine own_aloadN X0 rfl rfl own_d_prog_19_method_4_code_2 (pc' := 3) rfl ?_
  refine own_astoreN X0 (Ls' := #[.val (.ref a1), .val (.int (0 : Int32)), .val (.ref a1), .unset, .unset, .unset, .unset]) rfl rfl own_d_prog_19_method_4_code_3 (pc' := 4) rfl ?_
  refine own_aloadN X0 rfl rfl own_d_prog_19_method_4_code_4 (pc' := 5) rfl ?_
  refine own_len X0 V1 (v := (2 : Int32)) (show (2 : Nat).toInt32 = (2 : Int32) by decide) own_d_prog_19_method_4_code_5 (pc' := 6) rfl ?_
  refine own_istoreN X0 (Ls' := #[.val (.ref a1), .val (.int (0 : Int32)), .val (.ref a1), .val (.int (2 : Int32)), .unset, .unset, .unset]) rfl own_d_prog_19_method_4_code_6 (pc' := 7) rfl ?_
  refine own_iconst X0 (v := (0 : Int32)) (by decide) own_d_prog_19_method_4_code_7 (pc' := 8) rfl ?_
  refine own_istore X0 (Ls' := #[.val (.ref a1), .val (.int (0 : Int32)), .val (.ref a1), .val (.int (2 : Int32)), .val (.int (0 : Int32)), .unset, .unset]) rfl own_d_prog_19_method_4_code_8 (pc' := 10) rfl ?_
  refine own_iload X0 rfl own_d_prog_19_method_4_code_10 (pc' := 12) rfl ?_
  refine own_iloadN X0 rfl own_d_prog_19_method_4_code_12 (pc' := 13) rfl ?_
  refine own_icmpF X0 (by decide) own_d_prog_19_method_4_code_13 (pc' := 16) rfl ?_
  refine own_aloadN X0 rfl rfl own_d_prog_19_method_4_code_16 (pc' := 17) rfl ?_
  refine own_iload X0 rfl own_d_prog_19_method_4_code_17 (pc' := 19) rfl ?_
  refine own_daload X0 V1 (i := 0) (by decide) (by decide) rfl own_d_prog_19_method_4_code_19 (pc' := 20) rfl ?_
  refine own_dstore X0 (Ls' := #[.val (.ref a1), .val (.int (0 : Int32)), .val (.ref a1), .val (.int (2 : Int32)), .val (.int (0 : Int32)), .val (.double x0), .second]) rfl own_d_prog_19_method_4_code_20 (pc' := 22) rfl ?_
  refine own_dload X0 rfl own_d_prog_19_method_4_code_22 (pc' := 24) rfl ?_
  refine own_dconst0 X0 (v := (0 : UInt64)) rfl own_d_prog_19_method_4_code_24 (pc' := 25) rfl ?_
  refine own_dcmp X0 S0.cmp0 own_d_prog_19_method_4_code_25 (pc' := 26) rfl ?_
  by_cases c18 : (0 : Int) < i_x0
  · -- yes c18
    refine own_ifF X0 (own_c3_gt c18).2 own_d_prog_19_method_4_code_26 (pc' := 29) rfl ?_
    refine own_iinc X0 (Ls' := #[.val (.ref a1), .val (.int (1 : Int32)), .val (.ref a1), .val (.int (2 : Int32)), .val (.int (0 : Int32)), .val (.double x0), .second]) rfl (by decide) rfl own_d_prog_19_method_4_code_29 (pc' := 32) rfl ?_
    refine own_iinc X0 (Ls' := #[.val (.ref a1), .val (.int (1 : Int32)), .val (.ref a1), .val (.int (2 : Int32)), .val (.int (1 : Int32)), .val (.double x0), .second]) rfl (by decide) rfl own_d_prog_19_method_4_code_32 (pc' := 35) rfl ?_
    refine own_goto X0 own_d_prog_19_method_4_code_35 (pc' := 10) (by decide) (by decide) ?_
    refine own_iload X0 rfl own_d_prog_19_method_4_code_10 (pc' := 12) rfl ?_
    refine own_iloadN X0 rfl own_d_prog_19_method_4_code_12 (pc' := 13) rfl ?_
    refine own_icmpF X0 (by decide) own_d_prog_19_method_4_code_13 (pc' := 16) rfl ?_
    refine own_aloadN X0 rfl rfl own_d_prog_19_method_4_code_16 (pc' := 17) rfl ?_
    refine own_iload X0 rfl own_d_prog_19_method_4_code_17 (pc' := 19) rfl ?_
    refine own_daload X0 V1 (i := 1) (by decide) (by decide) rfl own_d_prog_19_method_4_code_19 (pc' := 20) rfl ?_
    refine own_dstore X0 (Ls' := #[.val (.ref a1), .val (.int (1 : Int32)), .val (.ref a1), .val (.int (2 : Int32)), .val (.int (1 : Int32)), .val (.double x1), .second]) rfl own_d_prog_19_method_4_code_20 (pc' := 22) rfl ?_
    refine own_dload X0 rfl own_d_prog_19_method_4_code_22 (pc' := 24) rfl ?_
    refine own_dconst0 X0 (v := (0 : UInt64)) rfl own_d_prog_19_method_4_code_24 (pc' := 25) rfl ?_
    refine own_dcmp X0 S1.cmp0 own_d_prog_19_method_4_code_25 (pc' := 26) rfl ?_
    by_cases c19 : (0 : Int) < i_x1
    · -- yes c19
      refine own_ifF X0 (own_c3_gt c19).2 own_d_prog_19_method_4_code_26 (pc' := 29) rfl ?_
      refine own_iinc X0 (Ls' := #[.val (.ref a1), .val (.int (2 : Int32)), .val (.ref a1), .val (.int (2 : Int32)), .val (.int (1 : Int32)), .val (.double x1), .second]) rfl (by decide) rfl own_d_prog_19_method_4_code_29 (pc' := 32) rfl ?_
      refine own_iinc X0 (Ls' := #[.val (.ref a1), .val (.int (2 : Int32)), .val (.ref a1), .val (.int (2 : Int32)), .val (.int (2 : Int32)), .val (.double x1), .second]) rfl (by decide) rfl own_d_prog_19_method_4_code_32 (pc' := 35) rfl ?_
      refine own_goto X0 own_d_prog_19_method_4_code_35 (pc' := 10) (by decide) (by decide) ?_
      refine own_iload X0 rfl own_d_prog_19_method_4_code_10 (pc' := 12) rfl ?_
      refine own_iloadN X0 rfl own_d_prog_19_method_4_code_12 (pc' := 13) rfl ?_
      refine own_icmpT X0 (by decide) own_d_prog_19_method_4_code_13 (pc' := 38) (by decide) (by decide) ?_
      refine own_iloadN X0 rfl own_d_prog_19_method_4_code_38 (pc' := 39) rfl ?_
      have f20 : own_I 2 (2 : Int) (2 : Int32) := own_I.lit (by decide) (by decide)
      obtain ⟨d21, e21⟩ : ∃ v, FP.i2d (2 : Int32) = v := ⟨_, rfl⟩
      have f21 : own_D 0 2 (2 : Int) d21 := own_D.i2d f20 e21
      refine own_i2d X0 e21 own_d_prog_19_method_4_code_39 (pc' := 40) rfl ?_
      refine own_aloadN X0 rfl rfl own_d_prog_19_method_4_code_40 (pc' := 41) rfl ?_
      refine own_len X0 V1 (v := (2 : Int32)) (show (2 : Nat).toInt32 = (2 : Int32) by decide) own_d_prog_19_method_4_code_41 (pc' := 42) rfl ?_
      have f22 : own_I 2 (2 : Int) (2 : Int32) := own_I.lit (by decide) (by decide)
      obtain ⟨d23, e23⟩ : ∃ v, FP.i2d (2 : Int32) = v := ⟨_, rfl⟩
      have f23 : own_D 0 2 (2 : Int) d23 := own_D.i2d f22 e23
      refine own_i2d X0 e23 own_d_prog_19_method_4_code_42 (pc' := 43) rfl ?_
      obtain ⟨d25, e25⟩ : ∃ v, FP.ddiv d21 d23 = v := ⟨_, rfl⟩
      have q25 := own_quot_nn f21 f23 (by decide) e25
      refine own_ddiv X0 e25 q25 own_d_prog_19_method_4_code_43 (pc' := 44) rfl ?_
      have q26 : own_D 0 4 ((if 0 < i_x0 then 1 else 0) + (if 0 < i_x1 then 1 else 0)) d21 := (f21.mono (by decide)).of_eq (by simp [c18, c19])
      exact own_retD X0  own_d_prog_19_method_4_code_44 rfl (by decide) (by decide) ⟨⟨_, _, _, rfl, q26, f23, e25⟩, rfl⟩
    · -- no c19
      refine own_ifT X0 (own_c3_ngt c19).2 own_d_prog_19_method_4_code_26 (pc' := 32) (by decide) (by decide) ?_
      refine own_iinc X0 (Ls' := #[.val (.ref a1), .val (.int (1 : Int32)), .val (.ref a1), .val (.int (2 : Int32)), .val (.int (2 : Int32)), .val (.double x1), .second]) rfl (by decide) rfl own_d_prog_19_method_4_code_32 (pc' := 35) rfl ?_
      refine own_goto X0 own_d_prog_19_method_4_code_35 (pc' := 10) (by decide) (by decide) ?_
      refine own_iload X0 rfl own_d_prog_19_method_4_code_10 (pc' := 12) rfl ?_
      refine own_iloadN X0 rfl own_d_prog_19_method_4_code_12 (pc' := 13) rfl ?_
      refine own_icmpT X0 (by decide) own_d_prog_19_method_4_code_13 (pc' := 38) (by decide) (by decide) ?_
      refine own_iloadN X0 rfl own_d_prog_19_method_4_code_38 (pc' := 39) rfl ?_
      have f27 : own_I 1 (1 : Int) (1 : Int32) := own_I.lit (by decide) (by decide)
      obtain ⟨d28, e28⟩ : ∃ v, FP.i2d (1 : Int32) = v := ⟨_, rfl⟩
      have f28 : own_D 0 1 (1 : Int) d28 := own_D.i2d f27 e28
      refine own_i2d X0 e28 own_d_prog_19_method_4_code_39 (pc' := 40) rfl ?_
      refine own_aloadN X0 rfl rfl own_d_prog_19_method_4_code_40 (pc' := 41) rfl ?_
      refine own_len X0 V1 (v := (2 : Int32)) (show (2 : Nat).toInt32 = (2 : Int32) by decide) own_d_prog_19_method_4_code_41 (pc' := 42) rfl ?_
      have f29 : own_I 2 (2 : Int) (2 : Int32) := own_I.lit (by decide) (by decide)
      obtain ⟨d30, e30⟩ : ∃ v, FP.i2d (2 : Int32) = v := ⟨_, rfl⟩
      have f30 : own_D 0 2 (2 : Int) d30 := own_D.i2d f29 e30
      refine own_i2d X0 e30 own_d_prog_19_method_4_code_42 (pc' := 43) rfl ?_
      obtain ⟨d32, e32⟩ : ∃ v, FP.ddiv d28 d30 = v := ⟨_, rfl⟩
      have q32 := own_quot_nn f28 f30 (by decide) e32
      refine own_ddiv X0 e32 q32 own_d_prog_19_method_4_code_43 (pc' := 44) rfl ?_
      have q33 : own_D 0 4 ((if 0 < i_x0 then 1 else 0) + (if 0 < i_x1 then 1 else 0)) d28 := (f28.mono (by decide)).of_eq (by simp [c18, c19])
      exact own_retD X0  own_d_prog_19_method_4_code_44 rfl (by decide) (by decide) ⟨⟨_, _, _, rfl, q33, f30, e32⟩, rfl⟩
  · -- no c18
    refine own_ifT X0 (own_c3_ngt c18).2 own_d_prog_19_method_4_code_26 (pc' := 32) (by decide) (by decide) ?_
    refine own_iinc X0 (Ls' := #[.val (.ref a1), .val (.int (0 : Int32)), .val (.ref a1), .val (.int (2 : Int32)), .val (.int (1 : Int32)), .val (.double x0), .second]) rfl (by decide) rfl own_d_prog_19_method_4_code_32 (pc' := 35) rfl ?_
    refine own_goto X0 own_d_prog_19_method_4_code_35 (pc' := 10) (by decide) (by decide) ?_
    refine own_iload X0 rfl own_d_prog_19_method_4_code_10 (pc' := 12) rfl ?_
    refine own_iloadN X0 rfl own_d_prog_19_method_4_code_12 (pc' := 13) rfl ?_
    refine own_icmpF X0 (by decide) own_d_prog_19_method_4_code_13 (pc' := 16) rfl ?_
    refine own_aloadN X0 rfl rfl own_d_prog_19_method_4_code_16 (pc' := 17) rfl ?_
    refine own_iload X0 rfl own_d_prog_19_method_4_code_17 (pc' := 19) rfl ?_
    refine own_daload X0 V1 (i := 1) (by decide) (by decide) rfl own_d_prog_19_method_4_code_19 (pc' := 20) rfl ?_
    refine own_dstore X0 (Ls' := #[.val (.ref a1), .val (.int (0 : Int32)), .val (.ref a1), .val (.int (2 : Int32)), .val (.int (1 : Int32)), .val (.double x1), .second]) rfl own_d_prog_19_method_4_code_20 (pc' := 22) rfl ?_
    refine own_dload X0 rfl own_d_prog_19_method_4_code_22 (pc' := 24) rfl ?_
    refine own_dconst0 X0 (v := (0 : UInt64)) rfl own_d_prog_19_method_4_code_24 (pc' := 25) rfl ?_
    refine own_dcmp X0 S1.cmp0 own_d_prog_19_method_4_code_25 (pc' := 26) rfl ?_
    by_cases c34 : (0 : Int) < i_x1
    · -- yes c34
      refine own_ifF X0 (own_c3_gt c34).2 own_d_prog_19_method_4_code_26 (pc' := 29) rfl ?_
      refine own_iinc X0 (Ls' := #[.val (.ref a1), .val (.int (1 : Int32)), .val (.ref a1), .val (.int (2 : Int32)), .val (.int (1 : Int32)), .val (.double x1), .second]) rfl (by decide) rfl own_d_prog_19_method_4_code_29 (pc' := 32) rfl ?_
      refine own_iinc X0 (Ls' := #[.val (.ref a1), .val (.int (1 : Int32)), .val (.ref a1), .val (.int (2 : Int32)), .val (.int (2 : Int32)), .val (.double x1), .second]) rfl (by decide) rfl own_d_prog_19_method_4_code_32 (pc' := 35) rfl ?_
      refine own_goto X0 own_d_prog_19_method_4_code_35 (pc' := 10) (by decide) (by decide) ?_
      refine own_iload X0 rfl own_d_prog_19_method_4_code_10 (pc' := 12) rfl ?_
      refine own_iloadN X0 rfl own_d_prog_19_method_4_code_12 (pc' := 13) rfl ?_
      refine own_icmpT X0 (by decide) own_d_prog_19_method_4_code_13 (pc' := 38) (by decide) (by decide) ?_
      refine own_iloadN X0 rfl own_d_prog_19_method_4_code_38 (pc' := 39) rfl ?_
      have f35 : own_I 1 (1 : Int) (1 : Int32) := own_I.lit (by decide) (by decide)
      obtain ⟨d36, e36⟩ : ∃ v, FP.i2d (1 : Int32) = v := ⟨_, rfl⟩
      have f36 : own_D 0 1 (1 : Int) d36 := own_D.i2d f35 e36
      refine own_i2d X0 e36 own_d_prog_19_method_4_code_39 (pc' := 40) rfl ?_
      refine own_aloadN X0 rfl rfl own_d_prog_19_method_4_code_40 (pc' := 41) rfl ?_
      refine own_len X0 V1 (v := (2 : Int32)) (show (2 : Nat).toInt32 = (2 : Int32) by decide) own_d_prog_19_method_4_code_41 (pc' := 42) rfl ?_
      have f37 : own_I 2 (2 : Int) (2 : Int32) := own_I.lit (by decide) (by decide)
      obtain ⟨d38, e38⟩ : ∃ v, FP.i2d (2 : Int32) = v := ⟨_, rfl⟩
      have f38 : own_D 0 2 (2 : Int) d38 := own_D.i2d f37 e38
      refine own_i2d X0 e38 own_d_prog_19_method_4_code_42 (pc' := 43) rfl ?_
      obtain ⟨d40, e40⟩ : ∃ v, FP.ddiv d36 d38 = v := ⟨_, rfl⟩
      have q40 := own_quot_nn f36 f38 (by decide) e40
      refine own_ddiv X0 e40 q40 own_d_prog_19_method_4_code_43 (pc' := 44) rfl ?_
      have q41 : own_D 0 4 ((if 0 < i_x0 then 1 else 0) + (if 0 < i_x1 then 1 else 0)) d36 := (f36.mono (by decide)).of_eq (by simp [c18, c34])
      exact own_retD X0  own_d_prog_19_method_4_code_44 rfl (by decide) (by decide) ⟨⟨_, _, _, rfl, q41, f38, e40⟩, rfl⟩
    · -- no c34
      refine own_ifT X0 (own_c3_ngt c34).2 own_d_prog_19_method_4_code_26 (pc' := 32) (by decide) (by decide) ?_
      refine own_iinc X0 (Ls' := #[.val (.ref a1), .val (.int (0 : Int32)), .val (.ref a1), .val (.int (2 : Int32)), .val (.int (2 : Int32)), .val (.double x1), .second]) rfl (by decide) rfl own_d_prog_19_method_4_code_32 (pc' := 35) rfl ?_
      refine own_goto X0 own_d_prog_19_method_4_code_35 (pc' := 10) (by decide) (by decide) ?_
      refine own_iload X0 rfl own_d_prog_19_method_4_code_10 (pc' := 12) rfl ?_
      refine own_iloadN X0 rfl own_d_prog_19_method_4_code_12 (pc' := 13) rfl ?_
      refine own_icmpT X0 (by decide) own_d_prog_19_method_4_code_13 (pc' := 38) (by decide) (by decide) ?_
      refine own_iloadN X0 rfl own_d_prog_19_method_4_code_38 (pc' := 39) rfl ?_
      have f42 : own_I 0 (0 : Int) (0 : Int32) := own_I.lit (by decide) (by decide)
      obtain ⟨d43, e43⟩ : ∃ v, FP.i2d (0 : Int32) = v := ⟨_, rfl⟩
      have f43 : own_D 0 0 (0 : Int) d43 := own_D.i2d f42 e43
      refine own_i2d X0 e43 own_d_prog_19_method_4_code_39 (pc' := 40) rfl ?_
      refine own_aloadN X0 rfl rfl own_d_prog_19_method_4_code_40 (pc' := 41) rfl ?_
      refine own_len X0 V1 (v := (2 : Int32)) (show (2 : Nat).toInt32 = (2 : Int32) by decide) own_d_prog_19_method_4_code_41 (pc' := 42) rfl ?_
      have f44 : own_I 2 (2 : Int) (2 : Int32) := own_I.lit (by decide) (by decide)
      obtain ⟨d45, e45⟩ : ∃ v, FP.i2d (2 : Int32) = v := ⟨_, rfl⟩
      have f45 : own_D 0 2 (2 : Int) d45 := own_D.i2d f44 e45
      refine own_i2d X0 e45 own_d_prog_19_method_4_code_42 (pc' := 43) rfl ?_
      obtain ⟨d47, e47⟩ : ∃ v, FP.ddiv d43 d45 = v := ⟨_, rfl⟩
      have q47 := own_quot_nn f43 f45 (by decide) e47
      refine own_ddiv X0 e47 q47 own_d_prog_19_method_4_code_43 (pc' := 44) rfl ?_
      have q48 : own_D 0 4 ((if 0 < i_x0 then 1 else 0) + (if 0 < i_x1 then 1 else 0)) d43 := (f43.mono (by decide)).of_eq (by simp [c18, c34])
      exact own_retD X0  own_d_prog_19_method_4_code_44 rfl (by decide) (by decide) ⟨⟨_, _, _, rfl, q48, f45, e47⟩, rfl⟩
abbrev own_rm_own_fp3 : Room := ({ frames := 0, cells := 0, slots := 0, locals := 0 } : Room)
set_option maxRecDepth 65536 in
set_option maxHeartbeats 40000000 in
theorem own_fp3 (l : Launch) (Z : State) (a0 : Array Value) (hw : ∀ d ∈ tables_1, d.before a0 Z = true) (a1 : Addr) (x0 : UInt64) (i_x0 : Int) (x1 : UInt64) (i_x1 : Int) (x2 : UInt64) (i_x2 : Int) (h0 : Heap) (n0 : Nat) (Z0 : n0 ≤ h0.size) (V1 : own_Vec Z h0 a1 .double [(.double x0), (.double x1), (.double x2)]) (S0 : own_S i_x0 x0) (S1 : own_S i_x1 x1) (S2 : own_S i_x2 x2) :
    own_Met l Z ({ cls := "com/example/cladewalk/cladewalk/summary/Summaries", name := "fractionPositive", desc := "([D)D" } : Jvm.MethodName) prog_19_method_4_code 7 (some .double) [] own_rm_own_fp3 #[(.ref a1)] h0 n0 (fun v h => (∃ r x z, v = some (.double r) ∧ own_D 0 4 ((if 0 < i_x0 then 1 else 0) + (if 0 < i_x1 then 1 else 0) + (if 0 < i_x2 then 1 else 0)) x ∧ own_D 0 3 (3 : Int) z ∧ FP.ddiv x z = r) ∧ h = h0) := by
  refine own_meet (plainFor_of_name own_pn1) Z0 (Ls0 := #[.val (.ref a1), .unset, .unset, .unset, .unset, .unset, .unset]) (by intro m; first | (simp [entryFrame, mkF, argsToLocals, Value.category]; done) | rfl) ?_
  intro p e s m below meth c T0 X0
  refine own_iconst X0 (v := (0 : Int32)) (by decide) own_d_prog_19_method_4_code_0 (pc' := 1) rfl ?_
  refine own_istoreN X0 (Ls' := #[.val (.ref a1), .val (.int (0 : Int32)), .unset, .unset, .unset, .unset, .unset]) rfl own_d_prog_19_method_4_code_1 (pc' := 2) rfl ?_
  refine own_aloadN X0 rfl rfl own_d_prog_19_method_4_code_2 (pc' := 3) rfl ?_
  refine own_astoreN X0 (Ls' := #[.val (.ref a1), .val (.int (0 : Int32)), .val (.ref a1), .unset, .unset, .unset, .unset]) rfl rfl own_d_prog_19_method_4_code_3 (pc' := 4) rfl ?_
  refine own_aloadN X0 rfl rfl own_d_prog_19_method_4_code_4 (pc' := 5) rfl ?_
  refine own_len X0 V1 (v := (3 : Int32)) (show (3 : Nat).toInt32 = (3 : Int32) by decide) own_d_prog_19_method_4_code_5 (pc' := 6) rfl ?_
  refine own_istoreN X0 (Ls' := #[.val (.ref a1), .val (.int (0 : Int32)), .val (.ref a1), .val (.int (3 : Int32)), .unset, .unset, .unset]) rfl own_d_prog_19_method_4_code_6 (pc' := 7) rfl ?_
  refine own_iconst X0 (v := (0 : Int32)) (by decide) own_d_prog_19_method_4_code_7 (pc' := 8) rfl ?_
  refine own_istore X0 (Ls' := #[.val (.ref a1), .val (.int (0 : Int32)), .val (.ref a1), .val (.int (3 : Int32)), .val (.int (0 : Int32)), .unset, .unset]) rfl own_d_prog_19_method_4_code_8 (pc' := 10) rfl ?_
  refine own_iload X0 rfl own_d_prog_19_method_4_code_10 (pc' := 12) rfl ?_
  refine own_iloadN X0 rfl own_d_prog_19_method_4_code_12 (pc' := 13) rfl ?_
  refine own_icmpF X0 (by decide) own_d_prog_19_method_4_code_13 (pc' := 16) rfl ?_
  refine own_aloadN X0 rfl rfl own_d_prog_19_method_4_code_16 (pc' := 17) rfl ?_
  refine own_iload X0 rfl own_d_prog_19_method_4_code_17 (pc' := 19) rfl ?_
  refine own_daload X0 V1 (i := 0) (by decide) (by decide) rfl own_d_prog_19_method_4_code_19 (pc' := 20) rfl ?_
  refine own_dstore X0 (Ls' := #[.val (.ref a1), .val (.int (0 : Int32)), .val (.ref a1), .val (.int (3 : Int32)), .val (.int (0 : Int32)), .val (.double x0), .second]) rfl own_d_prog_19_method_4_code_20 (pc' := 22) rfl ?_
  refine own_dload X0 rfl own_d_prog_19_method_4_code_22 (pc' := 24) rfl ?_
  refine own_dconst0 X0 (v := (0 : UInt64)) rfl own_d_prog_19_method_4_code_24 (pc' := 25) rfl ?_
  refine own_dcmp X0 S0.cmp0 own_d_prog_19_method_4_code_25 (pc' := 26) rfl ?_
  by_cases c49 : (0 : Int) < i_x0
  · -- yes c49
    refine own_ifF X0 (own_c3_gt c49).2 own_d_prog_19_method_4_code_26 (pc' := 29) rfl ?_
    refine own_iinc X0 (Ls' := #[.val (.ref a1), .val (.int (1 : Int32)), .val (.ref a1), .val (.int (3 : Int32)), .val (.int (0 : Int32)), .val (.double x0), .second]) rfl (by decide) rfl own_d_prog_19_method_4_code_29 (pc' := 32) rfl ?_
    refine own_iinc X0 (Ls' := #[.val (.ref a1), .val (.int (1 : Int32)), .val (.ref a1), .val (.int (3 : Int32)), .val (.int (1 : Int32)), .val (.double x0), .second]) rfl (by decide) rfl own_d_prog_19_method_4_code_32 (pc' := 35) rfl ?_
    refine own_goto X0 own_d_prog_19_method_4_code_35 (pc' := 10) (by decide) (by decide) ?_
    refine own_iload X0 rfl own_d_prog_19_method_4_code_10 (pc' := 12) rfl ?_
    refine own_iloadN X0 rfl own_d_prog_19_method_4_code_12 (pc' := 13) rfl ?_
    refine own_icmpF X0 (by decide) own_d_prog_19_method_4_code_13 (pc' := 16) rfl ?_
    refine own_aloadN X0 rfl rfl own_d_prog_19_method_4_code_16 (pc' := 17) rfl ?_
    refine own_iload X0 rfl own_d_prog_19_method_4_code_17 (pc' := 19) rfl ?_
    refine own_daload X0 V1 (i := 1) (by decide) (by decide) rfl own_d_prog_19_method_4_code_19 (pc' := 20) rfl ?_
    refine own_dstore X0 (Ls' := #[.val (.ref a1), .val (.int (1 : Int32)), .val (.ref a1), .val (.int (3 : Int32)), .val (.int (1 : Int32)), .val (.double x1), .second]) rfl own_d_prog_19_method_4_code_20 (pc' := 22) rfl ?_
    refine own_dload X0 rfl own_d_prog_19_method_4_code_22 (pc' := 24) rfl ?_
    refine own_dconst0 X0 (v := (0 : UInt64)) rfl own_d_prog_19_method_4_code_24 (pc' := 25) rfl ?_
    refine own_dcmp X0 S1.cmp0 own_d_prog_19_method_4_code_25 (pc' := 26) rfl ?_
    by_cases c50 : (0 : Int) < i_x1
    · -- yes c50
      refine own_ifF X0 (own_c3_gt c50).2 own_d_prog_19_method_4_code_26 (pc' := 29) rfl ?_
      refine own_iinc X0 (Ls' := #[.val (.ref a1), .val (.int (2 : Int32)), .val (.ref a1), .val (.int (3 : Int32)), .val (.int (1 : Int32)), .val (.double x1), .second]) rfl (by decide) rfl own_d_prog_19_method_4_code_29 (pc' := 32) rfl ?_
      refine own_iinc X0 (Ls' := #[.val (.ref a1), .val (.int (2 : Int32)), .val (.ref a1), .val (.int (3 : Int32)), .val (.int (2 : Int32)), .val (.double x1), .second]) rfl (by decide) rfl own_d_prog_19_method_4_code_32 (pc' := 35) rfl ?_
      refine own_goto X0 own_d_prog_19_method_4_code_35 (pc' := 10) (by decide) (by decide) ?_
      refine own_iload X0 rfl own_d_prog_19_method_4_code_10 (pc' := 12) rfl ?_
      refine own_iloadN X0 rfl own_d_prog_19_method_4_code_12 (pc' := 13) rfl ?_
      refine own_icmpF X0 (by decide) own_d_prog_19_method_4_code_13 (pc' := 16) rfl ?_
      refine own_aloadN X0 rfl rfl own_d_prog_19_method_4_code_16 (pc' := 17) rfl ?_
      refine own_iload X0 rfl own_d_prog_19_method_4_code_17 (pc' := 19) rfl ?_
      refine own_daload X0 V1 (i := 2) (by decide) (by decide) rfl own_d_prog_19_method_4_code_19 (pc' := 20) rfl ?_
      refine own_dstore X0 (Ls' := #[.val (.ref a1), .val (.int (2 : Int32)), .val (.ref a1), .val (.int (3 : Int32)), .val (.int (2 : Int32)), .val (.double x2), .second]) rfl own_d_prog_19_method_4_code_20 (pc' := 22) rfl ?_
      refine own_dload X0 rfl own_d_prog_19_method_4_code_22 (pc' := 24) rfl ?_
      refine own_dconst0 X0 (v := (0 : UInt64)) rfl own_d_prog_19_method_4_code_24 (pc' := 25) rfl ?_
      refine own_dcmp X0 S2.cmp0 own_d_prog_19_method_4_code_25 (pc' := 26) rfl ?_
      by_cases c51 : (0 : Int) < i_x2
      · -- yes c51
        refine own_ifF X0 (own_c3_gt c51).2 own_d_prog_19_method_4_code_26 (pc' := 29) rfl ?_
        refine own_iinc X0 (Ls' := #[.val (.ref a1), .val (.int (3 : Int32)), .val (.ref a1), .val (.int (3 : Int32)), .val (.int (2 : Int32)), .val (.double x2), .second]) rfl (by decide) rfl own_d_prog_19_method_4_code_29 (pc' := 32) rfl ?_
        refine own_iinc X0 (Ls' := #[.val (.ref a1), .val (.int (3 : Int32)), .val (.ref a1), .val (.int (3 : Int32)), .val (.int (3 : Int32)), .val (.double x2), .second]) rfl (by decide) rfl own_d_prog_19_method_4_code_32 (pc' := 35) rfl ?_
        refine own_goto X0 own_d_prog_19_method_4_code_35 (pc' := 10) (by decide) (by decide) ?_
        refine own_iload X0 rfl own_d_prog_19_method_4_code_10 (pc' := 12) rfl ?_
        refine own_iloadN X0 rfl own_d_prog_19_method_4_code_12 (pc' := 13) rfl ?_
        refine own_icmpT X0 (by decide) own_d_prog_19_method_4_code_13 (pc' := 38) (by decide) (by decide) ?_
        refine own_iloadN X0 rfl own_d_prog_19_method_4_code_38 (pc' := 39) rfl ?_
        have f52 : own_I 3 (3 : Int) (3 : Int32) := own_I.lit (by decide) (by decide)
        obtain ⟨d53, e53⟩ : ∃ v, FP.i2d (3 : Int32) = v := ⟨_, rfl⟩
        have f53 : own_D 0 3 (3 : Int) d53 := own_D.i2d f52 e53
        refine own_i2d X0 e53 own_d_prog_19_method_4_code_39 (pc' := 40) rfl ?_
        refine own_aloadN X0 rfl rfl own_d_prog_19_method_4_code_40 (pc' := 41) rfl ?_
        refine own_len X0 V1 (v := (3 : Int32)) (show (3 : Nat).toInt32 = (3 : Int32) by decide) own_d_prog_19_method_4_code_41 (pc' := 42) rfl ?_
        have f54 : own_I 3 (3 : Int) (3 : Int32) := own_I.lit (by decide) (by decide)
        obtain ⟨d55, e55⟩ : ∃ v, FP.i2d (3 : Int32) = v := ⟨_, rfl⟩
        have f55 : own_D 0 3 (3 : Int) d55 := own_D.i2d f54 e55
        refine own_i2d X0 e55 own_d_prog_19_method_4_code_42 (pc' := 43) rfl ?_
        obtain ⟨d57, e57⟩ : ∃ v, FP.ddiv d53 d55 = v := ⟨_, rfl⟩
        have q57 := own_quot_nn f53 f55 (by decide) e57
        refine own_ddiv X0 e57 q57 own_d_prog_19_method_4_code_43 (pc' := 44) rfl ?_
        have q58 : own_D 0 4 ((if 0 < i_x0 then 1 else 0) + (if 0 < i_x1 then 1 else 0) + (if 0 < i_x2 then 1 else 0)) d53 := (f53.mono (by decide)).of_eq (by simp [c49, c50, c51])
        exact own_retD X0  own_d_prog_19_method_4_code_44 rfl (by decide) (by decide) ⟨⟨_, _, _, rfl, q58, f55, e57⟩, rfl⟩
      · -- no c51
        refine own_ifT X0 (own_c3_ngt c51).2 own_d_prog_19_method_4_code_26 (pc' := 32) (by decide) (by decide) ?_
        refine own_iinc X0 (Ls' := #[.val (.ref a1), .val (.int (2 : Int32)), .val (.ref a1), .val (.int (3 : Int32)), .val (.int (3 : Int32)), .val (.double x2), .second]) rfl (by decide) rfl own_d_prog_19_method_4_code_32 (pc' := 35) rfl ?_
        refine own_goto X0 own_d_prog_19_method_4_code_35 (pc' := 10) (by decide) (by decide) ?_
        refine own_iload X0 rfl own_d_prog_19_method_4_code_10 (pc' := 12) rfl ?_
        refine own_iloadN X0 rfl own_d_prog_19_method_4_code_12 (pc' := 13) rfl ?_
        refine own_icmpT X0 (by decide) own_d_prog_19_method_4_code_13 (pc' := 38) (by decide) (by decide) ?_
        refine own_iloadN X0 rfl own_d_prog_19_method_4_code_38 (pc' := 39) rfl ?_
        have f59 : own_I 2 (2 : Int) (2 : Int32) := own_I.lit (by decide) (by decide)
        obtain ⟨d60, e60⟩ : ∃ v, FP.i2d (2 : Int32) = v := ⟨_, rfl⟩
        have f60 : own_D 0 2 (2 : Int) d60 := own_D.i2d f59 e60
        refine own_i2d X0 e60 own_d_prog_19_method_4_code_39 (pc' := 40) rfl ?_
        refine own_aloadN X0 rfl rfl own_d_prog_19_method_4_code_40 (pc' := 41) rfl ?_
        refine own_len X0 V1 (v := (3 : Int32)) (show (3 : Nat).toInt32 = (3 : Int32) by decide) own_d_prog_19_method_4_code_41 (pc' := 42) rfl ?_
        have f61 : own_I 3 (3 : Int) (3 : Int32) := own_I.lit (by decide) (by decide)
        obtain ⟨d62, e62⟩ : ∃ v, FP.i2d (3 : Int32) = v := ⟨_, rfl⟩
        have f62 : own_D 0 3 (3 : Int) d62 := own_D.i2d f61 e62
        refine own_i2d X0 e62 own_d_prog_19_method_4_code_42 (pc' := 43) rfl ?_
        obtain ⟨d64, e64⟩ : ∃ v, FP.ddiv d60 d62 = v := ⟨_, rfl⟩
        have q64 := own_quot_nn f60 f62 (by decide) e64
        refine own_ddiv X0 e64 q64 own_d_prog_19_method_4_code_43 (pc' := 44) rfl ?_
        have q65 : own_D 0 4 ((if 0 < i_x0 then 1 else 0) + (if 0 < i_x1 then 1 else 0) + (if 0 < i_x2 then 1 else 0)) d60 := (f60.mono (by decide)).of_eq (by simp [c49, c50, c51])
        exact own_retD X0  own_d_prog_19_method_4_code_44 rfl (by decide) (by decide) ⟨⟨_, _, _, rfl, q65, f62, e64⟩, rfl⟩
    · -- no c50
      refine own_ifT X0 (own_c3_ngt c50).2 own_d_prog_19_method_4_code_26 (pc' := 32) (by decide) (by decide) ?_
      refine own_iinc X0 (Ls' := #[.val (.ref a1), .val (.int (1 : Int32)), .val (.ref a1), .val (.int (3 : Int32)), .val (.int (2 : Int32)), .val (.double x1), .second]) rfl (by decide) rfl own_d_prog_19_method_4_code_32 (pc' := 35) rfl ?_
      refine own_goto X0 own_d_prog_19_method_4_code_35 (pc' := 10) (by decide) (by decide) ?_
      refine own_iload X0 rfl own_d_prog_19_method_4_code_10 (pc' := 12) rfl ?_
      refine own_iloadN X0 rfl own_d_prog_19_method_4_code_12 (pc' := 13) rfl ?_
      refine own_icmpF X0 (by decide) own_d_prog_19_method_4_code_13 (pc' := 16) rfl ?_
      refine own_aloadN X0 rfl rfl own_d_prog_19_method_4_code_16 (pc' := 17) rfl ?_
      refine own_iload X0 rfl own_d_prog_19_method_4_code_17 (pc' := 19) rfl ?_
      refine own_daload X0 V1 (i := 2) (by decide) (by decide) rfl own_d_prog_19_method_4_code_19 (pc' := 20) rfl ?_
      refine own_dstore X0 (Ls' := #[.val (.ref a1), .val (.int (1 : Int32)), .val (.ref a1), .val (.int (3 : Int32)), .val (.int (2 : Int32)), .val (.double x2), .second]) rfl own_d_prog_19_method_4_code_20 (pc' := 22) rfl ?_
      refine own_dload X0 rfl own_d_prog_19_method_4_code_22 (pc' := 24) rfl ?_
      refine own_dconst0 X0 (v := (0 : UInt64)) rfl own_d_prog_19_method_4_code_24 (pc' := 25) rfl ?_
      refine own_dcmp X0 S2.cmp0 own_d_prog_19_method_4_code_25 (pc' := 26) rfl ?_
      by_cases c66 : (0 : Int) < i_x2
      · -- yes c66
        refine own_ifF X0 (own_c3_gt c66).2 own_d_prog_19_method_4_code_26 (pc' := 29) rfl ?_
        refine own_iinc X0 (Ls' := #[.val (.ref a1), .val (.int (2 : Int32)), .val (.ref a1), .val (.int (3 : Int32)), .val (.int (2 : Int32)), .val (.double x2), .second]) rfl (by decide) rfl own_d_prog_19_method_4_code_29 (pc' := 32) rfl ?_
        refine own_iinc X0 (Ls' := #[.val (.ref a1), .val (.int (2 : Int32)), .val (.ref a1), .val (.int (3 : Int32)), .val (.int (3 : Int32)), .val (.double x2), .second]) rfl (by decide) rfl own_d_prog_19_method_4_code_32 (pc' := 35) rfl ?_
        refine own_goto X0 own_d_prog_19_method_4_code_35 (pc' := 10) (by decide) (by decide) ?_
        refine own_iload X0 rfl own_d_prog_19_method_4_code_10 (pc' := 12) rfl ?_
        refine own_iloadN X0 rfl own_d_prog_19_method_4_code_12 (pc' := 13) rfl ?_
        refine own_icmpT X0 (by decide) own_d_prog_19_method_4_code_13 (pc' := 38) (by decide) (by decide) ?_
        refine own_iloadN X0 rfl own_d_prog_19_method_4_code_38 (pc' := 39) rfl ?_
        have f67 : own_I 2 (2 : Int) (2 : Int32) := own_I.lit (by decide) (by decide)
        obtain ⟨d68, e68⟩ : ∃ v, FP.i2d (2 : Int32) = v := ⟨_, rfl⟩
        have f68 : own_D 0 2 (2 : Int) d68 := own_D.i2d f67 e68
        refine own_i2d X0 e68 own_d_prog_19_method_4_code_39 (pc' := 40) rfl ?_
        refine own_aloadN X0 rfl rfl own_d_prog_19_method_4_code_40 (pc' := 41) rfl ?_
        refine own_len X0 V1 (v := (3 : Int32)) (show (3 : Nat).toInt32 = (3 : Int32) by decide) own_d_prog_19_method_4_code_41 (pc' := 42) rfl ?_
        have f69 : own_I 3 (3 : Int) (3 : Int32) := own_I.lit (by decide) (by decide)
        obtain ⟨d70, e70⟩ : ∃ v, FP.i2d (3 : Int32) = v := ⟨_, rfl⟩
        have f70 : own_D 0 3 (3 : Int) d70 := own_D.i2d f69 e70
        refine own_i2d X0 e70 own_d_prog_19_method_4_code_42 (pc' := 43) rfl ?_
        obtain ⟨d72, e72⟩ : ∃ v, FP.ddiv d68 d70 = v := ⟨_, rfl⟩
        have q72 := own_quot_nn f68 f70 (by decide) e72
        refine own_ddiv X0 e72 q72 own_d_prog_19_method_4_code_43 (pc' := 44) rfl ?_
        have q73 : own_D 0 4 ((if 0 < i_x0 then 1 else 0) + (if 0 < i_x1 then 1 else 0) + (if 0 < i_x2 then 1 else 0)) d68 := (f68.mono (by decide)).of_eq (by simp [c49, c50, c66])
        exact own_retD X0  own_d_prog_19_method_4_code_44 rfl (by decide) (by decide) ⟨⟨_, _, _, rfl, q73, f70, e72⟩, rfl⟩
      · -- no c66
        refine own_ifT X0 (own_c3_ngt c66).2 own_d_prog_19_method_4_code_26 (pc' := 32) (by decide) (by decide) ?_
        refine own_iinc X0 (Ls' := #[.val (.ref a1), .val (.int (1 : Int32)), .val (.ref a1), .val (.int (3 : Int32)), .val (.int (3 : Int32)), .val (.double x2), .second]) rfl (by decide) rfl own_d_prog_19_method_4_code_32 (pc' := 35) rfl ?_
        refine own_goto X0 own_d_prog_19_method_4_code_35 (pc' := 10) (by decide) (by decide) ?_
        refine own_iload X0 rfl own_d_prog_19_method_4_code_10 (pc' := 12) rfl ?_
        refine own_iloadN X0 rfl own_d_prog_19_method_4_code_12 (pc' := 13) rfl ?_
        refine own_icmpT X0 (by decide) own_d_prog_19_method_4_code_13 (pc' := 38) (by decide) (by decide) ?_
        refine own_iloadN X0 rfl own_d_prog_19_method_4_code_38 (pc' := 39) rfl ?_
        have f74 : own_I 1 (1 : Int) (1 : Int32) := own_I.lit (by decide) (by decide)
        obtain ⟨d75, e75⟩ : ∃ v, FP.i2d (1 : Int32) = v := ⟨_, rfl⟩
        have f75 : own_D 0 1 (1 : Int) d75 := own_D.i2d f74 e75
        refine own_i2d X0 e75 own_d_prog_19_method_4_code_39 (pc' := 40) rfl ?_
        refine own_aloadN X0 rfl rfl own_d_prog_19_method_4_code_40 (pc' := 41) rfl ?_
        refine own_len X0 V1 (v := (3 : Int32)) (show (3 : Nat).toInt32 = (3 : Int32) by decide) own_d_prog_19_method_4_code_41 (pc' := 42) rfl ?_
        have f76 : own_I 3 (3 : Int) (3 : Int32) := own_I.lit (by decide) (by decide)
        obtain ⟨d77, e77⟩ : ∃ v, FP.i2d (3 : Int32) = v := ⟨_, rfl⟩
        have f77 : own_D 0 3 (3 : Int) d77 := own_D.i2d f76 e77
        refine own_i2d X0 e77 own_d_prog_19_method_4_code_42 (pc' := 43) rfl ?_
        obtain ⟨d79, e79⟩ : ∃ v, FP.ddiv d75 d77 = v := ⟨_, rfl⟩
        have q79 := own_quot_nn f75 f77 (by decide) e79
        refine own_ddiv X0 e79 q79 own_d_prog_19_method_4_code_43 (pc' := 44) rfl ?_
        have q80 : own_D 0 4 ((if 0 < i_x0 then 1 else 0) + (if 0 < i_x1 then 1 else 0) + (if 0 < i_x2 then 1 else 0)) d75 := (f75.mono (by decide)).of_eq (by simp [c49, c50, c66])
        exact own_retD X0  own_d_prog_19_method_4_code_44 rfl (by decide) (by decide) ⟨⟨_, _, _, rfl, q80, f77, e79⟩, rfl⟩
  · -- no c49
    refine own_ifT X0 (own_c3_ngt c49).2 own_d_prog_19_method_4_code_26 (pc' := 32) (by decide) (by decide) ?_
    refine own_iinc X0 (Ls' := #[.val (.ref a1), .val (.int (0 : Int32)), .val (.ref a1), .val (.int (3 : Int32)), .val (.int (1 : Int32)), .val (.double x0), .second]) rfl (by decide) rfl own_d_prog_19_method_4_code_32 (pc' := 35) rfl ?_
    refine own_goto X0 own_d_prog_19_method_4_code_35 (pc' := 10) (by decide) (by decide) ?_
    refine own_iload X0 rfl own_d_prog_19_method_4_code_10 (pc' := 12) rfl ?_
    refine own_iloadN X0 rfl own_d_prog_19_method_4_code_12 (pc' := 13) rfl ?_
    refine own_icmpF X0 (by decide) own_d_prog_19_method_4_code_13 (pc' := 16) rfl ?_
    refine own_aloadN X0 rfl rfl own_d_prog_19_method_4_code_16 (pc' := 17) rfl ?_
    refine own_iload X0 rfl own_d_prog_19_method_4_code_17 (pc' := 19) rfl ?_
    refine own_daload X0 V1 (i := 1) (by decide) (by decide) rfl own_d_prog_19_method_4_code_19 (pc' := 20) rfl ?_
    refine own_dstore X0 (Ls' := #[.val (.ref a1), .val (.int (0 : Int32)), .val (.ref a1), .val (.int (3 : Int32)), .val (.int (1 : Int32)), .val (.double x1), .second]) rfl own_d_prog_19_method_4_code_20 (pc' := 22) rfl ?_
    refine own_dload X0 rfl own_d_prog_19_method_4_code_22 (pc' := 24) rfl ?_
    refine own_dconst0 X0 (v := (0 : UInt64)) rfl own_d_prog_19_method_4_code_24 (pc' := 25) rfl ?_
    refine own_dcmp X0 S1.cmp0 own_d_prog_19_method_4_code_25 (pc' := 26) rfl ?_
    by_cases c81 : (0 : Int) < i_x1
    · -- yes c81
      refine own_ifF X0 (own_c3_gt c81).2 own_d_prog_19_method_4_code_26 (pc' := 29) rfl ?_
      refine own_iinc X0 (Ls' := #[.val (.ref a1), .val (.int (1 : Int32)), .val (.ref a1), .val (.int (3 : Int32)), .val (.int (1 : Int32)), .val (.double x1), .second]) rfl (by decide) rfl own_d_prog_19_method_4_code_29 (pc' := 32) rfl ?_
      refine own_iinc X0 (Ls' := #[.val (.ref a1), .val (.int (1 : Int32)), .val (.ref a1), .val (.int (3 : Int32)), .val (.int (2 : Int32)), .val (.double x1), .second]) rfl (by decide) rfl own_d_prog_19_method_4_code_32 (pc' := 35) rfl ?_
      refine own_goto X0 own_d_prog_19_method_4_code_35 (pc' := 10) (by decide) (by decide) ?_
      refine own_iload X0 rfl own_d_prog_19_method_4_code_10 (pc' := 12) rfl ?_
      refine own_iloadN X0 rfl own_d_prog_19_method_4_code_12 (pc' := 13) rfl ?_
      refine own_icmpF X0 (by decide) own_d_prog_19_method_4_code_13 (pc' := 16) rfl ?_
      refine own_aloadN X0 rfl rfl own_d_prog_19_method_4_code_16 (pc' := 17) rfl ?_
      refine own_iload X0 rfl own_d_prog_19_method_4_code_17 (pc' := 19) rfl ?_
      refine own_daload X0 V1 (i := 2) (by decide) (by decide) rfl own_d_prog_19_method_4_code_19 (pc' := 20) rfl ?_
      refine own_dstore X0 (Ls' := #[.val (.ref a1), .val (.int (1 : Int32)), .val (.ref a1), .val (.int (3 : Int32)), .val (.int (2 : Int32)), .val (.double x2), .second]) rfl own_d_prog_19_method_4_code_20 (pc' := 22) rfl ?_
      refine own_dload X0 rfl own_d_prog_19_method_4_code_22 (pc' := 24) rfl ?_
      refine own_dconst0 X0 (v := (0 : UInt64)) rfl own_d_prog_19_method_4_code_24 (pc' := 25) rfl ?_
      refine own_dcmp X0 S2.cmp0 own_d_prog_19_method_4_code_25 (pc' := 26) rfl ?_
      by_cases c82 : (0 : Int) < i_x2
      · -- yes c82
        refine own_ifF X0 (own_c3_gt c82).2 own_d_prog_19_method_4_code_26 (pc' := 29) rfl ?_
        refine own_iinc X0 (Ls' := #[.val (.ref a1), .val (.int (2 : Int32)), .val (.ref a1), .val (.int (3 : Int32)), .val (.int (2 : Int32)), .val (.double x2), .second]) rfl (by decide) rfl own_d_prog_19_method_4_code_29 (pc' := 32) rfl ?_
        refine own_iinc X0 (Ls' := #[.val (.ref a1), .val (.int (2 : Int32)), .val (.ref a1), .val (.int (3 : Int32)), .val (.int (3 : Int32)), .val (.double x2), .second]) rfl (by decide) rfl own_d_prog_19_method_4_code_32 (pc' := 35) rfl ?_
        refine own_goto X0 own_d_prog_19_method_4_code_35 (pc' := 10) (by decide) (by decide) ?_
        refine own_iload X0 rfl own_d_prog_19_method_4_code_10 (pc' := 12) rfl ?_
        refine own_iloadN X0 rfl own_d_prog_19_method_4_code_12 (pc' := 13) rfl ?_
        refine own_icmpT X0 (by decide) own_d_prog_19_method_4_code_13 (pc' := 38) (by decide) (by decide) ?_
        refine own_iloadN X0 rfl own_d_prog_19_method_4_code_38 (pc' := 39) rfl ?_
        have f83 : own_I 2 (2 : Int) (2 : Int32) := own_I.lit (by decide) (by decide)
        obtain ⟨d84, e84⟩ : ∃ v, FP.i2d (2 : Int32) = v := ⟨_, rfl⟩
        have f84 : own_D 0 2 (2 : Int) d84 := own_D.i2d f83 e84
        refine own_i2d X0 e84 own_d_prog_19_method_4_code_39 (pc' := 40) rfl ?_
        refine own_aloadN X0 rfl rfl own_d_prog_19_method_4_code_40 (pc' := 41) rfl ?_
        refine own_len X0 V1 (v := (3 : Int32)) (show (3 : Nat).toInt32 = (3 : Int32) by decide) own_d_prog_19_method_4_code_41 (pc' := 42) rfl ?_
        have f85 : own_I 3 (3 : Int) (3 : Int32) := own_I.lit (by decide) (by decide)
        obtain ⟨d86, e86⟩ : ∃ v, FP.i2d (3 : Int32) = v := ⟨_, rfl⟩
        have f86 : own_D 0 3 (3 : Int) d86 := own_D.i2d f85 e86
        refine own_i2d X0 e86 own_d_prog_19_method_4_code_42 (pc' := 43) rfl ?_
        obtain ⟨d88, e88⟩ : ∃ v, FP.ddiv d84 d86 = v := ⟨_, rfl⟩
        have q88 := own_quot_nn f84 f86 (by decide) e88
        refine own_ddiv X0 e88 q88 own_d_prog_19_method_4_code_43 (pc' := 44) rfl ?_
        have q89 : own_D 0 4 ((if 0 < i_x0 then 1 else 0) + (if 0 < i_x1 then 1 else 0) + (if 0 < i_x2 then 1 else 0)) d84 := (f84.mono (by decide)).of_eq (by simp [c49, c81, c82])
        exact own_retD X0  own_d_prog_19_method_4_code_44 rfl (by decide) (by decide) ⟨⟨_, _, _, rfl, q89, f86, e88⟩, rfl⟩
      · -- no c82
        refine own_ifT X0 (own_c3_ngt c82).2 own_d_prog_19_method_4_code_26 (pc' := 32) (by decide) (by decide) ?_
        refine own_iinc X0 (Ls' := #[.val (.ref a1), .val (.int (1 : Int32)), .val (.ref a1), .val (.int (3 : Int32)), .val (.int (3 : Int32)), .val (.double x2), .second]) rfl (by decide) rfl own_d_prog_19_method_4_code_32 (pc' := 35) rfl ?_
        refine own_goto X0 own_d_prog_19_method_4_code_35 (pc' := 10) (by decide) (by decide) ?_
        refine own_iload X0 rfl own_d_prog_19_method_4_code_10 (pc' := 12) rfl ?_
        refine own_iloadN X0 rfl own_d_prog_19_method_4_code_12 (pc' := 13) rfl ?_
        refine own_icmpT X0 (by decide) own_d_prog_19_method_4_code_13 (pc' := 38) (by decide) (by decide) ?_
        refine own_iloadN X0 rfl own_d_prog_19_method_4_code_38 (pc' := 39) rfl ?_
        have f90 : own_I 1 (1 : Int) (1 : Int32) := own_I.lit (by decide) (by decide)
        obtain ⟨d91, e91⟩ : ∃ v, FP.i2d (1 : Int32) = v := ⟨_, rfl⟩
        have f91 : own_D 0 1 (1 : Int) d91 := own_D.i2d f90 e91
        refine own_i2d X0 e91 own_d_prog_19_method_4_code_39 (pc' := 40) rfl ?_
        refine own_aloadN X0 rfl rfl own_d_prog_19_method_4_code_40 (pc' := 41) rfl ?_
        refine own_len X0 V1 (v := (3 : Int32)) (show (3 : Nat).toInt32 = (3 : Int32) by decide) own_d_prog_19_method_4_code_41 (pc' := 42) rfl ?_
        have f92 : own_I 3 (3 : Int) (3 : Int32) := own_I.lit (by decide) (by decide)
        obtain ⟨d93, e93⟩ : ∃ v, FP.i2d (3 : Int32) = v := ⟨_, rfl⟩
        have f93 : own_D 0 3 (3 : Int) d93 := own_D.i2d f92 e93
        refine own_i2d X0 e93 own_d_prog_19_method_4_code_42 (pc' := 43) rfl ?_
        obtain ⟨d95, e95⟩ : ∃ v, FP.ddiv d91 d93 = v := ⟨_, rfl⟩
        have q95 := own_quot_nn f91 f93 (by decide) e95
        refine own_ddiv X0 e95 q95 own_d_prog_19_method_4_code_43 (pc' := 44) rfl ?_
        have q96 : own_D 0 4 ((if 0 < i_x0 then 1 else 0) + (if 0 < i_x1 then 1 else 0) + (if 0 < i_x2 then 1 else 0)) d91 := (f91.mono (by decide)).of_eq (by simp [c49, c81, c82])
        exact own_retD X0  own_d_prog_19_method_4_code_44 rfl (by decide) (by decide) ⟨⟨_, _, _, rfl, q96, f93, e95⟩, rfl⟩
    · -- no c81
      refine own_ifT X0 (own_c3_ngt c81).2 own_d_prog_19_method_4_code_26 (pc' := 32) (by decide) (by decide) ?_
      refine own_iinc X0 (Ls' := #[.val (.ref a1), .val (.int (0 : Int32)), .val (.ref a1), .val (.int (3 : Int32)), .val (.int (2 : Int32)), .val (.double x1), .second]) rfl (by decide) rfl own_d_prog_19_method_4_code_32 (pc' := 35) rfl ?_
      refine own_goto X0 own_d_prog_19_method_4_code_35 (pc' := 10) (by decide) (by decide) ?_
      refine own_iload X0 rfl own_d_prog_19_method_4_code_10 (pc' := 12) rfl ?_
      refine own_iloadN X0 rfl own_d_prog_19_method_4_code_12 (pc' := 13) rfl ?_
      refine own_icmpF X0 (by decide) own_d_prog_19_method_4_code_13 (pc' := 16) rfl ?_
      refine own_aloadN X0 rfl rfl own_d_prog_19_method_4_code_16 (pc' := 17) rfl ?_
      refine own_iload X0 rfl own_d_prog_19_method_4_code_17 (pc' := 19) rfl ?_
      refine own_daload X0 V1 (i := 2) (by decide) (by decide) rfl own_d_prog_19_method_4_code_19 (pc' := 20) rfl ?_
      refine own_dstore X0 (Ls' := #[.val (.ref a1), .val (.int (0 : Int32)), .val (.ref a1), .val (.int (3 : Int32)), .val (.int (2 : Int32)), .val (.double x2), .second]) rfl own_d_prog_19_method_4_code_20 (pc' := 22) rfl ?_
      refine own_dload X0 rfl own_d_prog_19_method_4_code_22 (pc' := 24) rfl ?_
      refine own_dconst0 X0 (v := (0 : UInt64)) rfl own_d_prog_19_method_4_code_24 (pc' := 25) rfl ?_
      refine own_dcmp X0 S2.cmp0 own_d_prog_19_method_4_code_25 (pc' := 26) rfl ?_
      by_cases c97 : (0 : Int) < i_x2
      · -- yes c97
        refine own_ifF X0 (own_c3_gt c97).2 own_d_prog_19_method_4_code_26 (pc' := 29) rfl ?_
        refine own_iinc X0 (Ls' := #[.val (.ref a1), .val (.int (1 : Int32)), .val (.ref a1), .val (.int (3 : Int32)), .val (.int (2 : Int32)), .val (.double x2), .second]) rfl (by decide) rfl own_d_prog_19_method_4_code_29 (pc' := 32) rfl ?_
        refine own_iinc X0 (Ls' := #[.val (.ref a1), .val (.int (1 : Int32)), .val (.ref a1), .val (.int (3 : Int32)), .val (.int (3 : Int32)), .val (.double x2), .second]) rfl (by decide) rfl own_d_prog_19_method_4_code_32 (pc' := 35) rfl ?_
        refine own_goto X0 own_d_prog_19_method_4_code_35 (pc' := 10) (by decide) (by decide) ?_
        refine own_iload X0 rfl own_d_prog_19_method_4_code_10 (pc' := 12) rfl ?_
        refine own_iloadN X0 rfl own_d_prog_19_method_4_code_12 (pc' := 13) rfl ?_
        refine own_icmpT X0 (by decide) own_d_prog_19_method_4_code_13 (pc' := 38) (by decide) (by decide) ?_
        refine own_iloadN X0 rfl own_d_prog_19_method_4_code_38 (pc' := 39) rfl ?_
        have f98 : own_I 1 (1 : Int) (1 : Int32) := own_I.lit (by decide) (by decide)
        obtain ⟨d99, e99⟩ : ∃ v, FP.i2d (1 : Int32) = v := ⟨_, rfl⟩
        have f99 : own_D 0 1 (1 : Int) d99 := own_D.i2d f98 e99
        refine own_i2d X0 e99 own_d_prog_19_method_4_code_39 (pc' := 40) rfl ?_
        refine own_aloadN X0 rfl rfl own_d_prog_19_method_4_code_40 (pc' := 41) rfl ?_
        refine own_len X0 V1 (v := (3 : Int32)) (show (3 : Nat).toInt32 = (3 : Int32) by decide) own_d_prog_19_method_4_code_41 (pc' := 42) rfl ?_
        have f100 : own_I 3 (3 : Int) (3 : Int32) := own_I.lit (by decide) (by decide)
        obtain ⟨d101, e101⟩ : ∃ v, FP.i2d (3 : Int32) = v := ⟨_, rfl⟩
        have f101 : own_D 0 3 (3 : Int) d101 := own_D.i2d f100 e101
        refine own_i2d X0 e101 own_d_prog_19_method_4_code_42 (pc' := 43) rfl ?_
        obtain ⟨d103, e103⟩ : ∃ v, FP.ddiv d99 d101 = v := ⟨_, rfl⟩
        have q103 := own_quot_nn f99 f101 (by decide) e103
        refine own_ddiv X0 e103 q103 own_d_prog_19_method_4_code_43 (pc' := 44) rfl ?_
        have q104 : own_D 0 4 ((if 0 < i_x0 then 1 else 0) + (if 0 < i_x1 then 1 else 0) + (if 0 < i_x2 then 1 else 0)) d99 := (f99.mono (by decide)).of_eq (by simp [c49, c81, c97])
        exact own_retD X0  own_d_prog_19_method_4_code_44 rfl (by decide) (by decide) ⟨⟨_, _, _, rfl, q104, f101, e103⟩, rfl⟩
      · -- no c97
        refine own_ifT X0 (own_c3_ngt c97).2 own_d_prog_19_method_4_code_26 (pc' := 32) (by decide) (by decide) ?_
        refine own_iinc X0 (Ls' := #[.val (.ref a1), .val (.int (0 : Int32)), .val (.ref a1), .val (.int (3 : Int32)), .val (.int (3 : Int32)), .val (.double x2), .second]) rfl (by decide) rfl own_d_prog_19_method_4_code_32 (pc' := 35) rfl ?_
        refine own_goto X0 own_d_prog_19_method_4_code_35 (pc' := 10) (by decide) (by decide) ?_
        refine own_iload X0 rfl own_d_prog_19_method_4_code_10 (pc' := 12) rfl ?_
        refine own_iloadN X0 rfl own_d_prog_19_method_4_code_12 (pc' := 13) rfl ?_
        refine own_icmpT X0 (by decide) own_d_prog_19_method_4_code_13 (pc' := 38) (by decide) (by decide) ?_
        refine own_iloadN X0 rfl own_d_prog_19_method_4_code_38 (pc' := 39) rfl ?_
        have f105 : own_I 0 (0 : Int) (0 : Int32) := own_I.lit (by decide) (by decide)
        obtain ⟨d106, e106⟩ : ∃ v, FP.i2d (0 : Int32) = v := ⟨_, rfl⟩
        have f106 : own_D 0 0 (0 : Int) d106 := own_D.i2d f105 e106
        refine own_i2d X0 e106 own_d_prog_19_method_4_code_39 (pc' := 40) rfl ?_
        refine own_aloadN X0 rfl rfl own_d_prog_19_method_4_code_40 (pc' := 41) rfl ?_
        refine own_len X0 V1 (v := (3 : Int32)) (show (3 : Nat).toInt32 = (3 : Int32) by decide) own_d_prog_19_method_4_code_41 (pc' := 42) rfl ?_
        have f107 : own_I 3 (3 : Int) (3 : Int32) := own_I.lit (by decide) (by decide)
        obtain ⟨d108, e108⟩ : ∃ v, FP.i2d (3 : Int32) = v := ⟨_, rfl⟩
        have f108 : own_D 0 3 (3 : Int) d108 := own_D.i2d f107 e108
        refine own_i2d X0 e108 own_d_prog_19_method_4_code_42 (pc' := 43) rfl ?_
        obtain ⟨d110, e110⟩ : ∃ v, FP.ddiv d106 d108 = v := ⟨_, rfl⟩
        have q110 := own_quot_nn f106 f108 (by decide) e110
        refine own_ddiv X0 e110 q110 own_d_prog_19_method_4_code_43 (pc' := 44) rfl ?_
        have q111 : own_D 0 4 ((if 0 < i_x0 then 1 else 0) + (if 0 < i_x1 then 1 else 0) + (if 0 < i_x2 then 1 else 0)) d106 := (f106.mono (by decide)).of_eq (by simp [c49, c81, c97])
        exact own_retD X0  own_d_prog_19_method_4_code_44 rfl (by decide) (by decide) ⟨⟨_, _, _, rfl, q111, f108, e110⟩, rfl⟩
abbrev own_rm_own_fp4 : Room := ({ frames := 0, cells := 0, slots := 0, locals := 0 } : Room)
set_option maxRecDepth 65536 in
set_option maxHeartbeats 40000000 in
theorem own_fp4 (l : Launch) (Z : State) (a0 : Array Value) (hw : ∀ d ∈ tables_1, d.before a0 Z = true) (a1 : Addr) (x0 : UInt64) (i_x0 : Int) (x1 : UInt64) (i_x1 : Int) (x2 : UInt64) (i_x2 : Int) (x3 : UInt64) (i_x3 : Int) (h0 : Heap) (n0 : Nat) (Z0 : n0 ≤ h0.size) (V1 : own_Vec Z h0 a1 .double [(.double x0), (.double x1), (.double x2), (.double x3)]) (S0 : own_S i_x0 x0) (S1 : own_S i_x1 x1) (S2 : own_S i_x2 x2) (S3 : own_S i_x3 x3) :
    own_Met l Z ({ cls := "com/example/cladewalk/cladewalk/summary/Summaries", name := "fractionPositive", desc := "([D)D" } : Jvm.MethodName) prog_19_method_4_code 7 (some .double) [] own_rm_own_fp4 #[(.ref a1)] h0 n0 (fun v h => (∃ r x z, v = some (.double r) ∧ own_D 0 4 ((if 0 < i_x0 then 1 else 0) + (if 0 < i_x1 then 1 else 0) + (if 0 < i_x2 then 1 else 0) + (if 0 < i_x3 then 1 else 0)) x ∧ own_D 0 4 (4 : Int) z ∧ FP.ddiv x z = r) ∧ h = h0) := by
  refine own_meet (plainFor_of_name own_pn1) Z0 (Ls0 := #[.val (.ref a1), .unset, .unset, .unset, .unset, .unset, .unset]) (by intro m; first | (simp [entryFrame, mkF, argsToLocals, Value.category]; done) | rfl) ?_
  intro p e s m below meth c T0 X0
  refine own_iconst X0 (v := (0 : Int32)) (by decide) own_d_prog_19_method_4_code_0 (pc' := 1) rfl ?_
  refine own_istoreN X0 (Ls' := #[.val (.ref a1), .val (.int (0 : Int32)), .unset, .unset, .unset, .unset, .unset]) rfl own_d_prog_19_method_4_code_1 (pc' := 2) rfl ?_
  refine own_aloadN X0 rfl rfl own_d_prog_19_method_4_code_2 (pc' := 3) rfl ?_
  refine own_astoreN X0 (Ls' := #[.val (.ref a1), .val (.int (0 : Int32)), .val (.ref a1), .unset, .unset, .unset, .unset]) rfl rfl own_d_prog_19_method_4_code_3 (pc' := 4) rfl ?_
  refine own_aloadN X0 rfl rfl own_d_prog_19_method_4_code_4 (pc' := 5) rfl ?_
  refine own_len X0 V1 (v := (4 : Int32)) (show (4 : Nat).toInt32 = (4 : Int32) by decide) own_d_prog_19_method_4_code_5 (pc' := 6) rfl ?_
  refine own_istoreN X0 (Ls' := #[.val (.ref a1), .val (.int (0 : Int32)), .val (.ref a1), .val (.int (4 : Int32)), .unset, .unset, .unset]) rfl own_d_prog_19_method_4_code_6 (pc' := 7) rfl ?_
  refine own_iconst X0 (v := (0 : Int32)) (by decide) own_d_prog_19_method_4_code_7 (pc' := 8) rfl ?_
  refine own_istore X0 (Ls' := #[.val (.ref a1), .val (.int (0 : Int32)), .val (.ref a1), .val (.int (4 : Int32)), .val (.int (0 : Int32)), .unset, .unset]) rfl own_d_prog_19_method_4_code_8 (pc' := 10) rfl ?_
  refine own_iload X0 rfl own_d_prog_19_method_4_code_10 (pc' := 12) rfl ?_
  refine own_iloadN X0 rfl own_d_prog_19_method_4_code_12 (pc' := 13) rfl ?_
  refine own_icmpF X0 (by decide) own_d_prog_19_method_4_code_13 (pc' := 16) rfl ?_
  refine own_aloadN X0 rfl rfl own_d_prog_19_method_4_code_16 (pc' := 17) rfl ?_
  refine own_iload X0 rfl own_d_prog_19_method_4_code_17 (pc' := 19) rfl ?_
  refine own_daload X0 V1 (i := 0) (by decide) (by decide) rfl own_d_prog_19_method_4_code_19 (pc' := 20) rfl ?_
  refine own_dstore X0 (Ls' := #[.val (.ref a1), .val (.int (0 : Int32)), .val (.ref a1), .val (.int (4 : Int32)), .val (.int (0 : Int32)), .val (.double x0), .second]) rfl own_d_prog_19_method_4_code_20 (pc' := 22) rfl ?_
  refine own_dload X0 rfl own_d_prog_19_method_4_code_22 (pc' := 24) rfl ?_
  refine own_dconst0 X0 (v := (0 : UInt64)) rfl own_d_prog_19_method_4_code_24 (pc' := 25) rfl ?_
  refine own_dcmp X0 S0.cmp0 own_d_prog_19_method_4_code_25 (pc' := 26) rfl ?_
  by_cases c112 : (0 : Int) < i_x0
  · -- yes c112
    refine own_ifF X0 (own_c3_gt c112).2 own_d_prog_19_method_4_code_26 (pc' := 29) rfl ?_
    refine own_iinc X0 (Ls' := #[.val (.ref a1), .val (.int (1 : Int32)), .val (.ref a1), .val (.int (4 : Int32)), .val (.int (0 : Int32)), .val (.double x0), .second]) rfl (by decide) rfl own_d_prog_19_method_4_code_29 (pc' := 32) rfl ?_
    refine own_iinc X0 (Ls' := #[.val (.ref a1), .val (.int (1 : Int32)), .val (.ref a1), .val (.int (4 : Int32)), .val (.int (1 : Int32)), .val (.double x0), .second]) rfl (by decide) rfl own_d_prog_19_method_4_code_32 (pc' := 35) rfl ?_
    refine own_goto X0 own_d_prog_19_method_4_code_35 (pc' := 10) (by decide) (by decide) ?_
    refine own_iload X0 rfl own_d_prog_19_method_4_code_10 (pc' := 12) rfl ?_
    refine own_iloadN X0 rfl own_d_prog_19_method_4_code_12 (pc' := 13) rfl ?_
    refine own_icmpF X0 (by decide) own_d_prog_19_method_4_code_13 (pc' := 16) rfl ?_
    refine own_aloadN X0 rfl rfl own_d_prog_19_method_4_code_16 (pc' := 17) rfl ?_
    refine own_iload X0 rfl own_d_prog_19_method_4_code_17 (pc' := 19) rfl ?_
    refine own_daload X0 V1 (i := 1) (by decide) (by decide) rfl own_d_prog_19_method_4_code_19 (pc' := 20) rfl ?_
    refine own_dstore X0 (Ls' := #[.val (.ref a1), .val (.int (1 : Int32)), .val (.ref a1), .val (.int (4 : Int32)), .val (.int (1 : Int32)), .val (.double x1), .second]) rfl own_d_prog_19_method_4_code_20 (pc' := 22) rfl ?_
    refine own_dload X0 rfl own_d_prog_19_method_4_code_22 (pc' := 24) rfl ?_
    refine own_dconst0 X0 (v := (0 : UInt64)) rfl own_d_prog_19_method_4_code_24 (pc' := 25) rfl ?_
    refine own_dcmp X0 S1.cmp0 own_d_prog_19_method_4_code_25 (pc' := 26) rfl ?_
    by_cases c113 : (0 : Int) < i_x1
    · -- yes c113
      refine own_ifF X0 (own_c3_gt c113).2 own_d_prog_19_method_4_code_26 (pc' := 29) rfl ?_
      refine own_iinc X0 (Ls' := #[.val (.ref a1), .val (.int (2 : Int32)), .val (.ref a1), .val (.int (4 : Int32)), .val (.int (1 : Int32)), .val (.double x1), .second]) rfl (by decide) rfl own_d_prog_19_method_4_code_29 (pc' := 32) rfl ?_
      refine own_iinc X0 (Ls' := #[.val (.ref a1), .val (.int (2 : Int32)), .val (.ref a1), .val (.int (4 : Int32)), .val (.int (2 : Int32)), .val (.double x1), .second]) rfl (by decide) rfl own_d_prog_19_method_4_code_32 (pc' := 35) rfl ?_
      refine own_goto X0 own_d_prog_19_method_4_code_35 (pc' := 10) (by decide) (by decide) ?_
      refine own_iload X0 rfl own_d_prog_19_method_4_code_10 (pc' := 12) rfl ?_
      refine own_iloadN X0 rfl own_d_prog_19_method_4_code_12 (pc' := 13) rfl ?_
      refine own_icmpF X0 (by decide) own_d_prog_19_method_4_code_13 (pc' := 16) rfl ?_
      refine own_aloadN X0 rfl rfl own_d_prog_19_method_4_code_16 (pc' := 17) rfl ?_
      refine own_iload X0 rfl own_d_prog_19_method_4_code_17 (pc' := 19) rfl ?_
      refine own_daload X0 V1 (i := 2) (by decide) (by decide) rfl own_d_prog_19_method_4_code_19 (pc' := 20) rfl ?_
      refine own_dstore X0 (Ls' := #[.val (.ref a1), .val (.int (2 : Int32)), .val (.ref a1), .val (.int (4 : Int32)), .val (.int (2 : Int32)), .val (.double x2), .second]) rfl own_d_prog_19_method_4_code_20 (pc' := 22) rfl ?_
      refine own_dload X0 rfl own_d_prog_19_method_4_code_22 (pc' := 24) rfl ?_
      refine own_dconst0 X0 (v := (0 : UInt64)) rfl own_d_prog_19_method_4_code_24 (pc' := 25) rfl ?_
      refine own_dcmp X0 S2.cmp0 own_d_prog_19_method_4_code_25 (pc' := 26) rfl ?_
      by_cases c114 : (0 : Int) < i_x2
      · -- yes c114
        refine own_ifF X0 (own_c3_gt c114).2 own_d_prog_19_method_4_code_26 (pc' := 29) rfl ?_
        refine own_iinc X0 (Ls' := #[.val (.ref a1), .val (.int (3 : Int32)), .val (.ref a1), .val (.int (4 : Int32)), .val (.int (2 : Int32)), .val (.double x2), .second]) rfl (by decide) rfl own_d_prog_19_method_4_code_29 (pc' := 32) rfl ?_
        refine own_iinc X0 (Ls' := #[.val (.ref a1), .val (.int (3 : Int32)), .val (.ref a1), .val (.int (4 : Int32)), .val (.int (3 : Int32)), .val (.double x2), .second]) rfl (by decide) rfl own_d_prog_19_method_4_code_32 (pc' := 35) rfl ?_
        refine own_goto X0 own_d_prog_19_method_4_code_35 (pc' := 10) (by decide) (by decide) ?_
        refine own_iload X0 rfl own_d_prog_19_method_4_code_10 (pc' := 12) rfl ?_
        refine own_iloadN X0 rfl own_d_prog_19_method_4_code_12 (pc' := 13) rfl ?_
        refine own_icmpF X0 (by decide) own_d_prog_19_method_4_code_13 (pc' := 16) rfl ?_
        refine own_aloadN X0 rfl rfl own_d_prog_19_method_4_code_16 (pc' := 17) rfl ?_
        refine own_iload X0 rfl own_d_prog_19_method_4_code_17 (pc' := 19) rfl ?_
        refine own_daload X0 V1 (i := 3) (by decide) (by decide) rfl own_d_prog_19_method_4_code_19 (pc' := 20) rfl ?_
        refine own_dstore X0 (Ls' := #[.val (.ref a1), .val (.int (3 : Int32)), .val (.ref a1), .val (.int (4 : Int32)), .val (.int (3 : Int32)), .val (.double x3), .second]) rfl own_d_prog_19_method_4_code_20 (pc' := 22) rfl ?_
        refine own_dload X0 rfl own_d_prog_19_method_4_code_22 (pc' := 24) rfl ?_
        refine own_dconst0 X0 (v := (0 : UInt64)) rfl own_d_prog_19_method_4_code_24 (pc' := 25) rfl ?_
        refine own_dcmp X0 S3.cmp0 own_d_prog_19_method_4_code_25 (pc' := 26) rfl ?_
        by_cases c115 : (0 : Int) < i_x3
        · -- yes c115
          refine own_ifF X0 (own_c3_gt c115).2 own_d_prog_19_method_4_code_26 (pc' := 29) rfl ?_
          refine own_iinc X0 (Ls' := #[.val (.ref a1), .val (.int (4 : Int32)), .val (.ref a1), .val (.int (4 : Int32)), .val (.int (3 : Int32)), .val (.double x3), .second]) rfl (by decide) rfl own_d_prog_19_method_4_code_29 (pc' := 32) rfl ?_
          refine own_iinc X0 (Ls' := #[.val (.ref a1), .val (.int (4 : Int32)), .val (.ref a1), .val (.int (4 : Int32)), .val (.int (4 : Int32)), .val (.double x3), .second]) rfl (by decide) rfl own_d_prog_19_method_4_code_32 (pc' := 35) rfl ?_
          refine own_goto X0 own_d_prog_19_method_4_code_35 (pc' := 10) (by decide) (by decide) ?_
          refine own_iload X0 rfl own_d_prog_19_method_4_code_10 (pc' := 12) rfl ?_
          refine own_iloadN X0 rfl own_d_prog_19_method_4_code_12 (pc' := 13) rfl ?_
          refine own_icmpT X0 (by decide) own_d_prog_19_method_4_code_13 (pc' := 38) (by decide) (by decide) ?_
          refine own_iloadN X0 rfl own_d_prog_19_method_4_code_38 (pc' := 39) rfl ?_
          have f116 : own_I 4 (4 : Int) (4 : Int32) := own_I.lit (by decide) (by decide)
          obtain ⟨d117, e117⟩ : ∃ v, FP.i2d (4 : Int32) = v := ⟨_, rfl⟩
          have f117 : own_D 0 4 (4 : Int) d117 := own_D.i2d f116 e117
          refine own_i2d X0 e117 own_d_prog_19_method_4_code_39 (pc' := 40) rfl ?_
          refine own_aloadN X0 rfl rfl own_d_prog_19_method_4_code_40 (pc' := 41) rfl ?_
          refine own_len X0 V1 (v := (4 : Int32)) (show (4 : Nat).toInt32 = (4 : Int32) by decide) own_d_prog_19_method_4_code_41 (pc' := 42) rfl ?_
          have f118 : own_I 4 (4 : Int) (4 : Int32) := own_I.lit (by decide) (by decide)
          obtain ⟨d119, e119⟩ : ∃ v, FP.i2d (4 : Int32) = v := ⟨_, rfl⟩
          have f119 : own_D 0 4 (4 : Int) d119 := own_D.i2d f118 e119
          refine own_i2d X0 e119 own_d_prog_19_method_4_code_42 (pc' := 43) rfl ?_
          obtain ⟨d121, e121⟩ : ∃ v, FP.ddiv d117 d119 = v := ⟨_, rfl⟩
          have q121 := own_quot_nn f117 f119 (by decide) e121
          refine own_ddiv X0 e121 q121 own_d_prog_19_method_4_code_43 (pc' := 44) rfl ?_
          have q122 : own_D 0 4 ((if 0 < i_x0 then 1 else 0) + (if 0 < i_x1 then 1 else 0) + (if 0 < i_x2 then 1 else 0) + (if 0 < i_x3 then 1 else 0)) d117 := (f117.mono (by decide)).of_eq (by simp [c112, c113, c114, c115])
          exact own_retD X0  own_d_prog_19_method_4_code_44 rfl (by decide) (by decide) ⟨⟨_, _, _, rfl, q122, f119, e121⟩, rfl⟩
        · -- no c115
          refine own_ifT X0 (own_c3_ngt c115).2 own_d_prog_19_method_4_code_26 (pc' := 32) (by decide) (by decide) ?_
          refine own_iinc X0 (Ls' := #[.val (.ref a1), .val (.int (3 : Int32)), .val (.ref a1), .val (.int (4 : Int32)), .val (.int (4 : Int32)), .val (.double x3), .second]) rfl (by decide) rfl own_d_prog_19_method_4_code_32 (pc' := 35) rfl ?_
          refine own_goto X0 own_d_prog_19_method_4_code_35 (pc' := 10) (by decide) (by decide) ?_
          refine own_iload X0 rfl own_d_prog_19_method_4_code_10 (pc' := 12) rfl ?_
          refine own_iloadN X0 rfl own_d_prog_19_method_4_code_12 (pc' := 13) rfl ?_
          refine own_icmpT X0 (by decide) own_d_prog_19_method_4_code_13 (pc' := 38) (by decide) (by decide) ?_
          refine own_iloadN X0 rfl own_d_prog_19_method_4_code_38 (pc' := 39) rfl ?_
          have f123 : own_I 3 (3 : Int) (3 : Int32) := own_I.lit (by decide) (by decide)
          obtain ⟨d124, e124⟩ : ∃ v, FP.i2d (3 : Int32) = v := ⟨_, rfl⟩
          have f124 : own_D 0 3 (3 : Int) d124 := own_D.i2d f123 e124
          refine own_i2d X0 e124 own_d_prog_19_method_4_code_39 (pc' := 40) rfl ?_
          refine own_aloadN X0 rfl rfl own_d_prog_19_method_4_code_40 (pc' := 41) rfl ?_
          refine own_len X0 V1 (v := (4 : Int32)) (show (4 : Nat).toInt32 = (4 : Int32) by decide) own_d_prog_19_method_4_code_41 (pc' := 42) rfl ?_
          have f125 : own_I 4 (4 : Int) (4 : Int32) := own_I.lit (by decide) (by decide)
          obtain ⟨d126, e126⟩ : ∃ v, FP.i2d (4 : Int32) = v := ⟨_, rfl⟩
          have f126 : own_D 0 4 (4 : Int) d126 := own_D.i2d f125 e126
          refine own_i2d X0 e126 own_d_prog_19_method_4_code_42 (pc' := 43) rfl ?_
          obtain ⟨d128, e128⟩ : ∃ v, FP.ddiv d124 d126 = v := ⟨_, rfl⟩
          have q128 := own_quot_nn f124 f126 (by decide) e128
          refine own_ddiv X0 e128 q128 own_d_prog_19_method_4_code_43 (pc' := 44) rfl ?_
          have q129 : own_D 0 4 ((if 0 < i_x0 then 1 else 0) + (if 0 < i_x1 then 1 else 0) + (if 0 < i_x2 then 1 else 0) + (if 0 < i_x3 then 1 else 0)) d124 := (f124.mono (by decide)).of_eq (by simp [c112, c113, c114, c115])
          exact own_retD X0  own_d_prog_19_method_4_code_44 rfl (by decide) (by decide) ⟨⟨_, _, _, rfl, q129, f126, e128⟩, rfl⟩
      · -- no c114
        refine own_ifT X0 (own_c3_ngt c114).2 own_d_prog_19_method_4_code_26 (pc' := 32) (by decide) (by decide) ?_
        refine own_iinc X0 (Ls' := #[.val (.ref a1), .val (.int (2 : Int32)), .val (.ref a1), .val (.int (4 : Int32)), .val (.int (3 : Int32)), .val (.double x2), .second]) rfl (by decide) rfl own_d_prog_19_method_4_code_32 (pc' := 35) rfl ?_
        refine own_goto X0 own_d_prog_19_method_4_code_35 (pc' := 10) (by decide) (by decide) ?_
        refine own_iload X0 rfl own_d_prog_19_method_4_code_10 (pc' := 12) rfl ?_
        refine own_iloadN X0 rfl own_d_prog_19_method_4_code_12 (pc' := 13) rfl ?_
        refine own_icmpF X0 (by decide) own_d_prog_19_method_4_code_13 (pc' := 16) rfl ?_
        refine own_aloadN X0 rfl rfl own_d_prog_19_method_4_code_16 (pc' := 17) rfl ?_
        refine own_iload X0 rfl own_d_prog_19_method_4_code_17 (pc' := 19) rfl ?_
        refine own_daload X0 V1 (i := 3) (by decide) (by decide) rfl own_d_prog_19_method_4_code_19 (pc' := 20) rfl ?_
        refine own_dstore X0 (Ls' := #[.val (.ref a1), .val (.int (2 : Int32)), .val (.ref a1), .val (.int (4 : Int32)), .val (.int (3 : Int32)), .val (.double x3), .second]) rfl own_d_prog_19_method_4_code_20 (pc' := 22) rfl ?_
        refine own_dload X0 rfl own_d_prog_19_method_4_code_22 (pc' := 24) rfl ?_
        refine own_dconst0 X0 (v := (0 : UInt64)) rfl own_d_prog_19_method_4_code_24 (pc' := 25) rfl ?_
        refine own_dcmp X0 S3.cmp0 own_d_prog_19_method_4_code_25 (pc' := 26) rfl ?_
        by_cases c130 : (0 : Int) < i_x3
        · -- yes c130
          refine own_ifF X0 (own_c3_gt c130).2 own_d_prog_19_method_4_code_26 (pc' := 29) rfl ?_
          refine own_iinc X0 (Ls' := #[.val (.ref a1), .val (.int (3 : Int32)), .val (.ref a1), .val (.int (4 : Int32)), .val (.int (3 : Int32)), .val (.double x3), .second]) rfl (by decide) rfl own_d_prog_19_method_4_code_29 (pc' := 32) rfl ?_
          refine own_iinc X0 (Ls' := #[.val (.ref a1), .val (.int (3 : Int32)), .val (.ref a1), .val (.int (4 : Int32)), .val (.int (4 : Int32)), .val (.double x3), .second]) rfl (by decide) rfl own_d_prog_19_method_4_code_32 (pc' := 35) rfl ?_
          refine own_goto X0 own_d_prog_19_method_4_code_35 (pc' := 10) (by decide) (by decide) ?_
          refine own_iload X0 rfl own_d_prog_19_method_4_code_10 (pc' := 12) rfl ?_
          refine own_iloadN X0 rfl own_d_prog_19_method_4_code_12 (pc' := 13) rfl ?_
          refine own_icmpT X0 (by decide) own_d_prog_19_method_4_code_13 (pc' := 38) (by decide) (by decide) ?_
          refine own_iloadN X0 rfl own_d_prog_19_method_4_code_38 (pc' := 39) rfl ?_
          have f131 : own_I 3 (3 : Int) (3 : Int32) := own_I.lit (by decide) (by decide)
          obtain ⟨d132, e132⟩ : ∃ v, FP.i2d (3 : Int32) = v := ⟨_, rfl⟩
          have f132 : own_D 0 3 (3 : Int) d132 := own_D.i2d f131 e132
          refine own_i2d X0 e132 own_d_prog_19_method_4_code_39 (pc' := 40) rfl ?_
          refine own_aloadN X0 rfl rfl own_d_prog_19_method_4_code_40 (pc' := 41) rfl ?_
          refine own_len X0 V1 (v := (4 : Int32)) (show (4 : Nat).toInt32 = (4 : Int32) by decide) own_d_prog_19_method_4_code_41 (pc' := 42) rfl ?_
          have f133 : own_I 4 (4 : Int) (4 : Int32) := own_I.lit (by decide) (by decide)
          obtain ⟨d134, e134⟩ : ∃ v, FP.i2d (4 : Int32) = v := ⟨_, rfl⟩
          have f134 : own_D 0 4 (4 : Int) d134 := own_D.i2d f133 e134
          refine own_i2d X0 e134 own_d_prog_19_method_4_code_42 (pc' := 43) rfl ?_
          obtain ⟨d136, e136⟩ : ∃ v, FP.ddiv d132 d134 = v := ⟨_, rfl⟩
          have q136 := own_quot_nn f132 f134 (by decide) e136
          refine own_ddiv X0 e136 q136 own_d_prog_19_method_4_code_43 (pc' := 44) rfl ?_
          have q137 : own_D 0 4 ((if 0 < i_x0 then 1 else 0) + (if 0 < i_x1 then 1 else 0) + (if 0 < i_x2 then 1 else 0) + (if 0 < i_x3 then 1 else 0)) d132 := (f132.mono (by decide)).of_eq (by simp [c112, c113, c114, c130])
          exact own_retD X0  own_d_prog_19_method_4_code_44 rfl (by decide) (by decide) ⟨⟨_, _, _, rfl, q137, f134, e136⟩, rfl⟩
        · -- no c130
          refine own_ifT X0 (own_c3_ngt c130).2 own_d_prog_19_method_4_code_26 (pc' := 32) (by decide) (by decide) ?_
          refine own_iinc X0 (Ls' := #[.val (.ref a1), .val (.int (2 : Int32)), .val (.ref a1), .val (.int (4 : Int32)), .val (.int (4 : Int32)), .val (.double x3), .second]) rfl (by decide) rfl own_d_prog_19_method_4_code_32 (pc' := 35) rfl ?_
          refine own_goto X0 own_d_prog_19_method_4_code_35 (pc' := 10) (by decide) (by decide) ?_
          refine own_iload X0 rfl own_d_prog_19_method_4_code_10 (pc' := 12) rfl ?_
          refine own_iloadN X0 rfl own_d_prog_19_method_4_code_12 (pc' := 13) rfl ?_
          refine own_icmpT X0 (by decide) own_d_prog_19_method_4_code_13 (pc' := 38) (by decide) (by decide) ?_
          refine own_iloadN X0 rfl own_d_prog_19_method_4_code_38 (pc' := 39) rfl ?_
          have f138 : own_I 2 (2 : Int) (2 : Int32) := own_I.lit (by decide) (by decide)
          obtain ⟨d139, e139⟩ : ∃ v, FP.i2d (2 : Int32) = v := ⟨_, rfl⟩
          have f139 : own_D 0 2 (2 : Int) d139 := own_D.i2d f138 e139
          refine own_i2d X0 e139 own_d_prog_19_method_4_code_39 (pc' := 40) rfl ?_
          refine own_aloadN X0 rfl rfl own_d_prog_19_method_4_code_40 (pc' := 41) rfl ?_
          refine own_len X0 V1 (v := (4 : Int32)) (show (4 : Nat).toInt32 = (4 : Int32) by decide) own_d_prog_19_method_4_code_41 (pc' := 42) rfl ?_
          have f140 : own_I 4 (4 : Int) (4 : Int32) := own_I.lit (by decide) (by decide)
          obtain ⟨d141, e141⟩ : ∃ v, FP.i2d (4 : Int32) = v := ⟨_, rfl⟩
          have f141 : own_D 0 4 (4 : Int) d141 := own_D.i2d f140 e141
          refine own_i2d X0 e141 own_d_prog_19_method_4_code_42 (pc' := 43) rfl ?_
          obtain ⟨d143, e143⟩ : ∃ v, FP.ddiv d139 d141 = v := ⟨_, rfl⟩
          have q143 := own_quot_nn f139 f141 (by decide) e143
          refine own_ddiv X0 e143 q143 own_d_prog_19_method_4_code_43 (pc' := 44) rfl ?_
          have q144 : own_D 0 4 ((if 0 < i_x0 then 1 else 0) + (if 0 < i_x1 then 1 else 0) + (if 0 < i_x2 then 1 else 0) + (if 0 < i_x3 then 1 else 0)) d139 := (f139.mono (by decide)).of_eq (by simp [c112, c113, c114, c130])
          exact own_retD X0  own_d_prog_19_method_4_code_44 rfl (by decide) (by decide) ⟨⟨_, _, _, rfl, q144, f141, e143⟩, rfl⟩
    · -- no c113
      refine own_ifT X0 (own_c3_ngt c113).2 own_d_prog_19_method_4_code_26 (pc' := 32) (by decide) (by decide) ?_
      refine own_iinc X0 (Ls' := #[.val (.ref a1), .val (.int (1 : Int32)), .val (.ref a1), .val (.int (4 : Int32)), .val (.int (2 : Int32)), .val (.double x1), .second]) rfl (by decide) rfl own_d_prog_19_method_4_code_32 (pc' := 35) rfl ?_
      refine own_goto X0 own_d_prog_19_method_4_code_35 (pc' := 10) (by decide) (by decide) ?_
      refine own_iload X0 rfl own_d_prog_19_method_4_code_10 (pc' := 12) rfl ?_
      refine own_iloadN X0 rfl own_d_prog_19_method_4_code_12 (pc' := 13) rfl ?_
      refine own_icmpF X0 (by decide) own_d_prog_19_method_4_code_13 (pc' := 16) rfl ?_
      refine own_aloadN X0 rfl rfl own_d_prog_19_method_4_code_16 (pc' := 17) rfl ?_
      refine own_iload X0 rfl own_d_prog_19_method_4_code_17 (pc' := 19) rfl ?_
      refine own_daload X0 V1 (i := 2) (by decide) (by decide) rfl own_d_prog_19_method_4_code_19 (pc' := 20) rfl ?_
      refine own_dstore X0 (Ls' := #[.val (.ref a1), .val (.int (1 : Int32)), .val (.ref a1), .val (.int (4 : Int32)), .val (.int (2 : Int32)), .val (.double x2), .second]) rfl own_d_prog_19_method_4_code_20 (pc' := 22) rfl ?_
      refine own_dload X0 rfl own_d_prog_19_method_4_code_22 (pc' := 24) rfl ?_
      refine own_dconst0 X0 (v := (0 : UInt64)) rfl own_d_prog_19_method_4_code_24 (pc' := 25) rfl ?_
      refine own_dcmp X0 S2.cmp0 own_d_prog_19_method_4_code_25 (pc' := 26) rfl ?_
      by_cases c145 : (0 : Int) < i_x2
      · -- yes c145
        refine own_ifF X0 (own_c3_gt c145).2 own_d_prog_19_method_4_code_26 (pc' := 29) rfl ?_
        refine own_iinc X0 (Ls' := #[.val (.ref a1), .val (.int (2 : Int32)), .val (.ref a1), .val (.int (4 : Int32)), .val (.int (2 : Int32)), .val (.double x2), .second]) rfl (by decide) rfl own_d_prog_19_method_4_code_29 (pc' := 32) rfl ?_
        refine own_iinc X0 (Ls' := #[.val (.ref a1), .val (.int (2 : Int32)), .val (.ref a1), .val (.int (4 : Int32)), .val (.int (3 : Int32)), .val (.double x2), .second]) rfl (by decide) rfl own_d_prog_19_method_4_code_32 (pc' := 35) rfl ?_
        refine own_goto X0 own_d_prog_19_method_4_code_35 (pc' := 10) (by decide) (by decide) ?_
        refine own_iload X0 rfl own_d_prog_19_method_4_code_10 (pc' := 12) rfl ?_
        refine own_iloadN X0 rfl own_d_prog_19_method_4_code_12 (pc' := 13) rfl ?_
        refine own_icmpF X0 (by decide) own_d_prog_19_method_4_code_13 (pc' := 16) rfl ?_
        refine own_aloadN X0 rfl rfl own_d_prog_19_method_4_code_16 (pc' := 17) rfl ?_
        refine own_iload X0 rfl own_d_prog_19_method_4_code_17 (pc' := 19) rfl ?_
        refine own_daload X0 V1 (i := 3) (by decide) (by decide) rfl own_d_prog_19_method_4_code_19 (pc' := 20) rfl ?_
        refine own_dstore X0 (Ls' := #[.val (.ref a1), .val (.int (2 : Int32)), .val (.ref a1), .val (.int (4 : Int32)), .val (.int (3 : Int32)), .val (.double x3), .second]) rfl own_d_prog_19_method_4_code_20 (pc' := 22) rfl ?_
        refine own_dload X0 rfl own_d_prog_19_method_4_code_22 (pc' := 24) rfl ?_
        refine own_dconst0 X0 (v := (0 : UInt64)) rfl own_d_prog_19_method_4_code_24 (pc' := 25) rfl ?_
        refine own_dcmp X0 S3.cmp0 own_d_prog_19_method_4_code_25 (pc' := 26) rfl ?_
        by_cases c146 : (0 : Int) < i_x3
        · -- yes c146
          refine own_ifF X0 (own_c3_gt c146).2 own_d_prog_19_method_4_code_26 (pc' := 29) rfl ?_
          refine own_iinc X0 (Ls' := #[.val (.ref a1), .val (.int (3 : Int32)), .val (.ref a1), .val (.int (4 : Int32)), .val (.int (3 : Int32)), .val (.double x3), .second]) rfl (by decide) rfl own_d_prog_19_method_4_code_29 (pc' := 32) rfl ?_
          refine own_iinc X0 (Ls' := #[.val (.ref a1), .val (.int (3 : Int32)), .val (.ref a1), .val (.int (4 : Int32)), .val (.int (4 : Int32)), .val (.double x3), .second]) rfl (by decide) rfl own_d_prog_19_method_4_code_32 (pc' := 35) rfl ?_
          refine own_goto X0 own_d_prog_19_method_4_code_35 (pc' := 10) (by decide) (by decide) ?_
          refine own_iload X0 rfl own_d_prog_19_method_4_code_10 (pc' := 12) rfl ?_
          refine own_iloadN X0 rfl own_d_prog_19_method_4_code_12 (pc' := 13) rfl ?_
          refine own_icmpT X0 (by decide) own_d_prog_19_method_4_code_13 (pc' := 38) (by decide) (by decide) ?_
          refine own_iloadN X0 rfl own_d_prog_19_method_4_code_38 (pc' := 39) rfl ?_
          have f147 : own_I 3 (3 : Int) (3 : Int32) := own_I.lit (by decide) (by decide)
          obtain ⟨d148, e148⟩ : ∃ v, FP.i2d (3 : Int32) = v := ⟨_, rfl⟩
          have f148 : own_D 0 3 (3 : Int) d148 := own_D.i2d f147 e148
          refine own_i2d X0 e148 own_d_prog_19_method_4_code_39 (pc' := 40) rfl ?_
          refine own_aloadN X0 rfl rfl own_d_prog_19_method_4_code_40 (pc' := 41) rfl ?_
          refine own_len X0 V1 (v := (4 : Int32)) (show (4 : Nat).toInt32 = (4 : Int32) by decide) own_d_prog_19_method_4_code_41 (pc' := 42) rfl ?_
          have f149 : own_I 4 (4 : Int) (4 : Int32) := own_I.lit (by decide) (by decide)
          obtain ⟨d150, e150⟩ : ∃ v, FP.i2d (4 : Int32) = v := ⟨_, rfl⟩
          have f150 : own_D 0 4 (4 : Int) d150 := own_D.i2d f149 e150
          refine own_i2d X0 e150 own_d_prog_19_method_4_code_42 (pc' := 43) rfl ?_
          obtain ⟨d152, e152⟩ : ∃ v, FP.ddiv d148 d150 = v := ⟨_, rfl⟩
          have q152 := own_quot_nn f148 f150 (by decide) e152
          refine own_ddiv X0 e152 q152 own_d_prog_19_method_4_code_43 (pc' := 44) rfl ?_
          have q153 : own_D 0 4 ((if 0 < i_x0 then 1 else 0) + (if 0 < i_x1 then 1 else 0) + (if 0 < i_x2 then 1 else 0) + (if 0 < i_x3 then 1 else 0)) d148 := (f148.mono (by decide)).of_eq (by simp [c112, c113, c145, c146])
          exact own_retD X0  own_d_prog_19_method_4_code_44 rfl (by decide) (by decide) ⟨⟨_, _, _, rfl, q153, f150, e152⟩, rfl⟩
        · -- no c146
          refine own_ifT X0 (own_c3_ngt c146).2 own_d_prog_19_method_4_code_26 (pc' := 32) (by decide) (by decide) ?_
          refine own_iinc X0 (Ls' := #[.val (.ref a1), .val (.int (2 : Int32)), .val (.ref a1), .val (.int (4 : Int32)), .val (.int (4 : Int32)), .val (.double x3), .second]) rfl (by decide) rfl own_d_prog_19_method_4_code_32 (pc' := 35) rfl ?_
          refine own_goto X0 own_d_prog_19_method_4_code_35 (pc' := 10) (by decide) (by decide) ?_
          refine own_iload X0 rfl own_d_prog_19_method_4_code_10 (pc' := 12) rfl ?_
          refine own_iloadN X0 rfl own_d_prog_19_method_4_code_12 (pc' := 13) rfl ?_
          refine own_icmpT X0 (by decide) own_d_prog_19_method_4_code_13 (pc' := 38) (by decide) (by decide) ?_
          refine own_iloadN X0 rfl own_d_prog_19_method_4_code_38 (pc' := 39) rfl ?_
          have f154 : own_I 2 (2 : Int) (2 : Int32) := own_I.lit (by decide) (by decide)
          obtain ⟨d155, e155⟩ : ∃ v, FP.i2d (2 : Int32) = v := ⟨_, rfl⟩
          have f155 : own_D 0 2 (2 : Int) d155 := own_D.i2d f154 e155
          refine own_i2d X0 e155 own_d_prog_19_method_4_code_39 (pc' := 40) rfl ?_
          refine own_aloadN X0 rfl rfl own_d_prog_19_method_4_code_40 (pc' := 41) rfl ?_
          refine own_len X0 V1 (v := (4 : Int32)) (show (4 : Nat).toInt32 = (4 : Int32) by decide) own_d_prog_19_method_4_code_41 (pc' := 42) rfl ?_
          have f156 : own_I 4 (4 : Int) (4 : Int32) := own_I.lit (by decide) (by decide)
          obtain ⟨d157, e157⟩ : ∃ v, FP.i2d (4 : Int32) = v := ⟨_, rfl⟩
          have f157 : own_D 0 4 (4 : Int) d157 := own_D.i2d f156 e157
          refine own_i2d X0 e157 own_d_prog_19_method_4_code_42 (pc' := 43) rfl ?_
          obtain ⟨d159, e159⟩ : ∃ v, FP.ddiv d155 d157 = v := ⟨_, rfl⟩
          have q159 := own_quot_nn f155 f157 (by decide) e159
          refine own_ddiv X0 e159 q159 own_d_prog_19_method_4_code_43 (pc' := 44) rfl ?_
          have q160 : own_D 0 4 ((if 0 < i_x0 then 1 else 0) + (if 0 < i_x1 then 1 else 0) + (if 0 < i_x2 then 1 else 0) + (if 0 < i_x3 then 1 else 0)) d155 := (f155.mono (by decide)).of_eq (by simp [c112, c113, c145, c146])
          exact own_retD X0  own_d_prog_19_method_4_code_44 rfl (by decide) (by decide) ⟨⟨_, _, _, rfl, q160, f157, e159⟩, rfl⟩
      · -- no c145
        refine own_ifT X0 (own_c3_ngt c145).2 own_d_prog_19_method_4_code_26 (pc' := 32) (by decide) (by decide) ?_
        refine own_iinc X0 (Ls' := #[.val (.ref a1), .val (.int (1 : Int32)), .val (.ref a1), .val (.int (4 : Int32)), .val (.int (3 : Int32)), .val (.double x2), .second]) rfl (by decide) rfl own_d_prog_19_method_4_code_32 (pc' := 35) rfl ?_
        refine own_goto X0 own_d_prog_19_method_4_code_35 (pc' := 10) (by decide) (by decide) ?_
        refine own_iload X0 rfl own_d_prog_19_method_4_code_10 (pc' := 12) rfl ?_
        refine own_iloadN X0 rfl own_d_prog_19_method_4_code_12 (pc' := 13) rfl ?_
        refine own_icmpF X0 (by decide) own_d_prog_19_method_4_code_13 (pc' := 16) rfl ?_
        refine own_aloadN X0 rfl rfl own_d_prog_19_method_4_code_16 (pc' := 17) rfl ?_
        refine own_iload X0 rfl own_d_prog_19_method_4_code_17 (pc' := 19) rfl ?_
        refine own_daload X0 V1 (i := 3) (by decide) (by decide) rfl own_d_prog_19_method_4_code_19 (pc' := 20) rfl ?_
        refine own_dstore X0 (Ls' := #[.val (.ref a1), .val (.int (1 : Int32)), .val (.ref a1), .val (.int (4 : Int32)), .val (.int (3 : Int32)), .val (.double x3), .second]) rfl own_d_prog_19_method_4_code_20 (pc' := 22) rfl ?_
        refine own_dload X0 rfl own_d_prog_19_method_4_code_22 (pc' := 24) rfl ?_
        refine own_dconst0 X0 (v := (0 : UInt64)) rfl own_d_prog_19_method_4_code_24 (pc' := 25) rfl ?_
        refine own_dcmp X0 S3.cmp0 own_d_prog_19_method_4_code_25 (pc' := 26) rfl ?_
        by_cases c161 : (0 : Int) < i_x3
        · -- yes c161
          refine own_ifF X0 (own_c3_gt c161).2 own_d_prog_19_method_4_code_26 (pc' := 29) rfl ?_
          refine own_iinc X0 (Ls' := #[.val (.ref a1), .val (.int (2 : Int32)), .val (.ref a1), .val (.int (4 : Int32)), .val (.int (3 : Int32)), .val (.double x3), .second]) rfl (by decide) rfl own_d_prog_19_method_4_code_29 (pc' := 32) rfl ?_
          refine own_iinc X0 (Ls' := #[.val (.ref a1), .val (.int (2 : Int32)), .val (.ref a1), .val (.int (4 : Int32)), .val (.int (4 : Int32)), .val (.double x3), .second]) rfl (by decide) rfl own_d_prog_19_method_4_code_32 (pc' := 35) rfl ?_
          refine own_goto X0 own_d_prog_19_method_4_code_35 (pc' := 10) (by decide) (by decide) ?_
          refine own_iload X0 rfl own_d_prog_19_method_4_code_10 (pc' := 12) rfl ?_
          refine own_iloadN X0 rfl own_d_prog_19_method_4_code_12 (pc' := 13) rfl ?_
          refine own_icmpT X0 (by decide) own_d_prog_19_method_4_code_13 (pc' := 38) (by decide) (by decide) ?_
          refine own_iloadN X0 rfl own_d_prog_19_method_4_code_38 (pc' := 39) rfl ?_
          have f162 : own_I 2 (2 : Int) (2 : Int32) := own_I.lit (by decide) (by decide)
          obtain ⟨d163, e163⟩ : ∃ v, FP.i2d (2 : Int32) = v := ⟨_, rfl⟩
          have f163 : own_D 0 2 (2 : Int) d163 := own_D.i2d f162 e163
          refine own_i2d X0 e163 own_d_prog_19_method_4_code_39 (pc' := 40) rfl ?_
          refine own_aloadN X0 rfl rfl own_d_prog_19_method_4_code_40 (pc' := 41) rfl ?_
          refine own_len X0 V1 (v := (4 : Int32)) (show (4 : Nat).toInt32 = (4 : Int32) by decide) own_d_prog_19_method_4_code_41 (pc' := 42) rfl ?_
          have f164 : own_I 4 (4 : Int) (4 : Int32) := own_I.lit (by decide) (by decide)
          obtain ⟨d165, e165⟩ : ∃ v, FP.i2d (4 : Int32) = v := ⟨_, rfl⟩
          have f165 : own_D 0 4 (4 : Int) d165 := own_D.i2d f164 e165
          refine own_i2d X0 e165 own_d_prog_19_method_4_code_42 (pc' := 43) rfl ?_
          obtain ⟨d167, e167⟩ : ∃ v, FP.ddiv d163 d165 = v := ⟨_, rfl⟩
          have q167 := own_quot_nn f163 f165 (by decide) e167
          refine own_ddiv X0 e167 q167 own_d_prog_19_method_4_code_43 (pc' := 44) rfl ?_
          have q168 : own_D 0 4 ((if 0 < i_x0 then 1 else 0) + (if 0 < i_x1 then 1 else 0) + (if 0 < i_x2 then 1 else 0) + (if 0 < i_x3 then 1 else 0)) d163 := (f163.mono (by decide)).of_eq (by simp [c112, c113, c145, c161])
          exact own_retD X0  own_d_prog_19_method_4_code_44 rfl (by decide) (by decide) ⟨⟨_, _, _, rfl, q168, f165, e167⟩, rfl⟩
        · -- no c161
          refine own_ifT X0 (own_c3_ngt c161).2 own_d_prog_19_method_4_code_26 (pc' := 32) (by decide) (by decide) ?_
          refine own_iinc X0 (Ls' := #[.val (.ref a1), .val (.int (1 : Int32)), .val (.ref a1), .val (.int (4 : Int32)), .val (.int (4 : Int32)), .val (.double x3), .second]) rfl (by decide) rfl own_d_prog_19_method_4_code_32 (pc' := 35) rfl ?_
          refine own_goto X0 own_d_prog_19_method_4_code_35 (pc' := 10) (by decide) (by decide) ?_
          refine own_iload X0 rfl own_d_prog_19_method_4_code_10 (pc' := 12) rfl ?_
          refine own_iloadN X0 rfl own_d_prog_19_method_4_code_12 (pc' := 13) rfl ?_
          refine own_icmpT X0 (by decide) own_d_prog_19_method_4_code_13 (pc' := 38) (by decide) (by decide) ?_
          refine own_iloadN X0 rfl own_d_prog_19_method_4_code_38 (pc' := 39) rfl ?_
          have f169 : own_I 1 (1 : Int) (1 : Int32) := own_I.lit (by decide) (by decide)
          obtain ⟨d170, e170⟩ : ∃ v, FP.i2d (1 : Int32) = v := ⟨_, rfl⟩
          have f170 : own_D 0 1 (1 : Int) d170 := own_D.i2d f169 e170
          refine own_i2d X0 e170 own_d_prog_19_method_4_code_39 (pc' := 40) rfl ?_
          refine own_aloadN X0 rfl rfl own_d_prog_19_method_4_code_40 (pc' := 41) rfl ?_
          refine own_len X0 V1 (v := (4 : Int32)) (show (4 : Nat).toInt32 = (4 : Int32) by decide) own_d_prog_19_method_4_code_41 (pc' := 42) rfl ?_
          have f171 : own_I 4 (4 : Int) (4 : Int32) := own_I.lit (by decide) (by decide)
          obtain ⟨d172, e172⟩ : ∃ v, FP.i2d (4 : Int32) = v := ⟨_, rfl⟩
          have f172 : own_D 0 4 (4 : Int) d172 := own_D.i2d f171 e172
          refine own_i2d X0 e172 own_d_prog_19_method_4_code_42 (pc' := 43) rfl ?_
          obtain ⟨d174, e174⟩ : ∃ v, FP.ddiv d170 d172 = v := ⟨_, rfl⟩
          have q174 := own_quot_nn f170 f172 (by decide) e174
          refine own_ddiv X0 e174 q174 own_d_prog_19_method_4_code_43 (pc' := 44) rfl ?_
          have q175 : own_D 0 4 ((if 0 < i_x0 then 1 else 0) + (if 0 < i_x1 then 1 else 0) + (if 0 < i_x2 then 1 else 0) + (if 0 < i_x3 then 1 else 0)) d170 := (f170.mono (by decide)).of_eq (by simp [c112, c113, c145, c161])
          exact own_retD X0  own_d_prog_19_method_4_code_44 rfl (by decide) (by decide) ⟨⟨_, _, _, rfl, q175, f172, e174⟩, rfl⟩
  · -- no c112
    refine own_ifT X0 (own_c3_ngt c112).2 own_d_prog_19_method_4_code_26 (pc' := 32) (by decide) (by decide) ?_
    refine own_iinc X0 (Ls' := #[.val (.ref a1), .val (.int (0 : Int32)), .val (.ref a1), .val (.int (4 : Int32)), .val (.int (1 : Int32)), .val (.double x0), .second]) rfl (by decide) rfl own_d_prog_19_method_4_code_32 (pc' := 35) rfl ?_
    refine own_goto X0 own_d_prog_19_method_4_code_35 (pc' := 10) (by decide) (by decide) ?_
    refine own_iload X0 rfl own_d_prog_19_method_4_code_10 (pc' := 12) rfl ?_
    refine own_iloadN X0 rfl own_d_prog_19_method_4_code_12 (pc' := 13) rfl ?_
    refine own_icmpF X0 (by decide) own_d_prog_19_method_4_code_13 (pc' := 16) rfl ?_
    refine own_aloadN X0 rfl rfl own_d_prog_19_method_4_code_16 (pc' := 17) rfl ?_
    refine own_iload X0 rfl own_d_prog_19_method_4_code_17 (pc' := 19) rfl ?_
    refine own_daload X0 V1 (i := 1) (by decide) (by decide) rfl own_d_prog_19_method_4_code_19 (pc' := 20) rfl ?_
    refine own_dstore X0 (Ls' := #[.val (.ref a1), .val (.int (0 : Int32)), .val (.ref a1), .val (.int (4 : Int32)), .val (.int (1 : Int32)), .val (.double x1), .second]) rfl own_d_prog_19_method_4_code_20 (pc' := 22) rfl ?_
    refine own_dload X0 rfl own_d_prog_19_method_4_code_22 (pc' := 24) rfl ?_
    refine own_dconst0 X0 (v := (0 : UInt64)) rfl own_d_prog_19_method_4_code_24 (pc' := 25) rfl ?_
    refine own_dcmp X0 S1.cmp0 own_d_prog_19_method_4_code_25 (pc' := 26) rfl ?_
    by_cases c176 : (0 : Int) < i_x1
    · -- yes c176
      refine own_ifF X0 (own_c3_gt c176).2 own_d_prog_19_method_4_code_26 (pc' := 29) rfl ?_
      refine own_iinc X0 (Ls' := #[.val (.ref a1), .val (.int (1 : Int32)), .val (.ref a1), .val (.int (4 : Int32)), .val (.int (1 : Int32)), .val (.double x1), .second]) rfl (by decide) rfl own_d_prog_19_method_4_code_29 (pc' := 32) rfl ?_
      refine own_iinc X0 (Ls' := #[.val (.ref a1), .val (.int (1 : Int32)), .val (.ref a1), .val (.int (4 : Int32)), .val (.int (2 : Int32)), .val (.double x1), .second]) rfl (by decide) rfl own_d_prog_19_method_4_code_32 (pc' := 35) rfl ?_
      refine own_goto X0 own_d_prog_19_method_4_code_35 (pc' := 10) (by decide) (by decide) ?_
      refine own_iload X0 rfl own_d_prog_19_method_4_code_10 (pc' := 12) rfl ?_
      refine own_iloadN X0 rfl own_d_prog_19_method_4_code_12 (pc' := 13) rfl ?_
      refine own_icmpF X0 (by decide) own_d_prog_19_method_4_code_13 (pc' := 16) rfl ?_
      refine own_aloadN X0 rfl rfl own_d_prog_19_method_4_code_16 (pc' := 17) rfl ?_
      refine own_iload X0 rfl own_d_prog_19_method_4_code_17 (pc' := 19) rfl ?_
      refine own_daload X0 V1 (i := 2) (by decide) (by decide) rfl own_d_prog_19_method_4_code_19 (pc' := 20) rfl ?_
      refine own_dstore X0 (Ls' := #[.val (.ref a1), .val (.int (1 : Int32)), .val (.ref a1), .val (.int (4 : Int32)), .val (.int (2 : Int32)), .val (.double x2), .second]) rfl own_d_prog_19_method_4_code_20 (pc' := 22) rfl ?_
      refine own_dload X0 rfl own_d_prog_19_method_4_code_22 (pc' := 24) rfl ?_
      refine own_dconst0 X0 (v := (0 : UInt64)) rfl own_d_prog_19_method_4_code_24 (pc' := 25) rfl ?_
      refine own_dcmp X0 S2.cmp0 own_d_prog_19_method_4_code_25 (pc' := 26) rfl ?_
      by_cases c177 : (0 : Int) < i_x2
      · -- yes c177
        refine own_ifF X0 (own_c3_gt c177).2 own_d_prog_19_method_4_code_26 (pc' := 29) rfl ?_
        refine own_iinc X0 (Ls' := #[.val (.ref a1), .val (.int (2 : Int32)), .val (.ref a1), .val (.int (4 : Int32)), .val (.int (2 : Int32)), .val (.double x2), .second]) rfl (by decide) rfl own_d_prog_19_method_4_code_29 (pc' := 32) rfl ?_
        refine own_iinc X0 (Ls' := #[.val (.ref a1), .val (.int (2 : Int32)), .val (.ref a1), .val (.int (4 : Int32)), .val (.int (3 : Int32)), .val (.double x2), .second]) rfl (by decide) rfl own_d_prog_19_method_4_code_32 (pc' := 35) rfl ?_
        refine own_goto X0 own_d_prog_19_method_4_code_35 (pc' := 10) (by decide) (by decide) ?_
        refine own_iload X0 rfl own_d_prog_19_method_4_code_10 (pc' := 12) rfl ?_
        refine own_iloadN X0 rfl own_d_prog_19_method_4_code_12 (pc' := 13) rfl ?_
        refine own_icmpF X0 (by decide) own_d_prog_19_method_4_code_13 (pc' := 16) rfl ?_
        refine own_aloadN X0 rfl rfl own_d_prog_19_method_4_code_16 (pc' := 17) rfl ?_
        refine own_iload X0 rfl own_d_prog_19_method_4_code_17 (pc' := 19) rfl ?_
        refine own_daload X0 V1 (i := 3) (by decide) (by decide) rfl own_d_prog_19_method_4_code_19 (pc' := 20) rfl ?_
        refine own_dstore X0 (Ls' := #[.val (.ref a1), .val (.int (2 : Int32)), .val (.ref a1), .val (.int (4 : Int32)), .val (.int (3 : Int32)), .val (.double x3), .second]) rfl own_d_prog_19_method_4_code_20 (pc' := 22) rfl ?_
        refine own_dload X0 rfl own_d_prog_19_method_4_code_22 (pc' := 24) rfl ?_
        refine own_dconst0 X0 (v := (0 : UInt64)) rfl own_d_prog_19_method_4_code_24 (pc' := 25) rfl ?_
        refine own_dcmp X0 S3.cmp0 own_d_prog_19_method_4_code_25 (pc' := 26) rfl ?_
        by_cases c178 : (0 : Int) < i_x3
        · -- yes c178
          refine own_ifF X0 (own_c3_gt c178).2 own_d_prog_19_method_4_code_26 (pc' := 29) rfl ?_
          refine own_iinc X0 (Ls' := #[.val (.ref a1), .val (.int (3 : Int32)), .val (.ref a1), .val (.int (4 : Int32)), .val (.int (3 : Int32)), .val (.double x3), .second]) rfl (by decide) rfl own_d_prog_19_method_4_code_29 (pc' := 32) rfl ?_
          refine own_iinc X0 (Ls' := #[.val (.ref a1), .val (.int (3 : Int32)), .val (.ref a1), .val (.int (4 : Int32)), .val (.int (4 : Int32)), .val (.double x3), .second]) rfl (by decide) rfl own_d_prog_19_method_4_code_32 (pc' := 35) rfl ?_
          refine own_goto X0 own_d_prog_19_method_4_code_35 (pc' := 10) (by decide) (by decide) ?_
          refine own_iload X0 rfl own_d_prog_19_method_4_code_10 (pc' := 12) rfl ?_
          refine own_iloadN X0 rfl own_d_prog_19_method_4_code_12 (pc' := 13) rfl ?_
          refine own_icmpT X0 (by decide) own_d_prog_19_method_4_code_13 (pc' := 38) (by decide) (by decide) ?_
          refine own_iloadN X0 rfl own_d_prog_19_method_4_code_38 (pc' := 39) rfl ?_
          have f179 : own_I 3 (3 : Int) (3 : Int32) := own_I.lit (by decide) (by decide)
          obtain ⟨d180, e180⟩ : ∃ v, FP.i2d (3 : Int32) = v := ⟨_, rfl⟩
          have f180 : own_D 0 3 (3 : Int) d180 := own_D.i2d f179 e180
          refine own_i2d X0 e180 own_d_prog_19_method_4_code_39 (pc' := 40) rfl ?_
          refine own_aloadN X0 rfl rfl own_d_prog_19_method_4_code_40 (pc' := 41) rfl ?_
          refine own_len X0 V1 (v := (4 : Int32)) (show (4 : Nat).toInt32 = (4 : Int32) by decide) own_d_prog_19_method_4_code_41 (pc' := 42) rfl ?_
          have f181 : own_I 4 (4 : Int) (4 : Int32) := own_I.lit (by decide) (by decide)
          obtain ⟨d182, e182⟩ : ∃ v, FP.i2d (4 : Int32) = v := ⟨_, rfl⟩
          have f182 : own_D 0 4 (4 : Int) d182 := own_D.i2d f181 e182
          refine own_i2d X0 e182 own_d_prog_19_method_4_code_42 (pc' := 43) rfl ?_
          obtain ⟨d184, e184⟩ : ∃ v, FP.ddiv d180 d182 = v := ⟨_, rfl⟩
          have q184 := own_quot_nn f180 f182 (by decide) e184
          refine own_ddiv X0 e184 q184 own_d_prog_19_method_4_code_43 (pc' := 44) rfl ?_
          have q185 : own_D 0 4 ((if 0 < i_x0 then 1 else 0) + (if 0 < i_x1 then 1 else 0) + (if 0 < i_x2 then 1 else 0) + (if 0 < i_x3 then 1 else 0)) d180 := (f180.mono (by decide)).of_eq (by simp [c112, c176, c177, c178])
          exact own_retD X0  own_d_prog_19_method_4_code_44 rfl (by decide) (by decide) ⟨⟨_, _, _, rfl, q185, f182, e184⟩, rfl⟩
        · -- no c178
          refine own_ifT X0 (own_c3_ngt c178).2 own_d_prog_19_method_4_code_26 (pc' := 32) (by decide) (by decide) ?_
          refine own_iinc X0 (Ls' := #[.val (.ref a1), .val (.int (2 : Int32)), .val (.ref a1), .val (.int (4 : Int32)), .val (.int (4 : Int32)), .val (.double x3), .second]) rfl (by decide) rfl own_d_prog_19_method_4_code_32 (pc' := 35) rfl ?_
          refine own_goto X0 own_d_prog_19_method_4_code_35 (pc' := 10) (by decide) (by decide) ?_
          refine own_iload X0 rfl own_d_prog_19_method_4_code_10 (pc' := 12) rfl ?_
          refine own_iloadN X0 rfl own_d_prog_19_method_4_code_12 (pc' := 13) rfl ?_
          refine own_icmpT X0 (by decide) own_d_prog_19_method_4_code_13 (pc' := 38) (by decide) (by decide) ?_
          refine own_iloadN X0 rfl own_d_prog_19_method_4_code_38 (pc' := 39) rfl ?_
          have f186 : own_I 2 (2 : Int) (2 : Int32) := own_I.lit (by decide) (by decide)
          obtain ⟨d187, e187⟩ : ∃ v, FP.i2d (2 : Int32) = v := ⟨_, rfl⟩
          have f187 : own_D 0 2 (2 : Int) d187 := own_D.i2d f186 e187
          refine own_i2d X0 e187 own_d_prog_19_method_4_code_39 (pc' := 40) rfl ?_
          refine own_aloadN X0 rfl rfl own_d_prog_19_method_4_code_40 (pc' := 41) rfl ?_
          refine own_len X0 V1 (v := (4 : Int32)) (show (4 : Nat).toInt32 = (4 : Int32) by decide) own_d_prog_19_method_4_code_41 (pc' := 42) rfl ?_
          have f188 : own_I 4 (4 : Int) (4 : Int32) := own_I.lit (by decide) (by decide)
          obtain ⟨d189, e189⟩ : ∃ v, FP.i2d (4 : Int32) = v := ⟨_, rfl⟩
          have f189 : own_D 0 4 (4 : Int) d189 := own_D.i2d f188 e189
          refine own_i2d X0 e189 own_d_prog_19_method_4_code_42 (pc' := 43) rfl ?_
          obtain ⟨d191, e191⟩ : ∃ v, FP.ddiv d187 d189 = v := ⟨_, rfl⟩
          have q191 := own_quot_nn f187 f189 (by decide) e191
          refine own_ddiv X0 e191 q191 own_d_prog_19_method_4_code_43 (pc' := 44) rfl ?_
          have q192 : own_D 0 4 ((if 0 < i_x0 then 1 else 0) + (if 0 < i_x1 then 1 else 0) + (if 0 < i_x2 then 1 else 0) + (if 0 < i_x3 then 1 else 0)) d187 := (f187.mono (by decide)).of_eq (by simp [c112, c176, c177, c178])
          exact own_retD X0  own_d_prog_19_method_4_code_44 rfl (by decide) (by decide) ⟨⟨_, _, _, rfl, q192, f189, e191⟩, rfl⟩
      · -- no c177
        refine own_ifT X0 (own_c3_ngt c177).2 own_d_prog_19_method_4_code_26 (pc' := 32) (by decide) (by decide) ?_
        refine own_iinc X0 (Ls' := #[.val (.ref a1), .val (.int (1 : Int32)), .val (.ref a1), .val (.int (4 : Int32)), .val (.int (3 : Int32)), .val (.double x2), .second]) rfl (by decide) rfl own_d_prog_19_method_4_code_32 (pc' := 35) rfl ?_
        refine own_goto X0 own_d_prog_19_method_4_code_35 (pc' := 10) (by decide) (by decide) ?_
        refine own_iload X0 rfl own_d_prog_19_method_4_code_10 (pc' := 12) rfl ?_
        refine own_iloadN X0 rfl own_d_prog_19_method_4_code_12 (pc' := 13) rfl ?_
        refine own_icmpF X0 (by decide) own_d_prog_19_method_4_code_13 (pc' := 16) rfl ?_
        refine own_aloadN X0 rfl rfl own_d_prog_19_method_4_code_16 (pc' := 17) rfl ?_
        refine own_iload X0 rfl own_d_prog_19_method_4_code_17 (pc' := 19) rfl ?_
        refine own_daload X0 V1 (i := 3) (by decide) (by decide) rfl own_d_prog_19_method_4_code_19 (pc' := 20) rfl ?_
        refine own_dstore X0 (Ls' := #[.val (.ref a1), .val (.int (1 : Int32)), .val (.ref a1), .val (.int (4 : Int32)), .val (.int (3 : Int32)), .val (.double x3), .second]) rfl own_d_prog_19_method_4_code_20 (pc' := 22) rfl ?_
        refine own_dload X0 rfl own_d_prog_19_method_4_code_22 (pc' := 24) rfl ?_
        refine own_dconst0 X0 (v := (0 : UInt64)) rfl own_d_prog_19_method_4_code_24 (pc' := 25) rfl ?_
        refine own_dcmp X0 S3.cmp0 own_d_prog_19_method_4_code_25 (pc' := 26) rfl ?_
        by_cases c193 : (0 : Int) < i_x3
        · -- yes c193
          refine own_ifF X0 (own_c3_gt c193).2 own_d_prog_19_method_4_code_26 (pc' := 29) rfl ?_
          refine own_iinc X0 (Ls' := #[.val (.ref a1), .val (.int (2 : Int32)), .val (.ref a1), .val (.int (4 : Int32)), .val (.int (3 : Int32)), .val (.double x3), .second]) rfl (by decide) rfl own_d_prog_19_method_4_code_29 (pc' := 32) rfl ?_
          refine own_iinc X0 (Ls' := #[.val (.ref a1), .val (.int (2 : Int32)), .val (.ref a1), .val (.int (4 : Int32)), .val (.int (4 : Int32)), .val (.double x3), .second]) rfl (by decide) rfl own_d_prog_19_method_4_code_32 (pc' := 35) rfl ?_
          refine own_goto X0 own_d_prog_19_method_4_code_35 (pc' := 10) (by decide) (by decide) ?_
          refine own_iload X0 rfl own_d_prog_19_method_4_code_10 (pc' := 12) rfl ?_
          refine own_iloadN X0 rfl own_d_prog_19_method_4_code_12 (pc' := 13) rfl ?_
          refine own_icmpT X0 (by decide) own_d_prog_19_method_4_code_13 (pc' := 38) (by decide) (by decide) ?_
          refine own_iloadN X0 rfl own_d_prog_19_method_4_code_38 (pc' := 39) rfl ?_
          have f194 : own_I 2 (2 : Int) (2 : Int32) := own_I.lit (by decide) (by decide)
          obtain ⟨d195, e195⟩ : ∃ v, FP.i2d (2 : Int32) = v := ⟨_, rfl⟩
          have f195 : own_D 0 2 (2 : Int) d195 := own_D.i2d f194 e195
          refine own_i2d X0 e195 own_d_prog_19_method_4_code_39 (pc' := 40) rfl ?_
          refine own_aloadN X0 rfl rfl own_d_prog_19_method_4_code_40 (pc' := 41) rfl ?_
          refine own_len X0 V1 (v := (4 : Int32)) (show (4 : Nat).toInt32 = (4 : Int32) by decide) own_d_prog_19_method_4_code_41 (pc' := 42) rfl ?_
          have f196 : own_I 4 (4 : Int) (4 : Int32) := own_I.lit (by decide) (by decide)
          obtain ⟨d197, e197⟩ : ∃ v, FP.i2d (4 : Int32) = v := ⟨_, rfl⟩
          have f197 : own_D 0 4 (4 : Int) d197 := own_D.i2d f196 e197
          refine own_i2d X0 e197 own_d_prog_19_method_4_code_42 (pc' := 43) rfl ?_
          obtain ⟨d199, e199⟩ : ∃ v, FP.ddiv d195 d197 = v := ⟨_, rfl⟩
          have q199 := own_quot_nn f195 f197 (by decide) e199
          refine own_ddiv X0 e199 q199 own_d_prog_19_method_4_code_43 (pc' := 44) rfl ?_
          have q200 : own_D 0 4 ((if 0 < i_x0 then 1 else 0) + (if 0 < i_x1 then 1 else 0) + (if 0 < i_x2 then 1 else 0) + (if 0 < i_x3 then 1 else 0)) d195 := (f195.mono (by decide)).of_eq (by simp [c112, c176, c177, c193])
          exact own_retD X0  own_d_prog_19_method_4_code_44 rfl (by decide) (by decide) ⟨⟨_, _, _, rfl, q200, f197, e199⟩, rfl⟩
        · -- no c193
          refine own_ifT X0 (own_c3_ngt c193).2 own_d_prog_19_method_4_code_26 (pc' := 32) (by decide) (by decide) ?_
          refine own_iinc X0 (Ls' := #[.val (.ref a1), .val (.int (1 : Int32)), .val (.ref a1), .val (.int (4 : Int32)), .val (.int (4 : Int32)), .val (.double x3), .second]) rfl (by decide) rfl own_d_prog_19_method_4_code_32 (pc' := 35) rfl ?_
          refine own_goto X0 own_d_prog_19_method_4_code_35 (pc' := 10) (by decide) (by decide) ?_
          refine own_iload X0 rfl own_d_prog_19_method_4_code_10 (pc' := 12) rfl ?_
          refine own_iloadN X0 rfl own_d_prog_19_method_4_code_12 (pc' := 13) rfl ?_
          refine own_icmpT X0 (by decide) own_d_prog_19_method_4_code_13 (pc' := 38) (by decide) (by decide) ?_
          refine own_iloadN X0 rfl own_d_prog_19_method_4_code_38 (pc' := 39) rfl ?_
          have f201 : own_I 1 (1 : Int) (1 : Int32) := own_I.lit (by decide) (by decide)
          obtain ⟨d202, e202⟩ : ∃ v, FP.i2d (1 : Int32) = v := ⟨_, rfl⟩
          have f202 : own_D 0 1 (1 : Int) d202 := own_D.i2d f201 e202
          refine own_i2d X0 e202 own_d_prog_19_method_4_code_39 (pc' := 40) rfl ?_
          refine own_aloadN X0 rfl rfl own_d_prog_19_method_4_code_40 (pc' := 41) rfl ?_
          refine own_len X0 V1 (v := (4 : Int32)) (show (4 : Nat).toInt32 = (4 : Int32) by decide) own_d_prog_19_method_4_code_41 (pc' := 42) rfl ?_
          have f203 : own_I 4 (4 : Int) (4 : Int32) := own_I.lit (by decide) (by decide)
          obtain ⟨d204, e204⟩ : ∃ v, FP.i2d (4 : Int32) = v := ⟨_, rfl⟩
          have f204 : own_D 0 4 (4 : Int) d204 := own_D.i2d f203 e204
          refine own_i2d X0 e204 own_d_prog_19_method_4_code_42 (pc' := 43) rfl ?_
          obtain ⟨d206, e206⟩ : ∃ v, FP.ddiv d202 d204 = v := ⟨_, rfl⟩
          have q206 := own_quot_nn f202 f204 (by decide) e206
          refine own_ddiv X0 e206 q206 own_d_prog_19_method_4_code_43 (pc' := 44) rfl ?_
          have q207 : own_D 0 4 ((if 0 < i_x0 then 1 else 0) + (if 0 < i_x1 then 1 else 0) + (if 0 < i_x2 then 1 else 0) + (if 0 < i_x3 then 1 else 0)) d202 := (f202.mono (by decide)).of_eq (by simp [c112, c176, c177, c193])
          exact own_retD X0  own_d_prog_19_method_4_code_44 rfl (by decide) (by decide) ⟨⟨_, _, _, rfl, q207, f204, e206⟩, rfl⟩
    · -- no c176
      refine own_ifT X0 (own_c3_ngt c176).2 own_d_prog_19_method_4_code_26 (pc' := 32) (by decide) (by decide) ?_
      refine own_iinc X0 (Ls' := #[.val (.ref a1), .val (.int (0 : Int32)), .val (.ref a1), .val (.int (4 : Int32)), .val (.int (2 : Int32)), .val (.double x1), .second]) rfl (by decide) rfl own_d_prog_19_method_4_code_32 (pc' := 35) rfl ?_
      refine own_goto X0 own_d_prog_19_method_4_code_35 (pc' := 10) (by decide) (by decide) ?_
      refine own_iload X0 rfl own_d_prog_19_method_4_code_10 (pc' := 12) rfl ?_
      refine own_iloadN X0 rfl own_d_prog_19_method_4_code_12 (pc' := 13) rfl ?_
      refine own_icmpF X0 (by decide) own_d_prog_19_method_4_code_13 (pc' := 16) rfl ?_
      refine own_aloadN X0 rfl rfl own_d_prog_19_method_4_code_16 (pc' := 17) rfl ?_
      refine own_iload X0 rfl own_d_prog_19_method_4_code_17 (pc' := 19) rfl ?_
      refine own_daload X0 V1 (i := 2) (by decide) (by decide) rfl own_d_prog_19_method_4_code_19 (pc' := 20) rfl ?_
      refine own_dstore X0 (Ls' := #[.val (.ref a1), .val (.int (0 : Int32)), .val (.ref a1), .val (.int (4 : Int32)), .val (.int (2 : Int32)), .val (.double x2), .second]) rfl own_d_prog_19_method_4_code_20 (pc' := 22) rfl ?_
      refine own_dload X0 rfl own_d_prog_19_method_4_code_22 (pc' := 24) rfl ?_
      refine own_dconst0 X0 (v := (0 : UInt64)) rfl own_d_prog_19_method_4_code_24 (pc' := 25) rfl ?_
      refine own_dcmp X0 S2.cmp0 own_d_prog_19_method_4_code_25 (pc' := 26) rfl ?_
      by_cases c208 : (0 : Int) < i_x2
      · -- yes c208
        refine own_ifF X0 (own_c3_gt c208).2 own_d_prog_19_method_4_code_26 (pc' := 29) rfl ?_
        refine own_iinc X0 (Ls' := #[.val (.ref a1), .val (.int (1 : Int32)), .val (.ref a1), .val (.int (4 : Int32)), .val (.int (2 : Int32)), .val (.double x2), .second]) rfl (by decide) rfl own_d_prog_19_method_4_code_29 (pc' := 32) rfl ?_
        refine own_iinc X0 (Ls' := #[.val (.ref a1), .val (.int (1 : Int32)), .val (.ref a1), .val (.int (4 : Int32)), .val (.int (3 : Int32)), .val (.double x2), .second]) rfl (by decide) rfl own_d_prog_19_method_4_code_32 (pc' := 35) rfl ?_
        refine own_goto X0 own_d_prog_19_method_4_code_35 (pc' := 10) (by decide) (by decide) ?_
        refine own_iload X0 rfl own_d_prog_19_method_4_code_10 (pc' := 12) rfl ?_
        refine own_iloadN X0 rfl own_d_prog_19_method_4_code_12 (pc' := 13) rfl ?_
        refine own_icmpF X0 (by decide) own_d_prog_19_method_4_code_13 (pc' := 16) rfl ?_
        refine own_aloadN X0 rfl rfl own_d_prog_19_method_4_code_16 (pc' := 17) rfl ?_
        refine own_iload X0 rfl own_d_prog_19_method_4_code_17 (pc' := 19) rfl ?_
        refine own_daload X0 V1 (i := 3) (by decide) (by decide) rfl own_d_prog_19_method_4_code_19 (pc' := 20) rfl ?_
        refine own_dstore X0 (Ls' := #[.val (.ref a1), .val (.int (1 : Int32)), .val (.ref a1), .val (.int (4 : Int32)), .val (.int (3 : Int32)), .val (.double x3), .second]) rfl own_d_prog_19_method_4_code_20 (pc' := 22) rfl ?_
        refine own_dload X0 rfl own_d_prog_19_method_4_code_22 (pc' := 24) rfl ?_
        refine own_dconst0 X0 (v := (0 : UInt64)) rfl own_d_prog_19_method_4_code_24 (pc' := 25) rfl ?_
        refine own_dcmp X0 S3.cmp0 own_d_prog_19_method_4_code_25 (pc' := 26) rfl ?_
        by_cases c209 : (0 : Int) < i_x3
        · -- yes c209
          refine own_ifF X0 (own_c3_gt c209).2 own_d_prog_19_method_4_code_26 (pc' := 29) rfl ?_
          refine own_iinc X0 (Ls' := #[.val (.ref a1), .val (.int (2 : Int32)), .val (.ref a1), .val (.int (4 : Int32)), .val (.int (3 : Int32)), .val (.double x3), .second]) rfl (by decide) rfl own_d_prog_19_method_4_code_29 (pc' := 32) rfl ?_
          refine own_iinc X0 (Ls' := #[.val (.ref a1), .val (.int (2 : Int32)), .val (.ref a1), .val (.int (4 : Int32)), .val (.int (4 : Int32)), .val (.double x3), .second]) rfl (by decide) rfl own_d_prog_19_method_4_code_32 (pc' := 35) rfl ?_
          refine own_goto X0 own_d_prog_19_method_4_code_35 (pc' := 10) (by decide) (by decide) ?_
          refine own_iload X0 rfl own_d_prog_19_method_4_code_10 (pc' := 12) rfl ?_
          refine own_iloadN X0 rfl own_d_prog_19_method_4_code_12 (pc' := 13) rfl ?_
          refine own_icmpT X0 (by decide) own_d_prog_19_method_4_code_13 (pc' := 38) (by decide) (by decide) ?_
          refine own_iloadN X0 rfl own_d_prog_19_method_4_code_38 (pc' := 39) rfl ?_
          have f210 : own_I 2 (2 : Int) (2 : Int32) := own_I.lit (by decide) (by decide)
          obtain ⟨d211, e211⟩ : ∃ v, FP.i2d (2 : Int32) = v := ⟨_, rfl⟩
          have f211 : own_D 0 2 (2 : Int) d211 := own_D.i2d f210 e211
          refine own_i2d X0 e211 own_d_prog_19_method_4_code_39 (pc' := 40) rfl ?_
          refine own_aloadN X0 rfl rfl own_d_prog_19_method_4_code_40 (pc' := 41) rfl ?_
          refine own_len X0 V1 (v := (4 : Int32)) (show (4 : Nat).toInt32 = (4 : Int32) by decide) own_d_prog_19_method_4_code_41 (pc' := 42) rfl ?_
          have f212 : own_I 4 (4 : Int) (4 : Int32) := own_I.lit (by decide) (by decide)
          obtain ⟨d213, e213⟩ : ∃ v, FP.i2d (4 : Int32) = v := ⟨_, rfl⟩
          have f213 : own_D 0 4 (4 : Int) d213 := own_D.i2d f212 e213
          refine own_i2d X0 e213 own_d_prog_19_method_4_code_42 (pc' := 43) rfl ?_
          obtain ⟨d215, e215⟩ : ∃ v, FP.ddiv d211 d213 = v := ⟨_, rfl⟩
          have q215 := own_quot_nn f211 f213 (by decide) e215
          refine own_ddiv X0 e215 q215 own_d_prog_19_method_4_code_43 (pc' := 44) rfl ?_
          have q216 : own_D 0 4 ((if 0 < i_x0 then 1 else 0) + (if 0 < i_x1 then 1 else 0) + (if 0 < i_x2 then 1 else 0) + (if 0 < i_x3 then 1 else 0)) d211 := (f211.mono (by decide)).of_eq (by simp [c112, c176, c208, c209])
          exact own_retD X0  own_d_prog_19_method_4_code_44 rfl (by decide) (by decide) ⟨⟨_, _, _, rfl, q216, f213, e215⟩, rfl⟩
        · -- no c209
          refine own_ifT X0 (own_c3_ngt c209).2 own_d_prog_19_method_4_code_26 (pc' := 32) (by decide) (by decide) ?_
          refine own_iinc X0 (Ls' := #[.val (.ref a1), .val (.int (1 : Int32)), .val (.ref a1), .val (.int (4 : Int32)), .val (.int (4 : Int32)), .val (.double x3), .second]) rfl (by decide) rfl own_d_prog_19_method_4_code_32 (pc' := 35) rfl ?_
          refine own_goto X0 own_d_prog_19_method_4_code_35 (pc' := 10) (by decide) (by decide) ?_
          refine own_iload X0 rfl own_d_prog_19_method_4_code_10 (pc' := 12) rfl ?_
          refine own_iloadN X0 rfl own_d_prog_19_method_4_code_12 (pc' := 13) rfl ?_
          refine own_icmpT X0 (by decide) own_d_prog_19_method_4_code_13 (pc' := 38) (by decide) (by decide) ?_
          refine own_iloadN X0 rfl own_d_prog_19_method_4_code_38 (pc' := 39) rfl ?_
          have f217 : own_I 1 (1 : Int) (1 : Int32) := own_I.lit (by decide) (by decide)
          obtain ⟨d218, e218⟩ : ∃ v, FP.i2d (1 : Int32) = v := ⟨_, rfl⟩
          have f218 : own_D 0 1 (1 : Int) d218 := own_D.i2d f217 e218
          refine own_i2d X0 e218 own_d_prog_19_method_4_code_39 (pc' := 40) rfl ?_
          refine own_aloadN X0 rfl rfl own_d_prog_19_method_4_code_40 (pc' := 41) rfl ?_
          refine own_len X0 V1 (v := (4 : Int32)) (show (4 : Nat).toInt32 = (4 : Int32) by decide) own_d_prog_19_method_4_code_41 (pc' := 42) rfl ?_
          have f219 : own_I 4 (4 : Int) (4 : Int32) := own_I.lit (by decide) (by decide)
          obtain ⟨d220, e220⟩ : ∃ v, FP.i2d (4 : Int32) = v := ⟨_, rfl⟩
          have f220 : own_D 0 4 (4 : Int) d220 := own_D.i2d f219 e220
          refine own_i2d X0 e220 own_d_prog_19_method_4_code_42 (pc' := 43) rfl ?_
          obtain ⟨d222, e222⟩ : ∃ v, FP.ddiv d218 d220 = v := ⟨_, rfl⟩
          have q222 := own_quot_nn f218 f220 (by decide) e222
          refine own_ddiv X0 e222 q222 own_d_prog_19_method_4_code_43 (pc' := 44) rfl ?_
          have q223 : own_D 0 4 ((if 0 < i_x0 then 1 else 0) + (if 0 < i_x1 then 1 else 0) + (if 0 < i_x2 then 1 else 0) + (if 0 < i_x3 then 1 else 0)) d218 := (f218.mono (by decide)).of_eq (by simp [c112, c176, c208, c209])
          exact own_retD X0  own_d_prog_19_method_4_code_44 rfl (by decide) (by decide) ⟨⟨_, _, _, rfl, q223, f220, e222⟩, rfl⟩
      · -- no c208
        refine own_ifT X0 (own_c3_ngt c208).2 own_d_prog_19_method_4_code_26 (pc' := 32) (by decide) (by decide) ?_
        refine own_iinc X0 (Ls' := #[.val (.ref a1), .val (.int (0 : Int32)), .val (.ref a1), .val (.int (4 : Int32)), .val (.int (3 : Int32)), .val (.double x2), .second]) rfl (by decide) rfl own_d_prog_19_method_4_code_32 (pc' := 35) rfl ?_
        refine own_goto X0 own_d_prog_19_method_4_code_35 (pc' := 10) (by decide) (by decide) ?_
        refine own_iload X0 rfl own_d_prog_19_method_4_code_10 (pc' := 12) rfl ?_
        refine own_iloadN X0 rfl own_d_prog_19_method_4_code_12 (pc' := 13) rfl ?_
        refine own_icmpF X0 (by decide) own_d_prog_19_method_4_code_13 (pc' := 16) rfl ?_
        refine own_aloadN X0 rfl rfl own_d_prog_19_method_4_code_16 (pc' := 17) rfl ?_
        refine own_iload X0 rfl own_d_prog_19_method_4_code_17 (pc' := 19) rfl ?_
        refine own_daload X0 V1 (i := 3) (by decide) (by decide) rfl own_d_prog_19_method_4_code_19 (pc' := 20) rfl ?_
        refine own_dstore X0 (Ls' := #[.val (.ref a1), .val (.int (0 : Int32)), .val (.ref a1), .val (.int (4 : Int32)), .val (.int (3 : Int32)), .val (.double x3), .second]) rfl own_d_prog_19_method_4_code_20 (pc' := 22) rfl ?_
        refine own_dload X0 rfl own_d_prog_19_method_4_code_22 (pc' := 24) rfl ?_
        refine own_dconst0 X0 (v := (0 : UInt64)) rfl own_d_prog_19_method_4_code_24 (pc' := 25) rfl ?_
        refine own_dcmp X0 S3.cmp0 own_d_prog_19_method_4_code_25 (pc' := 26) rfl ?_
        by_cases c224 : (0 : Int) < i_x3
        · -- yes c224
          refine own_ifF X0 (own_c3_gt c224).2 own_d_prog_19_method_4_code_26 (pc' := 29) rfl ?_
          refine own_iinc X0 (Ls' := #[.val (.ref a1), .val (.int (1 : Int32)), .val (.ref a1), .val (.int (4 : Int32)), .val (.int (3 : Int32)), .val (.double x3), .second]) rfl (by decide) rfl own_d_prog_19_method_4_code_29 (pc' := 32) rfl ?_
          refine own_iinc X0 (Ls' := #[.val (.ref a1), .val (.int (1 : Int32)), .val (.ref a1), .val (.int (4 : Int32)), .val (.int (4 : Int32)), .val (.double x3), .second]) rfl (by decide) rfl own_d_prog_19_method_4_code_32 (pc' := 35) rfl ?_
          refine own_goto X0 own_d_prog_19_method_4_code_35 (pc' := 10) (by decide) (by decide) ?_
          refine own_iload X0 rfl own_d_prog_19_method_4_code_10 (pc' := 12) rfl ?_
          refine own_iloadN X0 rfl own_d_prog_19_method_4_code_12 (pc' := 13) rfl ?_
          refine own_icmpT X0 (by decide) own_d_prog_19_method_4_code_13 (pc' := 38) (by decide) (by decide) ?_
          refine own_iloadN X0 rfl own_d_prog_19_method_4_code_38 (pc' := 39) rfl ?_
          have f225 : own_I 1 (1 : Int) (1 : Int32) := own_I.lit (by decide) (by decide)
          obtain ⟨d226, e226⟩ : ∃ v, FP.i2d (1 : Int32) = v := ⟨_, rfl⟩
          have f226 : own_D 0 1 (1 : Int) d226 := own_D.i2d f225 e226
          refine own_i2d X0 e226 own_d_prog_19_method_4_code_39 (pc' := 40) rfl ?_
          refine own_aloadN X0 rfl rfl own_d_prog_19_method_4_code_40 (pc' := 41) rfl ?_
          refine own_len X0 V1 (v := (4 : Int32)) (show (4 : Nat).toInt32 = (4 : Int32) by decide) own_d_prog_19_method_4_code_41 (pc' := 42) rfl ?_
          have f227 : own_I 4 (4 : Int) (4 : Int32) := own_I.lit (by decide) (by decide)
          obtain ⟨d228, e228⟩ : ∃ v, FP.i2d (4 : Int32) = v := ⟨_, rfl⟩
          have f228 : own_D 0 4 (4 : Int) d228 := own_D.i2d f227 e228
          refine own_i2d X0 e228 own_d_prog_19_method_4_code_42 (pc' := 43) rfl ?_
          obtain ⟨d230, e230⟩ : ∃ v, FP.ddiv d226 d228 = v := ⟨_, rfl⟩
          have q230 := own_quot_nn f226 f228 (by decide) e230
          refine own_ddiv X0 e230 q230 own_d_prog_19_method_4_code_43 (pc' := 44) rfl ?_
          have q231 : own_D 0 4 ((if 0 < i_x0 then 1 else 0) + (if 0 < i_x1 then 1 else 0) + (if 0 < i_x2 then 1 else 0) + (if 0 < i_x3 then 1 else 0)) d226 := (f226.mono (by decide)).of_eq (by simp [c112, c176, c208, c224])
          exact own_retD X0  own_d_prog_19_method_4_code_44 rfl (by decide) (by decide) ⟨⟨_, _, _, rfl, q231, f228, e230⟩, rfl⟩
        · -- no c224
          refine own_ifT X0 (own_c3_ngt c224).2 own_d_prog_19_method_4_code_26 (pc' := 32) (by decide) (by decide) ?_
          refine own_iinc X0 (Ls' := #[.val (.ref a1), .val (.int (0 : Int32)), .val (.ref a1), .val (.int (4 : Int32)), .val (.int (4 : Int32)), .val (.double x3), .second]) rfl (by decide) rfl own_d_prog_19_method_4_code_32 (pc' := 35) rfl ?_
          refine own_goto X0 own_d_prog_19_method_4_code_35 (pc' := 10) (by decide) (by decide) ?_
          refine own_iload X0 rfl own_d_prog_19_method_4_code_10 (pc' := 12) rfl ?_
          refine own_iloadN X0 rfl own_d_prog_19_method_4_code_12 (pc' := 13) rfl ?_
          refine own_icmpT X0 (by decide) own_d_prog_19_method_4_code_13 (pc' := 38) (by decide) (by decide) ?_
          refine own_iloadN X0 rfl own_d_prog_19_method_4_code_38 (pc' := 39) rfl ?_
          have f232 : own_I 0 (0 : Int) (0 : Int32) := own_I.lit (by decide) (by decide)
          obtain ⟨d233, e233⟩ : ∃ v, FP.i2d (0 : Int32) = v := ⟨_, rfl⟩
          have f233 : own_D 0 0 (0 : Int) d233 := own_D.i2d f232 e233
          refine own_i2d X0 e233 own_d_prog_19_method_4_code_39 (pc' := 40) rfl ?_
          refine own_aloadN X0 rfl rfl own_d_prog_19_method_4_code_40 (pc' := 41) rfl ?_
          refine own_len X0 V1 (v := (4 : Int32)) (show (4 : Nat).toInt32 = (4 : Int32) by decide) own_d_prog_19_method_4_code_41 (pc' := 42) rfl ?_
          have f234 : own_I 4 (4 : Int) (4 : Int32) := own_I.lit (by decide) (by decide)
          obtain ⟨d235, e235⟩ : ∃ v, FP.i2d (4 : Int32) = v := ⟨_, rfl⟩
          have f235 : own_D 0 4 (4 : Int) d235 := own_D.i2d f234 e235
          refine own_i2d X0 e235 own_d_prog_19_method_4_code_42 (pc' := 43) rfl ?_
          obtain ⟨d237, e237⟩ : ∃ v, FP.ddiv d233 d235 = v := ⟨_, rfl⟩
          have q237 := own_quot_nn f233 f235 (by decide) e237
          refine own_ddiv X0 e237 q237 own_d_prog_19_method_4_code_43 (pc' := 44) rfl ?_
          have q238 : own_D 0 4 ((if 0 < i_x0 then 1 else 0) + (if 0 < i_x1 then 1 else 0) + (if 0 < i_x2 then 1 else 0) + (if 0 < i_x3 then 1 else 0)) d233 := (f233.mono (by decide)).of_eq (by simp [c112, c176, c208, c224])
          exact own_retD X0  own_d_prog_19_method_4_code_44 rfl (by decide) (by decide) ⟨⟨_, _, _, rfl, q238, f235, e237⟩, rfl⟩
set_option maxRecDepth 65536 in
set_option maxHeartbeats 40000000 in
theorem own_law (l : Launch) (Z : State) (a0 : Array Value) (hw : ∀ d ∈ tables_1, d.before a0 Z = true) (ws : List Jvm.Cond) (p0 : Int32) (p1 : Int64) (p2 : Int64) (p3 : Int64) (p4 : Int64) (h0 : Heap) (n0 : Nat) (Z0 : n0 ≤ h0.size)  :
    own_Met l Z x code maxLocals ret ws room_1 #[(.int p0), (.long p1), (.long p2), (.long p3), (.long p4)] h0 n0 (fun v _ => v = some (.int 1)) := by
  refine own_meet (plainFor_of_name own_pn0) Z0 (Ls0 := #[.val (.int p0), .val (.long p1), .second, .val (.long p2), .second, .val (.long p3), .second, .val (.long p4), .second, .unset, .unset, .unset, .unset, .unset, .unset, .unset, .unset, .unset, .unset, .unset, .unset, .unset, .unset, .unset, .unset]) (by intro m; first | (simp [entryFrame, mkF, argsToLocals, Value.category, maxLocals]; done) | rfl) ?_
  intro p e s m below meth c T0 X0
  refine own_iconst X0 (v := (1 : Int32)) (by decide) at_0 (pc' := 1) rfl ?_
  refine own_iloadN X0 rfl at_1 (pc' := 2) rfl ?_
  refine own_iconst X0 (v := (3 : Int32)) (by decide) at_2 (pc' := 3) rfl ?_
  obtain ⟨i239, e239⟩ : ∃ v, p0 &&& (3 : Int32) = v := ⟨_, rfl⟩
  have f239 : own_I 3 i239.toInt i239 := own_I.and e239 (by decide)
  have nn239 := own_and_nn (M := 3) e239 (by decide)
  refine own_iand X0 e239 at_3 (pc' := 4) rfl ?_
  rcases own_cases4 nn239 with rfl | rfl | rfl | rfl
  · -- 0
    refine own_iadd X0 (v := (1 : Int32)) (by decide) at_4 (pc' := 5) rfl ?_
    refine own_istore X0 (Ls' := #[.val (.int p0), .val (.long p1), .second, .val (.long p2), .second, .val (.long p3), .second, .val (.long p4), .second, .val (.int (1 : Int32)), .unset, .unset, .unset, .unset, .unset, .unset, .unset, .unset, .unset, .unset, .unset, .unset, .unset, .unset, .unset]) rfl at_5 (pc' := 7) rfl ?_
    refine own_iloadN X0 rfl at_7 (pc' := 8) rfl ?_
    refine own_iconst X0 (v := (2 : Int32)) (by decide) at_8 (pc' := 9) rfl ?_
    obtain ⟨i240, e240⟩ : ∃ v, XT.ushr p0 (2 : Int32) = v := ⟨_, rfl⟩
    refine own_iushr X0 e240 at_9 (pc' := 10) rfl ?_
    have un240 := own_ushr_nn (k := 2) e240 (by decide) (by decide)
    refine own_bipush X0 (v := (63 : Int32)) (by decide) at_10 (pc' := 12) rfl ?_
    obtain ⟨i241, e241⟩ : ∃ v, i240 % (63 : Int32) = v := ⟨_, rfl⟩
    refine own_irem X0 (by decide) e241 at_12 (pc' := 13) rfl ?_
    have rm241 := own_irem_bd (d := 63) e241 (by omega) (by decide) (by decide)
    refine own_istore X0 (Ls' := #[.val (.int p0), .val (.long p1), .second, .val (.long p2), .second, .val (.long p3), .second, .val (.long p4), .second, .val (.int (1 : Int32)), .val (.int i241), .unset, .unset, .unset, .unset, .unset, .unset, .unset, .unset, .unset, .unset, .unset, .unset, .unset, .unset]) rfl at_13 (pc' := 15) rfl ?_
    refine own_lconst X0 (v := (1 : Int64)) (by decide) at_15 (pc' := 16) rfl ?_
    refine own_iload X0 rfl at_16 (pc' := 18) rfl ?_
    obtain ⟨j242, e242⟩ : ∃ v, (1 : Int64) <<< (i241.toInt64 &&& 63) = v := ⟨_, rfl⟩
    refine own_lshl X0 e242 at_18 (pc' := 19) rfl ?_
    have f243 := own_L.start j242
    obtain ⟨d244, e244⟩ : ∃ v, FP.l2d j242 = v := ⟨_, rfl⟩
    refine own_l2d X0 e244 at_19 (pc' := 20) rfl ?_
    have pw244 := own_pow (y := i241) (by omega) (by omega) e242 e244
    refine own_dstore X0 (Ls' := #[.val (.int p0), .val (.long p1), .second, .val (.long p2), .second, .val (.long p3), .second, .val (.long p4), .second, .val (.int (1 : Int32)), .val (.int i241), .val (.double d244), .second, .unset, .unset, .unset, .unset, .unset, .unset, .unset, .unset, .unset, .unset, .unset, .unset]) rfl at_20 (pc' := 22) rfl ?_
    refine own_lloadN X0 rfl at_22 (pc' := 23) rfl ?_
    have f245 := own_L.start p1
    obtain ⟨d246, e246⟩ : ∃ v, FP.l2d p1 = v := ⟨_, rfl⟩
    refine own_l2d X0 e246 at_23 (pc' := 24) rfl ?_
    refine own_dload X0 rfl at_24 (pc' := 26) rfl ?_
    obtain ⟨d248, e248⟩ : ∃ v, FP.ddiv d246 d244 = v := ⟨_, rfl⟩
    have S248 : own_S p1.toInt d248 := own_S.quot (a := p1) (by omega) (by omega) pw244 (by rw [e246]; exact e248)
    refine own_ddiv X0 e248 S248.nn at_26 (pc' := 27) rfl ?_
    refine own_dstore X0 (Ls' := #[.val (.int p0), .val (.long p1), .second, .val (.long p2), .second, .val (.long p3), .second, .val (.long p4), .second, .val (.int (1 : Int32)), .val (.int i241), .val (.double d244), .second, .val (.double d248), .second, .unset, .unset, .unset, .unset, .unset, .unset, .unset, .unset, .unset, .unset]) rfl at_27 (pc' := 29) rfl ?_
    refine own_lloadN X0 rfl at_29 (pc' := 30) rfl ?_
    have f249 := own_L.start p2
    obtain ⟨d250, e250⟩ : ∃ v, FP.l2d p2 = v := ⟨_, rfl⟩
    refine own_l2d X0 e250 at_30 (pc' := 31) rfl ?_
    refine own_dload X0 rfl at_31 (pc' := 33) rfl ?_
    obtain ⟨d252, e252⟩ : ∃ v, FP.ddiv d250 d244 = v := ⟨_, rfl⟩
    have S252 : own_S p2.toInt d252 := own_S.quot (a := p2) (by omega) (by omega) pw244 (by rw [e250]; exact e252)
    refine own_ddiv X0 e252 S252.nn at_33 (pc' := 34) rfl ?_
    refine own_dstore X0 (Ls' := #[.val (.int p0), .val (.long p1), .second, .val (.long p2), .second, .val (.long p3), .second, .val (.long p4), .second, .val (.int (1 : Int32)), .val (.int i241), .val (.double d244), .second, .val (.double d248), .second, .val (.double d252), .second, .unset, .unset, .unset, .unset, .unset, .unset, .unset, .unset]) rfl at_34 (pc' := 36) rfl ?_
    refine own_lload X0 rfl at_36 (pc' := 38) rfl ?_
    have f253 := own_L.start p3
    obtain ⟨d254, e254⟩ : ∃ v, FP.l2d p3 = v := ⟨_, rfl⟩
    refine own_l2d X0 e254 at_38 (pc' := 39) rfl ?_
    refine own_dload X0 rfl at_39 (pc' := 41) rfl ?_
    obtain ⟨d256, e256⟩ : ∃ v, FP.ddiv d254 d244 = v := ⟨_, rfl⟩
    have S256 : own_S p3.toInt d256 := own_S.quot (a := p3) (by omega) (by omega) pw244 (by rw [e254]; exact e256)
    refine own_ddiv X0 e256 S256.nn at_41 (pc' := 42) rfl ?_
    refine own_dstore X0 (Ls' := #[.val (.int p0), .val (.long p1), .second, .val (.long p2), .second, .val (.long p3), .second, .val (.long p4), .second, .val (.int (1 : Int32)), .val (.int i241), .val (.double d244), .second, .val (.double d248), .second, .val (.double d252), .second, .val (.double d256), .second, .unset, .unset, .unset, .unset, .unset, .unset]) rfl at_42 (pc' := 44) rfl ?_
    refine own_lload X0 rfl at_44 (pc' := 46) rfl ?_
    have f257 := own_L.start p4
    obtain ⟨d258, e258⟩ : ∃ v, FP.l2d p4 = v := ⟨_, rfl⟩
    refine own_l2d X0 e258 at_46 (pc' := 47) rfl ?_
    refine own_dload X0 rfl at_47 (pc' := 49) rfl ?_
    obtain ⟨d260, e260⟩ : ∃ v, FP.ddiv d258 d244 = v := ⟨_, rfl⟩
    have S260 : own_S p4.toInt d260 := own_S.quot (a := p4) (by omega) (by omega) pw244 (by rw [e258]; exact e260)
    refine own_ddiv X0 e260 S260.nn at_49 (pc' := 50) rfl ?_
    refine own_dstore X0 (Ls' := #[.val (.int p0), .val (.long p1), .second, .val (.long p2), .second, .val (.long p3), .second, .val (.long p4), .second, .val (.int (1 : Int32)), .val (.int i241), .val (.double d244), .second, .val (.double d248), .second, .val (.double d252), .second, .val (.double d256), .second, .val (.double d260), .second, .unset, .unset, .unset, .unset]) rfl at_50 (pc' := 52) rfl ?_
    refine own_iload X0 rfl at_52 (pc' := 54) rfl ?_
    refine own_iconst X0 (v := (1 : Int32)) (by decide) at_54 (pc' := 55) rfl ?_
    refine own_icmpF X0 (by decide) at_55 (pc' := 58) rfl ?_
    refine own_iconst X0 (v := (1 : Int32)) (by decide) at_58 (pc' := 59) rfl ?_
    refine own_newarray X0 (ty := .double) rfl (hw _ (List.mem_of_getElem? (i := 0) rfl)) (n := 1) (vs := [(.double (0 : UInt64))]) (by decide) (by decide) (by decide) rfl (cells' := 1) (slots' := 1) rfl rfl (by decide) (by decide) at_59 (pc' := 61) rfl fun a261 T261 h261 g261 ge261 X261 E261 V261 => ?_
    refine own_dup X261 rfl at_61 (pc' := 62) rfl ?_
    refine own_iconst X261 (v := (0 : Int32)) (by decide) at_62 (pc' := 63) rfl ?_
    refine own_dload X261 rfl at_63 (pc' := 65) rfl ?_
    refine own_dastore X261 V261 ge261 (i := 0) (by decide) (by decide) (show 0 < 1 by decide) at_65 (pc' := 66) rfl fun T262 h262 X262 W262 V262 => ?_
    replace V262 : own_Vec Z h262 a261 .double [(.double d248)] := V262
    refine own_astore X262 (Ls' := #[.val (.int p0), .val (.long p1), .second, .val (.long p2), .second, .val (.long p3), .second, .val (.long p4), .second, .val (.int (1 : Int32)), .val (.int i241), .val (.double d244), .second, .val (.double d248), .second, .val (.double d252), .second, .val (.double d256), .second, .val (.double d260), .second, .val (.ref a261), .unset, .unset, .unset]) rfl rfl at_66 (pc' := 68) rfl ?_
    refine own_goto X262 at_68 (pc' := 149) (by decide) (by decide) ?_
    refine own_lloadN X262 rfl at_149 (pc' := 150) rfl ?_
    refine own_callS X262 (own_pos l Z a0 hw p1 _ n0 X262.le) (hw _ (List.mem_of_getElem? (i := 1) rfl)) (hw _ (List.mem_of_getElem? (i := 2) rfl)) (hw _ (List.mem_of_getElem? (i := 3) rfl)) (hw _ (List.mem_of_getElem? (i := 4) rfl)) (by decide) rfl (by decide) (W := 0) (Nat.le_of_eq rfl) (by decide) (cells' := 1) (slots' := 1) rfl rfl (by decide) (by decide) (argsL := [(.long p1)]) (rest := []) (lenOf own_pd0 rfl) rfl rfl at_150 (pc' := 153) rfl ?_
    rintro _ T263 h263 X263 ⟨⟨r263, rfl, fr263⟩, e263⟩
    subst e263
    show own_Goal p e below _ T263 (mkF m 153 #[.val (.int p0), .val (.long p1), .second, .val (.long p2), .second, .val (.long p3), .second, .val (.long p4), .second, .val (.int (1 : Int32)), .val (.int i241), .val (.double d244), .second, .val (.double d248), .second, .val (.double d252), .second, .val (.double d256), .second, .val (.double d260), .second, .val (.ref a261), .unset, .unset, .unset] [(.int r263)])
    refine own_istore X263 (Ls' := #[.val (.int p0), .val (.long p1), .second, .val (.long p2), .second, .val (.long p3), .second, .val (.long p4), .second, .val (.int (1 : Int32)), .val (.int i241), .val (.double d244), .second, .val (.double d248), .second, .val (.double d252), .second, .val (.double d256), .second, .val (.double d260), .second, .val (.ref a261), .val (.int r263), .unset, .unset]) rfl at_153 (pc' := 155) rfl ?_
    refine own_iload X263 rfl at_155 (pc' := 157) rfl ?_
    refine own_iconst X263 (v := (2 : Int32)) (by decide) at_157 (pc' := 158) rfl ?_
    refine own_icmpT X263 (by decide) at_158 (pc' := 170) (by decide) (by decide) ?_
    refine own_iload X263 rfl at_170 (pc' := 172) rfl ?_
    refine own_iconst X263 (v := (3 : Int32)) (by decide) at_172 (pc' := 173) rfl ?_
    refine own_icmpT X263 (by decide) at_173 (pc' := 186) (by decide) (by decide) ?_
    refine own_iload X263 rfl at_186 (pc' := 188) rfl ?_
    refine own_iconst X263 (v := (4 : Int32)) (by decide) at_188 (pc' := 189) rfl ?_
    refine own_icmpT X263 (by decide) at_189 (pc' := 202) (by decide) (by decide) ?_
    refine own_aload X263 rfl rfl at_202 (pc' := 204) rfl ?_
    refine own_callS X263 (own_fp1 l Z a0 hw a261 d248 p1.toInt _ n0 X263.le V262 S248) (hw _ (List.mem_of_getElem? (i := 5) rfl)) (hw _ (List.mem_of_getElem? (i := 6) rfl)) (hw _ (List.mem_of_getElem? (i := 7) rfl)) (hw _ (List.mem_of_getElem? (i := 8) rfl)) (by decide) rfl (by decide) (W := 0) (Nat.le_of_eq rfl) (by decide) (cells' := 1) (slots' := 1) rfl rfl (by decide) (by decide) (argsL := [(.ref a261)]) (rest := []) (lenOf own_pd1 rfl) rfl rfl at_204 (pc' := 207) rfl ?_
    rintro _ T264 h264 X264 ⟨⟨r264, x264, z264, rfl, fx264, fz264, eq264⟩, e264⟩
    subst e264
    show own_Goal p e below _ T264 (mkF m 207 #[.val (.int p0), .val (.long p1), .second, .val (.long p2), .second, .val (.long p3), .second, .val (.long p4), .second, .val (.int (1 : Int32)), .val (.int i241), .val (.double d244), .second, .val (.double d248), .second, .val (.double d252), .second, .val (.double d256), .second, .val (.double d260), .second, .val (.ref a261), .val (.int r263), .unset, .unset] [(.double r264)])
    refine own_dstore X264 (Ls' := #[.val (.int p0), .val (.long p1), .second, .val (.long p2), .second, .val (.long p3), .second, .val (.long p4), .second, .val (.int (1 : Int32)), .val (.int i241), .val (.double d244), .second, .val (.double d248), .second, .val (.double d252), .second, .val (.double d256), .second, .val (.double d260), .second, .val (.ref a261), .val (.int r263), .val (.double r264), .second]) rfl at_207 (pc' := 209) rfl ?_
    refine own_dload X264 rfl at_209 (pc' := 211) rfl ?_
    refine own_iload X264 rfl at_211 (pc' := 213) rfl ?_
    obtain ⟨d265, e265⟩ : ∃ v, FP.i2d r263 = v := ⟨_, rfl⟩
    have f265 : own_D 0 1 (if 0 < p1.toInt then 1 else 0) d265 := own_D.i2d fr263 e265
    refine own_i2d X264 e265 at_213 (pc' := 214) rfl ?_
    refine own_iload X264 rfl at_214 (pc' := 216) rfl ?_
    have f266 : own_I 1 (1 : Int) (1 : Int32) := own_I.lit (by decide) (by decide)
    obtain ⟨d267, e267⟩ : ∃ v, FP.i2d (1 : Int32) = v := ⟨_, rfl⟩
    have f267 : own_D 0 1 (1 : Int) d267 := own_D.i2d f266 e267
    refine own_i2d X264 e267 at_216 (pc' := 217) rfl ?_
    obtain ⟨d269, e269⟩ : ∃ v, FP.ddiv d265 d267 = v := ⟨_, rfl⟩
    have q269 := own_quot_nn f265 f267 (by decide) e269
    refine own_ddiv X264 e269 q269 at_217 (pc' := 218) rfl ?_
    have q270 := fx264.of_eq (show ((if 0 < p1.toInt then 1 else 0)) = (if 0 < p1.toInt then 1 else 0) by grind)
    refine own_dcmp X264 (v := (0 : Int32)) (own_quot_cmp q270 fz264 f265 f267 (by decide) eq264 e269) at_218 (pc' := 219) rfl ?_
    refine own_ifF X264 (by decide) at_219 (pc' := 222) rfl ?_
    refine own_iconst X264 (v := (1 : Int32)) (by decide) at_222 (pc' := 223) rfl ?_
    refine own_goto X264 at_223 (pc' := 227) (by decide) (by decide) ?_
    exact own_retZ X264 (by decide) at_227 rfl (by decide) (by decide) rfl
  · -- 1
    refine own_iadd X0 (v := (2 : Int32)) (by decide) at_4 (pc' := 5) rfl ?_
    refine own_istore X0 (Ls' := #[.val (.int p0), .val (.long p1), .second, .val (.long p2), .second, .val (.long p3), .second, .val (.long p4), .second, .val (.int (2 : Int32)), .unset, .unset, .unset, .unset, .unset, .unset, .unset, .unset, .unset, .unset, .unset, .unset, .unset, .unset, .unset]) rfl at_5 (pc' := 7) rfl ?_
    refine own_iloadN X0 rfl at_7 (pc' := 8) rfl ?_
    refine own_iconst X0 (v := (2 : Int32)) (by decide) at_8 (pc' := 9) rfl ?_
    obtain ⟨i271, e271⟩ : ∃ v, XT.ushr p0 (2 : Int32) = v := ⟨_, rfl⟩
    refine own_iushr X0 e271 at_9 (pc' := 10) rfl ?_
    have un271 := own_ushr_nn (k := 2) e271 (by decide) (by decide)
    refine own_bipush X0 (v := (63 : Int32)) (by decide) at_10 (pc' := 12) rfl ?_
    obtain ⟨i272, e272⟩ : ∃ v, i271 % (63 : Int32) = v := ⟨_, rfl⟩
    refine own_irem X0 (by decide) e272 at_12 (pc' := 13) rfl ?_
    have rm272 := own_irem_bd (d := 63) e272 (by omega) (by decide) (by decide)
    refine own_istore X0 (Ls' := #[.val (.int p0), .val (.long p1), .second, .val (.long p2), .second, .val (.long p3), .second, .val (.long p4), .second, .val (.int (2 : Int32)), .val (.int i272), .unset, .unset, .unset, .unset, .unset, .unset, .unset, .unset, .unset, .unset, .unset, .unset, .unset, .unset]) rfl at_13 (pc' := 15) rfl ?_
    refine own_lconst X0 (v := (1 : Int64)) (by decide) at_15 (pc' := 16) rfl ?_
    refine own_iload X0 rfl at_16 (pc' := 18) rfl ?_
    obtain ⟨j273, e273⟩ : ∃ v, (1 : Int64) <<< (i272.toInt64 &&& 63) = v := ⟨_, rfl⟩
    refine own_lshl X0 e273 at_18 (pc' := 19) rfl ?_
    have f274 := own_L.start j273
    obtain ⟨d275, e275⟩ : ∃ v, FP.l2d j273 = v := ⟨_, rfl⟩
    refine own_l2d X0 e275 at_19 (pc' := 20) rfl ?_
    have pw275 := own_pow (y := i272) (by omega) (by omega) e273 e275
    refine own_dstore X0 (Ls' := #[.val (.int p0), .val (.long p1), .second, .val (.long p2), .second, .val (.long p3), .second, .val (.long p4), .second, .val (.int (2 : Int32)), .val (.int i272), .val (.double d275), .second, .unset, .unset, .unset, .unset, .unset, .unset, .unset, .unset, .unset, .unset, .unset, .unset]) rfl at_20 (pc' := 22) rfl ?_
    refine own_lloadN X0 rfl at_22 (pc' := 23) rfl ?_
    have f276 := own_L.start p1
    obtain ⟨d277, e277⟩ : ∃ v, FP.l2d p1 = v := ⟨_, rfl⟩
    refine own_l2d X0 e277 at_23 (pc' := 24) rfl ?_
    refine own_dload X0 rfl at_24 (pc' := 26) rfl ?_
    obtain ⟨d279, e279⟩ : ∃ v, FP.ddiv d277 d275 = v := ⟨_, rfl⟩
    have S279 : own_S p1.toInt d279 := own_S.quot (a := p1) (by omega) (by omega) pw275 (by rw [e277]; exact e279)
    refine own_ddiv X0 e279 S279.nn at_26 (pc' := 27) rfl ?_
    refine own_dstore X0 (Ls' := #[.val (.int p0), .val (.long p1), .second, .val (.long p2), .second, .val (.long p3), .second, .val (.long p4), .second, .val (.int (2 : Int32)), .val (.int i272), .val (.double d275), .second, .val (.double d279), .second, .unset, .unset, .unset, .unset, .unset, .unset, .unset, .unset, .unset, .unset]) rfl at_27 (pc' := 29) rfl ?_
    refine own_lloadN X0 rfl at_29 (pc' := 30) rfl ?_
    have f280 := own_L.start p2
    obtain ⟨d281, e281⟩ : ∃ v, FP.l2d p2 = v := ⟨_, rfl⟩
    refine own_l2d X0 e281 at_30 (pc' := 31) rfl ?_
    refine own_dload X0 rfl at_31 (pc' := 33) rfl ?_
    obtain ⟨d283, e283⟩ : ∃ v, FP.ddiv d281 d275 = v := ⟨_, rfl⟩
    have S283 : own_S p2.toInt d283 := own_S.quot (a := p2) (by omega) (by omega) pw275 (by rw [e281]; exact e283)
    refine own_ddiv X0 e283 S283.nn at_33 (pc' := 34) rfl ?_
    refine own_dstore X0 (Ls' := #[.val (.int p0), .val (.long p1), .second, .val (.long p2), .second, .val (.long p3), .second, .val (.long p4), .second, .val (.int (2 : Int32)), .val (.int i272), .val (.double d275), .second, .val (.double d279), .second, .val (.double d283), .second, .unset, .unset, .unset, .unset, .unset, .unset, .unset, .unset]) rfl at_34 (pc' := 36) rfl ?_
    refine own_lload X0 rfl at_36 (pc' := 38) rfl ?_
    have f284 := own_L.start p3
    obtain ⟨d285, e285⟩ : ∃ v, FP.l2d p3 = v := ⟨_, rfl⟩
    refine own_l2d X0 e285 at_38 (pc' := 39) rfl ?_
    refine own_dload X0 rfl at_39 (pc' := 41) rfl ?_
    obtain ⟨d287, e287⟩ : ∃ v, FP.ddiv d285 d275 = v := ⟨_, rfl⟩
    have S287 : own_S p3.toInt d287 := own_S.quot (a := p3) (by omega) (by omega) pw275 (by rw [e285]; exact e287)
    refine own_ddiv X0 e287 S287.nn at_41 (pc' := 42) rfl ?_
    refine own_dstore X0 (Ls' := #[.val (.int p0), .val (.long p1), .second, .val (.long p2), .second, .val (.long p3), .second, .val (.long p4), .second, .val (.int (2 : Int32)), .val (.int i272), .val (.double d275), .second, .val (.double d279), .second, .val (.double d283), .second, .val (.double d287), .second, .unset, .unset, .unset, .unset, .unset, .unset]) rfl at_42 (pc' := 44) rfl ?_
    refine own_lload X0 rfl at_44 (pc' := 46) rfl ?_
    have f288 := own_L.start p4
    obtain ⟨d289, e289⟩ : ∃ v, FP.l2d p4 = v := ⟨_, rfl⟩
    refine own_l2d X0 e289 at_46 (pc' := 47) rfl ?_
    refine own_dload X0 rfl at_47 (pc' := 49) rfl ?_
    obtain ⟨d291, e291⟩ : ∃ v, FP.ddiv d289 d275 = v := ⟨_, rfl⟩
    have S291 : own_S p4.toInt d291 := own_S.quot (a := p4) (by omega) (by omega) pw275 (by rw [e289]; exact e291)
    refine own_ddiv X0 e291 S291.nn at_49 (pc' := 50) rfl ?_
    refine own_dstore X0 (Ls' := #[.val (.int p0), .val (.long p1), .second, .val (.long p2), .second, .val (.long p3), .second, .val (.long p4), .second, .val (.int (2 : Int32)), .val (.int i272), .val (.double d275), .second, .val (.double d279), .second, .val (.double d283), .second, .val (.double d287), .second, .val (.double d291), .second, .unset, .unset, .unset, .unset]) rfl at_50 (pc' := 52) rfl ?_
    refine own_iload X0 rfl at_52 (pc' := 54) rfl ?_
    refine own_iconst X0 (v := (1 : Int32)) (by decide) at_54 (pc' := 55) rfl ?_
    refine own_icmpT X0 (by decide) at_55 (pc' := 71) (by decide) (by decide) ?_
    refine own_iload X0 rfl at_71 (pc' := 73) rfl ?_
    refine own_iconst X0 (v := (2 : Int32)) (by decide) at_73 (pc' := 74) rfl ?_
    refine own_icmpF X0 (by decide) at_74 (pc' := 77) rfl ?_
    refine own_iconst X0 (v := (2 : Int32)) (by decide) at_77 (pc' := 78) rfl ?_
    refine own_newarray X0 (ty := .double) rfl (hw _ (List.mem_of_getElem? (i := 0) rfl)) (n := 2) (vs := [(.double (0 : UInt64)), (.double (0 : UInt64))]) (by decide) (by decide) (by decide) rfl (cells' := 1) (slots' := 2) rfl rfl (by decide) (by decide) at_78 (pc' := 80) rfl fun a292 T292 h292 g292 ge292 X292 E292 V292 => ?_
    refine own_dup X292 rfl at_80 (pc' := 81) rfl ?_
    refine own_iconst X292 (v := (0 : Int32)) (by decide) at_81 (pc' := 82) rfl ?_
    refine own_dload X292 rfl at_82 (pc' := 84) rfl ?_
    refine own_dastore X292 V292 ge292 (i := 0) (by decide) (by decide) (show 0 < 2 by decide) at_84 (pc' := 85) rfl fun T293 h293 X293 W293 V293 => ?_
    replace V293 : own_Vec Z h293 a292 .double [(.double d279), (.double (0 : UInt64))] := V293
    refine own_dup X293 rfl at_85 (pc' := 86) rfl ?_
    refine own_iconst X293 (v := (1 : Int32)) (by decide) at_86 (pc' := 87) rfl ?_
    refine own_dload X293 rfl at_87 (pc' := 89) rfl ?_
    refine own_dastore X293 V293 ge292 (i := 1) (by decide) (by decide) (show 1 < 2 by decide) at_89 (pc' := 90) rfl fun T294 h294 X294 W294 V294 => ?_
    replace V294 : own_Vec Z h294 a292 .double [(.double d279), (.double d283)] := V294
    refine own_astore X294 (Ls' := #[.val (.int p0), .val (.long p1), .second, .val (.long p2), .second, .val (.long p3), .second, .val (.long p4), .second, .val (.int (2 : Int32)), .val (.int i272), .val (.double d275), .second, .val (.double d279), .second, .val (.double d283), .second, .val (.double d287), .second, .val (.double d291), .second, .val (.ref a292), .unset, .unset, .unset]) rfl rfl at_90 (pc' := 92) rfl ?_
    refine own_goto X294 at_92 (pc' := 149) (by decide) (by decide) ?_
    refine own_lloadN X294 rfl at_149 (pc' := 150) rfl ?_
    refine own_callS X294 (own_pos l Z a0 hw p1 _ n0 X294.le) (hw _ (List.mem_of_getElem? (i := 1) rfl)) (hw _ (List.mem_of_getElem? (i := 2) rfl)) (hw _ (List.mem_of_getElem? (i := 3) rfl)) (hw _ (List.mem_of_getElem? (i := 4) rfl)) (by decide) rfl (by decide) (W := 0) (Nat.le_of_eq rfl) (by decide) (cells' := 1) (slots' := 2) rfl rfl (by decide) (by decide) (argsL := [(.long p1)]) (rest := []) (lenOf own_pd0 rfl) rfl rfl at_150 (pc' := 153) rfl ?_
    rintro _ T295 h295 X295 ⟨⟨r295, rfl, fr295⟩, e295⟩
    subst e295
    show own_Goal p e below _ T295 (mkF m 153 #[.val (.int p0), .val (.long p1), .second, .val (.long p2), .second, .val (.long p3), .second, .val (.long p4), .second, .val (.int (2 : Int32)), .val (.int i272), .val (.double d275), .second, .val (.double d279), .second, .val (.double d283), .second, .val (.double d287), .second, .val (.double d291), .second, .val (.ref a292), .unset, .unset, .unset] [(.int r295)])
    refine own_istore X295 (Ls' := #[.val (.int p0), .val (.long p1), .second, .val (.long p2), .second, .val (.long p3), .second, .val (.long p4), .second, .val (.int (2 : Int32)), .val (.int i272), .val (.double d275), .second, .val (.double d279), .second, .val (.double d283), .second, .val (.double d287), .second, .val (.double d291), .second, .val (.ref a292), .val (.int r295), .unset, .unset]) rfl at_153 (pc' := 155) rfl ?_
    refine own_iload X295 rfl at_155 (pc' := 157) rfl ?_
    refine own_iconst X295 (v := (2 : Int32)) (by decide) at_157 (pc' := 158) rfl ?_
    refine own_icmpF X295 (by decide) at_158 (pc' := 161) rfl ?_
    refine own_iload X295 rfl at_161 (pc' := 163) rfl ?_
    refine own_lloadN X295 rfl at_163 (pc' := 164) rfl ?_
    refine own_callS X295 (own_pos l Z a0 hw p2 _ n0 X295.le) (hw _ (List.mem_of_getElem? (i := 1) rfl)) (hw _ (List.mem_of_getElem? (i := 2) rfl)) (hw _ (List.mem_of_getElem? (i := 3) rfl)) (hw _ (List.mem_of_getElem? (i := 4) rfl)) (by decide) rfl (by decide) (W := 1) (Nat.le_of_eq rfl) (by decide) (cells' := 1) (slots' := 2) rfl rfl (by decide) (by decide) (argsL := [(.long p2)]) (rest := [(.int r295)]) (lenOf own_pd0 rfl) rfl rfl at_164 (pc' := 167) rfl ?_
    rintro _ T296 h296 X296 ⟨⟨r296, rfl, fr296⟩, e296⟩
    subst e296
    show own_Goal p e below _ T296 (mkF m 167 #[.val (.int p0), .val (.long p1), .second, .val (.long p2), .second, .val (.long p3), .second, .val (.long p4), .second, .val (.int (2 : Int32)), .val (.int i272), .val (.double d275), .second, .val (.double d279), .second, .val (.double d283), .second, .val (.double d287), .second, .val (.double d291), .second, .val (.ref a292), .val (.int r295), .unset, .unset] [(.int r296), (.int r295)])
    obtain ⟨i297, e297⟩ : ∃ v, r295 + r296 = v := ⟨_, rfl⟩
    have f297 : own_I 2 ((if 0 < p1.toInt then 1 else 0) + (if 0 < p2.toInt then 1 else 0)) i297 := fr295.add fr296 e297 (by decide) (by decide)
    refine own_iadd X296 e297 at_167 (pc' := 168) rfl ?_
    refine own_istore X296 (Ls' := #[.val (.int p0), .val (.long p1), .second, .val (.long p2), .second, .val (.long p3), .second, .val (.long p4), .second, .val (.int (2 : Int32)), .val (.int i272), .val (.double d275), .second, .val (.double d279), .second, .val (.double d283), .second, .val (.double d287), .second, .val (.double d291), .second, .val (.ref a292), .val (.int i297), .unset, .unset]) rfl at_168 (pc' := 170) rfl ?_
    refine own_iload X296 rfl at_170 (pc' := 172) rfl ?_
    refine own_iconst X296 (v := (3 : Int32)) (by decide) at_172 (pc' := 173) rfl ?_
    refine own_icmpT X296 (by decide) at_173 (pc' := 186) (by decide) (by decide) ?_
    refine own_iload X296 rfl at_186 (pc' := 188) rfl ?_
    refine own_iconst X296 (v := (4 : Int32)) (by decide) at_188 (pc' := 189) rfl ?_
    refine own_icmpT X296 (by decide) at_189 (pc' := 202) (by decide) (by decide) ?_
    refine own_aload X296 rfl rfl at_202 (pc' := 204) rfl ?_
    refine own_callS X296 (own_fp2 l Z a0 hw a292 d279 p1.toInt d283 p2.toInt _ n0 X296.le V294 S279 S283) (hw _ (List.mem_of_getElem? (i := 5) rfl)) (hw _ (List.mem_of_getElem? (i := 6) rfl)) (hw _ (List.mem_of_getElem? (i := 7) rfl)) (hw _ (List.mem_of_getElem? (i := 8) rfl)) (by decide) rfl (by decide) (W := 0) (Nat.le_of_eq rfl) (by decide) (cells' := 1) (slots' := 2) rfl rfl (by decide) (by decide) (argsL := [(.ref a292)]) (rest := []) (lenOf own_pd1 rfl) rfl rfl at_204 (pc' := 207) rfl ?_
    rintro _ T298 h298 X298 ⟨⟨r298, x298, z298, rfl, fx298, fz298, eq298⟩, e298⟩
    subst e298
    show own_Goal p e below _ T298 (mkF m 207 #[.val (.int p0), .val (.long p1), .second, .val (.long p2), .second, .val (.long p3), .second, .val (.long p4), .second, .val (.int (2 : Int32)), .val (.int i272), .val (.double d275), .second, .val (.double d279), .second, .val (.double d283), .second, .val (.double d287), .second, .val (.double d291), .second, .val (.ref a292), .val (.int i297), .unset, .unset] [(.double r298)])
    refine own_dstore X298 (Ls' := #[.val (.int p0), .val (.long p1), .second, .val (.long p2), .second, .val (.long p3), .second, .val (.long p4), .second, .val (.int (2 : Int32)), .val (.int i272), .val (.double d275), .second, .val (.double d279), .second, .val (.double d283), .second, .val (.double d287), .second, .val (.double d291), .second, .val (.ref a292), .val (.int i297), .val (.double r298), .second]) rfl at_207 (pc' := 209) rfl ?_
    refine own_dload X298 rfl at_209 (pc' := 211) rfl ?_
    refine own_iload X298 rfl at_211 (pc' := 213) rfl ?_
    obtain ⟨d299, e299⟩ : ∃ v, FP.i2d i297 = v := ⟨_, rfl⟩
    have f299 : own_D 0 2 ((if 0 < p1.toInt then 1 else 0) + (if 0 < p2.toInt then 1 else 0)) d299 := own_D.i2d f297 e299
    refine own_i2d X298 e299 at_213 (pc' := 214) rfl ?_
    refine own_iload X298 rfl at_214 (pc' := 216) rfl ?_
    have f300 : own_I 2 (2 : Int) (2 : Int32) := own_I.lit (by decide) (by decide)
    obtain ⟨d301, e301⟩ : ∃ v, FP.i2d (2 : Int32) = v := ⟨_, rfl⟩
    have f301 : own_D 0 2 (2 : Int) d301 := own_D.i2d f300 e301
    refine own_i2d X298 e301 at_216 (pc' := 217) rfl ?_
    obtain ⟨d303, e303⟩ : ∃ v, FP.ddiv d299 d301 = v := ⟨_, rfl⟩
    have q303 := own_quot_nn f299 f301 (by decide) e303
    refine own_ddiv X298 e303 q303 at_217 (pc' := 218) rfl ?_
    have q304 := fx298.of_eq (show ((if 0 < p1.toInt then 1 else 0) + (if 0 < p2.toInt then 1 else 0)) = ((if 0 < p1.toInt then 1 else 0) + (if 0 < p2.toInt then 1 else 0)) by grind)
    refine own_dcmp X298 (v := (0 : Int32)) (own_quot_cmp q304 fz298 f299 f301 (by decide) eq298 e303) at_218 (pc' := 219) rfl ?_
    refine own_ifF X298 (by decide) at_219 (pc' := 222) rfl ?_
    refine own_iconst X298 (v := (1 : Int32)) (by decide) at_222 (pc' := 223) rfl ?_
    refine own_goto X298 at_223 (pc' := 227) (by decide) (by decide) ?_
    exact own_retZ X298 (by decide) at_227 rfl (by decide) (by decide) rfl
  · -- 2
    refine own_iadd X0 (v := (3 : Int32)) (by decide) at_4 (pc' := 5) rfl ?_
    refine own_istore X0 (Ls' := #[.val (.int p0), .val (.long p1), .second, .val (.long p2), .second, .val (.long p3), .second, .val (.long p4), .second, .val (.int (3 : Int32)), .unset, .unset, .unset, .unset, .unset, .unset, .unset, .unset, .unset, .unset, .unset, .unset, .unset, .unset, .unset]) rfl at_5 (pc' := 7) rfl ?_
    refine own_iloadN X0 rfl at_7 (pc' := 8) rfl ?_
    refine own_iconst X0 (v := (2 : Int32)) (by decide) at_8 (pc' := 9) rfl ?_
    obtain ⟨i305, e305⟩ : ∃ v, XT.ushr p0 (2 : Int32) = v := ⟨_, rfl⟩
    refine own_iushr X0 e305 at_9 (pc' := 10) rfl ?_
    have un305 := own_ushr_nn (k := 2) e305 (by decide) (by decide)
    refine own_bipush X0 (v := (63 : Int32)) (by decide) at_10 (pc' := 12) rfl ?_
    obtain ⟨i306, e306⟩ : ∃ v, i305 % (63 : Int32) = v := ⟨_, rfl⟩
    refine own_irem X0 (by decide) e306 at_12 (pc' := 13) rfl ?_
    have rm306 := own_irem_bd (d := 63) e306 (by omega) (by decide) (by decide)
    refine own_istore X0 (Ls' := #[.val (.int p0), .val (.long p1), .second, .val (.long p2), .second, .val (.long p3), .second, .val (.long p4), .second, .val (.int (3 : Int32)), .val (.int i306), .unset, .unset, .unset, .unset, .unset, .unset, .unset, .unset, .unset, .unset, .unset, .unset, .unset, .unset]) rfl at_13 (pc' := 15) rfl ?_
    refine own_lconst X0 (v := (1 : Int64)) (by decide) at_15 (pc' := 16) rfl ?_
    refine own_iload X0 rfl at_16 (pc' := 18) rfl ?_
    obtain ⟨j307, e307⟩ : ∃ v, (1 : Int64) <<< (i306.toInt64 &&& 63) = v := ⟨_, rfl⟩
    refine own_lshl X0 e307 at_18 (pc' := 19) rfl ?_
    have f308 := own_L.start j307
    obtain ⟨d309, e309⟩ : ∃ v, FP.l2d j307 = v := ⟨_, rfl⟩
    refine own_l2d X0 e309 at_19 (pc' := 20) rfl ?_
    have pw309 := own_pow (y := i306) (by omega) (by omega) e307 e309
    refine own_dstore X0 (Ls' := #[.val (.int p0), .val (.long p1), .second, .val (.long p2), .second, .val (.long p3), .second, .val (.long p4), .second, .val (.int (3 : Int32)), .val (.int i306), .val (.double d309), .second, .unset, .unset, .unset, .unset, .unset, .unset, .unset, .unset, .unset, .unset, .unset, .unset]) rfl at_20 (pc' := 22) rfl ?_
    refine own_lloadN X0 rfl at_22 (pc' := 23) rfl ?_
    have f310 := own_L.start p1
    obtain ⟨d311, e311⟩ : ∃ v, FP.l2d p1 = v := ⟨_, rfl⟩
    refine own_l2d X0 e311 at_23 (pc' := 24) rfl ?_
    refine own_dload X0 rfl at_24 (pc' := 26) rfl ?_
    obtain ⟨d313, e313⟩ : ∃ v, FP.ddiv d311 d309 = v := ⟨_, rfl⟩
    have S313 : own_S p1.toInt d313 := own_S.quot (a := p1) (by omega) (by omega) pw309 (by rw [e311]; exact e313)
    refine own_ddiv X0 e313 S313.nn at_26 (pc' := 27) rfl ?_
    refine own_dstore X0 (Ls' := #[.val (.int p0), .val (.long p1), .second, .val (.long p2), .second, .val (.long p3), .second, .val (.long p4), .second, .val (.int (3 : Int32)), .val (.int i306), .val (.double d309), .second, .val (.double d313), .second, .unset, .unset, .unset, .unset, .unset, .unset, .unset, .unset, .unset, .unset]) rfl at_27 (pc' := 29) rfl ?_
    refine own_lloadN X0 rfl at_29 (pc' := 30) rfl ?_
    have f314 := own_L.start p2
    obtain ⟨d315, e315⟩ : ∃ v, FP.l2d p2 = v := ⟨_, rfl⟩
    refine own_l2d X0 e315 at_30 (pc' := 31) rfl ?_
    refine own_dload X0 rfl at_31 (pc' := 33) rfl ?_
    obtain ⟨d317, e317⟩ : ∃ v, FP.ddiv d315 d309 = v := ⟨_, rfl⟩
    have S317 : own_S p2.toInt d317 := own_S.quot (a := p2) (by omega) (by omega) pw309 (by rw [e315]; exact e317)
    refine own_ddiv X0 e317 S317.nn at_33 (pc' := 34) rfl ?_
    refine own_dstore X0 (Ls' := #[.val (.int p0), .val (.long p1), .second, .val (.long p2), .second, .val (.long p3), .second, .val (.long p4), .second, .val (.int (3 : Int32)), .val (.int i306), .val (.double d309), .second, .val (.double d313), .second, .val (.double d317), .second, .unset, .unset, .unset, .unset, .unset, .unset, .unset, .unset]) rfl at_34 (pc' := 36) rfl ?_
    refine own_lload X0 rfl at_36 (pc' := 38) rfl ?_
    have f318 := own_L.start p3
    obtain ⟨d319, e319⟩ : ∃ v, FP.l2d p3 = v := ⟨_, rfl⟩
    refine own_l2d X0 e319 at_38 (pc' := 39) rfl ?_
    refine own_dload X0 rfl at_39 (pc' := 41) rfl ?_
    obtain ⟨d321, e321⟩ : ∃ v, FP.ddiv d319 d309 = v := ⟨_, rfl⟩
    have S321 : own_S p3.toInt d321 := own_S.quot (a := p3) (by omega) (by omega) pw309 (by rw [e319]; exact e321)
    refine own_ddiv X0 e321 S321.nn at_41 (pc' := 42) rfl ?_
    refine own_dstore X0 (Ls' := #[.val (.int p0), .val (.long p1), .second, .val (.long p2), .second, .val (.long p3), .second, .val (.long p4), .second, .val (.int (3 : Int32)), .val (.int i306), .val (.double d309), .second, .val (.double d313), .second, .val (.double d317), .second, .val (.double d321), .second, .unset, .unset, .unset, .unset, .unset, .unset]) rfl at_42 (pc' := 44) rfl ?_
    refine own_lload X0 rfl at_44 (pc' := 46) rfl ?_
    have f322 := own_L.start p4
    obtain ⟨d323, e323⟩ : ∃ v, FP.l2d p4 = v := ⟨_, rfl⟩
    refine own_l2d X0 e323 at_46 (pc' := 47) rfl ?_
    refine own_dload X0 rfl at_47 (pc' := 49) rfl ?_
    obtain ⟨d325, e325⟩ : ∃ v, FP.ddiv d323 d309 = v := ⟨_, rfl⟩
    have S325 : own_S p4.toInt d325 := own_S.quot (a := p4) (by omega) (by omega) pw309 (by rw [e323]; exact e325)
    refine own_ddiv X0 e325 S325.nn at_49 (pc' := 50) rfl ?_
    refine own_dstore X0 (Ls' := #[.val (.int p0), .val (.long p1), .second, .val (.long p2), .second, .val (.long p3), .second, .val (.long p4), .second, .val (.int (3 : Int32)), .val (.int i306), .val (.double d309), .second, .val (.double d313), .second, .val (.double d317), .second, .val (.double d321), .second, .val (.double d325), .second, .unset, .unset, .unset, .unset]) rfl at_50 (pc' := 52) rfl ?_
    refine own_iload X0 rfl at_52 (pc' := 54) rfl ?_
    refine own_iconst X0 (v := (1 : Int32)) (by decide) at_54 (pc' := 55) rfl ?_
    refine own_icmpT X0 (by decide) at_55 (pc' := 71) (by decide) (by decide) ?_
    refine own_iload X0 rfl at_71 (pc' := 73) rfl ?_
    refine own_iconst X0 (v := (2 : Int32)) (by decide) at_73 (pc' := 74) rfl ?_
    refine own_icmpT X0 (by decide) at_74 (pc' := 95) (by decide) (by decide) ?_
    refine own_iload X0 rfl at_95 (pc' := 97) rfl ?_
    refine own_iconst X0 (v := (3 : Int32)) (by decide) at_97 (pc' := 98) rfl ?_
    refine own_icmpF X0 (by decide) at_98 (pc' := 101) rfl ?_
    refine own_iconst X0 (v := (3 : Int32)) (by decide) at_101 (pc' := 102) rfl ?_
    refine own_newarray X0 (ty := .double) rfl (hw _ (List.mem_of_getElem? (i := 0) rfl)) (n := 3) (vs := [(.double (0 : UInt64)), (.double (0 : UInt64)), (.double (0 : UInt64))]) (by decide) (by decide) (by decide) rfl (cells' := 1) (slots' := 3) rfl rfl (by decide) (by decide) at_102 (pc' := 104) rfl fun a326 T326 h326 g326 ge326 X326 E326 V326 => ?_
    refine own_dup X326 rfl at_104 (pc' := 105) rfl ?_
    refine own_iconst X326 (v := (0 : Int32)) (by decide) at_105 (pc' := 106) rfl ?_
    refine own_dload X326 rfl at_106 (pc' := 108) rfl ?_
    refine own_dastore X326 V326 ge326 (i := 0) (by decide) (by decide) (show 0 < 3 by decide) at_108 (pc' := 109) rfl fun T327 h327 X327 W327 V327 => ?_
    replace V327 : own_Vec Z h327 a326 .double [(.double d313), (.double (0 : UInt64)), (.double (0 : UInt64))] := V327
    refine own_dup X327 rfl at_109 (pc' := 110) rfl ?_
    refine own_iconst X327 (v := (1 : Int32)) (by decide) at_110 (pc' := 111) rfl ?_
    refine own_dload X327 rfl at_111 (pc' := 113) rfl ?_
    refine own_dastore X327 V327 ge326 (i := 1) (by decide) (by decide) (show 1 < 3 by decide) at_113 (pc' := 114) rfl fun T328 h328 X328 W328 V328 => ?_
    replace V328 : own_Vec Z h328 a326 .double [(.double d313), (.double d317), (.double (0 : UInt64))] := V328
    refine own_dup X328 rfl at_114 (pc' := 115) rfl ?_
    refine own_iconst X328 (v := (2 : Int32)) (by decide) at_115 (pc' := 116) rfl ?_
    refine own_dload X328 rfl at_116 (pc' := 118) rfl ?_
    refine own_dastore X328 V328 ge326 (i := 2) (by decide) (by decide) (show 2 < 3 by decide) at_118 (pc' := 119) rfl fun T329 h329 X329 W329 V329 => ?_
    replace V329 : own_Vec Z h329 a326 .double [(.double d313), (.double d317), (.double d321)] := V329
    refine own_astore X329 (Ls' := #[.val (.int p0), .val (.long p1), .second, .val (.long p2), .second, .val (.long p3), .second, .val (.long p4), .second, .val (.int (3 : Int32)), .val (.int i306), .val (.double d309), .second, .val (.double d313), .second, .val (.double d317), .second, .val (.double d321), .second, .val (.double d325), .second, .val (.ref a326), .unset, .unset, .unset]) rfl rfl at_119 (pc' := 121) rfl ?_
    refine own_goto X329 at_121 (pc' := 149) (by decide) (by decide) ?_
    refine own_lloadN X329 rfl at_149 (pc' := 150) rfl ?_
    refine own_callS X329 (own_pos l Z a0 hw p1 _ n0 X329.le) (hw _ (List.mem_of_getElem? (i := 1) rfl)) (hw _ (List.mem_of_getElem? (i := 2) rfl)) (hw _ (List.mem_of_getElem? (i := 3) rfl)) (hw _ (List.mem_of_getElem? (i := 4) rfl)) (by decide) rfl (by decide) (W := 0) (Nat.le_of_eq rfl) (by decide) (cells' := 1) (slots' := 3) rfl rfl (by decide) (by decide) (argsL := [(.long p1)]) (rest := []) (lenOf own_pd0 rfl) rfl rfl at_150 (pc' := 153) rfl ?_
    rintro _ T330 h330 X330 ⟨⟨r330, rfl, fr330⟩, e330⟩
    subst e330
    show own_Goal p e below _ T330 (mkF m 153 #[.val (.int p0), .val (.long p1), .second, .val (.long p2), .second, .val (.long p3), .second, .val (.long p4), .second, .val (.int (3 : Int32)), .val (.int i306), .val (.double d309), .second, .val (.double d313), .second, .val (.double d317), .second, .val (.double d321), .second, .val (.double d325), .second, .val (.ref a326), .unset, .unset, .unset] [(.int r330)])
    refine own_istore X330 (Ls' := #[.val (.int p0), .val (.long p1), .second, .val (.long p2), .second, .val (.long p3), .second, .val (.long p4), .second, .val (.int (3 : Int32)), .val (.int i306), .val (.double d309), .second, .val (.double d313), .second, .val (.double d317), .second, .val (.double d321), .second, .val (.double d325), .second, .val (.ref a326), .val (.int r330), .unset, .unset]) rfl at_153 (pc' := 155) rfl ?_
    refine own_iload X330 rfl at_155 (pc' := 157) rfl ?_
    refine own_iconst X330 (v := (2 : Int32)) (by decide) at_157 (pc' := 158) rfl ?_
    refine own_icmpF X330 (by decide) at_158 (pc' := 161) rfl ?_
    refine own_iload X330 rfl at_161 (pc' := 163) rfl ?_
    refine own_lloadN X330 rfl at_163 (pc' := 164) rfl ?_
    refine own_callS X330 (own_pos l Z a0 hw p2 _ n0 X330.le) (hw _ (List.mem_of_getElem? (i := 1) rfl)) (hw _ (List.mem_of_getElem? (i := 2) rfl)) (hw _ (List.mem_of_getElem? (i := 3) rfl)) (hw _ (List.mem_of_getElem? (i := 4) rfl)) (by decide) rfl (by decide) (W := 1) (Nat.le_of_eq rfl) (by decide) (cells' := 1) (slots' := 3) rfl rfl (by decide) (by decide) (argsL := [(.long p2)]) (rest := [(.int r330)]) (lenOf own_pd0 rfl) rfl rfl at_164 (pc' := 167) rfl ?_
    rintro _ T331 h331 X331 ⟨⟨r331, rfl, fr331⟩, e331⟩
    subst e331
    show own_Goal p e below _ T331 (mkF m 167 #[.val (.int p0), .val (.long p1), .second, .val (.long p2), .second, .val (.long p3), .second, .val (.long p4), .second, .val (.int (3 : Int32)), .val (.int i306), .val (.double d309), .second, .val (.double d313), .second, .val (.double d317), .second, .val (.double d321), .second, .val (.double d325), .second, .val (.ref a326), .val (.int r330), .unset, .unset] [(.int r331), (.int r330)])
    obtain ⟨i332, e332⟩ : ∃ v, r330 + r331 = v := ⟨_, rfl⟩
    have f332 : own_I 2 ((if 0 < p1.toInt then 1 else 0) + (if 0 < p2.toInt then 1 else 0)) i332 := fr330.add fr331 e332 (by decide) (by decide)
    refine own_iadd X331 e332 at_167 (pc' := 168) rfl ?_
    refine own_istore X331 (Ls' := #[.val (.int p0), .val (.long p1), .second, .val (.long p2), .second, .val (.long p3), .second, .val (.long p4), .second, .val (.int (3 : Int32)), .val (.int i306), .val (.double d309), .second, .val (.double d313), .second, .val (.double d317), .second, .val (.double d321), .second, .val (.double d325), .second, .val (.ref a326), .val (.int i332), .unset, .unset]) rfl at_168 (pc' := 170) rfl ?_
    refine own_iload X331 rfl at_170 (pc' := 172) rfl ?_
    refine own_iconst X331 (v := (3 : Int32)) (by decide) at_172 (pc' := 173) rfl ?_
    refine own_icmpF X331 (by decide) at_173 (pc' := 176) rfl ?_
    refine own_iload X331 rfl at_176 (pc' := 178) rfl ?_
    refine own_lload X331 rfl at_178 (pc' := 180) rfl ?_
    refine own_callS X331 (own_pos l Z a0 hw p3 _ n0 X331.le) (hw _ (List.mem_of_getElem? (i := 1) rfl)) (hw _ (List.mem_of_getElem? (i := 2) rfl)) (hw _ (List.mem_of_getElem? (i := 3) rfl)) (hw _ (List.mem_of_getElem? (i := 4) rfl)) (by decide) rfl (by decide) (W := 1) (Nat.le_of_eq rfl) (by decide) (cells' := 1) (slots' := 3) rfl rfl (by decide) (by decide) (argsL := [(.long p3)]) (rest := [(.int i332)]) (lenOf own_pd0 rfl) rfl rfl at_180 (pc' := 183) rfl ?_
    rintro _ T333 h333 X333 ⟨⟨r333, rfl, fr333⟩, e333⟩
    subst e333
    show own_Goal p e below _ T333 (mkF m 183 #[.val (.int p0), .val (.long p1), .second, .val (.long p2), .second, .val (.long p3), .second, .val (.long p4), .second, .val (.int (3 : Int32)), .val (.int i306), .val (.double d309), .second, .val (.double d313), .second, .val (.double d317), .second, .val (.double d321), .second, .val (.double d325), .second, .val (.ref a326), .val (.int i332), .unset, .unset] [(.int r333), (.int i332)])
    obtain ⟨i334, e334⟩ : ∃ v, i332 + r333 = v := ⟨_, rfl⟩
    have f334 : own_I 3 (((if 0 < p1.toInt then 1 else 0) + (if 0 < p2.toInt then 1 else 0)) + (if 0 < p3.toInt then 1 else 0)) i334 := f332.add fr333 e334 (by decide) (by decide)
    refine own_iadd X333 e334 at_183 (pc' := 184) rfl ?_
    refine own_istore X333 (Ls' := #[.val (.int p0), .val (.long p1), .second, .val (.long p2), .second, .val (.long p3), .second, .val (.long p4), .second, .val (.int (3 : Int32)), .val (.int i306), .val (.double d309), .second, .val (.double d313), .second, .val (.double d317), .second, .val (.double d321), .second, .val (.double d325), .second, .val (.ref a326), .val (.int i334), .unset, .unset]) rfl at_184 (pc' := 186) rfl ?_
    refine own_iload X333 rfl at_186 (pc' := 188) rfl ?_
    refine own_iconst X333 (v := (4 : Int32)) (by decide) at_188 (pc' := 189) rfl ?_
    refine own_icmpT X333 (by decide) at_189 (pc' := 202) (by decide) (by decide) ?_
    refine own_aload X333 rfl rfl at_202 (pc' := 204) rfl ?_
    refine own_callS X333 (own_fp3 l Z a0 hw a326 d313 p1.toInt d317 p2.toInt d321 p3.toInt _ n0 X333.le V329 S313 S317 S321) (hw _ (List.mem_of_getElem? (i := 5) rfl)) (hw _ (List.mem_of_getElem? (i := 6) rfl)) (hw _ (List.mem_of_getElem? (i := 7) rfl)) (hw _ (List.mem_of_getElem? (i := 8) rfl)) (by decide) rfl (by decide) (W := 0) (Nat.le_of_eq rfl) (by decide) (cells' := 1) (slots' := 3) rfl rfl (by decide) (by decide) (argsL := [(.ref a326)]) (rest := []) (lenOf own_pd1 rfl) rfl rfl at_204 (pc' := 207) rfl ?_
    rintro _ T335 h335 X335 ⟨⟨r335, x335, z335, rfl, fx335, fz335, eq335⟩, e335⟩
    subst e335
    show own_Goal p e below _ T335 (mkF m 207 #[.val (.int p0), .val (.long p1), .second, .val (.long p2), .second, .val (.long p3), .second, .val (.long p4), .second, .val (.int (3 : Int32)), .val (.int i306), .val (.double d309), .second, .val (.double d313), .second, .val (.double d317), .second, .val (.double d321), .second, .val (.double d325), .second, .val (.ref a326), .val (.int i334), .unset, .unset] [(.double r335)])
    refine own_dstore X335 (Ls' := #[.val (.int p0), .val (.long p1), .second, .val (.long p2), .second, .val (.long p3), .second, .val (.long p4), .second, .val (.int (3 : Int32)), .val (.int i306), .val (.double d309), .second, .val (.double d313), .second, .val (.double d317), .second, .val (.double d321), .second, .val (.double d325), .second, .val (.ref a326), .val (.int i334), .val (.double r335), .second]) rfl at_207 (pc' := 209) rfl ?_
    refine own_dload X335 rfl at_209 (pc' := 211) rfl ?_
    refine own_iload X335 rfl at_211 (pc' := 213) rfl ?_
    obtain ⟨d336, e336⟩ : ∃ v, FP.i2d i334 = v := ⟨_, rfl⟩
    have f336 : own_D 0 3 (((if 0 < p1.toInt then 1 else 0) + (if 0 < p2.toInt then 1 else 0)) + (if 0 < p3.toInt then 1 else 0)) d336 := own_D.i2d f334 e336
    refine own_i2d X335 e336 at_213 (pc' := 214) rfl ?_
    refine own_iload X335 rfl at_214 (pc' := 216) rfl ?_
    have f337 : own_I 3 (3 : Int) (3 : Int32) := own_I.lit (by decide) (by decide)
    obtain ⟨d338, e338⟩ : ∃ v, FP.i2d (3 : Int32) = v := ⟨_, rfl⟩
    have f338 : own_D 0 3 (3 : Int) d338 := own_D.i2d f337 e338
    refine own_i2d X335 e338 at_216 (pc' := 217) rfl ?_
    obtain ⟨d340, e340⟩ : ∃ v, FP.ddiv d336 d338 = v := ⟨_, rfl⟩
    have q340 := own_quot_nn f336 f338 (by decide) e340
    refine own_ddiv X335 e340 q340 at_217 (pc' := 218) rfl ?_
    have q341 := fx335.of_eq (show ((if 0 < p1.toInt then 1 else 0) + (if 0 < p2.toInt then 1 else 0) + (if 0 < p3.toInt then 1 else 0)) = (((if 0 < p1.toInt then 1 else 0) + (if 0 < p2.toInt then 1 else 0)) + (if 0 < p3.toInt then 1 else 0)) by grind)
    refine own_dcmp X335 (v := (0 : Int32)) (own_quot_cmp q341 fz335 f336 f338 (by decide) eq335 e340) at_218 (pc' := 219) rfl ?_
    refine own_ifF X335 (by decide) at_219 (pc' := 222) rfl ?_
    refine own_iconst X335 (v := (1 : Int32)) (by decide) at_222 (pc' := 223) rfl ?_
    refine own_goto X335 at_223 (pc' := 227) (by decide) (by decide) ?_
    exact own_retZ X335 (by decide) at_227 rfl (by decide) (by decide) rfl
  · -- 3
    refine own_iadd X0 (v := (4 : Int32)) (by decide) at_4 (pc' := 5) rfl ?_
    refine own_istore X0 (Ls' := #[.val (.int p0), .val (.long p1), .second, .val (.long p2), .second, .val (.long p3), .second, .val (.long p4), .second, .val (.int (4 : Int32)), .unset, .unset, .unset, .unset, .unset, .unset, .unset, .unset, .unset, .unset, .unset, .unset, .unset, .unset, .unset]) rfl at_5 (pc' := 7) rfl ?_
    refine own_iloadN X0 rfl at_7 (pc' := 8) rfl ?_
    refine own_iconst X0 (v := (2 : Int32)) (by decide) at_8 (pc' := 9) rfl ?_
    obtain ⟨i342, e342⟩ : ∃ v, XT.ushr p0 (2 : Int32) = v := ⟨_, rfl⟩
    refine own_iushr X0 e342 at_9 (pc' := 10) rfl ?_
    have un342 := own_ushr_nn (k := 2) e342 (by decide) (by decide)
    refine own_bipush X0 (v := (63 : Int32)) (by decide) at_10 (pc' := 12) rfl ?_
    obtain ⟨i343, e343⟩ : ∃ v, i342 % (63 : Int32) = v := ⟨_, rfl⟩
    refine own_irem X0 (by decide) e343 at_12 (pc' := 13) rfl ?_
    have rm343 := own_irem_bd (d := 63) e343 (by omega) (by decide) (by decide)
    refine own_istore X0 (Ls' := #[.val (.int p0), .val (.long p1), .second, .val (.long p2), .second, .val (.long p3), .second, .val (.long p4), .second, .val (.int (4 : Int32)), .val (.int i343), .unset, .unset, .unset, .unset, .unset, .unset, .unset, .unset, .unset, .unset, .unset, .unset, .unset, .unset]) rfl at_13 (pc' := 15) rfl ?_
    refine own_lconst X0 (v := (1 : Int64)) (by decide) at_15 (pc' := 16) rfl ?_
    refine own_iload X0 rfl at_16 (pc' := 18) rfl ?_
    obtain ⟨j344, e344⟩ : ∃ v, (1 : Int64) <<< (i343.toInt64 &&& 63) = v := ⟨_, rfl⟩
    refine own_lshl X0 e344 at_18 (pc' := 19) rfl ?_
    have f345 := own_L.start j344
    obtain ⟨d346, e346⟩ : ∃ v, FP.l2d j344 = v := ⟨_, rfl⟩
    refine own_l2d X0 e346 at_19 (pc' := 20) rfl ?_
    have pw346 := own_pow (y := i343) (by omega) (by omega) e344 e346
    refine own_dstore X0 (Ls' := #[.val (.int p0), .val (.long p1), .second, .val (.long p2), .second, .val (.long p3), .second, .val (.long p4), .second, .val (.int (4 : Int32)), .val (.int i343), .val (.double d346), .second, .unset, .unset, .unset, .unset, .unset, .unset, .unset, .unset, .unset, .unset, .unset, .unset]) rfl at_20 (pc' := 22) rfl ?_
    refine own_lloadN X0 rfl at_22 (pc' := 23) rfl ?_
    have f347 := own_L.start p1
    obtain ⟨d348, e348⟩ : ∃ v, FP.l2d p1 = v := ⟨_, rfl⟩
    refine own_l2d X0 e348 at_23 (pc' := 24) rfl ?_
    refine own_dload X0 rfl at_24 (pc' := 26) rfl ?_
    obtain ⟨d350, e350⟩ : ∃ v, FP.ddiv d348 d346 = v := ⟨_, rfl⟩
    have S350 : own_S p1.toInt d350 := own_S.quot (a := p1) (by omega) (by omega) pw346 (by rw [e348]; exact e350)
    refine own_ddiv X0 e350 S350.nn at_26 (pc' := 27) rfl ?_
    refine own_dstore X0 (Ls' := #[.val (.int p0), .val (.long p1), .second, .val (.long p2), .second, .val (.long p3), .second, .val (.long p4), .second, .val (.int (4 : Int32)), .val (.int i343), .val (.double d346), .second, .val (.double d350), .second, .unset, .unset, .unset, .unset, .unset, .unset, .unset, .unset, .unset, .unset]) rfl at_27 (pc' := 29) rfl ?_
    refine own_lloadN X0 rfl at_29 (pc' := 30) rfl ?_
    have f351 := own_L.start p2
    obtain ⟨d352, e352⟩ : ∃ v, FP.l2d p2 = v := ⟨_, rfl⟩
    refine own_l2d X0 e352 at_30 (pc' := 31) rfl ?_
    refine own_dload X0 rfl at_31 (pc' := 33) rfl ?_
    obtain ⟨d354, e354⟩ : ∃ v, FP.ddiv d352 d346 = v := ⟨_, rfl⟩
    have S354 : own_S p2.toInt d354 := own_S.quot (a := p2) (by omega) (by omega) pw346 (by rw [e352]; exact e354)
    refine own_ddiv X0 e354 S354.nn at_33 (pc' := 34) rfl ?_
    refine own_dstore X0 (Ls' := #[.val (.int p0), .val (.long p1), .second, .val (.long p2), .second, .val (.long p3), .second, .val (.long p4), .second, .val (.int (4 : Int32)), .val (.int i343), .val (.double d346), .second, .val (.double d350), .second, .val (.double d354), .second, .unset, .unset, .unset, .unset, .unset, .unset, .unset, .unset]) rfl at_34 (pc' := 36) rfl ?_
    refine own_lload X0 rfl at_36 (pc' := 38) rfl ?_
    have f355 := own_L.start p3
    obtain ⟨d356, e356⟩ : ∃ v, FP.l2d p3 = v := ⟨_, rfl⟩
    refine own_l2d X0 e356 at_38 (pc' := 39) rfl ?_
    refine own_dload X0 rfl at_39 (pc' := 41) rfl ?_
    obtain ⟨d358, e358⟩ : ∃ v, FP.ddiv d356 d346 = v := ⟨_, rfl⟩
    have S358 : own_S p3.toInt d358 := own_S.quot (a := p3) (by omega) (by omega) pw346 (by rw [e356]; exact e358)
    refine own_ddiv X0 e358 S358.nn at_41 (pc' := 42) rfl ?_
    refine own_dstore X0 (Ls' := #[.val (.int p0), .val (.long p1), .second, .val (.long p2), .second, .val (.long p3), .second, .val (.long p4), .second, .val (.int (4 : Int32)), .val (.int i343), .val (.double d346), .second, .val (.double d350), .second, .val (.double d354), .second, .val (.double d358), .second, .unset, .unset, .unset, .unset, .unset, .unset]) rfl at_42 (pc' := 44) rfl ?_
    refine own_lload X0 rfl at_44 (pc' := 46) rfl ?_
    have f359 := own_L.start p4
    obtain ⟨d360, e360⟩ : ∃ v, FP.l2d p4 = v := ⟨_, rfl⟩
    refine own_l2d X0 e360 at_46 (pc' := 47) rfl ?_
    refine own_dload X0 rfl at_47 (pc' := 49) rfl ?_
    obtain ⟨d362, e362⟩ : ∃ v, FP.ddiv d360 d346 = v := ⟨_, rfl⟩
    have S362 : own_S p4.toInt d362 := own_S.quot (a := p4) (by omega) (by omega) pw346 (by rw [e360]; exact e362)
    refine own_ddiv X0 e362 S362.nn at_49 (pc' := 50) rfl ?_
    refine own_dstore X0 (Ls' := #[.val (.int p0), .val (.long p1), .second, .val (.long p2), .second, .val (.long p3), .second, .val (.long p4), .second, .val (.int (4 : Int32)), .val (.int i343), .val (.double d346), .second, .val (.double d350), .second, .val (.double d354), .second, .val (.double d358), .second, .val (.double d362), .second, .unset, .unset, .unset, .unset]) rfl at_50 (pc' := 52) rfl ?_
    refine own_iload X0 rfl at_52 (pc' := 54) rfl ?_
    refine own_iconst X0 (v := (1 : Int32)) (by decide) at_54 (pc' := 55) rfl ?_
    refine own_icmpT X0 (by decide) at_55 (pc' := 71) (by decide) (by decide) ?_
    refine own_iload X0 rfl at_71 (pc' := 73) rfl ?_
    refine own_iconst X0 (v := (2 : Int32)) (by decide) at_73 (pc' := 74) rfl ?_
    refine own_icmpT X0 (by decide) at_74 (pc' := 95) (by decide) (by decide) ?_
    refine own_iload X0 rfl at_95 (pc' := 97) rfl ?_
    refine own_iconst X0 (v := (3 : Int32)) (by decide) at_97 (pc' := 98) rfl ?_
    refine own_icmpT X0 (by decide) at_98 (pc' := 124) (by decide) (by decide) ?_
    refine own_iconst X0 (v := (4 : Int32)) (by decide) at_124 (pc' := 125) rfl ?_
    refine own_newarray X0 (ty := .double) rfl (hw _ (List.mem_of_getElem? (i := 0) rfl)) (n := 4) (vs := [(.double (0 : UInt64)), (.double (0 : UInt64)), (.double (0 : UInt64)), (.double (0 : UInt64))]) (by decide) (by decide) (by decide) rfl (cells' := 1) (slots' := 4) rfl rfl (by decide) (by decide) at_125 (pc' := 127) rfl fun a363 T363 h363 g363 ge363 X363 E363 V363 => ?_
    refine own_dup X363 rfl at_127 (pc' := 128) rfl ?_
    refine own_iconst X363 (v := (0 : Int32)) (by decide) at_128 (pc' := 129) rfl ?_
    refine own_dload X363 rfl at_129 (pc' := 131) rfl ?_
    refine own_dastore X363 V363 ge363 (i := 0) (by decide) (by decide) (show 0 < 4 by decide) at_131 (pc' := 132) rfl fun T364 h364 X364 W364 V364 => ?_
    replace V364 : own_Vec Z h364 a363 .double [(.double d350), (.double (0 : UInt64)), (.double (0 : UInt64)), (.double (0 : UInt64))] := V364
    refine own_dup X364 rfl at_132 (pc' := 133) rfl ?_
    refine own_iconst X364 (v := (1 : Int32)) (by decide) at_133 (pc' := 134) rfl ?_
    refine own_dload X364 rfl at_134 (pc' := 136) rfl ?_
    refine own_dastore X364 V364 ge363 (i := 1) (by decide) (by decide) (show 1 < 4 by decide) at_136 (pc' := 137) rfl fun T365 h365 X365 W365 V365 => ?_
    replace V365 : own_Vec Z h365 a363 .double [(.double d350), (.double d354), (.double (0 : UInt64)), (.double (0 : UInt64))] := V365
    refine own_dup X365 rfl at_137 (pc' := 138) rfl ?_
    refine own_iconst X365 (v := (2 : Int32)) (by decide) at_138 (pc' := 139) rfl ?_
    refine own_dload X365 rfl at_139 (pc' := 141) rfl ?_
    refine own_dastore X365 V365 ge363 (i := 2) (by decide) (by decide) (show 2 < 4 by decide) at_141 (pc' := 142) rfl fun T366 h366 X366 W366 V366 => ?_
    replace V366 : own_Vec Z h366 a363 .double [(.double d350), (.double d354), (.double d358), (.double (0 : UInt64))] := V366
    refine own_dup X366 rfl at_142 (pc' := 143) rfl ?_
    refine own_iconst X366 (v := (3 : Int32)) (by decide) at_143 (pc' := 144) rfl ?_
    refine own_dload X366 rfl at_144 (pc' := 146) rfl ?_
    refine own_dastore X366 V366 ge363 (i := 3) (by decide) (by decide) (show 3 < 4 by decide) at_146 (pc' := 147) rfl fun T367 h367 X367 W367 V367 => ?_
    replace V367 : own_Vec Z h367 a363 .double [(.double d350), (.double d354), (.double d358), (.double d362)] := V367
    refine own_astore X367 (Ls' := #[.val (.int p0), .val (.long p1), .second, .val (.long p2), .second, .val (.long p3), .second, .val (.long p4), .second, .val (.int (4 : Int32)), .val (.int i343), .val (.double d346), .second, .val (.double d350), .second, .val (.double d354), .second, .val (.double d358), .second, .val (.double d362), .second, .val (.ref a363), .unset, .unset, .unset]) rfl rfl at_147 (pc' := 149) rfl ?_
    refine own_lloadN X367 rfl at_149 (pc' := 150) rfl ?_
    refine own_callS X367 (own_pos l Z a0 hw p1 _ n0 X367.le) (hw _ (List.mem_of_getElem? (i := 1) rfl)) (hw _ (List.mem_of_getElem? (i := 2) rfl)) (hw _ (List.mem_of_getElem? (i := 3) rfl)) (hw _ (List.mem_of_getElem? (i := 4) rfl)) (by decide) rfl (by decide) (W := 0) (Nat.le_of_eq rfl) (by decide) (cells' := 1) (slots' := 4) rfl rfl (by decide) (by decide) (argsL := [(.long p1)]) (rest := []) (lenOf own_pd0 rfl) rfl rfl at_150 (pc' := 153) rfl ?_
    rintro _ T368 h368 X368 ⟨⟨r368, rfl, fr368⟩, e368⟩
    subst e368
    show own_Goal p e below _ T368 (mkF m 153 #[.val (.int p0), .val (.long p1), .second, .val (.long p2), .second, .val (.long p3), .second, .val (.long p4), .second, .val (.int (4 : Int32)), .val (.int i343), .val (.double d346), .second, .val (.double d350), .second, .val (.double d354), .second, .val (.double d358), .second, .val (.double d362), .second, .val (.ref a363), .unset, .unset, .unset] [(.int r368)])
    refine own_istore X368 (Ls' := #[.val (.int p0), .val (.long p1), .second, .val (.long p2), .second, .val (.long p3), .second, .val (.long p4), .second, .val (.int (4 : Int32)), .val (.int i343), .val (.double d346), .second, .val (.double d350), .second, .val (.double d354), .second, .val (.double d358), .second, .val (.double d362), .second, .val (.ref a363), .val (.int r368), .unset, .unset]) rfl at_153 (pc' := 155) rfl ?_
    refine own_iload X368 rfl at_155 (pc' := 157) rfl ?_
    refine own_iconst X368 (v := (2 : Int32)) (by decide) at_157 (pc' := 158) rfl ?_
    refine own_icmpF X368 (by decide) at_158 (pc' := 161) rfl ?_
    refine own_iload X368 rfl at_161 (pc' := 163) rfl ?_
    refine own_lloadN X368 rfl at_163 (pc' := 164) rfl ?_
    refine own_callS X368 (own_pos l Z a0 hw p2 _ n0 X368.le) (hw _ (List.mem_of_getElem? (i := 1) rfl)) (hw _ (List.mem_of_getElem? (i := 2) rfl)) (hw _ (List.mem_of_getElem? (i := 3) rfl)) (hw _ (List.mem_of_getElem? (i := 4) rfl)) (by decide) rfl (by decide) (W := 1) (Nat.le_of_eq rfl) (by decide) (cells' := 1) (slots' := 4) rfl rfl (by decide) (by decide) (argsL := [(.long p2)]) (rest := [(.int r368)]) (lenOf own_pd0 rfl) rfl rfl at_164 (pc' := 167) rfl ?_
    rintro _ T369 h369 X369 ⟨⟨r369, rfl, fr369⟩, e369⟩
    subst e369
    show own_Goal p e below _ T369 (mkF m 167 #[.val (.int p0), .val (.long p1), .second, .val (.long p2), .second, .val (.long p3), .second, .val (.long p4), .second, .val (.int (4 : Int32)), .val (.int i343), .val (.double d346), .second, .val (.double d350), .second, .val (.double d354), .second, .val (.double d358), .second, .val (.double d362), .second, .val (.ref a363), .val (.int r368), .unset, .unset] [(.int r369), (.int r368)])
    obtain ⟨i370, e370⟩ : ∃ v, r368 + r369 = v := ⟨_, rfl⟩
    have f370 : own_I 2 ((if 0 < p1.toInt then 1 else 0) + (if 0 < p2.toInt then 1 else 0)) i370 := fr368.add fr369 e370 (by decide) (by decide)
    refine own_iadd X369 e370 at_167 (pc' := 168) rfl ?_
    refine own_istore X369 (Ls' := #[.val (.int p0), .val (.long p1), .second, .val (.long p2), .second, .val (.long p3), .second, .val (.long p4), .second, .val (.int (4 : Int32)), .val (.int i343), .val (.double d346), .second, .val (.double d350), .second, .val (.double d354), .second, .val (.double d358), .second, .val (.double d362), .second, .val (.ref a363), .val (.int i370), .unset, .unset]) rfl at_168 (pc' := 170) rfl ?_
    refine own_iload X369 rfl at_170 (pc' := 172) rfl ?_
    refine own_iconst X369 (v := (3 : Int32)) (by decide) at_172 (pc' := 173) rfl ?_
    refine own_icmpF X369 (by decide) at_173 (pc' := 176) rfl ?_
    refine own_iload X369 rfl at_176 (pc' := 178) rfl ?_
    refine own_lload X369 rfl at_178 (pc' := 180) rfl ?_
    refine own_callS X369 (own_pos l Z a0 hw p3 _ n0 X369.le) (hw _ (List.mem_of_getElem? (i := 1) rfl)) (hw _ (List.mem_of_getElem? (i := 2) rfl)) (hw _ (List.mem_of_getElem? (i := 3) rfl)) (hw _ (List.mem_of_getElem? (i := 4) rfl)) (by decide) rfl (by decide) (W := 1) (Nat.le_of_eq rfl) (by decide) (cells' := 1) (slots' := 4) rfl rfl (by decide) (by decide) (argsL := [(.long p3)]) (rest := [(.int i370)]) (lenOf own_pd0 rfl) rfl rfl at_180 (pc' := 183) rfl ?_
    rintro _ T371 h371 X371 ⟨⟨r371, rfl, fr371⟩, e371⟩
    subst e371
    show own_Goal p e below _ T371 (mkF m 183 #[.val (.int p0), .val (.long p1), .second, .val (.long p2), .second, .val (.long p3), .second, .val (.long p4), .second, .val (.int (4 : Int32)), .val (.int i343), .val (.double d346), .second, .val (.double d350), .second, .val (.double d354), .second, .val (.double d358), .second, .val (.double d362), .second, .val (.ref a363), .val (.int i370), .unset, .unset] [(.int r371), (.int i370)])
    obtain ⟨i372, e372⟩ : ∃ v, i370 + r371 = v := ⟨_, rfl⟩
    have f372 : own_I 3 (((if 0 < p1.toInt then 1 else 0) + (if 0 < p2.toInt then 1 else 0)) + (if 0 < p3.toInt then 1 else 0)) i372 := f370.add fr371 e372 (by decide) (by decide)
    refine own_iadd X371 e372 at_183 (pc' := 184) rfl ?_
    refine own_istore X371 (Ls' := #[.val (.int p0), .val (.long p1), .second, .val (.long p2), .second, .val (.long p3), .second, .val (.long p4), .second, .val (.int (4 : Int32)), .val (.int i343), .val (.double d346), .second, .val (.double d350), .second, .val (.double d354), .second, .val (.double d358), .second, .val (.double d362), .second, .val (.ref a363), .val (.int i372), .unset, .unset]) rfl at_184 (pc' := 186) rfl ?_
    refine own_iload X371 rfl at_186 (pc' := 188) rfl ?_
    refine own_iconst X371 (v := (4 : Int32)) (by decide) at_188 (pc' := 189) rfl ?_
    refine own_icmpF X371 (by decide) at_189 (pc' := 192) rfl ?_
    refine own_iload X371 rfl at_192 (pc' := 194) rfl ?_
    refine own_lload X371 rfl at_194 (pc' := 196) rfl ?_
    refine own_callS X371 (own_pos l Z a0 hw p4 _ n0 X371.le) (hw _ (List.mem_of_getElem? (i := 1) rfl)) (hw _ (List.mem_of_getElem? (i := 2) rfl)) (hw _ (List.mem_of_getElem? (i := 3) rfl)) (hw _ (List.mem_of_getElem? (i := 4) rfl)) (by decide) rfl (by decide) (W := 1) (Nat.le_of_eq rfl) (by decide) (cells' := 1) (slots' := 4) rfl rfl (by decide) (by decide) (argsL := [(.long p4)]) (rest := [(.int i372)]) (lenOf own_pd0 rfl) rfl rfl at_196 (pc' := 199) rfl ?_
    rintro _ T373 h373 X373 ⟨⟨r373, rfl, fr373⟩, e373⟩
    subst e373
    show own_Goal p e below _ T373 (mkF m 199 #[.val (.int p0), .val (.long p1), .second, .val (.long p2), .second, .val (.long p3), .second, .val (.long p4), .second, .val (.int (4 : Int32)), .val (.int i343), .val (.double d346), .second, .val (.double d350), .second, .val (.double d354), .second, .val (.double d358), .second, .val (.double d362), .second, .val (.ref a363), .val (.int i372), .unset, .unset] [(.int r373), (.int i372)])
    obtain ⟨i374, e374⟩ : ∃ v, i372 + r373 = v := ⟨_, rfl⟩
    have f374 : own_I 4 ((((if 0 < p1.toInt then 1 else 0) + (if 0 < p2.toInt then 1 else 0)) + (if 0 < p3.toInt then 1 else 0)) + (if 0 < p4.toInt then 1 else 0)) i374 := f372.add fr373 e374 (by decide) (by decide)
    refine own_iadd X373 e374 at_199 (pc' := 200) rfl ?_
    refine own_istore X373 (Ls' := #[.val (.int p0), .val (.long p1), .second, .val (.long p2), .second, .val (.long p3), .second, .val (.long p4), .second, .val (.int (4 : Int32)), .val (.int i343), .val (.double d346), .second, .val (.double d350), .second, .val (.double d354), .second, .val (.double d358), .second, .val (.double d362), .second, .val (.ref a363), .val (.int i374), .unset, .unset]) rfl at_200 (pc' := 202) rfl ?_
    refine own_aload X373 rfl rfl at_202 (pc' := 204) rfl ?_
    refine own_callS X373 (own_fp4 l Z a0 hw a363 d350 p1.toInt d354 p2.toInt d358 p3.toInt d362 p4.toInt _ n0 X373.le V367 S350 S354 S358 S362) (hw _ (List.mem_of_getElem? (i := 5) rfl)) (hw _ (List.mem_of_getElem? (i := 6) rfl)) (hw _ (List.mem_of_getElem? (i := 7) rfl)) (hw _ (List.mem_of_getElem? (i := 8) rfl)) (by decide) rfl (by decide) (W := 0) (Nat.le_of_eq rfl) (by decide) (cells' := 1) (slots' := 4) rfl rfl (by decide) (by decide) (argsL := [(.ref a363)]) (rest := []) (lenOf own_pd1 rfl) rfl rfl at_204 (pc' := 207) rfl ?_
    rintro _ T375 h375 X375 ⟨⟨r375, x375, z375, rfl, fx375, fz375, eq375⟩, e375⟩
    subst e375
    show own_Goal p e below _ T375 (mkF m 207 #[.val (.int p0), .val (.long p1), .second, .val (.long p2), .second, .val (.long p3), .second, .val (.long p4), .second, .val (.int (4 : Int32)), .val (.int i343), .val (.double d346), .second, .val (.double d350), .second, .val (.double d354), .second, .val (.double d358), .second, .val (.double d362), .second, .val (.ref a363), .val (.int i374), .unset, .unset] [(.double r375)])
    refine own_dstore X375 (Ls' := #[.val (.int p0), .val (.long p1), .second, .val (.long p2), .second, .val (.long p3), .second, .val (.long p4), .second, .val (.int (4 : Int32)), .val (.int i343), .val (.double d346), .second, .val (.double d350), .second, .val (.double d354), .second, .val (.double d358), .second, .val (.double d362), .second, .val (.ref a363), .val (.int i374), .val (.double r375), .second]) rfl at_207 (pc' := 209) rfl ?_
    refine own_dload X375 rfl at_209 (pc' := 211) rfl ?_
    refine own_iload X375 rfl at_211 (pc' := 213) rfl ?_
    obtain ⟨d376, e376⟩ : ∃ v, FP.i2d i374 = v := ⟨_, rfl⟩
    have f376 : own_D 0 4 ((((if 0 < p1.toInt then 1 else 0) + (if 0 < p2.toInt then 1 else 0)) + (if 0 < p3.toInt then 1 else 0)) + (if 0 < p4.toInt then 1 else 0)) d376 := own_D.i2d f374 e376
    refine own_i2d X375 e376 at_213 (pc' := 214) rfl ?_
    refine own_iload X375 rfl at_214 (pc' := 216) rfl ?_
    have f377 : own_I 4 (4 : Int) (4 : Int32) := own_I.lit (by decide) (by decide)
    obtain ⟨d378, e378⟩ : ∃ v, FP.i2d (4 : Int32) = v := ⟨_, rfl⟩
    have f378 : own_D 0 4 (4 : Int) d378 := own_D.i2d f377 e378
    refine own_i2d X375 e378 at_216 (pc' := 217) rfl ?_
    obtain ⟨d380, e380⟩ : ∃ v, FP.ddiv d376 d378 = v := ⟨_, rfl⟩
    have q380 := own_quot_nn f376 f378 (by decide) e380
    refine own_ddiv X375 e380 q380 at_217 (pc' := 218) rfl ?_
    have q381 := fx375.of_eq (show ((if 0 < p1.toInt then 1 else 0) + (if 0 < p2.toInt then 1 else 0) + (if 0 < p3.toInt then 1 else 0) + (if 0 < p4.toInt then 1 else 0)) = ((((if 0 < p1.toInt then 1 else 0) + (if 0 < p2.toInt then 1 else 0)) + (if 0 < p3.toInt then 1 else 0)) + (if 0 < p4.toInt then 1 else 0)) by grind)
    refine own_dcmp X375 (v := (0 : Int32)) (own_quot_cmp q381 fz375 f376 f378 (by decide) eq375 e380) at_218 (pc' := 219) rfl ?_
    refine own_ifF X375 (by decide) at_219 (pc' := 222) rfl ?_
    refine own_iconst X375 (v := (1 : Int32)) (by decide) at_222 (pc' := 223) rfl ?_
    refine own_goto X375 at_223 (pc' := 227) (by decide) (by decide) ?_
    exact own_retZ X375 (by decide) at_227 rfl (by decide) (by decide) rfl
set_option maxRecDepth 65536 in
set_option maxHeartbeats 40000000 in
theorem comes_1 {Post : Tables → Env → Array Value → State → Outcome → State → Prop} (hpost : ∀ tb e args s v u, (limb_1_1.after args s (.returned v) u = true ∧ limb_1_2.after args s (.returned v) u = true ∧ True) → FrameEnd s (.returned v) u (Jvm.fieldLocs frame_1_writes args s ++ Jvm.arrayLocs frame_1_arrays args s ++ Jvm.staticLocs frame_1_statics s) 16 128 → Post tb e args s (.returned v) u) :
    ArmFor flags0 classFile x code maxLocals ret World_1 tables_1 room_1 Calls_1 rest_1 Pre_1 Post := by
  intro l hfl _ _ p e ha hc hk s m args below hf hA hF happ hP
  obtain ⟨hcalls, hrest, hpre⟩ := hP
  obtain ⟨-, -, -, hnamed, -, -, -, hat⟩ := (Spec.applies_iff hf).mp happ
  obtain ⟨hg, hn⟩ := and_e (Cond.before_iff.mp (show (Jvm.Cond.and given_1 narrow_1).before args s = true from hpre))
  obtain ⟨h1, g0⟩ := and_e hg
  obtain ⟨k0, g1⟩ := and_e g0
  obtain ⟨k1, g2⟩ := and_e g1
  obtain ⟨k2, g3⟩ := and_e g2
  obtain ⟨k3, g4⟩ := and_e g3
  obtain ⟨w0, w1, w2, w3, w4, rfl⟩ : ∃ w0 w1 w2 w3 w4 : Value, args = #[w0, w1, w2, w3, w4] := by
    have hs : args.size = 5 := by simpa [Cond.value, given_1] using h1
    obtain ⟨L⟩ := args
    match L, hs with
    | [w0, w1, w2, w3, w4], _ => exact ⟨w0, w1, w2, w3, w4, rfl⟩
  have hw := fun d (hd : d ∈ tables_1) => atoms_spec (ws := Jvm.Cond.code x code maxLocals ret :: tables_1) hat d (List.mem_cons_of_mem _ hd)
  obtain ⟨p0, e0⟩ := is_v k0
  obtain rfl : w0 = (.int p0) := Option.some.inj e0
  obtain ⟨p1, e1⟩ := isL_v k1
  obtain rfl : w1 = (.long p1) := Option.some.inj e1
  obtain ⟨p2, e2⟩ := isL_v k2
  obtain rfl : w2 = (.long p2) := Option.some.inj e2
  obtain ⟨p3, e3⟩ := isL_v k3
  obtain rfl : w3 = (.long p3) := Option.some.inj e3
  obtain ⟨p4, e4⟩ := isL_v g4
  obtain rfl : w4 = (.long p4) := Option.some.inj e4
  obtain ⟨n, o, h1, h2, h3, _, L, rfl, ⟨⟨rfl, -⟩, N⟩, hq⟩ := own_law l s _ hw tables_1 p0 p1 p2 p3 p4 s.heap s.heap.size (Nat.le_refl _)  p e ha hc hk s m _ below hf ((Spec.applies_iff_loose hf).mp happ).1 ⟨rfl, State.Warmed39.refl s, rfl⟩ trivial
  refine ⟨n, _, h1, h2, h3, hpost _ _ _ _ _ _ ⟨Cond.after_iff.mpr rfl, Cond.after_iff.mpr (eq_i res_at (Term.int_eval (1)) rfl), trivial⟩ ⟨hq.1, hq.2.1, (hq.2.2.sift fun y hy => Or.inr (N y hy)).mono (by decide) (by decide)⟩⟩
theorem main_1_1 : Claimed_1_1 := comes_1 fun _ _ _ _ _ _ h hF => ⟨h.1, hF⟩
theorem main_1_2 : Claimed_1_2 := comes_1 fun _ _ _ _ _ _ h hF => ⟨h.2.1, hF⟩
end Jvm.Pilot.@@N@@
namespace Jvm.Pilot.@@N@@
open Jvm Jvm.ClassFile Sem Op Lib Jvm.Free Jvm.Stand Jvm.Pilot.@@N@@.Jvm.D
/-! MADE BY PROGRAM (witnessworld.py) out of the Statement's table words and the real class files: 9 classes; the members and pool entries that the words name. The judged class is class 1, her method 1. -/
namespace start1
open Jvm.ClassFile
def u (s : String) : CpInfo := .utf8 (stringToUtf16 s)
/-- a pool by its gaps: so many unusable entries, then the entry; so many at the end -/
def gap : Nat → List CpInfo → List CpInfo
  | 0, r => r
  | n + 1, r => .unusable :: gap n r
def poolList (es : List (Nat × CpInfo)) (last : Nat) : List CpInfo := es.foldr (fun e r => gap e.1 (e.2 :: r)) (gap last [])
def pool (es : List (Nat × CpInfo)) (last : Nat) : Array CpInfo := ⟨poolList es last⟩
def fileOf (pool : Array CpInfo) (this : Nat) (attrs : Array Attribute := #[]) (ms : Array MethodInfo := #[]) (fl : Nat := 33) (sup : Nat := 0) (ifs : Array Nat := #[]) (fds : Array FieldInfo := #[]) : ClassFile where
  minorVersion := 0
  majorVersion := 65
  constantPool := pool
  accessFlags := fl
  thisClass := this
  superClass := sup
  interfaces := ifs
  fields := fds
  methods := ms
  attributes := attrs
def plain (name : String) (sup : Option ClassId) : Class where
  name := name
  kind := .ordinary
  loader := none
  accessFlags := 33
  super := sup
  interfaces := #[]
  cf := none
  fields := #[]
  methods := #[]
  instanceTypes := #[]
  staticTypes := #[]
  resolved := #[]
  callSites := []
  init := .initialized
  statics := none
  mirror := none

def pool0 : Array CpInfo := pool [(5, u "<init>"), (0, u "()V"), (1, .class_ 10), (1, u "java/lang/Object")] 113

def k0m0 : Method := { name := "<init>", desc := "()V", sig := { parameters := [], returnType := none }, accessFlags := 1, code := none }
/-- java/lang/Object -/
def k0 : Class := { plain "java/lang/Object" none with
  accessFlags := 33
  interfaces := #[]
  cf := some (fileOf pool0 8 #[] #[{ accessFlags := 1, nameIndex := 5, descriptorIndex := 6, attributes := #[] }] 33 0 #[] #[])
  fields := #[]
  methods := #[k0m0]
  instanceTypes := #[]
  staticTypes := #[]
  resolved := Array.replicate 124 none
  statics := none }

def pool1 : Array CpInfo := pool [(2, .class_ 4), (1, u "java/lang/Object"), (0, u "<init>"), (0, u "()V"), (0, .methodref 8 9), (0, .class_ 10), (0, .nameAndType 11 12), (0, u "com/example/cladewalk/cladewalk/summary/SummariesFractionPositivePinLaw"), (0, u "pos"), (0, u "(J)I"), (0, .methodref 14 15), (0, .class_ 16), (0, .nameAndType 17 18), (0, u "com/example/cladewalk/cladewalk/summary/Summaries"), (0, u "fractionPositive"), (0, u "([D)D"), (2, u "law"), (0, u "(IJJJJ)Z")] 5

def k1m0 : Method := { name := "<init>", desc := "()V", sig := { parameters := [], returnType := none }, accessFlags := 2, code := none }
def k1c1 : Code := { maxStack := 6, maxLocals := 25, code := code, exceptionTable := #[], attributes := #[] }
def k1m1 : Method := { name := "law", desc := "(IJJJJ)Z", sig := { parameters := [.int, .long, .long, .long, .long], returnType := some .boolean }, accessFlags := 9, code := some k1c1 }
def k1c2 : Code := { maxStack := 4, maxLocals := 2, code := method_3_code, exceptionTable := #[], attributes := #[] }
def k1m2 : Method := { name := "pos", desc := "(J)I", sig := { parameters := [.long], returnType := some .int }, accessFlags := 10, code := some k1c2 }
/-- com/example/cladewalk/cladewalk/summary/SummariesFractionPositivePinLaw -/
def k1 : Class := { plain "com/example/cladewalk/cladewalk/summary/SummariesFractionPositivePinLaw" (some 0) with
  accessFlags := 49
  interfaces := #[]
  cf := some (fileOf pool1 8 #[] #[{ accessFlags := 2, nameIndex := 5, descriptorIndex := 6, attributes := #[] }, { accessFlags := 9, nameIndex := 21, descriptorIndex := 22, attributes := #[] }, { accessFlags := 10, nameIndex := 11, descriptorIndex := 12, attributes := #[] }] 49 2 #[] #[])
  fields := #[]
  methods := #[k1m0, k1m1, k1m2]
  instanceTypes := #[]
  staticTypes := #[]
  resolved := Array.replicate 28 none
  statics := none }

def pool2 : Array CpInfo := pool [(2, .class_ 4), (1, u "java/lang/Object"), (0, u "<init>"), (0, u "()V"), (1, .class_ 10), (1, u "com/example/cladewalk/cladewalk/summary/Summaries"), (1, u "([D)D"), (65, u "fractionPositive")] 3

def k2m0 : Method := { name := "<init>", desc := "()V", sig := { parameters := [], returnType := none }, accessFlags := 2, code := none }
def k2c1 : Code := { maxStack := 4, maxLocals := 7, code := prog_19_method_4_code, exceptionTable := #[], attributes := #[] }
def k2m1 : Method := { name := "fractionPositive", desc := "([D)D", sig := { parameters := [(.array .double)], returnType := some .double }, accessFlags := 9, code := some k2c1 }
/-- com/example/cladewalk/cladewalk/summary/Summaries -/
def k2 : Class := { plain "com/example/cladewalk/cladewalk/summary/Summaries" (some 0) with
  accessFlags := 33
  interfaces := #[]
  cf := some (fileOf pool2 8 #[] #[{ accessFlags := 2, nameIndex := 5, descriptorIndex := 6, attributes := #[] }, { accessFlags := 9, nameIndex := 78, descriptorIndex := 12, attributes := #[] }] 33 2 #[] #[])
  fields := #[]
  methods := #[k2m0, k2m1]
  instanceTypes := #[]
  staticTypes := #[]
  resolved := Array.replicate 82 none
  statics := none }

def pool3 : Array CpInfo := pool [(1, u "java/lang/Cloneable"), (0, .class_ 1), (0, u "java/lang/Object"), (0, .class_ 3)] 3

/-- java/lang/Cloneable -/
def k3 : Class := { plain "java/lang/Cloneable" (some 0) with
  accessFlags := 1537
  interfaces := #[]
  cf := some (fileOf pool3 2 #[] #[] 1537 4 #[] #[])
  fields := #[]
  methods := #[]
  instanceTypes := #[]
  staticTypes := #[]
  resolved := Array.replicate 8 none
  statics := none }

def pool4 : Array CpInfo := pool [(1, u "java/io/Serializable"), (0, .class_ 1), (0, u "java/lang/Object"), (0, .class_ 3)] 3

/-- java/io/Serializable -/
def k4 : Class := { plain "java/io/Serializable" (some 0) with
  accessFlags := 1537
  interfaces := #[]
  cf := some (fileOf pool4 2 #[] #[] 1537 4 #[] #[])
  fields := #[]
  methods := #[]
  instanceTypes := #[]
  staticTypes := #[]
  resolved := Array.replicate 8 none
  statics := none }

/-- the primitive byte -/
def k5 : Class := { plain "byte" none with kind := .primitive 'B', accessFlags := 0x411 }
/-- [B -/
def k6 : Class := { plain "[B" (some 0) with kind := .array 5 .byte, interfaces := #[3, 4], accessFlags := 1041 }

/-- the primitive int -/
def k7 : Class := { plain "int" none with kind := .primitive 'I', accessFlags := 0x411 }
/-- [I -/
def k8 : Class := { plain "[I" (some 0) with kind := .array 7 .int, interfaces := #[3, 4], accessFlags := 1041 }

def heap : Heap := #[]
/-- the primitive double -/
def k9 : Class := { plain "double" none with kind := .primitive 'D', accessFlags := 0x411 }
/-- [D -/
def k10 : Class := { plain "[D" (some 0) with kind := .array 9 .double, interfaces := #[3, 4], accessFlags := 1041 }

def classes : Array Class := #[k0, k1, k2, k3, k4, k5, k6, k7, k8, k9, k10]
def interned : List (Array UInt16 × Addr) := []
def slotsUsed : Nat := 0
def theMethod : MethodId := ⟨1, 1⟩
def args0 : Array Value := #[.int 5, .long 6, .long 7, .long 8, .long 9]
def aboutOver (below : List Frame) : State where
  vm := { classes := classes, interned := interned.toArray }
  heap := heap
  slotsUsed := slotsUsed
  threads := #[{ frames := .invoking theMethod args0 :: below }]
def below0 : List Frame := [.native { method := ⟨0, 0⟩, args := #[] }]
def about1 : State := aboutOver below0
def p0 : Program := .bare "" "" ""
def e0 : Env := launch0.env 0 0 0
theorem w_frames : about1.frames = Frame.invoking theMethod args0 :: below0 := rfl
set_option maxRecDepth 65536 in
theorem w_args : argsFit about1.vm theMethod args0 = true := by decide +kernel
set_option maxRecDepth 65536 in
theorem w_heap : heapFits about1 = true := by decide +kernel
set_option maxRecDepth 65536 in
theorem w_runnable : about1.curStatus? = some .runnable := by decide +kernel
set_option maxRecDepth 65536 in
theorem w_alone : about1.alone = true := by decide +kernel
set_option maxRecDepth 65536 in
theorem w_named : about1.methodNamed? x = some theMethod := by decide +kernel
set_option maxRecDepth 65536 in
theorem w_hears : about1.hears theMethod below0 = true := by decide +kernel
set_option maxRecDepth 65536 in
theorem w_ripe : about1.ripe theMethod args0 below0 = true := by decide +kernel
theorem w_running : about1.status = .running := rfl
set_option maxRecDepth 65536 in
theorem w_room : about1.hasRoom e0.platform room_1 = true :=
  launch0.hasRoom_least _ room_1 (by decide +kernel) (by decide +kernel) (by decide +kernel) (by decide +kernel) (by decide +kernel) (by decide +kernel)
theorem allAtoms_all (ts : List Jvm.Cond) (a : Array Jvm.Value) (st : Jvm.State) : (allAtoms ts).before a st = ts.all (fun c => c.before a st) := by
  induction ts with
  | nil => rfl
  | cons c t ih =>
    show (Jvm.Cond.and c (allAtoms t)).before a st = _
    rw [Jvm.Cond.before_and, ih, List.all_cons]
def words1 : List Jvm.Cond := Jvm.Cond.code x code maxLocals ret :: tables_1
/-- a 'code' word, met by the world's own term for the bytes: nothing is compared byte by byte -/
theorem code_word {y : MethodName} {bytes : ByteArray} {mx : Nat} {rt : Option FieldType} {a : Array Value} {s : State} {m : MethodId} {meth : Method} {c : Code} (h1 : s.methodNamed? y = some m) (h2 : s.vm.method? m = some meth) (h3 : meth.code = some c) (h4 : c.code = bytes)
    (h5 : (c.maxLocals == mx && c.exceptionTable.isEmpty && decide (c.maxStack ≤ mostOperands) && decide (meth.sig.returnType = rt) && !meth.locks && decide (parseMethodDescriptor y.desc = some meth.sig)) = true) : (Jvm.Cond.code y bytes mx rt).before a s = true := by
  simp only [Bool.and_eq_true, beq_iff_eq, Bool.not_eq_true', decide_eq_true_eq] at h5
  obtain ⟨⟨⟨⟨⟨g1, g2⟩, g3⟩, g4⟩, g5⟩, g6⟩ := h5
  simp [Cond.before, Cond.holds, Cond.value, h1, h2, h3, h4, g1, g2, g3, g4, g5, g6]
def isCode : Jvm.Cond → Bool
  | .code _ _ _ _ => true
  | _ => false
theorem all_split {L : List Jvm.Cond} {P : Jvm.Cond → Bool} (h1 : L.all (fun c => isCode c || P c) = true) (h2 : ∀ c ∈ L.filter isCode, P c = true) : L.all P = true := by
  refine List.all_eq_true.mpr fun c hc => ?_
  have h := List.all_eq_true.mp h1 c hc
  rcases Bool.eq_false_or_eq_true (isCode c) with hi | hi
  · exact h2 c (List.mem_filter.mpr ⟨hc, hi⟩)
  · simpa [hi] using h
set_option maxRecDepth 65536 in
theorem w_c0 : (Jvm.Cond.code x code maxLocals ret).before args0 about1 = true := code_word (m := ⟨1, 1⟩) (meth := k1m1) (c := k1c1) (by decide +kernel) rfl rfl rfl (by decide +kernel)
set_option maxRecDepth 65536 in
theorem w_c1 : (Jvm.Cond.code ({ cls := "com/example/cladewalk/cladewalk/summary/SummariesFractionPositivePinLaw", name := "pos", desc := "(J)I" } : Jvm.MethodName) method_3_code (2 : Nat) (Option.some Jvm.ClassFile.FieldType.int)).before args0 about1 = true := code_word (m := ⟨1, 2⟩) (meth := k1m2) (c := k1c2) (by decide +kernel) rfl rfl rfl (by decide +kernel)
set_option maxRecDepth 65536 in
theorem w_c2 : (Jvm.Cond.code ({ cls := "com/example/cladewalk/cladewalk/summary/Summaries", name := "fractionPositive", desc := "([D)D" } : Jvm.MethodName) prog_19_method_4_code (7 : Nat) (Option.some Jvm.ClassFile.FieldType.double)).before args0 about1 = true := code_word (m := ⟨2, 1⟩) (meth := k2m1) (c := k2c1) (by decide +kernel) rfl rfl rfl (by decide +kernel)
def codes1 : List Jvm.Cond := [Jvm.Cond.code x code maxLocals ret, Jvm.Cond.code ({ cls := "com/example/cladewalk/cladewalk/summary/SummariesFractionPositivePinLaw", name := "pos", desc := "(J)I" } : Jvm.MethodName) method_3_code (2 : Nat) (Option.some Jvm.ClassFile.FieldType.int), Jvm.Cond.code ({ cls := "com/example/cladewalk/cladewalk/summary/Summaries", name := "fractionPositive", desc := "([D)D" } : Jvm.MethodName) prog_19_method_4_code (7 : Nat) (Option.some Jvm.ClassFile.FieldType.double)]
set_option maxRecDepth 65536 in
theorem codes_eq : words1.filter isCode = codes1 := rfl
theorem w_codes : ∀ c ∈ words1.filter isCode, c.before args0 about1 = true := by
  rw [codes_eq]
  intro c hc
  simp only [codes1, List.mem_cons, List.not_mem_nil, or_false] at hc
  rcases hc with rfl | rfl | rfl
  · exact w_c0
  · exact w_c1
  · exact w_c2
set_option maxRecDepth 65536 in
theorem w_t1 : words1.all (fun c => isCode c || c.before args0 about1) = true := by decide +kernel
theorem w_tables : (allAtoms (Jvm.Cond.code x code maxLocals ret :: tables_1)).before args0 about1 = true := by
  rw [allAtoms_all]
  show words1.all (fun c => c.before args0 about1) = true
  refine all_split ?_ w_codes
  rw [w_t1]
set_option maxRecDepth 65536 in
theorem w_case : (Jvm.Cond.and given_1 narrow_1).before args0 about1 = true := by decide +kernel
theorem w_applies : (headSpec (Jvm.Cond.code x code maxLocals ret :: tables_1) room_1).applies x e0.platform about1 = true :=
  (Spec.applies_iff w_frames).mpr ⟨w_running, w_runnable, w_alone, w_named, w_hears, w_ripe, w_room, w_tables⟩
theorem atStart : AtStart classFile x code maxLocals ret World_1 tables_1 room_1 Calls_1 rest_1 Pre_1 launch0 p0 e0 about1 theMethod args0 below0 :=
  ⟨lists_1, trivial, launch0.admits_env _ _ _, launch0.least_env, fairChoices_fair.cas, fairChoices_fair.clock, w_frames, w_args, w_heap, w_applies, trivial, trivial, w_case⟩
end start1
theorem witness_1 : WitnessClaimed_1 := ⟨start1.p0, start1.e0, start1.about1, start1.theMethod, start1.args0, start1.below0, start1.atStart⟩
end Jvm.Pilot.@@N@@
