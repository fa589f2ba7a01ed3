import JvmDerived
import JvmDerived.Pilot.@@N@@Statement
import JvmDerived.Pilot.@@N@@Code
set_option linter.unusedVariables false
set_option linter.unusedSimpArgs false
namespace Jvm.Pilot.@@N@@
open Jvm Jvm.ClassFile Sem Op Lib Jvm.Free Jvm.Stand Jvm.LawKit Jvm.RoadKit Bundle Jvm.Pilot.@@N@@.Jvm.D
section OwnWalk
variable {p : Program} {l : Launch} {e : Env} {R : Room} {s : State} {m : MethodId} {args : Array Value} {below : List Frame} {meth : Method} {c : Code} {Z : State} {own : String} {bytes : ByteArray} {ml : Nat} {rt : Option FieldType} {nm : String} {n0 : Nat} {T : State} {h : Heap} {cells slots : Nat} {Q : Option Value → Heap → Prop} {Φ : State → Outcome → Prop} {pc pc' : Nat} {Ls : Array Slot} {rest : List Value} {a0 : Array Value}
/-- where the walk stands: the library's Stand, every place written so far is new (Fr), the heap, and the body's own data -/
def own_St (p : Program) (l : Launch) (e : Env) (R : Room) (s : State) (m : MethodId) (args : Array Value) (below : List Frame) (meth : Method) (c : Code) (Z : State) (own : String) (bytes : ByteArray) (ml : Nat) (rt : Option FieldType) (nm : String) (n0 : Nat) (T : State) (h : Heap) (cells slots : Nat) : Prop :=
  ∃ locs, Stand p l e R s m args below meth c T locs cells slots ∧ Fr n0 locs ∧ T.heap = h ∧ n0 ≤ h.size ∧ p.tables.exec = Jvm.exec ∧ Z.Warmed39 s.vm ∧ s.vm.findClass own = some m.cls ∧ c.code = bytes ∧ c.maxLocals = ml ∧ meth.sig.returnType = rt ∧ meth.locks = false ∧ meth.name = nm
/-- what a return that meets Q leaves -/
def own_Fin (below : List Frame) (s : State) (R : Room) (n0 : Nat) (Q : Option Value → Heap → Prop) : State → Outcome → Prop := fun s₂ o =>
  s₂.status = .running ∧ Ended s₂ below o ∧ ∃ v L, o = .returned v ∧ ((Q v s₂.heap ∧ n0 ≤ s₂.heap.size) ∧ Fr n0 L) ∧ FrameEnd s o s₂ L R.cells R.slots
/-- from frame g over T the run comes to an end that meets Φ -/
def own_Goal (p : Program) (e : Env) (below : List Frame) (Φ : State → Outcome → Prop) (T : State) (g : JFrame) : Prop :=
  ∃ s₂ o, Steps p.tables e below (T.setTop g) s₂ ∧ Φ s₂ o
theorem own_St.le (X : own_St p l e R s m args below meth c Z own bytes ml rt nm n0 T h cells slots) : n0 ≤ h.size := by obtain ⟨_, _, _, _, q, _⟩ := X; exact q
theorem own_step {T' : State} {g g' : JFrame} (f : ∀ t, Steps p.tables e below (T'.setTop g') t → Steps p.tables e below (T.setTop g) t) (k : own_Goal p e below Φ T' g') : own_Goal p e below Φ T g := by
  obtain ⟨s2, o, a, r⟩ := k
  exact ⟨s2, o, f _ a, r⟩
theorem own_cast {g g' : JFrame} (q : g = g') (k : own_Goal p e below Φ T g') : own_Goal p e below Φ T g := q ▸ k
theorem own_pure (X : own_St p l e R s m args below meth c Z own bytes ml rt nm n0 T h cells slots) {g g' : JFrame} (f : ∀ {locs}, Stand p l e R s m args below meth c T locs cells slots → p.tables.exec = Jvm.exec → c.code = bytes → ∀ t, Steps p.tables e below (T.setTop g') t → Steps p.tables e below (T.setTop g) t) (k : own_Goal p e below Φ T g') : own_Goal p e below Φ T g := by
  obtain ⟨locs, X, -, -, -, hx, -, -, hby, -⟩ := X
  exact own_step (f X hx hby) k
theorem own_iconst (X : own_St p l e R s m args below meth c Z own bytes ml rt nm n0 T h cells slots) {i : Int} {v : Int32} (hv : Int32.ofInt i = v) (hd : decode bytes pc = .ok (.iconst i, 1)) (hp : pc + 1 = pc') (k : own_Goal p e below Φ T (mkF m pc' Ls (.int v :: rest))) : own_Goal p e below Φ T (mkF m pc Ls (rest)) := by
  subst hp hv
  exact own_pure X (fun X hx hby _ a => XS.iconst X.here hx rfl (hb hby hd) a) k
theorem own_bipush (X : own_St p l e R s m args below meth c Z own bytes ml rt nm n0 T h cells slots) {i : Int} {v : Int32} (hv : (Int8.ofInt i).toInt32 = v) (hd : decode bytes pc = .ok (.bipush i, 2)) (hp : pc + 2 = pc') (k : own_Goal p e below Φ T (mkF m pc' Ls (.int v :: rest))) : own_Goal p e below Φ T (mkF m pc Ls (rest)) := by
  subst hp hv
  exact own_pure X (fun X hx hby _ a => XS.bipush X.here hx rfl (hb hby hd) a) k
theorem own_sipush (X : own_St p l e R s m args below meth c Z own bytes ml rt nm n0 T h cells slots) {i : Int} {v : Int32} (hv : (Int16.ofInt i).toInt32 = v) (hd : decode bytes pc = .ok (.sipush i, 3)) (hp : pc + 3 = pc') (k : own_Goal p e below Φ T (mkF m pc' Ls (.int v :: rest))) : own_Goal p e below Φ T (mkF m pc Ls (rest)) := by
  subst hp hv
  exact own_pure X (fun X hx hby _ a => XS.sipush X.here hx rfl (hb hby hd) a) k
theorem own_aconst_null (X : own_St p l e R s m args below meth c Z own bytes ml rt nm n0 T h cells slots)  (hd : decode bytes pc = .ok (.aconst_null, 1)) (hp : pc + 1 = pc') (k : own_Goal p e below Φ T (mkF m pc' Ls (.null :: rest))) : own_Goal p e below Φ T (mkF m pc Ls (rest)) := by
  subst hp
  exact own_pure X (fun X hx hby _ a => XS.aconstNull X.here hx rfl (hb hby hd) a) k
theorem own_lconst (X : own_St p l e R s m args below meth c Z own bytes ml rt nm n0 T h cells slots) {k : Fin 2} {v : Int64} (hv : Int64.ofNat k = v) (hd : decode bytes pc = .ok (.lconst k, 1)) (hp : pc + 1 = pc') (k : own_Goal p e below Φ T (mkF m pc' Ls (.long v :: rest))) : own_Goal p e below Φ T (mkF m pc Ls (rest)) := by
  subst hp hv
  exact own_pure X (fun X hx hby _ a => XT.lconst X.here hx rfl (hb hby hd) a) k
theorem own_dconst0 (X : own_St p l e R s m args below meth c Z own bytes ml rt nm n0 T h cells slots) {v : UInt64} (hv : FP.dconst0 = v) (hd : decode bytes pc = .ok (.dconst 0, 1)) (hp : pc + 1 = pc') (k : own_Goal p e below Φ T (mkF m pc' Ls (.double v :: rest))) : own_Goal p e below Φ T (mkF m pc Ls (rest)) := by
  subst hp
  exact own_pure X (fun X hx hby _ a => XS.dconst0 X.here hx rfl (hb hby hd) hv a) k
theorem own_dconst1 (X : own_St p l e R s m args below meth c Z own bytes ml rt nm n0 T h cells slots) {v : UInt64} (hv : FP.dconst1 = v) (hd : decode bytes pc = .ok (.dconst 1, 1)) (hp : pc + 1 = pc') (k : own_Goal p e below Φ T (mkF m pc' Ls (.double v :: rest))) : own_Goal p e below Φ T (mkF m pc Ls (rest)) := by
  subst hp
  exact own_pure X (fun X hx hby _ a => XS.dconst1 X.here hx rfl (hb hby hd) hv a) k
theorem own_iload (X : own_St p l e R s m args below meth c Z own bytes ml rt nm n0 T h cells slots) {k : Nat} {v : Int32} (hl : Ls[k]? = some (.val (.int v))) (hd : decode bytes pc = .ok (.iload k, 2)) (hp : pc + 2 = pc') (k : own_Goal p e below Φ T (mkF m pc' Ls (.int v :: rest))) : own_Goal p e below Φ T (mkF m pc Ls (rest)) := by
  subst hp
  exact own_pure X (fun X hx hby _ a => XS.iload X.here hx rfl (hb hby hd) hl a) k
theorem own_iloadN (X : own_St p l e R s m args below meth c Z own bytes ml rt nm n0 T h cells slots) {k : Fin 4} {v : Int32} (hl : Ls[k.val]? = some (.val (.int v))) (hd : decode bytes pc = .ok (.iload_n k, 1)) (hp : pc + 1 = pc') (k : own_Goal p e below Φ T (mkF m pc' Ls (.int v :: rest))) : own_Goal p e below Φ T (mkF m pc Ls (rest)) := by
  subst hp
  exact own_pure X (fun X hx hby _ a => XS.iloadN X.here hx rfl (hb hby hd) hl a) k
theorem own_istore (X : own_St p l e R s m args below meth c Z own bytes ml rt nm n0 T h cells slots) {k : Nat} {v : Int32} {Ls' : Array Slot} (hl : storeLocals Ls k (.int v) = some Ls') (hd : decode bytes pc = .ok (.istore k, 2)) (hp : pc + 2 = pc') (k : own_Goal p e below Φ T (mkF m pc' Ls' (rest))) : own_Goal p e below Φ T (mkF m pc Ls (.int v :: rest)) := by
  subst hp
  exact own_pure X (fun X hx hby _ a => XS.istore X.here hx rfl (hb hby hd) rfl hl a) k
theorem own_istoreN (X : own_St p l e R s m args below meth c Z own bytes ml rt nm n0 T h cells slots) {k : Fin 4} {v : Int32} {Ls' : Array Slot} (hl : storeLocals Ls k.val (.int v) = some Ls') (hd : decode bytes pc = .ok (.istore_n k, 1)) (hp : pc + 1 = pc') (k : own_Goal p e below Φ T (mkF m pc' Ls' (rest))) : own_Goal p e below Φ T (mkF m pc Ls (.int v :: rest)) := by
  subst hp
  exact own_pure X (fun X hx hby _ a => XS.istoreN X.here hx rfl (hb hby hd) rfl hl a) k
theorem own_lload (X : own_St p l e R s m args below meth c Z own bytes ml rt nm n0 T h cells slots) {k : Nat} {v : Int64} (hl : Ls[k]? = some (.val (.long v))) (hd : decode bytes pc = .ok (.lload k, 2)) (hp : pc + 2 = pc') (k : own_Goal p e below Φ T (mkF m pc' Ls (.long v :: rest))) : own_Goal p e below Φ T (mkF m pc Ls (rest)) := by
  subst hp
  exact own_pure X (fun X hx hby _ a => XT.lload X.here hx rfl (hb hby hd) hl a) k
theorem own_lloadN (X : own_St p l e R s m args below meth c Z own bytes ml rt nm n0 T h cells slots) {k : Fin 4} {v : Int64} (hl : Ls[k.val]? = some (.val (.long v))) (hd : decode bytes pc = .ok (.lload_n k, 1)) (hp : pc + 1 = pc') (k : own_Goal p e below Φ T (mkF m pc' Ls (.long v :: rest))) : own_Goal p e below Φ T (mkF m pc Ls (rest)) := by
  subst hp
  exact own_pure X (fun X hx hby _ a => XT.lloadN X.here hx rfl (hb hby hd) hl a) k
theorem own_lstore (X : own_St p l e R s m args below meth c Z own bytes ml rt nm n0 T h cells slots) {k : Nat} {v : Int64} {Ls' : Array Slot} (hl : storeLocals Ls k (.long v) = some Ls') (hd : decode bytes pc = .ok (.lstore k, 2)) (hp : pc + 2 = pc') (k : own_Goal p e below Φ T (mkF m pc' Ls' (rest))) : own_Goal p e below Φ T (mkF m pc Ls (.long v :: rest)) := by
  subst hp
  exact own_pure X (fun X hx hby _ a => XT.lstore X.here hx rfl (hb hby hd) rfl hl a) k
theorem own_lstoreN (X : own_St p l e R s m args below meth c Z own bytes ml rt nm n0 T h cells slots) {k : Fin 4} {v : Int64} {Ls' : Array Slot} (hl : storeLocals Ls k.val (.long v) = some Ls') (hd : decode bytes pc = .ok (.lstore_n k, 1)) (hp : pc + 1 = pc') (k : own_Goal p e below Φ T (mkF m pc' Ls' (rest))) : own_Goal p e below Φ T (mkF m pc Ls (.long v :: rest)) := by
  subst hp
  exact own_pure X (fun X hx hby _ a => XT.lstoreN X.here hx rfl (hb hby hd) rfl hl a) k
theorem own_dload (X : own_St p l e R s m args below meth c Z own bytes ml rt nm n0 T h cells slots) {k : Nat} {v : UInt64} (hl : Ls[k]? = some (.val (.double v))) (hd : decode bytes pc = .ok (.dload k, 2)) (hp : pc + 2 = pc') (k : own_Goal p e below Φ T (mkF m pc' Ls (.double v :: rest))) : own_Goal p e below Φ T (mkF m pc Ls (rest)) := by
  subst hp
  exact own_pure X (fun X hx hby _ a => XS.dload X.here hx rfl (hb hby hd) hl a) k
theorem own_dloadN (X : own_St p l e R s m args below meth c Z own bytes ml rt nm n0 T h cells slots) {k : Fin 4} {v : UInt64} (hl : Ls[k.val]? = some (.val (.double v))) (hd : decode bytes pc = .ok (.dload_n k, 1)) (hp : pc + 1 = pc') (k : own_Goal p e below Φ T (mkF m pc' Ls (.double v :: rest))) : own_Goal p e below Φ T (mkF m pc Ls (rest)) := by
  subst hp
  exact own_pure X (fun X hx hby _ a => XS.dloadN X.here hx rfl (hb hby hd) hl a) k
theorem own_dstore (X : own_St p l e R s m args below meth c Z own bytes ml rt nm n0 T h cells slots) {k : Nat} {v : UInt64} {Ls' : Array Slot} (hl : storeLocals Ls k (.double v) = some Ls') (hd : decode bytes pc = .ok (.dstore k, 2)) (hp : pc + 2 = pc') (k : own_Goal p e below Φ T (mkF m pc' Ls' (rest))) : own_Goal p e below Φ T (mkF m pc Ls (.double v :: rest)) := by
  subst hp
  exact own_pure X (fun X hx hby _ a => XS.dstore X.here hx rfl (hb hby hd) rfl hl a) k
theorem own_dstoreN (X : own_St p l e R s m args below meth c Z own bytes ml rt nm n0 T h cells slots) {k : Fin 4} {v : UInt64} {Ls' : Array Slot} (hl : storeLocals Ls k.val (.double v) = some Ls') (hd : decode bytes pc = .ok (.dstore_n k, 1)) (hp : pc + 1 = pc') (k : own_Goal p e below Φ T (mkF m pc' Ls' (rest))) : own_Goal p e below Φ T (mkF m pc Ls (.double v :: rest)) := by
  subst hp
  exact own_pure X (fun X hx hby _ a => XS.dstoreN X.here hx rfl (hb hby hd) rfl hl a) k
theorem own_aload (X : own_St p l e R s m args below meth c Z own bytes ml rt nm n0 T h cells slots) {k : Nat} {v : Value} (hl : Ls[k]? = some (.val v)) (hv : v.isRef = true) (hd : decode bytes pc = .ok (.aload k, 2)) (hp : pc + 2 = pc') (k : own_Goal p e below Φ T (mkF m pc' Ls (v :: rest))) : own_Goal p e below Φ T (mkF m pc Ls (rest)) := by
  subst hp
  exact own_pure X (fun X hx hby _ a => XS.aload X.here hx rfl (hb hby hd) hl hv a) k
theorem own_aloadN (X : own_St p l e R s m args below meth c Z own bytes ml rt nm n0 T h cells slots) {k : Fin 4} {v : Value} (hl : Ls[k.val]? = some (.val v)) (hv : v.isRef = true) (hd : decode bytes pc = .ok (.aload_n k, 1)) (hp : pc + 1 = pc') (k : own_Goal p e below Φ T (mkF m pc' Ls (v :: rest))) : own_Goal p e below Φ T (mkF m pc Ls (rest)) := by
  subst hp
  exact own_pure X (fun X hx hby _ a => XS.aloadN X.here hx rfl (hb hby hd) hl hv a) k
theorem own_astore (X : own_St p l e R s m args below meth c Z own bytes ml rt nm n0 T h cells slots) {k : Nat} {v : Value} {Ls' : Array Slot} (hl : storeLocals Ls k v = some Ls') (hv : v.isRef = true) (hd : decode bytes pc = .ok (.astore k, 2)) (hp : pc + 2 = pc') (k : own_Goal p e below Φ T (mkF m pc' Ls' (rest))) : own_Goal p e below Φ T (mkF m pc Ls (v :: rest)) := by
  subst hp
  exact own_pure X (fun X hx hby _ a => XS.astore X.here hx rfl (hb hby hd) rfl hv hl a) k
theorem own_astoreN (X : own_St p l e R s m args below meth c Z own bytes ml rt nm n0 T h cells slots) {k : Fin 4} {v : Value} {Ls' : Array Slot} (hl : storeLocals Ls k.val v = some Ls') (hv : v.isRef = true) (hd : decode bytes pc = .ok (.astore_n k, 1)) (hp : pc + 1 = pc') (k : own_Goal p e below Φ T (mkF m pc' Ls' (rest))) : own_Goal p e below Φ T (mkF m pc Ls (v :: rest)) := by
  subst hp
  exact own_pure X (fun X hx hby _ a => XS.astoreN X.here hx rfl (hb hby hd) rfl hv hl a) k
theorem own_iinc (X : own_St p l e R s m args below meth c Z own bytes ml rt nm n0 T h cells slots) {k : Nat} {i : Int} {x v : Int32} {Ls' : Array Slot} (hl : Ls[k]? = some (.val (.int x))) (hv : x + Int32.ofInt i = v) (hl' : storeLocals Ls k (.int v) = some Ls') (hd : decode bytes pc = .ok (.iinc k i, 3)) (hp : pc + 3 = pc') (k : own_Goal p e below Φ T (mkF m pc' Ls' (rest))) : own_Goal p e below Φ T (mkF m pc Ls (rest)) := by
  subst hp hv
  exact own_pure X (fun X hx hby _ a => XS.iinc X.here hx rfl (hb hby hd) hl hl' a) k
theorem own_iadd (X : own_St p l e R s m args below meth c Z own bytes ml rt nm n0 T h cells slots) {x y v : Int32} (hv : x + y = v) (hd : decode bytes pc = .ok (.iadd, 1)) (hp : pc + 1 = pc') (k : own_Goal p e below Φ T (mkF m pc' Ls (.int v :: rest))) : own_Goal p e below Φ T (mkF m pc Ls (.int y :: .int x :: rest)) := by
  subst hp hv
  exact own_pure X (fun X hx hby _ a => XS.iadd X.here hx rfl (hb hby hd) rfl a) k
theorem own_isub (X : own_St p l e R s m args below meth c Z own bytes ml rt nm n0 T h cells slots) {x y v : Int32} (hv : x - y = v) (hd : decode bytes pc = .ok (.isub, 1)) (hp : pc + 1 = pc') (k : own_Goal p e below Φ T (mkF m pc' Ls (.int v :: rest))) : own_Goal p e below Φ T (mkF m pc Ls (.int y :: .int x :: rest)) := by
  subst hp hv
  exact own_pure X (fun X hx hby _ a => XS.isub X.here hx rfl (hb hby hd) rfl a) k
theorem own_imul (X : own_St p l e R s m args below meth c Z own bytes ml rt nm n0 T h cells slots) {x y v : Int32} (hv : x * y = v) (hd : decode bytes pc = .ok (.imul, 1)) (hp : pc + 1 = pc') (k : own_Goal p e below Φ T (mkF m pc' Ls (.int v :: rest))) : own_Goal p e below Φ T (mkF m pc Ls (.int y :: .int x :: rest)) := by
  subst hp hv
  exact own_pure X (fun X hx hby _ a => XS.imul X.here hx rfl (hb hby hd) rfl a) k
theorem own_iand (X : own_St p l e R s m args below meth c Z own bytes ml rt nm n0 T h cells slots) {x y v : Int32} (hv : x &&& y = v) (hd : decode bytes pc = .ok (.iand, 1)) (hp : pc + 1 = pc') (k : own_Goal p e below Φ T (mkF m pc' Ls (.int v :: rest))) : own_Goal p e below Φ T (mkF m pc Ls (.int y :: .int x :: rest)) := by
  subst hp hv
  exact own_pure X (fun X hx hby _ a => XS.iand X.here hx rfl (hb hby hd) rfl a) k
theorem own_ior (X : own_St p l e R s m args below meth c Z own bytes ml rt nm n0 T h cells slots) {x y v : Int32} (hv : x ||| y = v) (hd : decode bytes pc = .ok (.ior, 1)) (hp : pc + 1 = pc') (k : own_Goal p e below Φ T (mkF m pc' Ls (.int v :: rest))) : own_Goal p e below Φ T (mkF m pc Ls (.int y :: .int x :: rest)) := by
  subst hp hv
  exact own_pure X (fun X hx hby _ a => XT.ior X.here hx rfl (hb hby hd) rfl a) k
theorem own_ixor (X : own_St p l e R s m args below meth c Z own bytes ml rt nm n0 T h cells slots) {x y v : Int32} (hv : x ^^^ y = v) (hd : decode bytes pc = .ok (.ixor, 1)) (hp : pc + 1 = pc') (k : own_Goal p e below Φ T (mkF m pc' Ls (.int v :: rest))) : own_Goal p e below Φ T (mkF m pc Ls (.int y :: .int x :: rest)) := by
  subst hp hv
  exact own_pure X (fun X hx hby _ a => XT.ixor X.here hx rfl (hb hby hd) rfl a) k
theorem own_ishl (X : own_St p l e R s m args below meth c Z own bytes ml rt nm n0 T h cells slots) {x y v : Int32} (hv : x <<< (y &&& 31) = v) (hd : decode bytes pc = .ok (.ishl, 1)) (hp : pc + 1 = pc') (k : own_Goal p e below Φ T (mkF m pc' Ls (.int v :: rest))) : own_Goal p e below Φ T (mkF m pc Ls (.int y :: .int x :: rest)) := by
  subst hp hv
  exact own_pure X (fun X hx hby _ a => XT.ishl X.here hx rfl (hb hby hd) rfl a) k
theorem own_ishr (X : own_St p l e R s m args below meth c Z own bytes ml rt nm n0 T h cells slots) {x y v : Int32} (hv : x >>> (y &&& 31) = v) (hd : decode bytes pc = .ok (.ishr, 1)) (hp : pc + 1 = pc') (k : own_Goal p e below Φ T (mkF m pc' Ls (.int v :: rest))) : own_Goal p e below Φ T (mkF m pc Ls (.int y :: .int x :: rest)) := by
  subst hp hv
  exact own_pure X (fun X hx hby _ a => XT.ishr X.here hx rfl (hb hby hd) rfl a) k
theorem own_iushr (X : own_St p l e R s m args below meth c Z own bytes ml rt nm n0 T h cells slots) {x y v : Int32} (hv : XT.ushr x y = v) (hd : decode bytes pc = .ok (.iushr, 1)) (hp : pc + 1 = pc') (k : own_Goal p e below Φ T (mkF m pc' Ls (.int v :: rest))) : own_Goal p e below Φ T (mkF m pc Ls (.int y :: .int x :: rest)) := by
  subst hp hv
  exact own_pure X (fun X hx hby _ a => XT.iushr X.here hx rfl (hb hby hd) rfl a) k
theorem own_irem (X : own_St p l e R s m args below meth c Z own bytes ml rt nm n0 T h cells slots) {x y v : Int32} (hy : y ≠ 0) (hv : x % y = v) (hd : decode bytes pc = .ok (.irem, 1)) (hp : pc + 1 = pc') (k : own_Goal p e below Φ T (mkF m pc' Ls (.int v :: rest))) : own_Goal p e below Φ T (mkF m pc Ls (.int y :: .int x :: rest)) := by
  subst hp hv
  exact own_pure X (fun X hx hby _ a => iremM X hx rfl (hb hby hd) rfl hy a) k
theorem own_ineg (X : own_St p l e R s m args below meth c Z own bytes ml rt nm n0 T h cells slots) {x v : Int32} (hv : -x = v) (hd : decode bytes pc = .ok (.ineg, 1)) (hp : pc + 1 = pc') (k : own_Goal p e below Φ T (mkF m pc' Ls (.int v :: rest))) : own_Goal p e below Φ T (mkF m pc Ls (.int x :: rest)) := by
  subst hp hv
  exact own_pure X (fun X hx hby _ a => XS.ineg X.here hx rfl (hb hby hd) rfl a) k
theorem own_ladd (X : own_St p l e R s m args below meth c Z own bytes ml rt nm n0 T h cells slots) {x y v : Int64} (hv : x + y = v) (hd : decode bytes pc = .ok (.ladd, 1)) (hp : pc + 1 = pc') (k : own_Goal p e below Φ T (mkF m pc' Ls (.long v :: rest))) : own_Goal p e below Φ T (mkF m pc Ls (.long y :: .long x :: rest)) := by
  subst hp hv
  exact own_pure X (fun X hx hby _ a => XT.ladd X.here hx rfl (hb hby hd) rfl a) k
theorem own_lsub (X : own_St p l e R s m args below meth c Z own bytes ml rt nm n0 T h cells slots) {x y v : Int64} (hv : x - y = v) (hd : decode bytes pc = .ok (.lsub, 1)) (hp : pc + 1 = pc') (k : own_Goal p e below Φ T (mkF m pc' Ls (.long v :: rest))) : own_Goal p e below Φ T (mkF m pc Ls (.long y :: .long x :: rest)) := by
  subst hp hv
  exact own_pure X (fun X hx hby _ a => XT.lsub X.here hx rfl (hb hby hd) rfl a) k
theorem own_lmul (X : own_St p l e R s m args below meth c Z own bytes ml rt nm n0 T h cells slots) {x y v : Int64} (hv : x * y = v) (hd : decode bytes pc = .ok (.lmul, 1)) (hp : pc + 1 = pc') (k : own_Goal p e below Φ T (mkF m pc' Ls (.long v :: rest))) : own_Goal p e below Φ T (mkF m pc Ls (.long y :: .long x :: rest)) := by
  subst hp hv
  exact own_pure X (fun X hx hby _ a => XT.lmul X.here hx rfl (hb hby hd) rfl a) k
theorem own_land (X : own_St p l e R s m args below meth c Z own bytes ml rt nm n0 T h cells slots) {x y v : Int64} (hv : x &&& y = v) (hd : decode bytes pc = .ok (.land, 1)) (hp : pc + 1 = pc') (k : own_Goal p e below Φ T (mkF m pc' Ls (.long v :: rest))) : own_Goal p e below Φ T (mkF m pc Ls (.long y :: .long x :: rest)) := by
  subst hp hv
  exact own_pure X (fun X hx hby _ a => XT.land X.here hx rfl (hb hby hd) rfl a) k
theorem own_lor (X : own_St p l e R s m args below meth c Z own bytes ml rt nm n0 T h cells slots) {x y v : Int64} (hv : x ||| y = v) (hd : decode bytes pc = .ok (.lor, 1)) (hp : pc + 1 = pc') (k : own_Goal p e below Φ T (mkF m pc' Ls (.long v :: rest))) : own_Goal p e below Φ T (mkF m pc Ls (.long y :: .long x :: rest)) := by
  subst hp hv
  exact own_pure X (fun X hx hby _ a => XT.lor X.here hx rfl (hb hby hd) rfl a) k
theorem own_ldiv (X : own_St p l e R s m args below meth c Z own bytes ml rt nm n0 T h cells slots) {x y v : Int64} (hy : y ≠ 0) (hv : x / y = v) (hd : decode bytes pc = .ok (.ldiv, 1)) (hp : pc + 1 = pc') (k : own_Goal p e below Φ T (mkF m pc' Ls (.long v :: rest))) : own_Goal p e below Φ T (mkF m pc Ls (.long y :: .long x :: rest)) := by
  subst hp hv
  exact own_pure X (fun X hx hby _ a => XT.ldiv X.here hx rfl (hb hby hd) rfl hy a) k
theorem own_lrem (X : own_St p l e R s m args below meth c Z own bytes ml rt nm n0 T h cells slots) {x y v : Int64} (hy : y ≠ 0) (hv : x - (x / y) * y = v) (hd : decode bytes pc = .ok (.lrem, 1)) (hp : pc + 1 = pc') (k : own_Goal p e below Φ T (mkF m pc' Ls (.long v :: rest))) : own_Goal p e below Φ T (mkF m pc Ls (.long y :: .long x :: rest)) := by
  subst hp hv
  exact own_pure X (fun X hx hby _ a => XT.lrem X.here hx rfl (hb hby hd) rfl hy a) k
theorem own_lneg (X : own_St p l e R s m args below meth c Z own bytes ml rt nm n0 T h cells slots) {x v : Int64} (hv : -x = v) (hd : decode bytes pc = .ok (.lneg, 1)) (hp : pc + 1 = pc') (k : own_Goal p e below Φ T (mkF m pc' Ls (.long v :: rest))) : own_Goal p e below Φ T (mkF m pc Ls (.long x :: rest)) := by
  subst hp hv
  exact own_pure X (fun X hx hby _ a => XT.lneg X.here hx rfl (hb hby hd) rfl a) k
theorem own_lshl (X : own_St p l e R s m args below meth c Z own bytes ml rt nm n0 T h cells slots) {x v : Int64} {y : Int32} (hv : x <<< (y.toInt64 &&& 63) = v) (hd : decode bytes pc = .ok (.lshl, 1)) (hp : pc + 1 = pc') (k : own_Goal p e below Φ T (mkF m pc' Ls (.long v :: rest))) : own_Goal p e below Φ T (mkF m pc Ls (.int y :: .long x :: rest)) := by
  subst hp hv
  exact own_pure X (fun X hx hby _ a => XT.lshl X.here hx rfl (hb hby hd) rfl a) k
theorem own_lcmp (X : own_St p l e R s m args below meth c Z own bytes ml rt nm n0 T h cells slots) {x y : Int64} {v : Int32} (hv : XT.cmpL x y = v) (hd : decode bytes pc = .ok (.lcmp, 1)) (hp : pc + 1 = pc') (k : own_Goal p e below Φ T (mkF m pc' Ls (.int v :: rest))) : own_Goal p e below Φ T (mkF m pc Ls (.long y :: .long x :: rest)) := by
  subst hp hv
  exact own_pure X (fun X hx hby _ a => XT.lcmp X.here hx rfl (hb hby hd) rfl a) k
theorem own_i2l (X : own_St p l e R s m args below meth c Z own bytes ml rt nm n0 T h cells slots) {x : Int32} {v : Int64} (hv : x.toInt64 = v) (hd : decode bytes pc = .ok (.i2l, 1)) (hp : pc + 1 = pc') (k : own_Goal p e below Φ T (mkF m pc' Ls (.long v :: rest))) : own_Goal p e below Φ T (mkF m pc Ls (.int x :: rest)) := by
  subst hp hv
  exact own_pure X (fun X hx hby _ a => XT.i2l X.here hx rfl (hb hby hd) rfl a) k
theorem own_l2i (X : own_St p l e R s m args below meth c Z own bytes ml rt nm n0 T h cells slots) {x : Int64} {v : Int32} (hv : x.toInt32 = v) (hd : decode bytes pc = .ok (.l2i, 1)) (hp : pc + 1 = pc') (k : own_Goal p e below Φ T (mkF m pc' Ls (.int v :: rest))) : own_Goal p e below Φ T (mkF m pc Ls (.long x :: rest)) := by
  subst hp hv
  exact own_pure X (fun X hx hby _ a => XT.l2i X.here hx rfl (hb hby hd) rfl a) k
theorem own_i2c (X : own_St p l e R s m args below meth c Z own bytes ml rt nm n0 T h cells slots) {x v : Int32} (hv : x.toUInt32.toUInt16.toUInt32.toInt32 = v) (hd : decode bytes pc = .ok (.i2c, 1)) (hp : pc + 1 = pc') (k : own_Goal p e below Φ T (mkF m pc' Ls (.int v :: rest))) : own_Goal p e below Φ T (mkF m pc Ls (.int x :: rest)) := by
  subst hp hv
  exact own_pure X (fun X hx hby _ a => XT.i2c X.here hx rfl (hb hby hd) rfl a) k
theorem own_i2d (X : own_St p l e R s m args below meth c Z own bytes ml rt nm n0 T h cells slots) {x : Int32} {v : UInt64} (hv : FP.i2d x = v) (hd : decode bytes pc = .ok (.i2d, 1)) (hp : pc + 1 = pc') (k : own_Goal p e below Φ T (mkF m pc' Ls (.double v :: rest))) : own_Goal p e below Φ T (mkF m pc Ls (.int x :: rest)) := by
  subst hp
  exact own_pure X (fun X hx hby _ a => XS.i2dS X.here hx rfl (hb hby hd) rfl hv a) k
theorem own_l2d (X : own_St p l e R s m args below meth c Z own bytes ml rt nm n0 T h cells slots) {x : Int64} {v : UInt64} (hv : FP.l2d x = v) (hd : decode bytes pc = .ok (.l2d, 1)) (hp : pc + 1 = pc') (k : own_Goal p e below Φ T (mkF m pc' Ls (.double v :: rest))) : own_Goal p e below Φ T (mkF m pc Ls (.long x :: rest)) := by
  subst hp
  exact own_pure X (fun X hx hby _ a => XS.l2dS X.here hx rfl (hb hby hd) rfl hv a) k
theorem own_dadd (X : own_St p l e R s m args below meth c Z own bytes ml rt nm n0 T h cells slots) {x y v : UInt64} (hv : FP.dadd x y = v) (hn : Jvm.Free.Fl.NoNaN64 v) (hd : decode bytes pc = .ok (.dadd, 1)) (hp : pc + 1 = pc') (k : own_Goal p e below Φ T (mkF m pc' Ls (.double v :: rest))) : own_Goal p e below Φ T (mkF m pc Ls (.double y :: .double x :: rest)) := by
  subst hp
  exact own_pure X (fun X hx hby _ a => XS.daddS X.here hx rfl (hb hby hd) rfl (by rw [hv]; exact hn) hv a) k
theorem own_dsub (X : own_St p l e R s m args below meth c Z own bytes ml rt nm n0 T h cells slots) {x y v : UInt64} (hv : FP.dsub x y = v) (hn : Jvm.Free.Fl.NoNaN64 v) (hd : decode bytes pc = .ok (.dsub, 1)) (hp : pc + 1 = pc') (k : own_Goal p e below Φ T (mkF m pc' Ls (.double v :: rest))) : own_Goal p e below Φ T (mkF m pc Ls (.double y :: .double x :: rest)) := by
  subst hp
  exact own_pure X (fun X hx hby _ a => XS.dsubS X.here hx rfl (hb hby hd) rfl (by rw [hv]; exact hn) hv a) k
theorem own_dmul (X : own_St p l e R s m args below meth c Z own bytes ml rt nm n0 T h cells slots) {x y v : UInt64} (hv : FP.dmul x y = v) (hn : Jvm.Free.Fl.NoNaN64 v) (hd : decode bytes pc = .ok (.dmul, 1)) (hp : pc + 1 = pc') (k : own_Goal p e below Φ T (mkF m pc' Ls (.double v :: rest))) : own_Goal p e below Φ T (mkF m pc Ls (.double y :: .double x :: rest)) := by
  subst hp
  exact own_pure X (fun X hx hby _ a => XS.dmulS X.here hx rfl (hb hby hd) rfl (by rw [hv]; exact hn) hv a) k
theorem own_ddiv (X : own_St p l e R s m args below meth c Z own bytes ml rt nm n0 T h cells slots) {x y v : UInt64} (hv : FP.ddiv x y = v) (hn : Jvm.Free.Fl.NoNaN64 v) (hd : decode bytes pc = .ok (.ddiv, 1)) (hp : pc + 1 = pc') (k : own_Goal p e below Φ T (mkF m pc' Ls (.double v :: rest))) : own_Goal p e below Φ T (mkF m pc Ls (.double y :: .double x :: rest)) := by
  subst hp
  exact own_pure X (fun X hx hby _ a => XS.ddivS X.here hx rfl (hb hby hd) rfl (by rw [hv]; exact hn) hv a) k
theorem own_dneg (X : own_St p l e R s m args below meth c Z own bytes ml rt nm n0 T h cells slots) {x v : UInt64} (hv : FP.dneg x = v) (hd : decode bytes pc = .ok (.dneg, 1)) (hp : pc + 1 = pc') (k : own_Goal p e below Φ T (mkF m pc' Ls (.double v :: rest))) : own_Goal p e below Φ T (mkF m pc Ls (.double x :: rest)) := by
  subst hp
  exact own_pure X (fun X hx hby _ a => XS.dnegS X.here hx rfl (hb hby hd) rfl hv a) k
theorem own_dcmp (X : own_St p l e R s m args below meth c Z own bytes ml rt nm n0 T h cells slots) {o : CmpOp} {x y : UInt64} {v : Int32} (hv : cmpValue (FP.dcmp x y) o = v) (hd : decode bytes pc = .ok (.dcmp o, 1)) (hp : pc + 1 = pc') (k : own_Goal p e below Φ T (mkF m pc' Ls (.int v :: rest))) : own_Goal p e below Φ T (mkF m pc Ls (.double y :: .double x :: rest)) := by
  subst hp
  exact own_pure X (fun X hx hby _ a => XS.dcmpS X.here hx rfl (hb hby hd) rfl hv a) k
theorem own_dremS {tb : Tables} [Ours tb] {e : Env} {below : List Frame} {T target : State} {m : MethodId} {c : Code} {g : JFrame} (h : At T m c below) (hx : tb.exec = Jvm.exec) (hg : g.method = m) {x y v : UInt64} {rest : List Value} (hd : decode c.code g.pc = .ok (.drem, 1)) (hs : g.stack = .double y :: .double x :: rest) (hn : Jvm.Free.Fl.NoNaN64 (FP.drem x y)) (hv : FP.drem x y = v)
    (hr : Steps tb e below (T.setTop { g with pc := g.pc + 1, stack := .double v :: rest }) target) : Steps tb e below (T.setTop g) target := by
  subst hg
  subst hv
  obtain ⟨gm, gp, gl, gs, gk, ge, gr⟩ := g
  simp only at hs hd
  subst hs
  jvm_step h [h.top, hx, hd, Op.drem.at_number h.top hn]
  exact hr
theorem own_drem (X : own_St p l e R s m args below meth c Z own bytes ml rt nm n0 T h cells slots) {x y v : UInt64} (hv : FP.drem x y = v) (hn : Jvm.Free.Fl.NoNaN64 v) (hd : decode bytes pc = .ok (.drem, 1)) (hp : pc + 1 = pc') (k : own_Goal p e below Φ T (mkF m pc' Ls (.double v :: rest))) : own_Goal p e below Φ T (mkF m pc Ls (.double y :: .double x :: rest)) := by
  subst hp
  exact own_pure X (fun X hx hby _ a => own_dremS X.here hx rfl (hb hby hd) rfl (by rw [hv]; exact hn) hv a) k
theorem own_dup (X : own_St p l e R s m args below meth c Z own bytes ml rt nm n0 T h cells slots) {x : Value} (hc : x.category = 1) (hd : decode bytes pc = .ok (.dup, 1)) (hp : pc + 1 = pc') (k : own_Goal p e below Φ T (mkF m pc' Ls (x :: x :: rest))) : own_Goal p e below Φ T (mkF m pc Ls (x :: rest)) := by
  subst hp
  exact own_pure X (fun X hx hby _ a => XS.dup X.here hx rfl (hb hby hd) rfl hc a) k
theorem own_dup2 (X : own_St p l e R s m args below meth c Z own bytes ml rt nm n0 T h cells slots) {x y : Value} (hc : x.category = 1) (hc' : y.category = 1) (hd : decode bytes pc = .ok (.dup2, 1)) (hp : pc + 1 = pc') (k : own_Goal p e below Φ T (mkF m pc' Ls (x :: y :: x :: y :: rest))) : own_Goal p e below Φ T (mkF m pc Ls (x :: y :: rest)) := by
  subst hp
  exact own_pure X (fun X hx hby _ a => XT.dup2 X.here hx rfl (hb hby hd) rfl hc hc' a) k
theorem own_pop (X : own_St p l e R s m args below meth c Z own bytes ml rt nm n0 T h cells slots) {x : Value} (hc : x.category = 1) (hd : decode bytes pc = .ok (.pop, 1)) (hp : pc + 1 = pc') (k : own_Goal p e below Φ T (mkF m pc' Ls (rest))) : own_Goal p e below Φ T (mkF m pc Ls (x :: rest)) := by
  subst hp
  exact own_pure X (fun X hx hby _ a => XT.pop X.here hx rfl (hb hby hd) rfl hc a) k
theorem own_goto (X : own_St p l e R s m args below meth c Z own bytes ml rt nm n0 T h cells slots) {o : Int}  (hd : decode bytes pc = .ok (.goto o, 3)) (ho : 0 ≤ (pc : Int) + o) (hp : ((pc : Int) + o).toNat = pc') (k : own_Goal p e below Φ T (mkF m pc' Ls rest)) : own_Goal p e below Φ T (mkF m pc Ls (rest)) := by
  exact own_pure X (fun X hx hby _ a => XS.goto X.here hx rfl rfl (hb hby hd) ho hp a) k
theorem own_ifT (X : own_St p l e R s m args below meth c Z own bytes ml rt nm n0 T h cells slots) {o : Int} {cd : ClassFile.Cond} {x : Int32} (hc : ifCond.holds cd x = true) (hd : decode bytes pc = .ok (.ifCond cd o, 3)) (ho : 0 ≤ (pc : Int) + o) (hp : ((pc : Int) + o).toNat = pc') (k : own_Goal p e below Φ T (mkF m pc' Ls rest)) : own_Goal p e below Φ T (mkF m pc Ls (.int x :: rest)) := by
  exact own_pure X (fun X hx hby _ a => XS.ifYes X.here hx rfl rfl (hb hby hd) rfl hc ho hp a) k
theorem own_ifF (X : own_St p l e R s m args below meth c Z own bytes ml rt nm n0 T h cells slots) {o : Int} {cd : ClassFile.Cond} {x : Int32} (hc : ifCond.holds cd x = false) (hd : decode bytes pc = .ok (.ifCond cd o, 3)) (hp : pc + 3 = pc') (k : own_Goal p e below Φ T (mkF m pc' Ls rest)) : own_Goal p e below Φ T (mkF m pc Ls (.int x :: rest)) := by
  subst hp
  exact own_pure X (fun X hx hby _ a => XS.ifNo X.here hx rfl (hb hby hd) rfl hc a) k
theorem own_icmpT (X : own_St p l e R s m args below meth c Z own bytes ml rt nm n0 T h cells slots) {o : Int} {cd : ClassFile.Cond} {x y : Int32} (hc : if_icmp.holds cd x y = true) (hd : decode bytes pc = .ok (.if_icmp cd o, 3)) (ho : 0 ≤ (pc : Int) + o) (hp : ((pc : Int) + o).toNat = pc') (k : own_Goal p e below Φ T (mkF m pc' Ls rest)) : own_Goal p e below Φ T (mkF m pc Ls (.int y :: .int x :: rest)) := by
  exact own_pure X (fun X hx hby _ a => XS.icmpYes X.here hx rfl rfl (hb hby hd) rfl hc ho hp a) k
theorem own_icmpF (X : own_St p l e R s m args below meth c Z own bytes ml rt nm n0 T h cells slots) {o : Int} {cd : ClassFile.Cond} {x y : Int32} (hc : if_icmp.holds cd x y = false) (hd : decode bytes pc = .ok (.if_icmp cd o, 3)) (hp : pc + 3 = pc') (k : own_Goal p e below Φ T (mkF m pc' Ls rest)) : own_Goal p e below Φ T (mkF m pc Ls (.int y :: .int x :: rest)) := by
  subst hp
  exact own_pure X (fun X hx hby _ a => XS.icmpNo X.here hx rfl (hb hby hd) rfl hc a) k
theorem own_ifnullT (X : own_St p l e R s m args below meth c Z own bytes ml rt nm n0 T h cells slots) {o : Int}  (hd : decode bytes pc = .ok (.ifnull o, 3)) (ho : 0 ≤ (pc : Int) + o) (hp : ((pc : Int) + o).toNat = pc') (k : own_Goal p e below Φ T (mkF m pc' Ls rest)) : own_Goal p e below Φ T (mkF m pc Ls (.null :: rest)) := by
  exact own_pure X (fun X hx hby _ a => XS.ifnullYes X.here hx rfl rfl (hb hby hd) rfl ho hp a) k
theorem own_ifnullF (X : own_St p l e R s m args below meth c Z own bytes ml rt nm n0 T h cells slots) {o : Int} {b : Addr} (hd : decode bytes pc = .ok (.ifnull o, 3)) (hp : pc + 3 = pc') (k : own_Goal p e below Φ T (mkF m pc' Ls rest)) : own_Goal p e below Φ T (mkF m pc Ls (.ref b :: rest)) := by
  subst hp
  exact own_pure X (fun X hx hby _ a => XS.ifnullNo X.here hx rfl (hb hby hd) rfl a) k
theorem own_ifnonnullT (X : own_St p l e R s m args below meth c Z own bytes ml rt nm n0 T h cells slots) {o : Int} {b : Addr} (hd : decode bytes pc = .ok (.ifnonnull o, 3)) (ho : 0 ≤ (pc : Int) + o) (hp : ((pc : Int) + o).toNat = pc') (k : own_Goal p e below Φ T (mkF m pc' Ls rest)) : own_Goal p e below Φ T (mkF m pc Ls (.ref b :: rest)) := by
  exact own_pure X (fun X hx hby _ a => XT.ifnonnullYes X.here hx rfl rfl (hb hby hd) rfl ho hp a) k
theorem own_ifnonnullF (X : own_St p l e R s m args below meth c Z own bytes ml rt nm n0 T h cells slots) {o : Int}  (hd : decode bytes pc = .ok (.ifnonnull o, 3)) (hp : pc + 3 = pc') (k : own_Goal p e below Φ T (mkF m pc' Ls rest)) : own_Goal p e below Φ T (mkF m pc Ls (.null :: rest)) := by
  subst hp
  exact own_pure X (fun X hx hby _ a => XT.ifnonnullNo X.here hx rfl (hb hby hd) rfl a) k
theorem own_ldcI (X : own_St p l e R s m args below meth c Z own bytes ml rt nm n0 T h cells slots) {i : Nat} {v : Int32} (w : (Jvm.Cond.constant own i v).before a0 Z = true) (hd : decode bytes pc = .ok (.ldc i, 2)) (hp : pc + 2 = pc') (k : own_Goal p e below Φ T (mkF m pc' Ls (.int v :: rest))) : own_Goal p e below Φ T (mkF m pc Ls rest) := by
  subst hp
  obtain ⟨locs, X, -, -, -, hx, hZ, hown, hby, -⟩ := X
  exact own_step (fun t a => X.ldcInt hx hown (mvT hZ w) (g := mkF m pc Ls rest) rfl (hb hby hd) t a) k
theorem own_ldcJ (X : own_St p l e R s m args below meth c Z own bytes ml rt nm n0 T h cells slots) {i : Nat} {v : Int64} (w : (Jvm.Cond.constantLong own i v).before a0 Z = true) (hd : decode bytes pc = .ok (.ldc2_w i, 3)) (hp : pc + 3 = pc') (k : own_Goal p e below Φ T (mkF m pc' Ls (.long v :: rest))) : own_Goal p e below Φ T (mkF m pc Ls rest) := by
  subst hp
  obtain ⟨locs, X, -, -, -, hx, hZ, hown, hby, -⟩ := X
  exact own_step (fun t a => X.ldc2Long hx hown (mvT hZ w) (g := mkF m pc Ls rest) rfl (hb hby hd) t a) k
theorem own_ldcD (X : own_St p l e R s m args below meth c Z own bytes ml rt nm n0 T h cells slots) {i : Nat} {v : UInt64} (w : (Jvm.Cond.constantDouble own i v).before a0 Z = true) (hd : decode bytes pc = .ok (.ldc2_w i, 3)) (hp : pc + 3 = pc') (k : own_Goal p e below Φ T (mkF m pc' Ls (.double v :: rest))) : own_Goal p e below Φ T (mkF m pc Ls rest) := by
  subst hp
  obtain ⟨locs, X, -, -, -, hx, hZ, hown, hby, -⟩ := X
  exact own_step (fun t a => X.ldc2DoubleC hx hown (mvT hZ w) (g := mkF m pc Ls rest) rfl (hb hby hd) t a) k
theorem own_retI (X : own_St p l e R s m args below meth c Z own bytes ml rt nm n0 T h cells slots) {v : Int32} (hd : decode bytes pc = .ok (.ireturn, 1)) (hr : rt = some .int) (hc : cells ≤ R.cells) (hs : slots ≤ R.slots) (q : Q (some (.int v)) h) : own_Goal p e below (own_Fin below s R n0 Q) T (mkF m pc Ls (.int v :: rest)) := by
  obtain ⟨locs, X, N, e1, n1, hx, hZ, hown, hby, -, hrt, hlk, -⟩ := X
  obtain ⟨fs, hl, hrun, hended, hW, hsame⟩ := X.leave (v := some (.int v)) (fun z => by rw [hrt, hr] at z; cases z) hlk
  exact ⟨_, _, retOut X hx (hrt.trans hr) rfl (Or.inl ⟨rfl, Or.inl rfl, _, rfl⟩) (hb hby hd) hl, hrun, hended, _, _, rfl, ⟨⟨by show Q _ T.heap; rw [e1]; exact q, by show n0 ≤ T.heap.size; rw [e1]; exact n1⟩, N⟩, ⟨_, rfl⟩, hW, hsame.mono hc hs⟩
theorem own_retJ (X : own_St p l e R s m args below meth c Z own bytes ml rt nm n0 T h cells slots) {v : Int64} (hd : decode bytes pc = .ok (.lreturn, 1)) (hr : rt = some .long) (hc : cells ≤ R.cells) (hs : slots ≤ R.slots) (q : Q (some (.long v)) h) : own_Goal p e below (own_Fin below s R n0 Q) T (mkF m pc Ls (.long v :: rest)) := by
  obtain ⟨locs, X, N, e1, n1, hx, hZ, hown, hby, -, hrt, hlk, -⟩ := X
  obtain ⟨fs, hl, hrun, hended, hW, hsame⟩ := X.leave (v := some (.long v)) (fun z => by rw [hrt, hr] at z; cases z) hlk
  exact ⟨_, _, retOut X hx (hrt.trans hr) rfl (Or.inr (Or.inl ⟨rfl, rfl, _, rfl⟩)) (hb hby hd) hl, hrun, hended, _, _, rfl, ⟨⟨by show Q _ T.heap; rw [e1]; exact q, by show n0 ≤ T.heap.size; rw [e1]; exact n1⟩, N⟩, ⟨_, rfl⟩, hW, hsame.mono hc hs⟩
theorem own_retD (X : own_St p l e R s m args below meth c Z own bytes ml rt nm n0 T h cells slots) {v : UInt64} (hd : decode bytes pc = .ok (.dreturn, 1)) (hr : rt = some .double) (hc : cells ≤ R.cells) (hs : slots ≤ R.slots) (q : Q (some (.double v)) h) : own_Goal p e below (own_Fin below s R n0 Q) T (mkF m pc Ls (.double v :: rest)) := by
  obtain ⟨locs, X, N, e1, n1, hx, hZ, hown, hby, -, hrt, hlk, -⟩ := X
  obtain ⟨fs, hl, hrun, hended, hW, hsame⟩ := X.leave (v := some (.double v)) (fun z => by rw [hrt, hr] at z; cases z) hlk
  exact ⟨_, _, retOut X hx (hrt.trans hr) rfl (Or.inr (Or.inr (Or.inl ⟨rfl, rfl, _, rfl⟩))) (hb hby hd) hl, hrun, hended, _, _, rfl, ⟨⟨by show Q _ T.heap; rw [e1]; exact q, by show n0 ≤ T.heap.size; rw [e1]; exact n1⟩, N⟩, ⟨_, rfl⟩, hW, hsame.mono hc hs⟩
theorem own_retZ (X : own_St p l e R s m args below meth c Z own bytes ml rt nm n0 T h cells slots) {v : Int32} (hv : v = 0 ∨ v = 1) (hd : decode bytes pc = .ok (.ireturn, 1)) (hr : rt = some .boolean) (hc : cells ≤ R.cells) (hs : slots ≤ R.slots) (q : Q (some (.int v)) h) : own_Goal p e below (own_Fin below s R n0 Q) T (mkF m pc Ls (.int v :: rest)) := by
  obtain ⟨locs, X, N, e1, n1, hx, hZ, hown, hby, -, hrt, hlk, -⟩ := X
  obtain ⟨fs, hl, hrun, hended, hW, hsame⟩ := X.leave (v := some (.int v)) (fun z => by rw [hrt, hr] at z; cases z) hlk
  have hn : nar .boolean v = v := by rcases hv with rfl | rfl <;> rfl
  exact ⟨_, _, retN X hx (t := .boolean) (hrt.trans hr) (by simp) (hb hby hd) (by rw [hn]; exact hl), hrun, hended, _, _, rfl, ⟨⟨by show Q _ T.heap; rw [e1]; exact q, by show n0 ≤ T.heap.size; rw [e1]; exact n1⟩, N⟩, ⟨_, rfl⟩, hW, hsame.mono hc hs⟩
theorem own_retA (X : own_St p l e R s m args below meth c Z own bytes ml rt nm n0 T h cells slots) {b : Addr} {t : FieldType} (ht : t.isReference = true) (hd : decode bytes pc = .ok (.areturn, 1)) (hr : rt = some t) (hc : cells ≤ R.cells) (hs : slots ≤ R.slots) (q : Q (some (.ref b)) h) : own_Goal p e below (own_Fin below s R n0 Q) T (mkF m pc Ls (.ref b :: rest)) := by
  obtain ⟨locs, X, N, e1, n1, hx, hZ, hown, hby, -, hrt, hlk, -⟩ := X
  obtain ⟨fs, hl, hrun, hended, hW, hsame⟩ := X.leave (v := some (.ref b)) (fun z => by rw [hrt, hr] at z; cases z) hlk
  have hn : narrow t (.ref b) = .ref b := by cases t <;> rfl
  exact ⟨_, _, retOut X hx (hrt.trans hr) hn (Or.inr (Or.inr (Or.inr (Or.inr ⟨rfl, ht, rfl⟩)))) (hb hby hd) hl, hrun, hended, _, _, rfl, ⟨⟨by show Q _ T.heap; rw [e1]; exact q, by show n0 ≤ T.heap.size; rw [e1]; exact n1⟩, N⟩, ⟨_, rfl⟩, hW, hsame.mono hc hs⟩
theorem own_retV (X : own_St p l e R s m args below meth c Z own bytes ml rt nm n0 T h cells slots) (hd : decode bytes pc = .ok (.return_, 1)) (hr : rt = none) (hc : cells ≤ R.cells) (hs : slots ≤ R.slots) (q : Q none h) : own_Goal p e below (own_Fin below s R n0 Q) T (mkF m pc Ls []) := by
  obtain ⟨locs, X, N, e1, n1, hx, hZ, hown, hby, -, hrt, hlk, -⟩ := X
  obtain ⟨fs, hl, hrun, hended, hW, hsame⟩ := X.leave (v := none) (fun _ => rfl) hlk
  exact ⟨_, _, X.returnOut hx (hrt.trans hr) (hb hby hd) hl, hrun, hended, _, _, rfl, ⟨⟨by show Q _ T.heap; rw [e1]; exact q, by show n0 ≤ T.heap.size; rw [e1]; exact n1⟩, N⟩, ⟨_, rfl⟩, hW, hsame.mono hc hs⟩
/-- an array and all it holds -/
def own_Vec (Z : State) (h : Heap) (a : Addr) (ty : FieldType) (vs : List Value) : Prop := ∃ c : Cell, Arr Z h a c ty ∧ c.slots = vs.toArray
theorem own_Vec.lt {a : Addr} {ty : FieldType} {vs : List Value} (F : own_Vec Z h a ty vs) : a < h.size := by obtain ⟨c, A, -⟩ := F; exact A.lt
theorem own_Vec.ext {h' : Heap} {a : Addr} {ty : FieldType} {vs : List Value} (F : own_Vec Z h a ty vs) (E : Ext h h') : own_Vec Z h' a ty vs := by obtain ⟨c, A, r⟩ := F; exact ⟨c, A.ext E, r⟩
theorem own_Vec.other {h' : Heap} {a b : Addr} {sl : Nat} {v : Value} {ty : FieldType} {vs : List Value} (F : own_Vec Z h b ty vs) (W : Wr h h' a sl v) (q : b ≠ a) : own_Vec Z h' b ty vs := by obtain ⟨c, A, r⟩ := F; exact ⟨c, A.other W q, r⟩
theorem own_Vec.keep {h' : Heap} {ws : List Addr} {a : Addr} {ty : FieldType} {vs : List Value} (F : own_Vec Z h a ty vs) (K : Keep h h' ws) (q : a ∉ ws) : own_Vec Z h' a ty vs := by obtain ⟨c, A, r⟩ := F; exact ⟨c, ⟨K.2.1 a c A.1 q, A.2⟩, r⟩
theorem own_Vec.set {h' : Heap} {a : Addr} {i : Nat} {v : Value} {ty : FieldType} {vs : List Value} (F : own_Vec Z h a ty vs) (W : Wr h h' a i v) : own_Vec Z h' a ty (vs.set i v) := by
  obtain ⟨c, A, r⟩ := F
  refine ⟨_, A.same W, ?_⟩
  show c.slots.setIfInBounds i v = _
  rw [r]; simp
theorem own_lt_ne {a b : Addr} (q : b < h.size) (g : a = h.size) : b ≠ a := by subst g; exact Nat.ne_of_lt q
/-- an index in an array, as the library's laws ask it -/
theorem own_in {n i : Nat} {j : Int32} (hj : j.toNatClampNeg = i) (h0 : ¬ j < 0) (hi : i < n) : ¬ (j < 0 ∨ n ≤ j.toNatClampNeg) := by
  rw [hj]; rintro (q | q)
  · exact h0 q
  · omega
theorem own_len (X : own_St p l e R s m args below meth c Z own bytes ml rt nm n0 T h cells slots) {a : Addr} {ty : FieldType} {vs : List Value} (F : own_Vec Z h a ty vs) {v : Int32} (hv : vs.length.toInt32 = v) (hd : decode bytes pc = .ok (.arraylength, 1)) (hp : pc + 1 = pc') (k : own_Goal p e below Φ T (mkF m pc' Ls (.int v :: rest))) : own_Goal p e below Φ T (mkF m pc Ls (.ref a :: rest)) := by
  subst hp
  obtain ⟨locs, X, N, e1, -, hx, hZ, hown, hby, -⟩ := X
  obtain ⟨cl, A, r⟩ := F
  have e2 : cl.slots.size.toInt32 = v := by rw [r]; simpa using hv
  exact own_step (fun t a => X.arraylength hx (cell := cl) (by rw [e1]; exact A.1) (State.isArrayOf_alike hZ.alike A.2.1) (g := mkF m pc Ls _) rfl rfl (hb hby hd) t (by rw [e2]; exact a)) k
theorem own_iaload (X : own_St p l e R s m args below meth c Z own bytes ml rt nm n0 T h cells slots) {a : Addr} {vs : List Value} (F : own_Vec Z h a .int vs) {j : Int32} {i : Nat} {v : Value} (hj : j.toNatClampNeg = i) (h0 : ¬ j < 0) (hv : vs[i]? = some v) (hd : decode bytes pc = .ok (.iaload, 1)) (hp : pc + 1 = pc') (k : own_Goal p e below Φ T (mkF m pc' Ls (v :: rest))) : own_Goal p e below Φ T (mkF m pc Ls (.int j :: .ref a :: rest)) := by
  subst hp
  obtain ⟨locs, X, N, e1, -, hx, hZ, hown, hby, -⟩ := X
  obtain ⟨cl, A, r⟩ := F
  have q1 : i < vs.length := (List.getElem?_eq_some_iff.mp hv).1
  exact own_step (fun t a => X.iaload hx (cell := cl) (by rw [e1]; exact A.1) (State.isArrayOf_alike hZ.alike A.2.1) A.2.2 (own_in hj h0 (by rw [r]; simpa using q1)) (by rw [hj, r]; simpa using hv) (g := mkF m pc Ls _) rfl rfl (hb hby hd) t a) k
theorem own_laload (X : own_St p l e R s m args below meth c Z own bytes ml rt nm n0 T h cells slots) {a : Addr} {vs : List Value} (F : own_Vec Z h a .long vs) {j : Int32} {i : Nat} {v : Value} (hj : j.toNatClampNeg = i) (h0 : ¬ j < 0) (hv : vs[i]? = some v) (hd : decode bytes pc = .ok (.laload, 1)) (hp : pc + 1 = pc') (k : own_Goal p e below Φ T (mkF m pc' Ls (v :: rest))) : own_Goal p e below Φ T (mkF m pc Ls (.int j :: .ref a :: rest)) := by
  subst hp
  obtain ⟨locs, X, N, e1, -, hx, hZ, hown, hby, -⟩ := X
  obtain ⟨cl, A, r⟩ := F
  have q1 : i < vs.length := (List.getElem?_eq_some_iff.mp hv).1
  exact own_step (fun t a => X.laload hx (cell := cl) (by rw [e1]; exact A.1) (State.isArrayOf_alike hZ.alike A.2.1) A.2.2 (own_in hj h0 (by rw [r]; simpa using q1)) (by rw [hj, r]; simpa using hv) (g := mkF m pc Ls _) rfl rfl (hb hby hd) t a) k
theorem own_daload (X : own_St p l e R s m args below meth c Z own bytes ml rt nm n0 T h cells slots) {a : Addr} {vs : List Value} (F : own_Vec Z h a .double vs) {j : Int32} {i : Nat} {v : Value} (hj : j.toNatClampNeg = i) (h0 : ¬ j < 0) (hv : vs[i]? = some v) (hd : decode bytes pc = .ok (.daload, 1)) (hp : pc + 1 = pc') (k : own_Goal p e below Φ T (mkF m pc' Ls (v :: rest))) : own_Goal p e below Φ T (mkF m pc Ls (.int j :: .ref a :: rest)) := by
  subst hp
  obtain ⟨locs, X, N, e1, -, hx, hZ, hown, hby, -⟩ := X
  obtain ⟨cl, A, r⟩ := F
  have q1 : i < vs.length := (List.getElem?_eq_some_iff.mp hv).1
  exact own_step (fun t a => X.daload hx (cell := cl) (by rw [e1]; exact A.1) (State.isArrayOf_alike hZ.alike A.2.1) A.2.2 (own_in hj h0 (by rw [r]; simpa using q1)) (by rw [hj, r]; simpa using hv) (g := mkF m pc Ls _) rfl rfl (hb hby hd) t a) k
theorem own_iastore (X : own_St p l e R s m args below meth c Z own bytes ml rt nm n0 T h cells slots) {a : Addr} {vs : List Value} (F : own_Vec Z h a .int vs) (ha : n0 ≤ a) {j : Int32} {i : Nat} {x : Int32} (hj : j.toNatClampNeg = i) (h0 : ¬ j < 0) (hi : i < vs.length) (hd : decode bytes pc = .ok (.iastore, 1)) (hp : pc + 1 = pc')
    (k : ∀ T' h', own_St p l e R s m args below meth c Z own bytes ml rt nm n0 T' h' cells slots → Wr h h' a i (.int x) → own_Vec Z h' a .int (vs.set i (.int x)) → own_Goal p e below Φ T' (mkF m pc' Ls rest)) : own_Goal p e below Φ T (mkF m pc Ls (.int x :: .int j :: .ref a :: rest)) := by
  subst hp
  obtain ⟨locs, X, N, e1, n1, hx, hZ, hown, hby, r0⟩ := X
  have F0 := F
  obtain ⟨cl, A, r⟩ := F
  obtain ⟨T', h', X', e', W, st⟩ := stI X hx hZ e1 A (own_in hj h0 (by rw [r]; simpa using hi)) (g := mkF m pc Ls _) rfl rfl (hb hby hd)
  have N' := Fr.snoc X' N ha
  rw [hj] at W
  exact own_step st (k T' h' ⟨_, X', N', e', by rw [W.size]; exact n1, hx, hZ, hown, hby, r0⟩ W (F0.set W))
theorem own_dastore (X : own_St p l e R s m args below meth c Z own bytes ml rt nm n0 T h cells slots) {a : Addr} {vs : List Value} (F : own_Vec Z h a .double vs) (ha : n0 ≤ a) {j : Int32} {i : Nat} {x : UInt64} (hj : j.toNatClampNeg = i) (h0 : ¬ j < 0) (hi : i < vs.length) (hd : decode bytes pc = .ok (.dastore, 1)) (hp : pc + 1 = pc')
    (k : ∀ T' h', own_St p l e R s m args below meth c Z own bytes ml rt nm n0 T' h' cells slots → Wr h h' a i (.double x) → own_Vec Z h' a .double (vs.set i (.double x)) → own_Goal p e below Φ T' (mkF m pc' Ls rest)) : own_Goal p e below Φ T (mkF m pc Ls (.double x :: .int j :: .ref a :: rest)) := by
  subst hp
  obtain ⟨locs, X, N, e1, n1, hx, hZ, hown, hby, r0⟩ := X
  have F0 := F
  obtain ⟨cl, A, r⟩ := F
  obtain ⟨T', h', X', e', W, st⟩ := stD X hx hZ e1 A (own_in hj h0 (by rw [r]; simpa using hi)) (g := mkF m pc Ls _) rfl rfl (hb hby hd)
  have N' := Fr.snoc X' N ha
  rw [hj] at W
  exact own_step st (k T' h' ⟨_, X', N', e', by rw [W.size]; exact n1, hx, hZ, hown, hby, r0⟩ W (F0.set W))
theorem own_newarray (X : own_St p l e R s m args below meth c Z own bytes ml rt nm n0 T h cells slots) {aty : ArrayType} {ty : FieldType} (hty : newarray.typeOf aty = ty) (w : (Jvm.Cond.arrayClass ty).before a0 Z = true) {j : Int32} {n : Nat} {vs : List Value} (hj : j.toNatClampNeg = n) (h0 : ¬ j < 0) (hn : n ≤ 1000) (hvs : List.replicate n (defaultValue ty) = vs) {cells' slots' : Nat} (hc' : cells + 1 = cells') (hs' : slots + n = slots') (hc : cells' ≤ R.cells) (hs : slots' ≤ R.slots) (hd : decode bytes pc = .ok (.newarray aty, 2)) (hp : pc + 2 = pc')
    (k : ∀ a T' h', a = h.size → n0 ≤ a → own_St p l e R s m args below meth c Z own bytes ml rt nm n0 T' h' cells' slots' → Ext h h' → own_Vec Z h' a ty vs → own_Goal p e below Φ T' (mkF m pc' Ls (.ref a :: rest))) : own_Goal p e below Φ T (mkF m pc Ls (.int j :: rest)) := by
  subst hp hty hvs hc' hs'
  obtain ⟨locs, X, N, e1, n1, hx, hZ, hown, hby, r0⟩ := X
  obtain ⟨T', h', cA, X', e', E, A, st⟩ := newP X hx hZ w e1 (g := mkF m pc Ls _) rfl (hb hby hd) rfl h0 (cap := n) (by omega) (by omega) hc hs
  refine own_step st (k _ T' h' rfl n1 ⟨_, X', N, e', Nat.le_trans n1 E.1, hx, hZ, hown, hby, r0⟩ E ⟨_, A, ?_⟩)
  simp [newA, hj]
theorem own_new (X : own_St p l e R s m args below meth c Z own bytes ml rt nm n0 T h cells slots) {i : Nat} {C : String} {n : Nat} (w : (Jvm.Cond.classLink own i C).before a0 Z = true) (wi : (Jvm.Cond.instantiable C n).before a0 Z = true) (wz : (Jvm.Cond.initialized C).before a0 Z = true) {cells' slots' : Nat} (hc' : cells + 1 = cells') (hs' : slots + n = slots') (hc : cells' ≤ R.cells) (hs : slots' ≤ R.slots) (hd : decode bytes pc = .ok (.new i, 3)) (hp : pc + 3 = pc')
    (k : ∀ a T' h', a = h.size → n0 ≤ a → own_St p l e R s m args below meth c Z own bytes ml rt nm n0 T' h' cells' slots' → Ext h h' → Exa Z h' a C → (∀ {O nm d : String} {ty : FieldType}, Laid Z a0 C O nm d → parseFieldDescriptor d = some ty → Fld Z h' a O nm d (defaultValue ty)) → own_Goal p e below Φ T' (mkF m pc' Ls (.ref a :: rest))) : own_Goal p e below Φ T (mkF m pc Ls rest) := by
  subst hp hc' hs'
  obtain ⟨locs, X, N, e1, n1, hx, hZ, hown, hby, r0⟩ := X
  obtain ⟨T', h', X', e', E, A, D, -, st⟩ := newO X hx hZ hown w wi wz e1 (g := mkF m pc Ls _) rfl (hb hby hd) hc hs
  exact own_step st (k _ T' h' rfl n1 ⟨_, X', N, e', Nat.le_trans n1 E.1, hx, hZ, hown, hby, r0⟩ E A D)
theorem own_getF (X : own_St p l e R s m args below meth c Z own bytes ml rt nm n0 T h cells slots) {i : Nat} {O n d : String} (w : (Jvm.Cond.fieldLink own i O n d).before a0 Z = true) {a : Addr} {v : Value} (F : Fld Z h a O n d v) (hd : decode bytes pc = .ok (.getfield i, 3)) (hp : pc + 3 = pc')
    (k : ∀ T', own_St p l e R s m args below meth c Z own bytes ml rt nm n0 T' h cells slots → own_Goal p e below Φ T' (mkF m pc' Ls (v :: rest))) : own_Goal p e below Φ T (mkF m pc Ls (.ref a :: rest)) := by
  subst hp
  obtain ⟨locs, X, N, e1, n1, hx, hZ, hown, hby, r0⟩ := X
  obtain ⟨T', X', e', st⟩ := getF X hx hZ hown (host := "") (Or.inl w) Via.refl e1 F (g := mkF m pc Ls _) rfl rfl (hb hby hd)
  exact own_step st (k T' ⟨_, X', N, e', n1, hx, hZ, hown, hby, r0⟩)
theorem own_putF (X : own_St p l e R s m args below meth c Z own bytes ml rt nm n0 T h cells slots) {i : Nat} {O n d C : String} {kk : Nat} {ty : FieldType} (w : (Jvm.Cond.fieldLink own i O n d).before a0 Z = true) {a : Addr} {v old : Value} (F : Fld Z h a O n d old) (E : Exa Z h a C) (L : (Jvm.Cond.lays C O n d).before a0 Z = true ∨ ((Jvm.Cond.laysFinal C O n d).before a0 Z = true ∧ own = O ∧ nm = "<init>")) (wi : (Jvm.Cond.instantiable C kk).before a0 Z = true) (hty : parseFieldDescriptor d = some ty) (hn : narrow ty v = v) (hf : fits ty v = true) (ha : n0 ≤ a) (hd : decode bytes pc = .ok (.putfield i, 3)) (hp : pc + 3 = pc')
    (k : ∀ T' h', own_St p l e R s m args below meth c Z own bytes ml rt nm n0 T' h' cells slots → Wr h h' a (RoadKit.slotOf Z O n d) v → own_Goal p e below Φ T' (mkF m pc' Ls rest)) : own_Goal p e below Φ T (mkF m pc Ls (v :: .ref a :: rest)) := by
  subst hp
  obtain ⟨locs, X, N, e1, n1, hx, hZ, hown, hby, q1, q2, q3, q4⟩ := X
  obtain ⟨T', h', X', e', W, st⟩ := putF X hx hZ hown (host := "") (Or.inl w) Via.refl e1 F E (L.imp id fun z => ⟨z.1, z.2.1, q4.trans z.2.2⟩) wi hty hn hf (g := mkF m pc Ls _) rfl rfl (hb hby hd)
  exact own_step st (k T' h' ⟨_, X', Fr.snoc X' N ha, e', by rw [W.size]; exact n1, hx, hZ, hown, hby, q1, q2, q3, q4⟩ W)
theorem own_initO (X : own_St p l e R s m args below meth c Z own bytes ml rt nm n0 T h cells slots) {i : Nat} (w1 : (Jvm.Cond.methodLink own i Lib.objectInit).before a0 Z = true) (w2 : (Jvm.Cond.instanceMethod Lib.objectInit).before a0 Z = true) (w3 : (Jvm.Cond.code Lib.objectInit ⟨#[0xb1]⟩ 1 none).before a0 Z = true) {a : Addr} (hsz : Ls.size = ml) (hf : 1 ≤ R.frames) {W : Nat} (hW : (rest.map fun v => v.category).sum ≤ W) (hl : W + 12 ≤ R.locals) (hd : decode bytes pc = .ok (.invokespecial i, 3)) (hp : pc + 3 = pc')
    (k : ∀ T', own_St p l e R s m args below meth c Z own bytes ml rt nm n0 T' h cells slots → own_Goal p e below Φ T' (mkF m pc' Ls rest)) : own_Goal p e below Φ T (mkF m pc Ls (.ref a :: rest)) := by
  subst hp
  obtain ⟨locs, X, N, e1, n1, hx, hZ, hown, hby, hml, r0⟩ := X
  obtain ⟨T', X', e', st⟩ := initO X hx hZ hown w1 w2 w3 e1 (g := mkF m pc Ls (.ref a :: rest)) (rest := rest) rfl (hsz.trans hml.symm) rfl (hb hby hd) hf (W := W) (by show 2 * 0 + _ ≤ _; omega) hl
  exact own_step st (k T' ⟨_, X', N, e', n1, hx, hZ, hown, hby, hml, r0⟩)
/-- a callee's contract: called with as' over the heap h0 it returns, and Q says what it leaves -/
def own_Met (l : Launch) (Z : State) (y : MethodName) (bytes : ByteArray) (ml : Nat) (rt : Option FieldType) (ws : List Jvm.Cond) (rm : Room) (as' : Array Value) (h0 : Heap) (n0 : Nat) (Q : Option Value → Heap → Prop) : Prop :=
  MetFree l y (head1 (Jvm.Cond.code y bytes ml rt :: ws) rm) (fun a U => a = as' ∧ Z.Warmed39 U.vm ∧ U.heap = h0) (fun _ _ _ _ _ => True) (fun _ U o U' => ∃ v L, o = .returned v ∧ ((Q v U'.heap ∧ n0 ≤ U'.heap.size) ∧ Fr n0 L) ∧ FrameEnd U o U' L rm.cells rm.slots)
theorem own_meet {y : MethodName} {ws : List Jvm.Cond} {rm : Room} {as' : Array Value} {h0 : Heap} (hpn : plainFor y = true) (hle : n0 ≤ h0.size) {Ls0 : Array Slot} (hef : ∀ m, entryFrame m as' ml = mkF m 0 Ls0 [])
    (body : ∀ (p : Program) (e : Env) (s : State) (m : MethodId) (below : List Frame) (meth : Method) (c : Code) (T : State), own_St p l e rm s m as' below meth c Z y.cls bytes ml rt y.name n0 T h0 0 0 → own_Goal p e below (own_Fin below s rm n0 Q) T (mkF m 0 Ls0 [])) : own_Met l Z y bytes ml rt ws rm as' h0 n0 Q := by
  refine MetFree.of_bodySF hpn hisR ?_
  intro p e s m args below meth c s₁ Bd hml0 hP hK
  obtain ⟨rfl, hZ, hh⟩ := hP
  have e0 : s₁.heap = h0 := by rw [← hh, Bd.state]; rfl
  obtain ⟨s2, o, st, r1, r2, r3⟩ := body p e s m below meth c s₁ ⟨[], Stand.of_body Bd, Fr.nil n0, e0, hle, Bd.exec, hZ, findClass_of_methodNamed Bd.named, Bd.bytes, hml0, Bd.returns, Bd.notSynchronized, (name_of_methodNamed Bd.named Bd.method).1⟩
  exact ⟨s2, o, castTop (hef m) st, r1, r2, r3⟩
theorem own_callS (X : own_St p l e R s m args below meth c Z own bytes ml rt nm n0 T h cells slots) {y : MethodName} {yb : ByteArray} {yl : Nat} {yr : Option FieldType} {rm : Room} {as' : Array Value} {Q' : Option Value → Heap → Prop} (M : own_Met l Z y yb yl yr [] rm as' h n0 Q') {i : Nat} (w1 : (Jvm.Cond.methodLink own i y).before a0 Z = true) (w2 : (Jvm.Cond.static y).before a0 Z = true) (w3 : (Jvm.Cond.initialized y.cls).before a0 Z = true) (w4 : (Jvm.Cond.code y yb yl yr).before a0 Z = true) (hy : y.cls ≠ "java/lang/invoke/MethodHandle" ∧ y.cls ≠ "java/lang/invoke/VarHandle") (hsz : Ls.size = ml) (hf : rm.frames + 1 ≤ R.frames) {W : Nat} (hW : (rest.map fun v => v.category).sum ≤ W) (hl : W + (yl + 11) + rm.locals ≤ R.locals) {cells' slots' : Nat} (hc' : cells + rm.cells = cells') (hs' : slots + rm.slots = slots') (hc : cells' ≤ R.cells) (hs : slots' ≤ R.slots) {argsL stk : List Value} (hlen : ∀ sig, parseMethodDescriptor y.desc = some sig → argsL.length = sig.parameters.length) (hst : stk = argsL.reverse ++ rest) (has : argsL.toArray = as') (hd : decode bytes pc = .ok (.invokestatic i, 3)) (hp : pc + 3 = pc')
    (k : ∀ v T' h', own_St p l e R s m args below meth c Z own bytes ml rt nm n0 T' h' cells' slots' → Q' v h' → own_Goal p e below Φ T' (mkF m pc' Ls (v.toList ++ rest))) : own_Goal p e below Φ T (mkF m pc Ls stk) := by
  subst hp hst has hc' hs'
  obtain ⟨locs, X, N, e1, n1, hx, hZ, hown, hby, hml, r0⟩ := X
  obtain ⟨v, vm1, ⟨T', L', k', n'⟩, -, X', ⟨Lc, ⟨⟨hQ, hG⟩, NL⟩, l1, y1, z1⟩, st⟩ := Jvm.LawKit.callS X hx (y := y) hown (mvT hZ w1) (mvT hZ w2) (mvT hZ w3) (mvT hZ w4) hy (backOf (W := W) (Q := fun v hh L => (Q' v hh ∧ n0 ≤ hh.size) ∧ Fr n0 L) M hZ w4 w3 hf hl) (g := mkF m pc Ls (argsL.reverse ++ rest)) rfl (hsz.trans hml.symm) (argsL := argsL) (rest := rest) hlen rfl (by show 2 * 0 + _ ≤ _; omega) (hb hby hd) (fun _ _ => ⟨rfl, e1, hc, hs⟩)
  dsimp only [Pt.U, Pt.locs, Pt.cells, Pt.slots] at X' l1 y1 z1 st hQ
  subst l1 y1 z1
  exact own_step st (k v T' _ ⟨_, X', Fr.app N NL, rfl, hG, hx, hZ, hown, hby, hml, r0⟩ hQ)
theorem own_special (X : own_St p l e R s m args below meth c Z own bytes ml rt nm n0 T h cells slots) {y : MethodName} {yb : ByteArray} {yl : Nat} {yr : Option FieldType} {rm : Room} {as' : Array Value} {Q' : Option Value → Heap → Prop} (M : own_Met l Z y yb yl yr [] rm as' h n0 Q') (hy1 : y.name = "<init>") (hyr : yr = none) {i : Nat} (w1 : (Jvm.Cond.methodLink own i y).before a0 Z = true) (w2 : (Jvm.Cond.instanceMethod y).before a0 Z = true) (w3 : (Jvm.Cond.initialized y.cls).before a0 Z = true) (w4 : (Jvm.Cond.code y yb yl yr).before a0 Z = true) (hy : y.cls ≠ "java/lang/invoke/MethodHandle" ∧ y.cls ≠ "java/lang/invoke/VarHandle") (hsz : Ls.size = ml) (hf : rm.frames + 1 ≤ R.frames) {W : Nat} (hW : (rest.map fun v => v.category).sum ≤ W) (hl : W + (yl + 11) + rm.locals ≤ R.locals) {cells' slots' : Nat} (hc' : cells + rm.cells = cells') (hs' : slots + rm.slots = slots') (hc : cells' ≤ R.cells) (hs : slots' ≤ R.slots) {a : Addr} {argsL stk : List Value} (hlen : ∀ sig, parseMethodDescriptor y.desc = some sig → argsL.length = sig.parameters.length) (hst : stk = argsL.reverse ++ .ref a :: rest) (has : (.ref a :: argsL).toArray = as') (hd : decode bytes pc = .ok (.invokespecial i, 3)) (hp : pc + 3 = pc')
    (k : ∀ v T' h', own_St p l e R s m args below meth c Z own bytes ml rt nm n0 T' h' cells' slots' → Q' v h' → own_Goal p e below Φ T' (mkF m pc' Ls (v.toList ++ rest))) : own_Goal p e below Φ T (mkF m pc Ls stk) := by
  subst hp hst has hc' hs' hyr
  obtain ⟨locs, X, N, e1, n1, hx, hZ, hown, hby, hml, r0⟩ := X
  obtain ⟨v, vm1, ⟨T', L', k', n'⟩, -, X', ⟨Lc, ⟨⟨hQ, hG⟩, NL⟩, l1, y1, z1⟩, st⟩ := X.specialBack hx (y := y) hy1 hown (mvT hZ w1) (mvT hZ w2) (mvT hZ w4) hy (backOf (W := W) (Q := fun v hh L => (Q' v hh ∧ n0 ≤ hh.size) ∧ Fr n0 L) M hZ w4 w3 hf hl) (g := mkF m pc Ls (argsL.reverse ++ .ref a :: rest)) rfl (hsz.trans hml.symm) (Steps.refl _) (a := a) (argsL := argsL) (rest := rest) hlen rfl (by show 2 * 0 + _ ≤ _; omega) (hb hby hd) (fun _ _ => ⟨rfl, e1, hc, hs⟩)
  dsimp only [Pt.U, Pt.locs, Pt.cells, Pt.slots] at X' l1 y1 z1 st hQ
  subst l1 y1 z1
  exact own_step (fun t b => st.trans b) (k v T' _ ⟨_, X', Fr.app N NL, rfl, hG, hx, hZ, hown, hby, hml, r0⟩ hQ)
theorem own_virtual (X : own_St p l e R s m args below meth c Z own bytes ml rt nm n0 T h cells slots) {y : MethodName} {yb : ByteArray} {yl : Nat} {yr : Option FieldType} {rm : Room} {as' : Array Value} {Q' : Option Value → Heap → Prop} (M : own_Met l Z y yb yl yr [] rm as' h n0 Q') {C : String} {z : MethodName} {i : Nat} (hz : y = z) (w1 : (Jvm.Cond.methodLink own i z).before a0 Z = true) (wd : (Jvm.Cond.declares z).before a0 Z = true) (wsl : (Jvm.Cond.selects C z y).before a0 Z = true) (w2 : (Jvm.Cond.instanceMethod y).before a0 Z = true) (w3 : (Jvm.Cond.initialized y.cls).before a0 Z = true) (w4 : (Jvm.Cond.code y yb yl yr).before a0 Z = true) (hy : y.cls ≠ "java/lang/invoke/MethodHandle" ∧ y.cls ≠ "java/lang/invoke/VarHandle") (hsz : Ls.size = ml) (hf : rm.frames + 1 ≤ R.frames) {W : Nat} (hW : (rest.map fun v => v.category).sum ≤ W) (hl : W + (yl + 11) + rm.locals ≤ R.locals) {cells' slots' : Nat} (hc' : cells + rm.cells = cells') (hs' : slots + rm.slots = slots') (hc : cells' ≤ R.cells) (hs : slots' ≤ R.slots) {a : Addr} (E : Exa Z h a C) {argsL stk : List Value} (hlen : ∀ sig, parseMethodDescriptor y.desc = some sig → argsL.length = sig.parameters.length) (hst : stk = argsL.reverse ++ .ref a :: rest) (has : (.ref a :: argsL).toArray = as') (hd : decode bytes pc = .ok (.invokevirtual i, 3)) (hp : pc + 3 = pc')
    (k : ∀ v T' h', own_St p l e R s m args below meth c Z own bytes ml rt nm n0 T' h' cells' slots' → Q' v h' → own_Goal p e below Φ T' (mkF m pc' Ls (v.toList ++ rest))) : own_Goal p e below Φ T (mkF m pc Ls stk) := by
  subst hp hst has hc' hs' hz
  obtain ⟨locs, X, N, e1, n1, hx, hZ, hown, hby, hml, r0⟩ := X
  obtain ⟨cq, kq, qa, qb, qc⟩ := isOf (T := T) hZ e1 E
  obtain ⟨v, vm1, ⟨T', L', k', n'⟩, -, X', ⟨Lc, ⟨⟨hQ, hG⟩, NL⟩, l1, y1, z1⟩, st⟩ := X.virtualBack hx (y := y) (z := y) hown (mvT hZ w1) (mvT hZ wd) (notFace_of_selects (args := #[]) (mvT hZ wsl)) (mvT hZ wsl) (mvT hZ w2) hy (backOf (W := W) (Q := fun v hh L => (Q' v hh ∧ n0 ≤ hh.size) ∧ Fr n0 L) M hZ w4 w3 hf hl) qa qc (g := mkF m pc Ls (argsL.reverse ++ .ref a :: rest)) rfl (hsz.trans hml.symm) (Steps.refl _) (argsL := argsL) (rest := rest) hlen rfl (by show 2 * 0 + _ ≤ _; omega) (hb hby hd) (fun _ _ => ⟨rfl, e1, hc, hs⟩)
  dsimp only [Pt.U, Pt.locs, Pt.cells, Pt.slots] at X' l1 y1 z1 st hQ
  subst l1 y1 z1
  exact own_step (fun t b => st.trans b) (k v T' _ ⟨_, X', Fr.app N NL, rfl, hG, hx, hZ, hown, hby, hml, r0⟩ hQ)
end OwnWalk
section OwnNum
open Jvm.FP Jvm.FP.Core
/-- the int x is the whole number i, at most B in size -/
def own_I (B : Nat) (i : Int) (x : Int32) : Prop := x.toInt = i ∧ i.natAbs ≤ B
def own_L (B : Nat) (i : Int) (x : Int64) : Prop := x.toInt = i ∧ i.natAbs ≤ B
section
variable {A B C M : Nat} {i j : Int}
theorem own_I.start (x : Int32) : own_I 2147483648 x.toInt x := by
  have := x.toInt_lt; have := x.le_toInt
  exact ⟨rfl, by omega⟩
theorem own_L.start (x : Int64) : own_L 9223372036854775808 x.toInt x := by
  have := x.toInt_lt; have := x.le_toInt
  exact ⟨rfl, by omega⟩
theorem own_I.lit {x : Int32} (h : x.toInt = i) (hB : i.natAbs ≤ B) : own_I B i x := ⟨h, hB⟩
theorem own_I.self {x : Int32} (a : own_I A i x) : own_I A x.toInt x := ⟨rfl, by rw [a.1]; exact a.2⟩
theorem own_L.self {x : Int64} (a : own_L A i x) : own_L A x.toInt x := ⟨rfl, by rw [a.1]; exact a.2⟩
theorem own_L.lit {x : Int64} (h : x.toInt = i) (hB : i.natAbs ≤ B) : own_L B i x := ⟨h, hB⟩
theorem own_abs_mul {i j : Int} (h1 : i.natAbs ≤ A) (h2 : j.natAbs ≤ B) : (i * j).natAbs ≤ A * B := by
  rw [Int.natAbs_mul]; exact Nat.mul_le_mul h1 h2
theorem own_I.add {x y v : Int32} (a : own_I A i x) (b : own_I B j y) (hv : x + y = v) (hC : A + B ≤ C) (h : C < 2147483648) : own_I C (i + j) v := by
  obtain ⟨rfl, h1⟩ := a; obtain ⟨rfl, h2⟩ := b; subst hv
  refine ⟨?_, by omega⟩
  rw [Int32.toInt_add]; exact Int.bmod_eq_of_le (by omega) (by omega)
theorem own_I.sub {x y v : Int32} (a : own_I A i x) (b : own_I B j y) (hv : x - y = v) (hC : A + B ≤ C) (h : C < 2147483648) : own_I C (i - j) v := by
  obtain ⟨rfl, h1⟩ := a; obtain ⟨rfl, h2⟩ := b; subst hv
  refine ⟨?_, by omega⟩
  rw [Int32.toInt_sub]; exact Int.bmod_eq_of_le (by omega) (by omega)
theorem own_I.mul {x y v : Int32} (a : own_I A i x) (b : own_I B j y) (hv : x * y = v) (hC : A * B ≤ C) (h : C < 2147483648) : own_I C (i * j) v := by
  obtain ⟨rfl, h1⟩ := a; obtain ⟨rfl, h2⟩ := b; subst hv
  have h3 := Nat.le_trans (own_abs_mul h1 h2) hC
  refine ⟨?_, h3⟩
  rw [Int32.toInt_mul]; exact Int.bmod_eq_of_le (by omega) (by omega)
theorem own_I.neg {x v : Int32} (a : own_I A i x) (hv : -x = v) (h : A < 2147483648) : own_I A (-i) v := by
  obtain ⟨rfl, h1⟩ := a; subst hv
  refine ⟨?_, by omega⟩
  rw [Int32.toInt_neg]; exact Int.bmod_eq_of_le (by omega) (by omega)
theorem own_and_nn {x m v : Int32} (hv : x &&& m = v) (hm : m.toInt = M) : 0 ≤ v.toInt ∧ v.toInt ≤ M := by
  subst hv; have := c_and x m (by omega); omega
theorem own_I.and {x m v : Int32} (hv : x &&& m = v) (hm : m.toInt = M) : own_I M v.toInt v := by
  have := own_and_nn hv hm
  exact ⟨rfl, by omega⟩
theorem own_land_nn {x m v : Int64} (hv : x &&& m = v) (hm : m.toInt = M) : 0 ≤ v.toInt ∧ v.toInt ≤ M := by
  subst hv
  have h1 := (c_andSL x m).2.2 (by omega)
  refine ⟨h1, ?_⟩
  have la := x.toBitVec.isLt; have lm := m.toBitVec.isLt
  have q : (x &&& m).toBitVec.toNat = x.toBitVec.toNat &&& m.toBitVec.toNat := by show (x.toBitVec &&& m.toBitVec).toNat = _; rw [BitVec.toNat_and]
  have q2 : x.toBitVec.toNat &&& m.toBitVec.toNat ≤ m.toBitVec.toNat := Nat.and_le_right
  change 0 ≤ (x &&& m).toBitVec.toInt at h1
  show (x &&& m).toBitVec.toInt ≤ _
  change m.toBitVec.toInt = _ at hm
  rw [BitVec.toInt_eq_toNat_cond] at h1 hm ⊢
  rw [q] at h1 ⊢
  split at hm <;> split <;> omega
theorem own_L.and {x m v : Int64} (hv : x &&& m = v) (hm : m.toInt = M) : own_L M v.toInt v := by
  have := own_land_nn hv hm
  exact ⟨rfl, by omega⟩
theorem own_lrem_eq {x y v : Int64} (hv : x - (x / y) * y = v) (hx : 0 ≤ x.toInt) (hy : 0 < y.toInt) : v.toInt = x.toInt % y.toInt := by
  subst hv; exact (c_lrem x y _ rfl).1 hx
theorem own_I.shr {x q v : Int32} {k : Nat} (hv : x >>> (q &&& 31) = v) (hk : q.toBitVec.toNat % 32 = k) (hM : 2147483648 ≤ M * 2 ^ k) : own_I M v.toInt v := by
  subst hv
  have h1 := c_ishr x q k hk
  have h2 := x.toInt_lt; have h3 := x.le_toInt
  refine ⟨rfl, ?_⟩
  rw [h1]
  have p : 0 < 2 ^ k := Nat.two_pow_pos k
  generalize 2 ^ k = P at *
  have hP : (0 : Int) < (P : Int) := by omega
  have e1 : x.toInt / (P : Int) ≤ M := by
    refine Int.ediv_le_of_le_mul hP ?_
    have : ((M * P : Nat) : Int) = (M : Int) * P := Int.natCast_mul ..
    omega
  have e2 : -(M : Int) ≤ x.toInt / (P : Int) := by
    refine (Int.le_ediv_iff_mul_le hP).mpr ?_
    have : ((M * P : Nat) : Int) = (M : Int) * P := Int.natCast_mul ..
    rw [Int.neg_mul]; omega
  omega
theorem own_L.ofI {x : Int32} {v : Int64} (a : own_I A i x) (hv : x.toInt64 = v) : own_L A i v := by
  obtain ⟨rfl, h1⟩ := a; subst hv
  exact ⟨Int32.toInt_toInt64 x, h1⟩
theorem own_L.add {x y v : Int64} (a : own_L A i x) (b : own_L B j y) (hv : x + y = v) (hC : A + B ≤ C) (h : C < 9223372036854775808) : own_L C (i + j) v := by
  obtain ⟨rfl, h1⟩ := a; obtain ⟨rfl, h2⟩ := b; subst hv
  refine ⟨?_, by omega⟩
  rw [Int64.toInt_add]; exact Int.bmod_eq_of_le (by omega) (by omega)
theorem own_L.sub {x y v : Int64} (a : own_L A i x) (b : own_L B j y) (hv : x - y = v) (hC : A + B ≤ C) (h : C < 9223372036854775808) : own_L C (i - j) v := by
  obtain ⟨rfl, h1⟩ := a; obtain ⟨rfl, h2⟩ := b; subst hv
  refine ⟨?_, by omega⟩
  rw [Int64.toInt_sub]; exact Int.bmod_eq_of_le (by omega) (by omega)
theorem own_L.mul {x y v : Int64} (a : own_L A i x) (b : own_L B j y) (hv : x * y = v) (hC : A * B ≤ C) (h : C < 9223372036854775808) : own_L C (i * j) v := by
  obtain ⟨rfl, h1⟩ := a; obtain ⟨rfl, h2⟩ := b; subst hv
  have h3 := Nat.le_trans (own_abs_mul h1 h2) hC
  refine ⟨?_, h3⟩
  rw [Int64.toInt_mul]; exact Int.bmod_eq_of_le (by omega) (by omega)
theorem own_L.neg {x v : Int64} (a : own_L A i x) (hv : -x = v) (h : A < 9223372036854775808) : own_L A (-i) v := by
  obtain ⟨rfl, h1⟩ := a; subst hv
  refine ⟨?_, by omega⟩
  rw [Int64.toInt_neg]; exact Int.bmod_eq_of_le (by omega) (by omega)
end
/-- a datum times 2^k -/
def own_sh (k : Int) : Datum → Datum
  | .fin s c q => .fin s c (q + k)
  | d => d
theorem own_sh_sum (k : Int) (x y : Datum) : exactSum (own_sh k x) (own_sh k y) = own_sh k (exactSum x y) := by
  cases x with
  | nan => rfl
  | inf s => cases y with
    | nan => rfl
    | inf t => by_cases h : s = t <;> simp [own_sh, exactSum, h]
    | fin t d r => rfl
  | fin s c q => cases y with
    | nan => rfl
    | inf t => rfl
    | fin t d r =>
      have e1 : min (q + k) (r + k) = min q r + k := by omega
      have e2 : sumUnits s c (q + k) t d (r + k) (min q r + k) = sumUnits s c q t d r (min q r) := by
        unfold sumUnits inUnits
        rw [show q + k - (min q r + k) = q - min q r by omega, show r + k - (min q r + k) = r - min q r by omega]
      simp only [own_sh, exactSum, e1, e2]
theorem own_sh_prod (k r : Int) (x y : Datum) : exactProduct (own_sh k x) (own_sh r y) = own_sh (k + r) (exactProduct x y) := by
  cases x with
  | nan => rfl
  | inf s => cases y with
    | nan => rfl
    | inf t => rfl
    | fin t d u => simp only [own_sh, exactProduct]; split <;> rfl
  | fin s c q => cases y with
    | nan => rfl
    | inf t => simp only [own_sh, exactProduct]; split <;> rfl
    | fin t d u =>
      simp only [own_sh, exactProduct]
      rw [show q + k + (u + r) = q + u + (k + r) by omega]
theorem own_sh_neg (k : Int) (x : Datum) : negate (own_sh k x) = own_sh k (negate x) := by cases x <;> rfl
theorem own_sh_order (k : Int) (x y : Datum) : order (own_sh k x) (own_sh k y) = order x y := by
  cases x <;> cases y <;> try rfl
  rename_i s c q t d r
  simp only [own_sh, order]
  rw [show min (q + k) (r + k) = min q r + k by omega]
  unfold inUnits
  rw [show q + k - (min q r + k) = q - min q r by omega, show r + k - (min q r + k) = r - min q r by omega]
theorem own_sh_sh (k r : Int) (x : Datum) : own_sh r (own_sh k x) = own_sh (k + r) x := by
  cases x <;> simp only [own_sh]
  rw [Int.add_assoc]
theorem own_sh_zero (x : Datum) : own_sh 0 x = x := by cases x <;> simp [own_sh]
theorem own_signed_nat {i : Int} {s : Bool} {n : Nat} (h : n = i.natAbs) (hs : i ≠ 0 → s = decide (i < 0)) : signed s n = i := by
  by_cases h0 : i = 0
  · subst h0; subst h; exact signed_zero s
  · rw [hs h0, h]; unfold signed
    by_cases q : i < 0 <;> simp [q] <;> omega
/-- what is i * 2^-k in size rounds to itself, if i has 53 digits at the most -/
theorem own_round_core {k : Nat} {i : Int} {s : Bool} {c : Nat} {q : Int} (hk : k ≤ 1074) (hi : i.natAbs < 9007199254740992) (hs : i ≠ 0 → s = decide (i < 0)) : Whole i (own_sh k (roundRatio b64 s i.natAbs 1 (-(k : Int)))) := by
  obtain ⟨c', q', e1, e2⟩ := round_exact good_b64 s (c := i.natAbs) (q := -(k : Int)) (show i.natAbs < 2 ^ 53 by omega) (show (-1074 : Int) ≤ _ by omega) (show _ ≤ (971 : Int) by omega)
  have e3 : roundRatio b64 s i.natAbs 1 (-(k : Int)) = .fin s c' q' := e1
  have hf : Core.fits b64 (.fin s c' q') := by rw [← e1]; exact round_fits good_b64 _
  have hq : (-1074 : Int) ≤ q' := hf.2.1
  rw [e3]
  show signed s (c' * 2 ^ (q' + k).toNat) = i * ((2 ^ (-(q' + k)).toNat : Nat) : Int)
  have e4 : c' * 2 ^ (q' + 1074).toNat = i.natAbs * 2 ^ (1074 - k) := by
    have := e2
    unfold inUnits at this
    rw [show (q' - b64.qmin).toNat = (q' + 1074).toNat by rw [show b64.qmin = -1074 from rfl]; omega, show (-(k : Int) - b64.qmin).toNat = 1074 - k by rw [show b64.qmin = -1074 from rfl]; omega] at this
    exact this
  have e5 : c' * 2 ^ (q' + k).toNat = i.natAbs * 2 ^ (-(q' + k)).toNat := by
    refine Nat.eq_of_mul_eq_mul_right (Nat.two_pow_pos (1074 - k)) ?_
    have x1 : c' * 2 ^ (q' + k).toNat * 2 ^ (1074 - k) = c' * 2 ^ (q' + 1074).toNat * 2 ^ (-(q' + k)).toNat := by
      rw [Nat.mul_assoc, Nat.mul_assoc, ← Nat.pow_add, ← Nat.pow_add]; congr 2; omega
    rw [x1, e4, Nat.mul_right_comm]
  rw [e5, signed_mul, own_signed_nat rfl hs]
theorem own_round {k : Nat} {i : Int} {d : Datum} (hk : k ≤ 1074) (hi : i.natAbs < 9007199254740992) (h : Whole i (own_sh k d)) : Whole i (own_sh k (round b64 d)) := by
  cases d with
  | nan => exact h.elim
  | inf => exact h.elim
  | fin s c q =>
    have h1 : c * 2 ^ (q + k).toNat = i.natAbs * 2 ^ (-(q + k)).toNat := whole_natAbs h
    have e : round b64 (.fin s c q) = roundRatio b64 s i.natAbs 1 (-(k : Int)) := by
      refine roundRatio_congr (by decide) (by decide) ?_
      rw [show (q - -(k : Int)).toNat = (q + k).toNat by omega, show (-(k : Int) - q).toNat = (-(q + k)).toNat by omega]
      simpa using h1
    rw [e]
    exact own_round_core (c := c) (q := q) hk hi (fun h0 => whole_sign h h0)
/-- the double x is i * 2^-k, i at most B in size (both zeros are 0) -/
def own_D (k B : Nat) (i : Int) (x : UInt64) : Prop := Whole i (own_sh k (val64 x)) ∧ i.natAbs ≤ B
section
variable {k r t A B C : Nat} {i j : Int} {x y v : UInt64}
theorem own_D.fin (a : own_D k A i x) : ∃ s c q, val64 x = .fin s c q := by
  cases e : val64 x with
  | nan => have := a.1; rw [e] at this; exact this.elim
  | inf => have := a.1; rw [e] at this; exact this.elim
  | fin s c q => exact ⟨s, c, q, rfl⟩
theorem own_D.nn (a : own_D k A i x) : Jvm.Free.Fl.NoNaN64 x := by
  obtain ⟨s, c, q, e⟩ := a.fin
  exact Jvm.Free.Fl.val64_no.mpr (by rw [e]; exact Datum.noConfusion)
theorem own_D.isFin (a : own_D k A i x) : Jvm.Free.Fl.Fin64 x := by
  obtain ⟨s, c, q, e⟩ := a.fin
  exact Jvm.Free.Fl.fin64_core.mpr ⟨s, c, q, e⟩
theorem own_D.lit {s : Bool} {c : Nat} {q : Int} (h : val64 x = .fin s c q) (hw : signed s (c * 2 ^ (q + k).toNat) = i * ((2 ^ (-(q + k)).toNat : Nat) : Int)) (hB : i.natAbs ≤ B) : own_D k B i x := by
  refine ⟨?_, hB⟩
  rw [h]; exact hw
theorem own_D.mono (a : own_D k A i x) (h : A ≤ B) : own_D k B i x := ⟨a.1, Nat.le_trans a.2 h⟩
theorem own_D.zero {s : Bool} (h : val64 x = .fin s 0 b64.qmin) (k : Nat) : own_D k 0 0 x := by
  refine ⟨?_, by decide⟩
  rw [h]
  show signed s (0 * _) = 0 * _
  rw [Nat.zero_mul, signed_zero, Int.zero_mul]
theorem own_D.ofInt (h : DInt i x) (hB : i.natAbs ≤ B) : own_D 0 B i x := ⟨by rw [show ((0 : Nat) : Int) = 0 from rfl, own_sh_zero]; exact h, hB⟩
theorem own_D.i2d {z : Int32} (a : own_I A i z) (hv : FP.i2d z = v) : own_D 0 A i v := by
  subst hv; obtain ⟨rfl, h⟩ := a
  exact own_D.ofInt (i2d_int z) h
theorem own_D.l2d {z : Int64} (a : own_L A i z) (hv : FP.l2d z = v) (h : A ≤ 9007199254740992) : own_D 0 A i v := by
  subst hv; obtain ⟨rfl, h1⟩ := a
  exact own_D.ofInt (l2d_int (show _ ≤ 2 ^ 53 by omega)) h1
theorem own_D.add (a : own_D k A i x) (b : own_D k B j y) (hv : FP.dadd x y = v) (hC : A + B ≤ C) (h : C < 9007199254740992) (hk : k ≤ 1074) : own_D k C (i + j) v := by
  subst hv
  have h2 : (i + j).natAbs ≤ C := by have := a.2; have := b.2; omega
  refine ⟨?_, h2⟩
  show Whole _ (own_sh k (val64 (Core.dadd x y)))
  rw [val64_dadd]
  refine own_round hk (by omega) ?_
  rw [← own_sh_sum]; exact whole_sum a.1 b.1
theorem own_D.sub (a : own_D k A i x) (b : own_D k B j y) (hv : FP.dsub x y = v) (hC : A + B ≤ C) (h : C < 9007199254740992) (hk : k ≤ 1074) : own_D k C (i - j) v := by
  subst hv
  have h2 : (i - j).natAbs ≤ C := by have := a.2; have := b.2; omega
  refine ⟨?_, h2⟩
  show Whole _ (own_sh k (val64 (Core.dsub x y)))
  rw [val64_dsub]
  refine own_round hk (by omega) ?_
  rw [← own_sh_sum, ← own_sh_neg]; exact whole_sum a.1 (whole_negate b.1)
theorem own_D.mul (a : own_D k A i x) (b : own_D r B j y) (hv : FP.dmul x y = v) (hC : A * B ≤ C) (h : C < 9007199254740992) (ht : k + r = t) (hk : t ≤ 1074) : own_D t C (i * j) v := by
  subst hv ht
  have h2 : (i * j).natAbs ≤ C := Nat.le_trans (own_abs_mul a.2 b.2) hC
  refine ⟨?_, h2⟩
  show Whole _ (own_sh ((k + r : Nat) : Int) (val64 (Core.dmul x y)))
  rw [val64_dmul]
  refine own_round hk (by omega) ?_
  rw [Int.natCast_add, ← own_sh_prod]; exact whole_product a.1 b.1
theorem own_D.neg (a : own_D k A i x) (hv : FP.dneg x = v) : own_D k A (-i) v := by
  subst hv
  refine ⟨?_, by have := a.2; omega⟩
  rw [FP.val64_dneg, ← own_sh_neg]; exact whole_negate a.1
theorem own_whole_up {i : Int} {d : Datum} (r : Nat) (h : Whole i d) : Whole (i * ((2 ^ r : Nat) : Int)) (own_sh r d) := by
  cases d with
  | nan => exact h.elim
  | inf => exact h.elim
  | fin s c q =>
    have h1 : signed s (c * 2 ^ q.toNat) = i * ((2 ^ (-q).toNat : Nat) : Int) := h
    show signed s (c * 2 ^ (q + r).toNat) = i * ((2 ^ r : Nat) : Int) * ((2 ^ (-(q + r)).toNat : Nat) : Int)
    have p2 : ((2 ^ (-q).toNat : Nat) : Int) ≠ 0 := by
      have := Nat.two_pow_pos (-q).toNat; omega
    refine Int.eq_of_mul_eq_mul_right p2 ?_
    have e : (q + r).toNat + (-q).toNat = q.toNat + r + (-(q + r)).toNat := by omega
    calc signed s (c * 2 ^ (q + r).toNat) * ((2 ^ (-q).toNat : Nat) : Int)
        = signed s (c * 2 ^ ((q + r).toNat + (-q).toNat)) := by rw [← signed_mul, Nat.mul_assoc, ← Nat.pow_add]
      _ = signed s (c * 2 ^ q.toNat * 2 ^ r * 2 ^ (-(q + r)).toNat) := by rw [e, Nat.pow_add, Nat.pow_add]; congr 1; ac_rfl
      _ = i * ((2 ^ (-q).toNat : Nat) : Int) * ((2 ^ r : Nat) : Int) * ((2 ^ (-(q + r)).toNat : Nat) : Int) := by rw [signed_mul, signed_mul, h1]
      _ = _ := by ac_rfl
theorem own_D.up (a : own_D k A i x) {P : Nat} (hP : 2 ^ r = P) (ht : k + r = t) (hC : A * P ≤ C) : own_D t C (i * (P : Int)) x := by
  subst hP ht
  refine ⟨?_, Nat.le_trans (own_abs_mul a.2 (Nat.le_of_eq (Int.natAbs_natCast _))) hC⟩
  rw [Int.natCast_add, ← own_sh_sh]; exact own_whole_up r a.1
theorem own_D.dcmp (a : own_D k A i x) (b : own_D k B j y) : FP.dcmp x y = some (compare i j) := by
  show order (val64 x) (val64 y) = _
  rw [← own_sh_order k]; exact order_whole a.1 b.1
end
def own_c3 (i j : Int) : Int32 := if i < j then -1 else if i = j then 0 else 1
theorem own_c3_cmp (i j : Int) (o : CmpOp) : cmpValue (some (compare i j)) o = own_c3 i j := by
  unfold own_c3
  by_cases h : i < j
  · rw [if_pos h, show compare i j = .lt from Int.compare_eq_lt.mpr h]; rfl
  · rw [if_neg h]
    by_cases h2 : i = j
    · rw [if_pos h2, show compare i j = .eq from Int.compare_eq_eq.mpr h2]; rfl
    · rw [if_neg h2, show compare i j = .gt from Int.compare_eq_gt.mpr (by omega)]; rfl
theorem own_D.cmp {k A B : Nat} {i j : Int} {x y : UInt64} (a : own_D k A i x) (b : own_D k B j y) {o : CmpOp} : cmpValue (FP.dcmp x y) o = own_c3 i j := by
  rw [a.dcmp b]; exact own_c3_cmp i j o
theorem own_c3_eq {i j : Int} (h : i = j) : ifCond.holds .eq (own_c3 i j) = true ∧ ifCond.holds .ne (own_c3 i j) = false := by
  subst h; unfold own_c3; simp [ifCond.holds]
theorem own_c3_ne {i j : Int} (h : ¬ i = j) : ifCond.holds .eq (own_c3 i j) = false ∧ ifCond.holds .ne (own_c3 i j) = true := by
  unfold own_c3; by_cases q : i < j <;> simp [q, h, ifCond.holds]
theorem own_c3_lt {i j : Int} (h : i < j) : ifCond.holds .lt (own_c3 i j) = true ∧ ifCond.holds .ge (own_c3 i j) = false := by
  unfold own_c3; simp [h]; decide
theorem own_c3_nlt {i j : Int} (h : ¬ i < j) : ifCond.holds .lt (own_c3 i j) = false ∧ ifCond.holds .ge (own_c3 i j) = true := by
  unfold own_c3; rw [if_neg h]; by_cases q : i = j
  · rw [if_pos q]; decide
  · rw [if_neg q]; decide
theorem own_c3_gt {i j : Int} (h : j < i) : ifCond.holds .gt (own_c3 i j) = true ∧ ifCond.holds .le (own_c3 i j) = false := by
  unfold own_c3; rw [if_neg (by omega), if_neg (by omega)]; decide
theorem own_c3_ngt {i j : Int} (h : ¬ j < i) : ifCond.holds .gt (own_c3 i j) = false ∧ ifCond.holds .le (own_c3 i j) = true := by
  unfold own_c3; by_cases q : i < j
  · rw [if_pos q]; decide
  · rw [if_neg q, if_pos (by omega)]; decide
/-- the branches on ints, by what is known of them -/
theorem own_i_eq {x y : Int32} (h : x = y) : if_icmp.holds .eq x y = true ∧ if_icmp.holds .ne x y = false := teq h
theorem own_i_ne {x y : Int32} (h : ¬ x = y) : if_icmp.holds .eq x y = false ∧ if_icmp.holds .ne x y = true := feq h
theorem own_i_lt {x y : Int32} (h : x < y) : if_icmp.holds .lt x y = true ∧ if_icmp.holds .ge x y = false := ⟨(tlt h).1, (tlt h).2.1⟩
theorem own_i_nlt {x y : Int32} (h : ¬ x < y) : if_icmp.holds .lt x y = false ∧ if_icmp.holds .ge x y = true := ⟨(flt h).1, (flt h).2.1⟩
theorem own_i_gt {x y : Int32} (h : y < x) : if_icmp.holds .gt x y = true ∧ if_icmp.holds .le x y = false := ⟨(tlt h).2.2.1, (tlt h).2.2.2⟩
theorem own_i_ngt {x y : Int32} (h : ¬ y < x) : if_icmp.holds .gt x y = false ∧ if_icmp.holds .le x y = true := ⟨(flt h).2.2.1, (flt h).2.2.2⟩
theorem own_z_eq {x : Int32} (h : x = 0) : ifCond.holds .eq x = true ∧ ifCond.holds .ne x = false := by rw [if0, if0]; exact teq h
theorem own_z_ne {x : Int32} (h : ¬ x = 0) : ifCond.holds .eq x = false ∧ ifCond.holds .ne x = true := by rw [if0, if0]; exact feq h
theorem own_z_lt {x : Int32} (h : x < 0) : ifCond.holds .lt x = true ∧ ifCond.holds .ge x = false := by rw [if0, if0]; exact own_i_lt h
theorem own_z_nlt {x : Int32} (h : ¬ x < 0) : ifCond.holds .lt x = false ∧ ifCond.holds .ge x = true := by rw [if0, if0]; exact own_i_nlt h
theorem own_z_gt {x : Int32} (h : 0 < x) : ifCond.holds .gt x = true ∧ ifCond.holds .le x = false := by rw [if0, if0]; exact own_i_gt h
theorem own_z_ngt {x : Int32} (h : ¬ 0 < x) : ifCond.holds .gt x = false ∧ ifCond.holds .le x = true := by rw [if0, if0]; exact own_i_ngt h
theorem own_cases2 {v : Int32} (h : 0 ≤ v.toInt ∧ v.toInt ≤ ((1 : Nat) : Int)) : v = (0 : Int32) ∨ v = (1 : Int32) := by
  have : v.toInt = 0 ∨ v.toInt = 1 := by omega
  rcases this with q | q
  · exact Or.inl (Int32.toInt_inj.mp q)
  · exact Or.inr (Int32.toInt_inj.mp q)
theorem own_cases4 {v : Int32} (h : 0 ≤ v.toInt ∧ v.toInt ≤ ((3 : Nat) : Int)) : v = (0 : Int32) ∨ v = (1 : Int32) ∨ v = (2 : Int32) ∨ v = (3 : Int32) := by
  have : v.toInt = 0 ∨ v.toInt = 1 ∨ v.toInt = 2 ∨ v.toInt = 3 := by omega
  rcases this with q | q | q | q
  · exact Or.inl (Int32.toInt_inj.mp q)
  · exact Or.inr (Or.inl (Int32.toInt_inj.mp q))
  · exact Or.inr (Or.inr (Or.inl (Int32.toInt_inj.mp q)))
  · exact Or.inr (Or.inr (Or.inr (Int32.toInt_inj.mp q)))
theorem own_cases16 {v : Int32} (h : 0 ≤ v.toInt ∧ v.toInt ≤ ((15 : Nat) : Int)) : v = (0 : Int32) ∨ v = (1 : Int32) ∨ v = (2 : Int32) ∨ v = (3 : Int32) ∨ v = (4 : Int32) ∨ v = (5 : Int32) ∨ v = (6 : Int32) ∨ v = (7 : Int32) ∨ v = (8 : Int32) ∨ v = (9 : Int32) ∨ v = (10 : Int32) ∨ v = (11 : Int32) ∨ v = (12 : Int32) ∨ v = (13 : Int32) ∨ v = (14 : Int32) ∨ v = (15 : Int32) := by
  have : v.toInt = 0 ∨ v.toInt = 1 ∨ v.toInt = 2 ∨ v.toInt = 3 ∨ v.toInt = 4 ∨ v.toInt = 5 ∨ v.toInt = 6 ∨ v.toInt = 7 ∨ v.toInt = 8 ∨ v.toInt = 9 ∨ v.toInt = 10 ∨ v.toInt = 11 ∨ v.toInt = 12 ∨ v.toInt = 13 ∨ v.toInt = 14 ∨ v.toInt = 15 := by omega
  rcases this with q | q | q | q | q | q | q | q | q | q | q | q | q | q | q | q
  · exact Or.inl (Int32.toInt_inj.mp q)
  · exact Or.inr (Or.inl (Int32.toInt_inj.mp q))
  · exact Or.inr (Or.inr (Or.inl (Int32.toInt_inj.mp q)))
  · exact Or.inr (Or.inr (Or.inr (Or.inl (Int32.toInt_inj.mp q))))
  · exact Or.inr (Or.inr (Or.inr (Or.inr (Or.inl (Int32.toInt_inj.mp q)))))
  · exact Or.inr (Or.inr (Or.inr (Or.inr (Or.inr (Or.inl (Int32.toInt_inj.mp q))))))
  · exact Or.inr (Or.inr (Or.inr (Or.inr (Or.inr (Or.inr (Or.inl (Int32.toInt_inj.mp q)))))))
  · exact Or.inr (Or.inr (Or.inr (Or.inr (Or.inr (Or.inr (Or.inr (Or.inl (Int32.toInt_inj.mp q))))))))
  · exact Or.inr (Or.inr (Or.inr (Or.inr (Or.inr (Or.inr (Or.inr (Or.inr (Or.inl (Int32.toInt_inj.mp q)))))))))
  · exact Or.inr (Or.inr (Or.inr (Or.inr (Or.inr (Or.inr (Or.inr (Or.inr (Or.inr (Or.inl (Int32.toInt_inj.mp q))))))))))
  · exact Or.inr (Or.inr (Or.inr (Or.inr (Or.inr (Or.inr (Or.inr (Or.inr (Or.inr (Or.inr (Or.inl (Int32.toInt_inj.mp q)))))))))))
  · exact Or.inr (Or.inr (Or.inr (Or.inr (Or.inr (Or.inr (Or.inr (Or.inr (Or.inr (Or.inr (Or.inr (Or.inl (Int32.toInt_inj.mp q))))))))))))
  · exact Or.inr (Or.inr (Or.inr (Or.inr (Or.inr (Or.inr (Or.inr (Or.inr (Or.inr (Or.inr (Or.inr (Or.inr (Or.inl (Int32.toInt_inj.mp q)))))))))))))
  · exact Or.inr (Or.inr (Or.inr (Or.inr (Or.inr (Or.inr (Or.inr (Or.inr (Or.inr (Or.inr (Or.inr (Or.inr (Or.inr (Or.inl (Int32.toInt_inj.mp q))))))))))))))
  · exact Or.inr (Or.inr (Or.inr (Or.inr (Or.inr (Or.inr (Or.inr (Or.inr (Or.inr (Or.inr (Or.inr (Or.inr (Or.inr (Or.inr (Or.inl (Int32.toInt_inj.mp q)))))))))))))))
  · exact Or.inr (Or.inr (Or.inr (Or.inr (Or.inr (Or.inr (Or.inr (Or.inr (Or.inr (Or.inr (Or.inr (Or.inr (Or.inr (Or.inr (Or.inr (Int32.toInt_inj.mp q)))))))))))))))
/-- lcmp as a comparison of whole numbers -/
theorem own_lcmp_c3 (x y : Int64) : XT.cmpL x y = own_c3 x.toInt y.toInt := by
  unfold XT.cmpL own_c3
  simp only [Int64.lt_iff_toInt_lt, ← Int64.toInt_inj]
  by_cases h : x.toInt < y.toInt
  · simp [h, show ¬ y.toInt < x.toInt by omega, show ¬ x.toInt = y.toInt by omega]
  · by_cases h2 : x.toInt = y.toInt
    · simp [h2]
    · simp [h, h2, show y.toInt < x.toInt by omega]
theorem own_L.cmp {A B : Nat} {i j : Int} {x y : Int64} (a : own_L A i x) (b : own_L B j y) : XT.cmpL x y = own_c3 i j := by
  rw [own_lcmp_c3, a.1, b.1]
end OwnNum
section OwnDiv
open Jvm.FP Jvm.FP.Core
theorem own_quotient {s t : Bool} {c d : Nat} {q r : Int} (hd : d ≠ 0) : quotient b64 (.fin s c q) (.fin t d r) = roundRatio b64 (s != t) c d (q - r) := by
  show (if d = 0 then _ else _) = _
  rw [if_neg hd]
/-- the quotient of i * 2^-k and j is the rounded |i| / |j| * 2^-k -/
theorem own_quot {k A B : Nat} {i j : Int} {x z v : UInt64} (a : own_D k A i x) (b : own_D 0 B j z) (hj : j ≠ 0) (hv : FP.ddiv x z = v) :
    ∃ sg : Bool, val64 v = roundRatio b64 sg i.natAbs j.natAbs (-(k : Int)) ∧ (i ≠ 0 → sg = (decide (i < 0) != decide (j < 0))) := by
  subst hv
  obtain ⟨s, c, q, e1⟩ := a.fin
  obtain ⟨t, d, r, e2⟩ := b.fin
  have w1 : Whole i (.fin s c (q + k)) := by have := a.1; rw [e1] at this; exact this
  have w2 : Whole j (.fin t d r) := by have := b.1; rw [e2, show ((0 : Nat) : Int) = 0 from rfl, own_sh_zero] at this; exact this
  have hd : d ≠ 0 := fun h => hj ((whole_zero w2).mp h)
  refine ⟨s != t, ?_, fun hi => by rw [whole_sign w1 hi, whole_sign w2 hj]⟩
  show val64 (Core.ddiv x z) = _
  rw [val64_ddiv, e1, e2]
  show (if d = 0 then _ else roundRatio b64 (s != t) c d (q - r)) = _
  rw [if_neg hd]
  refine roundRatio_congr (by omega) (by omega) ?_
  have h1 : c * 2 ^ (q + k).toNat = i.natAbs * 2 ^ (-(q + k)).toNat := whole_natAbs w1
  have h2 : d * 2 ^ r.toNat = j.natAbs * 2 ^ (-r).toNat := whole_natAbs w2
  generalize i.natAbs = I at *
  generalize j.natAbs = J at *
  refine Nat.eq_of_mul_eq_mul_right (Nat.two_pow_pos ((-r).toNat + (q + k).toNat)) ?_
  have x1 : c * J * 2 ^ (q - r - -(k : Int)).toNat * 2 ^ ((-r).toNat + (q + k).toNat) = (c * 2 ^ (q + k).toNat) * (J * 2 ^ (-r).toNat) * 2 ^ (q - r - -(k : Int)).toNat := by rw [Nat.pow_add]; ac_rfl
  have x2 : I * d * 2 ^ (-(k : Int) - (q - r)).toNat * 2 ^ ((-r).toNat + (q + k).toNat) = I * d * 2 ^ ((-(q + k)).toNat + r.toNat + (q - r - -(k : Int)).toNat) := by rw [Nat.mul_assoc (I * d), ← Nat.pow_add]; congr 2; omega
  rw [x1, x2, h1, ← h2, Nat.pow_add, Nat.pow_add]; ac_rfl
theorem own_quot_nn {k A B : Nat} {i j : Int} {x z v : UInt64} (a : own_D k A i x) (b : own_D 0 B j z) (hj : j ≠ 0) (hv : FP.ddiv x z = v) : Jvm.Free.Fl.NoNaN64 v := by
  obtain ⟨sg, e, -⟩ := own_quot a b hj hv
  exact Jvm.Free.Fl.val64_no.mpr (by rw [e]; exact roundRatio_ne_nan _ _ _ _ _)
theorem own_round_zero (sg : Bool) (d : Nat) (e : Int) : roundRatio b64 sg 0 d e = .fin sg 0 b64.qmin := by unfold roundRatio; rw [if_pos rfl]
/-- two quotients of equal whole numbers compare as equal -/
theorem own_quot_eq {k A B A' B' : Nat} {i j : Int} {x y z w v u : UInt64} (a : own_D k A i x) (b : own_D 0 B j z) (a' : own_D k A' i y) (b' : own_D 0 B' j w) (hj : j ≠ 0) (hv : FP.ddiv x z = v) (hu : FP.ddiv y w = u) : FP.dcmp v u = some .eq := by
  obtain ⟨s1, e1, f1⟩ := own_quot a b hj hv
  obtain ⟨s2, e2, f2⟩ := own_quot a' b' hj hu
  by_cases hi : i = 0
  · subst hi
    have d1 := own_D.zero (x := v) (s := s1) (by rw [e1]; exact own_round_zero ..) 0
    have d2 := own_D.zero (x := u) (s := s2) (by rw [e2]; exact own_round_zero ..) 0
    rw [d1.dcmp d2]; rfl
  · have e3 : s1 = s2 := (f1 hi).trans (f2 hi).symm
    subst e3
    have e4 : v = u := val64_inj (by rw [e1]; exact roundRatio_ne_nan _ _ _ _ _) (e1.trans e2.symm)
    subst e4
    exact dcmp_self (by rw [e1]; exact roundRatio_ne_nan _ _ _ _ _)
theorem own_quot_cmp {k A B A' B' : Nat} {i j : Int} {x y z w v u : UInt64} (a : own_D k A i x) (b : own_D 0 B j z) (a' : own_D k A' i y) (b' : own_D 0 B' j w) (hj : j ≠ 0) (hv : FP.ddiv x z = v) (hu : FP.ddiv y w = u) {o : CmpOp} : cmpValue (FP.dcmp v u) o = 0 := by
  rw [own_quot_eq a b a' b' hj hv hu]; rfl
theorem own_D.of_eq {k A : Nat} {i j : Int} {x : UInt64} (a : own_D k A i x) (h : i = j) : own_D k A j x := h ▸ a
/-- a quotient by a power of two is exact -/
theorem own_D.divp {k r t A B P : Nat} {i : Int} {x z v : UInt64} (a : own_D k A i x) (b : own_D 0 B (P : Int) z) (hP : P = 2 ^ r) (hv : FP.ddiv x z = v) (hA : A < 9007199254740992) (ht : k + r = t) (hk : t ≤ 1074) : own_D t A i v := by
  subst ht
  have p := Nat.two_pow_pos r
  have hj : (P : Int) ≠ 0 := by omega
  obtain ⟨sg, e, f⟩ := own_quot a b hj hv
  refine ⟨?_, a.2⟩
  have e2 : roundRatio b64 sg i.natAbs ((P : Int)).natAbs (-(k : Int)) = roundRatio b64 sg i.natAbs 1 (-((k + r : Nat) : Int)) := by
    refine roundRatio_congr (by omega) (by decide) ?_
    rw [Int.natAbs_natCast, hP, show (-(k : Int) - -((k + r : Nat) : Int)).toNat = r by omega, show (-((k + r : Nat) : Int) - -(k : Int)).toNat = 0 by omega]
    simp
  rw [e, e2]
  refine own_round_core (c := 0) (q := 0) hk (by have := a.2; omega) fun hi => ?_
  rw [f hi, show decide ((P : Int) < 0) = false by simp]
  cases decide (i < 0) <;> rfl
theorem own_ushr_nn {x q v : Int32} {k : Nat} (hv : XT.ushr x q = v) (hk : q.toBitVec.toNat % 32 = k) (h0 : 0 < k) : 0 ≤ v.toInt := by
  subst hv
  have := c_iushr x q k hk h0
  show 0 ≤ ((x.toUInt32 >>> (q &&& 31).toUInt32).toInt32).toInt
  rw [this]
  exact Int.ediv_nonneg (Int.emod_nonneg _ (by decide)) (Int.natCast_nonneg _)
theorem own_irem_bd {x y v : Int32} {d : Int} (hv : x % y = v) (hx : 0 ≤ x.toInt) (hy : y.toInt = d) (hd : 0 < d) : 0 ≤ v.toInt ∧ v.toInt < d := by
  subst hv
  rw [(c_irem x y d hy).1 hx]
  exact ⟨Int.emod_nonneg _ (by omega), Int.emod_lt_of_pos _ hd⟩
end OwnDiv
abbrev oU : Slot := .unset
abbrev oI (x : Int32) : Slot := .val (.int x)
abbrev oA (a : Addr) : Slot := .val (.ref a)
section OwnRef
variable {p : Program} {l : Launch} {e : Env} {R : Room} {s : State} {m : MethodId} {args : Array Value} {below : List Frame} {meth : Method} {c : Code} {Z : State} {own : String} {bytes : ByteArray} {ml : Nat} {rt : Option FieldType} {nm : String} {n0 : Nat} {T : State} {h : Heap} {cells slots : Nat} {Q : Option Value → Heap → Prop} {Φ : State → Outcome → Prop} {pc pc' : Nat} {Ls : Array Slot} {rest : List Value} {a0 : Array Value}
theorem own_i2b (X : own_St p l e R s m args below meth c Z own bytes ml rt nm n0 T h cells slots) {x v : Int32} (hv : x.toInt8.toInt32 = v) (hd : decode bytes pc = .ok (.i2b, 1)) (hp : pc + 1 = pc') (k : own_Goal p e below Φ T (mkF m pc' Ls (.int v :: rest))) : own_Goal p e below Φ T (mkF m pc Ls (.int x :: rest)) := by
  subst hp hv
  exact own_pure X (fun X hx hby _ a => XT.i2b X.here hx rfl (hb hby hd) rfl a) k
theorem own_acmpF (X : own_St p l e R s m args below meth c Z own bytes ml rt nm n0 T h cells slots) {o : Int} {cd : ClassFile.ACond} {x y : Value} (hx' : x.isRef = true) (hy' : y.isRef = true) (hc : XT.acmp cd x y = false) (hd : decode bytes pc = .ok (.if_acmp cd o, 3)) (hp : pc + 3 = pc') (k : own_Goal p e below Φ T (mkF m pc' Ls rest)) : own_Goal p e below Φ T (mkF m pc Ls (y :: x :: rest)) := by
  subst hp
  exact own_pure X (fun X hx hby _ a => XT.acmpNo X.here hx rfl (hb hby hd) rfl hx' hy' hc a) k
theorem own_retN (X : own_St p l e R s m args below meth c Z own bytes ml rt nm n0 T h cells slots) {v : Int32} {t : FieldType} (hn : nar t v = v) (ht : t = .boolean ∨ t = .byte ∨ t = .char ∨ t = .short) (hd : decode bytes pc = .ok (.ireturn, 1)) (hr : rt = some t) (hc : cells ≤ R.cells) (hs : slots ≤ R.slots) (q : Q (some (.int v)) h) : own_Goal p e below (own_Fin below s R n0 Q) T (mkF m pc Ls (.int v :: rest)) := by
  obtain ⟨locs, X, N, e1, n1, hx, hZ, hown, hby, -, hrt, hlk, -⟩ := X
  obtain ⟨fs, hl, hrun, hended, hW, hsame⟩ := X.leave (v := some (.int v)) (fun z => by rw [hrt, hr] at z; cases z) hlk
  exact ⟨_, _, retN X hx (t := t) (hrt.trans hr) ht (hb hby hd) (by rw [hn]; exact hl), hrun, hended, _, _, rfl, ⟨⟨by show Q _ T.heap; rw [e1]; exact q, by show n0 ≤ T.heap.size; rw [e1]; exact n1⟩, N⟩, ⟨_, rfl⟩, hW, hsame.mono hc hs⟩
theorem own_retNull (X : own_St p l e R s m args below meth c Z own bytes ml rt nm n0 T h cells slots) {t : FieldType} (ht : t.isReference = true) (hd : decode bytes pc = .ok (.areturn, 1)) (hr : rt = some t) (hc : cells ≤ R.cells) (hs : slots ≤ R.slots) (q : Q (some .null) h) : own_Goal p e below (own_Fin below s R n0 Q) T (mkF m pc Ls (.null :: rest)) := by
  obtain ⟨locs, X, N, e1, n1, hx, hZ, hown, hby, -, hrt, hlk, -⟩ := X
  obtain ⟨fs, hl, hrun, hended, hW, hsame⟩ := X.leave (v := some .null) (fun z => by rw [hrt, hr] at z; cases z) hlk
  have hn : narrow t .null = .null := by cases t <;> rfl
  exact ⟨_, _, retOut X hx (hrt.trans hr) hn (Or.inr (Or.inr (Or.inr (Or.inr ⟨rfl, ht, rfl⟩)))) (hb hby hd) hl, hrun, hended, _, _, rfl, ⟨⟨by show Q _ T.heap; rw [e1]; exact q, by show n0 ≤ T.heap.size; rw [e1]; exact n1⟩, N⟩, ⟨_, rfl⟩, hW, hsame.mono hc hs⟩
theorem own_caload (X : own_St p l e R s m args below meth c Z own bytes ml rt nm n0 T h cells slots) {a : Addr} {vs : List Value} (F : own_Vec Z h a .char vs) {j : Int32} {i : Nat} {v : Value} (hj : j.toNatClampNeg = i) (h0 : ¬ j < 0) (hv : vs[i]? = some v) (hd : decode bytes pc = .ok (.caload, 1)) (hp : pc + 1 = pc') (k : own_Goal p e below Φ T (mkF m pc' Ls (v :: rest))) : own_Goal p e below Φ T (mkF m pc Ls (.int j :: .ref a :: rest)) := by
  subst hp
  obtain ⟨locs, X, N, e1, -, hx, hZ, hown, hby, -⟩ := X
  obtain ⟨cl, A, r⟩ := F
  have q1 : i < vs.length := (List.getElem?_eq_some_iff.mp hv).1
  exact own_step (fun t a => X.caload hx (cell := cl) (by rw [e1]; exact A.1) (State.isArrayOf_alike hZ.alike A.2.1) A.2.2 (own_in hj h0 (by rw [r]; simpa using q1)) (by rw [hj, r]; simpa using hv) (g := mkF m pc Ls _) rfl rfl (hb hby hd) t a) k
theorem own_aaload (X : own_St p l e R s m args below meth c Z own bytes ml rt nm n0 T h cells slots) {a : Addr} {ty : FieldType} {vs : List Value} (F : own_Vec Z h a ty vs) (hty : ty.isReference = true) {j : Int32} {i : Nat} {v : Value} (hj : j.toNatClampNeg = i) (h0 : ¬ j < 0) (hv : vs[i]? = some v) (hd : decode bytes pc = .ok (.aaload, 1)) (hp : pc + 1 = pc') (k : own_Goal p e below Φ T (mkF m pc' Ls (v :: rest))) : own_Goal p e below Φ T (mkF m pc Ls (.int j :: .ref a :: rest)) := by
  subst hp
  obtain ⟨locs, X, N, e1, -, hx, hZ, hown, hby, -⟩ := X
  obtain ⟨cl, A, r⟩ := F
  have q1 : i < vs.length := (List.getElem?_eq_some_iff.mp hv).1
  exact own_step (fun t a => X.aaload hx (cell := cl) (by rw [e1]; exact A.1) (State.isArrayOf_alike hZ.alike A.2.1) hty A.2.2 (own_in hj h0 (by rw [r]; simpa using q1)) (by rw [hj, r]; simpa using hv) (g := mkF m pc Ls _) rfl rfl (hb hby hd) t a) k
theorem own_castore (X : own_St p l e R s m args below meth c Z own bytes ml rt nm n0 T h cells slots) {a : Addr} {vs : List Value} (F : own_Vec Z h a .char vs) (ha : n0 ≤ a) {j : Int32} {i : Nat} {x y : Int32} (hn : nar .char x = y) (hj : j.toNatClampNeg = i) (h0 : ¬ j < 0) (hi : i < vs.length) (hd : decode bytes pc = .ok (.castore, 1)) (hp : pc + 1 = pc')
    (k : ∀ T' h', own_St p l e R s m args below meth c Z own bytes ml rt nm n0 T' h' cells slots → Wr h h' a i (.int y) → own_Vec Z h' a .char (vs.set i (.int y)) → own_Goal p e below Φ T' (mkF m pc' Ls rest)) : own_Goal p e below Φ T (mkF m pc Ls (.int x :: .int j :: .ref a :: rest)) := by
  subst hp hn
  obtain ⟨locs, X, N, e1, n1, hx, hZ, hown, hby, r0⟩ := X
  have F0 := F
  obtain ⟨cl, A, r⟩ := F
  obtain ⟨T', h', X', e', W, st⟩ := stC X hx hZ e1 A (own_in hj h0 (by rw [r]; simpa using hi)) (g := mkF m pc Ls _) rfl rfl (hb hby hd)
  have N' := Fr.snoc X' N ha
  rw [hj] at W
  exact own_step st (k T' h' ⟨_, X', N', e', by rw [W.size]; exact n1, hx, hZ, hown, hby, r0⟩ W (F0.set W))
theorem own_bastore (X : own_St p l e R s m args below meth c Z own bytes ml rt nm n0 T h cells slots) {a : Addr} {vs : List Value} (F : own_Vec Z h a .byte vs) (ha : n0 ≤ a) {j : Int32} {i : Nat} {x y : Int32} (hn : nar .byte x = y) (hj : j.toNatClampNeg = i) (h0 : ¬ j < 0) (hi : i < vs.length) (hd : decode bytes pc = .ok (.bastore, 1)) (hp : pc + 1 = pc')
    (k : ∀ T' h', own_St p l e R s m args below meth c Z own bytes ml rt nm n0 T' h' cells slots → Wr h h' a i (.int y) → own_Vec Z h' a .byte (vs.set i (.int y)) → own_Goal p e below Φ T' (mkF m pc' Ls rest)) : own_Goal p e below Φ T (mkF m pc Ls (.int x :: .int j :: .ref a :: rest)) := by
  subst hp hn
  obtain ⟨locs, X, N, e1, n1, hx, hZ, hown, hby, r0⟩ := X
  have F0 := F
  obtain ⟨cl, A, r⟩ := F
  obtain ⟨T', h', X', e', W, st⟩ := stB X hx hZ e1 A (own_in hj h0 (by rw [r]; simpa using hi)) (g := mkF m pc Ls _) rfl rfl (hb hby hd)
  have N' := Fr.snoc X' N ha
  rw [hj] at W
  exact own_step st (k T' h' ⟨_, X', N', e', by rw [W.size]; exact n1, hx, hZ, hown, hby, r0⟩ W (F0.set W))
/-- the array at a takes objects of class C -/
def own_Ov (Z : State) (h : Heap) (a : Addr) (C : String) : Prop := ∃ c : Cell, h[a]? = some c ∧ Ovr Z c.cls C
theorem own_Ov.ext {h' : Heap} {a : Addr} {C : String} (F : own_Ov Z h a C) (E : Ext h h') : own_Ov Z h' a C := by obtain ⟨c, q, r⟩ := F; exact ⟨c, E.2 _ _ q, r⟩
theorem own_Ov.keep {h' : Heap} {a : Addr} {C : String} {ws : List Addr} (F : own_Ov Z h a C) (K : Keep h h' ws) : own_Ov Z h' a C := by
  obtain ⟨c, q, r⟩ := F
  obtain ⟨c', q', r1, -⟩ := K.2.2 a c q
  exact ⟨c', q', r1 ▸ r⟩
theorem own_Ov.wr {h' : Heap} {a b : Addr} {C : String} {sl : Nat} {v : Value} (F : own_Ov Z h a C) (W : Wr h h' b sl v) : own_Ov Z h' a C := F.keep (Keep.of_wr W)
theorem own_Sta.keep0 {h' : Heap} {C n d : String} {v : Value} (F : Sta Z h C n d v) (K : Keep h h' []) : Sta Z h' C n d v := by
  obtain ⟨cf, i, k, f, st, cell, h1, h2, h3, h4, h5, r⟩ := F
  exact ⟨cf, i, k, f, st, cell, h1, h2, h3, h4, K.2.1 _ _ h5 nin0, r⟩
theorem own_Sta.keep1 {h' : Heap} {C n d D : String} {v : Value} {a : Addr} (F : Sta Z h C n d v) (K : Keep h h' [a]) (E : Exa Z h a D) : Sta Z h' C n d v := by
  obtain ⟨cf, i, k, f, st, cell, h1, h2, h3, h4, h5, h6, r⟩ := F
  obtain ⟨ca, ka, q1, -, -, q4, -⟩ := E
  have hne : st ∉ [a] := fun q => by
    cases List.mem_singleton.mp q
    cases h5.symm.trans q1
    rw [h6] at q4; cases q4
  exact ⟨cf, i, k, f, st, cell, h1, h2, h3, h4, K.2.1 _ _ h5 hne, h6, r⟩
theorem own_ge {h' : Heap} {a : Addr} {ws : List Addr} (K : Keep h h' ws) (g : a = h'.size) : h.size ≤ a := by rw [g]; exact K.1
theorem own_mem0 {h' : Heap} {ws : List Addr} : ∀ x ∈ ([] : List Addr), x ∈ ws ∨ h'.size ≤ x := fun _ q => nomatch q
theorem own_mem1 {h' : Heap} {ws : List Addr} {b : Addr} (q : b ∈ ws ∨ h'.size ≤ b) : ∀ x ∈ [b], x ∈ ws ∨ h'.size ≤ x := fun x hx => by cases List.mem_singleton.mp hx; exact q
theorem own_newarrayE (X : own_St p l e R s m args below meth c Z own bytes ml rt nm n0 T h cells slots) {aty : ArrayType} {ty : FieldType} (hty : newarray.typeOf aty = ty) {ad : String} (had : "[" ++ (newarray.typeOf aty).toString = ad) (w : (Jvm.Cond.arrayClass ty).before a0 Z = true) {j : Int32} {n : Nat} {vs : List Value} (hj : j.toNatClampNeg = n) (h0 : ¬ j < 0) (hn : n ≤ 1000) (hvs : List.replicate n (defaultValue ty) = vs) {cells' slots' : Nat} (hc' : cells + 1 = cells') (hs' : slots + n = slots') (hc : cells' ≤ R.cells) (hs : slots' ≤ R.slots) (hd : decode bytes pc = .ok (.newarray aty, 2)) (hp : pc + 2 = pc')
    (k : ∀ a T' h', a = h.size → n0 ≤ a → own_St p l e R s m args below meth c Z own bytes ml rt nm n0 T' h' cells' slots' → Ext h h' → own_Vec Z h' a ty vs → Exa Z h' a ad → own_Goal p e below Φ T' (mkF m pc' Ls (.ref a :: rest))) : own_Goal p e below Φ T (mkF m pc Ls (.int j :: rest)) := by
  subst hp hty hvs hc' hs'
  obtain ⟨locs, X, N, e1, n1, hx, hZ, hown, hby, r0⟩ := X
  obtain ⟨T', h', cA, X', e', E, A, B, st⟩ := newPE X hx hZ w e1 (g := mkF m pc Ls _) rfl (hb hby hd) rfl h0 (cap := n) (by omega) (by omega) hc hs had
  refine own_step st (k _ T' h' rfl n1 ⟨_, X', N, e', Nat.le_trans n1 E.1, hx, hZ, hown, hby, r0⟩ E ⟨_, A, ?_⟩ B)
  simp [newA, hj]
theorem own_anewarray (X : own_St p l e R s m args below meth c Z own bytes ml rt nm n0 T h cells slots) {i : Nat} {C ad : String} (w1 : (Jvm.Cond.classLink own i C).before a0 Z = true) (w2 : (Jvm.Cond.arrayOver (.object C)).before a0 Z = true) (had : "[" ++ (FieldType.object C).toString = ad) {j : Int32} {n : Nat} {vs : List Value} (hj : j.toNatClampNeg = n) (h0 : ¬ j < 0) (hn : n ≤ 1000) (hvs : List.replicate n Value.null = vs) {cells' slots' : Nat} (hc' : cells + 1 = cells') (hs' : slots + n = slots') (hc : cells' ≤ R.cells) (hs : slots' ≤ R.slots) (hd : decode bytes pc = .ok (.anewarray i, 3)) (hp : pc + 3 = pc')
    (k : ∀ a T' h', a = h.size → n0 ≤ a → own_St p l e R s m args below meth c Z own bytes ml rt nm n0 T' h' cells' slots' → Ext h h' → own_Vec Z h' a (.object C) vs → Exa Z h' a ad → own_Ov Z h' a C → own_Goal p e below Φ T' (mkF m pc' Ls (.ref a :: rest))) : own_Goal p e below Φ T (mkF m pc Ls (.int j :: rest)) := by
  subst hp hvs hc' hs'
  obtain ⟨locs, X, N, e1, n1, hx, hZ, hown, hby, r0⟩ := X
  obtain ⟨T', h', cA, X', e', E, A, B, O, st⟩ := newRE X hx hZ hown w1 w2 e1 (g := mkF m pc Ls _) rfl (hb hby hd) rfl h0 (cap := n) (by omega) (by omega) hc hs had
  refine own_step st (k _ T' h' rfl n1 ⟨_, X', N, e', Nat.le_trans n1 E.1, hx, hZ, hown, hby, r0⟩ E ⟨_, A, ?_⟩ B ⟨_, A.1, O⟩)
  simp [newA, hj, defaultValue]
theorem own_aastore (X : own_St p l e R s m args below meth c Z own bytes ml rt nm n0 T h cells slots) {a : Addr} {C : String} {vs : List Value} (F : own_Vec Z h a (.object C) vs) (O : own_Ov Z h a C) (ha : n0 ≤ a) {j : Int32} {i : Nat} {x : Value} (hv : x = .null ∨ ∃ y, x = .ref y ∧ Exa Z h y C) (hj : j.toNatClampNeg = i) (h0 : ¬ j < 0) (hi : i < vs.length) (hd : decode bytes pc = .ok (.aastore, 1)) (hp : pc + 1 = pc')
    (k : ∀ T' h', own_St p l e R s m args below meth c Z own bytes ml rt nm n0 T' h' cells slots → Wr h h' a i x → own_Vec Z h' a (.object C) (vs.set i x) → own_Goal p e below Φ T' (mkF m pc' Ls rest)) : own_Goal p e below Φ T (mkF m pc Ls (x :: .int j :: .ref a :: rest)) := by
  subst hp
  obtain ⟨locs, X, N, e1, n1, hx, hZ, hown, hby, r0⟩ := X
  have F0 := F
  obtain ⟨cl, A, r⟩ := F
  obtain ⟨c2, q2, O⟩ := O
  cases A.1.symm.trans q2
  have S : Sto Z h a x := by
    rcases hv with rfl | ⟨y, rfl, E⟩
    · exact Or.inl rfl
    · exact Sto.of A O (Ins.self E)
  obtain ⟨T', h', X', e', W, st⟩ := stR X hx hZ e1 A (own_in hj h0 (by rw [r]; simpa using hi)) rfl S (g := mkF m pc Ls _) rfl rfl (hb hby hd)
  have N' := Fr.snoc X' N ha
  rw [hj] at W
  exact own_step st (k T' h' ⟨_, X', N', e', by rw [W.size]; exact n1, hx, hZ, hown, hby, r0⟩ W (F0.set W))
theorem own_fit0 {ty : FieldType} : ([] : List Value).all (fits ty) = true := rfl
theorem own_fitS {ty : FieldType} {v : Value} {vs : List Value} (h1 : fits ty v = true) (h2 : vs.all (fits ty) = true) : (v :: vs).all (fits ty) = true := by rw [List.all_cons, h1, h2]; rfl
theorem own_clone (X : own_St p l e R s m args below meth c Z own bytes ml rt nm n0 T h cells slots) {i : Nat} {ad : String} (w1 : (Jvm.Cond.methodLink own i ⟨ad, "clone", "()Ljava/lang/Object;"⟩).before a0 Z = true) (w2 : (Jvm.Cond.sameMethod ad "java/lang/Object" "clone" "()Ljava/lang/Object;").before a0 Z = true) (w3 : (Jvm.Cond.native ⟨"java/lang/Object", "clone", "()Ljava/lang/Object;"⟩).before a0 Z = true) (w4 : (Jvm.Cond.instanceMethod ⟨"java/lang/Object", "clone", "()Ljava/lang/Object;"⟩).before a0 Z = true) (w5 : (Jvm.Cond.selects ad ⟨ad, "clone", "()Ljava/lang/Object;"⟩ ⟨"java/lang/Object", "clone", "()Ljava/lang/Object;"⟩).before a0 Z = true) (w6 : (Jvm.Cond.castable ad "java/lang/Cloneable").before a0 Z = true)
    {a : Addr} {ty : FieldType} {vs : List Value} (F : own_Vec Z h a ty vs) (E : Exa Z h a ad) (hfit : vs.all (fits ty) = true) {n : Nat} (hlen : vs.length = n) (hsz : Ls.size = ml) (hf : 1 ≤ R.frames) {W : Nat} (hW : (rest.map fun v => v.category).sum ≤ W) (hl : W + 14 ≤ R.locals) {cells' slots' : Nat} (hc' : cells + 1 = cells') (hs' : slots + n = slots') (hc : cells' ≤ R.cells) (hs : slots' ≤ R.slots) (hd : decode bytes pc = .ok (.invokevirtual i, 3)) (hp : pc + 3 = pc')
    (k : ∀ a' T' h', a' = h.size → n0 ≤ a' → own_St p l e R s m args below meth c Z own bytes ml rt nm n0 T' h' cells' slots' → Ext h h' → own_Vec Z h' a' ty vs → Exa Z h' a' ad → own_Goal p e below Φ T' (mkF m pc' Ls (.ref a' :: rest))) : own_Goal p e below Φ T (mkF m pc Ls (.ref a :: rest)) := by
  subst hp hc' hs' hlen
  obtain ⟨locs, X, N, e1, n1, hx, hZ, hown, hby, hml, r0⟩ := X
  obtain ⟨cl, A, r⟩ := F
  have FC : FitC Z cl := fitC_of A fun i hi v hv => by
    rw [r] at hv
    have q : v ∈ vs := List.mem_of_getElem? (by simpa using hv)
    exact List.all_eq_true.mp hfit v q
  obtain ⟨T', h', X', e', E', A', B', st⟩ := cloneA X hx hZ hown w1 w2 w3 w4 w5 w6 e1 A E FC (g := mkF m pc Ls (.ref a :: rest)) rfl (hsz.trans hml.symm) (rest := rest) rfl (hb hby hd) hf (W := W) (cap := vs.length) (by show 2 * 0 + _ ≤ _; omega) hl (by rw [r]; simp) hc hs
  exact own_step st (k _ T' h' rfl n1 ⟨_, X', N, e', Nat.le_trans n1 E'.1, hx, hZ, hown, hby, hml, r0⟩ E' ⟨_, A', r⟩ B')
theorem own_cast_ (X : own_St p l e R s m args below meth c Z own bytes ml rt nm n0 T h cells slots) {i : Nat} {K : String} (w : (Jvm.Cond.classLink own i K).before a0 Z = true) {a : Addr} (E : Exa Z h a K) (hd : decode bytes pc = .ok (.checkcast i, 3)) (hp : pc + 3 = pc')
    (k : ∀ T', own_St p l e R s m args below meth c Z own bytes ml rt nm n0 T' h cells slots → own_Goal p e below Φ T' (mkF m pc' Ls (.ref a :: rest))) : own_Goal p e below Φ T (mkF m pc Ls (.ref a :: rest)) := by
  subst hp
  obtain ⟨locs, X, N, e1, n1, hx, hZ, hown, hby, r0⟩ := X
  obtain ⟨T', X', e', st⟩ := castY X hx hZ hown w e1 (Ins.self E) (g := mkF m pc Ls (.ref a :: rest)) (rest := rest) rfl rfl (hb hby hd)
  exact own_step st (k T' ⟨_, X', N, e', n1, hx, hZ, hown, hby, r0⟩)
theorem own_getS (X : own_St p l e R s m args below meth c Z own bytes ml rt nm n0 T h cells slots) {i : Nat} {O n d : String} (w : (Jvm.Cond.fieldLink own i O n d).before a0 Z = true) {v : Value} (F : Sta Z h O n d v) (hd : decode bytes pc = .ok (.getstatic i, 3)) (hp : pc + 3 = pc')
    (k : ∀ T', own_St p l e R s m args below meth c Z own bytes ml rt nm n0 T' h cells slots → own_Goal p e below Φ T' (mkF m pc' Ls (v :: rest))) : own_Goal p e below Φ T (mkF m pc Ls rest) := by
  subst hp
  obtain ⟨locs, X, N, e1, n1, hx, hZ, hown, hby, r0⟩ := X
  obtain ⟨T', X', e', st⟩ := getS X hx hZ hown (host := "") w Via.refl e1 F (g := mkF m pc Ls rest) rfl (hb hby hd)
  exact own_step st (k T' ⟨_, X', N, e', n1, hx, hZ, hown, hby, r0⟩)
theorem own_cases3 {v : Int32} (h : 0 ≤ v.toInt ∧ v.toInt ≤ ((2 : Nat) : Int)) : v = (0 : Int32) ∨ v = (1 : Int32) ∨ v = (2 : Int32) := by
  have q : v.toInt = 0 ∨ v.toInt = 1 ∨ v.toInt = 2 := by omega
  rcases q with q | q | q
  · exact Or.inl (Int32.toInt_inj.mp (by rw [q]; decide))
  · exact Or.inr (Or.inl (Int32.toInt_inj.mp (by rw [q]; decide)))
  · exact Or.inr (Or.inr (Int32.toInt_inj.mp (by rw [q]; decide)))
theorem own_i2c_mask {x v : Int32} (e : x &&& 255 = v) : v.toUInt32.toUInt16.toUInt32.toInt32 = v := by rw [← e]; exact i2c_mask x
theorem own_char {v : Int32} (e : v.toUInt32.toUInt16.toUInt32.toInt32 = v) : nar .char v = v := e
end OwnRef
theorem own_le255 {x : Int32} (h : 0 ≤ x.toInt ∧ x.toInt ≤ ((255 : Nat) : Int)) : ¬ ((255 : Int32) < x) := by
  rw [Int32.lt_iff_toInt_lt]; have : (255 : Int32).toInt = 255 := by decide
  omega
theorem own_d_jdk_52_method_21_code_0 : decode jdk_52_method_21_code 0 = .ok (.iconst 0, 1) := by decide +kernel
theorem own_d_jdk_52_method_21_code_1 : decode jdk_52_method_21_code 1 = .ok (.istore 5, 2) := by decide +kernel
theorem own_d_jdk_52_method_21_code_3 : decode jdk_52_method_21_code 3 = .ok (.iload 5, 2) := by decide +kernel
theorem own_d_jdk_52_method_21_code_5 : decode jdk_52_method_21_code 5 = .ok (.iload 4, 2) := by decide +kernel
theorem own_d_jdk_52_method_21_code_7 : decode jdk_52_method_21_code 7 = .ok (.if_icmp .ge 37, 3) := by decide +kernel
theorem own_d_jdk_52_method_21_code_10 : decode jdk_52_method_21_code 10 = .ok (.aload_n 0, 1) := by decide +kernel
theorem own_d_jdk_52_method_21_code_11 : decode jdk_52_method_21_code 11 = .ok (.iload_n 1, 1) := by decide +kernel
theorem own_d_jdk_52_method_21_code_12 : decode jdk_52_method_21_code 12 = .ok (.caload, 1) := by decide +kernel
theorem own_d_jdk_52_method_21_code_13 : decode jdk_52_method_21_code 13 = .ok (.istore 6, 2) := by decide +kernel
theorem own_d_jdk_52_method_21_code_15 : decode jdk_52_method_21_code 15 = .ok (.iload 6, 2) := by decide +kernel
theorem own_d_jdk_52_method_21_code_17 : decode jdk_52_method_21_code 17 = .ok (.sipush 255, 3) := by decide +kernel
theorem own_d_jdk_52_method_21_code_20 : decode jdk_52_method_21_code 20 = .ok (.if_icmp .le 6, 3) := by decide +kernel
theorem own_d_jdk_52_method_21_code_23 : decode jdk_52_method_21_code 23 = .ok (.iload 5, 2) := by decide +kernel
theorem own_d_jdk_52_method_21_code_25 : decode jdk_52_method_21_code 25 = .ok (.ireturn, 1) := by decide +kernel
theorem own_d_jdk_52_method_21_code_26 : decode jdk_52_method_21_code 26 = .ok (.aload_n 2, 1) := by decide +kernel
theorem own_d_jdk_52_method_21_code_27 : decode jdk_52_method_21_code 27 = .ok (.iload_n 3, 1) := by decide +kernel
theorem own_d_jdk_52_method_21_code_28 : decode jdk_52_method_21_code 28 = .ok (.iload 6, 2) := by decide +kernel
theorem own_d_jdk_52_method_21_code_30 : decode jdk_52_method_21_code 30 = .ok (.i2b, 1) := by decide +kernel
theorem own_d_jdk_52_method_21_code_31 : decode jdk_52_method_21_code 31 = .ok (.bastore, 1) := by decide +kernel
theorem own_d_jdk_52_method_21_code_32 : decode jdk_52_method_21_code 32 = .ok (.iinc 1 1, 3) := by decide +kernel
theorem own_d_jdk_52_method_21_code_35 : decode jdk_52_method_21_code 35 = .ok (.iinc 3 1, 3) := by decide +kernel
theorem own_d_jdk_52_method_21_code_38 : decode jdk_52_method_21_code 38 = .ok (.iinc 5 1, 3) := by decide +kernel
theorem own_d_jdk_52_method_21_code_41 : decode jdk_52_method_21_code 41 = .ok (.goto (-38), 3) := by decide +kernel
theorem own_d_jdk_52_method_21_code_44 : decode jdk_52_method_21_code 44 = .ok (.iload 4, 2) := by decide +kernel
theorem own_d_jdk_52_method_21_code_46 : decode jdk_52_method_21_code 46 = .ok (.ireturn, 1) := by decide +kernel
theorem own_pd0 : parseMethodDescriptor "([CI[BII)I" = some ⟨[(.array .char), .int, (.array .byte), .int, .int], some .int⟩ := by decide +kernel
theorem own_pn0 : plainName "java/lang/StringUTF16" = true := by first | (simp [plainName, overriddenIn]; done) | decide +kernel
abbrev own_rm_own_cmp2 : Room := ({ frames := 0, cells := 0, slots := 0, locals := 0 } : Room)
set_option maxRecDepth 65536 in
set_option maxHeartbeats 40000000 in
theorem own_cmp2 (l : Launch) (Z : State) (a0 : Array Value) (hw : ∀ d ∈ tables_1, d.before a0 Z = true) (a2 a3 : Addr) (x0 x1 : Int32) (h0 : Heap) (n0 : Nat) (Z0 : n0 ≤ h0.size) (ge3 : n0 ≤ a3) (V1 : own_Vec Z h0 a2 .char [.int x0, .int x1]) (V2 : own_Vec Z h0 a3 .byte [.int (0 : Int32), .int (0 : Int32)]) (N1 : a2 ≠ a3) (f_x0 : own_I 255 x0.toInt x0) (n_x0 : 0 ≤ x0.toInt ∧ x0.toInt ≤ ((255 : Nat) : Int))(f_x1 : own_I 255 x1.toInt x1) (n_x1 : 0 ≤ x1.toInt ∧ x1.toInt ≤ ((255 : Nat) : Int)) :
    own_Met l Z ({ cls := "java/lang/StringUTF16", name := "compress", desc := "([CI[BII)I" } : Jvm.MethodName) jdk_52_method_21_code 7 (some .int) [] own_rm_own_cmp2 #[(.ref a2), (.int (0 : Int32)), (.ref a3), (.int (0 : Int32)), (.int (2 : Int32))] h0 n0 (fun v h => v = some (.int 2) ∧ (∃ y0 y1, own_Vec Z h a3 .byte [.int y0, .int y1]) ∧ Keep h0 h [a3]) := by
  have ww := fun (i : Nat) {d : Jvm.Cond} (q : tables_1[i]? = some d) => hw d (List.mem_of_getElem? q)
  refine own_meet (plainFor_of_name own_pn0) Z0 (Ls0 := #[oA a2, oI 0, oA a3, oI 0, oI 2, oU, oU]) (by intro m; first | (simp [entryFrame, mkF, argsToLocals, Value.category]; done) | rfl) ?_
  intro p e s m below meth c T0 X0
  have K0 := Keep.refl h0 [a3]
  refine own_iconst X0 (v := (0 : Int32)) (by decide) own_d_jdk_52_method_21_code_0 (pc' := 1) rfl ?_
  refine own_istore X0 (Ls' := #[oA a2, oI 0, oA a3, oI 0, oI 2, oI 0, oU]) rfl own_d_jdk_52_method_21_code_1 (pc' := 3) rfl ?_
  refine own_iload X0 rfl own_d_jdk_52_method_21_code_3 (pc' := 5) rfl ?_
  refine own_iload X0 rfl own_d_jdk_52_method_21_code_5 (pc' := 7) rfl ?_
  refine own_icmpF X0 (by decide) own_d_jdk_52_method_21_code_7 (pc' := 10) rfl ?_
  refine own_aloadN X0 rfl rfl own_d_jdk_52_method_21_code_10 (pc' := 11) rfl ?_
  refine own_iloadN X0 rfl own_d_jdk_52_method_21_code_11 (pc' := 12) rfl ?_
  refine own_caload X0 V1 (i := 0) (by decide) (by decide) rfl own_d_jdk_52_method_21_code_12 (pc' := 13) rfl ?_
  refine own_istore X0 (Ls' := #[oA a2, oI 0, oA a3, oI 0, oI 2, oI 0, oI x0]) rfl own_d_jdk_52_method_21_code_13 (pc' := 15) rfl ?_
  refine own_iload X0 rfl own_d_jdk_52_method_21_code_15 (pc' := 17) rfl ?_
  refine own_sipush X0 (v := (255 : Int32)) (by decide) own_d_jdk_52_method_21_code_17 (pc' := 20) rfl ?_
  have c1 : ¬ ((255 : Int32) < x0) := own_le255 n_x0
  refine own_icmpT X0 (own_i_ngt c1).2 own_d_jdk_52_method_21_code_20 (pc' := 26) (by decide) (by decide) ?_
  refine own_aloadN X0 rfl rfl own_d_jdk_52_method_21_code_26 (pc' := 27) rfl ?_
  refine own_iloadN X0 rfl own_d_jdk_52_method_21_code_27 (pc' := 28) rfl ?_
  refine own_iload X0 rfl own_d_jdk_52_method_21_code_28 (pc' := 30) rfl ?_
  obtain ⟨i2, e2⟩ : ∃ v, x0.toInt8.toInt32 = v := ⟨_, rfl⟩
  refine own_i2b X0 e2 own_d_jdk_52_method_21_code_30 (pc' := 31) rfl ?_
  refine own_bastore X0 V2  ge3 rfl (i := 0) (by decide) (by decide) (show 0 < 2 by decide) own_d_jdk_52_method_21_code_31 (pc' := 32) rfl fun T3 h3 X3 W3 V3 => ?_
  have V4 := V1.other W3 N1
  have K5 := K0.wr W3 (Or.inl (by simp))
  replace V3 : own_Vec Z h3 a3 .byte [(.int (nar .byte i2)), (.int (0 : Int32))] := V3
  refine own_iinc X3 (Ls' := #[oA a2, oI 1, oA a3, oI 0, oI 2, oI 0, oI x0]) rfl (by decide) rfl own_d_jdk_52_method_21_code_32 (pc' := 35) rfl ?_
  refine own_iinc X3 (Ls' := #[oA a2, oI 1, oA a3, oI 1, oI 2, oI 0, oI x0]) rfl (by decide) rfl own_d_jdk_52_method_21_code_35 (pc' := 38) rfl ?_
  refine own_iinc X3 (Ls' := #[oA a2, oI 1, oA a3, oI 1, oI 2, oI 1, oI x0]) rfl (by decide) rfl own_d_jdk_52_method_21_code_38 (pc' := 41) rfl ?_
  refine own_goto X3 own_d_jdk_52_method_21_code_41 (pc' := 3) (by decide) (by decide) ?_
  refine own_iload X3 rfl own_d_jdk_52_method_21_code_3 (pc' := 5) rfl ?_
  refine own_iload X3 rfl own_d_jdk_52_method_21_code_5 (pc' := 7) rfl ?_
  refine own_icmpF X3 (by decide) own_d_jdk_52_method_21_code_7 (pc' := 10) rfl ?_
  refine own_aloadN X3 rfl rfl own_d_jdk_52_method_21_code_10 (pc' := 11) rfl ?_
  refine own_iloadN X3 rfl own_d_jdk_52_method_21_code_11 (pc' := 12) rfl ?_
  refine own_caload X3 V4 (i := 1) (by decide) (by decide) rfl own_d_jdk_52_method_21_code_12 (pc' := 13) rfl ?_
  refine own_istore X3 (Ls' := #[oA a2, oI 1, oA a3, oI 1, oI 2, oI 1, oI x1]) rfl own_d_jdk_52_method_21_code_13 (pc' := 15) rfl ?_
  refine own_iload X3 rfl own_d_jdk_52_method_21_code_15 (pc' := 17) rfl ?_
  refine own_sipush X3 (v := (255 : Int32)) (by decide) own_d_jdk_52_method_21_code_17 (pc' := 20) rfl ?_
  have c6 : ¬ ((255 : Int32) < x1) := own_le255 n_x1
  refine own_icmpT X3 (own_i_ngt c6).2 own_d_jdk_52_method_21_code_20 (pc' := 26) (by decide) (by decide) ?_
  refine own_aloadN X3 rfl rfl own_d_jdk_52_method_21_code_26 (pc' := 27) rfl ?_
  refine own_iloadN X3 rfl own_d_jdk_52_method_21_code_27 (pc' := 28) rfl ?_
  refine own_iload X3 rfl own_d_jdk_52_method_21_code_28 (pc' := 30) rfl ?_
  obtain ⟨i7, e7⟩ : ∃ v, x1.toInt8.toInt32 = v := ⟨_, rfl⟩
  refine own_i2b X3 e7 own_d_jdk_52_method_21_code_30 (pc' := 31) rfl ?_
  refine own_bastore X3 V3  ge3 rfl (i := 1) (by decide) (by decide) (show 1 < 2 by decide) own_d_jdk_52_method_21_code_31 (pc' := 32) rfl fun T8 h8 X8 W8 V8 => ?_
  have V9 := V4.other W8 N1
  have K10 := K5.wr W8 (Or.inl (by simp))
  replace V8 : own_Vec Z h8 a3 .byte [(.int (nar .byte i2)), (.int (nar .byte i7))] := V8
  refine own_iinc X8 (Ls' := #[oA a2, oI 2, oA a3, oI 1, oI 2, oI 1, oI x1]) rfl (by decide) rfl own_d_jdk_52_method_21_code_32 (pc' := 35) rfl ?_
  refine own_iinc X8 (Ls' := #[oA a2, oI 2, oA a3, oI 2, oI 2, oI 1, oI x1]) rfl (by decide) rfl own_d_jdk_52_method_21_code_35 (pc' := 38) rfl ?_
  refine own_iinc X8 (Ls' := #[oA a2, oI 2, oA a3, oI 2, oI 2, oI 2, oI x1]) rfl (by decide) rfl own_d_jdk_52_method_21_code_38 (pc' := 41) rfl ?_
  refine own_goto X8 own_d_jdk_52_method_21_code_41 (pc' := 3) (by decide) (by decide) ?_
  refine own_iload X8 rfl own_d_jdk_52_method_21_code_3 (pc' := 5) rfl ?_
  refine own_iload X8 rfl own_d_jdk_52_method_21_code_5 (pc' := 7) rfl ?_
  refine own_icmpT X8 (by decide) own_d_jdk_52_method_21_code_7 (pc' := 44) (by decide) (by decide) ?_
  refine own_iload X8 rfl own_d_jdk_52_method_21_code_44 (pc' := 46) rfl ?_
  exact own_retI X8  own_d_jdk_52_method_21_code_46 rfl (by decide) (by decide) ⟨rfl, ⟨_, _, V8⟩, K10⟩
theorem own_d_jdk_52_method_16_code_0 : decode jdk_52_method_16_code 0 = .ok (.iload_n 2, 1) := by decide +kernel
theorem own_d_jdk_52_method_16_code_1 : decode jdk_52_method_16_code 1 = .ok (.newarray .byte, 2) := by decide +kernel
theorem own_d_jdk_52_method_16_code_3 : decode jdk_52_method_16_code 3 = .ok (.astore_n 3, 1) := by decide +kernel
theorem own_d_jdk_52_method_16_code_4 : decode jdk_52_method_16_code 4 = .ok (.aload_n 0, 1) := by decide +kernel
theorem own_d_jdk_52_method_16_code_5 : decode jdk_52_method_16_code 5 = .ok (.iload_n 1, 1) := by decide +kernel
theorem own_d_jdk_52_method_16_code_6 : decode jdk_52_method_16_code 6 = .ok (.aload_n 3, 1) := by decide +kernel
theorem own_d_jdk_52_method_16_code_7 : decode jdk_52_method_16_code 7 = .ok (.iconst 0, 1) := by decide +kernel
theorem own_d_jdk_52_method_16_code_8 : decode jdk_52_method_16_code 8 = .ok (.iload_n 2, 1) := by decide +kernel
theorem own_d_jdk_52_method_16_code_9 : decode jdk_52_method_16_code 9 = .ok (.invokestatic 115, 3) := by decide +kernel
theorem own_d_jdk_52_method_16_code_12 : decode jdk_52_method_16_code 12 = .ok (.istore 4, 2) := by decide +kernel
theorem own_d_jdk_52_method_16_code_14 : decode jdk_52_method_16_code 14 = .ok (.iload 4, 2) := by decide +kernel
theorem own_d_jdk_52_method_16_code_16 : decode jdk_52_method_16_code 16 = .ok (.iload_n 2, 1) := by decide +kernel
theorem own_d_jdk_52_method_16_code_17 : decode jdk_52_method_16_code 17 = .ok (.if_icmp .eq 40, 3) := by decide +kernel
theorem own_d_jdk_52_method_16_code_20 : decode jdk_52_method_16_code 20 = .ok (.aload_n 0, 1) := by decide +kernel
theorem own_d_jdk_52_method_16_code_21 : decode jdk_52_method_16_code 21 = .ok (.iload_n 1, 1) := by decide +kernel
theorem own_d_jdk_52_method_16_code_22 : decode jdk_52_method_16_code 22 = .ok (.iload_n 2, 1) := by decide +kernel
theorem own_d_jdk_52_method_16_code_23 : decode jdk_52_method_16_code 23 = .ok (.invokestatic 119, 3) := by decide +kernel
theorem own_d_jdk_52_method_16_code_26 : decode jdk_52_method_16_code 26 = .ok (.astore 5, 2) := by decide +kernel
theorem own_d_jdk_52_method_16_code_28 : decode jdk_52_method_16_code 28 = .ok (.aload 5, 2) := by decide +kernel
theorem own_d_jdk_52_method_16_code_30 : decode jdk_52_method_16_code 30 = .ok (.iload 4, 2) := by decide +kernel
theorem own_d_jdk_52_method_16_code_32 : decode jdk_52_method_16_code 32 = .ok (.invokestatic 71, 3) := by decide +kernel
theorem own_d_jdk_52_method_16_code_35 : decode jdk_52_method_16_code 35 = .ok (.sipush 255, 3) := by decide +kernel
theorem own_d_jdk_52_method_16_code_38 : decode jdk_52_method_16_code 38 = .ok (.if_icmp .gt 16, 3) := by decide +kernel
theorem own_d_jdk_52_method_16_code_41 : decode jdk_52_method_16_code 41 = .ok (.aload 5, 2) := by decide +kernel
theorem own_d_jdk_52_method_16_code_43 : decode jdk_52_method_16_code 43 = .ok (.iconst 0, 1) := by decide +kernel
theorem own_d_jdk_52_method_16_code_44 : decode jdk_52_method_16_code 44 = .ok (.aload_n 3, 1) := by decide +kernel
theorem own_d_jdk_52_method_16_code_45 : decode jdk_52_method_16_code 45 = .ok (.iconst 0, 1) := by decide +kernel
theorem own_d_jdk_52_method_16_code_46 : decode jdk_52_method_16_code 46 = .ok (.iload_n 2, 1) := by decide +kernel
theorem own_d_jdk_52_method_16_code_47 : decode jdk_52_method_16_code 47 = .ok (.invokestatic 123, 3) := by decide +kernel
theorem own_d_jdk_52_method_16_code_50 : decode jdk_52_method_16_code 50 = .ok (.iload_n 2, 1) := by decide +kernel
theorem own_d_jdk_52_method_16_code_51 : decode jdk_52_method_16_code 51 = .ok (.if_icmp .eq 6, 3) := by decide +kernel
theorem own_d_jdk_52_method_16_code_54 : decode jdk_52_method_16_code 54 = .ok (.aload 5, 2) := by decide +kernel
theorem own_d_jdk_52_method_16_code_56 : decode jdk_52_method_16_code 56 = .ok (.areturn, 1) := by decide +kernel
theorem own_d_jdk_52_method_16_code_57 : decode jdk_52_method_16_code 57 = .ok (.aload_n 3, 1) := by decide +kernel
theorem own_d_jdk_52_method_16_code_58 : decode jdk_52_method_16_code 58 = .ok (.areturn, 1) := by decide +kernel
theorem own_pd1 : parseMethodDescriptor "([CII)[B" = some ⟨[(.array .char), .int, .int], some (.array .byte)⟩ := by decide +kernel
abbrev own_rm_own_cmp1 : Room := ({ frames := 1, cells := 1, slots := 2, locals := 18 } : Room)
set_option maxRecDepth 65536 in
set_option maxHeartbeats 40000000 in
theorem own_cmp1 (l : Launch) (Z : State) (a0 : Array Value) (hw : ∀ d ∈ tables_1, d.before a0 Z = true) (a2 : Addr) (x0 x1 : Int32) (h0 : Heap) (n0 : Nat) (Z0 : n0 ≤ h0.size) (V1 : own_Vec Z h0 a2 .char [.int x0, .int x1]) (f_x0 : own_I 255 x0.toInt x0) (n_x0 : 0 ≤ x0.toInt ∧ x0.toInt ≤ ((255 : Nat) : Int))(f_x1 : own_I 255 x1.toInt x1) (n_x1 : 0 ≤ x1.toInt ∧ x1.toInt ≤ ((255 : Nat) : Int)) :
    own_Met l Z ({ cls := "java/lang/StringUTF16", name := "compress", desc := "([CII)[B" } : Jvm.MethodName) jdk_52_method_16_code 6 (some (.array .byte)) [] own_rm_own_cmp1 #[(.ref a2), (.int (0 : Int32)), (.int (2 : Int32))] h0 n0 (fun v h => ∃ b y0 y1, v = some (.ref b) ∧ own_Vec Z h b .byte [.int y0, .int y1] ∧ Keep h0 h []) := by
  have ww := fun (i : Nat) {d : Jvm.Cond} (q : tables_1[i]? = some d) => hw d (List.mem_of_getElem? q)
  refine own_meet (plainFor_of_name own_pn0) Z0 (Ls0 := #[oA a2, oI 0, oI 2, oU, oU, oU]) (by intro m; first | (simp [entryFrame, mkF, argsToLocals, Value.category]; done) | rfl) ?_
  intro p e s m below meth c T0 X0
  have K0 := Keep.refl h0 []
  refine own_iloadN X0 rfl own_d_jdk_52_method_16_code_0 (pc' := 1) rfl ?_
  refine own_newarray X0 (ty := .byte) rfl (ww 23 rfl) (n := 2) (vs := [(.int (0 : Int32)), (.int (0 : Int32))]) (by decide) (by decide) (by decide) rfl (cells' := 1) (slots' := 2) rfl rfl (by decide) (by decide) own_d_jdk_52_method_16_code_1 (pc' := 3) rfl fun a11 T11 h11 g11 ge11 X11 E11 V11 => ?_
  have ne12 : a2 ≠ a11 := own_lt_ne V1.lt g11
  have sz13 := own_ge K0 g11
  have V14 := V1.ext E11
  have K15 := K0.ext E11
  refine own_astoreN X11 (Ls' := #[oA a2, oI 0, oI 2, oA a11, oU, oU]) rfl rfl own_d_jdk_52_method_16_code_3 (pc' := 4) rfl ?_
  refine own_aloadN X11 rfl rfl own_d_jdk_52_method_16_code_4 (pc' := 5) rfl ?_
  refine own_iloadN X11 rfl own_d_jdk_52_method_16_code_5 (pc' := 6) rfl ?_
  refine own_aloadN X11 rfl rfl own_d_jdk_52_method_16_code_6 (pc' := 7) rfl ?_
  refine own_iconst X11 (v := (0 : Int32)) (by decide) own_d_jdk_52_method_16_code_7 (pc' := 8) rfl ?_
  refine own_iloadN X11 rfl own_d_jdk_52_method_16_code_8 (pc' := 9) rfl ?_
  refine own_callS X11 (own_cmp2 l Z a0 hw a2 a11 x0 x1 _ n0 X11.le ge11 V14 V11 ne12 f_x0 n_x0 f_x1 n_x1) (ww 24 rfl) (ww 25 rfl) (ww 21 rfl) (ww 26 rfl) (by decide) rfl (by decide) (W := 0) (Nat.le_of_eq rfl) (by decide) (cells' := 1) (slots' := 2) rfl rfl (by decide) (by decide) (argsL := [(.ref a2), (.int (0 : Int32)), (.ref a11), (.int (0 : Int32)), (.int (2 : Int32))]) (rest := []) (lenOf own_pd0 rfl) rfl rfl own_d_jdk_52_method_16_code_9 (pc' := 12) rfl ?_
  rintro _ T16 h16 X16 ⟨rfl, V16, K16⟩
  obtain ⟨y16a, y16b, V16⟩ := V16
  have K17 := K15.trans K16 (own_mem1 (Or.inr sz13))
  show own_Goal p e below _ T16 (mkF m 12 #[oA a2, oI 0, oI 2, oA a11, oU, oU] [(.int (2 : Int32))])
  refine own_istore X16 (Ls' := #[oA a2, oI 0, oI 2, oA a11, oI 2, oU]) rfl own_d_jdk_52_method_16_code_12 (pc' := 14) rfl ?_
  refine own_iload X16 rfl own_d_jdk_52_method_16_code_14 (pc' := 16) rfl ?_
  refine own_iloadN X16 rfl own_d_jdk_52_method_16_code_16 (pc' := 17) rfl ?_
  refine own_icmpT X16 (by decide) own_d_jdk_52_method_16_code_17 (pc' := 57) (by decide) (by decide) ?_
  refine own_aloadN X16 rfl rfl own_d_jdk_52_method_16_code_57 (pc' := 58) rfl ?_
  exact own_retA X16 (t := (.array .byte)) rfl own_d_jdk_52_method_16_code_58 rfl (by decide) (by decide) ⟨_, _, _, rfl, V16, K17⟩
theorem own_d_jdk_52_method_15_code_0 : decode jdk_52_method_15_code 0 = .ok (.iload_n 1, 1) := by decide +kernel
theorem own_d_jdk_52_method_15_code_1 : decode jdk_52_method_15_code 1 = .ok (.aload_n 0, 1) := by decide +kernel
theorem own_d_jdk_52_method_15_code_2 : decode jdk_52_method_15_code 2 = .ok (.arraylength, 1) := by decide +kernel
theorem own_d_jdk_52_method_15_code_3 : decode jdk_52_method_15_code 3 = .ok (.isub, 1) := by decide +kernel
theorem own_d_jdk_52_method_15_code_4 : decode jdk_52_method_15_code 4 = .ok (.bipush 31, 2) := by decide +kernel
theorem own_d_jdk_52_method_15_code_6 : decode jdk_52_method_15_code 6 = .ok (.iushr, 1) := by decide +kernel
theorem own_d_jdk_52_method_15_code_7 : decode jdk_52_method_15_code 7 = .ok (.i2b, 1) := by decide +kernel
theorem own_d_jdk_52_method_15_code_8 : decode jdk_52_method_15_code 8 = .ok (.ireturn, 1) := by decide +kernel
theorem own_pd2 : parseMethodDescriptor "([BI)B" = some ⟨[(.array .byte), .int], some .byte⟩ := by decide +kernel
abbrev own_rm_own_cfl : Room := ({ frames := 0, cells := 0, slots := 0, locals := 0 } : Room)
set_option maxRecDepth 65536 in
set_option maxHeartbeats 40000000 in
theorem own_cfl (l : Launch) (Z : State) (a0 : Array Value) (hw : ∀ d ∈ tables_1, d.before a0 Z = true) (a2 : Addr) (y0 y1 : Int32) (h0 : Heap) (n0 : Nat) (Z0 : n0 ≤ h0.size) (V1 : own_Vec Z h0 a2 .byte [.int y0, .int y1]) :
    own_Met l Z ({ cls := "java/lang/StringUTF16", name := "coderFromArrayLen", desc := "([BI)B" } : Jvm.MethodName) jdk_52_method_15_code 2 (some .byte) [] own_rm_own_cfl #[(.ref a2), (.int (2 : Int32))] h0 n0 (fun v h => v = some (.int 0) ∧ h = h0) := by
  have ww := fun (i : Nat) {d : Jvm.Cond} (q : tables_1[i]? = some d) => hw d (List.mem_of_getElem? q)
  refine own_meet (plainFor_of_name own_pn0) Z0 (Ls0 := #[oA a2, oI 2]) (by intro m; first | (simp [entryFrame, mkF, argsToLocals, Value.category]; done) | rfl) ?_
  intro p e s m below meth c T0 X0
  refine own_iloadN X0 rfl own_d_jdk_52_method_15_code_0 (pc' := 1) rfl ?_
  refine own_aloadN X0 rfl rfl own_d_jdk_52_method_15_code_1 (pc' := 2) rfl ?_
  refine own_len X0 V1 (v := (2 : Int32)) (show (2 : Nat).toInt32 = (2 : Int32) by decide) own_d_jdk_52_method_15_code_2 (pc' := 3) rfl ?_
  refine own_isub X0 (v := (0 : Int32)) (by decide) own_d_jdk_52_method_15_code_3 (pc' := 4) rfl ?_
  refine own_bipush X0 (v := (31 : Int32)) (by decide) own_d_jdk_52_method_15_code_4 (pc' := 6) rfl ?_
  refine own_iushr X0 (v := (0 : Int32)) (by decide) own_d_jdk_52_method_15_code_6 (pc' := 7) rfl ?_
  refine own_i2b X0 (v := (0 : Int32)) (by decide) own_d_jdk_52_method_15_code_7 (pc' := 8) rfl ?_
  exact own_retN X0 (t := .byte) (by decide) (by simp) own_d_jdk_52_method_15_code_8 rfl (by decide) (by decide) ⟨rfl, rfl⟩
theorem own_d_jdk_42_method_149_code_0 : decode jdk_42_method_149_code 0 = .ok (.aload_n 0, 1) := by decide +kernel
theorem own_d_jdk_42_method_149_code_1 : decode jdk_42_method_149_code 1 = .ok (.invokespecial 1, 3) := by decide +kernel
theorem own_d_jdk_42_method_149_code_4 : decode jdk_42_method_149_code 4 = .ok (.iload_n 3, 1) := by decide +kernel
theorem own_d_jdk_42_method_149_code_5 : decode jdk_42_method_149_code 5 = .ok (.ifCond .ne 22, 3) := by decide +kernel
theorem own_d_jdk_42_method_149_code_8 : decode jdk_42_method_149_code 8 = .ok (.aload_n 0, 1) := by decide +kernel
theorem own_d_jdk_42_method_149_code_9 : decode jdk_42_method_149_code 9 = .ok (.ldc 7, 2) := by decide +kernel
theorem own_d_jdk_42_method_149_code_11 : decode jdk_42_method_149_code 11 = .ok (.getfield 9, 3) := by decide +kernel
theorem own_d_jdk_42_method_149_code_14 : decode jdk_42_method_149_code 14 = .ok (.putfield 9, 3) := by decide +kernel
theorem own_d_jdk_42_method_149_code_17 : decode jdk_42_method_149_code 17 = .ok (.aload_n 0, 1) := by decide +kernel
theorem own_d_jdk_42_method_149_code_18 : decode jdk_42_method_149_code 18 = .ok (.ldc 7, 2) := by decide +kernel
theorem own_d_jdk_42_method_149_code_20 : decode jdk_42_method_149_code 20 = .ok (.getfield 15, 3) := by decide +kernel
theorem own_d_jdk_42_method_149_code_23 : decode jdk_42_method_149_code 23 = .ok (.putfield 15, 3) := by decide +kernel
theorem own_d_jdk_42_method_149_code_26 : decode jdk_42_method_149_code 26 = .ok (.return_, 1) := by decide +kernel
theorem own_d_jdk_42_method_149_code_27 : decode jdk_42_method_149_code 27 = .ok (.getstatic 38, 3) := by decide +kernel
theorem own_d_jdk_42_method_149_code_30 : decode jdk_42_method_149_code 30 = .ok (.ifCond .eq 28, 3) := by decide +kernel
theorem own_d_jdk_42_method_149_code_33 : decode jdk_42_method_149_code 33 = .ok (.aload_n 1, 1) := by decide +kernel
theorem own_d_jdk_42_method_149_code_34 : decode jdk_42_method_149_code 34 = .ok (.iload_n 2, 1) := by decide +kernel
theorem own_d_jdk_42_method_149_code_35 : decode jdk_42_method_149_code 35 = .ok (.iload_n 3, 1) := by decide +kernel
theorem own_d_jdk_42_method_149_code_36 : decode jdk_42_method_149_code 36 = .ok (.invokestatic 177, 3) := by decide +kernel
theorem own_d_jdk_42_method_149_code_39 : decode jdk_42_method_149_code 39 = .ok (.astore 5, 2) := by decide +kernel
theorem own_d_jdk_42_method_149_code_41 : decode jdk_42_method_149_code 41 = .ok (.aload_n 0, 1) := by decide +kernel
theorem own_d_jdk_42_method_149_code_42 : decode jdk_42_method_149_code 42 = .ok (.aload 5, 2) := by decide +kernel
theorem own_d_jdk_42_method_149_code_44 : decode jdk_42_method_149_code 44 = .ok (.iload_n 3, 1) := by decide +kernel
theorem own_d_jdk_42_method_149_code_45 : decode jdk_42_method_149_code 45 = .ok (.invokestatic 47, 3) := by decide +kernel
theorem own_d_jdk_42_method_149_code_48 : decode jdk_42_method_149_code 48 = .ok (.putfield 15, 3) := by decide +kernel
theorem own_d_jdk_42_method_149_code_51 : decode jdk_42_method_149_code 51 = .ok (.aload_n 0, 1) := by decide +kernel
theorem own_d_jdk_42_method_149_code_52 : decode jdk_42_method_149_code 52 = .ok (.aload 5, 2) := by decide +kernel
theorem own_d_jdk_42_method_149_code_54 : decode jdk_42_method_149_code 54 = .ok (.putfield 9, 3) := by decide +kernel
theorem own_d_jdk_42_method_149_code_57 : decode jdk_42_method_149_code 57 = .ok (.return_, 1) := by decide +kernel
theorem own_d_jdk_42_method_149_code_58 : decode jdk_42_method_149_code 58 = .ok (.aload_n 0, 1) := by decide +kernel
theorem own_d_jdk_42_method_149_code_59 : decode jdk_42_method_149_code 59 = .ok (.iconst 1, 1) := by decide +kernel
theorem own_d_jdk_42_method_149_code_60 : decode jdk_42_method_149_code 60 = .ok (.putfield 15, 3) := by decide +kernel
theorem own_d_jdk_42_method_149_code_63 : decode jdk_42_method_149_code 63 = .ok (.aload_n 0, 1) := by decide +kernel
theorem own_d_jdk_42_method_149_code_64 : decode jdk_42_method_149_code 64 = .ok (.aload_n 1, 1) := by decide +kernel
theorem own_d_jdk_42_method_149_code_65 : decode jdk_42_method_149_code 65 = .ok (.iload_n 2, 1) := by decide +kernel
theorem own_d_jdk_42_method_149_code_66 : decode jdk_42_method_149_code 66 = .ok (.iload_n 3, 1) := by decide +kernel
theorem own_d_jdk_42_method_149_code_67 : decode jdk_42_method_149_code 67 = .ok (.invokestatic 180, 3) := by decide +kernel
theorem own_d_jdk_42_method_149_code_70 : decode jdk_42_method_149_code 70 = .ok (.putfield 9, 3) := by decide +kernel
theorem own_d_jdk_42_method_149_code_73 : decode jdk_42_method_149_code 73 = .ok (.return_, 1) := by decide +kernel
theorem own_pd3 : parseMethodDescriptor "([CIILjava/lang/Void;)V" = some ⟨[(.array .char), .int, .int, (.object "java/lang/Void")], none⟩ := by decide +kernel
theorem own_pn1 : plainName "java/lang/String" = true := by first | (simp [plainName, overriddenIn]; done) | decide +kernel
abbrev own_rm_own_si4 : Room := ({ frames := 2, cells := 1, slots := 2, locals := 35 } : Room)
set_option maxRecDepth 65536 in
set_option maxHeartbeats 40000000 in
theorem own_si4 (l : Launch) (Z : State) (a0 : Array Value) (hw : ∀ d ∈ tables_1, d.before a0 Z = true) (a1 a2 : Addr) (x0 x1 : Int32) (h0 : Heap) (n0 : Nat) (Z0 : n0 ≤ h0.size) (ge1 : n0 ≤ a1) (A1 : Exa Z h0 a1 "java/lang/String") (F1 : Fld Z h0 a1 "java/lang/String" "coder" "B" (.int (0 : Int32))) (F2 : Fld Z h0 a1 "java/lang/String" "value" "[B" .null) (V1 : own_Vec Z h0 a2 .char [.int x0, .int x1]) (f_x0 : own_I 255 x0.toInt x0) (n_x0 : 0 ≤ x0.toInt ∧ x0.toInt ≤ ((255 : Nat) : Int))(f_x1 : own_I 255 x1.toInt x1) (n_x1 : 0 ≤ x1.toInt ∧ x1.toInt ≤ ((255 : Nat) : Int))(cs : Int32) (S0 : Sta Z h0 "java/lang/String" "COMPACT_STRINGS" "Z" (.int cs)) (hcs : ¬ cs = 0) :
    own_Met l Z ({ cls := "java/lang/String", name := "<init>", desc := "([CIILjava/lang/Void;)V" } : Jvm.MethodName) jdk_42_method_149_code 6 none [] own_rm_own_si4 #[(.ref a1), (.ref a2), (.int (0 : Int32)), (.int (2 : Int32)), .null] h0 n0 (fun v h => v = none ∧ Keep h0 h [a1]) := by
  have ww := fun (i : Nat) {d : Jvm.Cond} (q : tables_1[i]? = some d) => hw d (List.mem_of_getElem? q)
  refine own_meet (plainFor_of_name own_pn1) Z0 (Ls0 := #[oA a1, oA a2, oI 0, oI 2, .val .null, oU]) (by intro m; first | (simp [entryFrame, mkF, argsToLocals, Value.category]; done) | rfl) ?_
  intro p e s m below meth c T0 X0
  have K0 := Keep.refl h0 [a1]
  refine own_aloadN X0 rfl rfl own_d_jdk_42_method_149_code_0 (pc' := 1) rfl ?_
  refine own_initO X0 (ww 15 rfl) (ww 16 rfl) (ww 17 rfl) rfl (by decide) (W := 0) (Nat.le_of_eq rfl) (by decide) own_d_jdk_42_method_149_code_1 (pc' := 4) rfl fun T18 X18 => ?_
  refine own_iloadN X18 rfl own_d_jdk_42_method_149_code_4 (pc' := 5) rfl ?_
  refine own_ifT X18 (by decide) own_d_jdk_42_method_149_code_5 (pc' := 27) (by decide) (by decide) ?_
  refine own_getS X18 (ww 18 rfl) S0 own_d_jdk_42_method_149_code_27 (pc' := 30) rfl fun T19 X19 => ?_
  have c20 : ¬ (cs = 0) := hcs
  refine own_ifF X19 (own_z_ne c20).1 own_d_jdk_42_method_149_code_30 (pc' := 33) rfl ?_
  refine own_aloadN X19 rfl rfl own_d_jdk_42_method_149_code_33 (pc' := 34) rfl ?_
  refine own_iloadN X19 rfl own_d_jdk_42_method_149_code_34 (pc' := 35) rfl ?_
  refine own_iloadN X19 rfl own_d_jdk_42_method_149_code_35 (pc' := 36) rfl ?_
  refine own_callS X19 (own_cmp1 l Z a0 hw a2 x0 x1 _ n0 X19.le V1 f_x0 n_x0 f_x1 n_x1) (ww 19 rfl) (ww 20 rfl) (ww 21 rfl) (ww 22 rfl) (by decide) rfl (by decide) (W := 0) (Nat.le_of_eq rfl) (by decide) (cells' := 1) (slots' := 2) rfl rfl (by decide) (by decide) (argsL := [(.ref a2), (.int (0 : Int32)), (.int (2 : Int32))]) (rest := []) (lenOf own_pd1 rfl) rfl rfl own_d_jdk_42_method_149_code_36 (pc' := 39) rfl ?_
  rintro _ T21 h21 X21 ⟨b21, y21a, y21b, rfl, V21, K21⟩
  have K22 := K0.trans K21 own_mem0
  have A23 := A1.keep K21
  have F24 := F1.keep K21 nin0
  have F25 := F2.keep K21 nin0
  show own_Goal p e below _ T21 (mkF m 39 #[oA a1, oA a2, oI 0, oI 2, .val .null, oU] [(.ref b21)])
  refine own_astore X21 (Ls' := #[oA a1, oA a2, oI 0, oI 2, .val .null, oA b21]) rfl rfl own_d_jdk_42_method_149_code_39 (pc' := 41) rfl ?_
  refine own_aloadN X21 rfl rfl own_d_jdk_42_method_149_code_41 (pc' := 42) rfl ?_
  refine own_aload X21 rfl rfl own_d_jdk_42_method_149_code_42 (pc' := 44) rfl ?_
  refine own_iloadN X21 rfl own_d_jdk_42_method_149_code_44 (pc' := 45) rfl ?_
  refine own_callS X21 (own_cfl l Z a0 hw b21 y21a y21b _ n0 X21.le V21) (ww 27 rfl) (ww 28 rfl) (ww 21 rfl) (ww 29 rfl) (by decide) rfl (by decide) (W := 1) (Nat.le_of_eq rfl) (by decide) (cells' := 1) (slots' := 2) rfl rfl (by decide) (by decide) (argsL := [(.ref b21), (.int (2 : Int32))]) (rest := [(.ref a1)]) (lenOf own_pd2 rfl) rfl rfl own_d_jdk_42_method_149_code_45 (pc' := 48) rfl ?_
  rintro _ T26 h26 X26 ⟨rfl, e26⟩
  subst e26
  show own_Goal p e below _ T26 (mkF m 48 #[oA a1, oA a2, oI 0, oI 2, .val .null, oA b21] [(.int (0 : Int32)), (.ref a1)])
  refine own_putF X26 (ww 30 rfl) F24 A23 (Or.inr ⟨(ww 31 rfl), rfl, rfl⟩) (ww 6 rfl) (ty := .byte) (by decide) rfl rfl ge1 own_d_jdk_42_method_149_code_48 (pc' := 51) rfl fun T27 h27 X27 W27 => ?_
  have A28 := A23.wr W27
  have K29 := K22.wr W27 (Or.inl (by simp))
  have F30 := F24.same W27
  have F31 := F25.other W27 (Or.inr (slot_ne (C := "java/lang/String") (Or.inr (ww 33 rfl)) (Or.inr (ww 31 rfl)) (by decide) (t := (.array .byte)) (t' := .byte) (by decide) (by decide)))
  refine own_aloadN X27 rfl rfl own_d_jdk_42_method_149_code_51 (pc' := 52) rfl ?_
  refine own_aload X27 rfl rfl own_d_jdk_42_method_149_code_52 (pc' := 54) rfl ?_
  refine own_putF X27 (ww 32 rfl) F31 A28 (Or.inr ⟨(ww 33 rfl), rfl, rfl⟩) (ww 6 rfl) (ty := (.array .byte)) (by decide) rfl rfl ge1 own_d_jdk_42_method_149_code_54 (pc' := 57) rfl fun T32 h32 X32 W32 => ?_
  have A33 := A28.wr W32
  have K34 := K29.wr W32 (Or.inl (by simp))
  have F35 := F31.same W32
  have F36 := F30.other W32 (Or.inr (slot_ne (C := "java/lang/String") (Or.inr (ww 31 rfl)) (Or.inr (ww 33 rfl)) (by decide) (t := .byte) (t' := (.array .byte)) (by decide) (by decide)))
  exact own_retV X32  own_d_jdk_42_method_149_code_57 rfl (by decide) (by decide) ⟨rfl, K34⟩
theorem own_d_jdk_42_method_3_code_0 : decode jdk_42_method_3_code 0 = .ok (.aload_n 0, 1) := by decide +kernel
theorem own_d_jdk_42_method_3_code_1 : decode jdk_42_method_3_code 1 = .ok (.aload_n 1, 1) := by decide +kernel
theorem own_d_jdk_42_method_3_code_2 : decode jdk_42_method_3_code 2 = .ok (.iconst 0, 1) := by decide +kernel
theorem own_d_jdk_42_method_3_code_3 : decode jdk_42_method_3_code 3 = .ok (.aload_n 1, 1) := by decide +kernel
theorem own_d_jdk_42_method_3_code_4 : decode jdk_42_method_3_code 4 = .ok (.arraylength, 1) := by decide +kernel
theorem own_d_jdk_42_method_3_code_5 : decode jdk_42_method_3_code 5 = .ok (.aconst_null, 1) := by decide +kernel
theorem own_d_jdk_42_method_3_code_6 : decode jdk_42_method_3_code 6 = .ok (.invokespecial 27, 3) := by decide +kernel
theorem own_d_jdk_42_method_3_code_9 : decode jdk_42_method_3_code 9 = .ok (.return_, 1) := by decide +kernel
theorem own_pd4 : parseMethodDescriptor "([C)V" = some ⟨[(.array .char)], none⟩ := by decide +kernel
abbrev own_rm_own_si1 : Room := ({ frames := 3, cells := 1, slots := 2, locals := 52 } : Room)
set_option maxRecDepth 65536 in
set_option maxHeartbeats 40000000 in
theorem own_si1 (l : Launch) (Z : State) (a0 : Array Value) (hw : ∀ d ∈ tables_1, d.before a0 Z = true) (a1 a2 : Addr) (x0 x1 : Int32) (h0 : Heap) (n0 : Nat) (Z0 : n0 ≤ h0.size) (ge1 : n0 ≤ a1) (A1 : Exa Z h0 a1 "java/lang/String") (F1 : Fld Z h0 a1 "java/lang/String" "coder" "B" (.int (0 : Int32))) (F2 : Fld Z h0 a1 "java/lang/String" "value" "[B" .null) (V1 : own_Vec Z h0 a2 .char [.int x0, .int x1]) (f_x0 : own_I 255 x0.toInt x0) (n_x0 : 0 ≤ x0.toInt ∧ x0.toInt ≤ ((255 : Nat) : Int))(f_x1 : own_I 255 x1.toInt x1) (n_x1 : 0 ≤ x1.toInt ∧ x1.toInt ≤ ((255 : Nat) : Int))(cs : Int32) (S0 : Sta Z h0 "java/lang/String" "COMPACT_STRINGS" "Z" (.int cs)) (hcs : ¬ cs = 0) :
    own_Met l Z ({ cls := "java/lang/String", name := "<init>", desc := "([C)V" } : Jvm.MethodName) jdk_42_method_3_code 2 none [] own_rm_own_si1 #[(.ref a1), (.ref a2)] h0 n0 (fun v h => v = none ∧ Keep h0 h [a1]) := by
  have ww := fun (i : Nat) {d : Jvm.Cond} (q : tables_1[i]? = some d) => hw d (List.mem_of_getElem? q)
  refine own_meet (plainFor_of_name own_pn1) Z0 (Ls0 := #[oA a1, oA a2]) (by intro m; first | (simp [entryFrame, mkF, argsToLocals, Value.category]; done) | rfl) ?_
  intro p e s m below meth c T0 X0
  have K0 := Keep.refl h0 [a1]
  refine own_aloadN X0 rfl rfl own_d_jdk_42_method_3_code_0 (pc' := 1) rfl ?_
  refine own_aloadN X0 rfl rfl own_d_jdk_42_method_3_code_1 (pc' := 2) rfl ?_
  refine own_iconst X0 (v := (0 : Int32)) (by decide) own_d_jdk_42_method_3_code_2 (pc' := 3) rfl ?_
  refine own_aloadN X0 rfl rfl own_d_jdk_42_method_3_code_3 (pc' := 4) rfl ?_
  refine own_len X0 V1 (v := (2 : Int32)) (show (2 : Nat).toInt32 = (2 : Int32) by decide) own_d_jdk_42_method_3_code_4 (pc' := 5) rfl ?_
  refine own_aconst_null X0  own_d_jdk_42_method_3_code_5 (pc' := 6) rfl ?_
  refine own_special X0 (own_si4 l Z a0 hw a1 a2 x0 x1 _ n0 X0.le ge1 A1 F1 F2 V1 f_x0 n_x0 f_x1 n_x1 cs S0 hcs) rfl rfl (ww 11 rfl) (ww 12 rfl) (ww 7 rfl) (ww 14 rfl) (by decide) rfl (by decide) (W := 0) (Nat.le_of_eq rfl) (by decide) (cells' := 1) (slots' := 2) rfl rfl (by decide) (by decide) (argsL := [(.ref a2), (.int (0 : Int32)), (.int (2 : Int32)), .null]) (rest := []) (lenOf own_pd3 rfl) rfl rfl own_d_jdk_42_method_3_code_6 (pc' := 9) rfl ?_
  rintro _ T37 h37 X37 ⟨rfl, K37⟩
  show own_Goal p e below _ T37 (mkF m 9 #[oA a1, oA a2] [])
  exact own_retV X37  own_d_jdk_42_method_3_code_9 rfl (by decide) (by decide) ⟨rfl, K37⟩
theorem own_d_method_2_code_0 : decode method_2_code 0 = .ok (.iconst 2, 1) := by decide +kernel
theorem own_d_method_2_code_1 : decode method_2_code 1 = .ok (.newarray .char, 2) := by decide +kernel
theorem own_d_method_2_code_3 : decode method_2_code 3 = .ok (.astore_n 3, 1) := by decide +kernel
theorem own_d_method_2_code_4 : decode method_2_code 4 = .ok (.aload_n 3, 1) := by decide +kernel
theorem own_d_method_2_code_5 : decode method_2_code 5 = .ok (.iconst 0, 1) := by decide +kernel
theorem own_d_method_2_code_6 : decode method_2_code 6 = .ok (.iload_n 0, 1) := by decide +kernel
theorem own_d_method_2_code_7 : decode method_2_code 7 = .ok (.bipush 8, 2) := by decide +kernel
theorem own_d_method_2_code_9 : decode method_2_code 9 = .ok (.iload_n 2, 1) := by decide +kernel
theorem own_d_method_2_code_10 : decode method_2_code 10 = .ok (.imul, 1) := by decide +kernel
theorem own_d_method_2_code_11 : decode method_2_code 11 = .ok (.iushr, 1) := by decide +kernel
theorem own_d_method_2_code_12 : decode method_2_code 12 = .ok (.sipush 255, 3) := by decide +kernel
theorem own_d_method_2_code_15 : decode method_2_code 15 = .ok (.iand, 1) := by decide +kernel
theorem own_d_method_2_code_16 : decode method_2_code 16 = .ok (.i2c, 1) := by decide +kernel
theorem own_d_method_2_code_17 : decode method_2_code 17 = .ok (.castore, 1) := by decide +kernel
theorem own_d_method_2_code_18 : decode method_2_code 18 = .ok (.aload_n 3, 1) := by decide +kernel
theorem own_d_method_2_code_19 : decode method_2_code 19 = .ok (.iconst 1, 1) := by decide +kernel
theorem own_d_method_2_code_20 : decode method_2_code 20 = .ok (.iload_n 1, 1) := by decide +kernel
theorem own_d_method_2_code_21 : decode method_2_code 21 = .ok (.bipush 8, 2) := by decide +kernel
theorem own_d_method_2_code_23 : decode method_2_code 23 = .ok (.iload_n 2, 1) := by decide +kernel
theorem own_d_method_2_code_24 : decode method_2_code 24 = .ok (.imul, 1) := by decide +kernel
theorem own_d_method_2_code_25 : decode method_2_code 25 = .ok (.iushr, 1) := by decide +kernel
theorem own_d_method_2_code_26 : decode method_2_code 26 = .ok (.sipush 255, 3) := by decide +kernel
theorem own_d_method_2_code_29 : decode method_2_code 29 = .ok (.iand, 1) := by decide +kernel
theorem own_d_method_2_code_30 : decode method_2_code 30 = .ok (.i2c, 1) := by decide +kernel
theorem own_d_method_2_code_31 : decode method_2_code 31 = .ok (.castore, 1) := by decide +kernel
theorem own_d_method_2_code_32 : decode method_2_code 32 = .ok (.new 7, 3) := by decide +kernel
theorem own_d_method_2_code_35 : decode method_2_code 35 = .ok (.dup, 1) := by decide +kernel
theorem own_d_method_2_code_36 : decode method_2_code 36 = .ok (.aload_n 3, 1) := by decide +kernel
theorem own_d_method_2_code_37 : decode method_2_code 37 = .ok (.invokespecial 9, 3) := by decide +kernel
theorem own_d_method_2_code_40 : decode method_2_code 40 = .ok (.areturn, 1) := by decide +kernel
theorem own_pd5 : parseMethodDescriptor "(III)Ljava/lang/String;" = some ⟨[.int, .int, .int], some (.object "java/lang/String")⟩ := by decide +kernel
theorem own_pn2 : plainName "com/example/cladewalk/cladewalk/tree/TreeNamePinLaw" = true := by first | (simp [plainName, overriddenIn]; done) | decide +kernel
abbrev own_rm_own_two : Room := ({ frames := 4, cells := 3, slots := 8, locals := 66 } : Room)
set_option maxRecDepth 65536 in
set_option maxHeartbeats 40000000 in
theorem own_two (l : Launch) (Z : State) (a0 : Array Value) (hw : ∀ d ∈ tables_1, d.before a0 Z = true) (q0 q1 q2 : Int32) (h0 : Heap) (n0 : Nat) (Z0 : n0 ≤ h0.size) (cs : Int32) (S0 : Sta Z h0 "java/lang/String" "COMPACT_STRINGS" "Z" (.int cs)) (hcs : ¬ cs = 0) :
    own_Met l Z ({ cls := "com/example/cladewalk/cladewalk/tree/TreeNamePinLaw", name := "two", desc := "(III)Ljava/lang/String;" } : Jvm.MethodName) method_2_code 4 (some (.object "java/lang/String")) [] own_rm_own_two #[(.int q0), (.int q1), (.int q2)] h0 n0 (fun v h => ∃ b, v = some (.ref b) ∧ Exa Z h b "java/lang/String" ∧ Keep h0 h []) := by
  have ww := fun (i : Nat) {d : Jvm.Cond} (q : tables_1[i]? = some d) => hw d (List.mem_of_getElem? q)
  refine own_meet (plainFor_of_name own_pn2) Z0 (Ls0 := #[oI q0, oI q1, oI q2, oU]) (by intro m; first | (simp [entryFrame, mkF, argsToLocals, Value.category]; done) | rfl) ?_
  intro p e s m below meth c T0 X0
  have K0 := Keep.refl h0 []
  refine own_iconst X0 (v := (2 : Int32)) (by decide) own_d_method_2_code_0 (pc' := 1) rfl ?_
  refine own_newarray X0 (ty := .char) rfl (ww 4 rfl) (n := 2) (vs := [(.int (0 : Int32)), (.int (0 : Int32))]) (by decide) (by decide) (by decide) rfl (cells' := 1) (slots' := 2) rfl rfl (by decide) (by decide) own_d_method_2_code_1 (pc' := 3) rfl fun a38 T38 h38 g38 ge38 X38 E38 V38 => ?_
  have sz39 := own_ge K0 g38
  have S40 := S0.ext E38
  have K41 := K0.ext E38
  refine own_astoreN X38 (Ls' := #[oI q0, oI q1, oI q2, oA a38]) rfl rfl own_d_method_2_code_3 (pc' := 4) rfl ?_
  refine own_aloadN X38 rfl rfl own_d_method_2_code_4 (pc' := 5) rfl ?_
  refine own_iconst X38 (v := (0 : Int32)) (by decide) own_d_method_2_code_5 (pc' := 6) rfl ?_
  refine own_iloadN X38 rfl own_d_method_2_code_6 (pc' := 7) rfl ?_
  refine own_bipush X38 (v := (8 : Int32)) (by decide) own_d_method_2_code_7 (pc' := 9) rfl ?_
  refine own_iloadN X38 rfl own_d_method_2_code_9 (pc' := 10) rfl ?_
  obtain ⟨i42, e42⟩ : ∃ v, (8 : Int32) * q2 = v := ⟨_, rfl⟩
  have f43 : own_I 8 (8 : Int) (8 : Int32) := own_I.lit (by decide) (by decide)
  have f44 := own_I.start q2
  refine own_imul X38 e42 own_d_method_2_code_10 (pc' := 11) rfl ?_
  obtain ⟨i45, e45⟩ : ∃ v, XT.ushr q0 i42 = v := ⟨_, rfl⟩
  refine own_iushr X38 e45 own_d_method_2_code_11 (pc' := 12) rfl ?_
  refine own_sipush X38 (v := (255 : Int32)) (by decide) own_d_method_2_code_12 (pc' := 15) rfl ?_
  obtain ⟨i46, e46⟩ : ∃ v, i45 &&& (255 : Int32) = v := ⟨_, rfl⟩
  have f46 : own_I 255 i46.toInt i46 := own_I.and e46 (by decide)
  have nn46 := own_and_nn (M := 255) e46 (by decide)
  refine own_iand X38 e46 own_d_method_2_code_15 (pc' := 16) rfl ?_
  refine own_i2c X38 (v := i46) (own_i2c_mask e46) own_d_method_2_code_16 (pc' := 17) rfl ?_
  refine own_castore X38 V38  ge38 (own_char (own_i2c_mask e46)) (i := 0) (by decide) (by decide) (show 0 < 2 by decide) own_d_method_2_code_17 (pc' := 18) rfl fun T48 h48 X48 W48 V48 => ?_
  have S49 := S40.wr W48
  have K50 := K41.wr W48 (Or.inr sz39)
  replace V48 : own_Vec Z h48 a38 .char [(.int i46), (.int (0 : Int32))] := V48
  refine own_aloadN X48 rfl rfl own_d_method_2_code_18 (pc' := 19) rfl ?_
  refine own_iconst X48 (v := (1 : Int32)) (by decide) own_d_method_2_code_19 (pc' := 20) rfl ?_
  refine own_iloadN X48 rfl own_d_method_2_code_20 (pc' := 21) rfl ?_
  refine own_bipush X48 (v := (8 : Int32)) (by decide) own_d_method_2_code_21 (pc' := 23) rfl ?_
  refine own_iloadN X48 rfl own_d_method_2_code_23 (pc' := 24) rfl ?_
  obtain ⟨i51, e51⟩ : ∃ v, (8 : Int32) * q2 = v := ⟨_, rfl⟩
  have f52 : own_I 8 (8 : Int) (8 : Int32) := own_I.lit (by decide) (by decide)
  refine own_imul X48 e51 own_d_method_2_code_24 (pc' := 25) rfl ?_
  obtain ⟨i53, e53⟩ : ∃ v, XT.ushr q1 i51 = v := ⟨_, rfl⟩
  refine own_iushr X48 e53 own_d_method_2_code_25 (pc' := 26) rfl ?_
  refine own_sipush X48 (v := (255 : Int32)) (by decide) own_d_method_2_code_26 (pc' := 29) rfl ?_
  obtain ⟨i54, e54⟩ : ∃ v, i53 &&& (255 : Int32) = v := ⟨_, rfl⟩
  have f54 : own_I 255 i54.toInt i54 := own_I.and e54 (by decide)
  have nn54 := own_and_nn (M := 255) e54 (by decide)
  refine own_iand X48 e54 own_d_method_2_code_29 (pc' := 30) rfl ?_
  refine own_i2c X48 (v := i54) (own_i2c_mask e54) own_d_method_2_code_30 (pc' := 31) rfl ?_
  refine own_castore X48 V48  ge38 (own_char (own_i2c_mask e54)) (i := 1) (by decide) (by decide) (show 1 < 2 by decide) own_d_method_2_code_31 (pc' := 32) rfl fun T56 h56 X56 W56 V56 => ?_
  have S57 := S49.wr W56
  have K58 := K50.wr W56 (Or.inr sz39)
  replace V56 : own_Vec Z h56 a38 .char [(.int i46), (.int i54)] := V56
  refine own_new X56 (ww 5 rfl) (ww 6 rfl) (ww 7 rfl) (cells' := 2) (slots' := 6) rfl rfl (by decide) (by decide) own_d_method_2_code_32 (pc' := 35) rfl fun a59 T59 h59 g59 ge59 X59 E59 A59 D59 => ?_
  have ne60 : a38 ≠ a59 := own_lt_ne V56.lt g59
  have sz61 := own_ge K58 g59
  have V62 := V56.ext E59
  have S63 := S57.ext E59
  have K64 := K58.ext E59
  have F65 : Fld Z h59 a59 "java/lang/String" "coder" "B" (.int (0 : Int32)) := D59 (Or.inr (ww 31 rfl)) (ty := .byte) (by decide)
  have F66 : Fld Z h59 a59 "java/lang/String" "value" "[B" .null := D59 (Or.inr (ww 33 rfl)) (ty := (.array .byte)) (by decide)
  refine own_dup X59 rfl own_d_method_2_code_35 (pc' := 36) rfl ?_
  refine own_aloadN X59 rfl rfl own_d_method_2_code_36 (pc' := 37) rfl ?_
  refine own_special X59 (own_si1 l Z a0 hw a59 a38 i46 i54 _ n0 X59.le ge59 A59 F65 F66 V62 f46 nn46 f54 nn54 cs S63 hcs) rfl rfl (ww 8 rfl) (ww 9 rfl) (ww 7 rfl) (ww 10 rfl) (by decide) rfl (by decide) (W := 1) (Nat.le_of_eq rfl) (by decide) (cells' := 3) (slots' := 8) rfl rfl (by decide) (by decide) (argsL := [(.ref a38)]) (rest := [(.ref a59)]) (lenOf own_pd4 rfl) rfl rfl own_d_method_2_code_37 (pc' := 40) rfl ?_
  rintro _ T67 h67 X67 ⟨rfl, K67⟩
  have S68 := own_Sta.keep1 S63 K67 A59
  have A69 := A59.keep K67
  have K70 := K64.trans K67 (own_mem1 (Or.inr sz61))
  show own_Goal p e below _ T67 (mkF m 40 #[oI q0, oI q1, oI q2, oA a38] [(.ref a59)])
  exact own_retA X67 (t := (.object "java/lang/String")) rfl own_d_method_2_code_40 rfl (by decide) (by decide) ⟨_, rfl, A69, K70⟩
theorem own_d_jdk_43_method_3_code_0 : decode jdk_43_method_3_code 0 = .ok (.iload_n 0, 1) := by decide +kernel
theorem own_d_jdk_43_method_3_code_1 : decode jdk_43_method_3_code 1 = .ok (.sipush 255, 3) := by decide +kernel
theorem own_d_jdk_43_method_3_code_4 : decode jdk_43_method_3_code 4 = .ok (.if_icmp .gt 7, 3) := by decide +kernel
theorem own_d_jdk_43_method_3_code_7 : decode jdk_43_method_3_code 7 = .ok (.iconst 1, 1) := by decide +kernel
theorem own_d_jdk_43_method_3_code_8 : decode jdk_43_method_3_code 8 = .ok (.goto 4, 3) := by decide +kernel
theorem own_d_jdk_43_method_3_code_11 : decode jdk_43_method_3_code 11 = .ok (.iconst 0, 1) := by decide +kernel
theorem own_d_jdk_43_method_3_code_12 : decode jdk_43_method_3_code 12 = .ok (.ireturn, 1) := by decide +kernel
theorem own_pd6 : parseMethodDescriptor "(C)Z" = some ⟨[.char], some .boolean⟩ := by decide +kernel
theorem own_pn3 : plainName "java/lang/StringLatin1" = true := by first | (simp [plainName, overriddenIn]; done) | decide +kernel
abbrev own_rm_own_can : Room := ({ frames := 0, cells := 0, slots := 0, locals := 0 } : Room)
set_option maxRecDepth 65536 in
set_option maxHeartbeats 40000000 in
theorem own_can (l : Launch) (Z : State) (a0 : Array Value) (hw : ∀ d ∈ tables_1, d.before a0 Z = true) (x0 : Int32) (h0 : Heap) (n0 : Nat) (Z0 : n0 ≤ h0.size) (f_x0 : own_I 255 x0.toInt x0) (n_x0 : 0 ≤ x0.toInt ∧ x0.toInt ≤ ((255 : Nat) : Int)) :
    own_Met l Z ({ cls := "java/lang/StringLatin1", name := "canEncode", desc := "(C)Z" } : Jvm.MethodName) jdk_43_method_3_code 1 (some .boolean) [] own_rm_own_can #[(.int x0)] h0 n0 (fun v h => v = some (.int 1) ∧ h = h0) := by
  have ww := fun (i : Nat) {d : Jvm.Cond} (q : tables_1[i]? = some d) => hw d (List.mem_of_getElem? q)
  refine own_meet (plainFor_of_name own_pn3) Z0 (Ls0 := #[oI x0]) (by intro m; first | (simp [entryFrame, mkF, argsToLocals, Value.category]; done) | rfl) ?_
  intro p e s m below meth c T0 X0
  refine own_iloadN X0 rfl own_d_jdk_43_method_3_code_0 (pc' := 1) rfl ?_
  refine own_sipush X0 (v := (255 : Int32)) (by decide) own_d_jdk_43_method_3_code_1 (pc' := 4) rfl ?_
  have c71 : ¬ ((255 : Int32) < x0) := own_le255 n_x0
  refine own_icmpF X0 (own_i_ngt c71).1 own_d_jdk_43_method_3_code_4 (pc' := 7) rfl ?_
  refine own_iconst X0 (v := (1 : Int32)) (by decide) own_d_jdk_43_method_3_code_7 (pc' := 8) rfl ?_
  refine own_goto X0 own_d_jdk_43_method_3_code_8 (pc' := 12) (by decide) (by decide) ?_
  exact own_retZ X0 (by decide) own_d_jdk_43_method_3_code_12 rfl (by decide) (by decide) ⟨rfl, rfl⟩
theorem own_d_jdk_43_method_46_code_0 : decode jdk_43_method_46_code 0 = .ok (.iconst 1, 1) := by decide +kernel
theorem own_d_jdk_43_method_46_code_1 : decode jdk_43_method_46_code 1 = .ok (.newarray .byte, 2) := by decide +kernel
theorem own_d_jdk_43_method_46_code_3 : decode jdk_43_method_46_code 3 = .ok (.dup, 1) := by decide +kernel
theorem own_d_jdk_43_method_46_code_4 : decode jdk_43_method_46_code 4 = .ok (.iconst 0, 1) := by decide +kernel
theorem own_d_jdk_43_method_46_code_5 : decode jdk_43_method_46_code 5 = .ok (.iload_n 0, 1) := by decide +kernel
theorem own_d_jdk_43_method_46_code_6 : decode jdk_43_method_46_code 6 = .ok (.i2b, 1) := by decide +kernel
theorem own_d_jdk_43_method_46_code_7 : decode jdk_43_method_46_code 7 = .ok (.bastore, 1) := by decide +kernel
theorem own_d_jdk_43_method_46_code_8 : decode jdk_43_method_46_code 8 = .ok (.areturn, 1) := by decide +kernel
theorem own_pd7 : parseMethodDescriptor "(C)[B" = some ⟨[.char], some (.array .byte)⟩ := by decide +kernel
abbrev own_rm_own_tob : Room := ({ frames := 0, cells := 1, slots := 1, locals := 0 } : Room)
set_option maxRecDepth 65536 in
set_option maxHeartbeats 40000000 in
theorem own_tob (l : Launch) (Z : State) (a0 : Array Value) (hw : ∀ d ∈ tables_1, d.before a0 Z = true) (x0 : Int32) (h0 : Heap) (n0 : Nat) (Z0 : n0 ≤ h0.size)  :
    own_Met l Z ({ cls := "java/lang/StringLatin1", name := "toBytes", desc := "(C)[B" } : Jvm.MethodName) jdk_43_method_46_code 1 (some (.array .byte)) [] own_rm_own_tob #[(.int x0)] h0 n0 (fun v h => ∃ b, v = some (.ref b) ∧ Keep h0 h []) := by
  have ww := fun (i : Nat) {d : Jvm.Cond} (q : tables_1[i]? = some d) => hw d (List.mem_of_getElem? q)
  refine own_meet (plainFor_of_name own_pn3) Z0 (Ls0 := #[oI x0]) (by intro m; first | (simp [entryFrame, mkF, argsToLocals, Value.category]; done) | rfl) ?_
  intro p e s m below meth c T0 X0
  have K0 := Keep.refl h0 []
  refine own_iconst X0 (v := (1 : Int32)) (by decide) own_d_jdk_43_method_46_code_0 (pc' := 1) rfl ?_
  refine own_newarray X0 (ty := .byte) rfl (ww 23 rfl) (n := 1) (vs := [(.int (0 : Int32))]) (by decide) (by decide) (by decide) rfl (cells' := 1) (slots' := 1) rfl rfl (by decide) (by decide) own_d_jdk_43_method_46_code_1 (pc' := 3) rfl fun a72 T72 h72 g72 ge72 X72 E72 V72 => ?_
  have sz73 := own_ge K0 g72
  have K74 := K0.ext E72
  refine own_dup X72 rfl own_d_jdk_43_method_46_code_3 (pc' := 4) rfl ?_
  refine own_iconst X72 (v := (0 : Int32)) (by decide) own_d_jdk_43_method_46_code_4 (pc' := 5) rfl ?_
  refine own_iloadN X72 rfl own_d_jdk_43_method_46_code_5 (pc' := 6) rfl ?_
  obtain ⟨i75, e75⟩ : ∃ v, x0.toInt8.toInt32 = v := ⟨_, rfl⟩
  refine own_i2b X72 e75 own_d_jdk_43_method_46_code_6 (pc' := 7) rfl ?_
  refine own_bastore X72 V72  ge72 rfl (i := 0) (by decide) (by decide) (show 0 < 1 by decide) own_d_jdk_43_method_46_code_7 (pc' := 8) rfl fun T76 h76 X76 W76 V76 => ?_
  have K77 := K74.wr W76 (Or.inr sz73)
  replace V76 : own_Vec Z h76 a72 .byte [(.int (nar .byte i75))] := V76
  exact own_retA X76 (t := (.array .byte)) rfl own_d_jdk_43_method_46_code_8 rfl (by decide) (by decide) ⟨_, rfl, K77⟩
theorem own_d_jdk_42_method_151_code_0 : decode jdk_42_method_151_code 0 = .ok (.aload_n 0, 1) := by decide +kernel
theorem own_d_jdk_42_method_151_code_1 : decode jdk_42_method_151_code 1 = .ok (.invokespecial 1, 3) := by decide +kernel
theorem own_d_jdk_42_method_151_code_4 : decode jdk_42_method_151_code 4 = .ok (.aload_n 0, 1) := by decide +kernel
theorem own_d_jdk_42_method_151_code_5 : decode jdk_42_method_151_code 5 = .ok (.aload_n 1, 1) := by decide +kernel
theorem own_d_jdk_42_method_151_code_6 : decode jdk_42_method_151_code 6 = .ok (.putfield 9, 3) := by decide +kernel
theorem own_d_jdk_42_method_151_code_9 : decode jdk_42_method_151_code 9 = .ok (.aload_n 0, 1) := by decide +kernel
theorem own_d_jdk_42_method_151_code_10 : decode jdk_42_method_151_code 10 = .ok (.iload_n 2, 1) := by decide +kernel
theorem own_d_jdk_42_method_151_code_11 : decode jdk_42_method_151_code 11 = .ok (.putfield 15, 3) := by decide +kernel
theorem own_d_jdk_42_method_151_code_14 : decode jdk_42_method_151_code 14 = .ok (.return_, 1) := by decide +kernel
theorem own_pd8 : parseMethodDescriptor "([BB)V" = some ⟨[(.array .byte), .byte], none⟩ := by decide +kernel
abbrev own_rm_own_sib : Room := ({ frames := 1, cells := 0, slots := 0, locals := 12 } : Room)
set_option maxRecDepth 65536 in
set_option maxHeartbeats 40000000 in
theorem own_sib (l : Launch) (Z : State) (a0 : Array Value) (hw : ∀ d ∈ tables_1, d.before a0 Z = true) (a1 a2 : Addr) (h0 : Heap) (n0 : Nat) (Z0 : n0 ≤ h0.size) (ge1 : n0 ≤ a1) (A1 : Exa Z h0 a1 "java/lang/String") (F1 : Fld Z h0 a1 "java/lang/String" "coder" "B" (.int (0 : Int32))) (F2 : Fld Z h0 a1 "java/lang/String" "value" "[B" .null) :
    own_Met l Z ({ cls := "java/lang/String", name := "<init>", desc := "([BB)V" } : Jvm.MethodName) jdk_42_method_151_code 3 none [] own_rm_own_sib #[(.ref a1), (.ref a2), (.int (0 : Int32))] h0 n0 (fun v h => v = none ∧ Keep h0 h [a1]) := by
  have ww := fun (i : Nat) {d : Jvm.Cond} (q : tables_1[i]? = some d) => hw d (List.mem_of_getElem? q)
  refine own_meet (plainFor_of_name own_pn1) Z0 (Ls0 := #[oA a1, oA a2, oI 0]) (by intro m; first | (simp [entryFrame, mkF, argsToLocals, Value.category]; done) | rfl) ?_
  intro p e s m below meth c T0 X0
  have K0 := Keep.refl h0 [a1]
  refine own_aloadN X0 rfl rfl own_d_jdk_42_method_151_code_0 (pc' := 1) rfl ?_
  refine own_initO X0 (ww 15 rfl) (ww 16 rfl) (ww 17 rfl) rfl (by decide) (W := 0) (Nat.le_of_eq rfl) (by decide) own_d_jdk_42_method_151_code_1 (pc' := 4) rfl fun T78 X78 => ?_
  refine own_aloadN X78 rfl rfl own_d_jdk_42_method_151_code_4 (pc' := 5) rfl ?_
  refine own_aloadN X78 rfl rfl own_d_jdk_42_method_151_code_5 (pc' := 6) rfl ?_
  refine own_putF X78 (ww 32 rfl) F2 A1 (Or.inr ⟨(ww 33 rfl), rfl, rfl⟩) (ww 6 rfl) (ty := (.array .byte)) (by decide) rfl rfl ge1 own_d_jdk_42_method_151_code_6 (pc' := 9) rfl fun T79 h79 X79 W79 => ?_
  have A80 := A1.wr W79
  have K81 := K0.wr W79 (Or.inl (by simp))
  have F82 := F2.same W79
  have F83 := F1.other W79 (Or.inr (slot_ne (C := "java/lang/String") (Or.inr (ww 31 rfl)) (Or.inr (ww 33 rfl)) (by decide) (t := .byte) (t' := (.array .byte)) (by decide) (by decide)))
  refine own_aloadN X79 rfl rfl own_d_jdk_42_method_151_code_9 (pc' := 10) rfl ?_
  refine own_iloadN X79 rfl own_d_jdk_42_method_151_code_10 (pc' := 11) rfl ?_
  refine own_putF X79 (ww 30 rfl) F83 A80 (Or.inr ⟨(ww 31 rfl), rfl, rfl⟩) (ww 6 rfl) (ty := .byte) (by decide) rfl rfl ge1 own_d_jdk_42_method_151_code_11 (pc' := 14) rfl fun T84 h84 X84 W84 => ?_
  have A85 := A80.wr W84
  have K86 := K81.wr W84 (Or.inl (by simp))
  have F87 := F83.same W84
  have F88 := F82.other W84 (Or.inr (slot_ne (C := "java/lang/String") (Or.inr (ww 33 rfl)) (Or.inr (ww 31 rfl)) (by decide) (t := (.array .byte)) (t' := .byte) (by decide) (by decide)))
  exact own_retV X84  own_d_jdk_42_method_151_code_14 rfl (by decide) (by decide) ⟨rfl, K86⟩
theorem own_d_jdk_42_method_139_code_0 : decode jdk_42_method_139_code 0 = .ok (.getstatic 38, 3) := by decide +kernel
theorem own_d_jdk_42_method_139_code_3 : decode jdk_42_method_139_code 3 = .ok (.ifCond .eq 23, 3) := by decide +kernel
theorem own_d_jdk_42_method_139_code_6 : decode jdk_42_method_139_code 6 = .ok (.iload_n 0, 1) := by decide +kernel
theorem own_d_jdk_42_method_139_code_7 : decode jdk_42_method_139_code 7 = .ok (.invokestatic 1015, 3) := by decide +kernel
theorem own_d_jdk_42_method_139_code_10 : decode jdk_42_method_139_code 10 = .ok (.ifCond .eq 16, 3) := by decide +kernel
theorem own_d_jdk_42_method_139_code_13 : decode jdk_42_method_139_code 13 = .ok (.new 10, 3) := by decide +kernel
theorem own_d_jdk_42_method_139_code_16 : decode jdk_42_method_139_code 16 = .ok (.dup, 1) := by decide +kernel
theorem own_d_jdk_42_method_139_code_17 : decode jdk_42_method_139_code 17 = .ok (.iload_n 0, 1) := by decide +kernel
theorem own_d_jdk_42_method_139_code_18 : decode jdk_42_method_139_code 18 = .ok (.invokestatic 1018, 3) := by decide +kernel
theorem own_d_jdk_42_method_139_code_21 : decode jdk_42_method_139_code 21 = .ok (.iconst 0, 1) := by decide +kernel
theorem own_d_jdk_42_method_139_code_22 : decode jdk_42_method_139_code 22 = .ok (.invokespecial 209, 3) := by decide +kernel
theorem own_d_jdk_42_method_139_code_25 : decode jdk_42_method_139_code 25 = .ok (.areturn, 1) := by decide +kernel
theorem own_d_jdk_42_method_139_code_26 : decode jdk_42_method_139_code 26 = .ok (.new 10, 3) := by decide +kernel
theorem own_d_jdk_42_method_139_code_29 : decode jdk_42_method_139_code 29 = .ok (.dup, 1) := by decide +kernel
theorem own_d_jdk_42_method_139_code_30 : decode jdk_42_method_139_code 30 = .ok (.iload_n 0, 1) := by decide +kernel
theorem own_d_jdk_42_method_139_code_31 : decode jdk_42_method_139_code 31 = .ok (.invokestatic 1021, 3) := by decide +kernel
theorem own_d_jdk_42_method_139_code_34 : decode jdk_42_method_139_code 34 = .ok (.iconst 1, 1) := by decide +kernel
theorem own_d_jdk_42_method_139_code_35 : decode jdk_42_method_139_code 35 = .ok (.invokespecial 209, 3) := by decide +kernel
theorem own_d_jdk_42_method_139_code_38 : decode jdk_42_method_139_code 38 = .ok (.areturn, 1) := by decide +kernel
theorem own_pd9 : parseMethodDescriptor "(C)Ljava/lang/String;" = some ⟨[.char], some (.object "java/lang/String")⟩ := by decide +kernel
abbrev own_rm_own_vof : Room := ({ frames := 2, cells := 2, slots := 5, locals := 27 } : Room)
set_option maxRecDepth 65536 in
set_option maxHeartbeats 40000000 in
theorem own_vof (l : Launch) (Z : State) (a0 : Array Value) (hw : ∀ d ∈ tables_1, d.before a0 Z = true) (x0 : Int32) (h0 : Heap) (n0 : Nat) (Z0 : n0 ≤ h0.size) (f_x0 : own_I 255 x0.toInt x0) (n_x0 : 0 ≤ x0.toInt ∧ x0.toInt ≤ ((255 : Nat) : Int))(cs : Int32) (S0 : Sta Z h0 "java/lang/String" "COMPACT_STRINGS" "Z" (.int cs)) (hcs : ¬ cs = 0) :
    own_Met l Z ({ cls := "java/lang/String", name := "valueOf", desc := "(C)Ljava/lang/String;" } : Jvm.MethodName) jdk_42_method_139_code 1 (some (.object "java/lang/String")) [] own_rm_own_vof #[(.int x0)] h0 n0 (fun v h => ∃ b, v = some (.ref b) ∧ Exa Z h b "java/lang/String" ∧ Keep h0 h []) := by
  have ww := fun (i : Nat) {d : Jvm.Cond} (q : tables_1[i]? = some d) => hw d (List.mem_of_getElem? q)
  refine own_meet (plainFor_of_name own_pn1) Z0 (Ls0 := #[oI x0]) (by intro m; first | (simp [entryFrame, mkF, argsToLocals, Value.category]; done) | rfl) ?_
  intro p e s m below meth c T0 X0
  have K0 := Keep.refl h0 []
  refine own_getS X0 (ww 18 rfl) S0 own_d_jdk_42_method_139_code_0 (pc' := 3) rfl fun T89 X89 => ?_
  have c90 : ¬ (cs = 0) := hcs
  refine own_ifF X89 (own_z_ne c90).1 own_d_jdk_42_method_139_code_3 (pc' := 6) rfl ?_
  refine own_iloadN X89 rfl own_d_jdk_42_method_139_code_6 (pc' := 7) rfl ?_
  refine own_callS X89 (own_can l Z a0 hw x0 _ n0 X89.le f_x0 n_x0) (ww 92 rfl) (ww 93 rfl) (ww 94 rfl) (ww 95 rfl) (by decide) rfl (by decide) (W := 0) (Nat.le_of_eq rfl) (by decide) (cells' := 0) (slots' := 0) rfl rfl (by decide) (by decide) (argsL := [(.int x0)]) (rest := []) (lenOf own_pd6 rfl) rfl rfl own_d_jdk_42_method_139_code_7 (pc' := 10) rfl ?_
  rintro _ T91 h91 X91 ⟨rfl, e91⟩
  subst e91
  show own_Goal p e below _ T91 (mkF m 10 #[oI x0] [(.int (1 : Int32))])
  refine own_ifF X91 (by decide) own_d_jdk_42_method_139_code_10 (pc' := 13) rfl ?_
  refine own_new X91 (ww 96 rfl) (ww 6 rfl) (ww 7 rfl) (cells' := 1) (slots' := 4) rfl rfl (by decide) (by decide) own_d_jdk_42_method_139_code_13 (pc' := 16) rfl fun a92 T92 h92 g92 ge92 X92 E92 A92 D92 => ?_
  have sz93 := own_ge K0 g92
  have S94 := S0.ext E92
  have K95 := K0.ext E92
  have F96 : Fld Z h92 a92 "java/lang/String" "coder" "B" (.int (0 : Int32)) := D92 (Or.inr (ww 31 rfl)) (ty := .byte) (by decide)
  have F97 : Fld Z h92 a92 "java/lang/String" "value" "[B" .null := D92 (Or.inr (ww 33 rfl)) (ty := (.array .byte)) (by decide)
  refine own_dup X92 rfl own_d_jdk_42_method_139_code_16 (pc' := 17) rfl ?_
  refine own_iloadN X92 rfl own_d_jdk_42_method_139_code_17 (pc' := 18) rfl ?_
  refine own_callS X92 (own_tob l Z a0 hw x0 _ n0 X92.le) (ww 97 rfl) (ww 98 rfl) (ww 94 rfl) (ww 99 rfl) (by decide) rfl (by decide) (W := 2) (Nat.le_of_eq rfl) (by decide) (cells' := 2) (slots' := 5) rfl rfl (by decide) (by decide) (argsL := [(.int x0)]) (rest := [(.ref a92), (.ref a92)]) (lenOf own_pd7 rfl) rfl rfl own_d_jdk_42_method_139_code_18 (pc' := 21) rfl ?_
  rintro _ T98 h98 X98 ⟨b98, rfl, K98⟩
  have S99 := own_Sta.keep0 S94 K98
  have A100 := A92.keep K98
  have F101 := F96.keep K98 nin0
  have F102 := F97.keep K98 nin0
  have K103 := K95.trans K98 own_mem0
  show own_Goal p e below _ T98 (mkF m 21 #[oI x0] [(.ref b98), (.ref a92), (.ref a92)])
  refine own_iconst X98 (v := (0 : Int32)) (by decide) own_d_jdk_42_method_139_code_21 (pc' := 22) rfl ?_
  refine own_special X98 (own_sib l Z a0 hw a92 b98 _ n0 X98.le ge92 A100 F101 F102) rfl rfl (ww 100 rfl) (ww 101 rfl) (ww 7 rfl) (ww 102 rfl) (by decide) rfl (by decide) (W := 1) (Nat.le_of_eq rfl) (by decide) (cells' := 2) (slots' := 5) rfl rfl (by decide) (by decide) (argsL := [(.ref b98), (.int (0 : Int32))]) (rest := [(.ref a92)]) (lenOf own_pd8 rfl) rfl rfl own_d_jdk_42_method_139_code_22 (pc' := 25) rfl ?_
  rintro _ T104 h104 X104 ⟨rfl, K104⟩
  have S105 := own_Sta.keep1 S99 K104 A100
  have A106 := A100.keep K104
  have K107 := K103.trans K104 (own_mem1 (Or.inr sz93))
  show own_Goal p e below _ T104 (mkF m 25 #[oI x0] [(.ref a92)])
  exact own_retA X104 (t := (.object "java/lang/String")) rfl own_d_jdk_42_method_139_code_25 rfl (by decide) (by decide) ⟨_, rfl, A106, K107⟩
theorem own_d_jdk_42_method_66_code_0 : decode jdk_42_method_66_code 0 = .ok (.aload_n 0, 1) := by decide +kernel
theorem own_d_jdk_42_method_66_code_1 : decode jdk_42_method_66_code 1 = .ok (.aload_n 1, 1) := by decide +kernel
theorem own_d_jdk_42_method_66_code_2 : decode jdk_42_method_66_code 2 = .ok (.if_acmp .ne 5, 3) := by decide +kernel
theorem own_d_jdk_42_method_66_code_5 : decode jdk_42_method_66_code 5 = .ok (.iconst 1, 1) := by decide +kernel
theorem own_d_jdk_42_method_66_code_6 : decode jdk_42_method_66_code 6 = .ok (.ireturn, 1) := by decide +kernel
theorem own_d_jdk_42_method_66_code_7 : decode jdk_42_method_66_code 7 = .ok (.aload_n 1, 1) := by decide +kernel
theorem own_d_jdk_42_method_66_code_8 : decode jdk_42_method_66_code 8 = .ok (.instanceof 10, 3) := by decide +kernel
theorem own_d_jdk_42_method_66_code_11 : decode jdk_42_method_66_code 11 = .ok (.ifCond .eq 43, 3) := by decide +kernel
theorem own_d_jdk_42_method_66_code_14 : decode jdk_42_method_66_code 14 = .ok (.aload_n 1, 1) := by decide +kernel
theorem own_d_jdk_42_method_66_code_15 : decode jdk_42_method_66_code 15 = .ok (.checkcast 10, 3) := by decide +kernel
theorem own_d_jdk_42_method_66_code_18 : decode jdk_42_method_66_code 18 = .ok (.astore_n 2, 1) := by decide +kernel
theorem own_d_jdk_42_method_66_code_19 : decode jdk_42_method_66_code 19 = .ok (.getstatic 38, 3) := by decide +kernel
theorem own_d_jdk_42_method_66_code_22 : decode jdk_42_method_66_code 22 = .ok (.ifCond .eq 14, 3) := by decide +kernel
theorem own_d_jdk_42_method_66_code_25 : decode jdk_42_method_66_code 25 = .ok (.aload_n 0, 1) := by decide +kernel
theorem own_d_jdk_42_method_66_code_26 : decode jdk_42_method_66_code 26 = .ok (.getfield 15, 3) := by decide +kernel
theorem own_d_jdk_42_method_66_code_29 : decode jdk_42_method_66_code 29 = .ok (.aload_n 2, 1) := by decide +kernel
theorem own_d_jdk_42_method_66_code_30 : decode jdk_42_method_66_code 30 = .ok (.getfield 15, 3) := by decide +kernel
theorem own_d_jdk_42_method_66_code_33 : decode jdk_42_method_66_code 33 = .ok (.if_icmp .ne 21, 3) := by decide +kernel
theorem own_d_jdk_42_method_66_code_36 : decode jdk_42_method_66_code 36 = .ok (.aload_n 0, 1) := by decide +kernel
theorem own_d_jdk_42_method_66_code_37 : decode jdk_42_method_66_code 37 = .ok (.getfield 9, 3) := by decide +kernel
theorem own_d_jdk_42_method_66_code_40 : decode jdk_42_method_66_code 40 = .ok (.aload_n 2, 1) := by decide +kernel
theorem own_d_jdk_42_method_66_code_41 : decode jdk_42_method_66_code 41 = .ok (.getfield 9, 3) := by decide +kernel
theorem own_d_jdk_42_method_66_code_44 : decode jdk_42_method_66_code 44 = .ok (.invokestatic 541, 3) := by decide +kernel
theorem own_d_jdk_42_method_66_code_47 : decode jdk_42_method_66_code 47 = .ok (.ifCond .eq 7, 3) := by decide +kernel
theorem own_d_jdk_42_method_66_code_50 : decode jdk_42_method_66_code 50 = .ok (.iconst 1, 1) := by decide +kernel
theorem own_d_jdk_42_method_66_code_51 : decode jdk_42_method_66_code 51 = .ok (.goto 4, 3) := by decide +kernel
theorem own_d_jdk_42_method_66_code_54 : decode jdk_42_method_66_code 54 = .ok (.iconst 0, 1) := by decide +kernel
theorem own_d_jdk_42_method_66_code_55 : decode jdk_42_method_66_code 55 = .ok (.ireturn, 1) := by decide +kernel
theorem own_pd10 : parseMethodDescriptor "(Ljava/lang/Object;)Z" = some ⟨[(.object "java/lang/Object")], some .boolean⟩ := by decide +kernel
abbrev own_rm_own_eq : Room := ({ frames := 0, cells := 0, slots := 0, locals := 0 } : Room)
set_option maxRecDepth 65536 in
set_option maxHeartbeats 40000000 in
theorem own_eq (l : Launch) (Z : State) (a0 : Array Value) (hw : ∀ d ∈ tables_1, d.before a0 Z = true) (a1 : Addr) (h0 : Heap) (n0 : Nat) (Z0 : n0 ≤ h0.size)  :
    own_Met l Z ({ cls := "java/lang/String", name := "equals", desc := "(Ljava/lang/Object;)Z" } : Jvm.MethodName) jdk_42_method_66_code 3 (some .boolean) [] own_rm_own_eq #[(.ref a1), (.ref a1)] h0 n0 (fun v h => v = some (.int 1) ∧ h = h0) := by
  have ww := fun (i : Nat) {d : Jvm.Cond} (q : tables_1[i]? = some d) => hw d (List.mem_of_getElem? q)
  refine own_meet (plainFor_of_name own_pn1) Z0 (Ls0 := #[oA a1, oA a1, oU]) (by intro m; first | (simp [entryFrame, mkF, argsToLocals, Value.category]; done) | rfl) ?_
  intro p e s m below meth c T0 X0
  refine own_aloadN X0 rfl rfl own_d_jdk_42_method_66_code_0 (pc' := 1) rfl ?_
  refine own_aloadN X0 rfl rfl own_d_jdk_42_method_66_code_1 (pc' := 2) rfl ?_
  refine own_acmpF X0 rfl rfl (XT.aa_ne_f rfl) own_d_jdk_42_method_66_code_2 (pc' := 5) rfl ?_
  refine own_iconst X0 (v := (1 : Int32)) (by decide) own_d_jdk_42_method_66_code_5 (pc' := 6) rfl ?_
  exact own_retZ X0 (by decide) own_d_jdk_42_method_66_code_6 rfl (by decide) (by decide) ⟨rfl, rfl⟩
theorem own_d_method_3_code_0 : decode method_3_code 0 = .ok (.aload_n 1, 1) := by decide +kernel
theorem own_d_method_3_code_1 : decode method_3_code 1 = .ok (.ifnonnull 13, 3) := by decide +kernel
theorem own_d_method_3_code_4 : decode method_3_code 4 = .ok (.aload_n 0, 1) := by decide +kernel
theorem own_d_method_3_code_5 : decode method_3_code 5 = .ok (.ifnonnull 7, 3) := by decide +kernel
theorem own_d_method_3_code_8 : decode method_3_code 8 = .ok (.iconst 1, 1) := by decide +kernel
theorem own_d_method_3_code_9 : decode method_3_code 9 = .ok (.goto 4, 3) := by decide +kernel
theorem own_d_method_3_code_12 : decode method_3_code 12 = .ok (.iconst 0, 1) := by decide +kernel
theorem own_d_method_3_code_13 : decode method_3_code 13 = .ok (.ireturn, 1) := by decide +kernel
theorem own_d_method_3_code_14 : decode method_3_code 14 = .ok (.aload_n 0, 1) := by decide +kernel
theorem own_d_method_3_code_15 : decode method_3_code 15 = .ok (.ifnull 15, 3) := by decide +kernel
theorem own_d_method_3_code_18 : decode method_3_code 18 = .ok (.aload_n 1, 1) := by decide +kernel
theorem own_d_method_3_code_19 : decode method_3_code 19 = .ok (.aload_n 0, 1) := by decide +kernel
theorem own_d_method_3_code_20 : decode method_3_code 20 = .ok (.invokevirtual 12, 3) := by decide +kernel
theorem own_d_method_3_code_23 : decode method_3_code 23 = .ok (.ifCond .eq 7, 3) := by decide +kernel
theorem own_d_method_3_code_26 : decode method_3_code 26 = .ok (.iconst 1, 1) := by decide +kernel
theorem own_d_method_3_code_27 : decode method_3_code 27 = .ok (.goto 4, 3) := by decide +kernel
theorem own_d_method_3_code_30 : decode method_3_code 30 = .ok (.iconst 0, 1) := by decide +kernel
theorem own_d_method_3_code_31 : decode method_3_code 31 = .ok (.ireturn, 1) := by decide +kernel
theorem own_pd11 : parseMethodDescriptor "(Ljava/lang/String;Ljava/lang/String;)Z" = some ⟨[(.object "java/lang/String"), (.object "java/lang/String")], some .boolean⟩ := by decide +kernel
abbrev own_rm_own_sameA : Room := ({ frames := 1, cells := 0, slots := 0, locals := 14 } : Room)
set_option maxRecDepth 65536 in
set_option maxHeartbeats 40000000 in
theorem own_sameA (l : Launch) (Z : State) (a0 : Array Value) (hw : ∀ d ∈ tables_1, d.before a0 Z = true) (a1 : Addr) (h0 : Heap) (n0 : Nat) (Z0 : n0 ≤ h0.size) (A1 : Exa Z h0 a1 "java/lang/String") :
    own_Met l Z ({ cls := "com/example/cladewalk/cladewalk/tree/TreeNamePinLaw", name := "same", desc := "(Ljava/lang/String;Ljava/lang/String;)Z" } : Jvm.MethodName) method_3_code 2 (some .boolean) [] own_rm_own_sameA #[(.ref a1), (.ref a1)] h0 n0 (fun v h => v = some (.int 1) ∧ h = h0) := by
  have ww := fun (i : Nat) {d : Jvm.Cond} (q : tables_1[i]? = some d) => hw d (List.mem_of_getElem? q)
  refine own_meet (plainFor_of_name own_pn2) Z0 (Ls0 := #[oA a1, oA a1]) (by intro m; first | (simp [entryFrame, mkF, argsToLocals, Value.category]; done) | rfl) ?_
  intro p e s m below meth c T0 X0
  refine own_aloadN X0 rfl rfl own_d_method_3_code_0 (pc' := 1) rfl ?_
  refine own_ifnonnullT X0 own_d_method_3_code_1 (pc' := 14) (by decide) (by decide) ?_
  refine own_aloadN X0 rfl rfl own_d_method_3_code_14 (pc' := 15) rfl ?_
  refine own_ifnullF X0 own_d_method_3_code_15 (pc' := 18) rfl ?_
  refine own_aloadN X0 rfl rfl own_d_method_3_code_18 (pc' := 19) rfl ?_
  refine own_aloadN X0 rfl rfl own_d_method_3_code_19 (pc' := 20) rfl ?_
  refine own_virtual X0 (own_eq l Z a0 hw a1 _ n0 X0.le) (C := "java/lang/String") rfl (ww 84 rfl) (ww 85 rfl) (ww 87 rfl) (ww 86 rfl) (ww 7 rfl) (ww 88 rfl) (by decide) rfl (by decide) (W := 0) (Nat.le_of_eq rfl) (by decide) (cells' := 0) (slots' := 0) rfl rfl (by decide) (by decide) A1 (argsL := [(.ref a1)]) (rest := []) (lenOf own_pd10 rfl) rfl rfl own_d_method_3_code_20 (pc' := 23) rfl ?_
  rintro _ T108 h108 X108 ⟨rfl, e108⟩
  subst e108
  show own_Goal p e below _ T108 (mkF m 23 #[oA a1, oA a1] [(.int (1 : Int32))])
  refine own_ifF X108 (by decide) own_d_method_3_code_23 (pc' := 26) rfl ?_
  refine own_iconst X108 (v := (1 : Int32)) (by decide) own_d_method_3_code_26 (pc' := 27) rfl ?_
  refine own_goto X108 own_d_method_3_code_27 (pc' := 31) (by decide) (by decide) ?_
  exact own_retZ X108 (by decide) own_d_method_3_code_31 rfl (by decide) (by decide) ⟨rfl, rfl⟩
abbrev own_rm_own_sameN : Room := ({ frames := 0, cells := 0, slots := 0, locals := 0 } : Room)
set_option maxRecDepth 65536 in
set_option maxHeartbeats 40000000 in
theorem own_sameN (l : Launch) (Z : State) (a0 : Array Value) (hw : ∀ d ∈ tables_1, d.before a0 Z = true)  (h0 : Heap) (n0 : Nat) (Z0 : n0 ≤ h0.size)  :
    own_Met l Z ({ cls := "com/example/cladewalk/cladewalk/tree/TreeNamePinLaw", name := "same", desc := "(Ljava/lang/String;Ljava/lang/String;)Z" } : Jvm.MethodName) method_3_code 2 (some .boolean) [] own_rm_own_sameN #[.null, .null] h0 n0 (fun v h => v = some (.int 1) ∧ h = h0) := by
  have ww := fun (i : Nat) {d : Jvm.Cond} (q : tables_1[i]? = some d) => hw d (List.mem_of_getElem? q)
  refine own_meet (plainFor_of_name own_pn2) Z0 (Ls0 := #[.val .null, .val .null]) (by intro m; first | (simp [entryFrame, mkF, argsToLocals, Value.category]; done) | rfl) ?_
  intro p e s m below meth c T0 X0
  refine own_aloadN X0 rfl rfl own_d_method_3_code_0 (pc' := 1) rfl ?_
  refine own_ifnonnullF X0 own_d_method_3_code_1 (pc' := 4) rfl ?_
  refine own_aloadN X0 rfl rfl own_d_method_3_code_4 (pc' := 5) rfl ?_
  refine own_ifnonnullF X0 own_d_method_3_code_5 (pc' := 8) rfl ?_
  refine own_iconst X0 (v := (1 : Int32)) (by decide) own_d_method_3_code_8 (pc' := 9) rfl ?_
  refine own_goto X0 own_d_method_3_code_9 (pc' := 13) (by decide) (by decide) ?_
  exact own_retZ X0 (by decide) own_d_method_3_code_13 rfl (by decide) (by decide) ⟨rfl, rfl⟩
theorem own_d_prog_20_method_9_code_0 : decode prog_20_method_9_code 0 = .ok (.aload_n 0, 1) := by decide +kernel
theorem own_d_prog_20_method_9_code_1 : decode prog_20_method_9_code 1 = .ok (.getfield 37, 3) := by decide +kernel
theorem own_d_prog_20_method_9_code_4 : decode prog_20_method_9_code 4 = .ok (.iload_n 1, 1) := by decide +kernel
theorem own_d_prog_20_method_9_code_5 : decode prog_20_method_9_code 5 = .ok (.iaload, 1) := by decide +kernel
theorem own_d_prog_20_method_9_code_6 : decode prog_20_method_9_code 6 = .ok (.ifCond .ne 12, 3) := by decide +kernel
theorem own_d_prog_20_method_9_code_9 : decode prog_20_method_9_code 9 = .ok (.aload_n 0, 1) := by decide +kernel
theorem own_d_prog_20_method_9_code_10 : decode prog_20_method_9_code 10 = .ok (.getfield 34, 3) := by decide +kernel
theorem own_d_prog_20_method_9_code_13 : decode prog_20_method_9_code 13 = .ok (.iload_n 1, 1) := by decide +kernel
theorem own_d_prog_20_method_9_code_14 : decode prog_20_method_9_code 14 = .ok (.aaload, 1) := by decide +kernel
theorem own_d_prog_20_method_9_code_15 : decode prog_20_method_9_code 15 = .ok (.goto 4, 3) := by decide +kernel
theorem own_d_prog_20_method_9_code_18 : decode prog_20_method_9_code 18 = .ok (.aconst_null, 1) := by decide +kernel
theorem own_d_prog_20_method_9_code_19 : decode prog_20_method_9_code 19 = .ok (.areturn, 1) := by decide +kernel
theorem own_pd12 : parseMethodDescriptor "(I)Ljava/lang/String;" = some ⟨[.int], some (.object "java/lang/String")⟩ := by decide +kernel
theorem own_pn4 : plainName "com/example/cladewalk/cladewalk/tree/Tree" = true := by first | (simp [plainName, overriddenIn]; done) | decide +kernel
abbrev own_rm_own_name_4_0_1 : Room := ({ frames := 0, cells := 0, slots := 0, locals := 0 } : Room)
set_option maxRecDepth 65536 in
set_option maxHeartbeats 40000000 in
theorem own_name_4_0_1 (l : Launch) (Z : State) (a0 : Array Value) (hw : ∀ d ∈ tables_1, d.before a0 Z = true) (a1 a2 a3 b1 : Addr) (c0 c1 c2 c3 : Int32) (v1 : Value) (v2 : Value) (v3 : Value) (h0 : Heap) (n0 : Nat) (Z0 : n0 ≤ h0.size) (F1 : Fld Z h0 a1 "com/example/cladewalk/cladewalk/tree/Tree" "childCounts" "[I" (.ref a2)) (F2 : Fld Z h0 a1 "com/example/cladewalk/cladewalk/tree/Tree" "names" "[Ljava/lang/String;" (.ref a3)) (V1 : own_Vec Z h0 a2 .int [(.int c0), (.int c1), (.int c2), (.int c3)]) (V2 : own_Vec Z h0 a3 (.object "java/lang/String") [(.ref b1), v1, v2, v3]) (hc : c0 = 0) :
    own_Met l Z ({ cls := "com/example/cladewalk/cladewalk/tree/Tree", name := "name", desc := "(I)Ljava/lang/String;" } : Jvm.MethodName) prog_20_method_9_code 2 (some (.object "java/lang/String")) [] own_rm_own_name_4_0_1 #[(.ref a1), (.int (0 : Int32))] h0 n0 (fun v h => v = some (.ref b1) ∧ h = h0) := by
  have ww := fun (i : Nat) {d : Jvm.Cond} (q : tables_1[i]? = some d) => hw d (List.mem_of_getElem? q)
  refine own_meet (plainFor_of_name own_pn4) Z0 (Ls0 := #[oA a1, oI 0]) (by intro m; first | (simp [entryFrame, mkF, argsToLocals, Value.category]; done) | rfl) ?_
  intro p e s m below meth c T0 X0
  refine own_aloadN X0 rfl rfl own_d_prog_20_method_9_code_0 (pc' := 1) rfl ?_
  refine own_getF X0 (ww 71 rfl) F1 own_d_prog_20_method_9_code_1 (pc' := 4) rfl fun T109 X109 => ?_
  refine own_iloadN X109 rfl own_d_prog_20_method_9_code_4 (pc' := 5) rfl ?_
  refine own_iaload X109 V1 (i := 0) (by decide) (by decide) rfl own_d_prog_20_method_9_code_5 (pc' := 6) rfl ?_
  have c110 : c0 = 0 := hc
  refine own_ifF X109 (own_z_eq c110).2 own_d_prog_20_method_9_code_6 (pc' := 9) rfl ?_
  refine own_aloadN X109 rfl rfl own_d_prog_20_method_9_code_9 (pc' := 10) rfl ?_
  refine own_getF X109 (ww 69 rfl) F2 own_d_prog_20_method_9_code_10 (pc' := 13) rfl fun T111 X111 => ?_
  refine own_iloadN X111 rfl own_d_prog_20_method_9_code_13 (pc' := 14) rfl ?_
  refine own_aaload X111 V2 rfl (i := 0) (by decide) (by decide) rfl own_d_prog_20_method_9_code_14 (pc' := 15) rfl ?_
  refine own_goto X111 own_d_prog_20_method_9_code_15 (pc' := 19) (by decide) (by decide) ?_
  exact own_retA X111 (t := (.object "java/lang/String")) rfl own_d_prog_20_method_9_code_19 rfl (by decide) (by decide) ⟨rfl, rfl⟩
abbrev own_rm_own_name_4_1_1 : Room := ({ frames := 0, cells := 0, slots := 0, locals := 0 } : Room)
set_option maxRecDepth 65536 in
set_option maxHeartbeats 40000000 in
theorem own_name_4_1_1 (l : Launch) (Z : State) (a0 : Array Value) (hw : ∀ d ∈ tables_1, d.before a0 Z = true) (a1 a2 a3 b1 : Addr) (c0 c1 c2 c3 : Int32) (v0 : Value) (v2 : Value) (v3 : Value) (h0 : Heap) (n0 : Nat) (Z0 : n0 ≤ h0.size) (F1 : Fld Z h0 a1 "com/example/cladewalk/cladewalk/tree/Tree" "childCounts" "[I" (.ref a2)) (F2 : Fld Z h0 a1 "com/example/cladewalk/cladewalk/tree/Tree" "names" "[Ljava/lang/String;" (.ref a3)) (V1 : own_Vec Z h0 a2 .int [(.int c0), (.int c1), (.int c2), (.int c3)]) (V2 : own_Vec Z h0 a3 (.object "java/lang/String") [v0, (.ref b1), v2, v3]) (hc : c1 = 0) :
    own_Met l Z ({ cls := "com/example/cladewalk/cladewalk/tree/Tree", name := "name", desc := "(I)Ljava/lang/String;" } : Jvm.MethodName) prog_20_method_9_code 2 (some (.object "java/lang/String")) [] own_rm_own_name_4_1_1 #[(.ref a1), (.int (1 : Int32))] h0 n0 (fun v h => v = some (.ref b1) ∧ h = h0) := by
  have ww := fun (i : Nat) {d : Jvm.Cond} (q : tables_1[i]? = some d) => hw d (List.mem_of_getElem? q)
  refine own_meet (plainFor_of_name own_pn4) Z0 (Ls0 := #[oA a1, oI 1]) (by intro m; first | (simp [entryFrame, mkF, argsToLocals, Value.category]; done) | rfl) ?_
  intro p e s m below meth c T0 X0
  refine own_aloadN X0 rfl rfl own_d_prog_20_method_9_code_0 (pc' := 1) rfl ?_
  refine own_getF X0 (ww 71 rfl) F1 own_d_prog_20_method_9_code_1 (pc' := 4) rfl fun T112 X112 => ?_
  refine own_iloadN X112 rfl own_d_prog_20_method_9_code_4 (pc' := 5) rfl ?_
  refine own_iaload X112 V1 (i := 1) (by decide) (by decide) rfl own_d_prog_20_method_9_code_5 (pc' := 6) rfl ?_
  have c113 : c1 = 0 := hc
  refine own_ifF X112 (own_z_eq c113).2 own_d_prog_20_method_9_code_6 (pc' := 9) rfl ?_
  refine own_aloadN X112 rfl rfl own_d_prog_20_method_9_code_9 (pc' := 10) rfl ?_
  refine own_getF X112 (ww 69 rfl) F2 own_d_prog_20_method_9_code_10 (pc' := 13) rfl fun T114 X114 => ?_
  refine own_iloadN X114 rfl own_d_prog_20_method_9_code_13 (pc' := 14) rfl ?_
  refine own_aaload X114 V2 rfl (i := 1) (by decide) (by decide) rfl own_d_prog_20_method_9_code_14 (pc' := 15) rfl ?_
  refine own_goto X114 own_d_prog_20_method_9_code_15 (pc' := 19) (by decide) (by decide) ?_
  exact own_retA X114 (t := (.object "java/lang/String")) rfl own_d_prog_20_method_9_code_19 rfl (by decide) (by decide) ⟨rfl, rfl⟩
abbrev own_rm_own_name_4_1_0 : Room := ({ frames := 0, cells := 0, slots := 0, locals := 0 } : Room)
set_option maxRecDepth 65536 in
set_option maxHeartbeats 40000000 in
theorem own_name_4_1_0 (l : Launch) (Z : State) (a0 : Array Value) (hw : ∀ d ∈ tables_1, d.before a0 Z = true) (a1 a2 a3 : Addr) (c0 c1 c2 c3 : Int32) (v0 : Value) (v1 : Value) (v2 : Value) (v3 : Value) (h0 : Heap) (n0 : Nat) (Z0 : n0 ≤ h0.size) (F1 : Fld Z h0 a1 "com/example/cladewalk/cladewalk/tree/Tree" "childCounts" "[I" (.ref a2)) (F2 : Fld Z h0 a1 "com/example/cladewalk/cladewalk/tree/Tree" "names" "[Ljava/lang/String;" (.ref a3)) (V1 : own_Vec Z h0 a2 .int [(.int c0), (.int c1), (.int c2), (.int c3)]) (V2 : own_Vec Z h0 a3 (.object "java/lang/String") [v0, v1, v2, v3]) (hc : ¬ c1 = 0) :
    own_Met l Z ({ cls := "com/example/cladewalk/cladewalk/tree/Tree", name := "name", desc := "(I)Ljava/lang/String;" } : Jvm.MethodName) prog_20_method_9_code 2 (some (.object "java/lang/String")) [] own_rm_own_name_4_1_0 #[(.ref a1), (.int (1 : Int32))] h0 n0 (fun v h => v = some .null ∧ h = h0) := by
  have ww := fun (i : Nat) {d : Jvm.Cond} (q : tables_1[i]? = some d) => hw d (List.mem_of_getElem? q)
  refine own_meet (plainFor_of_name own_pn4) Z0 (Ls0 := #[oA a1, oI 1]) (by intro m; first | (simp [entryFrame, mkF, argsToLocals, Value.category]; done) | rfl) ?_
  intro p e s m below meth c T0 X0
  refine own_aloadN X0 rfl rfl own_d_prog_20_method_9_code_0 (pc' := 1) rfl ?_
  refine own_getF X0 (ww 71 rfl) F1 own_d_prog_20_method_9_code_1 (pc' := 4) rfl fun T115 X115 => ?_
  refine own_iloadN X115 rfl own_d_prog_20_method_9_code_4 (pc' := 5) rfl ?_
  refine own_iaload X115 V1 (i := 1) (by decide) (by decide) rfl own_d_prog_20_method_9_code_5 (pc' := 6) rfl ?_
  have c116 : ¬ (c1 = 0) := hc
  refine own_ifT X115 (own_z_ne c116).2 own_d_prog_20_method_9_code_6 (pc' := 18) (by decide) (by decide) ?_
  refine own_aconst_null X115  own_d_prog_20_method_9_code_18 (pc' := 19) rfl ?_
  exact own_retNull X115 (t := (.object "java/lang/String")) rfl own_d_prog_20_method_9_code_19 rfl (by decide) (by decide) ⟨rfl, rfl⟩
abbrev own_rm_own_name_4_2_1 : Room := ({ frames := 0, cells := 0, slots := 0, locals := 0 } : Room)
set_option maxRecDepth 65536 in
set_option maxHeartbeats 40000000 in
theorem own_name_4_2_1 (l : Launch) (Z : State) (a0 : Array Value) (hw : ∀ d ∈ tables_1, d.before a0 Z = true) (a1 a2 a3 b1 : Addr) (c0 c1 c2 c3 : Int32) (v0 : Value) (v1 : Value) (v3 : Value) (h0 : Heap) (n0 : Nat) (Z0 : n0 ≤ h0.size) (F1 : Fld Z h0 a1 "com/example/cladewalk/cladewalk/tree/Tree" "childCounts" "[I" (.ref a2)) (F2 : Fld Z h0 a1 "com/example/cladewalk/cladewalk/tree/Tree" "names" "[Ljava/lang/String;" (.ref a3)) (V1 : own_Vec Z h0 a2 .int [(.int c0), (.int c1), (.int c2), (.int c3)]) (V2 : own_Vec Z h0 a3 (.object "java/lang/String") [v0, v1, (.ref b1), v3]) (hc : c2 = 0) :
    own_Met l Z ({ cls := "com/example/cladewalk/cladewalk/tree/Tree", name := "name", desc := "(I)Ljava/lang/String;" } : Jvm.MethodName) prog_20_method_9_code 2 (some (.object "java/lang/String")) [] own_rm_own_name_4_2_1 #[(.ref a1), (.int (2 : Int32))] h0 n0 (fun v h => v = some (.ref b1) ∧ h = h0) := by
  have ww := fun (i : Nat) {d : Jvm.Cond} (q : tables_1[i]? = some d) => hw d (List.mem_of_getElem? q)
  refine own_meet (plainFor_of_name own_pn4) Z0 (Ls0 := #[oA a1, oI 2]) (by intro m; first | (simp [entryFrame, mkF, argsToLocals, Value.category]; done) | rfl) ?_
  intro p e s m below meth c T0 X0
  refine own_aloadN X0 rfl rfl own_d_prog_20_method_9_code_0 (pc' := 1) rfl ?_
  refine own_getF X0 (ww 71 rfl) F1 own_d_prog_20_method_9_code_1 (pc' := 4) rfl fun T117 X117 => ?_
  refine own_iloadN X117 rfl own_d_prog_20_method_9_code_4 (pc' := 5) rfl ?_
  refine own_iaload X117 V1 (i := 2) (by decide) (by decide) rfl own_d_prog_20_method_9_code_5 (pc' := 6) rfl ?_
  have c118 : c2 = 0 := hc
  refine own_ifF X117 (own_z_eq c118).2 own_d_prog_20_method_9_code_6 (pc' := 9) rfl ?_
  refine own_aloadN X117 rfl rfl own_d_prog_20_method_9_code_9 (pc' := 10) rfl ?_
  refine own_getF X117 (ww 69 rfl) F2 own_d_prog_20_method_9_code_10 (pc' := 13) rfl fun T119 X119 => ?_
  refine own_iloadN X119 rfl own_d_prog_20_method_9_code_13 (pc' := 14) rfl ?_
  refine own_aaload X119 V2 rfl (i := 2) (by decide) (by decide) rfl own_d_prog_20_method_9_code_14 (pc' := 15) rfl ?_
  refine own_goto X119 own_d_prog_20_method_9_code_15 (pc' := 19) (by decide) (by decide) ?_
  exact own_retA X119 (t := (.object "java/lang/String")) rfl own_d_prog_20_method_9_code_19 rfl (by decide) (by decide) ⟨rfl, rfl⟩
abbrev own_rm_own_name_4_2_0 : Room := ({ frames := 0, cells := 0, slots := 0, locals := 0 } : Room)
set_option maxRecDepth 65536 in
set_option maxHeartbeats 40000000 in
theorem own_name_4_2_0 (l : Launch) (Z : State) (a0 : Array Value) (hw : ∀ d ∈ tables_1, d.before a0 Z = true) (a1 a2 a3 : Addr) (c0 c1 c2 c3 : Int32) (v0 : Value) (v1 : Value) (v2 : Value) (v3 : Value) (h0 : Heap) (n0 : Nat) (Z0 : n0 ≤ h0.size) (F1 : Fld Z h0 a1 "com/example/cladewalk/cladewalk/tree/Tree" "childCounts" "[I" (.ref a2)) (F2 : Fld Z h0 a1 "com/example/cladewalk/cladewalk/tree/Tree" "names" "[Ljava/lang/String;" (.ref a3)) (V1 : own_Vec Z h0 a2 .int [(.int c0), (.int c1), (.int c2), (.int c3)]) (V2 : own_Vec Z h0 a3 (.object "java/lang/String") [v0, v1, v2, v3]) (hc : ¬ c2 = 0) :
    own_Met l Z ({ cls := "com/example/cladewalk/cladewalk/tree/Tree", name := "name", desc := "(I)Ljava/lang/String;" } : Jvm.MethodName) prog_20_method_9_code 2 (some (.object "java/lang/String")) [] own_rm_own_name_4_2_0 #[(.ref a1), (.int (2 : Int32))] h0 n0 (fun v h => v = some .null ∧ h = h0) := by
  have ww := fun (i : Nat) {d : Jvm.Cond} (q : tables_1[i]? = some d) => hw d (List.mem_of_getElem? q)
  refine own_meet (plainFor_of_name own_pn4) Z0 (Ls0 := #[oA a1, oI 2]) (by intro m; first | (simp [entryFrame, mkF, argsToLocals, Value.category]; done) | rfl) ?_
  intro p e s m below meth c T0 X0
  refine own_aloadN X0 rfl rfl own_d_prog_20_method_9_code_0 (pc' := 1) rfl ?_
  refine own_getF X0 (ww 71 rfl) F1 own_d_prog_20_method_9_code_1 (pc' := 4) rfl fun T120 X120 => ?_
  refine own_iloadN X120 rfl own_d_prog_20_method_9_code_4 (pc' := 5) rfl ?_
  refine own_iaload X120 V1 (i := 2) (by decide) (by decide) rfl own_d_prog_20_method_9_code_5 (pc' := 6) rfl ?_
  have c121 : ¬ (c2 = 0) := hc
  refine own_ifT X120 (own_z_ne c121).2 own_d_prog_20_method_9_code_6 (pc' := 18) (by decide) (by decide) ?_
  refine own_aconst_null X120  own_d_prog_20_method_9_code_18 (pc' := 19) rfl ?_
  exact own_retNull X120 (t := (.object "java/lang/String")) rfl own_d_prog_20_method_9_code_19 rfl (by decide) (by decide) ⟨rfl, rfl⟩
abbrev own_rm_own_name_4_3_0 : Room := ({ frames := 0, cells := 0, slots := 0, locals := 0 } : Room)
set_option maxRecDepth 65536 in
set_option maxHeartbeats 40000000 in
theorem own_name_4_3_0 (l : Launch) (Z : State) (a0 : Array Value) (hw : ∀ d ∈ tables_1, d.before a0 Z = true) (a1 a2 a3 : Addr) (c0 c1 c2 c3 : Int32) (v0 : Value) (v1 : Value) (v2 : Value) (v3 : Value) (h0 : Heap) (n0 : Nat) (Z0 : n0 ≤ h0.size) (F1 : Fld Z h0 a1 "com/example/cladewalk/cladewalk/tree/Tree" "childCounts" "[I" (.ref a2)) (F2 : Fld Z h0 a1 "com/example/cladewalk/cladewalk/tree/Tree" "names" "[Ljava/lang/String;" (.ref a3)) (V1 : own_Vec Z h0 a2 .int [(.int c0), (.int c1), (.int c2), (.int c3)]) (V2 : own_Vec Z h0 a3 (.object "java/lang/String") [v0, v1, v2, v3]) (hc : ¬ c3 = 0) :
    own_Met l Z ({ cls := "com/example/cladewalk/cladewalk/tree/Tree", name := "name", desc := "(I)Ljava/lang/String;" } : Jvm.MethodName) prog_20_method_9_code 2 (some (.object "java/lang/String")) [] own_rm_own_name_4_3_0 #[(.ref a1), (.int (3 : Int32))] h0 n0 (fun v h => v = some .null ∧ h = h0) := by
  have ww := fun (i : Nat) {d : Jvm.Cond} (q : tables_1[i]? = some d) => hw d (List.mem_of_getElem? q)
  refine own_meet (plainFor_of_name own_pn4) Z0 (Ls0 := #[oA a1, oI 3]) (by intro m; first | (simp [entryFrame, mkF, argsToLocals, Value.category]; done) | rfl) ?_
  intro p e s m below meth c T0 X0
  refine own_aloadN X0 rfl rfl own_d_prog_20_method_9_code_0 (pc' := 1) rfl ?_
  refine own_getF X0 (ww 71 rfl) F1 own_d_prog_20_method_9_code_1 (pc' := 4) rfl fun T122 X122 => ?_
  refine own_iloadN X122 rfl own_d_prog_20_method_9_code_4 (pc' := 5) rfl ?_
  refine own_iaload X122 V1 (i := 3) (by decide) (by decide) rfl own_d_prog_20_method_9_code_5 (pc' := 6) rfl ?_
  have c123 : ¬ (c3 = 0) := hc
  refine own_ifT X122 (own_z_ne c123).2 own_d_prog_20_method_9_code_6 (pc' := 18) (by decide) (by decide) ?_
  refine own_aconst_null X122  own_d_prog_20_method_9_code_18 (pc' := 19) rfl ?_
  exact own_retNull X122 (t := (.object "java/lang/String")) rfl own_d_prog_20_method_9_code_19 rfl (by decide) (by decide) ⟨rfl, rfl⟩
abbrev own_rm_own_name_1_0_1 : Room := ({ frames := 0, cells := 0, slots := 0, locals := 0 } : Room)
set_option maxRecDepth 65536 in
set_option maxHeartbeats 40000000 in
theorem own_name_1_0_1 (l : Launch) (Z : State) (a0 : Array Value) (hw : ∀ d ∈ tables_1, d.before a0 Z = true) (a1 a2 a3 b1 : Addr) (c0 : Int32) (h0 : Heap) (n0 : Nat) (Z0 : n0 ≤ h0.size) (F1 : Fld Z h0 a1 "com/example/cladewalk/cladewalk/tree/Tree" "childCounts" "[I" (.ref a2)) (F2 : Fld Z h0 a1 "com/example/cladewalk/cladewalk/tree/Tree" "names" "[Ljava/lang/String;" (.ref a3)) (V1 : own_Vec Z h0 a2 .int [(.int c0)]) (V2 : own_Vec Z h0 a3 (.object "java/lang/String") [(.ref b1)]) (hc : c0 = 0) :
    own_Met l Z ({ cls := "com/example/cladewalk/cladewalk/tree/Tree", name := "name", desc := "(I)Ljava/lang/String;" } : Jvm.MethodName) prog_20_method_9_code 2 (some (.object "java/lang/String")) [] own_rm_own_name_1_0_1 #[(.ref a1), (.int (0 : Int32))] h0 n0 (fun v h => v = some (.ref b1) ∧ h = h0) := by
  have ww := fun (i : Nat) {d : Jvm.Cond} (q : tables_1[i]? = some d) => hw d (List.mem_of_getElem? q)
  refine own_meet (plainFor_of_name own_pn4) Z0 (Ls0 := #[oA a1, oI 0]) (by intro m; first | (simp [entryFrame, mkF, argsToLocals, Value.category]; done) | rfl) ?_
  intro p e s m below meth c T0 X0
  refine own_aloadN X0 rfl rfl own_d_prog_20_method_9_code_0 (pc' := 1) rfl ?_
  refine own_getF X0 (ww 71 rfl) F1 own_d_prog_20_method_9_code_1 (pc' := 4) rfl fun T124 X124 => ?_
  refine own_iloadN X124 rfl own_d_prog_20_method_9_code_4 (pc' := 5) rfl ?_
  refine own_iaload X124 V1 (i := 0) (by decide) (by decide) rfl own_d_prog_20_method_9_code_5 (pc' := 6) rfl ?_
  have c125 : c0 = 0 := hc
  refine own_ifF X124 (own_z_eq c125).2 own_d_prog_20_method_9_code_6 (pc' := 9) rfl ?_
  refine own_aloadN X124 rfl rfl own_d_prog_20_method_9_code_9 (pc' := 10) rfl ?_
  refine own_getF X124 (ww 69 rfl) F2 own_d_prog_20_method_9_code_10 (pc' := 13) rfl fun T126 X126 => ?_
  refine own_iloadN X126 rfl own_d_prog_20_method_9_code_13 (pc' := 14) rfl ?_
  refine own_aaload X126 V2 rfl (i := 0) (by decide) (by decide) rfl own_d_prog_20_method_9_code_14 (pc' := 15) rfl ?_
  refine own_goto X126 own_d_prog_20_method_9_code_15 (pc' := 19) (by decide) (by decide) ?_
  exact own_retA X126 (t := (.object "java/lang/String")) rfl own_d_prog_20_method_9_code_19 rfl (by decide) (by decide) ⟨rfl, rfl⟩
theorem own_d_prog_20_method_1_code_0 : decode prog_20_method_1_code 0 = .ok (.aload_n 0, 1) := by decide +kernel
theorem own_d_prog_20_method_1_code_1 : decode prog_20_method_1_code 1 = .ok (.invokespecial 1, 3) := by decide +kernel
theorem own_d_prog_20_method_1_code_4 : decode prog_20_method_1_code 4 = .ok (.aload_n 1, 1) := by decide +kernel
theorem own_d_prog_20_method_1_code_5 : decode prog_20_method_1_code 5 = .ok (.arraylength, 1) := by decide +kernel
theorem own_d_prog_20_method_1_code_6 : decode prog_20_method_1_code 6 = .ok (.istore 4, 2) := by decide +kernel
theorem own_d_prog_20_method_1_code_8 : decode prog_20_method_1_code 8 = .ok (.iload 4, 2) := by decide +kernel
theorem own_d_prog_20_method_1_code_10 : decode prog_20_method_1_code 10 = .ok (.ifCond .eq 17, 3) := by decide +kernel
theorem own_d_prog_20_method_1_code_13 : decode prog_20_method_1_code 13 = .ok (.aload_n 2, 1) := by decide +kernel
theorem own_d_prog_20_method_1_code_14 : decode prog_20_method_1_code 14 = .ok (.arraylength, 1) := by decide +kernel
theorem own_d_prog_20_method_1_code_15 : decode prog_20_method_1_code 15 = .ok (.iload 4, 2) := by decide +kernel
theorem own_d_prog_20_method_1_code_17 : decode prog_20_method_1_code 17 = .ok (.if_icmp .ne 10, 3) := by decide +kernel
theorem own_d_prog_20_method_1_code_20 : decode prog_20_method_1_code 20 = .ok (.aload_n 3, 1) := by decide +kernel
theorem own_d_prog_20_method_1_code_21 : decode prog_20_method_1_code 21 = .ok (.arraylength, 1) := by decide +kernel
theorem own_d_prog_20_method_1_code_22 : decode prog_20_method_1_code 22 = .ok (.iload 4, 2) := by decide +kernel
theorem own_d_prog_20_method_1_code_24 : decode prog_20_method_1_code 24 = .ok (.if_icmp .eq 13, 3) := by decide +kernel
theorem own_d_prog_20_method_1_code_27 : decode prog_20_method_1_code 27 = .ok (.new 7, 3) := by decide +kernel
theorem own_d_prog_20_method_1_code_30 : decode prog_20_method_1_code 30 = .ok (.dup, 1) := by decide +kernel
theorem own_d_prog_20_method_1_code_31 : decode prog_20_method_1_code 31 = .ok (.ldc 9, 2) := by decide +kernel
theorem own_d_prog_20_method_1_code_33 : decode prog_20_method_1_code 33 = .ok (.invokespecial 11, 3) := by decide +kernel
theorem own_d_prog_20_method_1_code_36 : decode prog_20_method_1_code 36 = .ok (.athrow, 1) := by decide +kernel
theorem own_d_prog_20_method_1_code_37 : decode prog_20_method_1_code 37 = .ok (.aload_n 0, 1) := by decide +kernel
theorem own_d_prog_20_method_1_code_38 : decode prog_20_method_1_code 38 = .ok (.aload_n 1, 1) := by decide +kernel
theorem own_d_prog_20_method_1_code_39 : decode prog_20_method_1_code 39 = .ok (.invokevirtual 14, 3) := by decide +kernel
theorem own_d_prog_20_method_1_code_42 : decode prog_20_method_1_code 42 = .ok (.checkcast 15, 3) := by decide +kernel
theorem own_d_prog_20_method_1_code_45 : decode prog_20_method_1_code 45 = .ok (.putfield 20, 3) := by decide +kernel
theorem own_d_prog_20_method_1_code_48 : decode prog_20_method_1_code 48 = .ok (.aload_n 0, 1) := by decide +kernel
theorem own_d_prog_20_method_1_code_49 : decode prog_20_method_1_code 49 = .ok (.aload_n 2, 1) := by decide +kernel
theorem own_d_prog_20_method_1_code_50 : decode prog_20_method_1_code 50 = .ok (.invokevirtual 25, 3) := by decide +kernel
theorem own_d_prog_20_method_1_code_53 : decode prog_20_method_1_code 53 = .ok (.checkcast 26, 3) := by decide +kernel
theorem own_d_prog_20_method_1_code_56 : decode prog_20_method_1_code 56 = .ok (.putfield 28, 3) := by decide +kernel
theorem own_d_prog_20_method_1_code_59 : decode prog_20_method_1_code 59 = .ok (.aload_n 0, 1) := by decide +kernel
theorem own_d_prog_20_method_1_code_60 : decode prog_20_method_1_code 60 = .ok (.aload_n 3, 1) := by decide +kernel
theorem own_d_prog_20_method_1_code_61 : decode prog_20_method_1_code 61 = .ok (.invokevirtual 31, 3) := by decide +kernel
theorem own_d_prog_20_method_1_code_64 : decode prog_20_method_1_code 64 = .ok (.checkcast 32, 3) := by decide +kernel
theorem own_d_prog_20_method_1_code_67 : decode prog_20_method_1_code 67 = .ok (.putfield 34, 3) := by decide +kernel
theorem own_d_prog_20_method_1_code_70 : decode prog_20_method_1_code 70 = .ok (.aload_n 0, 1) := by decide +kernel
theorem own_d_prog_20_method_1_code_71 : decode prog_20_method_1_code 71 = .ok (.iload 4, 2) := by decide +kernel
theorem own_d_prog_20_method_1_code_73 : decode prog_20_method_1_code 73 = .ok (.newarray .int, 2) := by decide +kernel
theorem own_d_prog_20_method_1_code_75 : decode prog_20_method_1_code 75 = .ok (.putfield 37, 3) := by decide +kernel
theorem own_d_prog_20_method_1_code_78 : decode prog_20_method_1_code 78 = .ok (.iconst 0, 1) := by decide +kernel
theorem own_d_prog_20_method_1_code_79 : decode prog_20_method_1_code 79 = .ok (.istore 5, 2) := by decide +kernel
theorem own_d_prog_20_method_1_code_81 : decode prog_20_method_1_code 81 = .ok (.iconst 0, 1) := by decide +kernel
theorem own_d_prog_20_method_1_code_82 : decode prog_20_method_1_code 82 = .ok (.istore 6, 2) := by decide +kernel
theorem own_d_prog_20_method_1_code_84 : decode prog_20_method_1_code 84 = .ok (.iload 6, 2) := by decide +kernel
theorem own_d_prog_20_method_1_code_86 : decode prog_20_method_1_code 86 = .ok (.iload 4, 2) := by decide +kernel
theorem own_d_prog_20_method_1_code_88 : decode prog_20_method_1_code 88 = .ok (.if_icmp .ge 136, 3) := by decide +kernel
theorem own_d_prog_20_method_1_code_91 : decode prog_20_method_1_code 91 = .ok (.aload_n 1, 1) := by decide +kernel
theorem own_d_prog_20_method_1_code_92 : decode prog_20_method_1_code 92 = .ok (.iload 6, 2) := by decide +kernel
theorem own_d_prog_20_method_1_code_94 : decode prog_20_method_1_code 94 = .ok (.iaload, 1) := by decide +kernel
theorem own_d_prog_20_method_1_code_95 : decode prog_20_method_1_code 95 = .ok (.istore 7, 2) := by decide +kernel
theorem own_d_prog_20_method_1_code_97 : decode prog_20_method_1_code 97 = .ok (.iload 6, 2) := by decide +kernel
theorem own_d_prog_20_method_1_code_99 : decode prog_20_method_1_code 99 = .ok (.iload 4, 2) := by decide +kernel
theorem own_d_prog_20_method_1_code_101 : decode prog_20_method_1_code 101 = .ok (.iconst 1, 1) := by decide +kernel
theorem own_d_prog_20_method_1_code_102 : decode prog_20_method_1_code 102 = .ok (.isub, 1) := by decide +kernel
theorem own_d_prog_20_method_1_code_103 : decode prog_20_method_1_code 103 = .ok (.if_icmp .ne 17, 3) := by decide +kernel
theorem own_d_prog_20_method_1_code_106 : decode prog_20_method_1_code 106 = .ok (.iload 7, 2) := by decide +kernel
theorem own_d_prog_20_method_1_code_108 : decode prog_20_method_1_code 108 = .ok (.iconst (-1), 1) := by decide +kernel
theorem own_d_prog_20_method_1_code_109 : decode prog_20_method_1_code 109 = .ok (.if_icmp .ne 7, 3) := by decide +kernel
theorem own_d_prog_20_method_1_code_112 : decode prog_20_method_1_code 112 = .ok (.iconst 1, 1) := by decide +kernel
theorem own_d_prog_20_method_1_code_113 : decode prog_20_method_1_code 113 = .ok (.goto 26, 3) := by decide +kernel
theorem own_d_prog_20_method_1_code_116 : decode prog_20_method_1_code 116 = .ok (.iconst 0, 1) := by decide +kernel
theorem own_d_prog_20_method_1_code_117 : decode prog_20_method_1_code 117 = .ok (.goto 22, 3) := by decide +kernel
theorem own_d_prog_20_method_1_code_120 : decode prog_20_method_1_code 120 = .ok (.iload 7, 2) := by decide +kernel
theorem own_d_prog_20_method_1_code_122 : decode prog_20_method_1_code 122 = .ok (.iload 6, 2) := by decide +kernel
theorem own_d_prog_20_method_1_code_124 : decode prog_20_method_1_code 124 = .ok (.if_icmp .le 14, 3) := by decide +kernel
theorem own_d_prog_20_method_1_code_127 : decode prog_20_method_1_code 127 = .ok (.iload 7, 2) := by decide +kernel
theorem own_d_prog_20_method_1_code_129 : decode prog_20_method_1_code 129 = .ok (.iload 4, 2) := by decide +kernel
theorem own_d_prog_20_method_1_code_131 : decode prog_20_method_1_code 131 = .ok (.if_icmp .ge 7, 3) := by decide +kernel
theorem own_d_prog_20_method_1_code_134 : decode prog_20_method_1_code 134 = .ok (.iconst 1, 1) := by decide +kernel
theorem own_d_prog_20_method_1_code_135 : decode prog_20_method_1_code 135 = .ok (.goto 4, 3) := by decide +kernel
theorem own_d_prog_20_method_1_code_138 : decode prog_20_method_1_code 138 = .ok (.iconst 0, 1) := by decide +kernel
theorem own_d_prog_20_method_1_code_139 : decode prog_20_method_1_code 139 = .ok (.istore 8, 2) := by decide +kernel
theorem own_d_prog_20_method_1_code_141 : decode prog_20_method_1_code 141 = .ok (.iload 8, 2) := by decide +kernel
theorem own_d_prog_20_method_1_code_143 : decode prog_20_method_1_code 143 = .ok (.ifCond .ne 20, 3) := by decide +kernel
theorem own_d_prog_20_method_1_code_146 : decode prog_20_method_1_code 146 = .ok (.new 7, 3) := by decide +kernel
theorem own_d_prog_20_method_1_code_149 : decode prog_20_method_1_code 149 = .ok (.dup, 1) := by decide +kernel
theorem own_d_prog_20_method_1_code_150 : decode prog_20_method_1_code 150 = .ok (.iload 6, 2) := by decide +kernel
theorem own_d_prog_20_method_1_code_152 : decode prog_20_method_1_code 152 = .ok (.iload 7, 2) := by decide +kernel
theorem own_d_prog_20_method_1_code_159 : decode prog_20_method_1_code 159 = .ok (.invokespecial 11, 3) := by decide +kernel
theorem own_d_prog_20_method_1_code_162 : decode prog_20_method_1_code 162 = .ok (.athrow, 1) := by decide +kernel
theorem own_d_prog_20_method_1_code_163 : decode prog_20_method_1_code 163 = .ok (.iload 7, 2) := by decide +kernel
theorem own_d_prog_20_method_1_code_165 : decode prog_20_method_1_code 165 = .ok (.ifCond .lt 53, 3) := by decide +kernel
theorem own_d_prog_20_method_1_code_168 : decode prog_20_method_1_code 168 = .ok (.aload_n 0, 1) := by decide +kernel
theorem own_d_prog_20_method_1_code_169 : decode prog_20_method_1_code 169 = .ok (.getfield 37, 3) := by decide +kernel
theorem own_d_prog_20_method_1_code_172 : decode prog_20_method_1_code 172 = .ok (.iload 7, 2) := by decide +kernel
theorem own_d_prog_20_method_1_code_174 : decode prog_20_method_1_code 174 = .ok (.dup2, 1) := by decide +kernel
theorem own_d_prog_20_method_1_code_175 : decode prog_20_method_1_code 175 = .ok (.iaload, 1) := by decide +kernel
theorem own_d_prog_20_method_1_code_176 : decode prog_20_method_1_code 176 = .ok (.iconst 1, 1) := by decide +kernel
theorem own_d_prog_20_method_1_code_177 : decode prog_20_method_1_code 177 = .ok (.iadd, 1) := by decide +kernel
theorem own_d_prog_20_method_1_code_178 : decode prog_20_method_1_code 178 = .ok (.iastore, 1) := by decide +kernel
theorem own_d_prog_20_method_1_code_179 : decode prog_20_method_1_code 179 = .ok (.aload_n 2, 1) := by decide +kernel
theorem own_d_prog_20_method_1_code_180 : decode prog_20_method_1_code 180 = .ok (.iload 6, 2) := by decide +kernel
theorem own_d_prog_20_method_1_code_182 : decode prog_20_method_1_code 182 = .ok (.daload, 1) := by decide +kernel
theorem own_d_prog_20_method_1_code_183 : decode prog_20_method_1_code 183 = .ok (.dconst 0, 1) := by decide +kernel
theorem own_d_prog_20_method_1_code_184 : decode prog_20_method_1_code 184 = .ok (.dcmp .l, 1) := by decide +kernel
theorem own_d_prog_20_method_1_code_185 : decode prog_20_method_1_code 185 = .ok (.ifCond .lt 14, 3) := by decide +kernel
theorem own_d_prog_20_method_1_code_188 : decode prog_20_method_1_code 188 = .ok (.aload_n 2, 1) := by decide +kernel
theorem own_d_prog_20_method_1_code_189 : decode prog_20_method_1_code 189 = .ok (.iload 6, 2) := by decide +kernel
theorem own_d_prog_20_method_1_code_191 : decode prog_20_method_1_code 191 = .ok (.daload, 1) := by decide +kernel
theorem own_d_prog_20_method_1_code_192 : decode prog_20_method_1_code 192 = .ok (.ldc2_w 46, 3) := by decide +kernel
theorem own_d_prog_20_method_1_code_195 : decode prog_20_method_1_code 195 = .ok (.dcmp .g, 1) := by decide +kernel
theorem own_d_prog_20_method_1_code_196 : decode prog_20_method_1_code 196 = .ok (.ifCond .lt 22, 3) := by decide +kernel
theorem own_d_prog_20_method_1_code_199 : decode prog_20_method_1_code 199 = .ok (.new 7, 3) := by decide +kernel
theorem own_d_prog_20_method_1_code_202 : decode prog_20_method_1_code 202 = .ok (.dup, 1) := by decide +kernel
theorem own_d_prog_20_method_1_code_203 : decode prog_20_method_1_code 203 = .ok (.iload 6, 2) := by decide +kernel
theorem own_d_prog_20_method_1_code_205 : decode prog_20_method_1_code 205 = .ok (.aload_n 2, 1) := by decide +kernel
theorem own_d_prog_20_method_1_code_206 : decode prog_20_method_1_code 206 = .ok (.iload 6, 2) := by decide +kernel
theorem own_d_prog_20_method_1_code_208 : decode prog_20_method_1_code 208 = .ok (.daload, 1) := by decide +kernel
theorem own_d_prog_20_method_1_code_214 : decode prog_20_method_1_code 214 = .ok (.invokespecial 11, 3) := by decide +kernel
theorem own_d_prog_20_method_1_code_217 : decode prog_20_method_1_code 217 = .ok (.athrow, 1) := by decide +kernel
theorem own_d_prog_20_method_1_code_218 : decode prog_20_method_1_code 218 = .ok (.iinc 6 1, 3) := by decide +kernel
theorem own_d_prog_20_method_1_code_221 : decode prog_20_method_1_code 221 = .ok (.goto (-137), 3) := by decide +kernel
theorem own_d_prog_20_method_1_code_224 : decode prog_20_method_1_code 224 = .ok (.iconst 0, 1) := by decide +kernel
theorem own_d_prog_20_method_1_code_225 : decode prog_20_method_1_code 225 = .ok (.istore 6, 2) := by decide +kernel
theorem own_d_prog_20_method_1_code_227 : decode prog_20_method_1_code 227 = .ok (.iload 6, 2) := by decide +kernel
theorem own_d_prog_20_method_1_code_229 : decode prog_20_method_1_code 229 = .ok (.iload 4, 2) := by decide +kernel
theorem own_d_prog_20_method_1_code_231 : decode prog_20_method_1_code 231 = .ok (.if_icmp .ge 44, 3) := by decide +kernel
theorem own_d_prog_20_method_1_code_234 : decode prog_20_method_1_code 234 = .ok (.aload_n 0, 1) := by decide +kernel
theorem own_d_prog_20_method_1_code_235 : decode prog_20_method_1_code 235 = .ok (.getfield 37, 3) := by decide +kernel
theorem own_d_prog_20_method_1_code_238 : decode prog_20_method_1_code 238 = .ok (.iload 6, 2) := by decide +kernel
theorem own_d_prog_20_method_1_code_240 : decode prog_20_method_1_code 240 = .ok (.iaload, 1) := by decide +kernel
theorem own_d_prog_20_method_1_code_241 : decode prog_20_method_1_code 241 = .ok (.ifCond .ne 28, 3) := by decide +kernel
theorem own_d_prog_20_method_1_code_244 : decode prog_20_method_1_code 244 = .ok (.iinc 5 1, 3) := by decide +kernel
theorem own_d_prog_20_method_1_code_247 : decode prog_20_method_1_code 247 = .ok (.aload_n 3, 1) := by decide +kernel
theorem own_d_prog_20_method_1_code_248 : decode prog_20_method_1_code 248 = .ok (.iload 6, 2) := by decide +kernel
theorem own_d_prog_20_method_1_code_250 : decode prog_20_method_1_code 250 = .ok (.aaload, 1) := by decide +kernel
theorem own_d_prog_20_method_1_code_251 : decode prog_20_method_1_code 251 = .ok (.ifnonnull 18, 3) := by decide +kernel
theorem own_d_prog_20_method_1_code_254 : decode prog_20_method_1_code 254 = .ok (.new 7, 3) := by decide +kernel
theorem own_d_prog_20_method_1_code_257 : decode prog_20_method_1_code 257 = .ok (.dup, 1) := by decide +kernel
theorem own_d_prog_20_method_1_code_258 : decode prog_20_method_1_code 258 = .ok (.iload 6, 2) := by decide +kernel
theorem own_d_prog_20_method_1_code_265 : decode prog_20_method_1_code 265 = .ok (.invokespecial 11, 3) := by decide +kernel
theorem own_d_prog_20_method_1_code_268 : decode prog_20_method_1_code 268 = .ok (.athrow, 1) := by decide +kernel
theorem own_d_prog_20_method_1_code_269 : decode prog_20_method_1_code 269 = .ok (.iinc 6 1, 3) := by decide +kernel
theorem own_d_prog_20_method_1_code_272 : decode prog_20_method_1_code 272 = .ok (.goto (-45), 3) := by decide +kernel
theorem own_d_prog_20_method_1_code_275 : decode prog_20_method_1_code 275 = .ok (.aload_n 0, 1) := by decide +kernel
theorem own_d_prog_20_method_1_code_276 : decode prog_20_method_1_code 276 = .ok (.iload 5, 2) := by decide +kernel
theorem own_d_prog_20_method_1_code_278 : decode prog_20_method_1_code 278 = .ok (.putfield 54, 3) := by decide +kernel
theorem own_d_prog_20_method_1_code_281 : decode prog_20_method_1_code 281 = .ok (.return_, 1) := by decide +kernel
theorem own_pd13 : parseMethodDescriptor "([I[D[Ljava/lang/String;)V" = some ⟨[(.array .int), (.array .double), (.array (.object "java/lang/String"))], none⟩ := by decide +kernel
abbrev own_rm_own_ti_12 : Room := ({ frames := 1, cells := 4, slots := 16, locals := 15 } : Room)
set_option maxRecDepth 65536 in
set_option maxHeartbeats 40000000 in
theorem own_ti_12 (l : Launch) (Z : State) (a0 : Array Value) (hw : ∀ d ∈ tables_1, d.before a0 Z = true) (a1 a2 a3 a4 : Addr) (z0 : UInt64) (i_z0 : Int) (z1 : UInt64) (i_z1 : Int) (z2 : UInt64) (i_z2 : Int) (s0 : Addr) (v1 : Value) (v2 : Value) (v3 : Value) (h0 : Heap) (n0 : Nat) (Z0 : n0 ≤ h0.size) (ge1 : n0 ≤ a1) (A1 : Exa Z h0 a1 "com/example/cladewalk/cladewalk/tree/Tree") (F0 : Fld Z h0 a1 "com/example/cladewalk/cladewalk/tree/Tree" "parents" "[I" .null) (F1 : Fld Z h0 a1 "com/example/cladewalk/cladewalk/tree/Tree" "lengths" "[D" .null) (F2 : Fld Z h0 a1 "com/example/cladewalk/cladewalk/tree/Tree" "names" "[Ljava/lang/String;" .null) (F3 : Fld Z h0 a1 "com/example/cladewalk/cladewalk/tree/Tree" "childCounts" "[I" .null) (F4 : Fld Z h0 a1 "com/example/cladewalk/cladewalk/tree/Tree" "tipCount" "I" (.int (0 : Int32))) (V1 : own_Vec Z h0 a2 .int [(.int (1 : Int32)), (.int (2 : Int32)), (.int (3 : Int32)), (.int (-1 : Int32))]) (V2 : own_Vec Z h0 a3 .double [(.double z0), (.double z1), (.double z2), (.double (0 : UInt64))]) (V3 : own_Vec Z h0 a4 (.object "java/lang/String") [(.ref s0), v1, v2, v3]) (B1 : Exa Z h0 a2 "[I") (B2 : Exa Z h0 a3 "[D") (B3 : Exa Z h0 a4 "[Ljava/lang/String;") (N2 : a1 ≠ a2) (N3 : a1 ≠ a3) (N4 : a1 ≠ a4) (D_z0 : own_D 0 7 i_z0 z0) (hi_z0 : 0 ≤ i_z0) (D_z1 : own_D 0 7 i_z1 z1) (hi_z1 : 0 ≤ i_z1) (D_z2 : own_D 0 7 i_z2 z2) (hi_z2 : 0 ≤ i_z2) (fq_v1 : fits (.object "java/lang/String") v1 = true) (fq_v2 : fits (.object "java/lang/String") v2 = true) (fq_v3 : fits (.object "java/lang/String") v3 = true) :
    own_Met l Z ({ cls := "com/example/cladewalk/cladewalk/tree/Tree", name := "<init>", desc := "([I[D[Ljava/lang/String;)V" } : Jvm.MethodName) prog_20_method_1_code 9 none [] own_rm_own_ti_12 #[(.ref a1), (.ref a2), (.ref a3), (.ref a4)] h0 n0 (fun v h => v = none ∧ (∃ x y, Fld Z h a1 "com/example/cladewalk/cladewalk/tree/Tree" "childCounts" "[I" (.ref x) ∧ Fld Z h a1 "com/example/cladewalk/cladewalk/tree/Tree" "names" "[Ljava/lang/String;" (.ref y) ∧ own_Vec Z h x .int [(.int (0 : Int32)), (.int (1 : Int32)), (.int (1 : Int32)), (.int (1 : Int32))] ∧ own_Vec Z h y (.object "java/lang/String") [(.ref s0), v1, v2, v3]) ∧ Keep h0 h [a1]) := by
  have ww := fun (i : Nat) {d : Jvm.Cond} (q : tables_1[i]? = some d) => hw d (List.mem_of_getElem? q)
  refine own_meet (plainFor_of_name own_pn4) Z0 (Ls0 := #[oA a1, oA a2, oA a3, oA a4, oU, oU, oU, oU, oU]) (by intro m; first | (simp [entryFrame, mkF, argsToLocals, Value.category]; done) | rfl) ?_
  intro p e s m below meth c T0 X0
  have K0 := Keep.refl h0 [a1]
  refine own_aloadN X0 rfl rfl own_d_prog_20_method_1_code_0 (pc' := 1) rfl ?_
  refine own_initO X0 (ww 43 rfl) (ww 16 rfl) (ww 17 rfl) rfl (by decide) (W := 0) (Nat.le_of_eq rfl) (by decide) own_d_prog_20_method_1_code_1 (pc' := 4) rfl fun T127 X127 => ?_
  refine own_aloadN X127 rfl rfl own_d_prog_20_method_1_code_4 (pc' := 5) rfl ?_
  refine own_len X127 V1 (v := (4 : Int32)) (show (4 : Nat).toInt32 = (4 : Int32) by decide) own_d_prog_20_method_1_code_5 (pc' := 6) rfl ?_
  refine own_istore X127 (Ls' := #[oA a1, oA a2, oA a3, oA a4, oI 4, oU, oU, oU, oU]) rfl own_d_prog_20_method_1_code_6 (pc' := 8) rfl ?_
  refine own_iload X127 rfl own_d_prog_20_method_1_code_8 (pc' := 10) rfl ?_
  refine own_ifF X127 (by decide) own_d_prog_20_method_1_code_10 (pc' := 13) rfl ?_
  refine own_aloadN X127 rfl rfl own_d_prog_20_method_1_code_13 (pc' := 14) rfl ?_
  refine own_len X127 V2 (v := (4 : Int32)) (show (4 : Nat).toInt32 = (4 : Int32) by decide) own_d_prog_20_method_1_code_14 (pc' := 15) rfl ?_
  refine own_iload X127 rfl own_d_prog_20_method_1_code_15 (pc' := 17) rfl ?_
  refine own_icmpF X127 (by decide) own_d_prog_20_method_1_code_17 (pc' := 20) rfl ?_
  refine own_aloadN X127 rfl rfl own_d_prog_20_method_1_code_20 (pc' := 21) rfl ?_
  refine own_len X127 V3 (v := (4 : Int32)) (show (4 : Nat).toInt32 = (4 : Int32) by decide) own_d_prog_20_method_1_code_21 (pc' := 22) rfl ?_
  refine own_iload X127 rfl own_d_prog_20_method_1_code_22 (pc' := 24) rfl ?_
  refine own_icmpT X127 (by decide) own_d_prog_20_method_1_code_24 (pc' := 37) (by decide) (by decide) ?_
  refine own_aloadN X127 rfl rfl own_d_prog_20_method_1_code_37 (pc' := 38) rfl ?_
  refine own_aloadN X127 rfl rfl own_d_prog_20_method_1_code_38 (pc' := 39) rfl ?_
  refine own_clone X127 (ad := "[I") (ww 44 rfl) (ww 45 rfl) (ww 49 rfl) (ww 47 rfl) (ww 48 rfl) (ww 50 rfl) V1 B1 (own_fitS rfl (own_fitS rfl (own_fitS rfl (own_fitS rfl own_fit0)))) (n := 4) rfl rfl (by decide) (W := 1) (Nat.le_of_eq rfl) (by decide) (cells' := 1) (slots' := 4) rfl rfl (by decide) (by decide) own_d_prog_20_method_1_code_39 (pc' := 42) rfl fun a128 T128 h128 g128 ge128 X128 E128 V128 A128 => ?_
  have ne129 : a1 ≠ a128 := own_lt_ne A1.lt g128
  have ne130 : a2 ≠ a128 := own_lt_ne V1.lt g128
  have ne131 : a3 ≠ a128 := own_lt_ne V2.lt g128
  have ne132 : a4 ≠ a128 := own_lt_ne V3.lt g128
  have sz133 := own_ge K0 g128
  have A134 := A1.ext E128
  have F135 := F0.ext E128
  have F136 := F1.ext E128
  have F137 := F2.ext E128
  have F138 := F3.ext E128
  have F139 := F4.ext E128
  have V140 := V1.ext E128
  have A141 := B1.ext E128
  have V142 := V2.ext E128
  have A143 := B2.ext E128
  have V144 := V3.ext E128
  have A145 := B3.ext E128
  have K146 := K0.ext E128
  refine own_cast_ X128 (ww 51 rfl) A128 own_d_prog_20_method_1_code_42 (pc' := 45) rfl fun T147 X147 => ?_
  refine own_putF X147 (ww 53 rfl) F135 A134 (Or.inr ⟨(ww 54 rfl), rfl, rfl⟩) (ww 38 rfl) (ty := (.array .int)) (by decide) rfl rfl ge1 own_d_prog_20_method_1_code_45 (pc' := 48) rfl fun T148 h148 X148 W148 => ?_
  have A149 := A134.wr W148
  have A150 := A141.wr W148
  have V151 := V140.other W148 N2.symm
  have A152 := A143.wr W148
  have V153 := V142.other W148 N3.symm
  have A154 := A145.wr W148
  have V155 := V144.other W148 N4.symm
  have A156 := A128.wr W148
  have V157 := V128.other W148 ne129.symm
  have K158 := K146.wr W148 (Or.inl (by simp))
  have F159 := F135.same W148
  have F160 := F136.other W148 (Or.inr (slot_ne (C := "com/example/cladewalk/cladewalk/tree/Tree") (Or.inr (ww 62 rfl)) (Or.inr (ww 54 rfl)) (by decide) (t := (.array .double)) (t' := (.array .int)) (by decide) (by decide)))
  have F161 := F137.other W148 (Or.inr (slot_ne (C := "com/example/cladewalk/cladewalk/tree/Tree") (Or.inr (ww 70 rfl)) (Or.inr (ww 54 rfl)) (by decide) (t := (.array (.object "java/lang/String"))) (t' := (.array .int)) (by decide) (by decide)))
  have F162 := F138.other W148 (Or.inr (slot_ne (C := "com/example/cladewalk/cladewalk/tree/Tree") (Or.inr (ww 72 rfl)) (Or.inr (ww 54 rfl)) (by decide) (t := (.array .int)) (t' := (.array .int)) (by decide) (by decide)))
  have F163 := F139.other W148 (Or.inr (slot_ne (C := "com/example/cladewalk/cladewalk/tree/Tree") (Or.inr (ww 75 rfl)) (Or.inr (ww 54 rfl)) (by decide) (t := .int) (t' := (.array .int)) (by decide) (by decide)))
  refine own_aloadN X148 rfl rfl own_d_prog_20_method_1_code_48 (pc' := 49) rfl ?_
  refine own_aloadN X148 rfl rfl own_d_prog_20_method_1_code_49 (pc' := 50) rfl ?_
  refine own_clone X148 (ad := "[D") (ww 55 rfl) (ww 56 rfl) (ww 49 rfl) (ww 47 rfl) (ww 57 rfl) (ww 58 rfl) V153 A152 (own_fitS rfl (own_fitS rfl (own_fitS rfl (own_fitS rfl own_fit0)))) (n := 4) rfl rfl (by decide) (W := 1) (Nat.le_of_eq rfl) (by decide) (cells' := 2) (slots' := 8) rfl rfl (by decide) (by decide) own_d_prog_20_method_1_code_50 (pc' := 53) rfl fun a164 T164 h164 g164 ge164 X164 E164 V164 A164 => ?_
  have ne165 : a1 ≠ a164 := own_lt_ne A149.lt g164
  have ne166 : a2 ≠ a164 := own_lt_ne V151.lt g164
  have ne167 : a3 ≠ a164 := own_lt_ne V153.lt g164
  have ne168 : a4 ≠ a164 := own_lt_ne V155.lt g164
  have ne169 : a128 ≠ a164 := own_lt_ne V157.lt g164
  have sz170 := own_ge K158 g164
  have A171 := A149.ext E164
  have F172 := F159.ext E164
  have F173 := F160.ext E164
  have F174 := F161.ext E164
  have F175 := F162.ext E164
  have F176 := F163.ext E164
  have V177 := V151.ext E164
  have A178 := A150.ext E164
  have V179 := V153.ext E164
  have A180 := A152.ext E164
  have V181 := V155.ext E164
  have A182 := A154.ext E164
  have V183 := V157.ext E164
  have A184 := A156.ext E164
  have K185 := K158.ext E164
  refine own_cast_ X164 (ww 59 rfl) A164 own_d_prog_20_method_1_code_53 (pc' := 56) rfl fun T186 X186 => ?_
  refine own_putF X186 (ww 61 rfl) F173 A171 (Or.inr ⟨(ww 62 rfl), rfl, rfl⟩) (ww 38 rfl) (ty := (.array .double)) (by decide) rfl rfl ge1 own_d_prog_20_method_1_code_56 (pc' := 59) rfl fun T187 h187 X187 W187 => ?_
  have A188 := A171.wr W187
  have A189 := A178.wr W187
  have V190 := V177.other W187 N2.symm
  have A191 := A180.wr W187
  have V192 := V179.other W187 N3.symm
  have A193 := A182.wr W187
  have V194 := V181.other W187 N4.symm
  have A195 := A184.wr W187
  have V196 := V183.other W187 ne129.symm
  have A197 := A164.wr W187
  have V198 := V164.other W187 ne165.symm
  have K199 := K185.wr W187 (Or.inl (by simp))
  have F200 := F173.same W187
  have F201 := F172.other W187 (Or.inr (slot_ne (C := "com/example/cladewalk/cladewalk/tree/Tree") (Or.inr (ww 54 rfl)) (Or.inr (ww 62 rfl)) (by decide) (t := (.array .int)) (t' := (.array .double)) (by decide) (by decide)))
  have F202 := F174.other W187 (Or.inr (slot_ne (C := "com/example/cladewalk/cladewalk/tree/Tree") (Or.inr (ww 70 rfl)) (Or.inr (ww 62 rfl)) (by decide) (t := (.array (.object "java/lang/String"))) (t' := (.array .double)) (by decide) (by decide)))
  have F203 := F175.other W187 (Or.inr (slot_ne (C := "com/example/cladewalk/cladewalk/tree/Tree") (Or.inr (ww 72 rfl)) (Or.inr (ww 62 rfl)) (by decide) (t := (.array .int)) (t' := (.array .double)) (by decide) (by decide)))
  have F204 := F176.other W187 (Or.inr (slot_ne (C := "com/example/cladewalk/cladewalk/tree/Tree") (Or.inr (ww 75 rfl)) (Or.inr (ww 62 rfl)) (by decide) (t := .int) (t' := (.array .double)) (by decide) (by decide)))
  refine own_aloadN X187 rfl rfl own_d_prog_20_method_1_code_59 (pc' := 60) rfl ?_
  refine own_aloadN X187 rfl rfl own_d_prog_20_method_1_code_60 (pc' := 61) rfl ?_
  refine own_clone X187 (ad := "[Ljava/lang/String;") (ww 63 rfl) (ww 64 rfl) (ww 49 rfl) (ww 47 rfl) (ww 65 rfl) (ww 66 rfl) V194 A193 (own_fitS rfl (own_fitS fq_v1 (own_fitS fq_v2 (own_fitS fq_v3 own_fit0)))) (n := 4) rfl rfl (by decide) (W := 1) (Nat.le_of_eq rfl) (by decide) (cells' := 3) (slots' := 12) rfl rfl (by decide) (by decide) own_d_prog_20_method_1_code_61 (pc' := 64) rfl fun a205 T205 h205 g205 ge205 X205 E205 V205 A205 => ?_
  have ne206 : a1 ≠ a205 := own_lt_ne A188.lt g205
  have ne207 : a2 ≠ a205 := own_lt_ne V190.lt g205
  have ne208 : a3 ≠ a205 := own_lt_ne V192.lt g205
  have ne209 : a4 ≠ a205 := own_lt_ne V194.lt g205
  have ne210 : a128 ≠ a205 := own_lt_ne V196.lt g205
  have ne211 : a164 ≠ a205 := own_lt_ne V198.lt g205
  have sz212 := own_ge K199 g205
  have A213 := A188.ext E205
  have F214 := F200.ext E205
  have F215 := F201.ext E205
  have F216 := F202.ext E205
  have F217 := F203.ext E205
  have F218 := F204.ext E205
  have V219 := V190.ext E205
  have A220 := A189.ext E205
  have V221 := V192.ext E205
  have A222 := A191.ext E205
  have V223 := V194.ext E205
  have A224 := A193.ext E205
  have V225 := V196.ext E205
  have A226 := A195.ext E205
  have V227 := V198.ext E205
  have A228 := A197.ext E205
  have K229 := K199.ext E205
  refine own_cast_ X205 (ww 67 rfl) A205 own_d_prog_20_method_1_code_64 (pc' := 67) rfl fun T230 X230 => ?_
  refine own_putF X230 (ww 69 rfl) F216 A213 (Or.inr ⟨(ww 70 rfl), rfl, rfl⟩) (ww 38 rfl) (ty := (.array (.object "java/lang/String"))) (by decide) rfl rfl ge1 own_d_prog_20_method_1_code_67 (pc' := 70) rfl fun T231 h231 X231 W231 => ?_
  have A232 := A213.wr W231
  have A233 := A220.wr W231
  have V234 := V219.other W231 N2.symm
  have A235 := A222.wr W231
  have V236 := V221.other W231 N3.symm
  have A237 := A224.wr W231
  have V238 := V223.other W231 N4.symm
  have A239 := A226.wr W231
  have V240 := V225.other W231 ne129.symm
  have A241 := A228.wr W231
  have V242 := V227.other W231 ne165.symm
  have A243 := A205.wr W231
  have V244 := V205.other W231 ne206.symm
  have K245 := K229.wr W231 (Or.inl (by simp))
  have F246 := F216.same W231
  have F247 := F214.other W231 (Or.inr (slot_ne (C := "com/example/cladewalk/cladewalk/tree/Tree") (Or.inr (ww 62 rfl)) (Or.inr (ww 70 rfl)) (by decide) (t := (.array .double)) (t' := (.array (.object "java/lang/String"))) (by decide) (by decide)))
  have F248 := F215.other W231 (Or.inr (slot_ne (C := "com/example/cladewalk/cladewalk/tree/Tree") (Or.inr (ww 54 rfl)) (Or.inr (ww 70 rfl)) (by decide) (t := (.array .int)) (t' := (.array (.object "java/lang/String"))) (by decide) (by decide)))
  have F249 := F217.other W231 (Or.inr (slot_ne (C := "com/example/cladewalk/cladewalk/tree/Tree") (Or.inr (ww 72 rfl)) (Or.inr (ww 70 rfl)) (by decide) (t := (.array .int)) (t' := (.array (.object "java/lang/String"))) (by decide) (by decide)))
  have F250 := F218.other W231 (Or.inr (slot_ne (C := "com/example/cladewalk/cladewalk/tree/Tree") (Or.inr (ww 75 rfl)) (Or.inr (ww 70 rfl)) (by decide) (t := .int) (t' := (.array (.object "java/lang/String"))) (by decide) (by decide)))
  refine own_aloadN X231 rfl rfl own_d_prog_20_method_1_code_70 (pc' := 71) rfl ?_
  refine own_iload X231 rfl own_d_prog_20_method_1_code_71 (pc' := 73) rfl ?_
  refine own_newarrayE X231 (ty := .int) rfl (ad := "[I") (by decide) (ww 34 rfl) (n := 4) (vs := [(.int (0 : Int32)), (.int (0 : Int32)), (.int (0 : Int32)), (.int (0 : Int32))]) (by decide) (by decide) (by decide) rfl (cells' := 4) (slots' := 16) rfl rfl (by decide) (by decide) own_d_prog_20_method_1_code_73 (pc' := 75) rfl fun a251 T251 h251 g251 ge251 X251 E251 V251 A251 => ?_
  have ne252 : a1 ≠ a251 := own_lt_ne A232.lt g251
  have ne253 : a2 ≠ a251 := own_lt_ne V234.lt g251
  have ne254 : a3 ≠ a251 := own_lt_ne V236.lt g251
  have ne255 : a4 ≠ a251 := own_lt_ne V238.lt g251
  have ne256 : a128 ≠ a251 := own_lt_ne V240.lt g251
  have ne257 : a164 ≠ a251 := own_lt_ne V242.lt g251
  have ne258 : a205 ≠ a251 := own_lt_ne V244.lt g251
  have sz259 := own_ge K245 g251
  have A260 := A232.ext E251
  have F261 := F246.ext E251
  have F262 := F247.ext E251
  have F263 := F248.ext E251
  have F264 := F249.ext E251
  have F265 := F250.ext E251
  have V266 := V234.ext E251
  have A267 := A233.ext E251
  have V268 := V236.ext E251
  have A269 := A235.ext E251
  have V270 := V238.ext E251
  have A271 := A237.ext E251
  have V272 := V240.ext E251
  have A273 := A239.ext E251
  have V274 := V242.ext E251
  have A275 := A241.ext E251
  have V276 := V244.ext E251
  have A277 := A243.ext E251
  have K278 := K245.ext E251
  refine own_putF X251 (ww 71 rfl) F264 A260 (Or.inr ⟨(ww 72 rfl), rfl, rfl⟩) (ww 38 rfl) (ty := (.array .int)) (by decide) rfl rfl ge1 own_d_prog_20_method_1_code_75 (pc' := 78) rfl fun T279 h279 X279 W279 => ?_
  have A280 := A260.wr W279
  have A281 := A267.wr W279
  have V282 := V266.other W279 N2.symm
  have A283 := A269.wr W279
  have V284 := V268.other W279 N3.symm
  have A285 := A271.wr W279
  have V286 := V270.other W279 N4.symm
  have A287 := A273.wr W279
  have V288 := V272.other W279 ne129.symm
  have A289 := A275.wr W279
  have V290 := V274.other W279 ne165.symm
  have A291 := A277.wr W279
  have V292 := V276.other W279 ne206.symm
  have A293 := A251.wr W279
  have V294 := V251.other W279 ne252.symm
  have K295 := K278.wr W279 (Or.inl (by simp))
  have F296 := F264.same W279
  have F297 := F261.other W279 (Or.inr (slot_ne (C := "com/example/cladewalk/cladewalk/tree/Tree") (Or.inr (ww 70 rfl)) (Or.inr (ww 72 rfl)) (by decide) (t := (.array (.object "java/lang/String"))) (t' := (.array .int)) (by decide) (by decide)))
  have F298 := F262.other W279 (Or.inr (slot_ne (C := "com/example/cladewalk/cladewalk/tree/Tree") (Or.inr (ww 62 rfl)) (Or.inr (ww 72 rfl)) (by decide) (t := (.array .double)) (t' := (.array .int)) (by decide) (by decide)))
  have F299 := F263.other W279 (Or.inr (slot_ne (C := "com/example/cladewalk/cladewalk/tree/Tree") (Or.inr (ww 54 rfl)) (Or.inr (ww 72 rfl)) (by decide) (t := (.array .int)) (t' := (.array .int)) (by decide) (by decide)))
  have F300 := F265.other W279 (Or.inr (slot_ne (C := "com/example/cladewalk/cladewalk/tree/Tree") (Or.inr (ww 75 rfl)) (Or.inr (ww 72 rfl)) (by decide) (t := .int) (t' := (.array .int)) (by decide) (by decide)))
  refine own_iconst X279 (v := (0 : Int32)) (by decide) own_d_prog_20_method_1_code_78 (pc' := 79) rfl ?_
  refine own_istore X279 (Ls' := #[oA a1, oA a2, oA a3, oA a4, oI 4, oI 0, oU, oU, oU]) rfl own_d_prog_20_method_1_code_79 (pc' := 81) rfl ?_
  refine own_iconst X279 (v := (0 : Int32)) (by decide) own_d_prog_20_method_1_code_81 (pc' := 82) rfl ?_
  refine own_istore X279 (Ls' := #[oA a1, oA a2, oA a3, oA a4, oI 4, oI 0, oI 0, oU, oU]) rfl own_d_prog_20_method_1_code_82 (pc' := 84) rfl ?_
  refine own_iload X279 rfl own_d_prog_20_method_1_code_84 (pc' := 86) rfl ?_
  refine own_iload X279 rfl own_d_prog_20_method_1_code_86 (pc' := 88) rfl ?_
  refine own_icmpF X279 (by decide) own_d_prog_20_method_1_code_88 (pc' := 91) rfl ?_
  refine own_aloadN X279 rfl rfl own_d_prog_20_method_1_code_91 (pc' := 92) rfl ?_
  refine own_iload X279 rfl own_d_prog_20_method_1_code_92 (pc' := 94) rfl ?_
  refine own_iaload X279 V282 (i := 0) (by decide) (by decide) rfl own_d_prog_20_method_1_code_94 (pc' := 95) rfl ?_
  refine own_istore X279 (Ls' := #[oA a1, oA a2, oA a3, oA a4, oI 4, oI 0, oI 0, oI 1, oU]) rfl own_d_prog_20_method_1_code_95 (pc' := 97) rfl ?_
  refine own_iload X279 rfl own_d_prog_20_method_1_code_97 (pc' := 99) rfl ?_
  refine own_iload X279 rfl own_d_prog_20_method_1_code_99 (pc' := 101) rfl ?_
  refine own_iconst X279 (v := (1 : Int32)) (by decide) own_d_prog_20_method_1_code_101 (pc' := 102) rfl ?_
  refine own_isub X279 (v := (3 : Int32)) (by decide) own_d_prog_20_method_1_code_102 (pc' := 103) rfl ?_
  refine own_icmpT X279 (by decide) own_d_prog_20_method_1_code_103 (pc' := 120) (by decide) (by decide) ?_
  refine own_iload X279 rfl own_d_prog_20_method_1_code_120 (pc' := 122) rfl ?_
  refine own_iload X279 rfl own_d_prog_20_method_1_code_122 (pc' := 124) rfl ?_
  refine own_icmpF X279 (by decide) own_d_prog_20_method_1_code_124 (pc' := 127) rfl ?_
  refine own_iload X279 rfl own_d_prog_20_method_1_code_127 (pc' := 129) rfl ?_
  refine own_iload X279 rfl own_d_prog_20_method_1_code_129 (pc' := 131) rfl ?_
  refine own_icmpF X279 (by decide) own_d_prog_20_method_1_code_131 (pc' := 134) rfl ?_
  refine own_iconst X279 (v := (1 : Int32)) (by decide) own_d_prog_20_method_1_code_134 (pc' := 135) rfl ?_
  refine own_goto X279 own_d_prog_20_method_1_code_135 (pc' := 139) (by decide) (by decide) ?_
  refine own_istore X279 (Ls' := #[oA a1, oA a2, oA a3, oA a4, oI 4, oI 0, oI 0, oI 1, oI 1]) rfl own_d_prog_20_method_1_code_139 (pc' := 141) rfl ?_
  refine own_iload X279 rfl own_d_prog_20_method_1_code_141 (pc' := 143) rfl ?_
  refine own_ifT X279 (by decide) own_d_prog_20_method_1_code_143 (pc' := 163) (by decide) (by decide) ?_
  refine own_iload X279 rfl own_d_prog_20_method_1_code_163 (pc' := 165) rfl ?_
  refine own_ifF X279 (by decide) own_d_prog_20_method_1_code_165 (pc' := 168) rfl ?_
  refine own_aloadN X279 rfl rfl own_d_prog_20_method_1_code_168 (pc' := 169) rfl ?_
  refine own_getF X279 (ww 71 rfl) F296 own_d_prog_20_method_1_code_169 (pc' := 172) rfl fun T301 X301 => ?_
  refine own_iload X301 rfl own_d_prog_20_method_1_code_172 (pc' := 174) rfl ?_
  refine own_dup2 X301 rfl rfl own_d_prog_20_method_1_code_174 (pc' := 175) rfl ?_
  refine own_iaload X301 V294 (i := 1) (by decide) (by decide) rfl own_d_prog_20_method_1_code_175 (pc' := 176) rfl ?_
  refine own_iconst X301 (v := (1 : Int32)) (by decide) own_d_prog_20_method_1_code_176 (pc' := 177) rfl ?_
  refine own_iadd X301 (v := (1 : Int32)) (by decide) own_d_prog_20_method_1_code_177 (pc' := 178) rfl ?_
  refine own_iastore X301 V294 ge251 (i := 1) (by decide) (by decide) (show 1 < 4 by decide) own_d_prog_20_method_1_code_178 (pc' := 179) rfl fun T302 h302 X302 W302 V302 => ?_
  have A303 := A280.wr W302
  have F304 := F296.other W302 (Or.inl ne252)
  have F305 := F297.other W302 (Or.inl ne252)
  have F306 := F298.other W302 (Or.inl ne252)
  have F307 := F299.other W302 (Or.inl ne252)
  have F308 := F300.other W302 (Or.inl ne252)
  have A309 := A281.wr W302
  have V310 := V282.other W302 ne253
  have A311 := A283.wr W302
  have V312 := V284.other W302 ne254
  have A313 := A285.wr W302
  have V314 := V286.other W302 ne255
  have A315 := A287.wr W302
  have V316 := V288.other W302 ne256
  have A317 := A289.wr W302
  have V318 := V290.other W302 ne257
  have A319 := A291.wr W302
  have V320 := V292.other W302 ne258
  have A321 := A293.wr W302
  have K322 := K295.wr W302 (Or.inr sz259)
  replace V302 : own_Vec Z h302 a251 .int [(.int (0 : Int32)), (.int (1 : Int32)), (.int (0 : Int32)), (.int (0 : Int32))] := V302
  refine own_aloadN X302 rfl rfl own_d_prog_20_method_1_code_179 (pc' := 180) rfl ?_
  refine own_iload X302 rfl own_d_prog_20_method_1_code_180 (pc' := 182) rfl ?_
  refine own_daload X302 V312 (i := 0) (by decide) (by decide) rfl own_d_prog_20_method_1_code_182 (pc' := 183) rfl ?_
  refine own_dconst0 X302 (v := (0 : UInt64)) rfl own_d_prog_20_method_1_code_183 (pc' := 184) rfl ?_
  have f323 : own_D 0 0 (0 : Int) (0 : UInt64) := own_D.lit (s := false) (c := 0) (q := -1074) (by decide +kernel) (by decide +kernel) (by decide)
  refine own_dcmp X302 (D_z0.cmp f323) own_d_prog_20_method_1_code_184 (pc' := 185) rfl ?_
  have c324 : ¬ (i_z0 < (0 : Int)) := by omega
  refine own_ifF X302 (own_c3_nlt c324).1 own_d_prog_20_method_1_code_185 (pc' := 188) rfl ?_
  refine own_aloadN X302 rfl rfl own_d_prog_20_method_1_code_188 (pc' := 189) rfl ?_
  refine own_iload X302 rfl own_d_prog_20_method_1_code_189 (pc' := 191) rfl ?_
  refine own_daload X302 V312 (i := 0) (by decide) (by decide) rfl own_d_prog_20_method_1_code_191 (pc' := 192) rfl ?_
  refine own_ldcD X302 (v := (9218868437227405312 : UInt64)) (ww 73 rfl) own_d_prog_20_method_1_code_192 (pc' := 195) rfl ?_
  refine own_dcmp X302 (v := (-1 : Int32)) (dcmp_pinf D_z0.isFin _) own_d_prog_20_method_1_code_195 (pc' := 196) rfl ?_
  refine own_ifT X302 (by decide) own_d_prog_20_method_1_code_196 (pc' := 218) (by decide) (by decide) ?_
  refine own_iinc X302 (Ls' := #[oA a1, oA a2, oA a3, oA a4, oI 4, oI 0, oI 1, oI 1, oI 1]) rfl (by decide) rfl own_d_prog_20_method_1_code_218 (pc' := 221) rfl ?_
  refine own_goto X302 own_d_prog_20_method_1_code_221 (pc' := 84) (by decide) (by decide) ?_
  refine own_iload X302 rfl own_d_prog_20_method_1_code_84 (pc' := 86) rfl ?_
  refine own_iload X302 rfl own_d_prog_20_method_1_code_86 (pc' := 88) rfl ?_
  refine own_icmpF X302 (by decide) own_d_prog_20_method_1_code_88 (pc' := 91) rfl ?_
  refine own_aloadN X302 rfl rfl own_d_prog_20_method_1_code_91 (pc' := 92) rfl ?_
  refine own_iload X302 rfl own_d_prog_20_method_1_code_92 (pc' := 94) rfl ?_
  refine own_iaload X302 V310 (i := 1) (by decide) (by decide) rfl own_d_prog_20_method_1_code_94 (pc' := 95) rfl ?_
  refine own_istore X302 (Ls' := #[oA a1, oA a2, oA a3, oA a4, oI 4, oI 0, oI 1, oI 2, oI 1]) rfl own_d_prog_20_method_1_code_95 (pc' := 97) rfl ?_
  refine own_iload X302 rfl own_d_prog_20_method_1_code_97 (pc' := 99) rfl ?_
  refine own_iload X302 rfl own_d_prog_20_method_1_code_99 (pc' := 101) rfl ?_
  refine own_iconst X302 (v := (1 : Int32)) (by decide) own_d_prog_20_method_1_code_101 (pc' := 102) rfl ?_
  refine own_isub X302 (v := (3 : Int32)) (by decide) own_d_prog_20_method_1_code_102 (pc' := 103) rfl ?_
  refine own_icmpT X302 (by decide) own_d_prog_20_method_1_code_103 (pc' := 120) (by decide) (by decide) ?_
  refine own_iload X302 rfl own_d_prog_20_method_1_code_120 (pc' := 122) rfl ?_
  refine own_iload X302 rfl own_d_prog_20_method_1_code_122 (pc' := 124) rfl ?_
  refine own_icmpF X302 (by decide) own_d_prog_20_method_1_code_124 (pc' := 127) rfl ?_
  refine own_iload X302 rfl own_d_prog_20_method_1_code_127 (pc' := 129) rfl ?_
  refine own_iload X302 rfl own_d_prog_20_method_1_code_129 (pc' := 131) rfl ?_
  refine own_icmpF X302 (by decide) own_d_prog_20_method_1_code_131 (pc' := 134) rfl ?_
  refine own_iconst X302 (v := (1 : Int32)) (by decide) own_d_prog_20_method_1_code_134 (pc' := 135) rfl ?_
  refine own_goto X302 own_d_prog_20_method_1_code_135 (pc' := 139) (by decide) (by decide) ?_
  refine own_istore X302 (Ls' := #[oA a1, oA a2, oA a3, oA a4, oI 4, oI 0, oI 1, oI 2, oI 1]) rfl own_d_prog_20_method_1_code_139 (pc' := 141) rfl ?_
  refine own_iload X302 rfl own_d_prog_20_method_1_code_141 (pc' := 143) rfl ?_
  refine own_ifT X302 (by decide) own_d_prog_20_method_1_code_143 (pc' := 163) (by decide) (by decide) ?_
  refine own_iload X302 rfl own_d_prog_20_method_1_code_163 (pc' := 165) rfl ?_
  refine own_ifF X302 (by decide) own_d_prog_20_method_1_code_165 (pc' := 168) rfl ?_
  refine own_aloadN X302 rfl rfl own_d_prog_20_method_1_code_168 (pc' := 169) rfl ?_
  refine own_getF X302 (ww 71 rfl) F304 own_d_prog_20_method_1_code_169 (pc' := 172) rfl fun T325 X325 => ?_
  refine own_iload X325 rfl own_d_prog_20_method_1_code_172 (pc' := 174) rfl ?_
  refine own_dup2 X325 rfl rfl own_d_prog_20_method_1_code_174 (pc' := 175) rfl ?_
  refine own_iaload X325 V302 (i := 2) (by decide) (by decide) rfl own_d_prog_20_method_1_code_175 (pc' := 176) rfl ?_
  refine own_iconst X325 (v := (1 : Int32)) (by decide) own_d_prog_20_method_1_code_176 (pc' := 177) rfl ?_
  refine own_iadd X325 (v := (1 : Int32)) (by decide) own_d_prog_20_method_1_code_177 (pc' := 178) rfl ?_
  refine own_iastore X325 V302 ge251 (i := 2) (by decide) (by decide) (show 2 < 4 by decide) own_d_prog_20_method_1_code_178 (pc' := 179) rfl fun T326 h326 X326 W326 V326 => ?_
  have A327 := A303.wr W326
  have F328 := F304.other W326 (Or.inl ne252)
  have F329 := F305.other W326 (Or.inl ne252)
  have F330 := F306.other W326 (Or.inl ne252)
  have F331 := F307.other W326 (Or.inl ne252)
  have F332 := F308.other W326 (Or.inl ne252)
  have A333 := A309.wr W326
  have V334 := V310.other W326 ne253
  have A335 := A311.wr W326
  have V336 := V312.other W326 ne254
  have A337 := A313.wr W326
  have V338 := V314.other W326 ne255
  have A339 := A315.wr W326
  have V340 := V316.other W326 ne256
  have A341 := A317.wr W326
  have V342 := V318.other W326 ne257
  have A343 := A319.wr W326
  have V344 := V320.other W326 ne258
  have A345 := A321.wr W326
  have K346 := K322.wr W326 (Or.inr sz259)
  replace V326 : own_Vec Z h326 a251 .int [(.int (0 : Int32)), (.int (1 : Int32)), (.int (1 : Int32)), (.int (0 : Int32))] := V326
  refine own_aloadN X326 rfl rfl own_d_prog_20_method_1_code_179 (pc' := 180) rfl ?_
  refine own_iload X326 rfl own_d_prog_20_method_1_code_180 (pc' := 182) rfl ?_
  refine own_daload X326 V336 (i := 1) (by decide) (by decide) rfl own_d_prog_20_method_1_code_182 (pc' := 183) rfl ?_
  refine own_dconst0 X326 (v := (0 : UInt64)) rfl own_d_prog_20_method_1_code_183 (pc' := 184) rfl ?_
  have f347 : own_D 0 0 (0 : Int) (0 : UInt64) := own_D.lit (s := false) (c := 0) (q := -1074) (by decide +kernel) (by decide +kernel) (by decide)
  refine own_dcmp X326 (D_z1.cmp f347) own_d_prog_20_method_1_code_184 (pc' := 185) rfl ?_
  have c348 : ¬ (i_z1 < (0 : Int)) := by omega
  refine own_ifF X326 (own_c3_nlt c348).1 own_d_prog_20_method_1_code_185 (pc' := 188) rfl ?_
  refine own_aloadN X326 rfl rfl own_d_prog_20_method_1_code_188 (pc' := 189) rfl ?_
  refine own_iload X326 rfl own_d_prog_20_method_1_code_189 (pc' := 191) rfl ?_
  refine own_daload X326 V336 (i := 1) (by decide) (by decide) rfl own_d_prog_20_method_1_code_191 (pc' := 192) rfl ?_
  refine own_ldcD X326 (v := (9218868437227405312 : UInt64)) (ww 73 rfl) own_d_prog_20_method_1_code_192 (pc' := 195) rfl ?_
  refine own_dcmp X326 (v := (-1 : Int32)) (dcmp_pinf D_z1.isFin _) own_d_prog_20_method_1_code_195 (pc' := 196) rfl ?_
  refine own_ifT X326 (by decide) own_d_prog_20_method_1_code_196 (pc' := 218) (by decide) (by decide) ?_
  refine own_iinc X326 (Ls' := #[oA a1, oA a2, oA a3, oA a4, oI 4, oI 0, oI 2, oI 2, oI 1]) rfl (by decide) rfl own_d_prog_20_method_1_code_218 (pc' := 221) rfl ?_
  refine own_goto X326 own_d_prog_20_method_1_code_221 (pc' := 84) (by decide) (by decide) ?_
  refine own_iload X326 rfl own_d_prog_20_method_1_code_84 (pc' := 86) rfl ?_
  refine own_iload X326 rfl own_d_prog_20_method_1_code_86 (pc' := 88) rfl ?_
  refine own_icmpF X326 (by decide) own_d_prog_20_method_1_code_88 (pc' := 91) rfl ?_
  refine own_aloadN X326 rfl rfl own_d_prog_20_method_1_code_91 (pc' := 92) rfl ?_
  refine own_iload X326 rfl own_d_prog_20_method_1_code_92 (pc' := 94) rfl ?_
  refine own_iaload X326 V334 (i := 2) (by decide) (by decide) rfl own_d_prog_20_method_1_code_94 (pc' := 95) rfl ?_
  refine own_istore X326 (Ls' := #[oA a1, oA a2, oA a3, oA a4, oI 4, oI 0, oI 2, oI 3, oI 1]) rfl own_d_prog_20_method_1_code_95 (pc' := 97) rfl ?_
  refine own_iload X326 rfl own_d_prog_20_method_1_code_97 (pc' := 99) rfl ?_
  refine own_iload X326 rfl own_d_prog_20_method_1_code_99 (pc' := 101) rfl ?_
  refine own_iconst X326 (v := (1 : Int32)) (by decide) own_d_prog_20_method_1_code_101 (pc' := 102) rfl ?_
  refine own_isub X326 (v := (3 : Int32)) (by decide) own_d_prog_20_method_1_code_102 (pc' := 103) rfl ?_
  refine own_icmpT X326 (by decide) own_d_prog_20_method_1_code_103 (pc' := 120) (by decide) (by decide) ?_
  refine own_iload X326 rfl own_d_prog_20_method_1_code_120 (pc' := 122) rfl ?_
  refine own_iload X326 rfl own_d_prog_20_method_1_code_122 (pc' := 124) rfl ?_
  refine own_icmpF X326 (by decide) own_d_prog_20_method_1_code_124 (pc' := 127) rfl ?_
  refine own_iload X326 rfl own_d_prog_20_method_1_code_127 (pc' := 129) rfl ?_
  refine own_iload X326 rfl own_d_prog_20_method_1_code_129 (pc' := 131) rfl ?_
  refine own_icmpF X326 (by decide) own_d_prog_20_method_1_code_131 (pc' := 134) rfl ?_
  refine own_iconst X326 (v := (1 : Int32)) (by decide) own_d_prog_20_method_1_code_134 (pc' := 135) rfl ?_
  refine own_goto X326 own_d_prog_20_method_1_code_135 (pc' := 139) (by decide) (by decide) ?_
  refine own_istore X326 (Ls' := #[oA a1, oA a2, oA a3, oA a4, oI 4, oI 0, oI 2, oI 3, oI 1]) rfl own_d_prog_20_method_1_code_139 (pc' := 141) rfl ?_
  refine own_iload X326 rfl own_d_prog_20_method_1_code_141 (pc' := 143) rfl ?_
  refine own_ifT X326 (by decide) own_d_prog_20_method_1_code_143 (pc' := 163) (by decide) (by decide) ?_
  refine own_iload X326 rfl own_d_prog_20_method_1_code_163 (pc' := 165) rfl ?_
  refine own_ifF X326 (by decide) own_d_prog_20_method_1_code_165 (pc' := 168) rfl ?_
  refine own_aloadN X326 rfl rfl own_d_prog_20_method_1_code_168 (pc' := 169) rfl ?_
  refine own_getF X326 (ww 71 rfl) F328 own_d_prog_20_method_1_code_169 (pc' := 172) rfl fun T349 X349 => ?_
  refine own_iload X349 rfl own_d_prog_20_method_1_code_172 (pc' := 174) rfl ?_
  refine own_dup2 X349 rfl rfl own_d_prog_20_method_1_code_174 (pc' := 175) rfl ?_
  refine own_iaload X349 V326 (i := 3) (by decide) (by decide) rfl own_d_prog_20_method_1_code_175 (pc' := 176) rfl ?_
  refine own_iconst X349 (v := (1 : Int32)) (by decide) own_d_prog_20_method_1_code_176 (pc' := 177) rfl ?_
  refine own_iadd X349 (v := (1 : Int32)) (by decide) own_d_prog_20_method_1_code_177 (pc' := 178) rfl ?_
  refine own_iastore X349 V326 ge251 (i := 3) (by decide) (by decide) (show 3 < 4 by decide) own_d_prog_20_method_1_code_178 (pc' := 179) rfl fun T350 h350 X350 W350 V350 => ?_
  have A351 := A327.wr W350
  have F352 := F328.other W350 (Or.inl ne252)
  have F353 := F329.other W350 (Or.inl ne252)
  have F354 := F330.other W350 (Or.inl ne252)
  have F355 := F331.other W350 (Or.inl ne252)
  have F356 := F332.other W350 (Or.inl ne252)
  have A357 := A333.wr W350
  have V358 := V334.other W350 ne253
  have A359 := A335.wr W350
  have V360 := V336.other W350 ne254
  have A361 := A337.wr W350
  have V362 := V338.other W350 ne255
  have A363 := A339.wr W350
  have V364 := V340.other W350 ne256
  have A365 := A341.wr W350
  have V366 := V342.other W350 ne257
  have A367 := A343.wr W350
  have V368 := V344.other W350 ne258
  have A369 := A345.wr W350
  have K370 := K346.wr W350 (Or.inr sz259)
  replace V350 : own_Vec Z h350 a251 .int [(.int (0 : Int32)), (.int (1 : Int32)), (.int (1 : Int32)), (.int (1 : Int32))] := V350
  refine own_aloadN X350 rfl rfl own_d_prog_20_method_1_code_179 (pc' := 180) rfl ?_
  refine own_iload X350 rfl own_d_prog_20_method_1_code_180 (pc' := 182) rfl ?_
  refine own_daload X350 V360 (i := 2) (by decide) (by decide) rfl own_d_prog_20_method_1_code_182 (pc' := 183) rfl ?_
  refine own_dconst0 X350 (v := (0 : UInt64)) rfl own_d_prog_20_method_1_code_183 (pc' := 184) rfl ?_
  have f371 : own_D 0 0 (0 : Int) (0 : UInt64) := own_D.lit (s := false) (c := 0) (q := -1074) (by decide +kernel) (by decide +kernel) (by decide)
  refine own_dcmp X350 (D_z2.cmp f371) own_d_prog_20_method_1_code_184 (pc' := 185) rfl ?_
  have c372 : ¬ (i_z2 < (0 : Int)) := by omega
  refine own_ifF X350 (own_c3_nlt c372).1 own_d_prog_20_method_1_code_185 (pc' := 188) rfl ?_
  refine own_aloadN X350 rfl rfl own_d_prog_20_method_1_code_188 (pc' := 189) rfl ?_
  refine own_iload X350 rfl own_d_prog_20_method_1_code_189 (pc' := 191) rfl ?_
  refine own_daload X350 V360 (i := 2) (by decide) (by decide) rfl own_d_prog_20_method_1_code_191 (pc' := 192) rfl ?_
  refine own_ldcD X350 (v := (9218868437227405312 : UInt64)) (ww 73 rfl) own_d_prog_20_method_1_code_192 (pc' := 195) rfl ?_
  refine own_dcmp X350 (v := (-1 : Int32)) (dcmp_pinf D_z2.isFin _) own_d_prog_20_method_1_code_195 (pc' := 196) rfl ?_
  refine own_ifT X350 (by decide) own_d_prog_20_method_1_code_196 (pc' := 218) (by decide) (by decide) ?_
  refine own_iinc X350 (Ls' := #[oA a1, oA a2, oA a3, oA a4, oI 4, oI 0, oI 3, oI 3, oI 1]) rfl (by decide) rfl own_d_prog_20_method_1_code_218 (pc' := 221) rfl ?_
  refine own_goto X350 own_d_prog_20_method_1_code_221 (pc' := 84) (by decide) (by decide) ?_
  refine own_iload X350 rfl own_d_prog_20_method_1_code_84 (pc' := 86) rfl ?_
  refine own_iload X350 rfl own_d_prog_20_method_1_code_86 (pc' := 88) rfl ?_
  refine own_icmpF X350 (by decide) own_d_prog_20_method_1_code_88 (pc' := 91) rfl ?_
  refine own_aloadN X350 rfl rfl own_d_prog_20_method_1_code_91 (pc' := 92) rfl ?_
  refine own_iload X350 rfl own_d_prog_20_method_1_code_92 (pc' := 94) rfl ?_
  refine own_iaload X350 V358 (i := 3) (by decide) (by decide) rfl own_d_prog_20_method_1_code_94 (pc' := 95) rfl ?_
  refine own_istore X350 (Ls' := #[oA a1, oA a2, oA a3, oA a4, oI 4, oI 0, oI 3, oI (-1), oI 1]) rfl own_d_prog_20_method_1_code_95 (pc' := 97) rfl ?_
  refine own_iload X350 rfl own_d_prog_20_method_1_code_97 (pc' := 99) rfl ?_
  refine own_iload X350 rfl own_d_prog_20_method_1_code_99 (pc' := 101) rfl ?_
  refine own_iconst X350 (v := (1 : Int32)) (by decide) own_d_prog_20_method_1_code_101 (pc' := 102) rfl ?_
  refine own_isub X350 (v := (3 : Int32)) (by decide) own_d_prog_20_method_1_code_102 (pc' := 103) rfl ?_
  refine own_icmpF X350 (by decide) own_d_prog_20_method_1_code_103 (pc' := 106) rfl ?_
  refine own_iload X350 rfl own_d_prog_20_method_1_code_106 (pc' := 108) rfl ?_
  refine own_iconst X350 (v := (-1 : Int32)) (by decide) own_d_prog_20_method_1_code_108 (pc' := 109) rfl ?_
  refine own_icmpF X350 (by decide) own_d_prog_20_method_1_code_109 (pc' := 112) rfl ?_
  refine own_iconst X350 (v := (1 : Int32)) (by decide) own_d_prog_20_method_1_code_112 (pc' := 113) rfl ?_
  refine own_goto X350 own_d_prog_20_method_1_code_113 (pc' := 139) (by decide) (by decide) ?_
  refine own_istore X350 (Ls' := #[oA a1, oA a2, oA a3, oA a4, oI 4, oI 0, oI 3, oI (-1), oI 1]) rfl own_d_prog_20_method_1_code_139 (pc' := 141) rfl ?_
  refine own_iload X350 rfl own_d_prog_20_method_1_code_141 (pc' := 143) rfl ?_
  refine own_ifT X350 (by decide) own_d_prog_20_method_1_code_143 (pc' := 163) (by decide) (by decide) ?_
  refine own_iload X350 rfl own_d_prog_20_method_1_code_163 (pc' := 165) rfl ?_
  refine own_ifT X350 (by decide) own_d_prog_20_method_1_code_165 (pc' := 218) (by decide) (by decide) ?_
  refine own_iinc X350 (Ls' := #[oA a1, oA a2, oA a3, oA a4, oI 4, oI 0, oI 4, oI (-1), oI 1]) rfl (by decide) rfl own_d_prog_20_method_1_code_218 (pc' := 221) rfl ?_
  refine own_goto X350 own_d_prog_20_method_1_code_221 (pc' := 84) (by decide) (by decide) ?_
  refine own_iload X350 rfl own_d_prog_20_method_1_code_84 (pc' := 86) rfl ?_
  refine own_iload X350 rfl own_d_prog_20_method_1_code_86 (pc' := 88) rfl ?_
  refine own_icmpT X350 (by decide) own_d_prog_20_method_1_code_88 (pc' := 224) (by decide) (by decide) ?_
  refine own_iconst X350 (v := (0 : Int32)) (by decide) own_d_prog_20_method_1_code_224 (pc' := 225) rfl ?_
  refine own_istore X350 (Ls' := #[oA a1, oA a2, oA a3, oA a4, oI 4, oI 0, oI 0, oI (-1), oI 1]) rfl own_d_prog_20_method_1_code_225 (pc' := 227) rfl ?_
  refine own_iload X350 rfl own_d_prog_20_method_1_code_227 (pc' := 229) rfl ?_
  refine own_iload X350 rfl own_d_prog_20_method_1_code_229 (pc' := 231) rfl ?_
  refine own_icmpF X350 (by decide) own_d_prog_20_method_1_code_231 (pc' := 234) rfl ?_
  refine own_aloadN X350 rfl rfl own_d_prog_20_method_1_code_234 (pc' := 235) rfl ?_
  refine own_getF X350 (ww 71 rfl) F352 own_d_prog_20_method_1_code_235 (pc' := 238) rfl fun T373 X373 => ?_
  refine own_iload X373 rfl own_d_prog_20_method_1_code_238 (pc' := 240) rfl ?_
  refine own_iaload X373 V350 (i := 0) (by decide) (by decide) rfl own_d_prog_20_method_1_code_240 (pc' := 241) rfl ?_
  refine own_ifF X373 (by decide) own_d_prog_20_method_1_code_241 (pc' := 244) rfl ?_
  refine own_iinc X373 (Ls' := #[oA a1, oA a2, oA a3, oA a4, oI 4, oI 1, oI 0, oI (-1), oI 1]) rfl (by decide) rfl own_d_prog_20_method_1_code_244 (pc' := 247) rfl ?_
  refine own_aloadN X373 rfl rfl own_d_prog_20_method_1_code_247 (pc' := 248) rfl ?_
  refine own_iload X373 rfl own_d_prog_20_method_1_code_248 (pc' := 250) rfl ?_
  refine own_aaload X373 V362 rfl (i := 0) (by decide) (by decide) rfl own_d_prog_20_method_1_code_250 (pc' := 251) rfl ?_
  refine own_ifnonnullT X373 own_d_prog_20_method_1_code_251 (pc' := 269) (by decide) (by decide) ?_
  refine own_iinc X373 (Ls' := #[oA a1, oA a2, oA a3, oA a4, oI 4, oI 1, oI 1, oI (-1), oI 1]) rfl (by decide) rfl own_d_prog_20_method_1_code_269 (pc' := 272) rfl ?_
  refine own_goto X373 own_d_prog_20_method_1_code_272 (pc' := 227) (by decide) (by decide) ?_
  refine own_iload X373 rfl own_d_prog_20_method_1_code_227 (pc' := 229) rfl ?_
  refine own_iload X373 rfl own_d_prog_20_method_1_code_229 (pc' := 231) rfl ?_
  refine own_icmpF X373 (by decide) own_d_prog_20_method_1_code_231 (pc' := 234) rfl ?_
  refine own_aloadN X373 rfl rfl own_d_prog_20_method_1_code_234 (pc' := 235) rfl ?_
  refine own_getF X373 (ww 71 rfl) F352 own_d_prog_20_method_1_code_235 (pc' := 238) rfl fun T374 X374 => ?_
  refine own_iload X374 rfl own_d_prog_20_method_1_code_238 (pc' := 240) rfl ?_
  refine own_iaload X374 V350 (i := 1) (by decide) (by decide) rfl own_d_prog_20_method_1_code_240 (pc' := 241) rfl ?_
  refine own_ifT X374 (by decide) own_d_prog_20_method_1_code_241 (pc' := 269) (by decide) (by decide) ?_
  refine own_iinc X374 (Ls' := #[oA a1, oA a2, oA a3, oA a4, oI 4, oI 1, oI 2, oI (-1), oI 1]) rfl (by decide) rfl own_d_prog_20_method_1_code_269 (pc' := 272) rfl ?_
  refine own_goto X374 own_d_prog_20_method_1_code_272 (pc' := 227) (by decide) (by decide) ?_
  refine own_iload X374 rfl own_d_prog_20_method_1_code_227 (pc' := 229) rfl ?_
  refine own_iload X374 rfl own_d_prog_20_method_1_code_229 (pc' := 231) rfl ?_
  refine own_icmpF X374 (by decide) own_d_prog_20_method_1_code_231 (pc' := 234) rfl ?_
  refine own_aloadN X374 rfl rfl own_d_prog_20_method_1_code_234 (pc' := 235) rfl ?_
  refine own_getF X374 (ww 71 rfl) F352 own_d_prog_20_method_1_code_235 (pc' := 238) rfl fun T375 X375 => ?_
  refine own_iload X375 rfl own_d_prog_20_method_1_code_238 (pc' := 240) rfl ?_
  refine own_iaload X375 V350 (i := 2) (by decide) (by decide) rfl own_d_prog_20_method_1_code_240 (pc' := 241) rfl ?_
  refine own_ifT X375 (by decide) own_d_prog_20_method_1_code_241 (pc' := 269) (by decide) (by decide) ?_
  refine own_iinc X375 (Ls' := #[oA a1, oA a2, oA a3, oA a4, oI 4, oI 1, oI 3, oI (-1), oI 1]) rfl (by decide) rfl own_d_prog_20_method_1_code_269 (pc' := 272) rfl ?_
  refine own_goto X375 own_d_prog_20_method_1_code_272 (pc' := 227) (by decide) (by decide) ?_
  refine own_iload X375 rfl own_d_prog_20_method_1_code_227 (pc' := 229) rfl ?_
  refine own_iload X375 rfl own_d_prog_20_method_1_code_229 (pc' := 231) rfl ?_
  refine own_icmpF X375 (by decide) own_d_prog_20_method_1_code_231 (pc' := 234) rfl ?_
  refine own_aloadN X375 rfl rfl own_d_prog_20_method_1_code_234 (pc' := 235) rfl ?_
  refine own_getF X375 (ww 71 rfl) F352 own_d_prog_20_method_1_code_235 (pc' := 238) rfl fun T376 X376 => ?_
  refine own_iload X376 rfl own_d_prog_20_method_1_code_238 (pc' := 240) rfl ?_
  refine own_iaload X376 V350 (i := 3) (by decide) (by decide) rfl own_d_prog_20_method_1_code_240 (pc' := 241) rfl ?_
  refine own_ifT X376 (by decide) own_d_prog_20_method_1_code_241 (pc' := 269) (by decide) (by decide) ?_
  refine own_iinc X376 (Ls' := #[oA a1, oA a2, oA a3, oA a4, oI 4, oI 1, oI 4, oI (-1), oI 1]) rfl (by decide) rfl own_d_prog_20_method_1_code_269 (pc' := 272) rfl ?_
  refine own_goto X376 own_d_prog_20_method_1_code_272 (pc' := 227) (by decide) (by decide) ?_
  refine own_iload X376 rfl own_d_prog_20_method_1_code_227 (pc' := 229) rfl ?_
  refine own_iload X376 rfl own_d_prog_20_method_1_code_229 (pc' := 231) rfl ?_
  refine own_icmpT X376 (by decide) own_d_prog_20_method_1_code_231 (pc' := 275) (by decide) (by decide) ?_
  refine own_aloadN X376 rfl rfl own_d_prog_20_method_1_code_275 (pc' := 276) rfl ?_
  refine own_iload X376 rfl own_d_prog_20_method_1_code_276 (pc' := 278) rfl ?_
  refine own_putF X376 (ww 74 rfl) F356 A351 (Or.inr ⟨(ww 75 rfl), rfl, rfl⟩) (ww 38 rfl) (ty := .int) (by decide) rfl rfl ge1 own_d_prog_20_method_1_code_278 (pc' := 281) rfl fun T377 h377 X377 W377 => ?_
  have A378 := A351.wr W377
  have A379 := A357.wr W377
  have V380 := V358.other W377 N2.symm
  have A381 := A359.wr W377
  have V382 := V360.other W377 N3.symm
  have A383 := A361.wr W377
  have V384 := V362.other W377 N4.symm
  have A385 := A363.wr W377
  have V386 := V364.other W377 ne129.symm
  have A387 := A365.wr W377
  have V388 := V366.other W377 ne165.symm
  have A389 := A367.wr W377
  have V390 := V368.other W377 ne206.symm
  have A391 := A369.wr W377
  have V392 := V350.other W377 ne252.symm
  have K393 := K370.wr W377 (Or.inl (by simp))
  have F394 := F356.same W377
  have F395 := F352.other W377 (Or.inr (slot_ne (C := "com/example/cladewalk/cladewalk/tree/Tree") (Or.inr (ww 72 rfl)) (Or.inr (ww 75 rfl)) (by decide) (t := (.array .int)) (t' := .int) (by decide) (by decide)))
  have F396 := F353.other W377 (Or.inr (slot_ne (C := "com/example/cladewalk/cladewalk/tree/Tree") (Or.inr (ww 70 rfl)) (Or.inr (ww 75 rfl)) (by decide) (t := (.array (.object "java/lang/String"))) (t' := .int) (by decide) (by decide)))
  have F397 := F354.other W377 (Or.inr (slot_ne (C := "com/example/cladewalk/cladewalk/tree/Tree") (Or.inr (ww 62 rfl)) (Or.inr (ww 75 rfl)) (by decide) (t := (.array .double)) (t' := .int) (by decide) (by decide)))
  have F398 := F355.other W377 (Or.inr (slot_ne (C := "com/example/cladewalk/cladewalk/tree/Tree") (Or.inr (ww 54 rfl)) (Or.inr (ww 75 rfl)) (by decide) (t := (.array .int)) (t' := .int) (by decide) (by decide)))
  exact own_retV X377  own_d_prog_20_method_1_code_281 rfl (by decide) (by decide) ⟨rfl, ⟨_, _, F395, F396, V392, V390⟩, K393⟩
abbrev own_rm_own_ti_13 : Room := ({ frames := 1, cells := 4, slots := 16, locals := 15 } : Room)
set_option maxRecDepth 65536 in
set_option maxHeartbeats 40000000 in
theorem own_ti_13 (l : Launch) (Z : State) (a0 : Array Value) (hw : ∀ d ∈ tables_1, d.before a0 Z = true) (a1 a2 a3 a4 : Addr) (z0 : UInt64) (i_z0 : Int) (z1 : UInt64) (i_z1 : Int) (z2 : UInt64) (i_z2 : Int) (s0 : Addr) (v1 : Value) (s2 : Addr) (v3 : Value) (h0 : Heap) (n0 : Nat) (Z0 : n0 ≤ h0.size) (ge1 : n0 ≤ a1) (A1 : Exa Z h0 a1 "com/example/cladewalk/cladewalk/tree/Tree") (F0 : Fld Z h0 a1 "com/example/cladewalk/cladewalk/tree/Tree" "parents" "[I" .null) (F1 : Fld Z h0 a1 "com/example/cladewalk/cladewalk/tree/Tree" "lengths" "[D" .null) (F2 : Fld Z h0 a1 "com/example/cladewalk/cladewalk/tree/Tree" "names" "[Ljava/lang/String;" .null) (F3 : Fld Z h0 a1 "com/example/cladewalk/cladewalk/tree/Tree" "childCounts" "[I" .null) (F4 : Fld Z h0 a1 "com/example/cladewalk/cladewalk/tree/Tree" "tipCount" "I" (.int (0 : Int32))) (V1 : own_Vec Z h0 a2 .int [(.int (1 : Int32)), (.int (3 : Int32)), (.int (3 : Int32)), (.int (-1 : Int32))]) (V2 : own_Vec Z h0 a3 .double [(.double z0), (.double z1), (.double z2), (.double (0 : UInt64))]) (V3 : own_Vec Z h0 a4 (.object "java/lang/String") [(.ref s0), v1, (.ref s2), v3]) (B1 : Exa Z h0 a2 "[I") (B2 : Exa Z h0 a3 "[D") (B3 : Exa Z h0 a4 "[Ljava/lang/String;") (N2 : a1 ≠ a2) (N3 : a1 ≠ a3) (N4 : a1 ≠ a4) (D_z0 : own_D 0 7 i_z0 z0) (hi_z0 : 0 ≤ i_z0) (D_z1 : own_D 0 7 i_z1 z1) (hi_z1 : 0 ≤ i_z1) (D_z2 : own_D 0 7 i_z2 z2) (hi_z2 : 0 ≤ i_z2) (fq_v1 : fits (.object "java/lang/String") v1 = true) (fq_v3 : fits (.object "java/lang/String") v3 = true) :
    own_Met l Z ({ cls := "com/example/cladewalk/cladewalk/tree/Tree", name := "<init>", desc := "([I[D[Ljava/lang/String;)V" } : Jvm.MethodName) prog_20_method_1_code 9 none [] own_rm_own_ti_13 #[(.ref a1), (.ref a2), (.ref a3), (.ref a4)] h0 n0 (fun v h => v = none ∧ (∃ x y, Fld Z h a1 "com/example/cladewalk/cladewalk/tree/Tree" "childCounts" "[I" (.ref x) ∧ Fld Z h a1 "com/example/cladewalk/cladewalk/tree/Tree" "names" "[Ljava/lang/String;" (.ref y) ∧ own_Vec Z h x .int [(.int (0 : Int32)), (.int (1 : Int32)), (.int (0 : Int32)), (.int (2 : Int32))] ∧ own_Vec Z h y (.object "java/lang/String") [(.ref s0), v1, (.ref s2), v3]) ∧ Keep h0 h [a1]) := by
  have ww := fun (i : Nat) {d : Jvm.Cond} (q : tables_1[i]? = some d) => hw d (List.mem_of_getElem? q)
  refine own_meet (plainFor_of_name own_pn4) Z0 (Ls0 := #[oA a1, oA a2, oA a3, oA a4, oU, oU, oU, oU, oU]) (by intro m; first | (simp [entryFrame, mkF, argsToLocals, Value.category]; done) | rfl) ?_
  intro p e s m below meth c T0 X0
  have K0 := Keep.refl h0 [a1]
  refine own_aloadN X0 rfl rfl own_d_prog_20_method_1_code_0 (pc' := 1) rfl ?_
  refine own_initO X0 (ww 43 rfl) (ww 16 rfl) (ww 17 rfl) rfl (by decide) (W := 0) (Nat.le_of_eq rfl) (by decide) own_d_prog_20_method_1_code_1 (pc' := 4) rfl fun T399 X399 => ?_
  refine own_aloadN X399 rfl rfl own_d_prog_20_method_1_code_4 (pc' := 5) rfl ?_
  refine own_len X399 V1 (v := (4 : Int32)) (show (4 : Nat).toInt32 = (4 : Int32) by decide) own_d_prog_20_method_1_code_5 (pc' := 6) rfl ?_
  refine own_istore X399 (Ls' := #[oA a1, oA a2, oA a3, oA a4, oI 4, oU, oU, oU, oU]) rfl own_d_prog_20_method_1_code_6 (pc' := 8) rfl ?_
  refine own_iload X399 rfl own_d_prog_20_method_1_code_8 (pc' := 10) rfl ?_
  refine own_ifF X399 (by decide) own_d_prog_20_method_1_code_10 (pc' := 13) rfl ?_
  refine own_aloadN X399 rfl rfl own_d_prog_20_method_1_code_13 (pc' := 14) rfl ?_
  refine own_len X399 V2 (v := (4 : Int32)) (show (4 : Nat).toInt32 = (4 : Int32) by decide) own_d_prog_20_method_1_code_14 (pc' := 15) rfl ?_
  refine own_iload X399 rfl own_d_prog_20_method_1_code_15 (pc' := 17) rfl ?_
  refine own_icmpF X399 (by decide) own_d_prog_20_method_1_code_17 (pc' := 20) rfl ?_
  refine own_aloadN X399 rfl rfl own_d_prog_20_method_1_code_20 (pc' := 21) rfl ?_
  refine own_len X399 V3 (v := (4 : Int32)) (show (4 : Nat).toInt32 = (4 : Int32) by decide) own_d_prog_20_method_1_code_21 (pc' := 22) rfl ?_
  refine own_iload X399 rfl own_d_prog_20_method_1_code_22 (pc' := 24) rfl ?_
  refine own_icmpT X399 (by decide) own_d_prog_20_method_1_code_24 (pc' := 37) (by decide) (by decide) ?_
  refine own_aloadN X399 rfl rfl own_d_prog_20_method_1_code_37 (pc' := 38) rfl ?_
  refine own_aloadN X399 rfl rfl own_d_prog_20_method_1_code_38 (pc' := 39) rfl ?_
  refine own_clone X399 (ad := "[I") (ww 44 rfl) (ww 45 rfl) (ww 49 rfl) (ww 47 rfl) (ww 48 rfl) (ww 50 rfl) V1 B1 (own_fitS rfl (own_fitS rfl (own_fitS rfl (own_fitS rfl own_fit0)))) (n := 4) rfl rfl (by decide) (W := 1) (Nat.le_of_eq rfl) (by decide) (cells' := 1) (slots' := 4) rfl rfl (by decide) (by decide) own_d_prog_20_method_1_code_39 (pc' := 42) rfl fun a400 T400 h400 g400 ge400 X400 E400 V400 A400 => ?_
  have ne401 : a1 ≠ a400 := own_lt_ne A1.lt g400
  have ne402 : a2 ≠ a400 := own_lt_ne V1.lt g400
  have ne403 : a3 ≠ a400 := own_lt_ne V2.lt g400
  have ne404 : a4 ≠ a400 := own_lt_ne V3.lt g400
  have sz405 := own_ge K0 g400
  have A406 := A1.ext E400
  have F407 := F0.ext E400
  have F408 := F1.ext E400
  have F409 := F2.ext E400
  have F410 := F3.ext E400
  have F411 := F4.ext E400
  have V412 := V1.ext E400
  have A413 := B1.ext E400
  have V414 := V2.ext E400
  have A415 := B2.ext E400
  have V416 := V3.ext E400
  have A417 := B3.ext E400
  have K418 := K0.ext E400
  refine own_cast_ X400 (ww 51 rfl) A400 own_d_prog_20_method_1_code_42 (pc' := 45) rfl fun T419 X419 => ?_
  refine own_putF X419 (ww 53 rfl) F407 A406 (Or.inr ⟨(ww 54 rfl), rfl, rfl⟩) (ww 38 rfl) (ty := (.array .int)) (by decide) rfl rfl ge1 own_d_prog_20_method_1_code_45 (pc' := 48) rfl fun T420 h420 X420 W420 => ?_
  have A421 := A406.wr W420
  have A422 := A413.wr W420
  have V423 := V412.other W420 N2.symm
  have A424 := A415.wr W420
  have V425 := V414.other W420 N3.symm
  have A426 := A417.wr W420
  have V427 := V416.other W420 N4.symm
  have A428 := A400.wr W420
  have V429 := V400.other W420 ne401.symm
  have K430 := K418.wr W420 (Or.inl (by simp))
  have F431 := F407.same W420
  have F432 := F408.other W420 (Or.inr (slot_ne (C := "com/example/cladewalk/cladewalk/tree/Tree") (Or.inr (ww 62 rfl)) (Or.inr (ww 54 rfl)) (by decide) (t := (.array .double)) (t' := (.array .int)) (by decide) (by decide)))
  have F433 := F409.other W420 (Or.inr (slot_ne (C := "com/example/cladewalk/cladewalk/tree/Tree") (Or.inr (ww 70 rfl)) (Or.inr (ww 54 rfl)) (by decide) (t := (.array (.object "java/lang/String"))) (t' := (.array .int)) (by decide) (by decide)))
  have F434 := F410.other W420 (Or.inr (slot_ne (C := "com/example/cladewalk/cladewalk/tree/Tree") (Or.inr (ww 72 rfl)) (Or.inr (ww 54 rfl)) (by decide) (t := (.array .int)) (t' := (.array .int)) (by decide) (by decide)))
  have F435 := F411.other W420 (Or.inr (slot_ne (C := "com/example/cladewalk/cladewalk/tree/Tree") (Or.inr (ww 75 rfl)) (Or.inr (ww 54 rfl)) (by decide) (t := .int) (t' := (.array .int)) (by decide) (by decide)))
  refine own_aloadN X420 rfl rfl own_d_prog_20_method_1_code_48 (pc' := 49) rfl ?_
  refine own_aloadN X420 rfl rfl own_d_prog_20_method_1_code_49 (pc' := 50) rfl ?_
  refine own_clone X420 (ad := "[D") (ww 55 rfl) (ww 56 rfl) (ww 49 rfl) (ww 47 rfl) (ww 57 rfl) (ww 58 rfl) V425 A424 (own_fitS rfl (own_fitS rfl (own_fitS rfl (own_fitS rfl own_fit0)))) (n := 4) rfl rfl (by decide) (W := 1) (Nat.le_of_eq rfl) (by decide) (cells' := 2) (slots' := 8) rfl rfl (by decide) (by decide) own_d_prog_20_method_1_code_50 (pc' := 53) rfl fun a436 T436 h436 g436 ge436 X436 E436 V436 A436 => ?_
  have ne437 : a1 ≠ a436 := own_lt_ne A421.lt g436
  have ne438 : a2 ≠ a436 := own_lt_ne V423.lt g436
  have ne439 : a3 ≠ a436 := own_lt_ne V425.lt g436
  have ne440 : a4 ≠ a436 := own_lt_ne V427.lt g436
  have ne441 : a400 ≠ a436 := own_lt_ne V429.lt g436
  have sz442 := own_ge K430 g436
  have A443 := A421.ext E436
  have F444 := F431.ext E436
  have F445 := F432.ext E436
  have F446 := F433.ext E436
  have F447 := F434.ext E436
  have F448 := F435.ext E436
  have V449 := V423.ext E436
  have A450 := A422.ext E436
  have V451 := V425.ext E436
  have A452 := A424.ext E436
  have V453 := V427.ext E436
  have A454 := A426.ext E436
  have V455 := V429.ext E436
  have A456 := A428.ext E436
  have K457 := K430.ext E436
  refine own_cast_ X436 (ww 59 rfl) A436 own_d_prog_20_method_1_code_53 (pc' := 56) rfl fun T458 X458 => ?_
  refine own_putF X458 (ww 61 rfl) F445 A443 (Or.inr ⟨(ww 62 rfl), rfl, rfl⟩) (ww 38 rfl) (ty := (.array .double)) (by decide) rfl rfl ge1 own_d_prog_20_method_1_code_56 (pc' := 59) rfl fun T459 h459 X459 W459 => ?_
  have A460 := A443.wr W459
  have A461 := A450.wr W459
  have V462 := V449.other W459 N2.symm
  have A463 := A452.wr W459
  have V464 := V451.other W459 N3.symm
  have A465 := A454.wr W459
  have V466 := V453.other W459 N4.symm
  have A467 := A456.wr W459
  have V468 := V455.other W459 ne401.symm
  have A469 := A436.wr W459
  have V470 := V436.other W459 ne437.symm
  have K471 := K457.wr W459 (Or.inl (by simp))
  have F472 := F445.same W459
  have F473 := F444.other W459 (Or.inr (slot_ne (C := "com/example/cladewalk/cladewalk/tree/Tree") (Or.inr (ww 54 rfl)) (Or.inr (ww 62 rfl)) (by decide) (t := (.array .int)) (t' := (.array .double)) (by decide) (by decide)))
  have F474 := F446.other W459 (Or.inr (slot_ne (C := "com/example/cladewalk/cladewalk/tree/Tree") (Or.inr (ww 70 rfl)) (Or.inr (ww 62 rfl)) (by decide) (t := (.array (.object "java/lang/String"))) (t' := (.array .double)) (by decide) (by decide)))
  have F475 := F447.other W459 (Or.inr (slot_ne (C := "com/example/cladewalk/cladewalk/tree/Tree") (Or.inr (ww 72 rfl)) (Or.inr (ww 62 rfl)) (by decide) (t := (.array .int)) (t' := (.array .double)) (by decide) (by decide)))
  have F476 := F448.other W459 (Or.inr (slot_ne (C := "com/example/cladewalk/cladewalk/tree/Tree") (Or.inr (ww 75 rfl)) (Or.inr (ww 62 rfl)) (by decide) (t := .int) (t' := (.array .double)) (by decide) (by decide)))
  refine own_aloadN X459 rfl rfl own_d_prog_20_method_1_code_59 (pc' := 60) rfl ?_
  refine own_aloadN X459 rfl rfl own_d_prog_20_method_1_code_60 (pc' := 61) rfl ?_
  refine own_clone X459 (ad := "[Ljava/lang/String;") (ww 63 rfl) (ww 64 rfl) (ww 49 rfl) (ww 47 rfl) (ww 65 rfl) (ww 66 rfl) V466 A465 (own_fitS rfl (own_fitS fq_v1 (own_fitS rfl (own_fitS fq_v3 own_fit0)))) (n := 4) rfl rfl (by decide) (W := 1) (Nat.le_of_eq rfl) (by decide) (cells' := 3) (slots' := 12) rfl rfl (by decide) (by decide) own_d_prog_20_method_1_code_61 (pc' := 64) rfl fun a477 T477 h477 g477 ge477 X477 E477 V477 A477 => ?_
  have ne478 : a1 ≠ a477 := own_lt_ne A460.lt g477
  have ne479 : a2 ≠ a477 := own_lt_ne V462.lt g477
  have ne480 : a3 ≠ a477 := own_lt_ne V464.lt g477
  have ne481 : a4 ≠ a477 := own_lt_ne V466.lt g477
  have ne482 : a400 ≠ a477 := own_lt_ne V468.lt g477
  have ne483 : a436 ≠ a477 := own_lt_ne V470.lt g477
  have sz484 := own_ge K471 g477
  have A485 := A460.ext E477
  have F486 := F472.ext E477
  have F487 := F473.ext E477
  have F488 := F474.ext E477
  have F489 := F475.ext E477
  have F490 := F476.ext E477
  have V491 := V462.ext E477
  have A492 := A461.ext E477
  have V493 := V464.ext E477
  have A494 := A463.ext E477
  have V495 := V466.ext E477
  have A496 := A465.ext E477
  have V497 := V468.ext E477
  have A498 := A467.ext E477
  have V499 := V470.ext E477
  have A500 := A469.ext E477
  have K501 := K471.ext E477
  refine own_cast_ X477 (ww 67 rfl) A477 own_d_prog_20_method_1_code_64 (pc' := 67) rfl fun T502 X502 => ?_
  refine own_putF X502 (ww 69 rfl) F488 A485 (Or.inr ⟨(ww 70 rfl), rfl, rfl⟩) (ww 38 rfl) (ty := (.array (.object "java/lang/String"))) (by decide) rfl rfl ge1 own_d_prog_20_method_1_code_67 (pc' := 70) rfl fun T503 h503 X503 W503 => ?_
  have A504 := A485.wr W503
  have A505 := A492.wr W503
  have V506 := V491.other W503 N2.symm
  have A507 := A494.wr W503
  have V508 := V493.other W503 N3.symm
  have A509 := A496.wr W503
  have V510 := V495.other W503 N4.symm
  have A511 := A498.wr W503
  have V512 := V497.other W503 ne401.symm
  have A513 := A500.wr W503
  have V514 := V499.other W503 ne437.symm
  have A515 := A477.wr W503
  have V516 := V477.other W503 ne478.symm
  have K517 := K501.wr W503 (Or.inl (by simp))
  have F518 := F488.same W503
  have F519 := F486.other W503 (Or.inr (slot_ne (C := "com/example/cladewalk/cladewalk/tree/Tree") (Or.inr (ww 62 rfl)) (Or.inr (ww 70 rfl)) (by decide) (t := (.array .double)) (t' := (.array (.object "java/lang/String"))) (by decide) (by decide)))
  have F520 := F487.other W503 (Or.inr (slot_ne (C := "com/example/cladewalk/cladewalk/tree/Tree") (Or.inr (ww 54 rfl)) (Or.inr (ww 70 rfl)) (by decide) (t := (.array .int)) (t' := (.array (.object "java/lang/String"))) (by decide) (by decide)))
  have F521 := F489.other W503 (Or.inr (slot_ne (C := "com/example/cladewalk/cladewalk/tree/Tree") (Or.inr (ww 72 rfl)) (Or.inr (ww 70 rfl)) (by decide) (t := (.array .int)) (t' := (.array (.object "java/lang/String"))) (by decide) (by decide)))
  have F522 := F490.other W503 (Or.inr (slot_ne (C := "com/example/cladewalk/cladewalk/tree/Tree") (Or.inr (ww 75 rfl)) (Or.inr (ww 70 rfl)) (by decide) (t := .int) (t' := (.array (.object "java/lang/String"))) (by decide) (by decide)))
  refine own_aloadN X503 rfl rfl own_d_prog_20_method_1_code_70 (pc' := 71) rfl ?_
  refine own_iload X503 rfl own_d_prog_20_method_1_code_71 (pc' := 73) rfl ?_
  refine own_newarrayE X503 (ty := .int) rfl (ad := "[I") (by decide) (ww 34 rfl) (n := 4) (vs := [(.int (0 : Int32)), (.int (0 : Int32)), (.int (0 : Int32)), (.int (0 : Int32))]) (by decide) (by decide) (by decide) rfl (cells' := 4) (slots' := 16) rfl rfl (by decide) (by decide) own_d_prog_20_method_1_code_73 (pc' := 75) rfl fun a523 T523 h523 g523 ge523 X523 E523 V523 A523 => ?_
  have ne524 : a1 ≠ a523 := own_lt_ne A504.lt g523
  have ne525 : a2 ≠ a523 := own_lt_ne V506.lt g523
  have ne526 : a3 ≠ a523 := own_lt_ne V508.lt g523
  have ne527 : a4 ≠ a523 := own_lt_ne V510.lt g523
  have ne528 : a400 ≠ a523 := own_lt_ne V512.lt g523
  have ne529 : a436 ≠ a523 := own_lt_ne V514.lt g523
  have ne530 : a477 ≠ a523 := own_lt_ne V516.lt g523
  have sz531 := own_ge K517 g523
  have A532 := A504.ext E523
  have F533 := F518.ext E523
  have F534 := F519.ext E523
  have F535 := F520.ext E523
  have F536 := F521.ext E523
  have F537 := F522.ext E523
  have V538 := V506.ext E523
  have A539 := A505.ext E523
  have V540 := V508.ext E523
  have A541 := A507.ext E523
  have V542 := V510.ext E523
  have A543 := A509.ext E523
  have V544 := V512.ext E523
  have A545 := A511.ext E523
  have V546 := V514.ext E523
  have A547 := A513.ext E523
  have V548 := V516.ext E523
  have A549 := A515.ext E523
  have K550 := K517.ext E523
  refine own_putF X523 (ww 71 rfl) F536 A532 (Or.inr ⟨(ww 72 rfl), rfl, rfl⟩) (ww 38 rfl) (ty := (.array .int)) (by decide) rfl rfl ge1 own_d_prog_20_method_1_code_75 (pc' := 78) rfl fun T551 h551 X551 W551 => ?_
  have A552 := A532.wr W551
  have A553 := A539.wr W551
  have V554 := V538.other W551 N2.symm
  have A555 := A541.wr W551
  have V556 := V540.other W551 N3.symm
  have A557 := A543.wr W551
  have V558 := V542.other W551 N4.symm
  have A559 := A545.wr W551
  have V560 := V544.other W551 ne401.symm
  have A561 := A547.wr W551
  have V562 := V546.other W551 ne437.symm
  have A563 := A549.wr W551
  have V564 := V548.other W551 ne478.symm
  have A565 := A523.wr W551
  have V566 := V523.other W551 ne524.symm
  have K567 := K550.wr W551 (Or.inl (by simp))
  have F568 := F536.same W551
  have F569 := F533.other W551 (Or.inr (slot_ne (C := "com/example/cladewalk/cladewalk/tree/Tree") (Or.inr (ww 70 rfl)) (Or.inr (ww 72 rfl)) (by decide) (t := (.array (.object "java/lang/String"))) (t' := (.array .int)) (by decide) (by decide)))
  have F570 := F534.other W551 (Or.inr (slot_ne (C := "com/example/cladewalk/cladewalk/tree/Tree") (Or.inr (ww 62 rfl)) (Or.inr (ww 72 rfl)) (by decide) (t := (.array .double)) (t' := (.array .int)) (by decide) (by decide)))
  have F571 := F535.other W551 (Or.inr (slot_ne (C := "com/example/cladewalk/cladewalk/tree/Tree") (Or.inr (ww 54 rfl)) (Or.inr (ww 72 rfl)) (by decide) (t := (.array .int)) (t' := (.array .int)) (by decide) (by decide)))
  have F572 := F537.other W551 (Or.inr (slot_ne (C := "com/example/cladewalk/cladewalk/tree/Tree") (Or.inr (ww 75 rfl)) (Or.inr (ww 72 rfl)) (by decide) (t := .int) (t' := (.array .int)) (by decide) (by decide)))
  refine own_iconst X551 (v := (0 : Int32)) (by decide) own_d_prog_20_method_1_code_78 (pc' := 79) rfl ?_
  refine own_istore X551 (Ls' := #[oA a1, oA a2, oA a3, oA a4, oI 4, oI 0, oU, oU, oU]) rfl own_d_prog_20_method_1_code_79 (pc' := 81) rfl ?_
  refine own_iconst X551 (v := (0 : Int32)) (by decide) own_d_prog_20_method_1_code_81 (pc' := 82) rfl ?_
  refine own_istore X551 (Ls' := #[oA a1, oA a2, oA a3, oA a4, oI 4, oI 0, oI 0, oU, oU]) rfl own_d_prog_20_method_1_code_82 (pc' := 84) rfl ?_
  refine own_iload X551 rfl own_d_prog_20_method_1_code_84 (pc' := 86) rfl ?_
  refine own_iload X551 rfl own_d_prog_20_method_1_code_86 (pc' := 88) rfl ?_
  refine own_icmpF X551 (by decide) own_d_prog_20_method_1_code_88 (pc' := 91) rfl ?_
  refine own_aloadN X551 rfl rfl own_d_prog_20_method_1_code_91 (pc' := 92) rfl ?_
  refine own_iload X551 rfl own_d_prog_20_method_1_code_92 (pc' := 94) rfl ?_
  refine own_iaload X551 V554 (i := 0) (by decide) (by decide) rfl own_d_prog_20_method_1_code_94 (pc' := 95) rfl ?_
  refine own_istore X551 (Ls' := #[oA a1, oA a2, oA a3, oA a4, oI 4, oI 0, oI 0, oI 1, oU]) rfl own_d_prog_20_method_1_code_95 (pc' := 97) rfl ?_
  refine own_iload X551 rfl own_d_prog_20_method_1_code_97 (pc' := 99) rfl ?_
  refine own_iload X551 rfl own_d_prog_20_method_1_code_99 (pc' := 101) rfl ?_
  refine own_iconst X551 (v := (1 : Int32)) (by decide) own_d_prog_20_method_1_code_101 (pc' := 102) rfl ?_
  refine own_isub X551 (v := (3 : Int32)) (by decide) own_d_prog_20_method_1_code_102 (pc' := 103) rfl ?_
  refine own_icmpT X551 (by decide) own_d_prog_20_method_1_code_103 (pc' := 120) (by decide) (by decide) ?_
  refine own_iload X551 rfl own_d_prog_20_method_1_code_120 (pc' := 122) rfl ?_
  refine own_iload X551 rfl own_d_prog_20_method_1_code_122 (pc' := 124) rfl ?_
  refine own_icmpF X551 (by decide) own_d_prog_20_method_1_code_124 (pc' := 127) rfl ?_
  refine own_iload X551 rfl own_d_prog_20_method_1_code_127 (pc' := 129) rfl ?_
  refine own_iload X551 rfl own_d_prog_20_method_1_code_129 (pc' := 131) rfl ?_
  refine own_icmpF X551 (by decide) own_d_prog_20_method_1_code_131 (pc' := 134) rfl ?_
  refine own_iconst X551 (v := (1 : Int32)) (by decide) own_d_prog_20_method_1_code_134 (pc' := 135) rfl ?_
  refine own_goto X551 own_d_prog_20_method_1_code_135 (pc' := 139) (by decide) (by decide) ?_
  refine own_istore X551 (Ls' := #[oA a1, oA a2, oA a3, oA a4, oI 4, oI 0, oI 0, oI 1, oI 1]) rfl own_d_prog_20_method_1_code_139 (pc' := 141) rfl ?_
  refine own_iload X551 rfl own_d_prog_20_method_1_code_141 (pc' := 143) rfl ?_
  refine own_ifT X551 (by decide) own_d_prog_20_method_1_code_143 (pc' := 163) (by decide) (by decide) ?_
  refine own_iload X551 rfl own_d_prog_20_method_1_code_163 (pc' := 165) rfl ?_
  refine own_ifF X551 (by decide) own_d_prog_20_method_1_code_165 (pc' := 168) rfl ?_
  refine own_aloadN X551 rfl rfl own_d_prog_20_method_1_code_168 (pc' := 169) rfl ?_
  refine own_getF X551 (ww 71 rfl) F568 own_d_prog_20_method_1_code_169 (pc' := 172) rfl fun T573 X573 => ?_
  refine own_iload X573 rfl own_d_prog_20_method_1_code_172 (pc' := 174) rfl ?_
  refine own_dup2 X573 rfl rfl own_d_prog_20_method_1_code_174 (pc' := 175) rfl ?_
  refine own_iaload X573 V566 (i := 1) (by decide) (by decide) rfl own_d_prog_20_method_1_code_175 (pc' := 176) rfl ?_
  refine own_iconst X573 (v := (1 : Int32)) (by decide) own_d_prog_20_method_1_code_176 (pc' := 177) rfl ?_
  refine own_iadd X573 (v := (1 : Int32)) (by decide) own_d_prog_20_method_1_code_177 (pc' := 178) rfl ?_
  refine own_iastore X573 V566 ge523 (i := 1) (by decide) (by decide) (show 1 < 4 by decide) own_d_prog_20_method_1_code_178 (pc' := 179) rfl fun T574 h574 X574 W574 V574 => ?_
  have A575 := A552.wr W574
  have F576 := F568.other W574 (Or.inl ne524)
  have F577 := F569.other W574 (Or.inl ne524)
  have F578 := F570.other W574 (Or.inl ne524)
  have F579 := F571.other W574 (Or.inl ne524)
  have F580 := F572.other W574 (Or.inl ne524)
  have A581 := A553.wr W574
  have V582 := V554.other W574 ne525
  have A583 := A555.wr W574
  have V584 := V556.other W574 ne526
  have A585 := A557.wr W574
  have V586 := V558.other W574 ne527
  have A587 := A559.wr W574
  have V588 := V560.other W574 ne528
  have A589 := A561.wr W574
  have V590 := V562.other W574 ne529
  have A591 := A563.wr W574
  have V592 := V564.other W574 ne530
  have A593 := A565.wr W574
  have K594 := K567.wr W574 (Or.inr sz531)
  replace V574 : own_Vec Z h574 a523 .int [(.int (0 : Int32)), (.int (1 : Int32)), (.int (0 : Int32)), (.int (0 : Int32))] := V574
  refine own_aloadN X574 rfl rfl own_d_prog_20_method_1_code_179 (pc' := 180) rfl ?_
  refine own_iload X574 rfl own_d_prog_20_method_1_code_180 (pc' := 182) rfl ?_
  refine own_daload X574 V584 (i := 0) (by decide) (by decide) rfl own_d_prog_20_method_1_code_182 (pc' := 183) rfl ?_
  refine own_dconst0 X574 (v := (0 : UInt64)) rfl own_d_prog_20_method_1_code_183 (pc' := 184) rfl ?_
  have f595 : own_D 0 0 (0 : Int) (0 : UInt64) := own_D.lit (s := false) (c := 0) (q := -1074) (by decide +kernel) (by decide +kernel) (by decide)
  refine own_dcmp X574 (D_z0.cmp f595) own_d_prog_20_method_1_code_184 (pc' := 185) rfl ?_
  have c596 : ¬ (i_z0 < (0 : Int)) := by omega
  refine own_ifF X574 (own_c3_nlt c596).1 own_d_prog_20_method_1_code_185 (pc' := 188) rfl ?_
  refine own_aloadN X574 rfl rfl own_d_prog_20_method_1_code_188 (pc' := 189) rfl ?_
  refine own_iload X574 rfl own_d_prog_20_method_1_code_189 (pc' := 191) rfl ?_
  refine own_daload X574 V584 (i := 0) (by decide) (by decide) rfl own_d_prog_20_method_1_code_191 (pc' := 192) rfl ?_
  refine own_ldcD X574 (v := (9218868437227405312 : UInt64)) (ww 73 rfl) own_d_prog_20_method_1_code_192 (pc' := 195) rfl ?_
  refine own_dcmp X574 (v := (-1 : Int32)) (dcmp_pinf D_z0.isFin _) own_d_prog_20_method_1_code_195 (pc' := 196) rfl ?_
  refine own_ifT X574 (by decide) own_d_prog_20_method_1_code_196 (pc' := 218) (by decide) (by decide) ?_
  refine own_iinc X574 (Ls' := #[oA a1, oA a2, oA a3, oA a4, oI 4, oI 0, oI 1, oI 1, oI 1]) rfl (by decide) rfl own_d_prog_20_method_1_code_218 (pc' := 221) rfl ?_
  refine own_goto X574 own_d_prog_20_method_1_code_221 (pc' := 84) (by decide) (by decide) ?_
  refine own_iload X574 rfl own_d_prog_20_method_1_code_84 (pc' := 86) rfl ?_
  refine own_iload X574 rfl own_d_prog_20_method_1_code_86 (pc' := 88) rfl ?_
  refine own_icmpF X574 (by decide) own_d_prog_20_method_1_code_88 (pc' := 91) rfl ?_
  refine own_aloadN X574 rfl rfl own_d_prog_20_method_1_code_91 (pc' := 92) rfl ?_
  refine own_iload X574 rfl own_d_prog_20_method_1_code_92 (pc' := 94) rfl ?_
  refine own_iaload X574 V582 (i := 1) (by decide) (by decide) rfl own_d_prog_20_method_1_code_94 (pc' := 95) rfl ?_
  refine own_istore X574 (Ls' := #[oA a1, oA a2, oA a3, oA a4, oI 4, oI 0, oI 1, oI 3, oI 1]) rfl own_d_prog_20_method_1_code_95 (pc' := 97) rfl ?_
  refine own_iload X574 rfl own_d_prog_20_method_1_code_97 (pc' := 99) rfl ?_
  refine own_iload X574 rfl own_d_prog_20_method_1_code_99 (pc' := 101) rfl ?_
  refine own_iconst X574 (v := (1 : Int32)) (by decide) own_d_prog_20_method_1_code_101 (pc' := 102) rfl ?_
  refine own_isub X574 (v := (3 : Int32)) (by decide) own_d_prog_20_method_1_code_102 (pc' := 103) rfl ?_
  refine own_icmpT X574 (by decide) own_d_prog_20_method_1_code_103 (pc' := 120) (by decide) (by decide) ?_
  refine own_iload X574 rfl own_d_prog_20_method_1_code_120 (pc' := 122) rfl ?_
  refine own_iload X574 rfl own_d_prog_20_method_1_code_122 (pc' := 124) rfl ?_
  refine own_icmpF X574 (by decide) own_d_prog_20_method_1_code_124 (pc' := 127) rfl ?_
  refine own_iload X574 rfl own_d_prog_20_method_1_code_127 (pc' := 129) rfl ?_
  refine own_iload X574 rfl own_d_prog_20_method_1_code_129 (pc' := 131) rfl ?_
  refine own_icmpF X574 (by decide) own_d_prog_20_method_1_code_131 (pc' := 134) rfl ?_
  refine own_iconst X574 (v := (1 : Int32)) (by decide) own_d_prog_20_method_1_code_134 (pc' := 135) rfl ?_
  refine own_goto X574 own_d_prog_20_method_1_code_135 (pc' := 139) (by decide) (by decide) ?_
  refine own_istore X574 (Ls' := #[oA a1, oA a2, oA a3, oA a4, oI 4, oI 0, oI 1, oI 3, oI 1]) rfl own_d_prog_20_method_1_code_139 (pc' := 141) rfl ?_
  refine own_iload X574 rfl own_d_prog_20_method_1_code_141 (pc' := 143) rfl ?_
  refine own_ifT X574 (by decide) own_d_prog_20_method_1_code_143 (pc' := 163) (by decide) (by decide) ?_
  refine own_iload X574 rfl own_d_prog_20_method_1_code_163 (pc' := 165) rfl ?_
  refine own_ifF X574 (by decide) own_d_prog_20_method_1_code_165 (pc' := 168) rfl ?_
  refine own_aloadN X574 rfl rfl own_d_prog_20_method_1_code_168 (pc' := 169) rfl ?_
  refine own_getF X574 (ww 71 rfl) F576 own_d_prog_20_method_1_code_169 (pc' := 172) rfl fun T597 X597 => ?_
  refine own_iload X597 rfl own_d_prog_20_method_1_code_172 (pc' := 174) rfl ?_
  refine own_dup2 X597 rfl rfl own_d_prog_20_method_1_code_174 (pc' := 175) rfl ?_
  refine own_iaload X597 V574 (i := 3) (by decide) (by decide) rfl own_d_prog_20_method_1_code_175 (pc' := 176) rfl ?_
  refine own_iconst X597 (v := (1 : Int32)) (by decide) own_d_prog_20_method_1_code_176 (pc' := 177) rfl ?_
  refine own_iadd X597 (v := (1 : Int32)) (by decide) own_d_prog_20_method_1_code_177 (pc' := 178) rfl ?_
  refine own_iastore X597 V574 ge523 (i := 3) (by decide) (by decide) (show 3 < 4 by decide) own_d_prog_20_method_1_code_178 (pc' := 179) rfl fun T598 h598 X598 W598 V598 => ?_
  have A599 := A575.wr W598
  have F600 := F576.other W598 (Or.inl ne524)
  have F601 := F577.other W598 (Or.inl ne524)
  have F602 := F578.other W598 (Or.inl ne524)
  have F603 := F579.other W598 (Or.inl ne524)
  have F604 := F580.other W598 (Or.inl ne524)
  have A605 := A581.wr W598
  have V606 := V582.other W598 ne525
  have A607 := A583.wr W598
  have V608 := V584.other W598 ne526
  have A609 := A585.wr W598
  have V610 := V586.other W598 ne527
  have A611 := A587.wr W598
  have V612 := V588.other W598 ne528
  have A613 := A589.wr W598
  have V614 := V590.other W598 ne529
  have A615 := A591.wr W598
  have V616 := V592.other W598 ne530
  have A617 := A593.wr W598
  have K618 := K594.wr W598 (Or.inr sz531)
  replace V598 : own_Vec Z h598 a523 .int [(.int (0 : Int32)), (.int (1 : Int32)), (.int (0 : Int32)), (.int (1 : Int32))] := V598
  refine own_aloadN X598 rfl rfl own_d_prog_20_method_1_code_179 (pc' := 180) rfl ?_
  refine own_iload X598 rfl own_d_prog_20_method_1_code_180 (pc' := 182) rfl ?_
  refine own_daload X598 V608 (i := 1) (by decide) (by decide) rfl own_d_prog_20_method_1_code_182 (pc' := 183) rfl ?_
  refine own_dconst0 X598 (v := (0 : UInt64)) rfl own_d_prog_20_method_1_code_183 (pc' := 184) rfl ?_
  have f619 : own_D 0 0 (0 : Int) (0 : UInt64) := own_D.lit (s := false) (c := 0) (q := -1074) (by decide +kernel) (by decide +kernel) (by decide)
  refine own_dcmp X598 (D_z1.cmp f619) own_d_prog_20_method_1_code_184 (pc' := 185) rfl ?_
  have c620 : ¬ (i_z1 < (0 : Int)) := by omega
  refine own_ifF X598 (own_c3_nlt c620).1 own_d_prog_20_method_1_code_185 (pc' := 188) rfl ?_
  refine own_aloadN X598 rfl rfl own_d_prog_20_method_1_code_188 (pc' := 189) rfl ?_
  refine own_iload X598 rfl own_d_prog_20_method_1_code_189 (pc' := 191) rfl ?_
  refine own_daload X598 V608 (i := 1) (by decide) (by decide) rfl own_d_prog_20_method_1_code_191 (pc' := 192) rfl ?_
  refine own_ldcD X598 (v := (9218868437227405312 : UInt64)) (ww 73 rfl) own_d_prog_20_method_1_code_192 (pc' := 195) rfl ?_
  refine own_dcmp X598 (v := (-1 : Int32)) (dcmp_pinf D_z1.isFin _) own_d_prog_20_method_1_code_195 (pc' := 196) rfl ?_
  refine own_ifT X598 (by decide) own_d_prog_20_method_1_code_196 (pc' := 218) (by decide) (by decide) ?_
  refine own_iinc X598 (Ls' := #[oA a1, oA a2, oA a3, oA a4, oI 4, oI 0, oI 2, oI 3, oI 1]) rfl (by decide) rfl own_d_prog_20_method_1_code_218 (pc' := 221) rfl ?_
  refine own_goto X598 own_d_prog_20_method_1_code_221 (pc' := 84) (by decide) (by decide) ?_
  refine own_iload X598 rfl own_d_prog_20_method_1_code_84 (pc' := 86) rfl ?_
  refine own_iload X598 rfl own_d_prog_20_method_1_code_86 (pc' := 88) rfl ?_
  refine own_icmpF X598 (by decide) own_d_prog_20_method_1_code_88 (pc' := 91) rfl ?_
  refine own_aloadN X598 rfl rfl own_d_prog_20_method_1_code_91 (pc' := 92) rfl ?_
  refine own_iload X598 rfl own_d_prog_20_method_1_code_92 (pc' := 94) rfl ?_
  refine own_iaload X598 V606 (i := 2) (by decide) (by decide) rfl own_d_prog_20_method_1_code_94 (pc' := 95) rfl ?_
  refine own_istore X598 (Ls' := #[oA a1, oA a2, oA a3, oA a4, oI 4, oI 0, oI 2, oI 3, oI 1]) rfl own_d_prog_20_method_1_code_95 (pc' := 97) rfl ?_
  refine own_iload X598 rfl own_d_prog_20_method_1_code_97 (pc' := 99) rfl ?_
  refine own_iload X598 rfl own_d_prog_20_method_1_code_99 (pc' := 101) rfl ?_
  refine own_iconst X598 (v := (1 : Int32)) (by decide) own_d_prog_20_method_1_code_101 (pc' := 102) rfl ?_
  refine own_isub X598 (v := (3 : Int32)) (by decide) own_d_prog_20_method_1_code_102 (pc' := 103) rfl ?_
  refine own_icmpT X598 (by decide) own_d_prog_20_method_1_code_103 (pc' := 120) (by decide) (by decide) ?_
  refine own_iload X598 rfl own_d_prog_20_method_1_code_120 (pc' := 122) rfl ?_
  refine own_iload X598 rfl own_d_prog_20_method_1_code_122 (pc' := 124) rfl ?_
  refine own_icmpF X598 (by decide) own_d_prog_20_method_1_code_124 (pc' := 127) rfl ?_
  refine own_iload X598 rfl own_d_prog_20_method_1_code_127 (pc' := 129) rfl ?_
  refine own_iload X598 rfl own_d_prog_20_method_1_code_129 (pc' := 131) rfl ?_
  refine own_icmpF X598 (by decide) own_d_prog_20_method_1_code_131 (pc' := 134) rfl ?_
  refine own_iconst X598 (v := (1 : Int32)) (by decide) own_d_prog_20_method_1_code_134 (pc' := 135) rfl ?_
  refine own_goto X598 own_d_prog_20_method_1_code_135 (pc' := 139) (by decide) (by decide) ?_
  refine own_istore X598 (Ls' := #[oA a1, oA a2, oA a3, oA a4, oI 4, oI 0, oI 2, oI 3, oI 1]) rfl own_d_prog_20_method_1_code_139 (pc' := 141) rfl ?_
  refine own_iload X598 rfl own_d_prog_20_method_1_code_141 (pc' := 143) rfl ?_
  refine own_ifT X598 (by decide) own_d_prog_20_method_1_code_143 (pc' := 163) (by decide) (by decide) ?_
  refine own_iload X598 rfl own_d_prog_20_method_1_code_163 (pc' := 165) rfl ?_
  refine own_ifF X598 (by decide) own_d_prog_20_method_1_code_165 (pc' := 168) rfl ?_
  refine own_aloadN X598 rfl rfl own_d_prog_20_method_1_code_168 (pc' := 169) rfl ?_
  refine own_getF X598 (ww 71 rfl) F600 own_d_prog_20_method_1_code_169 (pc' := 172) rfl fun T621 X621 => ?_
  refine own_iload X621 rfl own_d_prog_20_method_1_code_172 (pc' := 174) rfl ?_
  refine own_dup2 X621 rfl rfl own_d_prog_20_method_1_code_174 (pc' := 175) rfl ?_
  refine own_iaload X621 V598 (i := 3) (by decide) (by decide) rfl own_d_prog_20_method_1_code_175 (pc' := 176) rfl ?_
  refine own_iconst X621 (v := (1 : Int32)) (by decide) own_d_prog_20_method_1_code_176 (pc' := 177) rfl ?_
  refine own_iadd X621 (v := (2 : Int32)) (by decide) own_d_prog_20_method_1_code_177 (pc' := 178) rfl ?_
  refine own_iastore X621 V598 ge523 (i := 3) (by decide) (by decide) (show 3 < 4 by decide) own_d_prog_20_method_1_code_178 (pc' := 179) rfl fun T622 h622 X622 W622 V622 => ?_
  have A623 := A599.wr W622
  have F624 := F600.other W622 (Or.inl ne524)
  have F625 := F601.other W622 (Or.inl ne524)
  have F626 := F602.other W622 (Or.inl ne524)
  have F627 := F603.other W622 (Or.inl ne524)
  have F628 := F604.other W622 (Or.inl ne524)
  have A629 := A605.wr W622
  have V630 := V606.other W622 ne525
  have A631 := A607.wr W622
  have V632 := V608.other W622 ne526
  have A633 := A609.wr W622
  have V634 := V610.other W622 ne527
  have A635 := A611.wr W622
  have V636 := V612.other W622 ne528
  have A637 := A613.wr W622
  have V638 := V614.other W622 ne529
  have A639 := A615.wr W622
  have V640 := V616.other W622 ne530
  have A641 := A617.wr W622
  have K642 := K618.wr W622 (Or.inr sz531)
  replace V622 : own_Vec Z h622 a523 .int [(.int (0 : Int32)), (.int (1 : Int32)), (.int (0 : Int32)), (.int (2 : Int32))] := V622
  refine own_aloadN X622 rfl rfl own_d_prog_20_method_1_code_179 (pc' := 180) rfl ?_
  refine own_iload X622 rfl own_d_prog_20_method_1_code_180 (pc' := 182) rfl ?_
  refine own_daload X622 V632 (i := 2) (by decide) (by decide) rfl own_d_prog_20_method_1_code_182 (pc' := 183) rfl ?_
  refine own_dconst0 X622 (v := (0 : UInt64)) rfl own_d_prog_20_method_1_code_183 (pc' := 184) rfl ?_
  have f643 : own_D 0 0 (0 : Int) (0 : UInt64) := own_D.lit (s := false) (c := 0) (q := -1074) (by decide +kernel) (by decide +kernel) (by decide)
  refine own_dcmp X622 (D_z2.cmp f643) own_d_prog_20_method_1_code_184 (pc' := 185) rfl ?_
  have c644 : ¬ (i_z2 < (0 : Int)) := by omega
  refine own_ifF X622 (own_c3_nlt c644).1 own_d_prog_20_method_1_code_185 (pc' := 188) rfl ?_
  refine own_aloadN X622 rfl rfl own_d_prog_20_method_1_code_188 (pc' := 189) rfl ?_
  refine own_iload X622 rfl own_d_prog_20_method_1_code_189 (pc' := 191) rfl ?_
  refine own_daload X622 V632 (i := 2) (by decide) (by decide) rfl own_d_prog_20_method_1_code_191 (pc' := 192) rfl ?_
  refine own_ldcD X622 (v := (9218868437227405312 : UInt64)) (ww 73 rfl) own_d_prog_20_method_1_code_192 (pc' := 195) rfl ?_
  refine own_dcmp X622 (v := (-1 : Int32)) (dcmp_pinf D_z2.isFin _) own_d_prog_20_method_1_code_195 (pc' := 196) rfl ?_
  refine own_ifT X622 (by decide) own_d_prog_20_method_1_code_196 (pc' := 218) (by decide) (by decide) ?_
  refine own_iinc X622 (Ls' := #[oA a1, oA a2, oA a3, oA a4, oI 4, oI 0, oI 3, oI 3, oI 1]) rfl (by decide) rfl own_d_prog_20_method_1_code_218 (pc' := 221) rfl ?_
  refine own_goto X622 own_d_prog_20_method_1_code_221 (pc' := 84) (by decide) (by decide) ?_
  refine own_iload X622 rfl own_d_prog_20_method_1_code_84 (pc' := 86) rfl ?_
  refine own_iload X622 rfl own_d_prog_20_method_1_code_86 (pc' := 88) rfl ?_
  refine own_icmpF X622 (by decide) own_d_prog_20_method_1_code_88 (pc' := 91) rfl ?_
  refine own_aloadN X622 rfl rfl own_d_prog_20_method_1_code_91 (pc' := 92) rfl ?_
  refine own_iload X622 rfl own_d_prog_20_method_1_code_92 (pc' := 94) rfl ?_
  refine own_iaload X622 V630 (i := 3) (by decide) (by decide) rfl own_d_prog_20_method_1_code_94 (pc' := 95) rfl ?_
  refine own_istore X622 (Ls' := #[oA a1, oA a2, oA a3, oA a4, oI 4, oI 0, oI 3, oI (-1), oI 1]) rfl own_d_prog_20_method_1_code_95 (pc' := 97) rfl ?_
  refine own_iload X622 rfl own_d_prog_20_method_1_code_97 (pc' := 99) rfl ?_
  refine own_iload X622 rfl own_d_prog_20_method_1_code_99 (pc' := 101) rfl ?_
  refine own_iconst X622 (v := (1 : Int32)) (by decide) own_d_prog_20_method_1_code_101 (pc' := 102) rfl ?_
  refine own_isub X622 (v := (3 : Int32)) (by decide) own_d_prog_20_method_1_code_102 (pc' := 103) rfl ?_
  refine own_icmpF X622 (by decide) own_d_prog_20_method_1_code_103 (pc' := 106) rfl ?_
  refine own_iload X622 rfl own_d_prog_20_method_1_code_106 (pc' := 108) rfl ?_
  refine own_iconst X622 (v := (-1 : Int32)) (by decide) own_d_prog_20_method_1_code_108 (pc' := 109) rfl ?_
  refine own_icmpF X622 (by decide) own_d_prog_20_method_1_code_109 (pc' := 112) rfl ?_
  refine own_iconst X622 (v := (1 : Int32)) (by decide) own_d_prog_20_method_1_code_112 (pc' := 113) rfl ?_
  refine own_goto X622 own_d_prog_20_method_1_code_113 (pc' := 139) (by decide) (by decide) ?_
  refine own_istore X622 (Ls' := #[oA a1, oA a2, oA a3, oA a4, oI 4, oI 0, oI 3, oI (-1), oI 1]) rfl own_d_prog_20_method_1_code_139 (pc' := 141) rfl ?_
  refine own_iload X622 rfl own_d_prog_20_method_1_code_141 (pc' := 143) rfl ?_
  refine own_ifT X622 (by decide) own_d_prog_20_method_1_code_143 (pc' := 163) (by decide) (by decide) ?_
  refine own_iload X622 rfl own_d_prog_20_method_1_code_163 (pc' := 165) rfl ?_
  refine own_ifT X622 (by decide) own_d_prog_20_method_1_code_165 (pc' := 218) (by decide) (by decide) ?_
  refine own_iinc X622 (Ls' := #[oA a1, oA a2, oA a3, oA a4, oI 4, oI 0, oI 4, oI (-1), oI 1]) rfl (by decide) rfl own_d_prog_20_method_1_code_218 (pc' := 221) rfl ?_
  refine own_goto X622 own_d_prog_20_method_1_code_221 (pc' := 84) (by decide) (by decide) ?_
  refine own_iload X622 rfl own_d_prog_20_method_1_code_84 (pc' := 86) rfl ?_
  refine own_iload X622 rfl own_d_prog_20_method_1_code_86 (pc' := 88) rfl ?_
  refine own_icmpT X622 (by decide) own_d_prog_20_method_1_code_88 (pc' := 224) (by decide) (by decide) ?_
  refine own_iconst X622 (v := (0 : Int32)) (by decide) own_d_prog_20_method_1_code_224 (pc' := 225) rfl ?_
  refine own_istore X622 (Ls' := #[oA a1, oA a2, oA a3, oA a4, oI 4, oI 0, oI 0, oI (-1), oI 1]) rfl own_d_prog_20_method_1_code_225 (pc' := 227) rfl ?_
  refine own_iload X622 rfl own_d_prog_20_method_1_code_227 (pc' := 229) rfl ?_
  refine own_iload X622 rfl own_d_prog_20_method_1_code_229 (pc' := 231) rfl ?_
  refine own_icmpF X622 (by decide) own_d_prog_20_method_1_code_231 (pc' := 234) rfl ?_
  refine own_aloadN X622 rfl rfl own_d_prog_20_method_1_code_234 (pc' := 235) rfl ?_
  refine own_getF X622 (ww 71 rfl) F624 own_d_prog_20_method_1_code_235 (pc' := 238) rfl fun T645 X645 => ?_
  refine own_iload X645 rfl own_d_prog_20_method_1_code_238 (pc' := 240) rfl ?_
  refine own_iaload X645 V622 (i := 0) (by decide) (by decide) rfl own_d_prog_20_method_1_code_240 (pc' := 241) rfl ?_
  refine own_ifF X645 (by decide) own_d_prog_20_method_1_code_241 (pc' := 244) rfl ?_
  refine own_iinc X645 (Ls' := #[oA a1, oA a2, oA a3, oA a4, oI 4, oI 1, oI 0, oI (-1), oI 1]) rfl (by decide) rfl own_d_prog_20_method_1_code_244 (pc' := 247) rfl ?_
  refine own_aloadN X645 rfl rfl own_d_prog_20_method_1_code_247 (pc' := 248) rfl ?_
  refine own_iload X645 rfl own_d_prog_20_method_1_code_248 (pc' := 250) rfl ?_
  refine own_aaload X645 V634 rfl (i := 0) (by decide) (by decide) rfl own_d_prog_20_method_1_code_250 (pc' := 251) rfl ?_
  refine own_ifnonnullT X645 own_d_prog_20_method_1_code_251 (pc' := 269) (by decide) (by decide) ?_
  refine own_iinc X645 (Ls' := #[oA a1, oA a2, oA a3, oA a4, oI 4, oI 1, oI 1, oI (-1), oI 1]) rfl (by decide) rfl own_d_prog_20_method_1_code_269 (pc' := 272) rfl ?_
  refine own_goto X645 own_d_prog_20_method_1_code_272 (pc' := 227) (by decide) (by decide) ?_
  refine own_iload X645 rfl own_d_prog_20_method_1_code_227 (pc' := 229) rfl ?_
  refine own_iload X645 rfl own_d_prog_20_method_1_code_229 (pc' := 231) rfl ?_
  refine own_icmpF X645 (by decide) own_d_prog_20_method_1_code_231 (pc' := 234) rfl ?_
  refine own_aloadN X645 rfl rfl own_d_prog_20_method_1_code_234 (pc' := 235) rfl ?_
  refine own_getF X645 (ww 71 rfl) F624 own_d_prog_20_method_1_code_235 (pc' := 238) rfl fun T646 X646 => ?_
  refine own_iload X646 rfl own_d_prog_20_method_1_code_238 (pc' := 240) rfl ?_
  refine own_iaload X646 V622 (i := 1) (by decide) (by decide) rfl own_d_prog_20_method_1_code_240 (pc' := 241) rfl ?_
  refine own_ifT X646 (by decide) own_d_prog_20_method_1_code_241 (pc' := 269) (by decide) (by decide) ?_
  refine own_iinc X646 (Ls' := #[oA a1, oA a2, oA a3, oA a4, oI 4, oI 1, oI 2, oI (-1), oI 1]) rfl (by decide) rfl own_d_prog_20_method_1_code_269 (pc' := 272) rfl ?_
  refine own_goto X646 own_d_prog_20_method_1_code_272 (pc' := 227) (by decide) (by decide) ?_
  refine own_iload X646 rfl own_d_prog_20_method_1_code_227 (pc' := 229) rfl ?_
  refine own_iload X646 rfl own_d_prog_20_method_1_code_229 (pc' := 231) rfl ?_
  refine own_icmpF X646 (by decide) own_d_prog_20_method_1_code_231 (pc' := 234) rfl ?_
  refine own_aloadN X646 rfl rfl own_d_prog_20_method_1_code_234 (pc' := 235) rfl ?_
  refine own_getF X646 (ww 71 rfl) F624 own_d_prog_20_method_1_code_235 (pc' := 238) rfl fun T647 X647 => ?_
  refine own_iload X647 rfl own_d_prog_20_method_1_code_238 (pc' := 240) rfl ?_
  refine own_iaload X647 V622 (i := 2) (by decide) (by decide) rfl own_d_prog_20_method_1_code_240 (pc' := 241) rfl ?_
  refine own_ifF X647 (by decide) own_d_prog_20_method_1_code_241 (pc' := 244) rfl ?_
  refine own_iinc X647 (Ls' := #[oA a1, oA a2, oA a3, oA a4, oI 4, oI 2, oI 2, oI (-1), oI 1]) rfl (by decide) rfl own_d_prog_20_method_1_code_244 (pc' := 247) rfl ?_
  refine own_aloadN X647 rfl rfl own_d_prog_20_method_1_code_247 (pc' := 248) rfl ?_
  refine own_iload X647 rfl own_d_prog_20_method_1_code_248 (pc' := 250) rfl ?_
  refine own_aaload X647 V634 rfl (i := 2) (by decide) (by decide) rfl own_d_prog_20_method_1_code_250 (pc' := 251) rfl ?_
  refine own_ifnonnullT X647 own_d_prog_20_method_1_code_251 (pc' := 269) (by decide) (by decide) ?_
  refine own_iinc X647 (Ls' := #[oA a1, oA a2, oA a3, oA a4, oI 4, oI 2, oI 3, oI (-1), oI 1]) rfl (by decide) rfl own_d_prog_20_method_1_code_269 (pc' := 272) rfl ?_
  refine own_goto X647 own_d_prog_20_method_1_code_272 (pc' := 227) (by decide) (by decide) ?_
  refine own_iload X647 rfl own_d_prog_20_method_1_code_227 (pc' := 229) rfl ?_
  refine own_iload X647 rfl own_d_prog_20_method_1_code_229 (pc' := 231) rfl ?_
  refine own_icmpF X647 (by decide) own_d_prog_20_method_1_code_231 (pc' := 234) rfl ?_
  refine own_aloadN X647 rfl rfl own_d_prog_20_method_1_code_234 (pc' := 235) rfl ?_
  refine own_getF X647 (ww 71 rfl) F624 own_d_prog_20_method_1_code_235 (pc' := 238) rfl fun T648 X648 => ?_
  refine own_iload X648 rfl own_d_prog_20_method_1_code_238 (pc' := 240) rfl ?_
  refine own_iaload X648 V622 (i := 3) (by decide) (by decide) rfl own_d_prog_20_method_1_code_240 (pc' := 241) rfl ?_
  refine own_ifT X648 (by decide) own_d_prog_20_method_1_code_241 (pc' := 269) (by decide) (by decide) ?_
  refine own_iinc X648 (Ls' := #[oA a1, oA a2, oA a3, oA a4, oI 4, oI 2, oI 4, oI (-1), oI 1]) rfl (by decide) rfl own_d_prog_20_method_1_code_269 (pc' := 272) rfl ?_
  refine own_goto X648 own_d_prog_20_method_1_code_272 (pc' := 227) (by decide) (by decide) ?_
  refine own_iload X648 rfl own_d_prog_20_method_1_code_227 (pc' := 229) rfl ?_
  refine own_iload X648 rfl own_d_prog_20_method_1_code_229 (pc' := 231) rfl ?_
  refine own_icmpT X648 (by decide) own_d_prog_20_method_1_code_231 (pc' := 275) (by decide) (by decide) ?_
  refine own_aloadN X648 rfl rfl own_d_prog_20_method_1_code_275 (pc' := 276) rfl ?_
  refine own_iload X648 rfl own_d_prog_20_method_1_code_276 (pc' := 278) rfl ?_
  refine own_putF X648 (ww 74 rfl) F628 A623 (Or.inr ⟨(ww 75 rfl), rfl, rfl⟩) (ww 38 rfl) (ty := .int) (by decide) rfl rfl ge1 own_d_prog_20_method_1_code_278 (pc' := 281) rfl fun T649 h649 X649 W649 => ?_
  have A650 := A623.wr W649
  have A651 := A629.wr W649
  have V652 := V630.other W649 N2.symm
  have A653 := A631.wr W649
  have V654 := V632.other W649 N3.symm
  have A655 := A633.wr W649
  have V656 := V634.other W649 N4.symm
  have A657 := A635.wr W649
  have V658 := V636.other W649 ne401.symm
  have A659 := A637.wr W649
  have V660 := V638.other W649 ne437.symm
  have A661 := A639.wr W649
  have V662 := V640.other W649 ne478.symm
  have A663 := A641.wr W649
  have V664 := V622.other W649 ne524.symm
  have K665 := K642.wr W649 (Or.inl (by simp))
  have F666 := F628.same W649
  have F667 := F624.other W649 (Or.inr (slot_ne (C := "com/example/cladewalk/cladewalk/tree/Tree") (Or.inr (ww 72 rfl)) (Or.inr (ww 75 rfl)) (by decide) (t := (.array .int)) (t' := .int) (by decide) (by decide)))
  have F668 := F625.other W649 (Or.inr (slot_ne (C := "com/example/cladewalk/cladewalk/tree/Tree") (Or.inr (ww 70 rfl)) (Or.inr (ww 75 rfl)) (by decide) (t := (.array (.object "java/lang/String"))) (t' := .int) (by decide) (by decide)))
  have F669 := F626.other W649 (Or.inr (slot_ne (C := "com/example/cladewalk/cladewalk/tree/Tree") (Or.inr (ww 62 rfl)) (Or.inr (ww 75 rfl)) (by decide) (t := (.array .double)) (t' := .int) (by decide) (by decide)))
  have F670 := F627.other W649 (Or.inr (slot_ne (C := "com/example/cladewalk/cladewalk/tree/Tree") (Or.inr (ww 54 rfl)) (Or.inr (ww 75 rfl)) (by decide) (t := (.array .int)) (t' := .int) (by decide) (by decide)))
  exact own_retV X649  own_d_prog_20_method_1_code_281 rfl (by decide) (by decide) ⟨rfl, ⟨_, _, F667, F668, V664, V662⟩, K665⟩
abbrev own_rm_own_ti_22 : Room := ({ frames := 1, cells := 4, slots := 16, locals := 15 } : Room)
set_option maxRecDepth 65536 in
set_option maxHeartbeats 40000000 in
theorem own_ti_22 (l : Launch) (Z : State) (a0 : Array Value) (hw : ∀ d ∈ tables_1, d.before a0 Z = true) (a1 a2 a3 a4 : Addr) (z0 : UInt64) (i_z0 : Int) (z1 : UInt64) (i_z1 : Int) (z2 : UInt64) (i_z2 : Int) (s0 : Addr) (s1 : Addr) (v2 : Value) (v3 : Value) (h0 : Heap) (n0 : Nat) (Z0 : n0 ≤ h0.size) (ge1 : n0 ≤ a1) (A1 : Exa Z h0 a1 "com/example/cladewalk/cladewalk/tree/Tree") (F0 : Fld Z h0 a1 "com/example/cladewalk/cladewalk/tree/Tree" "parents" "[I" .null) (F1 : Fld Z h0 a1 "com/example/cladewalk/cladewalk/tree/Tree" "lengths" "[D" .null) (F2 : Fld Z h0 a1 "com/example/cladewalk/cladewalk/tree/Tree" "names" "[Ljava/lang/String;" .null) (F3 : Fld Z h0 a1 "com/example/cladewalk/cladewalk/tree/Tree" "childCounts" "[I" .null) (F4 : Fld Z h0 a1 "com/example/cladewalk/cladewalk/tree/Tree" "tipCount" "I" (.int (0 : Int32))) (V1 : own_Vec Z h0 a2 .int [(.int (2 : Int32)), (.int (2 : Int32)), (.int (3 : Int32)), (.int (-1 : Int32))]) (V2 : own_Vec Z h0 a3 .double [(.double z0), (.double z1), (.double z2), (.double (0 : UInt64))]) (V3 : own_Vec Z h0 a4 (.object "java/lang/String") [(.ref s0), (.ref s1), v2, v3]) (B1 : Exa Z h0 a2 "[I") (B2 : Exa Z h0 a3 "[D") (B3 : Exa Z h0 a4 "[Ljava/lang/String;") (N2 : a1 ≠ a2) (N3 : a1 ≠ a3) (N4 : a1 ≠ a4) (D_z0 : own_D 0 7 i_z0 z0) (hi_z0 : 0 ≤ i_z0) (D_z1 : own_D 0 7 i_z1 z1) (hi_z1 : 0 ≤ i_z1) (D_z2 : own_D 0 7 i_z2 z2) (hi_z2 : 0 ≤ i_z2) (fq_v2 : fits (.object "java/lang/String") v2 = true) (fq_v3 : fits (.object "java/lang/String") v3 = true) :
    own_Met l Z ({ cls := "com/example/cladewalk/cladewalk/tree/Tree", name := "<init>", desc := "([I[D[Ljava/lang/String;)V" } : Jvm.MethodName) prog_20_method_1_code 9 none [] own_rm_own_ti_22 #[(.ref a1), (.ref a2), (.ref a3), (.ref a4)] h0 n0 (fun v h => v = none ∧ (∃ x y, Fld Z h a1 "com/example/cladewalk/cladewalk/tree/Tree" "childCounts" "[I" (.ref x) ∧ Fld Z h a1 "com/example/cladewalk/cladewalk/tree/Tree" "names" "[Ljava/lang/String;" (.ref y) ∧ own_Vec Z h x .int [(.int (0 : Int32)), (.int (0 : Int32)), (.int (2 : Int32)), (.int (1 : Int32))] ∧ own_Vec Z h y (.object "java/lang/String") [(.ref s0), (.ref s1), v2, v3]) ∧ Keep h0 h [a1]) := by
  have ww := fun (i : Nat) {d : Jvm.Cond} (q : tables_1[i]? = some d) => hw d (List.mem_of_getElem? q)
  refine own_meet (plainFor_of_name own_pn4) Z0 (Ls0 := #[oA a1, oA a2, oA a3, oA a4, oU, oU, oU, oU, oU]) (by intro m; first | (simp [entryFrame, mkF, argsToLocals, Value.category]; done) | rfl) ?_
  intro p e s m below meth c T0 X0
  have K0 := Keep.refl h0 [a1]
  refine own_aloadN X0 rfl rfl own_d_prog_20_method_1_code_0 (pc' := 1) rfl ?_
  refine own_initO X0 (ww 43 rfl) (ww 16 rfl) (ww 17 rfl) rfl (by decide) (W := 0) (Nat.le_of_eq rfl) (by decide) own_d_prog_20_method_1_code_1 (pc' := 4) rfl fun T671 X671 => ?_
  refine own_aloadN X671 rfl rfl own_d_prog_20_method_1_code_4 (pc' := 5) rfl ?_
  refine own_len X671 V1 (v := (4 : Int32)) (show (4 : Nat).toInt32 = (4 : Int32) by decide) own_d_prog_20_method_1_code_5 (pc' := 6) rfl ?_
  refine own_istore X671 (Ls' := #[oA a1, oA a2, oA a3, oA a4, oI 4, oU, oU, oU, oU]) rfl own_d_prog_20_method_1_code_6 (pc' := 8) rfl ?_
  refine own_iload X671 rfl own_d_prog_20_method_1_code_8 (pc' := 10) rfl ?_
  refine own_ifF X671 (by decide) own_d_prog_20_method_1_code_10 (pc' := 13) rfl ?_
  refine own_aloadN X671 rfl rfl own_d_prog_20_method_1_code_13 (pc' := 14) rfl ?_
  refine own_len X671 V2 (v := (4 : Int32)) (show (4 : Nat).toInt32 = (4 : Int32) by decide) own_d_prog_20_method_1_code_14 (pc' := 15) rfl ?_
  refine own_iload X671 rfl own_d_prog_20_method_1_code_15 (pc' := 17) rfl ?_
  refine own_icmpF X671 (by decide) own_d_prog_20_method_1_code_17 (pc' := 20) rfl ?_
  refine own_aloadN X671 rfl rfl own_d_prog_20_method_1_code_20 (pc' := 21) rfl ?_
  refine own_len X671 V3 (v := (4 : Int32)) (show (4 : Nat).toInt32 = (4 : Int32) by decide) own_d_prog_20_method_1_code_21 (pc' := 22) rfl ?_
  refine own_iload X671 rfl own_d_prog_20_method_1_code_22 (pc' := 24) rfl ?_
  refine own_icmpT X671 (by decide) own_d_prog_20_method_1_code_24 (pc' := 37) (by decide) (by decide) ?_
  refine own_aloadN X671 rfl rfl own_d_prog_20_method_1_code_37 (pc' := 38) rfl ?_
  refine own_aloadN X671 rfl rfl own_d_prog_20_method_1_code_38 (pc' := 39) rfl ?_
  refine own_clone X671 (ad := "[I") (ww 44 rfl) (ww 45 rfl) (ww 49 rfl) (ww 47 rfl) (ww 48 rfl) (ww 50 rfl) V1 B1 (own_fitS rfl (own_fitS rfl (own_fitS rfl (own_fitS rfl own_fit0)))) (n := 4) rfl rfl (by decide) (W := 1) (Nat.le_of_eq rfl) (by decide) (cells' := 1) (slots' := 4) rfl rfl (by decide) (by decide) own_d_prog_20_method_1_code_39 (pc' := 42) rfl fun a672 T672 h672 g672 ge672 X672 E672 V672 A672 => ?_
  have ne673 : a1 ≠ a672 := own_lt_ne A1.lt g672
  have ne674 : a2 ≠ a672 := own_lt_ne V1.lt g672
  have ne675 : a3 ≠ a672 := own_lt_ne V2.lt g672
  have ne676 : a4 ≠ a672 := own_lt_ne V3.lt g672
  have sz677 := own_ge K0 g672
  have A678 := A1.ext E672
  have F679 := F0.ext E672
  have F680 := F1.ext E672
  have F681 := F2.ext E672
  have F682 := F3.ext E672
  have F683 := F4.ext E672
  have V684 := V1.ext E672
  have A685 := B1.ext E672
  have V686 := V2.ext E672
  have A687 := B2.ext E672
  have V688 := V3.ext E672
  have A689 := B3.ext E672
  have K690 := K0.ext E672
  refine own_cast_ X672 (ww 51 rfl) A672 own_d_prog_20_method_1_code_42 (pc' := 45) rfl fun T691 X691 => ?_
  refine own_putF X691 (ww 53 rfl) F679 A678 (Or.inr ⟨(ww 54 rfl), rfl, rfl⟩) (ww 38 rfl) (ty := (.array .int)) (by decide) rfl rfl ge1 own_d_prog_20_method_1_code_45 (pc' := 48) rfl fun T692 h692 X692 W692 => ?_
  have A693 := A678.wr W692
  have A694 := A685.wr W692
  have V695 := V684.other W692 N2.symm
  have A696 := A687.wr W692
  have V697 := V686.other W692 N3.symm
  have A698 := A689.wr W692
  have V699 := V688.other W692 N4.symm
  have A700 := A672.wr W692
  have V701 := V672.other W692 ne673.symm
  have K702 := K690.wr W692 (Or.inl (by simp))
  have F703 := F679.same W692
  have F704 := F680.other W692 (Or.inr (slot_ne (C := "com/example/cladewalk/cladewalk/tree/Tree") (Or.inr (ww 62 rfl)) (Or.inr (ww 54 rfl)) (by decide) (t := (.array .double)) (t' := (.array .int)) (by decide) (by decide)))
  have F705 := F681.other W692 (Or.inr (slot_ne (C := "com/example/cladewalk/cladewalk/tree/Tree") (Or.inr (ww 70 rfl)) (Or.inr (ww 54 rfl)) (by decide) (t := (.array (.object "java/lang/String"))) (t' := (.array .int)) (by decide) (by decide)))
  have F706 := F682.other W692 (Or.inr (slot_ne (C := "com/example/cladewalk/cladewalk/tree/Tree") (Or.inr (ww 72 rfl)) (Or.inr (ww 54 rfl)) (by decide) (t := (.array .int)) (t' := (.array .int)) (by decide) (by decide)))
  have F707 := F683.other W692 (Or.inr (slot_ne (C := "com/example/cladewalk/cladewalk/tree/Tree") (Or.inr (ww 75 rfl)) (Or.inr (ww 54 rfl)) (by decide) (t := .int) (t' := (.array .int)) (by decide) (by decide)))
  refine own_aloadN X692 rfl rfl own_d_prog_20_method_1_code_48 (pc' := 49) rfl ?_
  refine own_aloadN X692 rfl rfl own_d_prog_20_method_1_code_49 (pc' := 50) rfl ?_
  refine own_clone X692 (ad := "[D") (ww 55 rfl) (ww 56 rfl) (ww 49 rfl) (ww 47 rfl) (ww 57 rfl) (ww 58 rfl) V697 A696 (own_fitS rfl (own_fitS rfl (own_fitS rfl (own_fitS rfl own_fit0)))) (n := 4) rfl rfl (by decide) (W := 1) (Nat.le_of_eq rfl) (by decide) (cells' := 2) (slots' := 8) rfl rfl (by decide) (by decide) own_d_prog_20_method_1_code_50 (pc' := 53) rfl fun a708 T708 h708 g708 ge708 X708 E708 V708 A708 => ?_
  have ne709 : a1 ≠ a708 := own_lt_ne A693.lt g708
  have ne710 : a2 ≠ a708 := own_lt_ne V695.lt g708
  have ne711 : a3 ≠ a708 := own_lt_ne V697.lt g708
  have ne712 : a4 ≠ a708 := own_lt_ne V699.lt g708
  have ne713 : a672 ≠ a708 := own_lt_ne V701.lt g708
  have sz714 := own_ge K702 g708
  have A715 := A693.ext E708
  have F716 := F703.ext E708
  have F717 := F704.ext E708
  have F718 := F705.ext E708
  have F719 := F706.ext E708
  have F720 := F707.ext E708
  have V721 := V695.ext E708
  have A722 := A694.ext E708
  have V723 := V697.ext E708
  have A724 := A696.ext E708
  have V725 := V699.ext E708
  have A726 := A698.ext E708
  have V727 := V701.ext E708
  have A728 := A700.ext E708
  have K729 := K702.ext E708
  refine own_cast_ X708 (ww 59 rfl) A708 own_d_prog_20_method_1_code_53 (pc' := 56) rfl fun T730 X730 => ?_
  refine own_putF X730 (ww 61 rfl) F717 A715 (Or.inr ⟨(ww 62 rfl), rfl, rfl⟩) (ww 38 rfl) (ty := (.array .double)) (by decide) rfl rfl ge1 own_d_prog_20_method_1_code_56 (pc' := 59) rfl fun T731 h731 X731 W731 => ?_
  have A732 := A715.wr W731
  have A733 := A722.wr W731
  have V734 := V721.other W731 N2.symm
  have A735 := A724.wr W731
  have V736 := V723.other W731 N3.symm
  have A737 := A726.wr W731
  have V738 := V725.other W731 N4.symm
  have A739 := A728.wr W731
  have V740 := V727.other W731 ne673.symm
  have A741 := A708.wr W731
  have V742 := V708.other W731 ne709.symm
  have K743 := K729.wr W731 (Or.inl (by simp))
  have F744 := F717.same W731
  have F745 := F716.other W731 (Or.inr (slot_ne (C := "com/example/cladewalk/cladewalk/tree/Tree") (Or.inr (ww 54 rfl)) (Or.inr (ww 62 rfl)) (by decide) (t := (.array .int)) (t' := (.array .double)) (by decide) (by decide)))
  have F746 := F718.other W731 (Or.inr (slot_ne (C := "com/example/cladewalk/cladewalk/tree/Tree") (Or.inr (ww 70 rfl)) (Or.inr (ww 62 rfl)) (by decide) (t := (.array (.object "java/lang/String"))) (t' := (.array .double)) (by decide) (by decide)))
  have F747 := F719.other W731 (Or.inr (slot_ne (C := "com/example/cladewalk/cladewalk/tree/Tree") (Or.inr (ww 72 rfl)) (Or.inr (ww 62 rfl)) (by decide) (t := (.array .int)) (t' := (.array .double)) (by decide) (by decide)))
  have F748 := F720.other W731 (Or.inr (slot_ne (C := "com/example/cladewalk/cladewalk/tree/Tree") (Or.inr (ww 75 rfl)) (Or.inr (ww 62 rfl)) (by decide) (t := .int) (t' := (.array .double)) (by decide) (by decide)))
  refine own_aloadN X731 rfl rfl own_d_prog_20_method_1_code_59 (pc' := 60) rfl ?_
  refine own_aloadN X731 rfl rfl own_d_prog_20_method_1_code_60 (pc' := 61) rfl ?_
  refine own_clone X731 (ad := "[Ljava/lang/String;") (ww 63 rfl) (ww 64 rfl) (ww 49 rfl) (ww 47 rfl) (ww 65 rfl) (ww 66 rfl) V738 A737 (own_fitS rfl (own_fitS rfl (own_fitS fq_v2 (own_fitS fq_v3 own_fit0)))) (n := 4) rfl rfl (by decide) (W := 1) (Nat.le_of_eq rfl) (by decide) (cells' := 3) (slots' := 12) rfl rfl (by decide) (by decide) own_d_prog_20_method_1_code_61 (pc' := 64) rfl fun a749 T749 h749 g749 ge749 X749 E749 V749 A749 => ?_
  have ne750 : a1 ≠ a749 := own_lt_ne A732.lt g749
  have ne751 : a2 ≠ a749 := own_lt_ne V734.lt g749
  have ne752 : a3 ≠ a749 := own_lt_ne V736.lt g749
  have ne753 : a4 ≠ a749 := own_lt_ne V738.lt g749
  have ne754 : a672 ≠ a749 := own_lt_ne V740.lt g749
  have ne755 : a708 ≠ a749 := own_lt_ne V742.lt g749
  have sz756 := own_ge K743 g749
  have A757 := A732.ext E749
  have F758 := F744.ext E749
  have F759 := F745.ext E749
  have F760 := F746.ext E749
  have F761 := F747.ext E749
  have F762 := F748.ext E749
  have V763 := V734.ext E749
  have A764 := A733.ext E749
  have V765 := V736.ext E749
  have A766 := A735.ext E749
  have V767 := V738.ext E749
  have A768 := A737.ext E749
  have V769 := V740.ext E749
  have A770 := A739.ext E749
  have V771 := V742.ext E749
  have A772 := A741.ext E749
  have K773 := K743.ext E749
  refine own_cast_ X749 (ww 67 rfl) A749 own_d_prog_20_method_1_code_64 (pc' := 67) rfl fun T774 X774 => ?_
  refine own_putF X774 (ww 69 rfl) F760 A757 (Or.inr ⟨(ww 70 rfl), rfl, rfl⟩) (ww 38 rfl) (ty := (.array (.object "java/lang/String"))) (by decide) rfl rfl ge1 own_d_prog_20_method_1_code_67 (pc' := 70) rfl fun T775 h775 X775 W775 => ?_
  have A776 := A757.wr W775
  have A777 := A764.wr W775
  have V778 := V763.other W775 N2.symm
  have A779 := A766.wr W775
  have V780 := V765.other W775 N3.symm
  have A781 := A768.wr W775
  have V782 := V767.other W775 N4.symm
  have A783 := A770.wr W775
  have V784 := V769.other W775 ne673.symm
  have A785 := A772.wr W775
  have V786 := V771.other W775 ne709.symm
  have A787 := A749.wr W775
  have V788 := V749.other W775 ne750.symm
  have K789 := K773.wr W775 (Or.inl (by simp))
  have F790 := F760.same W775
  have F791 := F758.other W775 (Or.inr (slot_ne (C := "com/example/cladewalk/cladewalk/tree/Tree") (Or.inr (ww 62 rfl)) (Or.inr (ww 70 rfl)) (by decide) (t := (.array .double)) (t' := (.array (.object "java/lang/String"))) (by decide) (by decide)))
  have F792 := F759.other W775 (Or.inr (slot_ne (C := "com/example/cladewalk/cladewalk/tree/Tree") (Or.inr (ww 54 rfl)) (Or.inr (ww 70 rfl)) (by decide) (t := (.array .int)) (t' := (.array (.object "java/lang/String"))) (by decide) (by decide)))
  have F793 := F761.other W775 (Or.inr (slot_ne (C := "com/example/cladewalk/cladewalk/tree/Tree") (Or.inr (ww 72 rfl)) (Or.inr (ww 70 rfl)) (by decide) (t := (.array .int)) (t' := (.array (.object "java/lang/String"))) (by decide) (by decide)))
  have F794 := F762.other W775 (Or.inr (slot_ne (C := "com/example/cladewalk/cladewalk/tree/Tree") (Or.inr (ww 75 rfl)) (Or.inr (ww 70 rfl)) (by decide) (t := .int) (t' := (.array (.object "java/lang/String"))) (by decide) (by decide)))
  refine own_aloadN X775 rfl rfl own_d_prog_20_method_1_code_70 (pc' := 71) rfl ?_
  refine own_iload X775 rfl own_d_prog_20_method_1_code_71 (pc' := 73) rfl ?_
  refine own_newarrayE X775 (ty := .int) rfl (ad := "[I") (by decide) (ww 34 rfl) (n := 4) (vs := [(.int (0 : Int32)), (.int (0 : Int32)), (.int (0 : Int32)), (.int (0 : Int32))]) (by decide) (by decide) (by decide) rfl (cells' := 4) (slots' := 16) rfl rfl (by decide) (by decide) own_d_prog_20_method_1_code_73 (pc' := 75) rfl fun a795 T795 h795 g795 ge795 X795 E795 V795 A795 => ?_
  have ne796 : a1 ≠ a795 := own_lt_ne A776.lt g795
  have ne797 : a2 ≠ a795 := own_lt_ne V778.lt g795
  have ne798 : a3 ≠ a795 := own_lt_ne V780.lt g795
  have ne799 : a4 ≠ a795 := own_lt_ne V782.lt g795
  have ne800 : a672 ≠ a795 := own_lt_ne V784.lt g795
  have ne801 : a708 ≠ a795 := own_lt_ne V786.lt g795
  have ne802 : a749 ≠ a795 := own_lt_ne V788.lt g795
  have sz803 := own_ge K789 g795
  have A804 := A776.ext E795
  have F805 := F790.ext E795
  have F806 := F791.ext E795
  have F807 := F792.ext E795
  have F808 := F793.ext E795
  have F809 := F794.ext E795
  have V810 := V778.ext E795
  have A811 := A777.ext E795
  have V812 := V780.ext E795
  have A813 := A779.ext E795
  have V814 := V782.ext E795
  have A815 := A781.ext E795
  have V816 := V784.ext E795
  have A817 := A783.ext E795
  have V818 := V786.ext E795
  have A819 := A785.ext E795
  have V820 := V788.ext E795
  have A821 := A787.ext E795
  have K822 := K789.ext E795
  refine own_putF X795 (ww 71 rfl) F808 A804 (Or.inr ⟨(ww 72 rfl), rfl, rfl⟩) (ww 38 rfl) (ty := (.array .int)) (by decide) rfl rfl ge1 own_d_prog_20_method_1_code_75 (pc' := 78) rfl fun T823 h823 X823 W823 => ?_
  have A824 := A804.wr W823
  have A825 := A811.wr W823
  have V826 := V810.other W823 N2.symm
  have A827 := A813.wr W823
  have V828 := V812.other W823 N3.symm
  have A829 := A815.wr W823
  have V830 := V814.other W823 N4.symm
  have A831 := A817.wr W823
  have V832 := V816.other W823 ne673.symm
  have A833 := A819.wr W823
  have V834 := V818.other W823 ne709.symm
  have A835 := A821.wr W823
  have V836 := V820.other W823 ne750.symm
  have A837 := A795.wr W823
  have V838 := V795.other W823 ne796.symm
  have K839 := K822.wr W823 (Or.inl (by simp))
  have F840 := F808.same W823
  have F841 := F805.other W823 (Or.inr (slot_ne (C := "com/example/cladewalk/cladewalk/tree/Tree") (Or.inr (ww 70 rfl)) (Or.inr (ww 72 rfl)) (by decide) (t := (.array (.object "java/lang/String"))) (t' := (.array .int)) (by decide) (by decide)))
  have F842 := F806.other W823 (Or.inr (slot_ne (C := "com/example/cladewalk/cladewalk/tree/Tree") (Or.inr (ww 62 rfl)) (Or.inr (ww 72 rfl)) (by decide) (t := (.array .double)) (t' := (.array .int)) (by decide) (by decide)))
  have F843 := F807.other W823 (Or.inr (slot_ne (C := "com/example/cladewalk/cladewalk/tree/Tree") (Or.inr (ww 54 rfl)) (Or.inr (ww 72 rfl)) (by decide) (t := (.array .int)) (t' := (.array .int)) (by decide) (by decide)))
  have F844 := F809.other W823 (Or.inr (slot_ne (C := "com/example/cladewalk/cladewalk/tree/Tree") (Or.inr (ww 75 rfl)) (Or.inr (ww 72 rfl)) (by decide) (t := .int) (t' := (.array .int)) (by decide) (by decide)))
  refine own_iconst X823 (v := (0 : Int32)) (by decide) own_d_prog_20_method_1_code_78 (pc' := 79) rfl ?_
  refine own_istore X823 (Ls' := #[oA a1, oA a2, oA a3, oA a4, oI 4, oI 0, oU, oU, oU]) rfl own_d_prog_20_method_1_code_79 (pc' := 81) rfl ?_
  refine own_iconst X823 (v := (0 : Int32)) (by decide) own_d_prog_20_method_1_code_81 (pc' := 82) rfl ?_
  refine own_istore X823 (Ls' := #[oA a1, oA a2, oA a3, oA a4, oI 4, oI 0, oI 0, oU, oU]) rfl own_d_prog_20_method_1_code_82 (pc' := 84) rfl ?_
  refine own_iload X823 rfl own_d_prog_20_method_1_code_84 (pc' := 86) rfl ?_
  refine own_iload X823 rfl own_d_prog_20_method_1_code_86 (pc' := 88) rfl ?_
  refine own_icmpF X823 (by decide) own_d_prog_20_method_1_code_88 (pc' := 91) rfl ?_
  refine own_aloadN X823 rfl rfl own_d_prog_20_method_1_code_91 (pc' := 92) rfl ?_
  refine own_iload X823 rfl own_d_prog_20_method_1_code_92 (pc' := 94) rfl ?_
  refine own_iaload X823 V826 (i := 0) (by decide) (by decide) rfl own_d_prog_20_method_1_code_94 (pc' := 95) rfl ?_
  refine own_istore X823 (Ls' := #[oA a1, oA a2, oA a3, oA a4, oI 4, oI 0, oI 0, oI 2, oU]) rfl own_d_prog_20_method_1_code_95 (pc' := 97) rfl ?_
  refine own_iload X823 rfl own_d_prog_20_method_1_code_97 (pc' := 99) rfl ?_
  refine own_iload X823 rfl own_d_prog_20_method_1_code_99 (pc' := 101) rfl ?_
  refine own_iconst X823 (v := (1 : Int32)) (by decide) own_d_prog_20_method_1_code_101 (pc' := 102) rfl ?_
  refine own_isub X823 (v := (3 : Int32)) (by decide) own_d_prog_20_method_1_code_102 (pc' := 103) rfl ?_
  refine own_icmpT X823 (by decide) own_d_prog_20_method_1_code_103 (pc' := 120) (by decide) (by decide) ?_
  refine own_iload X823 rfl own_d_prog_20_method_1_code_120 (pc' := 122) rfl ?_
  refine own_iload X823 rfl own_d_prog_20_method_1_code_122 (pc' := 124) rfl ?_
  refine own_icmpF X823 (by decide) own_d_prog_20_method_1_code_124 (pc' := 127) rfl ?_
  refine own_iload X823 rfl own_d_prog_20_method_1_code_127 (pc' := 129) rfl ?_
  refine own_iload X823 rfl own_d_prog_20_method_1_code_129 (pc' := 131) rfl ?_
  refine own_icmpF X823 (by decide) own_d_prog_20_method_1_code_131 (pc' := 134) rfl ?_
  refine own_iconst X823 (v := (1 : Int32)) (by decide) own_d_prog_20_method_1_code_134 (pc' := 135) rfl ?_
  refine own_goto X823 own_d_prog_20_method_1_code_135 (pc' := 139) (by decide) (by decide) ?_
  refine own_istore X823 (Ls' := #[oA a1, oA a2, oA a3, oA a4, oI 4, oI 0, oI 0, oI 2, oI 1]) rfl own_d_prog_20_method_1_code_139 (pc' := 141) rfl ?_
  refine own_iload X823 rfl own_d_prog_20_method_1_code_141 (pc' := 143) rfl ?_
  refine own_ifT X823 (by decide) own_d_prog_20_method_1_code_143 (pc' := 163) (by decide) (by decide) ?_
  refine own_iload X823 rfl own_d_prog_20_method_1_code_163 (pc' := 165) rfl ?_
  refine own_ifF X823 (by decide) own_d_prog_20_method_1_code_165 (pc' := 168) rfl ?_
  refine own_aloadN X823 rfl rfl own_d_prog_20_method_1_code_168 (pc' := 169) rfl ?_
  refine own_getF X823 (ww 71 rfl) F840 own_d_prog_20_method_1_code_169 (pc' := 172) rfl fun T845 X845 => ?_
  refine own_iload X845 rfl own_d_prog_20_method_1_code_172 (pc' := 174) rfl ?_
  refine own_dup2 X845 rfl rfl own_d_prog_20_method_1_code_174 (pc' := 175) rfl ?_
  refine own_iaload X845 V838 (i := 2) (by decide) (by decide) rfl own_d_prog_20_method_1_code_175 (pc' := 176) rfl ?_
  refine own_iconst X845 (v := (1 : Int32)) (by decide) own_d_prog_20_method_1_code_176 (pc' := 177) rfl ?_
  refine own_iadd X845 (v := (1 : Int32)) (by decide) own_d_prog_20_method_1_code_177 (pc' := 178) rfl ?_
  refine own_iastore X845 V838 ge795 (i := 2) (by decide) (by decide) (show 2 < 4 by decide) own_d_prog_20_method_1_code_178 (pc' := 179) rfl fun T846 h846 X846 W846 V846 => ?_
  have A847 := A824.wr W846
  have F848 := F840.other W846 (Or.inl ne796)
  have F849 := F841.other W846 (Or.inl ne796)
  have F850 := F842.other W846 (Or.inl ne796)
  have F851 := F843.other W846 (Or.inl ne796)
  have F852 := F844.other W846 (Or.inl ne796)
  have A853 := A825.wr W846
  have V854 := V826.other W846 ne797
  have A855 := A827.wr W846
  have V856 := V828.other W846 ne798
  have A857 := A829.wr W846
  have V858 := V830.other W846 ne799
  have A859 := A831.wr W846
  have V860 := V832.other W846 ne800
  have A861 := A833.wr W846
  have V862 := V834.other W846 ne801
  have A863 := A835.wr W846
  have V864 := V836.other W846 ne802
  have A865 := A837.wr W846
  have K866 := K839.wr W846 (Or.inr sz803)
  replace V846 : own_Vec Z h846 a795 .int [(.int (0 : Int32)), (.int (0 : Int32)), (.int (1 : Int32)), (.int (0 : Int32))] := V846
  refine own_aloadN X846 rfl rfl own_d_prog_20_method_1_code_179 (pc' := 180) rfl ?_
  refine own_iload X846 rfl own_d_prog_20_method_1_code_180 (pc' := 182) rfl ?_
  refine own_daload X846 V856 (i := 0) (by decide) (by decide) rfl own_d_prog_20_method_1_code_182 (pc' := 183) rfl ?_
  refine own_dconst0 X846 (v := (0 : UInt64)) rfl own_d_prog_20_method_1_code_183 (pc' := 184) rfl ?_
  have f867 : own_D 0 0 (0 : Int) (0 : UInt64) := own_D.lit (s := false) (c := 0) (q := -1074) (by decide +kernel) (by decide +kernel) (by decide)
  refine own_dcmp X846 (D_z0.cmp f867) own_d_prog_20_method_1_code_184 (pc' := 185) rfl ?_
  have c868 : ¬ (i_z0 < (0 : Int)) := by omega
  refine own_ifF X846 (own_c3_nlt c868).1 own_d_prog_20_method_1_code_185 (pc' := 188) rfl ?_
  refine own_aloadN X846 rfl rfl own_d_prog_20_method_1_code_188 (pc' := 189) rfl ?_
  refine own_iload X846 rfl own_d_prog_20_method_1_code_189 (pc' := 191) rfl ?_
  refine own_daload X846 V856 (i := 0) (by decide) (by decide) rfl own_d_prog_20_method_1_code_191 (pc' := 192) rfl ?_
  refine own_ldcD X846 (v := (9218868437227405312 : UInt64)) (ww 73 rfl) own_d_prog_20_method_1_code_192 (pc' := 195) rfl ?_
  refine own_dcmp X846 (v := (-1 : Int32)) (dcmp_pinf D_z0.isFin _) own_d_prog_20_method_1_code_195 (pc' := 196) rfl ?_
  refine own_ifT X846 (by decide) own_d_prog_20_method_1_code_196 (pc' := 218) (by decide) (by decide) ?_
  refine own_iinc X846 (Ls' := #[oA a1, oA a2, oA a3, oA a4, oI 4, oI 0, oI 1, oI 2, oI 1]) rfl (by decide) rfl own_d_prog_20_method_1_code_218 (pc' := 221) rfl ?_
  refine own_goto X846 own_d_prog_20_method_1_code_221 (pc' := 84) (by decide) (by decide) ?_
  refine own_iload X846 rfl own_d_prog_20_method_1_code_84 (pc' := 86) rfl ?_
  refine own_iload X846 rfl own_d_prog_20_method_1_code_86 (pc' := 88) rfl ?_
  refine own_icmpF X846 (by decide) own_d_prog_20_method_1_code_88 (pc' := 91) rfl ?_
  refine own_aloadN X846 rfl rfl own_d_prog_20_method_1_code_91 (pc' := 92) rfl ?_
  refine own_iload X846 rfl own_d_prog_20_method_1_code_92 (pc' := 94) rfl ?_
  refine own_iaload X846 V854 (i := 1) (by decide) (by decide) rfl own_d_prog_20_method_1_code_94 (pc' := 95) rfl ?_
  refine own_istore X846 (Ls' := #[oA a1, oA a2, oA a3, oA a4, oI 4, oI 0, oI 1, oI 2, oI 1]) rfl own_d_prog_20_method_1_code_95 (pc' := 97) rfl ?_
  refine own_iload X846 rfl own_d_prog_20_method_1_code_97 (pc' := 99) rfl ?_
  refine own_iload X846 rfl own_d_prog_20_method_1_code_99 (pc' := 101) rfl ?_
  refine own_iconst X846 (v := (1 : Int32)) (by decide) own_d_prog_20_method_1_code_101 (pc' := 102) rfl ?_
  refine own_isub X846 (v := (3 : Int32)) (by decide) own_d_prog_20_method_1_code_102 (pc' := 103) rfl ?_
  refine own_icmpT X846 (by decide) own_d_prog_20_method_1_code_103 (pc' := 120) (by decide) (by decide) ?_
  refine own_iload X846 rfl own_d_prog_20_method_1_code_120 (pc' := 122) rfl ?_
  refine own_iload X846 rfl own_d_prog_20_method_1_code_122 (pc' := 124) rfl ?_
  refine own_icmpF X846 (by decide) own_d_prog_20_method_1_code_124 (pc' := 127) rfl ?_
  refine own_iload X846 rfl own_d_prog_20_method_1_code_127 (pc' := 129) rfl ?_
  refine own_iload X846 rfl own_d_prog_20_method_1_code_129 (pc' := 131) rfl ?_
  refine own_icmpF X846 (by decide) own_d_prog_20_method_1_code_131 (pc' := 134) rfl ?_
  refine own_iconst X846 (v := (1 : Int32)) (by decide) own_d_prog_20_method_1_code_134 (pc' := 135) rfl ?_
  refine own_goto X846 own_d_prog_20_method_1_code_135 (pc' := 139) (by decide) (by decide) ?_
  refine own_istore X846 (Ls' := #[oA a1, oA a2, oA a3, oA a4, oI 4, oI 0, oI 1, oI 2, oI 1]) rfl own_d_prog_20_method_1_code_139 (pc' := 141) rfl ?_
  refine own_iload X846 rfl own_d_prog_20_method_1_code_141 (pc' := 143) rfl ?_
  refine own_ifT X846 (by decide) own_d_prog_20_method_1_code_143 (pc' := 163) (by decide) (by decide) ?_
  refine own_iload X846 rfl own_d_prog_20_method_1_code_163 (pc' := 165) rfl ?_
  refine own_ifF X846 (by decide) own_d_prog_20_method_1_code_165 (pc' := 168) rfl ?_
  refine own_aloadN X846 rfl rfl own_d_prog_20_method_1_code_168 (pc' := 169) rfl ?_
  refine own_getF X846 (ww 71 rfl) F848 own_d_prog_20_method_1_code_169 (pc' := 172) rfl fun T869 X869 => ?_
  refine own_iload X869 rfl own_d_prog_20_method_1_code_172 (pc' := 174) rfl ?_
  refine own_dup2 X869 rfl rfl own_d_prog_20_method_1_code_174 (pc' := 175) rfl ?_
  refine own_iaload X869 V846 (i := 2) (by decide) (by decide) rfl own_d_prog_20_method_1_code_175 (pc' := 176) rfl ?_
  refine own_iconst X869 (v := (1 : Int32)) (by decide) own_d_prog_20_method_1_code_176 (pc' := 177) rfl ?_
  refine own_iadd X869 (v := (2 : Int32)) (by decide) own_d_prog_20_method_1_code_177 (pc' := 178) rfl ?_
  refine own_iastore X869 V846 ge795 (i := 2) (by decide) (by decide) (show 2 < 4 by decide) own_d_prog_20_method_1_code_178 (pc' := 179) rfl fun T870 h870 X870 W870 V870 => ?_
  have A871 := A847.wr W870
  have F872 := F848.other W870 (Or.inl ne796)
  have F873 := F849.other W870 (Or.inl ne796)
  have F874 := F850.other W870 (Or.inl ne796)
  have F875 := F851.other W870 (Or.inl ne796)
  have F876 := F852.other W870 (Or.inl ne796)
  have A877 := A853.wr W870
  have V878 := V854.other W870 ne797
  have A879 := A855.wr W870
  have V880 := V856.other W870 ne798
  have A881 := A857.wr W870
  have V882 := V858.other W870 ne799
  have A883 := A859.wr W870
  have V884 := V860.other W870 ne800
  have A885 := A861.wr W870
  have V886 := V862.other W870 ne801
  have A887 := A863.wr W870
  have V888 := V864.other W870 ne802
  have A889 := A865.wr W870
  have K890 := K866.wr W870 (Or.inr sz803)
  replace V870 : own_Vec Z h870 a795 .int [(.int (0 : Int32)), (.int (0 : Int32)), (.int (2 : Int32)), (.int (0 : Int32))] := V870
  refine own_aloadN X870 rfl rfl own_d_prog_20_method_1_code_179 (pc' := 180) rfl ?_
  refine own_iload X870 rfl own_d_prog_20_method_1_code_180 (pc' := 182) rfl ?_
  refine own_daload X870 V880 (i := 1) (by decide) (by decide) rfl own_d_prog_20_method_1_code_182 (pc' := 183) rfl ?_
  refine own_dconst0 X870 (v := (0 : UInt64)) rfl own_d_prog_20_method_1_code_183 (pc' := 184) rfl ?_
  have f891 : own_D 0 0 (0 : Int) (0 : UInt64) := own_D.lit (s := false) (c := 0) (q := -1074) (by decide +kernel) (by decide +kernel) (by decide)
  refine own_dcmp X870 (D_z1.cmp f891) own_d_prog_20_method_1_code_184 (pc' := 185) rfl ?_
  have c892 : ¬ (i_z1 < (0 : Int)) := by omega
  refine own_ifF X870 (own_c3_nlt c892).1 own_d_prog_20_method_1_code_185 (pc' := 188) rfl ?_
  refine own_aloadN X870 rfl rfl own_d_prog_20_method_1_code_188 (pc' := 189) rfl ?_
  refine own_iload X870 rfl own_d_prog_20_method_1_code_189 (pc' := 191) rfl ?_
  refine own_daload X870 V880 (i := 1) (by decide) (by decide) rfl own_d_prog_20_method_1_code_191 (pc' := 192) rfl ?_
  refine own_ldcD X870 (v := (9218868437227405312 : UInt64)) (ww 73 rfl) own_d_prog_20_method_1_code_192 (pc' := 195) rfl ?_
  refine own_dcmp X870 (v := (-1 : Int32)) (dcmp_pinf D_z1.isFin _) own_d_prog_20_method_1_code_195 (pc' := 196) rfl ?_
  refine own_ifT X870 (by decide) own_d_prog_20_method_1_code_196 (pc' := 218) (by decide) (by decide) ?_
  refine own_iinc X870 (Ls' := #[oA a1, oA a2, oA a3, oA a4, oI 4, oI 0, oI 2, oI 2, oI 1]) rfl (by decide) rfl own_d_prog_20_method_1_code_218 (pc' := 221) rfl ?_
  refine own_goto X870 own_d_prog_20_method_1_code_221 (pc' := 84) (by decide) (by decide) ?_
  refine own_iload X870 rfl own_d_prog_20_method_1_code_84 (pc' := 86) rfl ?_
  refine own_iload X870 rfl own_d_prog_20_method_1_code_86 (pc' := 88) rfl ?_
  refine own_icmpF X870 (by decide) own_d_prog_20_method_1_code_88 (pc' := 91) rfl ?_
  refine own_aloadN X870 rfl rfl own_d_prog_20_method_1_code_91 (pc' := 92) rfl ?_
  refine own_iload X870 rfl own_d_prog_20_method_1_code_92 (pc' := 94) rfl ?_
  refine own_iaload X870 V878 (i := 2) (by decide) (by decide) rfl own_d_prog_20_method_1_code_94 (pc' := 95) rfl ?_
  refine own_istore X870 (Ls' := #[oA a1, oA a2, oA a3, oA a4, oI 4, oI 0, oI 2, oI 3, oI 1]) rfl own_d_prog_20_method_1_code_95 (pc' := 97) rfl ?_
  refine own_iload X870 rfl own_d_prog_20_method_1_code_97 (pc' := 99) rfl ?_
  refine own_iload X870 rfl own_d_prog_20_method_1_code_99 (pc' := 101) rfl ?_
  refine own_iconst X870 (v := (1 : Int32)) (by decide) own_d_prog_20_method_1_code_101 (pc' := 102) rfl ?_
  refine own_isub X870 (v := (3 : Int32)) (by decide) own_d_prog_20_method_1_code_102 (pc' := 103) rfl ?_
  refine own_icmpT X870 (by decide) own_d_prog_20_method_1_code_103 (pc' := 120) (by decide) (by decide) ?_
  refine own_iload X870 rfl own_d_prog_20_method_1_code_120 (pc' := 122) rfl ?_
  refine own_iload X870 rfl own_d_prog_20_method_1_code_122 (pc' := 124) rfl ?_
  refine own_icmpF X870 (by decide) own_d_prog_20_method_1_code_124 (pc' := 127) rfl ?_
  refine own_iload X870 rfl own_d_prog_20_method_1_code_127 (pc' := 129) rfl ?_
  refine own_iload X870 rfl own_d_prog_20_method_1_code_129 (pc' := 131) rfl ?_
  refine own_icmpF X870 (by decide) own_d_prog_20_method_1_code_131 (pc' := 134) rfl ?_
  refine own_iconst X870 (v := (1 : Int32)) (by decide) own_d_prog_20_method_1_code_134 (pc' := 135) rfl ?_
  refine own_goto X870 own_d_prog_20_method_1_code_135 (pc' := 139) (by decide) (by decide) ?_
  refine own_istore X870 (Ls' := #[oA a1, oA a2, oA a3, oA a4, oI 4, oI 0, oI 2, oI 3, oI 1]) rfl own_d_prog_20_method_1_code_139 (pc' := 141) rfl ?_
  refine own_iload X870 rfl own_d_prog_20_method_1_code_141 (pc' := 143) rfl ?_
  refine own_ifT X870 (by decide) own_d_prog_20_method_1_code_143 (pc' := 163) (by decide) (by decide) ?_
  refine own_iload X870 rfl own_d_prog_20_method_1_code_163 (pc' := 165) rfl ?_
  refine own_ifF X870 (by decide) own_d_prog_20_method_1_code_165 (pc' := 168) rfl ?_
  refine own_aloadN X870 rfl rfl own_d_prog_20_method_1_code_168 (pc' := 169) rfl ?_
  refine own_getF X870 (ww 71 rfl) F872 own_d_prog_20_method_1_code_169 (pc' := 172) rfl fun T893 X893 => ?_
  refine own_iload X893 rfl own_d_prog_20_method_1_code_172 (pc' := 174) rfl ?_
  refine own_dup2 X893 rfl rfl own_d_prog_20_method_1_code_174 (pc' := 175) rfl ?_
  refine own_iaload X893 V870 (i := 3) (by decide) (by decide) rfl own_d_prog_20_method_1_code_175 (pc' := 176) rfl ?_
  refine own_iconst X893 (v := (1 : Int32)) (by decide) own_d_prog_20_method_1_code_176 (pc' := 177) rfl ?_
  refine own_iadd X893 (v := (1 : Int32)) (by decide) own_d_prog_20_method_1_code_177 (pc' := 178) rfl ?_
  refine own_iastore X893 V870 ge795 (i := 3) (by decide) (by decide) (show 3 < 4 by decide) own_d_prog_20_method_1_code_178 (pc' := 179) rfl fun T894 h894 X894 W894 V894 => ?_
  have A895 := A871.wr W894
  have F896 := F872.other W894 (Or.inl ne796)
  have F897 := F873.other W894 (Or.inl ne796)
  have F898 := F874.other W894 (Or.inl ne796)
  have F899 := F875.other W894 (Or.inl ne796)
  have F900 := F876.other W894 (Or.inl ne796)
  have A901 := A877.wr W894
  have V902 := V878.other W894 ne797
  have A903 := A879.wr W894
  have V904 := V880.other W894 ne798
  have A905 := A881.wr W894
  have V906 := V882.other W894 ne799
  have A907 := A883.wr W894
  have V908 := V884.other W894 ne800
  have A909 := A885.wr W894
  have V910 := V886.other W894 ne801
  have A911 := A887.wr W894
  have V912 := V888.other W894 ne802
  have A913 := A889.wr W894
  have K914 := K890.wr W894 (Or.inr sz803)
  replace V894 : own_Vec Z h894 a795 .int [(.int (0 : Int32)), (.int (0 : Int32)), (.int (2 : Int32)), (.int (1 : Int32))] := V894
  refine own_aloadN X894 rfl rfl own_d_prog_20_method_1_code_179 (pc' := 180) rfl ?_
  refine own_iload X894 rfl own_d_prog_20_method_1_code_180 (pc' := 182) rfl ?_
  refine own_daload X894 V904 (i := 2) (by decide) (by decide) rfl own_d_prog_20_method_1_code_182 (pc' := 183) rfl ?_
  refine own_dconst0 X894 (v := (0 : UInt64)) rfl own_d_prog_20_method_1_code_183 (pc' := 184) rfl ?_
  have f915 : own_D 0 0 (0 : Int) (0 : UInt64) := own_D.lit (s := false) (c := 0) (q := -1074) (by decide +kernel) (by decide +kernel) (by decide)
  refine own_dcmp X894 (D_z2.cmp f915) own_d_prog_20_method_1_code_184 (pc' := 185) rfl ?_
  have c916 : ¬ (i_z2 < (0 : Int)) := by omega
  refine own_ifF X894 (own_c3_nlt c916).1 own_d_prog_20_method_1_code_185 (pc' := 188) rfl ?_
  refine own_aloadN X894 rfl rfl own_d_prog_20_method_1_code_188 (pc' := 189) rfl ?_
  refine own_iload X894 rfl own_d_prog_20_method_1_code_189 (pc' := 191) rfl ?_
  refine own_daload X894 V904 (i := 2) (by decide) (by decide) rfl own_d_prog_20_method_1_code_191 (pc' := 192) rfl ?_
  refine own_ldcD X894 (v := (9218868437227405312 : UInt64)) (ww 73 rfl) own_d_prog_20_method_1_code_192 (pc' := 195) rfl ?_
  refine own_dcmp X894 (v := (-1 : Int32)) (dcmp_pinf D_z2.isFin _) own_d_prog_20_method_1_code_195 (pc' := 196) rfl ?_
  refine own_ifT X894 (by decide) own_d_prog_20_method_1_code_196 (pc' := 218) (by decide) (by decide) ?_
  refine own_iinc X894 (Ls' := #[oA a1, oA a2, oA a3, oA a4, oI 4, oI 0, oI 3, oI 3, oI 1]) rfl (by decide) rfl own_d_prog_20_method_1_code_218 (pc' := 221) rfl ?_
  refine own_goto X894 own_d_prog_20_method_1_code_221 (pc' := 84) (by decide) (by decide) ?_
  refine own_iload X894 rfl own_d_prog_20_method_1_code_84 (pc' := 86) rfl ?_
  refine own_iload X894 rfl own_d_prog_20_method_1_code_86 (pc' := 88) rfl ?_
  refine own_icmpF X894 (by decide) own_d_prog_20_method_1_code_88 (pc' := 91) rfl ?_
  refine own_aloadN X894 rfl rfl own_d_prog_20_method_1_code_91 (pc' := 92) rfl ?_
  refine own_iload X894 rfl own_d_prog_20_method_1_code_92 (pc' := 94) rfl ?_
  refine own_iaload X894 V902 (i := 3) (by decide) (by decide) rfl own_d_prog_20_method_1_code_94 (pc' := 95) rfl ?_
  refine own_istore X894 (Ls' := #[oA a1, oA a2, oA a3, oA a4, oI 4, oI 0, oI 3, oI (-1), oI 1]) rfl own_d_prog_20_method_1_code_95 (pc' := 97) rfl ?_
  refine own_iload X894 rfl own_d_prog_20_method_1_code_97 (pc' := 99) rfl ?_
  refine own_iload X894 rfl own_d_prog_20_method_1_code_99 (pc' := 101) rfl ?_
  refine own_iconst X894 (v := (1 : Int32)) (by decide) own_d_prog_20_method_1_code_101 (pc' := 102) rfl ?_
  refine own_isub X894 (v := (3 : Int32)) (by decide) own_d_prog_20_method_1_code_102 (pc' := 103) rfl ?_
  refine own_icmpF X894 (by decide) own_d_prog_20_method_1_code_103 (pc' := 106) rfl ?_
  refine own_iload X894 rfl own_d_prog_20_method_1_code_106 (pc' := 108) rfl ?_
  refine own_iconst X894 (v := (-1 : Int32)) (by decide) own_d_prog_20_method_1_code_108 (pc' := 109) rfl ?_
  refine own_icmpF X894 (by decide) own_d_prog_20_method_1_code_109 (pc' := 112) rfl ?_
  refine own_iconst X894 (v := (1 : Int32)) (by decide) own_d_prog_20_method_1_code_112 (pc' := 113) rfl ?_
  refine own_goto X894 own_d_prog_20_method_1_code_113 (pc' := 139) (by decide) (by decide) ?_
  refine own_istore X894 (Ls' := #[oA a1, oA a2, oA a3, oA a4, oI 4, oI 0, oI 3, oI (-1), oI 1]) rfl own_d_prog_20_method_1_code_139 (pc' := 141) rfl ?_
  refine own_iload X894 rfl own_d_prog_20_method_1_code_141 (pc' := 143) rfl ?_
  refine own_ifT X894 (by decide) own_d_prog_20_method_1_code_143 (pc' := 163) (by decide) (by decide) ?_
  refine own_iload X894 rfl own_d_prog_20_method_1_code_163 (pc' := 165) rfl ?_
  refine own_ifT X894 (by decide) own_d_prog_20_method_1_code_165 (pc' := 218) (by decide) (by decide) ?_
  refine own_iinc X894 (Ls' := #[oA a1, oA a2, oA a3, oA a4, oI 4, oI 0, oI 4, oI (-1), oI 1]) rfl (by decide) rfl own_d_prog_20_method_1_code_218 (pc' := 221) rfl ?_
  refine own_goto X894 own_d_prog_20_method_1_code_221 (pc' := 84) (by decide) (by decide) ?_
  refine own_iload X894 rfl own_d_prog_20_method_1_code_84 (pc' := 86) rfl ?_
  refine own_iload X894 rfl own_d_prog_20_method_1_code_86 (pc' := 88) rfl ?_
  refine own_icmpT X894 (by decide) own_d_prog_20_method_1_code_88 (pc' := 224) (by decide) (by decide) ?_
  refine own_iconst X894 (v := (0 : Int32)) (by decide) own_d_prog_20_method_1_code_224 (pc' := 225) rfl ?_
  refine own_istore X894 (Ls' := #[oA a1, oA a2, oA a3, oA a4, oI 4, oI 0, oI 0, oI (-1), oI 1]) rfl own_d_prog_20_method_1_code_225 (pc' := 227) rfl ?_
  refine own_iload X894 rfl own_d_prog_20_method_1_code_227 (pc' := 229) rfl ?_
  refine own_iload X894 rfl own_d_prog_20_method_1_code_229 (pc' := 231) rfl ?_
  refine own_icmpF X894 (by decide) own_d_prog_20_method_1_code_231 (pc' := 234) rfl ?_
  refine own_aloadN X894 rfl rfl own_d_prog_20_method_1_code_234 (pc' := 235) rfl ?_
  refine own_getF X894 (ww 71 rfl) F896 own_d_prog_20_method_1_code_235 (pc' := 238) rfl fun T917 X917 => ?_
  refine own_iload X917 rfl own_d_prog_20_method_1_code_238 (pc' := 240) rfl ?_
  refine own_iaload X917 V894 (i := 0) (by decide) (by decide) rfl own_d_prog_20_method_1_code_240 (pc' := 241) rfl ?_
  refine own_ifF X917 (by decide) own_d_prog_20_method_1_code_241 (pc' := 244) rfl ?_
  refine own_iinc X917 (Ls' := #[oA a1, oA a2, oA a3, oA a4, oI 4, oI 1, oI 0, oI (-1), oI 1]) rfl (by decide) rfl own_d_prog_20_method_1_code_244 (pc' := 247) rfl ?_
  refine own_aloadN X917 rfl rfl own_d_prog_20_method_1_code_247 (pc' := 248) rfl ?_
  refine own_iload X917 rfl own_d_prog_20_method_1_code_248 (pc' := 250) rfl ?_
  refine own_aaload X917 V906 rfl (i := 0) (by decide) (by decide) rfl own_d_prog_20_method_1_code_250 (pc' := 251) rfl ?_
  refine own_ifnonnullT X917 own_d_prog_20_method_1_code_251 (pc' := 269) (by decide) (by decide) ?_
  refine own_iinc X917 (Ls' := #[oA a1, oA a2, oA a3, oA a4, oI 4, oI 1, oI 1, oI (-1), oI 1]) rfl (by decide) rfl own_d_prog_20_method_1_code_269 (pc' := 272) rfl ?_
  refine own_goto X917 own_d_prog_20_method_1_code_272 (pc' := 227) (by decide) (by decide) ?_
  refine own_iload X917 rfl own_d_prog_20_method_1_code_227 (pc' := 229) rfl ?_
  refine own_iload X917 rfl own_d_prog_20_method_1_code_229 (pc' := 231) rfl ?_
  refine own_icmpF X917 (by decide) own_d_prog_20_method_1_code_231 (pc' := 234) rfl ?_
  refine own_aloadN X917 rfl rfl own_d_prog_20_method_1_code_234 (pc' := 235) rfl ?_
  refine own_getF X917 (ww 71 rfl) F896 own_d_prog_20_method_1_code_235 (pc' := 238) rfl fun T918 X918 => ?_
  refine own_iload X918 rfl own_d_prog_20_method_1_code_238 (pc' := 240) rfl ?_
  refine own_iaload X918 V894 (i := 1) (by decide) (by decide) rfl own_d_prog_20_method_1_code_240 (pc' := 241) rfl ?_
  refine own_ifF X918 (by decide) own_d_prog_20_method_1_code_241 (pc' := 244) rfl ?_
  refine own_iinc X918 (Ls' := #[oA a1, oA a2, oA a3, oA a4, oI 4, oI 2, oI 1, oI (-1), oI 1]) rfl (by decide) rfl own_d_prog_20_method_1_code_244 (pc' := 247) rfl ?_
  refine own_aloadN X918 rfl rfl own_d_prog_20_method_1_code_247 (pc' := 248) rfl ?_
  refine own_iload X918 rfl own_d_prog_20_method_1_code_248 (pc' := 250) rfl ?_
  refine own_aaload X918 V906 rfl (i := 1) (by decide) (by decide) rfl own_d_prog_20_method_1_code_250 (pc' := 251) rfl ?_
  refine own_ifnonnullT X918 own_d_prog_20_method_1_code_251 (pc' := 269) (by decide) (by decide) ?_
  refine own_iinc X918 (Ls' := #[oA a1, oA a2, oA a3, oA a4, oI 4, oI 2, oI 2, oI (-1), oI 1]) rfl (by decide) rfl own_d_prog_20_method_1_code_269 (pc' := 272) rfl ?_
  refine own_goto X918 own_d_prog_20_method_1_code_272 (pc' := 227) (by decide) (by decide) ?_
  refine own_iload X918 rfl own_d_prog_20_method_1_code_227 (pc' := 229) rfl ?_
  refine own_iload X918 rfl own_d_prog_20_method_1_code_229 (pc' := 231) rfl ?_
  refine own_icmpF X918 (by decide) own_d_prog_20_method_1_code_231 (pc' := 234) rfl ?_
  refine own_aloadN X918 rfl rfl own_d_prog_20_method_1_code_234 (pc' := 235) rfl ?_
  refine own_getF X918 (ww 71 rfl) F896 own_d_prog_20_method_1_code_235 (pc' := 238) rfl fun T919 X919 => ?_
  refine own_iload X919 rfl own_d_prog_20_method_1_code_238 (pc' := 240) rfl ?_
  refine own_iaload X919 V894 (i := 2) (by decide) (by decide) rfl own_d_prog_20_method_1_code_240 (pc' := 241) rfl ?_
  refine own_ifT X919 (by decide) own_d_prog_20_method_1_code_241 (pc' := 269) (by decide) (by decide) ?_
  refine own_iinc X919 (Ls' := #[oA a1, oA a2, oA a3, oA a4, oI 4, oI 2, oI 3, oI (-1), oI 1]) rfl (by decide) rfl own_d_prog_20_method_1_code_269 (pc' := 272) rfl ?_
  refine own_goto X919 own_d_prog_20_method_1_code_272 (pc' := 227) (by decide) (by decide) ?_
  refine own_iload X919 rfl own_d_prog_20_method_1_code_227 (pc' := 229) rfl ?_
  refine own_iload X919 rfl own_d_prog_20_method_1_code_229 (pc' := 231) rfl ?_
  refine own_icmpF X919 (by decide) own_d_prog_20_method_1_code_231 (pc' := 234) rfl ?_
  refine own_aloadN X919 rfl rfl own_d_prog_20_method_1_code_234 (pc' := 235) rfl ?_
  refine own_getF X919 (ww 71 rfl) F896 own_d_prog_20_method_1_code_235 (pc' := 238) rfl fun T920 X920 => ?_
  refine own_iload X920 rfl own_d_prog_20_method_1_code_238 (pc' := 240) rfl ?_
  refine own_iaload X920 V894 (i := 3) (by decide) (by decide) rfl own_d_prog_20_method_1_code_240 (pc' := 241) rfl ?_
  refine own_ifT X920 (by decide) own_d_prog_20_method_1_code_241 (pc' := 269) (by decide) (by decide) ?_
  refine own_iinc X920 (Ls' := #[oA a1, oA a2, oA a3, oA a4, oI 4, oI 2, oI 4, oI (-1), oI 1]) rfl (by decide) rfl own_d_prog_20_method_1_code_269 (pc' := 272) rfl ?_
  refine own_goto X920 own_d_prog_20_method_1_code_272 (pc' := 227) (by decide) (by decide) ?_
  refine own_iload X920 rfl own_d_prog_20_method_1_code_227 (pc' := 229) rfl ?_
  refine own_iload X920 rfl own_d_prog_20_method_1_code_229 (pc' := 231) rfl ?_
  refine own_icmpT X920 (by decide) own_d_prog_20_method_1_code_231 (pc' := 275) (by decide) (by decide) ?_
  refine own_aloadN X920 rfl rfl own_d_prog_20_method_1_code_275 (pc' := 276) rfl ?_
  refine own_iload X920 rfl own_d_prog_20_method_1_code_276 (pc' := 278) rfl ?_
  refine own_putF X920 (ww 74 rfl) F900 A895 (Or.inr ⟨(ww 75 rfl), rfl, rfl⟩) (ww 38 rfl) (ty := .int) (by decide) rfl rfl ge1 own_d_prog_20_method_1_code_278 (pc' := 281) rfl fun T921 h921 X921 W921 => ?_
  have A922 := A895.wr W921
  have A923 := A901.wr W921
  have V924 := V902.other W921 N2.symm
  have A925 := A903.wr W921
  have V926 := V904.other W921 N3.symm
  have A927 := A905.wr W921
  have V928 := V906.other W921 N4.symm
  have A929 := A907.wr W921
  have V930 := V908.other W921 ne673.symm
  have A931 := A909.wr W921
  have V932 := V910.other W921 ne709.symm
  have A933 := A911.wr W921
  have V934 := V912.other W921 ne750.symm
  have A935 := A913.wr W921
  have V936 := V894.other W921 ne796.symm
  have K937 := K914.wr W921 (Or.inl (by simp))
  have F938 := F900.same W921
  have F939 := F896.other W921 (Or.inr (slot_ne (C := "com/example/cladewalk/cladewalk/tree/Tree") (Or.inr (ww 72 rfl)) (Or.inr (ww 75 rfl)) (by decide) (t := (.array .int)) (t' := .int) (by decide) (by decide)))
  have F940 := F897.other W921 (Or.inr (slot_ne (C := "com/example/cladewalk/cladewalk/tree/Tree") (Or.inr (ww 70 rfl)) (Or.inr (ww 75 rfl)) (by decide) (t := (.array (.object "java/lang/String"))) (t' := .int) (by decide) (by decide)))
  have F941 := F898.other W921 (Or.inr (slot_ne (C := "com/example/cladewalk/cladewalk/tree/Tree") (Or.inr (ww 62 rfl)) (Or.inr (ww 75 rfl)) (by decide) (t := (.array .double)) (t' := .int) (by decide) (by decide)))
  have F942 := F899.other W921 (Or.inr (slot_ne (C := "com/example/cladewalk/cladewalk/tree/Tree") (Or.inr (ww 54 rfl)) (Or.inr (ww 75 rfl)) (by decide) (t := (.array .int)) (t' := .int) (by decide) (by decide)))
  exact own_retV X921  own_d_prog_20_method_1_code_281 rfl (by decide) (by decide) ⟨rfl, ⟨_, _, F939, F940, V936, V934⟩, K937⟩
abbrev own_rm_own_ti_23 : Room := ({ frames := 1, cells := 4, slots := 16, locals := 15 } : Room)
set_option maxRecDepth 65536 in
set_option maxHeartbeats 40000000 in
theorem own_ti_23 (l : Launch) (Z : State) (a0 : Array Value) (hw : ∀ d ∈ tables_1, d.before a0 Z = true) (a1 a2 a3 a4 : Addr) (z0 : UInt64) (i_z0 : Int) (z1 : UInt64) (i_z1 : Int) (z2 : UInt64) (i_z2 : Int) (s0 : Addr) (s1 : Addr) (v2 : Value) (v3 : Value) (h0 : Heap) (n0 : Nat) (Z0 : n0 ≤ h0.size) (ge1 : n0 ≤ a1) (A1 : Exa Z h0 a1 "com/example/cladewalk/cladewalk/tree/Tree") (F0 : Fld Z h0 a1 "com/example/cladewalk/cladewalk/tree/Tree" "parents" "[I" .null) (F1 : Fld Z h0 a1 "com/example/cladewalk/cladewalk/tree/Tree" "lengths" "[D" .null) (F2 : Fld Z h0 a1 "com/example/cladewalk/cladewalk/tree/Tree" "names" "[Ljava/lang/String;" .null) (F3 : Fld Z h0 a1 "com/example/cladewalk/cladewalk/tree/Tree" "childCounts" "[I" .null) (F4 : Fld Z h0 a1 "com/example/cladewalk/cladewalk/tree/Tree" "tipCount" "I" (.int (0 : Int32))) (V1 : own_Vec Z h0 a2 .int [(.int (2 : Int32)), (.int (3 : Int32)), (.int (3 : Int32)), (.int (-1 : Int32))]) (V2 : own_Vec Z h0 a3 .double [(.double z0), (.double z1), (.double z2), (.double (0 : UInt64))]) (V3 : own_Vec Z h0 a4 (.object "java/lang/String") [(.ref s0), (.ref s1), v2, v3]) (B1 : Exa Z h0 a2 "[I") (B2 : Exa Z h0 a3 "[D") (B3 : Exa Z h0 a4 "[Ljava/lang/String;") (N2 : a1 ≠ a2) (N3 : a1 ≠ a3) (N4 : a1 ≠ a4) (D_z0 : own_D 0 7 i_z0 z0) (hi_z0 : 0 ≤ i_z0) (D_z1 : own_D 0 7 i_z1 z1) (hi_z1 : 0 ≤ i_z1) (D_z2 : own_D 0 7 i_z2 z2) (hi_z2 : 0 ≤ i_z2) (fq_v2 : fits (.object "java/lang/String") v2 = true) (fq_v3 : fits (.object "java/lang/String") v3 = true) :
    own_Met l Z ({ cls := "com/example/cladewalk/cladewalk/tree/Tree", name := "<init>", desc := "([I[D[Ljava/lang/String;)V" } : Jvm.MethodName) prog_20_method_1_code 9 none [] own_rm_own_ti_23 #[(.ref a1), (.ref a2), (.ref a3), (.ref a4)] h0 n0 (fun v h => v = none ∧ (∃ x y, Fld Z h a1 "com/example/cladewalk/cladewalk/tree/Tree" "childCounts" "[I" (.ref x) ∧ Fld Z h a1 "com/example/cladewalk/cladewalk/tree/Tree" "names" "[Ljava/lang/String;" (.ref y) ∧ own_Vec Z h x .int [(.int (0 : Int32)), (.int (0 : Int32)), (.int (1 : Int32)), (.int (2 : Int32))] ∧ own_Vec Z h y (.object "java/lang/String") [(.ref s0), (.ref s1), v2, v3]) ∧ Keep h0 h [a1]) := by
  have ww := fun (i : Nat) {d : Jvm.Cond} (q : tables_1[i]? = some d) => hw d (List.mem_of_getElem? q)
  refine own_meet (plainFor_of_name own_pn4) Z0 (Ls0 := #[oA a1, oA a2, oA a3, oA a4, oU, oU, oU, oU, oU]) (by intro m; first | (simp [entryFrame, mkF, argsToLocals, Value.category]; done) | rfl) ?_
  intro p e s m below meth c T0 X0
  have K0 := Keep.refl h0 [a1]
  refine own_aloadN X0 rfl rfl own_d_prog_20_method_1_code_0 (pc' := 1) rfl ?_
  refine own_initO X0 (ww 43 rfl) (ww 16 rfl) (ww 17 rfl) rfl (by decide) (W := 0) (Nat.le_of_eq rfl) (by decide) own_d_prog_20_method_1_code_1 (pc' := 4) rfl fun T943 X943 => ?_
  refine own_aloadN X943 rfl rfl own_d_prog_20_method_1_code_4 (pc' := 5) rfl ?_
  refine own_len X943 V1 (v := (4 : Int32)) (show (4 : Nat).toInt32 = (4 : Int32) by decide) own_d_prog_20_method_1_code_5 (pc' := 6) rfl ?_
  refine own_istore X943 (Ls' := #[oA a1, oA a2, oA a3, oA a4, oI 4, oU, oU, oU, oU]) rfl own_d_prog_20_method_1_code_6 (pc' := 8) rfl ?_
  refine own_iload X943 rfl own_d_prog_20_method_1_code_8 (pc' := 10) rfl ?_
  refine own_ifF X943 (by decide) own_d_prog_20_method_1_code_10 (pc' := 13) rfl ?_
  refine own_aloadN X943 rfl rfl own_d_prog_20_method_1_code_13 (pc' := 14) rfl ?_
  refine own_len X943 V2 (v := (4 : Int32)) (show (4 : Nat).toInt32 = (4 : Int32) by decide) own_d_prog_20_method_1_code_14 (pc' := 15) rfl ?_
  refine own_iload X943 rfl own_d_prog_20_method_1_code_15 (pc' := 17) rfl ?_
  refine own_icmpF X943 (by decide) own_d_prog_20_method_1_code_17 (pc' := 20) rfl ?_
  refine own_aloadN X943 rfl rfl own_d_prog_20_method_1_code_20 (pc' := 21) rfl ?_
  refine own_len X943 V3 (v := (4 : Int32)) (show (4 : Nat).toInt32 = (4 : Int32) by decide) own_d_prog_20_method_1_code_21 (pc' := 22) rfl ?_
  refine own_iload X943 rfl own_d_prog_20_method_1_code_22 (pc' := 24) rfl ?_
  refine own_icmpT X943 (by decide) own_d_prog_20_method_1_code_24 (pc' := 37) (by decide) (by decide) ?_
  refine own_aloadN X943 rfl rfl own_d_prog_20_method_1_code_37 (pc' := 38) rfl ?_
  refine own_aloadN X943 rfl rfl own_d_prog_20_method_1_code_38 (pc' := 39) rfl ?_
  refine own_clone X943 (ad := "[I") (ww 44 rfl) (ww 45 rfl) (ww 49 rfl) (ww 47 rfl) (ww 48 rfl) (ww 50 rfl) V1 B1 (own_fitS rfl (own_fitS rfl (own_fitS rfl (own_fitS rfl own_fit0)))) (n := 4) rfl rfl (by decide) (W := 1) (Nat.le_of_eq rfl) (by decide) (cells' := 1) (slots' := 4) rfl rfl (by decide) (by decide) own_d_prog_20_method_1_code_39 (pc' := 42) rfl fun a944 T944 h944 g944 ge944 X944 E944 V944 A944 => ?_
  have ne945 : a1 ≠ a944 := own_lt_ne A1.lt g944
  have ne946 : a2 ≠ a944 := own_lt_ne V1.lt g944
  have ne947 : a3 ≠ a944 := own_lt_ne V2.lt g944
  have ne948 : a4 ≠ a944 := own_lt_ne V3.lt g944
  have sz949 := own_ge K0 g944
  have A950 := A1.ext E944
  have F951 := F0.ext E944
  have F952 := F1.ext E944
  have F953 := F2.ext E944
  have F954 := F3.ext E944
  have F955 := F4.ext E944
  have V956 := V1.ext E944
  have A957 := B1.ext E944
  have V958 := V2.ext E944
  have A959 := B2.ext E944
  have V960 := V3.ext E944
  have A961 := B3.ext E944
  have K962 := K0.ext E944
  refine own_cast_ X944 (ww 51 rfl) A944 own_d_prog_20_method_1_code_42 (pc' := 45) rfl fun T963 X963 => ?_
  refine own_putF X963 (ww 53 rfl) F951 A950 (Or.inr ⟨(ww 54 rfl), rfl, rfl⟩) (ww 38 rfl) (ty := (.array .int)) (by decide) rfl rfl ge1 own_d_prog_20_method_1_code_45 (pc' := 48) rfl fun T964 h964 X964 W964 => ?_
  have A965 := A950.wr W964
  have A966 := A957.wr W964
  have V967 := V956.other W964 N2.symm
  have A968 := A959.wr W964
  have V969 := V958.other W964 N3.symm
  have A970 := A961.wr W964
  have V971 := V960.other W964 N4.symm
  have A972 := A944.wr W964
  have V973 := V944.other W964 ne945.symm
  have K974 := K962.wr W964 (Or.inl (by simp))
  have F975 := F951.same W964
  have F976 := F952.other W964 (Or.inr (slot_ne (C := "com/example/cladewalk/cladewalk/tree/Tree") (Or.inr (ww 62 rfl)) (Or.inr (ww 54 rfl)) (by decide) (t := (.array .double)) (t' := (.array .int)) (by decide) (by decide)))
  have F977 := F953.other W964 (Or.inr (slot_ne (C := "com/example/cladewalk/cladewalk/tree/Tree") (Or.inr (ww 70 rfl)) (Or.inr (ww 54 rfl)) (by decide) (t := (.array (.object "java/lang/String"))) (t' := (.array .int)) (by decide) (by decide)))
  have F978 := F954.other W964 (Or.inr (slot_ne (C := "com/example/cladewalk/cladewalk/tree/Tree") (Or.inr (ww 72 rfl)) (Or.inr (ww 54 rfl)) (by decide) (t := (.array .int)) (t' := (.array .int)) (by decide) (by decide)))
  have F979 := F955.other W964 (Or.inr (slot_ne (C := "com/example/cladewalk/cladewalk/tree/Tree") (Or.inr (ww 75 rfl)) (Or.inr (ww 54 rfl)) (by decide) (t := .int) (t' := (.array .int)) (by decide) (by decide)))
  refine own_aloadN X964 rfl rfl own_d_prog_20_method_1_code_48 (pc' := 49) rfl ?_
  refine own_aloadN X964 rfl rfl own_d_prog_20_method_1_code_49 (pc' := 50) rfl ?_
  refine own_clone X964 (ad := "[D") (ww 55 rfl) (ww 56 rfl) (ww 49 rfl) (ww 47 rfl) (ww 57 rfl) (ww 58 rfl) V969 A968 (own_fitS rfl (own_fitS rfl (own_fitS rfl (own_fitS rfl own_fit0)))) (n := 4) rfl rfl (by decide) (W := 1) (Nat.le_of_eq rfl) (by decide) (cells' := 2) (slots' := 8) rfl rfl (by decide) (by decide) own_d_prog_20_method_1_code_50 (pc' := 53) rfl fun a980 T980 h980 g980 ge980 X980 E980 V980 A980 => ?_
  have ne981 : a1 ≠ a980 := own_lt_ne A965.lt g980
  have ne982 : a2 ≠ a980 := own_lt_ne V967.lt g980
  have ne983 : a3 ≠ a980 := own_lt_ne V969.lt g980
  have ne984 : a4 ≠ a980 := own_lt_ne V971.lt g980
  have ne985 : a944 ≠ a980 := own_lt_ne V973.lt g980
  have sz986 := own_ge K974 g980
  have A987 := A965.ext E980
  have F988 := F975.ext E980
  have F989 := F976.ext E980
  have F990 := F977.ext E980
  have F991 := F978.ext E980
  have F992 := F979.ext E980
  have V993 := V967.ext E980
  have A994 := A966.ext E980
  have V995 := V969.ext E980
  have A996 := A968.ext E980
  have V997 := V971.ext E980
  have A998 := A970.ext E980
  have V999 := V973.ext E980
  have A1000 := A972.ext E980
  have K1001 := K974.ext E980
  refine own_cast_ X980 (ww 59 rfl) A980 own_d_prog_20_method_1_code_53 (pc' := 56) rfl fun T1002 X1002 => ?_
  refine own_putF X1002 (ww 61 rfl) F989 A987 (Or.inr ⟨(ww 62 rfl), rfl, rfl⟩) (ww 38 rfl) (ty := (.array .double)) (by decide) rfl rfl ge1 own_d_prog_20_method_1_code_56 (pc' := 59) rfl fun T1003 h1003 X1003 W1003 => ?_
  have A1004 := A987.wr W1003
  have A1005 := A994.wr W1003
  have V1006 := V993.other W1003 N2.symm
  have A1007 := A996.wr W1003
  have V1008 := V995.other W1003 N3.symm
  have A1009 := A998.wr W1003
  have V1010 := V997.other W1003 N4.symm
  have A1011 := A1000.wr W1003
  have V1012 := V999.other W1003 ne945.symm
  have A1013 := A980.wr W1003
  have V1014 := V980.other W1003 ne981.symm
  have K1015 := K1001.wr W1003 (Or.inl (by simp))
  have F1016 := F989.same W1003
  have F1017 := F988.other W1003 (Or.inr (slot_ne (C := "com/example/cladewalk/cladewalk/tree/Tree") (Or.inr (ww 54 rfl)) (Or.inr (ww 62 rfl)) (by decide) (t := (.array .int)) (t' := (.array .double)) (by decide) (by decide)))
  have F1018 := F990.other W1003 (Or.inr (slot_ne (C := "com/example/cladewalk/cladewalk/tree/Tree") (Or.inr (ww 70 rfl)) (Or.inr (ww 62 rfl)) (by decide) (t := (.array (.object "java/lang/String"))) (t' := (.array .double)) (by decide) (by decide)))
  have F1019 := F991.other W1003 (Or.inr (slot_ne (C := "com/example/cladewalk/cladewalk/tree/Tree") (Or.inr (ww 72 rfl)) (Or.inr (ww 62 rfl)) (by decide) (t := (.array .int)) (t' := (.array .double)) (by decide) (by decide)))
  have F1020 := F992.other W1003 (Or.inr (slot_ne (C := "com/example/cladewalk/cladewalk/tree/Tree") (Or.inr (ww 75 rfl)) (Or.inr (ww 62 rfl)) (by decide) (t := .int) (t' := (.array .double)) (by decide) (by decide)))
  refine own_aloadN X1003 rfl rfl own_d_prog_20_method_1_code_59 (pc' := 60) rfl ?_
  refine own_aloadN X1003 rfl rfl own_d_prog_20_method_1_code_60 (pc' := 61) rfl ?_
  refine own_clone X1003 (ad := "[Ljava/lang/String;") (ww 63 rfl) (ww 64 rfl) (ww 49 rfl) (ww 47 rfl) (ww 65 rfl) (ww 66 rfl) V1010 A1009 (own_fitS rfl (own_fitS rfl (own_fitS fq_v2 (own_fitS fq_v3 own_fit0)))) (n := 4) rfl rfl (by decide) (W := 1) (Nat.le_of_eq rfl) (by decide) (cells' := 3) (slots' := 12) rfl rfl (by decide) (by decide) own_d_prog_20_method_1_code_61 (pc' := 64) rfl fun a1021 T1021 h1021 g1021 ge1021 X1021 E1021 V1021 A1021 => ?_
  have ne1022 : a1 ≠ a1021 := own_lt_ne A1004.lt g1021
  have ne1023 : a2 ≠ a1021 := own_lt_ne V1006.lt g1021
  have ne1024 : a3 ≠ a1021 := own_lt_ne V1008.lt g1021
  have ne1025 : a4 ≠ a1021 := own_lt_ne V1010.lt g1021
  have ne1026 : a944 ≠ a1021 := own_lt_ne V1012.lt g1021
  have ne1027 : a980 ≠ a1021 := own_lt_ne V1014.lt g1021
  have sz1028 := own_ge K1015 g1021
  have A1029 := A1004.ext E1021
  have F1030 := F1016.ext E1021
  have F1031 := F1017.ext E1021
  have F1032 := F1018.ext E1021
  have F1033 := F1019.ext E1021
  have F1034 := F1020.ext E1021
  have V1035 := V1006.ext E1021
  have A1036 := A1005.ext E1021
  have V1037 := V1008.ext E1021
  have A1038 := A1007.ext E1021
  have V1039 := V1010.ext E1021
  have A1040 := A1009.ext E1021
  have V1041 := V1012.ext E1021
  have A1042 := A1011.ext E1021
  have V1043 := V1014.ext E1021
  have A1044 := A1013.ext E1021
  have K1045 := K1015.ext E1021
  refine own_cast_ X1021 (ww 67 rfl) A1021 own_d_prog_20_method_1_code_64 (pc' := 67) rfl fun T1046 X1046 => ?_
  refine own_putF X1046 (ww 69 rfl) F1032 A1029 (Or.inr ⟨(ww 70 rfl), rfl, rfl⟩) (ww 38 rfl) (ty := (.array (.object "java/lang/String"))) (by decide) rfl rfl ge1 own_d_prog_20_method_1_code_67 (pc' := 70) rfl fun T1047 h1047 X1047 W1047 => ?_
  have A1048 := A1029.wr W1047
  have A1049 := A1036.wr W1047
  have V1050 := V1035.other W1047 N2.symm
  have A1051 := A1038.wr W1047
  have V1052 := V1037.other W1047 N3.symm
  have A1053 := A1040.wr W1047
  have V1054 := V1039.other W1047 N4.symm
  have A1055 := A1042.wr W1047
  have V1056 := V1041.other W1047 ne945.symm
  have A1057 := A1044.wr W1047
  have V1058 := V1043.other W1047 ne981.symm
  have A1059 := A1021.wr W1047
  have V1060 := V1021.other W1047 ne1022.symm
  have K1061 := K1045.wr W1047 (Or.inl (by simp))
  have F1062 := F1032.same W1047
  have F1063 := F1030.other W1047 (Or.inr (slot_ne (C := "com/example/cladewalk/cladewalk/tree/Tree") (Or.inr (ww 62 rfl)) (Or.inr (ww 70 rfl)) (by decide) (t := (.array .double)) (t' := (.array (.object "java/lang/String"))) (by decide) (by decide)))
  have F1064 := F1031.other W1047 (Or.inr (slot_ne (C := "com/example/cladewalk/cladewalk/tree/Tree") (Or.inr (ww 54 rfl)) (Or.inr (ww 70 rfl)) (by decide) (t := (.array .int)) (t' := (.array (.object "java/lang/String"))) (by decide) (by decide)))
  have F1065 := F1033.other W1047 (Or.inr (slot_ne (C := "com/example/cladewalk/cladewalk/tree/Tree") (Or.inr (ww 72 rfl)) (Or.inr (ww 70 rfl)) (by decide) (t := (.array .int)) (t' := (.array (.object "java/lang/String"))) (by decide) (by decide)))
  have F1066 := F1034.other W1047 (Or.inr (slot_ne (C := "com/example/cladewalk/cladewalk/tree/Tree") (Or.inr (ww 75 rfl)) (Or.inr (ww 70 rfl)) (by decide) (t := .int) (t' := (.array (.object "java/lang/String"))) (by decide) (by decide)))
  refine own_aloadN X1047 rfl rfl own_d_prog_20_method_1_code_70 (pc' := 71) rfl ?_
  refine own_iload X1047 rfl own_d_prog_20_method_1_code_71 (pc' := 73) rfl ?_
  refine own_newarrayE X1047 (ty := .int) rfl (ad := "[I") (by decide) (ww 34 rfl) (n := 4) (vs := [(.int (0 : Int32)), (.int (0 : Int32)), (.int (0 : Int32)), (.int (0 : Int32))]) (by decide) (by decide) (by decide) rfl (cells' := 4) (slots' := 16) rfl rfl (by decide) (by decide) own_d_prog_20_method_1_code_73 (pc' := 75) rfl fun a1067 T1067 h1067 g1067 ge1067 X1067 E1067 V1067 A1067 => ?_
  have ne1068 : a1 ≠ a1067 := own_lt_ne A1048.lt g1067
  have ne1069 : a2 ≠ a1067 := own_lt_ne V1050.lt g1067
  have ne1070 : a3 ≠ a1067 := own_lt_ne V1052.lt g1067
  have ne1071 : a4 ≠ a1067 := own_lt_ne V1054.lt g1067
  have ne1072 : a944 ≠ a1067 := own_lt_ne V1056.lt g1067
  have ne1073 : a980 ≠ a1067 := own_lt_ne V1058.lt g1067
  have ne1074 : a1021 ≠ a1067 := own_lt_ne V1060.lt g1067
  have sz1075 := own_ge K1061 g1067
  have A1076 := A1048.ext E1067
  have F1077 := F1062.ext E1067
  have F1078 := F1063.ext E1067
  have F1079 := F1064.ext E1067
  have F1080 := F1065.ext E1067
  have F1081 := F1066.ext E1067
  have V1082 := V1050.ext E1067
  have A1083 := A1049.ext E1067
  have V1084 := V1052.ext E1067
  have A1085 := A1051.ext E1067
  have V1086 := V1054.ext E1067
  have A1087 := A1053.ext E1067
  have V1088 := V1056.ext E1067
  have A1089 := A1055.ext E1067
  have V1090 := V1058.ext E1067
  have A1091 := A1057.ext E1067
  have V1092 := V1060.ext E1067
  have A1093 := A1059.ext E1067
  have K1094 := K1061.ext E1067
  refine own_putF X1067 (ww 71 rfl) F1080 A1076 (Or.inr ⟨(ww 72 rfl), rfl, rfl⟩) (ww 38 rfl) (ty := (.array .int)) (by decide) rfl rfl ge1 own_d_prog_20_method_1_code_75 (pc' := 78) rfl fun T1095 h1095 X1095 W1095 => ?_
  have A1096 := A1076.wr W1095
  have A1097 := A1083.wr W1095
  have V1098 := V1082.other W1095 N2.symm
  have A1099 := A1085.wr W1095
  have V1100 := V1084.other W1095 N3.symm
  have A1101 := A1087.wr W1095
  have V1102 := V1086.other W1095 N4.symm
  have A1103 := A1089.wr W1095
  have V1104 := V1088.other W1095 ne945.symm
  have A1105 := A1091.wr W1095
  have V1106 := V1090.other W1095 ne981.symm
  have A1107 := A1093.wr W1095
  have V1108 := V1092.other W1095 ne1022.symm
  have A1109 := A1067.wr W1095
  have V1110 := V1067.other W1095 ne1068.symm
  have K1111 := K1094.wr W1095 (Or.inl (by simp))
  have F1112 := F1080.same W1095
  have F1113 := F1077.other W1095 (Or.inr (slot_ne (C := "com/example/cladewalk/cladewalk/tree/Tree") (Or.inr (ww 70 rfl)) (Or.inr (ww 72 rfl)) (by decide) (t := (.array (.object "java/lang/String"))) (t' := (.array .int)) (by decide) (by decide)))
  have F1114 := F1078.other W1095 (Or.inr (slot_ne (C := "com/example/cladewalk/cladewalk/tree/Tree") (Or.inr (ww 62 rfl)) (Or.inr (ww 72 rfl)) (by decide) (t := (.array .double)) (t' := (.array .int)) (by decide) (by decide)))
  have F1115 := F1079.other W1095 (Or.inr (slot_ne (C := "com/example/cladewalk/cladewalk/tree/Tree") (Or.inr (ww 54 rfl)) (Or.inr (ww 72 rfl)) (by decide) (t := (.array .int)) (t' := (.array .int)) (by decide) (by decide)))
  have F1116 := F1081.other W1095 (Or.inr (slot_ne (C := "com/example/cladewalk/cladewalk/tree/Tree") (Or.inr (ww 75 rfl)) (Or.inr (ww 72 rfl)) (by decide) (t := .int) (t' := (.array .int)) (by decide) (by decide)))
  refine own_iconst X1095 (v := (0 : Int32)) (by decide) own_d_prog_20_method_1_code_78 (pc' := 79) rfl ?_
  refine own_istore X1095 (Ls' := #[oA a1, oA a2, oA a3, oA a4, oI 4, oI 0, oU, oU, oU]) rfl own_d_prog_20_method_1_code_79 (pc' := 81) rfl ?_
  refine own_iconst X1095 (v := (0 : Int32)) (by decide) own_d_prog_20_method_1_code_81 (pc' := 82) rfl ?_
  refine own_istore X1095 (Ls' := #[oA a1, oA a2, oA a3, oA a4, oI 4, oI 0, oI 0, oU, oU]) rfl own_d_prog_20_method_1_code_82 (pc' := 84) rfl ?_
  refine own_iload X1095 rfl own_d_prog_20_method_1_code_84 (pc' := 86) rfl ?_
  refine own_iload X1095 rfl own_d_prog_20_method_1_code_86 (pc' := 88) rfl ?_
  refine own_icmpF X1095 (by decide) own_d_prog_20_method_1_code_88 (pc' := 91) rfl ?_
  refine own_aloadN X1095 rfl rfl own_d_prog_20_method_1_code_91 (pc' := 92) rfl ?_
  refine own_iload X1095 rfl own_d_prog_20_method_1_code_92 (pc' := 94) rfl ?_
  refine own_iaload X1095 V1098 (i := 0) (by decide) (by decide) rfl own_d_prog_20_method_1_code_94 (pc' := 95) rfl ?_
  refine own_istore X1095 (Ls' := #[oA a1, oA a2, oA a3, oA a4, oI 4, oI 0, oI 0, oI 2, oU]) rfl own_d_prog_20_method_1_code_95 (pc' := 97) rfl ?_
  refine own_iload X1095 rfl own_d_prog_20_method_1_code_97 (pc' := 99) rfl ?_
  refine own_iload X1095 rfl own_d_prog_20_method_1_code_99 (pc' := 101) rfl ?_
  refine own_iconst X1095 (v := (1 : Int32)) (by decide) own_d_prog_20_method_1_code_101 (pc' := 102) rfl ?_
  refine own_isub X1095 (v := (3 : Int32)) (by decide) own_d_prog_20_method_1_code_102 (pc' := 103) rfl ?_
  refine own_icmpT X1095 (by decide) own_d_prog_20_method_1_code_103 (pc' := 120) (by decide) (by decide) ?_
  refine own_iload X1095 rfl own_d_prog_20_method_1_code_120 (pc' := 122) rfl ?_
  refine own_iload X1095 rfl own_d_prog_20_method_1_code_122 (pc' := 124) rfl ?_
  refine own_icmpF X1095 (by decide) own_d_prog_20_method_1_code_124 (pc' := 127) rfl ?_
  refine own_iload X1095 rfl own_d_prog_20_method_1_code_127 (pc' := 129) rfl ?_
  refine own_iload X1095 rfl own_d_prog_20_method_1_code_129 (pc' := 131) rfl ?_
  refine own_icmpF X1095 (by decide) own_d_prog_20_method_1_code_131 (pc' := 134) rfl ?_
  refine own_iconst X1095 (v := (1 : Int32)) (by decide) own_d_prog_20_method_1_code_134 (pc' := 135) rfl ?_
  refine own_goto X1095 own_d_prog_20_method_1_code_135 (pc' := 139) (by decide) (by decide) ?_
  refine own_istore X1095 (Ls' := #[oA a1, oA a2, oA a3, oA a4, oI 4, oI 0, oI 0, oI 2, oI 1]) rfl own_d_prog_20_method_1_code_139 (pc' := 141) rfl ?_
  refine own_iload X1095 rfl own_d_prog_20_method_1_code_141 (pc' := 143) rfl ?_
  refine own_ifT X1095 (by decide) own_d_prog_20_method_1_code_143 (pc' := 163) (by decide) (by decide) ?_
  refine own_iload X1095 rfl own_d_prog_20_method_1_code_163 (pc' := 165) rfl ?_
  refine own_ifF X1095 (by decide) own_d_prog_20_method_1_code_165 (pc' := 168) rfl ?_
  refine own_aloadN X1095 rfl rfl own_d_prog_20_method_1_code_168 (pc' := 169) rfl ?_
  refine own_getF X1095 (ww 71 rfl) F1112 own_d_prog_20_method_1_code_169 (pc' := 172) rfl fun T1117 X1117 => ?_
  refine own_iload X1117 rfl own_d_prog_20_method_1_code_172 (pc' := 174) rfl ?_
  refine own_dup2 X1117 rfl rfl own_d_prog_20_method_1_code_174 (pc' := 175) rfl ?_
  refine own_iaload X1117 V1110 (i := 2) (by decide) (by decide) rfl own_d_prog_20_method_1_code_175 (pc' := 176) rfl ?_
  refine own_iconst X1117 (v := (1 : Int32)) (by decide) own_d_prog_20_method_1_code_176 (pc' := 177) rfl ?_
  refine own_iadd X1117 (v := (1 : Int32)) (by decide) own_d_prog_20_method_1_code_177 (pc' := 178) rfl ?_
  refine own_iastore X1117 V1110 ge1067 (i := 2) (by decide) (by decide) (show 2 < 4 by decide) own_d_prog_20_method_1_code_178 (pc' := 179) rfl fun T1118 h1118 X1118 W1118 V1118 => ?_
  have A1119 := A1096.wr W1118
  have F1120 := F1112.other W1118 (Or.inl ne1068)
  have F1121 := F1113.other W1118 (Or.inl ne1068)
  have F1122 := F1114.other W1118 (Or.inl ne1068)
  have F1123 := F1115.other W1118 (Or.inl ne1068)
  have F1124 := F1116.other W1118 (Or.inl ne1068)
  have A1125 := A1097.wr W1118
  have V1126 := V1098.other W1118 ne1069
  have A1127 := A1099.wr W1118
  have V1128 := V1100.other W1118 ne1070
  have A1129 := A1101.wr W1118
  have V1130 := V1102.other W1118 ne1071
  have A1131 := A1103.wr W1118
  have V1132 := V1104.other W1118 ne1072
  have A1133 := A1105.wr W1118
  have V1134 := V1106.other W1118 ne1073
  have A1135 := A1107.wr W1118
  have V1136 := V1108.other W1118 ne1074
  have A1137 := A1109.wr W1118
  have K1138 := K1111.wr W1118 (Or.inr sz1075)
  replace V1118 : own_Vec Z h1118 a1067 .int [(.int (0 : Int32)), (.int (0 : Int32)), (.int (1 : Int32)), (.int (0 : Int32))] := V1118
  refine own_aloadN X1118 rfl rfl own_d_prog_20_method_1_code_179 (pc' := 180) rfl ?_
  refine own_iload X1118 rfl own_d_prog_20_method_1_code_180 (pc' := 182) rfl ?_
  refine own_daload X1118 V1128 (i := 0) (by decide) (by decide) rfl own_d_prog_20_method_1_code_182 (pc' := 183) rfl ?_
  refine own_dconst0 X1118 (v := (0 : UInt64)) rfl own_d_prog_20_method_1_code_183 (pc' := 184) rfl ?_
  have f1139 : own_D 0 0 (0 : Int) (0 : UInt64) := own_D.lit (s := false) (c := 0) (q := -1074) (by decide +kernel) (by decide +kernel) (by decide)
  refine own_dcmp X1118 (D_z0.cmp f1139) own_d_prog_20_method_1_code_184 (pc' := 185) rfl ?_
  have c1140 : ¬ (i_z0 < (0 : Int)) := by omega
  refine own_ifF X1118 (own_c3_nlt c1140).1 own_d_prog_20_method_1_code_185 (pc' := 188) rfl ?_
  refine own_aloadN X1118 rfl rfl own_d_prog_20_method_1_code_188 (pc' := 189) rfl ?_
  refine own_iload X1118 rfl own_d_prog_20_method_1_code_189 (pc' := 191) rfl ?_
  refine own_daload X1118 V1128 (i := 0) (by decide) (by decide) rfl own_d_prog_20_method_1_code_191 (pc' := 192) rfl ?_
  refine own_ldcD X1118 (v := (9218868437227405312 : UInt64)) (ww 73 rfl) own_d_prog_20_method_1_code_192 (pc' := 195) rfl ?_
  refine own_dcmp X1118 (v := (-1 : Int32)) (dcmp_pinf D_z0.isFin _) own_d_prog_20_method_1_code_195 (pc' := 196) rfl ?_
  refine own_ifT X1118 (by decide) own_d_prog_20_method_1_code_196 (pc' := 218) (by decide) (by decide) ?_
  refine own_iinc X1118 (Ls' := #[oA a1, oA a2, oA a3, oA a4, oI 4, oI 0, oI 1, oI 2, oI 1]) rfl (by decide) rfl own_d_prog_20_method_1_code_218 (pc' := 221) rfl ?_
  refine own_goto X1118 own_d_prog_20_method_1_code_221 (pc' := 84) (by decide) (by decide) ?_
  refine own_iload X1118 rfl own_d_prog_20_method_1_code_84 (pc' := 86) rfl ?_
  refine own_iload X1118 rfl own_d_prog_20_method_1_code_86 (pc' := 88) rfl ?_
  refine own_icmpF X1118 (by decide) own_d_prog_20_method_1_code_88 (pc' := 91) rfl ?_
  refine own_aloadN X1118 rfl rfl own_d_prog_20_method_1_code_91 (pc' := 92) rfl ?_
  refine own_iload X1118 rfl own_d_prog_20_method_1_code_92 (pc' := 94) rfl ?_
  refine own_iaload X1118 V1126 (i := 1) (by decide) (by decide) rfl own_d_prog_20_method_1_code_94 (pc' := 95) rfl ?_
  refine own_istore X1118 (Ls' := #[oA a1, oA a2, oA a3, oA a4, oI 4, oI 0, oI 1, oI 3, oI 1]) rfl own_d_prog_20_method_1_code_95 (pc' := 97) rfl ?_
  refine own_iload X1118 rfl own_d_prog_20_method_1_code_97 (pc' := 99) rfl ?_
  refine own_iload X1118 rfl own_d_prog_20_method_1_code_99 (pc' := 101) rfl ?_
  refine own_iconst X1118 (v := (1 : Int32)) (by decide) own_d_prog_20_method_1_code_101 (pc' := 102) rfl ?_
  refine own_isub X1118 (v := (3 : Int32)) (by decide) own_d_prog_20_method_1_code_102 (pc' := 103) rfl ?_
  refine own_icmpT X1118 (by decide) own_d_prog_20_method_1_code_103 (pc' := 120) (by decide) (by decide) ?_
  refine own_iload X1118 rfl own_d_prog_20_method_1_code_120 (pc' := 122) rfl ?_
  refine own_iload X1118 rfl own_d_prog_20_method_1_code_122 (pc' := 124) rfl ?_
  refine own_icmpF X1118 (by decide) own_d_prog_20_method_1_code_124 (pc' := 127) rfl ?_
  refine own_iload X1118 rfl own_d_prog_20_method_1_code_127 (pc' := 129) rfl ?_
  refine own_iload X1118 rfl own_d_prog_20_method_1_code_129 (pc' := 131) rfl ?_
  refine own_icmpF X1118 (by decide) own_d_prog_20_method_1_code_131 (pc' := 134) rfl ?_
  refine own_iconst X1118 (v := (1 : Int32)) (by decide) own_d_prog_20_method_1_code_134 (pc' := 135) rfl ?_
  refine own_goto X1118 own_d_prog_20_method_1_code_135 (pc' := 139) (by decide) (by decide) ?_
  refine own_istore X1118 (Ls' := #[oA a1, oA a2, oA a3, oA a4, oI 4, oI 0, oI 1, oI 3, oI 1]) rfl own_d_prog_20_method_1_code_139 (pc' := 141) rfl ?_
  refine own_iload X1118 rfl own_d_prog_20_method_1_code_141 (pc' := 143) rfl ?_
  refine own_ifT X1118 (by decide) own_d_prog_20_method_1_code_143 (pc' := 163) (by decide) (by decide) ?_
  refine own_iload X1118 rfl own_d_prog_20_method_1_code_163 (pc' := 165) rfl ?_
  refine own_ifF X1118 (by decide) own_d_prog_20_method_1_code_165 (pc' := 168) rfl ?_
  refine own_aloadN X1118 rfl rfl own_d_prog_20_method_1_code_168 (pc' := 169) rfl ?_
  refine own_getF X1118 (ww 71 rfl) F1120 own_d_prog_20_method_1_code_169 (pc' := 172) rfl fun T1141 X1141 => ?_
  refine own_iload X1141 rfl own_d_prog_20_method_1_code_172 (pc' := 174) rfl ?_
  refine own_dup2 X1141 rfl rfl own_d_prog_20_method_1_code_174 (pc' := 175) rfl ?_
  refine own_iaload X1141 V1118 (i := 3) (by decide) (by decide) rfl own_d_prog_20_method_1_code_175 (pc' := 176) rfl ?_
  refine own_iconst X1141 (v := (1 : Int32)) (by decide) own_d_prog_20_method_1_code_176 (pc' := 177) rfl ?_
  refine own_iadd X1141 (v := (1 : Int32)) (by decide) own_d_prog_20_method_1_code_177 (pc' := 178) rfl ?_
  refine own_iastore X1141 V1118 ge1067 (i := 3) (by decide) (by decide) (show 3 < 4 by decide) own_d_prog_20_method_1_code_178 (pc' := 179) rfl fun T1142 h1142 X1142 W1142 V1142 => ?_
  have A1143 := A1119.wr W1142
  have F1144 := F1120.other W1142 (Or.inl ne1068)
  have F1145 := F1121.other W1142 (Or.inl ne1068)
  have F1146 := F1122.other W1142 (Or.inl ne1068)
  have F1147 := F1123.other W1142 (Or.inl ne1068)
  have F1148 := F1124.other W1142 (Or.inl ne1068)
  have A1149 := A1125.wr W1142
  have V1150 := V1126.other W1142 ne1069
  have A1151 := A1127.wr W1142
  have V1152 := V1128.other W1142 ne1070
  have A1153 := A1129.wr W1142
  have V1154 := V1130.other W1142 ne1071
  have A1155 := A1131.wr W1142
  have V1156 := V1132.other W1142 ne1072
  have A1157 := A1133.wr W1142
  have V1158 := V1134.other W1142 ne1073
  have A1159 := A1135.wr W1142
  have V1160 := V1136.other W1142 ne1074
  have A1161 := A1137.wr W1142
  have K1162 := K1138.wr W1142 (Or.inr sz1075)
  replace V1142 : own_Vec Z h1142 a1067 .int [(.int (0 : Int32)), (.int (0 : Int32)), (.int (1 : Int32)), (.int (1 : Int32))] := V1142
  refine own_aloadN X1142 rfl rfl own_d_prog_20_method_1_code_179 (pc' := 180) rfl ?_
  refine own_iload X1142 rfl own_d_prog_20_method_1_code_180 (pc' := 182) rfl ?_
  refine own_daload X1142 V1152 (i := 1) (by decide) (by decide) rfl own_d_prog_20_method_1_code_182 (pc' := 183) rfl ?_
  refine own_dconst0 X1142 (v := (0 : UInt64)) rfl own_d_prog_20_method_1_code_183 (pc' := 184) rfl ?_
  have f1163 : own_D 0 0 (0 : Int) (0 : UInt64) := own_D.lit (s := false) (c := 0) (q := -1074) (by decide +kernel) (by decide +kernel) (by decide)
  refine own_dcmp X1142 (D_z1.cmp f1163) own_d_prog_20_method_1_code_184 (pc' := 185) rfl ?_
  have c1164 : ¬ (i_z1 < (0 : Int)) := by omega
  refine own_ifF X1142 (own_c3_nlt c1164).1 own_d_prog_20_method_1_code_185 (pc' := 188) rfl ?_
  refine own_aloadN X1142 rfl rfl own_d_prog_20_method_1_code_188 (pc' := 189) rfl ?_
  refine own_iload X1142 rfl own_d_prog_20_method_1_code_189 (pc' := 191) rfl ?_
  refine own_daload X1142 V1152 (i := 1) (by decide) (by decide) rfl own_d_prog_20_method_1_code_191 (pc' := 192) rfl ?_
  refine own_ldcD X1142 (v := (9218868437227405312 : UInt64)) (ww 73 rfl) own_d_prog_20_method_1_code_192 (pc' := 195) rfl ?_
  refine own_dcmp X1142 (v := (-1 : Int32)) (dcmp_pinf D_z1.isFin _) own_d_prog_20_method_1_code_195 (pc' := 196) rfl ?_
  refine own_ifT X1142 (by decide) own_d_prog_20_method_1_code_196 (pc' := 218) (by decide) (by decide) ?_
  refine own_iinc X1142 (Ls' := #[oA a1, oA a2, oA a3, oA a4, oI 4, oI 0, oI 2, oI 3, oI 1]) rfl (by decide) rfl own_d_prog_20_method_1_code_218 (pc' := 221) rfl ?_
  refine own_goto X1142 own_d_prog_20_method_1_code_221 (pc' := 84) (by decide) (by decide) ?_
  refine own_iload X1142 rfl own_d_prog_20_method_1_code_84 (pc' := 86) rfl ?_
  refine own_iload X1142 rfl own_d_prog_20_method_1_code_86 (pc' := 88) rfl ?_
  refine own_icmpF X1142 (by decide) own_d_prog_20_method_1_code_88 (pc' := 91) rfl ?_
  refine own_aloadN X1142 rfl rfl own_d_prog_20_method_1_code_91 (pc' := 92) rfl ?_
  refine own_iload X1142 rfl own_d_prog_20_method_1_code_92 (pc' := 94) rfl ?_
  refine own_iaload X1142 V1150 (i := 2) (by decide) (by decide) rfl own_d_prog_20_method_1_code_94 (pc' := 95) rfl ?_
  refine own_istore X1142 (Ls' := #[oA a1, oA a2, oA a3, oA a4, oI 4, oI 0, oI 2, oI 3, oI 1]) rfl own_d_prog_20_method_1_code_95 (pc' := 97) rfl ?_
  refine own_iload X1142 rfl own_d_prog_20_method_1_code_97 (pc' := 99) rfl ?_
  refine own_iload X1142 rfl own_d_prog_20_method_1_code_99 (pc' := 101) rfl ?_
  refine own_iconst X1142 (v := (1 : Int32)) (by decide) own_d_prog_20_method_1_code_101 (pc' := 102) rfl ?_
  refine own_isub X1142 (v := (3 : Int32)) (by decide) own_d_prog_20_method_1_code_102 (pc' := 103) rfl ?_
  refine own_icmpT X1142 (by decide) own_d_prog_20_method_1_code_103 (pc' := 120) (by decide) (by decide) ?_
  refine own_iload X1142 rfl own_d_prog_20_method_1_code_120 (pc' := 122) rfl ?_
  refine own_iload X1142 rfl own_d_prog_20_method_1_code_122 (pc' := 124) rfl ?_
  refine own_icmpF X1142 (by decide) own_d_prog_20_method_1_code_124 (pc' := 127) rfl ?_
  refine own_iload X1142 rfl own_d_prog_20_method_1_code_127 (pc' := 129) rfl ?_
  refine own_iload X1142 rfl own_d_prog_20_method_1_code_129 (pc' := 131) rfl ?_
  refine own_icmpF X1142 (by decide) own_d_prog_20_method_1_code_131 (pc' := 134) rfl ?_
  refine own_iconst X1142 (v := (1 : Int32)) (by decide) own_d_prog_20_method_1_code_134 (pc' := 135) rfl ?_
  refine own_goto X1142 own_d_prog_20_method_1_code_135 (pc' := 139) (by decide) (by decide) ?_
  refine own_istore X1142 (Ls' := #[oA a1, oA a2, oA a3, oA a4, oI 4, oI 0, oI 2, oI 3, oI 1]) rfl own_d_prog_20_method_1_code_139 (pc' := 141) rfl ?_
  refine own_iload X1142 rfl own_d_prog_20_method_1_code_141 (pc' := 143) rfl ?_
  refine own_ifT X1142 (by decide) own_d_prog_20_method_1_code_143 (pc' := 163) (by decide) (by decide) ?_
  refine own_iload X1142 rfl own_d_prog_20_method_1_code_163 (pc' := 165) rfl ?_
  refine own_ifF X1142 (by decide) own_d_prog_20_method_1_code_165 (pc' := 168) rfl ?_
  refine own_aloadN X1142 rfl rfl own_d_prog_20_method_1_code_168 (pc' := 169) rfl ?_
  refine own_getF X1142 (ww 71 rfl) F1144 own_d_prog_20_method_1_code_169 (pc' := 172) rfl fun T1165 X1165 => ?_
  refine own_iload X1165 rfl own_d_prog_20_method_1_code_172 (pc' := 174) rfl ?_
  refine own_dup2 X1165 rfl rfl own_d_prog_20_method_1_code_174 (pc' := 175) rfl ?_
  refine own_iaload X1165 V1142 (i := 3) (by decide) (by decide) rfl own_d_prog_20_method_1_code_175 (pc' := 176) rfl ?_
  refine own_iconst X1165 (v := (1 : Int32)) (by decide) own_d_prog_20_method_1_code_176 (pc' := 177) rfl ?_
  refine own_iadd X1165 (v := (2 : Int32)) (by decide) own_d_prog_20_method_1_code_177 (pc' := 178) rfl ?_
  refine own_iastore X1165 V1142 ge1067 (i := 3) (by decide) (by decide) (show 3 < 4 by decide) own_d_prog_20_method_1_code_178 (pc' := 179) rfl fun T1166 h1166 X1166 W1166 V1166 => ?_
  have A1167 := A1143.wr W1166
  have F1168 := F1144.other W1166 (Or.inl ne1068)
  have F1169 := F1145.other W1166 (Or.inl ne1068)
  have F1170 := F1146.other W1166 (Or.inl ne1068)
  have F1171 := F1147.other W1166 (Or.inl ne1068)
  have F1172 := F1148.other W1166 (Or.inl ne1068)
  have A1173 := A1149.wr W1166
  have V1174 := V1150.other W1166 ne1069
  have A1175 := A1151.wr W1166
  have V1176 := V1152.other W1166 ne1070
  have A1177 := A1153.wr W1166
  have V1178 := V1154.other W1166 ne1071
  have A1179 := A1155.wr W1166
  have V1180 := V1156.other W1166 ne1072
  have A1181 := A1157.wr W1166
  have V1182 := V1158.other W1166 ne1073
  have A1183 := A1159.wr W1166
  have V1184 := V1160.other W1166 ne1074
  have A1185 := A1161.wr W1166
  have K1186 := K1162.wr W1166 (Or.inr sz1075)
  replace V1166 : own_Vec Z h1166 a1067 .int [(.int (0 : Int32)), (.int (0 : Int32)), (.int (1 : Int32)), (.int (2 : Int32))] := V1166
  refine own_aloadN X1166 rfl rfl own_d_prog_20_method_1_code_179 (pc' := 180) rfl ?_
  refine own_iload X1166 rfl own_d_prog_20_method_1_code_180 (pc' := 182) rfl ?_
  refine own_daload X1166 V1176 (i := 2) (by decide) (by decide) rfl own_d_prog_20_method_1_code_182 (pc' := 183) rfl ?_
  refine own_dconst0 X1166 (v := (0 : UInt64)) rfl own_d_prog_20_method_1_code_183 (pc' := 184) rfl ?_
  have f1187 : own_D 0 0 (0 : Int) (0 : UInt64) := own_D.lit (s := false) (c := 0) (q := -1074) (by decide +kernel) (by decide +kernel) (by decide)
  refine own_dcmp X1166 (D_z2.cmp f1187) own_d_prog_20_method_1_code_184 (pc' := 185) rfl ?_
  have c1188 : ¬ (i_z2 < (0 : Int)) := by omega
  refine own_ifF X1166 (own_c3_nlt c1188).1 own_d_prog_20_method_1_code_185 (pc' := 188) rfl ?_
  refine own_aloadN X1166 rfl rfl own_d_prog_20_method_1_code_188 (pc' := 189) rfl ?_
  refine own_iload X1166 rfl own_d_prog_20_method_1_code_189 (pc' := 191) rfl ?_
  refine own_daload X1166 V1176 (i := 2) (by decide) (by decide) rfl own_d_prog_20_method_1_code_191 (pc' := 192) rfl ?_
  refine own_ldcD X1166 (v := (9218868437227405312 : UInt64)) (ww 73 rfl) own_d_prog_20_method_1_code_192 (pc' := 195) rfl ?_
  refine own_dcmp X1166 (v := (-1 : Int32)) (dcmp_pinf D_z2.isFin _) own_d_prog_20_method_1_code_195 (pc' := 196) rfl ?_
  refine own_ifT X1166 (by decide) own_d_prog_20_method_1_code_196 (pc' := 218) (by decide) (by decide) ?_
  refine own_iinc X1166 (Ls' := #[oA a1, oA a2, oA a3, oA a4, oI 4, oI 0, oI 3, oI 3, oI 1]) rfl (by decide) rfl own_d_prog_20_method_1_code_218 (pc' := 221) rfl ?_
  refine own_goto X1166 own_d_prog_20_method_1_code_221 (pc' := 84) (by decide) (by decide) ?_
  refine own_iload X1166 rfl own_d_prog_20_method_1_code_84 (pc' := 86) rfl ?_
  refine own_iload X1166 rfl own_d_prog_20_method_1_code_86 (pc' := 88) rfl ?_
  refine own_icmpF X1166 (by decide) own_d_prog_20_method_1_code_88 (pc' := 91) rfl ?_
  refine own_aloadN X1166 rfl rfl own_d_prog_20_method_1_code_91 (pc' := 92) rfl ?_
  refine own_iload X1166 rfl own_d_prog_20_method_1_code_92 (pc' := 94) rfl ?_
  refine own_iaload X1166 V1174 (i := 3) (by decide) (by decide) rfl own_d_prog_20_method_1_code_94 (pc' := 95) rfl ?_
  refine own_istore X1166 (Ls' := #[oA a1, oA a2, oA a3, oA a4, oI 4, oI 0, oI 3, oI (-1), oI 1]) rfl own_d_prog_20_method_1_code_95 (pc' := 97) rfl ?_
  refine own_iload X1166 rfl own_d_prog_20_method_1_code_97 (pc' := 99) rfl ?_
  refine own_iload X1166 rfl own_d_prog_20_method_1_code_99 (pc' := 101) rfl ?_
  refine own_iconst X1166 (v := (1 : Int32)) (by decide) own_d_prog_20_method_1_code_101 (pc' := 102) rfl ?_
  refine own_isub X1166 (v := (3 : Int32)) (by decide) own_d_prog_20_method_1_code_102 (pc' := 103) rfl ?_
  refine own_icmpF X1166 (by decide) own_d_prog_20_method_1_code_103 (pc' := 106) rfl ?_
  refine own_iload X1166 rfl own_d_prog_20_method_1_code_106 (pc' := 108) rfl ?_
  refine own_iconst X1166 (v := (-1 : Int32)) (by decide) own_d_prog_20_method_1_code_108 (pc' := 109) rfl ?_
  refine own_icmpF X1166 (by decide) own_d_prog_20_method_1_code_109 (pc' := 112) rfl ?_
  refine own_iconst X1166 (v := (1 : Int32)) (by decide) own_d_prog_20_method_1_code_112 (pc' := 113) rfl ?_
  refine own_goto X1166 own_d_prog_20_method_1_code_113 (pc' := 139) (by decide) (by decide) ?_
  refine own_istore X1166 (Ls' := #[oA a1, oA a2, oA a3, oA a4, oI 4, oI 0, oI 3, oI (-1), oI 1]) rfl own_d_prog_20_method_1_code_139 (pc' := 141) rfl ?_
  refine own_iload X1166 rfl own_d_prog_20_method_1_code_141 (pc' := 143) rfl ?_
  refine own_ifT X1166 (by decide) own_d_prog_20_method_1_code_143 (pc' := 163) (by decide) (by decide) ?_
  refine own_iload X1166 rfl own_d_prog_20_method_1_code_163 (pc' := 165) rfl ?_
  refine own_ifT X1166 (by decide) own_d_prog_20_method_1_code_165 (pc' := 218) (by decide) (by decide) ?_
  refine own_iinc X1166 (Ls' := #[oA a1, oA a2, oA a3, oA a4, oI 4, oI 0, oI 4, oI (-1), oI 1]) rfl (by decide) rfl own_d_prog_20_method_1_code_218 (pc' := 221) rfl ?_
  refine own_goto X1166 own_d_prog_20_method_1_code_221 (pc' := 84) (by decide) (by decide) ?_
  refine own_iload X1166 rfl own_d_prog_20_method_1_code_84 (pc' := 86) rfl ?_
  refine own_iload X1166 rfl own_d_prog_20_method_1_code_86 (pc' := 88) rfl ?_
  refine own_icmpT X1166 (by decide) own_d_prog_20_method_1_code_88 (pc' := 224) (by decide) (by decide) ?_
  refine own_iconst X1166 (v := (0 : Int32)) (by decide) own_d_prog_20_method_1_code_224 (pc' := 225) rfl ?_
  refine own_istore X1166 (Ls' := #[oA a1, oA a2, oA a3, oA a4, oI 4, oI 0, oI 0, oI (-1), oI 1]) rfl own_d_prog_20_method_1_code_225 (pc' := 227) rfl ?_
  refine own_iload X1166 rfl own_d_prog_20_method_1_code_227 (pc' := 229) rfl ?_
  refine own_iload X1166 rfl own_d_prog_20_method_1_code_229 (pc' := 231) rfl ?_
  refine own_icmpF X1166 (by decide) own_d_prog_20_method_1_code_231 (pc' := 234) rfl ?_
  refine own_aloadN X1166 rfl rfl own_d_prog_20_method_1_code_234 (pc' := 235) rfl ?_
  refine own_getF X1166 (ww 71 rfl) F1168 own_d_prog_20_method_1_code_235 (pc' := 238) rfl fun T1189 X1189 => ?_
  refine own_iload X1189 rfl own_d_prog_20_method_1_code_238 (pc' := 240) rfl ?_
  refine own_iaload X1189 V1166 (i := 0) (by decide) (by decide) rfl own_d_prog_20_method_1_code_240 (pc' := 241) rfl ?_
  refine own_ifF X1189 (by decide) own_d_prog_20_method_1_code_241 (pc' := 244) rfl ?_
  refine own_iinc X1189 (Ls' := #[oA a1, oA a2, oA a3, oA a4, oI 4, oI 1, oI 0, oI (-1), oI 1]) rfl (by decide) rfl own_d_prog_20_method_1_code_244 (pc' := 247) rfl ?_
  refine own_aloadN X1189 rfl rfl own_d_prog_20_method_1_code_247 (pc' := 248) rfl ?_
  refine own_iload X1189 rfl own_d_prog_20_method_1_code_248 (pc' := 250) rfl ?_
  refine own_aaload X1189 V1178 rfl (i := 0) (by decide) (by decide) rfl own_d_prog_20_method_1_code_250 (pc' := 251) rfl ?_
  refine own_ifnonnullT X1189 own_d_prog_20_method_1_code_251 (pc' := 269) (by decide) (by decide) ?_
  refine own_iinc X1189 (Ls' := #[oA a1, oA a2, oA a3, oA a4, oI 4, oI 1, oI 1, oI (-1), oI 1]) rfl (by decide) rfl own_d_prog_20_method_1_code_269 (pc' := 272) rfl ?_
  refine own_goto X1189 own_d_prog_20_method_1_code_272 (pc' := 227) (by decide) (by decide) ?_
  refine own_iload X1189 rfl own_d_prog_20_method_1_code_227 (pc' := 229) rfl ?_
  refine own_iload X1189 rfl own_d_prog_20_method_1_code_229 (pc' := 231) rfl ?_
  refine own_icmpF X1189 (by decide) own_d_prog_20_method_1_code_231 (pc' := 234) rfl ?_
  refine own_aloadN X1189 rfl rfl own_d_prog_20_method_1_code_234 (pc' := 235) rfl ?_
  refine own_getF X1189 (ww 71 rfl) F1168 own_d_prog_20_method_1_code_235 (pc' := 238) rfl fun T1190 X1190 => ?_
  refine own_iload X1190 rfl own_d_prog_20_method_1_code_238 (pc' := 240) rfl ?_
  refine own_iaload X1190 V1166 (i := 1) (by decide) (by decide) rfl own_d_prog_20_method_1_code_240 (pc' := 241) rfl ?_
  refine own_ifF X1190 (by decide) own_d_prog_20_method_1_code_241 (pc' := 244) rfl ?_
  refine own_iinc X1190 (Ls' := #[oA a1, oA a2, oA a3, oA a4, oI 4, oI 2, oI 1, oI (-1), oI 1]) rfl (by decide) rfl own_d_prog_20_method_1_code_244 (pc' := 247) rfl ?_
  refine own_aloadN X1190 rfl rfl own_d_prog_20_method_1_code_247 (pc' := 248) rfl ?_
  refine own_iload X1190 rfl own_d_prog_20_method_1_code_248 (pc' := 250) rfl ?_
  refine own_aaload X1190 V1178 rfl (i := 1) (by decide) (by decide) rfl own_d_prog_20_method_1_code_250 (pc' := 251) rfl ?_
  refine own_ifnonnullT X1190 own_d_prog_20_method_1_code_251 (pc' := 269) (by decide) (by decide) ?_
  refine own_iinc X1190 (Ls' := #[oA a1, oA a2, oA a3, oA a4, oI 4, oI 2, oI 2, oI (-1), oI 1]) rfl (by decide) rfl own_d_prog_20_method_1_code_269 (pc' := 272) rfl ?_
  refine own_goto X1190 own_d_prog_20_method_1_code_272 (pc' := 227) (by decide) (by decide) ?_
  refine own_iload X1190 rfl own_d_prog_20_method_1_code_227 (pc' := 229) rfl ?_
  refine own_iload X1190 rfl own_d_prog_20_method_1_code_229 (pc' := 231) rfl ?_
  refine own_icmpF X1190 (by decide) own_d_prog_20_method_1_code_231 (pc' := 234) rfl ?_
  refine own_aloadN X1190 rfl rfl own_d_prog_20_method_1_code_234 (pc' := 235) rfl ?_
  refine own_getF X1190 (ww 71 rfl) F1168 own_d_prog_20_method_1_code_235 (pc' := 238) rfl fun T1191 X1191 => ?_
  refine own_iload X1191 rfl own_d_prog_20_method_1_code_238 (pc' := 240) rfl ?_
  refine own_iaload X1191 V1166 (i := 2) (by decide) (by decide) rfl own_d_prog_20_method_1_code_240 (pc' := 241) rfl ?_
  refine own_ifT X1191 (by decide) own_d_prog_20_method_1_code_241 (pc' := 269) (by decide) (by decide) ?_
  refine own_iinc X1191 (Ls' := #[oA a1, oA a2, oA a3, oA a4, oI 4, oI 2, oI 3, oI (-1), oI 1]) rfl (by decide) rfl own_d_prog_20_method_1_code_269 (pc' := 272) rfl ?_
  refine own_goto X1191 own_d_prog_20_method_1_code_272 (pc' := 227) (by decide) (by decide) ?_
  refine own_iload X1191 rfl own_d_prog_20_method_1_code_227 (pc' := 229) rfl ?_
  refine own_iload X1191 rfl own_d_prog_20_method_1_code_229 (pc' := 231) rfl ?_
  refine own_icmpF X1191 (by decide) own_d_prog_20_method_1_code_231 (pc' := 234) rfl ?_
  refine own_aloadN X1191 rfl rfl own_d_prog_20_method_1_code_234 (pc' := 235) rfl ?_
  refine own_getF X1191 (ww 71 rfl) F1168 own_d_prog_20_method_1_code_235 (pc' := 238) rfl fun T1192 X1192 => ?_
  refine own_iload X1192 rfl own_d_prog_20_method_1_code_238 (pc' := 240) rfl ?_
  refine own_iaload X1192 V1166 (i := 3) (by decide) (by decide) rfl own_d_prog_20_method_1_code_240 (pc' := 241) rfl ?_
  refine own_ifT X1192 (by decide) own_d_prog_20_method_1_code_241 (pc' := 269) (by decide) (by decide) ?_
  refine own_iinc X1192 (Ls' := #[oA a1, oA a2, oA a3, oA a4, oI 4, oI 2, oI 4, oI (-1), oI 1]) rfl (by decide) rfl own_d_prog_20_method_1_code_269 (pc' := 272) rfl ?_
  refine own_goto X1192 own_d_prog_20_method_1_code_272 (pc' := 227) (by decide) (by decide) ?_
  refine own_iload X1192 rfl own_d_prog_20_method_1_code_227 (pc' := 229) rfl ?_
  refine own_iload X1192 rfl own_d_prog_20_method_1_code_229 (pc' := 231) rfl ?_
  refine own_icmpT X1192 (by decide) own_d_prog_20_method_1_code_231 (pc' := 275) (by decide) (by decide) ?_
  refine own_aloadN X1192 rfl rfl own_d_prog_20_method_1_code_275 (pc' := 276) rfl ?_
  refine own_iload X1192 rfl own_d_prog_20_method_1_code_276 (pc' := 278) rfl ?_
  refine own_putF X1192 (ww 74 rfl) F1172 A1167 (Or.inr ⟨(ww 75 rfl), rfl, rfl⟩) (ww 38 rfl) (ty := .int) (by decide) rfl rfl ge1 own_d_prog_20_method_1_code_278 (pc' := 281) rfl fun T1193 h1193 X1193 W1193 => ?_
  have A1194 := A1167.wr W1193
  have A1195 := A1173.wr W1193
  have V1196 := V1174.other W1193 N2.symm
  have A1197 := A1175.wr W1193
  have V1198 := V1176.other W1193 N3.symm
  have A1199 := A1177.wr W1193
  have V1200 := V1178.other W1193 N4.symm
  have A1201 := A1179.wr W1193
  have V1202 := V1180.other W1193 ne945.symm
  have A1203 := A1181.wr W1193
  have V1204 := V1182.other W1193 ne981.symm
  have A1205 := A1183.wr W1193
  have V1206 := V1184.other W1193 ne1022.symm
  have A1207 := A1185.wr W1193
  have V1208 := V1166.other W1193 ne1068.symm
  have K1209 := K1186.wr W1193 (Or.inl (by simp))
  have F1210 := F1172.same W1193
  have F1211 := F1168.other W1193 (Or.inr (slot_ne (C := "com/example/cladewalk/cladewalk/tree/Tree") (Or.inr (ww 72 rfl)) (Or.inr (ww 75 rfl)) (by decide) (t := (.array .int)) (t' := .int) (by decide) (by decide)))
  have F1212 := F1169.other W1193 (Or.inr (slot_ne (C := "com/example/cladewalk/cladewalk/tree/Tree") (Or.inr (ww 70 rfl)) (Or.inr (ww 75 rfl)) (by decide) (t := (.array (.object "java/lang/String"))) (t' := .int) (by decide) (by decide)))
  have F1213 := F1170.other W1193 (Or.inr (slot_ne (C := "com/example/cladewalk/cladewalk/tree/Tree") (Or.inr (ww 62 rfl)) (Or.inr (ww 75 rfl)) (by decide) (t := (.array .double)) (t' := .int) (by decide) (by decide)))
  have F1214 := F1171.other W1193 (Or.inr (slot_ne (C := "com/example/cladewalk/cladewalk/tree/Tree") (Or.inr (ww 54 rfl)) (Or.inr (ww 75 rfl)) (by decide) (t := (.array .int)) (t' := .int) (by decide) (by decide)))
  exact own_retV X1193  own_d_prog_20_method_1_code_281 rfl (by decide) (by decide) ⟨rfl, ⟨_, _, F1211, F1212, V1208, V1206⟩, K1209⟩
abbrev own_rm_own_ti_32 : Room := ({ frames := 1, cells := 4, slots := 16, locals := 15 } : Room)
set_option maxRecDepth 65536 in
set_option maxHeartbeats 40000000 in
theorem own_ti_32 (l : Launch) (Z : State) (a0 : Array Value) (hw : ∀ d ∈ tables_1, d.before a0 Z = true) (a1 a2 a3 a4 : Addr) (z0 : UInt64) (i_z0 : Int) (z1 : UInt64) (i_z1 : Int) (z2 : UInt64) (i_z2 : Int) (s0 : Addr) (s1 : Addr) (v2 : Value) (v3 : Value) (h0 : Heap) (n0 : Nat) (Z0 : n0 ≤ h0.size) (ge1 : n0 ≤ a1) (A1 : Exa Z h0 a1 "com/example/cladewalk/cladewalk/tree/Tree") (F0 : Fld Z h0 a1 "com/example/cladewalk/cladewalk/tree/Tree" "parents" "[I" .null) (F1 : Fld Z h0 a1 "com/example/cladewalk/cladewalk/tree/Tree" "lengths" "[D" .null) (F2 : Fld Z h0 a1 "com/example/cladewalk/cladewalk/tree/Tree" "names" "[Ljava/lang/String;" .null) (F3 : Fld Z h0 a1 "com/example/cladewalk/cladewalk/tree/Tree" "childCounts" "[I" .null) (F4 : Fld Z h0 a1 "com/example/cladewalk/cladewalk/tree/Tree" "tipCount" "I" (.int (0 : Int32))) (V1 : own_Vec Z h0 a2 .int [(.int (3 : Int32)), (.int (2 : Int32)), (.int (3 : Int32)), (.int (-1 : Int32))]) (V2 : own_Vec Z h0 a3 .double [(.double z0), (.double z1), (.double z2), (.double (0 : UInt64))]) (V3 : own_Vec Z h0 a4 (.object "java/lang/String") [(.ref s0), (.ref s1), v2, v3]) (B1 : Exa Z h0 a2 "[I") (B2 : Exa Z h0 a3 "[D") (B3 : Exa Z h0 a4 "[Ljava/lang/String;") (N2 : a1 ≠ a2) (N3 : a1 ≠ a3) (N4 : a1 ≠ a4) (D_z0 : own_D 0 7 i_z0 z0) (hi_z0 : 0 ≤ i_z0) (D_z1 : own_D 0 7 i_z1 z1) (hi_z1 : 0 ≤ i_z1) (D_z2 : own_D 0 7 i_z2 z2) (hi_z2 : 0 ≤ i_z2) (fq_v2 : fits (.object "java/lang/String") v2 = true) (fq_v3 : fits (.object "java/lang/String") v3 = true) :
    own_Met l Z ({ cls := "com/example/cladewalk/cladewalk/tree/Tree", name := "<init>", desc := "([I[D[Ljava/lang/String;)V" } : Jvm.MethodName) prog_20_method_1_code 9 none [] own_rm_own_ti_32 #[(.ref a1), (.ref a2), (.ref a3), (.ref a4)] h0 n0 (fun v h => v = none ∧ (∃ x y, Fld Z h a1 "com/example/cladewalk/cladewalk/tree/Tree" "childCounts" "[I" (.ref x) ∧ Fld Z h a1 "com/example/cladewalk/cladewalk/tree/Tree" "names" "[Ljava/lang/String;" (.ref y) ∧ own_Vec Z h x .int [(.int (0 : Int32)), (.int (0 : Int32)), (.int (1 : Int32)), (.int (2 : Int32))] ∧ own_Vec Z h y (.object "java/lang/String") [(.ref s0), (.ref s1), v2, v3]) ∧ Keep h0 h [a1]) := by
  have ww := fun (i : Nat) {d : Jvm.Cond} (q : tables_1[i]? = some d) => hw d (List.mem_of_getElem? q)
  refine own_meet (plainFor_of_name own_pn4) Z0 (Ls0 := #[oA a1, oA a2, oA a3, oA a4, oU, oU, oU, oU, oU]) (by intro m; first | (simp [entryFrame, mkF, argsToLocals, Value.category]; done) | rfl) ?_
  intro p e s m below meth c T0 X0
  have K0 := Keep.refl h0 [a1]
  refine own_aloadN X0 rfl rfl own_d_prog_20_method_1_code_0 (pc' := 1) rfl ?_
  refine own_initO X0 (ww 43 rfl) (ww 16 rfl) (ww 17 rfl) rfl (by decide) (W := 0) (Nat.le_of_eq rfl) (by decide) own_d_prog_20_method_1_code_1 (pc' := 4) rfl fun T1215 X1215 => ?_
  refine own_aloadN X1215 rfl rfl own_d_prog_20_method_1_code_4 (pc' := 5) rfl ?_
  refine own_len X1215 V1 (v := (4 : Int32)) (show (4 : Nat).toInt32 = (4 : Int32) by decide) own_d_prog_20_method_1_code_5 (pc' := 6) rfl ?_
  refine own_istore X1215 (Ls' := #[oA a1, oA a2, oA a3, oA a4, oI 4, oU, oU, oU, oU]) rfl own_d_prog_20_method_1_code_6 (pc' := 8) rfl ?_
  refine own_iload X1215 rfl own_d_prog_20_method_1_code_8 (pc' := 10) rfl ?_
  refine own_ifF X1215 (by decide) own_d_prog_20_method_1_code_10 (pc' := 13) rfl ?_
  refine own_aloadN X1215 rfl rfl own_d_prog_20_method_1_code_13 (pc' := 14) rfl ?_
  refine own_len X1215 V2 (v := (4 : Int32)) (show (4 : Nat).toInt32 = (4 : Int32) by decide) own_d_prog_20_method_1_code_14 (pc' := 15) rfl ?_
  refine own_iload X1215 rfl own_d_prog_20_method_1_code_15 (pc' := 17) rfl ?_
  refine own_icmpF X1215 (by decide) own_d_prog_20_method_1_code_17 (pc' := 20) rfl ?_
  refine own_aloadN X1215 rfl rfl own_d_prog_20_method_1_code_20 (pc' := 21) rfl ?_
  refine own_len X1215 V3 (v := (4 : Int32)) (show (4 : Nat).toInt32 = (4 : Int32) by decide) own_d_prog_20_method_1_code_21 (pc' := 22) rfl ?_
  refine own_iload X1215 rfl own_d_prog_20_method_1_code_22 (pc' := 24) rfl ?_
  refine own_icmpT X1215 (by decide) own_d_prog_20_method_1_code_24 (pc' := 37) (by decide) (by decide) ?_
  refine own_aloadN X1215 rfl rfl own_d_prog_20_method_1_code_37 (pc' := 38) rfl ?_
  refine own_aloadN X1215 rfl rfl own_d_prog_20_method_1_code_38 (pc' := 39) rfl ?_
  refine own_clone X1215 (ad := "[I") (ww 44 rfl) (ww 45 rfl) (ww 49 rfl) (ww 47 rfl) (ww 48 rfl) (ww 50 rfl) V1 B1 (own_fitS rfl (own_fitS rfl (own_fitS rfl (own_fitS rfl own_fit0)))) (n := 4) rfl rfl (by decide) (W := 1) (Nat.le_of_eq rfl) (by decide) (cells' := 1) (slots' := 4) rfl rfl (by decide) (by decide) own_d_prog_20_method_1_code_39 (pc' := 42) rfl fun a1216 T1216 h1216 g1216 ge1216 X1216 E1216 V1216 A1216 => ?_
  have ne1217 : a1 ≠ a1216 := own_lt_ne A1.lt g1216
  have ne1218 : a2 ≠ a1216 := own_lt_ne V1.lt g1216
  have ne1219 : a3 ≠ a1216 := own_lt_ne V2.lt g1216
  have ne1220 : a4 ≠ a1216 := own_lt_ne V3.lt g1216
  have sz1221 := own_ge K0 g1216
  have A1222 := A1.ext E1216
  have F1223 := F0.ext E1216
  have F1224 := F1.ext E1216
  have F1225 := F2.ext E1216
  have F1226 := F3.ext E1216
  have F1227 := F4.ext E1216
  have V1228 := V1.ext E1216
  have A1229 := B1.ext E1216
  have V1230 := V2.ext E1216
  have A1231 := B2.ext E1216
  have V1232 := V3.ext E1216
  have A1233 := B3.ext E1216
  have K1234 := K0.ext E1216
  refine own_cast_ X1216 (ww 51 rfl) A1216 own_d_prog_20_method_1_code_42 (pc' := 45) rfl fun T1235 X1235 => ?_
  refine own_putF X1235 (ww 53 rfl) F1223 A1222 (Or.inr ⟨(ww 54 rfl), rfl, rfl⟩) (ww 38 rfl) (ty := (.array .int)) (by decide) rfl rfl ge1 own_d_prog_20_method_1_code_45 (pc' := 48) rfl fun T1236 h1236 X1236 W1236 => ?_
  have A1237 := A1222.wr W1236
  have A1238 := A1229.wr W1236
  have V1239 := V1228.other W1236 N2.symm
  have A1240 := A1231.wr W1236
  have V1241 := V1230.other W1236 N3.symm
  have A1242 := A1233.wr W1236
  have V1243 := V1232.other W1236 N4.symm
  have A1244 := A1216.wr W1236
  have V1245 := V1216.other W1236 ne1217.symm
  have K1246 := K1234.wr W1236 (Or.inl (by simp))
  have F1247 := F1223.same W1236
  have F1248 := F1224.other W1236 (Or.inr (slot_ne (C := "com/example/cladewalk/cladewalk/tree/Tree") (Or.inr (ww 62 rfl)) (Or.inr (ww 54 rfl)) (by decide) (t := (.array .double)) (t' := (.array .int)) (by decide) (by decide)))
  have F1249 := F1225.other W1236 (Or.inr (slot_ne (C := "com/example/cladewalk/cladewalk/tree/Tree") (Or.inr (ww 70 rfl)) (Or.inr (ww 54 rfl)) (by decide) (t := (.array (.object "java/lang/String"))) (t' := (.array .int)) (by decide) (by decide)))
  have F1250 := F1226.other W1236 (Or.inr (slot_ne (C := "com/example/cladewalk/cladewalk/tree/Tree") (Or.inr (ww 72 rfl)) (Or.inr (ww 54 rfl)) (by decide) (t := (.array .int)) (t' := (.array .int)) (by decide) (by decide)))
  have F1251 := F1227.other W1236 (Or.inr (slot_ne (C := "com/example/cladewalk/cladewalk/tree/Tree") (Or.inr (ww 75 rfl)) (Or.inr (ww 54 rfl)) (by decide) (t := .int) (t' := (.array .int)) (by decide) (by decide)))
  refine own_aloadN X1236 rfl rfl own_d_prog_20_method_1_code_48 (pc' := 49) rfl ?_
  refine own_aloadN X1236 rfl rfl own_d_prog_20_method_1_code_49 (pc' := 50) rfl ?_
  refine own_clone X1236 (ad := "[D") (ww 55 rfl) (ww 56 rfl) (ww 49 rfl) (ww 47 rfl) (ww 57 rfl) (ww 58 rfl) V1241 A1240 (own_fitS rfl (own_fitS rfl (own_fitS rfl (own_fitS rfl own_fit0)))) (n := 4) rfl rfl (by decide) (W := 1) (Nat.le_of_eq rfl) (by decide) (cells' := 2) (slots' := 8) rfl rfl (by decide) (by decide) own_d_prog_20_method_1_code_50 (pc' := 53) rfl fun a1252 T1252 h1252 g1252 ge1252 X1252 E1252 V1252 A1252 => ?_
  have ne1253 : a1 ≠ a1252 := own_lt_ne A1237.lt g1252
  have ne1254 : a2 ≠ a1252 := own_lt_ne V1239.lt g1252
  have ne1255 : a3 ≠ a1252 := own_lt_ne V1241.lt g1252
  have ne1256 : a4 ≠ a1252 := own_lt_ne V1243.lt g1252
  have ne1257 : a1216 ≠ a1252 := own_lt_ne V1245.lt g1252
  have sz1258 := own_ge K1246 g1252
  have A1259 := A1237.ext E1252
  have F1260 := F1247.ext E1252
  have F1261 := F1248.ext E1252
  have F1262 := F1249.ext E1252
  have F1263 := F1250.ext E1252
  have F1264 := F1251.ext E1252
  have V1265 := V1239.ext E1252
  have A1266 := A1238.ext E1252
  have V1267 := V1241.ext E1252
  have A1268 := A1240.ext E1252
  have V1269 := V1243.ext E1252
  have A1270 := A1242.ext E1252
  have V1271 := V1245.ext E1252
  have A1272 := A1244.ext E1252
  have K1273 := K1246.ext E1252
  refine own_cast_ X1252 (ww 59 rfl) A1252 own_d_prog_20_method_1_code_53 (pc' := 56) rfl fun T1274 X1274 => ?_
  refine own_putF X1274 (ww 61 rfl) F1261 A1259 (Or.inr ⟨(ww 62 rfl), rfl, rfl⟩) (ww 38 rfl) (ty := (.array .double)) (by decide) rfl rfl ge1 own_d_prog_20_method_1_code_56 (pc' := 59) rfl fun T1275 h1275 X1275 W1275 => ?_
  have A1276 := A1259.wr W1275
  have A1277 := A1266.wr W1275
  have V1278 := V1265.other W1275 N2.symm
  have A1279 := A1268.wr W1275
  have V1280 := V1267.other W1275 N3.symm
  have A1281 := A1270.wr W1275
  have V1282 := V1269.other W1275 N4.symm
  have A1283 := A1272.wr W1275
  have V1284 := V1271.other W1275 ne1217.symm
  have A1285 := A1252.wr W1275
  have V1286 := V1252.other W1275 ne1253.symm
  have K1287 := K1273.wr W1275 (Or.inl (by simp))
  have F1288 := F1261.same W1275
  have F1289 := F1260.other W1275 (Or.inr (slot_ne (C := "com/example/cladewalk/cladewalk/tree/Tree") (Or.inr (ww 54 rfl)) (Or.inr (ww 62 rfl)) (by decide) (t := (.array .int)) (t' := (.array .double)) (by decide) (by decide)))
  have F1290 := F1262.other W1275 (Or.inr (slot_ne (C := "com/example/cladewalk/cladewalk/tree/Tree") (Or.inr (ww 70 rfl)) (Or.inr (ww 62 rfl)) (by decide) (t := (.array (.object "java/lang/String"))) (t' := (.array .double)) (by decide) (by decide)))
  have F1291 := F1263.other W1275 (Or.inr (slot_ne (C := "com/example/cladewalk/cladewalk/tree/Tree") (Or.inr (ww 72 rfl)) (Or.inr (ww 62 rfl)) (by decide) (t := (.array .int)) (t' := (.array .double)) (by decide) (by decide)))
  have F1292 := F1264.other W1275 (Or.inr (slot_ne (C := "com/example/cladewalk/cladewalk/tree/Tree") (Or.inr (ww 75 rfl)) (Or.inr (ww 62 rfl)) (by decide) (t := .int) (t' := (.array .double)) (by decide) (by decide)))
  refine own_aloadN X1275 rfl rfl own_d_prog_20_method_1_code_59 (pc' := 60) rfl ?_
  refine own_aloadN X1275 rfl rfl own_d_prog_20_method_1_code_60 (pc' := 61) rfl ?_
  refine own_clone X1275 (ad := "[Ljava/lang/String;") (ww 63 rfl) (ww 64 rfl) (ww 49 rfl) (ww 47 rfl) (ww 65 rfl) (ww 66 rfl) V1282 A1281 (own_fitS rfl (own_fitS rfl (own_fitS fq_v2 (own_fitS fq_v3 own_fit0)))) (n := 4) rfl rfl (by decide) (W := 1) (Nat.le_of_eq rfl) (by decide) (cells' := 3) (slots' := 12) rfl rfl (by decide) (by decide) own_d_prog_20_method_1_code_61 (pc' := 64) rfl fun a1293 T1293 h1293 g1293 ge1293 X1293 E1293 V1293 A1293 => ?_
  have ne1294 : a1 ≠ a1293 := own_lt_ne A1276.lt g1293
  have ne1295 : a2 ≠ a1293 := own_lt_ne V1278.lt g1293
  have ne1296 : a3 ≠ a1293 := own_lt_ne V1280.lt g1293
  have ne1297 : a4 ≠ a1293 := own_lt_ne V1282.lt g1293
  have ne1298 : a1216 ≠ a1293 := own_lt_ne V1284.lt g1293
  have ne1299 : a1252 ≠ a1293 := own_lt_ne V1286.lt g1293
  have sz1300 := own_ge K1287 g1293
  have A1301 := A1276.ext E1293
  have F1302 := F1288.ext E1293
  have F1303 := F1289.ext E1293
  have F1304 := F1290.ext E1293
  have F1305 := F1291.ext E1293
  have F1306 := F1292.ext E1293
  have V1307 := V1278.ext E1293
  have A1308 := A1277.ext E1293
  have V1309 := V1280.ext E1293
  have A1310 := A1279.ext E1293
  have V1311 := V1282.ext E1293
  have A1312 := A1281.ext E1293
  have V1313 := V1284.ext E1293
  have A1314 := A1283.ext E1293
  have V1315 := V1286.ext E1293
  have A1316 := A1285.ext E1293
  have K1317 := K1287.ext E1293
  refine own_cast_ X1293 (ww 67 rfl) A1293 own_d_prog_20_method_1_code_64 (pc' := 67) rfl fun T1318 X1318 => ?_
  refine own_putF X1318 (ww 69 rfl) F1304 A1301 (Or.inr ⟨(ww 70 rfl), rfl, rfl⟩) (ww 38 rfl) (ty := (.array (.object "java/lang/String"))) (by decide) rfl rfl ge1 own_d_prog_20_method_1_code_67 (pc' := 70) rfl fun T1319 h1319 X1319 W1319 => ?_
  have A1320 := A1301.wr W1319
  have A1321 := A1308.wr W1319
  have V1322 := V1307.other W1319 N2.symm
  have A1323 := A1310.wr W1319
  have V1324 := V1309.other W1319 N3.symm
  have A1325 := A1312.wr W1319
  have V1326 := V1311.other W1319 N4.symm
  have A1327 := A1314.wr W1319
  have V1328 := V1313.other W1319 ne1217.symm
  have A1329 := A1316.wr W1319
  have V1330 := V1315.other W1319 ne1253.symm
  have A1331 := A1293.wr W1319
  have V1332 := V1293.other W1319 ne1294.symm
  have K1333 := K1317.wr W1319 (Or.inl (by simp))
  have F1334 := F1304.same W1319
  have F1335 := F1302.other W1319 (Or.inr (slot_ne (C := "com/example/cladewalk/cladewalk/tree/Tree") (Or.inr (ww 62 rfl)) (Or.inr (ww 70 rfl)) (by decide) (t := (.array .double)) (t' := (.array (.object "java/lang/String"))) (by decide) (by decide)))
  have F1336 := F1303.other W1319 (Or.inr (slot_ne (C := "com/example/cladewalk/cladewalk/tree/Tree") (Or.inr (ww 54 rfl)) (Or.inr (ww 70 rfl)) (by decide) (t := (.array .int)) (t' := (.array (.object "java/lang/String"))) (by decide) (by decide)))
  have F1337 := F1305.other W1319 (Or.inr (slot_ne (C := "com/example/cladewalk/cladewalk/tree/Tree") (Or.inr (ww 72 rfl)) (Or.inr (ww 70 rfl)) (by decide) (t := (.array .int)) (t' := (.array (.object "java/lang/String"))) (by decide) (by decide)))
  have F1338 := F1306.other W1319 (Or.inr (slot_ne (C := "com/example/cladewalk/cladewalk/tree/Tree") (Or.inr (ww 75 rfl)) (Or.inr (ww 70 rfl)) (by decide) (t := .int) (t' := (.array (.object "java/lang/String"))) (by decide) (by decide)))
  refine own_aloadN X1319 rfl rfl own_d_prog_20_method_1_code_70 (pc' := 71) rfl ?_
  refine own_iload X1319 rfl own_d_prog_20_method_1_code_71 (pc' := 73) rfl ?_
  refine own_newarrayE X1319 (ty := .int) rfl (ad := "[I") (by decide) (ww 34 rfl) (n := 4) (vs := [(.int (0 : Int32)), (.int (0 : Int32)), (.int (0 : Int32)), (.int (0 : Int32))]) (by decide) (by decide) (by decide) rfl (cells' := 4) (slots' := 16) rfl rfl (by decide) (by decide) own_d_prog_20_method_1_code_73 (pc' := 75) rfl fun a1339 T1339 h1339 g1339 ge1339 X1339 E1339 V1339 A1339 => ?_
  have ne1340 : a1 ≠ a1339 := own_lt_ne A1320.lt g1339
  have ne1341 : a2 ≠ a1339 := own_lt_ne V1322.lt g1339
  have ne1342 : a3 ≠ a1339 := own_lt_ne V1324.lt g1339
  have ne1343 : a4 ≠ a1339 := own_lt_ne V1326.lt g1339
  have ne1344 : a1216 ≠ a1339 := own_lt_ne V1328.lt g1339
  have ne1345 : a1252 ≠ a1339 := own_lt_ne V1330.lt g1339
  have ne1346 : a1293 ≠ a1339 := own_lt_ne V1332.lt g1339
  have sz1347 := own_ge K1333 g1339
  have A1348 := A1320.ext E1339
  have F1349 := F1334.ext E1339
  have F1350 := F1335.ext E1339
  have F1351 := F1336.ext E1339
  have F1352 := F1337.ext E1339
  have F1353 := F1338.ext E1339
  have V1354 := V1322.ext E1339
  have A1355 := A1321.ext E1339
  have V1356 := V1324.ext E1339
  have A1357 := A1323.ext E1339
  have V1358 := V1326.ext E1339
  have A1359 := A1325.ext E1339
  have V1360 := V1328.ext E1339
  have A1361 := A1327.ext E1339
  have V1362 := V1330.ext E1339
  have A1363 := A1329.ext E1339
  have V1364 := V1332.ext E1339
  have A1365 := A1331.ext E1339
  have K1366 := K1333.ext E1339
  refine own_putF X1339 (ww 71 rfl) F1352 A1348 (Or.inr ⟨(ww 72 rfl), rfl, rfl⟩) (ww 38 rfl) (ty := (.array .int)) (by decide) rfl rfl ge1 own_d_prog_20_method_1_code_75 (pc' := 78) rfl fun T1367 h1367 X1367 W1367 => ?_
  have A1368 := A1348.wr W1367
  have A1369 := A1355.wr W1367
  have V1370 := V1354.other W1367 N2.symm
  have A1371 := A1357.wr W1367
  have V1372 := V1356.other W1367 N3.symm
  have A1373 := A1359.wr W1367
  have V1374 := V1358.other W1367 N4.symm
  have A1375 := A1361.wr W1367
  have V1376 := V1360.other W1367 ne1217.symm
  have A1377 := A1363.wr W1367
  have V1378 := V1362.other W1367 ne1253.symm
  have A1379 := A1365.wr W1367
  have V1380 := V1364.other W1367 ne1294.symm
  have A1381 := A1339.wr W1367
  have V1382 := V1339.other W1367 ne1340.symm
  have K1383 := K1366.wr W1367 (Or.inl (by simp))
  have F1384 := F1352.same W1367
  have F1385 := F1349.other W1367 (Or.inr (slot_ne (C := "com/example/cladewalk/cladewalk/tree/Tree") (Or.inr (ww 70 rfl)) (Or.inr (ww 72 rfl)) (by decide) (t := (.array (.object "java/lang/String"))) (t' := (.array .int)) (by decide) (by decide)))
  have F1386 := F1350.other W1367 (Or.inr (slot_ne (C := "com/example/cladewalk/cladewalk/tree/Tree") (Or.inr (ww 62 rfl)) (Or.inr (ww 72 rfl)) (by decide) (t := (.array .double)) (t' := (.array .int)) (by decide) (by decide)))
  have F1387 := F1351.other W1367 (Or.inr (slot_ne (C := "com/example/cladewalk/cladewalk/tree/Tree") (Or.inr (ww 54 rfl)) (Or.inr (ww 72 rfl)) (by decide) (t := (.array .int)) (t' := (.array .int)) (by decide) (by decide)))
  have F1388 := F1353.other W1367 (Or.inr (slot_ne (C := "com/example/cladewalk/cladewalk/tree/Tree") (Or.inr (ww 75 rfl)) (Or.inr (ww 72 rfl)) (by decide) (t := .int) (t' := (.array .int)) (by decide) (by decide)))
  refine own_iconst X1367 (v := (0 : Int32)) (by decide) own_d_prog_20_method_1_code_78 (pc' := 79) rfl ?_
  refine own_istore X1367 (Ls' := #[oA a1, oA a2, oA a3, oA a4, oI 4, oI 0, oU, oU, oU]) rfl own_d_prog_20_method_1_code_79 (pc' := 81) rfl ?_
  refine own_iconst X1367 (v := (0 : Int32)) (by decide) own_d_prog_20_method_1_code_81 (pc' := 82) rfl ?_
  refine own_istore X1367 (Ls' := #[oA a1, oA a2, oA a3, oA a4, oI 4, oI 0, oI 0, oU, oU]) rfl own_d_prog_20_method_1_code_82 (pc' := 84) rfl ?_
  refine own_iload X1367 rfl own_d_prog_20_method_1_code_84 (pc' := 86) rfl ?_
  refine own_iload X1367 rfl own_d_prog_20_method_1_code_86 (pc' := 88) rfl ?_
  refine own_icmpF X1367 (by decide) own_d_prog_20_method_1_code_88 (pc' := 91) rfl ?_
  refine own_aloadN X1367 rfl rfl own_d_prog_20_method_1_code_91 (pc' := 92) rfl ?_
  refine own_iload X1367 rfl own_d_prog_20_method_1_code_92 (pc' := 94) rfl ?_
  refine own_iaload X1367 V1370 (i := 0) (by decide) (by decide) rfl own_d_prog_20_method_1_code_94 (pc' := 95) rfl ?_
  refine own_istore X1367 (Ls' := #[oA a1, oA a2, oA a3, oA a4, oI 4, oI 0, oI 0, oI 3, oU]) rfl own_d_prog_20_method_1_code_95 (pc' := 97) rfl ?_
  refine own_iload X1367 rfl own_d_prog_20_method_1_code_97 (pc' := 99) rfl ?_
  refine own_iload X1367 rfl own_d_prog_20_method_1_code_99 (pc' := 101) rfl ?_
  refine own_iconst X1367 (v := (1 : Int32)) (by decide) own_d_prog_20_method_1_code_101 (pc' := 102) rfl ?_
  refine own_isub X1367 (v := (3 : Int32)) (by decide) own_d_prog_20_method_1_code_102 (pc' := 103) rfl ?_
  refine own_icmpT X1367 (by decide) own_d_prog_20_method_1_code_103 (pc' := 120) (by decide) (by decide) ?_
  refine own_iload X1367 rfl own_d_prog_20_method_1_code_120 (pc' := 122) rfl ?_
  refine own_iload X1367 rfl own_d_prog_20_method_1_code_122 (pc' := 124) rfl ?_
  refine own_icmpF X1367 (by decide) own_d_prog_20_method_1_code_124 (pc' := 127) rfl ?_
  refine own_iload X1367 rfl own_d_prog_20_method_1_code_127 (pc' := 129) rfl ?_
  refine own_iload X1367 rfl own_d_prog_20_method_1_code_129 (pc' := 131) rfl ?_
  refine own_icmpF X1367 (by decide) own_d_prog_20_method_1_code_131 (pc' := 134) rfl ?_
  refine own_iconst X1367 (v := (1 : Int32)) (by decide) own_d_prog_20_method_1_code_134 (pc' := 135) rfl ?_
  refine own_goto X1367 own_d_prog_20_method_1_code_135 (pc' := 139) (by decide) (by decide) ?_
  refine own_istore X1367 (Ls' := #[oA a1, oA a2, oA a3, oA a4, oI 4, oI 0, oI 0, oI 3, oI 1]) rfl own_d_prog_20_method_1_code_139 (pc' := 141) rfl ?_
  refine own_iload X1367 rfl own_d_prog_20_method_1_code_141 (pc' := 143) rfl ?_
  refine own_ifT X1367 (by decide) own_d_prog_20_method_1_code_143 (pc' := 163) (by decide) (by decide) ?_
  refine own_iload X1367 rfl own_d_prog_20_method_1_code_163 (pc' := 165) rfl ?_
  refine own_ifF X1367 (by decide) own_d_prog_20_method_1_code_165 (pc' := 168) rfl ?_
  refine own_aloadN X1367 rfl rfl own_d_prog_20_method_1_code_168 (pc' := 169) rfl ?_
  refine own_getF X1367 (ww 71 rfl) F1384 own_d_prog_20_method_1_code_169 (pc' := 172) rfl fun T1389 X1389 => ?_
  refine own_iload X1389 rfl own_d_prog_20_method_1_code_172 (pc' := 174) rfl ?_
  refine own_dup2 X1389 rfl rfl own_d_prog_20_method_1_code_174 (pc' := 175) rfl ?_
  refine own_iaload X1389 V1382 (i := 3) (by decide) (by decide) rfl own_d_prog_20_method_1_code_175 (pc' := 176) rfl ?_
  refine own_iconst X1389 (v := (1 : Int32)) (by decide) own_d_prog_20_method_1_code_176 (pc' := 177) rfl ?_
  refine own_iadd X1389 (v := (1 : Int32)) (by decide) own_d_prog_20_method_1_code_177 (pc' := 178) rfl ?_
  refine own_iastore X1389 V1382 ge1339 (i := 3) (by decide) (by decide) (show 3 < 4 by decide) own_d_prog_20_method_1_code_178 (pc' := 179) rfl fun T1390 h1390 X1390 W1390 V1390 => ?_
  have A1391 := A1368.wr W1390
  have F1392 := F1384.other W1390 (Or.inl ne1340)
  have F1393 := F1385.other W1390 (Or.inl ne1340)
  have F1394 := F1386.other W1390 (Or.inl ne1340)
  have F1395 := F1387.other W1390 (Or.inl ne1340)
  have F1396 := F1388.other W1390 (Or.inl ne1340)
  have A1397 := A1369.wr W1390
  have V1398 := V1370.other W1390 ne1341
  have A1399 := A1371.wr W1390
  have V1400 := V1372.other W1390 ne1342
  have A1401 := A1373.wr W1390
  have V1402 := V1374.other W1390 ne1343
  have A1403 := A1375.wr W1390
  have V1404 := V1376.other W1390 ne1344
  have A1405 := A1377.wr W1390
  have V1406 := V1378.other W1390 ne1345
  have A1407 := A1379.wr W1390
  have V1408 := V1380.other W1390 ne1346
  have A1409 := A1381.wr W1390
  have K1410 := K1383.wr W1390 (Or.inr sz1347)
  replace V1390 : own_Vec Z h1390 a1339 .int [(.int (0 : Int32)), (.int (0 : Int32)), (.int (0 : Int32)), (.int (1 : Int32))] := V1390
  refine own_aloadN X1390 rfl rfl own_d_prog_20_method_1_code_179 (pc' := 180) rfl ?_
  refine own_iload X1390 rfl own_d_prog_20_method_1_code_180 (pc' := 182) rfl ?_
  refine own_daload X1390 V1400 (i := 0) (by decide) (by decide) rfl own_d_prog_20_method_1_code_182 (pc' := 183) rfl ?_
  refine own_dconst0 X1390 (v := (0 : UInt64)) rfl own_d_prog_20_method_1_code_183 (pc' := 184) rfl ?_
  have f1411 : own_D 0 0 (0 : Int) (0 : UInt64) := own_D.lit (s := false) (c := 0) (q := -1074) (by decide +kernel) (by decide +kernel) (by decide)
  refine own_dcmp X1390 (D_z0.cmp f1411) own_d_prog_20_method_1_code_184 (pc' := 185) rfl ?_
  have c1412 : ¬ (i_z0 < (0 : Int)) := by omega
  refine own_ifF X1390 (own_c3_nlt c1412).1 own_d_prog_20_method_1_code_185 (pc' := 188) rfl ?_
  refine own_aloadN X1390 rfl rfl own_d_prog_20_method_1_code_188 (pc' := 189) rfl ?_
  refine own_iload X1390 rfl own_d_prog_20_method_1_code_189 (pc' := 191) rfl ?_
  refine own_daload X1390 V1400 (i := 0) (by decide) (by decide) rfl own_d_prog_20_method_1_code_191 (pc' := 192) rfl ?_
  refine own_ldcD X1390 (v := (9218868437227405312 : UInt64)) (ww 73 rfl) own_d_prog_20_method_1_code_192 (pc' := 195) rfl ?_
  refine own_dcmp X1390 (v := (-1 : Int32)) (dcmp_pinf D_z0.isFin _) own_d_prog_20_method_1_code_195 (pc' := 196) rfl ?_
  refine own_ifT X1390 (by decide) own_d_prog_20_method_1_code_196 (pc' := 218) (by decide) (by decide) ?_
  refine own_iinc X1390 (Ls' := #[oA a1, oA a2, oA a3, oA a4, oI 4, oI 0, oI 1, oI 3, oI 1]) rfl (by decide) rfl own_d_prog_20_method_1_code_218 (pc' := 221) rfl ?_
  refine own_goto X1390 own_d_prog_20_method_1_code_221 (pc' := 84) (by decide) (by decide) ?_
  refine own_iload X1390 rfl own_d_prog_20_method_1_code_84 (pc' := 86) rfl ?_
  refine own_iload X1390 rfl own_d_prog_20_method_1_code_86 (pc' := 88) rfl ?_
  refine own_icmpF X1390 (by decide) own_d_prog_20_method_1_code_88 (pc' := 91) rfl ?_
  refine own_aloadN X1390 rfl rfl own_d_prog_20_method_1_code_91 (pc' := 92) rfl ?_
  refine own_iload X1390 rfl own_d_prog_20_method_1_code_92 (pc' := 94) rfl ?_
  refine own_iaload X1390 V1398 (i := 1) (by decide) (by decide) rfl own_d_prog_20_method_1_code_94 (pc' := 95) rfl ?_
  refine own_istore X1390 (Ls' := #[oA a1, oA a2, oA a3, oA a4, oI 4, oI 0, oI 1, oI 2, oI 1]) rfl own_d_prog_20_method_1_code_95 (pc' := 97) rfl ?_
  refine own_iload X1390 rfl own_d_prog_20_method_1_code_97 (pc' := 99) rfl ?_
  refine own_iload X1390 rfl own_d_prog_20_method_1_code_99 (pc' := 101) rfl ?_
  refine own_iconst X1390 (v := (1 : Int32)) (by decide) own_d_prog_20_method_1_code_101 (pc' := 102) rfl ?_
  refine own_isub X1390 (v := (3 : Int32)) (by decide) own_d_prog_20_method_1_code_102 (pc' := 103) rfl ?_
  refine own_icmpT X1390 (by decide) own_d_prog_20_method_1_code_103 (pc' := 120) (by decide) (by decide) ?_
  refine own_iload X1390 rfl own_d_prog_20_method_1_code_120 (pc' := 122) rfl ?_
  refine own_iload X1390 rfl own_d_prog_20_method_1_code_122 (pc' := 124) rfl ?_
  refine own_icmpF X1390 (by decide) own_d_prog_20_method_1_code_124 (pc' := 127) rfl ?_
  refine own_iload X1390 rfl own_d_prog_20_method_1_code_127 (pc' := 129) rfl ?_
  refine own_iload X1390 rfl own_d_prog_20_method_1_code_129 (pc' := 131) rfl ?_
  refine own_icmpF X1390 (by decide) own_d_prog_20_method_1_code_131 (pc' := 134) rfl ?_
  refine own_iconst X1390 (v := (1 : Int32)) (by decide) own_d_prog_20_method_1_code_134 (pc' := 135) rfl ?_
  refine own_goto X1390 own_d_prog_20_method_1_code_135 (pc' := 139) (by decide) (by decide) ?_
  refine own_istore X1390 (Ls' := #[oA a1, oA a2, oA a3, oA a4, oI 4, oI 0, oI 1, oI 2, oI 1]) rfl own_d_prog_20_method_1_code_139 (pc' := 141) rfl ?_
  refine own_iload X1390 rfl own_d_prog_20_method_1_code_141 (pc' := 143) rfl ?_
  refine own_ifT X1390 (by decide) own_d_prog_20_method_1_code_143 (pc' := 163) (by decide) (by decide) ?_
  refine own_iload X1390 rfl own_d_prog_20_method_1_code_163 (pc' := 165) rfl ?_
  refine own_ifF X1390 (by decide) own_d_prog_20_method_1_code_165 (pc' := 168) rfl ?_
  refine own_aloadN X1390 rfl rfl own_d_prog_20_method_1_code_168 (pc' := 169) rfl ?_
  refine own_getF X1390 (ww 71 rfl) F1392 own_d_prog_20_method_1_code_169 (pc' := 172) rfl fun T1413 X1413 => ?_
  refine own_iload X1413 rfl own_d_prog_20_method_1_code_172 (pc' := 174) rfl ?_
  refine own_dup2 X1413 rfl rfl own_d_prog_20_method_1_code_174 (pc' := 175) rfl ?_
  refine own_iaload X1413 V1390 (i := 2) (by decide) (by decide) rfl own_d_prog_20_method_1_code_175 (pc' := 176) rfl ?_
  refine own_iconst X1413 (v := (1 : Int32)) (by decide) own_d_prog_20_method_1_code_176 (pc' := 177) rfl ?_
  refine own_iadd X1413 (v := (1 : Int32)) (by decide) own_d_prog_20_method_1_code_177 (pc' := 178) rfl ?_
  refine own_iastore X1413 V1390 ge1339 (i := 2) (by decide) (by decide) (show 2 < 4 by decide) own_d_prog_20_method_1_code_178 (pc' := 179) rfl fun T1414 h1414 X1414 W1414 V1414 => ?_
  have A1415 := A1391.wr W1414
  have F1416 := F1392.other W1414 (Or.inl ne1340)
  have F1417 := F1393.other W1414 (Or.inl ne1340)
  have F1418 := F1394.other W1414 (Or.inl ne1340)
  have F1419 := F1395.other W1414 (Or.inl ne1340)
  have F1420 := F1396.other W1414 (Or.inl ne1340)
  have A1421 := A1397.wr W1414
  have V1422 := V1398.other W1414 ne1341
  have A1423 := A1399.wr W1414
  have V1424 := V1400.other W1414 ne1342
  have A1425 := A1401.wr W1414
  have V1426 := V1402.other W1414 ne1343
  have A1427 := A1403.wr W1414
  have V1428 := V1404.other W1414 ne1344
  have A1429 := A1405.wr W1414
  have V1430 := V1406.other W1414 ne1345
  have A1431 := A1407.wr W1414
  have V1432 := V1408.other W1414 ne1346
  have A1433 := A1409.wr W1414
  have K1434 := K1410.wr W1414 (Or.inr sz1347)
  replace V1414 : own_Vec Z h1414 a1339 .int [(.int (0 : Int32)), (.int (0 : Int32)), (.int (1 : Int32)), (.int (1 : Int32))] := V1414
  refine own_aloadN X1414 rfl rfl own_d_prog_20_method_1_code_179 (pc' := 180) rfl ?_
  refine own_iload X1414 rfl own_d_prog_20_method_1_code_180 (pc' := 182) rfl ?_
  refine own_daload X1414 V1424 (i := 1) (by decide) (by decide) rfl own_d_prog_20_method_1_code_182 (pc' := 183) rfl ?_
  refine own_dconst0 X1414 (v := (0 : UInt64)) rfl own_d_prog_20_method_1_code_183 (pc' := 184) rfl ?_
  have f1435 : own_D 0 0 (0 : Int) (0 : UInt64) := own_D.lit (s := false) (c := 0) (q := -1074) (by decide +kernel) (by decide +kernel) (by decide)
  refine own_dcmp X1414 (D_z1.cmp f1435) own_d_prog_20_method_1_code_184 (pc' := 185) rfl ?_
  have c1436 : ¬ (i_z1 < (0 : Int)) := by omega
  refine own_ifF X1414 (own_c3_nlt c1436).1 own_d_prog_20_method_1_code_185 (pc' := 188) rfl ?_
  refine own_aloadN X1414 rfl rfl own_d_prog_20_method_1_code_188 (pc' := 189) rfl ?_
  refine own_iload X1414 rfl own_d_prog_20_method_1_code_189 (pc' := 191) rfl ?_
  refine own_daload X1414 V1424 (i := 1) (by decide) (by decide) rfl own_d_prog_20_method_1_code_191 (pc' := 192) rfl ?_
  refine own_ldcD X1414 (v := (9218868437227405312 : UInt64)) (ww 73 rfl) own_d_prog_20_method_1_code_192 (pc' := 195) rfl ?_
  refine own_dcmp X1414 (v := (-1 : Int32)) (dcmp_pinf D_z1.isFin _) own_d_prog_20_method_1_code_195 (pc' := 196) rfl ?_
  refine own_ifT X1414 (by decide) own_d_prog_20_method_1_code_196 (pc' := 218) (by decide) (by decide) ?_
  refine own_iinc X1414 (Ls' := #[oA a1, oA a2, oA a3, oA a4, oI 4, oI 0, oI 2, oI 2, oI 1]) rfl (by decide) rfl own_d_prog_20_method_1_code_218 (pc' := 221) rfl ?_
  refine own_goto X1414 own_d_prog_20_method_1_code_221 (pc' := 84) (by decide) (by decide) ?_
  refine own_iload X1414 rfl own_d_prog_20_method_1_code_84 (pc' := 86) rfl ?_
  refine own_iload X1414 rfl own_d_prog_20_method_1_code_86 (pc' := 88) rfl ?_
  refine own_icmpF X1414 (by decide) own_d_prog_20_method_1_code_88 (pc' := 91) rfl ?_
  refine own_aloadN X1414 rfl rfl own_d_prog_20_method_1_code_91 (pc' := 92) rfl ?_
  refine own_iload X1414 rfl own_d_prog_20_method_1_code_92 (pc' := 94) rfl ?_
  refine own_iaload X1414 V1422 (i := 2) (by decide) (by decide) rfl own_d_prog_20_method_1_code_94 (pc' := 95) rfl ?_
  refine own_istore X1414 (Ls' := #[oA a1, oA a2, oA a3, oA a4, oI 4, oI 0, oI 2, oI 3, oI 1]) rfl own_d_prog_20_method_1_code_95 (pc' := 97) rfl ?_
  refine own_iload X1414 rfl own_d_prog_20_method_1_code_97 (pc' := 99) rfl ?_
  refine own_iload X1414 rfl own_d_prog_20_method_1_code_99 (pc' := 101) rfl ?_
  refine own_iconst X1414 (v := (1 : Int32)) (by decide) own_d_prog_20_method_1_code_101 (pc' := 102) rfl ?_
  refine own_isub X1414 (v := (3 : Int32)) (by decide) own_d_prog_20_method_1_code_102 (pc' := 103) rfl ?_
  refine own_icmpT X1414 (by decide) own_d_prog_20_method_1_code_103 (pc' := 120) (by decide) (by decide) ?_
  refine own_iload X1414 rfl own_d_prog_20_method_1_code_120 (pc' := 122) rfl ?_
  refine own_iload X1414 rfl own_d_prog_20_method_1_code_122 (pc' := 124) rfl ?_
  refine own_icmpF X1414 (by decide) own_d_prog_20_method_1_code_124 (pc' := 127) rfl ?_
  refine own_iload X1414 rfl own_d_prog_20_method_1_code_127 (pc' := 129) rfl ?_
  refine own_iload X1414 rfl own_d_prog_20_method_1_code_129 (pc' := 131) rfl ?_
  refine own_icmpF X1414 (by decide) own_d_prog_20_method_1_code_131 (pc' := 134) rfl ?_
  refine own_iconst X1414 (v := (1 : Int32)) (by decide) own_d_prog_20_method_1_code_134 (pc' := 135) rfl ?_
  refine own_goto X1414 own_d_prog_20_method_1_code_135 (pc' := 139) (by decide) (by decide) ?_
  refine own_istore X1414 (Ls' := #[oA a1, oA a2, oA a3, oA a4, oI 4, oI 0, oI 2, oI 3, oI 1]) rfl own_d_prog_20_method_1_code_139 (pc' := 141) rfl ?_
  refine own_iload X1414 rfl own_d_prog_20_method_1_code_141 (pc' := 143) rfl ?_
  refine own_ifT X1414 (by decide) own_d_prog_20_method_1_code_143 (pc' := 163) (by decide) (by decide) ?_
  refine own_iload X1414 rfl own_d_prog_20_method_1_code_163 (pc' := 165) rfl ?_
  refine own_ifF X1414 (by decide) own_d_prog_20_method_1_code_165 (pc' := 168) rfl ?_
  refine own_aloadN X1414 rfl rfl own_d_prog_20_method_1_code_168 (pc' := 169) rfl ?_
  refine own_getF X1414 (ww 71 rfl) F1416 own_d_prog_20_method_1_code_169 (pc' := 172) rfl fun T1437 X1437 => ?_
  refine own_iload X1437 rfl own_d_prog_20_method_1_code_172 (pc' := 174) rfl ?_
  refine own_dup2 X1437 rfl rfl own_d_prog_20_method_1_code_174 (pc' := 175) rfl ?_
  refine own_iaload X1437 V1414 (i := 3) (by decide) (by decide) rfl own_d_prog_20_method_1_code_175 (pc' := 176) rfl ?_
  refine own_iconst X1437 (v := (1 : Int32)) (by decide) own_d_prog_20_method_1_code_176 (pc' := 177) rfl ?_
  refine own_iadd X1437 (v := (2 : Int32)) (by decide) own_d_prog_20_method_1_code_177 (pc' := 178) rfl ?_
  refine own_iastore X1437 V1414 ge1339 (i := 3) (by decide) (by decide) (show 3 < 4 by decide) own_d_prog_20_method_1_code_178 (pc' := 179) rfl fun T1438 h1438 X1438 W1438 V1438 => ?_
  have A1439 := A1415.wr W1438
  have F1440 := F1416.other W1438 (Or.inl ne1340)
  have F1441 := F1417.other W1438 (Or.inl ne1340)
  have F1442 := F1418.other W1438 (Or.inl ne1340)
  have F1443 := F1419.other W1438 (Or.inl ne1340)
  have F1444 := F1420.other W1438 (Or.inl ne1340)
  have A1445 := A1421.wr W1438
  have V1446 := V1422.other W1438 ne1341
  have A1447 := A1423.wr W1438
  have V1448 := V1424.other W1438 ne1342
  have A1449 := A1425.wr W1438
  have V1450 := V1426.other W1438 ne1343
  have A1451 := A1427.wr W1438
  have V1452 := V1428.other W1438 ne1344
  have A1453 := A1429.wr W1438
  have V1454 := V1430.other W1438 ne1345
  have A1455 := A1431.wr W1438
  have V1456 := V1432.other W1438 ne1346
  have A1457 := A1433.wr W1438
  have K1458 := K1434.wr W1438 (Or.inr sz1347)
  replace V1438 : own_Vec Z h1438 a1339 .int [(.int (0 : Int32)), (.int (0 : Int32)), (.int (1 : Int32)), (.int (2 : Int32))] := V1438
  refine own_aloadN X1438 rfl rfl own_d_prog_20_method_1_code_179 (pc' := 180) rfl ?_
  refine own_iload X1438 rfl own_d_prog_20_method_1_code_180 (pc' := 182) rfl ?_
  refine own_daload X1438 V1448 (i := 2) (by decide) (by decide) rfl own_d_prog_20_method_1_code_182 (pc' := 183) rfl ?_
  refine own_dconst0 X1438 (v := (0 : UInt64)) rfl own_d_prog_20_method_1_code_183 (pc' := 184) rfl ?_
  have f1459 : own_D 0 0 (0 : Int) (0 : UInt64) := own_D.lit (s := false) (c := 0) (q := -1074) (by decide +kernel) (by decide +kernel) (by decide)
  refine own_dcmp X1438 (D_z2.cmp f1459) own_d_prog_20_method_1_code_184 (pc' := 185) rfl ?_
  have c1460 : ¬ (i_z2 < (0 : Int)) := by omega
  refine own_ifF X1438 (own_c3_nlt c1460).1 own_d_prog_20_method_1_code_185 (pc' := 188) rfl ?_
  refine own_aloadN X1438 rfl rfl own_d_prog_20_method_1_code_188 (pc' := 189) rfl ?_
  refine own_iload X1438 rfl own_d_prog_20_method_1_code_189 (pc' := 191) rfl ?_
  refine own_daload X1438 V1448 (i := 2) (by decide) (by decide) rfl own_d_prog_20_method_1_code_191 (pc' := 192) rfl ?_
  refine own_ldcD X1438 (v := (9218868437227405312 : UInt64)) (ww 73 rfl) own_d_prog_20_method_1_code_192 (pc' := 195) rfl ?_
  refine own_dcmp X1438 (v := (-1 : Int32)) (dcmp_pinf D_z2.isFin _) own_d_prog_20_method_1_code_195 (pc' := 196) rfl ?_
  refine own_ifT X1438 (by decide) own_d_prog_20_method_1_code_196 (pc' := 218) (by decide) (by decide) ?_
  refine own_iinc X1438 (Ls' := #[oA a1, oA a2, oA a3, oA a4, oI 4, oI 0, oI 3, oI 3, oI 1]) rfl (by decide) rfl own_d_prog_20_method_1_code_218 (pc' := 221) rfl ?_
  refine own_goto X1438 own_d_prog_20_method_1_code_221 (pc' := 84) (by decide) (by decide) ?_
  refine own_iload X1438 rfl own_d_prog_20_method_1_code_84 (pc' := 86) rfl ?_
  refine own_iload X1438 rfl own_d_prog_20_method_1_code_86 (pc' := 88) rfl ?_
  refine own_icmpF X1438 (by decide) own_d_prog_20_method_1_code_88 (pc' := 91) rfl ?_
  refine own_aloadN X1438 rfl rfl own_d_prog_20_method_1_code_91 (pc' := 92) rfl ?_
  refine own_iload X1438 rfl own_d_prog_20_method_1_code_92 (pc' := 94) rfl ?_
  refine own_iaload X1438 V1446 (i := 3) (by decide) (by decide) rfl own_d_prog_20_method_1_code_94 (pc' := 95) rfl ?_
  refine own_istore X1438 (Ls' := #[oA a1, oA a2, oA a3, oA a4, oI 4, oI 0, oI 3, oI (-1), oI 1]) rfl own_d_prog_20_method_1_code_95 (pc' := 97) rfl ?_
  refine own_iload X1438 rfl own_d_prog_20_method_1_code_97 (pc' := 99) rfl ?_
  refine own_iload X1438 rfl own_d_prog_20_method_1_code_99 (pc' := 101) rfl ?_
  refine own_iconst X1438 (v := (1 : Int32)) (by decide) own_d_prog_20_method_1_code_101 (pc' := 102) rfl ?_
  refine own_isub X1438 (v := (3 : Int32)) (by decide) own_d_prog_20_method_1_code_102 (pc' := 103) rfl ?_
  refine own_icmpF X1438 (by decide) own_d_prog_20_method_1_code_103 (pc' := 106) rfl ?_
  refine own_iload X1438 rfl own_d_prog_20_method_1_code_106 (pc' := 108) rfl ?_
  refine own_iconst X1438 (v := (-1 : Int32)) (by decide) own_d_prog_20_method_1_code_108 (pc' := 109) rfl ?_
  refine own_icmpF X1438 (by decide) own_d_prog_20_method_1_code_109 (pc' := 112) rfl ?_
  refine own_iconst X1438 (v := (1 : Int32)) (by decide) own_d_prog_20_method_1_code_112 (pc' := 113) rfl ?_
  refine own_goto X1438 own_d_prog_20_method_1_code_113 (pc' := 139) (by decide) (by decide) ?_
  refine own_istore X1438 (Ls' := #[oA a1, oA a2, oA a3, oA a4, oI 4, oI 0, oI 3, oI (-1), oI 1]) rfl own_d_prog_20_method_1_code_139 (pc' := 141) rfl ?_
  refine own_iload X1438 rfl own_d_prog_20_method_1_code_141 (pc' := 143) rfl ?_
  refine own_ifT X1438 (by decide) own_d_prog_20_method_1_code_143 (pc' := 163) (by decide) (by decide) ?_
  refine own_iload X1438 rfl own_d_prog_20_method_1_code_163 (pc' := 165) rfl ?_
  refine own_ifT X1438 (by decide) own_d_prog_20_method_1_code_165 (pc' := 218) (by decide) (by decide) ?_
  refine own_iinc X1438 (Ls' := #[oA a1, oA a2, oA a3, oA a4, oI 4, oI 0, oI 4, oI (-1), oI 1]) rfl (by decide) rfl own_d_prog_20_method_1_code_218 (pc' := 221) rfl ?_
  refine own_goto X1438 own_d_prog_20_method_1_code_221 (pc' := 84) (by decide) (by decide) ?_
  refine own_iload X1438 rfl own_d_prog_20_method_1_code_84 (pc' := 86) rfl ?_
  refine own_iload X1438 rfl own_d_prog_20_method_1_code_86 (pc' := 88) rfl ?_
  refine own_icmpT X1438 (by decide) own_d_prog_20_method_1_code_88 (pc' := 224) (by decide) (by decide) ?_
  refine own_iconst X1438 (v := (0 : Int32)) (by decide) own_d_prog_20_method_1_code_224 (pc' := 225) rfl ?_
  refine own_istore X1438 (Ls' := #[oA a1, oA a2, oA a3, oA a4, oI 4, oI 0, oI 0, oI (-1), oI 1]) rfl own_d_prog_20_method_1_code_225 (pc' := 227) rfl ?_
  refine own_iload X1438 rfl own_d_prog_20_method_1_code_227 (pc' := 229) rfl ?_
  refine own_iload X1438 rfl own_d_prog_20_method_1_code_229 (pc' := 231) rfl ?_
  refine own_icmpF X1438 (by decide) own_d_prog_20_method_1_code_231 (pc' := 234) rfl ?_
  refine own_aloadN X1438 rfl rfl own_d_prog_20_method_1_code_234 (pc' := 235) rfl ?_
  refine own_getF X1438 (ww 71 rfl) F1440 own_d_prog_20_method_1_code_235 (pc' := 238) rfl fun T1461 X1461 => ?_
  refine own_iload X1461 rfl own_d_prog_20_method_1_code_238 (pc' := 240) rfl ?_
  refine own_iaload X1461 V1438 (i := 0) (by decide) (by decide) rfl own_d_prog_20_method_1_code_240 (pc' := 241) rfl ?_
  refine own_ifF X1461 (by decide) own_d_prog_20_method_1_code_241 (pc' := 244) rfl ?_
  refine own_iinc X1461 (Ls' := #[oA a1, oA a2, oA a3, oA a4, oI 4, oI 1, oI 0, oI (-1), oI 1]) rfl (by decide) rfl own_d_prog_20_method_1_code_244 (pc' := 247) rfl ?_
  refine own_aloadN X1461 rfl rfl own_d_prog_20_method_1_code_247 (pc' := 248) rfl ?_
  refine own_iload X1461 rfl own_d_prog_20_method_1_code_248 (pc' := 250) rfl ?_
  refine own_aaload X1461 V1450 rfl (i := 0) (by decide) (by decide) rfl own_d_prog_20_method_1_code_250 (pc' := 251) rfl ?_
  refine own_ifnonnullT X1461 own_d_prog_20_method_1_code_251 (pc' := 269) (by decide) (by decide) ?_
  refine own_iinc X1461 (Ls' := #[oA a1, oA a2, oA a3, oA a4, oI 4, oI 1, oI 1, oI (-1), oI 1]) rfl (by decide) rfl own_d_prog_20_method_1_code_269 (pc' := 272) rfl ?_
  refine own_goto X1461 own_d_prog_20_method_1_code_272 (pc' := 227) (by decide) (by decide) ?_
  refine own_iload X1461 rfl own_d_prog_20_method_1_code_227 (pc' := 229) rfl ?_
  refine own_iload X1461 rfl own_d_prog_20_method_1_code_229 (pc' := 231) rfl ?_
  refine own_icmpF X1461 (by decide) own_d_prog_20_method_1_code_231 (pc' := 234) rfl ?_
  refine own_aloadN X1461 rfl rfl own_d_prog_20_method_1_code_234 (pc' := 235) rfl ?_
  refine own_getF X1461 (ww 71 rfl) F1440 own_d_prog_20_method_1_code_235 (pc' := 238) rfl fun T1462 X1462 => ?_
  refine own_iload X1462 rfl own_d_prog_20_method_1_code_238 (pc' := 240) rfl ?_
  refine own_iaload X1462 V1438 (i := 1) (by decide) (by decide) rfl own_d_prog_20_method_1_code_240 (pc' := 241) rfl ?_
  refine own_ifF X1462 (by decide) own_d_prog_20_method_1_code_241 (pc' := 244) rfl ?_
  refine own_iinc X1462 (Ls' := #[oA a1, oA a2, oA a3, oA a4, oI 4, oI 2, oI 1, oI (-1), oI 1]) rfl (by decide) rfl own_d_prog_20_method_1_code_244 (pc' := 247) rfl ?_
  refine own_aloadN X1462 rfl rfl own_d_prog_20_method_1_code_247 (pc' := 248) rfl ?_
  refine own_iload X1462 rfl own_d_prog_20_method_1_code_248 (pc' := 250) rfl ?_
  refine own_aaload X1462 V1450 rfl (i := 1) (by decide) (by decide) rfl own_d_prog_20_method_1_code_250 (pc' := 251) rfl ?_
  refine own_ifnonnullT X1462 own_d_prog_20_method_1_code_251 (pc' := 269) (by decide) (by decide) ?_
  refine own_iinc X1462 (Ls' := #[oA a1, oA a2, oA a3, oA a4, oI 4, oI 2, oI 2, oI (-1), oI 1]) rfl (by decide) rfl own_d_prog_20_method_1_code_269 (pc' := 272) rfl ?_
  refine own_goto X1462 own_d_prog_20_method_1_code_272 (pc' := 227) (by decide) (by decide) ?_
  refine own_iload X1462 rfl own_d_prog_20_method_1_code_227 (pc' := 229) rfl ?_
  refine own_iload X1462 rfl own_d_prog_20_method_1_code_229 (pc' := 231) rfl ?_
  refine own_icmpF X1462 (by decide) own_d_prog_20_method_1_code_231 (pc' := 234) rfl ?_
  refine own_aloadN X1462 rfl rfl own_d_prog_20_method_1_code_234 (pc' := 235) rfl ?_
  refine own_getF X1462 (ww 71 rfl) F1440 own_d_prog_20_method_1_code_235 (pc' := 238) rfl fun T1463 X1463 => ?_
  refine own_iload X1463 rfl own_d_prog_20_method_1_code_238 (pc' := 240) rfl ?_
  refine own_iaload X1463 V1438 (i := 2) (by decide) (by decide) rfl own_d_prog_20_method_1_code_240 (pc' := 241) rfl ?_
  refine own_ifT X1463 (by decide) own_d_prog_20_method_1_code_241 (pc' := 269) (by decide) (by decide) ?_
  refine own_iinc X1463 (Ls' := #[oA a1, oA a2, oA a3, oA a4, oI 4, oI 2, oI 3, oI (-1), oI 1]) rfl (by decide) rfl own_d_prog_20_method_1_code_269 (pc' := 272) rfl ?_
  refine own_goto X1463 own_d_prog_20_method_1_code_272 (pc' := 227) (by decide) (by decide) ?_
  refine own_iload X1463 rfl own_d_prog_20_method_1_code_227 (pc' := 229) rfl ?_
  refine own_iload X1463 rfl own_d_prog_20_method_1_code_229 (pc' := 231) rfl ?_
  refine own_icmpF X1463 (by decide) own_d_prog_20_method_1_code_231 (pc' := 234) rfl ?_
  refine own_aloadN X1463 rfl rfl own_d_prog_20_method_1_code_234 (pc' := 235) rfl ?_
  refine own_getF X1463 (ww 71 rfl) F1440 own_d_prog_20_method_1_code_235 (pc' := 238) rfl fun T1464 X1464 => ?_
  refine own_iload X1464 rfl own_d_prog_20_method_1_code_238 (pc' := 240) rfl ?_
  refine own_iaload X1464 V1438 (i := 3) (by decide) (by decide) rfl own_d_prog_20_method_1_code_240 (pc' := 241) rfl ?_
  refine own_ifT X1464 (by decide) own_d_prog_20_method_1_code_241 (pc' := 269) (by decide) (by decide) ?_
  refine own_iinc X1464 (Ls' := #[oA a1, oA a2, oA a3, oA a4, oI 4, oI 2, oI 4, oI (-1), oI 1]) rfl (by decide) rfl own_d_prog_20_method_1_code_269 (pc' := 272) rfl ?_
  refine own_goto X1464 own_d_prog_20_method_1_code_272 (pc' := 227) (by decide) (by decide) ?_
  refine own_iload X1464 rfl own_d_prog_20_method_1_code_227 (pc' := 229) rfl ?_
  refine own_iload X1464 rfl own_d_prog_20_method_1_code_229 (pc' := 231) rfl ?_
  refine own_icmpT X1464 (by decide) own_d_prog_20_method_1_code_231 (pc' := 275) (by decide) (by decide) ?_
  refine own_aloadN X1464 rfl rfl own_d_prog_20_method_1_code_275 (pc' := 276) rfl ?_
  refine own_iload X1464 rfl own_d_prog_20_method_1_code_276 (pc' := 278) rfl ?_
  refine own_putF X1464 (ww 74 rfl) F1444 A1439 (Or.inr ⟨(ww 75 rfl), rfl, rfl⟩) (ww 38 rfl) (ty := .int) (by decide) rfl rfl ge1 own_d_prog_20_method_1_code_278 (pc' := 281) rfl fun T1465 h1465 X1465 W1465 => ?_
  have A1466 := A1439.wr W1465
  have A1467 := A1445.wr W1465
  have V1468 := V1446.other W1465 N2.symm
  have A1469 := A1447.wr W1465
  have V1470 := V1448.other W1465 N3.symm
  have A1471 := A1449.wr W1465
  have V1472 := V1450.other W1465 N4.symm
  have A1473 := A1451.wr W1465
  have V1474 := V1452.other W1465 ne1217.symm
  have A1475 := A1453.wr W1465
  have V1476 := V1454.other W1465 ne1253.symm
  have A1477 := A1455.wr W1465
  have V1478 := V1456.other W1465 ne1294.symm
  have A1479 := A1457.wr W1465
  have V1480 := V1438.other W1465 ne1340.symm
  have K1481 := K1458.wr W1465 (Or.inl (by simp))
  have F1482 := F1444.same W1465
  have F1483 := F1440.other W1465 (Or.inr (slot_ne (C := "com/example/cladewalk/cladewalk/tree/Tree") (Or.inr (ww 72 rfl)) (Or.inr (ww 75 rfl)) (by decide) (t := (.array .int)) (t' := .int) (by decide) (by decide)))
  have F1484 := F1441.other W1465 (Or.inr (slot_ne (C := "com/example/cladewalk/cladewalk/tree/Tree") (Or.inr (ww 70 rfl)) (Or.inr (ww 75 rfl)) (by decide) (t := (.array (.object "java/lang/String"))) (t' := .int) (by decide) (by decide)))
  have F1485 := F1442.other W1465 (Or.inr (slot_ne (C := "com/example/cladewalk/cladewalk/tree/Tree") (Or.inr (ww 62 rfl)) (Or.inr (ww 75 rfl)) (by decide) (t := (.array .double)) (t' := .int) (by decide) (by decide)))
  have F1486 := F1443.other W1465 (Or.inr (slot_ne (C := "com/example/cladewalk/cladewalk/tree/Tree") (Or.inr (ww 54 rfl)) (Or.inr (ww 75 rfl)) (by decide) (t := (.array .int)) (t' := .int) (by decide) (by decide)))
  exact own_retV X1465  own_d_prog_20_method_1_code_281 rfl (by decide) (by decide) ⟨rfl, ⟨_, _, F1483, F1484, V1480, V1478⟩, K1481⟩
abbrev own_rm_own_ti_33 : Room := ({ frames := 1, cells := 4, slots := 16, locals := 15 } : Room)
set_option maxRecDepth 65536 in
set_option maxHeartbeats 40000000 in
theorem own_ti_33 (l : Launch) (Z : State) (a0 : Array Value) (hw : ∀ d ∈ tables_1, d.before a0 Z = true) (a1 a2 a3 a4 : Addr) (z0 : UInt64) (i_z0 : Int) (z1 : UInt64) (i_z1 : Int) (z2 : UInt64) (i_z2 : Int) (s0 : Addr) (s1 : Addr) (s2 : Addr) (v3 : Value) (h0 : Heap) (n0 : Nat) (Z0 : n0 ≤ h0.size) (ge1 : n0 ≤ a1) (A1 : Exa Z h0 a1 "com/example/cladewalk/cladewalk/tree/Tree") (F0 : Fld Z h0 a1 "com/example/cladewalk/cladewalk/tree/Tree" "parents" "[I" .null) (F1 : Fld Z h0 a1 "com/example/cladewalk/cladewalk/tree/Tree" "lengths" "[D" .null) (F2 : Fld Z h0 a1 "com/example/cladewalk/cladewalk/tree/Tree" "names" "[Ljava/lang/String;" .null) (F3 : Fld Z h0 a1 "com/example/cladewalk/cladewalk/tree/Tree" "childCounts" "[I" .null) (F4 : Fld Z h0 a1 "com/example/cladewalk/cladewalk/tree/Tree" "tipCount" "I" (.int (0 : Int32))) (V1 : own_Vec Z h0 a2 .int [(.int (3 : Int32)), (.int (3 : Int32)), (.int (3 : Int32)), (.int (-1 : Int32))]) (V2 : own_Vec Z h0 a3 .double [(.double z0), (.double z1), (.double z2), (.double (0 : UInt64))]) (V3 : own_Vec Z h0 a4 (.object "java/lang/String") [(.ref s0), (.ref s1), (.ref s2), v3]) (B1 : Exa Z h0 a2 "[I") (B2 : Exa Z h0 a3 "[D") (B3 : Exa Z h0 a4 "[Ljava/lang/String;") (N2 : a1 ≠ a2) (N3 : a1 ≠ a3) (N4 : a1 ≠ a4) (D_z0 : own_D 0 7 i_z0 z0) (hi_z0 : 0 ≤ i_z0) (D_z1 : own_D 0 7 i_z1 z1) (hi_z1 : 0 ≤ i_z1) (D_z2 : own_D 0 7 i_z2 z2) (hi_z2 : 0 ≤ i_z2) (fq_v3 : fits (.object "java/lang/String") v3 = true) :
    own_Met l Z ({ cls := "com/example/cladewalk/cladewalk/tree/Tree", name := "<init>", desc := "([I[D[Ljava/lang/String;)V" } : Jvm.MethodName) prog_20_method_1_code 9 none [] own_rm_own_ti_33 #[(.ref a1), (.ref a2), (.ref a3), (.ref a4)] h0 n0 (fun v h => v = none ∧ (∃ x y, Fld Z h a1 "com/example/cladewalk/cladewalk/tree/Tree" "childCounts" "[I" (.ref x) ∧ Fld Z h a1 "com/example/cladewalk/cladewalk/tree/Tree" "names" "[Ljava/lang/String;" (.ref y) ∧ own_Vec Z h x .int [(.int (0 : Int32)), (.int (0 : Int32)), (.int (0 : Int32)), (.int (3 : Int32))] ∧ own_Vec Z h y (.object "java/lang/String") [(.ref s0), (.ref s1), (.ref s2), v3]) ∧ Keep h0 h [a1]) := by
  have ww := fun (i : Nat) {d : Jvm.Cond} (q : tables_1[i]? = some d) => hw d (List.mem_of_getElem? q)
  refine own_meet (plainFor_of_name own_pn4) Z0 (Ls0 := #[oA a1, oA a2, oA a3, oA a4, oU, oU, oU, oU, oU]) (by intro m; first | (simp [entryFrame, mkF, argsToLocals, Value.category]; done) | rfl) ?_
  intro p e s m below meth c T0 X0
  have K0 := Keep.refl h0 [a1]
  refine own_aloadN X0 rfl rfl own_d_prog_20_method_1_code_0 (pc' := 1) rfl ?_
  refine own_initO X0 (ww 43 rfl) (ww 16 rfl) (ww 17 rfl) rfl (by decide) (W := 0) (Nat.le_of_eq rfl) (by decide) own_d_prog_20_method_1_code_1 (pc' := 4) rfl fun T1487 X1487 => ?_
  refine own_aloadN X1487 rfl rfl own_d_prog_20_method_1_code_4 (pc' := 5) rfl ?_
  refine own_len X1487 V1 (v := (4 : Int32)) (show (4 : Nat).toInt32 = (4 : Int32) by decide) own_d_prog_20_method_1_code_5 (pc' := 6) rfl ?_
  refine own_istore X1487 (Ls' := #[oA a1, oA a2, oA a3, oA a4, oI 4, oU, oU, oU, oU]) rfl own_d_prog_20_method_1_code_6 (pc' := 8) rfl ?_
  refine own_iload X1487 rfl own_d_prog_20_method_1_code_8 (pc' := 10) rfl ?_
  refine own_ifF X1487 (by decide) own_d_prog_20_method_1_code_10 (pc' := 13) rfl ?_
  refine own_aloadN X1487 rfl rfl own_d_prog_20_method_1_code_13 (pc' := 14) rfl ?_
  refine own_len X1487 V2 (v := (4 : Int32)) (show (4 : Nat).toInt32 = (4 : Int32) by decide) own_d_prog_20_method_1_code_14 (pc' := 15) rfl ?_
  refine own_iload X1487 rfl own_d_prog_20_method_1_code_15 (pc' := 17) rfl ?_
  refine own_icmpF X1487 (by decide) own_d_prog_20_method_1_code_17 (pc' := 20) rfl ?_
  refine own_aloadN X1487 rfl rfl own_d_prog_20_method_1_code_20 (pc' := 21) rfl ?_
  refine own_len X1487 V3 (v := (4 : Int32)) (show (4 : Nat).toInt32 = (4 : Int32) by decide) own_d_prog_20_method_1_code_21 (pc' := 22) rfl ?_
  refine own_iload X1487 rfl own_d_prog_20_method_1_code_22 (pc' := 24) rfl ?_
  refine own_icmpT X1487 (by decide) own_d_prog_20_method_1_code_24 (pc' := 37) (by decide) (by decide) ?_
  refine own_aloadN X1487 rfl rfl own_d_prog_20_method_1_code_37 (pc' := 38) rfl ?_
  refine own_aloadN X1487 rfl rfl own_d_prog_20_method_1_code_38 (pc' := 39) rfl ?_
  refine own_clone X1487 (ad := "[I") (ww 44 rfl) (ww 45 rfl) (ww 49 rfl) (ww 47 rfl) (ww 48 rfl) (ww 50 rfl) V1 B1 (own_fitS rfl (own_fitS rfl (own_fitS rfl (own_fitS rfl own_fit0)))) (n := 4) rfl rfl (by decide) (W := 1) (Nat.le_of_eq rfl) (by decide) (cells' := 1) (slots' := 4) rfl rfl (by decide) (by decide) own_d_prog_20_method_1_code_39 (pc' := 42) rfl fun a1488 T1488 h1488 g1488 ge1488 X1488 E1488 V1488 A1488 => ?_
  have ne1489 : a1 ≠ a1488 := own_lt_ne A1.lt g1488
  have ne1490 : a2 ≠ a1488 := own_lt_ne V1.lt g1488
  have ne1491 : a3 ≠ a1488 := own_lt_ne V2.lt g1488
  have ne1492 : a4 ≠ a1488 := own_lt_ne V3.lt g1488
  have sz1493 := own_ge K0 g1488
  have A1494 := A1.ext E1488
  have F1495 := F0.ext E1488
  have F1496 := F1.ext E1488
  have F1497 := F2.ext E1488
  have F1498 := F3.ext E1488
  have F1499 := F4.ext E1488
  have V1500 := V1.ext E1488
  have A1501 := B1.ext E1488
  have V1502 := V2.ext E1488
  have A1503 := B2.ext E1488
  have V1504 := V3.ext E1488
  have A1505 := B3.ext E1488
  have K1506 := K0.ext E1488
  refine own_cast_ X1488 (ww 51 rfl) A1488 own_d_prog_20_method_1_code_42 (pc' := 45) rfl fun T1507 X1507 => ?_
  refine own_putF X1507 (ww 53 rfl) F1495 A1494 (Or.inr ⟨(ww 54 rfl), rfl, rfl⟩) (ww 38 rfl) (ty := (.array .int)) (by decide) rfl rfl ge1 own_d_prog_20_method_1_code_45 (pc' := 48) rfl fun T1508 h1508 X1508 W1508 => ?_
  have A1509 := A1494.wr W1508
  have A1510 := A1501.wr W1508
  have V1511 := V1500.other W1508 N2.symm
  have A1512 := A1503.wr W1508
  have V1513 := V1502.other W1508 N3.symm
  have A1514 := A1505.wr W1508
  have V1515 := V1504.other W1508 N4.symm
  have A1516 := A1488.wr W1508
  have V1517 := V1488.other W1508 ne1489.symm
  have K1518 := K1506.wr W1508 (Or.inl (by simp))
  have F1519 := F1495.same W1508
  have F1520 := F1496.other W1508 (Or.inr (slot_ne (C := "com/example/cladewalk/cladewalk/tree/Tree") (Or.inr (ww 62 rfl)) (Or.inr (ww 54 rfl)) (by decide) (t := (.array .double)) (t' := (.array .int)) (by decide) (by decide)))
  have F1521 := F1497.other W1508 (Or.inr (slot_ne (C := "com/example/cladewalk/cladewalk/tree/Tree") (Or.inr (ww 70 rfl)) (Or.inr (ww 54 rfl)) (by decide) (t := (.array (.object "java/lang/String"))) (t' := (.array .int)) (by decide) (by decide)))
  have F1522 := F1498.other W1508 (Or.inr (slot_ne (C := "com/example/cladewalk/cladewalk/tree/Tree") (Or.inr (ww 72 rfl)) (Or.inr (ww 54 rfl)) (by decide) (t := (.array .int)) (t' := (.array .int)) (by decide) (by decide)))
  have F1523 := F1499.other W1508 (Or.inr (slot_ne (C := "com/example/cladewalk/cladewalk/tree/Tree") (Or.inr (ww 75 rfl)) (Or.inr (ww 54 rfl)) (by decide) (t := .int) (t' := (.array .int)) (by decide) (by decide)))
  refine own_aloadN X1508 rfl rfl own_d_prog_20_method_1_code_48 (pc' := 49) rfl ?_
  refine own_aloadN X1508 rfl rfl own_d_prog_20_method_1_code_49 (pc' := 50) rfl ?_
  refine own_clone X1508 (ad := "[D") (ww 55 rfl) (ww 56 rfl) (ww 49 rfl) (ww 47 rfl) (ww 57 rfl) (ww 58 rfl) V1513 A1512 (own_fitS rfl (own_fitS rfl (own_fitS rfl (own_fitS rfl own_fit0)))) (n := 4) rfl rfl (by decide) (W := 1) (Nat.le_of_eq rfl) (by decide) (cells' := 2) (slots' := 8) rfl rfl (by decide) (by decide) own_d_prog_20_method_1_code_50 (pc' := 53) rfl fun a1524 T1524 h1524 g1524 ge1524 X1524 E1524 V1524 A1524 => ?_
  have ne1525 : a1 ≠ a1524 := own_lt_ne A1509.lt g1524
  have ne1526 : a2 ≠ a1524 := own_lt_ne V1511.lt g1524
  have ne1527 : a3 ≠ a1524 := own_lt_ne V1513.lt g1524
  have ne1528 : a4 ≠ a1524 := own_lt_ne V1515.lt g1524
  have ne1529 : a1488 ≠ a1524 := own_lt_ne V1517.lt g1524
  have sz1530 := own_ge K1518 g1524
  have A1531 := A1509.ext E1524
  have F1532 := F1519.ext E1524
  have F1533 := F1520.ext E1524
  have F1534 := F1521.ext E1524
  have F1535 := F1522.ext E1524
  have F1536 := F1523.ext E1524
  have V1537 := V1511.ext E1524
  have A1538 := A1510.ext E1524
  have V1539 := V1513.ext E1524
  have A1540 := A1512.ext E1524
  have V1541 := V1515.ext E1524
  have A1542 := A1514.ext E1524
  have V1543 := V1517.ext E1524
  have A1544 := A1516.ext E1524
  have K1545 := K1518.ext E1524
  refine own_cast_ X1524 (ww 59 rfl) A1524 own_d_prog_20_method_1_code_53 (pc' := 56) rfl fun T1546 X1546 => ?_
  refine own_putF X1546 (ww 61 rfl) F1533 A1531 (Or.inr ⟨(ww 62 rfl), rfl, rfl⟩) (ww 38 rfl) (ty := (.array .double)) (by decide) rfl rfl ge1 own_d_prog_20_method_1_code_56 (pc' := 59) rfl fun T1547 h1547 X1547 W1547 => ?_
  have A1548 := A1531.wr W1547
  have A1549 := A1538.wr W1547
  have V1550 := V1537.other W1547 N2.symm
  have A1551 := A1540.wr W1547
  have V1552 := V1539.other W1547 N3.symm
  have A1553 := A1542.wr W1547
  have V1554 := V1541.other W1547 N4.symm
  have A1555 := A1544.wr W1547
  have V1556 := V1543.other W1547 ne1489.symm
  have A1557 := A1524.wr W1547
  have V1558 := V1524.other W1547 ne1525.symm
  have K1559 := K1545.wr W1547 (Or.inl (by simp))
  have F1560 := F1533.same W1547
  have F1561 := F1532.other W1547 (Or.inr (slot_ne (C := "com/example/cladewalk/cladewalk/tree/Tree") (Or.inr (ww 54 rfl)) (Or.inr (ww 62 rfl)) (by decide) (t := (.array .int)) (t' := (.array .double)) (by decide) (by decide)))
  have F1562 := F1534.other W1547 (Or.inr (slot_ne (C := "com/example/cladewalk/cladewalk/tree/Tree") (Or.inr (ww 70 rfl)) (Or.inr (ww 62 rfl)) (by decide) (t := (.array (.object "java/lang/String"))) (t' := (.array .double)) (by decide) (by decide)))
  have F1563 := F1535.other W1547 (Or.inr (slot_ne (C := "com/example/cladewalk/cladewalk/tree/Tree") (Or.inr (ww 72 rfl)) (Or.inr (ww 62 rfl)) (by decide) (t := (.array .int)) (t' := (.array .double)) (by decide) (by decide)))
  have F1564 := F1536.other W1547 (Or.inr (slot_ne (C := "com/example/cladewalk/cladewalk/tree/Tree") (Or.inr (ww 75 rfl)) (Or.inr (ww 62 rfl)) (by decide) (t := .int) (t' := (.array .double)) (by decide) (by decide)))
  refine own_aloadN X1547 rfl rfl own_d_prog_20_method_1_code_59 (pc' := 60) rfl ?_
  refine own_aloadN X1547 rfl rfl own_d_prog_20_method_1_code_60 (pc' := 61) rfl ?_
  refine own_clone X1547 (ad := "[Ljava/lang/String;") (ww 63 rfl) (ww 64 rfl) (ww 49 rfl) (ww 47 rfl) (ww 65 rfl) (ww 66 rfl) V1554 A1553 (own_fitS rfl (own_fitS rfl (own_fitS rfl (own_fitS fq_v3 own_fit0)))) (n := 4) rfl rfl (by decide) (W := 1) (Nat.le_of_eq rfl) (by decide) (cells' := 3) (slots' := 12) rfl rfl (by decide) (by decide) own_d_prog_20_method_1_code_61 (pc' := 64) rfl fun a1565 T1565 h1565 g1565 ge1565 X1565 E1565 V1565 A1565 => ?_
  have ne1566 : a1 ≠ a1565 := own_lt_ne A1548.lt g1565
  have ne1567 : a2 ≠ a1565 := own_lt_ne V1550.lt g1565
  have ne1568 : a3 ≠ a1565 := own_lt_ne V1552.lt g1565
  have ne1569 : a4 ≠ a1565 := own_lt_ne V1554.lt g1565
  have ne1570 : a1488 ≠ a1565 := own_lt_ne V1556.lt g1565
  have ne1571 : a1524 ≠ a1565 := own_lt_ne V1558.lt g1565
  have sz1572 := own_ge K1559 g1565
  have A1573 := A1548.ext E1565
  have F1574 := F1560.ext E1565
  have F1575 := F1561.ext E1565
  have F1576 := F1562.ext E1565
  have F1577 := F1563.ext E1565
  have F1578 := F1564.ext E1565
  have V1579 := V1550.ext E1565
  have A1580 := A1549.ext E1565
  have V1581 := V1552.ext E1565
  have A1582 := A1551.ext E1565
  have V1583 := V1554.ext E1565
  have A1584 := A1553.ext E1565
  have V1585 := V1556.ext E1565
  have A1586 := A1555.ext E1565
  have V1587 := V1558.ext E1565
  have A1588 := A1557.ext E1565
  have K1589 := K1559.ext E1565
  refine own_cast_ X1565 (ww 67 rfl) A1565 own_d_prog_20_method_1_code_64 (pc' := 67) rfl fun T1590 X1590 => ?_
  refine own_putF X1590 (ww 69 rfl) F1576 A1573 (Or.inr ⟨(ww 70 rfl), rfl, rfl⟩) (ww 38 rfl) (ty := (.array (.object "java/lang/String"))) (by decide) rfl rfl ge1 own_d_prog_20_method_1_code_67 (pc' := 70) rfl fun T1591 h1591 X1591 W1591 => ?_
  have A1592 := A1573.wr W1591
  have A1593 := A1580.wr W1591
  have V1594 := V1579.other W1591 N2.symm
  have A1595 := A1582.wr W1591
  have V1596 := V1581.other W1591 N3.symm
  have A1597 := A1584.wr W1591
  have V1598 := V1583.other W1591 N4.symm
  have A1599 := A1586.wr W1591
  have V1600 := V1585.other W1591 ne1489.symm
  have A1601 := A1588.wr W1591
  have V1602 := V1587.other W1591 ne1525.symm
  have A1603 := A1565.wr W1591
  have V1604 := V1565.other W1591 ne1566.symm
  have K1605 := K1589.wr W1591 (Or.inl (by simp))
  have F1606 := F1576.same W1591
  have F1607 := F1574.other W1591 (Or.inr (slot_ne (C := "com/example/cladewalk/cladewalk/tree/Tree") (Or.inr (ww 62 rfl)) (Or.inr (ww 70 rfl)) (by decide) (t := (.array .double)) (t' := (.array (.object "java/lang/String"))) (by decide) (by decide)))
  have F1608 := F1575.other W1591 (Or.inr (slot_ne (C := "com/example/cladewalk/cladewalk/tree/Tree") (Or.inr (ww 54 rfl)) (Or.inr (ww 70 rfl)) (by decide) (t := (.array .int)) (t' := (.array (.object "java/lang/String"))) (by decide) (by decide)))
  have F1609 := F1577.other W1591 (Or.inr (slot_ne (C := "com/example/cladewalk/cladewalk/tree/Tree") (Or.inr (ww 72 rfl)) (Or.inr (ww 70 rfl)) (by decide) (t := (.array .int)) (t' := (.array (.object "java/lang/String"))) (by decide) (by decide)))
  have F1610 := F1578.other W1591 (Or.inr (slot_ne (C := "com/example/cladewalk/cladewalk/tree/Tree") (Or.inr (ww 75 rfl)) (Or.inr (ww 70 rfl)) (by decide) (t := .int) (t' := (.array (.object "java/lang/String"))) (by decide) (by decide)))
  refine own_aloadN X1591 rfl rfl own_d_prog_20_method_1_code_70 (pc' := 71) rfl ?_
  refine own_iload X1591 rfl own_d_prog_20_method_1_code_71 (pc' := 73) rfl ?_
  refine own_newarrayE X1591 (ty := .int) rfl (ad := "[I") (by decide) (ww 34 rfl) (n := 4) (vs := [(.int (0 : Int32)), (.int (0 : Int32)), (.int (0 : Int32)), (.int (0 : Int32))]) (by decide) (by decide) (by decide) rfl (cells' := 4) (slots' := 16) rfl rfl (by decide) (by decide) own_d_prog_20_method_1_code_73 (pc' := 75) rfl fun a1611 T1611 h1611 g1611 ge1611 X1611 E1611 V1611 A1611 => ?_
  have ne1612 : a1 ≠ a1611 := own_lt_ne A1592.lt g1611
  have ne1613 : a2 ≠ a1611 := own_lt_ne V1594.lt g1611
  have ne1614 : a3 ≠ a1611 := own_lt_ne V1596.lt g1611
  have ne1615 : a4 ≠ a1611 := own_lt_ne V1598.lt g1611
  have ne1616 : a1488 ≠ a1611 := own_lt_ne V1600.lt g1611
  have ne1617 : a1524 ≠ a1611 := own_lt_ne V1602.lt g1611
  have ne1618 : a1565 ≠ a1611 := own_lt_ne V1604.lt g1611
  have sz1619 := own_ge K1605 g1611
  have A1620 := A1592.ext E1611
  have F1621 := F1606.ext E1611
  have F1622 := F1607.ext E1611
  have F1623 := F1608.ext E1611
  have F1624 := F1609.ext E1611
  have F1625 := F1610.ext E1611
  have V1626 := V1594.ext E1611
  have A1627 := A1593.ext E1611
  have V1628 := V1596.ext E1611
  have A1629 := A1595.ext E1611
  have V1630 := V1598.ext E1611
  have A1631 := A1597.ext E1611
  have V1632 := V1600.ext E1611
  have A1633 := A1599.ext E1611
  have V1634 := V1602.ext E1611
  have A1635 := A1601.ext E1611
  have V1636 := V1604.ext E1611
  have A1637 := A1603.ext E1611
  have K1638 := K1605.ext E1611
  refine own_putF X1611 (ww 71 rfl) F1624 A1620 (Or.inr ⟨(ww 72 rfl), rfl, rfl⟩) (ww 38 rfl) (ty := (.array .int)) (by decide) rfl rfl ge1 own_d_prog_20_method_1_code_75 (pc' := 78) rfl fun T1639 h1639 X1639 W1639 => ?_
  have A1640 := A1620.wr W1639
  have A1641 := A1627.wr W1639
  have V1642 := V1626.other W1639 N2.symm
  have A1643 := A1629.wr W1639
  have V1644 := V1628.other W1639 N3.symm
  have A1645 := A1631.wr W1639
  have V1646 := V1630.other W1639 N4.symm
  have A1647 := A1633.wr W1639
  have V1648 := V1632.other W1639 ne1489.symm
  have A1649 := A1635.wr W1639
  have V1650 := V1634.other W1639 ne1525.symm
  have A1651 := A1637.wr W1639
  have V1652 := V1636.other W1639 ne1566.symm
  have A1653 := A1611.wr W1639
  have V1654 := V1611.other W1639 ne1612.symm
  have K1655 := K1638.wr W1639 (Or.inl (by simp))
  have F1656 := F1624.same W1639
  have F1657 := F1621.other W1639 (Or.inr (slot_ne (C := "com/example/cladewalk/cladewalk/tree/Tree") (Or.inr (ww 70 rfl)) (Or.inr (ww 72 rfl)) (by decide) (t := (.array (.object "java/lang/String"))) (t' := (.array .int)) (by decide) (by decide)))
  have F1658 := F1622.other W1639 (Or.inr (slot_ne (C := "com/example/cladewalk/cladewalk/tree/Tree") (Or.inr (ww 62 rfl)) (Or.inr (ww 72 rfl)) (by decide) (t := (.array .double)) (t' := (.array .int)) (by decide) (by decide)))
  have F1659 := F1623.other W1639 (Or.inr (slot_ne (C := "com/example/cladewalk/cladewalk/tree/Tree") (Or.inr (ww 54 rfl)) (Or.inr (ww 72 rfl)) (by decide) (t := (.array .int)) (t' := (.array .int)) (by decide) (by decide)))
  have F1660 := F1625.other W1639 (Or.inr (slot_ne (C := "com/example/cladewalk/cladewalk/tree/Tree") (Or.inr (ww 75 rfl)) (Or.inr (ww 72 rfl)) (by decide) (t := .int) (t' := (.array .int)) (by decide) (by decide)))
  refine own_iconst X1639 (v := (0 : Int32)) (by decide) own_d_prog_20_method_1_code_78 (pc' := 79) rfl ?_
  refine own_istore X1639 (Ls' := #[oA a1, oA a2, oA a3, oA a4, oI 4, oI 0, oU, oU, oU]) rfl own_d_prog_20_method_1_code_79 (pc' := 81) rfl ?_
  refine own_iconst X1639 (v := (0 : Int32)) (by decide) own_d_prog_20_method_1_code_81 (pc' := 82) rfl ?_
  refine own_istore X1639 (Ls' := #[oA a1, oA a2, oA a3, oA a4, oI 4, oI 0, oI 0, oU, oU]) rfl own_d_prog_20_method_1_code_82 (pc' := 84) rfl ?_
  refine own_iload X1639 rfl own_d_prog_20_method_1_code_84 (pc' := 86) rfl ?_
  refine own_iload X1639 rfl own_d_prog_20_method_1_code_86 (pc' := 88) rfl ?_
  refine own_icmpF X1639 (by decide) own_d_prog_20_method_1_code_88 (pc' := 91) rfl ?_
  refine own_aloadN X1639 rfl rfl own_d_prog_20_method_1_code_91 (pc' := 92) rfl ?_
  refine own_iload X1639 rfl own_d_prog_20_method_1_code_92 (pc' := 94) rfl ?_
  refine own_iaload X1639 V1642 (i := 0) (by decide) (by decide) rfl own_d_prog_20_method_1_code_94 (pc' := 95) rfl ?_
  refine own_istore X1639 (Ls' := #[oA a1, oA a2, oA a3, oA a4, oI 4, oI 0, oI 0, oI 3, oU]) rfl own_d_prog_20_method_1_code_95 (pc' := 97) rfl ?_
  refine own_iload X1639 rfl own_d_prog_20_method_1_code_97 (pc' := 99) rfl ?_
  refine own_iload X1639 rfl own_d_prog_20_method_1_code_99 (pc' := 101) rfl ?_
  refine own_iconst X1639 (v := (1 : Int32)) (by decide) own_d_prog_20_method_1_code_101 (pc' := 102) rfl ?_
  refine own_isub X1639 (v := (3 : Int32)) (by decide) own_d_prog_20_method_1_code_102 (pc' := 103) rfl ?_
  refine own_icmpT X1639 (by decide) own_d_prog_20_method_1_code_103 (pc' := 120) (by decide) (by decide) ?_
  refine own_iload X1639 rfl own_d_prog_20_method_1_code_120 (pc' := 122) rfl ?_
  refine own_iload X1639 rfl own_d_prog_20_method_1_code_122 (pc' := 124) rfl ?_
  refine own_icmpF X1639 (by decide) own_d_prog_20_method_1_code_124 (pc' := 127) rfl ?_
  refine own_iload X1639 rfl own_d_prog_20_method_1_code_127 (pc' := 129) rfl ?_
  refine own_iload X1639 rfl own_d_prog_20_method_1_code_129 (pc' := 131) rfl ?_
  refine own_icmpF X1639 (by decide) own_d_prog_20_method_1_code_131 (pc' := 134) rfl ?_
  refine own_iconst X1639 (v := (1 : Int32)) (by decide) own_d_prog_20_method_1_code_134 (pc' := 135) rfl ?_
  refine own_goto X1639 own_d_prog_20_method_1_code_135 (pc' := 139) (by decide) (by decide) ?_
  refine own_istore X1639 (Ls' := #[oA a1, oA a2, oA a3, oA a4, oI 4, oI 0, oI 0, oI 3, oI 1]) rfl own_d_prog_20_method_1_code_139 (pc' := 141) rfl ?_
  refine own_iload X1639 rfl own_d_prog_20_method_1_code_141 (pc' := 143) rfl ?_
  refine own_ifT X1639 (by decide) own_d_prog_20_method_1_code_143 (pc' := 163) (by decide) (by decide) ?_
  refine own_iload X1639 rfl own_d_prog_20_method_1_code_163 (pc' := 165) rfl ?_
  refine own_ifF X1639 (by decide) own_d_prog_20_method_1_code_165 (pc' := 168) rfl ?_
  refine own_aloadN X1639 rfl rfl own_d_prog_20_method_1_code_168 (pc' := 169) rfl ?_
  refine own_getF X1639 (ww 71 rfl) F1656 own_d_prog_20_method_1_code_169 (pc' := 172) rfl fun T1661 X1661 => ?_
  refine own_iload X1661 rfl own_d_prog_20_method_1_code_172 (pc' := 174) rfl ?_
  refine own_dup2 X1661 rfl rfl own_d_prog_20_method_1_code_174 (pc' := 175) rfl ?_
  refine own_iaload X1661 V1654 (i := 3) (by decide) (by decide) rfl own_d_prog_20_method_1_code_175 (pc' := 176) rfl ?_
  refine own_iconst X1661 (v := (1 : Int32)) (by decide) own_d_prog_20_method_1_code_176 (pc' := 177) rfl ?_
  refine own_iadd X1661 (v := (1 : Int32)) (by decide) own_d_prog_20_method_1_code_177 (pc' := 178) rfl ?_
  refine own_iastore X1661 V1654 ge1611 (i := 3) (by decide) (by decide) (show 3 < 4 by decide) own_d_prog_20_method_1_code_178 (pc' := 179) rfl fun T1662 h1662 X1662 W1662 V1662 => ?_
  have A1663 := A1640.wr W1662
  have F1664 := F1656.other W1662 (Or.inl ne1612)
  have F1665 := F1657.other W1662 (Or.inl ne1612)
  have F1666 := F1658.other W1662 (Or.inl ne1612)
  have F1667 := F1659.other W1662 (Or.inl ne1612)
  have F1668 := F1660.other W1662 (Or.inl ne1612)
  have A1669 := A1641.wr W1662
  have V1670 := V1642.other W1662 ne1613
  have A1671 := A1643.wr W1662
  have V1672 := V1644.other W1662 ne1614
  have A1673 := A1645.wr W1662
  have V1674 := V1646.other W1662 ne1615
  have A1675 := A1647.wr W1662
  have V1676 := V1648.other W1662 ne1616
  have A1677 := A1649.wr W1662
  have V1678 := V1650.other W1662 ne1617
  have A1679 := A1651.wr W1662
  have V1680 := V1652.other W1662 ne1618
  have A1681 := A1653.wr W1662
  have K1682 := K1655.wr W1662 (Or.inr sz1619)
  replace V1662 : own_Vec Z h1662 a1611 .int [(.int (0 : Int32)), (.int (0 : Int32)), (.int (0 : Int32)), (.int (1 : Int32))] := V1662
  refine own_aloadN X1662 rfl rfl own_d_prog_20_method_1_code_179 (pc' := 180) rfl ?_
  refine own_iload X1662 rfl own_d_prog_20_method_1_code_180 (pc' := 182) rfl ?_
  refine own_daload X1662 V1672 (i := 0) (by decide) (by decide) rfl own_d_prog_20_method_1_code_182 (pc' := 183) rfl ?_
  refine own_dconst0 X1662 (v := (0 : UInt64)) rfl own_d_prog_20_method_1_code_183 (pc' := 184) rfl ?_
  have f1683 : own_D 0 0 (0 : Int) (0 : UInt64) := own_D.lit (s := false) (c := 0) (q := -1074) (by decide +kernel) (by decide +kernel) (by decide)
  refine own_dcmp X1662 (D_z0.cmp f1683) own_d_prog_20_method_1_code_184 (pc' := 185) rfl ?_
  have c1684 : ¬ (i_z0 < (0 : Int)) := by omega
  refine own_ifF X1662 (own_c3_nlt c1684).1 own_d_prog_20_method_1_code_185 (pc' := 188) rfl ?_
  refine own_aloadN X1662 rfl rfl own_d_prog_20_method_1_code_188 (pc' := 189) rfl ?_
  refine own_iload X1662 rfl own_d_prog_20_method_1_code_189 (pc' := 191) rfl ?_
  refine own_daload X1662 V1672 (i := 0) (by decide) (by decide) rfl own_d_prog_20_method_1_code_191 (pc' := 192) rfl ?_
  refine own_ldcD X1662 (v := (9218868437227405312 : UInt64)) (ww 73 rfl) own_d_prog_20_method_1_code_192 (pc' := 195) rfl ?_
  refine own_dcmp X1662 (v := (-1 : Int32)) (dcmp_pinf D_z0.isFin _) own_d_prog_20_method_1_code_195 (pc' := 196) rfl ?_
  refine own_ifT X1662 (by decide) own_d_prog_20_method_1_code_196 (pc' := 218) (by decide) (by decide) ?_
  refine own_iinc X1662 (Ls' := #[oA a1, oA a2, oA a3, oA a4, oI 4, oI 0, oI 1, oI 3, oI 1]) rfl (by decide) rfl own_d_prog_20_method_1_code_218 (pc' := 221) rfl ?_
  refine own_goto X1662 own_d_prog_20_method_1_code_221 (pc' := 84) (by decide) (by decide) ?_
  refine own_iload X1662 rfl own_d_prog_20_method_1_code_84 (pc' := 86) rfl ?_
  refine own_iload X1662 rfl own_d_prog_20_method_1_code_86 (pc' := 88) rfl ?_
  refine own_icmpF X1662 (by decide) own_d_prog_20_method_1_code_88 (pc' := 91) rfl ?_
  refine own_aloadN X1662 rfl rfl own_d_prog_20_method_1_code_91 (pc' := 92) rfl ?_
  refine own_iload X1662 rfl own_d_prog_20_method_1_code_92 (pc' := 94) rfl ?_
  refine own_iaload X1662 V1670 (i := 1) (by decide) (by decide) rfl own_d_prog_20_method_1_code_94 (pc' := 95) rfl ?_
  refine own_istore X1662 (Ls' := #[oA a1, oA a2, oA a3, oA a4, oI 4, oI 0, oI 1, oI 3, oI 1]) rfl own_d_prog_20_method_1_code_95 (pc' := 97) rfl ?_
  refine own_iload X1662 rfl own_d_prog_20_method_1_code_97 (pc' := 99) rfl ?_
  refine own_iload X1662 rfl own_d_prog_20_method_1_code_99 (pc' := 101) rfl ?_
  refine own_iconst X1662 (v := (1 : Int32)) (by decide) own_d_prog_20_method_1_code_101 (pc' := 102) rfl ?_
  refine own_isub X1662 (v := (3 : Int32)) (by decide) own_d_prog_20_method_1_code_102 (pc' := 103) rfl ?_
  refine own_icmpT X1662 (by decide) own_d_prog_20_method_1_code_103 (pc' := 120) (by decide) (by decide) ?_
  refine own_iload X1662 rfl own_d_prog_20_method_1_code_120 (pc' := 122) rfl ?_
  refine own_iload X1662 rfl own_d_prog_20_method_1_code_122 (pc' := 124) rfl ?_
  refine own_icmpF X1662 (by decide) own_d_prog_20_method_1_code_124 (pc' := 127) rfl ?_
  refine own_iload X1662 rfl own_d_prog_20_method_1_code_127 (pc' := 129) rfl ?_
  refine own_iload X1662 rfl own_d_prog_20_method_1_code_129 (pc' := 131) rfl ?_
  refine own_icmpF X1662 (by decide) own_d_prog_20_method_1_code_131 (pc' := 134) rfl ?_
  refine own_iconst X1662 (v := (1 : Int32)) (by decide) own_d_prog_20_method_1_code_134 (pc' := 135) rfl ?_
  refine own_goto X1662 own_d_prog_20_method_1_code_135 (pc' := 139) (by decide) (by decide) ?_
  refine own_istore X1662 (Ls' := #[oA a1, oA a2, oA a3, oA a4, oI 4, oI 0, oI 1, oI 3, oI 1]) rfl own_d_prog_20_method_1_code_139 (pc' := 141) rfl ?_
  refine own_iload X1662 rfl own_d_prog_20_method_1_code_141 (pc' := 143) rfl ?_
  refine own_ifT X1662 (by decide) own_d_prog_20_method_1_code_143 (pc' := 163) (by decide) (by decide) ?_
  refine own_iload X1662 rfl own_d_prog_20_method_1_code_163 (pc' := 165) rfl ?_
  refine own_ifF X1662 (by decide) own_d_prog_20_method_1_code_165 (pc' := 168) rfl ?_
  refine own_aloadN X1662 rfl rfl own_d_prog_20_method_1_code_168 (pc' := 169) rfl ?_
  refine own_getF X1662 (ww 71 rfl) F1664 own_d_prog_20_method_1_code_169 (pc' := 172) rfl fun T1685 X1685 => ?_
  refine own_iload X1685 rfl own_d_prog_20_method_1_code_172 (pc' := 174) rfl ?_
  refine own_dup2 X1685 rfl rfl own_d_prog_20_method_1_code_174 (pc' := 175) rfl ?_
  refine own_iaload X1685 V1662 (i := 3) (by decide) (by decide) rfl own_d_prog_20_method_1_code_175 (pc' := 176) rfl ?_
  refine own_iconst X1685 (v := (1 : Int32)) (by decide) own_d_prog_20_method_1_code_176 (pc' := 177) rfl ?_
  refine own_iadd X1685 (v := (2 : Int32)) (by decide) own_d_prog_20_method_1_code_177 (pc' := 178) rfl ?_
  refine own_iastore X1685 V1662 ge1611 (i := 3) (by decide) (by decide) (show 3 < 4 by decide) own_d_prog_20_method_1_code_178 (pc' := 179) rfl fun T1686 h1686 X1686 W1686 V1686 => ?_
  have A1687 := A1663.wr W1686
  have F1688 := F1664.other W1686 (Or.inl ne1612)
  have F1689 := F1665.other W1686 (Or.inl ne1612)
  have F1690 := F1666.other W1686 (Or.inl ne1612)
  have F1691 := F1667.other W1686 (Or.inl ne1612)
  have F1692 := F1668.other W1686 (Or.inl ne1612)
  have A1693 := A1669.wr W1686
  have V1694 := V1670.other W1686 ne1613
  have A1695 := A1671.wr W1686
  have V1696 := V1672.other W1686 ne1614
  have A1697 := A1673.wr W1686
  have V1698 := V1674.other W1686 ne1615
  have A1699 := A1675.wr W1686
  have V1700 := V1676.other W1686 ne1616
  have A1701 := A1677.wr W1686
  have V1702 := V1678.other W1686 ne1617
  have A1703 := A1679.wr W1686
  have V1704 := V1680.other W1686 ne1618
  have A1705 := A1681.wr W1686
  have K1706 := K1682.wr W1686 (Or.inr sz1619)
  replace V1686 : own_Vec Z h1686 a1611 .int [(.int (0 : Int32)), (.int (0 : Int32)), (.int (0 : Int32)), (.int (2 : Int32))] := V1686
  refine own_aloadN X1686 rfl rfl own_d_prog_20_method_1_code_179 (pc' := 180) rfl ?_
  refine own_iload X1686 rfl own_d_prog_20_method_1_code_180 (pc' := 182) rfl ?_
  refine own_daload X1686 V1696 (i := 1) (by decide) (by decide) rfl own_d_prog_20_method_1_code_182 (pc' := 183) rfl ?_
  refine own_dconst0 X1686 (v := (0 : UInt64)) rfl own_d_prog_20_method_1_code_183 (pc' := 184) rfl ?_
  have f1707 : own_D 0 0 (0 : Int) (0 : UInt64) := own_D.lit (s := false) (c := 0) (q := -1074) (by decide +kernel) (by decide +kernel) (by decide)
  refine own_dcmp X1686 (D_z1.cmp f1707) own_d_prog_20_method_1_code_184 (pc' := 185) rfl ?_
  have c1708 : ¬ (i_z1 < (0 : Int)) := by omega
  refine own_ifF X1686 (own_c3_nlt c1708).1 own_d_prog_20_method_1_code_185 (pc' := 188) rfl ?_
  refine own_aloadN X1686 rfl rfl own_d_prog_20_method_1_code_188 (pc' := 189) rfl ?_
  refine own_iload X1686 rfl own_d_prog_20_method_1_code_189 (pc' := 191) rfl ?_
  refine own_daload X1686 V1696 (i := 1) (by decide) (by decide) rfl own_d_prog_20_method_1_code_191 (pc' := 192) rfl ?_
  refine own_ldcD X1686 (v := (9218868437227405312 : UInt64)) (ww 73 rfl) own_d_prog_20_method_1_code_192 (pc' := 195) rfl ?_
  refine own_dcmp X1686 (v := (-1 : Int32)) (dcmp_pinf D_z1.isFin _) own_d_prog_20_method_1_code_195 (pc' := 196) rfl ?_
  refine own_ifT X1686 (by decide) own_d_prog_20_method_1_code_196 (pc' := 218) (by decide) (by decide) ?_
  refine own_iinc X1686 (Ls' := #[oA a1, oA a2, oA a3, oA a4, oI 4, oI 0, oI 2, oI 3, oI 1]) rfl (by decide) rfl own_d_prog_20_method_1_code_218 (pc' := 221) rfl ?_
  refine own_goto X1686 own_d_prog_20_method_1_code_221 (pc' := 84) (by decide) (by decide) ?_
  refine own_iload X1686 rfl own_d_prog_20_method_1_code_84 (pc' := 86) rfl ?_
  refine own_iload X1686 rfl own_d_prog_20_method_1_code_86 (pc' := 88) rfl ?_
  refine own_icmpF X1686 (by decide) own_d_prog_20_method_1_code_88 (pc' := 91) rfl ?_
  refine own_aloadN X1686 rfl rfl own_d_prog_20_method_1_code_91 (pc' := 92) rfl ?_
  refine own_iload X1686 rfl own_d_prog_20_method_1_code_92 (pc' := 94) rfl ?_
  refine own_iaload X1686 V1694 (i := 2) (by decide) (by decide) rfl own_d_prog_20_method_1_code_94 (pc' := 95) rfl ?_
  refine own_istore X1686 (Ls' := #[oA a1, oA a2, oA a3, oA a4, oI 4, oI 0, oI 2, oI 3, oI 1]) rfl own_d_prog_20_method_1_code_95 (pc' := 97) rfl ?_
  refine own_iload X1686 rfl own_d_prog_20_method_1_code_97 (pc' := 99) rfl ?_
  refine own_iload X1686 rfl own_d_prog_20_method_1_code_99 (pc' := 101) rfl ?_
  refine own_iconst X1686 (v := (1 : Int32)) (by decide) own_d_prog_20_method_1_code_101 (pc' := 102) rfl ?_
  refine own_isub X1686 (v := (3 : Int32)) (by decide) own_d_prog_20_method_1_code_102 (pc' := 103) rfl ?_
  refine own_icmpT X1686 (by decide) own_d_prog_20_method_1_code_103 (pc' := 120) (by decide) (by decide) ?_
  refine own_iload X1686 rfl own_d_prog_20_method_1_code_120 (pc' := 122) rfl ?_
  refine own_iload X1686 rfl own_d_prog_20_method_1_code_122 (pc' := 124) rfl ?_
  refine own_icmpF X1686 (by decide) own_d_prog_20_method_1_code_124 (pc' := 127) rfl ?_
  refine own_iload X1686 rfl own_d_prog_20_method_1_code_127 (pc' := 129) rfl ?_
  refine own_iload X1686 rfl own_d_prog_20_method_1_code_129 (pc' := 131) rfl ?_
  refine own_icmpF X1686 (by decide) own_d_prog_20_method_1_code_131 (pc' := 134) rfl ?_
  refine own_iconst X1686 (v := (1 : Int32)) (by decide) own_d_prog_20_method_1_code_134 (pc' := 135) rfl ?_
  refine own_goto X1686 own_d_prog_20_method_1_code_135 (pc' := 139) (by decide) (by decide) ?_
  refine own_istore X1686 (Ls' := #[oA a1, oA a2, oA a3, oA a4, oI 4, oI 0, oI 2, oI 3, oI 1]) rfl own_d_prog_20_method_1_code_139 (pc' := 141) rfl ?_
  refine own_iload X1686 rfl own_d_prog_20_method_1_code_141 (pc' := 143) rfl ?_
  refine own_ifT X1686 (by decide) own_d_prog_20_method_1_code_143 (pc' := 163) (by decide) (by decide) ?_
  refine own_iload X1686 rfl own_d_prog_20_method_1_code_163 (pc' := 165) rfl ?_
  refine own_ifF X1686 (by decide) own_d_prog_20_method_1_code_165 (pc' := 168) rfl ?_
  refine own_aloadN X1686 rfl rfl own_d_prog_20_method_1_code_168 (pc' := 169) rfl ?_
  refine own_getF X1686 (ww 71 rfl) F1688 own_d_prog_20_method_1_code_169 (pc' := 172) rfl fun T1709 X1709 => ?_
  refine own_iload X1709 rfl own_d_prog_20_method_1_code_172 (pc' := 174) rfl ?_
  refine own_dup2 X1709 rfl rfl own_d_prog_20_method_1_code_174 (pc' := 175) rfl ?_
  refine own_iaload X1709 V1686 (i := 3) (by decide) (by decide) rfl own_d_prog_20_method_1_code_175 (pc' := 176) rfl ?_
  refine own_iconst X1709 (v := (1 : Int32)) (by decide) own_d_prog_20_method_1_code_176 (pc' := 177) rfl ?_
  refine own_iadd X1709 (v := (3 : Int32)) (by decide) own_d_prog_20_method_1_code_177 (pc' := 178) rfl ?_
  refine own_iastore X1709 V1686 ge1611 (i := 3) (by decide) (by decide) (show 3 < 4 by decide) own_d_prog_20_method_1_code_178 (pc' := 179) rfl fun T1710 h1710 X1710 W1710 V1710 => ?_
  have A1711 := A1687.wr W1710
  have F1712 := F1688.other W1710 (Or.inl ne1612)
  have F1713 := F1689.other W1710 (Or.inl ne1612)
  have F1714 := F1690.other W1710 (Or.inl ne1612)
  have F1715 := F1691.other W1710 (Or.inl ne1612)
  have F1716 := F1692.other W1710 (Or.inl ne1612)
  have A1717 := A1693.wr W1710
  have V1718 := V1694.other W1710 ne1613
  have A1719 := A1695.wr W1710
  have V1720 := V1696.other W1710 ne1614
  have A1721 := A1697.wr W1710
  have V1722 := V1698.other W1710 ne1615
  have A1723 := A1699.wr W1710
  have V1724 := V1700.other W1710 ne1616
  have A1725 := A1701.wr W1710
  have V1726 := V1702.other W1710 ne1617
  have A1727 := A1703.wr W1710
  have V1728 := V1704.other W1710 ne1618
  have A1729 := A1705.wr W1710
  have K1730 := K1706.wr W1710 (Or.inr sz1619)
  replace V1710 : own_Vec Z h1710 a1611 .int [(.int (0 : Int32)), (.int (0 : Int32)), (.int (0 : Int32)), (.int (3 : Int32))] := V1710
  refine own_aloadN X1710 rfl rfl own_d_prog_20_method_1_code_179 (pc' := 180) rfl ?_
  refine own_iload X1710 rfl own_d_prog_20_method_1_code_180 (pc' := 182) rfl ?_
  refine own_daload X1710 V1720 (i := 2) (by decide) (by decide) rfl own_d_prog_20_method_1_code_182 (pc' := 183) rfl ?_
  refine own_dconst0 X1710 (v := (0 : UInt64)) rfl own_d_prog_20_method_1_code_183 (pc' := 184) rfl ?_
  have f1731 : own_D 0 0 (0 : Int) (0 : UInt64) := own_D.lit (s := false) (c := 0) (q := -1074) (by decide +kernel) (by decide +kernel) (by decide)
  refine own_dcmp X1710 (D_z2.cmp f1731) own_d_prog_20_method_1_code_184 (pc' := 185) rfl ?_
  have c1732 : ¬ (i_z2 < (0 : Int)) := by omega
  refine own_ifF X1710 (own_c3_nlt c1732).1 own_d_prog_20_method_1_code_185 (pc' := 188) rfl ?_
  refine own_aloadN X1710 rfl rfl own_d_prog_20_method_1_code_188 (pc' := 189) rfl ?_
  refine own_iload X1710 rfl own_d_prog_20_method_1_code_189 (pc' := 191) rfl ?_
  refine own_daload X1710 V1720 (i := 2) (by decide) (by decide) rfl own_d_prog_20_method_1_code_191 (pc' := 192) rfl ?_
  refine own_ldcD X1710 (v := (9218868437227405312 : UInt64)) (ww 73 rfl) own_d_prog_20_method_1_code_192 (pc' := 195) rfl ?_
  refine own_dcmp X1710 (v := (-1 : Int32)) (dcmp_pinf D_z2.isFin _) own_d_prog_20_method_1_code_195 (pc' := 196) rfl ?_
  refine own_ifT X1710 (by decide) own_d_prog_20_method_1_code_196 (pc' := 218) (by decide) (by decide) ?_
  refine own_iinc X1710 (Ls' := #[oA a1, oA a2, oA a3, oA a4, oI 4, oI 0, oI 3, oI 3, oI 1]) rfl (by decide) rfl own_d_prog_20_method_1_code_218 (pc' := 221) rfl ?_
  refine own_goto X1710 own_d_prog_20_method_1_code_221 (pc' := 84) (by decide) (by decide) ?_
  refine own_iload X1710 rfl own_d_prog_20_method_1_code_84 (pc' := 86) rfl ?_
  refine own_iload X1710 rfl own_d_prog_20_method_1_code_86 (pc' := 88) rfl ?_
  refine own_icmpF X1710 (by decide) own_d_prog_20_method_1_code_88 (pc' := 91) rfl ?_
  refine own_aloadN X1710 rfl rfl own_d_prog_20_method_1_code_91 (pc' := 92) rfl ?_
  refine own_iload X1710 rfl own_d_prog_20_method_1_code_92 (pc' := 94) rfl ?_
  refine own_iaload X1710 V1718 (i := 3) (by decide) (by decide) rfl own_d_prog_20_method_1_code_94 (pc' := 95) rfl ?_
  refine own_istore X1710 (Ls' := #[oA a1, oA a2, oA a3, oA a4, oI 4, oI 0, oI 3, oI (-1), oI 1]) rfl own_d_prog_20_method_1_code_95 (pc' := 97) rfl ?_
  refine own_iload X1710 rfl own_d_prog_20_method_1_code_97 (pc' := 99) rfl ?_
  refine own_iload X1710 rfl own_d_prog_20_method_1_code_99 (pc' := 101) rfl ?_
  refine own_iconst X1710 (v := (1 : Int32)) (by decide) own_d_prog_20_method_1_code_101 (pc' := 102) rfl ?_
  refine own_isub X1710 (v := (3 : Int32)) (by decide) own_d_prog_20_method_1_code_102 (pc' := 103) rfl ?_
  refine own_icmpF X1710 (by decide) own_d_prog_20_method_1_code_103 (pc' := 106) rfl ?_
  refine own_iload X1710 rfl own_d_prog_20_method_1_code_106 (pc' := 108) rfl ?_
  refine own_iconst X1710 (v := (-1 : Int32)) (by decide) own_d_prog_20_method_1_code_108 (pc' := 109) rfl ?_
  refine own_icmpF X1710 (by decide) own_d_prog_20_method_1_code_109 (pc' := 112) rfl ?_
  refine own_iconst X1710 (v := (1 : Int32)) (by decide) own_d_prog_20_method_1_code_112 (pc' := 113) rfl ?_
  refine own_goto X1710 own_d_prog_20_method_1_code_113 (pc' := 139) (by decide) (by decide) ?_
  refine own_istore X1710 (Ls' := #[oA a1, oA a2, oA a3, oA a4, oI 4, oI 0, oI 3, oI (-1), oI 1]) rfl own_d_prog_20_method_1_code_139 (pc' := 141) rfl ?_
  refine own_iload X1710 rfl own_d_prog_20_method_1_code_141 (pc' := 143) rfl ?_
  refine own_ifT X1710 (by decide) own_d_prog_20_method_1_code_143 (pc' := 163) (by decide) (by decide) ?_
  refine own_iload X1710 rfl own_d_prog_20_method_1_code_163 (pc' := 165) rfl ?_
  refine own_ifT X1710 (by decide) own_d_prog_20_method_1_code_165 (pc' := 218) (by decide) (by decide) ?_
  refine own_iinc X1710 (Ls' := #[oA a1, oA a2, oA a3, oA a4, oI 4, oI 0, oI 4, oI (-1), oI 1]) rfl (by decide) rfl own_d_prog_20_method_1_code_218 (pc' := 221) rfl ?_
  refine own_goto X1710 own_d_prog_20_method_1_code_221 (pc' := 84) (by decide) (by decide) ?_
  refine own_iload X1710 rfl own_d_prog_20_method_1_code_84 (pc' := 86) rfl ?_
  refine own_iload X1710 rfl own_d_prog_20_method_1_code_86 (pc' := 88) rfl ?_
  refine own_icmpT X1710 (by decide) own_d_prog_20_method_1_code_88 (pc' := 224) (by decide) (by decide) ?_
  refine own_iconst X1710 (v := (0 : Int32)) (by decide) own_d_prog_20_method_1_code_224 (pc' := 225) rfl ?_
  refine own_istore X1710 (Ls' := #[oA a1, oA a2, oA a3, oA a4, oI 4, oI 0, oI 0, oI (-1), oI 1]) rfl own_d_prog_20_method_1_code_225 (pc' := 227) rfl ?_
  refine own_iload X1710 rfl own_d_prog_20_method_1_code_227 (pc' := 229) rfl ?_
  refine own_iload X1710 rfl own_d_prog_20_method_1_code_229 (pc' := 231) rfl ?_
  refine own_icmpF X1710 (by decide) own_d_prog_20_method_1_code_231 (pc' := 234) rfl ?_
  refine own_aloadN X1710 rfl rfl own_d_prog_20_method_1_code_234 (pc' := 235) rfl ?_
  refine own_getF X1710 (ww 71 rfl) F1712 own_d_prog_20_method_1_code_235 (pc' := 238) rfl fun T1733 X1733 => ?_
  refine own_iload X1733 rfl own_d_prog_20_method_1_code_238 (pc' := 240) rfl ?_
  refine own_iaload X1733 V1710 (i := 0) (by decide) (by decide) rfl own_d_prog_20_method_1_code_240 (pc' := 241) rfl ?_
  refine own_ifF X1733 (by decide) own_d_prog_20_method_1_code_241 (pc' := 244) rfl ?_
  refine own_iinc X1733 (Ls' := #[oA a1, oA a2, oA a3, oA a4, oI 4, oI 1, oI 0, oI (-1), oI 1]) rfl (by decide) rfl own_d_prog_20_method_1_code_244 (pc' := 247) rfl ?_
  refine own_aloadN X1733 rfl rfl own_d_prog_20_method_1_code_247 (pc' := 248) rfl ?_
  refine own_iload X1733 rfl own_d_prog_20_method_1_code_248 (pc' := 250) rfl ?_
  refine own_aaload X1733 V1722 rfl (i := 0) (by decide) (by decide) rfl own_d_prog_20_method_1_code_250 (pc' := 251) rfl ?_
  refine own_ifnonnullT X1733 own_d_prog_20_method_1_code_251 (pc' := 269) (by decide) (by decide) ?_
  refine own_iinc X1733 (Ls' := #[oA a1, oA a2, oA a3, oA a4, oI 4, oI 1, oI 1, oI (-1), oI 1]) rfl (by decide) rfl own_d_prog_20_method_1_code_269 (pc' := 272) rfl ?_
  refine own_goto X1733 own_d_prog_20_method_1_code_272 (pc' := 227) (by decide) (by decide) ?_
  refine own_iload X1733 rfl own_d_prog_20_method_1_code_227 (pc' := 229) rfl ?_
  refine own_iload X1733 rfl own_d_prog_20_method_1_code_229 (pc' := 231) rfl ?_
  refine own_icmpF X1733 (by decide) own_d_prog_20_method_1_code_231 (pc' := 234) rfl ?_
  refine own_aloadN X1733 rfl rfl own_d_prog_20_method_1_code_234 (pc' := 235) rfl ?_
  refine own_getF X1733 (ww 71 rfl) F1712 own_d_prog_20_method_1_code_235 (pc' := 238) rfl fun T1734 X1734 => ?_
  refine own_iload X1734 rfl own_d_prog_20_method_1_code_238 (pc' := 240) rfl ?_
  refine own_iaload X1734 V1710 (i := 1) (by decide) (by decide) rfl own_d_prog_20_method_1_code_240 (pc' := 241) rfl ?_
  refine own_ifF X1734 (by decide) own_d_prog_20_method_1_code_241 (pc' := 244) rfl ?_
  refine own_iinc X1734 (Ls' := #[oA a1, oA a2, oA a3, oA a4, oI 4, oI 2, oI 1, oI (-1), oI 1]) rfl (by decide) rfl own_d_prog_20_method_1_code_244 (pc' := 247) rfl ?_
  refine own_aloadN X1734 rfl rfl own_d_prog_20_method_1_code_247 (pc' := 248) rfl ?_
  refine own_iload X1734 rfl own_d_prog_20_method_1_code_248 (pc' := 250) rfl ?_
  refine own_aaload X1734 V1722 rfl (i := 1) (by decide) (by decide) rfl own_d_prog_20_method_1_code_250 (pc' := 251) rfl ?_
  refine own_ifnonnullT X1734 own_d_prog_20_method_1_code_251 (pc' := 269) (by decide) (by decide) ?_
  refine own_iinc X1734 (Ls' := #[oA a1, oA a2, oA a3, oA a4, oI 4, oI 2, oI 2, oI (-1), oI 1]) rfl (by decide) rfl own_d_prog_20_method_1_code_269 (pc' := 272) rfl ?_
  refine own_goto X1734 own_d_prog_20_method_1_code_272 (pc' := 227) (by decide) (by decide) ?_
  refine own_iload X1734 rfl own_d_prog_20_method_1_code_227 (pc' := 229) rfl ?_
  refine own_iload X1734 rfl own_d_prog_20_method_1_code_229 (pc' := 231) rfl ?_
  refine own_icmpF X1734 (by decide) own_d_prog_20_method_1_code_231 (pc' := 234) rfl ?_
  refine own_aloadN X1734 rfl rfl own_d_prog_20_method_1_code_234 (pc' := 235) rfl ?_
  refine own_getF X1734 (ww 71 rfl) F1712 own_d_prog_20_method_1_code_235 (pc' := 238) rfl fun T1735 X1735 => ?_
  refine own_iload X1735 rfl own_d_prog_20_method_1_code_238 (pc' := 240) rfl ?_
  refine own_iaload X1735 V1710 (i := 2) (by decide) (by decide) rfl own_d_prog_20_method_1_code_240 (pc' := 241) rfl ?_
  refine own_ifF X1735 (by decide) own_d_prog_20_method_1_code_241 (pc' := 244) rfl ?_
  refine own_iinc X1735 (Ls' := #[oA a1, oA a2, oA a3, oA a4, oI 4, oI 3, oI 2, oI (-1), oI 1]) rfl (by decide) rfl own_d_prog_20_method_1_code_244 (pc' := 247) rfl ?_
  refine own_aloadN X1735 rfl rfl own_d_prog_20_method_1_code_247 (pc' := 248) rfl ?_
  refine own_iload X1735 rfl own_d_prog_20_method_1_code_248 (pc' := 250) rfl ?_
  refine own_aaload X1735 V1722 rfl (i := 2) (by decide) (by decide) rfl own_d_prog_20_method_1_code_250 (pc' := 251) rfl ?_
  refine own_ifnonnullT X1735 own_d_prog_20_method_1_code_251 (pc' := 269) (by decide) (by decide) ?_
  refine own_iinc X1735 (Ls' := #[oA a1, oA a2, oA a3, oA a4, oI 4, oI 3, oI 3, oI (-1), oI 1]) rfl (by decide) rfl own_d_prog_20_method_1_code_269 (pc' := 272) rfl ?_
  refine own_goto X1735 own_d_prog_20_method_1_code_272 (pc' := 227) (by decide) (by decide) ?_
  refine own_iload X1735 rfl own_d_prog_20_method_1_code_227 (pc' := 229) rfl ?_
  refine own_iload X1735 rfl own_d_prog_20_method_1_code_229 (pc' := 231) rfl ?_
  refine own_icmpF X1735 (by decide) own_d_prog_20_method_1_code_231 (pc' := 234) rfl ?_
  refine own_aloadN X1735 rfl rfl own_d_prog_20_method_1_code_234 (pc' := 235) rfl ?_
  refine own_getF X1735 (ww 71 rfl) F1712 own_d_prog_20_method_1_code_235 (pc' := 238) rfl fun T1736 X1736 => ?_
  refine own_iload X1736 rfl own_d_prog_20_method_1_code_238 (pc' := 240) rfl ?_
  refine own_iaload X1736 V1710 (i := 3) (by decide) (by decide) rfl own_d_prog_20_method_1_code_240 (pc' := 241) rfl ?_
  refine own_ifT X1736 (by decide) own_d_prog_20_method_1_code_241 (pc' := 269) (by decide) (by decide) ?_
  refine own_iinc X1736 (Ls' := #[oA a1, oA a2, oA a3, oA a4, oI 4, oI 3, oI 4, oI (-1), oI 1]) rfl (by decide) rfl own_d_prog_20_method_1_code_269 (pc' := 272) rfl ?_
  refine own_goto X1736 own_d_prog_20_method_1_code_272 (pc' := 227) (by decide) (by decide) ?_
  refine own_iload X1736 rfl own_d_prog_20_method_1_code_227 (pc' := 229) rfl ?_
  refine own_iload X1736 rfl own_d_prog_20_method_1_code_229 (pc' := 231) rfl ?_
  refine own_icmpT X1736 (by decide) own_d_prog_20_method_1_code_231 (pc' := 275) (by decide) (by decide) ?_
  refine own_aloadN X1736 rfl rfl own_d_prog_20_method_1_code_275 (pc' := 276) rfl ?_
  refine own_iload X1736 rfl own_d_prog_20_method_1_code_276 (pc' := 278) rfl ?_
  refine own_putF X1736 (ww 74 rfl) F1716 A1711 (Or.inr ⟨(ww 75 rfl), rfl, rfl⟩) (ww 38 rfl) (ty := .int) (by decide) rfl rfl ge1 own_d_prog_20_method_1_code_278 (pc' := 281) rfl fun T1737 h1737 X1737 W1737 => ?_
  have A1738 := A1711.wr W1737
  have A1739 := A1717.wr W1737
  have V1740 := V1718.other W1737 N2.symm
  have A1741 := A1719.wr W1737
  have V1742 := V1720.other W1737 N3.symm
  have A1743 := A1721.wr W1737
  have V1744 := V1722.other W1737 N4.symm
  have A1745 := A1723.wr W1737
  have V1746 := V1724.other W1737 ne1489.symm
  have A1747 := A1725.wr W1737
  have V1748 := V1726.other W1737 ne1525.symm
  have A1749 := A1727.wr W1737
  have V1750 := V1728.other W1737 ne1566.symm
  have A1751 := A1729.wr W1737
  have V1752 := V1710.other W1737 ne1612.symm
  have K1753 := K1730.wr W1737 (Or.inl (by simp))
  have F1754 := F1716.same W1737
  have F1755 := F1712.other W1737 (Or.inr (slot_ne (C := "com/example/cladewalk/cladewalk/tree/Tree") (Or.inr (ww 72 rfl)) (Or.inr (ww 75 rfl)) (by decide) (t := (.array .int)) (t' := .int) (by decide) (by decide)))
  have F1756 := F1713.other W1737 (Or.inr (slot_ne (C := "com/example/cladewalk/cladewalk/tree/Tree") (Or.inr (ww 70 rfl)) (Or.inr (ww 75 rfl)) (by decide) (t := (.array (.object "java/lang/String"))) (t' := .int) (by decide) (by decide)))
  have F1757 := F1714.other W1737 (Or.inr (slot_ne (C := "com/example/cladewalk/cladewalk/tree/Tree") (Or.inr (ww 62 rfl)) (Or.inr (ww 75 rfl)) (by decide) (t := (.array .double)) (t' := .int) (by decide) (by decide)))
  have F1758 := F1715.other W1737 (Or.inr (slot_ne (C := "com/example/cladewalk/cladewalk/tree/Tree") (Or.inr (ww 54 rfl)) (Or.inr (ww 75 rfl)) (by decide) (t := (.array .int)) (t' := .int) (by decide) (by decide)))
  exact own_retV X1737  own_d_prog_20_method_1_code_281 rfl (by decide) (by decide) ⟨rfl, ⟨_, _, F1755, F1756, V1752, V1750⟩, K1753⟩
abbrev own_rm_own_ti_1 : Room := ({ frames := 1, cells := 4, slots := 4, locals := 15 } : Room)
set_option maxRecDepth 65536 in
set_option maxHeartbeats 40000000 in
theorem own_ti_1 (l : Launch) (Z : State) (a0 : Array Value) (hw : ∀ d ∈ tables_1, d.before a0 Z = true) (a1 a2 a3 a4 : Addr) (s0 : Addr) (h0 : Heap) (n0 : Nat) (Z0 : n0 ≤ h0.size) (ge1 : n0 ≤ a1) (A1 : Exa Z h0 a1 "com/example/cladewalk/cladewalk/tree/Tree") (F0 : Fld Z h0 a1 "com/example/cladewalk/cladewalk/tree/Tree" "parents" "[I" .null) (F1 : Fld Z h0 a1 "com/example/cladewalk/cladewalk/tree/Tree" "lengths" "[D" .null) (F2 : Fld Z h0 a1 "com/example/cladewalk/cladewalk/tree/Tree" "names" "[Ljava/lang/String;" .null) (F3 : Fld Z h0 a1 "com/example/cladewalk/cladewalk/tree/Tree" "childCounts" "[I" .null) (F4 : Fld Z h0 a1 "com/example/cladewalk/cladewalk/tree/Tree" "tipCount" "I" (.int (0 : Int32))) (V1 : own_Vec Z h0 a2 .int [(.int (-1 : Int32))]) (V2 : own_Vec Z h0 a3 .double [(.double (0 : UInt64))]) (V3 : own_Vec Z h0 a4 (.object "java/lang/String") [(.ref s0)]) (B1 : Exa Z h0 a2 "[I") (B2 : Exa Z h0 a3 "[D") (B3 : Exa Z h0 a4 "[Ljava/lang/String;") (N2 : a1 ≠ a2) (N3 : a1 ≠ a3) (N4 : a1 ≠ a4) :
    own_Met l Z ({ cls := "com/example/cladewalk/cladewalk/tree/Tree", name := "<init>", desc := "([I[D[Ljava/lang/String;)V" } : Jvm.MethodName) prog_20_method_1_code 9 none [] own_rm_own_ti_1 #[(.ref a1), (.ref a2), (.ref a3), (.ref a4)] h0 n0 (fun v h => v = none ∧ (∃ x y, Fld Z h a1 "com/example/cladewalk/cladewalk/tree/Tree" "childCounts" "[I" (.ref x) ∧ Fld Z h a1 "com/example/cladewalk/cladewalk/tree/Tree" "names" "[Ljava/lang/String;" (.ref y) ∧ own_Vec Z h x .int [(.int (0 : Int32))] ∧ own_Vec Z h y (.object "java/lang/String") [(.ref s0)]) ∧ Keep h0 h [a1]) := by
  have ww := fun (i : Nat) {d : Jvm.Cond} (q : tables_1[i]? = some d) => hw d (List.mem_of_getElem? q)
  refine own_meet (plainFor_of_name own_pn4) Z0 (Ls0 := #[oA a1, oA a2, oA a3, oA a4, oU, oU, oU, oU, oU]) (by intro m; first | (simp [entryFrame, mkF, argsToLocals, Value.category]; done) | rfl) ?_
  intro p e s m below meth c T0 X0
  have K0 := Keep.refl h0 [a1]
  refine own_aloadN X0 rfl rfl own_d_prog_20_method_1_code_0 (pc' := 1) rfl ?_
  refine own_initO X0 (ww 43 rfl) (ww 16 rfl) (ww 17 rfl) rfl (by decide) (W := 0) (Nat.le_of_eq rfl) (by decide) own_d_prog_20_method_1_code_1 (pc' := 4) rfl fun T1759 X1759 => ?_
  refine own_aloadN X1759 rfl rfl own_d_prog_20_method_1_code_4 (pc' := 5) rfl ?_
  refine own_len X1759 V1 (v := (1 : Int32)) (show (1 : Nat).toInt32 = (1 : Int32) by decide) own_d_prog_20_method_1_code_5 (pc' := 6) rfl ?_
  refine own_istore X1759 (Ls' := #[oA a1, oA a2, oA a3, oA a4, oI 1, oU, oU, oU, oU]) rfl own_d_prog_20_method_1_code_6 (pc' := 8) rfl ?_
  refine own_iload X1759 rfl own_d_prog_20_method_1_code_8 (pc' := 10) rfl ?_
  refine own_ifF X1759 (by decide) own_d_prog_20_method_1_code_10 (pc' := 13) rfl ?_
  refine own_aloadN X1759 rfl rfl own_d_prog_20_method_1_code_13 (pc' := 14) rfl ?_
  refine own_len X1759 V2 (v := (1 : Int32)) (show (1 : Nat).toInt32 = (1 : Int32) by decide) own_d_prog_20_method_1_code_14 (pc' := 15) rfl ?_
  refine own_iload X1759 rfl own_d_prog_20_method_1_code_15 (pc' := 17) rfl ?_
  refine own_icmpF X1759 (by decide) own_d_prog_20_method_1_code_17 (pc' := 20) rfl ?_
  refine own_aloadN X1759 rfl rfl own_d_prog_20_method_1_code_20 (pc' := 21) rfl ?_
  refine own_len X1759 V3 (v := (1 : Int32)) (show (1 : Nat).toInt32 = (1 : Int32) by decide) own_d_prog_20_method_1_code_21 (pc' := 22) rfl ?_
  refine own_iload X1759 rfl own_d_prog_20_method_1_code_22 (pc' := 24) rfl ?_
  refine own_icmpT X1759 (by decide) own_d_prog_20_method_1_code_24 (pc' := 37) (by decide) (by decide) ?_
  refine own_aloadN X1759 rfl rfl own_d_prog_20_method_1_code_37 (pc' := 38) rfl ?_
  refine own_aloadN X1759 rfl rfl own_d_prog_20_method_1_code_38 (pc' := 39) rfl ?_
  refine own_clone X1759 (ad := "[I") (ww 44 rfl) (ww 45 rfl) (ww 49 rfl) (ww 47 rfl) (ww 48 rfl) (ww 50 rfl) V1 B1 (own_fitS rfl own_fit0) (n := 1) rfl rfl (by decide) (W := 1) (Nat.le_of_eq rfl) (by decide) (cells' := 1) (slots' := 1) rfl rfl (by decide) (by decide) own_d_prog_20_method_1_code_39 (pc' := 42) rfl fun a1760 T1760 h1760 g1760 ge1760 X1760 E1760 V1760 A1760 => ?_
  have ne1761 : a1 ≠ a1760 := own_lt_ne A1.lt g1760
  have ne1762 : a2 ≠ a1760 := own_lt_ne V1.lt g1760
  have ne1763 : a3 ≠ a1760 := own_lt_ne V2.lt g1760
  have ne1764 : a4 ≠ a1760 := own_lt_ne V3.lt g1760
  have sz1765 := own_ge K0 g1760
  have A1766 := A1.ext E1760
  have F1767 := F0.ext E1760
  have F1768 := F1.ext E1760
  have F1769 := F2.ext E1760
  have F1770 := F3.ext E1760
  have F1771 := F4.ext E1760
  have V1772 := V1.ext E1760
  have A1773 := B1.ext E1760
  have V1774 := V2.ext E1760
  have A1775 := B2.ext E1760
  have V1776 := V3.ext E1760
  have A1777 := B3.ext E1760
  have K1778 := K0.ext E1760
  refine own_cast_ X1760 (ww 51 rfl) A1760 own_d_prog_20_method_1_code_42 (pc' := 45) rfl fun T1779 X1779 => ?_
  refine own_putF X1779 (ww 53 rfl) F1767 A1766 (Or.inr ⟨(ww 54 rfl), rfl, rfl⟩) (ww 38 rfl) (ty := (.array .int)) (by decide) rfl rfl ge1 own_d_prog_20_method_1_code_45 (pc' := 48) rfl fun T1780 h1780 X1780 W1780 => ?_
  have A1781 := A1766.wr W1780
  have A1782 := A1773.wr W1780
  have V1783 := V1772.other W1780 N2.symm
  have A1784 := A1775.wr W1780
  have V1785 := V1774.other W1780 N3.symm
  have A1786 := A1777.wr W1780
  have V1787 := V1776.other W1780 N4.symm
  have A1788 := A1760.wr W1780
  have V1789 := V1760.other W1780 ne1761.symm
  have K1790 := K1778.wr W1780 (Or.inl (by simp))
  have F1791 := F1767.same W1780
  have F1792 := F1768.other W1780 (Or.inr (slot_ne (C := "com/example/cladewalk/cladewalk/tree/Tree") (Or.inr (ww 62 rfl)) (Or.inr (ww 54 rfl)) (by decide) (t := (.array .double)) (t' := (.array .int)) (by decide) (by decide)))
  have F1793 := F1769.other W1780 (Or.inr (slot_ne (C := "com/example/cladewalk/cladewalk/tree/Tree") (Or.inr (ww 70 rfl)) (Or.inr (ww 54 rfl)) (by decide) (t := (.array (.object "java/lang/String"))) (t' := (.array .int)) (by decide) (by decide)))
  have F1794 := F1770.other W1780 (Or.inr (slot_ne (C := "com/example/cladewalk/cladewalk/tree/Tree") (Or.inr (ww 72 rfl)) (Or.inr (ww 54 rfl)) (by decide) (t := (.array .int)) (t' := (.array .int)) (by decide) (by decide)))
  have F1795 := F1771.other W1780 (Or.inr (slot_ne (C := "com/example/cladewalk/cladewalk/tree/Tree") (Or.inr (ww 75 rfl)) (Or.inr (ww 54 rfl)) (by decide) (t := .int) (t' := (.array .int)) (by decide) (by decide)))
  refine own_aloadN X1780 rfl rfl own_d_prog_20_method_1_code_48 (pc' := 49) rfl ?_
  refine own_aloadN X1780 rfl rfl own_d_prog_20_method_1_code_49 (pc' := 50) rfl ?_
  refine own_clone X1780 (ad := "[D") (ww 55 rfl) (ww 56 rfl) (ww 49 rfl) (ww 47 rfl) (ww 57 rfl) (ww 58 rfl) V1785 A1784 (own_fitS rfl own_fit0) (n := 1) rfl rfl (by decide) (W := 1) (Nat.le_of_eq rfl) (by decide) (cells' := 2) (slots' := 2) rfl rfl (by decide) (by decide) own_d_prog_20_method_1_code_50 (pc' := 53) rfl fun a1796 T1796 h1796 g1796 ge1796 X1796 E1796 V1796 A1796 => ?_
  have ne1797 : a1 ≠ a1796 := own_lt_ne A1781.lt g1796
  have ne1798 : a2 ≠ a1796 := own_lt_ne V1783.lt g1796
  have ne1799 : a3 ≠ a1796 := own_lt_ne V1785.lt g1796
  have ne1800 : a4 ≠ a1796 := own_lt_ne V1787.lt g1796
  have ne1801 : a1760 ≠ a1796 := own_lt_ne V1789.lt g1796
  have sz1802 := own_ge K1790 g1796
  have A1803 := A1781.ext E1796
  have F1804 := F1791.ext E1796
  have F1805 := F1792.ext E1796
  have F1806 := F1793.ext E1796
  have F1807 := F1794.ext E1796
  have F1808 := F1795.ext E1796
  have V1809 := V1783.ext E1796
  have A1810 := A1782.ext E1796
  have V1811 := V1785.ext E1796
  have A1812 := A1784.ext E1796
  have V1813 := V1787.ext E1796
  have A1814 := A1786.ext E1796
  have V1815 := V1789.ext E1796
  have A1816 := A1788.ext E1796
  have K1817 := K1790.ext E1796
  refine own_cast_ X1796 (ww 59 rfl) A1796 own_d_prog_20_method_1_code_53 (pc' := 56) rfl fun T1818 X1818 => ?_
  refine own_putF X1818 (ww 61 rfl) F1805 A1803 (Or.inr ⟨(ww 62 rfl), rfl, rfl⟩) (ww 38 rfl) (ty := (.array .double)) (by decide) rfl rfl ge1 own_d_prog_20_method_1_code_56 (pc' := 59) rfl fun T1819 h1819 X1819 W1819 => ?_
  have A1820 := A1803.wr W1819
  have A1821 := A1810.wr W1819
  have V1822 := V1809.other W1819 N2.symm
  have A1823 := A1812.wr W1819
  have V1824 := V1811.other W1819 N3.symm
  have A1825 := A1814.wr W1819
  have V1826 := V1813.other W1819 N4.symm
  have A1827 := A1816.wr W1819
  have V1828 := V1815.other W1819 ne1761.symm
  have A1829 := A1796.wr W1819
  have V1830 := V1796.other W1819 ne1797.symm
  have K1831 := K1817.wr W1819 (Or.inl (by simp))
  have F1832 := F1805.same W1819
  have F1833 := F1804.other W1819 (Or.inr (slot_ne (C := "com/example/cladewalk/cladewalk/tree/Tree") (Or.inr (ww 54 rfl)) (Or.inr (ww 62 rfl)) (by decide) (t := (.array .int)) (t' := (.array .double)) (by decide) (by decide)))
  have F1834 := F1806.other W1819 (Or.inr (slot_ne (C := "com/example/cladewalk/cladewalk/tree/Tree") (Or.inr (ww 70 rfl)) (Or.inr (ww 62 rfl)) (by decide) (t := (.array (.object "java/lang/String"))) (t' := (.array .double)) (by decide) (by decide)))
  have F1835 := F1807.other W1819 (Or.inr (slot_ne (C := "com/example/cladewalk/cladewalk/tree/Tree") (Or.inr (ww 72 rfl)) (Or.inr (ww 62 rfl)) (by decide) (t := (.array .int)) (t' := (.array .double)) (by decide) (by decide)))
  have F1836 := F1808.other W1819 (Or.inr (slot_ne (C := "com/example/cladewalk/cladewalk/tree/Tree") (Or.inr (ww 75 rfl)) (Or.inr (ww 62 rfl)) (by decide) (t := .int) (t' := (.array .double)) (by decide) (by decide)))
  refine own_aloadN X1819 rfl rfl own_d_prog_20_method_1_code_59 (pc' := 60) rfl ?_
  refine own_aloadN X1819 rfl rfl own_d_prog_20_method_1_code_60 (pc' := 61) rfl ?_
  refine own_clone X1819 (ad := "[Ljava/lang/String;") (ww 63 rfl) (ww 64 rfl) (ww 49 rfl) (ww 47 rfl) (ww 65 rfl) (ww 66 rfl) V1826 A1825 (own_fitS rfl own_fit0) (n := 1) rfl rfl (by decide) (W := 1) (Nat.le_of_eq rfl) (by decide) (cells' := 3) (slots' := 3) rfl rfl (by decide) (by decide) own_d_prog_20_method_1_code_61 (pc' := 64) rfl fun a1837 T1837 h1837 g1837 ge1837 X1837 E1837 V1837 A1837 => ?_
  have ne1838 : a1 ≠ a1837 := own_lt_ne A1820.lt g1837
  have ne1839 : a2 ≠ a1837 := own_lt_ne V1822.lt g1837
  have ne1840 : a3 ≠ a1837 := own_lt_ne V1824.lt g1837
  have ne1841 : a4 ≠ a1837 := own_lt_ne V1826.lt g1837
  have ne1842 : a1760 ≠ a1837 := own_lt_ne V1828.lt g1837
  have ne1843 : a1796 ≠ a1837 := own_lt_ne V1830.lt g1837
  have sz1844 := own_ge K1831 g1837
  have A1845 := A1820.ext E1837
  have F1846 := F1832.ext E1837
  have F1847 := F1833.ext E1837
  have F1848 := F1834.ext E1837
  have F1849 := F1835.ext E1837
  have F1850 := F1836.ext E1837
  have V1851 := V1822.ext E1837
  have A1852 := A1821.ext E1837
  have V1853 := V1824.ext E1837
  have A1854 := A1823.ext E1837
  have V1855 := V1826.ext E1837
  have A1856 := A1825.ext E1837
  have V1857 := V1828.ext E1837
  have A1858 := A1827.ext E1837
  have V1859 := V1830.ext E1837
  have A1860 := A1829.ext E1837
  have K1861 := K1831.ext E1837
  refine own_cast_ X1837 (ww 67 rfl) A1837 own_d_prog_20_method_1_code_64 (pc' := 67) rfl fun T1862 X1862 => ?_
  refine own_putF X1862 (ww 69 rfl) F1848 A1845 (Or.inr ⟨(ww 70 rfl), rfl, rfl⟩) (ww 38 rfl) (ty := (.array (.object "java/lang/String"))) (by decide) rfl rfl ge1 own_d_prog_20_method_1_code_67 (pc' := 70) rfl fun T1863 h1863 X1863 W1863 => ?_
  have A1864 := A1845.wr W1863
  have A1865 := A1852.wr W1863
  have V1866 := V1851.other W1863 N2.symm
  have A1867 := A1854.wr W1863
  have V1868 := V1853.other W1863 N3.symm
  have A1869 := A1856.wr W1863
  have V1870 := V1855.other W1863 N4.symm
  have A1871 := A1858.wr W1863
  have V1872 := V1857.other W1863 ne1761.symm
  have A1873 := A1860.wr W1863
  have V1874 := V1859.other W1863 ne1797.symm
  have A1875 := A1837.wr W1863
  have V1876 := V1837.other W1863 ne1838.symm
  have K1877 := K1861.wr W1863 (Or.inl (by simp))
  have F1878 := F1848.same W1863
  have F1879 := F1846.other W1863 (Or.inr (slot_ne (C := "com/example/cladewalk/cladewalk/tree/Tree") (Or.inr (ww 62 rfl)) (Or.inr (ww 70 rfl)) (by decide) (t := (.array .double)) (t' := (.array (.object "java/lang/String"))) (by decide) (by decide)))
  have F1880 := F1847.other W1863 (Or.inr (slot_ne (C := "com/example/cladewalk/cladewalk/tree/Tree") (Or.inr (ww 54 rfl)) (Or.inr (ww 70 rfl)) (by decide) (t := (.array .int)) (t' := (.array (.object "java/lang/String"))) (by decide) (by decide)))
  have F1881 := F1849.other W1863 (Or.inr (slot_ne (C := "com/example/cladewalk/cladewalk/tree/Tree") (Or.inr (ww 72 rfl)) (Or.inr (ww 70 rfl)) (by decide) (t := (.array .int)) (t' := (.array (.object "java/lang/String"))) (by decide) (by decide)))
  have F1882 := F1850.other W1863 (Or.inr (slot_ne (C := "com/example/cladewalk/cladewalk/tree/Tree") (Or.inr (ww 75 rfl)) (Or.inr (ww 70 rfl)) (by decide) (t := .int) (t' := (.array (.object "java/lang/String"))) (by decide) (by decide)))
  refine own_aloadN X1863 rfl rfl own_d_prog_20_method_1_code_70 (pc' := 71) rfl ?_
  refine own_iload X1863 rfl own_d_prog_20_method_1_code_71 (pc' := 73) rfl ?_
  refine own_newarrayE X1863 (ty := .int) rfl (ad := "[I") (by decide) (ww 34 rfl) (n := 1) (vs := [(.int (0 : Int32))]) (by decide) (by decide) (by decide) rfl (cells' := 4) (slots' := 4) rfl rfl (by decide) (by decide) own_d_prog_20_method_1_code_73 (pc' := 75) rfl fun a1883 T1883 h1883 g1883 ge1883 X1883 E1883 V1883 A1883 => ?_
  have ne1884 : a1 ≠ a1883 := own_lt_ne A1864.lt g1883
  have ne1885 : a2 ≠ a1883 := own_lt_ne V1866.lt g1883
  have ne1886 : a3 ≠ a1883 := own_lt_ne V1868.lt g1883
  have ne1887 : a4 ≠ a1883 := own_lt_ne V1870.lt g1883
  have ne1888 : a1760 ≠ a1883 := own_lt_ne V1872.lt g1883
  have ne1889 : a1796 ≠ a1883 := own_lt_ne V1874.lt g1883
  have ne1890 : a1837 ≠ a1883 := own_lt_ne V1876.lt g1883
  have sz1891 := own_ge K1877 g1883
  have A1892 := A1864.ext E1883
  have F1893 := F1878.ext E1883
  have F1894 := F1879.ext E1883
  have F1895 := F1880.ext E1883
  have F1896 := F1881.ext E1883
  have F1897 := F1882.ext E1883
  have V1898 := V1866.ext E1883
  have A1899 := A1865.ext E1883
  have V1900 := V1868.ext E1883
  have A1901 := A1867.ext E1883
  have V1902 := V1870.ext E1883
  have A1903 := A1869.ext E1883
  have V1904 := V1872.ext E1883
  have A1905 := A1871.ext E1883
  have V1906 := V1874.ext E1883
  have A1907 := A1873.ext E1883
  have V1908 := V1876.ext E1883
  have A1909 := A1875.ext E1883
  have K1910 := K1877.ext E1883
  refine own_putF X1883 (ww 71 rfl) F1896 A1892 (Or.inr ⟨(ww 72 rfl), rfl, rfl⟩) (ww 38 rfl) (ty := (.array .int)) (by decide) rfl rfl ge1 own_d_prog_20_method_1_code_75 (pc' := 78) rfl fun T1911 h1911 X1911 W1911 => ?_
  have A1912 := A1892.wr W1911
  have A1913 := A1899.wr W1911
  have V1914 := V1898.other W1911 N2.symm
  have A1915 := A1901.wr W1911
  have V1916 := V1900.other W1911 N3.symm
  have A1917 := A1903.wr W1911
  have V1918 := V1902.other W1911 N4.symm
  have A1919 := A1905.wr W1911
  have V1920 := V1904.other W1911 ne1761.symm
  have A1921 := A1907.wr W1911
  have V1922 := V1906.other W1911 ne1797.symm
  have A1923 := A1909.wr W1911
  have V1924 := V1908.other W1911 ne1838.symm
  have A1925 := A1883.wr W1911
  have V1926 := V1883.other W1911 ne1884.symm
  have K1927 := K1910.wr W1911 (Or.inl (by simp))
  have F1928 := F1896.same W1911
  have F1929 := F1893.other W1911 (Or.inr (slot_ne (C := "com/example/cladewalk/cladewalk/tree/Tree") (Or.inr (ww 70 rfl)) (Or.inr (ww 72 rfl)) (by decide) (t := (.array (.object "java/lang/String"))) (t' := (.array .int)) (by decide) (by decide)))
  have F1930 := F1894.other W1911 (Or.inr (slot_ne (C := "com/example/cladewalk/cladewalk/tree/Tree") (Or.inr (ww 62 rfl)) (Or.inr (ww 72 rfl)) (by decide) (t := (.array .double)) (t' := (.array .int)) (by decide) (by decide)))
  have F1931 := F1895.other W1911 (Or.inr (slot_ne (C := "com/example/cladewalk/cladewalk/tree/Tree") (Or.inr (ww 54 rfl)) (Or.inr (ww 72 rfl)) (by decide) (t := (.array .int)) (t' := (.array .int)) (by decide) (by decide)))
  have F1932 := F1897.other W1911 (Or.inr (slot_ne (C := "com/example/cladewalk/cladewalk/tree/Tree") (Or.inr (ww 75 rfl)) (Or.inr (ww 72 rfl)) (by decide) (t := .int) (t' := (.array .int)) (by decide) (by decide)))
  refine own_iconst X1911 (v := (0 : Int32)) (by decide) own_d_prog_20_method_1_code_78 (pc' := 79) rfl ?_
  refine own_istore X1911 (Ls' := #[oA a1, oA a2, oA a3, oA a4, oI 1, oI 0, oU, oU, oU]) rfl own_d_prog_20_method_1_code_79 (pc' := 81) rfl ?_
  refine own_iconst X1911 (v := (0 : Int32)) (by decide) own_d_prog_20_method_1_code_81 (pc' := 82) rfl ?_
  refine own_istore X1911 (Ls' := #[oA a1, oA a2, oA a3, oA a4, oI 1, oI 0, oI 0, oU, oU]) rfl own_d_prog_20_method_1_code_82 (pc' := 84) rfl ?_
  refine own_iload X1911 rfl own_d_prog_20_method_1_code_84 (pc' := 86) rfl ?_
  refine own_iload X1911 rfl own_d_prog_20_method_1_code_86 (pc' := 88) rfl ?_
  refine own_icmpF X1911 (by decide) own_d_prog_20_method_1_code_88 (pc' := 91) rfl ?_
  refine own_aloadN X1911 rfl rfl own_d_prog_20_method_1_code_91 (pc' := 92) rfl ?_
  refine own_iload X1911 rfl own_d_prog_20_method_1_code_92 (pc' := 94) rfl ?_
  refine own_iaload X1911 V1914 (i := 0) (by decide) (by decide) rfl own_d_prog_20_method_1_code_94 (pc' := 95) rfl ?_
  refine own_istore X1911 (Ls' := #[oA a1, oA a2, oA a3, oA a4, oI 1, oI 0, oI 0, oI (-1), oU]) rfl own_d_prog_20_method_1_code_95 (pc' := 97) rfl ?_
  refine own_iload X1911 rfl own_d_prog_20_method_1_code_97 (pc' := 99) rfl ?_
  refine own_iload X1911 rfl own_d_prog_20_method_1_code_99 (pc' := 101) rfl ?_
  refine own_iconst X1911 (v := (1 : Int32)) (by decide) own_d_prog_20_method_1_code_101 (pc' := 102) rfl ?_
  refine own_isub X1911 (v := (0 : Int32)) (by decide) own_d_prog_20_method_1_code_102 (pc' := 103) rfl ?_
  refine own_icmpF X1911 (by decide) own_d_prog_20_method_1_code_103 (pc' := 106) rfl ?_
  refine own_iload X1911 rfl own_d_prog_20_method_1_code_106 (pc' := 108) rfl ?_
  refine own_iconst X1911 (v := (-1 : Int32)) (by decide) own_d_prog_20_method_1_code_108 (pc' := 109) rfl ?_
  refine own_icmpF X1911 (by decide) own_d_prog_20_method_1_code_109 (pc' := 112) rfl ?_
  refine own_iconst X1911 (v := (1 : Int32)) (by decide) own_d_prog_20_method_1_code_112 (pc' := 113) rfl ?_
  refine own_goto X1911 own_d_prog_20_method_1_code_113 (pc' := 139) (by decide) (by decide) ?_
  refine own_istore X1911 (Ls' := #[oA a1, oA a2, oA a3, oA a4, oI 1, oI 0, oI 0, oI (-1), oI 1]) rfl own_d_prog_20_method_1_code_139 (pc' := 141) rfl ?_
  refine own_iload X1911 rfl own_d_prog_20_method_1_code_141 (pc' := 143) rfl ?_
  refine own_ifT X1911 (by decide) own_d_prog_20_method_1_code_143 (pc' := 163) (by decide) (by decide) ?_
  refine own_iload X1911 rfl own_d_prog_20_method_1_code_163 (pc' := 165) rfl ?_
  refine own_ifT X1911 (by decide) own_d_prog_20_method_1_code_165 (pc' := 218) (by decide) (by decide) ?_
  refine own_iinc X1911 (Ls' := #[oA a1, oA a2, oA a3, oA a4, oI 1, oI 0, oI 1, oI (-1), oI 1]) rfl (by decide) rfl own_d_prog_20_method_1_code_218 (pc' := 221) rfl ?_
  refine own_goto X1911 own_d_prog_20_method_1_code_221 (pc' := 84) (by decide) (by decide) ?_
  refine own_iload X1911 rfl own_d_prog_20_method_1_code_84 (pc' := 86) rfl ?_
  refine own_iload X1911 rfl own_d_prog_20_method_1_code_86 (pc' := 88) rfl ?_
  refine own_icmpT X1911 (by decide) own_d_prog_20_method_1_code_88 (pc' := 224) (by decide) (by decide) ?_
  refine own_iconst X1911 (v := (0 : Int32)) (by decide) own_d_prog_20_method_1_code_224 (pc' := 225) rfl ?_
  refine own_istore X1911 (Ls' := #[oA a1, oA a2, oA a3, oA a4, oI 1, oI 0, oI 0, oI (-1), oI 1]) rfl own_d_prog_20_method_1_code_225 (pc' := 227) rfl ?_
  refine own_iload X1911 rfl own_d_prog_20_method_1_code_227 (pc' := 229) rfl ?_
  refine own_iload X1911 rfl own_d_prog_20_method_1_code_229 (pc' := 231) rfl ?_
  refine own_icmpF X1911 (by decide) own_d_prog_20_method_1_code_231 (pc' := 234) rfl ?_
  refine own_aloadN X1911 rfl rfl own_d_prog_20_method_1_code_234 (pc' := 235) rfl ?_
  refine own_getF X1911 (ww 71 rfl) F1928 own_d_prog_20_method_1_code_235 (pc' := 238) rfl fun T1933 X1933 => ?_
  refine own_iload X1933 rfl own_d_prog_20_method_1_code_238 (pc' := 240) rfl ?_
  refine own_iaload X1933 V1926 (i := 0) (by decide) (by decide) rfl own_d_prog_20_method_1_code_240 (pc' := 241) rfl ?_
  refine own_ifF X1933 (by decide) own_d_prog_20_method_1_code_241 (pc' := 244) rfl ?_
  refine own_iinc X1933 (Ls' := #[oA a1, oA a2, oA a3, oA a4, oI 1, oI 1, oI 0, oI (-1), oI 1]) rfl (by decide) rfl own_d_prog_20_method_1_code_244 (pc' := 247) rfl ?_
  refine own_aloadN X1933 rfl rfl own_d_prog_20_method_1_code_247 (pc' := 248) rfl ?_
  refine own_iload X1933 rfl own_d_prog_20_method_1_code_248 (pc' := 250) rfl ?_
  refine own_aaload X1933 V1918 rfl (i := 0) (by decide) (by decide) rfl own_d_prog_20_method_1_code_250 (pc' := 251) rfl ?_
  refine own_ifnonnullT X1933 own_d_prog_20_method_1_code_251 (pc' := 269) (by decide) (by decide) ?_
  refine own_iinc X1933 (Ls' := #[oA a1, oA a2, oA a3, oA a4, oI 1, oI 1, oI 1, oI (-1), oI 1]) rfl (by decide) rfl own_d_prog_20_method_1_code_269 (pc' := 272) rfl ?_
  refine own_goto X1933 own_d_prog_20_method_1_code_272 (pc' := 227) (by decide) (by decide) ?_
  refine own_iload X1933 rfl own_d_prog_20_method_1_code_227 (pc' := 229) rfl ?_
  refine own_iload X1933 rfl own_d_prog_20_method_1_code_229 (pc' := 231) rfl ?_
  refine own_icmpT X1933 (by decide) own_d_prog_20_method_1_code_231 (pc' := 275) (by decide) (by decide) ?_
  refine own_aloadN X1933 rfl rfl own_d_prog_20_method_1_code_275 (pc' := 276) rfl ?_
  refine own_iload X1933 rfl own_d_prog_20_method_1_code_276 (pc' := 278) rfl ?_
  refine own_putF X1933 (ww 74 rfl) F1932 A1912 (Or.inr ⟨(ww 75 rfl), rfl, rfl⟩) (ww 38 rfl) (ty := .int) (by decide) rfl rfl ge1 own_d_prog_20_method_1_code_278 (pc' := 281) rfl fun T1934 h1934 X1934 W1934 => ?_
  have A1935 := A1912.wr W1934
  have A1936 := A1913.wr W1934
  have V1937 := V1914.other W1934 N2.symm
  have A1938 := A1915.wr W1934
  have V1939 := V1916.other W1934 N3.symm
  have A1940 := A1917.wr W1934
  have V1941 := V1918.other W1934 N4.symm
  have A1942 := A1919.wr W1934
  have V1943 := V1920.other W1934 ne1761.symm
  have A1944 := A1921.wr W1934
  have V1945 := V1922.other W1934 ne1797.symm
  have A1946 := A1923.wr W1934
  have V1947 := V1924.other W1934 ne1838.symm
  have A1948 := A1925.wr W1934
  have V1949 := V1926.other W1934 ne1884.symm
  have K1950 := K1927.wr W1934 (Or.inl (by simp))
  have F1951 := F1932.same W1934
  have F1952 := F1928.other W1934 (Or.inr (slot_ne (C := "com/example/cladewalk/cladewalk/tree/Tree") (Or.inr (ww 72 rfl)) (Or.inr (ww 75 rfl)) (by decide) (t := (.array .int)) (t' := .int) (by decide) (by decide)))
  have F1953 := F1929.other W1934 (Or.inr (slot_ne (C := "com/example/cladewalk/cladewalk/tree/Tree") (Or.inr (ww 70 rfl)) (Or.inr (ww 75 rfl)) (by decide) (t := (.array (.object "java/lang/String"))) (t' := .int) (by decide) (by decide)))
  have F1954 := F1930.other W1934 (Or.inr (slot_ne (C := "com/example/cladewalk/cladewalk/tree/Tree") (Or.inr (ww 62 rfl)) (Or.inr (ww 75 rfl)) (by decide) (t := (.array .double)) (t' := .int) (by decide) (by decide)))
  have F1955 := F1931.other W1934 (Or.inr (slot_ne (C := "com/example/cladewalk/cladewalk/tree/Tree") (Or.inr (ww 54 rfl)) (Or.inr (ww 75 rfl)) (by decide) (t := (.array .int)) (t' := .int) (by decide) (by decide)))
  exact own_retV X1934  own_d_prog_20_method_1_code_281 rfl (by decide) (by decide) ⟨rfl, ⟨_, _, F1952, F1953, V1949, V1947⟩, K1950⟩
set_option maxRecDepth 65536 in
set_option maxHeartbeats 40000000 in
theorem own_law (l : Launch) (Z : State) (a0 : Array Value) (hw : ∀ d ∈ tables_1, d.before a0 Z = true) (ws : List Jvm.Cond) (p0 : Int32) (p1 : Int32) (p2 : Int32) (p3 : Int32) (p4 : Int32) (h0 : Heap) (n0 : Nat) (Z0 : n0 ≤ h0.size) (cs : Int32) (S0 : Sta Z h0 "java/lang/String" "COMPACT_STRINGS" "Z" (.int cs)) (hcs : ¬ cs = 0) :
    own_Met l Z x code maxLocals ret ws room_1 #[(.int p0), (.int p1), (.int p2), (.int p3), (.int p4)] h0 n0 (fun v _ => v = some (.int 1)) := by
  have ww := fun (i : Nat) {d : Jvm.Cond} (q : tables_1[i]? = some d) => hw d (List.mem_of_getElem? q)
  refine own_meet (plainFor_of_name own_pn2) Z0 (Ls0 := #[oI p0, oI p1, oI p2, oI p3, oI p4, oU, oU, oU, oU, oU, oU, oU, oU, oU, oU, oU, oU, oU, oU, oU, oU, oU, oU, oU, oU, oU, oU, oU, oU, oU, oU, oU, oU]) (by intro m; first | (simp [entryFrame, mkF, argsToLocals, Value.category, maxLocals]; done) | rfl) ?_
  intro p e s m below meth c T0 X0
  refine own_iconst X0 (v := (1 : Int32)) (by decide) at_0 (pc' := 1) rfl ?_
  refine own_iloadN X0 rfl at_1 (pc' := 2) rfl ?_
  refine own_sipush X0 (v := (255 : Int32)) (by decide) at_2 (pc' := 5) rfl ?_
  obtain ⟨i1956, e1956⟩ : ∃ v, p0 &&& (255 : Int32) = v := ⟨_, rfl⟩
  have f1956 : own_I 255 i1956.toInt i1956 := own_I.and e1956 (by decide)
  have nn1956 := own_and_nn (M := 255) e1956 (by decide)
  refine own_iand X0 e1956 at_5 (pc' := 6) rfl ?_
  refine own_iconst X0 (v := (3 : Int32)) (by decide) at_6 (pc' := 7) rfl ?_
  obtain ⟨i1957, e1957⟩ : ∃ v, i1956 % (3 : Int32) = v := ⟨_, rfl⟩
  refine own_irem X0 (by decide) e1957 at_7 (pc' := 8) rfl ?_
  have rm1957 := own_irem_bd (d := 3) e1957 (by omega) (by decide) (by decide)
  have nn1957 : 0 ≤ i1957.toInt ∧ i1957.toInt ≤ ((2 : Nat) : Int) := by omega
  rcases own_cases3 nn1957 with rfl | rfl | rfl
  · -- 0
    refine own_iadd X0 (v := (1 : Int32)) (by decide) at_8 (pc' := 9) rfl ?_
    refine own_istore X0 (Ls' := #[oI p0, oI p1, oI p2, oI p3, oI p4, oI 1, oU, oU, oU, oU, oU, oU, oU, oU, oU, oU, oU, oU, oU, oU, oU, oU, oU, oU, oU, oU, oU, oU, oU, oU, oU, oU, oU]) rfl at_9 (pc' := 11) rfl ?_
    refine own_iconst X0 (v := (2 : Int32)) (by decide) at_11 (pc' := 12) rfl ?_
    refine own_iloadN X0 rfl at_12 (pc' := 13) rfl ?_
    refine own_bipush X0 (v := (8 : Int32)) (by decide) at_13 (pc' := 15) rfl ?_
    obtain ⟨i1958, e1958⟩ : ∃ v, XT.ushr p0 (8 : Int32) = v := ⟨_, rfl⟩
    refine own_iushr X0 e1958 at_15 (pc' := 16) rfl ?_
    refine own_iconst X0 (v := (1 : Int32)) (by decide) at_16 (pc' := 17) rfl ?_
    obtain ⟨i1959, e1959⟩ : ∃ v, i1958 &&& (1 : Int32) = v := ⟨_, rfl⟩
    have f1959 : own_I 1 i1959.toInt i1959 := own_I.and e1959 (by decide)
    have nn1959 := own_and_nn (M := 1) e1959 (by decide)
    refine own_iand X0 e1959 at_17 (pc' := 18) rfl ?_
    rcases own_cases2 nn1959 with rfl | rfl
    · -- 0
      refine own_iadd X0 (v := (2 : Int32)) (by decide) at_18 (pc' := 19) rfl ?_
      refine own_istore X0 (Ls' := #[oI p0, oI p1, oI p2, oI p3, oI p4, oI 1, oI 2, oU, oU, oU, oU, oU, oU, oU, oU, oU, oU, oU, oU, oU, oU, oU, oU, oU, oU, oU, oU, oU, oU, oU, oU, oU, oU]) rfl at_19 (pc' := 21) rfl ?_
      refine own_iconst X0 (v := (3 : Int32)) (by decide) at_21 (pc' := 22) rfl ?_
      refine own_istore X0 (Ls' := #[oI p0, oI p1, oI p2, oI p3, oI p4, oI 1, oI 2, oI 3, oU, oU, oU, oU, oU, oU, oU, oU, oU, oU, oU, oU, oU, oU, oU, oU, oU, oU, oU, oU, oU, oU, oU, oU, oU]) rfl at_22 (pc' := 24) rfl ?_
      refine own_iconst X0 (v := (1 : Int32)) (by decide) at_24 (pc' := 25) rfl ?_
      refine own_istore X0 (Ls' := #[oI p0, oI p1, oI p2, oI p3, oI p4, oI 1, oI 2, oI 3, oI 1, oU, oU, oU, oU, oU, oU, oU, oU, oU, oU, oU, oU, oU, oU, oU, oU, oU, oU, oU, oU, oU, oU, oU, oU]) rfl at_25 (pc' := 27) rfl ?_
      refine own_iload X0 rfl at_27 (pc' := 29) rfl ?_
      refine own_iconst X0 (v := (1 : Int32)) (by decide) at_29 (pc' := 30) rfl ?_
      refine own_icmpT X0 (by decide) at_30 (pc' := 37) (by decide) (by decide) ?_
      refine own_iconst X0 (v := (0 : Int32)) (by decide) at_37 (pc' := 38) rfl ?_
      refine own_istore X0 (Ls' := #[oI p0, oI p1, oI p2, oI p3, oI p4, oI 1, oI 2, oI 3, oI 1, oI 0, oU, oU, oU, oU, oU, oU, oU, oU, oU, oU, oU, oU, oU, oU, oU, oU, oU, oU, oU, oU, oU, oU, oU]) rfl at_38 (pc' := 40) rfl ?_
      refine own_iload X0 rfl at_40 (pc' := 42) rfl ?_
      refine own_iconst X0 (v := (2 : Int32)) (by decide) at_42 (pc' := 43) rfl ?_
      refine own_icmpF X0 (by decide) at_43 (pc' := 46) rfl ?_
      refine own_iload X0 rfl at_46 (pc' := 48) rfl ?_
      refine own_iconst X0 (v := (2 : Int32)) (by decide) at_48 (pc' := 49) rfl ?_
      refine own_icmpT X0 (by decide) at_49 (pc' := 56) (by decide) (by decide) ?_
      refine own_iconst X0 (v := (0 : Int32)) (by decide) at_56 (pc' := 57) rfl ?_
      refine own_istore X0 (Ls' := #[oI p0, oI p1, oI p2, oI p3, oI p4, oI 1, oI 2, oI 3, oI 1, oI 0, oI 0, oU, oU, oU, oU, oU, oU, oU, oU, oU, oU, oU, oU, oU, oU, oU, oU, oU, oU, oU, oU, oU, oU]) rfl at_57 (pc' := 59) rfl ?_
      refine own_iconst X0 (v := (0 : Int32)) (by decide) at_59 (pc' := 60) rfl ?_
      refine own_istore X0 (Ls' := #[oI p0, oI p1, oI p2, oI p3, oI p4, oI 1, oI 2, oI 3, oI 1, oI 0, oI 0, oI 0, oU, oU, oU, oU, oU, oU, oU, oU, oU, oU, oU, oU, oU, oU, oU, oU, oU, oU, oU, oU, oU]) rfl at_60 (pc' := 62) rfl ?_
      refine own_iloadN X0 rfl at_62 (pc' := 63) rfl ?_
      refine own_iloadN X0 rfl at_63 (pc' := 64) rfl ?_
      refine own_iconst X0 (v := (0 : Int32)) (by decide) at_64 (pc' := 65) rfl ?_
      refine own_callS X0 (own_two l Z a0 hw p1 p2 (0 : Int32) _ n0 X0.le cs S0 hcs) (ww 0 rfl) (ww 1 rfl) (ww 2 rfl) (ww 3 rfl) (by decide) rfl (by decide) (W := 0) (Nat.le_of_eq rfl) (by decide) (cells' := 3) (slots' := 8) rfl rfl (by decide) (by decide) (argsL := [(.int p1), (.int p2), (.int (0 : Int32))]) (rest := []) (lenOf own_pd5 rfl) rfl rfl at_65 (pc' := 68) rfl ?_
      rintro _ T1960 h1960 X1960 ⟨b1960, rfl, A1960, K1960⟩
      have S1961 := own_Sta.keep0 S0 K1960
      show own_Goal p e below _ T1960 (mkF m 68 #[oI p0, oI p1, oI p2, oI p3, oI p4, oI 1, oI 2, oI 3, oI 1, oI 0, oI 0, oI 0, oU, oU, oU, oU, oU, oU, oU, oU, oU, oU, oU, oU, oU, oU, oU, oU, oU, oU, oU, oU, oU] [(.ref b1960)])
      refine own_astore X1960 (Ls' := #[oI p0, oI p1, oI p2, oI p3, oI p4, oI 1, oI 2, oI 3, oI 1, oI 0, oI 0, oI 0, oA b1960, oU, oU, oU, oU, oU, oU, oU, oU, oU, oU, oU, oU, oU, oU, oU, oU, oU, oU, oU, oU]) rfl rfl at_68 (pc' := 70) rfl ?_
      refine own_iloadN X1960 rfl at_70 (pc' := 71) rfl ?_
      refine own_iloadN X1960 rfl at_71 (pc' := 72) rfl ?_
      refine own_iconst X1960 (v := (1 : Int32)) (by decide) at_72 (pc' := 73) rfl ?_
      refine own_callS X1960 (own_two l Z a0 hw p1 p2 (1 : Int32) _ n0 X1960.le cs S1961 hcs) (ww 0 rfl) (ww 1 rfl) (ww 2 rfl) (ww 3 rfl) (by decide) rfl (by decide) (W := 0) (Nat.le_of_eq rfl) (by decide) (cells' := 6) (slots' := 16) rfl rfl (by decide) (by decide) (argsL := [(.int p1), (.int p2), (.int (1 : Int32))]) (rest := []) (lenOf own_pd5 rfl) rfl rfl at_73 (pc' := 76) rfl ?_
      rintro _ T1962 h1962 X1962 ⟨b1962, rfl, A1962, K1962⟩
      have S1963 := own_Sta.keep0 S1961 K1962
      have A1964 := A1960.keep K1962
      show own_Goal p e below _ T1962 (mkF m 76 #[oI p0, oI p1, oI p2, oI p3, oI p4, oI 1, oI 2, oI 3, oI 1, oI 0, oI 0, oI 0, oA b1960, oU, oU, oU, oU, oU, oU, oU, oU, oU, oU, oU, oU, oU, oU, oU, oU, oU, oU, oU, oU] [(.ref b1962)])
      refine own_astore X1962 (Ls' := #[oI p0, oI p1, oI p2, oI p3, oI p4, oI 1, oI 2, oI 3, oI 1, oI 0, oI 0, oI 0, oA b1960, oA b1962, oU, oU, oU, oU, oU, oU, oU, oU, oU, oU, oU, oU, oU, oU, oU, oU, oU, oU, oU]) rfl rfl at_76 (pc' := 78) rfl ?_
      refine own_iloadN X1962 rfl at_78 (pc' := 79) rfl ?_
      refine own_iloadN X1962 rfl at_79 (pc' := 80) rfl ?_
      refine own_iconst X1962 (v := (2 : Int32)) (by decide) at_80 (pc' := 81) rfl ?_
      refine own_callS X1962 (own_two l Z a0 hw p1 p2 (2 : Int32) _ n0 X1962.le cs S1963 hcs) (ww 0 rfl) (ww 1 rfl) (ww 2 rfl) (ww 3 rfl) (by decide) rfl (by decide) (W := 0) (Nat.le_of_eq rfl) (by decide) (cells' := 9) (slots' := 24) rfl rfl (by decide) (by decide) (argsL := [(.int p1), (.int p2), (.int (2 : Int32))]) (rest := []) (lenOf own_pd5 rfl) rfl rfl at_81 (pc' := 84) rfl ?_
      rintro _ T1965 h1965 X1965 ⟨b1965, rfl, A1965, K1965⟩
      have S1966 := own_Sta.keep0 S1963 K1965
      have A1967 := A1964.keep K1965
      have A1968 := A1962.keep K1965
      show own_Goal p e below _ T1965 (mkF m 84 #[oI p0, oI p1, oI p2, oI p3, oI p4, oI 1, oI 2, oI 3, oI 1, oI 0, oI 0, oI 0, oA b1960, oA b1962, oU, oU, oU, oU, oU, oU, oU, oU, oU, oU, oU, oU, oU, oU, oU, oU, oU, oU, oU] [(.ref b1965)])
      refine own_astore X1965 (Ls' := #[oI p0, oI p1, oI p2, oI p3, oI p4, oI 1, oI 2, oI 3, oI 1, oI 0, oI 0, oI 0, oA b1960, oA b1962, oA b1965, oU, oU, oU, oU, oU, oU, oU, oU, oU, oU, oU, oU, oU, oU, oU, oU, oU, oU]) rfl rfl at_84 (pc' := 86) rfl ?_
      refine own_iloadN X1965 rfl at_86 (pc' := 87) rfl ?_
      refine own_iloadN X1965 rfl at_87 (pc' := 88) rfl ?_
      refine own_iconst X1965 (v := (3 : Int32)) (by decide) at_88 (pc' := 89) rfl ?_
      refine own_callS X1965 (own_two l Z a0 hw p1 p2 (3 : Int32) _ n0 X1965.le cs S1966 hcs) (ww 0 rfl) (ww 1 rfl) (ww 2 rfl) (ww 3 rfl) (by decide) rfl (by decide) (W := 0) (Nat.le_of_eq rfl) (by decide) (cells' := 12) (slots' := 32) rfl rfl (by decide) (by decide) (argsL := [(.int p1), (.int p2), (.int (3 : Int32))]) (rest := []) (lenOf own_pd5 rfl) rfl rfl at_89 (pc' := 92) rfl ?_
      rintro _ T1969 h1969 X1969 ⟨b1969, rfl, A1969, K1969⟩
      have S1970 := own_Sta.keep0 S1966 K1969
      have A1971 := A1967.keep K1969
      have A1972 := A1968.keep K1969
      have A1973 := A1965.keep K1969
      show own_Goal p e below _ T1969 (mkF m 92 #[oI p0, oI p1, oI p2, oI p3, oI p4, oI 1, oI 2, oI 3, oI 1, oI 0, oI 0, oI 0, oA b1960, oA b1962, oA b1965, oU, oU, oU, oU, oU, oU, oU, oU, oU, oU, oU, oU, oU, oU, oU, oU, oU, oU] [(.ref b1969)])
      refine own_astore X1969 (Ls' := #[oI p0, oI p1, oI p2, oI p3, oI p4, oI 1, oI 2, oI 3, oI 1, oI 0, oI 0, oI 0, oA b1960, oA b1962, oA b1965, oA b1969, oU, oU, oU, oU, oU, oU, oU, oU, oU, oU, oU, oU, oU, oU, oU, oU, oU]) rfl rfl at_92 (pc' := 94) rfl ?_
      refine own_iloadN X1969 rfl at_94 (pc' := 95) rfl ?_
      refine own_iconst X1969 (v := (1 : Int32)) (by decide) at_95 (pc' := 96) rfl ?_
      obtain ⟨i1974, e1974⟩ : ∃ v, XT.ushr p3 (1 : Int32) = v := ⟨_, rfl⟩
      refine own_iushr X1969 e1974 at_96 (pc' := 97) rfl ?_
      refine own_iconst X1969 (v := (1 : Int32)) (by decide) at_97 (pc' := 98) rfl ?_
      obtain ⟨i1975, e1975⟩ : ∃ v, i1974 &&& (1 : Int32) = v := ⟨_, rfl⟩
      have f1975 : own_I 1 i1975.toInt i1975 := own_I.and e1975 (by decide)
      have nn1975 := own_and_nn (M := 1) e1975 (by decide)
      refine own_iand X1969 e1975 at_98 (pc' := 99) rfl ?_
      have J1976 : ∀ (b1976 : Int32), own_Goal p e below (own_Fin below s room_1 n0 (fun v _ => v = some (.int 1))) T1969 (mkF m 107 #[oI p0, oI p1, oI p2, oI p3, oI p4, oI 1, oI 2, oI 3, oI 1, oI 0, oI 0, oI 0, oA b1960, oA b1962, oA b1965, oA b1969, oU, oU, oU, oU, oU, oU, oU, oU, oU, oU, oU, oU, oU, oU, oU, oU, oU] [(.int b1976)]) := by
        intro b1976
        refine own_istore X1969 (Ls' := #[oI p0, oI p1, oI p2, oI p3, oI p4, oI 1, oI 2, oI 3, oI 1, oI 0, oI 0, oI 0, oA b1960, oA b1962, oA b1965, oA b1969, oI b1976, oU, oU, oU, oU, oU, oU, oU, oU, oU, oU, oU, oU, oU, oU, oU, oU]) rfl at_107 (pc' := 109) rfl ?_
        refine own_iloadN X1969 rfl at_109 (pc' := 110) rfl ?_
        refine own_iconst X1969 (v := (2 : Int32)) (by decide) at_110 (pc' := 111) rfl ?_
        obtain ⟨i1977, e1977⟩ : ∃ v, XT.ushr p3 (2 : Int32) = v := ⟨_, rfl⟩
        refine own_iushr X1969 e1977 at_111 (pc' := 112) rfl ?_
        refine own_iconst X1969 (v := (1 : Int32)) (by decide) at_112 (pc' := 113) rfl ?_
        obtain ⟨i1978, e1978⟩ : ∃ v, i1977 &&& (1 : Int32) = v := ⟨_, rfl⟩
        have f1978 : own_I 1 i1978.toInt i1978 := own_I.and e1978 (by decide)
        have nn1978 := own_and_nn (M := 1) e1978 (by decide)
        refine own_iand X1969 e1978 at_113 (pc' := 114) rfl ?_
        have J1979 : ∀ (b1979 : Int32), own_Goal p e below (own_Fin below s room_1 n0 (fun v _ => v = some (.int 1))) T1969 (mkF m 122 #[oI p0, oI p1, oI p2, oI p3, oI p4, oI 1, oI 2, oI 3, oI 1, oI 0, oI 0, oI 0, oA b1960, oA b1962, oA b1965, oA b1969, oI b1976, oU, oU, oU, oU, oU, oU, oU, oU, oU, oU, oU, oU, oU, oU, oU, oU] [(.int b1979)]) := by
          intro b1979
          refine own_istore X1969 (Ls' := #[oI p0, oI p1, oI p2, oI p3, oI p4, oI 1, oI 2, oI 3, oI 1, oI 0, oI 0, oI 0, oA b1960, oA b1962, oA b1965, oA b1969, oI b1976, oI b1979, oU, oU, oU, oU, oU, oU, oU, oU, oU, oU, oU, oU, oU, oU, oU]) rfl at_122 (pc' := 124) rfl ?_
          refine own_iloadN X1969 rfl at_124 (pc' := 125) rfl ?_
          refine own_iconst X1969 (v := (3 : Int32)) (by decide) at_125 (pc' := 126) rfl ?_
          obtain ⟨i1980, e1980⟩ : ∃ v, XT.ushr p3 (3 : Int32) = v := ⟨_, rfl⟩
          refine own_iushr X1969 e1980 at_126 (pc' := 127) rfl ?_
          refine own_iconst X1969 (v := (1 : Int32)) (by decide) at_127 (pc' := 128) rfl ?_
          obtain ⟨i1981, e1981⟩ : ∃ v, i1980 &&& (1 : Int32) = v := ⟨_, rfl⟩
          have f1981 : own_I 1 i1981.toInt i1981 := own_I.and e1981 (by decide)
          have nn1981 := own_and_nn (M := 1) e1981 (by decide)
          refine own_iand X1969 e1981 at_128 (pc' := 129) rfl ?_
          have J1982 : ∀ (b1982 : Int32), own_Goal p e below (own_Fin below s room_1 n0 (fun v _ => v = some (.int 1))) T1969 (mkF m 137 #[oI p0, oI p1, oI p2, oI p3, oI p4, oI 1, oI 2, oI 3, oI 1, oI 0, oI 0, oI 0, oA b1960, oA b1962, oA b1965, oA b1969, oI b1976, oI b1979, oU, oU, oU, oU, oU, oU, oU, oU, oU, oU, oU, oU, oU, oU, oU] [(.int b1982)]) := by
            intro b1982
            refine own_istore X1969 (Ls' := #[oI p0, oI p1, oI p2, oI p3, oI p4, oI 1, oI 2, oI 3, oI 1, oI 0, oI 0, oI 0, oA b1960, oA b1962, oA b1965, oA b1969, oI b1976, oI b1979, oI b1982, oU, oU, oU, oU, oU, oU, oU, oU, oU, oU, oU, oU, oU, oU]) rfl at_137 (pc' := 139) rfl ?_
            refine own_iconst X1969 (v := (4 : Int32)) (by decide) at_139 (pc' := 140) rfl ?_
            refine own_newarrayE X1969 (ty := .int) rfl (ad := "[I") (by decide) (ww 34 rfl) (n := 4) (vs := [(.int (0 : Int32)), (.int (0 : Int32)), (.int (0 : Int32)), (.int (0 : Int32))]) (by decide) (by decide) (by decide) rfl (cells' := 13) (slots' := 36) rfl rfl (by decide) (by decide) at_140 (pc' := 142) rfl fun a1983 T1983 h1983 g1983 ge1983 X1983 E1983 V1983 A1983 => ?_
            have ne1984 : b1960 ≠ a1983 := own_lt_ne A1971.lt g1983
            have ne1985 : b1962 ≠ a1983 := own_lt_ne A1972.lt g1983
            have ne1986 : b1965 ≠ a1983 := own_lt_ne A1973.lt g1983
            have ne1987 : b1969 ≠ a1983 := own_lt_ne A1969.lt g1983
            have A1988 := A1971.ext E1983
            have A1989 := A1972.ext E1983
            have A1990 := A1973.ext E1983
            have A1991 := A1969.ext E1983
            have S1992 := S1970.ext E1983
            refine own_astore X1983 (Ls' := #[oI p0, oI p1, oI p2, oI p3, oI p4, oI 1, oI 2, oI 3, oI 1, oI 0, oI 0, oI 0, oA b1960, oA b1962, oA b1965, oA b1969, oI b1976, oI b1979, oI b1982, oA a1983, oU, oU, oU, oU, oU, oU, oU, oU, oU, oU, oU, oU, oU]) rfl rfl at_142 (pc' := 144) rfl ?_
            refine own_aload X1983 rfl rfl at_144 (pc' := 146) rfl ?_
            refine own_iconst X1983 (v := (0 : Int32)) (by decide) at_146 (pc' := 147) rfl ?_
            refine own_iload X1983 rfl at_147 (pc' := 149) rfl ?_
            refine own_iastore X1983 V1983 ge1983 (i := 0) (by decide) (by decide) (show 0 < 4 by decide) at_149 (pc' := 150) rfl fun T1993 h1993 X1993 W1993 V1993 => ?_
            have A1994 := A1988.wr W1993
            have A1995 := A1989.wr W1993
            have A1996 := A1990.wr W1993
            have A1997 := A1991.wr W1993
            have A1998 := A1983.wr W1993
            have S1999 := S1992.wr W1993
            replace V1993 : own_Vec Z h1993 a1983 .int [(.int (1 : Int32)), (.int (0 : Int32)), (.int (0 : Int32)), (.int (0 : Int32))] := V1993
            refine own_aload X1993 rfl rfl at_150 (pc' := 152) rfl ?_
            refine own_iconst X1993 (v := (1 : Int32)) (by decide) at_152 (pc' := 153) rfl ?_
            refine own_iload X1993 rfl at_153 (pc' := 155) rfl ?_
            refine own_iastore X1993 V1993 ge1983 (i := 1) (by decide) (by decide) (show 1 < 4 by decide) at_155 (pc' := 156) rfl fun T2000 h2000 X2000 W2000 V2000 => ?_
            have A2001 := A1994.wr W2000
            have A2002 := A1995.wr W2000
            have A2003 := A1996.wr W2000
            have A2004 := A1997.wr W2000
            have A2005 := A1998.wr W2000
            have S2006 := S1999.wr W2000
            replace V2000 : own_Vec Z h2000 a1983 .int [(.int (1 : Int32)), (.int (2 : Int32)), (.int (0 : Int32)), (.int (0 : Int32))] := V2000
            refine own_aload X2000 rfl rfl at_156 (pc' := 158) rfl ?_
            refine own_iconst X2000 (v := (2 : Int32)) (by decide) at_158 (pc' := 159) rfl ?_
            refine own_iload X2000 rfl at_159 (pc' := 161) rfl ?_
            refine own_iastore X2000 V2000 ge1983 (i := 2) (by decide) (by decide) (show 2 < 4 by decide) at_161 (pc' := 162) rfl fun T2007 h2007 X2007 W2007 V2007 => ?_
            have A2008 := A2001.wr W2007
            have A2009 := A2002.wr W2007
            have A2010 := A2003.wr W2007
            have A2011 := A2004.wr W2007
            have A2012 := A2005.wr W2007
            have S2013 := S2006.wr W2007
            replace V2007 : own_Vec Z h2007 a1983 .int [(.int (1 : Int32)), (.int (2 : Int32)), (.int (3 : Int32)), (.int (0 : Int32))] := V2007
            refine own_aload X2007 rfl rfl at_162 (pc' := 164) rfl ?_
            refine own_iconst X2007 (v := (3 : Int32)) (by decide) at_164 (pc' := 165) rfl ?_
            refine own_iconst X2007 (v := (-1 : Int32)) (by decide) at_165 (pc' := 166) rfl ?_
            refine own_iastore X2007 V2007 ge1983 (i := 3) (by decide) (by decide) (show 3 < 4 by decide) at_166 (pc' := 167) rfl fun T2014 h2014 X2014 W2014 V2014 => ?_
            have A2015 := A2008.wr W2014
            have A2016 := A2009.wr W2014
            have A2017 := A2010.wr W2014
            have A2018 := A2011.wr W2014
            have A2019 := A2012.wr W2014
            have S2020 := S2013.wr W2014
            replace V2014 : own_Vec Z h2014 a1983 .int [(.int (1 : Int32)), (.int (2 : Int32)), (.int (3 : Int32)), (.int (-1 : Int32))] := V2014
            refine own_iconst X2014 (v := (4 : Int32)) (by decide) at_167 (pc' := 168) rfl ?_
            refine own_newarrayE X2014 (ty := .double) rfl (ad := "[D") (by decide) (ww 35 rfl) (n := 4) (vs := [(.double (0 : UInt64)), (.double (0 : UInt64)), (.double (0 : UInt64)), (.double (0 : UInt64))]) (by decide) (by decide) (by decide) rfl (cells' := 14) (slots' := 40) rfl rfl (by decide) (by decide) at_168 (pc' := 170) rfl fun a2021 T2021 h2021 g2021 ge2021 X2021 E2021 V2021 A2021 => ?_
            have ne2022 : b1960 ≠ a2021 := own_lt_ne A2015.lt g2021
            have ne2023 : b1962 ≠ a2021 := own_lt_ne A2016.lt g2021
            have ne2024 : b1965 ≠ a2021 := own_lt_ne A2017.lt g2021
            have ne2025 : b1969 ≠ a2021 := own_lt_ne A2018.lt g2021
            have ne2026 : a1983 ≠ a2021 := own_lt_ne V2014.lt g2021
            have A2027 := A2015.ext E2021
            have A2028 := A2016.ext E2021
            have A2029 := A2017.ext E2021
            have A2030 := A2018.ext E2021
            have V2031 := V2014.ext E2021
            have A2032 := A2019.ext E2021
            have S2033 := S2020.ext E2021
            refine own_astore X2021 (Ls' := #[oI p0, oI p1, oI p2, oI p3, oI p4, oI 1, oI 2, oI 3, oI 1, oI 0, oI 0, oI 0, oA b1960, oA b1962, oA b1965, oA b1969, oI b1976, oI b1979, oI b1982, oA a1983, oA a2021, oU, oU, oU, oU, oU, oU, oU, oU, oU, oU, oU, oU]) rfl rfl at_170 (pc' := 172) rfl ?_
            refine own_aload X2021 rfl rfl at_172 (pc' := 174) rfl ?_
            refine own_iconst X2021 (v := (0 : Int32)) (by decide) at_174 (pc' := 175) rfl ?_
            refine own_iload X2021 rfl at_175 (pc' := 177) rfl ?_
            refine own_bipush X2021 (v := (7 : Int32)) (by decide) at_177 (pc' := 179) rfl ?_
            obtain ⟨i2034, e2034⟩ : ∃ v, p4 &&& (7 : Int32) = v := ⟨_, rfl⟩
            have f2034 : own_I 7 i2034.toInt i2034 := own_I.and e2034 (by decide)
            have nn2034 := own_and_nn (M := 7) e2034 (by decide)
            refine own_iand X2021 e2034 at_179 (pc' := 180) rfl ?_
            obtain ⟨d2035, e2035⟩ : ∃ v, FP.i2d i2034 = v := ⟨_, rfl⟩
            have f2035 : own_D 0 7 i2034.toInt d2035 := own_D.i2d f2034 e2035
            refine own_i2d X2021 e2035 at_180 (pc' := 181) rfl ?_
            refine own_dastore X2021 V2021 ge2021 (i := 0) (by decide) (by decide) (show 0 < 4 by decide) at_181 (pc' := 182) rfl fun T2036 h2036 X2036 W2036 V2036 => ?_
            have A2037 := A2027.wr W2036
            have A2038 := A2028.wr W2036
            have A2039 := A2029.wr W2036
            have A2040 := A2030.wr W2036
            have A2041 := A2032.wr W2036
            have V2042 := V2031.other W2036 ne2026
            have A2043 := A2021.wr W2036
            have S2044 := S2033.wr W2036
            replace V2036 : own_Vec Z h2036 a2021 .double [(.double d2035), (.double (0 : UInt64)), (.double (0 : UInt64)), (.double (0 : UInt64))] := V2036
            refine own_aload X2036 rfl rfl at_182 (pc' := 184) rfl ?_
            refine own_iconst X2036 (v := (1 : Int32)) (by decide) at_184 (pc' := 185) rfl ?_
            refine own_iload X2036 rfl at_185 (pc' := 187) rfl ?_
            refine own_iconst X2036 (v := (3 : Int32)) (by decide) at_187 (pc' := 188) rfl ?_
            obtain ⟨i2045, e2045⟩ : ∃ v, XT.ushr p4 (3 : Int32) = v := ⟨_, rfl⟩
            refine own_iushr X2036 e2045 at_188 (pc' := 189) rfl ?_
            refine own_bipush X2036 (v := (7 : Int32)) (by decide) at_189 (pc' := 191) rfl ?_
            obtain ⟨i2046, e2046⟩ : ∃ v, i2045 &&& (7 : Int32) = v := ⟨_, rfl⟩
            have f2046 : own_I 7 i2046.toInt i2046 := own_I.and e2046 (by decide)
            have nn2046 := own_and_nn (M := 7) e2046 (by decide)
            refine own_iand X2036 e2046 at_191 (pc' := 192) rfl ?_
            obtain ⟨d2047, e2047⟩ : ∃ v, FP.i2d i2046 = v := ⟨_, rfl⟩
            have f2047 : own_D 0 7 i2046.toInt d2047 := own_D.i2d f2046 e2047
            refine own_i2d X2036 e2047 at_192 (pc' := 193) rfl ?_
            refine own_dastore X2036 V2036 ge2021 (i := 1) (by decide) (by decide) (show 1 < 4 by decide) at_193 (pc' := 194) rfl fun T2048 h2048 X2048 W2048 V2048 => ?_
            have A2049 := A2037.wr W2048
            have A2050 := A2038.wr W2048
            have A2051 := A2039.wr W2048
            have A2052 := A2040.wr W2048
            have A2053 := A2041.wr W2048
            have V2054 := V2042.other W2048 ne2026
            have A2055 := A2043.wr W2048
            have S2056 := S2044.wr W2048
            replace V2048 : own_Vec Z h2048 a2021 .double [(.double d2035), (.double d2047), (.double (0 : UInt64)), (.double (0 : UInt64))] := V2048
            refine own_aload X2048 rfl rfl at_194 (pc' := 196) rfl ?_
            refine own_iconst X2048 (v := (2 : Int32)) (by decide) at_196 (pc' := 197) rfl ?_
            refine own_iload X2048 rfl at_197 (pc' := 199) rfl ?_
            refine own_bipush X2048 (v := (6 : Int32)) (by decide) at_199 (pc' := 201) rfl ?_
            obtain ⟨i2057, e2057⟩ : ∃ v, XT.ushr p4 (6 : Int32) = v := ⟨_, rfl⟩
            refine own_iushr X2048 e2057 at_201 (pc' := 202) rfl ?_
            refine own_bipush X2048 (v := (7 : Int32)) (by decide) at_202 (pc' := 204) rfl ?_
            obtain ⟨i2058, e2058⟩ : ∃ v, i2057 &&& (7 : Int32) = v := ⟨_, rfl⟩
            have f2058 : own_I 7 i2058.toInt i2058 := own_I.and e2058 (by decide)
            have nn2058 := own_and_nn (M := 7) e2058 (by decide)
            refine own_iand X2048 e2058 at_204 (pc' := 205) rfl ?_
            obtain ⟨d2059, e2059⟩ : ∃ v, FP.i2d i2058 = v := ⟨_, rfl⟩
            have f2059 : own_D 0 7 i2058.toInt d2059 := own_D.i2d f2058 e2059
            refine own_i2d X2048 e2059 at_205 (pc' := 206) rfl ?_
            refine own_dastore X2048 V2048 ge2021 (i := 2) (by decide) (by decide) (show 2 < 4 by decide) at_206 (pc' := 207) rfl fun T2060 h2060 X2060 W2060 V2060 => ?_
            have A2061 := A2049.wr W2060
            have A2062 := A2050.wr W2060
            have A2063 := A2051.wr W2060
            have A2064 := A2052.wr W2060
            have A2065 := A2053.wr W2060
            have V2066 := V2054.other W2060 ne2026
            have A2067 := A2055.wr W2060
            have S2068 := S2056.wr W2060
            replace V2060 : own_Vec Z h2060 a2021 .double [(.double d2035), (.double d2047), (.double d2059), (.double (0 : UInt64))] := V2060
            refine own_aload X2060 rfl rfl at_207 (pc' := 209) rfl ?_
            refine own_iconst X2060 (v := (3 : Int32)) (by decide) at_209 (pc' := 210) rfl ?_
            refine own_dconst0 X2060 (v := (0 : UInt64)) rfl at_210 (pc' := 211) rfl ?_
            refine own_dastore X2060 V2060 ge2021 (i := 3) (by decide) (by decide) (show 3 < 4 by decide) at_211 (pc' := 212) rfl fun T2069 h2069 X2069 W2069 V2069 => ?_
            have A2070 := A2061.wr W2069
            have A2071 := A2062.wr W2069
            have A2072 := A2063.wr W2069
            have A2073 := A2064.wr W2069
            have A2074 := A2065.wr W2069
            have V2075 := V2066.other W2069 ne2026
            have A2076 := A2067.wr W2069
            have S2077 := S2068.wr W2069
            replace V2069 : own_Vec Z h2069 a2021 .double [(.double d2035), (.double d2047), (.double d2059), (.double (0 : UInt64))] := V2069
            refine own_iconst X2069 (v := (4 : Int32)) (by decide) at_212 (pc' := 213) rfl ?_
            refine own_anewarray X2069 (ww 5 rfl) (ww 36 rfl) (ad := "[Ljava/lang/String;") (by decide) (n := 4) (vs := [.null, .null, .null, .null]) (by decide) (by decide) (by decide) rfl (cells' := 15) (slots' := 44) rfl rfl (by decide) (by decide) at_213 (pc' := 216) rfl fun a2078 T2078 h2078 g2078 ge2078 X2078 E2078 V2078 A2078 O2078 => ?_
            have ne2079 : b1960 ≠ a2078 := own_lt_ne A2070.lt g2078
            have ne2080 : b1962 ≠ a2078 := own_lt_ne A2071.lt g2078
            have ne2081 : b1965 ≠ a2078 := own_lt_ne A2072.lt g2078
            have ne2082 : b1969 ≠ a2078 := own_lt_ne A2073.lt g2078
            have ne2083 : a1983 ≠ a2078 := own_lt_ne V2075.lt g2078
            have ne2084 : a2021 ≠ a2078 := own_lt_ne V2069.lt g2078
            have A2085 := A2070.ext E2078
            have A2086 := A2071.ext E2078
            have A2087 := A2072.ext E2078
            have A2088 := A2073.ext E2078
            have V2089 := V2075.ext E2078
            have A2090 := A2074.ext E2078
            have V2091 := V2069.ext E2078
            have A2092 := A2076.ext E2078
            have S2093 := S2077.ext E2078
            refine own_astore X2078 (Ls' := #[oI p0, oI p1, oI p2, oI p3, oI p4, oI 1, oI 2, oI 3, oI 1, oI 0, oI 0, oI 0, oA b1960, oA b1962, oA b1965, oA b1969, oI b1976, oI b1979, oI b1982, oA a1983, oA a2021, oA a2078, oU, oU, oU, oU, oU, oU, oU, oU, oU, oU, oU]) rfl rfl at_216 (pc' := 218) rfl ?_
            refine own_aload X2078 rfl rfl at_218 (pc' := 220) rfl ?_
            refine own_iconst X2078 (v := (0 : Int32)) (by decide) at_220 (pc' := 221) rfl ?_
            refine own_aload X2078 rfl rfl at_221 (pc' := 223) rfl ?_
            refine own_aastore X2078 V2078 O2078 ge2078 (Or.inr ⟨_, rfl, A2085⟩) (i := 0) (by decide) (by decide) (show 0 < 4 by decide) at_223 (pc' := 224) rfl fun T2094 h2094 X2094 W2094 V2094 => ?_
            have A2095 := A2085.wr W2094
            have A2096 := A2086.wr W2094
            have A2097 := A2087.wr W2094
            have A2098 := A2088.wr W2094
            have A2099 := A2090.wr W2094
            have V2100 := V2089.other W2094 ne2083
            have A2101 := A2092.wr W2094
            have V2102 := V2091.other W2094 ne2084
            have A2103 := A2078.wr W2094
            have O2104 := O2078.wr W2094
            have S2105 := S2093.wr W2094
            replace V2094 : own_Vec Z h2094 a2078 (.object "java/lang/String") [(.ref b1960), .null, .null, .null] := V2094
            refine own_aload X2094 rfl rfl at_224 (pc' := 226) rfl ?_
            refine own_iconst X2094 (v := (1 : Int32)) (by decide) at_226 (pc' := 227) rfl ?_
            refine own_iload X2094 rfl at_227 (pc' := 229) rfl ?_
            refine own_ifF X2094 (by decide) at_229 (pc' := 232) rfl ?_
            refine own_iload X2094 rfl at_232 (pc' := 234) rfl ?_
            have J2106 : ∀ (b2106 : Value) (hb2106 : b2106 = .null ∨ b2106 = .ref b1962), own_Goal p e below (own_Fin below s room_1 n0 (fun v _ => v = some (.int 1))) T2094 (mkF m 243 #[oI p0, oI p1, oI p2, oI p3, oI p4, oI 1, oI 2, oI 3, oI 1, oI 0, oI 0, oI 0, oA b1960, oA b1962, oA b1965, oA b1969, oI b1976, oI b1979, oI b1982, oA a1983, oA a2021, oA a2078, oU, oU, oU, oU, oU, oU, oU, oU, oU, oU, oU] [b2106, (.int (1 : Int32)), (.ref a2078)]) := by
              intro b2106 hb2106
              have fb2106 : fits (.object "java/lang/String") b2106 = true := by rcases hb2106 with q | q <;> rw [q] <;> rfl
              refine own_aastore X2094 V2094 O2104 ge2078 (hb2106.elim Or.inl fun q => Or.inr ⟨_, q, A2096⟩) (i := 1) (by decide) (by decide) (show 1 < 4 by decide) at_243 (pc' := 244) rfl fun T2107 h2107 X2107 W2107 V2107 => ?_
              have A2108 := A2095.wr W2107
              have A2109 := A2096.wr W2107
              have A2110 := A2097.wr W2107
              have A2111 := A2098.wr W2107
              have A2112 := A2099.wr W2107
              have V2113 := V2100.other W2107 ne2083
              have A2114 := A2101.wr W2107
              have V2115 := V2102.other W2107 ne2084
              have A2116 := A2103.wr W2107
              have O2117 := O2104.wr W2107
              have S2118 := S2105.wr W2107
              replace V2107 : own_Vec Z h2107 a2078 (.object "java/lang/String") [(.ref b1960), b2106, .null, .null] := V2107
              refine own_aload X2107 rfl rfl at_244 (pc' := 246) rfl ?_
              refine own_iconst X2107 (v := (2 : Int32)) (by decide) at_246 (pc' := 247) rfl ?_
              refine own_iload X2107 rfl at_247 (pc' := 249) rfl ?_
              refine own_ifF X2107 (by decide) at_249 (pc' := 252) rfl ?_
              refine own_iload X2107 rfl at_252 (pc' := 254) rfl ?_
              have J2119 : ∀ (b2119 : Value) (hb2119 : b2119 = .null ∨ b2119 = .ref b1965), own_Goal p e below (own_Fin below s room_1 n0 (fun v _ => v = some (.int 1))) T2107 (mkF m 263 #[oI p0, oI p1, oI p2, oI p3, oI p4, oI 1, oI 2, oI 3, oI 1, oI 0, oI 0, oI 0, oA b1960, oA b1962, oA b1965, oA b1969, oI b1976, oI b1979, oI b1982, oA a1983, oA a2021, oA a2078, oU, oU, oU, oU, oU, oU, oU, oU, oU, oU, oU] [b2119, (.int (2 : Int32)), (.ref a2078)]) := by
                intro b2119 hb2119
                have fb2119 : fits (.object "java/lang/String") b2119 = true := by rcases hb2119 with q | q <;> rw [q] <;> rfl
                refine own_aastore X2107 V2107 O2117 ge2078 (hb2119.elim Or.inl fun q => Or.inr ⟨_, q, A2110⟩) (i := 2) (by decide) (by decide) (show 2 < 4 by decide) at_263 (pc' := 264) rfl fun T2120 h2120 X2120 W2120 V2120 => ?_
                have A2121 := A2108.wr W2120
                have A2122 := A2109.wr W2120
                have A2123 := A2110.wr W2120
                have A2124 := A2111.wr W2120
                have A2125 := A2112.wr W2120
                have V2126 := V2113.other W2120 ne2083
                have A2127 := A2114.wr W2120
                have V2128 := V2115.other W2120 ne2084
                have A2129 := A2116.wr W2120
                have O2130 := O2117.wr W2120
                have S2131 := S2118.wr W2120
                replace V2120 : own_Vec Z h2120 a2078 (.object "java/lang/String") [(.ref b1960), b2106, b2119, .null] := V2120
                refine own_aload X2120 rfl rfl at_264 (pc' := 266) rfl ?_
                refine own_iconst X2120 (v := (3 : Int32)) (by decide) at_266 (pc' := 267) rfl ?_
                refine own_iload X2120 rfl at_267 (pc' := 269) rfl ?_
                have J2132 : ∀ (b2132 : Value) (hb2132 : b2132 = .null ∨ b2132 = .ref b1969), own_Goal p e below (own_Fin below s room_1 n0 (fun v _ => v = some (.int 1))) T2120 (mkF m 278 #[oI p0, oI p1, oI p2, oI p3, oI p4, oI 1, oI 2, oI 3, oI 1, oI 0, oI 0, oI 0, oA b1960, oA b1962, oA b1965, oA b1969, oI b1976, oI b1979, oI b1982, oA a1983, oA a2021, oA a2078, oU, oU, oU, oU, oU, oU, oU, oU, oU, oU, oU] [b2132, (.int (3 : Int32)), (.ref a2078)]) := by
                  intro b2132 hb2132
                  have fb2132 : fits (.object "java/lang/String") b2132 = true := by rcases hb2132 with q | q <;> rw [q] <;> rfl
                  refine own_aastore X2120 V2120 O2130 ge2078 (hb2132.elim Or.inl fun q => Or.inr ⟨_, q, A2124⟩) (i := 3) (by decide) (by decide) (show 3 < 4 by decide) at_278 (pc' := 279) rfl fun T2133 h2133 X2133 W2133 V2133 => ?_
                  have A2134 := A2121.wr W2133
                  have A2135 := A2122.wr W2133
                  have A2136 := A2123.wr W2133
                  have A2137 := A2124.wr W2133
                  have A2138 := A2125.wr W2133
                  have V2139 := V2126.other W2133 ne2083
                  have A2140 := A2127.wr W2133
                  have V2141 := V2128.other W2133 ne2084
                  have A2142 := A2129.wr W2133
                  have O2143 := O2130.wr W2133
                  have S2144 := S2131.wr W2133
                  replace V2133 : own_Vec Z h2133 a2078 (.object "java/lang/String") [(.ref b1960), b2106, b2119, b2132] := V2133
                  refine own_aload X2133 rfl rfl at_279 (pc' := 281) rfl ?_
                  refine own_astore X2133 (Ls' := #[oI p0, oI p1, oI p2, oI p3, oI p4, oI 1, oI 2, oI 3, oI 1, oI 0, oI 0, oI 0, oA b1960, oA b1962, oA b1965, oA b1969, oI b1976, oI b1979, oI b1982, oA a1983, oA a2021, oA a2078, oA b1960, oU, oU, oU, oU, oU, oU, oU, oU, oU, oU]) rfl rfl at_281 (pc' := 283) rfl ?_
                  refine own_iload X2133 rfl at_283 (pc' := 285) rfl ?_
                  refine own_ifT X2133 (by decide) at_285 (pc' := 293) (by decide) (by decide) ?_
                  refine own_aconst_null X2133  at_293 (pc' := 294) rfl ?_
                  refine own_astore X2133 (Ls' := #[oI p0, oI p1, oI p2, oI p3, oI p4, oI 1, oI 2, oI 3, oI 1, oI 0, oI 0, oI 0, oA b1960, oA b1962, oA b1965, oA b1969, oI b1976, oI b1979, oI b1982, oA a1983, oA a2021, oA a2078, oA b1960, .val .null, oU, oU, oU, oU, oU, oU, oU, oU, oU]) rfl rfl at_294 (pc' := 296) rfl ?_
                  refine own_iload X2133 rfl at_296 (pc' := 298) rfl ?_
                  refine own_ifT X2133 (by decide) at_298 (pc' := 306) (by decide) (by decide) ?_
                  refine own_aconst_null X2133  at_306 (pc' := 307) rfl ?_
                  refine own_astore X2133 (Ls' := #[oI p0, oI p1, oI p2, oI p3, oI p4, oI 1, oI 2, oI 3, oI 1, oI 0, oI 0, oI 0, oA b1960, oA b1962, oA b1965, oA b1969, oI b1976, oI b1979, oI b1982, oA a1983, oA a2021, oA a2078, oA b1960, .val .null, .val .null, oU, oU, oU, oU, oU, oU, oU, oU]) rfl rfl at_307 (pc' := 309) rfl ?_
                  refine own_iload X2133 rfl at_309 (pc' := 311) rfl ?_
                  refine own_ifT X2133 (by decide) at_311 (pc' := 319) (by decide) (by decide) ?_
                  refine own_aconst_null X2133  at_319 (pc' := 320) rfl ?_
                  refine own_astore X2133 (Ls' := #[oI p0, oI p1, oI p2, oI p3, oI p4, oI 1, oI 2, oI 3, oI 1, oI 0, oI 0, oI 0, oA b1960, oA b1962, oA b1965, oA b1969, oI b1976, oI b1979, oI b1982, oA a1983, oA a2021, oA a2078, oA b1960, .val .null, .val .null, .val .null, oU, oU, oU, oU, oU, oU, oU]) rfl rfl at_320 (pc' := 322) rfl ?_
                  refine own_new X2133 (ww 37 rfl) (ww 38 rfl) (ww 39 rfl) (cells' := 16) (slots' := 49) rfl rfl (by decide) (by decide) at_322 (pc' := 325) rfl fun a2145 T2145 h2145 g2145 ge2145 X2145 E2145 A2145 D2145 => ?_
                  have ne2146 : b1960 ≠ a2145 := own_lt_ne A2134.lt g2145
                  have ne2147 : b1962 ≠ a2145 := own_lt_ne A2135.lt g2145
                  have ne2148 : b1965 ≠ a2145 := own_lt_ne A2136.lt g2145
                  have ne2149 : b1969 ≠ a2145 := own_lt_ne A2137.lt g2145
                  have ne2150 : a1983 ≠ a2145 := own_lt_ne V2139.lt g2145
                  have ne2151 : a2021 ≠ a2145 := own_lt_ne V2141.lt g2145
                  have ne2152 : a2078 ≠ a2145 := own_lt_ne V2133.lt g2145
                  have A2153 := A2134.ext E2145
                  have A2154 := A2135.ext E2145
                  have A2155 := A2136.ext E2145
                  have A2156 := A2137.ext E2145
                  have V2157 := V2139.ext E2145
                  have A2158 := A2138.ext E2145
                  have V2159 := V2141.ext E2145
                  have A2160 := A2140.ext E2145
                  have V2161 := V2133.ext E2145
                  have A2162 := A2142.ext E2145
                  have O2163 := O2143.ext E2145
                  have S2164 := S2144.ext E2145
                  have F2165 : Fld Z h2145 a2145 "com/example/cladewalk/cladewalk/tree/Tree" "parents" "[I" .null := D2145 (Or.inr (ww 54 rfl)) (ty := (.array .int)) (by decide)
                  have F2166 : Fld Z h2145 a2145 "com/example/cladewalk/cladewalk/tree/Tree" "lengths" "[D" .null := D2145 (Or.inr (ww 62 rfl)) (ty := (.array .double)) (by decide)
                  have F2167 : Fld Z h2145 a2145 "com/example/cladewalk/cladewalk/tree/Tree" "names" "[Ljava/lang/String;" .null := D2145 (Or.inr (ww 70 rfl)) (ty := (.array (.object "java/lang/String"))) (by decide)
                  have F2168 : Fld Z h2145 a2145 "com/example/cladewalk/cladewalk/tree/Tree" "childCounts" "[I" .null := D2145 (Or.inr (ww 72 rfl)) (ty := (.array .int)) (by decide)
                  have F2169 : Fld Z h2145 a2145 "com/example/cladewalk/cladewalk/tree/Tree" "tipCount" "I" (.int (0 : Int32)) := D2145 (Or.inr (ww 75 rfl)) (ty := .int) (by decide)
                  refine own_dup X2145 rfl at_325 (pc' := 326) rfl ?_
                  refine own_aload X2145 rfl rfl at_326 (pc' := 328) rfl ?_
                  refine own_aload X2145 rfl rfl at_328 (pc' := 330) rfl ?_
                  refine own_aload X2145 rfl rfl at_330 (pc' := 332) rfl ?_
                  refine own_special X2145 (own_ti_12 l Z a0 hw a2145 a1983 a2021 a2078 d2035 i2034.toInt d2047 i2046.toInt d2059 i2058.toInt b1960 b2106 b2119 b2132 _ n0 X2145.le ge2145 A2145 F2165 F2166 F2167 F2168 F2169 V2157 V2159 V2161 A2158 A2160 A2162 ne2150.symm ne2151.symm ne2152.symm f2035 (by omega) f2047 (by omega) f2059 (by omega) fb2106 fb2119 fb2132) rfl rfl (ww 40 rfl) (ww 41 rfl) (ww 39 rfl) (ww 42 rfl) (by decide) rfl (by decide) (W := 1) (Nat.le_of_eq rfl) (by decide) (cells' := 20) (slots' := 65) rfl rfl (by decide) (by decide) (argsL := [(.ref a1983), (.ref a2021), (.ref a2078)]) (rest := [(.ref a2145)]) (lenOf own_pd13 rfl) rfl rfl at_332 (pc' := 335) rfl ?_
                  rintro _ T2170 h2170 X2170 ⟨rfl, ⟨x2170, y2170, F2170a, F2170b, V2170a, V2170b⟩, K2170⟩
                  have S2171 := own_Sta.keep1 S2164 K2170 A2145
                  have A2172 := A2153.keep K2170
                  have A2173 := A2154.keep K2170
                  have A2174 := A2155.keep K2170
                  have A2175 := A2156.keep K2170
                  have A2176 := A2145.keep K2170
                  show own_Goal p e below _ T2170 (mkF m 335 #[oI p0, oI p1, oI p2, oI p3, oI p4, oI 1, oI 2, oI 3, oI 1, oI 0, oI 0, oI 0, oA b1960, oA b1962, oA b1965, oA b1969, oI b1976, oI b1979, oI b1982, oA a1983, oA a2021, oA a2078, oA b1960, .val .null, .val .null, .val .null, oU, oU, oU, oU, oU, oU, oU] [(.ref a2145)])
                  refine own_astore X2170 (Ls' := #[oI p0, oI p1, oI p2, oI p3, oI p4, oI 1, oI 2, oI 3, oI 1, oI 0, oI 0, oI 0, oA b1960, oA b1962, oA b1965, oA b1969, oI b1976, oI b1979, oI b1982, oA a1983, oA a2021, oA a2078, oA b1960, .val .null, .val .null, .val .null, oA a2145, oU, oU, oU, oU, oU, oU]) rfl rfl at_335 (pc' := 337) rfl ?_
                  refine own_aload X2170 rfl rfl at_337 (pc' := 339) rfl ?_
                  refine own_iconst X2170 (v := (0 : Int32)) (by decide) at_339 (pc' := 340) rfl ?_
                  refine own_virtual X2170 (own_name_4_0_1 l Z a0 hw a2145 x2170 y2170 b1960 (0 : Int32) (1 : Int32) (1 : Int32) (1 : Int32) b2106 b2119 b2132 _ n0 X2170.le F2170a F2170b V2170a V2170b (by decide)) (C := "com/example/cladewalk/cladewalk/tree/Tree") rfl (ww 76 rfl) (ww 77 rfl) (ww 79 rfl) (ww 78 rfl) (ww 39 rfl) (ww 80 rfl) (by decide) rfl (by decide) (W := 0) (Nat.le_of_eq rfl) (by decide) (cells' := 20) (slots' := 65) rfl rfl (by decide) (by decide) A2176 (argsL := [(.int (0 : Int32))]) (rest := []) (lenOf own_pd12 rfl) rfl rfl at_340 (pc' := 343) rfl ?_
                  rintro _ T2177 h2177 X2177 ⟨rfl, e2177⟩
                  subst e2177
                  show own_Goal p e below _ T2177 (mkF m 343 #[oI p0, oI p1, oI p2, oI p3, oI p4, oI 1, oI 2, oI 3, oI 1, oI 0, oI 0, oI 0, oA b1960, oA b1962, oA b1965, oA b1969, oI b1976, oI b1979, oI b1982, oA a1983, oA a2021, oA a2078, oA b1960, .val .null, .val .null, .val .null, oA a2145, oU, oU, oU, oU, oU, oU] [(.ref b1960)])
                  refine own_aload X2177 rfl rfl at_343 (pc' := 345) rfl ?_
                  refine own_callS X2177 (own_sameA l Z a0 hw b1960 _ n0 X2177.le A2172) (ww 81 rfl) (ww 82 rfl) (ww 2 rfl) (ww 83 rfl) (by decide) rfl (by decide) (W := 0) (Nat.le_of_eq rfl) (by decide) (cells' := 20) (slots' := 65) rfl rfl (by decide) (by decide) (argsL := [(.ref b1960), (.ref b1960)]) (rest := []) (lenOf own_pd11 rfl) rfl rfl at_345 (pc' := 348) rfl ?_
                  rintro _ T2178 h2178 X2178 ⟨rfl, e2178⟩
                  subst e2178
                  show own_Goal p e below _ T2178 (mkF m 348 #[oI p0, oI p1, oI p2, oI p3, oI p4, oI 1, oI 2, oI 3, oI 1, oI 0, oI 0, oI 0, oA b1960, oA b1962, oA b1965, oA b1969, oI b1976, oI b1979, oI b1982, oA a1983, oA a2021, oA a2078, oA b1960, .val .null, .val .null, .val .null, oA a2145, oU, oU, oU, oU, oU, oU] [(.int (1 : Int32))])
                  refine own_ifF X2178 (by decide) at_348 (pc' := 351) rfl ?_
                  refine own_aload X2178 rfl rfl at_351 (pc' := 353) rfl ?_
                  refine own_iconst X2178 (v := (1 : Int32)) (by decide) at_353 (pc' := 354) rfl ?_
                  refine own_virtual X2178 (own_name_4_1_0 l Z a0 hw a2145 x2170 y2170 (0 : Int32) (1 : Int32) (1 : Int32) (1 : Int32) (.ref b1960) b2106 b2119 b2132 _ n0 X2178.le F2170a F2170b V2170a V2170b (by decide)) (C := "com/example/cladewalk/cladewalk/tree/Tree") rfl (ww 76 rfl) (ww 77 rfl) (ww 79 rfl) (ww 78 rfl) (ww 39 rfl) (ww 80 rfl) (by decide) rfl (by decide) (W := 0) (Nat.le_of_eq rfl) (by decide) (cells' := 20) (slots' := 65) rfl rfl (by decide) (by decide) A2176 (argsL := [(.int (1 : Int32))]) (rest := []) (lenOf own_pd12 rfl) rfl rfl at_354 (pc' := 357) rfl ?_
                  rintro _ T2179 h2179 X2179 ⟨rfl, e2179⟩
                  subst e2179
                  show own_Goal p e below _ T2179 (mkF m 357 #[oI p0, oI p1, oI p2, oI p3, oI p4, oI 1, oI 2, oI 3, oI 1, oI 0, oI 0, oI 0, oA b1960, oA b1962, oA b1965, oA b1969, oI b1976, oI b1979, oI b1982, oA a1983, oA a2021, oA a2078, oA b1960, .val .null, .val .null, .val .null, oA a2145, oU, oU, oU, oU, oU, oU] [.null])
                  refine own_aload X2179 rfl rfl at_357 (pc' := 359) rfl ?_
                  refine own_callS X2179 (own_sameN l Z a0 hw _ n0 X2179.le) (ww 81 rfl) (ww 82 rfl) (ww 2 rfl) (ww 83 rfl) (by decide) rfl (by decide) (W := 0) (Nat.le_of_eq rfl) (by decide) (cells' := 20) (slots' := 65) rfl rfl (by decide) (by decide) (argsL := [.null, .null]) (rest := []) (lenOf own_pd11 rfl) rfl rfl at_359 (pc' := 362) rfl ?_
                  rintro _ T2180 h2180 X2180 ⟨rfl, e2180⟩
                  subst e2180
                  show own_Goal p e below _ T2180 (mkF m 362 #[oI p0, oI p1, oI p2, oI p3, oI p4, oI 1, oI 2, oI 3, oI 1, oI 0, oI 0, oI 0, oA b1960, oA b1962, oA b1965, oA b1969, oI b1976, oI b1979, oI b1982, oA a1983, oA a2021, oA a2078, oA b1960, .val .null, .val .null, .val .null, oA a2145, oU, oU, oU, oU, oU, oU] [(.int (1 : Int32))])
                  refine own_ifF X2180 (by decide) at_362 (pc' := 365) rfl ?_
                  refine own_aload X2180 rfl rfl at_365 (pc' := 367) rfl ?_
                  refine own_iconst X2180 (v := (2 : Int32)) (by decide) at_367 (pc' := 368) rfl ?_
                  refine own_virtual X2180 (own_name_4_2_0 l Z a0 hw a2145 x2170 y2170 (0 : Int32) (1 : Int32) (1 : Int32) (1 : Int32) (.ref b1960) b2106 b2119 b2132 _ n0 X2180.le F2170a F2170b V2170a V2170b (by decide)) (C := "com/example/cladewalk/cladewalk/tree/Tree") rfl (ww 76 rfl) (ww 77 rfl) (ww 79 rfl) (ww 78 rfl) (ww 39 rfl) (ww 80 rfl) (by decide) rfl (by decide) (W := 0) (Nat.le_of_eq rfl) (by decide) (cells' := 20) (slots' := 65) rfl rfl (by decide) (by decide) A2176 (argsL := [(.int (2 : Int32))]) (rest := []) (lenOf own_pd12 rfl) rfl rfl at_368 (pc' := 371) rfl ?_
                  rintro _ T2181 h2181 X2181 ⟨rfl, e2181⟩
                  subst e2181
                  show own_Goal p e below _ T2181 (mkF m 371 #[oI p0, oI p1, oI p2, oI p3, oI p4, oI 1, oI 2, oI 3, oI 1, oI 0, oI 0, oI 0, oA b1960, oA b1962, oA b1965, oA b1969, oI b1976, oI b1979, oI b1982, oA a1983, oA a2021, oA a2078, oA b1960, .val .null, .val .null, .val .null, oA a2145, oU, oU, oU, oU, oU, oU] [.null])
                  refine own_aload X2181 rfl rfl at_371 (pc' := 373) rfl ?_
                  refine own_callS X2181 (own_sameN l Z a0 hw _ n0 X2181.le) (ww 81 rfl) (ww 82 rfl) (ww 2 rfl) (ww 83 rfl) (by decide) rfl (by decide) (W := 0) (Nat.le_of_eq rfl) (by decide) (cells' := 20) (slots' := 65) rfl rfl (by decide) (by decide) (argsL := [.null, .null]) (rest := []) (lenOf own_pd11 rfl) rfl rfl at_373 (pc' := 376) rfl ?_
                  rintro _ T2182 h2182 X2182 ⟨rfl, e2182⟩
                  subst e2182
                  show own_Goal p e below _ T2182 (mkF m 376 #[oI p0, oI p1, oI p2, oI p3, oI p4, oI 1, oI 2, oI 3, oI 1, oI 0, oI 0, oI 0, oA b1960, oA b1962, oA b1965, oA b1969, oI b1976, oI b1979, oI b1982, oA a1983, oA a2021, oA a2078, oA b1960, .val .null, .val .null, .val .null, oA a2145, oU, oU, oU, oU, oU, oU] [(.int (1 : Int32))])
                  refine own_ifF X2182 (by decide) at_376 (pc' := 379) rfl ?_
                  refine own_aload X2182 rfl rfl at_379 (pc' := 381) rfl ?_
                  refine own_iconst X2182 (v := (3 : Int32)) (by decide) at_381 (pc' := 382) rfl ?_
                  refine own_virtual X2182 (own_name_4_3_0 l Z a0 hw a2145 x2170 y2170 (0 : Int32) (1 : Int32) (1 : Int32) (1 : Int32) (.ref b1960) b2106 b2119 b2132 _ n0 X2182.le F2170a F2170b V2170a V2170b (by decide)) (C := "com/example/cladewalk/cladewalk/tree/Tree") rfl (ww 76 rfl) (ww 77 rfl) (ww 79 rfl) (ww 78 rfl) (ww 39 rfl) (ww 80 rfl) (by decide) rfl (by decide) (W := 0) (Nat.le_of_eq rfl) (by decide) (cells' := 20) (slots' := 65) rfl rfl (by decide) (by decide) A2176 (argsL := [(.int (3 : Int32))]) (rest := []) (lenOf own_pd12 rfl) rfl rfl at_382 (pc' := 385) rfl ?_
                  rintro _ T2183 h2183 X2183 ⟨rfl, e2183⟩
                  subst e2183
                  show own_Goal p e below _ T2183 (mkF m 385 #[oI p0, oI p1, oI p2, oI p3, oI p4, oI 1, oI 2, oI 3, oI 1, oI 0, oI 0, oI 0, oA b1960, oA b1962, oA b1965, oA b1969, oI b1976, oI b1979, oI b1982, oA a1983, oA a2021, oA a2078, oA b1960, .val .null, .val .null, .val .null, oA a2145, oU, oU, oU, oU, oU, oU] [.null])
                  refine own_aload X2183 rfl rfl at_385 (pc' := 387) rfl ?_
                  refine own_callS X2183 (own_sameN l Z a0 hw _ n0 X2183.le) (ww 81 rfl) (ww 82 rfl) (ww 2 rfl) (ww 83 rfl) (by decide) rfl (by decide) (W := 0) (Nat.le_of_eq rfl) (by decide) (cells' := 20) (slots' := 65) rfl rfl (by decide) (by decide) (argsL := [.null, .null]) (rest := []) (lenOf own_pd11 rfl) rfl rfl at_387 (pc' := 390) rfl ?_
                  rintro _ T2184 h2184 X2184 ⟨rfl, e2184⟩
                  subst e2184
                  show own_Goal p e below _ T2184 (mkF m 390 #[oI p0, oI p1, oI p2, oI p3, oI p4, oI 1, oI 2, oI 3, oI 1, oI 0, oI 0, oI 0, oA b1960, oA b1962, oA b1965, oA b1969, oI b1976, oI b1979, oI b1982, oA a1983, oA a2021, oA a2078, oA b1960, .val .null, .val .null, .val .null, oA a2145, oU, oU, oU, oU, oU, oU] [(.int (1 : Int32))])
                  refine own_ifF X2184 (by decide) at_390 (pc' := 393) rfl ?_
                  refine own_iconst X2184 (v := (1 : Int32)) (by decide) at_393 (pc' := 394) rfl ?_
                  refine own_goto X2184 at_394 (pc' := 398) (by decide) (by decide) ?_
                  refine own_istore X2184 (Ls' := #[oI p0, oI p1, oI p2, oI p3, oI p4, oI 1, oI 2, oI 3, oI 1, oI 0, oI 0, oI 0, oA b1960, oA b1962, oA b1965, oA b1969, oI b1976, oI b1979, oI b1982, oA a1983, oA a2021, oA a2078, oA b1960, .val .null, .val .null, .val .null, oA a2145, oI 1, oU, oU, oU, oU, oU]) rfl at_398 (pc' := 400) rfl ?_
                  refine own_iconst X2184 (v := (1 : Int32)) (by decide) at_400 (pc' := 401) rfl ?_
                  refine own_newarrayE X2184 (ty := .int) rfl (ad := "[I") (by decide) (ww 34 rfl) (n := 1) (vs := [(.int (0 : Int32))]) (by decide) (by decide) (by decide) rfl (cells' := 21) (slots' := 66) rfl rfl (by decide) (by decide) at_401 (pc' := 403) rfl fun a2185 T2185 h2185 g2185 ge2185 X2185 E2185 V2185 A2185 => ?_
                  have S2186 := S2171.ext E2185
                  refine own_astore X2185 (Ls' := #[oI p0, oI p1, oI p2, oI p3, oI p4, oI 1, oI 2, oI 3, oI 1, oI 0, oI 0, oI 0, oA b1960, oA b1962, oA b1965, oA b1969, oI b1976, oI b1979, oI b1982, oA a1983, oA a2021, oA a2078, oA b1960, .val .null, .val .null, .val .null, oA a2145, oI 1, oA a2185, oU, oU, oU, oU]) rfl rfl at_403 (pc' := 405) rfl ?_
                  refine own_aload X2185 rfl rfl at_405 (pc' := 407) rfl ?_
                  refine own_iconst X2185 (v := (0 : Int32)) (by decide) at_407 (pc' := 408) rfl ?_
                  refine own_iconst X2185 (v := (-1 : Int32)) (by decide) at_408 (pc' := 409) rfl ?_
                  refine own_iastore X2185 V2185 ge2185 (i := 0) (by decide) (by decide) (show 0 < 1 by decide) at_409 (pc' := 410) rfl fun T2187 h2187 X2187 W2187 V2187 => ?_
                  have A2188 := A2185.wr W2187
                  have S2189 := S2186.wr W2187
                  replace V2187 : own_Vec Z h2187 a2185 .int [(.int (-1 : Int32))] := V2187
                  refine own_iconst X2187 (v := (1 : Int32)) (by decide) at_410 (pc' := 411) rfl ?_
                  refine own_newarrayE X2187 (ty := .double) rfl (ad := "[D") (by decide) (ww 35 rfl) (n := 1) (vs := [(.double (0 : UInt64))]) (by decide) (by decide) (by decide) rfl (cells' := 22) (slots' := 67) rfl rfl (by decide) (by decide) at_411 (pc' := 413) rfl fun a2190 T2190 h2190 g2190 ge2190 X2190 E2190 V2190 A2190 => ?_
                  have ne2191 : a2185 ≠ a2190 := own_lt_ne V2187.lt g2190
                  have V2192 := V2187.ext E2190
                  have A2193 := A2188.ext E2190
                  have S2194 := S2189.ext E2190
                  refine own_astore X2190 (Ls' := #[oI p0, oI p1, oI p2, oI p3, oI p4, oI 1, oI 2, oI 3, oI 1, oI 0, oI 0, oI 0, oA b1960, oA b1962, oA b1965, oA b1969, oI b1976, oI b1979, oI b1982, oA a1983, oA a2021, oA a2078, oA b1960, .val .null, .val .null, .val .null, oA a2145, oI 1, oA a2185, oA a2190, oU, oU, oU]) rfl rfl at_413 (pc' := 415) rfl ?_
                  refine own_aload X2190 rfl rfl at_415 (pc' := 417) rfl ?_
                  refine own_iconst X2190 (v := (0 : Int32)) (by decide) at_417 (pc' := 418) rfl ?_
                  refine own_dconst0 X2190 (v := (0 : UInt64)) rfl at_418 (pc' := 419) rfl ?_
                  refine own_dastore X2190 V2190 ge2190 (i := 0) (by decide) (by decide) (show 0 < 1 by decide) at_419 (pc' := 420) rfl fun T2195 h2195 X2195 W2195 V2195 => ?_
                  have A2196 := A2193.wr W2195
                  have V2197 := V2192.other W2195 ne2191
                  have A2198 := A2190.wr W2195
                  have S2199 := S2194.wr W2195
                  replace V2195 : own_Vec Z h2195 a2190 .double [(.double (0 : UInt64))] := V2195
                  refine own_iload X2195 rfl at_420 (pc' := 422) rfl ?_
                  refine own_bipush X2195 (v := (16 : Int32)) (by decide) at_422 (pc' := 424) rfl ?_
                  obtain ⟨i2200, e2200⟩ : ∃ v, XT.ushr p4 (16 : Int32) = v := ⟨_, rfl⟩
                  refine own_iushr X2195 e2200 at_424 (pc' := 425) rfl ?_
                  refine own_sipush X2195 (v := (255 : Int32)) (by decide) at_425 (pc' := 428) rfl ?_
                  obtain ⟨i2201, e2201⟩ : ∃ v, i2200 &&& (255 : Int32) = v := ⟨_, rfl⟩
                  have f2201 : own_I 255 i2201.toInt i2201 := own_I.and e2201 (by decide)
                  have nn2201 := own_and_nn (M := 255) e2201 (by decide)
                  refine own_iand X2195 e2201 at_428 (pc' := 429) rfl ?_
                  refine own_i2c X2195 (v := i2201) (own_i2c_mask e2201) at_429 (pc' := 430) rfl ?_
                  refine own_callS X2195 (own_vof l Z a0 hw i2201 _ n0 X2195.le f2201 nn2201 cs S2199 hcs) (ww 89 rfl) (ww 90 rfl) (ww 7 rfl) (ww 91 rfl) (by decide) rfl (by decide) (W := 0) (Nat.le_of_eq rfl) (by decide) (cells' := 24) (slots' := 72) rfl rfl (by decide) (by decide) (argsL := [(.int i2201)]) (rest := []) (lenOf own_pd9 rfl) rfl rfl at_430 (pc' := 433) rfl ?_
                  rintro _ T2203 h2203 X2203 ⟨b2203, rfl, A2203, K2203⟩
                  have S2204 := own_Sta.keep0 S2199 K2203
                  have A2205 := A2196.keep K2203
                  have V2206 := V2197.keep K2203 nin0
                  have A2207 := A2198.keep K2203
                  have V2208 := V2195.keep K2203 nin0
                  show own_Goal p e below _ T2203 (mkF m 433 #[oI p0, oI p1, oI p2, oI p3, oI p4, oI 1, oI 2, oI 3, oI 1, oI 0, oI 0, oI 0, oA b1960, oA b1962, oA b1965, oA b1969, oI b1976, oI b1979, oI b1982, oA a1983, oA a2021, oA a2078, oA b1960, .val .null, .val .null, .val .null, oA a2145, oI 1, oA a2185, oA a2190, oU, oU, oU] [(.ref b2203)])
                  refine own_astore X2203 (Ls' := #[oI p0, oI p1, oI p2, oI p3, oI p4, oI 1, oI 2, oI 3, oI 1, oI 0, oI 0, oI 0, oA b1960, oA b1962, oA b1965, oA b1969, oI b1976, oI b1979, oI b1982, oA a1983, oA a2021, oA a2078, oA b1960, .val .null, .val .null, .val .null, oA a2145, oI 1, oA a2185, oA a2190, oA b2203, oU, oU]) rfl rfl at_433 (pc' := 435) rfl ?_
                  refine own_iconst X2203 (v := (1 : Int32)) (by decide) at_435 (pc' := 436) rfl ?_
                  refine own_anewarray X2203 (ww 5 rfl) (ww 36 rfl) (ad := "[Ljava/lang/String;") (by decide) (n := 1) (vs := [.null]) (by decide) (by decide) (by decide) rfl (cells' := 25) (slots' := 73) rfl rfl (by decide) (by decide) at_436 (pc' := 439) rfl fun a2209 T2209 h2209 g2209 ge2209 X2209 E2209 V2209 A2209 O2209 => ?_
                  have ne2210 : a2185 ≠ a2209 := own_lt_ne V2206.lt g2209
                  have ne2211 : a2190 ≠ a2209 := own_lt_ne V2208.lt g2209
                  have ne2212 : b2203 ≠ a2209 := own_lt_ne A2203.lt g2209
                  have V2213 := V2206.ext E2209
                  have A2214 := A2205.ext E2209
                  have V2215 := V2208.ext E2209
                  have A2216 := A2207.ext E2209
                  have A2217 := A2203.ext E2209
                  have S2218 := S2204.ext E2209
                  refine own_astore X2209 (Ls' := #[oI p0, oI p1, oI p2, oI p3, oI p4, oI 1, oI 2, oI 3, oI 1, oI 0, oI 0, oI 0, oA b1960, oA b1962, oA b1965, oA b1969, oI b1976, oI b1979, oI b1982, oA a1983, oA a2021, oA a2078, oA b1960, .val .null, .val .null, .val .null, oA a2145, oI 1, oA a2185, oA a2190, oA b2203, oA a2209, oU]) rfl rfl at_439 (pc' := 441) rfl ?_
                  refine own_aload X2209 rfl rfl at_441 (pc' := 443) rfl ?_
                  refine own_iconst X2209 (v := (0 : Int32)) (by decide) at_443 (pc' := 444) rfl ?_
                  refine own_aload X2209 rfl rfl at_444 (pc' := 446) rfl ?_
                  refine own_aastore X2209 V2209 O2209 ge2209 (Or.inr ⟨_, rfl, A2217⟩) (i := 0) (by decide) (by decide) (show 0 < 1 by decide) at_446 (pc' := 447) rfl fun T2219 h2219 X2219 W2219 V2219 => ?_
                  have A2220 := A2214.wr W2219
                  have V2221 := V2213.other W2219 ne2210
                  have A2222 := A2216.wr W2219
                  have V2223 := V2215.other W2219 ne2211
                  have A2224 := A2217.wr W2219
                  have A2225 := A2209.wr W2219
                  have O2226 := O2209.wr W2219
                  have S2227 := S2218.wr W2219
                  replace V2219 : own_Vec Z h2219 a2209 (.object "java/lang/String") [(.ref b2203)] := V2219
                  refine own_new X2219 (ww 37 rfl) (ww 38 rfl) (ww 39 rfl) (cells' := 26) (slots' := 78) rfl rfl (by decide) (by decide) at_447 (pc' := 450) rfl fun a2228 T2228 h2228 g2228 ge2228 X2228 E2228 A2228 D2228 => ?_
                  have ne2229 : a2185 ≠ a2228 := own_lt_ne V2221.lt g2228
                  have ne2230 : a2190 ≠ a2228 := own_lt_ne V2223.lt g2228
                  have ne2231 : b2203 ≠ a2228 := own_lt_ne A2224.lt g2228
                  have ne2232 : a2209 ≠ a2228 := own_lt_ne V2219.lt g2228
                  have V2233 := V2221.ext E2228
                  have A2234 := A2220.ext E2228
                  have V2235 := V2223.ext E2228
                  have A2236 := A2222.ext E2228
                  have A2237 := A2224.ext E2228
                  have V2238 := V2219.ext E2228
                  have A2239 := A2225.ext E2228
                  have O2240 := O2226.ext E2228
                  have S2241 := S2227.ext E2228
                  have F2242 : Fld Z h2228 a2228 "com/example/cladewalk/cladewalk/tree/Tree" "parents" "[I" .null := D2228 (Or.inr (ww 54 rfl)) (ty := (.array .int)) (by decide)
                  have F2243 : Fld Z h2228 a2228 "com/example/cladewalk/cladewalk/tree/Tree" "lengths" "[D" .null := D2228 (Or.inr (ww 62 rfl)) (ty := (.array .double)) (by decide)
                  have F2244 : Fld Z h2228 a2228 "com/example/cladewalk/cladewalk/tree/Tree" "names" "[Ljava/lang/String;" .null := D2228 (Or.inr (ww 70 rfl)) (ty := (.array (.object "java/lang/String"))) (by decide)
                  have F2245 : Fld Z h2228 a2228 "com/example/cladewalk/cladewalk/tree/Tree" "childCounts" "[I" .null := D2228 (Or.inr (ww 72 rfl)) (ty := (.array .int)) (by decide)
                  have F2246 : Fld Z h2228 a2228 "com/example/cladewalk/cladewalk/tree/Tree" "tipCount" "I" (.int (0 : Int32)) := D2228 (Or.inr (ww 75 rfl)) (ty := .int) (by decide)
                  refine own_dup X2228 rfl at_450 (pc' := 451) rfl ?_
                  refine own_aload X2228 rfl rfl at_451 (pc' := 453) rfl ?_
                  refine own_aload X2228 rfl rfl at_453 (pc' := 455) rfl ?_
                  refine own_aload X2228 rfl rfl at_455 (pc' := 457) rfl ?_
                  refine own_special X2228 (own_ti_1 l Z a0 hw a2228 a2185 a2190 a2209 b2203 _ n0 X2228.le ge2228 A2228 F2242 F2243 F2244 F2245 F2246 V2233 V2235 V2238 A2234 A2236 A2239 ne2229.symm ne2230.symm ne2232.symm ) rfl rfl (ww 40 rfl) (ww 41 rfl) (ww 39 rfl) (ww 42 rfl) (by decide) rfl (by decide) (W := 1) (Nat.le_of_eq rfl) (by decide) (cells' := 30) (slots' := 82) rfl rfl (by decide) (by decide) (argsL := [(.ref a2185), (.ref a2190), (.ref a2209)]) (rest := [(.ref a2228)]) (lenOf own_pd13 rfl) rfl rfl at_457 (pc' := 460) rfl ?_
                  rintro _ T2247 h2247 X2247 ⟨rfl, ⟨x2247, y2247, F2247a, F2247b, V2247a, V2247b⟩, K2247⟩
                  have S2248 := own_Sta.keep1 S2241 K2247 A2228
                  have A2249 := A2237.keep K2247
                  have A2250 := A2228.keep K2247
                  show own_Goal p e below _ T2247 (mkF m 460 #[oI p0, oI p1, oI p2, oI p3, oI p4, oI 1, oI 2, oI 3, oI 1, oI 0, oI 0, oI 0, oA b1960, oA b1962, oA b1965, oA b1969, oI b1976, oI b1979, oI b1982, oA a1983, oA a2021, oA a2078, oA b1960, .val .null, .val .null, .val .null, oA a2145, oI 1, oA a2185, oA a2190, oA b2203, oA a2209, oU] [(.ref a2228)])
                  refine own_astore X2247 (Ls' := #[oI p0, oI p1, oI p2, oI p3, oI p4, oI 1, oI 2, oI 3, oI 1, oI 0, oI 0, oI 0, oA b1960, oA b1962, oA b1965, oA b1969, oI b1976, oI b1979, oI b1982, oA a1983, oA a2021, oA a2078, oA b1960, .val .null, .val .null, .val .null, oA a2145, oI 1, oA a2185, oA a2190, oA b2203, oA a2209, oA a2228]) rfl rfl at_460 (pc' := 462) rfl ?_
                  refine own_iload X2247 rfl at_462 (pc' := 464) rfl ?_
                  refine own_ifF X2247 (by decide) at_464 (pc' := 467) rfl ?_
                  refine own_aload X2247 rfl rfl at_467 (pc' := 469) rfl ?_
                  refine own_iconst X2247 (v := (0 : Int32)) (by decide) at_469 (pc' := 470) rfl ?_
                  refine own_virtual X2247 (own_name_1_0_1 l Z a0 hw a2228 x2247 y2247 b2203 (0 : Int32) _ n0 X2247.le F2247a F2247b V2247a V2247b (by decide)) (C := "com/example/cladewalk/cladewalk/tree/Tree") rfl (ww 76 rfl) (ww 77 rfl) (ww 79 rfl) (ww 78 rfl) (ww 39 rfl) (ww 80 rfl) (by decide) rfl (by decide) (W := 0) (Nat.le_of_eq rfl) (by decide) (cells' := 30) (slots' := 82) rfl rfl (by decide) (by decide) A2250 (argsL := [(.int (0 : Int32))]) (rest := []) (lenOf own_pd12 rfl) rfl rfl at_470 (pc' := 473) rfl ?_
                  rintro _ T2251 h2251 X2251 ⟨rfl, e2251⟩
                  subst e2251
                  show own_Goal p e below _ T2251 (mkF m 473 #[oI p0, oI p1, oI p2, oI p3, oI p4, oI 1, oI 2, oI 3, oI 1, oI 0, oI 0, oI 0, oA b1960, oA b1962, oA b1965, oA b1969, oI b1976, oI b1979, oI b1982, oA a1983, oA a2021, oA a2078, oA b1960, .val .null, .val .null, .val .null, oA a2145, oI 1, oA a2185, oA a2190, oA b2203, oA a2209, oA a2228] [(.ref b2203)])
                  refine own_aload X2251 rfl rfl at_473 (pc' := 475) rfl ?_
                  refine own_callS X2251 (own_sameA l Z a0 hw b2203 _ n0 X2251.le A2249) (ww 81 rfl) (ww 82 rfl) (ww 2 rfl) (ww 83 rfl) (by decide) rfl (by decide) (W := 0) (Nat.le_of_eq rfl) (by decide) (cells' := 30) (slots' := 82) rfl rfl (by decide) (by decide) (argsL := [(.ref b2203), (.ref b2203)]) (rest := []) (lenOf own_pd11 rfl) rfl rfl at_475 (pc' := 478) rfl ?_
                  rintro _ T2252 h2252 X2252 ⟨rfl, e2252⟩
                  subst e2252
                  show own_Goal p e below _ T2252 (mkF m 478 #[oI p0, oI p1, oI p2, oI p3, oI p4, oI 1, oI 2, oI 3, oI 1, oI 0, oI 0, oI 0, oA b1960, oA b1962, oA b1965, oA b1969, oI b1976, oI b1979, oI b1982, oA a1983, oA a2021, oA a2078, oA b1960, .val .null, .val .null, .val .null, oA a2145, oI 1, oA a2185, oA a2190, oA b2203, oA a2209, oA a2228] [(.int (1 : Int32))])
                  refine own_ifF X2252 (by decide) at_478 (pc' := 481) rfl ?_
                  refine own_iload X2252 rfl at_481 (pc' := 483) rfl ?_
                  refine own_ifF X2252 (by decide) at_483 (pc' := 486) rfl ?_
                  refine own_iconst X2252 (v := (1 : Int32)) (by decide) at_486 (pc' := 487) rfl ?_
                  refine own_goto X2252 at_487 (pc' := 491) (by decide) (by decide) ?_
                  exact own_retZ X2252 (by decide) at_491 rfl (by decide) (by decide) rfl
                by_cases c2132 : b1982 = 0
                · -- join
                  refine own_ifT X2120 (own_z_eq c2132).1 at_269 (pc' := 277) (by decide) (by decide) ?_
                  refine own_aconst_null X2120  at_277 (pc' := 278) rfl ?_
                  exact J2132 _ (Or.inl rfl)
                · -- join
                  refine own_ifF X2120 (own_z_ne c2132).1 at_269 (pc' := 272) rfl ?_
                  refine own_aload X2120 rfl rfl at_272 (pc' := 274) rfl ?_
                  refine own_goto X2120 at_274 (pc' := 278) (by decide) (by decide) ?_
                  exact J2132 _ (Or.inr rfl)
              by_cases c2119 : b1979 = 0
              · -- join
                refine own_ifT X2107 (own_z_eq c2119).1 at_254 (pc' := 262) (by decide) (by decide) ?_
                refine own_aconst_null X2107  at_262 (pc' := 263) rfl ?_
                exact J2119 _ (Or.inl rfl)
              · -- join
                refine own_ifF X2107 (own_z_ne c2119).1 at_254 (pc' := 257) rfl ?_
                refine own_aload X2107 rfl rfl at_257 (pc' := 259) rfl ?_
                refine own_goto X2107 at_259 (pc' := 263) (by decide) (by decide) ?_
                exact J2119 _ (Or.inr rfl)
            by_cases c2106 : b1976 = 0
            · -- join
              refine own_ifT X2094 (own_z_eq c2106).1 at_234 (pc' := 242) (by decide) (by decide) ?_
              refine own_aconst_null X2094  at_242 (pc' := 243) rfl ?_
              exact J2106 _ (Or.inl rfl)
            · -- join
              refine own_ifF X2094 (own_z_ne c2106).1 at_234 (pc' := 237) rfl ?_
              refine own_aload X2094 rfl rfl at_237 (pc' := 239) rfl ?_
              refine own_goto X2094 at_239 (pc' := 243) (by decide) (by decide) ?_
              exact J2106 _ (Or.inr rfl)
          by_cases c1982 : i1981 = 0
          · -- join
            refine own_ifT X1969 (own_z_eq c1982).1 at_129 (pc' := 136) (by decide) (by decide) ?_
            refine own_iconst X1969 (v := (0 : Int32)) (by decide) at_136 (pc' := 137) rfl ?_
            exact J1982 _
          · -- join
            refine own_ifF X1969 (own_z_ne c1982).1 at_129 (pc' := 132) rfl ?_
            refine own_iconst X1969 (v := (1 : Int32)) (by decide) at_132 (pc' := 133) rfl ?_
            refine own_goto X1969 at_133 (pc' := 137) (by decide) (by decide) ?_
            exact J1982 _
        by_cases c1979 : i1978 = 0
        · -- join
          refine own_ifT X1969 (own_z_eq c1979).1 at_114 (pc' := 121) (by decide) (by decide) ?_
          refine own_iconst X1969 (v := (0 : Int32)) (by decide) at_121 (pc' := 122) rfl ?_
          exact J1979 _
        · -- join
          refine own_ifF X1969 (own_z_ne c1979).1 at_114 (pc' := 117) rfl ?_
          refine own_iconst X1969 (v := (1 : Int32)) (by decide) at_117 (pc' := 118) rfl ?_
          refine own_goto X1969 at_118 (pc' := 122) (by decide) (by decide) ?_
          exact J1979 _
      by_cases c1976 : i1975 = 0
      · -- join
        refine own_ifT X1969 (own_z_eq c1976).1 at_99 (pc' := 106) (by decide) (by decide) ?_
        refine own_iconst X1969 (v := (0 : Int32)) (by decide) at_106 (pc' := 107) rfl ?_
        exact J1976 _
      · -- join
        refine own_ifF X1969 (own_z_ne c1976).1 at_99 (pc' := 102) rfl ?_
        refine own_iconst X1969 (v := (1 : Int32)) (by decide) at_102 (pc' := 103) rfl ?_
        refine own_goto X1969 at_103 (pc' := 107) (by decide) (by decide) ?_
        exact J1976 _
    · -- 1
      refine own_iadd X0 (v := (3 : Int32)) (by decide) at_18 (pc' := 19) rfl ?_
      refine own_istore X0 (Ls' := #[oI p0, oI p1, oI p2, oI p3, oI p4, oI 1, oI 3, oU, oU, oU, oU, oU, oU, oU, oU, oU, oU, oU, oU, oU, oU, oU, oU, oU, oU, oU, oU, oU, oU, oU, oU, oU, oU]) rfl at_19 (pc' := 21) rfl ?_
      refine own_iconst X0 (v := (3 : Int32)) (by decide) at_21 (pc' := 22) rfl ?_
      refine own_istore X0 (Ls' := #[oI p0, oI p1, oI p2, oI p3, oI p4, oI 1, oI 3, oI 3, oU, oU, oU, oU, oU, oU, oU, oU, oU, oU, oU, oU, oU, oU, oU, oU, oU, oU, oU, oU, oU, oU, oU, oU, oU]) rfl at_22 (pc' := 24) rfl ?_
      refine own_iconst X0 (v := (1 : Int32)) (by decide) at_24 (pc' := 25) rfl ?_
      refine own_istore X0 (Ls' := #[oI p0, oI p1, oI p2, oI p3, oI p4, oI 1, oI 3, oI 3, oI 1, oU, oU, oU, oU, oU, oU, oU, oU, oU, oU, oU, oU, oU, oU, oU, oU, oU, oU, oU, oU, oU, oU, oU, oU]) rfl at_25 (pc' := 27) rfl ?_
      refine own_iload X0 rfl at_27 (pc' := 29) rfl ?_
      refine own_iconst X0 (v := (1 : Int32)) (by decide) at_29 (pc' := 30) rfl ?_
      refine own_icmpT X0 (by decide) at_30 (pc' := 37) (by decide) (by decide) ?_
      refine own_iconst X0 (v := (0 : Int32)) (by decide) at_37 (pc' := 38) rfl ?_
      refine own_istore X0 (Ls' := #[oI p0, oI p1, oI p2, oI p3, oI p4, oI 1, oI 3, oI 3, oI 1, oI 0, oU, oU, oU, oU, oU, oU, oU, oU, oU, oU, oU, oU, oU, oU, oU, oU, oU, oU, oU, oU, oU, oU, oU]) rfl at_38 (pc' := 40) rfl ?_
      refine own_iload X0 rfl at_40 (pc' := 42) rfl ?_
      refine own_iconst X0 (v := (2 : Int32)) (by decide) at_42 (pc' := 43) rfl ?_
      refine own_icmpF X0 (by decide) at_43 (pc' := 46) rfl ?_
      refine own_iload X0 rfl at_46 (pc' := 48) rfl ?_
      refine own_iconst X0 (v := (2 : Int32)) (by decide) at_48 (pc' := 49) rfl ?_
      refine own_icmpF X0 (by decide) at_49 (pc' := 52) rfl ?_
      refine own_iconst X0 (v := (1 : Int32)) (by decide) at_52 (pc' := 53) rfl ?_
      refine own_goto X0 at_53 (pc' := 57) (by decide) (by decide) ?_
      refine own_istore X0 (Ls' := #[oI p0, oI p1, oI p2, oI p3, oI p4, oI 1, oI 3, oI 3, oI 1, oI 0, oI 1, oU, oU, oU, oU, oU, oU, oU, oU, oU, oU, oU, oU, oU, oU, oU, oU, oU, oU, oU, oU, oU, oU]) rfl at_57 (pc' := 59) rfl ?_
      refine own_iconst X0 (v := (0 : Int32)) (by decide) at_59 (pc' := 60) rfl ?_
      refine own_istore X0 (Ls' := #[oI p0, oI p1, oI p2, oI p3, oI p4, oI 1, oI 3, oI 3, oI 1, oI 0, oI 1, oI 0, oU, oU, oU, oU, oU, oU, oU, oU, oU, oU, oU, oU, oU, oU, oU, oU, oU, oU, oU, oU, oU]) rfl at_60 (pc' := 62) rfl ?_
      refine own_iloadN X0 rfl at_62 (pc' := 63) rfl ?_
      refine own_iloadN X0 rfl at_63 (pc' := 64) rfl ?_
      refine own_iconst X0 (v := (0 : Int32)) (by decide) at_64 (pc' := 65) rfl ?_
      refine own_callS X0 (own_two l Z a0 hw p1 p2 (0 : Int32) _ n0 X0.le cs S0 hcs) (ww 0 rfl) (ww 1 rfl) (ww 2 rfl) (ww 3 rfl) (by decide) rfl (by decide) (W := 0) (Nat.le_of_eq rfl) (by decide) (cells' := 3) (slots' := 8) rfl rfl (by decide) (by decide) (argsL := [(.int p1), (.int p2), (.int (0 : Int32))]) (rest := []) (lenOf own_pd5 rfl) rfl rfl at_65 (pc' := 68) rfl ?_
      rintro _ T2253 h2253 X2253 ⟨b2253, rfl, A2253, K2253⟩
      have S2254 := own_Sta.keep0 S0 K2253
      show own_Goal p e below _ T2253 (mkF m 68 #[oI p0, oI p1, oI p2, oI p3, oI p4, oI 1, oI 3, oI 3, oI 1, oI 0, oI 1, oI 0, oU, oU, oU, oU, oU, oU, oU, oU, oU, oU, oU, oU, oU, oU, oU, oU, oU, oU, oU, oU, oU] [(.ref b2253)])
      refine own_astore X2253 (Ls' := #[oI p0, oI p1, oI p2, oI p3, oI p4, oI 1, oI 3, oI 3, oI 1, oI 0, oI 1, oI 0, oA b2253, oU, oU, oU, oU, oU, oU, oU, oU, oU, oU, oU, oU, oU, oU, oU, oU, oU, oU, oU, oU]) rfl rfl at_68 (pc' := 70) rfl ?_
      refine own_iloadN X2253 rfl at_70 (pc' := 71) rfl ?_
      refine own_iloadN X2253 rfl at_71 (pc' := 72) rfl ?_
      refine own_iconst X2253 (v := (1 : Int32)) (by decide) at_72 (pc' := 73) rfl ?_
      refine own_callS X2253 (own_two l Z a0 hw p1 p2 (1 : Int32) _ n0 X2253.le cs S2254 hcs) (ww 0 rfl) (ww 1 rfl) (ww 2 rfl) (ww 3 rfl) (by decide) rfl (by decide) (W := 0) (Nat.le_of_eq rfl) (by decide) (cells' := 6) (slots' := 16) rfl rfl (by decide) (by decide) (argsL := [(.int p1), (.int p2), (.int (1 : Int32))]) (rest := []) (lenOf own_pd5 rfl) rfl rfl at_73 (pc' := 76) rfl ?_
      rintro _ T2255 h2255 X2255 ⟨b2255, rfl, A2255, K2255⟩
      have S2256 := own_Sta.keep0 S2254 K2255
      have A2257 := A2253.keep K2255
      show own_Goal p e below _ T2255 (mkF m 76 #[oI p0, oI p1, oI p2, oI p3, oI p4, oI 1, oI 3, oI 3, oI 1, oI 0, oI 1, oI 0, oA b2253, oU, oU, oU, oU, oU, oU, oU, oU, oU, oU, oU, oU, oU, oU, oU, oU, oU, oU, oU, oU] [(.ref b2255)])
      refine own_astore X2255 (Ls' := #[oI p0, oI p1, oI p2, oI p3, oI p4, oI 1, oI 3, oI 3, oI 1, oI 0, oI 1, oI 0, oA b2253, oA b2255, oU, oU, oU, oU, oU, oU, oU, oU, oU, oU, oU, oU, oU, oU, oU, oU, oU, oU, oU]) rfl rfl at_76 (pc' := 78) rfl ?_
      refine own_iloadN X2255 rfl at_78 (pc' := 79) rfl ?_
      refine own_iloadN X2255 rfl at_79 (pc' := 80) rfl ?_
      refine own_iconst X2255 (v := (2 : Int32)) (by decide) at_80 (pc' := 81) rfl ?_
      refine own_callS X2255 (own_two l Z a0 hw p1 p2 (2 : Int32) _ n0 X2255.le cs S2256 hcs) (ww 0 rfl) (ww 1 rfl) (ww 2 rfl) (ww 3 rfl) (by decide) rfl (by decide) (W := 0) (Nat.le_of_eq rfl) (by decide) (cells' := 9) (slots' := 24) rfl rfl (by decide) (by decide) (argsL := [(.int p1), (.int p2), (.int (2 : Int32))]) (rest := []) (lenOf own_pd5 rfl) rfl rfl at_81 (pc' := 84) rfl ?_
      rintro _ T2258 h2258 X2258 ⟨b2258, rfl, A2258, K2258⟩
      have S2259 := own_Sta.keep0 S2256 K2258
      have A2260 := A2257.keep K2258
      have A2261 := A2255.keep K2258
      show own_Goal p e below _ T2258 (mkF m 84 #[oI p0, oI p1, oI p2, oI p3, oI p4, oI 1, oI 3, oI 3, oI 1, oI 0, oI 1, oI 0, oA b2253, oA b2255, oU, oU, oU, oU, oU, oU, oU, oU, oU, oU, oU, oU, oU, oU, oU, oU, oU, oU, oU] [(.ref b2258)])
      refine own_astore X2258 (Ls' := #[oI p0, oI p1, oI p2, oI p3, oI p4, oI 1, oI 3, oI 3, oI 1, oI 0, oI 1, oI 0, oA b2253, oA b2255, oA b2258, oU, oU, oU, oU, oU, oU, oU, oU, oU, oU, oU, oU, oU, oU, oU, oU, oU, oU]) rfl rfl at_84 (pc' := 86) rfl ?_
      refine own_iloadN X2258 rfl at_86 (pc' := 87) rfl ?_
      refine own_iloadN X2258 rfl at_87 (pc' := 88) rfl ?_
      refine own_iconst X2258 (v := (3 : Int32)) (by decide) at_88 (pc' := 89) rfl ?_
      refine own_callS X2258 (own_two l Z a0 hw p1 p2 (3 : Int32) _ n0 X2258.le cs S2259 hcs) (ww 0 rfl) (ww 1 rfl) (ww 2 rfl) (ww 3 rfl) (by decide) rfl (by decide) (W := 0) (Nat.le_of_eq rfl) (by decide) (cells' := 12) (slots' := 32) rfl rfl (by decide) (by decide) (argsL := [(.int p1), (.int p2), (.int (3 : Int32))]) (rest := []) (lenOf own_pd5 rfl) rfl rfl at_89 (pc' := 92) rfl ?_
      rintro _ T2262 h2262 X2262 ⟨b2262, rfl, A2262, K2262⟩
      have S2263 := own_Sta.keep0 S2259 K2262
      have A2264 := A2260.keep K2262
      have A2265 := A2261.keep K2262
      have A2266 := A2258.keep K2262
      show own_Goal p e below _ T2262 (mkF m 92 #[oI p0, oI p1, oI p2, oI p3, oI p4, oI 1, oI 3, oI 3, oI 1, oI 0, oI 1, oI 0, oA b2253, oA b2255, oA b2258, oU, oU, oU, oU, oU, oU, oU, oU, oU, oU, oU, oU, oU, oU, oU, oU, oU, oU] [(.ref b2262)])
      refine own_astore X2262 (Ls' := #[oI p0, oI p1, oI p2, oI p3, oI p4, oI 1, oI 3, oI 3, oI 1, oI 0, oI 1, oI 0, oA b2253, oA b2255, oA b2258, oA b2262, oU, oU, oU, oU, oU, oU, oU, oU, oU, oU, oU, oU, oU, oU, oU, oU, oU]) rfl rfl at_92 (pc' := 94) rfl ?_
      refine own_iloadN X2262 rfl at_94 (pc' := 95) rfl ?_
      refine own_iconst X2262 (v := (1 : Int32)) (by decide) at_95 (pc' := 96) rfl ?_
      obtain ⟨i2267, e2267⟩ : ∃ v, XT.ushr p3 (1 : Int32) = v := ⟨_, rfl⟩
      refine own_iushr X2262 e2267 at_96 (pc' := 97) rfl ?_
      refine own_iconst X2262 (v := (1 : Int32)) (by decide) at_97 (pc' := 98) rfl ?_
      obtain ⟨i2268, e2268⟩ : ∃ v, i2267 &&& (1 : Int32) = v := ⟨_, rfl⟩
      have f2268 : own_I 1 i2268.toInt i2268 := own_I.and e2268 (by decide)
      have nn2268 := own_and_nn (M := 1) e2268 (by decide)
      refine own_iand X2262 e2268 at_98 (pc' := 99) rfl ?_
      have J2269 : ∀ (b2269 : Int32), own_Goal p e below (own_Fin below s room_1 n0 (fun v _ => v = some (.int 1))) T2262 (mkF m 107 #[oI p0, oI p1, oI p2, oI p3, oI p4, oI 1, oI 3, oI 3, oI 1, oI 0, oI 1, oI 0, oA b2253, oA b2255, oA b2258, oA b2262, oU, oU, oU, oU, oU, oU, oU, oU, oU, oU, oU, oU, oU, oU, oU, oU, oU] [(.int b2269)]) := by
        intro b2269
        refine own_istore X2262 (Ls' := #[oI p0, oI p1, oI p2, oI p3, oI p4, oI 1, oI 3, oI 3, oI 1, oI 0, oI 1, oI 0, oA b2253, oA b2255, oA b2258, oA b2262, oI b2269, oU, oU, oU, oU, oU, oU, oU, oU, oU, oU, oU, oU, oU, oU, oU, oU]) rfl at_107 (pc' := 109) rfl ?_
        refine own_iloadN X2262 rfl at_109 (pc' := 110) rfl ?_
        refine own_iconst X2262 (v := (2 : Int32)) (by decide) at_110 (pc' := 111) rfl ?_
        obtain ⟨i2270, e2270⟩ : ∃ v, XT.ushr p3 (2 : Int32) = v := ⟨_, rfl⟩
        refine own_iushr X2262 e2270 at_111 (pc' := 112) rfl ?_
        refine own_iconst X2262 (v := (1 : Int32)) (by decide) at_112 (pc' := 113) rfl ?_
        obtain ⟨i2271, e2271⟩ : ∃ v, i2270 &&& (1 : Int32) = v := ⟨_, rfl⟩
        have f2271 : own_I 1 i2271.toInt i2271 := own_I.and e2271 (by decide)
        have nn2271 := own_and_nn (M := 1) e2271 (by decide)
        refine own_iand X2262 e2271 at_113 (pc' := 114) rfl ?_
        have J2272 : ∀ (b2272 : Int32), own_Goal p e below (own_Fin below s room_1 n0 (fun v _ => v = some (.int 1))) T2262 (mkF m 122 #[oI p0, oI p1, oI p2, oI p3, oI p4, oI 1, oI 3, oI 3, oI 1, oI 0, oI 1, oI 0, oA b2253, oA b2255, oA b2258, oA b2262, oI b2269, oU, oU, oU, oU, oU, oU, oU, oU, oU, oU, oU, oU, oU, oU, oU, oU] [(.int b2272)]) := by
          intro b2272
          refine own_istore X2262 (Ls' := #[oI p0, oI p1, oI p2, oI p3, oI p4, oI 1, oI 3, oI 3, oI 1, oI 0, oI 1, oI 0, oA b2253, oA b2255, oA b2258, oA b2262, oI b2269, oI b2272, oU, oU, oU, oU, oU, oU, oU, oU, oU, oU, oU, oU, oU, oU, oU]) rfl at_122 (pc' := 124) rfl ?_
          refine own_iloadN X2262 rfl at_124 (pc' := 125) rfl ?_
          refine own_iconst X2262 (v := (3 : Int32)) (by decide) at_125 (pc' := 126) rfl ?_
          obtain ⟨i2273, e2273⟩ : ∃ v, XT.ushr p3 (3 : Int32) = v := ⟨_, rfl⟩
          refine own_iushr X2262 e2273 at_126 (pc' := 127) rfl ?_
          refine own_iconst X2262 (v := (1 : Int32)) (by decide) at_127 (pc' := 128) rfl ?_
          obtain ⟨i2274, e2274⟩ : ∃ v, i2273 &&& (1 : Int32) = v := ⟨_, rfl⟩
          have f2274 : own_I 1 i2274.toInt i2274 := own_I.and e2274 (by decide)
          have nn2274 := own_and_nn (M := 1) e2274 (by decide)
          refine own_iand X2262 e2274 at_128 (pc' := 129) rfl ?_
          have J2275 : ∀ (b2275 : Int32), own_Goal p e below (own_Fin below s room_1 n0 (fun v _ => v = some (.int 1))) T2262 (mkF m 137 #[oI p0, oI p1, oI p2, oI p3, oI p4, oI 1, oI 3, oI 3, oI 1, oI 0, oI 1, oI 0, oA b2253, oA b2255, oA b2258, oA b2262, oI b2269, oI b2272, oU, oU, oU, oU, oU, oU, oU, oU, oU, oU, oU, oU, oU, oU, oU] [(.int b2275)]) := by
            intro b2275
            refine own_istore X2262 (Ls' := #[oI p0, oI p1, oI p2, oI p3, oI p4, oI 1, oI 3, oI 3, oI 1, oI 0, oI 1, oI 0, oA b2253, oA b2255, oA b2258, oA b2262, oI b2269, oI b2272, oI b2275, oU, oU, oU, oU, oU, oU, oU, oU, oU, oU, oU, oU, oU, oU]) rfl at_137 (pc' := 139) rfl ?_
            refine own_iconst X2262 (v := (4 : Int32)) (by decide) at_139 (pc' := 140) rfl ?_
            refine own_newarrayE X2262 (ty := .int) rfl (ad := "[I") (by decide) (ww 34 rfl) (n := 4) (vs := [(.int (0 : Int32)), (.int (0 : Int32)), (.int (0 : Int32)), (.int (0 : Int32))]) (by decide) (by decide) (by decide) rfl (cells' := 13) (slots' := 36) rfl rfl (by decide) (by decide) at_140 (pc' := 142) rfl fun a2276 T2276 h2276 g2276 ge2276 X2276 E2276 V2276 A2276 => ?_
            have ne2277 : b2253 ≠ a2276 := own_lt_ne A2264.lt g2276
            have ne2278 : b2255 ≠ a2276 := own_lt_ne A2265.lt g2276
            have ne2279 : b2258 ≠ a2276 := own_lt_ne A2266.lt g2276
            have ne2280 : b2262 ≠ a2276 := own_lt_ne A2262.lt g2276
            have A2281 := A2264.ext E2276
            have A2282 := A2265.ext E2276
            have A2283 := A2266.ext E2276
            have A2284 := A2262.ext E2276
            have S2285 := S2263.ext E2276
            refine own_astore X2276 (Ls' := #[oI p0, oI p1, oI p2, oI p3, oI p4, oI 1, oI 3, oI 3, oI 1, oI 0, oI 1, oI 0, oA b2253, oA b2255, oA b2258, oA b2262, oI b2269, oI b2272, oI b2275, oA a2276, oU, oU, oU, oU, oU, oU, oU, oU, oU, oU, oU, oU, oU]) rfl rfl at_142 (pc' := 144) rfl ?_
            refine own_aload X2276 rfl rfl at_144 (pc' := 146) rfl ?_
            refine own_iconst X2276 (v := (0 : Int32)) (by decide) at_146 (pc' := 147) rfl ?_
            refine own_iload X2276 rfl at_147 (pc' := 149) rfl ?_
            refine own_iastore X2276 V2276 ge2276 (i := 0) (by decide) (by decide) (show 0 < 4 by decide) at_149 (pc' := 150) rfl fun T2286 h2286 X2286 W2286 V2286 => ?_
            have A2287 := A2281.wr W2286
            have A2288 := A2282.wr W2286
            have A2289 := A2283.wr W2286
            have A2290 := A2284.wr W2286
            have A2291 := A2276.wr W2286
            have S2292 := S2285.wr W2286
            replace V2286 : own_Vec Z h2286 a2276 .int [(.int (1 : Int32)), (.int (0 : Int32)), (.int (0 : Int32)), (.int (0 : Int32))] := V2286
            refine own_aload X2286 rfl rfl at_150 (pc' := 152) rfl ?_
            refine own_iconst X2286 (v := (1 : Int32)) (by decide) at_152 (pc' := 153) rfl ?_
            refine own_iload X2286 rfl at_153 (pc' := 155) rfl ?_
            refine own_iastore X2286 V2286 ge2276 (i := 1) (by decide) (by decide) (show 1 < 4 by decide) at_155 (pc' := 156) rfl fun T2293 h2293 X2293 W2293 V2293 => ?_
            have A2294 := A2287.wr W2293
            have A2295 := A2288.wr W2293
            have A2296 := A2289.wr W2293
            have A2297 := A2290.wr W2293
            have A2298 := A2291.wr W2293
            have S2299 := S2292.wr W2293
            replace V2293 : own_Vec Z h2293 a2276 .int [(.int (1 : Int32)), (.int (3 : Int32)), (.int (0 : Int32)), (.int (0 : Int32))] := V2293
            refine own_aload X2293 rfl rfl at_156 (pc' := 158) rfl ?_
            refine own_iconst X2293 (v := (2 : Int32)) (by decide) at_158 (pc' := 159) rfl ?_
            refine own_iload X2293 rfl at_159 (pc' := 161) rfl ?_
            refine own_iastore X2293 V2293 ge2276 (i := 2) (by decide) (by decide) (show 2 < 4 by decide) at_161 (pc' := 162) rfl fun T2300 h2300 X2300 W2300 V2300 => ?_
            have A2301 := A2294.wr W2300
            have A2302 := A2295.wr W2300
            have A2303 := A2296.wr W2300
            have A2304 := A2297.wr W2300
            have A2305 := A2298.wr W2300
            have S2306 := S2299.wr W2300
            replace V2300 : own_Vec Z h2300 a2276 .int [(.int (1 : Int32)), (.int (3 : Int32)), (.int (3 : Int32)), (.int (0 : Int32))] := V2300
            refine own_aload X2300 rfl rfl at_162 (pc' := 164) rfl ?_
            refine own_iconst X2300 (v := (3 : Int32)) (by decide) at_164 (pc' := 165) rfl ?_
            refine own_iconst X2300 (v := (-1 : Int32)) (by decide) at_165 (pc' := 166) rfl ?_
            refine own_iastore X2300 V2300 ge2276 (i := 3) (by decide) (by decide) (show 3 < 4 by decide) at_166 (pc' := 167) rfl fun T2307 h2307 X2307 W2307 V2307 => ?_
            have A2308 := A2301.wr W2307
            have A2309 := A2302.wr W2307
            have A2310 := A2303.wr W2307
            have A2311 := A2304.wr W2307
            have A2312 := A2305.wr W2307
            have S2313 := S2306.wr W2307
            replace V2307 : own_Vec Z h2307 a2276 .int [(.int (1 : Int32)), (.int (3 : Int32)), (.int (3 : Int32)), (.int (-1 : Int32))] := V2307
            refine own_iconst X2307 (v := (4 : Int32)) (by decide) at_167 (pc' := 168) rfl ?_
            refine own_newarrayE X2307 (ty := .double) rfl (ad := "[D") (by decide) (ww 35 rfl) (n := 4) (vs := [(.double (0 : UInt64)), (.double (0 : UInt64)), (.double (0 : UInt64)), (.double (0 : UInt64))]) (by decide) (by decide) (by decide) rfl (cells' := 14) (slots' := 40) rfl rfl (by decide) (by decide) at_168 (pc' := 170) rfl fun a2314 T2314 h2314 g2314 ge2314 X2314 E2314 V2314 A2314 => ?_
            have ne2315 : b2253 ≠ a2314 := own_lt_ne A2308.lt g2314
            have ne2316 : b2255 ≠ a2314 := own_lt_ne A2309.lt g2314
            have ne2317 : b2258 ≠ a2314 := own_lt_ne A2310.lt g2314
            have ne2318 : b2262 ≠ a2314 := own_lt_ne A2311.lt g2314
            have ne2319 : a2276 ≠ a2314 := own_lt_ne V2307.lt g2314
            have A2320 := A2308.ext E2314
            have A2321 := A2309.ext E2314
            have A2322 := A2310.ext E2314
            have A2323 := A2311.ext E2314
            have V2324 := V2307.ext E2314
            have A2325 := A2312.ext E2314
            have S2326 := S2313.ext E2314
            refine own_astore X2314 (Ls' := #[oI p0, oI p1, oI p2, oI p3, oI p4, oI 1, oI 3, oI 3, oI 1, oI 0, oI 1, oI 0, oA b2253, oA b2255, oA b2258, oA b2262, oI b2269, oI b2272, oI b2275, oA a2276, oA a2314, oU, oU, oU, oU, oU, oU, oU, oU, oU, oU, oU, oU]) rfl rfl at_170 (pc' := 172) rfl ?_
            refine own_aload X2314 rfl rfl at_172 (pc' := 174) rfl ?_
            refine own_iconst X2314 (v := (0 : Int32)) (by decide) at_174 (pc' := 175) rfl ?_
            refine own_iload X2314 rfl at_175 (pc' := 177) rfl ?_
            refine own_bipush X2314 (v := (7 : Int32)) (by decide) at_177 (pc' := 179) rfl ?_
            obtain ⟨i2327, e2327⟩ : ∃ v, p4 &&& (7 : Int32) = v := ⟨_, rfl⟩
            have f2327 : own_I 7 i2327.toInt i2327 := own_I.and e2327 (by decide)
            have nn2327 := own_and_nn (M := 7) e2327 (by decide)
            refine own_iand X2314 e2327 at_179 (pc' := 180) rfl ?_
            obtain ⟨d2328, e2328⟩ : ∃ v, FP.i2d i2327 = v := ⟨_, rfl⟩
            have f2328 : own_D 0 7 i2327.toInt d2328 := own_D.i2d f2327 e2328
            refine own_i2d X2314 e2328 at_180 (pc' := 181) rfl ?_
            refine own_dastore X2314 V2314 ge2314 (i := 0) (by decide) (by decide) (show 0 < 4 by decide) at_181 (pc' := 182) rfl fun T2329 h2329 X2329 W2329 V2329 => ?_
            have A2330 := A2320.wr W2329
            have A2331 := A2321.wr W2329
            have A2332 := A2322.wr W2329
            have A2333 := A2323.wr W2329
            have A2334 := A2325.wr W2329
            have V2335 := V2324.other W2329 ne2319
            have A2336 := A2314.wr W2329
            have S2337 := S2326.wr W2329
            replace V2329 : own_Vec Z h2329 a2314 .double [(.double d2328), (.double (0 : UInt64)), (.double (0 : UInt64)), (.double (0 : UInt64))] := V2329
            refine own_aload X2329 rfl rfl at_182 (pc' := 184) rfl ?_
            refine own_iconst X2329 (v := (1 : Int32)) (by decide) at_184 (pc' := 185) rfl ?_
            refine own_iload X2329 rfl at_185 (pc' := 187) rfl ?_
            refine own_iconst X2329 (v := (3 : Int32)) (by decide) at_187 (pc' := 188) rfl ?_
            obtain ⟨i2338, e2338⟩ : ∃ v, XT.ushr p4 (3 : Int32) = v := ⟨_, rfl⟩
            refine own_iushr X2329 e2338 at_188 (pc' := 189) rfl ?_
            refine own_bipush X2329 (v := (7 : Int32)) (by decide) at_189 (pc' := 191) rfl ?_
            obtain ⟨i2339, e2339⟩ : ∃ v, i2338 &&& (7 : Int32) = v := ⟨_, rfl⟩
            have f2339 : own_I 7 i2339.toInt i2339 := own_I.and e2339 (by decide)
            have nn2339 := own_and_nn (M := 7) e2339 (by decide)
            refine own_iand X2329 e2339 at_191 (pc' := 192) rfl ?_
            obtain ⟨d2340, e2340⟩ : ∃ v, FP.i2d i2339 = v := ⟨_, rfl⟩
            have f2340 : own_D 0 7 i2339.toInt d2340 := own_D.i2d f2339 e2340
            refine own_i2d X2329 e2340 at_192 (pc' := 193) rfl ?_
            refine own_dastore X2329 V2329 ge2314 (i := 1) (by decide) (by decide) (show 1 < 4 by decide) at_193 (pc' := 194) rfl fun T2341 h2341 X2341 W2341 V2341 => ?_
            have A2342 := A2330.wr W2341
            have A2343 := A2331.wr W2341
            have A2344 := A2332.wr W2341
            have A2345 := A2333.wr W2341
            have A2346 := A2334.wr W2341
            have V2347 := V2335.other W2341 ne2319
            have A2348 := A2336.wr W2341
            have S2349 := S2337.wr W2341
            replace V2341 : own_Vec Z h2341 a2314 .double [(.double d2328), (.double d2340), (.double (0 : UInt64)), (.double (0 : UInt64))] := V2341
            refine own_aload X2341 rfl rfl at_194 (pc' := 196) rfl ?_
            refine own_iconst X2341 (v := (2 : Int32)) (by decide) at_196 (pc' := 197) rfl ?_
            refine own_iload X2341 rfl at_197 (pc' := 199) rfl ?_
            refine own_bipush X2341 (v := (6 : Int32)) (by decide) at_199 (pc' := 201) rfl ?_
            obtain ⟨i2350, e2350⟩ : ∃ v, XT.ushr p4 (6 : Int32) = v := ⟨_, rfl⟩
            refine own_iushr X2341 e2350 at_201 (pc' := 202) rfl ?_
            refine own_bipush X2341 (v := (7 : Int32)) (by decide) at_202 (pc' := 204) rfl ?_
            obtain ⟨i2351, e2351⟩ : ∃ v, i2350 &&& (7 : Int32) = v := ⟨_, rfl⟩
            have f2351 : own_I 7 i2351.toInt i2351 := own_I.and e2351 (by decide)
            have nn2351 := own_and_nn (M := 7) e2351 (by decide)
            refine own_iand X2341 e2351 at_204 (pc' := 205) rfl ?_
            obtain ⟨d2352, e2352⟩ : ∃ v, FP.i2d i2351 = v := ⟨_, rfl⟩
            have f2352 : own_D 0 7 i2351.toInt d2352 := own_D.i2d f2351 e2352
            refine own_i2d X2341 e2352 at_205 (pc' := 206) rfl ?_
            refine own_dastore X2341 V2341 ge2314 (i := 2) (by decide) (by decide) (show 2 < 4 by decide) at_206 (pc' := 207) rfl fun T2353 h2353 X2353 W2353 V2353 => ?_
            have A2354 := A2342.wr W2353
            have A2355 := A2343.wr W2353
            have A2356 := A2344.wr W2353
            have A2357 := A2345.wr W2353
            have A2358 := A2346.wr W2353
            have V2359 := V2347.other W2353 ne2319
            have A2360 := A2348.wr W2353
            have S2361 := S2349.wr W2353
            replace V2353 : own_Vec Z h2353 a2314 .double [(.double d2328), (.double d2340), (.double d2352), (.double (0 : UInt64))] := V2353
            refine own_aload X2353 rfl rfl at_207 (pc' := 209) rfl ?_
            refine own_iconst X2353 (v := (3 : Int32)) (by decide) at_209 (pc' := 210) rfl ?_
            refine own_dconst0 X2353 (v := (0 : UInt64)) rfl at_210 (pc' := 211) rfl ?_
            refine own_dastore X2353 V2353 ge2314 (i := 3) (by decide) (by decide) (show 3 < 4 by decide) at_211 (pc' := 212) rfl fun T2362 h2362 X2362 W2362 V2362 => ?_
            have A2363 := A2354.wr W2362
            have A2364 := A2355.wr W2362
            have A2365 := A2356.wr W2362
            have A2366 := A2357.wr W2362
            have A2367 := A2358.wr W2362
            have V2368 := V2359.other W2362 ne2319
            have A2369 := A2360.wr W2362
            have S2370 := S2361.wr W2362
            replace V2362 : own_Vec Z h2362 a2314 .double [(.double d2328), (.double d2340), (.double d2352), (.double (0 : UInt64))] := V2362
            refine own_iconst X2362 (v := (4 : Int32)) (by decide) at_212 (pc' := 213) rfl ?_
            refine own_anewarray X2362 (ww 5 rfl) (ww 36 rfl) (ad := "[Ljava/lang/String;") (by decide) (n := 4) (vs := [.null, .null, .null, .null]) (by decide) (by decide) (by decide) rfl (cells' := 15) (slots' := 44) rfl rfl (by decide) (by decide) at_213 (pc' := 216) rfl fun a2371 T2371 h2371 g2371 ge2371 X2371 E2371 V2371 A2371 O2371 => ?_
            have ne2372 : b2253 ≠ a2371 := own_lt_ne A2363.lt g2371
            have ne2373 : b2255 ≠ a2371 := own_lt_ne A2364.lt g2371
            have ne2374 : b2258 ≠ a2371 := own_lt_ne A2365.lt g2371
            have ne2375 : b2262 ≠ a2371 := own_lt_ne A2366.lt g2371
            have ne2376 : a2276 ≠ a2371 := own_lt_ne V2368.lt g2371
            have ne2377 : a2314 ≠ a2371 := own_lt_ne V2362.lt g2371
            have A2378 := A2363.ext E2371
            have A2379 := A2364.ext E2371
            have A2380 := A2365.ext E2371
            have A2381 := A2366.ext E2371
            have V2382 := V2368.ext E2371
            have A2383 := A2367.ext E2371
            have V2384 := V2362.ext E2371
            have A2385 := A2369.ext E2371
            have S2386 := S2370.ext E2371
            refine own_astore X2371 (Ls' := #[oI p0, oI p1, oI p2, oI p3, oI p4, oI 1, oI 3, oI 3, oI 1, oI 0, oI 1, oI 0, oA b2253, oA b2255, oA b2258, oA b2262, oI b2269, oI b2272, oI b2275, oA a2276, oA a2314, oA a2371, oU, oU, oU, oU, oU, oU, oU, oU, oU, oU, oU]) rfl rfl at_216 (pc' := 218) rfl ?_
            refine own_aload X2371 rfl rfl at_218 (pc' := 220) rfl ?_
            refine own_iconst X2371 (v := (0 : Int32)) (by decide) at_220 (pc' := 221) rfl ?_
            refine own_aload X2371 rfl rfl at_221 (pc' := 223) rfl ?_
            refine own_aastore X2371 V2371 O2371 ge2371 (Or.inr ⟨_, rfl, A2378⟩) (i := 0) (by decide) (by decide) (show 0 < 4 by decide) at_223 (pc' := 224) rfl fun T2387 h2387 X2387 W2387 V2387 => ?_
            have A2388 := A2378.wr W2387
            have A2389 := A2379.wr W2387
            have A2390 := A2380.wr W2387
            have A2391 := A2381.wr W2387
            have A2392 := A2383.wr W2387
            have V2393 := V2382.other W2387 ne2376
            have A2394 := A2385.wr W2387
            have V2395 := V2384.other W2387 ne2377
            have A2396 := A2371.wr W2387
            have O2397 := O2371.wr W2387
            have S2398 := S2386.wr W2387
            replace V2387 : own_Vec Z h2387 a2371 (.object "java/lang/String") [(.ref b2253), .null, .null, .null] := V2387
            refine own_aload X2387 rfl rfl at_224 (pc' := 226) rfl ?_
            refine own_iconst X2387 (v := (1 : Int32)) (by decide) at_226 (pc' := 227) rfl ?_
            refine own_iload X2387 rfl at_227 (pc' := 229) rfl ?_
            refine own_ifF X2387 (by decide) at_229 (pc' := 232) rfl ?_
            refine own_iload X2387 rfl at_232 (pc' := 234) rfl ?_
            have J2399 : ∀ (b2399 : Value) (hb2399 : b2399 = .null ∨ b2399 = .ref b2255), own_Goal p e below (own_Fin below s room_1 n0 (fun v _ => v = some (.int 1))) T2387 (mkF m 243 #[oI p0, oI p1, oI p2, oI p3, oI p4, oI 1, oI 3, oI 3, oI 1, oI 0, oI 1, oI 0, oA b2253, oA b2255, oA b2258, oA b2262, oI b2269, oI b2272, oI b2275, oA a2276, oA a2314, oA a2371, oU, oU, oU, oU, oU, oU, oU, oU, oU, oU, oU] [b2399, (.int (1 : Int32)), (.ref a2371)]) := by
              intro b2399 hb2399
              have fb2399 : fits (.object "java/lang/String") b2399 = true := by rcases hb2399 with q | q <;> rw [q] <;> rfl
              refine own_aastore X2387 V2387 O2397 ge2371 (hb2399.elim Or.inl fun q => Or.inr ⟨_, q, A2389⟩) (i := 1) (by decide) (by decide) (show 1 < 4 by decide) at_243 (pc' := 244) rfl fun T2400 h2400 X2400 W2400 V2400 => ?_
              have A2401 := A2388.wr W2400
              have A2402 := A2389.wr W2400
              have A2403 := A2390.wr W2400
              have A2404 := A2391.wr W2400
              have A2405 := A2392.wr W2400
              have V2406 := V2393.other W2400 ne2376
              have A2407 := A2394.wr W2400
              have V2408 := V2395.other W2400 ne2377
              have A2409 := A2396.wr W2400
              have O2410 := O2397.wr W2400
              have S2411 := S2398.wr W2400
              replace V2400 : own_Vec Z h2400 a2371 (.object "java/lang/String") [(.ref b2253), b2399, .null, .null] := V2400
              refine own_aload X2400 rfl rfl at_244 (pc' := 246) rfl ?_
              refine own_iconst X2400 (v := (2 : Int32)) (by decide) at_246 (pc' := 247) rfl ?_
              refine own_iload X2400 rfl at_247 (pc' := 249) rfl ?_
              refine own_ifT X2400 (by decide) at_249 (pc' := 257) (by decide) (by decide) ?_
              refine own_aload X2400 rfl rfl at_257 (pc' := 259) rfl ?_
              refine own_goto X2400 at_259 (pc' := 263) (by decide) (by decide) ?_
              refine own_aastore X2400 V2400 O2410 ge2371 (Or.inr ⟨_, rfl, A2403⟩) (i := 2) (by decide) (by decide) (show 2 < 4 by decide) at_263 (pc' := 264) rfl fun T2412 h2412 X2412 W2412 V2412 => ?_
              have A2413 := A2401.wr W2412
              have A2414 := A2402.wr W2412
              have A2415 := A2403.wr W2412
              have A2416 := A2404.wr W2412
              have A2417 := A2405.wr W2412
              have V2418 := V2406.other W2412 ne2376
              have A2419 := A2407.wr W2412
              have V2420 := V2408.other W2412 ne2377
              have A2421 := A2409.wr W2412
              have O2422 := O2410.wr W2412
              have S2423 := S2411.wr W2412
              replace V2412 : own_Vec Z h2412 a2371 (.object "java/lang/String") [(.ref b2253), b2399, (.ref b2258), .null] := V2412
              refine own_aload X2412 rfl rfl at_264 (pc' := 266) rfl ?_
              refine own_iconst X2412 (v := (3 : Int32)) (by decide) at_266 (pc' := 267) rfl ?_
              refine own_iload X2412 rfl at_267 (pc' := 269) rfl ?_
              have J2424 : ∀ (b2424 : Value) (hb2424 : b2424 = .null ∨ b2424 = .ref b2262), own_Goal p e below (own_Fin below s room_1 n0 (fun v _ => v = some (.int 1))) T2412 (mkF m 278 #[oI p0, oI p1, oI p2, oI p3, oI p4, oI 1, oI 3, oI 3, oI 1, oI 0, oI 1, oI 0, oA b2253, oA b2255, oA b2258, oA b2262, oI b2269, oI b2272, oI b2275, oA a2276, oA a2314, oA a2371, oU, oU, oU, oU, oU, oU, oU, oU, oU, oU, oU] [b2424, (.int (3 : Int32)), (.ref a2371)]) := by
                intro b2424 hb2424
                have fb2424 : fits (.object "java/lang/String") b2424 = true := by rcases hb2424 with q | q <;> rw [q] <;> rfl
                refine own_aastore X2412 V2412 O2422 ge2371 (hb2424.elim Or.inl fun q => Or.inr ⟨_, q, A2416⟩) (i := 3) (by decide) (by decide) (show 3 < 4 by decide) at_278 (pc' := 279) rfl fun T2425 h2425 X2425 W2425 V2425 => ?_
                have A2426 := A2413.wr W2425
                have A2427 := A2414.wr W2425
                have A2428 := A2415.wr W2425
                have A2429 := A2416.wr W2425
                have A2430 := A2417.wr W2425
                have V2431 := V2418.other W2425 ne2376
                have A2432 := A2419.wr W2425
                have V2433 := V2420.other W2425 ne2377
                have A2434 := A2421.wr W2425
                have O2435 := O2422.wr W2425
                have S2436 := S2423.wr W2425
                replace V2425 : own_Vec Z h2425 a2371 (.object "java/lang/String") [(.ref b2253), b2399, (.ref b2258), b2424] := V2425
                refine own_aload X2425 rfl rfl at_279 (pc' := 281) rfl ?_
                refine own_astore X2425 (Ls' := #[oI p0, oI p1, oI p2, oI p3, oI p4, oI 1, oI 3, oI 3, oI 1, oI 0, oI 1, oI 0, oA b2253, oA b2255, oA b2258, oA b2262, oI b2269, oI b2272, oI b2275, oA a2276, oA a2314, oA a2371, oA b2253, oU, oU, oU, oU, oU, oU, oU, oU, oU, oU]) rfl rfl at_281 (pc' := 283) rfl ?_
                refine own_iload X2425 rfl at_283 (pc' := 285) rfl ?_
                refine own_ifT X2425 (by decide) at_285 (pc' := 293) (by decide) (by decide) ?_
                refine own_aconst_null X2425  at_293 (pc' := 294) rfl ?_
                refine own_astore X2425 (Ls' := #[oI p0, oI p1, oI p2, oI p3, oI p4, oI 1, oI 3, oI 3, oI 1, oI 0, oI 1, oI 0, oA b2253, oA b2255, oA b2258, oA b2262, oI b2269, oI b2272, oI b2275, oA a2276, oA a2314, oA a2371, oA b2253, .val .null, oU, oU, oU, oU, oU, oU, oU, oU, oU]) rfl rfl at_294 (pc' := 296) rfl ?_
                refine own_iload X2425 rfl at_296 (pc' := 298) rfl ?_
                refine own_ifF X2425 (by decide) at_298 (pc' := 301) rfl ?_
                refine own_aload X2425 rfl rfl at_301 (pc' := 303) rfl ?_
                refine own_goto X2425 at_303 (pc' := 307) (by decide) (by decide) ?_
                refine own_astore X2425 (Ls' := #[oI p0, oI p1, oI p2, oI p3, oI p4, oI 1, oI 3, oI 3, oI 1, oI 0, oI 1, oI 0, oA b2253, oA b2255, oA b2258, oA b2262, oI b2269, oI b2272, oI b2275, oA a2276, oA a2314, oA a2371, oA b2253, .val .null, oA b2258, oU, oU, oU, oU, oU, oU, oU, oU]) rfl rfl at_307 (pc' := 309) rfl ?_
                refine own_iload X2425 rfl at_309 (pc' := 311) rfl ?_
                refine own_ifT X2425 (by decide) at_311 (pc' := 319) (by decide) (by decide) ?_
                refine own_aconst_null X2425  at_319 (pc' := 320) rfl ?_
                refine own_astore X2425 (Ls' := #[oI p0, oI p1, oI p2, oI p3, oI p4, oI 1, oI 3, oI 3, oI 1, oI 0, oI 1, oI 0, oA b2253, oA b2255, oA b2258, oA b2262, oI b2269, oI b2272, oI b2275, oA a2276, oA a2314, oA a2371, oA b2253, .val .null, oA b2258, .val .null, oU, oU, oU, oU, oU, oU, oU]) rfl rfl at_320 (pc' := 322) rfl ?_
                refine own_new X2425 (ww 37 rfl) (ww 38 rfl) (ww 39 rfl) (cells' := 16) (slots' := 49) rfl rfl (by decide) (by decide) at_322 (pc' := 325) rfl fun a2437 T2437 h2437 g2437 ge2437 X2437 E2437 A2437 D2437 => ?_
                have ne2438 : b2253 ≠ a2437 := own_lt_ne A2426.lt g2437
                have ne2439 : b2255 ≠ a2437 := own_lt_ne A2427.lt g2437
                have ne2440 : b2258 ≠ a2437 := own_lt_ne A2428.lt g2437
                have ne2441 : b2262 ≠ a2437 := own_lt_ne A2429.lt g2437
                have ne2442 : a2276 ≠ a2437 := own_lt_ne V2431.lt g2437
                have ne2443 : a2314 ≠ a2437 := own_lt_ne V2433.lt g2437
                have ne2444 : a2371 ≠ a2437 := own_lt_ne V2425.lt g2437
                have A2445 := A2426.ext E2437
                have A2446 := A2427.ext E2437
                have A2447 := A2428.ext E2437
                have A2448 := A2429.ext E2437
                have V2449 := V2431.ext E2437
                have A2450 := A2430.ext E2437
                have V2451 := V2433.ext E2437
                have A2452 := A2432.ext E2437
                have V2453 := V2425.ext E2437
                have A2454 := A2434.ext E2437
                have O2455 := O2435.ext E2437
                have S2456 := S2436.ext E2437
                have F2457 : Fld Z h2437 a2437 "com/example/cladewalk/cladewalk/tree/Tree" "parents" "[I" .null := D2437 (Or.inr (ww 54 rfl)) (ty := (.array .int)) (by decide)
                have F2458 : Fld Z h2437 a2437 "com/example/cladewalk/cladewalk/tree/Tree" "lengths" "[D" .null := D2437 (Or.inr (ww 62 rfl)) (ty := (.array .double)) (by decide)
                have F2459 : Fld Z h2437 a2437 "com/example/cladewalk/cladewalk/tree/Tree" "names" "[Ljava/lang/String;" .null := D2437 (Or.inr (ww 70 rfl)) (ty := (.array (.object "java/lang/String"))) (by decide)
                have F2460 : Fld Z h2437 a2437 "com/example/cladewalk/cladewalk/tree/Tree" "childCounts" "[I" .null := D2437 (Or.inr (ww 72 rfl)) (ty := (.array .int)) (by decide)
                have F2461 : Fld Z h2437 a2437 "com/example/cladewalk/cladewalk/tree/Tree" "tipCount" "I" (.int (0 : Int32)) := D2437 (Or.inr (ww 75 rfl)) (ty := .int) (by decide)
                refine own_dup X2437 rfl at_325 (pc' := 326) rfl ?_
                refine own_aload X2437 rfl rfl at_326 (pc' := 328) rfl ?_
                refine own_aload X2437 rfl rfl at_328 (pc' := 330) rfl ?_
                refine own_aload X2437 rfl rfl at_330 (pc' := 332) rfl ?_
                refine own_special X2437 (own_ti_13 l Z a0 hw a2437 a2276 a2314 a2371 d2328 i2327.toInt d2340 i2339.toInt d2352 i2351.toInt b2253 b2399 b2258 b2424 _ n0 X2437.le ge2437 A2437 F2457 F2458 F2459 F2460 F2461 V2449 V2451 V2453 A2450 A2452 A2454 ne2442.symm ne2443.symm ne2444.symm f2328 (by omega) f2340 (by omega) f2352 (by omega) fb2399 fb2424) rfl rfl (ww 40 rfl) (ww 41 rfl) (ww 39 rfl) (ww 42 rfl) (by decide) rfl (by decide) (W := 1) (Nat.le_of_eq rfl) (by decide) (cells' := 20) (slots' := 65) rfl rfl (by decide) (by decide) (argsL := [(.ref a2276), (.ref a2314), (.ref a2371)]) (rest := [(.ref a2437)]) (lenOf own_pd13 rfl) rfl rfl at_332 (pc' := 335) rfl ?_
                rintro _ T2462 h2462 X2462 ⟨rfl, ⟨x2462, y2462, F2462a, F2462b, V2462a, V2462b⟩, K2462⟩
                have S2463 := own_Sta.keep1 S2456 K2462 A2437
                have A2464 := A2445.keep K2462
                have A2465 := A2446.keep K2462
                have A2466 := A2447.keep K2462
                have A2467 := A2448.keep K2462
                have A2468 := A2437.keep K2462
                show own_Goal p e below _ T2462 (mkF m 335 #[oI p0, oI p1, oI p2, oI p3, oI p4, oI 1, oI 3, oI 3, oI 1, oI 0, oI 1, oI 0, oA b2253, oA b2255, oA b2258, oA b2262, oI b2269, oI b2272, oI b2275, oA a2276, oA a2314, oA a2371, oA b2253, .val .null, oA b2258, .val .null, oU, oU, oU, oU, oU, oU, oU] [(.ref a2437)])
                refine own_astore X2462 (Ls' := #[oI p0, oI p1, oI p2, oI p3, oI p4, oI 1, oI 3, oI 3, oI 1, oI 0, oI 1, oI 0, oA b2253, oA b2255, oA b2258, oA b2262, oI b2269, oI b2272, oI b2275, oA a2276, oA a2314, oA a2371, oA b2253, .val .null, oA b2258, .val .null, oA a2437, oU, oU, oU, oU, oU, oU]) rfl rfl at_335 (pc' := 337) rfl ?_
                refine own_aload X2462 rfl rfl at_337 (pc' := 339) rfl ?_
                refine own_iconst X2462 (v := (0 : Int32)) (by decide) at_339 (pc' := 340) rfl ?_
                refine own_virtual X2462 (own_name_4_0_1 l Z a0 hw a2437 x2462 y2462 b2253 (0 : Int32) (1 : Int32) (0 : Int32) (2 : Int32) b2399 (.ref b2258) b2424 _ n0 X2462.le F2462a F2462b V2462a V2462b (by decide)) (C := "com/example/cladewalk/cladewalk/tree/Tree") rfl (ww 76 rfl) (ww 77 rfl) (ww 79 rfl) (ww 78 rfl) (ww 39 rfl) (ww 80 rfl) (by decide) rfl (by decide) (W := 0) (Nat.le_of_eq rfl) (by decide) (cells' := 20) (slots' := 65) rfl rfl (by decide) (by decide) A2468 (argsL := [(.int (0 : Int32))]) (rest := []) (lenOf own_pd12 rfl) rfl rfl at_340 (pc' := 343) rfl ?_
                rintro _ T2469 h2469 X2469 ⟨rfl, e2469⟩
                subst e2469
                show own_Goal p e below _ T2469 (mkF m 343 #[oI p0, oI p1, oI p2, oI p3, oI p4, oI 1, oI 3, oI 3, oI 1, oI 0, oI 1, oI 0, oA b2253, oA b2255, oA b2258, oA b2262, oI b2269, oI b2272, oI b2275, oA a2276, oA a2314, oA a2371, oA b2253, .val .null, oA b2258, .val .null, oA a2437, oU, oU, oU, oU, oU, oU] [(.ref b2253)])
                refine own_aload X2469 rfl rfl at_343 (pc' := 345) rfl ?_
                refine own_callS X2469 (own_sameA l Z a0 hw b2253 _ n0 X2469.le A2464) (ww 81 rfl) (ww 82 rfl) (ww 2 rfl) (ww 83 rfl) (by decide) rfl (by decide) (W := 0) (Nat.le_of_eq rfl) (by decide) (cells' := 20) (slots' := 65) rfl rfl (by decide) (by decide) (argsL := [(.ref b2253), (.ref b2253)]) (rest := []) (lenOf own_pd11 rfl) rfl rfl at_345 (pc' := 348) rfl ?_
                rintro _ T2470 h2470 X2470 ⟨rfl, e2470⟩
                subst e2470
                show own_Goal p e below _ T2470 (mkF m 348 #[oI p0, oI p1, oI p2, oI p3, oI p4, oI 1, oI 3, oI 3, oI 1, oI 0, oI 1, oI 0, oA b2253, oA b2255, oA b2258, oA b2262, oI b2269, oI b2272, oI b2275, oA a2276, oA a2314, oA a2371, oA b2253, .val .null, oA b2258, .val .null, oA a2437, oU, oU, oU, oU, oU, oU] [(.int (1 : Int32))])
                refine own_ifF X2470 (by decide) at_348 (pc' := 351) rfl ?_
                refine own_aload X2470 rfl rfl at_351 (pc' := 353) rfl ?_
                refine own_iconst X2470 (v := (1 : Int32)) (by decide) at_353 (pc' := 354) rfl ?_
                refine own_virtual X2470 (own_name_4_1_0 l Z a0 hw a2437 x2462 y2462 (0 : Int32) (1 : Int32) (0 : Int32) (2 : Int32) (.ref b2253) b2399 (.ref b2258) b2424 _ n0 X2470.le F2462a F2462b V2462a V2462b (by decide)) (C := "com/example/cladewalk/cladewalk/tree/Tree") rfl (ww 76 rfl) (ww 77 rfl) (ww 79 rfl) (ww 78 rfl) (ww 39 rfl) (ww 80 rfl) (by decide) rfl (by decide) (W := 0) (Nat.le_of_eq rfl) (by decide) (cells' := 20) (slots' := 65) rfl rfl (by decide) (by decide) A2468 (argsL := [(.int (1 : Int32))]) (rest := []) (lenOf own_pd12 rfl) rfl rfl at_354 (pc' := 357) rfl ?_
                rintro _ T2471 h2471 X2471 ⟨rfl, e2471⟩
                subst e2471
                show own_Goal p e below _ T2471 (mkF m 357 #[oI p0, oI p1, oI p2, oI p3, oI p4, oI 1, oI 3, oI 3, oI 1, oI 0, oI 1, oI 0, oA b2253, oA b2255, oA b2258, oA b2262, oI b2269, oI b2272, oI b2275, oA a2276, oA a2314, oA a2371, oA b2253, .val .null, oA b2258, .val .null, oA a2437, oU, oU, oU, oU, oU, oU] [.null])
                refine own_aload X2471 rfl rfl at_357 (pc' := 359) rfl ?_
                refine own_callS X2471 (own_sameN l Z a0 hw _ n0 X2471.le) (ww 81 rfl) (ww 82 rfl) (ww 2 rfl) (ww 83 rfl) (by decide) rfl (by decide) (W := 0) (Nat.le_of_eq rfl) (by decide) (cells' := 20) (slots' := 65) rfl rfl (by decide) (by decide) (argsL := [.null, .null]) (rest := []) (lenOf own_pd11 rfl) rfl rfl at_359 (pc' := 362) rfl ?_
                rintro _ T2472 h2472 X2472 ⟨rfl, e2472⟩
                subst e2472
                show own_Goal p e below _ T2472 (mkF m 362 #[oI p0, oI p1, oI p2, oI p3, oI p4, oI 1, oI 3, oI 3, oI 1, oI 0, oI 1, oI 0, oA b2253, oA b2255, oA b2258, oA b2262, oI b2269, oI b2272, oI b2275, oA a2276, oA a2314, oA a2371, oA b2253, .val .null, oA b2258, .val .null, oA a2437, oU, oU, oU, oU, oU, oU] [(.int (1 : Int32))])
                refine own_ifF X2472 (by decide) at_362 (pc' := 365) rfl ?_
                refine own_aload X2472 rfl rfl at_365 (pc' := 367) rfl ?_
                refine own_iconst X2472 (v := (2 : Int32)) (by decide) at_367 (pc' := 368) rfl ?_
                refine own_virtual X2472 (own_name_4_2_1 l Z a0 hw a2437 x2462 y2462 b2258 (0 : Int32) (1 : Int32) (0 : Int32) (2 : Int32) (.ref b2253) b2399 b2424 _ n0 X2472.le F2462a F2462b V2462a V2462b (by decide)) (C := "com/example/cladewalk/cladewalk/tree/Tree") rfl (ww 76 rfl) (ww 77 rfl) (ww 79 rfl) (ww 78 rfl) (ww 39 rfl) (ww 80 rfl) (by decide) rfl (by decide) (W := 0) (Nat.le_of_eq rfl) (by decide) (cells' := 20) (slots' := 65) rfl rfl (by decide) (by decide) A2468 (argsL := [(.int (2 : Int32))]) (rest := []) (lenOf own_pd12 rfl) rfl rfl at_368 (pc' := 371) rfl ?_
                rintro _ T2473 h2473 X2473 ⟨rfl, e2473⟩
                subst e2473
                show own_Goal p e below _ T2473 (mkF m 371 #[oI p0, oI p1, oI p2, oI p3, oI p4, oI 1, oI 3, oI 3, oI 1, oI 0, oI 1, oI 0, oA b2253, oA b2255, oA b2258, oA b2262, oI b2269, oI b2272, oI b2275, oA a2276, oA a2314, oA a2371, oA b2253, .val .null, oA b2258, .val .null, oA a2437, oU, oU, oU, oU, oU, oU] [(.ref b2258)])
                refine own_aload X2473 rfl rfl at_371 (pc' := 373) rfl ?_
                refine own_callS X2473 (own_sameA l Z a0 hw b2258 _ n0 X2473.le A2466) (ww 81 rfl) (ww 82 rfl) (ww 2 rfl) (ww 83 rfl) (by decide) rfl (by decide) (W := 0) (Nat.le_of_eq rfl) (by decide) (cells' := 20) (slots' := 65) rfl rfl (by decide) (by decide) (argsL := [(.ref b2258), (.ref b2258)]) (rest := []) (lenOf own_pd11 rfl) rfl rfl at_373 (pc' := 376) rfl ?_
                rintro _ T2474 h2474 X2474 ⟨rfl, e2474⟩
                subst e2474
                show own_Goal p e below _ T2474 (mkF m 376 #[oI p0, oI p1, oI p2, oI p3, oI p4, oI 1, oI 3, oI 3, oI 1, oI 0, oI 1, oI 0, oA b2253, oA b2255, oA b2258, oA b2262, oI b2269, oI b2272, oI b2275, oA a2276, oA a2314, oA a2371, oA b2253, .val .null, oA b2258, .val .null, oA a2437, oU, oU, oU, oU, oU, oU] [(.int (1 : Int32))])
                refine own_ifF X2474 (by decide) at_376 (pc' := 379) rfl ?_
                refine own_aload X2474 rfl rfl at_379 (pc' := 381) rfl ?_
                refine own_iconst X2474 (v := (3 : Int32)) (by decide) at_381 (pc' := 382) rfl ?_
                refine own_virtual X2474 (own_name_4_3_0 l Z a0 hw a2437 x2462 y2462 (0 : Int32) (1 : Int32) (0 : Int32) (2 : Int32) (.ref b2253) b2399 (.ref b2258) b2424 _ n0 X2474.le F2462a F2462b V2462a V2462b (by decide)) (C := "com/example/cladewalk/cladewalk/tree/Tree") rfl (ww 76 rfl) (ww 77 rfl) (ww 79 rfl) (ww 78 rfl) (ww 39 rfl) (ww 80 rfl) (by decide) rfl (by decide) (W := 0) (Nat.le_of_eq rfl) (by decide) (cells' := 20) (slots' := 65) rfl rfl (by decide) (by decide) A2468 (argsL := [(.int (3 : Int32))]) (rest := []) (lenOf own_pd12 rfl) rfl rfl at_382 (pc' := 385) rfl ?_
                rintro _ T2475 h2475 X2475 ⟨rfl, e2475⟩
                subst e2475
                show own_Goal p e below _ T2475 (mkF m 385 #[oI p0, oI p1, oI p2, oI p3, oI p4, oI 1, oI 3, oI 3, oI 1, oI 0, oI 1, oI 0, oA b2253, oA b2255, oA b2258, oA b2262, oI b2269, oI b2272, oI b2275, oA a2276, oA a2314, oA a2371, oA b2253, .val .null, oA b2258, .val .null, oA a2437, oU, oU, oU, oU, oU, oU] [.null])
                refine own_aload X2475 rfl rfl at_385 (pc' := 387) rfl ?_
                refine own_callS X2475 (own_sameN l Z a0 hw _ n0 X2475.le) (ww 81 rfl) (ww 82 rfl) (ww 2 rfl) (ww 83 rfl) (by decide) rfl (by decide) (W := 0) (Nat.le_of_eq rfl) (by decide) (cells' := 20) (slots' := 65) rfl rfl (by decide) (by decide) (argsL := [.null, .null]) (rest := []) (lenOf own_pd11 rfl) rfl rfl at_387 (pc' := 390) rfl ?_
                rintro _ T2476 h2476 X2476 ⟨rfl, e2476⟩
                subst e2476
                show own_Goal p e below _ T2476 (mkF m 390 #[oI p0, oI p1, oI p2, oI p3, oI p4, oI 1, oI 3, oI 3, oI 1, oI 0, oI 1, oI 0, oA b2253, oA b2255, oA b2258, oA b2262, oI b2269, oI b2272, oI b2275, oA a2276, oA a2314, oA a2371, oA b2253, .val .null, oA b2258, .val .null, oA a2437, oU, oU, oU, oU, oU, oU] [(.int (1 : Int32))])
                refine own_ifF X2476 (by decide) at_390 (pc' := 393) rfl ?_
                refine own_iconst X2476 (v := (1 : Int32)) (by decide) at_393 (pc' := 394) rfl ?_
                refine own_goto X2476 at_394 (pc' := 398) (by decide) (by decide) ?_
                refine own_istore X2476 (Ls' := #[oI p0, oI p1, oI p2, oI p3, oI p4, oI 1, oI 3, oI 3, oI 1, oI 0, oI 1, oI 0, oA b2253, oA b2255, oA b2258, oA b2262, oI b2269, oI b2272, oI b2275, oA a2276, oA a2314, oA a2371, oA b2253, .val .null, oA b2258, .val .null, oA a2437, oI 1, oU, oU, oU, oU, oU]) rfl at_398 (pc' := 400) rfl ?_
                refine own_iconst X2476 (v := (1 : Int32)) (by decide) at_400 (pc' := 401) rfl ?_
                refine own_newarrayE X2476 (ty := .int) rfl (ad := "[I") (by decide) (ww 34 rfl) (n := 1) (vs := [(.int (0 : Int32))]) (by decide) (by decide) (by decide) rfl (cells' := 21) (slots' := 66) rfl rfl (by decide) (by decide) at_401 (pc' := 403) rfl fun a2477 T2477 h2477 g2477 ge2477 X2477 E2477 V2477 A2477 => ?_
                have S2478 := S2463.ext E2477
                refine own_astore X2477 (Ls' := #[oI p0, oI p1, oI p2, oI p3, oI p4, oI 1, oI 3, oI 3, oI 1, oI 0, oI 1, oI 0, oA b2253, oA b2255, oA b2258, oA b2262, oI b2269, oI b2272, oI b2275, oA a2276, oA a2314, oA a2371, oA b2253, .val .null, oA b2258, .val .null, oA a2437, oI 1, oA a2477, oU, oU, oU, oU]) rfl rfl at_403 (pc' := 405) rfl ?_
                refine own_aload X2477 rfl rfl at_405 (pc' := 407) rfl ?_
                refine own_iconst X2477 (v := (0 : Int32)) (by decide) at_407 (pc' := 408) rfl ?_
                refine own_iconst X2477 (v := (-1 : Int32)) (by decide) at_408 (pc' := 409) rfl ?_
                refine own_iastore X2477 V2477 ge2477 (i := 0) (by decide) (by decide) (show 0 < 1 by decide) at_409 (pc' := 410) rfl fun T2479 h2479 X2479 W2479 V2479 => ?_
                have A2480 := A2477.wr W2479
                have S2481 := S2478.wr W2479
                replace V2479 : own_Vec Z h2479 a2477 .int [(.int (-1 : Int32))] := V2479
                refine own_iconst X2479 (v := (1 : Int32)) (by decide) at_410 (pc' := 411) rfl ?_
                refine own_newarrayE X2479 (ty := .double) rfl (ad := "[D") (by decide) (ww 35 rfl) (n := 1) (vs := [(.double (0 : UInt64))]) (by decide) (by decide) (by decide) rfl (cells' := 22) (slots' := 67) rfl rfl (by decide) (by decide) at_411 (pc' := 413) rfl fun a2482 T2482 h2482 g2482 ge2482 X2482 E2482 V2482 A2482 => ?_
                have ne2483 : a2477 ≠ a2482 := own_lt_ne V2479.lt g2482
                have V2484 := V2479.ext E2482
                have A2485 := A2480.ext E2482
                have S2486 := S2481.ext E2482
                refine own_astore X2482 (Ls' := #[oI p0, oI p1, oI p2, oI p3, oI p4, oI 1, oI 3, oI 3, oI 1, oI 0, oI 1, oI 0, oA b2253, oA b2255, oA b2258, oA b2262, oI b2269, oI b2272, oI b2275, oA a2276, oA a2314, oA a2371, oA b2253, .val .null, oA b2258, .val .null, oA a2437, oI 1, oA a2477, oA a2482, oU, oU, oU]) rfl rfl at_413 (pc' := 415) rfl ?_
                refine own_aload X2482 rfl rfl at_415 (pc' := 417) rfl ?_
                refine own_iconst X2482 (v := (0 : Int32)) (by decide) at_417 (pc' := 418) rfl ?_
                refine own_dconst0 X2482 (v := (0 : UInt64)) rfl at_418 (pc' := 419) rfl ?_
                refine own_dastore X2482 V2482 ge2482 (i := 0) (by decide) (by decide) (show 0 < 1 by decide) at_419 (pc' := 420) rfl fun T2487 h2487 X2487 W2487 V2487 => ?_
                have A2488 := A2485.wr W2487
                have V2489 := V2484.other W2487 ne2483
                have A2490 := A2482.wr W2487
                have S2491 := S2486.wr W2487
                replace V2487 : own_Vec Z h2487 a2482 .double [(.double (0 : UInt64))] := V2487
                refine own_iload X2487 rfl at_420 (pc' := 422) rfl ?_
                refine own_bipush X2487 (v := (16 : Int32)) (by decide) at_422 (pc' := 424) rfl ?_
                obtain ⟨i2492, e2492⟩ : ∃ v, XT.ushr p4 (16 : Int32) = v := ⟨_, rfl⟩
                refine own_iushr X2487 e2492 at_424 (pc' := 425) rfl ?_
                refine own_sipush X2487 (v := (255 : Int32)) (by decide) at_425 (pc' := 428) rfl ?_
                obtain ⟨i2493, e2493⟩ : ∃ v, i2492 &&& (255 : Int32) = v := ⟨_, rfl⟩
                have f2493 : own_I 255 i2493.toInt i2493 := own_I.and e2493 (by decide)
                have nn2493 := own_and_nn (M := 255) e2493 (by decide)
                refine own_iand X2487 e2493 at_428 (pc' := 429) rfl ?_
                refine own_i2c X2487 (v := i2493) (own_i2c_mask e2493) at_429 (pc' := 430) rfl ?_
                refine own_callS X2487 (own_vof l Z a0 hw i2493 _ n0 X2487.le f2493 nn2493 cs S2491 hcs) (ww 89 rfl) (ww 90 rfl) (ww 7 rfl) (ww 91 rfl) (by decide) rfl (by decide) (W := 0) (Nat.le_of_eq rfl) (by decide) (cells' := 24) (slots' := 72) rfl rfl (by decide) (by decide) (argsL := [(.int i2493)]) (rest := []) (lenOf own_pd9 rfl) rfl rfl at_430 (pc' := 433) rfl ?_
                rintro _ T2495 h2495 X2495 ⟨b2495, rfl, A2495, K2495⟩
                have S2496 := own_Sta.keep0 S2491 K2495
                have A2497 := A2488.keep K2495
                have V2498 := V2489.keep K2495 nin0
                have A2499 := A2490.keep K2495
                have V2500 := V2487.keep K2495 nin0
                show own_Goal p e below _ T2495 (mkF m 433 #[oI p0, oI p1, oI p2, oI p3, oI p4, oI 1, oI 3, oI 3, oI 1, oI 0, oI 1, oI 0, oA b2253, oA b2255, oA b2258, oA b2262, oI b2269, oI b2272, oI b2275, oA a2276, oA a2314, oA a2371, oA b2253, .val .null, oA b2258, .val .null, oA a2437, oI 1, oA a2477, oA a2482, oU, oU, oU] [(.ref b2495)])
                refine own_astore X2495 (Ls' := #[oI p0, oI p1, oI p2, oI p3, oI p4, oI 1, oI 3, oI 3, oI 1, oI 0, oI 1, oI 0, oA b2253, oA b2255, oA b2258, oA b2262, oI b2269, oI b2272, oI b2275, oA a2276, oA a2314, oA a2371, oA b2253, .val .null, oA b2258, .val .null, oA a2437, oI 1, oA a2477, oA a2482, oA b2495, oU, oU]) rfl rfl at_433 (pc' := 435) rfl ?_
                refine own_iconst X2495 (v := (1 : Int32)) (by decide) at_435 (pc' := 436) rfl ?_
                refine own_anewarray X2495 (ww 5 rfl) (ww 36 rfl) (ad := "[Ljava/lang/String;") (by decide) (n := 1) (vs := [.null]) (by decide) (by decide) (by decide) rfl (cells' := 25) (slots' := 73) rfl rfl (by decide) (by decide) at_436 (pc' := 439) rfl fun a2501 T2501 h2501 g2501 ge2501 X2501 E2501 V2501 A2501 O2501 => ?_
                have ne2502 : a2477 ≠ a2501 := own_lt_ne V2498.lt g2501
                have ne2503 : a2482 ≠ a2501 := own_lt_ne V2500.lt g2501
                have ne2504 : b2495 ≠ a2501 := own_lt_ne A2495.lt g2501
                have V2505 := V2498.ext E2501
                have A2506 := A2497.ext E2501
                have V2507 := V2500.ext E2501
                have A2508 := A2499.ext E2501
                have A2509 := A2495.ext E2501
                have S2510 := S2496.ext E2501
                refine own_astore X2501 (Ls' := #[oI p0, oI p1, oI p2, oI p3, oI p4, oI 1, oI 3, oI 3, oI 1, oI 0, oI 1, oI 0, oA b2253, oA b2255, oA b2258, oA b2262, oI b2269, oI b2272, oI b2275, oA a2276, oA a2314, oA a2371, oA b2253, .val .null, oA b2258, .val .null, oA a2437, oI 1, oA a2477, oA a2482, oA b2495, oA a2501, oU]) rfl rfl at_439 (pc' := 441) rfl ?_
                refine own_aload X2501 rfl rfl at_441 (pc' := 443) rfl ?_
                refine own_iconst X2501 (v := (0 : Int32)) (by decide) at_443 (pc' := 444) rfl ?_
                refine own_aload X2501 rfl rfl at_444 (pc' := 446) rfl ?_
                refine own_aastore X2501 V2501 O2501 ge2501 (Or.inr ⟨_, rfl, A2509⟩) (i := 0) (by decide) (by decide) (show 0 < 1 by decide) at_446 (pc' := 447) rfl fun T2511 h2511 X2511 W2511 V2511 => ?_
                have A2512 := A2506.wr W2511
                have V2513 := V2505.other W2511 ne2502
                have A2514 := A2508.wr W2511
                have V2515 := V2507.other W2511 ne2503
                have A2516 := A2509.wr W2511
                have A2517 := A2501.wr W2511
                have O2518 := O2501.wr W2511
                have S2519 := S2510.wr W2511
                replace V2511 : own_Vec Z h2511 a2501 (.object "java/lang/String") [(.ref b2495)] := V2511
                refine own_new X2511 (ww 37 rfl) (ww 38 rfl) (ww 39 rfl) (cells' := 26) (slots' := 78) rfl rfl (by decide) (by decide) at_447 (pc' := 450) rfl fun a2520 T2520 h2520 g2520 ge2520 X2520 E2520 A2520 D2520 => ?_
                have ne2521 : a2477 ≠ a2520 := own_lt_ne V2513.lt g2520
                have ne2522 : a2482 ≠ a2520 := own_lt_ne V2515.lt g2520
                have ne2523 : b2495 ≠ a2520 := own_lt_ne A2516.lt g2520
                have ne2524 : a2501 ≠ a2520 := own_lt_ne V2511.lt g2520
                have V2525 := V2513.ext E2520
                have A2526 := A2512.ext E2520
                have V2527 := V2515.ext E2520
                have A2528 := A2514.ext E2520
                have A2529 := A2516.ext E2520
                have V2530 := V2511.ext E2520
                have A2531 := A2517.ext E2520
                have O2532 := O2518.ext E2520
                have S2533 := S2519.ext E2520
                have F2534 : Fld Z h2520 a2520 "com/example/cladewalk/cladewalk/tree/Tree" "parents" "[I" .null := D2520 (Or.inr (ww 54 rfl)) (ty := (.array .int)) (by decide)
                have F2535 : Fld Z h2520 a2520 "com/example/cladewalk/cladewalk/tree/Tree" "lengths" "[D" .null := D2520 (Or.inr (ww 62 rfl)) (ty := (.array .double)) (by decide)
                have F2536 : Fld Z h2520 a2520 "com/example/cladewalk/cladewalk/tree/Tree" "names" "[Ljava/lang/String;" .null := D2520 (Or.inr (ww 70 rfl)) (ty := (.array (.object "java/lang/String"))) (by decide)
                have F2537 : Fld Z h2520 a2520 "com/example/cladewalk/cladewalk/tree/Tree" "childCounts" "[I" .null := D2520 (Or.inr (ww 72 rfl)) (ty := (.array .int)) (by decide)
                have F2538 : Fld Z h2520 a2520 "com/example/cladewalk/cladewalk/tree/Tree" "tipCount" "I" (.int (0 : Int32)) := D2520 (Or.inr (ww 75 rfl)) (ty := .int) (by decide)
                refine own_dup X2520 rfl at_450 (pc' := 451) rfl ?_
                refine own_aload X2520 rfl rfl at_451 (pc' := 453) rfl ?_
                refine own_aload X2520 rfl rfl at_453 (pc' := 455) rfl ?_
                refine own_aload X2520 rfl rfl at_455 (pc' := 457) rfl ?_
                refine own_special X2520 (own_ti_1 l Z a0 hw a2520 a2477 a2482 a2501 b2495 _ n0 X2520.le ge2520 A2520 F2534 F2535 F2536 F2537 F2538 V2525 V2527 V2530 A2526 A2528 A2531 ne2521.symm ne2522.symm ne2524.symm ) rfl rfl (ww 40 rfl) (ww 41 rfl) (ww 39 rfl) (ww 42 rfl) (by decide) rfl (by decide) (W := 1) (Nat.le_of_eq rfl) (by decide) (cells' := 30) (slots' := 82) rfl rfl (by decide) (by decide) (argsL := [(.ref a2477), (.ref a2482), (.ref a2501)]) (rest := [(.ref a2520)]) (lenOf own_pd13 rfl) rfl rfl at_457 (pc' := 460) rfl ?_
                rintro _ T2539 h2539 X2539 ⟨rfl, ⟨x2539, y2539, F2539a, F2539b, V2539a, V2539b⟩, K2539⟩
                have S2540 := own_Sta.keep1 S2533 K2539 A2520
                have A2541 := A2529.keep K2539
                have A2542 := A2520.keep K2539
                show own_Goal p e below _ T2539 (mkF m 460 #[oI p0, oI p1, oI p2, oI p3, oI p4, oI 1, oI 3, oI 3, oI 1, oI 0, oI 1, oI 0, oA b2253, oA b2255, oA b2258, oA b2262, oI b2269, oI b2272, oI b2275, oA a2276, oA a2314, oA a2371, oA b2253, .val .null, oA b2258, .val .null, oA a2437, oI 1, oA a2477, oA a2482, oA b2495, oA a2501, oU] [(.ref a2520)])
                refine own_astore X2539 (Ls' := #[oI p0, oI p1, oI p2, oI p3, oI p4, oI 1, oI 3, oI 3, oI 1, oI 0, oI 1, oI 0, oA b2253, oA b2255, oA b2258, oA b2262, oI b2269, oI b2272, oI b2275, oA a2276, oA a2314, oA a2371, oA b2253, .val .null, oA b2258, .val .null, oA a2437, oI 1, oA a2477, oA a2482, oA b2495, oA a2501, oA a2520]) rfl rfl at_460 (pc' := 462) rfl ?_
                refine own_iload X2539 rfl at_462 (pc' := 464) rfl ?_
                refine own_ifF X2539 (by decide) at_464 (pc' := 467) rfl ?_
                refine own_aload X2539 rfl rfl at_467 (pc' := 469) rfl ?_
                refine own_iconst X2539 (v := (0 : Int32)) (by decide) at_469 (pc' := 470) rfl ?_
                refine own_virtual X2539 (own_name_1_0_1 l Z a0 hw a2520 x2539 y2539 b2495 (0 : Int32) _ n0 X2539.le F2539a F2539b V2539a V2539b (by decide)) (C := "com/example/cladewalk/cladewalk/tree/Tree") rfl (ww 76 rfl) (ww 77 rfl) (ww 79 rfl) (ww 78 rfl) (ww 39 rfl) (ww 80 rfl) (by decide) rfl (by decide) (W := 0) (Nat.le_of_eq rfl) (by decide) (cells' := 30) (slots' := 82) rfl rfl (by decide) (by decide) A2542 (argsL := [(.int (0 : Int32))]) (rest := []) (lenOf own_pd12 rfl) rfl rfl at_470 (pc' := 473) rfl ?_
                rintro _ T2543 h2543 X2543 ⟨rfl, e2543⟩
                subst e2543
                show own_Goal p e below _ T2543 (mkF m 473 #[oI p0, oI p1, oI p2, oI p3, oI p4, oI 1, oI 3, oI 3, oI 1, oI 0, oI 1, oI 0, oA b2253, oA b2255, oA b2258, oA b2262, oI b2269, oI b2272, oI b2275, oA a2276, oA a2314, oA a2371, oA b2253, .val .null, oA b2258, .val .null, oA a2437, oI 1, oA a2477, oA a2482, oA b2495, oA a2501, oA a2520] [(.ref b2495)])
                refine own_aload X2543 rfl rfl at_473 (pc' := 475) rfl ?_
                refine own_callS X2543 (own_sameA l Z a0 hw b2495 _ n0 X2543.le A2541) (ww 81 rfl) (ww 82 rfl) (ww 2 rfl) (ww 83 rfl) (by decide) rfl (by decide) (W := 0) (Nat.le_of_eq rfl) (by decide) (cells' := 30) (slots' := 82) rfl rfl (by decide) (by decide) (argsL := [(.ref b2495), (.ref b2495)]) (rest := []) (lenOf own_pd11 rfl) rfl rfl at_475 (pc' := 478) rfl ?_
                rintro _ T2544 h2544 X2544 ⟨rfl, e2544⟩
                subst e2544
                show own_Goal p e below _ T2544 (mkF m 478 #[oI p0, oI p1, oI p2, oI p3, oI p4, oI 1, oI 3, oI 3, oI 1, oI 0, oI 1, oI 0, oA b2253, oA b2255, oA b2258, oA b2262, oI b2269, oI b2272, oI b2275, oA a2276, oA a2314, oA a2371, oA b2253, .val .null, oA b2258, .val .null, oA a2437, oI 1, oA a2477, oA a2482, oA b2495, oA a2501, oA a2520] [(.int (1 : Int32))])
                refine own_ifF X2544 (by decide) at_478 (pc' := 481) rfl ?_
                refine own_iload X2544 rfl at_481 (pc' := 483) rfl ?_
                refine own_ifF X2544 (by decide) at_483 (pc' := 486) rfl ?_
                refine own_iconst X2544 (v := (1 : Int32)) (by decide) at_486 (pc' := 487) rfl ?_
                refine own_goto X2544 at_487 (pc' := 491) (by decide) (by decide) ?_
                exact own_retZ X2544 (by decide) at_491 rfl (by decide) (by decide) rfl
              by_cases c2424 : b2275 = 0
              · -- join
                refine own_ifT X2412 (own_z_eq c2424).1 at_269 (pc' := 277) (by decide) (by decide) ?_
                refine own_aconst_null X2412  at_277 (pc' := 278) rfl ?_
                exact J2424 _ (Or.inl rfl)
              · -- join
                refine own_ifF X2412 (own_z_ne c2424).1 at_269 (pc' := 272) rfl ?_
                refine own_aload X2412 rfl rfl at_272 (pc' := 274) rfl ?_
                refine own_goto X2412 at_274 (pc' := 278) (by decide) (by decide) ?_
                exact J2424 _ (Or.inr rfl)
            by_cases c2399 : b2269 = 0
            · -- join
              refine own_ifT X2387 (own_z_eq c2399).1 at_234 (pc' := 242) (by decide) (by decide) ?_
              refine own_aconst_null X2387  at_242 (pc' := 243) rfl ?_
              exact J2399 _ (Or.inl rfl)
            · -- join
              refine own_ifF X2387 (own_z_ne c2399).1 at_234 (pc' := 237) rfl ?_
              refine own_aload X2387 rfl rfl at_237 (pc' := 239) rfl ?_
              refine own_goto X2387 at_239 (pc' := 243) (by decide) (by decide) ?_
              exact J2399 _ (Or.inr rfl)
          by_cases c2275 : i2274 = 0
          · -- join
            refine own_ifT X2262 (own_z_eq c2275).1 at_129 (pc' := 136) (by decide) (by decide) ?_
            refine own_iconst X2262 (v := (0 : Int32)) (by decide) at_136 (pc' := 137) rfl ?_
            exact J2275 _
          · -- join
            refine own_ifF X2262 (own_z_ne c2275).1 at_129 (pc' := 132) rfl ?_
            refine own_iconst X2262 (v := (1 : Int32)) (by decide) at_132 (pc' := 133) rfl ?_
            refine own_goto X2262 at_133 (pc' := 137) (by decide) (by decide) ?_
            exact J2275 _
        by_cases c2272 : i2271 = 0
        · -- join
          refine own_ifT X2262 (own_z_eq c2272).1 at_114 (pc' := 121) (by decide) (by decide) ?_
          refine own_iconst X2262 (v := (0 : Int32)) (by decide) at_121 (pc' := 122) rfl ?_
          exact J2272 _
        · -- join
          refine own_ifF X2262 (own_z_ne c2272).1 at_114 (pc' := 117) rfl ?_
          refine own_iconst X2262 (v := (1 : Int32)) (by decide) at_117 (pc' := 118) rfl ?_
          refine own_goto X2262 at_118 (pc' := 122) (by decide) (by decide) ?_
          exact J2272 _
      by_cases c2269 : i2268 = 0
      · -- join
        refine own_ifT X2262 (own_z_eq c2269).1 at_99 (pc' := 106) (by decide) (by decide) ?_
        refine own_iconst X2262 (v := (0 : Int32)) (by decide) at_106 (pc' := 107) rfl ?_
        exact J2269 _
      · -- join
        refine own_ifF X2262 (own_z_ne c2269).1 at_99 (pc' := 102) rfl ?_
        refine own_iconst X2262 (v := (1 : Int32)) (by decide) at_102 (pc' := 103) rfl ?_
        refine own_goto X2262 at_103 (pc' := 107) (by decide) (by decide) ?_
        exact J2269 _
  · -- 1
    refine own_iadd X0 (v := (2 : Int32)) (by decide) at_8 (pc' := 9) rfl ?_
    refine own_istore X0 (Ls' := #[oI p0, oI p1, oI p2, oI p3, oI p4, oI 2, oU, oU, oU, oU, oU, oU, oU, oU, oU, oU, oU, oU, oU, oU, oU, oU, oU, oU, oU, oU, oU, oU, oU, oU, oU, oU, oU]) rfl at_9 (pc' := 11) rfl ?_
    refine own_iconst X0 (v := (2 : Int32)) (by decide) at_11 (pc' := 12) rfl ?_
    refine own_iloadN X0 rfl at_12 (pc' := 13) rfl ?_
    refine own_bipush X0 (v := (8 : Int32)) (by decide) at_13 (pc' := 15) rfl ?_
    obtain ⟨i2545, e2545⟩ : ∃ v, XT.ushr p0 (8 : Int32) = v := ⟨_, rfl⟩
    refine own_iushr X0 e2545 at_15 (pc' := 16) rfl ?_
    refine own_iconst X0 (v := (1 : Int32)) (by decide) at_16 (pc' := 17) rfl ?_
    obtain ⟨i2546, e2546⟩ : ∃ v, i2545 &&& (1 : Int32) = v := ⟨_, rfl⟩
    have f2546 : own_I 1 i2546.toInt i2546 := own_I.and e2546 (by decide)
    have nn2546 := own_and_nn (M := 1) e2546 (by decide)
    refine own_iand X0 e2546 at_17 (pc' := 18) rfl ?_
    rcases own_cases2 nn2546 with rfl | rfl
    · -- 0
      refine own_iadd X0 (v := (2 : Int32)) (by decide) at_18 (pc' := 19) rfl ?_
      refine own_istore X0 (Ls' := #[oI p0, oI p1, oI p2, oI p3, oI p4, oI 2, oI 2, oU, oU, oU, oU, oU, oU, oU, oU, oU, oU, oU, oU, oU, oU, oU, oU, oU, oU, oU, oU, oU, oU, oU, oU, oU, oU]) rfl at_19 (pc' := 21) rfl ?_
      refine own_iconst X0 (v := (3 : Int32)) (by decide) at_21 (pc' := 22) rfl ?_
      refine own_istore X0 (Ls' := #[oI p0, oI p1, oI p2, oI p3, oI p4, oI 2, oI 2, oI 3, oU, oU, oU, oU, oU, oU, oU, oU, oU, oU, oU, oU, oU, oU, oU, oU, oU, oU, oU, oU, oU, oU, oU, oU, oU]) rfl at_22 (pc' := 24) rfl ?_
      refine own_iconst X0 (v := (1 : Int32)) (by decide) at_24 (pc' := 25) rfl ?_
      refine own_istore X0 (Ls' := #[oI p0, oI p1, oI p2, oI p3, oI p4, oI 2, oI 2, oI 3, oI 1, oU, oU, oU, oU, oU, oU, oU, oU, oU, oU, oU, oU, oU, oU, oU, oU, oU, oU, oU, oU, oU, oU, oU, oU]) rfl at_25 (pc' := 27) rfl ?_
      refine own_iload X0 rfl at_27 (pc' := 29) rfl ?_
      refine own_iconst X0 (v := (1 : Int32)) (by decide) at_29 (pc' := 30) rfl ?_
      refine own_icmpF X0 (by decide) at_30 (pc' := 33) rfl ?_
      refine own_iconst X0 (v := (1 : Int32)) (by decide) at_33 (pc' := 34) rfl ?_
      refine own_goto X0 at_34 (pc' := 38) (by decide) (by decide) ?_
      refine own_istore X0 (Ls' := #[oI p0, oI p1, oI p2, oI p3, oI p4, oI 2, oI 2, oI 3, oI 1, oI 1, oU, oU, oU, oU, oU, oU, oU, oU, oU, oU, oU, oU, oU, oU, oU, oU, oU, oU, oU, oU, oU, oU, oU]) rfl at_38 (pc' := 40) rfl ?_
      refine own_iload X0 rfl at_40 (pc' := 42) rfl ?_
      refine own_iconst X0 (v := (2 : Int32)) (by decide) at_42 (pc' := 43) rfl ?_
      refine own_icmpT X0 (by decide) at_43 (pc' := 56) (by decide) (by decide) ?_
      refine own_iconst X0 (v := (0 : Int32)) (by decide) at_56 (pc' := 57) rfl ?_
      refine own_istore X0 (Ls' := #[oI p0, oI p1, oI p2, oI p3, oI p4, oI 2, oI 2, oI 3, oI 1, oI 1, oI 0, oU, oU, oU, oU, oU, oU, oU, oU, oU, oU, oU, oU, oU, oU, oU, oU, oU, oU, oU, oU, oU, oU]) rfl at_57 (pc' := 59) rfl ?_
      refine own_iconst X0 (v := (0 : Int32)) (by decide) at_59 (pc' := 60) rfl ?_
      refine own_istore X0 (Ls' := #[oI p0, oI p1, oI p2, oI p3, oI p4, oI 2, oI 2, oI 3, oI 1, oI 1, oI 0, oI 0, oU, oU, oU, oU, oU, oU, oU, oU, oU, oU, oU, oU, oU, oU, oU, oU, oU, oU, oU, oU, oU]) rfl at_60 (pc' := 62) rfl ?_
      refine own_iloadN X0 rfl at_62 (pc' := 63) rfl ?_
      refine own_iloadN X0 rfl at_63 (pc' := 64) rfl ?_
      refine own_iconst X0 (v := (0 : Int32)) (by decide) at_64 (pc' := 65) rfl ?_
      refine own_callS X0 (own_two l Z a0 hw p1 p2 (0 : Int32) _ n0 X0.le cs S0 hcs) (ww 0 rfl) (ww 1 rfl) (ww 2 rfl) (ww 3 rfl) (by decide) rfl (by decide) (W := 0) (Nat.le_of_eq rfl) (by decide) (cells' := 3) (slots' := 8) rfl rfl (by decide) (by decide) (argsL := [(.int p1), (.int p2), (.int (0 : Int32))]) (rest := []) (lenOf own_pd5 rfl) rfl rfl at_65 (pc' := 68) rfl ?_
      rintro _ T2547 h2547 X2547 ⟨b2547, rfl, A2547, K2547⟩
      have S2548 := own_Sta.keep0 S0 K2547
      show own_Goal p e below _ T2547 (mkF m 68 #[oI p0, oI p1, oI p2, oI p3, oI p4, oI 2, oI 2, oI 3, oI 1, oI 1, oI 0, oI 0, oU, oU, oU, oU, oU, oU, oU, oU, oU, oU, oU, oU, oU, oU, oU, oU, oU, oU, oU, oU, oU] [(.ref b2547)])
      refine own_astore X2547 (Ls' := #[oI p0, oI p1, oI p2, oI p3, oI p4, oI 2, oI 2, oI 3, oI 1, oI 1, oI 0, oI 0, oA b2547, oU, oU, oU, oU, oU, oU, oU, oU, oU, oU, oU, oU, oU, oU, oU, oU, oU, oU, oU, oU]) rfl rfl at_68 (pc' := 70) rfl ?_
      refine own_iloadN X2547 rfl at_70 (pc' := 71) rfl ?_
      refine own_iloadN X2547 rfl at_71 (pc' := 72) rfl ?_
      refine own_iconst X2547 (v := (1 : Int32)) (by decide) at_72 (pc' := 73) rfl ?_
      refine own_callS X2547 (own_two l Z a0 hw p1 p2 (1 : Int32) _ n0 X2547.le cs S2548 hcs) (ww 0 rfl) (ww 1 rfl) (ww 2 rfl) (ww 3 rfl) (by decide) rfl (by decide) (W := 0) (Nat.le_of_eq rfl) (by decide) (cells' := 6) (slots' := 16) rfl rfl (by decide) (by decide) (argsL := [(.int p1), (.int p2), (.int (1 : Int32))]) (rest := []) (lenOf own_pd5 rfl) rfl rfl at_73 (pc' := 76) rfl ?_
      rintro _ T2549 h2549 X2549 ⟨b2549, rfl, A2549, K2549⟩
      have S2550 := own_Sta.keep0 S2548 K2549
      have A2551 := A2547.keep K2549
      show own_Goal p e below _ T2549 (mkF m 76 #[oI p0, oI p1, oI p2, oI p3, oI p4, oI 2, oI 2, oI 3, oI 1, oI 1, oI 0, oI 0, oA b2547, oU, oU, oU, oU, oU, oU, oU, oU, oU, oU, oU, oU, oU, oU, oU, oU, oU, oU, oU, oU] [(.ref b2549)])
      refine own_astore X2549 (Ls' := #[oI p0, oI p1, oI p2, oI p3, oI p4, oI 2, oI 2, oI 3, oI 1, oI 1, oI 0, oI 0, oA b2547, oA b2549, oU, oU, oU, oU, oU, oU, oU, oU, oU, oU, oU, oU, oU, oU, oU, oU, oU, oU, oU]) rfl rfl at_76 (pc' := 78) rfl ?_
      refine own_iloadN X2549 rfl at_78 (pc' := 79) rfl ?_
      refine own_iloadN X2549 rfl at_79 (pc' := 80) rfl ?_
      refine own_iconst X2549 (v := (2 : Int32)) (by decide) at_80 (pc' := 81) rfl ?_
      refine own_callS X2549 (own_two l Z a0 hw p1 p2 (2 : Int32) _ n0 X2549.le cs S2550 hcs) (ww 0 rfl) (ww 1 rfl) (ww 2 rfl) (ww 3 rfl) (by decide) rfl (by decide) (W := 0) (Nat.le_of_eq rfl) (by decide) (cells' := 9) (slots' := 24) rfl rfl (by decide) (by decide) (argsL := [(.int p1), (.int p2), (.int (2 : Int32))]) (rest := []) (lenOf own_pd5 rfl) rfl rfl at_81 (pc' := 84) rfl ?_
      rintro _ T2552 h2552 X2552 ⟨b2552, rfl, A2552, K2552⟩
      have S2553 := own_Sta.keep0 S2550 K2552
      have A2554 := A2551.keep K2552
      have A2555 := A2549.keep K2552
      show own_Goal p e below _ T2552 (mkF m 84 #[oI p0, oI p1, oI p2, oI p3, oI p4, oI 2, oI 2, oI 3, oI 1, oI 1, oI 0, oI 0, oA b2547, oA b2549, oU, oU, oU, oU, oU, oU, oU, oU, oU, oU, oU, oU, oU, oU, oU, oU, oU, oU, oU] [(.ref b2552)])
      refine own_astore X2552 (Ls' := #[oI p0, oI p1, oI p2, oI p3, oI p4, oI 2, oI 2, oI 3, oI 1, oI 1, oI 0, oI 0, oA b2547, oA b2549, oA b2552, oU, oU, oU, oU, oU, oU, oU, oU, oU, oU, oU, oU, oU, oU, oU, oU, oU, oU]) rfl rfl at_84 (pc' := 86) rfl ?_
      refine own_iloadN X2552 rfl at_86 (pc' := 87) rfl ?_
      refine own_iloadN X2552 rfl at_87 (pc' := 88) rfl ?_
      refine own_iconst X2552 (v := (3 : Int32)) (by decide) at_88 (pc' := 89) rfl ?_
      refine own_callS X2552 (own_two l Z a0 hw p1 p2 (3 : Int32) _ n0 X2552.le cs S2553 hcs) (ww 0 rfl) (ww 1 rfl) (ww 2 rfl) (ww 3 rfl) (by decide) rfl (by decide) (W := 0) (Nat.le_of_eq rfl) (by decide) (cells' := 12) (slots' := 32) rfl rfl (by decide) (by decide) (argsL := [(.int p1), (.int p2), (.int (3 : Int32))]) (rest := []) (lenOf own_pd5 rfl) rfl rfl at_89 (pc' := 92) rfl ?_
      rintro _ T2556 h2556 X2556 ⟨b2556, rfl, A2556, K2556⟩
      have S2557 := own_Sta.keep0 S2553 K2556
      have A2558 := A2554.keep K2556
      have A2559 := A2555.keep K2556
      have A2560 := A2552.keep K2556
      show own_Goal p e below _ T2556 (mkF m 92 #[oI p0, oI p1, oI p2, oI p3, oI p4, oI 2, oI 2, oI 3, oI 1, oI 1, oI 0, oI 0, oA b2547, oA b2549, oA b2552, oU, oU, oU, oU, oU, oU, oU, oU, oU, oU, oU, oU, oU, oU, oU, oU, oU, oU] [(.ref b2556)])
      refine own_astore X2556 (Ls' := #[oI p0, oI p1, oI p2, oI p3, oI p4, oI 2, oI 2, oI 3, oI 1, oI 1, oI 0, oI 0, oA b2547, oA b2549, oA b2552, oA b2556, oU, oU, oU, oU, oU, oU, oU, oU, oU, oU, oU, oU, oU, oU, oU, oU, oU]) rfl rfl at_92 (pc' := 94) rfl ?_
      refine own_iloadN X2556 rfl at_94 (pc' := 95) rfl ?_
      refine own_iconst X2556 (v := (1 : Int32)) (by decide) at_95 (pc' := 96) rfl ?_
      obtain ⟨i2561, e2561⟩ : ∃ v, XT.ushr p3 (1 : Int32) = v := ⟨_, rfl⟩
      refine own_iushr X2556 e2561 at_96 (pc' := 97) rfl ?_
      refine own_iconst X2556 (v := (1 : Int32)) (by decide) at_97 (pc' := 98) rfl ?_
      obtain ⟨i2562, e2562⟩ : ∃ v, i2561 &&& (1 : Int32) = v := ⟨_, rfl⟩
      have f2562 : own_I 1 i2562.toInt i2562 := own_I.and e2562 (by decide)
      have nn2562 := own_and_nn (M := 1) e2562 (by decide)
      refine own_iand X2556 e2562 at_98 (pc' := 99) rfl ?_
      have J2563 : ∀ (b2563 : Int32), own_Goal p e below (own_Fin below s room_1 n0 (fun v _ => v = some (.int 1))) T2556 (mkF m 107 #[oI p0, oI p1, oI p2, oI p3, oI p4, oI 2, oI 2, oI 3, oI 1, oI 1, oI 0, oI 0, oA b2547, oA b2549, oA b2552, oA b2556, oU, oU, oU, oU, oU, oU, oU, oU, oU, oU, oU, oU, oU, oU, oU, oU, oU] [(.int b2563)]) := by
        intro b2563
        refine own_istore X2556 (Ls' := #[oI p0, oI p1, oI p2, oI p3, oI p4, oI 2, oI 2, oI 3, oI 1, oI 1, oI 0, oI 0, oA b2547, oA b2549, oA b2552, oA b2556, oI b2563, oU, oU, oU, oU, oU, oU, oU, oU, oU, oU, oU, oU, oU, oU, oU, oU]) rfl at_107 (pc' := 109) rfl ?_
        refine own_iloadN X2556 rfl at_109 (pc' := 110) rfl ?_
        refine own_iconst X2556 (v := (2 : Int32)) (by decide) at_110 (pc' := 111) rfl ?_
        obtain ⟨i2564, e2564⟩ : ∃ v, XT.ushr p3 (2 : Int32) = v := ⟨_, rfl⟩
        refine own_iushr X2556 e2564 at_111 (pc' := 112) rfl ?_
        refine own_iconst X2556 (v := (1 : Int32)) (by decide) at_112 (pc' := 113) rfl ?_
        obtain ⟨i2565, e2565⟩ : ∃ v, i2564 &&& (1 : Int32) = v := ⟨_, rfl⟩
        have f2565 : own_I 1 i2565.toInt i2565 := own_I.and e2565 (by decide)
        have nn2565 := own_and_nn (M := 1) e2565 (by decide)
        refine own_iand X2556 e2565 at_113 (pc' := 114) rfl ?_
        have J2566 : ∀ (b2566 : Int32), own_Goal p e below (own_Fin below s room_1 n0 (fun v _ => v = some (.int 1))) T2556 (mkF m 122 #[oI p0, oI p1, oI p2, oI p3, oI p4, oI 2, oI 2, oI 3, oI 1, oI 1, oI 0, oI 0, oA b2547, oA b2549, oA b2552, oA b2556, oI b2563, oU, oU, oU, oU, oU, oU, oU, oU, oU, oU, oU, oU, oU, oU, oU, oU] [(.int b2566)]) := by
          intro b2566
          refine own_istore X2556 (Ls' := #[oI p0, oI p1, oI p2, oI p3, oI p4, oI 2, oI 2, oI 3, oI 1, oI 1, oI 0, oI 0, oA b2547, oA b2549, oA b2552, oA b2556, oI b2563, oI b2566, oU, oU, oU, oU, oU, oU, oU, oU, oU, oU, oU, oU, oU, oU, oU]) rfl at_122 (pc' := 124) rfl ?_
          refine own_iloadN X2556 rfl at_124 (pc' := 125) rfl ?_
          refine own_iconst X2556 (v := (3 : Int32)) (by decide) at_125 (pc' := 126) rfl ?_
          obtain ⟨i2567, e2567⟩ : ∃ v, XT.ushr p3 (3 : Int32) = v := ⟨_, rfl⟩
          refine own_iushr X2556 e2567 at_126 (pc' := 127) rfl ?_
          refine own_iconst X2556 (v := (1 : Int32)) (by decide) at_127 (pc' := 128) rfl ?_
          obtain ⟨i2568, e2568⟩ : ∃ v, i2567 &&& (1 : Int32) = v := ⟨_, rfl⟩
          have f2568 : own_I 1 i2568.toInt i2568 := own_I.and e2568 (by decide)
          have nn2568 := own_and_nn (M := 1) e2568 (by decide)
          refine own_iand X2556 e2568 at_128 (pc' := 129) rfl ?_
          have J2569 : ∀ (b2569 : Int32), own_Goal p e below (own_Fin below s room_1 n0 (fun v _ => v = some (.int 1))) T2556 (mkF m 137 #[oI p0, oI p1, oI p2, oI p3, oI p4, oI 2, oI 2, oI 3, oI 1, oI 1, oI 0, oI 0, oA b2547, oA b2549, oA b2552, oA b2556, oI b2563, oI b2566, oU, oU, oU, oU, oU, oU, oU, oU, oU, oU, oU, oU, oU, oU, oU] [(.int b2569)]) := by
            intro b2569
            refine own_istore X2556 (Ls' := #[oI p0, oI p1, oI p2, oI p3, oI p4, oI 2, oI 2, oI 3, oI 1, oI 1, oI 0, oI 0, oA b2547, oA b2549, oA b2552, oA b2556, oI b2563, oI b2566, oI b2569, oU, oU, oU, oU, oU, oU, oU, oU, oU, oU, oU, oU, oU, oU]) rfl at_137 (pc' := 139) rfl ?_
            refine own_iconst X2556 (v := (4 : Int32)) (by decide) at_139 (pc' := 140) rfl ?_
            refine own_newarrayE X2556 (ty := .int) rfl (ad := "[I") (by decide) (ww 34 rfl) (n := 4) (vs := [(.int (0 : Int32)), (.int (0 : Int32)), (.int (0 : Int32)), (.int (0 : Int32))]) (by decide) (by decide) (by decide) rfl (cells' := 13) (slots' := 36) rfl rfl (by decide) (by decide) at_140 (pc' := 142) rfl fun a2570 T2570 h2570 g2570 ge2570 X2570 E2570 V2570 A2570 => ?_
            have ne2571 : b2547 ≠ a2570 := own_lt_ne A2558.lt g2570
            have ne2572 : b2549 ≠ a2570 := own_lt_ne A2559.lt g2570
            have ne2573 : b2552 ≠ a2570 := own_lt_ne A2560.lt g2570
            have ne2574 : b2556 ≠ a2570 := own_lt_ne A2556.lt g2570
            have A2575 := A2558.ext E2570
            have A2576 := A2559.ext E2570
            have A2577 := A2560.ext E2570
            have A2578 := A2556.ext E2570
            have S2579 := S2557.ext E2570
            refine own_astore X2570 (Ls' := #[oI p0, oI p1, oI p2, oI p3, oI p4, oI 2, oI 2, oI 3, oI 1, oI 1, oI 0, oI 0, oA b2547, oA b2549, oA b2552, oA b2556, oI b2563, oI b2566, oI b2569, oA a2570, oU, oU, oU, oU, oU, oU, oU, oU, oU, oU, oU, oU, oU]) rfl rfl at_142 (pc' := 144) rfl ?_
            refine own_aload X2570 rfl rfl at_144 (pc' := 146) rfl ?_
            refine own_iconst X2570 (v := (0 : Int32)) (by decide) at_146 (pc' := 147) rfl ?_
            refine own_iload X2570 rfl at_147 (pc' := 149) rfl ?_
            refine own_iastore X2570 V2570 ge2570 (i := 0) (by decide) (by decide) (show 0 < 4 by decide) at_149 (pc' := 150) rfl fun T2580 h2580 X2580 W2580 V2580 => ?_
            have A2581 := A2575.wr W2580
            have A2582 := A2576.wr W2580
            have A2583 := A2577.wr W2580
            have A2584 := A2578.wr W2580
            have A2585 := A2570.wr W2580
            have S2586 := S2579.wr W2580
            replace V2580 : own_Vec Z h2580 a2570 .int [(.int (2 : Int32)), (.int (0 : Int32)), (.int (0 : Int32)), (.int (0 : Int32))] := V2580
            refine own_aload X2580 rfl rfl at_150 (pc' := 152) rfl ?_
            refine own_iconst X2580 (v := (1 : Int32)) (by decide) at_152 (pc' := 153) rfl ?_
            refine own_iload X2580 rfl at_153 (pc' := 155) rfl ?_
            refine own_iastore X2580 V2580 ge2570 (i := 1) (by decide) (by decide) (show 1 < 4 by decide) at_155 (pc' := 156) rfl fun T2587 h2587 X2587 W2587 V2587 => ?_
            have A2588 := A2581.wr W2587
            have A2589 := A2582.wr W2587
            have A2590 := A2583.wr W2587
            have A2591 := A2584.wr W2587
            have A2592 := A2585.wr W2587
            have S2593 := S2586.wr W2587
            replace V2587 : own_Vec Z h2587 a2570 .int [(.int (2 : Int32)), (.int (2 : Int32)), (.int (0 : Int32)), (.int (0 : Int32))] := V2587
            refine own_aload X2587 rfl rfl at_156 (pc' := 158) rfl ?_
            refine own_iconst X2587 (v := (2 : Int32)) (by decide) at_158 (pc' := 159) rfl ?_
            refine own_iload X2587 rfl at_159 (pc' := 161) rfl ?_
            refine own_iastore X2587 V2587 ge2570 (i := 2) (by decide) (by decide) (show 2 < 4 by decide) at_161 (pc' := 162) rfl fun T2594 h2594 X2594 W2594 V2594 => ?_
            have A2595 := A2588.wr W2594
            have A2596 := A2589.wr W2594
            have A2597 := A2590.wr W2594
            have A2598 := A2591.wr W2594
            have A2599 := A2592.wr W2594
            have S2600 := S2593.wr W2594
            replace V2594 : own_Vec Z h2594 a2570 .int [(.int (2 : Int32)), (.int (2 : Int32)), (.int (3 : Int32)), (.int (0 : Int32))] := V2594
            refine own_aload X2594 rfl rfl at_162 (pc' := 164) rfl ?_
            refine own_iconst X2594 (v := (3 : Int32)) (by decide) at_164 (pc' := 165) rfl ?_
            refine own_iconst X2594 (v := (-1 : Int32)) (by decide) at_165 (pc' := 166) rfl ?_
            refine own_iastore X2594 V2594 ge2570 (i := 3) (by decide) (by decide) (show 3 < 4 by decide) at_166 (pc' := 167) rfl fun T2601 h2601 X2601 W2601 V2601 => ?_
            have A2602 := A2595.wr W2601
            have A2603 := A2596.wr W2601
            have A2604 := A2597.wr W2601
            have A2605 := A2598.wr W2601
            have A2606 := A2599.wr W2601
            have S2607 := S2600.wr W2601
            replace V2601 : own_Vec Z h2601 a2570 .int [(.int (2 : Int32)), (.int (2 : Int32)), (.int (3 : Int32)), (.int (-1 : Int32))] := V2601
            refine own_iconst X2601 (v := (4 : Int32)) (by decide) at_167 (pc' := 168) rfl ?_
            refine own_newarrayE X2601 (ty := .double) rfl (ad := "[D") (by decide) (ww 35 rfl) (n := 4) (vs := [(.double (0 : UInt64)), (.double (0 : UInt64)), (.double (0 : UInt64)), (.double (0 : UInt64))]) (by decide) (by decide) (by decide) rfl (cells' := 14) (slots' := 40) rfl rfl (by decide) (by decide) at_168 (pc' := 170) rfl fun a2608 T2608 h2608 g2608 ge2608 X2608 E2608 V2608 A2608 => ?_
            have ne2609 : b2547 ≠ a2608 := own_lt_ne A2602.lt g2608
            have ne2610 : b2549 ≠ a2608 := own_lt_ne A2603.lt g2608
            have ne2611 : b2552 ≠ a2608 := own_lt_ne A2604.lt g2608
            have ne2612 : b2556 ≠ a2608 := own_lt_ne A2605.lt g2608
            have ne2613 : a2570 ≠ a2608 := own_lt_ne V2601.lt g2608
            have A2614 := A2602.ext E2608
            have A2615 := A2603.ext E2608
            have A2616 := A2604.ext E2608
            have A2617 := A2605.ext E2608
            have V2618 := V2601.ext E2608
            have A2619 := A2606.ext E2608
            have S2620 := S2607.ext E2608
            refine own_astore X2608 (Ls' := #[oI p0, oI p1, oI p2, oI p3, oI p4, oI 2, oI 2, oI 3, oI 1, oI 1, oI 0, oI 0, oA b2547, oA b2549, oA b2552, oA b2556, oI b2563, oI b2566, oI b2569, oA a2570, oA a2608, oU, oU, oU, oU, oU, oU, oU, oU, oU, oU, oU, oU]) rfl rfl at_170 (pc' := 172) rfl ?_
            refine own_aload X2608 rfl rfl at_172 (pc' := 174) rfl ?_
            refine own_iconst X2608 (v := (0 : Int32)) (by decide) at_174 (pc' := 175) rfl ?_
            refine own_iload X2608 rfl at_175 (pc' := 177) rfl ?_
            refine own_bipush X2608 (v := (7 : Int32)) (by decide) at_177 (pc' := 179) rfl ?_
            obtain ⟨i2621, e2621⟩ : ∃ v, p4 &&& (7 : Int32) = v := ⟨_, rfl⟩
            have f2621 : own_I 7 i2621.toInt i2621 := own_I.and e2621 (by decide)
            have nn2621 := own_and_nn (M := 7) e2621 (by decide)
            refine own_iand X2608 e2621 at_179 (pc' := 180) rfl ?_
            obtain ⟨d2622, e2622⟩ : ∃ v, FP.i2d i2621 = v := ⟨_, rfl⟩
            have f2622 : own_D 0 7 i2621.toInt d2622 := own_D.i2d f2621 e2622
            refine own_i2d X2608 e2622 at_180 (pc' := 181) rfl ?_
            refine own_dastore X2608 V2608 ge2608 (i := 0) (by decide) (by decide) (show 0 < 4 by decide) at_181 (pc' := 182) rfl fun T2623 h2623 X2623 W2623 V2623 => ?_
            have A2624 := A2614.wr W2623
            have A2625 := A2615.wr W2623
            have A2626 := A2616.wr W2623
            have A2627 := A2617.wr W2623
            have A2628 := A2619.wr W2623
            have V2629 := V2618.other W2623 ne2613
            have A2630 := A2608.wr W2623
            have S2631 := S2620.wr W2623
            replace V2623 : own_Vec Z h2623 a2608 .double [(.double d2622), (.double (0 : UInt64)), (.double (0 : UInt64)), (.double (0 : UInt64))] := V2623
            refine own_aload X2623 rfl rfl at_182 (pc' := 184) rfl ?_
            refine own_iconst X2623 (v := (1 : Int32)) (by decide) at_184 (pc' := 185) rfl ?_
            refine own_iload X2623 rfl at_185 (pc' := 187) rfl ?_
            refine own_iconst X2623 (v := (3 : Int32)) (by decide) at_187 (pc' := 188) rfl ?_
            obtain ⟨i2632, e2632⟩ : ∃ v, XT.ushr p4 (3 : Int32) = v := ⟨_, rfl⟩
            refine own_iushr X2623 e2632 at_188 (pc' := 189) rfl ?_
            refine own_bipush X2623 (v := (7 : Int32)) (by decide) at_189 (pc' := 191) rfl ?_
            obtain ⟨i2633, e2633⟩ : ∃ v, i2632 &&& (7 : Int32) = v := ⟨_, rfl⟩
            have f2633 : own_I 7 i2633.toInt i2633 := own_I.and e2633 (by decide)
            have nn2633 := own_and_nn (M := 7) e2633 (by decide)
            refine own_iand X2623 e2633 at_191 (pc' := 192) rfl ?_
            obtain ⟨d2634, e2634⟩ : ∃ v, FP.i2d i2633 = v := ⟨_, rfl⟩
            have f2634 : own_D 0 7 i2633.toInt d2634 := own_D.i2d f2633 e2634
            refine own_i2d X2623 e2634 at_192 (pc' := 193) rfl ?_
            refine own_dastore X2623 V2623 ge2608 (i := 1) (by decide) (by decide) (show 1 < 4 by decide) at_193 (pc' := 194) rfl fun T2635 h2635 X2635 W2635 V2635 => ?_
            have A2636 := A2624.wr W2635
            have A2637 := A2625.wr W2635
            have A2638 := A2626.wr W2635
            have A2639 := A2627.wr W2635
            have A2640 := A2628.wr W2635
            have V2641 := V2629.other W2635 ne2613
            have A2642 := A2630.wr W2635
            have S2643 := S2631.wr W2635
            replace V2635 : own_Vec Z h2635 a2608 .double [(.double d2622), (.double d2634), (.double (0 : UInt64)), (.double (0 : UInt64))] := V2635
            refine own_aload X2635 rfl rfl at_194 (pc' := 196) rfl ?_
            refine own_iconst X2635 (v := (2 : Int32)) (by decide) at_196 (pc' := 197) rfl ?_
            refine own_iload X2635 rfl at_197 (pc' := 199) rfl ?_
            refine own_bipush X2635 (v := (6 : Int32)) (by decide) at_199 (pc' := 201) rfl ?_
            obtain ⟨i2644, e2644⟩ : ∃ v, XT.ushr p4 (6 : Int32) = v := ⟨_, rfl⟩
            refine own_iushr X2635 e2644 at_201 (pc' := 202) rfl ?_
            refine own_bipush X2635 (v := (7 : Int32)) (by decide) at_202 (pc' := 204) rfl ?_
            obtain ⟨i2645, e2645⟩ : ∃ v, i2644 &&& (7 : Int32) = v := ⟨_, rfl⟩
            have f2645 : own_I 7 i2645.toInt i2645 := own_I.and e2645 (by decide)
            have nn2645 := own_and_nn (M := 7) e2645 (by decide)
            refine own_iand X2635 e2645 at_204 (pc' := 205) rfl ?_
            obtain ⟨d2646, e2646⟩ : ∃ v, FP.i2d i2645 = v := ⟨_, rfl⟩
            have f2646 : own_D 0 7 i2645.toInt d2646 := own_D.i2d f2645 e2646
            refine own_i2d X2635 e2646 at_205 (pc' := 206) rfl ?_
            refine own_dastore X2635 V2635 ge2608 (i := 2) (by decide) (by decide) (show 2 < 4 by decide) at_206 (pc' := 207) rfl fun T2647 h2647 X2647 W2647 V2647 => ?_
            have A2648 := A2636.wr W2647
            have A2649 := A2637.wr W2647
            have A2650 := A2638.wr W2647
            have A2651 := A2639.wr W2647
            have A2652 := A2640.wr W2647
            have V2653 := V2641.other W2647 ne2613
            have A2654 := A2642.wr W2647
            have S2655 := S2643.wr W2647
            replace V2647 : own_Vec Z h2647 a2608 .double [(.double d2622), (.double d2634), (.double d2646), (.double (0 : UInt64))] := V2647
            refine own_aload X2647 rfl rfl at_207 (pc' := 209) rfl ?_
            refine own_iconst X2647 (v := (3 : Int32)) (by decide) at_209 (pc' := 210) rfl ?_
            refine own_dconst0 X2647 (v := (0 : UInt64)) rfl at_210 (pc' := 211) rfl ?_
            refine own_dastore X2647 V2647 ge2608 (i := 3) (by decide) (by decide) (show 3 < 4 by decide) at_211 (pc' := 212) rfl fun T2656 h2656 X2656 W2656 V2656 => ?_
            have A2657 := A2648.wr W2656
            have A2658 := A2649.wr W2656
            have A2659 := A2650.wr W2656
            have A2660 := A2651.wr W2656
            have A2661 := A2652.wr W2656
            have V2662 := V2653.other W2656 ne2613
            have A2663 := A2654.wr W2656
            have S2664 := S2655.wr W2656
            replace V2656 : own_Vec Z h2656 a2608 .double [(.double d2622), (.double d2634), (.double d2646), (.double (0 : UInt64))] := V2656
            refine own_iconst X2656 (v := (4 : Int32)) (by decide) at_212 (pc' := 213) rfl ?_
            refine own_anewarray X2656 (ww 5 rfl) (ww 36 rfl) (ad := "[Ljava/lang/String;") (by decide) (n := 4) (vs := [.null, .null, .null, .null]) (by decide) (by decide) (by decide) rfl (cells' := 15) (slots' := 44) rfl rfl (by decide) (by decide) at_213 (pc' := 216) rfl fun a2665 T2665 h2665 g2665 ge2665 X2665 E2665 V2665 A2665 O2665 => ?_
            have ne2666 : b2547 ≠ a2665 := own_lt_ne A2657.lt g2665
            have ne2667 : b2549 ≠ a2665 := own_lt_ne A2658.lt g2665
            have ne2668 : b2552 ≠ a2665 := own_lt_ne A2659.lt g2665
            have ne2669 : b2556 ≠ a2665 := own_lt_ne A2660.lt g2665
            have ne2670 : a2570 ≠ a2665 := own_lt_ne V2662.lt g2665
            have ne2671 : a2608 ≠ a2665 := own_lt_ne V2656.lt g2665
            have A2672 := A2657.ext E2665
            have A2673 := A2658.ext E2665
            have A2674 := A2659.ext E2665
            have A2675 := A2660.ext E2665
            have V2676 := V2662.ext E2665
            have A2677 := A2661.ext E2665
            have V2678 := V2656.ext E2665
            have A2679 := A2663.ext E2665
            have S2680 := S2664.ext E2665
            refine own_astore X2665 (Ls' := #[oI p0, oI p1, oI p2, oI p3, oI p4, oI 2, oI 2, oI 3, oI 1, oI 1, oI 0, oI 0, oA b2547, oA b2549, oA b2552, oA b2556, oI b2563, oI b2566, oI b2569, oA a2570, oA a2608, oA a2665, oU, oU, oU, oU, oU, oU, oU, oU, oU, oU, oU]) rfl rfl at_216 (pc' := 218) rfl ?_
            refine own_aload X2665 rfl rfl at_218 (pc' := 220) rfl ?_
            refine own_iconst X2665 (v := (0 : Int32)) (by decide) at_220 (pc' := 221) rfl ?_
            refine own_aload X2665 rfl rfl at_221 (pc' := 223) rfl ?_
            refine own_aastore X2665 V2665 O2665 ge2665 (Or.inr ⟨_, rfl, A2672⟩) (i := 0) (by decide) (by decide) (show 0 < 4 by decide) at_223 (pc' := 224) rfl fun T2681 h2681 X2681 W2681 V2681 => ?_
            have A2682 := A2672.wr W2681
            have A2683 := A2673.wr W2681
            have A2684 := A2674.wr W2681
            have A2685 := A2675.wr W2681
            have A2686 := A2677.wr W2681
            have V2687 := V2676.other W2681 ne2670
            have A2688 := A2679.wr W2681
            have V2689 := V2678.other W2681 ne2671
            have A2690 := A2665.wr W2681
            have O2691 := O2665.wr W2681
            have S2692 := S2680.wr W2681
            replace V2681 : own_Vec Z h2681 a2665 (.object "java/lang/String") [(.ref b2547), .null, .null, .null] := V2681
            refine own_aload X2681 rfl rfl at_224 (pc' := 226) rfl ?_
            refine own_iconst X2681 (v := (1 : Int32)) (by decide) at_226 (pc' := 227) rfl ?_
            refine own_iload X2681 rfl at_227 (pc' := 229) rfl ?_
            refine own_ifT X2681 (by decide) at_229 (pc' := 237) (by decide) (by decide) ?_
            refine own_aload X2681 rfl rfl at_237 (pc' := 239) rfl ?_
            refine own_goto X2681 at_239 (pc' := 243) (by decide) (by decide) ?_
            refine own_aastore X2681 V2681 O2691 ge2665 (Or.inr ⟨_, rfl, A2683⟩) (i := 1) (by decide) (by decide) (show 1 < 4 by decide) at_243 (pc' := 244) rfl fun T2693 h2693 X2693 W2693 V2693 => ?_
            have A2694 := A2682.wr W2693
            have A2695 := A2683.wr W2693
            have A2696 := A2684.wr W2693
            have A2697 := A2685.wr W2693
            have A2698 := A2686.wr W2693
            have V2699 := V2687.other W2693 ne2670
            have A2700 := A2688.wr W2693
            have V2701 := V2689.other W2693 ne2671
            have A2702 := A2690.wr W2693
            have O2703 := O2691.wr W2693
            have S2704 := S2692.wr W2693
            replace V2693 : own_Vec Z h2693 a2665 (.object "java/lang/String") [(.ref b2547), (.ref b2549), .null, .null] := V2693
            refine own_aload X2693 rfl rfl at_244 (pc' := 246) rfl ?_
            refine own_iconst X2693 (v := (2 : Int32)) (by decide) at_246 (pc' := 247) rfl ?_
            refine own_iload X2693 rfl at_247 (pc' := 249) rfl ?_
            refine own_ifF X2693 (by decide) at_249 (pc' := 252) rfl ?_
            refine own_iload X2693 rfl at_252 (pc' := 254) rfl ?_
            have J2705 : ∀ (b2705 : Value) (hb2705 : b2705 = .null ∨ b2705 = .ref b2552), own_Goal p e below (own_Fin below s room_1 n0 (fun v _ => v = some (.int 1))) T2693 (mkF m 263 #[oI p0, oI p1, oI p2, oI p3, oI p4, oI 2, oI 2, oI 3, oI 1, oI 1, oI 0, oI 0, oA b2547, oA b2549, oA b2552, oA b2556, oI b2563, oI b2566, oI b2569, oA a2570, oA a2608, oA a2665, oU, oU, oU, oU, oU, oU, oU, oU, oU, oU, oU] [b2705, (.int (2 : Int32)), (.ref a2665)]) := by
              intro b2705 hb2705
              have fb2705 : fits (.object "java/lang/String") b2705 = true := by rcases hb2705 with q | q <;> rw [q] <;> rfl
              refine own_aastore X2693 V2693 O2703 ge2665 (hb2705.elim Or.inl fun q => Or.inr ⟨_, q, A2696⟩) (i := 2) (by decide) (by decide) (show 2 < 4 by decide) at_263 (pc' := 264) rfl fun T2706 h2706 X2706 W2706 V2706 => ?_
              have A2707 := A2694.wr W2706
              have A2708 := A2695.wr W2706
              have A2709 := A2696.wr W2706
              have A2710 := A2697.wr W2706
              have A2711 := A2698.wr W2706
              have V2712 := V2699.other W2706 ne2670
              have A2713 := A2700.wr W2706
              have V2714 := V2701.other W2706 ne2671
              have A2715 := A2702.wr W2706
              have O2716 := O2703.wr W2706
              have S2717 := S2704.wr W2706
              replace V2706 : own_Vec Z h2706 a2665 (.object "java/lang/String") [(.ref b2547), (.ref b2549), b2705, .null] := V2706
              refine own_aload X2706 rfl rfl at_264 (pc' := 266) rfl ?_
              refine own_iconst X2706 (v := (3 : Int32)) (by decide) at_266 (pc' := 267) rfl ?_
              refine own_iload X2706 rfl at_267 (pc' := 269) rfl ?_
              have J2718 : ∀ (b2718 : Value) (hb2718 : b2718 = .null ∨ b2718 = .ref b2556), own_Goal p e below (own_Fin below s room_1 n0 (fun v _ => v = some (.int 1))) T2706 (mkF m 278 #[oI p0, oI p1, oI p2, oI p3, oI p4, oI 2, oI 2, oI 3, oI 1, oI 1, oI 0, oI 0, oA b2547, oA b2549, oA b2552, oA b2556, oI b2563, oI b2566, oI b2569, oA a2570, oA a2608, oA a2665, oU, oU, oU, oU, oU, oU, oU, oU, oU, oU, oU] [b2718, (.int (3 : Int32)), (.ref a2665)]) := by
                intro b2718 hb2718
                have fb2718 : fits (.object "java/lang/String") b2718 = true := by rcases hb2718 with q | q <;> rw [q] <;> rfl
                refine own_aastore X2706 V2706 O2716 ge2665 (hb2718.elim Or.inl fun q => Or.inr ⟨_, q, A2710⟩) (i := 3) (by decide) (by decide) (show 3 < 4 by decide) at_278 (pc' := 279) rfl fun T2719 h2719 X2719 W2719 V2719 => ?_
                have A2720 := A2707.wr W2719
                have A2721 := A2708.wr W2719
                have A2722 := A2709.wr W2719
                have A2723 := A2710.wr W2719
                have A2724 := A2711.wr W2719
                have V2725 := V2712.other W2719 ne2670
                have A2726 := A2713.wr W2719
                have V2727 := V2714.other W2719 ne2671
                have A2728 := A2715.wr W2719
                have O2729 := O2716.wr W2719
                have S2730 := S2717.wr W2719
                replace V2719 : own_Vec Z h2719 a2665 (.object "java/lang/String") [(.ref b2547), (.ref b2549), b2705, b2718] := V2719
                refine own_aload X2719 rfl rfl at_279 (pc' := 281) rfl ?_
                refine own_astore X2719 (Ls' := #[oI p0, oI p1, oI p2, oI p3, oI p4, oI 2, oI 2, oI 3, oI 1, oI 1, oI 0, oI 0, oA b2547, oA b2549, oA b2552, oA b2556, oI b2563, oI b2566, oI b2569, oA a2570, oA a2608, oA a2665, oA b2547, oU, oU, oU, oU, oU, oU, oU, oU, oU, oU]) rfl rfl at_281 (pc' := 283) rfl ?_
                refine own_iload X2719 rfl at_283 (pc' := 285) rfl ?_
                refine own_ifF X2719 (by decide) at_285 (pc' := 288) rfl ?_
                refine own_aload X2719 rfl rfl at_288 (pc' := 290) rfl ?_
                refine own_goto X2719 at_290 (pc' := 294) (by decide) (by decide) ?_
                refine own_astore X2719 (Ls' := #[oI p0, oI p1, oI p2, oI p3, oI p4, oI 2, oI 2, oI 3, oI 1, oI 1, oI 0, oI 0, oA b2547, oA b2549, oA b2552, oA b2556, oI b2563, oI b2566, oI b2569, oA a2570, oA a2608, oA a2665, oA b2547, oA b2549, oU, oU, oU, oU, oU, oU, oU, oU, oU]) rfl rfl at_294 (pc' := 296) rfl ?_
                refine own_iload X2719 rfl at_296 (pc' := 298) rfl ?_
                refine own_ifT X2719 (by decide) at_298 (pc' := 306) (by decide) (by decide) ?_
                refine own_aconst_null X2719  at_306 (pc' := 307) rfl ?_
                refine own_astore X2719 (Ls' := #[oI p0, oI p1, oI p2, oI p3, oI p4, oI 2, oI 2, oI 3, oI 1, oI 1, oI 0, oI 0, oA b2547, oA b2549, oA b2552, oA b2556, oI b2563, oI b2566, oI b2569, oA a2570, oA a2608, oA a2665, oA b2547, oA b2549, .val .null, oU, oU, oU, oU, oU, oU, oU, oU]) rfl rfl at_307 (pc' := 309) rfl ?_
                refine own_iload X2719 rfl at_309 (pc' := 311) rfl ?_
                refine own_ifT X2719 (by decide) at_311 (pc' := 319) (by decide) (by decide) ?_
                refine own_aconst_null X2719  at_319 (pc' := 320) rfl ?_
                refine own_astore X2719 (Ls' := #[oI p0, oI p1, oI p2, oI p3, oI p4, oI 2, oI 2, oI 3, oI 1, oI 1, oI 0, oI 0, oA b2547, oA b2549, oA b2552, oA b2556, oI b2563, oI b2566, oI b2569, oA a2570, oA a2608, oA a2665, oA b2547, oA b2549, .val .null, .val .null, oU, oU, oU, oU, oU, oU, oU]) rfl rfl at_320 (pc' := 322) rfl ?_
                refine own_new X2719 (ww 37 rfl) (ww 38 rfl) (ww 39 rfl) (cells' := 16) (slots' := 49) rfl rfl (by decide) (by decide) at_322 (pc' := 325) rfl fun a2731 T2731 h2731 g2731 ge2731 X2731 E2731 A2731 D2731 => ?_
                have ne2732 : b2547 ≠ a2731 := own_lt_ne A2720.lt g2731
                have ne2733 : b2549 ≠ a2731 := own_lt_ne A2721.lt g2731
                have ne2734 : b2552 ≠ a2731 := own_lt_ne A2722.lt g2731
                have ne2735 : b2556 ≠ a2731 := own_lt_ne A2723.lt g2731
                have ne2736 : a2570 ≠ a2731 := own_lt_ne V2725.lt g2731
                have ne2737 : a2608 ≠ a2731 := own_lt_ne V2727.lt g2731
                have ne2738 : a2665 ≠ a2731 := own_lt_ne V2719.lt g2731
                have A2739 := A2720.ext E2731
                have A2740 := A2721.ext E2731
                have A2741 := A2722.ext E2731
                have A2742 := A2723.ext E2731
                have V2743 := V2725.ext E2731
                have A2744 := A2724.ext E2731
                have V2745 := V2727.ext E2731
                have A2746 := A2726.ext E2731
                have V2747 := V2719.ext E2731
                have A2748 := A2728.ext E2731
                have O2749 := O2729.ext E2731
                have S2750 := S2730.ext E2731
                have F2751 : Fld Z h2731 a2731 "com/example/cladewalk/cladewalk/tree/Tree" "parents" "[I" .null := D2731 (Or.inr (ww 54 rfl)) (ty := (.array .int)) (by decide)
                have F2752 : Fld Z h2731 a2731 "com/example/cladewalk/cladewalk/tree/Tree" "lengths" "[D" .null := D2731 (Or.inr (ww 62 rfl)) (ty := (.array .double)) (by decide)
                have F2753 : Fld Z h2731 a2731 "com/example/cladewalk/cladewalk/tree/Tree" "names" "[Ljava/lang/String;" .null := D2731 (Or.inr (ww 70 rfl)) (ty := (.array (.object "java/lang/String"))) (by decide)
                have F2754 : Fld Z h2731 a2731 "com/example/cladewalk/cladewalk/tree/Tree" "childCounts" "[I" .null := D2731 (Or.inr (ww 72 rfl)) (ty := (.array .int)) (by decide)
                have F2755 : Fld Z h2731 a2731 "com/example/cladewalk/cladewalk/tree/Tree" "tipCount" "I" (.int (0 : Int32)) := D2731 (Or.inr (ww 75 rfl)) (ty := .int) (by decide)
                refine own_dup X2731 rfl at_325 (pc' := 326) rfl ?_
                refine own_aload X2731 rfl rfl at_326 (pc' := 328) rfl ?_
                refine own_aload X2731 rfl rfl at_328 (pc' := 330) rfl ?_
                refine own_aload X2731 rfl rfl at_330 (pc' := 332) rfl ?_
                refine own_special X2731 (own_ti_22 l Z a0 hw a2731 a2570 a2608 a2665 d2622 i2621.toInt d2634 i2633.toInt d2646 i2645.toInt b2547 b2549 b2705 b2718 _ n0 X2731.le ge2731 A2731 F2751 F2752 F2753 F2754 F2755 V2743 V2745 V2747 A2744 A2746 A2748 ne2736.symm ne2737.symm ne2738.symm f2622 (by omega) f2634 (by omega) f2646 (by omega) fb2705 fb2718) rfl rfl (ww 40 rfl) (ww 41 rfl) (ww 39 rfl) (ww 42 rfl) (by decide) rfl (by decide) (W := 1) (Nat.le_of_eq rfl) (by decide) (cells' := 20) (slots' := 65) rfl rfl (by decide) (by decide) (argsL := [(.ref a2570), (.ref a2608), (.ref a2665)]) (rest := [(.ref a2731)]) (lenOf own_pd13 rfl) rfl rfl at_332 (pc' := 335) rfl ?_
                rintro _ T2756 h2756 X2756 ⟨rfl, ⟨x2756, y2756, F2756a, F2756b, V2756a, V2756b⟩, K2756⟩
                have S2757 := own_Sta.keep1 S2750 K2756 A2731
                have A2758 := A2739.keep K2756
                have A2759 := A2740.keep K2756
                have A2760 := A2741.keep K2756
                have A2761 := A2742.keep K2756
                have A2762 := A2731.keep K2756
                show own_Goal p e below _ T2756 (mkF m 335 #[oI p0, oI p1, oI p2, oI p3, oI p4, oI 2, oI 2, oI 3, oI 1, oI 1, oI 0, oI 0, oA b2547, oA b2549, oA b2552, oA b2556, oI b2563, oI b2566, oI b2569, oA a2570, oA a2608, oA a2665, oA b2547, oA b2549, .val .null, .val .null, oU, oU, oU, oU, oU, oU, oU] [(.ref a2731)])
                refine own_astore X2756 (Ls' := #[oI p0, oI p1, oI p2, oI p3, oI p4, oI 2, oI 2, oI 3, oI 1, oI 1, oI 0, oI 0, oA b2547, oA b2549, oA b2552, oA b2556, oI b2563, oI b2566, oI b2569, oA a2570, oA a2608, oA a2665, oA b2547, oA b2549, .val .null, .val .null, oA a2731, oU, oU, oU, oU, oU, oU]) rfl rfl at_335 (pc' := 337) rfl ?_
                refine own_aload X2756 rfl rfl at_337 (pc' := 339) rfl ?_
                refine own_iconst X2756 (v := (0 : Int32)) (by decide) at_339 (pc' := 340) rfl ?_
                refine own_virtual X2756 (own_name_4_0_1 l Z a0 hw a2731 x2756 y2756 b2547 (0 : Int32) (0 : Int32) (2 : Int32) (1 : Int32) (.ref b2549) b2705 b2718 _ n0 X2756.le F2756a F2756b V2756a V2756b (by decide)) (C := "com/example/cladewalk/cladewalk/tree/Tree") rfl (ww 76 rfl) (ww 77 rfl) (ww 79 rfl) (ww 78 rfl) (ww 39 rfl) (ww 80 rfl) (by decide) rfl (by decide) (W := 0) (Nat.le_of_eq rfl) (by decide) (cells' := 20) (slots' := 65) rfl rfl (by decide) (by decide) A2762 (argsL := [(.int (0 : Int32))]) (rest := []) (lenOf own_pd12 rfl) rfl rfl at_340 (pc' := 343) rfl ?_
                rintro _ T2763 h2763 X2763 ⟨rfl, e2763⟩
                subst e2763
                show own_Goal p e below _ T2763 (mkF m 343 #[oI p0, oI p1, oI p2, oI p3, oI p4, oI 2, oI 2, oI 3, oI 1, oI 1, oI 0, oI 0, oA b2547, oA b2549, oA b2552, oA b2556, oI b2563, oI b2566, oI b2569, oA a2570, oA a2608, oA a2665, oA b2547, oA b2549, .val .null, .val .null, oA a2731, oU, oU, oU, oU, oU, oU] [(.ref b2547)])
                refine own_aload X2763 rfl rfl at_343 (pc' := 345) rfl ?_
                refine own_callS X2763 (own_sameA l Z a0 hw b2547 _ n0 X2763.le A2758) (ww 81 rfl) (ww 82 rfl) (ww 2 rfl) (ww 83 rfl) (by decide) rfl (by decide) (W := 0) (Nat.le_of_eq rfl) (by decide) (cells' := 20) (slots' := 65) rfl rfl (by decide) (by decide) (argsL := [(.ref b2547), (.ref b2547)]) (rest := []) (lenOf own_pd11 rfl) rfl rfl at_345 (pc' := 348) rfl ?_
                rintro _ T2764 h2764 X2764 ⟨rfl, e2764⟩
                subst e2764
                show own_Goal p e below _ T2764 (mkF m 348 #[oI p0, oI p1, oI p2, oI p3, oI p4, oI 2, oI 2, oI 3, oI 1, oI 1, oI 0, oI 0, oA b2547, oA b2549, oA b2552, oA b2556, oI b2563, oI b2566, oI b2569, oA a2570, oA a2608, oA a2665, oA b2547, oA b2549, .val .null, .val .null, oA a2731, oU, oU, oU, oU, oU, oU] [(.int (1 : Int32))])
                refine own_ifF X2764 (by decide) at_348 (pc' := 351) rfl ?_
                refine own_aload X2764 rfl rfl at_351 (pc' := 353) rfl ?_
                refine own_iconst X2764 (v := (1 : Int32)) (by decide) at_353 (pc' := 354) rfl ?_
                refine own_virtual X2764 (own_name_4_1_1 l Z a0 hw a2731 x2756 y2756 b2549 (0 : Int32) (0 : Int32) (2 : Int32) (1 : Int32) (.ref b2547) b2705 b2718 _ n0 X2764.le F2756a F2756b V2756a V2756b (by decide)) (C := "com/example/cladewalk/cladewalk/tree/Tree") rfl (ww 76 rfl) (ww 77 rfl) (ww 79 rfl) (ww 78 rfl) (ww 39 rfl) (ww 80 rfl) (by decide) rfl (by decide) (W := 0) (Nat.le_of_eq rfl) (by decide) (cells' := 20) (slots' := 65) rfl rfl (by decide) (by decide) A2762 (argsL := [(.int (1 : Int32))]) (rest := []) (lenOf own_pd12 rfl) rfl rfl at_354 (pc' := 357) rfl ?_
                rintro _ T2765 h2765 X2765 ⟨rfl, e2765⟩
                subst e2765
                show own_Goal p e below _ T2765 (mkF m 357 #[oI p0, oI p1, oI p2, oI p3, oI p4, oI 2, oI 2, oI 3, oI 1, oI 1, oI 0, oI 0, oA b2547, oA b2549, oA b2552, oA b2556, oI b2563, oI b2566, oI b2569, oA a2570, oA a2608, oA a2665, oA b2547, oA b2549, .val .null, .val .null, oA a2731, oU, oU, oU, oU, oU, oU] [(.ref b2549)])
                refine own_aload X2765 rfl rfl at_357 (pc' := 359) rfl ?_
                refine own_callS X2765 (own_sameA l Z a0 hw b2549 _ n0 X2765.le A2759) (ww 81 rfl) (ww 82 rfl) (ww 2 rfl) (ww 83 rfl) (by decide) rfl (by decide) (W := 0) (Nat.le_of_eq rfl) (by decide) (cells' := 20) (slots' := 65) rfl rfl (by decide) (by decide) (argsL := [(.ref b2549), (.ref b2549)]) (rest := []) (lenOf own_pd11 rfl) rfl rfl at_359 (pc' := 362) rfl ?_
                rintro _ T2766 h2766 X2766 ⟨rfl, e2766⟩
                subst e2766
                show own_Goal p e below _ T2766 (mkF m 362 #[oI p0, oI p1, oI p2, oI p3, oI p4, oI 2, oI 2, oI 3, oI 1, oI 1, oI 0, oI 0, oA b2547, oA b2549, oA b2552, oA b2556, oI b2563, oI b2566, oI b2569, oA a2570, oA a2608, oA a2665, oA b2547, oA b2549, .val .null, .val .null, oA a2731, oU, oU, oU, oU, oU, oU] [(.int (1 : Int32))])
                refine own_ifF X2766 (by decide) at_362 (pc' := 365) rfl ?_
                refine own_aload X2766 rfl rfl at_365 (pc' := 367) rfl ?_
                refine own_iconst X2766 (v := (2 : Int32)) (by decide) at_367 (pc' := 368) rfl ?_
                refine own_virtual X2766 (own_name_4_2_0 l Z a0 hw a2731 x2756 y2756 (0 : Int32) (0 : Int32) (2 : Int32) (1 : Int32) (.ref b2547) (.ref b2549) b2705 b2718 _ n0 X2766.le F2756a F2756b V2756a V2756b (by decide)) (C := "com/example/cladewalk/cladewalk/tree/Tree") rfl (ww 76 rfl) (ww 77 rfl) (ww 79 rfl) (ww 78 rfl) (ww 39 rfl) (ww 80 rfl) (by decide) rfl (by decide) (W := 0) (Nat.le_of_eq rfl) (by decide) (cells' := 20) (slots' := 65) rfl rfl (by decide) (by decide) A2762 (argsL := [(.int (2 : Int32))]) (rest := []) (lenOf own_pd12 rfl) rfl rfl at_368 (pc' := 371) rfl ?_
                rintro _ T2767 h2767 X2767 ⟨rfl, e2767⟩
                subst e2767
                show own_Goal p e below _ T2767 (mkF m 371 #[oI p0, oI p1, oI p2, oI p3, oI p4, oI 2, oI 2, oI 3, oI 1, oI 1, oI 0, oI 0, oA b2547, oA b2549, oA b2552, oA b2556, oI b2563, oI b2566, oI b2569, oA a2570, oA a2608, oA a2665, oA b2547, oA b2549, .val .null, .val .null, oA a2731, oU, oU, oU, oU, oU, oU] [.null])
                refine own_aload X2767 rfl rfl at_371 (pc' := 373) rfl ?_
                refine own_callS X2767 (own_sameN l Z a0 hw _ n0 X2767.le) (ww 81 rfl) (ww 82 rfl) (ww 2 rfl) (ww 83 rfl) (by decide) rfl (by decide) (W := 0) (Nat.le_of_eq rfl) (by decide) (cells' := 20) (slots' := 65) rfl rfl (by decide) (by decide) (argsL := [.null, .null]) (rest := []) (lenOf own_pd11 rfl) rfl rfl at_373 (pc' := 376) rfl ?_
                rintro _ T2768 h2768 X2768 ⟨rfl, e2768⟩
                subst e2768
                show own_Goal p e below _ T2768 (mkF m 376 #[oI p0, oI p1, oI p2, oI p3, oI p4, oI 2, oI 2, oI 3, oI 1, oI 1, oI 0, oI 0, oA b2547, oA b2549, oA b2552, oA b2556, oI b2563, oI b2566, oI b2569, oA a2570, oA a2608, oA a2665, oA b2547, oA b2549, .val .null, .val .null, oA a2731, oU, oU, oU, oU, oU, oU] [(.int (1 : Int32))])
                refine own_ifF X2768 (by decide) at_376 (pc' := 379) rfl ?_
                refine own_aload X2768 rfl rfl at_379 (pc' := 381) rfl ?_
                refine own_iconst X2768 (v := (3 : Int32)) (by decide) at_381 (pc' := 382) rfl ?_
                refine own_virtual X2768 (own_name_4_3_0 l Z a0 hw a2731 x2756 y2756 (0 : Int32) (0 : Int32) (2 : Int32) (1 : Int32) (.ref b2547) (.ref b2549) b2705 b2718 _ n0 X2768.le F2756a F2756b V2756a V2756b (by decide)) (C := "com/example/cladewalk/cladewalk/tree/Tree") rfl (ww 76 rfl) (ww 77 rfl) (ww 79 rfl) (ww 78 rfl) (ww 39 rfl) (ww 80 rfl) (by decide) rfl (by decide) (W := 0) (Nat.le_of_eq rfl) (by decide) (cells' := 20) (slots' := 65) rfl rfl (by decide) (by decide) A2762 (argsL := [(.int (3 : Int32))]) (rest := []) (lenOf own_pd12 rfl) rfl rfl at_382 (pc' := 385) rfl ?_
                rintro _ T2769 h2769 X2769 ⟨rfl, e2769⟩
                subst e2769
                show own_Goal p e below _ T2769 (mkF m 385 #[oI p0, oI p1, oI p2, oI p3, oI p4, oI 2, oI 2, oI 3, oI 1, oI 1, oI 0, oI 0, oA b2547, oA b2549, oA b2552, oA b2556, oI b2563, oI b2566, oI b2569, oA a2570, oA a2608, oA a2665, oA b2547, oA b2549, .val .null, .val .null, oA a2731, oU, oU, oU, oU, oU, oU] [.null])
                refine own_aload X2769 rfl rfl at_385 (pc' := 387) rfl ?_
                refine own_callS X2769 (own_sameN l Z a0 hw _ n0 X2769.le) (ww 81 rfl) (ww 82 rfl) (ww 2 rfl) (ww 83 rfl) (by decide) rfl (by decide) (W := 0) (Nat.le_of_eq rfl) (by decide) (cells' := 20) (slots' := 65) rfl rfl (by decide) (by decide) (argsL := [.null, .null]) (rest := []) (lenOf own_pd11 rfl) rfl rfl at_387 (pc' := 390) rfl ?_
                rintro _ T2770 h2770 X2770 ⟨rfl, e2770⟩
                subst e2770
                show own_Goal p e below _ T2770 (mkF m 390 #[oI p0, oI p1, oI p2, oI p3, oI p4, oI 2, oI 2, oI 3, oI 1, oI 1, oI 0, oI 0, oA b2547, oA b2549, oA b2552, oA b2556, oI b2563, oI b2566, oI b2569, oA a2570, oA a2608, oA a2665, oA b2547, oA b2549, .val .null, .val .null, oA a2731, oU, oU, oU, oU, oU, oU] [(.int (1 : Int32))])
                refine own_ifF X2770 (by decide) at_390 (pc' := 393) rfl ?_
                refine own_iconst X2770 (v := (1 : Int32)) (by decide) at_393 (pc' := 394) rfl ?_
                refine own_goto X2770 at_394 (pc' := 398) (by decide) (by decide) ?_
                refine own_istore X2770 (Ls' := #[oI p0, oI p1, oI p2, oI p3, oI p4, oI 2, oI 2, oI 3, oI 1, oI 1, oI 0, oI 0, oA b2547, oA b2549, oA b2552, oA b2556, oI b2563, oI b2566, oI b2569, oA a2570, oA a2608, oA a2665, oA b2547, oA b2549, .val .null, .val .null, oA a2731, oI 1, oU, oU, oU, oU, oU]) rfl at_398 (pc' := 400) rfl ?_
                refine own_iconst X2770 (v := (1 : Int32)) (by decide) at_400 (pc' := 401) rfl ?_
                refine own_newarrayE X2770 (ty := .int) rfl (ad := "[I") (by decide) (ww 34 rfl) (n := 1) (vs := [(.int (0 : Int32))]) (by decide) (by decide) (by decide) rfl (cells' := 21) (slots' := 66) rfl rfl (by decide) (by decide) at_401 (pc' := 403) rfl fun a2771 T2771 h2771 g2771 ge2771 X2771 E2771 V2771 A2771 => ?_
                have S2772 := S2757.ext E2771
                refine own_astore X2771 (Ls' := #[oI p0, oI p1, oI p2, oI p3, oI p4, oI 2, oI 2, oI 3, oI 1, oI 1, oI 0, oI 0, oA b2547, oA b2549, oA b2552, oA b2556, oI b2563, oI b2566, oI b2569, oA a2570, oA a2608, oA a2665, oA b2547, oA b2549, .val .null, .val .null, oA a2731, oI 1, oA a2771, oU, oU, oU, oU]) rfl rfl at_403 (pc' := 405) rfl ?_
                refine own_aload X2771 rfl rfl at_405 (pc' := 407) rfl ?_
                refine own_iconst X2771 (v := (0 : Int32)) (by decide) at_407 (pc' := 408) rfl ?_
                refine own_iconst X2771 (v := (-1 : Int32)) (by decide) at_408 (pc' := 409) rfl ?_
                refine own_iastore X2771 V2771 ge2771 (i := 0) (by decide) (by decide) (show 0 < 1 by decide) at_409 (pc' := 410) rfl fun T2773 h2773 X2773 W2773 V2773 => ?_
                have A2774 := A2771.wr W2773
                have S2775 := S2772.wr W2773
                replace V2773 : own_Vec Z h2773 a2771 .int [(.int (-1 : Int32))] := V2773
                refine own_iconst X2773 (v := (1 : Int32)) (by decide) at_410 (pc' := 411) rfl ?_
                refine own_newarrayE X2773 (ty := .double) rfl (ad := "[D") (by decide) (ww 35 rfl) (n := 1) (vs := [(.double (0 : UInt64))]) (by decide) (by decide) (by decide) rfl (cells' := 22) (slots' := 67) rfl rfl (by decide) (by decide) at_411 (pc' := 413) rfl fun a2776 T2776 h2776 g2776 ge2776 X2776 E2776 V2776 A2776 => ?_
                have ne2777 : a2771 ≠ a2776 := own_lt_ne V2773.lt g2776
                have V2778 := V2773.ext E2776
                have A2779 := A2774.ext E2776
                have S2780 := S2775.ext E2776
                refine own_astore X2776 (Ls' := #[oI p0, oI p1, oI p2, oI p3, oI p4, oI 2, oI 2, oI 3, oI 1, oI 1, oI 0, oI 0, oA b2547, oA b2549, oA b2552, oA b2556, oI b2563, oI b2566, oI b2569, oA a2570, oA a2608, oA a2665, oA b2547, oA b2549, .val .null, .val .null, oA a2731, oI 1, oA a2771, oA a2776, oU, oU, oU]) rfl rfl at_413 (pc' := 415) rfl ?_
                refine own_aload X2776 rfl rfl at_415 (pc' := 417) rfl ?_
                refine own_iconst X2776 (v := (0 : Int32)) (by decide) at_417 (pc' := 418) rfl ?_
                refine own_dconst0 X2776 (v := (0 : UInt64)) rfl at_418 (pc' := 419) rfl ?_
                refine own_dastore X2776 V2776 ge2776 (i := 0) (by decide) (by decide) (show 0 < 1 by decide) at_419 (pc' := 420) rfl fun T2781 h2781 X2781 W2781 V2781 => ?_
                have A2782 := A2779.wr W2781
                have V2783 := V2778.other W2781 ne2777
                have A2784 := A2776.wr W2781
                have S2785 := S2780.wr W2781
                replace V2781 : own_Vec Z h2781 a2776 .double [(.double (0 : UInt64))] := V2781
                refine own_iload X2781 rfl at_420 (pc' := 422) rfl ?_
                refine own_bipush X2781 (v := (16 : Int32)) (by decide) at_422 (pc' := 424) rfl ?_
                obtain ⟨i2786, e2786⟩ : ∃ v, XT.ushr p4 (16 : Int32) = v := ⟨_, rfl⟩
                refine own_iushr X2781 e2786 at_424 (pc' := 425) rfl ?_
                refine own_sipush X2781 (v := (255 : Int32)) (by decide) at_425 (pc' := 428) rfl ?_
                obtain ⟨i2787, e2787⟩ : ∃ v, i2786 &&& (255 : Int32) = v := ⟨_, rfl⟩
                have f2787 : own_I 255 i2787.toInt i2787 := own_I.and e2787 (by decide)
                have nn2787 := own_and_nn (M := 255) e2787 (by decide)
                refine own_iand X2781 e2787 at_428 (pc' := 429) rfl ?_
                refine own_i2c X2781 (v := i2787) (own_i2c_mask e2787) at_429 (pc' := 430) rfl ?_
                refine own_callS X2781 (own_vof l Z a0 hw i2787 _ n0 X2781.le f2787 nn2787 cs S2785 hcs) (ww 89 rfl) (ww 90 rfl) (ww 7 rfl) (ww 91 rfl) (by decide) rfl (by decide) (W := 0) (Nat.le_of_eq rfl) (by decide) (cells' := 24) (slots' := 72) rfl rfl (by decide) (by decide) (argsL := [(.int i2787)]) (rest := []) (lenOf own_pd9 rfl) rfl rfl at_430 (pc' := 433) rfl ?_
                rintro _ T2789 h2789 X2789 ⟨b2789, rfl, A2789, K2789⟩
                have S2790 := own_Sta.keep0 S2785 K2789
                have A2791 := A2782.keep K2789
                have V2792 := V2783.keep K2789 nin0
                have A2793 := A2784.keep K2789
                have V2794 := V2781.keep K2789 nin0
                show own_Goal p e below _ T2789 (mkF m 433 #[oI p0, oI p1, oI p2, oI p3, oI p4, oI 2, oI 2, oI 3, oI 1, oI 1, oI 0, oI 0, oA b2547, oA b2549, oA b2552, oA b2556, oI b2563, oI b2566, oI b2569, oA a2570, oA a2608, oA a2665, oA b2547, oA b2549, .val .null, .val .null, oA a2731, oI 1, oA a2771, oA a2776, oU, oU, oU] [(.ref b2789)])
                refine own_astore X2789 (Ls' := #[oI p0, oI p1, oI p2, oI p3, oI p4, oI 2, oI 2, oI 3, oI 1, oI 1, oI 0, oI 0, oA b2547, oA b2549, oA b2552, oA b2556, oI b2563, oI b2566, oI b2569, oA a2570, oA a2608, oA a2665, oA b2547, oA b2549, .val .null, .val .null, oA a2731, oI 1, oA a2771, oA a2776, oA b2789, oU, oU]) rfl rfl at_433 (pc' := 435) rfl ?_
                refine own_iconst X2789 (v := (1 : Int32)) (by decide) at_435 (pc' := 436) rfl ?_
                refine own_anewarray X2789 (ww 5 rfl) (ww 36 rfl) (ad := "[Ljava/lang/String;") (by decide) (n := 1) (vs := [.null]) (by decide) (by decide) (by decide) rfl (cells' := 25) (slots' := 73) rfl rfl (by decide) (by decide) at_436 (pc' := 439) rfl fun a2795 T2795 h2795 g2795 ge2795 X2795 E2795 V2795 A2795 O2795 => ?_
                have ne2796 : a2771 ≠ a2795 := own_lt_ne V2792.lt g2795
                have ne2797 : a2776 ≠ a2795 := own_lt_ne V2794.lt g2795
                have ne2798 : b2789 ≠ a2795 := own_lt_ne A2789.lt g2795
                have V2799 := V2792.ext E2795
                have A2800 := A2791.ext E2795
                have V2801 := V2794.ext E2795
                have A2802 := A2793.ext E2795
                have A2803 := A2789.ext E2795
                have S2804 := S2790.ext E2795
                refine own_astore X2795 (Ls' := #[oI p0, oI p1, oI p2, oI p3, oI p4, oI 2, oI 2, oI 3, oI 1, oI 1, oI 0, oI 0, oA b2547, oA b2549, oA b2552, oA b2556, oI b2563, oI b2566, oI b2569, oA a2570, oA a2608, oA a2665, oA b2547, oA b2549, .val .null, .val .null, oA a2731, oI 1, oA a2771, oA a2776, oA b2789, oA a2795, oU]) rfl rfl at_439 (pc' := 441) rfl ?_
                refine own_aload X2795 rfl rfl at_441 (pc' := 443) rfl ?_
                refine own_iconst X2795 (v := (0 : Int32)) (by decide) at_443 (pc' := 444) rfl ?_
                refine own_aload X2795 rfl rfl at_444 (pc' := 446) rfl ?_
                refine own_aastore X2795 V2795 O2795 ge2795 (Or.inr ⟨_, rfl, A2803⟩) (i := 0) (by decide) (by decide) (show 0 < 1 by decide) at_446 (pc' := 447) rfl fun T2805 h2805 X2805 W2805 V2805 => ?_
                have A2806 := A2800.wr W2805
                have V2807 := V2799.other W2805 ne2796
                have A2808 := A2802.wr W2805
                have V2809 := V2801.other W2805 ne2797
                have A2810 := A2803.wr W2805
                have A2811 := A2795.wr W2805
                have O2812 := O2795.wr W2805
                have S2813 := S2804.wr W2805
                replace V2805 : own_Vec Z h2805 a2795 (.object "java/lang/String") [(.ref b2789)] := V2805
                refine own_new X2805 (ww 37 rfl) (ww 38 rfl) (ww 39 rfl) (cells' := 26) (slots' := 78) rfl rfl (by decide) (by decide) at_447 (pc' := 450) rfl fun a2814 T2814 h2814 g2814 ge2814 X2814 E2814 A2814 D2814 => ?_
                have ne2815 : a2771 ≠ a2814 := own_lt_ne V2807.lt g2814
                have ne2816 : a2776 ≠ a2814 := own_lt_ne V2809.lt g2814
                have ne2817 : b2789 ≠ a2814 := own_lt_ne A2810.lt g2814
                have ne2818 : a2795 ≠ a2814 := own_lt_ne V2805.lt g2814
                have V2819 := V2807.ext E2814
                have A2820 := A2806.ext E2814
                have V2821 := V2809.ext E2814
                have A2822 := A2808.ext E2814
                have A2823 := A2810.ext E2814
                have V2824 := V2805.ext E2814
                have A2825 := A2811.ext E2814
                have O2826 := O2812.ext E2814
                have S2827 := S2813.ext E2814
                have F2828 : Fld Z h2814 a2814 "com/example/cladewalk/cladewalk/tree/Tree" "parents" "[I" .null := D2814 (Or.inr (ww 54 rfl)) (ty := (.array .int)) (by decide)
                have F2829 : Fld Z h2814 a2814 "com/example/cladewalk/cladewalk/tree/Tree" "lengths" "[D" .null := D2814 (Or.inr (ww 62 rfl)) (ty := (.array .double)) (by decide)
                have F2830 : Fld Z h2814 a2814 "com/example/cladewalk/cladewalk/tree/Tree" "names" "[Ljava/lang/String;" .null := D2814 (Or.inr (ww 70 rfl)) (ty := (.array (.object "java/lang/String"))) (by decide)
                have F2831 : Fld Z h2814 a2814 "com/example/cladewalk/cladewalk/tree/Tree" "childCounts" "[I" .null := D2814 (Or.inr (ww 72 rfl)) (ty := (.array .int)) (by decide)
                have F2832 : Fld Z h2814 a2814 "com/example/cladewalk/cladewalk/tree/Tree" "tipCount" "I" (.int (0 : Int32)) := D2814 (Or.inr (ww 75 rfl)) (ty := .int) (by decide)
                refine own_dup X2814 rfl at_450 (pc' := 451) rfl ?_
                refine own_aload X2814 rfl rfl at_451 (pc' := 453) rfl ?_
                refine own_aload X2814 rfl rfl at_453 (pc' := 455) rfl ?_
                refine own_aload X2814 rfl rfl at_455 (pc' := 457) rfl ?_
                refine own_special X2814 (own_ti_1 l Z a0 hw a2814 a2771 a2776 a2795 b2789 _ n0 X2814.le ge2814 A2814 F2828 F2829 F2830 F2831 F2832 V2819 V2821 V2824 A2820 A2822 A2825 ne2815.symm ne2816.symm ne2818.symm ) rfl rfl (ww 40 rfl) (ww 41 rfl) (ww 39 rfl) (ww 42 rfl) (by decide) rfl (by decide) (W := 1) (Nat.le_of_eq rfl) (by decide) (cells' := 30) (slots' := 82) rfl rfl (by decide) (by decide) (argsL := [(.ref a2771), (.ref a2776), (.ref a2795)]) (rest := [(.ref a2814)]) (lenOf own_pd13 rfl) rfl rfl at_457 (pc' := 460) rfl ?_
                rintro _ T2833 h2833 X2833 ⟨rfl, ⟨x2833, y2833, F2833a, F2833b, V2833a, V2833b⟩, K2833⟩
                have S2834 := own_Sta.keep1 S2827 K2833 A2814
                have A2835 := A2823.keep K2833
                have A2836 := A2814.keep K2833
                show own_Goal p e below _ T2833 (mkF m 460 #[oI p0, oI p1, oI p2, oI p3, oI p4, oI 2, oI 2, oI 3, oI 1, oI 1, oI 0, oI 0, oA b2547, oA b2549, oA b2552, oA b2556, oI b2563, oI b2566, oI b2569, oA a2570, oA a2608, oA a2665, oA b2547, oA b2549, .val .null, .val .null, oA a2731, oI 1, oA a2771, oA a2776, oA b2789, oA a2795, oU] [(.ref a2814)])
                refine own_astore X2833 (Ls' := #[oI p0, oI p1, oI p2, oI p3, oI p4, oI 2, oI 2, oI 3, oI 1, oI 1, oI 0, oI 0, oA b2547, oA b2549, oA b2552, oA b2556, oI b2563, oI b2566, oI b2569, oA a2570, oA a2608, oA a2665, oA b2547, oA b2549, .val .null, .val .null, oA a2731, oI 1, oA a2771, oA a2776, oA b2789, oA a2795, oA a2814]) rfl rfl at_460 (pc' := 462) rfl ?_
                refine own_iload X2833 rfl at_462 (pc' := 464) rfl ?_
                refine own_ifF X2833 (by decide) at_464 (pc' := 467) rfl ?_
                refine own_aload X2833 rfl rfl at_467 (pc' := 469) rfl ?_
                refine own_iconst X2833 (v := (0 : Int32)) (by decide) at_469 (pc' := 470) rfl ?_
                refine own_virtual X2833 (own_name_1_0_1 l Z a0 hw a2814 x2833 y2833 b2789 (0 : Int32) _ n0 X2833.le F2833a F2833b V2833a V2833b (by decide)) (C := "com/example/cladewalk/cladewalk/tree/Tree") rfl (ww 76 rfl) (ww 77 rfl) (ww 79 rfl) (ww 78 rfl) (ww 39 rfl) (ww 80 rfl) (by decide) rfl (by decide) (W := 0) (Nat.le_of_eq rfl) (by decide) (cells' := 30) (slots' := 82) rfl rfl (by decide) (by decide) A2836 (argsL := [(.int (0 : Int32))]) (rest := []) (lenOf own_pd12 rfl) rfl rfl at_470 (pc' := 473) rfl ?_
                rintro _ T2837 h2837 X2837 ⟨rfl, e2837⟩
                subst e2837
                show own_Goal p e below _ T2837 (mkF m 473 #[oI p0, oI p1, oI p2, oI p3, oI p4, oI 2, oI 2, oI 3, oI 1, oI 1, oI 0, oI 0, oA b2547, oA b2549, oA b2552, oA b2556, oI b2563, oI b2566, oI b2569, oA a2570, oA a2608, oA a2665, oA b2547, oA b2549, .val .null, .val .null, oA a2731, oI 1, oA a2771, oA a2776, oA b2789, oA a2795, oA a2814] [(.ref b2789)])
                refine own_aload X2837 rfl rfl at_473 (pc' := 475) rfl ?_
                refine own_callS X2837 (own_sameA l Z a0 hw b2789 _ n0 X2837.le A2835) (ww 81 rfl) (ww 82 rfl) (ww 2 rfl) (ww 83 rfl) (by decide) rfl (by decide) (W := 0) (Nat.le_of_eq rfl) (by decide) (cells' := 30) (slots' := 82) rfl rfl (by decide) (by decide) (argsL := [(.ref b2789), (.ref b2789)]) (rest := []) (lenOf own_pd11 rfl) rfl rfl at_475 (pc' := 478) rfl ?_
                rintro _ T2838 h2838 X2838 ⟨rfl, e2838⟩
                subst e2838
                show own_Goal p e below _ T2838 (mkF m 478 #[oI p0, oI p1, oI p2, oI p3, oI p4, oI 2, oI 2, oI 3, oI 1, oI 1, oI 0, oI 0, oA b2547, oA b2549, oA b2552, oA b2556, oI b2563, oI b2566, oI b2569, oA a2570, oA a2608, oA a2665, oA b2547, oA b2549, .val .null, .val .null, oA a2731, oI 1, oA a2771, oA a2776, oA b2789, oA a2795, oA a2814] [(.int (1 : Int32))])
                refine own_ifF X2838 (by decide) at_478 (pc' := 481) rfl ?_
                refine own_iload X2838 rfl at_481 (pc' := 483) rfl ?_
                refine own_ifF X2838 (by decide) at_483 (pc' := 486) rfl ?_
                refine own_iconst X2838 (v := (1 : Int32)) (by decide) at_486 (pc' := 487) rfl ?_
                refine own_goto X2838 at_487 (pc' := 491) (by decide) (by decide) ?_
                exact own_retZ X2838 (by decide) at_491 rfl (by decide) (by decide) rfl
              by_cases c2718 : b2569 = 0
              · -- join
                refine own_ifT X2706 (own_z_eq c2718).1 at_269 (pc' := 277) (by decide) (by decide) ?_
                refine own_aconst_null X2706  at_277 (pc' := 278) rfl ?_
                exact J2718 _ (Or.inl rfl)
              · -- join
                refine own_ifF X2706 (own_z_ne c2718).1 at_269 (pc' := 272) rfl ?_
                refine own_aload X2706 rfl rfl at_272 (pc' := 274) rfl ?_
                refine own_goto X2706 at_274 (pc' := 278) (by decide) (by decide) ?_
                exact J2718 _ (Or.inr rfl)
            by_cases c2705 : b2566 = 0
            · -- join
              refine own_ifT X2693 (own_z_eq c2705).1 at_254 (pc' := 262) (by decide) (by decide) ?_
              refine own_aconst_null X2693  at_262 (pc' := 263) rfl ?_
              exact J2705 _ (Or.inl rfl)
            · -- join
              refine own_ifF X2693 (own_z_ne c2705).1 at_254 (pc' := 257) rfl ?_
              refine own_aload X2693 rfl rfl at_257 (pc' := 259) rfl ?_
              refine own_goto X2693 at_259 (pc' := 263) (by decide) (by decide) ?_
              exact J2705 _ (Or.inr rfl)
          by_cases c2569 : i2568 = 0
          · -- join
            refine own_ifT X2556 (own_z_eq c2569).1 at_129 (pc' := 136) (by decide) (by decide) ?_
            refine own_iconst X2556 (v := (0 : Int32)) (by decide) at_136 (pc' := 137) rfl ?_
            exact J2569 _
          · -- join
            refine own_ifF X2556 (own_z_ne c2569).1 at_129 (pc' := 132) rfl ?_
            refine own_iconst X2556 (v := (1 : Int32)) (by decide) at_132 (pc' := 133) rfl ?_
            refine own_goto X2556 at_133 (pc' := 137) (by decide) (by decide) ?_
            exact J2569 _
        by_cases c2566 : i2565 = 0
        · -- join
          refine own_ifT X2556 (own_z_eq c2566).1 at_114 (pc' := 121) (by decide) (by decide) ?_
          refine own_iconst X2556 (v := (0 : Int32)) (by decide) at_121 (pc' := 122) rfl ?_
          exact J2566 _
        · -- join
          refine own_ifF X2556 (own_z_ne c2566).1 at_114 (pc' := 117) rfl ?_
          refine own_iconst X2556 (v := (1 : Int32)) (by decide) at_117 (pc' := 118) rfl ?_
          refine own_goto X2556 at_118 (pc' := 122) (by decide) (by decide) ?_
          exact J2566 _
      by_cases c2563 : i2562 = 0
      · -- join
        refine own_ifT X2556 (own_z_eq c2563).1 at_99 (pc' := 106) (by decide) (by decide) ?_
        refine own_iconst X2556 (v := (0 : Int32)) (by decide) at_106 (pc' := 107) rfl ?_
        exact J2563 _
      · -- join
        refine own_ifF X2556 (own_z_ne c2563).1 at_99 (pc' := 102) rfl ?_
        refine own_iconst X2556 (v := (1 : Int32)) (by decide) at_102 (pc' := 103) rfl ?_
        refine own_goto X2556 at_103 (pc' := 107) (by decide) (by decide) ?_
        exact J2563 _
    · -- 1
      refine own_iadd X0 (v := (3 : Int32)) (by decide) at_18 (pc' := 19) rfl ?_
      refine own_istore X0 (Ls' := #[oI p0, oI p1, oI p2, oI p3, oI p4, oI 2, oI 3, oU, oU, oU, oU, oU, oU, oU, oU, oU, oU, oU, oU, oU, oU, oU, oU, oU, oU, oU, oU, oU, oU, oU, oU, oU, oU]) rfl at_19 (pc' := 21) rfl ?_
      refine own_iconst X0 (v := (3 : Int32)) (by decide) at_21 (pc' := 22) rfl ?_
      refine own_istore X0 (Ls' := #[oI p0, oI p1, oI p2, oI p3, oI p4, oI 2, oI 3, oI 3, oU, oU, oU, oU, oU, oU, oU, oU, oU, oU, oU, oU, oU, oU, oU, oU, oU, oU, oU, oU, oU, oU, oU, oU, oU]) rfl at_22 (pc' := 24) rfl ?_
      refine own_iconst X0 (v := (1 : Int32)) (by decide) at_24 (pc' := 25) rfl ?_
      refine own_istore X0 (Ls' := #[oI p0, oI p1, oI p2, oI p3, oI p4, oI 2, oI 3, oI 3, oI 1, oU, oU, oU, oU, oU, oU, oU, oU, oU, oU, oU, oU, oU, oU, oU, oU, oU, oU, oU, oU, oU, oU, oU, oU]) rfl at_25 (pc' := 27) rfl ?_
      refine own_iload X0 rfl at_27 (pc' := 29) rfl ?_
      refine own_iconst X0 (v := (1 : Int32)) (by decide) at_29 (pc' := 30) rfl ?_
      refine own_icmpF X0 (by decide) at_30 (pc' := 33) rfl ?_
      refine own_iconst X0 (v := (1 : Int32)) (by decide) at_33 (pc' := 34) rfl ?_
      refine own_goto X0 at_34 (pc' := 38) (by decide) (by decide) ?_
      refine own_istore X0 (Ls' := #[oI p0, oI p1, oI p2, oI p3, oI p4, oI 2, oI 3, oI 3, oI 1, oI 1, oU, oU, oU, oU, oU, oU, oU, oU, oU, oU, oU, oU, oU, oU, oU, oU, oU, oU, oU, oU, oU, oU, oU]) rfl at_38 (pc' := 40) rfl ?_
      refine own_iload X0 rfl at_40 (pc' := 42) rfl ?_
      refine own_iconst X0 (v := (2 : Int32)) (by decide) at_42 (pc' := 43) rfl ?_
      refine own_icmpT X0 (by decide) at_43 (pc' := 56) (by decide) (by decide) ?_
      refine own_iconst X0 (v := (0 : Int32)) (by decide) at_56 (pc' := 57) rfl ?_
      refine own_istore X0 (Ls' := #[oI p0, oI p1, oI p2, oI p3, oI p4, oI 2, oI 3, oI 3, oI 1, oI 1, oI 0, oU, oU, oU, oU, oU, oU, oU, oU, oU, oU, oU, oU, oU, oU, oU, oU, oU, oU, oU, oU, oU, oU]) rfl at_57 (pc' := 59) rfl ?_
      refine own_iconst X0 (v := (0 : Int32)) (by decide) at_59 (pc' := 60) rfl ?_
      refine own_istore X0 (Ls' := #[oI p0, oI p1, oI p2, oI p3, oI p4, oI 2, oI 3, oI 3, oI 1, oI 1, oI 0, oI 0, oU, oU, oU, oU, oU, oU, oU, oU, oU, oU, oU, oU, oU, oU, oU, oU, oU, oU, oU, oU, oU]) rfl at_60 (pc' := 62) rfl ?_
      refine own_iloadN X0 rfl at_62 (pc' := 63) rfl ?_
      refine own_iloadN X0 rfl at_63 (pc' := 64) rfl ?_
      refine own_iconst X0 (v := (0 : Int32)) (by decide) at_64 (pc' := 65) rfl ?_
      refine own_callS X0 (own_two l Z a0 hw p1 p2 (0 : Int32) _ n0 X0.le cs S0 hcs) (ww 0 rfl) (ww 1 rfl) (ww 2 rfl) (ww 3 rfl) (by decide) rfl (by decide) (W := 0) (Nat.le_of_eq rfl) (by decide) (cells' := 3) (slots' := 8) rfl rfl (by decide) (by decide) (argsL := [(.int p1), (.int p2), (.int (0 : Int32))]) (rest := []) (lenOf own_pd5 rfl) rfl rfl at_65 (pc' := 68) rfl ?_
      rintro _ T2839 h2839 X2839 ⟨b2839, rfl, A2839, K2839⟩
      have S2840 := own_Sta.keep0 S0 K2839
      show own_Goal p e below _ T2839 (mkF m 68 #[oI p0, oI p1, oI p2, oI p3, oI p4, oI 2, oI 3, oI 3, oI 1, oI 1, oI 0, oI 0, oU, oU, oU, oU, oU, oU, oU, oU, oU, oU, oU, oU, oU, oU, oU, oU, oU, oU, oU, oU, oU] [(.ref b2839)])
      refine own_astore X2839 (Ls' := #[oI p0, oI p1, oI p2, oI p3, oI p4, oI 2, oI 3, oI 3, oI 1, oI 1, oI 0, oI 0, oA b2839, oU, oU, oU, oU, oU, oU, oU, oU, oU, oU, oU, oU, oU, oU, oU, oU, oU, oU, oU, oU]) rfl rfl at_68 (pc' := 70) rfl ?_
      refine own_iloadN X2839 rfl at_70 (pc' := 71) rfl ?_
      refine own_iloadN X2839 rfl at_71 (pc' := 72) rfl ?_
      refine own_iconst X2839 (v := (1 : Int32)) (by decide) at_72 (pc' := 73) rfl ?_
      refine own_callS X2839 (own_two l Z a0 hw p1 p2 (1 : Int32) _ n0 X2839.le cs S2840 hcs) (ww 0 rfl) (ww 1 rfl) (ww 2 rfl) (ww 3 rfl) (by decide) rfl (by decide) (W := 0) (Nat.le_of_eq rfl) (by decide) (cells' := 6) (slots' := 16) rfl rfl (by decide) (by decide) (argsL := [(.int p1), (.int p2), (.int (1 : Int32))]) (rest := []) (lenOf own_pd5 rfl) rfl rfl at_73 (pc' := 76) rfl ?_
      rintro _ T2841 h2841 X2841 ⟨b2841, rfl, A2841, K2841⟩
      have S2842 := own_Sta.keep0 S2840 K2841
      have A2843 := A2839.keep K2841
      show own_Goal p e below _ T2841 (mkF m 76 #[oI p0, oI p1, oI p2, oI p3, oI p4, oI 2, oI 3, oI 3, oI 1, oI 1, oI 0, oI 0, oA b2839, oU, oU, oU, oU, oU, oU, oU, oU, oU, oU, oU, oU, oU, oU, oU, oU, oU, oU, oU, oU] [(.ref b2841)])
      refine own_astore X2841 (Ls' := #[oI p0, oI p1, oI p2, oI p3, oI p4, oI 2, oI 3, oI 3, oI 1, oI 1, oI 0, oI 0, oA b2839, oA b2841, oU, oU, oU, oU, oU, oU, oU, oU, oU, oU, oU, oU, oU, oU, oU, oU, oU, oU, oU]) rfl rfl at_76 (pc' := 78) rfl ?_
      refine own_iloadN X2841 rfl at_78 (pc' := 79) rfl ?_
      refine own_iloadN X2841 rfl at_79 (pc' := 80) rfl ?_
      refine own_iconst X2841 (v := (2 : Int32)) (by decide) at_80 (pc' := 81) rfl ?_
      refine own_callS X2841 (own_two l Z a0 hw p1 p2 (2 : Int32) _ n0 X2841.le cs S2842 hcs) (ww 0 rfl) (ww 1 rfl) (ww 2 rfl) (ww 3 rfl) (by decide) rfl (by decide) (W := 0) (Nat.le_of_eq rfl) (by decide) (cells' := 9) (slots' := 24) rfl rfl (by decide) (by decide) (argsL := [(.int p1), (.int p2), (.int (2 : Int32))]) (rest := []) (lenOf own_pd5 rfl) rfl rfl at_81 (pc' := 84) rfl ?_
      rintro _ T2844 h2844 X2844 ⟨b2844, rfl, A2844, K2844⟩
      have S2845 := own_Sta.keep0 S2842 K2844
      have A2846 := A2843.keep K2844
      have A2847 := A2841.keep K2844
      show own_Goal p e below _ T2844 (mkF m 84 #[oI p0, oI p1, oI p2, oI p3, oI p4, oI 2, oI 3, oI 3, oI 1, oI 1, oI 0, oI 0, oA b2839, oA b2841, oU, oU, oU, oU, oU, oU, oU, oU, oU, oU, oU, oU, oU, oU, oU, oU, oU, oU, oU] [(.ref b2844)])
      refine own_astore X2844 (Ls' := #[oI p0, oI p1, oI p2, oI p3, oI p4, oI 2, oI 3, oI 3, oI 1, oI 1, oI 0, oI 0, oA b2839, oA b2841, oA b2844, oU, oU, oU, oU, oU, oU, oU, oU, oU, oU, oU, oU, oU, oU, oU, oU, oU, oU]) rfl rfl at_84 (pc' := 86) rfl ?_
      refine own_iloadN X2844 rfl at_86 (pc' := 87) rfl ?_
      refine own_iloadN X2844 rfl at_87 (pc' := 88) rfl ?_
      refine own_iconst X2844 (v := (3 : Int32)) (by decide) at_88 (pc' := 89) rfl ?_
      refine own_callS X2844 (own_two l Z a0 hw p1 p2 (3 : Int32) _ n0 X2844.le cs S2845 hcs) (ww 0 rfl) (ww 1 rfl) (ww 2 rfl) (ww 3 rfl) (by decide) rfl (by decide) (W := 0) (Nat.le_of_eq rfl) (by decide) (cells' := 12) (slots' := 32) rfl rfl (by decide) (by decide) (argsL := [(.int p1), (.int p2), (.int (3 : Int32))]) (rest := []) (lenOf own_pd5 rfl) rfl rfl at_89 (pc' := 92) rfl ?_
      rintro _ T2848 h2848 X2848 ⟨b2848, rfl, A2848, K2848⟩
      have S2849 := own_Sta.keep0 S2845 K2848
      have A2850 := A2846.keep K2848
      have A2851 := A2847.keep K2848
      have A2852 := A2844.keep K2848
      show own_Goal p e below _ T2848 (mkF m 92 #[oI p0, oI p1, oI p2, oI p3, oI p4, oI 2, oI 3, oI 3, oI 1, oI 1, oI 0, oI 0, oA b2839, oA b2841, oA b2844, oU, oU, oU, oU, oU, oU, oU, oU, oU, oU, oU, oU, oU, oU, oU, oU, oU, oU] [(.ref b2848)])
      refine own_astore X2848 (Ls' := #[oI p0, oI p1, oI p2, oI p3, oI p4, oI 2, oI 3, oI 3, oI 1, oI 1, oI 0, oI 0, oA b2839, oA b2841, oA b2844, oA b2848, oU, oU, oU, oU, oU, oU, oU, oU, oU, oU, oU, oU, oU, oU, oU, oU, oU]) rfl rfl at_92 (pc' := 94) rfl ?_
      refine own_iloadN X2848 rfl at_94 (pc' := 95) rfl ?_
      refine own_iconst X2848 (v := (1 : Int32)) (by decide) at_95 (pc' := 96) rfl ?_
      obtain ⟨i2853, e2853⟩ : ∃ v, XT.ushr p3 (1 : Int32) = v := ⟨_, rfl⟩
      refine own_iushr X2848 e2853 at_96 (pc' := 97) rfl ?_
      refine own_iconst X2848 (v := (1 : Int32)) (by decide) at_97 (pc' := 98) rfl ?_
      obtain ⟨i2854, e2854⟩ : ∃ v, i2853 &&& (1 : Int32) = v := ⟨_, rfl⟩
      have f2854 : own_I 1 i2854.toInt i2854 := own_I.and e2854 (by decide)
      have nn2854 := own_and_nn (M := 1) e2854 (by decide)
      refine own_iand X2848 e2854 at_98 (pc' := 99) rfl ?_
      have J2855 : ∀ (b2855 : Int32), own_Goal p e below (own_Fin below s room_1 n0 (fun v _ => v = some (.int 1))) T2848 (mkF m 107 #[oI p0, oI p1, oI p2, oI p3, oI p4, oI 2, oI 3, oI 3, oI 1, oI 1, oI 0, oI 0, oA b2839, oA b2841, oA b2844, oA b2848, oU, oU, oU, oU, oU, oU, oU, oU, oU, oU, oU, oU, oU, oU, oU, oU, oU] [(.int b2855)]) := by
        intro b2855
        refine own_istore X2848 (Ls' := #[oI p0, oI p1, oI p2, oI p3, oI p4, oI 2, oI 3, oI 3, oI 1, oI 1, oI 0, oI 0, oA b2839, oA b2841, oA b2844, oA b2848, oI b2855, oU, oU, oU, oU, oU, oU, oU, oU, oU, oU, oU, oU, oU, oU, oU, oU]) rfl at_107 (pc' := 109) rfl ?_
        refine own_iloadN X2848 rfl at_109 (pc' := 110) rfl ?_
        refine own_iconst X2848 (v := (2 : Int32)) (by decide) at_110 (pc' := 111) rfl ?_
        obtain ⟨i2856, e2856⟩ : ∃ v, XT.ushr p3 (2 : Int32) = v := ⟨_, rfl⟩
        refine own_iushr X2848 e2856 at_111 (pc' := 112) rfl ?_
        refine own_iconst X2848 (v := (1 : Int32)) (by decide) at_112 (pc' := 113) rfl ?_
        obtain ⟨i2857, e2857⟩ : ∃ v, i2856 &&& (1 : Int32) = v := ⟨_, rfl⟩
        have f2857 : own_I 1 i2857.toInt i2857 := own_I.and e2857 (by decide)
        have nn2857 := own_and_nn (M := 1) e2857 (by decide)
        refine own_iand X2848 e2857 at_113 (pc' := 114) rfl ?_
        have J2858 : ∀ (b2858 : Int32), own_Goal p e below (own_Fin below s room_1 n0 (fun v _ => v = some (.int 1))) T2848 (mkF m 122 #[oI p0, oI p1, oI p2, oI p3, oI p4, oI 2, oI 3, oI 3, oI 1, oI 1, oI 0, oI 0, oA b2839, oA b2841, oA b2844, oA b2848, oI b2855, oU, oU, oU, oU, oU, oU, oU, oU, oU, oU, oU, oU, oU, oU, oU, oU] [(.int b2858)]) := by
          intro b2858
          refine own_istore X2848 (Ls' := #[oI p0, oI p1, oI p2, oI p3, oI p4, oI 2, oI 3, oI 3, oI 1, oI 1, oI 0, oI 0, oA b2839, oA b2841, oA b2844, oA b2848, oI b2855, oI b2858, oU, oU, oU, oU, oU, oU, oU, oU, oU, oU, oU, oU, oU, oU, oU]) rfl at_122 (pc' := 124) rfl ?_
          refine own_iloadN X2848 rfl at_124 (pc' := 125) rfl ?_
          refine own_iconst X2848 (v := (3 : Int32)) (by decide) at_125 (pc' := 126) rfl ?_
          obtain ⟨i2859, e2859⟩ : ∃ v, XT.ushr p3 (3 : Int32) = v := ⟨_, rfl⟩
          refine own_iushr X2848 e2859 at_126 (pc' := 127) rfl ?_
          refine own_iconst X2848 (v := (1 : Int32)) (by decide) at_127 (pc' := 128) rfl ?_
          obtain ⟨i2860, e2860⟩ : ∃ v, i2859 &&& (1 : Int32) = v := ⟨_, rfl⟩
          have f2860 : own_I 1 i2860.toInt i2860 := own_I.and e2860 (by decide)
          have nn2860 := own_and_nn (M := 1) e2860 (by decide)
          refine own_iand X2848 e2860 at_128 (pc' := 129) rfl ?_
          have J2861 : ∀ (b2861 : Int32), own_Goal p e below (own_Fin below s room_1 n0 (fun v _ => v = some (.int 1))) T2848 (mkF m 137 #[oI p0, oI p1, oI p2, oI p3, oI p4, oI 2, oI 3, oI 3, oI 1, oI 1, oI 0, oI 0, oA b2839, oA b2841, oA b2844, oA b2848, oI b2855, oI b2858, oU, oU, oU, oU, oU, oU, oU, oU, oU, oU, oU, oU, oU, oU, oU] [(.int b2861)]) := by
            intro b2861
            refine own_istore X2848 (Ls' := #[oI p0, oI p1, oI p2, oI p3, oI p4, oI 2, oI 3, oI 3, oI 1, oI 1, oI 0, oI 0, oA b2839, oA b2841, oA b2844, oA b2848, oI b2855, oI b2858, oI b2861, oU, oU, oU, oU, oU, oU, oU, oU, oU, oU, oU, oU, oU, oU]) rfl at_137 (pc' := 139) rfl ?_
            refine own_iconst X2848 (v := (4 : Int32)) (by decide) at_139 (pc' := 140) rfl ?_
            refine own_newarrayE X2848 (ty := .int) rfl (ad := "[I") (by decide) (ww 34 rfl) (n := 4) (vs := [(.int (0 : Int32)), (.int (0 : Int32)), (.int (0 : Int32)), (.int (0 : Int32))]) (by decide) (by decide) (by decide) rfl (cells' := 13) (slots' := 36) rfl rfl (by decide) (by decide) at_140 (pc' := 142) rfl fun a2862 T2862 h2862 g2862 ge2862 X2862 E2862 V2862 A2862 => ?_
            have ne2863 : b2839 ≠ a2862 := own_lt_ne A2850.lt g2862
            have ne2864 : b2841 ≠ a2862 := own_lt_ne A2851.lt g2862
            have ne2865 : b2844 ≠ a2862 := own_lt_ne A2852.lt g2862
            have ne2866 : b2848 ≠ a2862 := own_lt_ne A2848.lt g2862
            have A2867 := A2850.ext E2862
            have A2868 := A2851.ext E2862
            have A2869 := A2852.ext E2862
            have A2870 := A2848.ext E2862
            have S2871 := S2849.ext E2862
            refine own_astore X2862 (Ls' := #[oI p0, oI p1, oI p2, oI p3, oI p4, oI 2, oI 3, oI 3, oI 1, oI 1, oI 0, oI 0, oA b2839, oA b2841, oA b2844, oA b2848, oI b2855, oI b2858, oI b2861, oA a2862, oU, oU, oU, oU, oU, oU, oU, oU, oU, oU, oU, oU, oU]) rfl rfl at_142 (pc' := 144) rfl ?_
            refine own_aload X2862 rfl rfl at_144 (pc' := 146) rfl ?_
            refine own_iconst X2862 (v := (0 : Int32)) (by decide) at_146 (pc' := 147) rfl ?_
            refine own_iload X2862 rfl at_147 (pc' := 149) rfl ?_
            refine own_iastore X2862 V2862 ge2862 (i := 0) (by decide) (by decide) (show 0 < 4 by decide) at_149 (pc' := 150) rfl fun T2872 h2872 X2872 W2872 V2872 => ?_
            have A2873 := A2867.wr W2872
            have A2874 := A2868.wr W2872
            have A2875 := A2869.wr W2872
            have A2876 := A2870.wr W2872
            have A2877 := A2862.wr W2872
            have S2878 := S2871.wr W2872
            replace V2872 : own_Vec Z h2872 a2862 .int [(.int (2 : Int32)), (.int (0 : Int32)), (.int (0 : Int32)), (.int (0 : Int32))] := V2872
            refine own_aload X2872 rfl rfl at_150 (pc' := 152) rfl ?_
            refine own_iconst X2872 (v := (1 : Int32)) (by decide) at_152 (pc' := 153) rfl ?_
            refine own_iload X2872 rfl at_153 (pc' := 155) rfl ?_
            refine own_iastore X2872 V2872 ge2862 (i := 1) (by decide) (by decide) (show 1 < 4 by decide) at_155 (pc' := 156) rfl fun T2879 h2879 X2879 W2879 V2879 => ?_
            have A2880 := A2873.wr W2879
            have A2881 := A2874.wr W2879
            have A2882 := A2875.wr W2879
            have A2883 := A2876.wr W2879
            have A2884 := A2877.wr W2879
            have S2885 := S2878.wr W2879
            replace V2879 : own_Vec Z h2879 a2862 .int [(.int (2 : Int32)), (.int (3 : Int32)), (.int (0 : Int32)), (.int (0 : Int32))] := V2879
            refine own_aload X2879 rfl rfl at_156 (pc' := 158) rfl ?_
            refine own_iconst X2879 (v := (2 : Int32)) (by decide) at_158 (pc' := 159) rfl ?_
            refine own_iload X2879 rfl at_159 (pc' := 161) rfl ?_
            refine own_iastore X2879 V2879 ge2862 (i := 2) (by decide) (by decide) (show 2 < 4 by decide) at_161 (pc' := 162) rfl fun T2886 h2886 X2886 W2886 V2886 => ?_
            have A2887 := A2880.wr W2886
            have A2888 := A2881.wr W2886
            have A2889 := A2882.wr W2886
            have A2890 := A2883.wr W2886
            have A2891 := A2884.wr W2886
            have S2892 := S2885.wr W2886
            replace V2886 : own_Vec Z h2886 a2862 .int [(.int (2 : Int32)), (.int (3 : Int32)), (.int (3 : Int32)), (.int (0 : Int32))] := V2886
            refine own_aload X2886 rfl rfl at_162 (pc' := 164) rfl ?_
            refine own_iconst X2886 (v := (3 : Int32)) (by decide) at_164 (pc' := 165) rfl ?_
            refine own_iconst X2886 (v := (-1 : Int32)) (by decide) at_165 (pc' := 166) rfl ?_
            refine own_iastore X2886 V2886 ge2862 (i := 3) (by decide) (by decide) (show 3 < 4 by decide) at_166 (pc' := 167) rfl fun T2893 h2893 X2893 W2893 V2893 => ?_
            have A2894 := A2887.wr W2893
            have A2895 := A2888.wr W2893
            have A2896 := A2889.wr W2893
            have A2897 := A2890.wr W2893
            have A2898 := A2891.wr W2893
            have S2899 := S2892.wr W2893
            replace V2893 : own_Vec Z h2893 a2862 .int [(.int (2 : Int32)), (.int (3 : Int32)), (.int (3 : Int32)), (.int (-1 : Int32))] := V2893
            refine own_iconst X2893 (v := (4 : Int32)) (by decide) at_167 (pc' := 168) rfl ?_
            refine own_newarrayE X2893 (ty := .double) rfl (ad := "[D") (by decide) (ww 35 rfl) (n := 4) (vs := [(.double (0 : UInt64)), (.double (0 : UInt64)), (.double (0 : UInt64)), (.double (0 : UInt64))]) (by decide) (by decide) (by decide) rfl (cells' := 14) (slots' := 40) rfl rfl (by decide) (by decide) at_168 (pc' := 170) rfl fun a2900 T2900 h2900 g2900 ge2900 X2900 E2900 V2900 A2900 => ?_
            have ne2901 : b2839 ≠ a2900 := own_lt_ne A2894.lt g2900
            have ne2902 : b2841 ≠ a2900 := own_lt_ne A2895.lt g2900
            have ne2903 : b2844 ≠ a2900 := own_lt_ne A2896.lt g2900
            have ne2904 : b2848 ≠ a2900 := own_lt_ne A2897.lt g2900
            have ne2905 : a2862 ≠ a2900 := own_lt_ne V2893.lt g2900
            have A2906 := A2894.ext E2900
            have A2907 := A2895.ext E2900
            have A2908 := A2896.ext E2900
            have A2909 := A2897.ext E2900
            have V2910 := V2893.ext E2900
            have A2911 := A2898.ext E2900
            have S2912 := S2899.ext E2900
            refine own_astore X2900 (Ls' := #[oI p0, oI p1, oI p2, oI p3, oI p4, oI 2, oI 3, oI 3, oI 1, oI 1, oI 0, oI 0, oA b2839, oA b2841, oA b2844, oA b2848, oI b2855, oI b2858, oI b2861, oA a2862, oA a2900, oU, oU, oU, oU, oU, oU, oU, oU, oU, oU, oU, oU]) rfl rfl at_170 (pc' := 172) rfl ?_
            refine own_aload X2900 rfl rfl at_172 (pc' := 174) rfl ?_
            refine own_iconst X2900 (v := (0 : Int32)) (by decide) at_174 (pc' := 175) rfl ?_
            refine own_iload X2900 rfl at_175 (pc' := 177) rfl ?_
            refine own_bipush X2900 (v := (7 : Int32)) (by decide) at_177 (pc' := 179) rfl ?_
            obtain ⟨i2913, e2913⟩ : ∃ v, p4 &&& (7 : Int32) = v := ⟨_, rfl⟩
            have f2913 : own_I 7 i2913.toInt i2913 := own_I.and e2913 (by decide)
            have nn2913 := own_and_nn (M := 7) e2913 (by decide)
            refine own_iand X2900 e2913 at_179 (pc' := 180) rfl ?_
            obtain ⟨d2914, e2914⟩ : ∃ v, FP.i2d i2913 = v := ⟨_, rfl⟩
            have f2914 : own_D 0 7 i2913.toInt d2914 := own_D.i2d f2913 e2914
            refine own_i2d X2900 e2914 at_180 (pc' := 181) rfl ?_
            refine own_dastore X2900 V2900 ge2900 (i := 0) (by decide) (by decide) (show 0 < 4 by decide) at_181 (pc' := 182) rfl fun T2915 h2915 X2915 W2915 V2915 => ?_
            have A2916 := A2906.wr W2915
            have A2917 := A2907.wr W2915
            have A2918 := A2908.wr W2915
            have A2919 := A2909.wr W2915
            have A2920 := A2911.wr W2915
            have V2921 := V2910.other W2915 ne2905
            have A2922 := A2900.wr W2915
            have S2923 := S2912.wr W2915
            replace V2915 : own_Vec Z h2915 a2900 .double [(.double d2914), (.double (0 : UInt64)), (.double (0 : UInt64)), (.double (0 : UInt64))] := V2915
            refine own_aload X2915 rfl rfl at_182 (pc' := 184) rfl ?_
            refine own_iconst X2915 (v := (1 : Int32)) (by decide) at_184 (pc' := 185) rfl ?_
            refine own_iload X2915 rfl at_185 (pc' := 187) rfl ?_
            refine own_iconst X2915 (v := (3 : Int32)) (by decide) at_187 (pc' := 188) rfl ?_
            obtain ⟨i2924, e2924⟩ : ∃ v, XT.ushr p4 (3 : Int32) = v := ⟨_, rfl⟩
            refine own_iushr X2915 e2924 at_188 (pc' := 189) rfl ?_
            refine own_bipush X2915 (v := (7 : Int32)) (by decide) at_189 (pc' := 191) rfl ?_
            obtain ⟨i2925, e2925⟩ : ∃ v, i2924 &&& (7 : Int32) = v := ⟨_, rfl⟩
            have f2925 : own_I 7 i2925.toInt i2925 := own_I.and e2925 (by decide)
            have nn2925 := own_and_nn (M := 7) e2925 (by decide)
            refine own_iand X2915 e2925 at_191 (pc' := 192) rfl ?_
            obtain ⟨d2926, e2926⟩ : ∃ v, FP.i2d i2925 = v := ⟨_, rfl⟩
            have f2926 : own_D 0 7 i2925.toInt d2926 := own_D.i2d f2925 e2926
            refine own_i2d X2915 e2926 at_192 (pc' := 193) rfl ?_
            refine own_dastore X2915 V2915 ge2900 (i := 1) (by decide) (by decide) (show 1 < 4 by decide) at_193 (pc' := 194) rfl fun T2927 h2927 X2927 W2927 V2927 => ?_
            have A2928 := A2916.wr W2927
            have A2929 := A2917.wr W2927
            have A2930 := A2918.wr W2927
            have A2931 := A2919.wr W2927
            have A2932 := A2920.wr W2927
            have V2933 := V2921.other W2927 ne2905
            have A2934 := A2922.wr W2927
            have S2935 := S2923.wr W2927
            replace V2927 : own_Vec Z h2927 a2900 .double [(.double d2914), (.double d2926), (.double (0 : UInt64)), (.double (0 : UInt64))] := V2927
            refine own_aload X2927 rfl rfl at_194 (pc' := 196) rfl ?_
            refine own_iconst X2927 (v := (2 : Int32)) (by decide) at_196 (pc' := 197) rfl ?_
            refine own_iload X2927 rfl at_197 (pc' := 199) rfl ?_
            refine own_bipush X2927 (v := (6 : Int32)) (by decide) at_199 (pc' := 201) rfl ?_
            obtain ⟨i2936, e2936⟩ : ∃ v, XT.ushr p4 (6 : Int32) = v := ⟨_, rfl⟩
            refine own_iushr X2927 e2936 at_201 (pc' := 202) rfl ?_
            refine own_bipush X2927 (v := (7 : Int32)) (by decide) at_202 (pc' := 204) rfl ?_
            obtain ⟨i2937, e2937⟩ : ∃ v, i2936 &&& (7 : Int32) = v := ⟨_, rfl⟩
            have f2937 : own_I 7 i2937.toInt i2937 := own_I.and e2937 (by decide)
            have nn2937 := own_and_nn (M := 7) e2937 (by decide)
            refine own_iand X2927 e2937 at_204 (pc' := 205) rfl ?_
            obtain ⟨d2938, e2938⟩ : ∃ v, FP.i2d i2937 = v := ⟨_, rfl⟩
            have f2938 : own_D 0 7 i2937.toInt d2938 := own_D.i2d f2937 e2938
            refine own_i2d X2927 e2938 at_205 (pc' := 206) rfl ?_
            refine own_dastore X2927 V2927 ge2900 (i := 2) (by decide) (by decide) (show 2 < 4 by decide) at_206 (pc' := 207) rfl fun T2939 h2939 X2939 W2939 V2939 => ?_
            have A2940 := A2928.wr W2939
            have A2941 := A2929.wr W2939
            have A2942 := A2930.wr W2939
            have A2943 := A2931.wr W2939
            have A2944 := A2932.wr W2939
            have V2945 := V2933.other W2939 ne2905
            have A2946 := A2934.wr W2939
            have S2947 := S2935.wr W2939
            replace V2939 : own_Vec Z h2939 a2900 .double [(.double d2914), (.double d2926), (.double d2938), (.double (0 : UInt64))] := V2939
            refine own_aload X2939 rfl rfl at_207 (pc' := 209) rfl ?_
            refine own_iconst X2939 (v := (3 : Int32)) (by decide) at_209 (pc' := 210) rfl ?_
            refine own_dconst0 X2939 (v := (0 : UInt64)) rfl at_210 (pc' := 211) rfl ?_
            refine own_dastore X2939 V2939 ge2900 (i := 3) (by decide) (by decide) (show 3 < 4 by decide) at_211 (pc' := 212) rfl fun T2948 h2948 X2948 W2948 V2948 => ?_
            have A2949 := A2940.wr W2948
            have A2950 := A2941.wr W2948
            have A2951 := A2942.wr W2948
            have A2952 := A2943.wr W2948
            have A2953 := A2944.wr W2948
            have V2954 := V2945.other W2948 ne2905
            have A2955 := A2946.wr W2948
            have S2956 := S2947.wr W2948
            replace V2948 : own_Vec Z h2948 a2900 .double [(.double d2914), (.double d2926), (.double d2938), (.double (0 : UInt64))] := V2948
            refine own_iconst X2948 (v := (4 : Int32)) (by decide) at_212 (pc' := 213) rfl ?_
            refine own_anewarray X2948 (ww 5 rfl) (ww 36 rfl) (ad := "[Ljava/lang/String;") (by decide) (n := 4) (vs := [.null, .null, .null, .null]) (by decide) (by decide) (by decide) rfl (cells' := 15) (slots' := 44) rfl rfl (by decide) (by decide) at_213 (pc' := 216) rfl fun a2957 T2957 h2957 g2957 ge2957 X2957 E2957 V2957 A2957 O2957 => ?_
            have ne2958 : b2839 ≠ a2957 := own_lt_ne A2949.lt g2957
            have ne2959 : b2841 ≠ a2957 := own_lt_ne A2950.lt g2957
            have ne2960 : b2844 ≠ a2957 := own_lt_ne A2951.lt g2957
            have ne2961 : b2848 ≠ a2957 := own_lt_ne A2952.lt g2957
            have ne2962 : a2862 ≠ a2957 := own_lt_ne V2954.lt g2957
            have ne2963 : a2900 ≠ a2957 := own_lt_ne V2948.lt g2957
            have A2964 := A2949.ext E2957
            have A2965 := A2950.ext E2957
            have A2966 := A2951.ext E2957
            have A2967 := A2952.ext E2957
            have V2968 := V2954.ext E2957
            have A2969 := A2953.ext E2957
            have V2970 := V2948.ext E2957
            have A2971 := A2955.ext E2957
            have S2972 := S2956.ext E2957
            refine own_astore X2957 (Ls' := #[oI p0, oI p1, oI p2, oI p3, oI p4, oI 2, oI 3, oI 3, oI 1, oI 1, oI 0, oI 0, oA b2839, oA b2841, oA b2844, oA b2848, oI b2855, oI b2858, oI b2861, oA a2862, oA a2900, oA a2957, oU, oU, oU, oU, oU, oU, oU, oU, oU, oU, oU]) rfl rfl at_216 (pc' := 218) rfl ?_
            refine own_aload X2957 rfl rfl at_218 (pc' := 220) rfl ?_
            refine own_iconst X2957 (v := (0 : Int32)) (by decide) at_220 (pc' := 221) rfl ?_
            refine own_aload X2957 rfl rfl at_221 (pc' := 223) rfl ?_
            refine own_aastore X2957 V2957 O2957 ge2957 (Or.inr ⟨_, rfl, A2964⟩) (i := 0) (by decide) (by decide) (show 0 < 4 by decide) at_223 (pc' := 224) rfl fun T2973 h2973 X2973 W2973 V2973 => ?_
            have A2974 := A2964.wr W2973
            have A2975 := A2965.wr W2973
            have A2976 := A2966.wr W2973
            have A2977 := A2967.wr W2973
            have A2978 := A2969.wr W2973
            have V2979 := V2968.other W2973 ne2962
            have A2980 := A2971.wr W2973
            have V2981 := V2970.other W2973 ne2963
            have A2982 := A2957.wr W2973
            have O2983 := O2957.wr W2973
            have S2984 := S2972.wr W2973
            replace V2973 : own_Vec Z h2973 a2957 (.object "java/lang/String") [(.ref b2839), .null, .null, .null] := V2973
            refine own_aload X2973 rfl rfl at_224 (pc' := 226) rfl ?_
            refine own_iconst X2973 (v := (1 : Int32)) (by decide) at_226 (pc' := 227) rfl ?_
            refine own_iload X2973 rfl at_227 (pc' := 229) rfl ?_
            refine own_ifT X2973 (by decide) at_229 (pc' := 237) (by decide) (by decide) ?_
            refine own_aload X2973 rfl rfl at_237 (pc' := 239) rfl ?_
            refine own_goto X2973 at_239 (pc' := 243) (by decide) (by decide) ?_
            refine own_aastore X2973 V2973 O2983 ge2957 (Or.inr ⟨_, rfl, A2975⟩) (i := 1) (by decide) (by decide) (show 1 < 4 by decide) at_243 (pc' := 244) rfl fun T2985 h2985 X2985 W2985 V2985 => ?_
            have A2986 := A2974.wr W2985
            have A2987 := A2975.wr W2985
            have A2988 := A2976.wr W2985
            have A2989 := A2977.wr W2985
            have A2990 := A2978.wr W2985
            have V2991 := V2979.other W2985 ne2962
            have A2992 := A2980.wr W2985
            have V2993 := V2981.other W2985 ne2963
            have A2994 := A2982.wr W2985
            have O2995 := O2983.wr W2985
            have S2996 := S2984.wr W2985
            replace V2985 : own_Vec Z h2985 a2957 (.object "java/lang/String") [(.ref b2839), (.ref b2841), .null, .null] := V2985
            refine own_aload X2985 rfl rfl at_244 (pc' := 246) rfl ?_
            refine own_iconst X2985 (v := (2 : Int32)) (by decide) at_246 (pc' := 247) rfl ?_
            refine own_iload X2985 rfl at_247 (pc' := 249) rfl ?_
            refine own_ifF X2985 (by decide) at_249 (pc' := 252) rfl ?_
            refine own_iload X2985 rfl at_252 (pc' := 254) rfl ?_
            have J2997 : ∀ (b2997 : Value) (hb2997 : b2997 = .null ∨ b2997 = .ref b2844), own_Goal p e below (own_Fin below s room_1 n0 (fun v _ => v = some (.int 1))) T2985 (mkF m 263 #[oI p0, oI p1, oI p2, oI p3, oI p4, oI 2, oI 3, oI 3, oI 1, oI 1, oI 0, oI 0, oA b2839, oA b2841, oA b2844, oA b2848, oI b2855, oI b2858, oI b2861, oA a2862, oA a2900, oA a2957, oU, oU, oU, oU, oU, oU, oU, oU, oU, oU, oU] [b2997, (.int (2 : Int32)), (.ref a2957)]) := by
              intro b2997 hb2997
              have fb2997 : fits (.object "java/lang/String") b2997 = true := by rcases hb2997 with q | q <;> rw [q] <;> rfl
              refine own_aastore X2985 V2985 O2995 ge2957 (hb2997.elim Or.inl fun q => Or.inr ⟨_, q, A2988⟩) (i := 2) (by decide) (by decide) (show 2 < 4 by decide) at_263 (pc' := 264) rfl fun T2998 h2998 X2998 W2998 V2998 => ?_
              have A2999 := A2986.wr W2998
              have A3000 := A2987.wr W2998
              have A3001 := A2988.wr W2998
              have A3002 := A2989.wr W2998
              have A3003 := A2990.wr W2998
              have V3004 := V2991.other W2998 ne2962
              have A3005 := A2992.wr W2998
              have V3006 := V2993.other W2998 ne2963
              have A3007 := A2994.wr W2998
              have O3008 := O2995.wr W2998
              have S3009 := S2996.wr W2998
              replace V2998 : own_Vec Z h2998 a2957 (.object "java/lang/String") [(.ref b2839), (.ref b2841), b2997, .null] := V2998
              refine own_aload X2998 rfl rfl at_264 (pc' := 266) rfl ?_
              refine own_iconst X2998 (v := (3 : Int32)) (by decide) at_266 (pc' := 267) rfl ?_
              refine own_iload X2998 rfl at_267 (pc' := 269) rfl ?_
              have J3010 : ∀ (b3010 : Value) (hb3010 : b3010 = .null ∨ b3010 = .ref b2848), own_Goal p e below (own_Fin below s room_1 n0 (fun v _ => v = some (.int 1))) T2998 (mkF m 278 #[oI p0, oI p1, oI p2, oI p3, oI p4, oI 2, oI 3, oI 3, oI 1, oI 1, oI 0, oI 0, oA b2839, oA b2841, oA b2844, oA b2848, oI b2855, oI b2858, oI b2861, oA a2862, oA a2900, oA a2957, oU, oU, oU, oU, oU, oU, oU, oU, oU, oU, oU] [b3010, (.int (3 : Int32)), (.ref a2957)]) := by
                intro b3010 hb3010
                have fb3010 : fits (.object "java/lang/String") b3010 = true := by rcases hb3010 with q | q <;> rw [q] <;> rfl
                refine own_aastore X2998 V2998 O3008 ge2957 (hb3010.elim Or.inl fun q => Or.inr ⟨_, q, A3002⟩) (i := 3) (by decide) (by decide) (show 3 < 4 by decide) at_278 (pc' := 279) rfl fun T3011 h3011 X3011 W3011 V3011 => ?_
                have A3012 := A2999.wr W3011
                have A3013 := A3000.wr W3011
                have A3014 := A3001.wr W3011
                have A3015 := A3002.wr W3011
                have A3016 := A3003.wr W3011
                have V3017 := V3004.other W3011 ne2962
                have A3018 := A3005.wr W3011
                have V3019 := V3006.other W3011 ne2963
                have A3020 := A3007.wr W3011
                have O3021 := O3008.wr W3011
                have S3022 := S3009.wr W3011
                replace V3011 : own_Vec Z h3011 a2957 (.object "java/lang/String") [(.ref b2839), (.ref b2841), b2997, b3010] := V3011
                refine own_aload X3011 rfl rfl at_279 (pc' := 281) rfl ?_
                refine own_astore X3011 (Ls' := #[oI p0, oI p1, oI p2, oI p3, oI p4, oI 2, oI 3, oI 3, oI 1, oI 1, oI 0, oI 0, oA b2839, oA b2841, oA b2844, oA b2848, oI b2855, oI b2858, oI b2861, oA a2862, oA a2900, oA a2957, oA b2839, oU, oU, oU, oU, oU, oU, oU, oU, oU, oU]) rfl rfl at_281 (pc' := 283) rfl ?_
                refine own_iload X3011 rfl at_283 (pc' := 285) rfl ?_
                refine own_ifF X3011 (by decide) at_285 (pc' := 288) rfl ?_
                refine own_aload X3011 rfl rfl at_288 (pc' := 290) rfl ?_
                refine own_goto X3011 at_290 (pc' := 294) (by decide) (by decide) ?_
                refine own_astore X3011 (Ls' := #[oI p0, oI p1, oI p2, oI p3, oI p4, oI 2, oI 3, oI 3, oI 1, oI 1, oI 0, oI 0, oA b2839, oA b2841, oA b2844, oA b2848, oI b2855, oI b2858, oI b2861, oA a2862, oA a2900, oA a2957, oA b2839, oA b2841, oU, oU, oU, oU, oU, oU, oU, oU, oU]) rfl rfl at_294 (pc' := 296) rfl ?_
                refine own_iload X3011 rfl at_296 (pc' := 298) rfl ?_
                refine own_ifT X3011 (by decide) at_298 (pc' := 306) (by decide) (by decide) ?_
                refine own_aconst_null X3011  at_306 (pc' := 307) rfl ?_
                refine own_astore X3011 (Ls' := #[oI p0, oI p1, oI p2, oI p3, oI p4, oI 2, oI 3, oI 3, oI 1, oI 1, oI 0, oI 0, oA b2839, oA b2841, oA b2844, oA b2848, oI b2855, oI b2858, oI b2861, oA a2862, oA a2900, oA a2957, oA b2839, oA b2841, .val .null, oU, oU, oU, oU, oU, oU, oU, oU]) rfl rfl at_307 (pc' := 309) rfl ?_
                refine own_iload X3011 rfl at_309 (pc' := 311) rfl ?_
                refine own_ifT X3011 (by decide) at_311 (pc' := 319) (by decide) (by decide) ?_
                refine own_aconst_null X3011  at_319 (pc' := 320) rfl ?_
                refine own_astore X3011 (Ls' := #[oI p0, oI p1, oI p2, oI p3, oI p4, oI 2, oI 3, oI 3, oI 1, oI 1, oI 0, oI 0, oA b2839, oA b2841, oA b2844, oA b2848, oI b2855, oI b2858, oI b2861, oA a2862, oA a2900, oA a2957, oA b2839, oA b2841, .val .null, .val .null, oU, oU, oU, oU, oU, oU, oU]) rfl rfl at_320 (pc' := 322) rfl ?_
                refine own_new X3011 (ww 37 rfl) (ww 38 rfl) (ww 39 rfl) (cells' := 16) (slots' := 49) rfl rfl (by decide) (by decide) at_322 (pc' := 325) rfl fun a3023 T3023 h3023 g3023 ge3023 X3023 E3023 A3023 D3023 => ?_
                have ne3024 : b2839 ≠ a3023 := own_lt_ne A3012.lt g3023
                have ne3025 : b2841 ≠ a3023 := own_lt_ne A3013.lt g3023
                have ne3026 : b2844 ≠ a3023 := own_lt_ne A3014.lt g3023
                have ne3027 : b2848 ≠ a3023 := own_lt_ne A3015.lt g3023
                have ne3028 : a2862 ≠ a3023 := own_lt_ne V3017.lt g3023
                have ne3029 : a2900 ≠ a3023 := own_lt_ne V3019.lt g3023
                have ne3030 : a2957 ≠ a3023 := own_lt_ne V3011.lt g3023
                have A3031 := A3012.ext E3023
                have A3032 := A3013.ext E3023
                have A3033 := A3014.ext E3023
                have A3034 := A3015.ext E3023
                have V3035 := V3017.ext E3023
                have A3036 := A3016.ext E3023
                have V3037 := V3019.ext E3023
                have A3038 := A3018.ext E3023
                have V3039 := V3011.ext E3023
                have A3040 := A3020.ext E3023
                have O3041 := O3021.ext E3023
                have S3042 := S3022.ext E3023
                have F3043 : Fld Z h3023 a3023 "com/example/cladewalk/cladewalk/tree/Tree" "parents" "[I" .null := D3023 (Or.inr (ww 54 rfl)) (ty := (.array .int)) (by decide)
                have F3044 : Fld Z h3023 a3023 "com/example/cladewalk/cladewalk/tree/Tree" "lengths" "[D" .null := D3023 (Or.inr (ww 62 rfl)) (ty := (.array .double)) (by decide)
                have F3045 : Fld Z h3023 a3023 "com/example/cladewalk/cladewalk/tree/Tree" "names" "[Ljava/lang/String;" .null := D3023 (Or.inr (ww 70 rfl)) (ty := (.array (.object "java/lang/String"))) (by decide)
                have F3046 : Fld Z h3023 a3023 "com/example/cladewalk/cladewalk/tree/Tree" "childCounts" "[I" .null := D3023 (Or.inr (ww 72 rfl)) (ty := (.array .int)) (by decide)
                have F3047 : Fld Z h3023 a3023 "com/example/cladewalk/cladewalk/tree/Tree" "tipCount" "I" (.int (0 : Int32)) := D3023 (Or.inr (ww 75 rfl)) (ty := .int) (by decide)
                refine own_dup X3023 rfl at_325 (pc' := 326) rfl ?_
                refine own_aload X3023 rfl rfl at_326 (pc' := 328) rfl ?_
                refine own_aload X3023 rfl rfl at_328 (pc' := 330) rfl ?_
                refine own_aload X3023 rfl rfl at_330 (pc' := 332) rfl ?_
                refine own_special X3023 (own_ti_23 l Z a0 hw a3023 a2862 a2900 a2957 d2914 i2913.toInt d2926 i2925.toInt d2938 i2937.toInt b2839 b2841 b2997 b3010 _ n0 X3023.le ge3023 A3023 F3043 F3044 F3045 F3046 F3047 V3035 V3037 V3039 A3036 A3038 A3040 ne3028.symm ne3029.symm ne3030.symm f2914 (by omega) f2926 (by omega) f2938 (by omega) fb2997 fb3010) rfl rfl (ww 40 rfl) (ww 41 rfl) (ww 39 rfl) (ww 42 rfl) (by decide) rfl (by decide) (W := 1) (Nat.le_of_eq rfl) (by decide) (cells' := 20) (slots' := 65) rfl rfl (by decide) (by decide) (argsL := [(.ref a2862), (.ref a2900), (.ref a2957)]) (rest := [(.ref a3023)]) (lenOf own_pd13 rfl) rfl rfl at_332 (pc' := 335) rfl ?_
                rintro _ T3048 h3048 X3048 ⟨rfl, ⟨x3048, y3048, F3048a, F3048b, V3048a, V3048b⟩, K3048⟩
                have S3049 := own_Sta.keep1 S3042 K3048 A3023
                have A3050 := A3031.keep K3048
                have A3051 := A3032.keep K3048
                have A3052 := A3033.keep K3048
                have A3053 := A3034.keep K3048
                have A3054 := A3023.keep K3048
                show own_Goal p e below _ T3048 (mkF m 335 #[oI p0, oI p1, oI p2, oI p3, oI p4, oI 2, oI 3, oI 3, oI 1, oI 1, oI 0, oI 0, oA b2839, oA b2841, oA b2844, oA b2848, oI b2855, oI b2858, oI b2861, oA a2862, oA a2900, oA a2957, oA b2839, oA b2841, .val .null, .val .null, oU, oU, oU, oU, oU, oU, oU] [(.ref a3023)])
                refine own_astore X3048 (Ls' := #[oI p0, oI p1, oI p2, oI p3, oI p4, oI 2, oI 3, oI 3, oI 1, oI 1, oI 0, oI 0, oA b2839, oA b2841, oA b2844, oA b2848, oI b2855, oI b2858, oI b2861, oA a2862, oA a2900, oA a2957, oA b2839, oA b2841, .val .null, .val .null, oA a3023, oU, oU, oU, oU, oU, oU]) rfl rfl at_335 (pc' := 337) rfl ?_
                refine own_aload X3048 rfl rfl at_337 (pc' := 339) rfl ?_
                refine own_iconst X3048 (v := (0 : Int32)) (by decide) at_339 (pc' := 340) rfl ?_
                refine own_virtual X3048 (own_name_4_0_1 l Z a0 hw a3023 x3048 y3048 b2839 (0 : Int32) (0 : Int32) (1 : Int32) (2 : Int32) (.ref b2841) b2997 b3010 _ n0 X3048.le F3048a F3048b V3048a V3048b (by decide)) (C := "com/example/cladewalk/cladewalk/tree/Tree") rfl (ww 76 rfl) (ww 77 rfl) (ww 79 rfl) (ww 78 rfl) (ww 39 rfl) (ww 80 rfl) (by decide) rfl (by decide) (W := 0) (Nat.le_of_eq rfl) (by decide) (cells' := 20) (slots' := 65) rfl rfl (by decide) (by decide) A3054 (argsL := [(.int (0 : Int32))]) (rest := []) (lenOf own_pd12 rfl) rfl rfl at_340 (pc' := 343) rfl ?_
                rintro _ T3055 h3055 X3055 ⟨rfl, e3055⟩
                subst e3055
                show own_Goal p e below _ T3055 (mkF m 343 #[oI p0, oI p1, oI p2, oI p3, oI p4, oI 2, oI 3, oI 3, oI 1, oI 1, oI 0, oI 0, oA b2839, oA b2841, oA b2844, oA b2848, oI b2855, oI b2858, oI b2861, oA a2862, oA a2900, oA a2957, oA b2839, oA b2841, .val .null, .val .null, oA a3023, oU, oU, oU, oU, oU, oU] [(.ref b2839)])
                refine own_aload X3055 rfl rfl at_343 (pc' := 345) rfl ?_
                refine own_callS X3055 (own_sameA l Z a0 hw b2839 _ n0 X3055.le A3050) (ww 81 rfl) (ww 82 rfl) (ww 2 rfl) (ww 83 rfl) (by decide) rfl (by decide) (W := 0) (Nat.le_of_eq rfl) (by decide) (cells' := 20) (slots' := 65) rfl rfl (by decide) (by decide) (argsL := [(.ref b2839), (.ref b2839)]) (rest := []) (lenOf own_pd11 rfl) rfl rfl at_345 (pc' := 348) rfl ?_
                rintro _ T3056 h3056 X3056 ⟨rfl, e3056⟩
                subst e3056
                show own_Goal p e below _ T3056 (mkF m 348 #[oI p0, oI p1, oI p2, oI p3, oI p4, oI 2, oI 3, oI 3, oI 1, oI 1, oI 0, oI 0, oA b2839, oA b2841, oA b2844, oA b2848, oI b2855, oI b2858, oI b2861, oA a2862, oA a2900, oA a2957, oA b2839, oA b2841, .val .null, .val .null, oA a3023, oU, oU, oU, oU, oU, oU] [(.int (1 : Int32))])
                refine own_ifF X3056 (by decide) at_348 (pc' := 351) rfl ?_
                refine own_aload X3056 rfl rfl at_351 (pc' := 353) rfl ?_
                refine own_iconst X3056 (v := (1 : Int32)) (by decide) at_353 (pc' := 354) rfl ?_
                refine own_virtual X3056 (own_name_4_1_1 l Z a0 hw a3023 x3048 y3048 b2841 (0 : Int32) (0 : Int32) (1 : Int32) (2 : Int32) (.ref b2839) b2997 b3010 _ n0 X3056.le F3048a F3048b V3048a V3048b (by decide)) (C := "com/example/cladewalk/cladewalk/tree/Tree") rfl (ww 76 rfl) (ww 77 rfl) (ww 79 rfl) (ww 78 rfl) (ww 39 rfl) (ww 80 rfl) (by decide) rfl (by decide) (W := 0) (Nat.le_of_eq rfl) (by decide) (cells' := 20) (slots' := 65) rfl rfl (by decide) (by decide) A3054 (argsL := [(.int (1 : Int32))]) (rest := []) (lenOf own_pd12 rfl) rfl rfl at_354 (pc' := 357) rfl ?_
                rintro _ T3057 h3057 X3057 ⟨rfl, e3057⟩
                subst e3057
                show own_Goal p e below _ T3057 (mkF m 357 #[oI p0, oI p1, oI p2, oI p3, oI p4, oI 2, oI 3, oI 3, oI 1, oI 1, oI 0, oI 0, oA b2839, oA b2841, oA b2844, oA b2848, oI b2855, oI b2858, oI b2861, oA a2862, oA a2900, oA a2957, oA b2839, oA b2841, .val .null, .val .null, oA a3023, oU, oU, oU, oU, oU, oU] [(.ref b2841)])
                refine own_aload X3057 rfl rfl at_357 (pc' := 359) rfl ?_
                refine own_callS X3057 (own_sameA l Z a0 hw b2841 _ n0 X3057.le A3051) (ww 81 rfl) (ww 82 rfl) (ww 2 rfl) (ww 83 rfl) (by decide) rfl (by decide) (W := 0) (Nat.le_of_eq rfl) (by decide) (cells' := 20) (slots' := 65) rfl rfl (by decide) (by decide) (argsL := [(.ref b2841), (.ref b2841)]) (rest := []) (lenOf own_pd11 rfl) rfl rfl at_359 (pc' := 362) rfl ?_
                rintro _ T3058 h3058 X3058 ⟨rfl, e3058⟩
                subst e3058
                show own_Goal p e below _ T3058 (mkF m 362 #[oI p0, oI p1, oI p2, oI p3, oI p4, oI 2, oI 3, oI 3, oI 1, oI 1, oI 0, oI 0, oA b2839, oA b2841, oA b2844, oA b2848, oI b2855, oI b2858, oI b2861, oA a2862, oA a2900, oA a2957, oA b2839, oA b2841, .val .null, .val .null, oA a3023, oU, oU, oU, oU, oU, oU] [(.int (1 : Int32))])
                refine own_ifF X3058 (by decide) at_362 (pc' := 365) rfl ?_
                refine own_aload X3058 rfl rfl at_365 (pc' := 367) rfl ?_
                refine own_iconst X3058 (v := (2 : Int32)) (by decide) at_367 (pc' := 368) rfl ?_
                refine own_virtual X3058 (own_name_4_2_0 l Z a0 hw a3023 x3048 y3048 (0 : Int32) (0 : Int32) (1 : Int32) (2 : Int32) (.ref b2839) (.ref b2841) b2997 b3010 _ n0 X3058.le F3048a F3048b V3048a V3048b (by decide)) (C := "com/example/cladewalk/cladewalk/tree/Tree") rfl (ww 76 rfl) (ww 77 rfl) (ww 79 rfl) (ww 78 rfl) (ww 39 rfl) (ww 80 rfl) (by decide) rfl (by decide) (W := 0) (Nat.le_of_eq rfl) (by decide) (cells' := 20) (slots' := 65) rfl rfl (by decide) (by decide) A3054 (argsL := [(.int (2 : Int32))]) (rest := []) (lenOf own_pd12 rfl) rfl rfl at_368 (pc' := 371) rfl ?_
                rintro _ T3059 h3059 X3059 ⟨rfl, e3059⟩
                subst e3059
                show own_Goal p e below _ T3059 (mkF m 371 #[oI p0, oI p1, oI p2, oI p3, oI p4, oI 2, oI 3, oI 3, oI 1, oI 1, oI 0, oI 0, oA b2839, oA b2841, oA b2844, oA b2848, oI b2855, oI b2858, oI b2861, oA a2862, oA a2900, oA a2957, oA b2839, oA b2841, .val .null, .val .null, oA a3023, oU, oU, oU, oU, oU, oU] [.null])
                refine own_aload X3059 rfl rfl at_371 (pc' := 373) rfl ?_
                refine own_callS X3059 (own_sameN l Z a0 hw _ n0 X3059.le) (ww 81 rfl) (ww 82 rfl) (ww 2 rfl) (ww 83 rfl) (by decide) rfl (by decide) (W := 0) (Nat.le_of_eq rfl) (by decide) (cells' := 20) (slots' := 65) rfl rfl (by decide) (by decide) (argsL := [.null, .null]) (rest := []) (lenOf own_pd11 rfl) rfl rfl at_373 (pc' := 376) rfl ?_
                rintro _ T3060 h3060 X3060 ⟨rfl, e3060⟩
                subst e3060
                show own_Goal p e below _ T3060 (mkF m 376 #[oI p0, oI p1, oI p2, oI p3, oI p4, oI 2, oI 3, oI 3, oI 1, oI 1, oI 0, oI 0, oA b2839, oA b2841, oA b2844, oA b2848, oI b2855, oI b2858, oI b2861, oA a2862, oA a2900, oA a2957, oA b2839, oA b2841, .val .null, .val .null, oA a3023, oU, oU, oU, oU, oU, oU] [(.int (1 : Int32))])
                refine own_ifF X3060 (by decide) at_376 (pc' := 379) rfl ?_
                refine own_aload X3060 rfl rfl at_379 (pc' := 381) rfl ?_
                refine own_iconst X3060 (v := (3 : Int32)) (by decide) at_381 (pc' := 382) rfl ?_
                refine own_virtual X3060 (own_name_4_3_0 l Z a0 hw a3023 x3048 y3048 (0 : Int32) (0 : Int32) (1 : Int32) (2 : Int32) (.ref b2839) (.ref b2841) b2997 b3010 _ n0 X3060.le F3048a F3048b V3048a V3048b (by decide)) (C := "com/example/cladewalk/cladewalk/tree/Tree") rfl (ww 76 rfl) (ww 77 rfl) (ww 79 rfl) (ww 78 rfl) (ww 39 rfl) (ww 80 rfl) (by decide) rfl (by decide) (W := 0) (Nat.le_of_eq rfl) (by decide) (cells' := 20) (slots' := 65) rfl rfl (by decide) (by decide) A3054 (argsL := [(.int (3 : Int32))]) (rest := []) (lenOf own_pd12 rfl) rfl rfl at_382 (pc' := 385) rfl ?_
                rintro _ T3061 h3061 X3061 ⟨rfl, e3061⟩
                subst e3061
                show own_Goal p e below _ T3061 (mkF m 385 #[oI p0, oI p1, oI p2, oI p3, oI p4, oI 2, oI 3, oI 3, oI 1, oI 1, oI 0, oI 0, oA b2839, oA b2841, oA b2844, oA b2848, oI b2855, oI b2858, oI b2861, oA a2862, oA a2900, oA a2957, oA b2839, oA b2841, .val .null, .val .null, oA a3023, oU, oU, oU, oU, oU, oU] [.null])
                refine own_aload X3061 rfl rfl at_385 (pc' := 387) rfl ?_
                refine own_callS X3061 (own_sameN l Z a0 hw _ n0 X3061.le) (ww 81 rfl) (ww 82 rfl) (ww 2 rfl) (ww 83 rfl) (by decide) rfl (by decide) (W := 0) (Nat.le_of_eq rfl) (by decide) (cells' := 20) (slots' := 65) rfl rfl (by decide) (by decide) (argsL := [.null, .null]) (rest := []) (lenOf own_pd11 rfl) rfl rfl at_387 (pc' := 390) rfl ?_
                rintro _ T3062 h3062 X3062 ⟨rfl, e3062⟩
                subst e3062
                show own_Goal p e below _ T3062 (mkF m 390 #[oI p0, oI p1, oI p2, oI p3, oI p4, oI 2, oI 3, oI 3, oI 1, oI 1, oI 0, oI 0, oA b2839, oA b2841, oA b2844, oA b2848, oI b2855, oI b2858, oI b2861, oA a2862, oA a2900, oA a2957, oA b2839, oA b2841, .val .null, .val .null, oA a3023, oU, oU, oU, oU, oU, oU] [(.int (1 : Int32))])
                refine own_ifF X3062 (by decide) at_390 (pc' := 393) rfl ?_
                refine own_iconst X3062 (v := (1 : Int32)) (by decide) at_393 (pc' := 394) rfl ?_
                refine own_goto X3062 at_394 (pc' := 398) (by decide) (by decide) ?_
                refine own_istore X3062 (Ls' := #[oI p0, oI p1, oI p2, oI p3, oI p4, oI 2, oI 3, oI 3, oI 1, oI 1, oI 0, oI 0, oA b2839, oA b2841, oA b2844, oA b2848, oI b2855, oI b2858, oI b2861, oA a2862, oA a2900, oA a2957, oA b2839, oA b2841, .val .null, .val .null, oA a3023, oI 1, oU, oU, oU, oU, oU]) rfl at_398 (pc' := 400) rfl ?_
                refine own_iconst X3062 (v := (1 : Int32)) (by decide) at_400 (pc' := 401) rfl ?_
                refine own_newarrayE X3062 (ty := .int) rfl (ad := "[I") (by decide) (ww 34 rfl) (n := 1) (vs := [(.int (0 : Int32))]) (by decide) (by decide) (by decide) rfl (cells' := 21) (slots' := 66) rfl rfl (by decide) (by decide) at_401 (pc' := 403) rfl fun a3063 T3063 h3063 g3063 ge3063 X3063 E3063 V3063 A3063 => ?_
                have S3064 := S3049.ext E3063
                refine own_astore X3063 (Ls' := #[oI p0, oI p1, oI p2, oI p3, oI p4, oI 2, oI 3, oI 3, oI 1, oI 1, oI 0, oI 0, oA b2839, oA b2841, oA b2844, oA b2848, oI b2855, oI b2858, oI b2861, oA a2862, oA a2900, oA a2957, oA b2839, oA b2841, .val .null, .val .null, oA a3023, oI 1, oA a3063, oU, oU, oU, oU]) rfl rfl at_403 (pc' := 405) rfl ?_
                refine own_aload X3063 rfl rfl at_405 (pc' := 407) rfl ?_
                refine own_iconst X3063 (v := (0 : Int32)) (by decide) at_407 (pc' := 408) rfl ?_
                refine own_iconst X3063 (v := (-1 : Int32)) (by decide) at_408 (pc' := 409) rfl ?_
                refine own_iastore X3063 V3063 ge3063 (i := 0) (by decide) (by decide) (show 0 < 1 by decide) at_409 (pc' := 410) rfl fun T3065 h3065 X3065 W3065 V3065 => ?_
                have A3066 := A3063.wr W3065
                have S3067 := S3064.wr W3065
                replace V3065 : own_Vec Z h3065 a3063 .int [(.int (-1 : Int32))] := V3065
                refine own_iconst X3065 (v := (1 : Int32)) (by decide) at_410 (pc' := 411) rfl ?_
                refine own_newarrayE X3065 (ty := .double) rfl (ad := "[D") (by decide) (ww 35 rfl) (n := 1) (vs := [(.double (0 : UInt64))]) (by decide) (by decide) (by decide) rfl (cells' := 22) (slots' := 67) rfl rfl (by decide) (by decide) at_411 (pc' := 413) rfl fun a3068 T3068 h3068 g3068 ge3068 X3068 E3068 V3068 A3068 => ?_
                have ne3069 : a3063 ≠ a3068 := own_lt_ne V3065.lt g3068
                have V3070 := V3065.ext E3068
                have A3071 := A3066.ext E3068
                have S3072 := S3067.ext E3068
                refine own_astore X3068 (Ls' := #[oI p0, oI p1, oI p2, oI p3, oI p4, oI 2, oI 3, oI 3, oI 1, oI 1, oI 0, oI 0, oA b2839, oA b2841, oA b2844, oA b2848, oI b2855, oI b2858, oI b2861, oA a2862, oA a2900, oA a2957, oA b2839, oA b2841, .val .null, .val .null, oA a3023, oI 1, oA a3063, oA a3068, oU, oU, oU]) rfl rfl at_413 (pc' := 415) rfl ?_
                refine own_aload X3068 rfl rfl at_415 (pc' := 417) rfl ?_
                refine own_iconst X3068 (v := (0 : Int32)) (by decide) at_417 (pc' := 418) rfl ?_
                refine own_dconst0 X3068 (v := (0 : UInt64)) rfl at_418 (pc' := 419) rfl ?_
                refine own_dastore X3068 V3068 ge3068 (i := 0) (by decide) (by decide) (show 0 < 1 by decide) at_419 (pc' := 420) rfl fun T3073 h3073 X3073 W3073 V3073 => ?_
                have A3074 := A3071.wr W3073
                have V3075 := V3070.other W3073 ne3069
                have A3076 := A3068.wr W3073
                have S3077 := S3072.wr W3073
                replace V3073 : own_Vec Z h3073 a3068 .double [(.double (0 : UInt64))] := V3073
                refine own_iload X3073 rfl at_420 (pc' := 422) rfl ?_
                refine own_bipush X3073 (v := (16 : Int32)) (by decide) at_422 (pc' := 424) rfl ?_
                obtain ⟨i3078, e3078⟩ : ∃ v, XT.ushr p4 (16 : Int32) = v := ⟨_, rfl⟩
                refine own_iushr X3073 e3078 at_424 (pc' := 425) rfl ?_
                refine own_sipush X3073 (v := (255 : Int32)) (by decide) at_425 (pc' := 428) rfl ?_
                obtain ⟨i3079, e3079⟩ : ∃ v, i3078 &&& (255 : Int32) = v := ⟨_, rfl⟩
                have f3079 : own_I 255 i3079.toInt i3079 := own_I.and e3079 (by decide)
                have nn3079 := own_and_nn (M := 255) e3079 (by decide)
                refine own_iand X3073 e3079 at_428 (pc' := 429) rfl ?_
                refine own_i2c X3073 (v := i3079) (own_i2c_mask e3079) at_429 (pc' := 430) rfl ?_
                refine own_callS X3073 (own_vof l Z a0 hw i3079 _ n0 X3073.le f3079 nn3079 cs S3077 hcs) (ww 89 rfl) (ww 90 rfl) (ww 7 rfl) (ww 91 rfl) (by decide) rfl (by decide) (W := 0) (Nat.le_of_eq rfl) (by decide) (cells' := 24) (slots' := 72) rfl rfl (by decide) (by decide) (argsL := [(.int i3079)]) (rest := []) (lenOf own_pd9 rfl) rfl rfl at_430 (pc' := 433) rfl ?_
                rintro _ T3081 h3081 X3081 ⟨b3081, rfl, A3081, K3081⟩
                have S3082 := own_Sta.keep0 S3077 K3081
                have A3083 := A3074.keep K3081
                have V3084 := V3075.keep K3081 nin0
                have A3085 := A3076.keep K3081
                have V3086 := V3073.keep K3081 nin0
                show own_Goal p e below _ T3081 (mkF m 433 #[oI p0, oI p1, oI p2, oI p3, oI p4, oI 2, oI 3, oI 3, oI 1, oI 1, oI 0, oI 0, oA b2839, oA b2841, oA b2844, oA b2848, oI b2855, oI b2858, oI b2861, oA a2862, oA a2900, oA a2957, oA b2839, oA b2841, .val .null, .val .null, oA a3023, oI 1, oA a3063, oA a3068, oU, oU, oU] [(.ref b3081)])
                refine own_astore X3081 (Ls' := #[oI p0, oI p1, oI p2, oI p3, oI p4, oI 2, oI 3, oI 3, oI 1, oI 1, oI 0, oI 0, oA b2839, oA b2841, oA b2844, oA b2848, oI b2855, oI b2858, oI b2861, oA a2862, oA a2900, oA a2957, oA b2839, oA b2841, .val .null, .val .null, oA a3023, oI 1, oA a3063, oA a3068, oA b3081, oU, oU]) rfl rfl at_433 (pc' := 435) rfl ?_
                refine own_iconst X3081 (v := (1 : Int32)) (by decide) at_435 (pc' := 436) rfl ?_
                refine own_anewarray X3081 (ww 5 rfl) (ww 36 rfl) (ad := "[Ljava/lang/String;") (by decide) (n := 1) (vs := [.null]) (by decide) (by decide) (by decide) rfl (cells' := 25) (slots' := 73) rfl rfl (by decide) (by decide) at_436 (pc' := 439) rfl fun a3087 T3087 h3087 g3087 ge3087 X3087 E3087 V3087 A3087 O3087 => ?_
                have ne3088 : a3063 ≠ a3087 := own_lt_ne V3084.lt g3087
                have ne3089 : a3068 ≠ a3087 := own_lt_ne V3086.lt g3087
                have ne3090 : b3081 ≠ a3087 := own_lt_ne A3081.lt g3087
                have V3091 := V3084.ext E3087
                have A3092 := A3083.ext E3087
                have V3093 := V3086.ext E3087
                have A3094 := A3085.ext E3087
                have A3095 := A3081.ext E3087
                have S3096 := S3082.ext E3087
                refine own_astore X3087 (Ls' := #[oI p0, oI p1, oI p2, oI p3, oI p4, oI 2, oI 3, oI 3, oI 1, oI 1, oI 0, oI 0, oA b2839, oA b2841, oA b2844, oA b2848, oI b2855, oI b2858, oI b2861, oA a2862, oA a2900, oA a2957, oA b2839, oA b2841, .val .null, .val .null, oA a3023, oI 1, oA a3063, oA a3068, oA b3081, oA a3087, oU]) rfl rfl at_439 (pc' := 441) rfl ?_
                refine own_aload X3087 rfl rfl at_441 (pc' := 443) rfl ?_
                refine own_iconst X3087 (v := (0 : Int32)) (by decide) at_443 (pc' := 444) rfl ?_
                refine own_aload X3087 rfl rfl at_444 (pc' := 446) rfl ?_
                refine own_aastore X3087 V3087 O3087 ge3087 (Or.inr ⟨_, rfl, A3095⟩) (i := 0) (by decide) (by decide) (show 0 < 1 by decide) at_446 (pc' := 447) rfl fun T3097 h3097 X3097 W3097 V3097 => ?_
                have A3098 := A3092.wr W3097
                have V3099 := V3091.other W3097 ne3088
                have A3100 := A3094.wr W3097
                have V3101 := V3093.other W3097 ne3089
                have A3102 := A3095.wr W3097
                have A3103 := A3087.wr W3097
                have O3104 := O3087.wr W3097
                have S3105 := S3096.wr W3097
                replace V3097 : own_Vec Z h3097 a3087 (.object "java/lang/String") [(.ref b3081)] := V3097
                refine own_new X3097 (ww 37 rfl) (ww 38 rfl) (ww 39 rfl) (cells' := 26) (slots' := 78) rfl rfl (by decide) (by decide) at_447 (pc' := 450) rfl fun a3106 T3106 h3106 g3106 ge3106 X3106 E3106 A3106 D3106 => ?_
                have ne3107 : a3063 ≠ a3106 := own_lt_ne V3099.lt g3106
                have ne3108 : a3068 ≠ a3106 := own_lt_ne V3101.lt g3106
                have ne3109 : b3081 ≠ a3106 := own_lt_ne A3102.lt g3106
                have ne3110 : a3087 ≠ a3106 := own_lt_ne V3097.lt g3106
                have V3111 := V3099.ext E3106
                have A3112 := A3098.ext E3106
                have V3113 := V3101.ext E3106
                have A3114 := A3100.ext E3106
                have A3115 := A3102.ext E3106
                have V3116 := V3097.ext E3106
                have A3117 := A3103.ext E3106
                have O3118 := O3104.ext E3106
                have S3119 := S3105.ext E3106
                have F3120 : Fld Z h3106 a3106 "com/example/cladewalk/cladewalk/tree/Tree" "parents" "[I" .null := D3106 (Or.inr (ww 54 rfl)) (ty := (.array .int)) (by decide)
                have F3121 : Fld Z h3106 a3106 "com/example/cladewalk/cladewalk/tree/Tree" "lengths" "[D" .null := D3106 (Or.inr (ww 62 rfl)) (ty := (.array .double)) (by decide)
                have F3122 : Fld Z h3106 a3106 "com/example/cladewalk/cladewalk/tree/Tree" "names" "[Ljava/lang/String;" .null := D3106 (Or.inr (ww 70 rfl)) (ty := (.array (.object "java/lang/String"))) (by decide)
                have F3123 : Fld Z h3106 a3106 "com/example/cladewalk/cladewalk/tree/Tree" "childCounts" "[I" .null := D3106 (Or.inr (ww 72 rfl)) (ty := (.array .int)) (by decide)
                have F3124 : Fld Z h3106 a3106 "com/example/cladewalk/cladewalk/tree/Tree" "tipCount" "I" (.int (0 : Int32)) := D3106 (Or.inr (ww 75 rfl)) (ty := .int) (by decide)
                refine own_dup X3106 rfl at_450 (pc' := 451) rfl ?_
                refine own_aload X3106 rfl rfl at_451 (pc' := 453) rfl ?_
                refine own_aload X3106 rfl rfl at_453 (pc' := 455) rfl ?_
                refine own_aload X3106 rfl rfl at_455 (pc' := 457) rfl ?_
                refine own_special X3106 (own_ti_1 l Z a0 hw a3106 a3063 a3068 a3087 b3081 _ n0 X3106.le ge3106 A3106 F3120 F3121 F3122 F3123 F3124 V3111 V3113 V3116 A3112 A3114 A3117 ne3107.symm ne3108.symm ne3110.symm ) rfl rfl (ww 40 rfl) (ww 41 rfl) (ww 39 rfl) (ww 42 rfl) (by decide) rfl (by decide) (W := 1) (Nat.le_of_eq rfl) (by decide) (cells' := 30) (slots' := 82) rfl rfl (by decide) (by decide) (argsL := [(.ref a3063), (.ref a3068), (.ref a3087)]) (rest := [(.ref a3106)]) (lenOf own_pd13 rfl) rfl rfl at_457 (pc' := 460) rfl ?_
                rintro _ T3125 h3125 X3125 ⟨rfl, ⟨x3125, y3125, F3125a, F3125b, V3125a, V3125b⟩, K3125⟩
                have S3126 := own_Sta.keep1 S3119 K3125 A3106
                have A3127 := A3115.keep K3125
                have A3128 := A3106.keep K3125
                show own_Goal p e below _ T3125 (mkF m 460 #[oI p0, oI p1, oI p2, oI p3, oI p4, oI 2, oI 3, oI 3, oI 1, oI 1, oI 0, oI 0, oA b2839, oA b2841, oA b2844, oA b2848, oI b2855, oI b2858, oI b2861, oA a2862, oA a2900, oA a2957, oA b2839, oA b2841, .val .null, .val .null, oA a3023, oI 1, oA a3063, oA a3068, oA b3081, oA a3087, oU] [(.ref a3106)])
                refine own_astore X3125 (Ls' := #[oI p0, oI p1, oI p2, oI p3, oI p4, oI 2, oI 3, oI 3, oI 1, oI 1, oI 0, oI 0, oA b2839, oA b2841, oA b2844, oA b2848, oI b2855, oI b2858, oI b2861, oA a2862, oA a2900, oA a2957, oA b2839, oA b2841, .val .null, .val .null, oA a3023, oI 1, oA a3063, oA a3068, oA b3081, oA a3087, oA a3106]) rfl rfl at_460 (pc' := 462) rfl ?_
                refine own_iload X3125 rfl at_462 (pc' := 464) rfl ?_
                refine own_ifF X3125 (by decide) at_464 (pc' := 467) rfl ?_
                refine own_aload X3125 rfl rfl at_467 (pc' := 469) rfl ?_
                refine own_iconst X3125 (v := (0 : Int32)) (by decide) at_469 (pc' := 470) rfl ?_
                refine own_virtual X3125 (own_name_1_0_1 l Z a0 hw a3106 x3125 y3125 b3081 (0 : Int32) _ n0 X3125.le F3125a F3125b V3125a V3125b (by decide)) (C := "com/example/cladewalk/cladewalk/tree/Tree") rfl (ww 76 rfl) (ww 77 rfl) (ww 79 rfl) (ww 78 rfl) (ww 39 rfl) (ww 80 rfl) (by decide) rfl (by decide) (W := 0) (Nat.le_of_eq rfl) (by decide) (cells' := 30) (slots' := 82) rfl rfl (by decide) (by decide) A3128 (argsL := [(.int (0 : Int32))]) (rest := []) (lenOf own_pd12 rfl) rfl rfl at_470 (pc' := 473) rfl ?_
                rintro _ T3129 h3129 X3129 ⟨rfl, e3129⟩
                subst e3129
                show own_Goal p e below _ T3129 (mkF m 473 #[oI p0, oI p1, oI p2, oI p3, oI p4, oI 2, oI 3, oI 3, oI 1, oI 1, oI 0, oI 0, oA b2839, oA b2841, oA b2844, oA b2848, oI b2855, oI b2858, oI b2861, oA a2862, oA a2900, oA a2957, oA b2839, oA b2841, .val .null, .val .null, oA a3023, oI 1, oA a3063, oA a3068, oA b3081, oA a3087, oA a3106] [(.ref b3081)])
                refine own_aload X3129 rfl rfl at_473 (pc' := 475) rfl ?_
                refine own_callS X3129 (own_sameA l Z a0 hw b3081 _ n0 X3129.le A3127) (ww 81 rfl) (ww 82 rfl) (ww 2 rfl) (ww 83 rfl) (by decide) rfl (by decide) (W := 0) (Nat.le_of_eq rfl) (by decide) (cells' := 30) (slots' := 82) rfl rfl (by decide) (by decide) (argsL := [(.ref b3081), (.ref b3081)]) (rest := []) (lenOf own_pd11 rfl) rfl rfl at_475 (pc' := 478) rfl ?_
                rintro _ T3130 h3130 X3130 ⟨rfl, e3130⟩
                subst e3130
                show own_Goal p e below _ T3130 (mkF m 478 #[oI p0, oI p1, oI p2, oI p3, oI p4, oI 2, oI 3, oI 3, oI 1, oI 1, oI 0, oI 0, oA b2839, oA b2841, oA b2844, oA b2848, oI b2855, oI b2858, oI b2861, oA a2862, oA a2900, oA a2957, oA b2839, oA b2841, .val .null, .val .null, oA a3023, oI 1, oA a3063, oA a3068, oA b3081, oA a3087, oA a3106] [(.int (1 : Int32))])
                refine own_ifF X3130 (by decide) at_478 (pc' := 481) rfl ?_
                refine own_iload X3130 rfl at_481 (pc' := 483) rfl ?_
                refine own_ifF X3130 (by decide) at_483 (pc' := 486) rfl ?_
                refine own_iconst X3130 (v := (1 : Int32)) (by decide) at_486 (pc' := 487) rfl ?_
                refine own_goto X3130 at_487 (pc' := 491) (by decide) (by decide) ?_
                exact own_retZ X3130 (by decide) at_491 rfl (by decide) (by decide) rfl
              by_cases c3010 : b2861 = 0
              · -- join
                refine own_ifT X2998 (own_z_eq c3010).1 at_269 (pc' := 277) (by decide) (by decide) ?_
                refine own_aconst_null X2998  at_277 (pc' := 278) rfl ?_
                exact J3010 _ (Or.inl rfl)
              · -- join
                refine own_ifF X2998 (own_z_ne c3010).1 at_269 (pc' := 272) rfl ?_
                refine own_aload X2998 rfl rfl at_272 (pc' := 274) rfl ?_
                refine own_goto X2998 at_274 (pc' := 278) (by decide) (by decide) ?_
                exact J3010 _ (Or.inr rfl)
            by_cases c2997 : b2858 = 0
            · -- join
              refine own_ifT X2985 (own_z_eq c2997).1 at_254 (pc' := 262) (by decide) (by decide) ?_
              refine own_aconst_null X2985  at_262 (pc' := 263) rfl ?_
              exact J2997 _ (Or.inl rfl)
            · -- join
              refine own_ifF X2985 (own_z_ne c2997).1 at_254 (pc' := 257) rfl ?_
              refine own_aload X2985 rfl rfl at_257 (pc' := 259) rfl ?_
              refine own_goto X2985 at_259 (pc' := 263) (by decide) (by decide) ?_
              exact J2997 _ (Or.inr rfl)
          by_cases c2861 : i2860 = 0
          · -- join
            refine own_ifT X2848 (own_z_eq c2861).1 at_129 (pc' := 136) (by decide) (by decide) ?_
            refine own_iconst X2848 (v := (0 : Int32)) (by decide) at_136 (pc' := 137) rfl ?_
            exact J2861 _
          · -- join
            refine own_ifF X2848 (own_z_ne c2861).1 at_129 (pc' := 132) rfl ?_
            refine own_iconst X2848 (v := (1 : Int32)) (by decide) at_132 (pc' := 133) rfl ?_
            refine own_goto X2848 at_133 (pc' := 137) (by decide) (by decide) ?_
            exact J2861 _
        by_cases c2858 : i2857 = 0
        · -- join
          refine own_ifT X2848 (own_z_eq c2858).1 at_114 (pc' := 121) (by decide) (by decide) ?_
          refine own_iconst X2848 (v := (0 : Int32)) (by decide) at_121 (pc' := 122) rfl ?_
          exact J2858 _
        · -- join
          refine own_ifF X2848 (own_z_ne c2858).1 at_114 (pc' := 117) rfl ?_
          refine own_iconst X2848 (v := (1 : Int32)) (by decide) at_117 (pc' := 118) rfl ?_
          refine own_goto X2848 at_118 (pc' := 122) (by decide) (by decide) ?_
          exact J2858 _
      by_cases c2855 : i2854 = 0
      · -- join
        refine own_ifT X2848 (own_z_eq c2855).1 at_99 (pc' := 106) (by decide) (by decide) ?_
        refine own_iconst X2848 (v := (0 : Int32)) (by decide) at_106 (pc' := 107) rfl ?_
        exact J2855 _
      · -- join
        refine own_ifF X2848 (own_z_ne c2855).1 at_99 (pc' := 102) rfl ?_
        refine own_iconst X2848 (v := (1 : Int32)) (by decide) at_102 (pc' := 103) rfl ?_
        refine own_goto X2848 at_103 (pc' := 107) (by decide) (by decide) ?_
        exact J2855 _
  · -- 2
    refine own_iadd X0 (v := (3 : Int32)) (by decide) at_8 (pc' := 9) rfl ?_
    refine own_istore X0 (Ls' := #[oI p0, oI p1, oI p2, oI p3, oI p4, oI 3, oU, oU, oU, oU, oU, oU, oU, oU, oU, oU, oU, oU, oU, oU, oU, oU, oU, oU, oU, oU, oU, oU, oU, oU, oU, oU, oU]) rfl at_9 (pc' := 11) rfl ?_
    refine own_iconst X0 (v := (2 : Int32)) (by decide) at_11 (pc' := 12) rfl ?_
    refine own_iloadN X0 rfl at_12 (pc' := 13) rfl ?_
    refine own_bipush X0 (v := (8 : Int32)) (by decide) at_13 (pc' := 15) rfl ?_
    obtain ⟨i3131, e3131⟩ : ∃ v, XT.ushr p0 (8 : Int32) = v := ⟨_, rfl⟩
    refine own_iushr X0 e3131 at_15 (pc' := 16) rfl ?_
    refine own_iconst X0 (v := (1 : Int32)) (by decide) at_16 (pc' := 17) rfl ?_
    obtain ⟨i3132, e3132⟩ : ∃ v, i3131 &&& (1 : Int32) = v := ⟨_, rfl⟩
    have f3132 : own_I 1 i3132.toInt i3132 := own_I.and e3132 (by decide)
    have nn3132 := own_and_nn (M := 1) e3132 (by decide)
    refine own_iand X0 e3132 at_17 (pc' := 18) rfl ?_
    rcases own_cases2 nn3132 with rfl | rfl
    · -- 0
      refine own_iadd X0 (v := (2 : Int32)) (by decide) at_18 (pc' := 19) rfl ?_
      refine own_istore X0 (Ls' := #[oI p0, oI p1, oI p2, oI p3, oI p4, oI 3, oI 2, oU, oU, oU, oU, oU, oU, oU, oU, oU, oU, oU, oU, oU, oU, oU, oU, oU, oU, oU, oU, oU, oU, oU, oU, oU, oU]) rfl at_19 (pc' := 21) rfl ?_
      refine own_iconst X0 (v := (3 : Int32)) (by decide) at_21 (pc' := 22) rfl ?_
      refine own_istore X0 (Ls' := #[oI p0, oI p1, oI p2, oI p3, oI p4, oI 3, oI 2, oI 3, oU, oU, oU, oU, oU, oU, oU, oU, oU, oU, oU, oU, oU, oU, oU, oU, oU, oU, oU, oU, oU, oU, oU, oU, oU]) rfl at_22 (pc' := 24) rfl ?_
      refine own_iconst X0 (v := (1 : Int32)) (by decide) at_24 (pc' := 25) rfl ?_
      refine own_istore X0 (Ls' := #[oI p0, oI p1, oI p2, oI p3, oI p4, oI 3, oI 2, oI 3, oI 1, oU, oU, oU, oU, oU, oU, oU, oU, oU, oU, oU, oU, oU, oU, oU, oU, oU, oU, oU, oU, oU, oU, oU, oU]) rfl at_25 (pc' := 27) rfl ?_
      refine own_iload X0 rfl at_27 (pc' := 29) rfl ?_
      refine own_iconst X0 (v := (1 : Int32)) (by decide) at_29 (pc' := 30) rfl ?_
      refine own_icmpF X0 (by decide) at_30 (pc' := 33) rfl ?_
      refine own_iconst X0 (v := (1 : Int32)) (by decide) at_33 (pc' := 34) rfl ?_
      refine own_goto X0 at_34 (pc' := 38) (by decide) (by decide) ?_
      refine own_istore X0 (Ls' := #[oI p0, oI p1, oI p2, oI p3, oI p4, oI 3, oI 2, oI 3, oI 1, oI 1, oU, oU, oU, oU, oU, oU, oU, oU, oU, oU, oU, oU, oU, oU, oU, oU, oU, oU, oU, oU, oU, oU, oU]) rfl at_38 (pc' := 40) rfl ?_
      refine own_iload X0 rfl at_40 (pc' := 42) rfl ?_
      refine own_iconst X0 (v := (2 : Int32)) (by decide) at_42 (pc' := 43) rfl ?_
      refine own_icmpF X0 (by decide) at_43 (pc' := 46) rfl ?_
      refine own_iload X0 rfl at_46 (pc' := 48) rfl ?_
      refine own_iconst X0 (v := (2 : Int32)) (by decide) at_48 (pc' := 49) rfl ?_
      refine own_icmpT X0 (by decide) at_49 (pc' := 56) (by decide) (by decide) ?_
      refine own_iconst X0 (v := (0 : Int32)) (by decide) at_56 (pc' := 57) rfl ?_
      refine own_istore X0 (Ls' := #[oI p0, oI p1, oI p2, oI p3, oI p4, oI 3, oI 2, oI 3, oI 1, oI 1, oI 0, oU, oU, oU, oU, oU, oU, oU, oU, oU, oU, oU, oU, oU, oU, oU, oU, oU, oU, oU, oU, oU, oU]) rfl at_57 (pc' := 59) rfl ?_
      refine own_iconst X0 (v := (0 : Int32)) (by decide) at_59 (pc' := 60) rfl ?_
      refine own_istore X0 (Ls' := #[oI p0, oI p1, oI p2, oI p3, oI p4, oI 3, oI 2, oI 3, oI 1, oI 1, oI 0, oI 0, oU, oU, oU, oU, oU, oU, oU, oU, oU, oU, oU, oU, oU, oU, oU, oU, oU, oU, oU, oU, oU]) rfl at_60 (pc' := 62) rfl ?_
      refine own_iloadN X0 rfl at_62 (pc' := 63) rfl ?_
      refine own_iloadN X0 rfl at_63 (pc' := 64) rfl ?_
      refine own_iconst X0 (v := (0 : Int32)) (by decide) at_64 (pc' := 65) rfl ?_
      refine own_callS X0 (own_two l Z a0 hw p1 p2 (0 : Int32) _ n0 X0.le cs S0 hcs) (ww 0 rfl) (ww 1 rfl) (ww 2 rfl) (ww 3 rfl) (by decide) rfl (by decide) (W := 0) (Nat.le_of_eq rfl) (by decide) (cells' := 3) (slots' := 8) rfl rfl (by decide) (by decide) (argsL := [(.int p1), (.int p2), (.int (0 : Int32))]) (rest := []) (lenOf own_pd5 rfl) rfl rfl at_65 (pc' := 68) rfl ?_
      rintro _ T3133 h3133 X3133 ⟨b3133, rfl, A3133, K3133⟩
      have S3134 := own_Sta.keep0 S0 K3133
      show own_Goal p e below _ T3133 (mkF m 68 #[oI p0, oI p1, oI p2, oI p3, oI p4, oI 3, oI 2, oI 3, oI 1, oI 1, oI 0, oI 0, oU, oU, oU, oU, oU, oU, oU, oU, oU, oU, oU, oU, oU, oU, oU, oU, oU, oU, oU, oU, oU] [(.ref b3133)])
      refine own_astore X3133 (Ls' := #[oI p0, oI p1, oI p2, oI p3, oI p4, oI 3, oI 2, oI 3, oI 1, oI 1, oI 0, oI 0, oA b3133, oU, oU, oU, oU, oU, oU, oU, oU, oU, oU, oU, oU, oU, oU, oU, oU, oU, oU, oU, oU]) rfl rfl at_68 (pc' := 70) rfl ?_
      refine own_iloadN X3133 rfl at_70 (pc' := 71) rfl ?_
      refine own_iloadN X3133 rfl at_71 (pc' := 72) rfl ?_
      refine own_iconst X3133 (v := (1 : Int32)) (by decide) at_72 (pc' := 73) rfl ?_
      refine own_callS X3133 (own_two l Z a0 hw p1 p2 (1 : Int32) _ n0 X3133.le cs S3134 hcs) (ww 0 rfl) (ww 1 rfl) (ww 2 rfl) (ww 3 rfl) (by decide) rfl (by decide) (W := 0) (Nat.le_of_eq rfl) (by decide) (cells' := 6) (slots' := 16) rfl rfl (by decide) (by decide) (argsL := [(.int p1), (.int p2), (.int (1 : Int32))]) (rest := []) (lenOf own_pd5 rfl) rfl rfl at_73 (pc' := 76) rfl ?_
      rintro _ T3135 h3135 X3135 ⟨b3135, rfl, A3135, K3135⟩
      have S3136 := own_Sta.keep0 S3134 K3135
      have A3137 := A3133.keep K3135
      show own_Goal p e below _ T3135 (mkF m 76 #[oI p0, oI p1, oI p2, oI p3, oI p4, oI 3, oI 2, oI 3, oI 1, oI 1, oI 0, oI 0, oA b3133, oU, oU, oU, oU, oU, oU, oU, oU, oU, oU, oU, oU, oU, oU, oU, oU, oU, oU, oU, oU] [(.ref b3135)])
      refine own_astore X3135 (Ls' := #[oI p0, oI p1, oI p2, oI p3, oI p4, oI 3, oI 2, oI 3, oI 1, oI 1, oI 0, oI 0, oA b3133, oA b3135, oU, oU, oU, oU, oU, oU, oU, oU, oU, oU, oU, oU, oU, oU, oU, oU, oU, oU, oU]) rfl rfl at_76 (pc' := 78) rfl ?_
      refine own_iloadN X3135 rfl at_78 (pc' := 79) rfl ?_
      refine own_iloadN X3135 rfl at_79 (pc' := 80) rfl ?_
      refine own_iconst X3135 (v := (2 : Int32)) (by decide) at_80 (pc' := 81) rfl ?_
      refine own_callS X3135 (own_two l Z a0 hw p1 p2 (2 : Int32) _ n0 X3135.le cs S3136 hcs) (ww 0 rfl) (ww 1 rfl) (ww 2 rfl) (ww 3 rfl) (by decide) rfl (by decide) (W := 0) (Nat.le_of_eq rfl) (by decide) (cells' := 9) (slots' := 24) rfl rfl (by decide) (by decide) (argsL := [(.int p1), (.int p2), (.int (2 : Int32))]) (rest := []) (lenOf own_pd5 rfl) rfl rfl at_81 (pc' := 84) rfl ?_
      rintro _ T3138 h3138 X3138 ⟨b3138, rfl, A3138, K3138⟩
      have S3139 := own_Sta.keep0 S3136 K3138
      have A3140 := A3137.keep K3138
      have A3141 := A3135.keep K3138
      show own_Goal p e below _ T3138 (mkF m 84 #[oI p0, oI p1, oI p2, oI p3, oI p4, oI 3, oI 2, oI 3, oI 1, oI 1, oI 0, oI 0, oA b3133, oA b3135, oU, oU, oU, oU, oU, oU, oU, oU, oU, oU, oU, oU, oU, oU, oU, oU, oU, oU, oU] [(.ref b3138)])
      refine own_astore X3138 (Ls' := #[oI p0, oI p1, oI p2, oI p3, oI p4, oI 3, oI 2, oI 3, oI 1, oI 1, oI 0, oI 0, oA b3133, oA b3135, oA b3138, oU, oU, oU, oU, oU, oU, oU, oU, oU, oU, oU, oU, oU, oU, oU, oU, oU, oU]) rfl rfl at_84 (pc' := 86) rfl ?_
      refine own_iloadN X3138 rfl at_86 (pc' := 87) rfl ?_
      refine own_iloadN X3138 rfl at_87 (pc' := 88) rfl ?_
      refine own_iconst X3138 (v := (3 : Int32)) (by decide) at_88 (pc' := 89) rfl ?_
      refine own_callS X3138 (own_two l Z a0 hw p1 p2 (3 : Int32) _ n0 X3138.le cs S3139 hcs) (ww 0 rfl) (ww 1 rfl) (ww 2 rfl) (ww 3 rfl) (by decide) rfl (by decide) (W := 0) (Nat.le_of_eq rfl) (by decide) (cells' := 12) (slots' := 32) rfl rfl (by decide) (by decide) (argsL := [(.int p1), (.int p2), (.int (3 : Int32))]) (rest := []) (lenOf own_pd5 rfl) rfl rfl at_89 (pc' := 92) rfl ?_
      rintro _ T3142 h3142 X3142 ⟨b3142, rfl, A3142, K3142⟩
      have S3143 := own_Sta.keep0 S3139 K3142
      have A3144 := A3140.keep K3142
      have A3145 := A3141.keep K3142
      have A3146 := A3138.keep K3142
      show own_Goal p e below _ T3142 (mkF m 92 #[oI p0, oI p1, oI p2, oI p3, oI p4, oI 3, oI 2, oI 3, oI 1, oI 1, oI 0, oI 0, oA b3133, oA b3135, oA b3138, oU, oU, oU, oU, oU, oU, oU, oU, oU, oU, oU, oU, oU, oU, oU, oU, oU, oU] [(.ref b3142)])
      refine own_astore X3142 (Ls' := #[oI p0, oI p1, oI p2, oI p3, oI p4, oI 3, oI 2, oI 3, oI 1, oI 1, oI 0, oI 0, oA b3133, oA b3135, oA b3138, oA b3142, oU, oU, oU, oU, oU, oU, oU, oU, oU, oU, oU, oU, oU, oU, oU, oU, oU]) rfl rfl at_92 (pc' := 94) rfl ?_
      refine own_iloadN X3142 rfl at_94 (pc' := 95) rfl ?_
      refine own_iconst X3142 (v := (1 : Int32)) (by decide) at_95 (pc' := 96) rfl ?_
      obtain ⟨i3147, e3147⟩ : ∃ v, XT.ushr p3 (1 : Int32) = v := ⟨_, rfl⟩
      refine own_iushr X3142 e3147 at_96 (pc' := 97) rfl ?_
      refine own_iconst X3142 (v := (1 : Int32)) (by decide) at_97 (pc' := 98) rfl ?_
      obtain ⟨i3148, e3148⟩ : ∃ v, i3147 &&& (1 : Int32) = v := ⟨_, rfl⟩
      have f3148 : own_I 1 i3148.toInt i3148 := own_I.and e3148 (by decide)
      have nn3148 := own_and_nn (M := 1) e3148 (by decide)
      refine own_iand X3142 e3148 at_98 (pc' := 99) rfl ?_
      have J3149 : ∀ (b3149 : Int32), own_Goal p e below (own_Fin below s room_1 n0 (fun v _ => v = some (.int 1))) T3142 (mkF m 107 #[oI p0, oI p1, oI p2, oI p3, oI p4, oI 3, oI 2, oI 3, oI 1, oI 1, oI 0, oI 0, oA b3133, oA b3135, oA b3138, oA b3142, oU, oU, oU, oU, oU, oU, oU, oU, oU, oU, oU, oU, oU, oU, oU, oU, oU] [(.int b3149)]) := by
        intro b3149
        refine own_istore X3142 (Ls' := #[oI p0, oI p1, oI p2, oI p3, oI p4, oI 3, oI 2, oI 3, oI 1, oI 1, oI 0, oI 0, oA b3133, oA b3135, oA b3138, oA b3142, oI b3149, oU, oU, oU, oU, oU, oU, oU, oU, oU, oU, oU, oU, oU, oU, oU, oU]) rfl at_107 (pc' := 109) rfl ?_
        refine own_iloadN X3142 rfl at_109 (pc' := 110) rfl ?_
        refine own_iconst X3142 (v := (2 : Int32)) (by decide) at_110 (pc' := 111) rfl ?_
        obtain ⟨i3150, e3150⟩ : ∃ v, XT.ushr p3 (2 : Int32) = v := ⟨_, rfl⟩
        refine own_iushr X3142 e3150 at_111 (pc' := 112) rfl ?_
        refine own_iconst X3142 (v := (1 : Int32)) (by decide) at_112 (pc' := 113) rfl ?_
        obtain ⟨i3151, e3151⟩ : ∃ v, i3150 &&& (1 : Int32) = v := ⟨_, rfl⟩
        have f3151 : own_I 1 i3151.toInt i3151 := own_I.and e3151 (by decide)
        have nn3151 := own_and_nn (M := 1) e3151 (by decide)
        refine own_iand X3142 e3151 at_113 (pc' := 114) rfl ?_
        have J3152 : ∀ (b3152 : Int32), own_Goal p e below (own_Fin below s room_1 n0 (fun v _ => v = some (.int 1))) T3142 (mkF m 122 #[oI p0, oI p1, oI p2, oI p3, oI p4, oI 3, oI 2, oI 3, oI 1, oI 1, oI 0, oI 0, oA b3133, oA b3135, oA b3138, oA b3142, oI b3149, oU, oU, oU, oU, oU, oU, oU, oU, oU, oU, oU, oU, oU, oU, oU, oU] [(.int b3152)]) := by
          intro b3152
          refine own_istore X3142 (Ls' := #[oI p0, oI p1, oI p2, oI p3, oI p4, oI 3, oI 2, oI 3, oI 1, oI 1, oI 0, oI 0, oA b3133, oA b3135, oA b3138, oA b3142, oI b3149, oI b3152, oU, oU, oU, oU, oU, oU, oU, oU, oU, oU, oU, oU, oU, oU, oU]) rfl at_122 (pc' := 124) rfl ?_
          refine own_iloadN X3142 rfl at_124 (pc' := 125) rfl ?_
          refine own_iconst X3142 (v := (3 : Int32)) (by decide) at_125 (pc' := 126) rfl ?_
          obtain ⟨i3153, e3153⟩ : ∃ v, XT.ushr p3 (3 : Int32) = v := ⟨_, rfl⟩
          refine own_iushr X3142 e3153 at_126 (pc' := 127) rfl ?_
          refine own_iconst X3142 (v := (1 : Int32)) (by decide) at_127 (pc' := 128) rfl ?_
          obtain ⟨i3154, e3154⟩ : ∃ v, i3153 &&& (1 : Int32) = v := ⟨_, rfl⟩
          have f3154 : own_I 1 i3154.toInt i3154 := own_I.and e3154 (by decide)
          have nn3154 := own_and_nn (M := 1) e3154 (by decide)
          refine own_iand X3142 e3154 at_128 (pc' := 129) rfl ?_
          have J3155 : ∀ (b3155 : Int32), own_Goal p e below (own_Fin below s room_1 n0 (fun v _ => v = some (.int 1))) T3142 (mkF m 137 #[oI p0, oI p1, oI p2, oI p3, oI p4, oI 3, oI 2, oI 3, oI 1, oI 1, oI 0, oI 0, oA b3133, oA b3135, oA b3138, oA b3142, oI b3149, oI b3152, oU, oU, oU, oU, oU, oU, oU, oU, oU, oU, oU, oU, oU, oU, oU] [(.int b3155)]) := by
            intro b3155
            refine own_istore X3142 (Ls' := #[oI p0, oI p1, oI p2, oI p3, oI p4, oI 3, oI 2, oI 3, oI 1, oI 1, oI 0, oI 0, oA b3133, oA b3135, oA b3138, oA b3142, oI b3149, oI b3152, oI b3155, oU, oU, oU, oU, oU, oU, oU, oU, oU, oU, oU, oU, oU, oU]) rfl at_137 (pc' := 139) rfl ?_
            refine own_iconst X3142 (v := (4 : Int32)) (by decide) at_139 (pc' := 140) rfl ?_
            refine own_newarrayE X3142 (ty := .int) rfl (ad := "[I") (by decide) (ww 34 rfl) (n := 4) (vs := [(.int (0 : Int32)), (.int (0 : Int32)), (.int (0 : Int32)), (.int (0 : Int32))]) (by decide) (by decide) (by decide) rfl (cells' := 13) (slots' := 36) rfl rfl (by decide) (by decide) at_140 (pc' := 142) rfl fun a3156 T3156 h3156 g3156 ge3156 X3156 E3156 V3156 A3156 => ?_
            have ne3157 : b3133 ≠ a3156 := own_lt_ne A3144.lt g3156
            have ne3158 : b3135 ≠ a3156 := own_lt_ne A3145.lt g3156
            have ne3159 : b3138 ≠ a3156 := own_lt_ne A3146.lt g3156
            have ne3160 : b3142 ≠ a3156 := own_lt_ne A3142.lt g3156
            have A3161 := A3144.ext E3156
            have A3162 := A3145.ext E3156
            have A3163 := A3146.ext E3156
            have A3164 := A3142.ext E3156
            have S3165 := S3143.ext E3156
            refine own_astore X3156 (Ls' := #[oI p0, oI p1, oI p2, oI p3, oI p4, oI 3, oI 2, oI 3, oI 1, oI 1, oI 0, oI 0, oA b3133, oA b3135, oA b3138, oA b3142, oI b3149, oI b3152, oI b3155, oA a3156, oU, oU, oU, oU, oU, oU, oU, oU, oU, oU, oU, oU, oU]) rfl rfl at_142 (pc' := 144) rfl ?_
            refine own_aload X3156 rfl rfl at_144 (pc' := 146) rfl ?_
            refine own_iconst X3156 (v := (0 : Int32)) (by decide) at_146 (pc' := 147) rfl ?_
            refine own_iload X3156 rfl at_147 (pc' := 149) rfl ?_
            refine own_iastore X3156 V3156 ge3156 (i := 0) (by decide) (by decide) (show 0 < 4 by decide) at_149 (pc' := 150) rfl fun T3166 h3166 X3166 W3166 V3166 => ?_
            have A3167 := A3161.wr W3166
            have A3168 := A3162.wr W3166
            have A3169 := A3163.wr W3166
            have A3170 := A3164.wr W3166
            have A3171 := A3156.wr W3166
            have S3172 := S3165.wr W3166
            replace V3166 : own_Vec Z h3166 a3156 .int [(.int (3 : Int32)), (.int (0 : Int32)), (.int (0 : Int32)), (.int (0 : Int32))] := V3166
            refine own_aload X3166 rfl rfl at_150 (pc' := 152) rfl ?_
            refine own_iconst X3166 (v := (1 : Int32)) (by decide) at_152 (pc' := 153) rfl ?_
            refine own_iload X3166 rfl at_153 (pc' := 155) rfl ?_
            refine own_iastore X3166 V3166 ge3156 (i := 1) (by decide) (by decide) (show 1 < 4 by decide) at_155 (pc' := 156) rfl fun T3173 h3173 X3173 W3173 V3173 => ?_
            have A3174 := A3167.wr W3173
            have A3175 := A3168.wr W3173
            have A3176 := A3169.wr W3173
            have A3177 := A3170.wr W3173
            have A3178 := A3171.wr W3173
            have S3179 := S3172.wr W3173
            replace V3173 : own_Vec Z h3173 a3156 .int [(.int (3 : Int32)), (.int (2 : Int32)), (.int (0 : Int32)), (.int (0 : Int32))] := V3173
            refine own_aload X3173 rfl rfl at_156 (pc' := 158) rfl ?_
            refine own_iconst X3173 (v := (2 : Int32)) (by decide) at_158 (pc' := 159) rfl ?_
            refine own_iload X3173 rfl at_159 (pc' := 161) rfl ?_
            refine own_iastore X3173 V3173 ge3156 (i := 2) (by decide) (by decide) (show 2 < 4 by decide) at_161 (pc' := 162) rfl fun T3180 h3180 X3180 W3180 V3180 => ?_
            have A3181 := A3174.wr W3180
            have A3182 := A3175.wr W3180
            have A3183 := A3176.wr W3180
            have A3184 := A3177.wr W3180
            have A3185 := A3178.wr W3180
            have S3186 := S3179.wr W3180
            replace V3180 : own_Vec Z h3180 a3156 .int [(.int (3 : Int32)), (.int (2 : Int32)), (.int (3 : Int32)), (.int (0 : Int32))] := V3180
            refine own_aload X3180 rfl rfl at_162 (pc' := 164) rfl ?_
            refine own_iconst X3180 (v := (3 : Int32)) (by decide) at_164 (pc' := 165) rfl ?_
            refine own_iconst X3180 (v := (-1 : Int32)) (by decide) at_165 (pc' := 166) rfl ?_
            refine own_iastore X3180 V3180 ge3156 (i := 3) (by decide) (by decide) (show 3 < 4 by decide) at_166 (pc' := 167) rfl fun T3187 h3187 X3187 W3187 V3187 => ?_
            have A3188 := A3181.wr W3187
            have A3189 := A3182.wr W3187
            have A3190 := A3183.wr W3187
            have A3191 := A3184.wr W3187
            have A3192 := A3185.wr W3187
            have S3193 := S3186.wr W3187
            replace V3187 : own_Vec Z h3187 a3156 .int [(.int (3 : Int32)), (.int (2 : Int32)), (.int (3 : Int32)), (.int (-1 : Int32))] := V3187
            refine own_iconst X3187 (v := (4 : Int32)) (by decide) at_167 (pc' := 168) rfl ?_
            refine own_newarrayE X3187 (ty := .double) rfl (ad := "[D") (by decide) (ww 35 rfl) (n := 4) (vs := [(.double (0 : UInt64)), (.double (0 : UInt64)), (.double (0 : UInt64)), (.double (0 : UInt64))]) (by decide) (by decide) (by decide) rfl (cells' := 14) (slots' := 40) rfl rfl (by decide) (by decide) at_168 (pc' := 170) rfl fun a3194 T3194 h3194 g3194 ge3194 X3194 E3194 V3194 A3194 => ?_
            have ne3195 : b3133 ≠ a3194 := own_lt_ne A3188.lt g3194
            have ne3196 : b3135 ≠ a3194 := own_lt_ne A3189.lt g3194
            have ne3197 : b3138 ≠ a3194 := own_lt_ne A3190.lt g3194
            have ne3198 : b3142 ≠ a3194 := own_lt_ne A3191.lt g3194
            have ne3199 : a3156 ≠ a3194 := own_lt_ne V3187.lt g3194
            have A3200 := A3188.ext E3194
            have A3201 := A3189.ext E3194
            have A3202 := A3190.ext E3194
            have A3203 := A3191.ext E3194
            have V3204 := V3187.ext E3194
            have A3205 := A3192.ext E3194
            have S3206 := S3193.ext E3194
            refine own_astore X3194 (Ls' := #[oI p0, oI p1, oI p2, oI p3, oI p4, oI 3, oI 2, oI 3, oI 1, oI 1, oI 0, oI 0, oA b3133, oA b3135, oA b3138, oA b3142, oI b3149, oI b3152, oI b3155, oA a3156, oA a3194, oU, oU, oU, oU, oU, oU, oU, oU, oU, oU, oU, oU]) rfl rfl at_170 (pc' := 172) rfl ?_
            refine own_aload X3194 rfl rfl at_172 (pc' := 174) rfl ?_
            refine own_iconst X3194 (v := (0 : Int32)) (by decide) at_174 (pc' := 175) rfl ?_
            refine own_iload X3194 rfl at_175 (pc' := 177) rfl ?_
            refine own_bipush X3194 (v := (7 : Int32)) (by decide) at_177 (pc' := 179) rfl ?_
            obtain ⟨i3207, e3207⟩ : ∃ v, p4 &&& (7 : Int32) = v := ⟨_, rfl⟩
            have f3207 : own_I 7 i3207.toInt i3207 := own_I.and e3207 (by decide)
            have nn3207 := own_and_nn (M := 7) e3207 (by decide)
            refine own_iand X3194 e3207 at_179 (pc' := 180) rfl ?_
            obtain ⟨d3208, e3208⟩ : ∃ v, FP.i2d i3207 = v := ⟨_, rfl⟩
            have f3208 : own_D 0 7 i3207.toInt d3208 := own_D.i2d f3207 e3208
            refine own_i2d X3194 e3208 at_180 (pc' := 181) rfl ?_
            refine own_dastore X3194 V3194 ge3194 (i := 0) (by decide) (by decide) (show 0 < 4 by decide) at_181 (pc' := 182) rfl fun T3209 h3209 X3209 W3209 V3209 => ?_
            have A3210 := A3200.wr W3209
            have A3211 := A3201.wr W3209
            have A3212 := A3202.wr W3209
            have A3213 := A3203.wr W3209
            have A3214 := A3205.wr W3209
            have V3215 := V3204.other W3209 ne3199
            have A3216 := A3194.wr W3209
            have S3217 := S3206.wr W3209
            replace V3209 : own_Vec Z h3209 a3194 .double [(.double d3208), (.double (0 : UInt64)), (.double (0 : UInt64)), (.double (0 : UInt64))] := V3209
            refine own_aload X3209 rfl rfl at_182 (pc' := 184) rfl ?_
            refine own_iconst X3209 (v := (1 : Int32)) (by decide) at_184 (pc' := 185) rfl ?_
            refine own_iload X3209 rfl at_185 (pc' := 187) rfl ?_
            refine own_iconst X3209 (v := (3 : Int32)) (by decide) at_187 (pc' := 188) rfl ?_
            obtain ⟨i3218, e3218⟩ : ∃ v, XT.ushr p4 (3 : Int32) = v := ⟨_, rfl⟩
            refine own_iushr X3209 e3218 at_188 (pc' := 189) rfl ?_
            refine own_bipush X3209 (v := (7 : Int32)) (by decide) at_189 (pc' := 191) rfl ?_
            obtain ⟨i3219, e3219⟩ : ∃ v, i3218 &&& (7 : Int32) = v := ⟨_, rfl⟩
            have f3219 : own_I 7 i3219.toInt i3219 := own_I.and e3219 (by decide)
            have nn3219 := own_and_nn (M := 7) e3219 (by decide)
            refine own_iand X3209 e3219 at_191 (pc' := 192) rfl ?_
            obtain ⟨d3220, e3220⟩ : ∃ v, FP.i2d i3219 = v := ⟨_, rfl⟩
            have f3220 : own_D 0 7 i3219.toInt d3220 := own_D.i2d f3219 e3220
            refine own_i2d X3209 e3220 at_192 (pc' := 193) rfl ?_
            refine own_dastore X3209 V3209 ge3194 (i := 1) (by decide) (by decide) (show 1 < 4 by decide) at_193 (pc' := 194) rfl fun T3221 h3221 X3221 W3221 V3221 => ?_
            have A3222 := A3210.wr W3221
            have A3223 := A3211.wr W3221
            have A3224 := A3212.wr W3221
            have A3225 := A3213.wr W3221
            have A3226 := A3214.wr W3221
            have V3227 := V3215.other W3221 ne3199
            have A3228 := A3216.wr W3221
            have S3229 := S3217.wr W3221
            replace V3221 : own_Vec Z h3221 a3194 .double [(.double d3208), (.double d3220), (.double (0 : UInt64)), (.double (0 : UInt64))] := V3221
            refine own_aload X3221 rfl rfl at_194 (pc' := 196) rfl ?_
            refine own_iconst X3221 (v := (2 : Int32)) (by decide) at_196 (pc' := 197) rfl ?_
            refine own_iload X3221 rfl at_197 (pc' := 199) rfl ?_
            refine own_bipush X3221 (v := (6 : Int32)) (by decide) at_199 (pc' := 201) rfl ?_
            obtain ⟨i3230, e3230⟩ : ∃ v, XT.ushr p4 (6 : Int32) = v := ⟨_, rfl⟩
            refine own_iushr X3221 e3230 at_201 (pc' := 202) rfl ?_
            refine own_bipush X3221 (v := (7 : Int32)) (by decide) at_202 (pc' := 204) rfl ?_
            obtain ⟨i3231, e3231⟩ : ∃ v, i3230 &&& (7 : Int32) = v := ⟨_, rfl⟩
            have f3231 : own_I 7 i3231.toInt i3231 := own_I.and e3231 (by decide)
            have nn3231 := own_and_nn (M := 7) e3231 (by decide)
            refine own_iand X3221 e3231 at_204 (pc' := 205) rfl ?_
            obtain ⟨d3232, e3232⟩ : ∃ v, FP.i2d i3231 = v := ⟨_, rfl⟩
            have f3232 : own_D 0 7 i3231.toInt d3232 := own_D.i2d f3231 e3232
            refine own_i2d X3221 e3232 at_205 (pc' := 206) rfl ?_
            refine own_dastore X3221 V3221 ge3194 (i := 2) (by decide) (by decide) (show 2 < 4 by decide) at_206 (pc' := 207) rfl fun T3233 h3233 X3233 W3233 V3233 => ?_
            have A3234 := A3222.wr W3233
            have A3235 := A3223.wr W3233
            have A3236 := A3224.wr W3233
            have A3237 := A3225.wr W3233
            have A3238 := A3226.wr W3233
            have V3239 := V3227.other W3233 ne3199
            have A3240 := A3228.wr W3233
            have S3241 := S3229.wr W3233
            replace V3233 : own_Vec Z h3233 a3194 .double [(.double d3208), (.double d3220), (.double d3232), (.double (0 : UInt64))] := V3233
            refine own_aload X3233 rfl rfl at_207 (pc' := 209) rfl ?_
            refine own_iconst X3233 (v := (3 : Int32)) (by decide) at_209 (pc' := 210) rfl ?_
            refine own_dconst0 X3233 (v := (0 : UInt64)) rfl at_210 (pc' := 211) rfl ?_
            refine own_dastore X3233 V3233 ge3194 (i := 3) (by decide) (by decide) (show 3 < 4 by decide) at_211 (pc' := 212) rfl fun T3242 h3242 X3242 W3242 V3242 => ?_
            have A3243 := A3234.wr W3242
            have A3244 := A3235.wr W3242
            have A3245 := A3236.wr W3242
            have A3246 := A3237.wr W3242
            have A3247 := A3238.wr W3242
            have V3248 := V3239.other W3242 ne3199
            have A3249 := A3240.wr W3242
            have S3250 := S3241.wr W3242
            replace V3242 : own_Vec Z h3242 a3194 .double [(.double d3208), (.double d3220), (.double d3232), (.double (0 : UInt64))] := V3242
            refine own_iconst X3242 (v := (4 : Int32)) (by decide) at_212 (pc' := 213) rfl ?_
            refine own_anewarray X3242 (ww 5 rfl) (ww 36 rfl) (ad := "[Ljava/lang/String;") (by decide) (n := 4) (vs := [.null, .null, .null, .null]) (by decide) (by decide) (by decide) rfl (cells' := 15) (slots' := 44) rfl rfl (by decide) (by decide) at_213 (pc' := 216) rfl fun a3251 T3251 h3251 g3251 ge3251 X3251 E3251 V3251 A3251 O3251 => ?_
            have ne3252 : b3133 ≠ a3251 := own_lt_ne A3243.lt g3251
            have ne3253 : b3135 ≠ a3251 := own_lt_ne A3244.lt g3251
            have ne3254 : b3138 ≠ a3251 := own_lt_ne A3245.lt g3251
            have ne3255 : b3142 ≠ a3251 := own_lt_ne A3246.lt g3251
            have ne3256 : a3156 ≠ a3251 := own_lt_ne V3248.lt g3251
            have ne3257 : a3194 ≠ a3251 := own_lt_ne V3242.lt g3251
            have A3258 := A3243.ext E3251
            have A3259 := A3244.ext E3251
            have A3260 := A3245.ext E3251
            have A3261 := A3246.ext E3251
            have V3262 := V3248.ext E3251
            have A3263 := A3247.ext E3251
            have V3264 := V3242.ext E3251
            have A3265 := A3249.ext E3251
            have S3266 := S3250.ext E3251
            refine own_astore X3251 (Ls' := #[oI p0, oI p1, oI p2, oI p3, oI p4, oI 3, oI 2, oI 3, oI 1, oI 1, oI 0, oI 0, oA b3133, oA b3135, oA b3138, oA b3142, oI b3149, oI b3152, oI b3155, oA a3156, oA a3194, oA a3251, oU, oU, oU, oU, oU, oU, oU, oU, oU, oU, oU]) rfl rfl at_216 (pc' := 218) rfl ?_
            refine own_aload X3251 rfl rfl at_218 (pc' := 220) rfl ?_
            refine own_iconst X3251 (v := (0 : Int32)) (by decide) at_220 (pc' := 221) rfl ?_
            refine own_aload X3251 rfl rfl at_221 (pc' := 223) rfl ?_
            refine own_aastore X3251 V3251 O3251 ge3251 (Or.inr ⟨_, rfl, A3258⟩) (i := 0) (by decide) (by decide) (show 0 < 4 by decide) at_223 (pc' := 224) rfl fun T3267 h3267 X3267 W3267 V3267 => ?_
            have A3268 := A3258.wr W3267
            have A3269 := A3259.wr W3267
            have A3270 := A3260.wr W3267
            have A3271 := A3261.wr W3267
            have A3272 := A3263.wr W3267
            have V3273 := V3262.other W3267 ne3256
            have A3274 := A3265.wr W3267
            have V3275 := V3264.other W3267 ne3257
            have A3276 := A3251.wr W3267
            have O3277 := O3251.wr W3267
            have S3278 := S3266.wr W3267
            replace V3267 : own_Vec Z h3267 a3251 (.object "java/lang/String") [(.ref b3133), .null, .null, .null] := V3267
            refine own_aload X3267 rfl rfl at_224 (pc' := 226) rfl ?_
            refine own_iconst X3267 (v := (1 : Int32)) (by decide) at_226 (pc' := 227) rfl ?_
            refine own_iload X3267 rfl at_227 (pc' := 229) rfl ?_
            refine own_ifT X3267 (by decide) at_229 (pc' := 237) (by decide) (by decide) ?_
            refine own_aload X3267 rfl rfl at_237 (pc' := 239) rfl ?_
            refine own_goto X3267 at_239 (pc' := 243) (by decide) (by decide) ?_
            refine own_aastore X3267 V3267 O3277 ge3251 (Or.inr ⟨_, rfl, A3269⟩) (i := 1) (by decide) (by decide) (show 1 < 4 by decide) at_243 (pc' := 244) rfl fun T3279 h3279 X3279 W3279 V3279 => ?_
            have A3280 := A3268.wr W3279
            have A3281 := A3269.wr W3279
            have A3282 := A3270.wr W3279
            have A3283 := A3271.wr W3279
            have A3284 := A3272.wr W3279
            have V3285 := V3273.other W3279 ne3256
            have A3286 := A3274.wr W3279
            have V3287 := V3275.other W3279 ne3257
            have A3288 := A3276.wr W3279
            have O3289 := O3277.wr W3279
            have S3290 := S3278.wr W3279
            replace V3279 : own_Vec Z h3279 a3251 (.object "java/lang/String") [(.ref b3133), (.ref b3135), .null, .null] := V3279
            refine own_aload X3279 rfl rfl at_244 (pc' := 246) rfl ?_
            refine own_iconst X3279 (v := (2 : Int32)) (by decide) at_246 (pc' := 247) rfl ?_
            refine own_iload X3279 rfl at_247 (pc' := 249) rfl ?_
            refine own_ifF X3279 (by decide) at_249 (pc' := 252) rfl ?_
            refine own_iload X3279 rfl at_252 (pc' := 254) rfl ?_
            have J3291 : ∀ (b3291 : Value) (hb3291 : b3291 = .null ∨ b3291 = .ref b3138), own_Goal p e below (own_Fin below s room_1 n0 (fun v _ => v = some (.int 1))) T3279 (mkF m 263 #[oI p0, oI p1, oI p2, oI p3, oI p4, oI 3, oI 2, oI 3, oI 1, oI 1, oI 0, oI 0, oA b3133, oA b3135, oA b3138, oA b3142, oI b3149, oI b3152, oI b3155, oA a3156, oA a3194, oA a3251, oU, oU, oU, oU, oU, oU, oU, oU, oU, oU, oU] [b3291, (.int (2 : Int32)), (.ref a3251)]) := by
              intro b3291 hb3291
              have fb3291 : fits (.object "java/lang/String") b3291 = true := by rcases hb3291 with q | q <;> rw [q] <;> rfl
              refine own_aastore X3279 V3279 O3289 ge3251 (hb3291.elim Or.inl fun q => Or.inr ⟨_, q, A3282⟩) (i := 2) (by decide) (by decide) (show 2 < 4 by decide) at_263 (pc' := 264) rfl fun T3292 h3292 X3292 W3292 V3292 => ?_
              have A3293 := A3280.wr W3292
              have A3294 := A3281.wr W3292
              have A3295 := A3282.wr W3292
              have A3296 := A3283.wr W3292
              have A3297 := A3284.wr W3292
              have V3298 := V3285.other W3292 ne3256
              have A3299 := A3286.wr W3292
              have V3300 := V3287.other W3292 ne3257
              have A3301 := A3288.wr W3292
              have O3302 := O3289.wr W3292
              have S3303 := S3290.wr W3292
              replace V3292 : own_Vec Z h3292 a3251 (.object "java/lang/String") [(.ref b3133), (.ref b3135), b3291, .null] := V3292
              refine own_aload X3292 rfl rfl at_264 (pc' := 266) rfl ?_
              refine own_iconst X3292 (v := (3 : Int32)) (by decide) at_266 (pc' := 267) rfl ?_
              refine own_iload X3292 rfl at_267 (pc' := 269) rfl ?_
              have J3304 : ∀ (b3304 : Value) (hb3304 : b3304 = .null ∨ b3304 = .ref b3142), own_Goal p e below (own_Fin below s room_1 n0 (fun v _ => v = some (.int 1))) T3292 (mkF m 278 #[oI p0, oI p1, oI p2, oI p3, oI p4, oI 3, oI 2, oI 3, oI 1, oI 1, oI 0, oI 0, oA b3133, oA b3135, oA b3138, oA b3142, oI b3149, oI b3152, oI b3155, oA a3156, oA a3194, oA a3251, oU, oU, oU, oU, oU, oU, oU, oU, oU, oU, oU] [b3304, (.int (3 : Int32)), (.ref a3251)]) := by
                intro b3304 hb3304
                have fb3304 : fits (.object "java/lang/String") b3304 = true := by rcases hb3304 with q | q <;> rw [q] <;> rfl
                refine own_aastore X3292 V3292 O3302 ge3251 (hb3304.elim Or.inl fun q => Or.inr ⟨_, q, A3296⟩) (i := 3) (by decide) (by decide) (show 3 < 4 by decide) at_278 (pc' := 279) rfl fun T3305 h3305 X3305 W3305 V3305 => ?_
                have A3306 := A3293.wr W3305
                have A3307 := A3294.wr W3305
                have A3308 := A3295.wr W3305
                have A3309 := A3296.wr W3305
                have A3310 := A3297.wr W3305
                have V3311 := V3298.other W3305 ne3256
                have A3312 := A3299.wr W3305
                have V3313 := V3300.other W3305 ne3257
                have A3314 := A3301.wr W3305
                have O3315 := O3302.wr W3305
                have S3316 := S3303.wr W3305
                replace V3305 : own_Vec Z h3305 a3251 (.object "java/lang/String") [(.ref b3133), (.ref b3135), b3291, b3304] := V3305
                refine own_aload X3305 rfl rfl at_279 (pc' := 281) rfl ?_
                refine own_astore X3305 (Ls' := #[oI p0, oI p1, oI p2, oI p3, oI p4, oI 3, oI 2, oI 3, oI 1, oI 1, oI 0, oI 0, oA b3133, oA b3135, oA b3138, oA b3142, oI b3149, oI b3152, oI b3155, oA a3156, oA a3194, oA a3251, oA b3133, oU, oU, oU, oU, oU, oU, oU, oU, oU, oU]) rfl rfl at_281 (pc' := 283) rfl ?_
                refine own_iload X3305 rfl at_283 (pc' := 285) rfl ?_
                refine own_ifF X3305 (by decide) at_285 (pc' := 288) rfl ?_
                refine own_aload X3305 rfl rfl at_288 (pc' := 290) rfl ?_
                refine own_goto X3305 at_290 (pc' := 294) (by decide) (by decide) ?_
                refine own_astore X3305 (Ls' := #[oI p0, oI p1, oI p2, oI p3, oI p4, oI 3, oI 2, oI 3, oI 1, oI 1, oI 0, oI 0, oA b3133, oA b3135, oA b3138, oA b3142, oI b3149, oI b3152, oI b3155, oA a3156, oA a3194, oA a3251, oA b3133, oA b3135, oU, oU, oU, oU, oU, oU, oU, oU, oU]) rfl rfl at_294 (pc' := 296) rfl ?_
                refine own_iload X3305 rfl at_296 (pc' := 298) rfl ?_
                refine own_ifT X3305 (by decide) at_298 (pc' := 306) (by decide) (by decide) ?_
                refine own_aconst_null X3305  at_306 (pc' := 307) rfl ?_
                refine own_astore X3305 (Ls' := #[oI p0, oI p1, oI p2, oI p3, oI p4, oI 3, oI 2, oI 3, oI 1, oI 1, oI 0, oI 0, oA b3133, oA b3135, oA b3138, oA b3142, oI b3149, oI b3152, oI b3155, oA a3156, oA a3194, oA a3251, oA b3133, oA b3135, .val .null, oU, oU, oU, oU, oU, oU, oU, oU]) rfl rfl at_307 (pc' := 309) rfl ?_
                refine own_iload X3305 rfl at_309 (pc' := 311) rfl ?_
                refine own_ifT X3305 (by decide) at_311 (pc' := 319) (by decide) (by decide) ?_
                refine own_aconst_null X3305  at_319 (pc' := 320) rfl ?_
                refine own_astore X3305 (Ls' := #[oI p0, oI p1, oI p2, oI p3, oI p4, oI 3, oI 2, oI 3, oI 1, oI 1, oI 0, oI 0, oA b3133, oA b3135, oA b3138, oA b3142, oI b3149, oI b3152, oI b3155, oA a3156, oA a3194, oA a3251, oA b3133, oA b3135, .val .null, .val .null, oU, oU, oU, oU, oU, oU, oU]) rfl rfl at_320 (pc' := 322) rfl ?_
                refine own_new X3305 (ww 37 rfl) (ww 38 rfl) (ww 39 rfl) (cells' := 16) (slots' := 49) rfl rfl (by decide) (by decide) at_322 (pc' := 325) rfl fun a3317 T3317 h3317 g3317 ge3317 X3317 E3317 A3317 D3317 => ?_
                have ne3318 : b3133 ≠ a3317 := own_lt_ne A3306.lt g3317
                have ne3319 : b3135 ≠ a3317 := own_lt_ne A3307.lt g3317
                have ne3320 : b3138 ≠ a3317 := own_lt_ne A3308.lt g3317
                have ne3321 : b3142 ≠ a3317 := own_lt_ne A3309.lt g3317
                have ne3322 : a3156 ≠ a3317 := own_lt_ne V3311.lt g3317
                have ne3323 : a3194 ≠ a3317 := own_lt_ne V3313.lt g3317
                have ne3324 : a3251 ≠ a3317 := own_lt_ne V3305.lt g3317
                have A3325 := A3306.ext E3317
                have A3326 := A3307.ext E3317
                have A3327 := A3308.ext E3317
                have A3328 := A3309.ext E3317
                have V3329 := V3311.ext E3317
                have A3330 := A3310.ext E3317
                have V3331 := V3313.ext E3317
                have A3332 := A3312.ext E3317
                have V3333 := V3305.ext E3317
                have A3334 := A3314.ext E3317
                have O3335 := O3315.ext E3317
                have S3336 := S3316.ext E3317
                have F3337 : Fld Z h3317 a3317 "com/example/cladewalk/cladewalk/tree/Tree" "parents" "[I" .null := D3317 (Or.inr (ww 54 rfl)) (ty := (.array .int)) (by decide)
                have F3338 : Fld Z h3317 a3317 "com/example/cladewalk/cladewalk/tree/Tree" "lengths" "[D" .null := D3317 (Or.inr (ww 62 rfl)) (ty := (.array .double)) (by decide)
                have F3339 : Fld Z h3317 a3317 "com/example/cladewalk/cladewalk/tree/Tree" "names" "[Ljava/lang/String;" .null := D3317 (Or.inr (ww 70 rfl)) (ty := (.array (.object "java/lang/String"))) (by decide)
                have F3340 : Fld Z h3317 a3317 "com/example/cladewalk/cladewalk/tree/Tree" "childCounts" "[I" .null := D3317 (Or.inr (ww 72 rfl)) (ty := (.array .int)) (by decide)
                have F3341 : Fld Z h3317 a3317 "com/example/cladewalk/cladewalk/tree/Tree" "tipCount" "I" (.int (0 : Int32)) := D3317 (Or.inr (ww 75 rfl)) (ty := .int) (by decide)
                refine own_dup X3317 rfl at_325 (pc' := 326) rfl ?_
                refine own_aload X3317 rfl rfl at_326 (pc' := 328) rfl ?_
                refine own_aload X3317 rfl rfl at_328 (pc' := 330) rfl ?_
                refine own_aload X3317 rfl rfl at_330 (pc' := 332) rfl ?_
                refine own_special X3317 (own_ti_32 l Z a0 hw a3317 a3156 a3194 a3251 d3208 i3207.toInt d3220 i3219.toInt d3232 i3231.toInt b3133 b3135 b3291 b3304 _ n0 X3317.le ge3317 A3317 F3337 F3338 F3339 F3340 F3341 V3329 V3331 V3333 A3330 A3332 A3334 ne3322.symm ne3323.symm ne3324.symm f3208 (by omega) f3220 (by omega) f3232 (by omega) fb3291 fb3304) rfl rfl (ww 40 rfl) (ww 41 rfl) (ww 39 rfl) (ww 42 rfl) (by decide) rfl (by decide) (W := 1) (Nat.le_of_eq rfl) (by decide) (cells' := 20) (slots' := 65) rfl rfl (by decide) (by decide) (argsL := [(.ref a3156), (.ref a3194), (.ref a3251)]) (rest := [(.ref a3317)]) (lenOf own_pd13 rfl) rfl rfl at_332 (pc' := 335) rfl ?_
                rintro _ T3342 h3342 X3342 ⟨rfl, ⟨x3342, y3342, F3342a, F3342b, V3342a, V3342b⟩, K3342⟩
                have S3343 := own_Sta.keep1 S3336 K3342 A3317
                have A3344 := A3325.keep K3342
                have A3345 := A3326.keep K3342
                have A3346 := A3327.keep K3342
                have A3347 := A3328.keep K3342
                have A3348 := A3317.keep K3342
                show own_Goal p e below _ T3342 (mkF m 335 #[oI p0, oI p1, oI p2, oI p3, oI p4, oI 3, oI 2, oI 3, oI 1, oI 1, oI 0, oI 0, oA b3133, oA b3135, oA b3138, oA b3142, oI b3149, oI b3152, oI b3155, oA a3156, oA a3194, oA a3251, oA b3133, oA b3135, .val .null, .val .null, oU, oU, oU, oU, oU, oU, oU] [(.ref a3317)])
                refine own_astore X3342 (Ls' := #[oI p0, oI p1, oI p2, oI p3, oI p4, oI 3, oI 2, oI 3, oI 1, oI 1, oI 0, oI 0, oA b3133, oA b3135, oA b3138, oA b3142, oI b3149, oI b3152, oI b3155, oA a3156, oA a3194, oA a3251, oA b3133, oA b3135, .val .null, .val .null, oA a3317, oU, oU, oU, oU, oU, oU]) rfl rfl at_335 (pc' := 337) rfl ?_
                refine own_aload X3342 rfl rfl at_337 (pc' := 339) rfl ?_
                refine own_iconst X3342 (v := (0 : Int32)) (by decide) at_339 (pc' := 340) rfl ?_
                refine own_virtual X3342 (own_name_4_0_1 l Z a0 hw a3317 x3342 y3342 b3133 (0 : Int32) (0 : Int32) (1 : Int32) (2 : Int32) (.ref b3135) b3291 b3304 _ n0 X3342.le F3342a F3342b V3342a V3342b (by decide)) (C := "com/example/cladewalk/cladewalk/tree/Tree") rfl (ww 76 rfl) (ww 77 rfl) (ww 79 rfl) (ww 78 rfl) (ww 39 rfl) (ww 80 rfl) (by decide) rfl (by decide) (W := 0) (Nat.le_of_eq rfl) (by decide) (cells' := 20) (slots' := 65) rfl rfl (by decide) (by decide) A3348 (argsL := [(.int (0 : Int32))]) (rest := []) (lenOf own_pd12 rfl) rfl rfl at_340 (pc' := 343) rfl ?_
                rintro _ T3349 h3349 X3349 ⟨rfl, e3349⟩
                subst e3349
                show own_Goal p e below _ T3349 (mkF m 343 #[oI p0, oI p1, oI p2, oI p3, oI p4, oI 3, oI 2, oI 3, oI 1, oI 1, oI 0, oI 0, oA b3133, oA b3135, oA b3138, oA b3142, oI b3149, oI b3152, oI b3155, oA a3156, oA a3194, oA a3251, oA b3133, oA b3135, .val .null, .val .null, oA a3317, oU, oU, oU, oU, oU, oU] [(.ref b3133)])
                refine own_aload X3349 rfl rfl at_343 (pc' := 345) rfl ?_
                refine own_callS X3349 (own_sameA l Z a0 hw b3133 _ n0 X3349.le A3344) (ww 81 rfl) (ww 82 rfl) (ww 2 rfl) (ww 83 rfl) (by decide) rfl (by decide) (W := 0) (Nat.le_of_eq rfl) (by decide) (cells' := 20) (slots' := 65) rfl rfl (by decide) (by decide) (argsL := [(.ref b3133), (.ref b3133)]) (rest := []) (lenOf own_pd11 rfl) rfl rfl at_345 (pc' := 348) rfl ?_
                rintro _ T3350 h3350 X3350 ⟨rfl, e3350⟩
                subst e3350
                show own_Goal p e below _ T3350 (mkF m 348 #[oI p0, oI p1, oI p2, oI p3, oI p4, oI 3, oI 2, oI 3, oI 1, oI 1, oI 0, oI 0, oA b3133, oA b3135, oA b3138, oA b3142, oI b3149, oI b3152, oI b3155, oA a3156, oA a3194, oA a3251, oA b3133, oA b3135, .val .null, .val .null, oA a3317, oU, oU, oU, oU, oU, oU] [(.int (1 : Int32))])
                refine own_ifF X3350 (by decide) at_348 (pc' := 351) rfl ?_
                refine own_aload X3350 rfl rfl at_351 (pc' := 353) rfl ?_
                refine own_iconst X3350 (v := (1 : Int32)) (by decide) at_353 (pc' := 354) rfl ?_
                refine own_virtual X3350 (own_name_4_1_1 l Z a0 hw a3317 x3342 y3342 b3135 (0 : Int32) (0 : Int32) (1 : Int32) (2 : Int32) (.ref b3133) b3291 b3304 _ n0 X3350.le F3342a F3342b V3342a V3342b (by decide)) (C := "com/example/cladewalk/cladewalk/tree/Tree") rfl (ww 76 rfl) (ww 77 rfl) (ww 79 rfl) (ww 78 rfl) (ww 39 rfl) (ww 80 rfl) (by decide) rfl (by decide) (W := 0) (Nat.le_of_eq rfl) (by decide) (cells' := 20) (slots' := 65) rfl rfl (by decide) (by decide) A3348 (argsL := [(.int (1 : Int32))]) (rest := []) (lenOf own_pd12 rfl) rfl rfl at_354 (pc' := 357) rfl ?_
                rintro _ T3351 h3351 X3351 ⟨rfl, e3351⟩
                subst e3351
                show own_Goal p e below _ T3351 (mkF m 357 #[oI p0, oI p1, oI p2, oI p3, oI p4, oI 3, oI 2, oI 3, oI 1, oI 1, oI 0, oI 0, oA b3133, oA b3135, oA b3138, oA b3142, oI b3149, oI b3152, oI b3155, oA a3156, oA a3194, oA a3251, oA b3133, oA b3135, .val .null, .val .null, oA a3317, oU, oU, oU, oU, oU, oU] [(.ref b3135)])
                refine own_aload X3351 rfl rfl at_357 (pc' := 359) rfl ?_
                refine own_callS X3351 (own_sameA l Z a0 hw b3135 _ n0 X3351.le A3345) (ww 81 rfl) (ww 82 rfl) (ww 2 rfl) (ww 83 rfl) (by decide) rfl (by decide) (W := 0) (Nat.le_of_eq rfl) (by decide) (cells' := 20) (slots' := 65) rfl rfl (by decide) (by decide) (argsL := [(.ref b3135), (.ref b3135)]) (rest := []) (lenOf own_pd11 rfl) rfl rfl at_359 (pc' := 362) rfl ?_
                rintro _ T3352 h3352 X3352 ⟨rfl, e3352⟩
                subst e3352
                show own_Goal p e below _ T3352 (mkF m 362 #[oI p0, oI p1, oI p2, oI p3, oI p4, oI 3, oI 2, oI 3, oI 1, oI 1, oI 0, oI 0, oA b3133, oA b3135, oA b3138, oA b3142, oI b3149, oI b3152, oI b3155, oA a3156, oA a3194, oA a3251, oA b3133, oA b3135, .val .null, .val .null, oA a3317, oU, oU, oU, oU, oU, oU] [(.int (1 : Int32))])
                refine own_ifF X3352 (by decide) at_362 (pc' := 365) rfl ?_
                refine own_aload X3352 rfl rfl at_365 (pc' := 367) rfl ?_
                refine own_iconst X3352 (v := (2 : Int32)) (by decide) at_367 (pc' := 368) rfl ?_
                refine own_virtual X3352 (own_name_4_2_0 l Z a0 hw a3317 x3342 y3342 (0 : Int32) (0 : Int32) (1 : Int32) (2 : Int32) (.ref b3133) (.ref b3135) b3291 b3304 _ n0 X3352.le F3342a F3342b V3342a V3342b (by decide)) (C := "com/example/cladewalk/cladewalk/tree/Tree") rfl (ww 76 rfl) (ww 77 rfl) (ww 79 rfl) (ww 78 rfl) (ww 39 rfl) (ww 80 rfl) (by decide) rfl (by decide) (W := 0) (Nat.le_of_eq rfl) (by decide) (cells' := 20) (slots' := 65) rfl rfl (by decide) (by decide) A3348 (argsL := [(.int (2 : Int32))]) (rest := []) (lenOf own_pd12 rfl) rfl rfl at_368 (pc' := 371) rfl ?_
                rintro _ T3353 h3353 X3353 ⟨rfl, e3353⟩
                subst e3353
                show own_Goal p e below _ T3353 (mkF m 371 #[oI p0, oI p1, oI p2, oI p3, oI p4, oI 3, oI 2, oI 3, oI 1, oI 1, oI 0, oI 0, oA b3133, oA b3135, oA b3138, oA b3142, oI b3149, oI b3152, oI b3155, oA a3156, oA a3194, oA a3251, oA b3133, oA b3135, .val .null, .val .null, oA a3317, oU, oU, oU, oU, oU, oU] [.null])
                refine own_aload X3353 rfl rfl at_371 (pc' := 373) rfl ?_
                refine own_callS X3353 (own_sameN l Z a0 hw _ n0 X3353.le) (ww 81 rfl) (ww 82 rfl) (ww 2 rfl) (ww 83 rfl) (by decide) rfl (by decide) (W := 0) (Nat.le_of_eq rfl) (by decide) (cells' := 20) (slots' := 65) rfl rfl (by decide) (by decide) (argsL := [.null, .null]) (rest := []) (lenOf own_pd11 rfl) rfl rfl at_373 (pc' := 376) rfl ?_
                rintro _ T3354 h3354 X3354 ⟨rfl, e3354⟩
                subst e3354
                show own_Goal p e below _ T3354 (mkF m 376 #[oI p0, oI p1, oI p2, oI p3, oI p4, oI 3, oI 2, oI 3, oI 1, oI 1, oI 0, oI 0, oA b3133, oA b3135, oA b3138, oA b3142, oI b3149, oI b3152, oI b3155, oA a3156, oA a3194, oA a3251, oA b3133, oA b3135, .val .null, .val .null, oA a3317, oU, oU, oU, oU, oU, oU] [(.int (1 : Int32))])
                refine own_ifF X3354 (by decide) at_376 (pc' := 379) rfl ?_
                refine own_aload X3354 rfl rfl at_379 (pc' := 381) rfl ?_
                refine own_iconst X3354 (v := (3 : Int32)) (by decide) at_381 (pc' := 382) rfl ?_
                refine own_virtual X3354 (own_name_4_3_0 l Z a0 hw a3317 x3342 y3342 (0 : Int32) (0 : Int32) (1 : Int32) (2 : Int32) (.ref b3133) (.ref b3135) b3291 b3304 _ n0 X3354.le F3342a F3342b V3342a V3342b (by decide)) (C := "com/example/cladewalk/cladewalk/tree/Tree") rfl (ww 76 rfl) (ww 77 rfl) (ww 79 rfl) (ww 78 rfl) (ww 39 rfl) (ww 80 rfl) (by decide) rfl (by decide) (W := 0) (Nat.le_of_eq rfl) (by decide) (cells' := 20) (slots' := 65) rfl rfl (by decide) (by decide) A3348 (argsL := [(.int (3 : Int32))]) (rest := []) (lenOf own_pd12 rfl) rfl rfl at_382 (pc' := 385) rfl ?_
                rintro _ T3355 h3355 X3355 ⟨rfl, e3355⟩
                subst e3355
                show own_Goal p e below _ T3355 (mkF m 385 #[oI p0, oI p1, oI p2, oI p3, oI p4, oI 3, oI 2, oI 3, oI 1, oI 1, oI 0, oI 0, oA b3133, oA b3135, oA b3138, oA b3142, oI b3149, oI b3152, oI b3155, oA a3156, oA a3194, oA a3251, oA b3133, oA b3135, .val .null, .val .null, oA a3317, oU, oU, oU, oU, oU, oU] [.null])
                refine own_aload X3355 rfl rfl at_385 (pc' := 387) rfl ?_
                refine own_callS X3355 (own_sameN l Z a0 hw _ n0 X3355.le) (ww 81 rfl) (ww 82 rfl) (ww 2 rfl) (ww 83 rfl) (by decide) rfl (by decide) (W := 0) (Nat.le_of_eq rfl) (by decide) (cells' := 20) (slots' := 65) rfl rfl (by decide) (by decide) (argsL := [.null, .null]) (rest := []) (lenOf own_pd11 rfl) rfl rfl at_387 (pc' := 390) rfl ?_
                rintro _ T3356 h3356 X3356 ⟨rfl, e3356⟩
                subst e3356
                show own_Goal p e below _ T3356 (mkF m 390 #[oI p0, oI p1, oI p2, oI p3, oI p4, oI 3, oI 2, oI 3, oI 1, oI 1, oI 0, oI 0, oA b3133, oA b3135, oA b3138, oA b3142, oI b3149, oI b3152, oI b3155, oA a3156, oA a3194, oA a3251, oA b3133, oA b3135, .val .null, .val .null, oA a3317, oU, oU, oU, oU, oU, oU] [(.int (1 : Int32))])
                refine own_ifF X3356 (by decide) at_390 (pc' := 393) rfl ?_
                refine own_iconst X3356 (v := (1 : Int32)) (by decide) at_393 (pc' := 394) rfl ?_
                refine own_goto X3356 at_394 (pc' := 398) (by decide) (by decide) ?_
                refine own_istore X3356 (Ls' := #[oI p0, oI p1, oI p2, oI p3, oI p4, oI 3, oI 2, oI 3, oI 1, oI 1, oI 0, oI 0, oA b3133, oA b3135, oA b3138, oA b3142, oI b3149, oI b3152, oI b3155, oA a3156, oA a3194, oA a3251, oA b3133, oA b3135, .val .null, .val .null, oA a3317, oI 1, oU, oU, oU, oU, oU]) rfl at_398 (pc' := 400) rfl ?_
                refine own_iconst X3356 (v := (1 : Int32)) (by decide) at_400 (pc' := 401) rfl ?_
                refine own_newarrayE X3356 (ty := .int) rfl (ad := "[I") (by decide) (ww 34 rfl) (n := 1) (vs := [(.int (0 : Int32))]) (by decide) (by decide) (by decide) rfl (cells' := 21) (slots' := 66) rfl rfl (by decide) (by decide) at_401 (pc' := 403) rfl fun a3357 T3357 h3357 g3357 ge3357 X3357 E3357 V3357 A3357 => ?_
                have S3358 := S3343.ext E3357
                refine own_astore X3357 (Ls' := #[oI p0, oI p1, oI p2, oI p3, oI p4, oI 3, oI 2, oI 3, oI 1, oI 1, oI 0, oI 0, oA b3133, oA b3135, oA b3138, oA b3142, oI b3149, oI b3152, oI b3155, oA a3156, oA a3194, oA a3251, oA b3133, oA b3135, .val .null, .val .null, oA a3317, oI 1, oA a3357, oU, oU, oU, oU]) rfl rfl at_403 (pc' := 405) rfl ?_
                refine own_aload X3357 rfl rfl at_405 (pc' := 407) rfl ?_
                refine own_iconst X3357 (v := (0 : Int32)) (by decide) at_407 (pc' := 408) rfl ?_
                refine own_iconst X3357 (v := (-1 : Int32)) (by decide) at_408 (pc' := 409) rfl ?_
                refine own_iastore X3357 V3357 ge3357 (i := 0) (by decide) (by decide) (show 0 < 1 by decide) at_409 (pc' := 410) rfl fun T3359 h3359 X3359 W3359 V3359 => ?_
                have A3360 := A3357.wr W3359
                have S3361 := S3358.wr W3359
                replace V3359 : own_Vec Z h3359 a3357 .int [(.int (-1 : Int32))] := V3359
                refine own_iconst X3359 (v := (1 : Int32)) (by decide) at_410 (pc' := 411) rfl ?_
                refine own_newarrayE X3359 (ty := .double) rfl (ad := "[D") (by decide) (ww 35 rfl) (n := 1) (vs := [(.double (0 : UInt64))]) (by decide) (by decide) (by decide) rfl (cells' := 22) (slots' := 67) rfl rfl (by decide) (by decide) at_411 (pc' := 413) rfl fun a3362 T3362 h3362 g3362 ge3362 X3362 E3362 V3362 A3362 => ?_
                have ne3363 : a3357 ≠ a3362 := own_lt_ne V3359.lt g3362
                have V3364 := V3359.ext E3362
                have A3365 := A3360.ext E3362
                have S3366 := S3361.ext E3362
                refine own_astore X3362 (Ls' := #[oI p0, oI p1, oI p2, oI p3, oI p4, oI 3, oI 2, oI 3, oI 1, oI 1, oI 0, oI 0, oA b3133, oA b3135, oA b3138, oA b3142, oI b3149, oI b3152, oI b3155, oA a3156, oA a3194, oA a3251, oA b3133, oA b3135, .val .null, .val .null, oA a3317, oI 1, oA a3357, oA a3362, oU, oU, oU]) rfl rfl at_413 (pc' := 415) rfl ?_
                refine own_aload X3362 rfl rfl at_415 (pc' := 417) rfl ?_
                refine own_iconst X3362 (v := (0 : Int32)) (by decide) at_417 (pc' := 418) rfl ?_
                refine own_dconst0 X3362 (v := (0 : UInt64)) rfl at_418 (pc' := 419) rfl ?_
                refine own_dastore X3362 V3362 ge3362 (i := 0) (by decide) (by decide) (show 0 < 1 by decide) at_419 (pc' := 420) rfl fun T3367 h3367 X3367 W3367 V3367 => ?_
                have A3368 := A3365.wr W3367
                have V3369 := V3364.other W3367 ne3363
                have A3370 := A3362.wr W3367
                have S3371 := S3366.wr W3367
                replace V3367 : own_Vec Z h3367 a3362 .double [(.double (0 : UInt64))] := V3367
                refine own_iload X3367 rfl at_420 (pc' := 422) rfl ?_
                refine own_bipush X3367 (v := (16 : Int32)) (by decide) at_422 (pc' := 424) rfl ?_
                obtain ⟨i3372, e3372⟩ : ∃ v, XT.ushr p4 (16 : Int32) = v := ⟨_, rfl⟩
                refine own_iushr X3367 e3372 at_424 (pc' := 425) rfl ?_
                refine own_sipush X3367 (v := (255 : Int32)) (by decide) at_425 (pc' := 428) rfl ?_
                obtain ⟨i3373, e3373⟩ : ∃ v, i3372 &&& (255 : Int32) = v := ⟨_, rfl⟩
                have f3373 : own_I 255 i3373.toInt i3373 := own_I.and e3373 (by decide)
                have nn3373 := own_and_nn (M := 255) e3373 (by decide)
                refine own_iand X3367 e3373 at_428 (pc' := 429) rfl ?_
                refine own_i2c X3367 (v := i3373) (own_i2c_mask e3373) at_429 (pc' := 430) rfl ?_
                refine own_callS X3367 (own_vof l Z a0 hw i3373 _ n0 X3367.le f3373 nn3373 cs S3371 hcs) (ww 89 rfl) (ww 90 rfl) (ww 7 rfl) (ww 91 rfl) (by decide) rfl (by decide) (W := 0) (Nat.le_of_eq rfl) (by decide) (cells' := 24) (slots' := 72) rfl rfl (by decide) (by decide) (argsL := [(.int i3373)]) (rest := []) (lenOf own_pd9 rfl) rfl rfl at_430 (pc' := 433) rfl ?_
                rintro _ T3375 h3375 X3375 ⟨b3375, rfl, A3375, K3375⟩
                have S3376 := own_Sta.keep0 S3371 K3375
                have A3377 := A3368.keep K3375
                have V3378 := V3369.keep K3375 nin0
                have A3379 := A3370.keep K3375
                have V3380 := V3367.keep K3375 nin0
                show own_Goal p e below _ T3375 (mkF m 433 #[oI p0, oI p1, oI p2, oI p3, oI p4, oI 3, oI 2, oI 3, oI 1, oI 1, oI 0, oI 0, oA b3133, oA b3135, oA b3138, oA b3142, oI b3149, oI b3152, oI b3155, oA a3156, oA a3194, oA a3251, oA b3133, oA b3135, .val .null, .val .null, oA a3317, oI 1, oA a3357, oA a3362, oU, oU, oU] [(.ref b3375)])
                refine own_astore X3375 (Ls' := #[oI p0, oI p1, oI p2, oI p3, oI p4, oI 3, oI 2, oI 3, oI 1, oI 1, oI 0, oI 0, oA b3133, oA b3135, oA b3138, oA b3142, oI b3149, oI b3152, oI b3155, oA a3156, oA a3194, oA a3251, oA b3133, oA b3135, .val .null, .val .null, oA a3317, oI 1, oA a3357, oA a3362, oA b3375, oU, oU]) rfl rfl at_433 (pc' := 435) rfl ?_
                refine own_iconst X3375 (v := (1 : Int32)) (by decide) at_435 (pc' := 436) rfl ?_
                refine own_anewarray X3375 (ww 5 rfl) (ww 36 rfl) (ad := "[Ljava/lang/String;") (by decide) (n := 1) (vs := [.null]) (by decide) (by decide) (by decide) rfl (cells' := 25) (slots' := 73) rfl rfl (by decide) (by decide) at_436 (pc' := 439) rfl fun a3381 T3381 h3381 g3381 ge3381 X3381 E3381 V3381 A3381 O3381 => ?_
                have ne3382 : a3357 ≠ a3381 := own_lt_ne V3378.lt g3381
                have ne3383 : a3362 ≠ a3381 := own_lt_ne V3380.lt g3381
                have ne3384 : b3375 ≠ a3381 := own_lt_ne A3375.lt g3381
                have V3385 := V3378.ext E3381
                have A3386 := A3377.ext E3381
                have V3387 := V3380.ext E3381
                have A3388 := A3379.ext E3381
                have A3389 := A3375.ext E3381
                have S3390 := S3376.ext E3381
                refine own_astore X3381 (Ls' := #[oI p0, oI p1, oI p2, oI p3, oI p4, oI 3, oI 2, oI 3, oI 1, oI 1, oI 0, oI 0, oA b3133, oA b3135, oA b3138, oA b3142, oI b3149, oI b3152, oI b3155, oA a3156, oA a3194, oA a3251, oA b3133, oA b3135, .val .null, .val .null, oA a3317, oI 1, oA a3357, oA a3362, oA b3375, oA a3381, oU]) rfl rfl at_439 (pc' := 441) rfl ?_
                refine own_aload X3381 rfl rfl at_441 (pc' := 443) rfl ?_
                refine own_iconst X3381 (v := (0 : Int32)) (by decide) at_443 (pc' := 444) rfl ?_
                refine own_aload X3381 rfl rfl at_444 (pc' := 446) rfl ?_
                refine own_aastore X3381 V3381 O3381 ge3381 (Or.inr ⟨_, rfl, A3389⟩) (i := 0) (by decide) (by decide) (show 0 < 1 by decide) at_446 (pc' := 447) rfl fun T3391 h3391 X3391 W3391 V3391 => ?_
                have A3392 := A3386.wr W3391
                have V3393 := V3385.other W3391 ne3382
                have A3394 := A3388.wr W3391
                have V3395 := V3387.other W3391 ne3383
                have A3396 := A3389.wr W3391
                have A3397 := A3381.wr W3391
                have O3398 := O3381.wr W3391
                have S3399 := S3390.wr W3391
                replace V3391 : own_Vec Z h3391 a3381 (.object "java/lang/String") [(.ref b3375)] := V3391
                refine own_new X3391 (ww 37 rfl) (ww 38 rfl) (ww 39 rfl) (cells' := 26) (slots' := 78) rfl rfl (by decide) (by decide) at_447 (pc' := 450) rfl fun a3400 T3400 h3400 g3400 ge3400 X3400 E3400 A3400 D3400 => ?_
                have ne3401 : a3357 ≠ a3400 := own_lt_ne V3393.lt g3400
                have ne3402 : a3362 ≠ a3400 := own_lt_ne V3395.lt g3400
                have ne3403 : b3375 ≠ a3400 := own_lt_ne A3396.lt g3400
                have ne3404 : a3381 ≠ a3400 := own_lt_ne V3391.lt g3400
                have V3405 := V3393.ext E3400
                have A3406 := A3392.ext E3400
                have V3407 := V3395.ext E3400
                have A3408 := A3394.ext E3400
                have A3409 := A3396.ext E3400
                have V3410 := V3391.ext E3400
                have A3411 := A3397.ext E3400
                have O3412 := O3398.ext E3400
                have S3413 := S3399.ext E3400
                have F3414 : Fld Z h3400 a3400 "com/example/cladewalk/cladewalk/tree/Tree" "parents" "[I" .null := D3400 (Or.inr (ww 54 rfl)) (ty := (.array .int)) (by decide)
                have F3415 : Fld Z h3400 a3400 "com/example/cladewalk/cladewalk/tree/Tree" "lengths" "[D" .null := D3400 (Or.inr (ww 62 rfl)) (ty := (.array .double)) (by decide)
                have F3416 : Fld Z h3400 a3400 "com/example/cladewalk/cladewalk/tree/Tree" "names" "[Ljava/lang/String;" .null := D3400 (Or.inr (ww 70 rfl)) (ty := (.array (.object "java/lang/String"))) (by decide)
                have F3417 : Fld Z h3400 a3400 "com/example/cladewalk/cladewalk/tree/Tree" "childCounts" "[I" .null := D3400 (Or.inr (ww 72 rfl)) (ty := (.array .int)) (by decide)
                have F3418 : Fld Z h3400 a3400 "com/example/cladewalk/cladewalk/tree/Tree" "tipCount" "I" (.int (0 : Int32)) := D3400 (Or.inr (ww 75 rfl)) (ty := .int) (by decide)
                refine own_dup X3400 rfl at_450 (pc' := 451) rfl ?_
                refine own_aload X3400 rfl rfl at_451 (pc' := 453) rfl ?_
                refine own_aload X3400 rfl rfl at_453 (pc' := 455) rfl ?_
                refine own_aload X3400 rfl rfl at_455 (pc' := 457) rfl ?_
                refine own_special X3400 (own_ti_1 l Z a0 hw a3400 a3357 a3362 a3381 b3375 _ n0 X3400.le ge3400 A3400 F3414 F3415 F3416 F3417 F3418 V3405 V3407 V3410 A3406 A3408 A3411 ne3401.symm ne3402.symm ne3404.symm ) rfl rfl (ww 40 rfl) (ww 41 rfl) (ww 39 rfl) (ww 42 rfl) (by decide) rfl (by decide) (W := 1) (Nat.le_of_eq rfl) (by decide) (cells' := 30) (slots' := 82) rfl rfl (by decide) (by decide) (argsL := [(.ref a3357), (.ref a3362), (.ref a3381)]) (rest := [(.ref a3400)]) (lenOf own_pd13 rfl) rfl rfl at_457 (pc' := 460) rfl ?_
                rintro _ T3419 h3419 X3419 ⟨rfl, ⟨x3419, y3419, F3419a, F3419b, V3419a, V3419b⟩, K3419⟩
                have S3420 := own_Sta.keep1 S3413 K3419 A3400
                have A3421 := A3409.keep K3419
                have A3422 := A3400.keep K3419
                show own_Goal p e below _ T3419 (mkF m 460 #[oI p0, oI p1, oI p2, oI p3, oI p4, oI 3, oI 2, oI 3, oI 1, oI 1, oI 0, oI 0, oA b3133, oA b3135, oA b3138, oA b3142, oI b3149, oI b3152, oI b3155, oA a3156, oA a3194, oA a3251, oA b3133, oA b3135, .val .null, .val .null, oA a3317, oI 1, oA a3357, oA a3362, oA b3375, oA a3381, oU] [(.ref a3400)])
                refine own_astore X3419 (Ls' := #[oI p0, oI p1, oI p2, oI p3, oI p4, oI 3, oI 2, oI 3, oI 1, oI 1, oI 0, oI 0, oA b3133, oA b3135, oA b3138, oA b3142, oI b3149, oI b3152, oI b3155, oA a3156, oA a3194, oA a3251, oA b3133, oA b3135, .val .null, .val .null, oA a3317, oI 1, oA a3357, oA a3362, oA b3375, oA a3381, oA a3400]) rfl rfl at_460 (pc' := 462) rfl ?_
                refine own_iload X3419 rfl at_462 (pc' := 464) rfl ?_
                refine own_ifF X3419 (by decide) at_464 (pc' := 467) rfl ?_
                refine own_aload X3419 rfl rfl at_467 (pc' := 469) rfl ?_
                refine own_iconst X3419 (v := (0 : Int32)) (by decide) at_469 (pc' := 470) rfl ?_
                refine own_virtual X3419 (own_name_1_0_1 l Z a0 hw a3400 x3419 y3419 b3375 (0 : Int32) _ n0 X3419.le F3419a F3419b V3419a V3419b (by decide)) (C := "com/example/cladewalk/cladewalk/tree/Tree") rfl (ww 76 rfl) (ww 77 rfl) (ww 79 rfl) (ww 78 rfl) (ww 39 rfl) (ww 80 rfl) (by decide) rfl (by decide) (W := 0) (Nat.le_of_eq rfl) (by decide) (cells' := 30) (slots' := 82) rfl rfl (by decide) (by decide) A3422 (argsL := [(.int (0 : Int32))]) (rest := []) (lenOf own_pd12 rfl) rfl rfl at_470 (pc' := 473) rfl ?_
                rintro _ T3423 h3423 X3423 ⟨rfl, e3423⟩
                subst e3423
                show own_Goal p e below _ T3423 (mkF m 473 #[oI p0, oI p1, oI p2, oI p3, oI p4, oI 3, oI 2, oI 3, oI 1, oI 1, oI 0, oI 0, oA b3133, oA b3135, oA b3138, oA b3142, oI b3149, oI b3152, oI b3155, oA a3156, oA a3194, oA a3251, oA b3133, oA b3135, .val .null, .val .null, oA a3317, oI 1, oA a3357, oA a3362, oA b3375, oA a3381, oA a3400] [(.ref b3375)])
                refine own_aload X3423 rfl rfl at_473 (pc' := 475) rfl ?_
                refine own_callS X3423 (own_sameA l Z a0 hw b3375 _ n0 X3423.le A3421) (ww 81 rfl) (ww 82 rfl) (ww 2 rfl) (ww 83 rfl) (by decide) rfl (by decide) (W := 0) (Nat.le_of_eq rfl) (by decide) (cells' := 30) (slots' := 82) rfl rfl (by decide) (by decide) (argsL := [(.ref b3375), (.ref b3375)]) (rest := []) (lenOf own_pd11 rfl) rfl rfl at_475 (pc' := 478) rfl ?_
                rintro _ T3424 h3424 X3424 ⟨rfl, e3424⟩
                subst e3424
                show own_Goal p e below _ T3424 (mkF m 478 #[oI p0, oI p1, oI p2, oI p3, oI p4, oI 3, oI 2, oI 3, oI 1, oI 1, oI 0, oI 0, oA b3133, oA b3135, oA b3138, oA b3142, oI b3149, oI b3152, oI b3155, oA a3156, oA a3194, oA a3251, oA b3133, oA b3135, .val .null, .val .null, oA a3317, oI 1, oA a3357, oA a3362, oA b3375, oA a3381, oA a3400] [(.int (1 : Int32))])
                refine own_ifF X3424 (by decide) at_478 (pc' := 481) rfl ?_
                refine own_iload X3424 rfl at_481 (pc' := 483) rfl ?_
                refine own_ifF X3424 (by decide) at_483 (pc' := 486) rfl ?_
                refine own_iconst X3424 (v := (1 : Int32)) (by decide) at_486 (pc' := 487) rfl ?_
                refine own_goto X3424 at_487 (pc' := 491) (by decide) (by decide) ?_
                exact own_retZ X3424 (by decide) at_491 rfl (by decide) (by decide) rfl
              by_cases c3304 : b3155 = 0
              · -- join
                refine own_ifT X3292 (own_z_eq c3304).1 at_269 (pc' := 277) (by decide) (by decide) ?_
                refine own_aconst_null X3292  at_277 (pc' := 278) rfl ?_
                exact J3304 _ (Or.inl rfl)
              · -- join
                refine own_ifF X3292 (own_z_ne c3304).1 at_269 (pc' := 272) rfl ?_
                refine own_aload X3292 rfl rfl at_272 (pc' := 274) rfl ?_
                refine own_goto X3292 at_274 (pc' := 278) (by decide) (by decide) ?_
                exact J3304 _ (Or.inr rfl)
            by_cases c3291 : b3152 = 0
            · -- join
              refine own_ifT X3279 (own_z_eq c3291).1 at_254 (pc' := 262) (by decide) (by decide) ?_
              refine own_aconst_null X3279  at_262 (pc' := 263) rfl ?_
              exact J3291 _ (Or.inl rfl)
            · -- join
              refine own_ifF X3279 (own_z_ne c3291).1 at_254 (pc' := 257) rfl ?_
              refine own_aload X3279 rfl rfl at_257 (pc' := 259) rfl ?_
              refine own_goto X3279 at_259 (pc' := 263) (by decide) (by decide) ?_
              exact J3291 _ (Or.inr rfl)
          by_cases c3155 : i3154 = 0
          · -- join
            refine own_ifT X3142 (own_z_eq c3155).1 at_129 (pc' := 136) (by decide) (by decide) ?_
            refine own_iconst X3142 (v := (0 : Int32)) (by decide) at_136 (pc' := 137) rfl ?_
            exact J3155 _
          · -- join
            refine own_ifF X3142 (own_z_ne c3155).1 at_129 (pc' := 132) rfl ?_
            refine own_iconst X3142 (v := (1 : Int32)) (by decide) at_132 (pc' := 133) rfl ?_
            refine own_goto X3142 at_133 (pc' := 137) (by decide) (by decide) ?_
            exact J3155 _
        by_cases c3152 : i3151 = 0
        · -- join
          refine own_ifT X3142 (own_z_eq c3152).1 at_114 (pc' := 121) (by decide) (by decide) ?_
          refine own_iconst X3142 (v := (0 : Int32)) (by decide) at_121 (pc' := 122) rfl ?_
          exact J3152 _
        · -- join
          refine own_ifF X3142 (own_z_ne c3152).1 at_114 (pc' := 117) rfl ?_
          refine own_iconst X3142 (v := (1 : Int32)) (by decide) at_117 (pc' := 118) rfl ?_
          refine own_goto X3142 at_118 (pc' := 122) (by decide) (by decide) ?_
          exact J3152 _
      by_cases c3149 : i3148 = 0
      · -- join
        refine own_ifT X3142 (own_z_eq c3149).1 at_99 (pc' := 106) (by decide) (by decide) ?_
        refine own_iconst X3142 (v := (0 : Int32)) (by decide) at_106 (pc' := 107) rfl ?_
        exact J3149 _
      · -- join
        refine own_ifF X3142 (own_z_ne c3149).1 at_99 (pc' := 102) rfl ?_
        refine own_iconst X3142 (v := (1 : Int32)) (by decide) at_102 (pc' := 103) rfl ?_
        refine own_goto X3142 at_103 (pc' := 107) (by decide) (by decide) ?_
        exact J3149 _
    · -- 1
      refine own_iadd X0 (v := (3 : Int32)) (by decide) at_18 (pc' := 19) rfl ?_
      refine own_istore X0 (Ls' := #[oI p0, oI p1, oI p2, oI p3, oI p4, oI 3, oI 3, oU, oU, oU, oU, oU, oU, oU, oU, oU, oU, oU, oU, oU, oU, oU, oU, oU, oU, oU, oU, oU, oU, oU, oU, oU, oU]) rfl at_19 (pc' := 21) rfl ?_
      refine own_iconst X0 (v := (3 : Int32)) (by decide) at_21 (pc' := 22) rfl ?_
      refine own_istore X0 (Ls' := #[oI p0, oI p1, oI p2, oI p3, oI p4, oI 3, oI 3, oI 3, oU, oU, oU, oU, oU, oU, oU, oU, oU, oU, oU, oU, oU, oU, oU, oU, oU, oU, oU, oU, oU, oU, oU, oU, oU]) rfl at_22 (pc' := 24) rfl ?_
      refine own_iconst X0 (v := (1 : Int32)) (by decide) at_24 (pc' := 25) rfl ?_
      refine own_istore X0 (Ls' := #[oI p0, oI p1, oI p2, oI p3, oI p4, oI 3, oI 3, oI 3, oI 1, oU, oU, oU, oU, oU, oU, oU, oU, oU, oU, oU, oU, oU, oU, oU, oU, oU, oU, oU, oU, oU, oU, oU, oU]) rfl at_25 (pc' := 27) rfl ?_
      refine own_iload X0 rfl at_27 (pc' := 29) rfl ?_
      refine own_iconst X0 (v := (1 : Int32)) (by decide) at_29 (pc' := 30) rfl ?_
      refine own_icmpF X0 (by decide) at_30 (pc' := 33) rfl ?_
      refine own_iconst X0 (v := (1 : Int32)) (by decide) at_33 (pc' := 34) rfl ?_
      refine own_goto X0 at_34 (pc' := 38) (by decide) (by decide) ?_
      refine own_istore X0 (Ls' := #[oI p0, oI p1, oI p2, oI p3, oI p4, oI 3, oI 3, oI 3, oI 1, oI 1, oU, oU, oU, oU, oU, oU, oU, oU, oU, oU, oU, oU, oU, oU, oU, oU, oU, oU, oU, oU, oU, oU, oU]) rfl at_38 (pc' := 40) rfl ?_
      refine own_iload X0 rfl at_40 (pc' := 42) rfl ?_
      refine own_iconst X0 (v := (2 : Int32)) (by decide) at_42 (pc' := 43) rfl ?_
      refine own_icmpF X0 (by decide) at_43 (pc' := 46) rfl ?_
      refine own_iload X0 rfl at_46 (pc' := 48) rfl ?_
      refine own_iconst X0 (v := (2 : Int32)) (by decide) at_48 (pc' := 49) rfl ?_
      refine own_icmpF X0 (by decide) at_49 (pc' := 52) rfl ?_
      refine own_iconst X0 (v := (1 : Int32)) (by decide) at_52 (pc' := 53) rfl ?_
      refine own_goto X0 at_53 (pc' := 57) (by decide) (by decide) ?_
      refine own_istore X0 (Ls' := #[oI p0, oI p1, oI p2, oI p3, oI p4, oI 3, oI 3, oI 3, oI 1, oI 1, oI 1, oU, oU, oU, oU, oU, oU, oU, oU, oU, oU, oU, oU, oU, oU, oU, oU, oU, oU, oU, oU, oU, oU]) rfl at_57 (pc' := 59) rfl ?_
      refine own_iconst X0 (v := (0 : Int32)) (by decide) at_59 (pc' := 60) rfl ?_
      refine own_istore X0 (Ls' := #[oI p0, oI p1, oI p2, oI p3, oI p4, oI 3, oI 3, oI 3, oI 1, oI 1, oI 1, oI 0, oU, oU, oU, oU, oU, oU, oU, oU, oU, oU, oU, oU, oU, oU, oU, oU, oU, oU, oU, oU, oU]) rfl at_60 (pc' := 62) rfl ?_
      refine own_iloadN X0 rfl at_62 (pc' := 63) rfl ?_
      refine own_iloadN X0 rfl at_63 (pc' := 64) rfl ?_
      refine own_iconst X0 (v := (0 : Int32)) (by decide) at_64 (pc' := 65) rfl ?_
      refine own_callS X0 (own_two l Z a0 hw p1 p2 (0 : Int32) _ n0 X0.le cs S0 hcs) (ww 0 rfl) (ww 1 rfl) (ww 2 rfl) (ww 3 rfl) (by decide) rfl (by decide) (W := 0) (Nat.le_of_eq rfl) (by decide) (cells' := 3) (slots' := 8) rfl rfl (by decide) (by decide) (argsL := [(.int p1), (.int p2), (.int (0 : Int32))]) (rest := []) (lenOf own_pd5 rfl) rfl rfl at_65 (pc' := 68) rfl ?_
      rintro _ T3425 h3425 X3425 ⟨b3425, rfl, A3425, K3425⟩
      have S3426 := own_Sta.keep0 S0 K3425
      show own_Goal p e below _ T3425 (mkF m 68 #[oI p0, oI p1, oI p2, oI p3, oI p4, oI 3, oI 3, oI 3, oI 1, oI 1, oI 1, oI 0, oU, oU, oU, oU, oU, oU, oU, oU, oU, oU, oU, oU, oU, oU, oU, oU, oU, oU, oU, oU, oU] [(.ref b3425)])
      refine own_astore X3425 (Ls' := #[oI p0, oI p1, oI p2, oI p3, oI p4, oI 3, oI 3, oI 3, oI 1, oI 1, oI 1, oI 0, oA b3425, oU, oU, oU, oU, oU, oU, oU, oU, oU, oU, oU, oU, oU, oU, oU, oU, oU, oU, oU, oU]) rfl rfl at_68 (pc' := 70) rfl ?_
      refine own_iloadN X3425 rfl at_70 (pc' := 71) rfl ?_
      refine own_iloadN X3425 rfl at_71 (pc' := 72) rfl ?_
      refine own_iconst X3425 (v := (1 : Int32)) (by decide) at_72 (pc' := 73) rfl ?_
      refine own_callS X3425 (own_two l Z a0 hw p1 p2 (1 : Int32) _ n0 X3425.le cs S3426 hcs) (ww 0 rfl) (ww 1 rfl) (ww 2 rfl) (ww 3 rfl) (by decide) rfl (by decide) (W := 0) (Nat.le_of_eq rfl) (by decide) (cells' := 6) (slots' := 16) rfl rfl (by decide) (by decide) (argsL := [(.int p1), (.int p2), (.int (1 : Int32))]) (rest := []) (lenOf own_pd5 rfl) rfl rfl at_73 (pc' := 76) rfl ?_
      rintro _ T3427 h3427 X3427 ⟨b3427, rfl, A3427, K3427⟩
      have S3428 := own_Sta.keep0 S3426 K3427
      have A3429 := A3425.keep K3427
      show own_Goal p e below _ T3427 (mkF m 76 #[oI p0, oI p1, oI p2, oI p3, oI p4, oI 3, oI 3, oI 3, oI 1, oI 1, oI 1, oI 0, oA b3425, oU, oU, oU, oU, oU, oU, oU, oU, oU, oU, oU, oU, oU, oU, oU, oU, oU, oU, oU, oU] [(.ref b3427)])
      refine own_astore X3427 (Ls' := #[oI p0, oI p1, oI p2, oI p3, oI p4, oI 3, oI 3, oI 3, oI 1, oI 1, oI 1, oI 0, oA b3425, oA b3427, oU, oU, oU, oU, oU, oU, oU, oU, oU, oU, oU, oU, oU, oU, oU, oU, oU, oU, oU]) rfl rfl at_76 (pc' := 78) rfl ?_
      refine own_iloadN X3427 rfl at_78 (pc' := 79) rfl ?_
      refine own_iloadN X3427 rfl at_79 (pc' := 80) rfl ?_
      refine own_iconst X3427 (v := (2 : Int32)) (by decide) at_80 (pc' := 81) rfl ?_
      refine own_callS X3427 (own_two l Z a0 hw p1 p2 (2 : Int32) _ n0 X3427.le cs S3428 hcs) (ww 0 rfl) (ww 1 rfl) (ww 2 rfl) (ww 3 rfl) (by decide) rfl (by decide) (W := 0) (Nat.le_of_eq rfl) (by decide) (cells' := 9) (slots' := 24) rfl rfl (by decide) (by decide) (argsL := [(.int p1), (.int p2), (.int (2 : Int32))]) (rest := []) (lenOf own_pd5 rfl) rfl rfl at_81 (pc' := 84) rfl ?_
      rintro _ T3430 h3430 X3430 ⟨b3430, rfl, A3430, K3430⟩
      have S3431 := own_Sta.keep0 S3428 K3430
      have A3432 := A3429.keep K3430
      have A3433 := A3427.keep K3430
      show own_Goal p e below _ T3430 (mkF m 84 #[oI p0, oI p1, oI p2, oI p3, oI p4, oI 3, oI 3, oI 3, oI 1, oI 1, oI 1, oI 0, oA b3425, oA b3427, oU, oU, oU, oU, oU, oU, oU, oU, oU, oU, oU, oU, oU, oU, oU, oU, oU, oU, oU] [(.ref b3430)])
      refine own_astore X3430 (Ls' := #[oI p0, oI p1, oI p2, oI p3, oI p4, oI 3, oI 3, oI 3, oI 1, oI 1, oI 1, oI 0, oA b3425, oA b3427, oA b3430, oU, oU, oU, oU, oU, oU, oU, oU, oU, oU, oU, oU, oU, oU, oU, oU, oU, oU]) rfl rfl at_84 (pc' := 86) rfl ?_
      refine own_iloadN X3430 rfl at_86 (pc' := 87) rfl ?_
      refine own_iloadN X3430 rfl at_87 (pc' := 88) rfl ?_
      refine own_iconst X3430 (v := (3 : Int32)) (by decide) at_88 (pc' := 89) rfl ?_
      refine own_callS X3430 (own_two l Z a0 hw p1 p2 (3 : Int32) _ n0 X3430.le cs S3431 hcs) (ww 0 rfl) (ww 1 rfl) (ww 2 rfl) (ww 3 rfl) (by decide) rfl (by decide) (W := 0) (Nat.le_of_eq rfl) (by decide) (cells' := 12) (slots' := 32) rfl rfl (by decide) (by decide) (argsL := [(.int p1), (.int p2), (.int (3 : Int32))]) (rest := []) (lenOf own_pd5 rfl) rfl rfl at_89 (pc' := 92) rfl ?_
      rintro _ T3434 h3434 X3434 ⟨b3434, rfl, A3434, K3434⟩
      have S3435 := own_Sta.keep0 S3431 K3434
      have A3436 := A3432.keep K3434
      have A3437 := A3433.keep K3434
      have A3438 := A3430.keep K3434
      show own_Goal p e below _ T3434 (mkF m 92 #[oI p0, oI p1, oI p2, oI p3, oI p4, oI 3, oI 3, oI 3, oI 1, oI 1, oI 1, oI 0, oA b3425, oA b3427, oA b3430, oU, oU, oU, oU, oU, oU, oU, oU, oU, oU, oU, oU, oU, oU, oU, oU, oU, oU] [(.ref b3434)])
      refine own_astore X3434 (Ls' := #[oI p0, oI p1, oI p2, oI p3, oI p4, oI 3, oI 3, oI 3, oI 1, oI 1, oI 1, oI 0, oA b3425, oA b3427, oA b3430, oA b3434, oU, oU, oU, oU, oU, oU, oU, oU, oU, oU, oU, oU, oU, oU, oU, oU, oU]) rfl rfl at_92 (pc' := 94) rfl ?_
      refine own_iloadN X3434 rfl at_94 (pc' := 95) rfl ?_
      refine own_iconst X3434 (v := (1 : Int32)) (by decide) at_95 (pc' := 96) rfl ?_
      obtain ⟨i3439, e3439⟩ : ∃ v, XT.ushr p3 (1 : Int32) = v := ⟨_, rfl⟩
      refine own_iushr X3434 e3439 at_96 (pc' := 97) rfl ?_
      refine own_iconst X3434 (v := (1 : Int32)) (by decide) at_97 (pc' := 98) rfl ?_
      obtain ⟨i3440, e3440⟩ : ∃ v, i3439 &&& (1 : Int32) = v := ⟨_, rfl⟩
      have f3440 : own_I 1 i3440.toInt i3440 := own_I.and e3440 (by decide)
      have nn3440 := own_and_nn (M := 1) e3440 (by decide)
      refine own_iand X3434 e3440 at_98 (pc' := 99) rfl ?_
      have J3441 : ∀ (b3441 : Int32), own_Goal p e below (own_Fin below s room_1 n0 (fun v _ => v = some (.int 1))) T3434 (mkF m 107 #[oI p0, oI p1, oI p2, oI p3, oI p4, oI 3, oI 3, oI 3, oI 1, oI 1, oI 1, oI 0, oA b3425, oA b3427, oA b3430, oA b3434, oU, oU, oU, oU, oU, oU, oU, oU, oU, oU, oU, oU, oU, oU, oU, oU, oU] [(.int b3441)]) := by
        intro b3441
        refine own_istore X3434 (Ls' := #[oI p0, oI p1, oI p2, oI p3, oI p4, oI 3, oI 3, oI 3, oI 1, oI 1, oI 1, oI 0, oA b3425, oA b3427, oA b3430, oA b3434, oI b3441, oU, oU, oU, oU, oU, oU, oU, oU, oU, oU, oU, oU, oU, oU, oU, oU]) rfl at_107 (pc' := 109) rfl ?_
        refine own_iloadN X3434 rfl at_109 (pc' := 110) rfl ?_
        refine own_iconst X3434 (v := (2 : Int32)) (by decide) at_110 (pc' := 111) rfl ?_
        obtain ⟨i3442, e3442⟩ : ∃ v, XT.ushr p3 (2 : Int32) = v := ⟨_, rfl⟩
        refine own_iushr X3434 e3442 at_111 (pc' := 112) rfl ?_
        refine own_iconst X3434 (v := (1 : Int32)) (by decide) at_112 (pc' := 113) rfl ?_
        obtain ⟨i3443, e3443⟩ : ∃ v, i3442 &&& (1 : Int32) = v := ⟨_, rfl⟩
        have f3443 : own_I 1 i3443.toInt i3443 := own_I.and e3443 (by decide)
        have nn3443 := own_and_nn (M := 1) e3443 (by decide)
        refine own_iand X3434 e3443 at_113 (pc' := 114) rfl ?_
        have J3444 : ∀ (b3444 : Int32), own_Goal p e below (own_Fin below s room_1 n0 (fun v _ => v = some (.int 1))) T3434 (mkF m 122 #[oI p0, oI p1, oI p2, oI p3, oI p4, oI 3, oI 3, oI 3, oI 1, oI 1, oI 1, oI 0, oA b3425, oA b3427, oA b3430, oA b3434, oI b3441, oU, oU, oU, oU, oU, oU, oU, oU, oU, oU, oU, oU, oU, oU, oU, oU] [(.int b3444)]) := by
          intro b3444
          refine own_istore X3434 (Ls' := #[oI p0, oI p1, oI p2, oI p3, oI p4, oI 3, oI 3, oI 3, oI 1, oI 1, oI 1, oI 0, oA b3425, oA b3427, oA b3430, oA b3434, oI b3441, oI b3444, oU, oU, oU, oU, oU, oU, oU, oU, oU, oU, oU, oU, oU, oU, oU]) rfl at_122 (pc' := 124) rfl ?_
          refine own_iloadN X3434 rfl at_124 (pc' := 125) rfl ?_
          refine own_iconst X3434 (v := (3 : Int32)) (by decide) at_125 (pc' := 126) rfl ?_
          obtain ⟨i3445, e3445⟩ : ∃ v, XT.ushr p3 (3 : Int32) = v := ⟨_, rfl⟩
          refine own_iushr X3434 e3445 at_126 (pc' := 127) rfl ?_
          refine own_iconst X3434 (v := (1 : Int32)) (by decide) at_127 (pc' := 128) rfl ?_
          obtain ⟨i3446, e3446⟩ : ∃ v, i3445 &&& (1 : Int32) = v := ⟨_, rfl⟩
          have f3446 : own_I 1 i3446.toInt i3446 := own_I.and e3446 (by decide)
          have nn3446 := own_and_nn (M := 1) e3446 (by decide)
          refine own_iand X3434 e3446 at_128 (pc' := 129) rfl ?_
          have J3447 : ∀ (b3447 : Int32), own_Goal p e below (own_Fin below s room_1 n0 (fun v _ => v = some (.int 1))) T3434 (mkF m 137 #[oI p0, oI p1, oI p2, oI p3, oI p4, oI 3, oI 3, oI 3, oI 1, oI 1, oI 1, oI 0, oA b3425, oA b3427, oA b3430, oA b3434, oI b3441, oI b3444, oU, oU, oU, oU, oU, oU, oU, oU, oU, oU, oU, oU, oU, oU, oU] [(.int b3447)]) := by
            intro b3447
            refine own_istore X3434 (Ls' := #[oI p0, oI p1, oI p2, oI p3, oI p4, oI 3, oI 3, oI 3, oI 1, oI 1, oI 1, oI 0, oA b3425, oA b3427, oA b3430, oA b3434, oI b3441, oI b3444, oI b3447, oU, oU, oU, oU, oU, oU, oU, oU, oU, oU, oU, oU, oU, oU]) rfl at_137 (pc' := 139) rfl ?_
            refine own_iconst X3434 (v := (4 : Int32)) (by decide) at_139 (pc' := 140) rfl ?_
            refine own_newarrayE X3434 (ty := .int) rfl (ad := "[I") (by decide) (ww 34 rfl) (n := 4) (vs := [(.int (0 : Int32)), (.int (0 : Int32)), (.int (0 : Int32)), (.int (0 : Int32))]) (by decide) (by decide) (by decide) rfl (cells' := 13) (slots' := 36) rfl rfl (by decide) (by decide) at_140 (pc' := 142) rfl fun a3448 T3448 h3448 g3448 ge3448 X3448 E3448 V3448 A3448 => ?_
            have ne3449 : b3425 ≠ a3448 := own_lt_ne A3436.lt g3448
            have ne3450 : b3427 ≠ a3448 := own_lt_ne A3437.lt g3448
            have ne3451 : b3430 ≠ a3448 := own_lt_ne A3438.lt g3448
            have ne3452 : b3434 ≠ a3448 := own_lt_ne A3434.lt g3448
            have A3453 := A3436.ext E3448
            have A3454 := A3437.ext E3448
            have A3455 := A3438.ext E3448
            have A3456 := A3434.ext E3448
            have S3457 := S3435.ext E3448
            refine own_astore X3448 (Ls' := #[oI p0, oI p1, oI p2, oI p3, oI p4, oI 3, oI 3, oI 3, oI 1, oI 1, oI 1, oI 0, oA b3425, oA b3427, oA b3430, oA b3434, oI b3441, oI b3444, oI b3447, oA a3448, oU, oU, oU, oU, oU, oU, oU, oU, oU, oU, oU, oU, oU]) rfl rfl at_142 (pc' := 144) rfl ?_
            refine own_aload X3448 rfl rfl at_144 (pc' := 146) rfl ?_
            refine own_iconst X3448 (v := (0 : Int32)) (by decide) at_146 (pc' := 147) rfl ?_
            refine own_iload X3448 rfl at_147 (pc' := 149) rfl ?_
            refine own_iastore X3448 V3448 ge3448 (i := 0) (by decide) (by decide) (show 0 < 4 by decide) at_149 (pc' := 150) rfl fun T3458 h3458 X3458 W3458 V3458 => ?_
            have A3459 := A3453.wr W3458
            have A3460 := A3454.wr W3458
            have A3461 := A3455.wr W3458
            have A3462 := A3456.wr W3458
            have A3463 := A3448.wr W3458
            have S3464 := S3457.wr W3458
            replace V3458 : own_Vec Z h3458 a3448 .int [(.int (3 : Int32)), (.int (0 : Int32)), (.int (0 : Int32)), (.int (0 : Int32))] := V3458
            refine own_aload X3458 rfl rfl at_150 (pc' := 152) rfl ?_
            refine own_iconst X3458 (v := (1 : Int32)) (by decide) at_152 (pc' := 153) rfl ?_
            refine own_iload X3458 rfl at_153 (pc' := 155) rfl ?_
            refine own_iastore X3458 V3458 ge3448 (i := 1) (by decide) (by decide) (show 1 < 4 by decide) at_155 (pc' := 156) rfl fun T3465 h3465 X3465 W3465 V3465 => ?_
            have A3466 := A3459.wr W3465
            have A3467 := A3460.wr W3465
            have A3468 := A3461.wr W3465
            have A3469 := A3462.wr W3465
            have A3470 := A3463.wr W3465
            have S3471 := S3464.wr W3465
            replace V3465 : own_Vec Z h3465 a3448 .int [(.int (3 : Int32)), (.int (3 : Int32)), (.int (0 : Int32)), (.int (0 : Int32))] := V3465
            refine own_aload X3465 rfl rfl at_156 (pc' := 158) rfl ?_
            refine own_iconst X3465 (v := (2 : Int32)) (by decide) at_158 (pc' := 159) rfl ?_
            refine own_iload X3465 rfl at_159 (pc' := 161) rfl ?_
            refine own_iastore X3465 V3465 ge3448 (i := 2) (by decide) (by decide) (show 2 < 4 by decide) at_161 (pc' := 162) rfl fun T3472 h3472 X3472 W3472 V3472 => ?_
            have A3473 := A3466.wr W3472
            have A3474 := A3467.wr W3472
            have A3475 := A3468.wr W3472
            have A3476 := A3469.wr W3472
            have A3477 := A3470.wr W3472
            have S3478 := S3471.wr W3472
            replace V3472 : own_Vec Z h3472 a3448 .int [(.int (3 : Int32)), (.int (3 : Int32)), (.int (3 : Int32)), (.int (0 : Int32))] := V3472
            refine own_aload X3472 rfl rfl at_162 (pc' := 164) rfl ?_
            refine own_iconst X3472 (v := (3 : Int32)) (by decide) at_164 (pc' := 165) rfl ?_
            refine own_iconst X3472 (v := (-1 : Int32)) (by decide) at_165 (pc' := 166) rfl ?_
            refine own_iastore X3472 V3472 ge3448 (i := 3) (by decide) (by decide) (show 3 < 4 by decide) at_166 (pc' := 167) rfl fun T3479 h3479 X3479 W3479 V3479 => ?_
            have A3480 := A3473.wr W3479
            have A3481 := A3474.wr W3479
            have A3482 := A3475.wr W3479
            have A3483 := A3476.wr W3479
            have A3484 := A3477.wr W3479
            have S3485 := S3478.wr W3479
            replace V3479 : own_Vec Z h3479 a3448 .int [(.int (3 : Int32)), (.int (3 : Int32)), (.int (3 : Int32)), (.int (-1 : Int32))] := V3479
            refine own_iconst X3479 (v := (4 : Int32)) (by decide) at_167 (pc' := 168) rfl ?_
            refine own_newarrayE X3479 (ty := .double) rfl (ad := "[D") (by decide) (ww 35 rfl) (n := 4) (vs := [(.double (0 : UInt64)), (.double (0 : UInt64)), (.double (0 : UInt64)), (.double (0 : UInt64))]) (by decide) (by decide) (by decide) rfl (cells' := 14) (slots' := 40) rfl rfl (by decide) (by decide) at_168 (pc' := 170) rfl fun a3486 T3486 h3486 g3486 ge3486 X3486 E3486 V3486 A3486 => ?_
            have ne3487 : b3425 ≠ a3486 := own_lt_ne A3480.lt g3486
            have ne3488 : b3427 ≠ a3486 := own_lt_ne A3481.lt g3486
            have ne3489 : b3430 ≠ a3486 := own_lt_ne A3482.lt g3486
            have ne3490 : b3434 ≠ a3486 := own_lt_ne A3483.lt g3486
            have ne3491 : a3448 ≠ a3486 := own_lt_ne V3479.lt g3486
            have A3492 := A3480.ext E3486
            have A3493 := A3481.ext E3486
            have A3494 := A3482.ext E3486
            have A3495 := A3483.ext E3486
            have V3496 := V3479.ext E3486
            have A3497 := A3484.ext E3486
            have S3498 := S3485.ext E3486
            refine own_astore X3486 (Ls' := #[oI p0, oI p1, oI p2, oI p3, oI p4, oI 3, oI 3, oI 3, oI 1, oI 1, oI 1, oI 0, oA b3425, oA b3427, oA b3430, oA b3434, oI b3441, oI b3444, oI b3447, oA a3448, oA a3486, oU, oU, oU, oU, oU, oU, oU, oU, oU, oU, oU, oU]) rfl rfl at_170 (pc' := 172) rfl ?_
            refine own_aload X3486 rfl rfl at_172 (pc' := 174) rfl ?_
            refine own_iconst X3486 (v := (0 : Int32)) (by decide) at_174 (pc' := 175) rfl ?_
            refine own_iload X3486 rfl at_175 (pc' := 177) rfl ?_
            refine own_bipush X3486 (v := (7 : Int32)) (by decide) at_177 (pc' := 179) rfl ?_
            obtain ⟨i3499, e3499⟩ : ∃ v, p4 &&& (7 : Int32) = v := ⟨_, rfl⟩
            have f3499 : own_I 7 i3499.toInt i3499 := own_I.and e3499 (by decide)
            have nn3499 := own_and_nn (M := 7) e3499 (by decide)
            refine own_iand X3486 e3499 at_179 (pc' := 180) rfl ?_
            obtain ⟨d3500, e3500⟩ : ∃ v, FP.i2d i3499 = v := ⟨_, rfl⟩
            have f3500 : own_D 0 7 i3499.toInt d3500 := own_D.i2d f3499 e3500
            refine own_i2d X3486 e3500 at_180 (pc' := 181) rfl ?_
            refine own_dastore X3486 V3486 ge3486 (i := 0) (by decide) (by decide) (show 0 < 4 by decide) at_181 (pc' := 182) rfl fun T3501 h3501 X3501 W3501 V3501 => ?_
            have A3502 := A3492.wr W3501
            have A3503 := A3493.wr W3501
            have A3504 := A3494.wr W3501
            have A3505 := A3495.wr W3501
            have A3506 := A3497.wr W3501
            have V3507 := V3496.other W3501 ne3491
            have A3508 := A3486.wr W3501
            have S3509 := S3498.wr W3501
            replace V3501 : own_Vec Z h3501 a3486 .double [(.double d3500), (.double (0 : UInt64)), (.double (0 : UInt64)), (.double (0 : UInt64))] := V3501
            refine own_aload X3501 rfl rfl at_182 (pc' := 184) rfl ?_
            refine own_iconst X3501 (v := (1 : Int32)) (by decide) at_184 (pc' := 185) rfl ?_
            refine own_iload X3501 rfl at_185 (pc' := 187) rfl ?_
            refine own_iconst X3501 (v := (3 : Int32)) (by decide) at_187 (pc' := 188) rfl ?_
            obtain ⟨i3510, e3510⟩ : ∃ v, XT.ushr p4 (3 : Int32) = v := ⟨_, rfl⟩
            refine own_iushr X3501 e3510 at_188 (pc' := 189) rfl ?_
            refine own_bipush X3501 (v := (7 : Int32)) (by decide) at_189 (pc' := 191) rfl ?_
            obtain ⟨i3511, e3511⟩ : ∃ v, i3510 &&& (7 : Int32) = v := ⟨_, rfl⟩
            have f3511 : own_I 7 i3511.toInt i3511 := own_I.and e3511 (by decide)
            have nn3511 := own_and_nn (M := 7) e3511 (by decide)
            refine own_iand X3501 e3511 at_191 (pc' := 192) rfl ?_
            obtain ⟨d3512, e3512⟩ : ∃ v, FP.i2d i3511 = v := ⟨_, rfl⟩
            have f3512 : own_D 0 7 i3511.toInt d3512 := own_D.i2d f3511 e3512
            refine own_i2d X3501 e3512 at_192 (pc' := 193) rfl ?_
            refine own_dastore X3501 V3501 ge3486 (i := 1) (by decide) (by decide) (show 1 < 4 by decide) at_193 (pc' := 194) rfl fun T3513 h3513 X3513 W3513 V3513 => ?_
            have A3514 := A3502.wr W3513
            have A3515 := A3503.wr W3513
            have A3516 := A3504.wr W3513
            have A3517 := A3505.wr W3513
            have A3518 := A3506.wr W3513
            have V3519 := V3507.other W3513 ne3491
            have A3520 := A3508.wr W3513
            have S3521 := S3509.wr W3513
            replace V3513 : own_Vec Z h3513 a3486 .double [(.double d3500), (.double d3512), (.double (0 : UInt64)), (.double (0 : UInt64))] := V3513
            refine own_aload X3513 rfl rfl at_194 (pc' := 196) rfl ?_
            refine own_iconst X3513 (v := (2 : Int32)) (by decide) at_196 (pc' := 197) rfl ?_
            refine own_iload X3513 rfl at_197 (pc' := 199) rfl ?_
            refine own_bipush X3513 (v := (6 : Int32)) (by decide) at_199 (pc' := 201) rfl ?_
            obtain ⟨i3522, e3522⟩ : ∃ v, XT.ushr p4 (6 : Int32) = v := ⟨_, rfl⟩
            refine own_iushr X3513 e3522 at_201 (pc' := 202) rfl ?_
            refine own_bipush X3513 (v := (7 : Int32)) (by decide) at_202 (pc' := 204) rfl ?_
            obtain ⟨i3523, e3523⟩ : ∃ v, i3522 &&& (7 : Int32) = v := ⟨_, rfl⟩
            have f3523 : own_I 7 i3523.toInt i3523 := own_I.and e3523 (by decide)
            have nn3523 := own_and_nn (M := 7) e3523 (by decide)
            refine own_iand X3513 e3523 at_204 (pc' := 205) rfl ?_
            obtain ⟨d3524, e3524⟩ : ∃ v, FP.i2d i3523 = v := ⟨_, rfl⟩
            have f3524 : own_D 0 7 i3523.toInt d3524 := own_D.i2d f3523 e3524
            refine own_i2d X3513 e3524 at_205 (pc' := 206) rfl ?_
            refine own_dastore X3513 V3513 ge3486 (i := 2) (by decide) (by decide) (show 2 < 4 by decide) at_206 (pc' := 207) rfl fun T3525 h3525 X3525 W3525 V3525 => ?_
            have A3526 := A3514.wr W3525
            have A3527 := A3515.wr W3525
            have A3528 := A3516.wr W3525
            have A3529 := A3517.wr W3525
            have A3530 := A3518.wr W3525
            have V3531 := V3519.other W3525 ne3491
            have A3532 := A3520.wr W3525
            have S3533 := S3521.wr W3525
            replace V3525 : own_Vec Z h3525 a3486 .double [(.double d3500), (.double d3512), (.double d3524), (.double (0 : UInt64))] := V3525
            refine own_aload X3525 rfl rfl at_207 (pc' := 209) rfl ?_
            refine own_iconst X3525 (v := (3 : Int32)) (by decide) at_209 (pc' := 210) rfl ?_
            refine own_dconst0 X3525 (v := (0 : UInt64)) rfl at_210 (pc' := 211) rfl ?_
            refine own_dastore X3525 V3525 ge3486 (i := 3) (by decide) (by decide) (show 3 < 4 by decide) at_211 (pc' := 212) rfl fun T3534 h3534 X3534 W3534 V3534 => ?_
            have A3535 := A3526.wr W3534
            have A3536 := A3527.wr W3534
            have A3537 := A3528.wr W3534
            have A3538 := A3529.wr W3534
            have A3539 := A3530.wr W3534
            have V3540 := V3531.other W3534 ne3491
            have A3541 := A3532.wr W3534
            have S3542 := S3533.wr W3534
            replace V3534 : own_Vec Z h3534 a3486 .double [(.double d3500), (.double d3512), (.double d3524), (.double (0 : UInt64))] := V3534
            refine own_iconst X3534 (v := (4 : Int32)) (by decide) at_212 (pc' := 213) rfl ?_
            refine own_anewarray X3534 (ww 5 rfl) (ww 36 rfl) (ad := "[Ljava/lang/String;") (by decide) (n := 4) (vs := [.null, .null, .null, .null]) (by decide) (by decide) (by decide) rfl (cells' := 15) (slots' := 44) rfl rfl (by decide) (by decide) at_213 (pc' := 216) rfl fun a3543 T3543 h3543 g3543 ge3543 X3543 E3543 V3543 A3543 O3543 => ?_
            have ne3544 : b3425 ≠ a3543 := own_lt_ne A3535.lt g3543
            have ne3545 : b3427 ≠ a3543 := own_lt_ne A3536.lt g3543
            have ne3546 : b3430 ≠ a3543 := own_lt_ne A3537.lt g3543
            have ne3547 : b3434 ≠ a3543 := own_lt_ne A3538.lt g3543
            have ne3548 : a3448 ≠ a3543 := own_lt_ne V3540.lt g3543
            have ne3549 : a3486 ≠ a3543 := own_lt_ne V3534.lt g3543
            have A3550 := A3535.ext E3543
            have A3551 := A3536.ext E3543
            have A3552 := A3537.ext E3543
            have A3553 := A3538.ext E3543
            have V3554 := V3540.ext E3543
            have A3555 := A3539.ext E3543
            have V3556 := V3534.ext E3543
            have A3557 := A3541.ext E3543
            have S3558 := S3542.ext E3543
            refine own_astore X3543 (Ls' := #[oI p0, oI p1, oI p2, oI p3, oI p4, oI 3, oI 3, oI 3, oI 1, oI 1, oI 1, oI 0, oA b3425, oA b3427, oA b3430, oA b3434, oI b3441, oI b3444, oI b3447, oA a3448, oA a3486, oA a3543, oU, oU, oU, oU, oU, oU, oU, oU, oU, oU, oU]) rfl rfl at_216 (pc' := 218) rfl ?_
            refine own_aload X3543 rfl rfl at_218 (pc' := 220) rfl ?_
            refine own_iconst X3543 (v := (0 : Int32)) (by decide) at_220 (pc' := 221) rfl ?_
            refine own_aload X3543 rfl rfl at_221 (pc' := 223) rfl ?_
            refine own_aastore X3543 V3543 O3543 ge3543 (Or.inr ⟨_, rfl, A3550⟩) (i := 0) (by decide) (by decide) (show 0 < 4 by decide) at_223 (pc' := 224) rfl fun T3559 h3559 X3559 W3559 V3559 => ?_
            have A3560 := A3550.wr W3559
            have A3561 := A3551.wr W3559
            have A3562 := A3552.wr W3559
            have A3563 := A3553.wr W3559
            have A3564 := A3555.wr W3559
            have V3565 := V3554.other W3559 ne3548
            have A3566 := A3557.wr W3559
            have V3567 := V3556.other W3559 ne3549
            have A3568 := A3543.wr W3559
            have O3569 := O3543.wr W3559
            have S3570 := S3558.wr W3559
            replace V3559 : own_Vec Z h3559 a3543 (.object "java/lang/String") [(.ref b3425), .null, .null, .null] := V3559
            refine own_aload X3559 rfl rfl at_224 (pc' := 226) rfl ?_
            refine own_iconst X3559 (v := (1 : Int32)) (by decide) at_226 (pc' := 227) rfl ?_
            refine own_iload X3559 rfl at_227 (pc' := 229) rfl ?_
            refine own_ifT X3559 (by decide) at_229 (pc' := 237) (by decide) (by decide) ?_
            refine own_aload X3559 rfl rfl at_237 (pc' := 239) rfl ?_
            refine own_goto X3559 at_239 (pc' := 243) (by decide) (by decide) ?_
            refine own_aastore X3559 V3559 O3569 ge3543 (Or.inr ⟨_, rfl, A3561⟩) (i := 1) (by decide) (by decide) (show 1 < 4 by decide) at_243 (pc' := 244) rfl fun T3571 h3571 X3571 W3571 V3571 => ?_
            have A3572 := A3560.wr W3571
            have A3573 := A3561.wr W3571
            have A3574 := A3562.wr W3571
            have A3575 := A3563.wr W3571
            have A3576 := A3564.wr W3571
            have V3577 := V3565.other W3571 ne3548
            have A3578 := A3566.wr W3571
            have V3579 := V3567.other W3571 ne3549
            have A3580 := A3568.wr W3571
            have O3581 := O3569.wr W3571
            have S3582 := S3570.wr W3571
            replace V3571 : own_Vec Z h3571 a3543 (.object "java/lang/String") [(.ref b3425), (.ref b3427), .null, .null] := V3571
            refine own_aload X3571 rfl rfl at_244 (pc' := 246) rfl ?_
            refine own_iconst X3571 (v := (2 : Int32)) (by decide) at_246 (pc' := 247) rfl ?_
            refine own_iload X3571 rfl at_247 (pc' := 249) rfl ?_
            refine own_ifT X3571 (by decide) at_249 (pc' := 257) (by decide) (by decide) ?_
            refine own_aload X3571 rfl rfl at_257 (pc' := 259) rfl ?_
            refine own_goto X3571 at_259 (pc' := 263) (by decide) (by decide) ?_
            refine own_aastore X3571 V3571 O3581 ge3543 (Or.inr ⟨_, rfl, A3574⟩) (i := 2) (by decide) (by decide) (show 2 < 4 by decide) at_263 (pc' := 264) rfl fun T3583 h3583 X3583 W3583 V3583 => ?_
            have A3584 := A3572.wr W3583
            have A3585 := A3573.wr W3583
            have A3586 := A3574.wr W3583
            have A3587 := A3575.wr W3583
            have A3588 := A3576.wr W3583
            have V3589 := V3577.other W3583 ne3548
            have A3590 := A3578.wr W3583
            have V3591 := V3579.other W3583 ne3549
            have A3592 := A3580.wr W3583
            have O3593 := O3581.wr W3583
            have S3594 := S3582.wr W3583
            replace V3583 : own_Vec Z h3583 a3543 (.object "java/lang/String") [(.ref b3425), (.ref b3427), (.ref b3430), .null] := V3583
            refine own_aload X3583 rfl rfl at_264 (pc' := 266) rfl ?_
            refine own_iconst X3583 (v := (3 : Int32)) (by decide) at_266 (pc' := 267) rfl ?_
            refine own_iload X3583 rfl at_267 (pc' := 269) rfl ?_
            have J3595 : ∀ (b3595 : Value) (hb3595 : b3595 = .null ∨ b3595 = .ref b3434), own_Goal p e below (own_Fin below s room_1 n0 (fun v _ => v = some (.int 1))) T3583 (mkF m 278 #[oI p0, oI p1, oI p2, oI p3, oI p4, oI 3, oI 3, oI 3, oI 1, oI 1, oI 1, oI 0, oA b3425, oA b3427, oA b3430, oA b3434, oI b3441, oI b3444, oI b3447, oA a3448, oA a3486, oA a3543, oU, oU, oU, oU, oU, oU, oU, oU, oU, oU, oU] [b3595, (.int (3 : Int32)), (.ref a3543)]) := by
              intro b3595 hb3595
              have fb3595 : fits (.object "java/lang/String") b3595 = true := by rcases hb3595 with q | q <;> rw [q] <;> rfl
              refine own_aastore X3583 V3583 O3593 ge3543 (hb3595.elim Or.inl fun q => Or.inr ⟨_, q, A3587⟩) (i := 3) (by decide) (by decide) (show 3 < 4 by decide) at_278 (pc' := 279) rfl fun T3596 h3596 X3596 W3596 V3596 => ?_
              have A3597 := A3584.wr W3596
              have A3598 := A3585.wr W3596
              have A3599 := A3586.wr W3596
              have A3600 := A3587.wr W3596
              have A3601 := A3588.wr W3596
              have V3602 := V3589.other W3596 ne3548
              have A3603 := A3590.wr W3596
              have V3604 := V3591.other W3596 ne3549
              have A3605 := A3592.wr W3596
              have O3606 := O3593.wr W3596
              have S3607 := S3594.wr W3596
              replace V3596 : own_Vec Z h3596 a3543 (.object "java/lang/String") [(.ref b3425), (.ref b3427), (.ref b3430), b3595] := V3596
              refine own_aload X3596 rfl rfl at_279 (pc' := 281) rfl ?_
              refine own_astore X3596 (Ls' := #[oI p0, oI p1, oI p2, oI p3, oI p4, oI 3, oI 3, oI 3, oI 1, oI 1, oI 1, oI 0, oA b3425, oA b3427, oA b3430, oA b3434, oI b3441, oI b3444, oI b3447, oA a3448, oA a3486, oA a3543, oA b3425, oU, oU, oU, oU, oU, oU, oU, oU, oU, oU]) rfl rfl at_281 (pc' := 283) rfl ?_
              refine own_iload X3596 rfl at_283 (pc' := 285) rfl ?_
              refine own_ifF X3596 (by decide) at_285 (pc' := 288) rfl ?_
              refine own_aload X3596 rfl rfl at_288 (pc' := 290) rfl ?_
              refine own_goto X3596 at_290 (pc' := 294) (by decide) (by decide) ?_
              refine own_astore X3596 (Ls' := #[oI p0, oI p1, oI p2, oI p3, oI p4, oI 3, oI 3, oI 3, oI 1, oI 1, oI 1, oI 0, oA b3425, oA b3427, oA b3430, oA b3434, oI b3441, oI b3444, oI b3447, oA a3448, oA a3486, oA a3543, oA b3425, oA b3427, oU, oU, oU, oU, oU, oU, oU, oU, oU]) rfl rfl at_294 (pc' := 296) rfl ?_
              refine own_iload X3596 rfl at_296 (pc' := 298) rfl ?_
              refine own_ifF X3596 (by decide) at_298 (pc' := 301) rfl ?_
              refine own_aload X3596 rfl rfl at_301 (pc' := 303) rfl ?_
              refine own_goto X3596 at_303 (pc' := 307) (by decide) (by decide) ?_
              refine own_astore X3596 (Ls' := #[oI p0, oI p1, oI p2, oI p3, oI p4, oI 3, oI 3, oI 3, oI 1, oI 1, oI 1, oI 0, oA b3425, oA b3427, oA b3430, oA b3434, oI b3441, oI b3444, oI b3447, oA a3448, oA a3486, oA a3543, oA b3425, oA b3427, oA b3430, oU, oU, oU, oU, oU, oU, oU, oU]) rfl rfl at_307 (pc' := 309) rfl ?_
              refine own_iload X3596 rfl at_309 (pc' := 311) rfl ?_
              refine own_ifT X3596 (by decide) at_311 (pc' := 319) (by decide) (by decide) ?_
              refine own_aconst_null X3596  at_319 (pc' := 320) rfl ?_
              refine own_astore X3596 (Ls' := #[oI p0, oI p1, oI p2, oI p3, oI p4, oI 3, oI 3, oI 3, oI 1, oI 1, oI 1, oI 0, oA b3425, oA b3427, oA b3430, oA b3434, oI b3441, oI b3444, oI b3447, oA a3448, oA a3486, oA a3543, oA b3425, oA b3427, oA b3430, .val .null, oU, oU, oU, oU, oU, oU, oU]) rfl rfl at_320 (pc' := 322) rfl ?_
              refine own_new X3596 (ww 37 rfl) (ww 38 rfl) (ww 39 rfl) (cells' := 16) (slots' := 49) rfl rfl (by decide) (by decide) at_322 (pc' := 325) rfl fun a3608 T3608 h3608 g3608 ge3608 X3608 E3608 A3608 D3608 => ?_
              have ne3609 : b3425 ≠ a3608 := own_lt_ne A3597.lt g3608
              have ne3610 : b3427 ≠ a3608 := own_lt_ne A3598.lt g3608
              have ne3611 : b3430 ≠ a3608 := own_lt_ne A3599.lt g3608
              have ne3612 : b3434 ≠ a3608 := own_lt_ne A3600.lt g3608
              have ne3613 : a3448 ≠ a3608 := own_lt_ne V3602.lt g3608
              have ne3614 : a3486 ≠ a3608 := own_lt_ne V3604.lt g3608
              have ne3615 : a3543 ≠ a3608 := own_lt_ne V3596.lt g3608
              have A3616 := A3597.ext E3608
              have A3617 := A3598.ext E3608
              have A3618 := A3599.ext E3608
              have A3619 := A3600.ext E3608
              have V3620 := V3602.ext E3608
              have A3621 := A3601.ext E3608
              have V3622 := V3604.ext E3608
              have A3623 := A3603.ext E3608
              have V3624 := V3596.ext E3608
              have A3625 := A3605.ext E3608
              have O3626 := O3606.ext E3608
              have S3627 := S3607.ext E3608
              have F3628 : Fld Z h3608 a3608 "com/example/cladewalk/cladewalk/tree/Tree" "parents" "[I" .null := D3608 (Or.inr (ww 54 rfl)) (ty := (.array .int)) (by decide)
              have F3629 : Fld Z h3608 a3608 "com/example/cladewalk/cladewalk/tree/Tree" "lengths" "[D" .null := D3608 (Or.inr (ww 62 rfl)) (ty := (.array .double)) (by decide)
              have F3630 : Fld Z h3608 a3608 "com/example/cladewalk/cladewalk/tree/Tree" "names" "[Ljava/lang/String;" .null := D3608 (Or.inr (ww 70 rfl)) (ty := (.array (.object "java/lang/String"))) (by decide)
              have F3631 : Fld Z h3608 a3608 "com/example/cladewalk/cladewalk/tree/Tree" "childCounts" "[I" .null := D3608 (Or.inr (ww 72 rfl)) (ty := (.array .int)) (by decide)
              have F3632 : Fld Z h3608 a3608 "com/example/cladewalk/cladewalk/tree/Tree" "tipCount" "I" (.int (0 : Int32)) := D3608 (Or.inr (ww 75 rfl)) (ty := .int) (by decide)
              refine own_dup X3608 rfl at_325 (pc' := 326) rfl ?_
              refine own_aload X3608 rfl rfl at_326 (pc' := 328) rfl ?_
              refine own_aload X3608 rfl rfl at_328 (pc' := 330) rfl ?_
              refine own_aload X3608 rfl rfl at_330 (pc' := 332) rfl ?_
              refine own_special X3608 (own_ti_33 l Z a0 hw a3608 a3448 a3486 a3543 d3500 i3499.toInt d3512 i3511.toInt d3524 i3523.toInt b3425 b3427 b3430 b3595 _ n0 X3608.le ge3608 A3608 F3628 F3629 F3630 F3631 F3632 V3620 V3622 V3624 A3621 A3623 A3625 ne3613.symm ne3614.symm ne3615.symm f3500 (by omega) f3512 (by omega) f3524 (by omega) fb3595) rfl rfl (ww 40 rfl) (ww 41 rfl) (ww 39 rfl) (ww 42 rfl) (by decide) rfl (by decide) (W := 1) (Nat.le_of_eq rfl) (by decide) (cells' := 20) (slots' := 65) rfl rfl (by decide) (by decide) (argsL := [(.ref a3448), (.ref a3486), (.ref a3543)]) (rest := [(.ref a3608)]) (lenOf own_pd13 rfl) rfl rfl at_332 (pc' := 335) rfl ?_
              rintro _ T3633 h3633 X3633 ⟨rfl, ⟨x3633, y3633, F3633a, F3633b, V3633a, V3633b⟩, K3633⟩
              have S3634 := own_Sta.keep1 S3627 K3633 A3608
              have A3635 := A3616.keep K3633
              have A3636 := A3617.keep K3633
              have A3637 := A3618.keep K3633
              have A3638 := A3619.keep K3633
              have A3639 := A3608.keep K3633
              show own_Goal p e below _ T3633 (mkF m 335 #[oI p0, oI p1, oI p2, oI p3, oI p4, oI 3, oI 3, oI 3, oI 1, oI 1, oI 1, oI 0, oA b3425, oA b3427, oA b3430, oA b3434, oI b3441, oI b3444, oI b3447, oA a3448, oA a3486, oA a3543, oA b3425, oA b3427, oA b3430, .val .null, oU, oU, oU, oU, oU, oU, oU] [(.ref a3608)])
              refine own_astore X3633 (Ls' := #[oI p0, oI p1, oI p2, oI p3, oI p4, oI 3, oI 3, oI 3, oI 1, oI 1, oI 1, oI 0, oA b3425, oA b3427, oA b3430, oA b3434, oI b3441, oI b3444, oI b3447, oA a3448, oA a3486, oA a3543, oA b3425, oA b3427, oA b3430, .val .null, oA a3608, oU, oU, oU, oU, oU, oU]) rfl rfl at_335 (pc' := 337) rfl ?_
              refine own_aload X3633 rfl rfl at_337 (pc' := 339) rfl ?_
              refine own_iconst X3633 (v := (0 : Int32)) (by decide) at_339 (pc' := 340) rfl ?_
              refine own_virtual X3633 (own_name_4_0_1 l Z a0 hw a3608 x3633 y3633 b3425 (0 : Int32) (0 : Int32) (0 : Int32) (3 : Int32) (.ref b3427) (.ref b3430) b3595 _ n0 X3633.le F3633a F3633b V3633a V3633b (by decide)) (C := "com/example/cladewalk/cladewalk/tree/Tree") rfl (ww 76 rfl) (ww 77 rfl) (ww 79 rfl) (ww 78 rfl) (ww 39 rfl) (ww 80 rfl) (by decide) rfl (by decide) (W := 0) (Nat.le_of_eq rfl) (by decide) (cells' := 20) (slots' := 65) rfl rfl (by decide) (by decide) A3639 (argsL := [(.int (0 : Int32))]) (rest := []) (lenOf own_pd12 rfl) rfl rfl at_340 (pc' := 343) rfl ?_
              rintro _ T3640 h3640 X3640 ⟨rfl, e3640⟩
              subst e3640
              show own_Goal p e below _ T3640 (mkF m 343 #[oI p0, oI p1, oI p2, oI p3, oI p4, oI 3, oI 3, oI 3, oI 1, oI 1, oI 1, oI 0, oA b3425, oA b3427, oA b3430, oA b3434, oI b3441, oI b3444, oI b3447, oA a3448, oA a3486, oA a3543, oA b3425, oA b3427, oA b3430, .val .null, oA a3608, oU, oU, oU, oU, oU, oU] [(.ref b3425)])
              refine own_aload X3640 rfl rfl at_343 (pc' := 345) rfl ?_
              refine own_callS X3640 (own_sameA l Z a0 hw b3425 _ n0 X3640.le A3635) (ww 81 rfl) (ww 82 rfl) (ww 2 rfl) (ww 83 rfl) (by decide) rfl (by decide) (W := 0) (Nat.le_of_eq rfl) (by decide) (cells' := 20) (slots' := 65) rfl rfl (by decide) (by decide) (argsL := [(.ref b3425), (.ref b3425)]) (rest := []) (lenOf own_pd11 rfl) rfl rfl at_345 (pc' := 348) rfl ?_
              rintro _ T3641 h3641 X3641 ⟨rfl, e3641⟩
              subst e3641
              show own_Goal p e below _ T3641 (mkF m 348 #[oI p0, oI p1, oI p2, oI p3, oI p4, oI 3, oI 3, oI 3, oI 1, oI 1, oI 1, oI 0, oA b3425, oA b3427, oA b3430, oA b3434, oI b3441, oI b3444, oI b3447, oA a3448, oA a3486, oA a3543, oA b3425, oA b3427, oA b3430, .val .null, oA a3608, oU, oU, oU, oU, oU, oU] [(.int (1 : Int32))])
              refine own_ifF X3641 (by decide) at_348 (pc' := 351) rfl ?_
              refine own_aload X3641 rfl rfl at_351 (pc' := 353) rfl ?_
              refine own_iconst X3641 (v := (1 : Int32)) (by decide) at_353 (pc' := 354) rfl ?_
              refine own_virtual X3641 (own_name_4_1_1 l Z a0 hw a3608 x3633 y3633 b3427 (0 : Int32) (0 : Int32) (0 : Int32) (3 : Int32) (.ref b3425) (.ref b3430) b3595 _ n0 X3641.le F3633a F3633b V3633a V3633b (by decide)) (C := "com/example/cladewalk/cladewalk/tree/Tree") rfl (ww 76 rfl) (ww 77 rfl) (ww 79 rfl) (ww 78 rfl) (ww 39 rfl) (ww 80 rfl) (by decide) rfl (by decide) (W := 0) (Nat.le_of_eq rfl) (by decide) (cells' := 20) (slots' := 65) rfl rfl (by decide) (by decide) A3639 (argsL := [(.int (1 : Int32))]) (rest := []) (lenOf own_pd12 rfl) rfl rfl at_354 (pc' := 357) rfl ?_
              rintro _ T3642 h3642 X3642 ⟨rfl, e3642⟩
              subst e3642
              show own_Goal p e below _ T3642 (mkF m 357 #[oI p0, oI p1, oI p2, oI p3, oI p4, oI 3, oI 3, oI 3, oI 1, oI 1, oI 1, oI 0, oA b3425, oA b3427, oA b3430, oA b3434, oI b3441, oI b3444, oI b3447, oA a3448, oA a3486, oA a3543, oA b3425, oA b3427, oA b3430, .val .null, oA a3608, oU, oU, oU, oU, oU, oU] [(.ref b3427)])
              refine own_aload X3642 rfl rfl at_357 (pc' := 359) rfl ?_
              refine own_callS X3642 (own_sameA l Z a0 hw b3427 _ n0 X3642.le A3636) (ww 81 rfl) (ww 82 rfl) (ww 2 rfl) (ww 83 rfl) (by decide) rfl (by decide) (W := 0) (Nat.le_of_eq rfl) (by decide) (cells' := 20) (slots' := 65) rfl rfl (by decide) (by decide) (argsL := [(.ref b3427), (.ref b3427)]) (rest := []) (lenOf own_pd11 rfl) rfl rfl at_359 (pc' := 362) rfl ?_
              rintro _ T3643 h3643 X3643 ⟨rfl, e3643⟩
              subst e3643
              show own_Goal p e below _ T3643 (mkF m 362 #[oI p0, oI p1, oI p2, oI p3, oI p4, oI 3, oI 3, oI 3, oI 1, oI 1, oI 1, oI 0, oA b3425, oA b3427, oA b3430, oA b3434, oI b3441, oI b3444, oI b3447, oA a3448, oA a3486, oA a3543, oA b3425, oA b3427, oA b3430, .val .null, oA a3608, oU, oU, oU, oU, oU, oU] [(.int (1 : Int32))])
              refine own_ifF X3643 (by decide) at_362 (pc' := 365) rfl ?_
              refine own_aload X3643 rfl rfl at_365 (pc' := 367) rfl ?_
              refine own_iconst X3643 (v := (2 : Int32)) (by decide) at_367 (pc' := 368) rfl ?_
              refine own_virtual X3643 (own_name_4_2_1 l Z a0 hw a3608 x3633 y3633 b3430 (0 : Int32) (0 : Int32) (0 : Int32) (3 : Int32) (.ref b3425) (.ref b3427) b3595 _ n0 X3643.le F3633a F3633b V3633a V3633b (by decide)) (C := "com/example/cladewalk/cladewalk/tree/Tree") rfl (ww 76 rfl) (ww 77 rfl) (ww 79 rfl) (ww 78 rfl) (ww 39 rfl) (ww 80 rfl) (by decide) rfl (by decide) (W := 0) (Nat.le_of_eq rfl) (by decide) (cells' := 20) (slots' := 65) rfl rfl (by decide) (by decide) A3639 (argsL := [(.int (2 : Int32))]) (rest := []) (lenOf own_pd12 rfl) rfl rfl at_368 (pc' := 371) rfl ?_
              rintro _ T3644 h3644 X3644 ⟨rfl, e3644⟩
              subst e3644
              show own_Goal p e below _ T3644 (mkF m 371 #[oI p0, oI p1, oI p2, oI p3, oI p4, oI 3, oI 3, oI 3, oI 1, oI 1, oI 1, oI 0, oA b3425, oA b3427, oA b3430, oA b3434, oI b3441, oI b3444, oI b3447, oA a3448, oA a3486, oA a3543, oA b3425, oA b3427, oA b3430, .val .null, oA a3608, oU, oU, oU, oU, oU, oU] [(.ref b3430)])
              refine own_aload X3644 rfl rfl at_371 (pc' := 373) rfl ?_
              refine own_callS X3644 (own_sameA l Z a0 hw b3430 _ n0 X3644.le A3637) (ww 81 rfl) (ww 82 rfl) (ww 2 rfl) (ww 83 rfl) (by decide) rfl (by decide) (W := 0) (Nat.le_of_eq rfl) (by decide) (cells' := 20) (slots' := 65) rfl rfl (by decide) (by decide) (argsL := [(.ref b3430), (.ref b3430)]) (rest := []) (lenOf own_pd11 rfl) rfl rfl at_373 (pc' := 376) rfl ?_
              rintro _ T3645 h3645 X3645 ⟨rfl, e3645⟩
              subst e3645
              show own_Goal p e below _ T3645 (mkF m 376 #[oI p0, oI p1, oI p2, oI p3, oI p4, oI 3, oI 3, oI 3, oI 1, oI 1, oI 1, oI 0, oA b3425, oA b3427, oA b3430, oA b3434, oI b3441, oI b3444, oI b3447, oA a3448, oA a3486, oA a3543, oA b3425, oA b3427, oA b3430, .val .null, oA a3608, oU, oU, oU, oU, oU, oU] [(.int (1 : Int32))])
              refine own_ifF X3645 (by decide) at_376 (pc' := 379) rfl ?_
              refine own_aload X3645 rfl rfl at_379 (pc' := 381) rfl ?_
              refine own_iconst X3645 (v := (3 : Int32)) (by decide) at_381 (pc' := 382) rfl ?_
              refine own_virtual X3645 (own_name_4_3_0 l Z a0 hw a3608 x3633 y3633 (0 : Int32) (0 : Int32) (0 : Int32) (3 : Int32) (.ref b3425) (.ref b3427) (.ref b3430) b3595 _ n0 X3645.le F3633a F3633b V3633a V3633b (by decide)) (C := "com/example/cladewalk/cladewalk/tree/Tree") rfl (ww 76 rfl) (ww 77 rfl) (ww 79 rfl) (ww 78 rfl) (ww 39 rfl) (ww 80 rfl) (by decide) rfl (by decide) (W := 0) (Nat.le_of_eq rfl) (by decide) (cells' := 20) (slots' := 65) rfl rfl (by decide) (by decide) A3639 (argsL := [(.int (3 : Int32))]) (rest := []) (lenOf own_pd12 rfl) rfl rfl at_382 (pc' := 385) rfl ?_
              rintro _ T3646 h3646 X3646 ⟨rfl, e3646⟩
              subst e3646
              show own_Goal p e below _ T3646 (mkF m 385 #[oI p0, oI p1, oI p2, oI p3, oI p4, oI 3, oI 3, oI 3, oI 1, oI 1, oI 1, oI 0, oA b3425, oA b3427, oA b3430, oA b3434, oI b3441, oI b3444, oI b3447, oA a3448, oA a3486, oA a3543, oA b3425, oA b3427, oA b3430, .val .null, oA a3608, oU, oU, oU, oU, oU, oU] [.null])
              refine own_aload X3646 rfl rfl at_385 (pc' := 387) rfl ?_
              refine own_callS X3646 (own_sameN l Z a0 hw _ n0 X3646.le) (ww 81 rfl) (ww 82 rfl) (ww 2 rfl) (ww 83 rfl) (by decide) rfl (by decide) (W := 0) (Nat.le_of_eq rfl) (by decide) (cells' := 20) (slots' := 65) rfl rfl (by decide) (by decide) (argsL := [.null, .null]) (rest := []) (lenOf own_pd11 rfl) rfl rfl at_387 (pc' := 390) rfl ?_
              rintro _ T3647 h3647 X3647 ⟨rfl, e3647⟩
              subst e3647
              show own_Goal p e below _ T3647 (mkF m 390 #[oI p0, oI p1, oI p2, oI p3, oI p4, oI 3, oI 3, oI 3, oI 1, oI 1, oI 1, oI 0, oA b3425, oA b3427, oA b3430, oA b3434, oI b3441, oI b3444, oI b3447, oA a3448, oA a3486, oA a3543, oA b3425, oA b3427, oA b3430, .val .null, oA a3608, oU, oU, oU, oU, oU, oU] [(.int (1 : Int32))])
              refine own_ifF X3647 (by decide) at_390 (pc' := 393) rfl ?_
              refine own_iconst X3647 (v := (1 : Int32)) (by decide) at_393 (pc' := 394) rfl ?_
              refine own_goto X3647 at_394 (pc' := 398) (by decide) (by decide) ?_
              refine own_istore X3647 (Ls' := #[oI p0, oI p1, oI p2, oI p3, oI p4, oI 3, oI 3, oI 3, oI 1, oI 1, oI 1, oI 0, oA b3425, oA b3427, oA b3430, oA b3434, oI b3441, oI b3444, oI b3447, oA a3448, oA a3486, oA a3543, oA b3425, oA b3427, oA b3430, .val .null, oA a3608, oI 1, oU, oU, oU, oU, oU]) rfl at_398 (pc' := 400) rfl ?_
              refine own_iconst X3647 (v := (1 : Int32)) (by decide) at_400 (pc' := 401) rfl ?_
              refine own_newarrayE X3647 (ty := .int) rfl (ad := "[I") (by decide) (ww 34 rfl) (n := 1) (vs := [(.int (0 : Int32))]) (by decide) (by decide) (by decide) rfl (cells' := 21) (slots' := 66) rfl rfl (by decide) (by decide) at_401 (pc' := 403) rfl fun a3648 T3648 h3648 g3648 ge3648 X3648 E3648 V3648 A3648 => ?_
              have S3649 := S3634.ext E3648
              refine own_astore X3648 (Ls' := #[oI p0, oI p1, oI p2, oI p3, oI p4, oI 3, oI 3, oI 3, oI 1, oI 1, oI 1, oI 0, oA b3425, oA b3427, oA b3430, oA b3434, oI b3441, oI b3444, oI b3447, oA a3448, oA a3486, oA a3543, oA b3425, oA b3427, oA b3430, .val .null, oA a3608, oI 1, oA a3648, oU, oU, oU, oU]) rfl rfl at_403 (pc' := 405) rfl ?_
              refine own_aload X3648 rfl rfl at_405 (pc' := 407) rfl ?_
              refine own_iconst X3648 (v := (0 : Int32)) (by decide) at_407 (pc' := 408) rfl ?_
              refine own_iconst X3648 (v := (-1 : Int32)) (by decide) at_408 (pc' := 409) rfl ?_
              refine own_iastore X3648 V3648 ge3648 (i := 0) (by decide) (by decide) (show 0 < 1 by decide) at_409 (pc' := 410) rfl fun T3650 h3650 X3650 W3650 V3650 => ?_
              have A3651 := A3648.wr W3650
              have S3652 := S3649.wr W3650
              replace V3650 : own_Vec Z h3650 a3648 .int [(.int (-1 : Int32))] := V3650
              refine own_iconst X3650 (v := (1 : Int32)) (by decide) at_410 (pc' := 411) rfl ?_
              refine own_newarrayE X3650 (ty := .double) rfl (ad := "[D") (by decide) (ww 35 rfl) (n := 1) (vs := [(.double (0 : UInt64))]) (by decide) (by decide) (by decide) rfl (cells' := 22) (slots' := 67) rfl rfl (by decide) (by decide) at_411 (pc' := 413) rfl fun a3653 T3653 h3653 g3653 ge3653 X3653 E3653 V3653 A3653 => ?_
              have ne3654 : a3648 ≠ a3653 := own_lt_ne V3650.lt g3653
              have V3655 := V3650.ext E3653
              have A3656 := A3651.ext E3653
              have S3657 := S3652.ext E3653
              refine own_astore X3653 (Ls' := #[oI p0, oI p1, oI p2, oI p3, oI p4, oI 3, oI 3, oI 3, oI 1, oI 1, oI 1, oI 0, oA b3425, oA b3427, oA b3430, oA b3434, oI b3441, oI b3444, oI b3447, oA a3448, oA a3486, oA a3543, oA b3425, oA b3427, oA b3430, .val .null, oA a3608, oI 1, oA a3648, oA a3653, oU, oU, oU]) rfl rfl at_413 (pc' := 415) rfl ?_
              refine own_aload X3653 rfl rfl at_415 (pc' := 417) rfl ?_
              refine own_iconst X3653 (v := (0 : Int32)) (by decide) at_417 (pc' := 418) rfl ?_
              refine own_dconst0 X3653 (v := (0 : UInt64)) rfl at_418 (pc' := 419) rfl ?_
              refine own_dastore X3653 V3653 ge3653 (i := 0) (by decide) (by decide) (show 0 < 1 by decide) at_419 (pc' := 420) rfl fun T3658 h3658 X3658 W3658 V3658 => ?_
              have A3659 := A3656.wr W3658
              have V3660 := V3655.other W3658 ne3654
              have A3661 := A3653.wr W3658
              have S3662 := S3657.wr W3658
              replace V3658 : own_Vec Z h3658 a3653 .double [(.double (0 : UInt64))] := V3658
              refine own_iload X3658 rfl at_420 (pc' := 422) rfl ?_
              refine own_bipush X3658 (v := (16 : Int32)) (by decide) at_422 (pc' := 424) rfl ?_
              obtain ⟨i3663, e3663⟩ : ∃ v, XT.ushr p4 (16 : Int32) = v := ⟨_, rfl⟩
              refine own_iushr X3658 e3663 at_424 (pc' := 425) rfl ?_
              refine own_sipush X3658 (v := (255 : Int32)) (by decide) at_425 (pc' := 428) rfl ?_
              obtain ⟨i3664, e3664⟩ : ∃ v, i3663 &&& (255 : Int32) = v := ⟨_, rfl⟩
              have f3664 : own_I 255 i3664.toInt i3664 := own_I.and e3664 (by decide)
              have nn3664 := own_and_nn (M := 255) e3664 (by decide)
              refine own_iand X3658 e3664 at_428 (pc' := 429) rfl ?_
              refine own_i2c X3658 (v := i3664) (own_i2c_mask e3664) at_429 (pc' := 430) rfl ?_
              refine own_callS X3658 (own_vof l Z a0 hw i3664 _ n0 X3658.le f3664 nn3664 cs S3662 hcs) (ww 89 rfl) (ww 90 rfl) (ww 7 rfl) (ww 91 rfl) (by decide) rfl (by decide) (W := 0) (Nat.le_of_eq rfl) (by decide) (cells' := 24) (slots' := 72) rfl rfl (by decide) (by decide) (argsL := [(.int i3664)]) (rest := []) (lenOf own_pd9 rfl) rfl rfl at_430 (pc' := 433) rfl ?_
              rintro _ T3666 h3666 X3666 ⟨b3666, rfl, A3666, K3666⟩
              have S3667 := own_Sta.keep0 S3662 K3666
              have A3668 := A3659.keep K3666
              have V3669 := V3660.keep K3666 nin0
              have A3670 := A3661.keep K3666
              have V3671 := V3658.keep K3666 nin0
              show own_Goal p e below _ T3666 (mkF m 433 #[oI p0, oI p1, oI p2, oI p3, oI p4, oI 3, oI 3, oI 3, oI 1, oI 1, oI 1, oI 0, oA b3425, oA b3427, oA b3430, oA b3434, oI b3441, oI b3444, oI b3447, oA a3448, oA a3486, oA a3543, oA b3425, oA b3427, oA b3430, .val .null, oA a3608, oI 1, oA a3648, oA a3653, oU, oU, oU] [(.ref b3666)])
              refine own_astore X3666 (Ls' := #[oI p0, oI p1, oI p2, oI p3, oI p4, oI 3, oI 3, oI 3, oI 1, oI 1, oI 1, oI 0, oA b3425, oA b3427, oA b3430, oA b3434, oI b3441, oI b3444, oI b3447, oA a3448, oA a3486, oA a3543, oA b3425, oA b3427, oA b3430, .val .null, oA a3608, oI 1, oA a3648, oA a3653, oA b3666, oU, oU]) rfl rfl at_433 (pc' := 435) rfl ?_
              refine own_iconst X3666 (v := (1 : Int32)) (by decide) at_435 (pc' := 436) rfl ?_
              refine own_anewarray X3666 (ww 5 rfl) (ww 36 rfl) (ad := "[Ljava/lang/String;") (by decide) (n := 1) (vs := [.null]) (by decide) (by decide) (by decide) rfl (cells' := 25) (slots' := 73) rfl rfl (by decide) (by decide) at_436 (pc' := 439) rfl fun a3672 T3672 h3672 g3672 ge3672 X3672 E3672 V3672 A3672 O3672 => ?_
              have ne3673 : a3648 ≠ a3672 := own_lt_ne V3669.lt g3672
              have ne3674 : a3653 ≠ a3672 := own_lt_ne V3671.lt g3672
              have ne3675 : b3666 ≠ a3672 := own_lt_ne A3666.lt g3672
              have V3676 := V3669.ext E3672
              have A3677 := A3668.ext E3672
              have V3678 := V3671.ext E3672
              have A3679 := A3670.ext E3672
              have A3680 := A3666.ext E3672
              have S3681 := S3667.ext E3672
              refine own_astore X3672 (Ls' := #[oI p0, oI p1, oI p2, oI p3, oI p4, oI 3, oI 3, oI 3, oI 1, oI 1, oI 1, oI 0, oA b3425, oA b3427, oA b3430, oA b3434, oI b3441, oI b3444, oI b3447, oA a3448, oA a3486, oA a3543, oA b3425, oA b3427, oA b3430, .val .null, oA a3608, oI 1, oA a3648, oA a3653, oA b3666, oA a3672, oU]) rfl rfl at_439 (pc' := 441) rfl ?_
              refine own_aload X3672 rfl rfl at_441 (pc' := 443) rfl ?_
              refine own_iconst X3672 (v := (0 : Int32)) (by decide) at_443 (pc' := 444) rfl ?_
              refine own_aload X3672 rfl rfl at_444 (pc' := 446) rfl ?_
              refine own_aastore X3672 V3672 O3672 ge3672 (Or.inr ⟨_, rfl, A3680⟩) (i := 0) (by decide) (by decide) (show 0 < 1 by decide) at_446 (pc' := 447) rfl fun T3682 h3682 X3682 W3682 V3682 => ?_
              have A3683 := A3677.wr W3682
              have V3684 := V3676.other W3682 ne3673
              have A3685 := A3679.wr W3682
              have V3686 := V3678.other W3682 ne3674
              have A3687 := A3680.wr W3682
              have A3688 := A3672.wr W3682
              have O3689 := O3672.wr W3682
              have S3690 := S3681.wr W3682
              replace V3682 : own_Vec Z h3682 a3672 (.object "java/lang/String") [(.ref b3666)] := V3682
              refine own_new X3682 (ww 37 rfl) (ww 38 rfl) (ww 39 rfl) (cells' := 26) (slots' := 78) rfl rfl (by decide) (by decide) at_447 (pc' := 450) rfl fun a3691 T3691 h3691 g3691 ge3691 X3691 E3691 A3691 D3691 => ?_
              have ne3692 : a3648 ≠ a3691 := own_lt_ne V3684.lt g3691
              have ne3693 : a3653 ≠ a3691 := own_lt_ne V3686.lt g3691
              have ne3694 : b3666 ≠ a3691 := own_lt_ne A3687.lt g3691
              have ne3695 : a3672 ≠ a3691 := own_lt_ne V3682.lt g3691
              have V3696 := V3684.ext E3691
              have A3697 := A3683.ext E3691
              have V3698 := V3686.ext E3691
              have A3699 := A3685.ext E3691
              have A3700 := A3687.ext E3691
              have V3701 := V3682.ext E3691
              have A3702 := A3688.ext E3691
              have O3703 := O3689.ext E3691
              have S3704 := S3690.ext E3691
              have F3705 : Fld Z h3691 a3691 "com/example/cladewalk/cladewalk/tree/Tree" "parents" "[I" .null := D3691 (Or.inr (ww 54 rfl)) (ty := (.array .int)) (by decide)
              have F3706 : Fld Z h3691 a3691 "com/example/cladewalk/cladewalk/tree/Tree" "lengths" "[D" .null := D3691 (Or.inr (ww 62 rfl)) (ty := (.array .double)) (by decide)
              have F3707 : Fld Z h3691 a3691 "com/example/cladewalk/cladewalk/tree/Tree" "names" "[Ljava/lang/String;" .null := D3691 (Or.inr (ww 70 rfl)) (ty := (.array (.object "java/lang/String"))) (by decide)
              have F3708 : Fld Z h3691 a3691 "com/example/cladewalk/cladewalk/tree/Tree" "childCounts" "[I" .null := D3691 (Or.inr (ww 72 rfl)) (ty := (.array .int)) (by decide)
              have F3709 : Fld Z h3691 a3691 "com/example/cladewalk/cladewalk/tree/Tree" "tipCount" "I" (.int (0 : Int32)) := D3691 (Or.inr (ww 75 rfl)) (ty := .int) (by decide)
              refine own_dup X3691 rfl at_450 (pc' := 451) rfl ?_
              refine own_aload X3691 rfl rfl at_451 (pc' := 453) rfl ?_
              refine own_aload X3691 rfl rfl at_453 (pc' := 455) rfl ?_
              refine own_aload X3691 rfl rfl at_455 (pc' := 457) rfl ?_
              refine own_special X3691 (own_ti_1 l Z a0 hw a3691 a3648 a3653 a3672 b3666 _ n0 X3691.le ge3691 A3691 F3705 F3706 F3707 F3708 F3709 V3696 V3698 V3701 A3697 A3699 A3702 ne3692.symm ne3693.symm ne3695.symm ) rfl rfl (ww 40 rfl) (ww 41 rfl) (ww 39 rfl) (ww 42 rfl) (by decide) rfl (by decide) (W := 1) (Nat.le_of_eq rfl) (by decide) (cells' := 30) (slots' := 82) rfl rfl (by decide) (by decide) (argsL := [(.ref a3648), (.ref a3653), (.ref a3672)]) (rest := [(.ref a3691)]) (lenOf own_pd13 rfl) rfl rfl at_457 (pc' := 460) rfl ?_
              rintro _ T3710 h3710 X3710 ⟨rfl, ⟨x3710, y3710, F3710a, F3710b, V3710a, V3710b⟩, K3710⟩
              have S3711 := own_Sta.keep1 S3704 K3710 A3691
              have A3712 := A3700.keep K3710
              have A3713 := A3691.keep K3710
              show own_Goal p e below _ T3710 (mkF m 460 #[oI p0, oI p1, oI p2, oI p3, oI p4, oI 3, oI 3, oI 3, oI 1, oI 1, oI 1, oI 0, oA b3425, oA b3427, oA b3430, oA b3434, oI b3441, oI b3444, oI b3447, oA a3448, oA a3486, oA a3543, oA b3425, oA b3427, oA b3430, .val .null, oA a3608, oI 1, oA a3648, oA a3653, oA b3666, oA a3672, oU] [(.ref a3691)])
              refine own_astore X3710 (Ls' := #[oI p0, oI p1, oI p2, oI p3, oI p4, oI 3, oI 3, oI 3, oI 1, oI 1, oI 1, oI 0, oA b3425, oA b3427, oA b3430, oA b3434, oI b3441, oI b3444, oI b3447, oA a3448, oA a3486, oA a3543, oA b3425, oA b3427, oA b3430, .val .null, oA a3608, oI 1, oA a3648, oA a3653, oA b3666, oA a3672, oA a3691]) rfl rfl at_460 (pc' := 462) rfl ?_
              refine own_iload X3710 rfl at_462 (pc' := 464) rfl ?_
              refine own_ifF X3710 (by decide) at_464 (pc' := 467) rfl ?_
              refine own_aload X3710 rfl rfl at_467 (pc' := 469) rfl ?_
              refine own_iconst X3710 (v := (0 : Int32)) (by decide) at_469 (pc' := 470) rfl ?_
              refine own_virtual X3710 (own_name_1_0_1 l Z a0 hw a3691 x3710 y3710 b3666 (0 : Int32) _ n0 X3710.le F3710a F3710b V3710a V3710b (by decide)) (C := "com/example/cladewalk/cladewalk/tree/Tree") rfl (ww 76 rfl) (ww 77 rfl) (ww 79 rfl) (ww 78 rfl) (ww 39 rfl) (ww 80 rfl) (by decide) rfl (by decide) (W := 0) (Nat.le_of_eq rfl) (by decide) (cells' := 30) (slots' := 82) rfl rfl (by decide) (by decide) A3713 (argsL := [(.int (0 : Int32))]) (rest := []) (lenOf own_pd12 rfl) rfl rfl at_470 (pc' := 473) rfl ?_
              rintro _ T3714 h3714 X3714 ⟨rfl, e3714⟩
              subst e3714
              show own_Goal p e below _ T3714 (mkF m 473 #[oI p0, oI p1, oI p2, oI p3, oI p4, oI 3, oI 3, oI 3, oI 1, oI 1, oI 1, oI 0, oA b3425, oA b3427, oA b3430, oA b3434, oI b3441, oI b3444, oI b3447, oA a3448, oA a3486, oA a3543, oA b3425, oA b3427, oA b3430, .val .null, oA a3608, oI 1, oA a3648, oA a3653, oA b3666, oA a3672, oA a3691] [(.ref b3666)])
              refine own_aload X3714 rfl rfl at_473 (pc' := 475) rfl ?_
              refine own_callS X3714 (own_sameA l Z a0 hw b3666 _ n0 X3714.le A3712) (ww 81 rfl) (ww 82 rfl) (ww 2 rfl) (ww 83 rfl) (by decide) rfl (by decide) (W := 0) (Nat.le_of_eq rfl) (by decide) (cells' := 30) (slots' := 82) rfl rfl (by decide) (by decide) (argsL := [(.ref b3666), (.ref b3666)]) (rest := []) (lenOf own_pd11 rfl) rfl rfl at_475 (pc' := 478) rfl ?_
              rintro _ T3715 h3715 X3715 ⟨rfl, e3715⟩
              subst e3715
              show own_Goal p e below _ T3715 (mkF m 478 #[oI p0, oI p1, oI p2, oI p3, oI p4, oI 3, oI 3, oI 3, oI 1, oI 1, oI 1, oI 0, oA b3425, oA b3427, oA b3430, oA b3434, oI b3441, oI b3444, oI b3447, oA a3448, oA a3486, oA a3543, oA b3425, oA b3427, oA b3430, .val .null, oA a3608, oI 1, oA a3648, oA a3653, oA b3666, oA a3672, oA a3691] [(.int (1 : Int32))])
              refine own_ifF X3715 (by decide) at_478 (pc' := 481) rfl ?_
              refine own_iload X3715 rfl at_481 (pc' := 483) rfl ?_
              refine own_ifF X3715 (by decide) at_483 (pc' := 486) rfl ?_
              refine own_iconst X3715 (v := (1 : Int32)) (by decide) at_486 (pc' := 487) rfl ?_
              refine own_goto X3715 at_487 (pc' := 491) (by decide) (by decide) ?_
              exact own_retZ X3715 (by decide) at_491 rfl (by decide) (by decide) rfl
            by_cases c3595 : b3447 = 0
            · -- join
              refine own_ifT X3583 (own_z_eq c3595).1 at_269 (pc' := 277) (by decide) (by decide) ?_
              refine own_aconst_null X3583  at_277 (pc' := 278) rfl ?_
              exact J3595 _ (Or.inl rfl)
            · -- join
              refine own_ifF X3583 (own_z_ne c3595).1 at_269 (pc' := 272) rfl ?_
              refine own_aload X3583 rfl rfl at_272 (pc' := 274) rfl ?_
              refine own_goto X3583 at_274 (pc' := 278) (by decide) (by decide) ?_
              exact J3595 _ (Or.inr rfl)
          by_cases c3447 : i3446 = 0
          · -- join
            refine own_ifT X3434 (own_z_eq c3447).1 at_129 (pc' := 136) (by decide) (by decide) ?_
            refine own_iconst X3434 (v := (0 : Int32)) (by decide) at_136 (pc' := 137) rfl ?_
            exact J3447 _
          · -- join
            refine own_ifF X3434 (own_z_ne c3447).1 at_129 (pc' := 132) rfl ?_
            refine own_iconst X3434 (v := (1 : Int32)) (by decide) at_132 (pc' := 133) rfl ?_
            refine own_goto X3434 at_133 (pc' := 137) (by decide) (by decide) ?_
            exact J3447 _
        by_cases c3444 : i3443 = 0
        · -- join
          refine own_ifT X3434 (own_z_eq c3444).1 at_114 (pc' := 121) (by decide) (by decide) ?_
          refine own_iconst X3434 (v := (0 : Int32)) (by decide) at_121 (pc' := 122) rfl ?_
          exact J3444 _
        · -- join
          refine own_ifF X3434 (own_z_ne c3444).1 at_114 (pc' := 117) rfl ?_
          refine own_iconst X3434 (v := (1 : Int32)) (by decide) at_117 (pc' := 118) rfl ?_
          refine own_goto X3434 at_118 (pc' := 122) (by decide) (by decide) ?_
          exact J3444 _
      by_cases c3441 : i3440 = 0
      · -- join
        refine own_ifT X3434 (own_z_eq c3441).1 at_99 (pc' := 106) (by decide) (by decide) ?_
        refine own_iconst X3434 (v := (0 : Int32)) (by decide) at_106 (pc' := 107) rfl ?_
        exact J3441 _
      · -- join
        refine own_ifF X3434 (own_z_ne c3441).1 at_99 (pc' := 102) rfl ?_
        refine own_iconst X3434 (v := (1 : Int32)) (by decide) at_102 (pc' := 103) rfl ?_
        refine own_goto X3434 at_103 (pc' := 107) (by decide) (by decide) ?_
        exact J3441 _
set_option maxRecDepth 65536 in
set_option maxHeartbeats 40000000 in
theorem comes_1 {Post : Tables → Env → Array Value → State → Outcome → State → Prop} (hpost : ∀ tb e args s v u, (limb_1_1.after args s (.returned v) u = true ∧ limb_1_2.after args s (.returned v) u = true ∧ True) → FrameEnd s (.returned v) u (Jvm.fieldLocs frame_1_writes args s ++ Jvm.arrayLocs frame_1_arrays args s ++ Jvm.staticLocs frame_1_statics s) 72 256 → Post tb e args s (.returned v) u) :
    ArmFor flags0 classFile x code maxLocals ret World_1 tables_1 room_1 Calls_1 rest_1 Pre_1 Post := by
  intro l hfl _ _ p e ha hc hk s m args below hf hA hF happ hP
  obtain ⟨hcalls, hrest, hpre⟩ := hP
  obtain ⟨-, -, -, hnamed, -, -, -, hat⟩ := (Spec.applies_iff hf).mp happ
  obtain ⟨hg, hn⟩ := and_e (Cond.before_iff.mp (show (Jvm.Cond.and given_1 narrow_1).before args s = true from hpre))
  obtain ⟨h1, g0⟩ := and_e hg
  obtain ⟨k0, g1⟩ := and_e g0
  obtain ⟨k1, g2⟩ := and_e g1
  obtain ⟨k2, g3⟩ := and_e g2
  obtain ⟨k3, g4⟩ := and_e g3
  obtain ⟨w0, w1, w2, w3, w4, rfl⟩ : ∃ w0 w1 w2 w3 w4 : Value, args = #[w0, w1, w2, w3, w4] := by
    have hs : args.size = 5 := by simpa [Cond.value, given_1] using h1
    obtain ⟨L⟩ := args
    match L, hs with
    | [w0, w1, w2, w3, w4], _ => exact ⟨w0, w1, w2, w3, w4, rfl⟩
  have hw := fun d (hd : d ∈ tables_1) => atoms_spec (ws := Jvm.Cond.code x code maxLocals ret :: tables_1) hat d (List.mem_cons_of_mem _ hd)
  obtain ⟨p0, e0⟩ := is_v k0
  obtain rfl : w0 = (.int p0) := Option.some.inj e0
  obtain ⟨p1, e1⟩ := is_v k1
  obtain rfl : w1 = (.int p1) := Option.some.inj e1
  obtain ⟨p2, e2⟩ := is_v k2
  obtain rfl : w2 = (.int p2) := Option.some.inj e2
  obtain ⟨p3, e3⟩ := is_v k3
  obtain rfl : w3 = (.int p3) := Option.some.inj e3
  obtain ⟨p4, e4⟩ := is_v g4
  obtain rfl : w4 = (.int p4) := Option.some.inj e4
  obtain ⟨hsets, hown0⟩ := atoms_of _ (rest_1_c_eq ▸ (show rest_1_c.before _ s = true from hrest))
  have n5 := not_v (Cond.before_iff.mp (hsets _ (List.mem_of_getElem? (i := 2) rfl)))
  obtain ⟨cs, e10⟩ := is_v (Cond.before_iff.mp (hsets _ (List.mem_of_getElem? (i := 1) rfl)))
  have S12 : Sta s s.heap "java/lang/String" "COMPACT_STRINGS" "Z" (.int cs) := Sta.start e10 (Or.inl (hsets _ (List.mem_of_getElem? (i := 0) rfl)))
  have hcs : ¬ (cs = (0 : Int32)) := gotF (Cond.eq_ints e10 (Term.int_eval (0))) n5
  obtain ⟨n, o, h1, h2, h3, _, L, rfl, ⟨⟨rfl, -⟩, N⟩, hq⟩ := own_law l s _ hw tables_1 p0 p1 p2 p3 p4 s.heap s.heap.size (Nat.le_refl _) cs S12 hcs p e ha hc hk s m _ below hf ((Spec.applies_iff_loose hf).mp happ).1 ⟨rfl, State.Warmed39.refl s, rfl⟩ trivial
  refine ⟨n, _, h1, h2, h3, hpost _ _ _ _ _ _ ⟨Cond.after_iff.mpr rfl, Cond.after_iff.mpr (eq_i res_at (Term.int_eval (1)) rfl), trivial⟩ ⟨hq.1, hq.2.1, (hq.2.2.sift fun y hy => Or.inr (N y hy)).mono (by decide) (by decide)⟩⟩
theorem main_1_1 : Claimed_1_1 := comes_1 fun _ _ _ _ _ _ h hF => ⟨h.1, hF⟩
theorem main_1_2 : Claimed_1_2 := comes_1 fun _ _ _ _ _ _ h hF => ⟨h.2.1, hF⟩
end Jvm.Pilot.@@N@@
namespace Jvm.Pilot.@@N@@
open Jvm Jvm.ClassFile Sem Op Lib Jvm.Free Jvm.Stand Jvm.Pilot.@@N@@.Jvm.D
/-! MADE BY PROGRAM (witnessworld.py) out of the Statement's table words and the real class files: 21 classes; the members and pool entries that the words name. The judged class is class 1, her method 3. -/
namespace start1
open Jvm.ClassFile
def u (s : String) : CpInfo := .utf8 (stringToUtf16 s)
/-- a pool by its gaps: so many unusable entries, then the entry; so many at the end -/
def gap : Nat → List CpInfo → List CpInfo
  | 0, r => r
  | n + 1, r => .unusable :: gap n r
def poolList (es : List (Nat × CpInfo)) (last : Nat) : List CpInfo := es.foldr (fun e r => gap e.1 (e.2 :: r)) (gap last [])
def pool (es : List (Nat × CpInfo)) (last : Nat) : Array CpInfo := ⟨poolList es last⟩
def fileOf (pool : Array CpInfo) (this : Nat) (attrs : Array Attribute := #[]) (ms : Array MethodInfo := #[]) (fl : Nat := 33) (sup : Nat := 0) (ifs : Array Nat := #[]) (fds : Array FieldInfo := #[]) : ClassFile where
  minorVersion := 0
  majorVersion := 65
  constantPool := pool
  accessFlags := fl
  thisClass := this
  superClass := sup
  interfaces := ifs
  fields := fds
  methods := ms
  attributes := attrs
def plain (name : String) (sup : Option ClassId) : Class where
  name := name
  kind := .ordinary
  loader := none
  accessFlags := 33
  super := sup
  interfaces := #[]
  cf := none
  fields := #[]
  methods := #[]
  instanceTypes := #[]
  staticTypes := #[]
  resolved := #[]
  callSites := []
  init := .initialized
  statics := none
  mirror := none

def pool0 : Array CpInfo := pool [(5, u "<init>"), (0, u "()V"), (1, .class_ 10), (1, u "java/lang/Object"), (85, u "clone"), (0, u "()Ljava/lang/Object;")] 26

def k0c0 : Code := { maxStack := 0, maxLocals := 1, code := object_method_1_code, exceptionTable := #[], attributes := #[] }
def k0m0 : Method := { name := "<init>", desc := "()V", sig := { parameters := [], returnType := none }, accessFlags := 1, code := some k0c0 }
def k0m1 : Method := { name := "clone", desc := "()Ljava/lang/Object;", sig := { parameters := [], returnType := some (.object "java/lang/Object") }, accessFlags := 260, code := none }
/-- java/lang/Object -/
def k0 : Class := { plain "java/lang/Object" none with
  accessFlags := 33
  interfaces := #[]
  cf := some (fileOf pool0 8 #[] #[{ accessFlags := 1, nameIndex := 5, descriptorIndex := 6, attributes := #[] }, { accessFlags := 260, nameIndex := 96, descriptorIndex := 97, attributes := #[] }] 33 0 #[] #[])
  fields := #[]
  methods := #[k0m0, k0m1]
  instanceTypes := #[]
  staticTypes := #[]
  resolved := Array.replicate 124 none
  statics := none }

def pool1 : Array CpInfo := pool [(2, .class_ 4), (1, u "java/lang/Object"), (0, u "<init>"), (0, u "()V"), (0, .class_ 8), (0, u "java/lang/String"), (0, .methodref 7 10), (0, .nameAndType 5 11), (0, u "([C)V"), (0, .methodref 7 13), (0, .nameAndType 14 15), (0, u "equals"), (0, u "(Ljava/lang/Object;)Z"), (0, .methodref 17 18), (0, .class_ 19), (0, .nameAndType 20 21), (0, u "com/example/cladewalk/cladewalk/tree/TreeNamePinLaw"), (0, u "two"), (0, u "(III)Ljava/lang/String;"), (0, .class_ 23), (0, u "com/example/cladewalk/cladewalk/tree/Tree"), (0, .methodref 22 25), (0, .nameAndType 5 26), (0, u "([I[D[Ljava/lang/String;)V"), (0, .methodref 22 28), (0, .nameAndType 29 30), (0, u "name"), (0, u "(I)Ljava/lang/String;"), (0, .methodref 17 32), (0, .nameAndType 33 34), (0, u "same"), (0, u "(Ljava/lang/String;Ljava/lang/String;)Z"), (0, .methodref 7 36), (0, .nameAndType 37 38), (0, u "valueOf"), (0, u "(C)Ljava/lang/String;"), (3, u "law"), (0, u "(IIIII)Z")] 8

def k1m0 : Method := { name := "<init>", desc := "()V", sig := { parameters := [], returnType := none }, accessFlags := 1, code := none }
def k1c1 : Code := { maxStack := 5, maxLocals := 4, code := method_2_code, exceptionTable := #[], attributes := #[] }
def k1m1 : Method := { name := "two", desc := "(III)Ljava/lang/String;", sig := { parameters := [.int, .int, .int], returnType := some (.object "java/lang/String") }, accessFlags := 10, code := some k1c1 }
def k1c2 : Code := { maxStack := 2, maxLocals := 2, code := method_3_code, exceptionTable := #[], attributes := #[] }
def k1m2 : Method := { name := "same", desc := "(Ljava/lang/String;Ljava/lang/String;)Z", sig := { parameters := [(.object "java/lang/String"), (.object "java/lang/String")], returnType := some .boolean }, accessFlags := 10, code := some k1c2 }
def k1c3 : Code := { maxStack := 5, maxLocals := 33, code := code, exceptionTable := #[], attributes := #[] }
def k1m3 : Method := { name := "law", desc := "(IIIII)Z", sig := { parameters := [.int, .int, .int, .int, .int], returnType := some .boolean }, accessFlags := 9, code := some k1c3 }
/-- com/example/cladewalk/cladewalk/tree/TreeNamePinLaw -/
def k1 : Class := { plain "com/example/cladewalk/cladewalk/tree/TreeNamePinLaw" (some 0) with
  accessFlags := 49
  interfaces := #[]
  cf := some (fileOf pool1 17 #[] #[{ accessFlags := 1, nameIndex := 5, descriptorIndex := 6, attributes := #[] }, { accessFlags := 10, nameIndex := 20, descriptorIndex := 21, attributes := #[] }, { accessFlags := 10, nameIndex := 33, descriptorIndex := 34, attributes := #[] }, { accessFlags := 9, nameIndex := 42, descriptorIndex := 43, attributes := #[] }] 49 2 #[] #[])
  fields := #[]
  methods := #[k1m0, k1m1, k1m2, k1m3]
  instanceTypes := #[]
  staticTypes := #[]
  resolved := Array.replicate 52 none
  statics := none }

def pool2 : Array CpInfo := pool [(1, .class_ 2), (0, u "java/io/Serializable"), (0, .class_ 4), (0, u "java/lang/Object")] 2

/-- java/io/Serializable -/
def k2 : Class := { plain "java/io/Serializable" (some 0) with
  accessFlags := 1537
  interfaces := #[]
  cf := some (fileOf pool2 1 #[] #[] 1537 3 #[] #[])
  fields := #[]
  methods := #[]
  instanceTypes := #[]
  staticTypes := #[]
  resolved := Array.replicate 7 none
  statics := none }

def pool3 : Array CpInfo := pool [(1, .class_ 2), (0, u "java/lang/Comparable"), (0, .class_ 4), (0, u "java/lang/Object")] 7

/-- java/lang/Comparable -/
def k3 : Class := { plain "java/lang/Comparable" (some 0) with
  accessFlags := 1537
  interfaces := #[]
  cf := some (fileOf pool3 1 #[] #[] 1537 3 #[] #[])
  fields := #[]
  methods := #[]
  instanceTypes := #[]
  staticTypes := #[]
  resolved := Array.replicate 12 none
  statics := none }

def pool4 : Array CpInfo := pool [(2, .class_ 4), (1, u "java/lang/CharSequence"), (42, .class_ 48), (0, u "java/lang/CharSequence$1CodePointIterator"), (10, .class_ 60), (0, u "java/lang/CharSequence$1CharIterator"), (5, .class_ 67), (0, u "java/lang/Object")] 63

/-- java/lang/CharSequence -/
def k4 : Class := { plain "java/lang/CharSequence" (some 0) with
  accessFlags := 1537
  interfaces := #[]
  cf := some (fileOf pool4 2 #[.nestMembers #[47, 59]] #[] 1537 66 #[] #[])
  fields := #[]
  methods := #[]
  instanceTypes := #[]
  staticTypes := #[]
  resolved := Array.replicate 131 none
  statics := none }

def pool5 : Array CpInfo := pool [(1, .class_ 2), (0, u "java/lang/constant/Constable"), (0, .class_ 4), (0, u "java/lang/Object")] 6

/-- java/lang/constant/Constable -/
def k5 : Class := { plain "java/lang/constant/Constable" (some 0) with
  accessFlags := 1537
  interfaces := #[]
  cf := some (fileOf pool5 1 #[] #[] 1537 3 #[] #[])
  fields := #[]
  methods := #[]
  instanceTypes := #[]
  staticTypes := #[]
  resolved := Array.replicate 11 none
  statics := none }

def pool6 : Array CpInfo := pool [(1, .class_ 2), (0, u "java/lang/constant/ConstantDesc"), (0, .class_ 4), (0, u "java/lang/Object")] 32

/-- java/lang/constant/ConstantDesc -/
def k6 : Class := { plain "java/lang/constant/ConstantDesc" (some 0) with
  accessFlags := 1537
  interfaces := #[]
  cf := some (fileOf pool6 1 #[] #[] 1537 3 #[] #[])
  fields := #[]
  methods := #[]
  instanceTypes := #[]
  staticTypes := #[]
  resolved := Array.replicate 37 none
  statics := none }

def pool7 : Array CpInfo := pool [(1, .methodref 2 3), (0, .class_ 4), (0, .nameAndType 5 6), (0, u "java/lang/Object"), (0, u "<init>"), (0, u "()V"), (2, .fieldref 10 11), (0, .class_ 12), (0, .nameAndType 13 14), (0, u "java/lang/String"), (0, u "value"), (0, u "[B"), (0, .fieldref 10 16), (0, .nameAndType 17 18), (0, u "coder"), (0, u "B"), (2, u "hash"), (0, u "I"), (2, u "hashIsZero"), (0, u "Z"), (0, .methodref 10 28), (0, .nameAndType 5 29), (0, u "([CIILjava/lang/Void;)V"), (8, .fieldref 10 39), (0, .nameAndType 40 26), (0, u "COMPACT_STRINGS"), (1, .class_ 44), (1, u "java/lang/StringUTF16"), (0, u "compress"), (1, .methodref 42 48), (0, .nameAndType 49 50), (0, u "coderFromArrayLen"), (0, u "([BI)B"), (2, u "toBytes"), (53, .class_ 109), (1, u "java/lang/StringLatin1"), (67, .methodref 42 178), (0, .nameAndType 45 179), (0, u "([CII)[B"), (29, .methodref 10 210), (0, .nameAndType 5 211), (0, u "([BB)V"), (157, u "(C)Z"), (173, u "equals"), (29, u "(Ljava/lang/Object;)Z"), (1, .class_ 576), (0, u "java/lang/CharSequence"), (22, u "CASE_INSENSITIVE_ORDER"), (0, u "Ljava/util/Comparator;"), (181, u "valueOf"), (0, u "(C)Ljava/lang/String;"), (226, u "([C)V"), (4, .methodref 107 1016), (0, .nameAndType 1017 369), (0, u "canEncode"), (0, .methodref 107 1019), (0, .nameAndType 53 1020), (0, u "(C)[B"), (80, u "serialPersistentFields"), (0, u "[Ljava/io/ObjectStreamField;"), (0, .class_ 1104), (0, u "java/lang/String$CaseInsensitiveComparator"), (1, .class_ 1107), (0, u "java/io/Serializable"), (0, .class_ 1109), (0, u "java/lang/Comparable"), (0, .class_ 1111), (0, u "java/lang/constant/Constable"), (0, .class_ 1113), (0, u "java/lang/constant/ConstantDesc"), (2, u "serialVersionUID"), (0, u "J"), (3, u "REPL"), (0, u "C"), (2, u "LATIN1"), (1, u "UTF16")] 323

def k7m0 : Method := { name := "<init>", desc := "()V", sig := { parameters := [], returnType := none }, accessFlags := 1, code := none }
def k7c1 : Code := { maxStack := 5, maxLocals := 2, code := jdk_42_method_3_code, exceptionTable := #[], attributes := #[] }
def k7m1 : Method := { name := "<init>", desc := "([C)V", sig := { parameters := [(.array .char)], returnType := none }, accessFlags := 1, code := some k7c1 }
def k7c2 : Code := { maxStack := 2, maxLocals := 3, code := jdk_42_method_66_code, exceptionTable := #[], attributes := #[] }
def k7m2 : Method := { name := "equals", desc := "(Ljava/lang/Object;)Z", sig := { parameters := [(.object "java/lang/Object")], returnType := some .boolean }, accessFlags := 1, code := some k7c2 }
def k7c3 : Code := { maxStack := 4, maxLocals := 1, code := jdk_42_method_139_code, exceptionTable := #[], attributes := #[] }
def k7m3 : Method := { name := "valueOf", desc := "(C)Ljava/lang/String;", sig := { parameters := [.char], returnType := some (.object "java/lang/String") }, accessFlags := 9, code := some k7c3 }
def k7c4 : Code := { maxStack := 4, maxLocals := 6, code := jdk_42_method_149_code, exceptionTable := #[], attributes := #[] }
def k7m4 : Method := { name := "<init>", desc := "([CIILjava/lang/Void;)V", sig := { parameters := [(.array .char), .int, .int, (.object "java/lang/Void")], returnType := none }, accessFlags := 2, code := some k7c4 }
def k7c5 : Code := { maxStack := 2, maxLocals := 3, code := jdk_42_method_151_code, exceptionTable := #[], attributes := #[] }
def k7m5 : Method := { name := "<init>", desc := "([BB)V", sig := { parameters := [(.array .byte), .byte], returnType := none }, accessFlags := 0, code := some k7c5 }
/-- java/lang/String -/
def k7 : Class := { plain "java/lang/String" (some 0) with
  accessFlags := 49
  interfaces := #[2, 3, 4, 5, 6]
  cf := some (fileOf pool7 10 #[.nestMembers #[1103]] #[{ accessFlags := 1, nameIndex := 5, descriptorIndex := 6, attributes := #[] }, { accessFlags := 1, nameIndex := 5, descriptorIndex := 1010, attributes := #[] }, { accessFlags := 1, nameIndex := 543, descriptorIndex := 573, attributes := #[] }, { accessFlags := 9, nameIndex := 782, descriptorIndex := 783, attributes := #[] }, { accessFlags := 2, nameIndex := 5, descriptorIndex := 29, attributes := #[] }, { accessFlags := 0, nameIndex := 5, descriptorIndex := 211, attributes := #[] }] 49 2 #[1106, 1108, 575, 1110, 1112] #[{ accessFlags := 18, nameIndex := 13, descriptorIndex := 14, attributes := #[] }, { accessFlags := 18, nameIndex := 17, descriptorIndex := 18, attributes := #[] }, { accessFlags := 2, nameIndex := 21, descriptorIndex := 22, attributes := #[] }, { accessFlags := 2, nameIndex := 25, descriptorIndex := 26, attributes := #[] }, { accessFlags := 26, nameIndex := 1116, descriptorIndex := 1117, attributes := #[] }, { accessFlags := 24, nameIndex := 40, descriptorIndex := 26, attributes := #[] }, { accessFlags := 26, nameIndex := 1101, descriptorIndex := 1102, attributes := #[] }, { accessFlags := 26, nameIndex := 1121, descriptorIndex := 1122, attributes := #[] }, { accessFlags := 25, nameIndex := 599, descriptorIndex := 600, attributes := #[] }, { accessFlags := 24, nameIndex := 1125, descriptorIndex := 18, attributes := #[] }, { accessFlags := 24, nameIndex := 1127, descriptorIndex := 18, attributes := #[] }])
  fields := #[{ name := "value", type := (.array .byte), accessFlags := 18, slot := 0, constantValue := 0 }, { name := "coder", type := .byte, accessFlags := 18, slot := 1, constantValue := 0 }, { name := "hash", type := .int, accessFlags := 2, slot := 2, constantValue := 0 }, { name := "hashIsZero", type := .boolean, accessFlags := 2, slot := 3, constantValue := 0 }, { name := "serialVersionUID", type := .long, accessFlags := 26, slot := 0, constantValue := 0 }, { name := "COMPACT_STRINGS", type := .boolean, accessFlags := 24, slot := 1, constantValue := 0 }, { name := "serialPersistentFields", type := (.array (.object "java/io/ObjectStreamField")), accessFlags := 26, slot := 2, constantValue := 0 }, { name := "REPL", type := .char, accessFlags := 26, slot := 3, constantValue := 0 }, { name := "CASE_INSENSITIVE_ORDER", type := (.object "java/util/Comparator"), accessFlags := 25, slot := 4, constantValue := 0 }, { name := "LATIN1", type := .byte, accessFlags := 24, slot := 5, constantValue := 0 }, { name := "UTF16", type := .byte, accessFlags := 24, slot := 6, constantValue := 0 }]
  methods := #[k7m0, k7m1, k7m2, k7m3, k7m4, k7m5]
  instanceTypes := #[(.array .byte), .byte, .int, .boolean]
  staticTypes := #[.long, .boolean, (.array (.object "java/io/ObjectStreamField")), .char, (.object "java/util/Comparator"), .byte, .byte]
  resolved := Array.replicate 1451 none
  statics := some 0 }

def pool8 : Array CpInfo := pool [(6, .class_ 8), (1, u "java/lang/Object"), (0, u "<init>"), (0, u "()V"), (1, .class_ 14), (1, u "java/lang/StringUTF16"), (31, u "$assertionsDisabled"), (0, u "Z"), (13, u "HI_BYTE_SHIFT"), (0, u "I"), (2, u "LO_BYTE_SHIFT"), (49, .methodref 12 116), (0, .nameAndType 117 118), (0, u "compress"), (0, u "([CI[BII)I"), (3, u "([CII)[B"), (138, u "coderFromArrayLen"), (0, u "([BI)B"), (106, .class_ 371), (1, u "java/lang/StringUTF16$LinesSpliterator"), (58, u "MAX_LENGTH"), (196, .class_ 628), (0, u "java/lang/StringUTF16$CodePointsSpliterator"), (0, .class_ 630), (0, u "java/lang/StringUTF16$CharsSpliterator")] 4

def k8m0 : Method := { name := "<init>", desc := "()V", sig := { parameters := [], returnType := none }, accessFlags := 0, code := none }
def k8c1 : Code := { maxStack := 2, maxLocals := 2, code := jdk_52_method_15_code, exceptionTable := #[], attributes := #[] }
def k8m1 : Method := { name := "coderFromArrayLen", desc := "([BI)B", sig := { parameters := [(.array .byte), .int], returnType := some .byte }, accessFlags := 8, code := some k8c1 }
def k8c2 : Code := { maxStack := 5, maxLocals := 6, code := jdk_52_method_16_code, exceptionTable := #[], attributes := #[] }
def k8m2 : Method := { name := "compress", desc := "([CII)[B", sig := { parameters := [(.array .char), .int, .int], returnType := some (.array .byte) }, accessFlags := 9, code := some k8c2 }
def k8c3 : Code := { maxStack := 3, maxLocals := 7, code := jdk_52_method_21_code, exceptionTable := #[], attributes := #[] }
def k8m3 : Method := { name := "compress", desc := "([CI[BII)I", sig := { parameters := [(.array .char), .int, (.array .byte), .int, .int], returnType := some .int }, accessFlags := 9, code := some k8c3 }
/-- java/lang/StringUTF16 -/
def k8 : Class := { plain "java/lang/StringUTF16" (some 0) with
  accessFlags := 48
  interfaces := #[]
  cf := some (fileOf pool8 12 #[.nestMembers #[627, 629, 369]] #[{ accessFlags := 0, nameIndex := 9, descriptorIndex := 10, attributes := #[] }, { accessFlags := 8, nameIndex := 261, descriptorIndex := 262, attributes := #[] }, { accessFlags := 9, nameIndex := 117, descriptorIndex := 122, attributes := #[] }, { accessFlags := 9, nameIndex := 117, descriptorIndex := 118, attributes := #[] }] 48 6 #[] #[{ accessFlags := 26, nameIndex := 61, descriptorIndex := 62, attributes := #[] }, { accessFlags := 26, nameIndex := 65, descriptorIndex := 62, attributes := #[] }, { accessFlags := 24, nameIndex := 430, descriptorIndex := 62, attributes := #[] }, { accessFlags := 4120, nameIndex := 46, descriptorIndex := 47, attributes := #[] }])
  fields := #[{ name := "HI_BYTE_SHIFT", type := .int, accessFlags := 26, slot := 0, constantValue := 0 }, { name := "LO_BYTE_SHIFT", type := .int, accessFlags := 26, slot := 1, constantValue := 0 }, { name := "MAX_LENGTH", type := .int, accessFlags := 24, slot := 2, constantValue := 0 }, { name := "$assertionsDisabled", type := .boolean, accessFlags := 4120, slot := 3, constantValue := 0 }]
  methods := #[k8m0, k8m1, k8m2, k8m3]
  instanceTypes := #[]
  staticTypes := #[.int, .int, .int, .boolean]
  resolved := Array.replicate 635 none
  statics := none }

def pool9 : Array CpInfo := pool [(1, .methodref 2 3), (0, .class_ 4), (0, .nameAndType 5 6), (0, u "java/lang/Object"), (0, u "<init>"), (0, u "()V"), (7, .methodref 15 16), (0, .class_ 17), (0, .nameAndType 18 19), (0, u "[I"), (0, u "clone"), (0, u "()Ljava/lang/Object;"), (0, .fieldref 21 22), (0, .class_ 23), (0, .nameAndType 24 17), (0, u "com/example/cladewalk/cladewalk/tree/Tree"), (0, u "parents"), (0, .methodref 26 16), (0, .class_ 27), (0, u "[D"), (0, .fieldref 21 29), (0, .nameAndType 30 27), (0, u "lengths"), (0, .methodref 32 16), (0, .class_ 33), (0, u "[Ljava/lang/String;"), (0, .fieldref 21 35), (0, .nameAndType 36 33), (0, u "names"), (0, .fieldref 21 38), (0, .nameAndType 39 17), (0, u "childCounts"), (6, .double 9218868437227405312), (6, u "(I)Ljava/lang/String;"), (0, .fieldref 21 55), (0, .nameAndType 56 57), (0, u "tipCount"), (0, u "I"), (18, u "([I[D[Ljava/lang/String;)V"), (10, u "name")] 29

def k9c0 : Code := { maxStack := 5, maxLocals := 9, code := prog_20_method_1_code, exceptionTable := #[], attributes := #[] }
def k9m0 : Method := { name := "<init>", desc := "([I[D[Ljava/lang/String;)V", sig := { parameters := [(.array .int), (.array .double), (.array (.object "java/lang/String"))], returnType := none }, accessFlags := 1, code := some k9c0 }
def k9c1 : Code := { maxStack := 2, maxLocals := 2, code := prog_20_method_9_code, exceptionTable := #[], attributes := #[] }
def k9m1 : Method := { name := "name", desc := "(I)Ljava/lang/String;", sig := { parameters := [.int], returnType := some (.object "java/lang/String") }, accessFlags := 1, code := some k9c1 }
/-- com/example/cladewalk/cladewalk/tree/Tree -/
def k9 : Class := { plain "com/example/cladewalk/cladewalk/tree/Tree" (some 0) with
  accessFlags := 33
  interfaces := #[]
  cf := some (fileOf pool9 21 #[] #[{ accessFlags := 1, nameIndex := 5, descriptorIndex := 76, attributes := #[] }, { accessFlags := 1, nameIndex := 87, descriptorIndex := 53, attributes := #[] }] 33 2 #[] #[{ accessFlags := 18, nameIndex := 24, descriptorIndex := 17, attributes := #[] }, { accessFlags := 18, nameIndex := 30, descriptorIndex := 27, attributes := #[] }, { accessFlags := 18, nameIndex := 39, descriptorIndex := 17, attributes := #[] }, { accessFlags := 18, nameIndex := 36, descriptorIndex := 33, attributes := #[] }, { accessFlags := 18, nameIndex := 56, descriptorIndex := 57, attributes := #[] }])
  fields := #[{ name := "parents", type := (.array .int), accessFlags := 18, slot := 0, constantValue := 0 }, { name := "lengths", type := (.array .double), accessFlags := 18, slot := 1, constantValue := 0 }, { name := "childCounts", type := (.array .int), accessFlags := 18, slot := 2, constantValue := 0 }, { name := "names", type := (.array (.object "java/lang/String")), accessFlags := 18, slot := 3, constantValue := 0 }, { name := "tipCount", type := .int, accessFlags := 18, slot := 4, constantValue := 0 }]
  methods := #[k9m0, k9m1]
  instanceTypes := #[(.array .int), (.array .double), (.array .int), (.array (.object "java/lang/String")), .int]
  staticTypes := #[]
  resolved := Array.replicate 117 none
  statics := none }

def pool10 : Array CpInfo := pool [(1, .class_ 2), (0, u "java/lang/Cloneable"), (0, .class_ 4), (0, u "java/lang/Object")] 2

/-- java/lang/Cloneable -/
def k10 : Class := { plain "java/lang/Cloneable" (some 0) with
  accessFlags := 1537
  interfaces := #[]
  cf := some (fileOf pool10 1 #[] #[] 1537 3 #[] #[])
  fields := #[]
  methods := #[]
  instanceTypes := #[]
  staticTypes := #[]
  resolved := Array.replicate 7 none
  statics := none }

def pool11 : Array CpInfo := pool [(4, .class_ 6), (1, u "java/lang/Object"), (0, u "<init>"), (0, u "()V"), (5, .class_ 16), (1, u "java/lang/StringLatin1"), (73, u "canEncode"), (14, u "(C)Z"), (15, u "$assertionsDisabled"), (0, u "Z"), (98, .class_ 223), (1, u "java/lang/StringLatin1$LinesSpliterator"), (156, u "toBytes"), (1, u "(C)[B"), (7, .class_ 391), (0, u "java/lang/StringLatin1$CharsSpliterator")] 3

def k11m0 : Method := { name := "<init>", desc := "()V", sig := { parameters := [], returnType := none }, accessFlags := 0, code := none }
def k11c1 : Code := { maxStack := 2, maxLocals := 1, code := jdk_43_method_3_code, exceptionTable := #[], attributes := #[] }
def k11m1 : Method := { name := "canEncode", desc := "(C)Z", sig := { parameters := [.char], returnType := some .boolean }, accessFlags := 9, code := some k11c1 }
def k11c2 : Code := { maxStack := 4, maxLocals := 1, code := jdk_43_method_46_code, exceptionTable := #[], attributes := #[] }
def k11m2 : Method := { name := "toBytes", desc := "(C)[B", sig := { parameters := [.char], returnType := some (.array .byte) }, accessFlags := 9, code := some k11c2 }
/-- java/lang/StringLatin1 -/
def k11 : Class := { plain "java/lang/StringLatin1" (some 0) with
  accessFlags := 48
  interfaces := #[]
  cf := some (fileOf pool11 14 #[.nestMembers #[390, 221]] #[{ accessFlags := 0, nameIndex := 7, descriptorIndex := 8, attributes := #[] }, { accessFlags := 9, nameIndex := 90, descriptorIndex := 105, attributes := #[] }, { accessFlags := 9, nameIndex := 380, descriptorIndex := 382, attributes := #[] }] 48 4 #[] #[{ accessFlags := 4120, nameIndex := 121, descriptorIndex := 122, attributes := #[] }])
  fields := #[{ name := "$assertionsDisabled", type := .boolean, accessFlags := 4120, slot := 0, constantValue := 0 }]
  methods := #[k11m0, k11m1, k11m2]
  instanceTypes := #[]
  staticTypes := #[.boolean]
  resolved := Array.replicate 395 none
  statics := none }

def pool12 : Array CpInfo := pool [(2, .class_ 4), (1, u "java/lang/Object"), (0, u "<init>"), (0, u "()V"), (17, .class_ 26), (1, u "jdk/internal/util/Preconditions"), (28, .class_ 56), (0, u "jdk/internal/util/Preconditions$4"), (57, .class_ 115), (0, u "jdk/internal/util/Preconditions$1"), (7, u "SIOOBE_FORMATTER"), (0, u "Ljava/util/function/BiFunction;"), (0, .class_ 126), (0, u "jdk/internal/util/Preconditions$2"), (3, u "AIOOBE_FORMATTER"), (0, .class_ 132), (0, u "jdk/internal/util/Preconditions$3"), (3, u "IOOBE_FORMATTER")] 57

def k12m0 : Method := { name := "<init>", desc := "()V", sig := { parameters := [], returnType := none }, accessFlags := 1, code := none }
/-- jdk/internal/util/Preconditions -/
def k12 : Class := { plain "jdk/internal/util/Preconditions" (some 0) with
  accessFlags := 33
  interfaces := #[]
  cf := some (fileOf pool12 24 #[.nestMembers #[55, 131, 125, 114]] #[{ accessFlags := 1, nameIndex := 5, descriptorIndex := 6, attributes := #[] }] 33 2 #[] #[{ accessFlags := 25, nameIndex := 123, descriptorIndex := 124, attributes := #[] }, { accessFlags := 25, nameIndex := 130, descriptorIndex := 124, attributes := #[] }, { accessFlags := 25, nameIndex := 136, descriptorIndex := 124, attributes := #[] }])
  fields := #[{ name := "SIOOBE_FORMATTER", type := (.object "java/util/function/BiFunction"), accessFlags := 25, slot := 0, constantValue := 0 }, { name := "AIOOBE_FORMATTER", type := (.object "java/util/function/BiFunction"), accessFlags := 25, slot := 1, constantValue := 0 }, { name := "IOOBE_FORMATTER", type := (.object "java/util/function/BiFunction"), accessFlags := 25, slot := 2, constantValue := 0 }]
  methods := #[k12m0]
  instanceTypes := #[]
  staticTypes := #[(.object "java/util/function/BiFunction"), (.object "java/util/function/BiFunction"), (.object "java/util/function/BiFunction")]
  resolved := Array.replicate 194 none
  statics := some 1 }

def pool13 : Array CpInfo := pool [(9, u "<init>"), (6, .class_ 18), (1, u "java/lang/Object"), (0, u "()V"), (1, .class_ 23), (1, u "jdk/internal/util/ArraysSupport"), (0, u "LOG2_ARRAY_LONG_INDEX_SCALE"), (0, u "I"), (2, u "U"), (0, u "Ljdk/internal/misc/Unsafe;"), (8, u "BIG_ENDIAN"), (0, u "Z"), (8, u "LOG2_BYTE_BIT_SIZE"), (4, u "LOG2_ARRAY_INT_INDEX_SCALE"), (54, u "JLA"), (0, u "Ljdk/internal/access/JavaLangAccess;"), (11, u "LOG2_ARRAY_BOOLEAN_INDEX_SCALE"), (9, u "LOG2_ARRAY_BYTE_INDEX_SCALE"), (5, u "LOG2_ARRAY_CHAR_INDEX_SCALE"), (5, u "LOG2_ARRAY_SHORT_INDEX_SCALE"), (18, u "LOG2_ARRAY_FLOAT_INDEX_SCALE"), (24, u "LOG2_ARRAY_DOUBLE_INDEX_SCALE"), (89, u "T_BOOLEAN"), (2, u "T_CHAR"), (1, u "T_FLOAT"), (1, u "T_DOUBLE"), (1, u "T_BYTE"), (1, u "T_SHORT"), (1, u "T_INT"), (1, u "T_LONG"), (1, u "SOFT_MAX_ARRAY_LENGTH")] 83

def k13m0 : Method := { name := "<init>", desc := "()V", sig := { parameters := [], returnType := none }, accessFlags := 2, code := none }
/-- jdk/internal/util/ArraysSupport -/
def k13 : Class := { plain "jdk/internal/util/ArraysSupport" (some 0) with
  accessFlags := 33
  interfaces := #[]
  cf := some (fileOf pool13 21 #[] #[{ accessFlags := 2, nameIndex := 9, descriptorIndex := 19, attributes := #[] }] 33 16 #[] #[{ accessFlags := 24, nameIndex := 28, descriptorIndex := 29, attributes := #[] }, { accessFlags := 26, nameIndex := 38, descriptorIndex := 39, attributes := #[] }, { accessFlags := 25, nameIndex := 121, descriptorIndex := 25, attributes := #[] }, { accessFlags := 25, nameIndex := 131, descriptorIndex := 25, attributes := #[] }, { accessFlags := 25, nameIndex := 137, descriptorIndex := 25, attributes := #[] }, { accessFlags := 25, nameIndex := 143, descriptorIndex := 25, attributes := #[] }, { accessFlags := 25, nameIndex := 53, descriptorIndex := 25, attributes := #[] }, { accessFlags := 25, nameIndex := 24, descriptorIndex := 25, attributes := #[] }, { accessFlags := 25, nameIndex := 162, descriptorIndex := 25, attributes := #[] }, { accessFlags := 25, nameIndex := 187, descriptorIndex := 25, attributes := #[] }, { accessFlags := 26, nameIndex := 48, descriptorIndex := 25, attributes := #[] }, { accessFlags := 25, nameIndex := 277, descriptorIndex := 25, attributes := #[] }, { accessFlags := 25, nameIndex := 280, descriptorIndex := 25, attributes := #[] }, { accessFlags := 25, nameIndex := 282, descriptorIndex := 25, attributes := #[] }, { accessFlags := 25, nameIndex := 284, descriptorIndex := 25, attributes := #[] }, { accessFlags := 25, nameIndex := 286, descriptorIndex := 25, attributes := #[] }, { accessFlags := 25, nameIndex := 288, descriptorIndex := 25, attributes := #[] }, { accessFlags := 25, nameIndex := 290, descriptorIndex := 25, attributes := #[] }, { accessFlags := 25, nameIndex := 292, descriptorIndex := 25, attributes := #[] }, { accessFlags := 26, nameIndex := 108, descriptorIndex := 109, attributes := #[] }, { accessFlags := 25, nameIndex := 294, descriptorIndex := 25, attributes := #[] }])
  fields := #[{ name := "U", type := (.object "jdk/internal/misc/Unsafe"), accessFlags := 24, slot := 0, constantValue := 0 }, { name := "BIG_ENDIAN", type := .boolean, accessFlags := 26, slot := 1, constantValue := 0 }, { name := "LOG2_ARRAY_BOOLEAN_INDEX_SCALE", type := .int, accessFlags := 25, slot := 2, constantValue := 0 }, { name := "LOG2_ARRAY_BYTE_INDEX_SCALE", type := .int, accessFlags := 25, slot := 3, constantValue := 0 }, { name := "LOG2_ARRAY_CHAR_INDEX_SCALE", type := .int, accessFlags := 25, slot := 4, constantValue := 0 }, { name := "LOG2_ARRAY_SHORT_INDEX_SCALE", type := .int, accessFlags := 25, slot := 5, constantValue := 0 }, { name := "LOG2_ARRAY_INT_INDEX_SCALE", type := .int, accessFlags := 25, slot := 6, constantValue := 0 }, { name := "LOG2_ARRAY_LONG_INDEX_SCALE", type := .int, accessFlags := 25, slot := 7, constantValue := 0 }, { name := "LOG2_ARRAY_FLOAT_INDEX_SCALE", type := .int, accessFlags := 25, slot := 8, constantValue := 0 }, { name := "LOG2_ARRAY_DOUBLE_INDEX_SCALE", type := .int, accessFlags := 25, slot := 9, constantValue := 0 }, { name := "LOG2_BYTE_BIT_SIZE", type := .int, accessFlags := 26, slot := 10, constantValue := 0 }, { name := "T_BOOLEAN", type := .int, accessFlags := 25, slot := 11, constantValue := 0 }, { name := "T_CHAR", type := .int, accessFlags := 25, slot := 12, constantValue := 0 }, { name := "T_FLOAT", type := .int, accessFlags := 25, slot := 13, constantValue := 0 }, { name := "T_DOUBLE", type := .int, accessFlags := 25, slot := 14, constantValue := 0 }, { name := "T_BYTE", type := .int, accessFlags := 25, slot := 15, constantValue := 0 }, { name := "T_SHORT", type := .int, accessFlags := 25, slot := 16, constantValue := 0 }, { name := "T_INT", type := .int, accessFlags := 25, slot := 17, constantValue := 0 }, { name := "T_LONG", type := .int, accessFlags := 25, slot := 18, constantValue := 0 }, { name := "JLA", type := (.object "jdk/internal/access/JavaLangAccess"), accessFlags := 26, slot := 19, constantValue := 0 }, { name := "SOFT_MAX_ARRAY_LENGTH", type := .int, accessFlags := 25, slot := 20, constantValue := 0 }]
  methods := #[k13m0]
  instanceTypes := #[]
  staticTypes := #[(.object "jdk/internal/misc/Unsafe"), .boolean, .int, .int, .int, .int, .int, .int, .int, .int, .int, .int, .int, .int, .int, .int, .int, .int, .int, (.object "jdk/internal/access/JavaLangAccess"), .int]
  resolved := Array.replicate 378 none
  statics := none }

/-- the primitive byte -/
def k14 : Class := { plain "byte" none with kind := .primitive 'B', accessFlags := 0x411 }
/-- [B -/
def k15 : Class := { plain "[B" (some 0) with kind := .array 14 .byte, interfaces := #[10, 2], accessFlags := 1041 }

/-- the primitive char -/
def k16 : Class := { plain "char" none with kind := .primitive 'C', accessFlags := 0x411 }
/-- [C -/
def k17 : Class := { plain "[C" (some 0) with kind := .array 16 .char, interfaces := #[10, 2], accessFlags := 1041 }

/-- the primitive int -/
def k18 : Class := { plain "int" none with kind := .primitive 'I', accessFlags := 0x411 }
/-- [I -/
def k19 : Class := { plain "[I" (some 0) with kind := .array 18 .int, interfaces := #[10, 2], accessFlags := 1041 }

/-- [Ljava/lang/String; -/
def k20 : Class := { plain "[Ljava/lang/String;" (some 0) with kind := .array 7 (.object "java/lang/String"), interfaces := #[10, 2], accessFlags := 1041 }

def heap : Heap := #[{ cls := 7, slots := #[.long 0, .int 1, .null, .int 0, .null, .int 0, .int 0], vm := .statics 7 },
  { cls := 12, slots := #[.null, .null, .null], vm := .statics 12 }]
/-- the primitive double -/
def k21 : Class := { plain "double" none with kind := .primitive 'D', accessFlags := 0x411 }
/-- [D -/
def k22 : Class := { plain "[D" (some 0) with kind := .array 21 .double, interfaces := #[10, 2], accessFlags := 1041 }

def classes : Array Class := #[k0, k1, k2, k3, k4, k5, k6, k7, k8, k9, k10, k11, k12, k13, k14, k15, k16, k17, k18, k19, k20, k21, k22]
def interned : List (Array UInt16 × Addr) := []
def slotsUsed : Nat := 10
def theMethod : MethodId := ⟨1, 3⟩
def args0 : Array Value := #[.int 5, .int 6, .int 7, .int 8, .int 9]
def aboutOver (below : List Frame) : State where
  vm := { classes := classes, interned := interned.toArray }
  heap := heap
  slotsUsed := slotsUsed
  threads := #[{ frames := .invoking theMethod args0 :: below }]
def below0 : List Frame := [.native { method := ⟨0, 0⟩, args := #[] }]
def about1 : State := aboutOver below0
def p0 : Program := .bare "" "" ""
def e0 : Env := launch0.env 0 0 0
theorem w_frames : about1.frames = Frame.invoking theMethod args0 :: below0 := rfl
set_option maxRecDepth 65536 in
theorem w_args : argsFit about1.vm theMethod args0 = true := by decide +kernel
set_option maxRecDepth 65536 in
theorem w_heap : heapFits about1 = true := by decide +kernel
set_option maxRecDepth 65536 in
theorem w_runnable : about1.curStatus? = some .runnable := by decide +kernel
set_option maxRecDepth 65536 in
theorem w_alone : about1.alone = true := by decide +kernel
set_option maxRecDepth 65536 in
theorem w_named : about1.methodNamed? x = some theMethod := by decide +kernel
set_option maxRecDepth 65536 in
theorem w_hears : about1.hears theMethod below0 = true := by decide +kernel
set_option maxRecDepth 65536 in
theorem w_ripe : about1.ripe theMethod args0 below0 = true := by decide +kernel
theorem w_running : about1.status = .running := rfl
set_option maxRecDepth 65536 in
theorem w_room : about1.hasRoom e0.platform room_1 = true :=
  launch0.hasRoom_least _ room_1 (by decide +kernel) (by decide +kernel) (by decide +kernel) (by decide +kernel) (by decide +kernel) (by decide +kernel)
theorem allAtoms_all (ts : List Jvm.Cond) (a : Array Jvm.Value) (st : Jvm.State) : (allAtoms ts).before a st = ts.all (fun c => c.before a st) := by
  induction ts with
  | nil => rfl
  | cons c t ih =>
    show (Jvm.Cond.and c (allAtoms t)).before a st = _
    rw [Jvm.Cond.before_and, ih, List.all_cons]
def words1 : List Jvm.Cond := Jvm.Cond.code x code maxLocals ret :: tables_1
/-- a 'code' word, met by the world's own term for the bytes: nothing is compared byte by byte -/
theorem code_word {y : MethodName} {bytes : ByteArray} {mx : Nat} {rt : Option FieldType} {a : Array Value} {s : State} {m : MethodId} {meth : Method} {c : Code} (h1 : s.methodNamed? y = some m) (h2 : s.vm.method? m = some meth) (h3 : meth.code = some c) (h4 : c.code = bytes)
    (h5 : (c.maxLocals == mx && c.exceptionTable.isEmpty && decide (c.maxStack ≤ mostOperands) && decide (meth.sig.returnType = rt) && !meth.locks && decide (parseMethodDescriptor y.desc = some meth.sig)) = true) : (Jvm.Cond.code y bytes mx rt).before a s = true := by
  simp only [Bool.and_eq_true, beq_iff_eq, Bool.not_eq_true', decide_eq_true_eq] at h5
  obtain ⟨⟨⟨⟨⟨g1, g2⟩, g3⟩, g4⟩, g5⟩, g6⟩ := h5
  simp [Cond.before, Cond.holds, Cond.value, h1, h2, h3, h4, g1, g2, g3, g4, g5, g6]
def isCode : Jvm.Cond → Bool
  | .code _ _ _ _ => true
  | _ => false
theorem all_split {L : List Jvm.Cond} {P : Jvm.Cond → Bool} (h1 : L.all (fun c => isCode c || P c) = true) (h2 : ∀ c ∈ L.filter isCode, P c = true) : L.all P = true := by
  refine List.all_eq_true.mpr fun c hc => ?_
  have h := List.all_eq_true.mp h1 c hc
  rcases Bool.eq_false_or_eq_true (isCode c) with hi | hi
  · exact h2 c (List.mem_filter.mpr ⟨hc, hi⟩)
  · simpa [hi] using h
set_option maxRecDepth 65536 in
theorem w_c0 : (Jvm.Cond.code x code maxLocals ret).before args0 about1 = true := code_word (m := ⟨1, 3⟩) (meth := k1m3) (c := k1c3) (by decide +kernel) rfl rfl rfl (by decide +kernel)
set_option maxRecDepth 65536 in
theorem w_c1 : (Jvm.Cond.code ({ cls := "com/example/cladewalk/cladewalk/tree/TreeNamePinLaw", name := "two", desc := "(III)Ljava/lang/String;" } : Jvm.MethodName) method_2_code (4 : Nat) (Option.some (Jvm.ClassFile.FieldType.object "java/lang/String"))).before args0 about1 = true := code_word (m := ⟨1, 1⟩) (meth := k1m1) (c := k1c1) (by decide +kernel) rfl rfl rfl (by decide +kernel)
set_option maxRecDepth 65536 in
theorem w_c2 : (Jvm.Cond.code ({ cls := "java/lang/String", name := "<init>", desc := "([C)V" } : Jvm.MethodName) jdk_42_method_3_code (2 : Nat) (Option.none : Option Jvm.ClassFile.FieldType)).before args0 about1 = true := code_word (m := ⟨7, 1⟩) (meth := k7m1) (c := k7c1) (by decide +kernel) rfl rfl rfl (by decide +kernel)
set_option maxRecDepth 65536 in
theorem w_c3 : (Jvm.Cond.code ({ cls := "java/lang/String", name := "<init>", desc := "([CIILjava/lang/Void;)V" } : Jvm.MethodName) jdk_42_method_149_code (6 : Nat) (Option.none : Option Jvm.ClassFile.FieldType)).before args0 about1 = true := code_word (m := ⟨7, 4⟩) (meth := k7m4) (c := k7c4) (by decide +kernel) rfl rfl rfl (by decide +kernel)
set_option maxRecDepth 65536 in
theorem w_c4 : (Jvm.Cond.code ({ cls := "java/lang/Object", name := "<init>", desc := "()V" } : Jvm.MethodName) object_method_1_code (1 : Nat) (Option.none : Option Jvm.ClassFile.FieldType)).before args0 about1 = true := code_word (m := ⟨0, 0⟩) (meth := k0m0) (c := k0c0) (by decide +kernel) rfl rfl rfl (by decide +kernel)
set_option maxRecDepth 65536 in
theorem w_c5 : (Jvm.Cond.code ({ cls := "java/lang/StringUTF16", name := "compress", desc := "([CII)[B" } : Jvm.MethodName) jdk_52_method_16_code (6 : Nat) (Option.some (Jvm.ClassFile.FieldType.array Jvm.ClassFile.FieldType.byte))).before args0 about1 = true := code_word (m := ⟨8, 2⟩) (meth := k8m2) (c := k8c2) (by decide +kernel) rfl rfl rfl (by decide +kernel)
set_option maxRecDepth 65536 in
theorem w_c6 : (Jvm.Cond.code ({ cls := "java/lang/StringUTF16", name := "compress", desc := "([CI[BII)I" } : Jvm.MethodName) jdk_52_method_21_code (7 : Nat) (Option.some Jvm.ClassFile.FieldType.int)).before args0 about1 = true := code_word (m := ⟨8, 3⟩) (meth := k8m3) (c := k8c3) (by decide +kernel) rfl rfl rfl (by decide +kernel)
set_option maxRecDepth 65536 in
theorem w_c7 : (Jvm.Cond.code ({ cls := "java/lang/StringUTF16", name := "coderFromArrayLen", desc := "([BI)B" } : Jvm.MethodName) jdk_52_method_15_code (2 : Nat) (Option.some Jvm.ClassFile.FieldType.byte)).before args0 about1 = true := code_word (m := ⟨8, 1⟩) (meth := k8m1) (c := k8c1) (by decide +kernel) rfl rfl rfl (by decide +kernel)
set_option maxRecDepth 65536 in
theorem w_c8 : (Jvm.Cond.code ({ cls := "com/example/cladewalk/cladewalk/tree/Tree", name := "<init>", desc := "([I[D[Ljava/lang/String;)V" } : Jvm.MethodName) prog_20_method_1_code (9 : Nat) (Option.none : Option Jvm.ClassFile.FieldType)).before args0 about1 = true := code_word (m := ⟨9, 0⟩) (meth := k9m0) (c := k9c0) (by decide +kernel) rfl rfl rfl (by decide +kernel)
set_option maxRecDepth 65536 in
theorem w_c9 : (Jvm.Cond.code ({ cls := "com/example/cladewalk/cladewalk/tree/Tree", name := "name", desc := "(I)Ljava/lang/String;" } : Jvm.MethodName) prog_20_method_9_code (2 : Nat) (Option.some (Jvm.ClassFile.FieldType.object "java/lang/String"))).before args0 about1 = true := code_word (m := ⟨9, 1⟩) (meth := k9m1) (c := k9c1) (by decide +kernel) rfl rfl rfl (by decide +kernel)
set_option maxRecDepth 65536 in
theorem w_c10 : (Jvm.Cond.code ({ cls := "com/example/cladewalk/cladewalk/tree/TreeNamePinLaw", name := "same", desc := "(Ljava/lang/String;Ljava/lang/String;)Z" } : Jvm.MethodName) method_3_code (2 : Nat) (Option.some Jvm.ClassFile.FieldType.boolean)).before args0 about1 = true := code_word (m := ⟨1, 2⟩) (meth := k1m2) (c := k1c2) (by decide +kernel) rfl rfl rfl (by decide +kernel)
set_option maxRecDepth 65536 in
theorem w_c11 : (Jvm.Cond.code ({ cls := "java/lang/String", name := "equals", desc := "(Ljava/lang/Object;)Z" } : Jvm.MethodName) jdk_42_method_66_code (3 : Nat) (Option.some Jvm.ClassFile.FieldType.boolean)).before args0 about1 = true := code_word (m := ⟨7, 2⟩) (meth := k7m2) (c := k7c2) (by decide +kernel) rfl rfl rfl (by decide +kernel)
set_option maxRecDepth 65536 in
theorem w_c12 : (Jvm.Cond.code ({ cls := "java/lang/String", name := "valueOf", desc := "(C)Ljava/lang/String;" } : Jvm.MethodName) jdk_42_method_139_code (1 : Nat) (Option.some (Jvm.ClassFile.FieldType.object "java/lang/String"))).before args0 about1 = true := code_word (m := ⟨7, 3⟩) (meth := k7m3) (c := k7c3) (by decide +kernel) rfl rfl rfl (by decide +kernel)
set_option maxRecDepth 65536 in
theorem w_c13 : (Jvm.Cond.code ({ cls := "java/lang/StringLatin1", name := "canEncode", desc := "(C)Z" } : Jvm.MethodName) jdk_43_method_3_code (1 : Nat) (Option.some Jvm.ClassFile.FieldType.boolean)).before args0 about1 = true := code_word (m := ⟨11, 1⟩) (meth := k11m1) (c := k11c1) (by decide +kernel) rfl rfl rfl (by decide +kernel)
set_option maxRecDepth 65536 in
theorem w_c14 : (Jvm.Cond.code ({ cls := "java/lang/StringLatin1", name := "toBytes", desc := "(C)[B" } : Jvm.MethodName) jdk_43_method_46_code (1 : Nat) (Option.some (Jvm.ClassFile.FieldType.array Jvm.ClassFile.FieldType.byte))).before args0 about1 = true := code_word (m := ⟨11, 2⟩) (meth := k11m2) (c := k11c2) (by decide +kernel) rfl rfl rfl (by decide +kernel)
set_option maxRecDepth 65536 in
theorem w_c15 : (Jvm.Cond.code ({ cls := "java/lang/String", name := "<init>", desc := "([BB)V" } : Jvm.MethodName) jdk_42_method_151_code (3 : Nat) (Option.none : Option Jvm.ClassFile.FieldType)).before args0 about1 = true := code_word (m := ⟨7, 5⟩) (meth := k7m5) (c := k7c5) (by decide +kernel) rfl rfl rfl (by decide +kernel)
def codes1 : List Jvm.Cond := [Jvm.Cond.code x code maxLocals ret, Jvm.Cond.code ({ cls := "com/example/cladewalk/cladewalk/tree/TreeNamePinLaw", name := "two", desc := "(III)Ljava/lang/String;" } : Jvm.MethodName) method_2_code (4 : Nat) (Option.some (Jvm.ClassFile.FieldType.object "java/lang/String")), Jvm.Cond.code ({ cls := "java/lang/String", name := "<init>", desc := "([C)V" } : Jvm.MethodName) jdk_42_method_3_code (2 : Nat) (Option.none : Option Jvm.ClassFile.FieldType), Jvm.Cond.code ({ cls := "java/lang/String", name := "<init>", desc := "([CIILjava/lang/Void;)V" } : Jvm.MethodName) jdk_42_method_149_code (6 : Nat) (Option.none : Option Jvm.ClassFile.FieldType), Jvm.Cond.code ({ cls := "java/lang/Object", name := "<init>", desc := "()V" } : Jvm.MethodName) object_method_1_code (1 : Nat) (Option.none : Option Jvm.ClassFile.FieldType), Jvm.Cond.code ({ cls := "java/lang/StringUTF16", name := "compress", desc := "([CII)[B" } : Jvm.MethodName) jdk_52_method_16_code (6 : Nat) (Option.some (Jvm.ClassFile.FieldType.array Jvm.ClassFile.FieldType.byte)), Jvm.Cond.code ({ cls := "java/lang/StringUTF16", name := "compress", desc := "([CI[BII)I" } : Jvm.MethodName) jdk_52_method_21_code (7 : Nat) (Option.some Jvm.ClassFile.FieldType.int), Jvm.Cond.code ({ cls := "java/lang/StringUTF16", name := "coderFromArrayLen", desc := "([BI)B" } : Jvm.MethodName) jdk_52_method_15_code (2 : Nat) (Option.some Jvm.ClassFile.FieldType.byte), Jvm.Cond.code ({ cls := "com/example/cladewalk/cladewalk/tree/Tree", name := "<init>", desc := "([I[D[Ljava/lang/String;)V" } : Jvm.MethodName) prog_20_method_1_code (9 : Nat) (Option.none : Option Jvm.ClassFile.FieldType), Jvm.Cond.code ({ cls := "com/example/cladewalk/cladewalk/tree/Tree", name := "name", desc := "(I)Ljava/lang/String;" } : Jvm.MethodName) prog_20_method_9_code (2 : Nat) (Option.some (Jvm.ClassFile.FieldType.object "java/lang/String")), Jvm.Cond.code ({ cls := "com/example/cladewalk/cladewalk/tree/TreeNamePinLaw", name := "same", desc := "(Ljava/lang/String;Ljava/lang/String;)Z" } : Jvm.MethodName) method_3_code (2 : Nat) (Option.some Jvm.ClassFile.FieldType.boolean), Jvm.Cond.code ({ cls := "java/lang/String", name := "equals", desc := "(Ljava/lang/Object;)Z" } : Jvm.MethodName) jdk_42_method_66_code (3 : Nat) (Option.some Jvm.ClassFile.FieldType.boolean), Jvm.Cond.code ({ cls := "java/lang/String", name := "valueOf", desc := "(C)Ljava/lang/String;" } : Jvm.MethodName) jdk_42_method_139_code (1 : Nat) (Option.some (Jvm.ClassFile.FieldType.object "java/lang/String")), Jvm.Cond.code ({ cls := "java/lang/StringLatin1", name := "canEncode", desc := "(C)Z" } : Jvm.MethodName) jdk_43_method_3_code (1 : Nat) (Option.some Jvm.ClassFile.FieldType.boolean), Jvm.Cond.code ({ cls := "java/lang/StringLatin1", name := "toBytes", desc := "(C)[B" } : Jvm.MethodName) jdk_43_method_46_code (1 : Nat) (Option.some (Jvm.ClassFile.FieldType.array Jvm.ClassFile.FieldType.byte)), Jvm.Cond.code ({ cls := "java/lang/String", name := "<init>", desc := "([BB)V" } : Jvm.MethodName) jdk_42_method_151_code (3 : Nat) (Option.none : Option Jvm.ClassFile.FieldType)]
set_option maxRecDepth 65536 in
theorem codes_eq : words1.filter isCode = codes1 := rfl
theorem w_codes : ∀ c ∈ words1.filter isCode, c.before args0 about1 = true := by
  rw [codes_eq]
  intro c hc
  simp only [codes1, List.mem_cons, List.not_mem_nil, or_false] at hc
  rcases hc with rfl | rfl | rfl | rfl | rfl | rfl | rfl | rfl | rfl | rfl | rfl | rfl | rfl | rfl | rfl | rfl
  · exact w_c0
  · exact w_c1
  · exact w_c2
  · exact w_c3
  · exact w_c4
  · exact w_c5
  · exact w_c6
  · exact w_c7
  · exact w_c8
  · exact w_c9
  · exact w_c10
  · exact w_c11
  · exact w_c12
  · exact w_c13
  · exact w_c14
  · exact w_c15
set_option maxRecDepth 65536 in
theorem w_t1 : (words1.take 24).all (fun c => isCode c || c.before args0 about1) = true := by decide +kernel
set_option maxRecDepth 65536 in
theorem w_t2 : ((words1.drop 24).take 24).all (fun c => isCode c || c.before args0 about1) = true := by decide +kernel
set_option maxRecDepth 65536 in
theorem w_t3 : (((words1.drop 24).drop 24).take 24).all (fun c => isCode c || c.before args0 about1) = true := by decide +kernel
set_option maxRecDepth 65536 in
theorem w_t4 : ((((words1.drop 24).drop 24).drop 24).take 24).all (fun c => isCode c || c.before args0 about1) = true := by decide +kernel
set_option maxRecDepth 65536 in
theorem w_t5 : ((((words1.drop 24).drop 24).drop 24).drop 24).all (fun c => isCode c || c.before args0 about1) = true := by decide +kernel
theorem w_tables : (allAtoms (Jvm.Cond.code x code maxLocals ret :: tables_1)).before args0 about1 = true := by
  rw [allAtoms_all]
  show words1.all (fun c => c.before args0 about1) = true
  refine all_split ?_ w_codes
  rw [← List.take_append_drop 24 words1, List.all_append, w_t1, ← List.take_append_drop 24 (words1.drop 24), List.all_append, w_t2, ← List.take_append_drop 24 ((words1.drop 24).drop 24), List.all_append, w_t3, ← List.take_append_drop 24 (((words1.drop 24).drop 24).drop 24), List.all_append, w_t4, w_t5]
  rfl
set_option maxRecDepth 65536 in
theorem w_rest : rest_1_c.before args0 about1 = true := by decide +kernel
set_option maxRecDepth 65536 in
theorem w_case : (Jvm.Cond.and given_1 narrow_1).before args0 about1 = true := by decide +kernel
theorem w_applies : (headSpec (Jvm.Cond.code x code maxLocals ret :: tables_1) room_1).applies x e0.platform about1 = true :=
  (Spec.applies_iff w_frames).mpr ⟨w_running, w_runnable, w_alone, w_named, w_hears, w_ripe, w_room, w_tables⟩
theorem atStart : AtStart classFile x code maxLocals ret World_1 tables_1 room_1 Calls_1 rest_1 Pre_1 launch0 p0 e0 about1 theMethod args0 below0 :=
  ⟨lists_1, trivial, launch0.admits_env _ _ _, launch0.least_env, fairChoices_fair.cas, fairChoices_fair.clock, w_frames, w_args, w_heap, w_applies, trivial, w_rest, w_case⟩
end start1
theorem witness_1 : WitnessClaimed_1 := ⟨start1.p0, start1.e0, start1.about1, start1.theMethod, start1.args0, start1.below0, start1.atStart⟩
end Jvm.Pilot.@@N@@
