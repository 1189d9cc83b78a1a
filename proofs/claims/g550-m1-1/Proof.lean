import JvmDerived
import JvmDerived.Pilot.@@N@@Statement
import JvmDerived.Pilot.@@N@@Code
set_option linter.unusedVariables false
set_option linter.unusedSimpArgs false
namespace Jvm.Own
open Jvm Sem ClassFile Op Lib Jvm.Stand Jvm.Free Jvm.LawKit Jvm.RoadKit
/-- what is left to run: from any state that stands here with this heap, in this frame, the method comes back, and Q holds of what it returns and of the heap -/
def Wp (p : Program) (l : Launch) (e : Env) (R : Room) (s : State) (m : MethodId) (args : Array Value) (below : List Frame) (meth : Method) (c : Code)
    (n0 cM sM : Nat) (Q : Option Value → Heap → Prop) (h : Heap) (cells slots : Nat) (g : JFrame) : Prop :=
  ∀ (T : State) (locs : List Loc), Stand p l e R s m args below meth c T locs cells slots → T.heap = h → Fr n0 locs →
    ∃ s₂ v L, Steps p.tables e below (T.setTop g) s₂ ∧ s₂.status = .running ∧ Ended s₂ below (.returned v) ∧ (Q v s₂.heap ∧ Fr n0 L) ∧ FrameEnd s (.returned v) s₂ L cM sM
/-- what is known of the method that is walked -/
def Cx (p : Program) (s : State) (m : MethodId) (meth : Method) (c : Code) (Z : State) (own : String) (bytes : ByteArray) (ml : Nat) (rt : Option FieldType) (nm : String) : Prop :=
  p.tables.exec = Jvm.exec ∧ c.code = bytes ∧ Z.Warmed39 s.vm ∧ s.vm.findClass own = some m.cls ∧ c.maxLocals = ml ∧ meth.sig.returnType = rt ∧ meth.name = nm ∧ meth.locks = false
/-- a method's contract: called with these arguments at this heap -/
def Ct (l : Launch) (Z : State) (y : MethodName) (bytes : ByteArray) (maxL : Nat) (ret : Option FieldType) (ws : List Jvm.Cond) (rm : Room) (as' : Array Value) (h : Heap) (n0 : Nat) (Q : Option Value → Heap → Prop) : Prop :=
  MetFree l y (head1 (Jvm.Cond.code y bytes maxL ret :: ws) rm) (fun a U => a = as' ∧ Z.Warmed39 U.vm ∧ U.heap = h) (fun _ _ _ _ _ => True)
    (fun _ U o U' => ∃ v L, o = .returned v ∧ (Q v U'.heap ∧ Fr n0 L) ∧ FrameEnd U o U' L rm.cells rm.slots)
theorem Ct.of {l : Launch} {Z : State} {y : MethodName} {bytes : ByteArray} {maxL : Nat} {ret : Option FieldType} {ws : List Jvm.Cond} {rm : Room} {as' : Array Value} {h : Heap} {n0 : Nat} {Q : Option Value → Heap → Prop} {Ls : Array Slot}
    (hpl : plainFor y = true) (ef : ∀ m, entryFrame m as' maxL = mkF m 0 Ls [])
    (H : ∀ p e s m below meth c, Cx p s m meth c Z y.cls bytes maxL ret y.name → Wp p l e rm s m as' below meth c n0 rm.cells rm.slots Q h 0 0 (mkF m 0 Ls [])) :
    Ct l Z y bytes maxL ret ws rm as' h n0 Q := by
  refine MetFree.of_bodySF hpl hisR ?_
  intro p e s m args below meth c s₁ Bd hml0 hP hK
  obtain ⟨rfl, hZ, hh⟩ := hP
  have C : Cx p s m meth c Z y.cls bytes maxL ret y.name := ⟨Bd.exec, Bd.bytes, hZ, findClass_of_methodNamed Bd.named, hml0, Bd.returns, (name_of_methodNamed Bd.named Bd.method).1, Bd.notSynchronized⟩
  obtain ⟨s₂, v, L, a1, a2, a3, a4, a5⟩ := H p e s m below meth c C s₁ [] (Stand.of_body Bd) (by rw [← hh, Bd.state]; rfl) (Fr.nil n0)
  exact ⟨s₂, .returned v, castTop (ef m) a1, a2, a3, v, L, rfl, a4, a5⟩
theorem Ct.mono {l : Launch} {Z : State} {y : MethodName} {bytes : ByteArray} {maxL : Nat} {ret : Option FieldType} {ws : List Jvm.Cond} {rm : Room} {as' : Array Value} {h : Heap} {n0 : Nat} {Q Q' : Option Value → Heap → Prop}
    (H : Ct l Z y bytes maxL ret ws rm as' h n0 Q) (i : ∀ v h', Q v h' → Q' v h') : Ct l Z y bytes maxL ret ws rm as' h n0 Q' := by
  intro p e ha hc hk s m args below hf happ hP hK
  obtain ⟨n, o, h1, h2, h3, v, L, h4, h5, h6⟩ := H p e ha hc hk s m args below hf happ hP hK
  exact ⟨n, o, h1, h2, h3, v, L, h4, ⟨i _ _ h5.1, h5.2⟩, h6⟩
section Rules
variable {p : Program} {l : Launch} {e : Env} {R : Room} {s : State} {m : MethodId} {args : Array Value} {below : List Frame} {meth : Method} {c : Code} {n0 cM sM : Nat} {Q : Option Value → Heap → Prop} {h : Heap} {cells slots : Nat}
variable {Z : State} {own nm : String} {bytes : ByteArray} {ml : Nat} {rt : Option FieldType} {a0 : Array Value}
theorem Wp.pure {g g' : JFrame} (st : ∀ (T t : State), At T m c below → Steps p.tables e below (T.setTop g') t → Steps p.tables e below (T.setTop g) t) (k : Wp p l e R s m args below meth c n0 cM sM Q h cells slots g') :
    Wp p l e R s m args below meth c n0 cM sM Q h cells slots g := fun T locs X e0 N => by
  obtain ⟨s2, v, L, a, r⟩ := k T locs X e0 N
  exact ⟨s2, v, L, st T s2 X.here a, r⟩
theorem Wp.law {g g' : JFrame} (st : ∀ (T : State) (locs : List Loc), Stand p l e R s m args below meth c T locs cells slots → T.heap = h → ∃ T', Stand p l e R s m args below meth c T' locs cells slots ∧ T'.heap = h ∧ ∀ t, Steps p.tables e below (T'.setTop g') t → Steps p.tables e below (T.setTop g) t)
    (k : Wp p l e R s m args below meth c n0 cM sM Q h cells slots g') : Wp p l e R s m args below meth c n0 cM sM Q h cells slots g := fun T locs X e0 N => by
  obtain ⟨T', X', e', st'⟩ := st T locs X e0
  obtain ⟨s2, v, L, a, r⟩ := k T' locs X' e' N
  exact ⟨s2, v, L, st' s2 a, r⟩
theorem Wp.more {g : JFrame} {cells' slots' : Nat} (hc : cells ≤ cells') (hs : slots ≤ slots') (k : Wp p l e R s m args below meth c n0 cM sM Q h cells' slots' g) : Wp p l e R s m args below meth c n0 cM sM Q h cells slots g :=
  fun T locs X e0 N => k T locs (X.more hc hs) e0 N
theorem Wp.mono {g : JFrame} {Q' : Option Value → Heap → Prop} (i : ∀ v h', Q v h' → Q' v h') (k : Wp p l e R s m args below meth c n0 cM sM Q h cells slots g) : Wp p l e R s m args below meth c n0 cM sM Q' h cells slots g :=
  fun T locs X e0 N => by
    obtain ⟨s2, v, L, a, b, d, q, r⟩ := k T locs X e0 N
    exact ⟨s2, v, L, a, b, d, ⟨i _ _ q.1, q.2⟩, r⟩
theorem Wp.ret {g : JFrame} {v : Option Value} (C : Cx p s m meth c Z own bytes ml rt nm)
    (st : ∀ (T : State) (fs : List Frame) (locs : List Loc), Stand p l e R s m args below meth c T locs cells slots → (∀ (f : JFrame) (acts : List Action), f.method = m → f.locked = none → f.entered = [] → (doReturn e (T.setTop f) acts v).1 = T.setFrames fs) → Steps p.tables e below (T.setTop g) (T.setFrames fs))
    (hv : meth.sig.returnType = none → v = none) (hc : cells ≤ cM) (hs : slots ≤ sM) (q : Q v h) : Wp p l e R s m args below meth c n0 cM sM Q h cells slots g := by
  intro T locs X e0 N
  have hlk : meth.locks = false := C.2.2.2.2.2.2.2
  obtain ⟨fs, hr, hrun, hended, hW, hsame⟩ := X.leave (v := v) hv hlk
  exact ⟨_, v, locs, st T fs locs X hr, hrun, hended, ⟨by subst e0; exact q, N⟩, ⟨_, rfl⟩, hW, hsame.mono hc hs⟩
theorem w_iloadN (C : Cx p s m meth c Z own bytes ml rt nm) {pc pc' : Nat} {Ls : Array Slot} {st : List Value} {k : Fin 4} {x : Int32} (hd : decode bytes pc = .ok (.iload_n k, 1)) (hl : Ls[k.val]? = some (.val (.int x))) (hp : pc + 1 = pc') (K : Wp p l e R s m args below meth c n0 cM sM Q h cells slots (mkF m pc' Ls (.int x :: st))) :
    Wp p l e R s m args below meth c n0 cM sM Q h cells slots (mkF m pc Ls st) := by
  subst hp; exact Wp.pure (fun T t X hr => XS.iloadN X C.1 rfl (hb C.2.1 hd) hl hr) K
theorem w_iload (C : Cx p s m meth c Z own bytes ml rt nm) {pc pc' : Nat} {Ls : Array Slot} {st : List Value} {k : Nat} {x : Int32} (hd : decode bytes pc = .ok (.iload k, 2)) (hl : Ls[k]? = some (.val (.int x))) (hp : pc + 2 = pc') (K : Wp p l e R s m args below meth c n0 cM sM Q h cells slots (mkF m pc' Ls (.int x :: st))) :
    Wp p l e R s m args below meth c n0 cM sM Q h cells slots (mkF m pc Ls st) := by
  subst hp; exact Wp.pure (fun T t X hr => XS.iload X C.1 rfl (hb C.2.1 hd) hl hr) K
theorem w_lloadN (C : Cx p s m meth c Z own bytes ml rt nm) {pc pc' : Nat} {Ls : Array Slot} {st : List Value} {k : Fin 4} {x : Int64} (hd : decode bytes pc = .ok (.lload_n k, 1)) (hl : Ls[k.val]? = some (.val (.long x))) (hp : pc + 1 = pc') (K : Wp p l e R s m args below meth c n0 cM sM Q h cells slots (mkF m pc' Ls (.long x :: st))) :
    Wp p l e R s m args below meth c n0 cM sM Q h cells slots (mkF m pc Ls st) := by
  subst hp; exact Wp.pure (fun T t X hr => XS.lloadN X C.1 rfl (hb C.2.1 hd) hl hr) K
theorem w_lload (C : Cx p s m meth c Z own bytes ml rt nm) {pc pc' : Nat} {Ls : Array Slot} {st : List Value} {k : Nat} {x : Int64} (hd : decode bytes pc = .ok (.lload k, 2)) (hl : Ls[k]? = some (.val (.long x))) (hp : pc + 2 = pc') (K : Wp p l e R s m args below meth c n0 cM sM Q h cells slots (mkF m pc' Ls (.long x :: st))) :
    Wp p l e R s m args below meth c n0 cM sM Q h cells slots (mkF m pc Ls st) := by
  subst hp; exact Wp.pure (fun T t X hr => XS.lload X C.1 rfl (hb C.2.1 hd) hl hr) K
theorem w_aloadN (C : Cx p s m meth c Z own bytes ml rt nm) {pc pc' : Nat} {Ls : Array Slot} {st : List Value} {k : Fin 4} {v : Value} (hd : decode bytes pc = .ok (.aload_n k, 1)) (hl : Ls[k.val]? = some (.val v)) (hv : v.isRef = true) (hp : pc + 1 = pc') (K : Wp p l e R s m args below meth c n0 cM sM Q h cells slots (mkF m pc' Ls (v :: st))) :
    Wp p l e R s m args below meth c n0 cM sM Q h cells slots (mkF m pc Ls st) := by
  subst hp; exact Wp.pure (fun T t X hr => XS.aloadN X C.1 rfl (hb C.2.1 hd) hl hv hr) K
theorem w_aload (C : Cx p s m meth c Z own bytes ml rt nm) {pc pc' : Nat} {Ls : Array Slot} {st : List Value} {k : Nat} {v : Value} (hd : decode bytes pc = .ok (.aload k, 2)) (hl : Ls[k]? = some (.val v)) (hv : v.isRef = true) (hp : pc + 2 = pc') (K : Wp p l e R s m args below meth c n0 cM sM Q h cells slots (mkF m pc' Ls (v :: st))) :
    Wp p l e R s m args below meth c n0 cM sM Q h cells slots (mkF m pc Ls st) := by
  subst hp; exact Wp.pure (fun T t X hr => XS.aload X C.1 rfl (hb C.2.1 hd) hl hv hr) K
theorem w_istoreN (C : Cx p s m meth c Z own bytes ml rt nm) {pc pc' : Nat} {Ls : Array Slot} {st : List Value} {k : Fin 4} {x : Int32} {Ls' : Array Slot} (hd : decode bytes pc = .ok (.istore_n k, 1)) (hl : storeLocals Ls k.val (.int x) = some Ls') (hp : pc + 1 = pc') (K : Wp p l e R s m args below meth c n0 cM sM Q h cells slots (mkF m pc' Ls' st)) :
    Wp p l e R s m args below meth c n0 cM sM Q h cells slots (mkF m pc Ls (.int x :: st)) := by
  subst hp; exact Wp.pure (fun T t X hr => XS.istoreN X C.1 rfl (hb C.2.1 hd) rfl hl hr) K
theorem w_istore (C : Cx p s m meth c Z own bytes ml rt nm) {pc pc' : Nat} {Ls : Array Slot} {st : List Value} {k : Nat} {x : Int32} {Ls' : Array Slot} (hd : decode bytes pc = .ok (.istore k, 2)) (hl : storeLocals Ls k (.int x) = some Ls') (hp : pc + 2 = pc') (K : Wp p l e R s m args below meth c n0 cM sM Q h cells slots (mkF m pc' Ls' st)) :
    Wp p l e R s m args below meth c n0 cM sM Q h cells slots (mkF m pc Ls (.int x :: st)) := by
  subst hp; exact Wp.pure (fun T t X hr => XS.istore X C.1 rfl (hb C.2.1 hd) rfl hl hr) K
theorem w_lstoreN (C : Cx p s m meth c Z own bytes ml rt nm) {pc pc' : Nat} {Ls : Array Slot} {st : List Value} {k : Fin 4} {x : Int64} {Ls' : Array Slot} (hd : decode bytes pc = .ok (.lstore_n k, 1)) (hl : storeLocals Ls k.val (.long x) = some Ls') (hp : pc + 1 = pc') (K : Wp p l e R s m args below meth c n0 cM sM Q h cells slots (mkF m pc' Ls' st)) :
    Wp p l e R s m args below meth c n0 cM sM Q h cells slots (mkF m pc Ls (.long x :: st)) := by
  subst hp; exact Wp.pure (fun T t X hr => XS.lstoreN X C.1 rfl (hb C.2.1 hd) rfl hl hr) K
theorem w_lstore (C : Cx p s m meth c Z own bytes ml rt nm) {pc pc' : Nat} {Ls : Array Slot} {st : List Value} {k : Nat} {x : Int64} {Ls' : Array Slot} (hd : decode bytes pc = .ok (.lstore k, 2)) (hl : storeLocals Ls k (.long x) = some Ls') (hp : pc + 2 = pc') (K : Wp p l e R s m args below meth c n0 cM sM Q h cells slots (mkF m pc' Ls' st)) :
    Wp p l e R s m args below meth c n0 cM sM Q h cells slots (mkF m pc Ls (.long x :: st)) := by
  subst hp; exact Wp.pure (fun T t X hr => XS.lstore X C.1 rfl (hb C.2.1 hd) rfl hl hr) K
theorem w_astoreN (C : Cx p s m meth c Z own bytes ml rt nm) {pc pc' : Nat} {Ls : Array Slot} {st : List Value} {k : Fin 4} {v : Value} {Ls' : Array Slot} (hd : decode bytes pc = .ok (.astore_n k, 1)) (hv : v.isRef = true) (hl : storeLocals Ls k.val v = some Ls') (hp : pc + 1 = pc') (K : Wp p l e R s m args below meth c n0 cM sM Q h cells slots (mkF m pc' Ls' st)) :
    Wp p l e R s m args below meth c n0 cM sM Q h cells slots (mkF m pc Ls (v :: st)) := by
  subst hp; exact Wp.pure (fun T t X hr => XS.astoreN X C.1 rfl (hb C.2.1 hd) rfl hv hl hr) K
theorem w_astore (C : Cx p s m meth c Z own bytes ml rt nm) {pc pc' : Nat} {Ls : Array Slot} {st : List Value} {k : Nat} {v : Value} {Ls' : Array Slot} (hd : decode bytes pc = .ok (.astore k, 2)) (hv : v.isRef = true) (hl : storeLocals Ls k v = some Ls') (hp : pc + 2 = pc') (K : Wp p l e R s m args below meth c n0 cM sM Q h cells slots (mkF m pc' Ls' st)) :
    Wp p l e R s m args below meth c n0 cM sM Q h cells slots (mkF m pc Ls (v :: st)) := by
  subst hp; exact Wp.pure (fun T t X hr => XS.astore X C.1 rfl (hb C.2.1 hd) rfl hv hl hr) K
theorem w_iinc (C : Cx p s m meth c Z own bytes ml rt nm) {pc pc' : Nat} {Ls : Array Slot} {st : List Value} {k : Nat} {cst : Int} {x : Int32} {Ls' : Array Slot} (hd : decode bytes pc = .ok (.iinc k cst, 3)) (hx : Ls[k]? = some (.val (.int x))) (hl : storeLocals Ls k (.int (x + Int32.ofInt cst)) = some Ls') (hp : pc + 3 = pc') (K : Wp p l e R s m args below meth c n0 cM sM Q h cells slots (mkF m pc' Ls' st)) :
    Wp p l e R s m args below meth c n0 cM sM Q h cells slots (mkF m pc Ls st) := by
  subst hp; exact Wp.pure (fun T t X hr => XS.iinc X C.1 rfl (hb C.2.1 hd) hx hl hr) K
theorem w_iconst (C : Cx p s m meth c Z own bytes ml rt nm) {pc pc' : Nat} {Ls : Array Slot} {st : List Value} {i : Int} {x : Int32} (hd : decode bytes pc = .ok (.iconst i, 1)) (hx : Int32.ofInt i = x) (hp : pc + 1 = pc') (K : Wp p l e R s m args below meth c n0 cM sM Q h cells slots (mkF m pc' Ls (.int x :: st))) :
    Wp p l e R s m args below meth c n0 cM sM Q h cells slots (mkF m pc Ls st) := by
  subst hp hx; exact Wp.pure (fun T t X hr => XS.iconst X C.1 rfl (hb C.2.1 hd) hr) K
theorem w_bipush (C : Cx p s m meth c Z own bytes ml rt nm) {pc pc' : Nat} {Ls : Array Slot} {st : List Value} {i : Int} {x : Int32} (hd : decode bytes pc = .ok (.bipush i, 2)) (hx : (Int8.ofInt i).toInt32 = x) (hp : pc + 2 = pc') (K : Wp p l e R s m args below meth c n0 cM sM Q h cells slots (mkF m pc' Ls (.int x :: st))) :
    Wp p l e R s m args below meth c n0 cM sM Q h cells slots (mkF m pc Ls st) := by
  subst hp hx; exact Wp.pure (fun T t X hr => XS.bipush X C.1 rfl (hb C.2.1 hd) hr) K
theorem w_sipush (C : Cx p s m meth c Z own bytes ml rt nm) {pc pc' : Nat} {Ls : Array Slot} {st : List Value} {i : Int} {x : Int32} (hd : decode bytes pc = .ok (.sipush i, 3)) (hx : (Int16.ofInt i).toInt32 = x) (hp : pc + 3 = pc') (K : Wp p l e R s m args below meth c n0 cM sM Q h cells slots (mkF m pc' Ls (.int x :: st))) :
    Wp p l e R s m args below meth c n0 cM sM Q h cells slots (mkF m pc Ls st) := by
  subst hp hx; exact Wp.pure (fun T t X hr => XS.sipush X C.1 rfl (hb C.2.1 hd) hr) K
theorem w_lconst (C : Cx p s m meth c Z own bytes ml rt nm) {pc pc' : Nat} {Ls : Array Slot} {st : List Value} {k : Fin 2} {x : Int64} (hd : decode bytes pc = .ok (.lconst k, 1)) (hx : Int64.ofNat k = x) (hp : pc + 1 = pc') (K : Wp p l e R s m args below meth c n0 cM sM Q h cells slots (mkF m pc' Ls (.long x :: st))) :
    Wp p l e R s m args below meth c n0 cM sM Q h cells slots (mkF m pc Ls st) := by
  subst hp hx; exact Wp.pure (fun T t X hr => XS.lconst X C.1 rfl (hb C.2.1 hd) hr) K
theorem w_aconstNull (C : Cx p s m meth c Z own bytes ml rt nm) {pc pc' : Nat} {Ls : Array Slot} {st : List Value}  (hd : decode bytes pc = .ok (.aconst_null, 1))  (hp : pc + 1 = pc') (K : Wp p l e R s m args below meth c n0 cM sM Q h cells slots (mkF m pc' Ls (.null :: st))) :
    Wp p l e R s m args below meth c n0 cM sM Q h cells slots (mkF m pc Ls st) := by
  subst hp; exact Wp.pure (fun T t X hr => XS.aconstNull X C.1 rfl (hb C.2.1 hd)  hr) K
theorem w_iadd (C : Cx p s m meth c Z own bytes ml rt nm) {pc pc' : Nat} {Ls : Array Slot} {st : List Value} {x y : Int32} (hd : decode bytes pc = .ok (.iadd, 1))  (hp : pc + 1 = pc') (K : Wp p l e R s m args below meth c n0 cM sM Q h cells slots (mkF m pc' Ls (.int (x + y) :: st))) :
    Wp p l e R s m args below meth c n0 cM sM Q h cells slots (mkF m pc Ls (.int y :: .int x :: st)) := by
  subst hp; exact Wp.pure (fun T t X hr => XS.iadd X C.1 rfl (hb C.2.1 hd) rfl hr) K
theorem w_isub (C : Cx p s m meth c Z own bytes ml rt nm) {pc pc' : Nat} {Ls : Array Slot} {st : List Value} {x y : Int32} (hd : decode bytes pc = .ok (.isub, 1))  (hp : pc + 1 = pc') (K : Wp p l e R s m args below meth c n0 cM sM Q h cells slots (mkF m pc' Ls (.int (x - y) :: st))) :
    Wp p l e R s m args below meth c n0 cM sM Q h cells slots (mkF m pc Ls (.int y :: .int x :: st)) := by
  subst hp; exact Wp.pure (fun T t X hr => XS.isub X C.1 rfl (hb C.2.1 hd) rfl hr) K
theorem w_imul (C : Cx p s m meth c Z own bytes ml rt nm) {pc pc' : Nat} {Ls : Array Slot} {st : List Value} {x y : Int32} (hd : decode bytes pc = .ok (.imul, 1))  (hp : pc + 1 = pc') (K : Wp p l e R s m args below meth c n0 cM sM Q h cells slots (mkF m pc' Ls (.int (x * y) :: st))) :
    Wp p l e R s m args below meth c n0 cM sM Q h cells slots (mkF m pc Ls (.int y :: .int x :: st)) := by
  subst hp; exact Wp.pure (fun T t X hr => XS.imul X C.1 rfl (hb C.2.1 hd) rfl hr) K
theorem w_iand (C : Cx p s m meth c Z own bytes ml rt nm) {pc pc' : Nat} {Ls : Array Slot} {st : List Value} {x y : Int32} (hd : decode bytes pc = .ok (.iand, 1))  (hp : pc + 1 = pc') (K : Wp p l e R s m args below meth c n0 cM sM Q h cells slots (mkF m pc' Ls (.int (x &&& y) :: st))) :
    Wp p l e R s m args below meth c n0 cM sM Q h cells slots (mkF m pc Ls (.int y :: .int x :: st)) := by
  subst hp; exact Wp.pure (fun T t X hr => XS.iand X C.1 rfl (hb C.2.1 hd) rfl hr) K
theorem w_ior (C : Cx p s m meth c Z own bytes ml rt nm) {pc pc' : Nat} {Ls : Array Slot} {st : List Value} {x y : Int32} (hd : decode bytes pc = .ok (.ior, 1))  (hp : pc + 1 = pc') (K : Wp p l e R s m args below meth c n0 cM sM Q h cells slots (mkF m pc' Ls (.int (x ||| y) :: st))) :
    Wp p l e R s m args below meth c n0 cM sM Q h cells slots (mkF m pc Ls (.int y :: .int x :: st)) := by
  subst hp; exact Wp.pure (fun T t X hr => XS.ior X C.1 rfl (hb C.2.1 hd) rfl hr) K
theorem w_ixor (C : Cx p s m meth c Z own bytes ml rt nm) {pc pc' : Nat} {Ls : Array Slot} {st : List Value} {x y : Int32} (hd : decode bytes pc = .ok (.ixor, 1))  (hp : pc + 1 = pc') (K : Wp p l e R s m args below meth c n0 cM sM Q h cells slots (mkF m pc' Ls (.int (x ^^^ y) :: st))) :
    Wp p l e R s m args below meth c n0 cM sM Q h cells slots (mkF m pc Ls (.int y :: .int x :: st)) := by
  subst hp; exact Wp.pure (fun T t X hr => XS.ixor X C.1 rfl (hb C.2.1 hd) rfl hr) K
theorem w_ishl (C : Cx p s m meth c Z own bytes ml rt nm) {pc pc' : Nat} {Ls : Array Slot} {st : List Value} {x y : Int32} (hd : decode bytes pc = .ok (.ishl, 1))  (hp : pc + 1 = pc') (K : Wp p l e R s m args below meth c n0 cM sM Q h cells slots (mkF m pc' Ls (.int (x <<< (y &&& 31)) :: st))) :
    Wp p l e R s m args below meth c n0 cM sM Q h cells slots (mkF m pc Ls (.int y :: .int x :: st)) := by
  subst hp; exact Wp.pure (fun T t X hr => XS.ishl X C.1 rfl (hb C.2.1 hd) rfl hr) K
theorem w_ishr (C : Cx p s m meth c Z own bytes ml rt nm) {pc pc' : Nat} {Ls : Array Slot} {st : List Value} {x y : Int32} (hd : decode bytes pc = .ok (.ishr, 1))  (hp : pc + 1 = pc') (K : Wp p l e R s m args below meth c n0 cM sM Q h cells slots (mkF m pc' Ls (.int (x >>> (y &&& 31)) :: st))) :
    Wp p l e R s m args below meth c n0 cM sM Q h cells slots (mkF m pc Ls (.int y :: .int x :: st)) := by
  subst hp; exact Wp.pure (fun T t X hr => XS.ishr X C.1 rfl (hb C.2.1 hd) rfl hr) K
theorem w_iushr (C : Cx p s m meth c Z own bytes ml rt nm) {pc pc' : Nat} {Ls : Array Slot} {st : List Value} {x y : Int32} (hd : decode bytes pc = .ok (.iushr, 1))  (hp : pc + 1 = pc') (K : Wp p l e R s m args below meth c n0 cM sM Q h cells slots (mkF m pc' Ls (.int ((x.toUInt32 >>> (y &&& 31).toUInt32).toInt32) :: st))) :
    Wp p l e R s m args below meth c n0 cM sM Q h cells slots (mkF m pc Ls (.int y :: .int x :: st)) := by
  subst hp; exact Wp.pure (fun T t X hr => XS.iushr X C.1 rfl (hb C.2.1 hd) rfl hr) K
theorem w_ladd (C : Cx p s m meth c Z own bytes ml rt nm) {pc pc' : Nat} {Ls : Array Slot} {st : List Value} {x y : Int64} (hd : decode bytes pc = .ok (.ladd, 1))  (hp : pc + 1 = pc') (K : Wp p l e R s m args below meth c n0 cM sM Q h cells slots (mkF m pc' Ls (.long (x + y) :: st))) :
    Wp p l e R s m args below meth c n0 cM sM Q h cells slots (mkF m pc Ls (.long y :: .long x :: st)) := by
  subst hp; exact Wp.pure (fun T t X hr => XS.ladd X C.1 rfl (hb C.2.1 hd) rfl hr) K
theorem w_lsub (C : Cx p s m meth c Z own bytes ml rt nm) {pc pc' : Nat} {Ls : Array Slot} {st : List Value} {x y : Int64} (hd : decode bytes pc = .ok (.lsub, 1))  (hp : pc + 1 = pc') (K : Wp p l e R s m args below meth c n0 cM sM Q h cells slots (mkF m pc' Ls (.long (x - y) :: st))) :
    Wp p l e R s m args below meth c n0 cM sM Q h cells slots (mkF m pc Ls (.long y :: .long x :: st)) := by
  subst hp; exact Wp.pure (fun T t X hr => XS.lsub X C.1 rfl (hb C.2.1 hd) rfl hr) K
theorem w_lmul (C : Cx p s m meth c Z own bytes ml rt nm) {pc pc' : Nat} {Ls : Array Slot} {st : List Value} {x y : Int64} (hd : decode bytes pc = .ok (.lmul, 1))  (hp : pc + 1 = pc') (K : Wp p l e R s m args below meth c n0 cM sM Q h cells slots (mkF m pc' Ls (.long (x * y) :: st))) :
    Wp p l e R s m args below meth c n0 cM sM Q h cells slots (mkF m pc Ls (.long y :: .long x :: st)) := by
  subst hp; exact Wp.pure (fun T t X hr => XS.lmul X C.1 rfl (hb C.2.1 hd) rfl hr) K
theorem w_land (C : Cx p s m meth c Z own bytes ml rt nm) {pc pc' : Nat} {Ls : Array Slot} {st : List Value} {x y : Int64} (hd : decode bytes pc = .ok (.land, 1))  (hp : pc + 1 = pc') (K : Wp p l e R s m args below meth c n0 cM sM Q h cells slots (mkF m pc' Ls (.long (x &&& y) :: st))) :
    Wp p l e R s m args below meth c n0 cM sM Q h cells slots (mkF m pc Ls (.long y :: .long x :: st)) := by
  subst hp; exact Wp.pure (fun T t X hr => XS.land X C.1 rfl (hb C.2.1 hd) rfl hr) K
theorem w_lor (C : Cx p s m meth c Z own bytes ml rt nm) {pc pc' : Nat} {Ls : Array Slot} {st : List Value} {x y : Int64} (hd : decode bytes pc = .ok (.lor, 1))  (hp : pc + 1 = pc') (K : Wp p l e R s m args below meth c n0 cM sM Q h cells slots (mkF m pc' Ls (.long (x ||| y) :: st))) :
    Wp p l e R s m args below meth c n0 cM sM Q h cells slots (mkF m pc Ls (.long y :: .long x :: st)) := by
  subst hp; exact Wp.pure (fun T t X hr => XS.lor X C.1 rfl (hb C.2.1 hd) rfl hr) K
theorem w_lxor (C : Cx p s m meth c Z own bytes ml rt nm) {pc pc' : Nat} {Ls : Array Slot} {st : List Value} {x y : Int64} (hd : decode bytes pc = .ok (.lxor, 1))  (hp : pc + 1 = pc') (K : Wp p l e R s m args below meth c n0 cM sM Q h cells slots (mkF m pc' Ls (.long (x ^^^ y) :: st))) :
    Wp p l e R s m args below meth c n0 cM sM Q h cells slots (mkF m pc Ls (.long y :: .long x :: st)) := by
  subst hp; exact Wp.pure (fun T t X hr => XS.lxor X C.1 rfl (hb C.2.1 hd) rfl hr) K
theorem w_lshl (C : Cx p s m meth c Z own bytes ml rt nm) {pc pc' : Nat} {Ls : Array Slot} {st : List Value} {x : Int64} {y : Int32} (hd : decode bytes pc = .ok (.lshl, 1))  (hp : pc + 1 = pc') (K : Wp p l e R s m args below meth c n0 cM sM Q h cells slots (mkF m pc' Ls (.long (x <<< (y &&& 0x3f).toInt64) :: st))) :
    Wp p l e R s m args below meth c n0 cM sM Q h cells slots (mkF m pc Ls (.int y :: .long x :: st)) := by
  subst hp; exact Wp.pure (fun T t X hr => XS.lshl X C.1 rfl (hb C.2.1 hd) rfl hr) K
theorem w_lshr (C : Cx p s m meth c Z own bytes ml rt nm) {pc pc' : Nat} {Ls : Array Slot} {st : List Value} {x : Int64} {y : Int32} (hd : decode bytes pc = .ok (.lshr, 1))  (hp : pc + 1 = pc') (K : Wp p l e R s m args below meth c n0 cM sM Q h cells slots (mkF m pc' Ls (.long (x >>> (y &&& 0x3f).toInt64) :: st))) :
    Wp p l e R s m args below meth c n0 cM sM Q h cells slots (mkF m pc Ls (.int y :: .long x :: st)) := by
  subst hp; exact Wp.pure (fun T t X hr => XS.lshr X C.1 rfl (hb C.2.1 hd) rfl hr) K
theorem w_lushr (C : Cx p s m meth c Z own bytes ml rt nm) {pc pc' : Nat} {Ls : Array Slot} {st : List Value} {x : Int64} {y : Int32} (hd : decode bytes pc = .ok (.lushr, 1))  (hp : pc + 1 = pc') (K : Wp p l e R s m args below meth c n0 cM sM Q h cells slots (mkF m pc' Ls (.long ((x.toUInt64 >>> (y &&& 0x3f).toInt64.toUInt64).toInt64) :: st))) :
    Wp p l e R s m args below meth c n0 cM sM Q h cells slots (mkF m pc Ls (.int y :: .long x :: st)) := by
  subst hp; exact Wp.pure (fun T t X hr => XS.lushr X C.1 rfl (hb C.2.1 hd) rfl hr) K
theorem w_idiv (C : Cx p s m meth c Z own bytes ml rt nm) {pc pc' : Nat} {Ls : Array Slot} {st : List Value} {x y : Int32} (hd : decode bytes pc = .ok (.idiv, 1)) (hy : y ≠ 0) (hp : pc + 1 = pc') (K : Wp p l e R s m args below meth c n0 cM sM Q h cells slots (mkF m pc' Ls (.int (x / y) :: st))) :
    Wp p l e R s m args below meth c n0 cM sM Q h cells slots (mkF m pc Ls (.int y :: .int x :: st)) := by
  subst hp; exact Wp.pure (fun T t X hr => XS.idiv X C.1 rfl (hb C.2.1 hd) rfl hy hr) K
theorem w_ldiv (C : Cx p s m meth c Z own bytes ml rt nm) {pc pc' : Nat} {Ls : Array Slot} {st : List Value} {x y : Int64} (hd : decode bytes pc = .ok (.ldiv, 1)) (hy : y ≠ 0) (hp : pc + 1 = pc') (K : Wp p l e R s m args below meth c n0 cM sM Q h cells slots (mkF m pc' Ls (.long (x / y) :: st))) :
    Wp p l e R s m args below meth c n0 cM sM Q h cells slots (mkF m pc Ls (.long y :: .long x :: st)) := by
  subst hp; exact Wp.pure (fun T t X hr => XS.ldiv X C.1 rfl (hb C.2.1 hd) rfl hy hr) K
theorem w_irem (C : Cx p s m meth c Z own bytes ml rt nm) {pc pc' : Nat} {Ls : Array Slot} {st : List Value} {x y : Int32} (hd : decode bytes pc = .ok (.irem, 1)) (hy : y ≠ 0) (hp : pc + 1 = pc') (K : Wp p l e R s m args below meth c n0 cM sM Q h cells slots (mkF m pc' Ls (.int (x % y) :: st))) :
    Wp p l e R s m args below meth c n0 cM sM Q h cells slots (mkF m pc Ls (.int y :: .int x :: st)) := by
  subst hp; exact Wp.pure (fun T t X hr => XS.irem X C.1 rfl (hb C.2.1 hd) rfl hy (by rw [irem_eq_mod x y]; exact hr)) K
theorem w_lrem (C : Cx p s m meth c Z own bytes ml rt nm) {pc pc' : Nat} {Ls : Array Slot} {st : List Value} {x y : Int64} (hd : decode bytes pc = .ok (.lrem, 1)) (hy : y ≠ 0) (hp : pc + 1 = pc') (K : Wp p l e R s m args below meth c n0 cM sM Q h cells slots (mkF m pc' Ls (.long (x % y) :: st))) :
    Wp p l e R s m args below meth c n0 cM sM Q h cells slots (mkF m pc Ls (.long y :: .long x :: st)) := by
  subst hp; exact Wp.pure (fun T t X hr => XS.lrem X C.1 rfl (hb C.2.1 hd) rfl hy (by rw [lrem_mod x y]; exact hr)) K
theorem w_ineg (C : Cx p s m meth c Z own bytes ml rt nm) {pc pc' : Nat} {Ls : Array Slot} {st : List Value} {x : Int32} (hd : decode bytes pc = .ok (.ineg, 1))  (hp : pc + 1 = pc') (K : Wp p l e R s m args below meth c n0 cM sM Q h cells slots (mkF m pc' Ls (.int (-x) :: st))) :
    Wp p l e R s m args below meth c n0 cM sM Q h cells slots (mkF m pc Ls (.int x :: st)) := by
  subst hp; exact Wp.pure (fun T t X hr => XS.ineg X C.1 rfl (hb C.2.1 hd) rfl hr) K
theorem w_lneg (C : Cx p s m meth c Z own bytes ml rt nm) {pc pc' : Nat} {Ls : Array Slot} {st : List Value} {x : Int64} (hd : decode bytes pc = .ok (.lneg, 1))  (hp : pc + 1 = pc') (K : Wp p l e R s m args below meth c n0 cM sM Q h cells slots (mkF m pc' Ls (.long (-x) :: st))) :
    Wp p l e R s m args below meth c n0 cM sM Q h cells slots (mkF m pc Ls (.long x :: st)) := by
  subst hp; exact Wp.pure (fun T t X hr => XS.lneg X C.1 rfl (hb C.2.1 hd) rfl hr) K
theorem w_i2l (C : Cx p s m meth c Z own bytes ml rt nm) {pc pc' : Nat} {Ls : Array Slot} {st : List Value} {x : Int32} (hd : decode bytes pc = .ok (.i2l, 1))  (hp : pc + 1 = pc') (K : Wp p l e R s m args below meth c n0 cM sM Q h cells slots (mkF m pc' Ls (.long x.toInt64 :: st))) :
    Wp p l e R s m args below meth c n0 cM sM Q h cells slots (mkF m pc Ls (.int x :: st)) := by
  subst hp; exact Wp.pure (fun T t X hr => XS.i2l X C.1 rfl (hb C.2.1 hd) rfl hr) K
theorem w_l2i (C : Cx p s m meth c Z own bytes ml rt nm) {pc pc' : Nat} {Ls : Array Slot} {st : List Value} {x : Int64} (hd : decode bytes pc = .ok (.l2i, 1))  (hp : pc + 1 = pc') (K : Wp p l e R s m args below meth c n0 cM sM Q h cells slots (mkF m pc' Ls (.int x.toInt32 :: st))) :
    Wp p l e R s m args below meth c n0 cM sM Q h cells slots (mkF m pc Ls (.long x :: st)) := by
  subst hp; exact Wp.pure (fun T t X hr => XS.l2i X C.1 rfl (hb C.2.1 hd) rfl hr) K
theorem w_i2b (C : Cx p s m meth c Z own bytes ml rt nm) {pc pc' : Nat} {Ls : Array Slot} {st : List Value} {x : Int32} (hd : decode bytes pc = .ok (.i2b, 1))  (hp : pc + 1 = pc') (K : Wp p l e R s m args below meth c n0 cM sM Q h cells slots (mkF m pc' Ls (.int x.toInt8.toInt32 :: st))) :
    Wp p l e R s m args below meth c n0 cM sM Q h cells slots (mkF m pc Ls (.int x :: st)) := by
  subst hp; exact Wp.pure (fun T t X hr => XS.i2b X C.1 rfl (hb C.2.1 hd) rfl hr) K
theorem w_i2s (C : Cx p s m meth c Z own bytes ml rt nm) {pc pc' : Nat} {Ls : Array Slot} {st : List Value} {x : Int32} (hd : decode bytes pc = .ok (.i2s, 1))  (hp : pc + 1 = pc') (K : Wp p l e R s m args below meth c n0 cM sM Q h cells slots (mkF m pc' Ls (.int x.toInt16.toInt32 :: st))) :
    Wp p l e R s m args below meth c n0 cM sM Q h cells slots (mkF m pc Ls (.int x :: st)) := by
  subst hp; exact Wp.pure (fun T t X hr => XS.i2s X C.1 rfl (hb C.2.1 hd) rfl hr) K
/-- i2c -/
def toCh (x : Int32) : Int32 := x.toUInt32.toUInt16.toUInt32.toInt32
theorem w_i2c (C : Cx p s m meth c Z own bytes ml rt nm) {pc pc' : Nat} {Ls : Array Slot} {st : List Value} {x : Int32} (hd : decode bytes pc = .ok (.i2c, 1))  (hp : pc + 1 = pc') (K : Wp p l e R s m args below meth c n0 cM sM Q h cells slots (mkF m pc' Ls (.int (toCh x) :: st))) :
    Wp p l e R s m args below meth c n0 cM sM Q h cells slots (mkF m pc Ls (.int x :: st)) := by
  subst hp; exact Wp.pure (fun T t X hr => XS.i2c X C.1 rfl (hb C.2.1 hd) rfl hr) K
/-- lcmp -/
def cmpJ (x y : Int64) : Int32 := if x > y then 1 else if x = y then 0 else -1
theorem w_lcmp (C : Cx p s m meth c Z own bytes ml rt nm) {pc pc' : Nat} {Ls : Array Slot} {st : List Value} {x y : Int64} (hd : decode bytes pc = .ok (.lcmp, 1))  (hp : pc + 1 = pc') (K : Wp p l e R s m args below meth c n0 cM sM Q h cells slots (mkF m pc' Ls (.int (cmpJ x y) :: st))) :
    Wp p l e R s m args below meth c n0 cM sM Q h cells slots (mkF m pc Ls (.long y :: .long x :: st)) := by
  subst hp; exact Wp.pure (fun T t X hr => XS.lcmp X C.1 rfl (hb C.2.1 hd) rfl hr) K
theorem w_dup (C : Cx p s m meth c Z own bytes ml rt nm) {pc pc' : Nat} {Ls : Array Slot} {st : List Value} {v : Value} (hd : decode bytes pc = .ok (.dup, 1)) (hc : v.category = 1) (hp : pc + 1 = pc') (K : Wp p l e R s m args below meth c n0 cM sM Q h cells slots (mkF m pc' Ls (v :: v :: st))) :
    Wp p l e R s m args below meth c n0 cM sM Q h cells slots (mkF m pc Ls (v :: st)) := by
  subst hp; exact Wp.pure (fun T t X hr => XS.dup X C.1 rfl (hb C.2.1 hd) rfl hc hr) K
theorem w_pop (C : Cx p s m meth c Z own bytes ml rt nm) {pc pc' : Nat} {Ls : Array Slot} {st : List Value} {v : Value} (hd : decode bytes pc = .ok (.pop, 1)) (hc : v.category = 1) (hp : pc + 1 = pc') (K : Wp p l e R s m args below meth c n0 cM sM Q h cells slots (mkF m pc' Ls st)) :
    Wp p l e R s m args below meth c n0 cM sM Q h cells slots (mkF m pc Ls (v :: st)) := by
  subst hp; exact Wp.pure (fun T t X hr => XS.pop X C.1 rfl (hb C.2.1 hd) rfl hc hr) K
theorem w_dupX1 (C : Cx p s m meth c Z own bytes ml rt nm) {pc pc' : Nat} {Ls : Array Slot} {st : List Value} {v w : Value} (hd : decode bytes pc = .ok (.dup_x1, 1)) (hc : v.category = 1) (hc' : w.category = 1) (hp : pc + 1 = pc') (K : Wp p l e R s m args below meth c n0 cM sM Q h cells slots (mkF m pc' Ls (v :: w :: v :: st))) :
    Wp p l e R s m args below meth c n0 cM sM Q h cells slots (mkF m pc Ls (v :: w :: st)) := by
  subst hp; exact Wp.pure (fun T t X hr => XS.dupX1 X C.1 rfl (hb C.2.1 hd) rfl hc hc' hr) K
theorem w_dup2 (C : Cx p s m meth c Z own bytes ml rt nm) {pc pc' : Nat} {Ls : Array Slot} {st : List Value} {v w : Value} (hd : decode bytes pc = .ok (.dup2, 1)) (hc : v.category = 1) (hc' : w.category = 1) (hp : pc + 1 = pc') (K : Wp p l e R s m args below meth c n0 cM sM Q h cells slots (mkF m pc' Ls (v :: w :: v :: w :: st))) :
    Wp p l e R s m args below meth c n0 cM sM Q h cells slots (mkF m pc Ls (v :: w :: st)) := by
  subst hp; exact Wp.pure (fun T t X hr => XT.dup2 X C.1 rfl (hb C.2.1 hd) rfl hc hc' hr) K
theorem w_eqI {pc : Nat} {Ls : Array Slot} {st : List Value} {x z : Int32} (hz : x = z) (K : Wp p l e R s m args below meth c n0 cM sM Q h cells slots (mkF m pc Ls (.int z :: st))) :
    Wp p l e R s m args below meth c n0 cM sM Q h cells slots (mkF m pc Ls (.int x :: st)) := by
  subst hz; exact K
theorem w_eqJ {pc : Nat} {Ls : Array Slot} {st : List Value} {x z : Int64} (hz : x = z) (K : Wp p l e R s m args below meth c n0 cM sM Q h cells slots (mkF m pc Ls (.long z :: st))) :
    Wp p l e R s m args below meth c n0 cM sM Q h cells slots (mkF m pc Ls (.long x :: st)) := by
  subst hz; exact K
theorem w_iincE (C : Cx p s m meth c Z own bytes ml rt nm) {pc pc' : Nat} {Ls Ls' : Array Slot} {st : List Value} {k : Nat} {cst : Int} {x z : Int32} (hd : decode bytes pc = .ok (.iinc k cst, 3)) (hx : Ls[k]? = some (.val (.int x))) (hz : x + Int32.ofInt cst = z) (hl : storeLocals Ls k (.int z) = some Ls') (hp : pc + 3 = pc') (K : Wp p l e R s m args below meth c n0 cM sM Q h cells slots (mkF m pc' Ls' st)) :
    Wp p l e R s m args below meth c n0 cM sM Q h cells slots (mkF m pc Ls st) := by
  subst hz; exact w_iinc C hd hx hl hp K
theorem w_goto (C : Cx p s m meth c Z own bytes ml rt nm) {pc pc' : Nat} {Ls : Array Slot} {st : List Value} {o : Int} (hd : decode bytes pc = .ok (.goto o, 3)) (ho : 0 ≤ (pc : Int) + o) (hp : ((pc : Int) + o).toNat = pc') (K : Wp p l e R s m args below meth c n0 cM sM Q h cells slots (mkF m pc' Ls st)) :
    Wp p l e R s m args below meth c n0 cM sM Q h cells slots (mkF m pc Ls st) :=
  Wp.pure (fun T t X hr => XS.goto X C.1 rfl rfl (hb C.2.1 hd) ho hp hr) K
theorem w_icmp_lt (C : Cx p s m meth c Z own bytes ml rt nm) {pc pcT pcF : Nat} {Ls : Array Slot} {st : List Value} {x y : Int32} {o : Int} (hd : decode bytes pc = .ok (.if_icmp .lt o, 3)) (ho : 0 ≤ (pc : Int) + o) (hT : ((pc : Int) + o).toNat = pcT) (hF : pc + 3 = pcF)
    (KT : x < y → Wp p l e R s m args below meth c n0 cM sM Q h cells slots (mkF m pcT Ls st)) (KF : ¬ x < y → Wp p l e R s m args below meth c n0 cM sM Q h cells slots (mkF m pcF Ls st)) :
    Wp p l e R s m args below meth c n0 cM sM Q h cells slots (mkF m pc Ls (.int y :: .int x :: st)) := by
  subst hF
  by_cases q : x < y
  · exact Wp.pure (fun T t X hr => XS.icmpYes X C.1 rfl rfl (hb C.2.1 hd) rfl (tlt q).1 ho hT hr) (KT q)
  · exact Wp.pure (fun T t X hr => XS.icmpNo X C.1 rfl (hb C.2.1 hd) rfl (flt q).1 hr) (KF q)
theorem w_if_lt (C : Cx p s m meth c Z own bytes ml rt nm) {pc pcT pcF : Nat} {Ls : Array Slot} {st : List Value} {x : Int32} {o : Int} (hd : decode bytes pc = .ok (.ifCond .lt o, 3)) (ho : 0 ≤ (pc : Int) + o) (hT : ((pc : Int) + o).toNat = pcT) (hF : pc + 3 = pcF)
    (KT : x < 0 → Wp p l e R s m args below meth c n0 cM sM Q h cells slots (mkF m pcT Ls st)) (KF : ¬ x < 0 → Wp p l e R s m args below meth c n0 cM sM Q h cells slots (mkF m pcF Ls st)) :
    Wp p l e R s m args below meth c n0 cM sM Q h cells slots (mkF m pc Ls (.int x :: st)) := by
  subst hF
  by_cases q : x < 0
  · exact Wp.pure (fun T t X hr => XS.ifYes X C.1 rfl rfl (hb C.2.1 hd) rfl ((if0 _ _).trans (tlt q).1) ho hT hr) (KT q)
  · exact Wp.pure (fun T t X hr => XS.ifNo X C.1 rfl (hb C.2.1 hd) rfl ((if0 _ _).trans (flt q).1) hr) (KF q)
theorem w_icmp_ge (C : Cx p s m meth c Z own bytes ml rt nm) {pc pcT pcF : Nat} {Ls : Array Slot} {st : List Value} {x y : Int32} {o : Int} (hd : decode bytes pc = .ok (.if_icmp .ge o, 3)) (ho : 0 ≤ (pc : Int) + o) (hT : ((pc : Int) + o).toNat = pcT) (hF : pc + 3 = pcF)
    (KT : ¬ x < y → Wp p l e R s m args below meth c n0 cM sM Q h cells slots (mkF m pcT Ls st)) (KF : x < y → Wp p l e R s m args below meth c n0 cM sM Q h cells slots (mkF m pcF Ls st)) :
    Wp p l e R s m args below meth c n0 cM sM Q h cells slots (mkF m pc Ls (.int y :: .int x :: st)) := by
  subst hF
  by_cases q : ¬ x < y
  · exact Wp.pure (fun T t X hr => XS.icmpYes X C.1 rfl rfl (hb C.2.1 hd) rfl (flt q).2.1 ho hT hr) (KT q)
  · exact Wp.pure (fun T t X hr => XS.icmpNo X C.1 rfl (hb C.2.1 hd) rfl (tlt (Classical.not_not.mp q)).2.1 hr) (KF (Classical.not_not.mp q))
theorem w_if_ge (C : Cx p s m meth c Z own bytes ml rt nm) {pc pcT pcF : Nat} {Ls : Array Slot} {st : List Value} {x : Int32} {o : Int} (hd : decode bytes pc = .ok (.ifCond .ge o, 3)) (ho : 0 ≤ (pc : Int) + o) (hT : ((pc : Int) + o).toNat = pcT) (hF : pc + 3 = pcF)
    (KT : ¬ x < 0 → Wp p l e R s m args below meth c n0 cM sM Q h cells slots (mkF m pcT Ls st)) (KF : x < 0 → Wp p l e R s m args below meth c n0 cM sM Q h cells slots (mkF m pcF Ls st)) :
    Wp p l e R s m args below meth c n0 cM sM Q h cells slots (mkF m pc Ls (.int x :: st)) := by
  subst hF
  by_cases q : ¬ x < 0
  · exact Wp.pure (fun T t X hr => XS.ifYes X C.1 rfl rfl (hb C.2.1 hd) rfl ((if0 _ _).trans (flt q).2.1) ho hT hr) (KT q)
  · exact Wp.pure (fun T t X hr => XS.ifNo X C.1 rfl (hb C.2.1 hd) rfl ((if0 _ _).trans (tlt (Classical.not_not.mp q)).2.1) hr) (KF (Classical.not_not.mp q))
theorem w_icmp_gt (C : Cx p s m meth c Z own bytes ml rt nm) {pc pcT pcF : Nat} {Ls : Array Slot} {st : List Value} {x y : Int32} {o : Int} (hd : decode bytes pc = .ok (.if_icmp .gt o, 3)) (ho : 0 ≤ (pc : Int) + o) (hT : ((pc : Int) + o).toNat = pcT) (hF : pc + 3 = pcF)
    (KT : y < x → Wp p l e R s m args below meth c n0 cM sM Q h cells slots (mkF m pcT Ls st)) (KF : ¬ y < x → Wp p l e R s m args below meth c n0 cM sM Q h cells slots (mkF m pcF Ls st)) :
    Wp p l e R s m args below meth c n0 cM sM Q h cells slots (mkF m pc Ls (.int y :: .int x :: st)) := by
  subst hF
  by_cases q : y < x
  · exact Wp.pure (fun T t X hr => XS.icmpYes X C.1 rfl rfl (hb C.2.1 hd) rfl (tlt q).2.2.1 ho hT hr) (KT q)
  · exact Wp.pure (fun T t X hr => XS.icmpNo X C.1 rfl (hb C.2.1 hd) rfl (flt q).2.2.1 hr) (KF q)
theorem w_if_gt (C : Cx p s m meth c Z own bytes ml rt nm) {pc pcT pcF : Nat} {Ls : Array Slot} {st : List Value} {x : Int32} {o : Int} (hd : decode bytes pc = .ok (.ifCond .gt o, 3)) (ho : 0 ≤ (pc : Int) + o) (hT : ((pc : Int) + o).toNat = pcT) (hF : pc + 3 = pcF)
    (KT : 0 < x → Wp p l e R s m args below meth c n0 cM sM Q h cells slots (mkF m pcT Ls st)) (KF : ¬ 0 < x → Wp p l e R s m args below meth c n0 cM sM Q h cells slots (mkF m pcF Ls st)) :
    Wp p l e R s m args below meth c n0 cM sM Q h cells slots (mkF m pc Ls (.int x :: st)) := by
  subst hF
  by_cases q : 0 < x
  · exact Wp.pure (fun T t X hr => XS.ifYes X C.1 rfl rfl (hb C.2.1 hd) rfl ((if0 _ _).trans (tlt q).2.2.1) ho hT hr) (KT q)
  · exact Wp.pure (fun T t X hr => XS.ifNo X C.1 rfl (hb C.2.1 hd) rfl ((if0 _ _).trans (flt q).2.2.1) hr) (KF q)
theorem w_icmp_le (C : Cx p s m meth c Z own bytes ml rt nm) {pc pcT pcF : Nat} {Ls : Array Slot} {st : List Value} {x y : Int32} {o : Int} (hd : decode bytes pc = .ok (.if_icmp .le o, 3)) (ho : 0 ≤ (pc : Int) + o) (hT : ((pc : Int) + o).toNat = pcT) (hF : pc + 3 = pcF)
    (KT : ¬ y < x → Wp p l e R s m args below meth c n0 cM sM Q h cells slots (mkF m pcT Ls st)) (KF : y < x → Wp p l e R s m args below meth c n0 cM sM Q h cells slots (mkF m pcF Ls st)) :
    Wp p l e R s m args below meth c n0 cM sM Q h cells slots (mkF m pc Ls (.int y :: .int x :: st)) := by
  subst hF
  by_cases q : ¬ y < x
  · exact Wp.pure (fun T t X hr => XS.icmpYes X C.1 rfl rfl (hb C.2.1 hd) rfl (flt q).2.2.2 ho hT hr) (KT q)
  · exact Wp.pure (fun T t X hr => XS.icmpNo X C.1 rfl (hb C.2.1 hd) rfl (tlt (Classical.not_not.mp q)).2.2.2 hr) (KF (Classical.not_not.mp q))
theorem w_if_le (C : Cx p s m meth c Z own bytes ml rt nm) {pc pcT pcF : Nat} {Ls : Array Slot} {st : List Value} {x : Int32} {o : Int} (hd : decode bytes pc = .ok (.ifCond .le o, 3)) (ho : 0 ≤ (pc : Int) + o) (hT : ((pc : Int) + o).toNat = pcT) (hF : pc + 3 = pcF)
    (KT : ¬ 0 < x → Wp p l e R s m args below meth c n0 cM sM Q h cells slots (mkF m pcT Ls st)) (KF : 0 < x → Wp p l e R s m args below meth c n0 cM sM Q h cells slots (mkF m pcF Ls st)) :
    Wp p l e R s m args below meth c n0 cM sM Q h cells slots (mkF m pc Ls (.int x :: st)) := by
  subst hF
  by_cases q : ¬ 0 < x
  · exact Wp.pure (fun T t X hr => XS.ifYes X C.1 rfl rfl (hb C.2.1 hd) rfl ((if0 _ _).trans (flt q).2.2.2) ho hT hr) (KT q)
  · exact Wp.pure (fun T t X hr => XS.ifNo X C.1 rfl (hb C.2.1 hd) rfl ((if0 _ _).trans (tlt (Classical.not_not.mp q)).2.2.2) hr) (KF (Classical.not_not.mp q))
theorem w_icmp_eq (C : Cx p s m meth c Z own bytes ml rt nm) {pc pcT pcF : Nat} {Ls : Array Slot} {st : List Value} {x y : Int32} {o : Int} (hd : decode bytes pc = .ok (.if_icmp .eq o, 3)) (ho : 0 ≤ (pc : Int) + o) (hT : ((pc : Int) + o).toNat = pcT) (hF : pc + 3 = pcF)
    (KT : x = y → Wp p l e R s m args below meth c n0 cM sM Q h cells slots (mkF m pcT Ls st)) (KF : ¬ x = y → Wp p l e R s m args below meth c n0 cM sM Q h cells slots (mkF m pcF Ls st)) :
    Wp p l e R s m args below meth c n0 cM sM Q h cells slots (mkF m pc Ls (.int y :: .int x :: st)) := by
  subst hF
  by_cases q : x = y
  · exact Wp.pure (fun T t X hr => XS.icmpYes X C.1 rfl rfl (hb C.2.1 hd) rfl (teq q).1 ho hT hr) (KT q)
  · exact Wp.pure (fun T t X hr => XS.icmpNo X C.1 rfl (hb C.2.1 hd) rfl (feq q).1 hr) (KF q)
theorem w_if_eq (C : Cx p s m meth c Z own bytes ml rt nm) {pc pcT pcF : Nat} {Ls : Array Slot} {st : List Value} {x : Int32} {o : Int} (hd : decode bytes pc = .ok (.ifCond .eq o, 3)) (ho : 0 ≤ (pc : Int) + o) (hT : ((pc : Int) + o).toNat = pcT) (hF : pc + 3 = pcF)
    (KT : x = 0 → Wp p l e R s m args below meth c n0 cM sM Q h cells slots (mkF m pcT Ls st)) (KF : ¬ x = 0 → Wp p l e R s m args below meth c n0 cM sM Q h cells slots (mkF m pcF Ls st)) :
    Wp p l e R s m args below meth c n0 cM sM Q h cells slots (mkF m pc Ls (.int x :: st)) := by
  subst hF
  by_cases q : x = 0
  · exact Wp.pure (fun T t X hr => XS.ifYes X C.1 rfl rfl (hb C.2.1 hd) rfl ((if0 _ _).trans (teq q).1) ho hT hr) (KT q)
  · exact Wp.pure (fun T t X hr => XS.ifNo X C.1 rfl (hb C.2.1 hd) rfl ((if0 _ _).trans (feq q).1) hr) (KF q)
theorem w_icmp_ne (C : Cx p s m meth c Z own bytes ml rt nm) {pc pcT pcF : Nat} {Ls : Array Slot} {st : List Value} {x y : Int32} {o : Int} (hd : decode bytes pc = .ok (.if_icmp .ne o, 3)) (ho : 0 ≤ (pc : Int) + o) (hT : ((pc : Int) + o).toNat = pcT) (hF : pc + 3 = pcF)
    (KT : ¬ x = y → Wp p l e R s m args below meth c n0 cM sM Q h cells slots (mkF m pcT Ls st)) (KF : x = y → Wp p l e R s m args below meth c n0 cM sM Q h cells slots (mkF m pcF Ls st)) :
    Wp p l e R s m args below meth c n0 cM sM Q h cells slots (mkF m pc Ls (.int y :: .int x :: st)) := by
  subst hF
  by_cases q : ¬ x = y
  · exact Wp.pure (fun T t X hr => XS.icmpYes X C.1 rfl rfl (hb C.2.1 hd) rfl (feq q).2 ho hT hr) (KT q)
  · exact Wp.pure (fun T t X hr => XS.icmpNo X C.1 rfl (hb C.2.1 hd) rfl (teq (Classical.not_not.mp q)).2 hr) (KF (Classical.not_not.mp q))
theorem w_if_ne (C : Cx p s m meth c Z own bytes ml rt nm) {pc pcT pcF : Nat} {Ls : Array Slot} {st : List Value} {x : Int32} {o : Int} (hd : decode bytes pc = .ok (.ifCond .ne o, 3)) (ho : 0 ≤ (pc : Int) + o) (hT : ((pc : Int) + o).toNat = pcT) (hF : pc + 3 = pcF)
    (KT : ¬ x = 0 → Wp p l e R s m args below meth c n0 cM sM Q h cells slots (mkF m pcT Ls st)) (KF : x = 0 → Wp p l e R s m args below meth c n0 cM sM Q h cells slots (mkF m pcF Ls st)) :
    Wp p l e R s m args below meth c n0 cM sM Q h cells slots (mkF m pc Ls (.int x :: st)) := by
  subst hF
  by_cases q : ¬ x = 0
  · exact Wp.pure (fun T t X hr => XS.ifYes X C.1 rfl rfl (hb C.2.1 hd) rfl ((if0 _ _).trans (feq q).2) ho hT hr) (KT q)
  · exact Wp.pure (fun T t X hr => XS.ifNo X C.1 rfl (hb C.2.1 hd) rfl ((if0 _ _).trans (teq (Classical.not_not.mp q)).2) hr) (KF (Classical.not_not.mp q))
theorem w_ifnull_null (C : Cx p s m meth c Z own bytes ml rt nm) {pc pc' : Nat} {Ls : Array Slot} {st : List Value}  {o : Int} (hd : decode bytes pc = .ok (.ifnull o, 3)) (ho : 0 ≤ (pc : Int) + o) (hp : ((pc : Int) + o).toNat = pc') (K : Wp p l e R s m args below meth c n0 cM sM Q h cells slots (mkF m pc' Ls st)) :
    Wp p l e R s m args below meth c n0 cM sM Q h cells slots (mkF m pc Ls (.null :: st)) :=
  Wp.pure (fun T t X hr => XS.ifnullYes X C.1 rfl rfl (hb C.2.1 hd) rfl ho hp hr) K
theorem w_ifnull_ref (C : Cx p s m meth c Z own bytes ml rt nm) {pc pc' : Nat} {Ls : Array Slot} {st : List Value} {b : Addr} {o : Int} (hd : decode bytes pc = .ok (.ifnull o, 3)) (hp : pc + 3 = pc') (K : Wp p l e R s m args below meth c n0 cM sM Q h cells slots (mkF m pc' Ls st)) :
    Wp p l e R s m args below meth c n0 cM sM Q h cells slots (mkF m pc Ls (.ref b :: st)) := by
  subst hp; exact Wp.pure (fun T t X hr => XS.ifnullNo X C.1 rfl (hb C.2.1 hd) rfl hr) K
theorem w_ifnonnull_ref (C : Cx p s m meth c Z own bytes ml rt nm) {pc pc' : Nat} {Ls : Array Slot} {st : List Value} {b : Addr} {o : Int} (hd : decode bytes pc = .ok (.ifnonnull o, 3)) (ho : 0 ≤ (pc : Int) + o) (hp : ((pc : Int) + o).toNat = pc') (K : Wp p l e R s m args below meth c n0 cM sM Q h cells slots (mkF m pc' Ls st)) :
    Wp p l e R s m args below meth c n0 cM sM Q h cells slots (mkF m pc Ls (.ref b :: st)) :=
  Wp.pure (fun T t X hr => XS.ifnonnullYes X C.1 rfl rfl (hb C.2.1 hd) rfl ho hp hr) K
theorem w_ifnonnull_null (C : Cx p s m meth c Z own bytes ml rt nm) {pc pc' : Nat} {Ls : Array Slot} {st : List Value}  {o : Int} (hd : decode bytes pc = .ok (.ifnonnull o, 3)) (hp : pc + 3 = pc') (K : Wp p l e R s m args below meth c n0 cM sM Q h cells slots (mkF m pc' Ls st)) :
    Wp p l e R s m args below meth c n0 cM sM Q h cells slots (mkF m pc Ls (.null :: st)) := by
  subst hp; exact Wp.pure (fun T t X hr => XS.ifnonnullNo X C.1 rfl (hb C.2.1 hd) rfl hr) K
theorem w_acmp_eq (C : Cx p s m meth c Z own bytes ml rt nm) {pc pcT pcF : Nat} {Ls : Array Slot} {st : List Value} {v w : Value} {o : Int} (hv : v.isRef = true) (hw : w.isRef = true) (hd : decode bytes pc = .ok (.if_acmp .eq o, 3)) (ho : 0 ≤ (pc : Int) + o) (hT : ((pc : Int) + o).toNat = pcT) (hF : pc + 3 = pcF)
    (KT : v = w → Wp p l e R s m args below meth c n0 cM sM Q h cells slots (mkF m pcT Ls st)) (KF : ¬ v = w → Wp p l e R s m args below meth c n0 cM sM Q h cells slots (mkF m pcF Ls st)) :
    Wp p l e R s m args below meth c n0 cM sM Q h cells slots (mkF m pc Ls (w :: v :: st)) := by
  intro T locs X e0 N
  by_cases q : v = w
  · obtain ⟨s2, u, L, a, r⟩ := KT q T locs X e0 N
    exact ⟨s2, u, L, Jvm.RoadKit.acmp (g := mkF m pc Ls (w :: v :: st)) X C.1 rfl hv hw (pc0 := pc) (same := true) rfl (hb C.2.1 hd) rfl (decide_eq_true q) ho (by simp [acV, hT, hF]) a, r⟩
  · obtain ⟨s2, u, L, a, r⟩ := KF q T locs X e0 N
    exact ⟨s2, u, L, Jvm.RoadKit.acmp (g := mkF m pc Ls (w :: v :: st)) X C.1 rfl hv hw (pc0 := pc) (same := false) rfl (hb C.2.1 hd) rfl (decide_eq_false q) ho (by simp [acV, hT, hF]) a, r⟩
theorem w_acmp_ne (C : Cx p s m meth c Z own bytes ml rt nm) {pc pcT pcF : Nat} {Ls : Array Slot} {st : List Value} {v w : Value} {o : Int} (hv : v.isRef = true) (hw : w.isRef = true) (hd : decode bytes pc = .ok (.if_acmp .ne o, 3)) (ho : 0 ≤ (pc : Int) + o) (hT : ((pc : Int) + o).toNat = pcT) (hF : pc + 3 = pcF)
    (KT : ¬ v = w → Wp p l e R s m args below meth c n0 cM sM Q h cells slots (mkF m pcT Ls st)) (KF : v = w → Wp p l e R s m args below meth c n0 cM sM Q h cells slots (mkF m pcF Ls st)) :
    Wp p l e R s m args below meth c n0 cM sM Q h cells slots (mkF m pc Ls (w :: v :: st)) := by
  intro T locs X e0 N
  by_cases q : v = w
  · obtain ⟨s2, u, L, a, r⟩ := KF q T locs X e0 N
    exact ⟨s2, u, L, Jvm.RoadKit.acmp (g := mkF m pc Ls (w :: v :: st)) X C.1 rfl hv hw (pc0 := pc) (same := true) rfl (hb C.2.1 hd) rfl (decide_eq_true q) ho (by simp [acV, hT, hF]) a, r⟩
  · obtain ⟨s2, u, L, a, r⟩ := KT q T locs X e0 N
    exact ⟨s2, u, L, Jvm.RoadKit.acmp (g := mkF m pc Ls (w :: v :: st)) X C.1 rfl hv hw (pc0 := pc) (same := false) rfl (hb C.2.1 hd) rfl (decide_eq_false q) ho (by simp [acV, hT, hF]) a, r⟩
theorem w_ldcI (C : Cx p s m meth c Z own bytes ml rt nm) {pc pc' : Nat} {Ls : Array Slot} {st : List Value} {i : Nat} {x : Int32} (w : (Jvm.Cond.constant own i x).before a0 Z = true) (hd : decode bytes pc = .ok (.ldc i, 2)) (hp : pc + 2 = pc') (K : Wp p l e R s m args below meth c n0 cM sM Q h cells slots (mkF m pc' Ls (.int x :: st))) :
    Wp p l e R s m args below meth c n0 cM sM Q h cells slots (mkF m pc Ls st) := by
  subst hp; intro T locs X e0 N
  obtain ⟨s2, v, L, a, r⟩ := K T locs X e0 N
  exact ⟨s2, v, L, X.ldcInt C.1 C.2.2.2.1 (mvT C.2.2.1 w) (g := mkF m pc Ls st) rfl (hb C.2.1 hd) _ a, r⟩
theorem w_ldcwI (C : Cx p s m meth c Z own bytes ml rt nm) {pc pc' : Nat} {Ls : Array Slot} {st : List Value} {i : Nat} {x : Int32} (w : (Jvm.Cond.constant own i x).before a0 Z = true) (hd : decode bytes pc = .ok (.ldc_w i, 3)) (hp : pc + 3 = pc') (K : Wp p l e R s m args below meth c n0 cM sM Q h cells slots (mkF m pc' Ls (.int x :: st))) :
    Wp p l e R s m args below meth c n0 cM sM Q h cells slots (mkF m pc Ls st) := by
  subst hp; intro T locs X e0 N
  obtain ⟨s2, v, L, a, r⟩ := K T locs X e0 N
  exact ⟨s2, v, L, X.ldcwInt C.1 C.2.2.2.1 (mvT C.2.2.1 w) (g := mkF m pc Ls st) rfl (hb C.2.1 hd) _ a, r⟩
theorem w_ldc2J (C : Cx p s m meth c Z own bytes ml rt nm) {pc pc' : Nat} {Ls : Array Slot} {st : List Value} {i : Nat} {x : Int64} (w : (Jvm.Cond.constantLong own i x).before a0 Z = true) (hd : decode bytes pc = .ok (.ldc2_w i, 3)) (hp : pc + 3 = pc') (K : Wp p l e R s m args below meth c n0 cM sM Q h cells slots (mkF m pc' Ls (.long x :: st))) :
    Wp p l e R s m args below meth c n0 cM sM Q h cells slots (mkF m pc Ls st) := by
  subst hp; intro T locs X e0 N
  obtain ⟨s2, v, L, a, r⟩ := K T locs X e0 N
  exact ⟨s2, v, L, X.ldc2Long C.1 C.2.2.2.1 (mvT C.2.2.1 w) (g := mkF m pc Ls st) rfl (hb C.2.1 hd) _ a, r⟩
theorem w_retN (C : Cx p s m meth c Z own bytes ml rt nm) {pc : Nat} {Ls : Array Slot} {st : List Value} {z : Int32} {t : FieldType} (hrt : rt = some t) (ht : t = .boolean ∨ t = .byte ∨ t = .char ∨ t = .short) (hd : decode bytes pc = .ok (.ireturn, 1)) (hc : cells ≤ cM) (hs : slots ≤ sM) (q : Q (some (.int (nar t z))) h) :
    Wp p l e R s m args below meth c n0 cM sM Q h cells slots (mkF m pc Ls (.int z :: st)) :=
  have hr : meth.sig.returnType = some t := C.2.2.2.2.2.1.trans hrt
  Wp.ret C (fun T fs locs X hl => retN X C.1 hr ht (hb C.2.1 hd) hl) (fun q => by rw [hr] at q; cases q) hc hs q
theorem narB0 : nar .boolean 0 = 0 := by decide
theorem narB1 : nar .boolean 1 = 1 := by decide
theorem w_retN' (C : Cx p s m meth c Z own bytes ml rt nm) {pc : Nat} {Ls : Array Slot} {st : List Value} {z z' : Int32} {t : FieldType} (hrt : rt = some t) (ht : t = .boolean ∨ t = .byte ∨ t = .char ∨ t = .short) (hd : decode bytes pc = .ok (.ireturn, 1)) (hc : cells ≤ cM) (hs : slots ≤ sM) (hz : nar t z = z') (q : Q (some (.int z')) h) :
    Wp p l e R s m args below meth c n0 cM sM Q h cells slots (mkF m pc Ls (.int z :: st)) := by
  subst hz; exact w_retN C hrt ht hd hc hs q
theorem ireturn_step {T : State} {locs : List Loc} (X : Stand p l e R s m args below meth c T locs cells slots) (hx : p.tables.exec = Jvm.exec) {pc : Nat} {Ls : Array Slot} {z : Int32} {rest : List Value} (hret : meth.sig.returnType = some .int) (hd : decode c.code pc = .ok (.ireturn, 1)) {fs : List Frame}
    (hl : ∀ (f : JFrame) (acts : List Action), f.method = m → f.locked = none → f.entered = [] → (doReturn e (T.setTop f) acts (some (.int z))).1 = T.setFrames fs) : Steps p.tables e below (T.setTop (mkF m pc Ls (.int z :: rest))) (T.setFrames fs) :=
  retOut X hx (t := .int) (i := .ireturn) hret rfl (Or.inl ⟨rfl, Or.inl rfl, _, rfl⟩) hd hl
theorem w_retI (C : Cx p s m meth c Z own bytes ml rt nm) {pc : Nat} {Ls : Array Slot} {st : List Value} {z : Int32} (hrt : rt = some .int) (hd : decode bytes pc = .ok (.ireturn, 1)) (hc : cells ≤ cM) (hs : slots ≤ sM) (q : Q (some (.int z)) h) :
    Wp p l e R s m args below meth c n0 cM sM Q h cells slots (mkF m pc Ls (.int z :: st)) :=
  have hr : meth.sig.returnType = some .int := C.2.2.2.2.2.1.trans hrt
  Wp.ret C (fun T fs locs X hl => ireturn_step X C.1 hr (hb C.2.1 hd) hl) (fun q => by rw [hr] at q; cases q) hc hs q
theorem w_retJ (C : Cx p s m meth c Z own bytes ml rt nm) {pc : Nat} {Ls : Array Slot} {st : List Value} {z : Int64} (hrt : rt = some .long) (hd : decode bytes pc = .ok (.lreturn, 1)) (hc : cells ≤ cM) (hs : slots ≤ sM) (q : Q (some (.long z)) h) :
    Wp p l e R s m args below meth c n0 cM sM Q h cells slots (mkF m pc Ls (.long z :: st)) :=
  have hr : meth.sig.returnType = some .long := C.2.2.2.2.2.1.trans hrt
  Wp.ret C (fun T fs locs X hl => retOut X C.1 (t := .long) (i := .lreturn) hr rfl (Or.inr (Or.inl ⟨rfl, rfl, _, rfl⟩)) (hb C.2.1 hd) hl) (fun q => by rw [hr] at q; cases q) hc hs q
theorem w_retA (C : Cx p s m meth c Z own bytes ml rt nm) {pc : Nat} {Ls : Array Slot} {st : List Value} {v : Value} {t : FieldType} (hrt : rt = some t) (ht : t.isReference = true) (hv : v.isRef = true) (hd : decode bytes pc = .ok (.areturn, 1)) (hc : cells ≤ cM) (hs : slots ≤ sM) (q : Q (some v) h) :
    Wp p l e R s m args below meth c n0 cM sM Q h cells slots (mkF m pc Ls (v :: st)) :=
  have hr : meth.sig.returnType = some t := C.2.2.2.2.2.1.trans hrt
  Wp.ret C (fun T fs locs X hl => retOut X C.1 (t := t) (i := .areturn) hr (by cases v <;> simp [Value.isRef] at hv <;> cases t <;> first | rfl | (simp [FieldType.isReference] at ht)) (Or.inr (Or.inr (Or.inr (Or.inr ⟨rfl, ht, hv⟩)))) (hb C.2.1 hd) hl) (fun q => by rw [hr] at q; cases q) hc hs q
theorem w_ret0 (C : Cx p s m meth c Z own bytes ml rt nm) {pc : Nat} {Ls : Array Slot} (hrt : rt = none) (hd : decode bytes pc = .ok (.return_, 1)) (hc : cells ≤ cM) (hs : slots ≤ sM) (q : Q none h) :
    Wp p l e R s m args below meth c n0 cM sM Q h cells slots (mkF m pc Ls []) :=
  have hr : meth.sig.returnType = none := C.2.2.2.2.2.1.trans hrt
  Wp.ret C (fun T fs locs X hl => X.returnOut C.1 hr (hb C.2.1 hd) hl) (fun _ => rfl) hc hs q
theorem w_getF (C : Cx p s m meth c Z own bytes ml rt nm) {pc pc' : Nat} {Ls : Array Slot} {st : List Value} {O n d : String} {i : Nat} {a : Addr} {v : Value} (w : (Jvm.Cond.fieldLink own i O n d).before a0 Z = true) (hd : decode bytes pc = .ok (.getfield i, 3)) (hp : pc + 3 = pc') (F : Fld Z h a O n d v) (K : Wp p l e R s m args below meth c n0 cM sM Q h cells slots (mkF m pc' Ls (v :: st))) :
    Wp p l e R s m args below meth c n0 cM sM Q h cells slots (mkF m pc Ls (.ref a :: st)) := by
  subst hp
  exact Wp.law (fun T locs X e0 => getF X C.1 C.2.2.1 C.2.2.2.1 (host := "") (Or.inl w) Via.refl e0 F (g := mkF m pc Ls (.ref a :: st)) rfl rfl (hb C.2.1 hd)) K
theorem w_getFN (C : Cx p s m meth c Z own bytes ml rt nm) {pc pc' : Nat} {Ls : Array Slot} {st : List Value} {O n d host : String} {i : Nat} {a : Addr} {v : Value} (w : (Jvm.Cond.fieldLinkNest own i O n d host).before a0 Z = true) (hd : decode bytes pc = .ok (.getfield i, 3)) (hp : pc + 3 = pc') (F : Fld Z h a O n d v) (K : Wp p l e R s m args below meth c n0 cM sM Q h cells slots (mkF m pc' Ls (v :: st))) :
    Wp p l e R s m args below meth c n0 cM sM Q h cells slots (mkF m pc Ls (.ref a :: st)) := by
  subst hp
  exact Wp.law (fun T locs X e0 => getF X C.1 C.2.2.1 C.2.2.2.1 (Or.inr w) Via.refl e0 F (g := mkF m pc Ls (.ref a :: st)) rfl rfl (hb C.2.1 hd)) K
theorem w_getS (C : Cx p s m meth c Z own bytes ml rt nm) {pc pc' : Nat} {Ls : Array Slot} {st : List Value} {O n d : String} {i : Nat} {v : Value} (w : (Jvm.Cond.fieldLink own i O n d).before a0 Z = true) (hd : decode bytes pc = .ok (.getstatic i, 3)) (hp : pc + 3 = pc') (F : Sta Z h O n d v) (K : Wp p l e R s m args below meth c n0 cM sM Q h cells slots (mkF m pc' Ls (v :: st))) :
    Wp p l e R s m args below meth c n0 cM sM Q h cells slots (mkF m pc Ls st) := by
  subst hp
  exact Wp.law (fun T locs X e0 => getS X C.1 C.2.2.1 C.2.2.2.1 (host := "") w Via.refl e0 F (g := mkF m pc Ls st) rfl (hb C.2.1 hd)) K
theorem w_putF (C : Cx p s m meth c Z own bytes ml rt nm) {pc pc' : Nat} {Ls : Array Slot} {st : List Value} {O n d Cl : String} {i kk : Nat} {a : Addr} {v old : Value} {ty : FieldType} (w : (Jvm.Cond.fieldLink own i O n d).before a0 Z = true) (L : (Jvm.Cond.lays Cl O n d).before a0 Z = true ∨ ((Jvm.Cond.laysFinal Cl O n d).before a0 Z = true ∧ own = O ∧ nm = "<init>")) (wi : (Jvm.Cond.instantiable Cl kk).before a0 Z = true)
    (hty : parseFieldDescriptor d = some ty) (hn : narrow ty v = v) (hf : fits ty v = true) (hd : decode bytes pc = .ok (.putfield i, 3)) (hp : pc + 3 = pc') (g0 : n0 ≤ a) (F : Fld Z h a O n d old) (E : Exa Z h a Cl)
    (K : ∀ h', Wr h h' a (Jvm.RoadKit.slotOf Z O n d) v → Wp p l e R s m args below meth c n0 cM sM Q h' cells slots (mkF m pc' Ls st)) :
    Wp p l e R s m args below meth c n0 cM sM Q h cells slots (mkF m pc Ls (v :: .ref a :: st)) := by
  subst hp
  intro T locs X e0 N
  obtain ⟨T', h', X', e', W, st'⟩ := putF X C.1 C.2.2.1 C.2.2.2.1 (host := "") (Or.inl w) Via.refl e0 F E (L.imp id fun q => ⟨q.1, q.2.1, C.2.2.2.2.2.2.1.trans q.2.2⟩) wi hty hn hf (g := mkF m pc Ls (v :: .ref a :: st)) rfl rfl (hb C.2.1 hd)
  obtain ⟨s2, u, Lc, x, r⟩ := K h' W T' _ X' e' (Fr.snoc X' N g0)
  exact ⟨s2, u, Lc, st' _ x, r⟩
theorem w_putFN (C : Cx p s m meth c Z own bytes ml rt nm) {pc pc' : Nat} {Ls : Array Slot} {st : List Value} {O n d Cl : String} {i kk : Nat} {a : Addr} {v old : Value} {ty : FieldType} {host : String} (w : (Jvm.Cond.fieldLinkNest own i O n d host).before a0 Z = true) (L : (Jvm.Cond.lays Cl O n d).before a0 Z = true ∨ ((Jvm.Cond.laysFinal Cl O n d).before a0 Z = true ∧ own = O ∧ nm = "<init>")) (wi : (Jvm.Cond.instantiable Cl kk).before a0 Z = true)
    (hty : parseFieldDescriptor d = some ty) (hn : narrow ty v = v) (hf : fits ty v = true) (hd : decode bytes pc = .ok (.putfield i, 3)) (hp : pc + 3 = pc') (g0 : n0 ≤ a) (F : Fld Z h a O n d old) (E : Exa Z h a Cl)
    (K : ∀ h', Wr h h' a (Jvm.RoadKit.slotOf Z O n d) v → Wp p l e R s m args below meth c n0 cM sM Q h' cells slots (mkF m pc' Ls st)) :
    Wp p l e R s m args below meth c n0 cM sM Q h cells slots (mkF m pc Ls (v :: .ref a :: st)) := by
  subst hp
  intro T locs X e0 N
  obtain ⟨T', h', X', e', W, st'⟩ := putF X C.1 C.2.2.1 C.2.2.2.1 (Or.inr w) Via.refl e0 F E (L.imp id fun q => ⟨q.1, q.2.1, C.2.2.2.2.2.2.1.trans q.2.2⟩) wi hty hn hf (g := mkF m pc Ls (v :: .ref a :: st)) rfl rfl (hb C.2.1 hd)
  obtain ⟨s2, u, Lc, x, r⟩ := K h' W T' _ X' e' (Fr.snoc X' N g0)
  exact ⟨s2, u, Lc, st' _ x, r⟩
theorem w_putFZ (C : Cx p s m meth c Z own bytes ml rt nm) {pc pc' : Nat} {Ls : Array Slot} {st : List Value} {O n d Cl : String} {i kk : Nat} {a : Addr} {v v' old : Value} {ty : FieldType} (w : (Jvm.Cond.fieldLink own i O n d).before a0 Z = true) (L : (Jvm.Cond.lays Cl O n d).before a0 Z = true ∨ ((Jvm.Cond.laysFinal Cl O n d).before a0 Z = true ∧ own = O ∧ nm = "<init>")) (wi : (Jvm.Cond.instantiable Cl kk).before a0 Z = true)
    (hty : parseFieldDescriptor d = some ty) (hn : narrow ty v = v') (hf : fits ty v' = true) (hd : decode bytes pc = .ok (.putfield i, 3)) (hp : pc + 3 = pc') (g0 : n0 ≤ a) (F : Fld Z h a O n d old) (E : Exa Z h a Cl)
    (K : ∀ h', Wr h h' a (Jvm.RoadKit.slotOf Z O n d) v' → Wp p l e R s m args below meth c n0 cM sM Q h' cells slots (mkF m pc' Ls st)) :
    Wp p l e R s m args below meth c n0 cM sM Q h cells slots (mkF m pc Ls (v :: .ref a :: st)) := by
  subst hp
  intro T locs X e0 N
  obtain ⟨T', h', X', e', W, st'⟩ := putFN X C.1 C.2.2.1 C.2.2.2.1 w Via.refl e0 F E (L.imp id fun q => ⟨q.1, q.2.1, C.2.2.2.2.2.2.1.trans q.2.2⟩) wi hty hn hf (g := mkF m pc Ls (v :: .ref a :: st)) rfl rfl (hb C.2.1 hd)
  obtain ⟨s2, u, Lc, x, r⟩ := K h' W T' _ X' e' (Fr.snoc X' N g0)
  exact ⟨s2, u, Lc, st' _ x, r⟩
theorem w_new (C : Cx p s m meth c Z own bytes ml rt nm) {pc pc' ce' sl' : Nat} {Ls : Array Slot} {st : List Value} {Cl : String} {i n : Nat} (w : (Jvm.Cond.classLink own i Cl).before a0 Z = true) (wi : (Jvm.Cond.instantiable Cl n).before a0 Z = true) (wz : (Jvm.Cond.initialized Cl).before a0 Z = true) (hd : decode bytes pc = .ok (.new i, 3)) (hp : pc + 3 = pc') (hc1 : cells + 1 = ce') (hl1 : slots + n = sl') (hc : ce' ≤ R.cells) (hl : sl' ≤ R.slots)
    (K : ∀ h' a, a = h.size → Ext h h' → Exa Z h' a Cl → (∀ {O nm d : String} {ty : FieldType}, Laid Z a0 Cl O nm d → parseFieldDescriptor d = some ty → Fld Z h' a O nm d (defaultValue ty)) → Wp p l e R s m args below meth c n0 cM sM Q h' ce' sl' (mkF m pc' Ls (.ref a :: st))) :
    Wp p l e R s m args below meth c n0 cM sM Q h cells slots (mkF m pc Ls st) := by
  subst hp hc1 hl1
  intro T locs X e0 N
  obtain ⟨T', h', X', e', E, A, D, -, st'⟩ := newO X C.1 C.2.2.1 C.2.2.2.1 w wi wz e0 (g := mkF m pc Ls st) rfl (hb C.2.1 hd) hc hl
  obtain ⟨s2, u, Lc, x, r⟩ := K h' h.size rfl E A D T' _ X' e' N
  exact ⟨s2, u, Lc, st' _ x, r⟩
theorem w_newP (C : Cx p s m meth c Z own bytes ml rt nm) {pc pc' ce' sl' : Nat} {Ls : Array Slot} {st : List Value} {aty : ArrayType} {n : Int32} {cap : Nat} (w : (Jvm.Cond.arrayClass (newarray.typeOf aty)).before a0 Z = true) (hd : decode bytes pc = .ok (.newarray aty, 2)) (hp : pc + 2 = pc') (hn : ¬ n < 0) (hcap : n.toNatClampNeg ≤ cap) (hbig : cap * 8 ≤ 536870912) (hc1 : cells + 1 = ce') (hl1 : slots + cap = sl') (hc : ce' ≤ R.cells) (hl : sl' ≤ R.slots)
    (K : ∀ h' a cA, a = h.size → Ext h h' → Arr Z h' a (newA cA (newarray.typeOf aty) n) (newarray.typeOf aty) → Wp p l e R s m args below meth c n0 cM sM Q h' ce' sl' (mkF m pc' Ls (.ref a :: st))) :
    Wp p l e R s m args below meth c n0 cM sM Q h cells slots (mkF m pc Ls (.int n :: st)) := by
  subst hp hc1 hl1
  intro T locs X e0 N
  obtain ⟨T', h', cA, X', e', E, A, st'⟩ := newP X C.1 C.2.2.1 w e0 (g := mkF m pc Ls (.int n :: st)) rfl (hb C.2.1 hd) rfl hn hcap hbig hc hl
  obtain ⟨s2, u, Lc, x, r⟩ := K h' h.size cA rfl E A T' _ X' e' N
  exact ⟨s2, u, Lc, st' _ x, r⟩
theorem w_newR (C : Cx p s m meth c Z own bytes ml rt nm) {pc pc' ce' sl' : Nat} {Ls : Array Slot} {st : List Value} {Cl : String} {i : Nat} {n : Int32} {cap : Nat} (w1 : (Jvm.Cond.classLink own i Cl).before a0 Z = true) (w2 : (Jvm.Cond.arrayOver (.object Cl)).before a0 Z = true) (hd : decode bytes pc = .ok (.anewarray i, 3)) (hp : pc + 3 = pc') (hn : ¬ n < 0) (hcap : n.toNatClampNeg ≤ cap) (hbig : cap * 8 ≤ 536870912) (hc1 : cells + 1 = ce') (hl1 : slots + cap = sl') (hc : ce' ≤ R.cells) (hl : sl' ≤ R.slots)
    (K : ∀ h' a cA, a = h.size → Ext h h' → Arr Z h' a (newA cA (.object Cl) n) (.object Cl) → Ovr Z cA Cl → Wp p l e R s m args below meth c n0 cM sM Q h' ce' sl' (mkF m pc' Ls (.ref a :: st))) :
    Wp p l e R s m args below meth c n0 cM sM Q h cells slots (mkF m pc Ls (.int n :: st)) := by
  subst hp hc1 hl1
  intro T locs X e0 N
  obtain ⟨T', h', cA, X', e', E, A, O, st'⟩ := newR X C.1 C.2.2.1 C.2.2.2.1 w1 w2 e0 (g := mkF m pc Ls (.int n :: st)) rfl (hb C.2.1 hd) rfl hn hcap hbig hc hl
  obtain ⟨s2, u, Lc, x, r⟩ := K h' h.size cA rfl E A O T' _ X' e' N
  exact ⟨s2, u, Lc, st' _ x, r⟩
theorem w_iastore (C : Cx p s m meth c Z own bytes ml rt nm) {pc pc' : Nat} {Ls : Array Slot} {st : List Value} {a : Addr} {cl : Cell} {j : Int32} {x : Int32} (hd : decode bytes pc = .ok (.iastore, 1)) (hp : pc + 1 = pc') (g0 : n0 ≤ a) (A : Arr Z h a cl .int) (hj : ¬ (j < 0 ∨ cl.slots.size ≤ j.toNatClampNeg))
    (K : ∀ h', Wr h h' a j.toNatClampNeg (.int x) → Wp p l e R s m args below meth c n0 cM sM Q h' cells slots (mkF m pc' Ls st)) :
    Wp p l e R s m args below meth c n0 cM sM Q h cells slots (mkF m pc Ls (.int x :: .int j :: .ref a :: st)) := by
  subst hp
  intro T locs X e0 N
  obtain ⟨T', h', X', e', W, st'⟩ := stI X C.1 C.2.2.1 e0 A hj (g := mkF m pc Ls (.int x :: .int j :: .ref a :: st)) rfl rfl (hb C.2.1 hd)
  obtain ⟨s2, u, Lc, q, r⟩ := K h' W T' _ X' e' (Fr.snoc X' N g0)
  exact ⟨s2, u, Lc, st' _ q, r⟩
theorem w_lastore (C : Cx p s m meth c Z own bytes ml rt nm) {pc pc' : Nat} {Ls : Array Slot} {st : List Value} {a : Addr} {cl : Cell} {j : Int32} {x : Int64} (hd : decode bytes pc = .ok (.lastore, 1)) (hp : pc + 1 = pc') (g0 : n0 ≤ a) (A : Arr Z h a cl .long) (hj : ¬ (j < 0 ∨ cl.slots.size ≤ j.toNatClampNeg))
    (K : ∀ h', Wr h h' a j.toNatClampNeg (.long x) → Wp p l e R s m args below meth c n0 cM sM Q h' cells slots (mkF m pc' Ls st)) :
    Wp p l e R s m args below meth c n0 cM sM Q h cells slots (mkF m pc Ls (.long x :: .int j :: .ref a :: st)) := by
  subst hp
  intro T locs X e0 N
  obtain ⟨T', h', X', e', W, st'⟩ := stJ X C.1 C.2.2.1 e0 A hj (g := mkF m pc Ls (.long x :: .int j :: .ref a :: st)) rfl rfl (hb C.2.1 hd)
  obtain ⟨s2, u, Lc, q, r⟩ := K h' W T' _ X' e' (Fr.snoc X' N g0)
  exact ⟨s2, u, Lc, st' _ q, r⟩
theorem w_castore (C : Cx p s m meth c Z own bytes ml rt nm) {pc pc' : Nat} {Ls : Array Slot} {st : List Value} {a : Addr} {cl : Cell} {j : Int32} {x : Int32} (hd : decode bytes pc = .ok (.castore, 1)) (hp : pc + 1 = pc') (g0 : n0 ≤ a) (A : Arr Z h a cl .char) (hj : ¬ (j < 0 ∨ cl.slots.size ≤ j.toNatClampNeg))
    (K : ∀ h', Wr h h' a j.toNatClampNeg (.int (nar .char x)) → Wp p l e R s m args below meth c n0 cM sM Q h' cells slots (mkF m pc' Ls st)) :
    Wp p l e R s m args below meth c n0 cM sM Q h cells slots (mkF m pc Ls (.int x :: .int j :: .ref a :: st)) := by
  subst hp
  intro T locs X e0 N
  obtain ⟨T', h', X', e', W, st'⟩ := stC X C.1 C.2.2.1 e0 A hj (g := mkF m pc Ls (.int x :: .int j :: .ref a :: st)) rfl rfl (hb C.2.1 hd)
  obtain ⟨s2, u, Lc, q, r⟩ := K h' W T' _ X' e' (Fr.snoc X' N g0)
  exact ⟨s2, u, Lc, st' _ q, r⟩
theorem w_aastore (C : Cx p s m meth c Z own bytes ml rt nm) {pc pc' : Nat} {Ls : Array Slot} {st : List Value} {a : Addr} {cl : Cell} {j : Int32} {v : Value} {ty : FieldType} (hd : decode bytes pc = .ok (.aastore, 1)) (hp : pc + 1 = pc') (g0 : n0 ≤ a) (A : Arr Z h a cl ty) (hj : ¬ (j < 0 ∨ cl.slots.size ≤ j.toNatClampNeg)) (hty : ty.isReference = true) (F : Sto Z h a v)
    (K : ∀ h', Wr h h' a j.toNatClampNeg v → Wp p l e R s m args below meth c n0 cM sM Q h' cells slots (mkF m pc' Ls st)) :
    Wp p l e R s m args below meth c n0 cM sM Q h cells slots (mkF m pc Ls (v :: .int j :: .ref a :: st)) := by
  subst hp
  intro T locs X e0 N
  obtain ⟨T', h', X', e', W, st'⟩ := stR X C.1 C.2.2.1 e0 A hj hty F (g := mkF m pc Ls (v :: .int j :: .ref a :: st)) rfl rfl (hb C.2.1 hd)
  obtain ⟨s2, u, Lc, q, r⟩ := K h' W T' _ X' e' (Fr.snoc X' N g0)
  exact ⟨s2, u, Lc, st' _ q, r⟩
theorem w_iaload (C : Cx p s m meth c Z own bytes ml rt nm) {pc pc' : Nat} {Ls : Array Slot} {st : List Value} {a : Addr} {cl : Cell} {j : Int32} {v : Value} (hd : decode bytes pc = .ok (.iaload, 1)) (hp : pc + 1 = pc') (A : Arr Z h a cl .int) (hj : ¬ (j < 0 ∨ cl.slots.size ≤ j.toNatClampNeg)) (hv : cl.slots[j.toNatClampNeg]? = some v)
    (K : Wp p l e R s m args below meth c n0 cM sM Q h cells slots (mkF m pc' Ls (v :: st))) :
    Wp p l e R s m args below meth c n0 cM sM Q h cells slots (mkF m pc Ls (.int j :: .ref a :: st)) := by
  subst hp
  intro T locs X e0 N
  obtain ⟨s2, u, L, q, r⟩ := K T locs X e0 N
  exact ⟨s2, u, L, X.iaload C.1 (j := j) (v := v) (by rw [e0]; exact A.1) (State.isArrayOf_alike C.2.2.1.alike A.2.1) A.2.2 hj hv (g := mkF m pc Ls (.int j :: .ref a :: st)) rfl rfl (hb C.2.1 hd) _ q, r⟩
theorem w_laload (C : Cx p s m meth c Z own bytes ml rt nm) {pc pc' : Nat} {Ls : Array Slot} {st : List Value} {a : Addr} {cl : Cell} {j : Int32} {v : Value} (hd : decode bytes pc = .ok (.laload, 1)) (hp : pc + 1 = pc') (A : Arr Z h a cl .long) (hj : ¬ (j < 0 ∨ cl.slots.size ≤ j.toNatClampNeg)) (hv : cl.slots[j.toNatClampNeg]? = some v)
    (K : Wp p l e R s m args below meth c n0 cM sM Q h cells slots (mkF m pc' Ls (v :: st))) :
    Wp p l e R s m args below meth c n0 cM sM Q h cells slots (mkF m pc Ls (.int j :: .ref a :: st)) := by
  subst hp
  intro T locs X e0 N
  obtain ⟨s2, u, L, q, r⟩ := K T locs X e0 N
  exact ⟨s2, u, L, X.laload C.1 (j := j) (v := v) (by rw [e0]; exact A.1) (State.isArrayOf_alike C.2.2.1.alike A.2.1) A.2.2 hj hv (g := mkF m pc Ls (.int j :: .ref a :: st)) rfl rfl (hb C.2.1 hd) _ q, r⟩
theorem w_caload (C : Cx p s m meth c Z own bytes ml rt nm) {pc pc' : Nat} {Ls : Array Slot} {st : List Value} {a : Addr} {cl : Cell} {j : Int32} {v : Value} (hd : decode bytes pc = .ok (.caload, 1)) (hp : pc + 1 = pc') (A : Arr Z h a cl .char) (hj : ¬ (j < 0 ∨ cl.slots.size ≤ j.toNatClampNeg)) (hv : cl.slots[j.toNatClampNeg]? = some v)
    (K : Wp p l e R s m args below meth c n0 cM sM Q h cells slots (mkF m pc' Ls (v :: st))) :
    Wp p l e R s m args below meth c n0 cM sM Q h cells slots (mkF m pc Ls (.int j :: .ref a :: st)) := by
  subst hp
  intro T locs X e0 N
  obtain ⟨s2, u, L, q, r⟩ := K T locs X e0 N
  exact ⟨s2, u, L, X.caload C.1 (j := j) (v := v) (by rw [e0]; exact A.1) (State.isArrayOf_alike C.2.2.1.alike A.2.1) A.2.2 hj hv (g := mkF m pc Ls (.int j :: .ref a :: st)) rfl rfl (hb C.2.1 hd) _ q, r⟩
theorem w_baload (C : Cx p s m meth c Z own bytes ml rt nm) {pc pc' : Nat} {Ls : Array Slot} {st : List Value} {a : Addr} {cl : Cell} {j : Int32} {v : Value} (hd : decode bytes pc = .ok (.baload, 1)) (hp : pc + 1 = pc') (A : Arr Z h a cl .byte) (hj : ¬ (j < 0 ∨ cl.slots.size ≤ j.toNatClampNeg)) (hv : cl.slots[j.toNatClampNeg]? = some v)
    (K : Wp p l e R s m args below meth c n0 cM sM Q h cells slots (mkF m pc' Ls (v :: st))) :
    Wp p l e R s m args below meth c n0 cM sM Q h cells slots (mkF m pc Ls (.int j :: .ref a :: st)) := by
  subst hp
  intro T locs X e0 N
  obtain ⟨s2, u, L, q, r⟩ := K T locs X e0 N
  exact ⟨s2, u, L, X.baloadBytes C.1 (j := j) (v := v) (by rw [e0]; exact A.1) (State.isArrayOf_alike C.2.2.1.alike A.2.1) A.2.2 hj hv (g := mkF m pc Ls (.int j :: .ref a :: st)) rfl rfl (hb C.2.1 hd) _ q, r⟩
theorem w_aaload (C : Cx p s m meth c Z own bytes ml rt nm) {pc pc' : Nat} {Ls : Array Slot} {st : List Value} {a : Addr} {cl : Cell} {j : Int32} {v : Value} {ty : FieldType} (hd : decode bytes pc = .ok (.aaload, 1)) (hp : pc + 1 = pc') (A : Arr Z h a cl ty) (hty : ty.isReference = true) (hj : ¬ (j < 0 ∨ cl.slots.size ≤ j.toNatClampNeg)) (hv : cl.slots[j.toNatClampNeg]? = some v)
    (K : Wp p l e R s m args below meth c n0 cM sM Q h cells slots (mkF m pc' Ls (v :: st))) :
    Wp p l e R s m args below meth c n0 cM sM Q h cells slots (mkF m pc Ls (.int j :: .ref a :: st)) := by
  subst hp
  intro T locs X e0 N
  obtain ⟨s2, u, L, q, r⟩ := K T locs X e0 N
  exact ⟨s2, u, L, X.aaload C.1 (j := j) (v := v) (by rw [e0]; exact A.1) (State.isArrayOf_alike C.2.2.1.alike A.2.1) hty A.2.2 hj hv (g := mkF m pc Ls (.int j :: .ref a :: st)) rfl rfl (hb C.2.1 hd) _ q, r⟩
theorem w_alen (C : Cx p s m meth c Z own bytes ml rt nm) {pc pc' : Nat} {Ls : Array Slot} {st : List Value} {a : Addr} {cl : Cell} {ty : FieldType} {n : Int32} (hd : decode bytes pc = .ok (.arraylength, 1)) (hp : pc + 1 = pc') (A : Arr Z h a cl ty) (hn : cl.slots.size.toInt32 = n)
    (K : Wp p l e R s m args below meth c n0 cM sM Q h cells slots (mkF m pc' Ls (.int n :: st))) :
    Wp p l e R s m args below meth c n0 cM sM Q h cells slots (mkF m pc Ls (.ref a :: st)) := by
  subst hp hn
  intro T locs X e0 N
  obtain ⟨s2, u, L, q, r⟩ := K T locs X e0 N
  exact ⟨s2, u, L, X.arraylength C.1 (by rw [e0]; exact A.1) (State.isArrayOf_alike C.2.2.1.alike A.2.1) (g := mkF m pc Ls (.ref a :: st)) rfl rfl (hb C.2.1 hd) _ q, r⟩
theorem w_initO (C : Cx p s m meth c Z own bytes ml rt nm) {pc pc' : Nat} {Ls : Array Slot} {st : List Value} {i : Nat} {a : Addr} {W : Nat} (w1 : (Jvm.Cond.methodLink own i Lib.objectInit).before a0 Z = true) (w2 : (Jvm.Cond.instanceMethod Lib.objectInit).before a0 Z = true) (w3 : (Jvm.Cond.code Lib.objectInit ⟨#[0xb1]⟩ 1 none).before a0 Z = true) (hd : decode bytes pc = .ok (.invokespecial i, 3)) (hp : pc + 3 = pc')
    (hsz : Ls.size = ml) (hf : 1 ≤ R.frames) (hW : (st.map fun v => v.category).sum ≤ W) (hl : W + 12 ≤ R.locals) (K : Wp p l e R s m args below meth c n0 cM sM Q h cells slots (mkF m pc' Ls st)) :
    Wp p l e R s m args below meth c n0 cM sM Q h cells slots (mkF m pc Ls (.ref a :: st)) := by
  subst hp
  exact Wp.law (fun T locs X e0 => initO X C.1 C.2.2.1 C.2.2.2.1 w1 w2 w3 e0 (g := mkF m pc Ls (.ref a :: st)) rfl (hsz.trans C.2.2.2.2.1.symm) rfl (hb C.2.1 hd) hf (by show 2 * 0 + _ ≤ _; rw [Nat.mul_zero, Nat.zero_add]; exact hW) hl) K
theorem w_callS (C : Cx p s m meth c Z own bytes ml rt nm) {pc pc' : Nat} {Ls : Array Slot} {stk st : List Value} {i : Nat} {ce' sl' : Nat} {y : MethodName} {cb : ByteArray} {cml : Nat} {cret : Option FieldType} {crm : Room} {argsL : List Value} {Q' : Option Value → Heap → Prop} {W : Nat} (w1 : (Jvm.Cond.methodLink own i y).before a0 Z = true) (w2 : (Jvm.Cond.static y).before a0 Z = true) (w3 : (Jvm.Cond.initialized y.cls).before a0 Z = true) (w4 : (Jvm.Cond.code y cb cml cret).before a0 Z = true) (hy : y.cls ≠ "java/lang/invoke/MethodHandle" ∧ y.cls ≠ "java/lang/invoke/VarHandle")
    (hd : decode bytes pc = .ok (.invokestatic i, 3)) (hp : pc + 3 = pc') (hst : stk = argsL.reverse ++ st) (hfr : crm.frames + 1 ≤ R.frames) (hlo : W + (cml + 11) + crm.locals ≤ R.locals) (hW : (st.map fun v => v.category).sum ≤ W) (hce1 : cells + crm.cells = ce') (hsl1 : slots + crm.slots = sl') (hce : ce' ≤ R.cells) (hsl : sl' ≤ R.slots) (hsz : Ls.size = ml) (hlen : ∀ sig, parseMethodDescriptor y.desc = some sig → argsL.length = sig.parameters.length) (ct : Ct l Z y cb cml cret [] crm argsL.toArray h n0 Q')
    (K : ∀ v h', Q' v h' → Wp p l e R s m args below meth c n0 cM sM Q h' ce' sl' (mkF m pc' Ls (v.toList ++ st))) :
    Wp p l e R s m args below meth c n0 cM sM Q h cells slots (mkF m pc Ls stk) := by
  subst hp hce1 hsl1
  intro T locs X e0 N
  obtain ⟨v, _, ⟨T', L', k', n'⟩, -, X', ⟨Lc, hq, l1, l2, l3⟩, st'⟩ := Jvm.LawKit.callS X C.1 (y := y) C.2.2.2.1 (mvT C.2.2.1 w1) (mvT C.2.2.1 w2) (mvT C.2.2.1 w3) (mvT C.2.2.1 w4) hy (backOf (W := W) (Q := fun v hh L => Q' v hh ∧ Fr n0 L) ct C.2.2.1 w4 w3 hfr hlo) (g := mkF m pc Ls stk) rfl (hsz.trans C.2.2.2.2.1.symm) (argsL := argsL) (rest := st) hlen hst (by show 2 * 0 + _ ≤ _; rw [Nat.mul_zero, Nat.zero_add]; exact hW) (hb C.2.1 hd) (fun _ _ => ⟨rfl, e0, hce, hsl⟩)
  dsimp only [Pt.U, Pt.locs, Pt.cells, Pt.slots] at X' l1 l2 l3 st' hq
  subst l1 l2 l3
  obtain ⟨s2, u, L, q, r⟩ := K _ _ hq.1 _ _ X' rfl (Fr.app N hq.2)
  exact ⟨s2, u, L, st' _ q, r⟩
theorem w_callI (C : Cx p s m meth c Z own bytes ml rt nm) {pc pc' : Nat} {Ls : Array Slot} {stk st : List Value} {i : Nat} {a : Addr} {ce' sl' : Nat} {y : MethodName} {cb : ByteArray} {cml : Nat} {crm : Room} {argsL : List Value} {Q' : Option Value → Heap → Prop} {W : Nat} (hin : y.name = "<init>") (w1 : (Jvm.Cond.methodLink own i y).before a0 Z = true) (w2 : (Jvm.Cond.instanceMethod y).before a0 Z = true) (w3 : (Jvm.Cond.initialized y.cls).before a0 Z = true) (w4 : (Jvm.Cond.code y cb cml none).before a0 Z = true) (hy : y.cls ≠ "java/lang/invoke/MethodHandle" ∧ y.cls ≠ "java/lang/invoke/VarHandle")
    (hd : decode bytes pc = .ok (.invokespecial i, 3)) (hp : pc + 3 = pc') (hst : stk = argsL.reverse ++ .ref a :: st) (hfr : crm.frames + 1 ≤ R.frames) (hlo : W + (cml + 11) + crm.locals ≤ R.locals) (hW : (st.map fun v => v.category).sum ≤ W) (hce1 : cells + crm.cells = ce') (hsl1 : slots + crm.slots = sl') (hce : ce' ≤ R.cells) (hsl : sl' ≤ R.slots) (hsz : Ls.size = ml) (hlen : ∀ sig, parseMethodDescriptor y.desc = some sig → argsL.length = sig.parameters.length) (ct : Ct l Z y cb cml none [] crm (.ref a :: argsL).toArray h n0 Q')
    (K : ∀ v h', Q' v h' → Wp p l e R s m args below meth c n0 cM sM Q h' ce' sl' (mkF m pc' Ls (v.toList ++ st))) :
    Wp p l e R s m args below meth c n0 cM sM Q h cells slots (mkF m pc Ls stk) := by
  subst hp hce1 hsl1
  intro T locs X e0 N
  obtain ⟨v, _, ⟨T', L', k', n'⟩, -, X', ⟨Lc, hq, l1, l2, l3⟩, st'⟩ := X.specialBack C.1 (y := y) hin C.2.2.2.1 (mvT C.2.2.1 w1) (mvT C.2.2.1 w2) (mvT C.2.2.1 w4) hy (backOf (W := W) (Q := fun v hh L => Q' v hh ∧ Fr n0 L) ct C.2.2.1 w4 w3 hfr hlo) (g := mkF m pc Ls stk) rfl (hsz.trans C.2.2.2.2.1.symm) (Steps.refl _) (a := a) (argsL := argsL) (rest := st) hlen hst (by show 2 * 0 + _ ≤ _; rw [Nat.mul_zero, Nat.zero_add]; exact hW) (hb C.2.1 hd) (fun _ _ => ⟨rfl, e0, hce, hsl⟩)
  dsimp only [Pt.U, Pt.locs, Pt.cells, Pt.slots] at X' l1 l2 l3 st' hq
  subst l1 l2 l3
  obtain ⟨s2, u, L, q, r⟩ := K _ _ hq.1 _ _ X' rfl (Fr.app N hq.2)
  exact ⟨s2, u, L, st'.trans q, r⟩
theorem w_callV (C : Cx p s m meth c Z own bytes ml rt nm) {pc pc' : Nat} {Ls : Array Slot} {stk st : List Value} {i : Nat} {a : Addr} {Cl : String} {ce' sl' : Nat} {y : MethodName} {cb : ByteArray} {cml : Nat} {cret : Option FieldType} {crm : Room} {argsL : List Value} {Q' : Option Value → Heap → Prop} {W : Nat} (w1 : (Jvm.Cond.methodLink own i y).before a0 Z = true) (w2 : (Jvm.Cond.declares y).before a0 Z = true) (w5 : (Jvm.Cond.selects Cl y y).before a0 Z = true) (w6 : (Jvm.Cond.instanceMethod y).before a0 Z = true) (w3 : (Jvm.Cond.initialized y.cls).before a0 Z = true) (w4 : (Jvm.Cond.code y cb cml cret).before a0 Z = true) (hy : y.cls ≠ "java/lang/invoke/MethodHandle" ∧ y.cls ≠ "java/lang/invoke/VarHandle")
    (hd : decode bytes pc = .ok (.invokevirtual i, 3)) (hp : pc + 3 = pc') (hst : stk = argsL.reverse ++ .ref a :: st) (hfr : crm.frames + 1 ≤ R.frames) (hlo : W + (cml + 11) + crm.locals ≤ R.locals) (hW : (st.map fun v => v.category).sum ≤ W) (hce1 : cells + crm.cells = ce') (hsl1 : slots + crm.slots = sl') (hce : ce' ≤ R.cells) (hsl : sl' ≤ R.slots) (hsz : Ls.size = ml) (hlen : ∀ sig, parseMethodDescriptor y.desc = some sig → argsL.length = sig.parameters.length) (E : Exa Z h a Cl) (ct : Ct l Z y cb cml cret [] crm (.ref a :: argsL).toArray h n0 Q')
    (K : ∀ v h', Q' v h' → Wp p l e R s m args below meth c n0 cM sM Q h' ce' sl' (mkF m pc' Ls (v.toList ++ st))) :
    Wp p l e R s m args below meth c n0 cM sM Q h cells slots (mkF m pc Ls stk) := by
  subst hp hce1 hsl1
  intro T locs X e0 N
  obtain ⟨_, _, qa, qb, qc⟩ := isOf C.2.2.1 e0 E
  obtain ⟨v, _, ⟨T', L', k', n'⟩, -, X', ⟨Lc, hq, l1, l2, l3⟩, st'⟩ := X.virtualBack C.1 (y := y) (z := y) C.2.2.2.1 (mvT C.2.2.1 w1) (mvT C.2.2.1 w2) (notFace_of_selects (args := #[]) (mvT C.2.2.1 w5)) (mvT C.2.2.1 w5) (mvT C.2.2.1 w6) hy (backOf (W := W) (Q := fun v hh L => Q' v hh ∧ Fr n0 L) ct C.2.2.1 w4 w3 hfr hlo) qa qc (g := mkF m pc Ls stk) rfl (hsz.trans C.2.2.2.2.1.symm) (Steps.refl _) (argsL := argsL) (rest := st) hlen hst (by show 2 * 0 + _ ≤ _; rw [Nat.mul_zero, Nat.zero_add]; exact hW) (hb C.2.1 hd) (fun _ _ => ⟨rfl, e0, hce, hsl⟩)
  dsimp only [Pt.U, Pt.locs, Pt.cells, Pt.slots] at X' l1 l2 l3 st' hq
  subst l1 l2 l3
  obtain ⟨s2, u, L, q, r⟩ := K _ _ hq.1 _ _ X' rfl (Fr.app N hq.2)
  exact ⟨s2, u, L, st'.trans q, r⟩
theorem w_callP (C : Cx p s m meth c Z own bytes ml rt nm) {pc pc' : Nat} {Ls : Array Slot} {stk st : List Value} {i : Nat} {a : Addr} {Cl : String} {ce' sl' : Nat} {y : MethodName} {cb : ByteArray} {cml : Nat} {cret : Option FieldType} {crm : Room} {argsL : List Value} {Q' : Option Value → Heap → Prop} {W : Nat} (w1 : (Jvm.Cond.methodLink own i y).before a0 Z = true) (w6 : (Jvm.Cond.instanceMethod y).before a0 Z = true) (w5 : (Jvm.Cond.selects y.cls y y).before a0 Z = true) (w7 : (Jvm.Cond.privateMethod y).before a0 Z = true) (w3 : (Jvm.Cond.initialized y.cls).before a0 Z = true) (w4 : (Jvm.Cond.code y cb cml cret).before a0 Z = true) (hy : y.cls ≠ "java/lang/invoke/MethodHandle" ∧ y.cls ≠ "java/lang/invoke/VarHandle")
    (hd : decode bytes pc = .ok (.invokevirtual i, 3)) (hp : pc + 3 = pc') (hst : stk = argsL.reverse ++ .ref a :: st) (hfr : crm.frames + 1 ≤ R.frames) (hlo : W + (cml + 11) + crm.locals ≤ R.locals) (hW : (st.map fun v => v.category).sum ≤ W) (hce1 : cells + crm.cells = ce') (hsl1 : slots + crm.slots = sl') (hce : ce' ≤ R.cells) (hsl : sl' ≤ R.slots) (hsz : Ls.size = ml) (hlen : ∀ sig, parseMethodDescriptor y.desc = some sig → argsL.length = sig.parameters.length) (E : Exa Z h a Cl) (ct : Ct l Z y cb cml cret [] crm (.ref a :: argsL).toArray h n0 Q')
    (K : ∀ v h', Q' v h' → Wp p l e R s m args below meth c n0 cM sM Q h' ce' sl' (mkF m pc' Ls (v.toList ++ st))) :
    Wp p l e R s m args below meth c n0 cM sM Q h cells slots (mkF m pc Ls stk) := by
  subst hp hce1 hsl1
  intro T locs X e0 N
  obtain ⟨cq, q1, q2⟩ := E.cell
  obtain ⟨v, _, ⟨T', L', k', n'⟩, -, X', ⟨Lc, hq, l1, l2, l3⟩, st'⟩ := X.privateBack C.1 (y := y) C.2.2.2.1 (mvT C.2.2.1 w1) (mvT C.2.2.1 w6) (mvT C.2.2.1 w5) (Cond.privateMethod_at (mvP C.2.2.1 w7 (args := #[]))) (mvT C.2.2.1 w4) hy (backOf (W := W) (Q := fun v hh L => Q' v hh ∧ Fr n0 L) ct C.2.2.1 w4 w3 hfr hlo) (g := mkF m pc Ls stk) rfl (hsz.trans C.2.2.2.2.1.symm) (Steps.refl _) (a := a) (by rw [e0]; exact q1) q2 (argsL := argsL) (rest := st) hlen hst (by show 2 * 0 + _ ≤ _; rw [Nat.mul_zero, Nat.zero_add]; exact hW) (hb C.2.1 hd) (fun _ _ => ⟨rfl, e0, hce, hsl⟩)
  dsimp only [Pt.U, Pt.locs, Pt.cells, Pt.slots] at X' l1 l2 l3 st' hq
  subst l1 l2 l3
  obtain ⟨s2, u, L, q, r⟩ := K _ _ hq.1 _ _ X' rfl (Fr.app N hq.2)
  exact ⟨s2, u, L, st'.trans q, r⟩
theorem k1 {pc' ce' sl' : Nat} {Ls : Array Slot} {st : List Value} {r : Value} {P : Heap → Prop} (K : ∀ h', P h' → Wp p l e R s m args below meth c n0 cM sM Q h' ce' sl' (mkF m pc' Ls (r :: st))) : ∀ v h', (v = some r ∧ P h') → Wp p l e R s m args below meth c n0 cM sM Q h' ce' sl' (mkF m pc' Ls (v.toList ++ st)) := fun v h' q => by
  obtain ⟨rfl, q⟩ := q; exact K h' q
theorem k0 {pc' ce' sl' : Nat} {Ls : Array Slot} {st : List Value} {P : Heap → Prop} (K : ∀ h', P h' → Wp p l e R s m args below meth c n0 cM sM Q h' ce' sl' (mkF m pc' Ls st)) : ∀ v h', (v = none ∧ P h') → Wp p l e R s m args below meth c n0 cM sM Q h' ce' sl' (mkF m pc' Ls (v.toList ++ st)) := fun v h' q => by
  obtain ⟨rfl, q⟩ := q; exact K h' q
theorem kp {pc' ce' sl' : Nat} {Ls : Array Slot} {st : List Value} {r : Value} (K : Wp p l e R s m args below meth c n0 cM sM Q h ce' sl' (mkF m pc' Ls (r :: st))) : ∀ v h', (v = some r ∧ h' = h) → Wp p l e R s m args below meth c n0 cM sM Q h' ce' sl' (mkF m pc' Ls (v.toList ++ st)) := fun v h' q => by
  obtain ⟨rfl, rfl⟩ := q; exact K
theorem kx {pc' ce' sl' : Nat} {Ls : Array Slot} {st : List Value} {P : Addr → Heap → Prop} (K : ∀ b h', P b h' → Wp p l e R s m args below meth c n0 cM sM Q h' ce' sl' (mkF m pc' Ls (.ref b :: st))) : ∀ v h', (∃ b, v = some (.ref b) ∧ P b h') → Wp p l e R s m args below meth c n0 cM sM Q h' ce' sl' (mkF m pc' Ls (v.toList ++ st)) := fun v h' q => by
  obtain ⟨b, rfl, q⟩ := q; exact K b h' q
theorem kv {pc' ce' sl' : Nat} {Ls : Array Slot} {st : List Value} (K : Wp p l e R s m args below meth c n0 cM sM Q h ce' sl' (mkF m pc' Ls st)) : ∀ v h', (v = none ∧ h' = h) → Wp p l e R s m args below meth c n0 cM sM Q h' ce' sl' (mkF m pc' Ls (v.toList ++ st)) := fun v h' q => by
  obtain ⟨rfl, rfl⟩ := q; exact K
end Rules

/-! objects and arrays, each one fact -/
section Facts
variable {Z : State} {h h' : Heap} {a b : Addr} {Cl n d : String} {v v' w : Value} {fs fs' : List (String × String × Value)} {ws : List Addr} {sl : Nat} {ty : FieldType} {vs : List Value}
/-- an object of exactly the class Cl, and what its fields hold -/
def Obj (Z : State) (h : Heap) (a : Addr) (Cl : String) (fs : List (String × String × Value)) : Prop :=
  Exa Z h a Cl ∧ (∀ (i : Nat) (f : String × String × Value), fs[i]? = some f → Fld Z h a Cl f.1 f.2.1 f.2.2) ∧ ∀ (i j : Nat) (f g : String × String × Value), fs[i]? = some f → fs[j]? = some g → i ≠ j → Jvm.RoadKit.slotOf Z Cl f.1 f.2.1 ≠ Jvm.RoadKit.slotOf Z Cl g.1 g.2.1
theorem Obj.lt (O : Obj Z h a Cl fs) : a < h.size := O.1.lt
theorem Obj.fld (O : Obj Z h a Cl fs) (i : Nat) (e : fs[i]? = some (n, d, v)) : Fld Z h a Cl n d v := O.2.1 i _ e
theorem Obj.ext (O : Obj Z h a Cl fs) (E : Ext h h') : Obj Z h' a Cl fs := ⟨O.1.ext E, fun i f q => (O.2.1 i f q).ext E, O.2.2⟩
theorem Obj.keep (O : Obj Z h a Cl fs) (K : Keep h h' ws) (q : a ∉ ws) : Obj Z h' a Cl fs := ⟨O.1.keep K, fun i f r => (O.2.1 i f r).keep K q, O.2.2⟩
theorem Obj.other (O : Obj Z h a Cl fs) (W : Wr h h' b sl w) (q : a ≠ b) : Obj Z h' a Cl fs := ⟨O.1.wr W, fun i f r => (O.2.1 i f r).other W (Or.inl q), O.2.2⟩
theorem Obj.put (O : Obj Z h a Cl fs) (i : Nat) (e : fs[i]? = some (n, d, v)) (W : Wr h h' a (Jvm.RoadKit.slotOf Z Cl n d) v') (e' : fs.set i (n, d, v') = fs') : Obj Z h' a Cl fs' := by
  subst e'
  have key : ∀ j f, (fs.set i (n, d, v'))[j]? = some f → ∃ u, fs[j]? = some (f.1, f.2.1, u) ∧ (j = i → f = (n, d, v')) ∧ (j ≠ i → fs[j]? = some f) := fun j f q => by
    by_cases z : i = j
    · subst z
      have hl : i < fs.length := (List.getElem?_eq_some_iff.mp e).1
      rw [List.getElem?_set_self hl] at q
      cases q
      exact ⟨v, e, fun _ => rfl, fun r => absurd rfl r⟩
    · rw [List.getElem?_set_ne z] at q
      exact ⟨f.2.2, q, fun r => absurd r.symm z, fun _ => q⟩
  refine ⟨O.1.wr W, fun j f q => ?_, fun j k f g q r z => ?_⟩
  · obtain ⟨u, k1, k2, k3⟩ := key j f q
    by_cases z : j = i
    · cases k2 z; subst z
      exact (O.fld j e).same W
    · have ne : Jvm.RoadKit.slotOf Z Cl f.1 f.2.1 ≠ Jvm.RoadKit.slotOf Z Cl n d := O.2.2 j i f (n, d, v) (k3 z) e z
      exact Fld.other W (O.2.1 j f (k3 z)) (Or.inr ne)
  · obtain ⟨u, k1, -⟩ := key j f q
    obtain ⟨u', k2, -⟩ := key k g r
    exact O.2.2 j k (f.1, f.2.1, u) (g.1, g.2.1, u') k1 k2 z
theorem Obj.size (O : Obj Z h a Cl fs) (K : Keep h h' ws) : h.size ≤ h'.size := K.1
/-- an array of the component type ty, and what it holds -/
def Ar (Z : State) (h : Heap) (a : Addr) (ty : FieldType) (vs : List Value) : Prop := ∃ cl : Cell, Arr Z h a cl ty ∧ cl.slots = vs.toArray
theorem Ar.lt (A : Ar Z h a ty vs) : a < h.size := by obtain ⟨_, A, -⟩ := A; exact A.lt
theorem Ar.ext (A : Ar Z h a ty vs) (E : Ext h h') : Ar Z h' a ty vs := by obtain ⟨cl, A, q⟩ := A; exact ⟨cl, A.ext E, q⟩
theorem Ar.keep (A : Ar Z h a ty vs) (K : Keep h h' ws) (q : a ∉ ws) : Ar Z h' a ty vs := by obtain ⟨cl, A, r⟩ := A; exact ⟨cl, ⟨K.2.1 a cl A.1 q, A.2⟩, r⟩
theorem Ar.other (A : Ar Z h a ty vs) (W : Wr h h' b sl w) (q : a ≠ b) : Ar Z h' a ty vs := by obtain ⟨cl, A, r⟩ := A; exact ⟨cl, A.other W q, r⟩
theorem set_slots {cl : Cell} (r : cl.slots = vs.toArray) (j : Nat) (v : Value) : (cl.setSlot j v).slots = (vs.set j v).toArray := by
  show cl.slots.setIfInBounds j v = _
  rw [r]; simp
theorem Ar.set (A : Ar Z h a ty vs) (W : Wr h h' a sl w) : Ar Z h' a ty (vs.set sl w) := by
  obtain ⟨cl, A, r⟩ := A; exact ⟨_, A.same W, set_slots r _ _⟩
theorem Ar.new {cA : ClassId} {z : Int32} (A : Arr Z h a (newA cA ty z) ty) : Ar Z h a ty (List.replicate z.toNatClampNeg (defaultValue ty)) := ⟨_, A, by simp [newA]⟩
theorem Ar.nin {cl : Cell} {j : Int32} (r : cl.slots = vs.toArray) (hj : ¬ j < 0) (hl : j.toNatClampNeg < vs.length) : ¬ (j < 0 ∨ cl.slots.size ≤ j.toNatClampNeg) := by
  rw [r]; simp only [List.size_toArray]
  exact fun q => q.elim hj (fun q => Nat.not_le.mpr hl q)
theorem Ar.at {cl : Cell} {k : Nat} (r : cl.slots = vs.toArray) (hv : vs[k]? = some v) : cl.slots[k]? = some v := by rw [r]; simpa using hv
/-- an array of references to objects of the class Cl -/
def ArR (Z : State) (h : Heap) (a : Addr) (Cl : String) (vs : List Value) : Prop := ∃ cl : Cell, Arr Z h a cl (.object Cl) ∧ cl.slots = vs.toArray ∧ Ovr Z cl.cls Cl
theorem ArR.lt (A : ArR Z h a Cl vs) : a < h.size := by obtain ⟨_, A, -⟩ := A; exact A.lt
theorem ArR.ext (A : ArR Z h a Cl vs) (E : Ext h h') : ArR Z h' a Cl vs := by obtain ⟨cl, A, q⟩ := A; exact ⟨cl, A.ext E, q⟩
theorem ArR.keep (A : ArR Z h a Cl vs) (K : Keep h h' ws) (q : a ∉ ws) : ArR Z h' a Cl vs := by obtain ⟨cl, A, r⟩ := A; exact ⟨cl, ⟨K.2.1 a cl A.1 q, A.2⟩, r⟩
theorem ArR.other (A : ArR Z h a Cl vs) (W : Wr h h' b sl w) (q : a ≠ b) : ArR Z h' a Cl vs := by obtain ⟨cl, A, r⟩ := A; exact ⟨cl, A.other W q, r⟩
theorem ArR.set (A : ArR Z h a Cl vs) (W : Wr h h' a sl w) : ArR Z h' a Cl (vs.set sl w) := by
  obtain ⟨cl, A, r, q⟩ := A; exact ⟨_, A.same W, set_slots r _ _, q⟩
theorem ArR.new {cA : ClassId} {z : Int32} (A : Arr Z h a (newA cA (.object Cl) z) (.object Cl)) (O : Ovr Z cA Cl) : ArR Z h a Cl (List.replicate z.toNatClampNeg .null) := ⟨_, A, by simp [newA, defaultValue], O⟩
theorem ArR.sto (A : ArR Z h a Cl vs) {y : Addr} (E : Exa Z h y Cl) : Sto Z h a (.ref y) := by
  obtain ⟨cl, A, -, q⟩ := A; exact Sto.ofV A rfl q (Ins.self E)
theorem Keep.app (K : Keep h h' ws) {h2 : Heap} {ws2 ws3 : List Addr} (K' : Keep h' h2 ws2) (q1 : ∀ x ∈ ws, x ∈ ws3 ∨ h.size ≤ x) (q : ∀ x ∈ ws2, x ∈ ws3 ∨ h.size ≤ x) : Keep h h2 ws3 := by
  refine Keep.trans (ws := ws3) ⟨K.1, fun x c r z => ?_, K.2.2⟩ K' q
  refine K.2.1 x c r fun y => ?_
  rcases q1 x y with u | u
  · exact z u
  · exact absurd (Array.getElem?_eq_some_iff.mp r).1 (Nat.not_lt.mpr u)
end Facts
section Rules2
variable {p : Program} {l : Launch} {e : Env} {R : Room} {s : State} {m : MethodId} {args : Array Value} {below : List Frame} {meth : Method} {c : Code} {n0 cM sM : Nat} {Q : Option Value → Heap → Prop} {h : Heap} {cells slots : Nat}
variable {Z : State} {own nm : String} {bytes : ByteArray} {ml : Nat} {rt : Option FieldType} {a0 : Array Value}
theorem wA_iaload (C : Cx p s m meth c Z own bytes ml rt nm) {pc pc' : Nat} {Ls : Array Slot} {st : List Value} {a : Addr} {vs : List Value} {j : Int32} {v : Value} (hd : decode bytes pc = .ok (.iaload, 1)) (hp : pc + 1 = pc') (A : Ar Z h a .int vs) (hj : ¬ j < 0) (hv : vs[j.toNatClampNeg]? = some v)
    (K : Wp p l e R s m args below meth c n0 cM sM Q h cells slots (mkF m pc' Ls (v :: st))) : Wp p l e R s m args below meth c n0 cM sM Q h cells slots (mkF m pc Ls (.int j :: .ref a :: st)) := by
  obtain ⟨cl, A, r⟩ := A
  exact w_iaload C hd hp A (Ar.nin r hj (List.getElem?_eq_some_iff.mp hv).1) (Ar.at r hv) K
theorem wA_laload (C : Cx p s m meth c Z own bytes ml rt nm) {pc pc' : Nat} {Ls : Array Slot} {st : List Value} {a : Addr} {vs : List Value} {j : Int32} {v : Value} (hd : decode bytes pc = .ok (.laload, 1)) (hp : pc + 1 = pc') (A : Ar Z h a .long vs) (hj : ¬ j < 0) (hv : vs[j.toNatClampNeg]? = some v)
    (K : Wp p l e R s m args below meth c n0 cM sM Q h cells slots (mkF m pc' Ls (v :: st))) : Wp p l e R s m args below meth c n0 cM sM Q h cells slots (mkF m pc Ls (.int j :: .ref a :: st)) := by
  obtain ⟨cl, A, r⟩ := A
  exact w_laload C hd hp A (Ar.nin r hj (List.getElem?_eq_some_iff.mp hv).1) (Ar.at r hv) K
theorem wA_caload (C : Cx p s m meth c Z own bytes ml rt nm) {pc pc' : Nat} {Ls : Array Slot} {st : List Value} {a : Addr} {vs : List Value} {j : Int32} {v : Value} (hd : decode bytes pc = .ok (.caload, 1)) (hp : pc + 1 = pc') (A : Ar Z h a .char vs) (hj : ¬ j < 0) (hv : vs[j.toNatClampNeg]? = some v)
    (K : Wp p l e R s m args below meth c n0 cM sM Q h cells slots (mkF m pc' Ls (v :: st))) : Wp p l e R s m args below meth c n0 cM sM Q h cells slots (mkF m pc Ls (.int j :: .ref a :: st)) := by
  obtain ⟨cl, A, r⟩ := A
  exact w_caload C hd hp A (Ar.nin r hj (List.getElem?_eq_some_iff.mp hv).1) (Ar.at r hv) K
theorem wA_baload (C : Cx p s m meth c Z own bytes ml rt nm) {pc pc' : Nat} {Ls : Array Slot} {st : List Value} {a : Addr} {vs : List Value} {j : Int32} {v : Value} (hd : decode bytes pc = .ok (.baload, 1)) (hp : pc + 1 = pc') (A : Ar Z h a .byte vs) (hj : ¬ j < 0) (hv : vs[j.toNatClampNeg]? = some v)
    (K : Wp p l e R s m args below meth c n0 cM sM Q h cells slots (mkF m pc' Ls (v :: st))) : Wp p l e R s m args below meth c n0 cM sM Q h cells slots (mkF m pc Ls (.int j :: .ref a :: st)) := by
  obtain ⟨cl, A, r⟩ := A
  exact w_baload C hd hp A (Ar.nin r hj (List.getElem?_eq_some_iff.mp hv).1) (Ar.at r hv) K
theorem wA_aaload (C : Cx p s m meth c Z own bytes ml rt nm) {pc pc' : Nat} {Ls : Array Slot} {st : List Value} {a : Addr} {Cl : String} {vs : List Value} {j : Int32} {v : Value} (hd : decode bytes pc = .ok (.aaload, 1)) (hp : pc + 1 = pc') (A : ArR Z h a Cl vs) (hj : ¬ j < 0) (hv : vs[j.toNatClampNeg]? = some v)
    (K : Wp p l e R s m args below meth c n0 cM sM Q h cells slots (mkF m pc' Ls (v :: st))) : Wp p l e R s m args below meth c n0 cM sM Q h cells slots (mkF m pc Ls (.int j :: .ref a :: st)) := by
  obtain ⟨cl, A, r, -⟩ := A
  exact w_aaload C hd hp A rfl (Ar.nin r hj (List.getElem?_eq_some_iff.mp hv).1) (Ar.at r hv) K
theorem wA_iastore (C : Cx p s m meth c Z own bytes ml rt nm) {pc pc' : Nat} {Ls : Array Slot} {st : List Value} {a : Addr} {vs : List Value} {j : Int32} {x : Int32} (hd : decode bytes pc = .ok (.iastore, 1)) (hp : pc + 1 = pc') (g0 : n0 ≤ a) (A : Ar Z h a .int vs) (hj : ¬ j < 0) (hl : j.toNatClampNeg < vs.length)
    (K : ∀ h', Wr h h' a j.toNatClampNeg (.int x) → Ar Z h' a .int (vs.set j.toNatClampNeg (.int x)) → Wp p l e R s m args below meth c n0 cM sM Q h' cells slots (mkF m pc' Ls st)) : Wp p l e R s m args below meth c n0 cM sM Q h cells slots (mkF m pc Ls (.int x :: .int j :: .ref a :: st)) := by
  have A' := A
  obtain ⟨cl, A, r⟩ := A
  exact w_iastore C hd hp g0 A (Ar.nin r hj hl) (fun h' W => K h' W (A'.set W))
theorem wA_lastore (C : Cx p s m meth c Z own bytes ml rt nm) {pc pc' : Nat} {Ls : Array Slot} {st : List Value} {a : Addr} {vs : List Value} {j : Int32} {x : Int64} (hd : decode bytes pc = .ok (.lastore, 1)) (hp : pc + 1 = pc') (g0 : n0 ≤ a) (A : Ar Z h a .long vs) (hj : ¬ j < 0) (hl : j.toNatClampNeg < vs.length)
    (K : ∀ h', Wr h h' a j.toNatClampNeg (.long x) → Ar Z h' a .long (vs.set j.toNatClampNeg (.long x)) → Wp p l e R s m args below meth c n0 cM sM Q h' cells slots (mkF m pc' Ls st)) : Wp p l e R s m args below meth c n0 cM sM Q h cells slots (mkF m pc Ls (.long x :: .int j :: .ref a :: st)) := by
  have A' := A
  obtain ⟨cl, A, r⟩ := A
  exact w_lastore C hd hp g0 A (Ar.nin r hj hl) (fun h' W => K h' W (A'.set W))
theorem wA_castore (C : Cx p s m meth c Z own bytes ml rt nm) {pc pc' : Nat} {Ls : Array Slot} {st : List Value} {a : Addr} {vs : List Value} {j : Int32} {x : Int32} (hd : decode bytes pc = .ok (.castore, 1)) (hp : pc + 1 = pc') (g0 : n0 ≤ a) (A : Ar Z h a .char vs) (hj : ¬ j < 0) (hl : j.toNatClampNeg < vs.length)
    (K : ∀ h', Wr h h' a j.toNatClampNeg (.int (toCh x)) → Ar Z h' a .char (vs.set j.toNatClampNeg (.int (toCh x))) → Wp p l e R s m args below meth c n0 cM sM Q h' cells slots (mkF m pc' Ls st)) : Wp p l e R s m args below meth c n0 cM sM Q h cells slots (mkF m pc Ls (.int x :: .int j :: .ref a :: st)) := by
  have A' := A
  obtain ⟨cl, A, r⟩ := A
  exact w_castore C hd hp g0 A (Ar.nin r hj hl) (fun h' W => K h' W (A'.set W))
theorem wA_aastore (C : Cx p s m meth c Z own bytes ml rt nm) {pc pc' : Nat} {Ls : Array Slot} {st : List Value} {a : Addr} {Cl : String} {vs : List Value} {j : Int32} {v : Value} (hd : decode bytes pc = .ok (.aastore, 1)) (hp : pc + 1 = pc') (g0 : n0 ≤ a) (A : ArR Z h a Cl vs) (hj : ¬ j < 0) (hl : j.toNatClampNeg < vs.length) (F : Sto Z h a v)
    (K : ∀ h', Wr h h' a j.toNatClampNeg v → ArR Z h' a Cl (vs.set j.toNatClampNeg v) → Wp p l e R s m args below meth c n0 cM sM Q h' cells slots (mkF m pc' Ls st)) : Wp p l e R s m args below meth c n0 cM sM Q h cells slots (mkF m pc Ls (v :: .int j :: .ref a :: st)) := by
  have A' := A
  obtain ⟨cl, A, r, -⟩ := A
  exact w_aastore C hd hp g0 A (Ar.nin r hj hl) rfl F (fun h' W => K h' W (A'.set W))
theorem wA_alen (C : Cx p s m meth c Z own bytes ml rt nm) {pc pc' : Nat} {Ls : Array Slot} {st : List Value} {a : Addr} {ty : FieldType} {vs : List Value} {n : Int32} (hd : decode bytes pc = .ok (.arraylength, 1)) (hp : pc + 1 = pc') (A : Ar Z h a ty vs) (hn : vs.length.toInt32 = n)
    (K : Wp p l e R s m args below meth c n0 cM sM Q h cells slots (mkF m pc' Ls (.int n :: st))) : Wp p l e R s m args below meth c n0 cM sM Q h cells slots (mkF m pc Ls (.ref a :: st)) := by
  obtain ⟨cl, A, r⟩ := A
  exact w_alen C hd hp A (by rw [r]; simpa using hn) K
theorem wA_alenR (C : Cx p s m meth c Z own bytes ml rt nm) {pc pc' : Nat} {Ls : Array Slot} {st : List Value} {a : Addr} {Cl : String} {vs : List Value} {n : Int32} (hd : decode bytes pc = .ok (.arraylength, 1)) (hp : pc + 1 = pc') (A : ArR Z h a Cl vs) (hn : vs.length.toInt32 = n)
    (K : Wp p l e R s m args below meth c n0 cM sM Q h cells slots (mkF m pc' Ls (.int n :: st))) : Wp p l e R s m args below meth c n0 cM sM Q h cells slots (mkF m pc Ls (.ref a :: st)) := by
  obtain ⟨cl, A, r, -⟩ := A
  exact w_alen C hd hp A (by rw [r]; simpa using hn) K
theorem wA_newP (C : Cx p s m meth c Z own bytes ml rt nm) {pc pc' ce' sl' : Nat} {Ls : Array Slot} {st : List Value} {aty : ArrayType} {n : Int32} {cap : Nat} (w : (Jvm.Cond.arrayClass (newarray.typeOf aty)).before a0 Z = true) (hd : decode bytes pc = .ok (.newarray aty, 2)) (hp : pc + 2 = pc') (hn : ¬ n < 0) (hcap : n.toNatClampNeg ≤ cap) (hbig : cap * 8 ≤ 536870912) (hc1 : cells + 1 = ce') (hl1 : slots + cap = sl') (hc : ce' ≤ R.cells) (hl : sl' ≤ R.slots)
    (K : ∀ h' a, a = h.size → Ext h h' → Ar Z h' a (newarray.typeOf aty) (List.replicate n.toNatClampNeg (defaultValue (newarray.typeOf aty))) → Wp p l e R s m args below meth c n0 cM sM Q h' ce' sl' (mkF m pc' Ls (.ref a :: st))) : Wp p l e R s m args below meth c n0 cM sM Q h cells slots (mkF m pc Ls (.int n :: st)) :=
  w_newP C w hd hp hn hcap hbig hc1 hl1 hc hl (fun h' a cA e E A => K h' a e E (Ar.new A))
theorem wA_newR (C : Cx p s m meth c Z own bytes ml rt nm) {pc pc' ce' sl' : Nat} {Ls : Array Slot} {st : List Value} {Cl : String} {i : Nat} {n : Int32} {cap : Nat} (w1 : (Jvm.Cond.classLink own i Cl).before a0 Z = true) (w2 : (Jvm.Cond.arrayOver (.object Cl)).before a0 Z = true) (hd : decode bytes pc = .ok (.anewarray i, 3)) (hp : pc + 3 = pc') (hn : ¬ n < 0) (hcap : n.toNatClampNeg ≤ cap) (hbig : cap * 8 ≤ 536870912) (hc1 : cells + 1 = ce') (hl1 : slots + cap = sl') (hc : ce' ≤ R.cells) (hl : sl' ≤ R.slots)
    (K : ∀ h' a, a = h.size → Ext h h' → ArR Z h' a Cl (List.replicate n.toNatClampNeg .null) → Wp p l e R s m args below meth c n0 cM sM Q h' ce' sl' (mkF m pc' Ls (.ref a :: st))) : Wp p l e R s m args below meth c n0 cM sM Q h cells slots (mkF m pc Ls (.int n :: st)) :=
  w_newR C w1 w2 hd hp hn hcap hbig hc1 hl1 hc hl (fun h' a cA e E A O => K h' a e E (ArR.new A O))
end Rules2
theorem cmpJ_gt (x y : Int64) : (0 < cmpJ x y) = (y < x) := propext (lw_gt x y)
theorem cmpJ_lt (x y : Int64) : (cmpJ x y < 0) = (x < y) := propext (lw_lt x y)
theorem cmpJ_eq (x y : Int64) : (cmpJ x y = 0) = (x = y) := propext (lw_eq x y)
theorem toCh_rng (x : Int32) : 0 ≤ (toCh x).toInt ∧ (toCh x).toInt < 65536 := ⟨(c_i2c x).2.1, (c_i2c x).2.2⟩
theorem toCh_mod (x : Int32) : ((toCh x).toInt - x.toInt) % 65536 = 0 := (c_i2c x).1
theorem toCh_id {x : Int32} (h0 : 0 ≤ x.toInt) (h1 : x.toInt < 65536) : toCh x = x := by
  apply Int32.toInt_inj.mp
  have := toCh_rng x; have := toCh_mod x
  omega
/-- an int in 0 .. n-1 is one of the n numbers -/
theorem small_int {n : Nat} {x : Int32} (h0 : 0 ≤ x.toInt) (h1 : x.toInt < n) : ∃ k : Fin n, x = Int32.ofInt (k.1 : Int) := by
  refine ⟨⟨x.toInt.toNat, by omega⟩, ?_⟩
  show x = Int32.ofInt ((x.toInt.toNat : Nat) : Int)
  rw [Int.toNat_of_nonneg h0, Int32.ofInt_toInt]
end Jvm.Own
namespace Jvm.Pilot.@@N@@
open Jvm Jvm.ClassFile Sem Op Lib Jvm.Free Jvm.Stand Jvm.LawKit Jvm.RoadKit Jvm.Own Bundle Jvm.Pilot.@@N@@.Jvm.D
theorem tw {tabs : List Jvm.Cond} {a0 : Array Value} {Z : State} (hw : ∀ d ∈ tabs, d.before a0 Z = true) (i : Nat) {d : Jvm.Cond} (h : tabs[i]? = some d) : d.before a0 Z = true := hw _ (List.mem_of_getElem? h)
theorem pd_0 : parseMethodDescriptor "(II)I" = some ⟨[.int, .int], some .int⟩ := by decide +kernel
theorem pd_1 : parseMethodDescriptor "(I)Z" = some ⟨[.int], some .boolean⟩ := by decide +kernel
theorem pd_2 : parseMethodDescriptor "([II)Z" = some ⟨[(.array .int), .int], some .boolean⟩ := by decide +kernel
def tabL : List Int32 := [65, 91, 97, 123, 192, 215, 216, 247, 248, 768, 880, 894, 895, 8192, 8204, 8206, 8304, 8592, 11264, 12272, 12289, 55296, 63744, 64976, 65008, 65534, 65536, 983040]
def tabAt (j : Int32) : Int32 := tabL.getD j.toNatClampNeg 0
theorem tab_at : ∀ k : Fin 28, ¬ Int32.ofInt (k.1 : Int) < 0 ∧ tabL[(Int32.ofInt (k.1 : Int)).toNatClampNeg]? = some (tabAt (Int32.ofInt (k.1 : Int))) := by decide +kernel
theorem own_idx (x : Int32) : ¬ ((x &&& (2147483647 : Int32)) % (28 : Int32)) < 0 ∧ ([.int (65 : Int32), .int (91 : Int32), .int (97 : Int32), .int (123 : Int32), .int (192 : Int32), .int (215 : Int32), .int (216 : Int32), .int (247 : Int32), .int (248 : Int32), .int (768 : Int32), .int (880 : Int32), .int (894 : Int32), .int (895 : Int32), .int (8192 : Int32), .int (8204 : Int32), .int (8206 : Int32), .int (8304 : Int32), .int (8592 : Int32), .int (11264 : Int32), .int (12272 : Int32), .int (12289 : Int32), .int (55296 : Int32), .int (63744 : Int32), .int (64976 : Int32), .int (65008 : Int32), .int (65534 : Int32), .int (65536 : Int32), .int (983040 : Int32)] : List Value)[((x &&& (2147483647 : Int32)) % (28 : Int32)).toNatClampNeg]? = some (.int (tabAt ((x &&& (2147483647 : Int32)) % (28 : Int32)))) := by
  have h1 := c_mask x 2147483647 31 (by decide) (by decide)
  have h2 := c_irem (x &&& 2147483647) 28 28 (by decide)
  have e : ([.int (65 : Int32), .int (91 : Int32), .int (97 : Int32), .int (123 : Int32), .int (192 : Int32), .int (215 : Int32), .int (216 : Int32), .int (247 : Int32), .int (248 : Int32), .int (768 : Int32), .int (880 : Int32), .int (894 : Int32), .int (895 : Int32), .int (8192 : Int32), .int (8204 : Int32), .int (8206 : Int32), .int (8304 : Int32), .int (8592 : Int32), .int (11264 : Int32), .int (12272 : Int32), .int (12289 : Int32), .int (55296 : Int32), .int (63744 : Int32), .int (64976 : Int32), .int (65008 : Int32), .int (65534 : Int32), .int (65536 : Int32), .int (983040 : Int32)] : List Value) = tabL.map Value.int := rfl
  generalize ((x &&& (2147483647 : Int32)) % (28 : Int32)) = j at *
  have h3 : 0 ≤ j.toInt := by omega
  have h4 : j.toInt < (28 : Nat) := by omega
  obtain ⟨k, rfl⟩ := small_int h3 h4
  obtain ⟨q1, q2⟩ := tab_at k
  refine ⟨q1, ?_⟩
  rw [e, List.getElem?_map, q2]; rfl
theorem d1_0 : decode prog_68_method_14_code 0 = .ok (.iload_n 0, 1) := by decide +kernel
theorem d1_1 : decode prog_68_method_14_code 1 = .ok (.bipush 65, 2) := by decide +kernel
theorem d1_3 : decode prog_68_method_14_code 3 = .ok (.if_icmp .lt 9, 3) := by decide +kernel
theorem d1_6 : decode prog_68_method_14_code 6 = .ok (.iload_n 0, 1) := by decide +kernel
theorem d1_7 : decode prog_68_method_14_code 7 = .ok (.bipush 90, 2) := by decide +kernel
theorem d1_9 : decode prog_68_method_14_code 9 = .ok (.if_icmp .le 176, 3) := by decide +kernel
theorem d1_12 : decode prog_68_method_14_code 12 = .ok (.iload_n 0, 1) := by decide +kernel
theorem d1_13 : decode prog_68_method_14_code 13 = .ok (.bipush 97, 2) := by decide +kernel
theorem d1_15 : decode prog_68_method_14_code 15 = .ok (.if_icmp .lt 9, 3) := by decide +kernel
theorem d1_18 : decode prog_68_method_14_code 18 = .ok (.iload_n 0, 1) := by decide +kernel
theorem d1_19 : decode prog_68_method_14_code 19 = .ok (.bipush 122, 2) := by decide +kernel
theorem d1_21 : decode prog_68_method_14_code 21 = .ok (.if_icmp .le 164, 3) := by decide +kernel
theorem d1_24 : decode prog_68_method_14_code 24 = .ok (.iload_n 0, 1) := by decide +kernel
theorem d1_25 : decode prog_68_method_14_code 25 = .ok (.sipush 192, 3) := by decide +kernel
theorem d1_28 : decode prog_68_method_14_code 28 = .ok (.if_icmp .lt 10, 3) := by decide +kernel
theorem d1_31 : decode prog_68_method_14_code 31 = .ok (.iload_n 0, 1) := by decide +kernel
theorem d1_32 : decode prog_68_method_14_code 32 = .ok (.sipush 214, 3) := by decide +kernel
theorem d1_35 : decode prog_68_method_14_code 35 = .ok (.if_icmp .le 150, 3) := by decide +kernel
theorem d1_38 : decode prog_68_method_14_code 38 = .ok (.iload_n 0, 1) := by decide +kernel
theorem d1_39 : decode prog_68_method_14_code 39 = .ok (.sipush 216, 3) := by decide +kernel
theorem d1_42 : decode prog_68_method_14_code 42 = .ok (.if_icmp .lt 10, 3) := by decide +kernel
theorem d1_45 : decode prog_68_method_14_code 45 = .ok (.iload_n 0, 1) := by decide +kernel
theorem d1_46 : decode prog_68_method_14_code 46 = .ok (.sipush 246, 3) := by decide +kernel
theorem d1_49 : decode prog_68_method_14_code 49 = .ok (.if_icmp .le 136, 3) := by decide +kernel
theorem d1_52 : decode prog_68_method_14_code 52 = .ok (.iload_n 0, 1) := by decide +kernel
theorem d1_53 : decode prog_68_method_14_code 53 = .ok (.sipush 248, 3) := by decide +kernel
theorem d1_56 : decode prog_68_method_14_code 56 = .ok (.if_icmp .lt 10, 3) := by decide +kernel
theorem d1_59 : decode prog_68_method_14_code 59 = .ok (.iload_n 0, 1) := by decide +kernel
theorem d1_60 : decode prog_68_method_14_code 60 = .ok (.sipush 767, 3) := by decide +kernel
theorem d1_63 : decode prog_68_method_14_code 63 = .ok (.if_icmp .le 122, 3) := by decide +kernel
theorem d1_66 : decode prog_68_method_14_code 66 = .ok (.iload_n 0, 1) := by decide +kernel
theorem d1_67 : decode prog_68_method_14_code 67 = .ok (.sipush 880, 3) := by decide +kernel
theorem d1_70 : decode prog_68_method_14_code 70 = .ok (.if_icmp .lt 10, 3) := by decide +kernel
theorem d1_73 : decode prog_68_method_14_code 73 = .ok (.iload_n 0, 1) := by decide +kernel
theorem d1_74 : decode prog_68_method_14_code 74 = .ok (.sipush 893, 3) := by decide +kernel
theorem d1_77 : decode prog_68_method_14_code 77 = .ok (.if_icmp .le 108, 3) := by decide +kernel
theorem d1_80 : decode prog_68_method_14_code 80 = .ok (.iload_n 0, 1) := by decide +kernel
theorem d1_81 : decode prog_68_method_14_code 81 = .ok (.sipush 895, 3) := by decide +kernel
theorem d1_84 : decode prog_68_method_14_code 84 = .ok (.if_icmp .lt 10, 3) := by decide +kernel
theorem d1_87 : decode prog_68_method_14_code 87 = .ok (.iload_n 0, 1) := by decide +kernel
theorem d1_88 : decode prog_68_method_14_code 88 = .ok (.sipush 8191, 3) := by decide +kernel
theorem d1_91 : decode prog_68_method_14_code 91 = .ok (.if_icmp .le 94, 3) := by decide +kernel
theorem d1_94 : decode prog_68_method_14_code 94 = .ok (.iload_n 0, 1) := by decide +kernel
theorem d1_95 : decode prog_68_method_14_code 95 = .ok (.sipush 8204, 3) := by decide +kernel
theorem d1_98 : decode prog_68_method_14_code 98 = .ok (.if_icmp .lt 10, 3) := by decide +kernel
theorem d1_101 : decode prog_68_method_14_code 101 = .ok (.iload_n 0, 1) := by decide +kernel
theorem d1_102 : decode prog_68_method_14_code 102 = .ok (.sipush 8205, 3) := by decide +kernel
theorem d1_105 : decode prog_68_method_14_code 105 = .ok (.if_icmp .le 80, 3) := by decide +kernel
theorem d1_108 : decode prog_68_method_14_code 108 = .ok (.iload_n 0, 1) := by decide +kernel
theorem d1_109 : decode prog_68_method_14_code 109 = .ok (.sipush 8304, 3) := by decide +kernel
theorem d1_112 : decode prog_68_method_14_code 112 = .ok (.if_icmp .lt 10, 3) := by decide +kernel
theorem d1_115 : decode prog_68_method_14_code 115 = .ok (.iload_n 0, 1) := by decide +kernel
theorem d1_116 : decode prog_68_method_14_code 116 = .ok (.sipush 8591, 3) := by decide +kernel
theorem d1_119 : decode prog_68_method_14_code 119 = .ok (.if_icmp .le 66, 3) := by decide +kernel
theorem d1_122 : decode prog_68_method_14_code 122 = .ok (.iload_n 0, 1) := by decide +kernel
theorem d1_123 : decode prog_68_method_14_code 123 = .ok (.sipush 11264, 3) := by decide +kernel
theorem d1_126 : decode prog_68_method_14_code 126 = .ok (.if_icmp .lt 10, 3) := by decide +kernel
theorem d1_129 : decode prog_68_method_14_code 129 = .ok (.iload_n 0, 1) := by decide +kernel
theorem d1_130 : decode prog_68_method_14_code 130 = .ok (.sipush 12271, 3) := by decide +kernel
theorem d1_133 : decode prog_68_method_14_code 133 = .ok (.if_icmp .le 52, 3) := by decide +kernel
theorem d1_136 : decode prog_68_method_14_code 136 = .ok (.iload_n 0, 1) := by decide +kernel
theorem d1_137 : decode prog_68_method_14_code 137 = .ok (.sipush 12289, 3) := by decide +kernel
theorem d1_140 : decode prog_68_method_14_code 140 = .ok (.if_icmp .lt 9, 3) := by decide +kernel
theorem d1_143 : decode prog_68_method_14_code 143 = .ok (.iload_n 0, 1) := by decide +kernel
theorem d1_144 : decode prog_68_method_14_code 144 = .ok (.ldc 50, 2) := by decide +kernel
theorem d1_146 : decode prog_68_method_14_code 146 = .ok (.if_icmp .le 39, 3) := by decide +kernel
theorem d1_149 : decode prog_68_method_14_code 149 = .ok (.iload_n 0, 1) := by decide +kernel
theorem d1_150 : decode prog_68_method_14_code 150 = .ok (.ldc 51, 2) := by decide +kernel
theorem d1_152 : decode prog_68_method_14_code 152 = .ok (.if_icmp .lt 9, 3) := by decide +kernel
theorem d1_155 : decode prog_68_method_14_code 155 = .ok (.iload_n 0, 1) := by decide +kernel
theorem d1_156 : decode prog_68_method_14_code 156 = .ok (.ldc 52, 2) := by decide +kernel
theorem d1_158 : decode prog_68_method_14_code 158 = .ok (.if_icmp .le 27, 3) := by decide +kernel
theorem d1_161 : decode prog_68_method_14_code 161 = .ok (.iload_n 0, 1) := by decide +kernel
theorem d1_162 : decode prog_68_method_14_code 162 = .ok (.ldc 53, 2) := by decide +kernel
theorem d1_164 : decode prog_68_method_14_code 164 = .ok (.if_icmp .lt 9, 3) := by decide +kernel
theorem d1_167 : decode prog_68_method_14_code 167 = .ok (.iload_n 0, 1) := by decide +kernel
theorem d1_168 : decode prog_68_method_14_code 168 = .ok (.ldc 54, 2) := by decide +kernel
theorem d1_170 : decode prog_68_method_14_code 170 = .ok (.if_icmp .le 15, 3) := by decide +kernel
theorem d1_173 : decode prog_68_method_14_code 173 = .ok (.iload_n 0, 1) := by decide +kernel
theorem d1_174 : decode prog_68_method_14_code 174 = .ok (.ldc 55, 2) := by decide +kernel
theorem d1_176 : decode prog_68_method_14_code 176 = .ok (.if_icmp .lt 13, 3) := by decide +kernel
theorem d1_179 : decode prog_68_method_14_code 179 = .ok (.iload_n 0, 1) := by decide +kernel
theorem d1_180 : decode prog_68_method_14_code 180 = .ok (.ldc 56, 2) := by decide +kernel
theorem d1_182 : decode prog_68_method_14_code 182 = .ok (.if_icmp .gt 7, 3) := by decide +kernel
theorem d1_185 : decode prog_68_method_14_code 185 = .ok (.iconst 1, 1) := by decide +kernel
theorem d1_186 : decode prog_68_method_14_code 186 = .ok (.goto 4, 3) := by decide +kernel
theorem d1_189 : decode prog_68_method_14_code 189 = .ok (.iconst 0, 1) := by decide +kernel
theorem d1_190 : decode prog_68_method_14_code 190 = .ok (.ireturn, 1) := by decide +kernel
def isName_189 (x0 : Int32) : Int32 := (0 : Int32)
def isName_185 (x0 : Int32) : Int32 := (1 : Int32)
def isName_173 (x0 : Int32) : Int32 := (if x0 < (65536 : Int32) then (isName_189 x0) else (if (983039 : Int32) < x0 then (isName_189 x0) else (isName_185 x0)))
def isName_161 (x0 : Int32) : Int32 := (if x0 < (65008 : Int32) then (isName_173 x0) else (if (65533 : Int32) < x0 then (isName_173 x0) else (isName_185 x0)))
def isName_149 (x0 : Int32) : Int32 := (if x0 < (63744 : Int32) then (isName_161 x0) else (if (64975 : Int32) < x0 then (isName_161 x0) else (isName_185 x0)))
def isName_136 (x0 : Int32) : Int32 := (if x0 < (12289 : Int32) then (isName_149 x0) else (if (55295 : Int32) < x0 then (isName_149 x0) else (isName_185 x0)))
def isName_122 (x0 : Int32) : Int32 := (if x0 < (11264 : Int32) then (isName_136 x0) else (if (12271 : Int32) < x0 then (isName_136 x0) else (isName_185 x0)))
def isName_108 (x0 : Int32) : Int32 := (if x0 < (8304 : Int32) then (isName_122 x0) else (if (8591 : Int32) < x0 then (isName_122 x0) else (isName_185 x0)))
def isName_94 (x0 : Int32) : Int32 := (if x0 < (8204 : Int32) then (isName_108 x0) else (if (8205 : Int32) < x0 then (isName_108 x0) else (isName_185 x0)))
def isName_80 (x0 : Int32) : Int32 := (if x0 < (895 : Int32) then (isName_94 x0) else (if (8191 : Int32) < x0 then (isName_94 x0) else (isName_185 x0)))
def isName_66 (x0 : Int32) : Int32 := (if x0 < (880 : Int32) then (isName_80 x0) else (if (893 : Int32) < x0 then (isName_80 x0) else (isName_185 x0)))
def isName_52 (x0 : Int32) : Int32 := (if x0 < (248 : Int32) then (isName_66 x0) else (if (767 : Int32) < x0 then (isName_66 x0) else (isName_185 x0)))
def isName_38 (x0 : Int32) : Int32 := (if x0 < (216 : Int32) then (isName_52 x0) else (if (246 : Int32) < x0 then (isName_52 x0) else (isName_185 x0)))
def isName_24 (x0 : Int32) : Int32 := (if x0 < (192 : Int32) then (isName_38 x0) else (if (214 : Int32) < x0 then (isName_38 x0) else (isName_185 x0)))
def isName_12 (x0 : Int32) : Int32 := (if x0 < (97 : Int32) then (isName_24 x0) else (if (122 : Int32) < x0 then (isName_24 x0) else (isName_185 x0)))
def isName (x0 : Int32) : Int32 := (if x0 < (65 : Int32) then (isName_12 x0) else (if (90 : Int32) < x0 then (isName_12 x0) else (isName_185 x0)))
def rm_isName : Room := { frames := 0, cells := 0, slots := 0, locals := 0 }
def Q_isName (x0 : Int32) (h0 : Heap) (v : Option Value) (h : Heap) : Prop := v = some (.int (isName x0)) ∧ h = h0
theorem pf_isName : plainFor (⟨"com/example/aboxdb/aboxdb/Terminals", "isNameStartCharacter", "(I)Z"⟩ : MethodName) = true := plainFor_of_name (by first | (simp [plainName, overriddenIn]; done) | decide +kernel)
set_option maxRecDepth 65536 in
set_option maxHeartbeats 40000000 in
theorem ct_isName {l : Launch} {Z : State} {a0 : Array Value} (hw : ∀ d ∈ tables_1, d.before a0 Z = true) (h0 : Heap) (n0 : Nat) (x0 : Int32)  :
    Ct l Z (⟨"com/example/aboxdb/aboxdb/Terminals", "isNameStartCharacter", "(I)Z"⟩ : MethodName) prog_68_method_14_code 1 (Option.some Jvm.ClassFile.FieldType.boolean) [] rm_isName #[.int x0] h0 n0 (Q_isName x0 h0) := by
  refine Ct.of (Ls := #[.val (.int x0)]) pf_isName (fun m => by first | (simp [entryFrame, mkF, argsToLocals, Value.category, maxLocals]; done) | rfl) ?_
  intro p e s m below meth c C
  have K189 : isName x0 = isName_189 x0 → Wp p l e rm_isName s m #[.int x0] below meth c n0 rm_isName.cells rm_isName.slots (Q_isName x0 h0) h0 0 0 (mkF m 189 #[.val (.int x0)] []) := by
    intro  hr
    change _ = (0 : Int32) at hr
    refine w_iconst (pc' := 190) (x := (0 : Int32)) C d1_189 rfl rfl ?_
    refine w_retN' (t := .boolean) (z' := (0 : Int32)) C rfl (by simp) d1_190 (by decide) (by decide) narB0 ?_
    exact And.intro (congrArg (fun z => some (Value.int z)) hr.symm) rfl
  have K185 : isName x0 = isName_185 x0 → Wp p l e rm_isName s m #[.int x0] below meth c n0 rm_isName.cells rm_isName.slots (Q_isName x0 h0) h0 0 0 (mkF m 185 #[.val (.int x0)] []) := by
    intro  hr
    change _ = (1 : Int32) at hr
    refine w_iconst (pc' := 186) (x := (1 : Int32)) C d1_185 rfl rfl ?_
    refine w_goto (pc' := 190) C d1_186 (by decide) (by decide) ?_
    refine w_retN' (t := .boolean) (z' := (1 : Int32)) C rfl (by simp) d1_190 (by decide) (by decide) narB1 ?_
    exact And.intro (congrArg (fun z => some (Value.int z)) hr.symm) rfl
  have K173 : isName x0 = isName_173 x0 → Wp p l e rm_isName s m #[.int x0] below meth c n0 rm_isName.cells rm_isName.slots (Q_isName x0 h0) h0 0 0 (mkF m 173 #[.val (.int x0)] []) := by
    intro  hr
    change _ = (if x0 < (65536 : Int32) then (isName_189 x0) else (if (983039 : Int32) < x0 then (isName_189 x0) else (isName_185 x0))) at hr
    refine w_iloadN (pc' := 174) C d1_173 rfl rfl ?_
    refine w_ldcI (pc' := 176) C (tw hw 15 rfl) d1_174 rfl ?_
    refine w_icmp_lt (pcT := 189) (pcF := 179) C d1_176 (by decide) (by decide) rfl (fun q176 => ?_) (fun q176 => ?_)
    · have hr := hr.trans (if_pos q176)
      exact K189 hr
    · have hr := hr.trans (if_neg q176)
      refine w_iloadN (pc' := 180) C d1_179 rfl rfl ?_
      refine w_ldcI (pc' := 182) C (tw hw 26 rfl) d1_180 rfl ?_
      refine w_icmp_gt (pcT := 189) (pcF := 185) C d1_182 (by decide) (by decide) rfl (fun q182 => ?_) (fun q182 => ?_)
      · have hr := hr.trans (if_pos q182)
        exact K189 hr
      · have hr := hr.trans (if_neg q182)
        exact K185 hr
  have K161 : isName x0 = isName_161 x0 → Wp p l e rm_isName s m #[.int x0] below meth c n0 rm_isName.cells rm_isName.slots (Q_isName x0 h0) h0 0 0 (mkF m 161 #[.val (.int x0)] []) := by
    intro  hr
    change _ = (if x0 < (65008 : Int32) then (isName_173 x0) else (if (65533 : Int32) < x0 then (isName_173 x0) else (isName_185 x0))) at hr
    refine w_iloadN (pc' := 162) C d1_161 rfl rfl ?_
    refine w_ldcI (pc' := 164) C (tw hw 14 rfl) d1_162 rfl ?_
    refine w_icmp_lt (pcT := 173) (pcF := 167) C d1_164 (by decide) (by decide) rfl (fun q164 => ?_) (fun q164 => ?_)
    · have hr := hr.trans (if_pos q164)
      exact K173 hr
    · have hr := hr.trans (if_neg q164)
      refine w_iloadN (pc' := 168) C d1_167 rfl rfl ?_
      refine w_ldcI (pc' := 170) C (tw hw 25 rfl) d1_168 rfl ?_
      refine w_icmp_le (pcT := 185) (pcF := 173) C d1_170 (by decide) (by decide) rfl (fun q170 => ?_) (fun q170 => ?_)
      · have hr := hr.trans (if_neg q170)
        exact K185 hr
      · have hr := hr.trans (if_pos q170)
        exact K173 hr
  have K149 : isName x0 = isName_149 x0 → Wp p l e rm_isName s m #[.int x0] below meth c n0 rm_isName.cells rm_isName.slots (Q_isName x0 h0) h0 0 0 (mkF m 149 #[.val (.int x0)] []) := by
    intro  hr
    change _ = (if x0 < (63744 : Int32) then (isName_161 x0) else (if (64975 : Int32) < x0 then (isName_161 x0) else (isName_185 x0))) at hr
    refine w_iloadN (pc' := 150) C d1_149 rfl rfl ?_
    refine w_ldcI (pc' := 152) C (tw hw 13 rfl) d1_150 rfl ?_
    refine w_icmp_lt (pcT := 161) (pcF := 155) C d1_152 (by decide) (by decide) rfl (fun q152 => ?_) (fun q152 => ?_)
    · have hr := hr.trans (if_pos q152)
      exact K161 hr
    · have hr := hr.trans (if_neg q152)
      refine w_iloadN (pc' := 156) C d1_155 rfl rfl ?_
      refine w_ldcI (pc' := 158) C (tw hw 24 rfl) d1_156 rfl ?_
      refine w_icmp_le (pcT := 185) (pcF := 161) C d1_158 (by decide) (by decide) rfl (fun q158 => ?_) (fun q158 => ?_)
      · have hr := hr.trans (if_neg q158)
        exact K185 hr
      · have hr := hr.trans (if_pos q158)
        exact K161 hr
  have K136 : isName x0 = isName_136 x0 → Wp p l e rm_isName s m #[.int x0] below meth c n0 rm_isName.cells rm_isName.slots (Q_isName x0 h0) h0 0 0 (mkF m 136 #[.val (.int x0)] []) := by
    intro  hr
    change _ = (if x0 < (12289 : Int32) then (isName_149 x0) else (if (55295 : Int32) < x0 then (isName_149 x0) else (isName_185 x0))) at hr
    refine w_iloadN (pc' := 137) C d1_136 rfl rfl ?_
    refine w_sipush (pc' := 140) (x := (12289 : Int32)) C d1_137 rfl rfl ?_
    refine w_icmp_lt (pcT := 149) (pcF := 143) C d1_140 (by decide) (by decide) rfl (fun q140 => ?_) (fun q140 => ?_)
    · have hr := hr.trans (if_pos q140)
      exact K149 hr
    · have hr := hr.trans (if_neg q140)
      refine w_iloadN (pc' := 144) C d1_143 rfl rfl ?_
      refine w_ldcI (pc' := 146) C (tw hw 23 rfl) d1_144 rfl ?_
      refine w_icmp_le (pcT := 185) (pcF := 149) C d1_146 (by decide) (by decide) rfl (fun q146 => ?_) (fun q146 => ?_)
      · have hr := hr.trans (if_neg q146)
        exact K185 hr
      · have hr := hr.trans (if_pos q146)
        exact K149 hr
  have K122 : isName x0 = isName_122 x0 → Wp p l e rm_isName s m #[.int x0] below meth c n0 rm_isName.cells rm_isName.slots (Q_isName x0 h0) h0 0 0 (mkF m 122 #[.val (.int x0)] []) := by
    intro  hr
    change _ = (if x0 < (11264 : Int32) then (isName_136 x0) else (if (12271 : Int32) < x0 then (isName_136 x0) else (isName_185 x0))) at hr
    refine w_iloadN (pc' := 123) C d1_122 rfl rfl ?_
    refine w_sipush (pc' := 126) (x := (11264 : Int32)) C d1_123 rfl rfl ?_
    refine w_icmp_lt (pcT := 136) (pcF := 129) C d1_126 (by decide) (by decide) rfl (fun q126 => ?_) (fun q126 => ?_)
    · have hr := hr.trans (if_pos q126)
      exact K136 hr
    · have hr := hr.trans (if_neg q126)
      refine w_iloadN (pc' := 130) C d1_129 rfl rfl ?_
      refine w_sipush (pc' := 133) (x := (12271 : Int32)) C d1_130 rfl rfl ?_
      refine w_icmp_le (pcT := 185) (pcF := 136) C d1_133 (by decide) (by decide) rfl (fun q133 => ?_) (fun q133 => ?_)
      · have hr := hr.trans (if_neg q133)
        exact K185 hr
      · have hr := hr.trans (if_pos q133)
        exact K136 hr
  have K108 : isName x0 = isName_108 x0 → Wp p l e rm_isName s m #[.int x0] below meth c n0 rm_isName.cells rm_isName.slots (Q_isName x0 h0) h0 0 0 (mkF m 108 #[.val (.int x0)] []) := by
    intro  hr
    change _ = (if x0 < (8304 : Int32) then (isName_122 x0) else (if (8591 : Int32) < x0 then (isName_122 x0) else (isName_185 x0))) at hr
    refine w_iloadN (pc' := 109) C d1_108 rfl rfl ?_
    refine w_sipush (pc' := 112) (x := (8304 : Int32)) C d1_109 rfl rfl ?_
    refine w_icmp_lt (pcT := 122) (pcF := 115) C d1_112 (by decide) (by decide) rfl (fun q112 => ?_) (fun q112 => ?_)
    · have hr := hr.trans (if_pos q112)
      exact K122 hr
    · have hr := hr.trans (if_neg q112)
      refine w_iloadN (pc' := 116) C d1_115 rfl rfl ?_
      refine w_sipush (pc' := 119) (x := (8591 : Int32)) C d1_116 rfl rfl ?_
      refine w_icmp_le (pcT := 185) (pcF := 122) C d1_119 (by decide) (by decide) rfl (fun q119 => ?_) (fun q119 => ?_)
      · have hr := hr.trans (if_neg q119)
        exact K185 hr
      · have hr := hr.trans (if_pos q119)
        exact K122 hr
  have K94 : isName x0 = isName_94 x0 → Wp p l e rm_isName s m #[.int x0] below meth c n0 rm_isName.cells rm_isName.slots (Q_isName x0 h0) h0 0 0 (mkF m 94 #[.val (.int x0)] []) := by
    intro  hr
    change _ = (if x0 < (8204 : Int32) then (isName_108 x0) else (if (8205 : Int32) < x0 then (isName_108 x0) else (isName_185 x0))) at hr
    refine w_iloadN (pc' := 95) C d1_94 rfl rfl ?_
    refine w_sipush (pc' := 98) (x := (8204 : Int32)) C d1_95 rfl rfl ?_
    refine w_icmp_lt (pcT := 108) (pcF := 101) C d1_98 (by decide) (by decide) rfl (fun q98 => ?_) (fun q98 => ?_)
    · have hr := hr.trans (if_pos q98)
      exact K108 hr
    · have hr := hr.trans (if_neg q98)
      refine w_iloadN (pc' := 102) C d1_101 rfl rfl ?_
      refine w_sipush (pc' := 105) (x := (8205 : Int32)) C d1_102 rfl rfl ?_
      refine w_icmp_le (pcT := 185) (pcF := 108) C d1_105 (by decide) (by decide) rfl (fun q105 => ?_) (fun q105 => ?_)
      · have hr := hr.trans (if_neg q105)
        exact K185 hr
      · have hr := hr.trans (if_pos q105)
        exact K108 hr
  have K80 : isName x0 = isName_80 x0 → Wp p l e rm_isName s m #[.int x0] below meth c n0 rm_isName.cells rm_isName.slots (Q_isName x0 h0) h0 0 0 (mkF m 80 #[.val (.int x0)] []) := by
    intro  hr
    change _ = (if x0 < (895 : Int32) then (isName_94 x0) else (if (8191 : Int32) < x0 then (isName_94 x0) else (isName_185 x0))) at hr
    refine w_iloadN (pc' := 81) C d1_80 rfl rfl ?_
    refine w_sipush (pc' := 84) (x := (895 : Int32)) C d1_81 rfl rfl ?_
    refine w_icmp_lt (pcT := 94) (pcF := 87) C d1_84 (by decide) (by decide) rfl (fun q84 => ?_) (fun q84 => ?_)
    · have hr := hr.trans (if_pos q84)
      exact K94 hr
    · have hr := hr.trans (if_neg q84)
      refine w_iloadN (pc' := 88) C d1_87 rfl rfl ?_
      refine w_sipush (pc' := 91) (x := (8191 : Int32)) C d1_88 rfl rfl ?_
      refine w_icmp_le (pcT := 185) (pcF := 94) C d1_91 (by decide) (by decide) rfl (fun q91 => ?_) (fun q91 => ?_)
      · have hr := hr.trans (if_neg q91)
        exact K185 hr
      · have hr := hr.trans (if_pos q91)
        exact K94 hr
  have K66 : isName x0 = isName_66 x0 → Wp p l e rm_isName s m #[.int x0] below meth c n0 rm_isName.cells rm_isName.slots (Q_isName x0 h0) h0 0 0 (mkF m 66 #[.val (.int x0)] []) := by
    intro  hr
    change _ = (if x0 < (880 : Int32) then (isName_80 x0) else (if (893 : Int32) < x0 then (isName_80 x0) else (isName_185 x0))) at hr
    refine w_iloadN (pc' := 67) C d1_66 rfl rfl ?_
    refine w_sipush (pc' := 70) (x := (880 : Int32)) C d1_67 rfl rfl ?_
    refine w_icmp_lt (pcT := 80) (pcF := 73) C d1_70 (by decide) (by decide) rfl (fun q70 => ?_) (fun q70 => ?_)
    · have hr := hr.trans (if_pos q70)
      exact K80 hr
    · have hr := hr.trans (if_neg q70)
      refine w_iloadN (pc' := 74) C d1_73 rfl rfl ?_
      refine w_sipush (pc' := 77) (x := (893 : Int32)) C d1_74 rfl rfl ?_
      refine w_icmp_le (pcT := 185) (pcF := 80) C d1_77 (by decide) (by decide) rfl (fun q77 => ?_) (fun q77 => ?_)
      · have hr := hr.trans (if_neg q77)
        exact K185 hr
      · have hr := hr.trans (if_pos q77)
        exact K80 hr
  have K52 : isName x0 = isName_52 x0 → Wp p l e rm_isName s m #[.int x0] below meth c n0 rm_isName.cells rm_isName.slots (Q_isName x0 h0) h0 0 0 (mkF m 52 #[.val (.int x0)] []) := by
    intro  hr
    change _ = (if x0 < (248 : Int32) then (isName_66 x0) else (if (767 : Int32) < x0 then (isName_66 x0) else (isName_185 x0))) at hr
    refine w_iloadN (pc' := 53) C d1_52 rfl rfl ?_
    refine w_sipush (pc' := 56) (x := (248 : Int32)) C d1_53 rfl rfl ?_
    refine w_icmp_lt (pcT := 66) (pcF := 59) C d1_56 (by decide) (by decide) rfl (fun q56 => ?_) (fun q56 => ?_)
    · have hr := hr.trans (if_pos q56)
      exact K66 hr
    · have hr := hr.trans (if_neg q56)
      refine w_iloadN (pc' := 60) C d1_59 rfl rfl ?_
      refine w_sipush (pc' := 63) (x := (767 : Int32)) C d1_60 rfl rfl ?_
      refine w_icmp_le (pcT := 185) (pcF := 66) C d1_63 (by decide) (by decide) rfl (fun q63 => ?_) (fun q63 => ?_)
      · have hr := hr.trans (if_neg q63)
        exact K185 hr
      · have hr := hr.trans (if_pos q63)
        exact K66 hr
  have K38 : isName x0 = isName_38 x0 → Wp p l e rm_isName s m #[.int x0] below meth c n0 rm_isName.cells rm_isName.slots (Q_isName x0 h0) h0 0 0 (mkF m 38 #[.val (.int x0)] []) := by
    intro  hr
    change _ = (if x0 < (216 : Int32) then (isName_52 x0) else (if (246 : Int32) < x0 then (isName_52 x0) else (isName_185 x0))) at hr
    refine w_iloadN (pc' := 39) C d1_38 rfl rfl ?_
    refine w_sipush (pc' := 42) (x := (216 : Int32)) C d1_39 rfl rfl ?_
    refine w_icmp_lt (pcT := 52) (pcF := 45) C d1_42 (by decide) (by decide) rfl (fun q42 => ?_) (fun q42 => ?_)
    · have hr := hr.trans (if_pos q42)
      exact K52 hr
    · have hr := hr.trans (if_neg q42)
      refine w_iloadN (pc' := 46) C d1_45 rfl rfl ?_
      refine w_sipush (pc' := 49) (x := (246 : Int32)) C d1_46 rfl rfl ?_
      refine w_icmp_le (pcT := 185) (pcF := 52) C d1_49 (by decide) (by decide) rfl (fun q49 => ?_) (fun q49 => ?_)
      · have hr := hr.trans (if_neg q49)
        exact K185 hr
      · have hr := hr.trans (if_pos q49)
        exact K52 hr
  have K24 : isName x0 = isName_24 x0 → Wp p l e rm_isName s m #[.int x0] below meth c n0 rm_isName.cells rm_isName.slots (Q_isName x0 h0) h0 0 0 (mkF m 24 #[.val (.int x0)] []) := by
    intro  hr
    change _ = (if x0 < (192 : Int32) then (isName_38 x0) else (if (214 : Int32) < x0 then (isName_38 x0) else (isName_185 x0))) at hr
    refine w_iloadN (pc' := 25) C d1_24 rfl rfl ?_
    refine w_sipush (pc' := 28) (x := (192 : Int32)) C d1_25 rfl rfl ?_
    refine w_icmp_lt (pcT := 38) (pcF := 31) C d1_28 (by decide) (by decide) rfl (fun q28 => ?_) (fun q28 => ?_)
    · have hr := hr.trans (if_pos q28)
      exact K38 hr
    · have hr := hr.trans (if_neg q28)
      refine w_iloadN (pc' := 32) C d1_31 rfl rfl ?_
      refine w_sipush (pc' := 35) (x := (214 : Int32)) C d1_32 rfl rfl ?_
      refine w_icmp_le (pcT := 185) (pcF := 38) C d1_35 (by decide) (by decide) rfl (fun q35 => ?_) (fun q35 => ?_)
      · have hr := hr.trans (if_neg q35)
        exact K185 hr
      · have hr := hr.trans (if_pos q35)
        exact K38 hr
  have K12 : isName x0 = isName_12 x0 → Wp p l e rm_isName s m #[.int x0] below meth c n0 rm_isName.cells rm_isName.slots (Q_isName x0 h0) h0 0 0 (mkF m 12 #[.val (.int x0)] []) := by
    intro  hr
    change _ = (if x0 < (97 : Int32) then (isName_24 x0) else (if (122 : Int32) < x0 then (isName_24 x0) else (isName_185 x0))) at hr
    refine w_iloadN (pc' := 13) C d1_12 rfl rfl ?_
    refine w_bipush (pc' := 15) (x := (97 : Int32)) C d1_13 rfl rfl ?_
    refine w_icmp_lt (pcT := 24) (pcF := 18) C d1_15 (by decide) (by decide) rfl (fun q15 => ?_) (fun q15 => ?_)
    · have hr := hr.trans (if_pos q15)
      exact K24 hr
    · have hr := hr.trans (if_neg q15)
      refine w_iloadN (pc' := 19) C d1_18 rfl rfl ?_
      refine w_bipush (pc' := 21) (x := (122 : Int32)) C d1_19 rfl rfl ?_
      refine w_icmp_le (pcT := 185) (pcF := 24) C d1_21 (by decide) (by decide) rfl (fun q21 => ?_) (fun q21 => ?_)
      · have hr := hr.trans (if_neg q21)
        exact K185 hr
      · have hr := hr.trans (if_pos q21)
        exact K24 hr
  have hr : isName x0 = (if x0 < (65 : Int32) then (isName_12 x0) else (if (90 : Int32) < x0 then (isName_12 x0) else (isName_185 x0))) := rfl
  refine w_iloadN (pc' := 1) C d1_0 rfl rfl ?_
  refine w_bipush (pc' := 3) (x := (65 : Int32)) C d1_1 rfl rfl ?_
  refine w_icmp_lt (pcT := 12) (pcF := 6) C d1_3 (by decide) (by decide) rfl (fun q3 => ?_) (fun q3 => ?_)
  · have hr := hr.trans (if_pos q3)
    exact K12 hr
  · have hr := hr.trans (if_neg q3)
    refine w_iloadN (pc' := 7) C d1_6 rfl rfl ?_
    refine w_bipush (pc' := 9) (x := (90 : Int32)) C d1_7 rfl rfl ?_
    refine w_icmp_le (pcT := 185) (pcF := 12) C d1_9 (by decide) (by decide) rfl (fun q9 => ?_) (fun q9 => ?_)
    · have hr := hr.trans (if_neg q9)
      exact K185 hr
    · have hr := hr.trans (if_pos q9)
      exact K12 hr
theorem d3_0 : decode method_3_code 0 = .ok (.iload_n 0, 1) := by decide +kernel
theorem d3_1 : decode method_3_code 1 = .ok (.iload_n 1, 1) := by decide +kernel
theorem d3_2 : decode method_3_code 2 = .ok (.if_icmp .lt 7, 3) := by decide +kernel
theorem d3_5 : decode method_3_code 5 = .ok (.iconst 1, 1) := by decide +kernel
theorem d3_6 : decode method_3_code 6 = .ok (.goto 4, 3) := by decide +kernel
theorem d3_9 : decode method_3_code 9 = .ok (.iconst 0, 1) := by decide +kernel
theorem d3_10 : decode method_3_code 10 = .ok (.ireturn, 1) := by decide +kernel
def ge (x0 : Int32) (x1 : Int32) : Int32 := (if x0 < x1 then (0 : Int32) else (1 : Int32))
def rm_ge : Room := { frames := 0, cells := 0, slots := 0, locals := 0 }
def Q_ge (x0 : Int32) (x1 : Int32) (h0 : Heap) (v : Option Value) (h : Heap) : Prop := v = some (.int (ge x0 x1)) ∧ h = h0
theorem pf_ge : plainFor (⟨"com/example/aboxdb/aboxdb/TerminalsIsNameStartCharacterPinLaw", "ge", "(II)I"⟩ : MethodName) = true := plainFor_of_name (by first | (simp [plainName, overriddenIn]; done) | decide +kernel)
set_option maxRecDepth 65536 in
set_option maxHeartbeats 40000000 in
theorem ct_ge {l : Launch} {Z : State} {a0 : Array Value} (hw : ∀ d ∈ tables_1, d.before a0 Z = true) (h0 : Heap) (n0 : Nat) (x0 : Int32) (x1 : Int32)  :
    Ct l Z (⟨"com/example/aboxdb/aboxdb/TerminalsIsNameStartCharacterPinLaw", "ge", "(II)I"⟩ : MethodName) method_3_code 2 (Option.some Jvm.ClassFile.FieldType.int) [] rm_ge #[.int x0, .int x1] h0 n0 (Q_ge x0 x1 h0) := by
  refine Ct.of (Ls := #[.val (.int x0), .val (.int x1)]) pf_ge (fun m => by first | (simp [entryFrame, mkF, argsToLocals, Value.category, maxLocals]; done) | rfl) ?_
  intro p e s m below meth c C
  have hr : ge x0 x1 = (if x0 < x1 then (0 : Int32) else (1 : Int32)) := rfl
  refine w_iloadN (pc' := 1) C d3_0 rfl rfl ?_
  refine w_iloadN (pc' := 2) C d3_1 rfl rfl ?_
  refine w_icmp_lt (pcT := 9) (pcF := 5) C d3_2 (by decide) (by decide) rfl (fun q2 => ?_) (fun q2 => ?_)
  · have hr := hr.trans (if_pos q2)
    refine w_iconst (pc' := 10) (x := (0 : Int32)) C d3_9 rfl rfl ?_
    refine w_retI C rfl d3_10 (by decide) (by decide) ?_
    exact And.intro (congrArg (fun z => some (Value.int z)) hr.symm) rfl
  · have hr := hr.trans (if_neg q2)
    refine w_iconst (pc' := 6) (x := (1 : Int32)) C d3_5 rfl rfl ?_
    refine w_goto (pc' := 10) C d3_6 (by decide) (by decide) ?_
    refine w_retI C rfl d3_10 (by decide) (by decide) ?_
    exact And.intro (congrArg (fun z => some (Value.int z)) hr.symm) rfl
theorem d2_0 : decode method_4_code 0 = .ok (.iload_n 1, 1) := by decide +kernel
theorem d2_1 : decode method_4_code 1 = .ok (.aload_n 0, 1) := by decide +kernel
theorem d2_2 : decode method_4_code 2 = .ok (.iconst 0, 1) := by decide +kernel
theorem d2_3 : decode method_4_code 3 = .ok (.iaload, 1) := by decide +kernel
theorem d2_4 : decode method_4_code 4 = .ok (.invokestatic 27, 3) := by decide +kernel
theorem d2_7 : decode method_4_code 7 = .ok (.iload_n 1, 1) := by decide +kernel
theorem d2_8 : decode method_4_code 8 = .ok (.aload_n 0, 1) := by decide +kernel
theorem d2_9 : decode method_4_code 9 = .ok (.iconst 1, 1) := by decide +kernel
theorem d2_10 : decode method_4_code 10 = .ok (.iaload, 1) := by decide +kernel
theorem d2_11 : decode method_4_code 11 = .ok (.invokestatic 27, 3) := by decide +kernel
theorem d2_14 : decode method_4_code 14 = .ok (.iadd, 1) := by decide +kernel
theorem d2_15 : decode method_4_code 15 = .ok (.iload_n 1, 1) := by decide +kernel
theorem d2_16 : decode method_4_code 16 = .ok (.aload_n 0, 1) := by decide +kernel
theorem d2_17 : decode method_4_code 17 = .ok (.iconst 2, 1) := by decide +kernel
theorem d2_18 : decode method_4_code 18 = .ok (.iaload, 1) := by decide +kernel
theorem d2_19 : decode method_4_code 19 = .ok (.invokestatic 27, 3) := by decide +kernel
theorem d2_22 : decode method_4_code 22 = .ok (.iadd, 1) := by decide +kernel
theorem d2_23 : decode method_4_code 23 = .ok (.iload_n 1, 1) := by decide +kernel
theorem d2_24 : decode method_4_code 24 = .ok (.aload_n 0, 1) := by decide +kernel
theorem d2_25 : decode method_4_code 25 = .ok (.iconst 3, 1) := by decide +kernel
theorem d2_26 : decode method_4_code 26 = .ok (.iaload, 1) := by decide +kernel
theorem d2_27 : decode method_4_code 27 = .ok (.invokestatic 27, 3) := by decide +kernel
theorem d2_30 : decode method_4_code 30 = .ok (.iadd, 1) := by decide +kernel
theorem d2_31 : decode method_4_code 31 = .ok (.iload_n 1, 1) := by decide +kernel
theorem d2_32 : decode method_4_code 32 = .ok (.aload_n 0, 1) := by decide +kernel
theorem d2_33 : decode method_4_code 33 = .ok (.iconst 4, 1) := by decide +kernel
theorem d2_34 : decode method_4_code 34 = .ok (.iaload, 1) := by decide +kernel
theorem d2_35 : decode method_4_code 35 = .ok (.invokestatic 27, 3) := by decide +kernel
theorem d2_38 : decode method_4_code 38 = .ok (.iadd, 1) := by decide +kernel
theorem d2_39 : decode method_4_code 39 = .ok (.iload_n 1, 1) := by decide +kernel
theorem d2_40 : decode method_4_code 40 = .ok (.aload_n 0, 1) := by decide +kernel
theorem d2_41 : decode method_4_code 41 = .ok (.iconst 5, 1) := by decide +kernel
theorem d2_42 : decode method_4_code 42 = .ok (.iaload, 1) := by decide +kernel
theorem d2_43 : decode method_4_code 43 = .ok (.invokestatic 27, 3) := by decide +kernel
theorem d2_46 : decode method_4_code 46 = .ok (.iadd, 1) := by decide +kernel
theorem d2_47 : decode method_4_code 47 = .ok (.iload_n 1, 1) := by decide +kernel
theorem d2_48 : decode method_4_code 48 = .ok (.aload_n 0, 1) := by decide +kernel
theorem d2_49 : decode method_4_code 49 = .ok (.bipush 6, 2) := by decide +kernel
theorem d2_51 : decode method_4_code 51 = .ok (.iaload, 1) := by decide +kernel
theorem d2_52 : decode method_4_code 52 = .ok (.invokestatic 27, 3) := by decide +kernel
theorem d2_55 : decode method_4_code 55 = .ok (.iadd, 1) := by decide +kernel
theorem d2_56 : decode method_4_code 56 = .ok (.iload_n 1, 1) := by decide +kernel
theorem d2_57 : decode method_4_code 57 = .ok (.aload_n 0, 1) := by decide +kernel
theorem d2_58 : decode method_4_code 58 = .ok (.bipush 7, 2) := by decide +kernel
theorem d2_60 : decode method_4_code 60 = .ok (.iaload, 1) := by decide +kernel
theorem d2_61 : decode method_4_code 61 = .ok (.invokestatic 27, 3) := by decide +kernel
theorem d2_64 : decode method_4_code 64 = .ok (.iadd, 1) := by decide +kernel
theorem d2_65 : decode method_4_code 65 = .ok (.iload_n 1, 1) := by decide +kernel
theorem d2_66 : decode method_4_code 66 = .ok (.aload_n 0, 1) := by decide +kernel
theorem d2_67 : decode method_4_code 67 = .ok (.bipush 8, 2) := by decide +kernel
theorem d2_69 : decode method_4_code 69 = .ok (.iaload, 1) := by decide +kernel
theorem d2_70 : decode method_4_code 70 = .ok (.invokestatic 27, 3) := by decide +kernel
theorem d2_73 : decode method_4_code 73 = .ok (.iadd, 1) := by decide +kernel
theorem d2_74 : decode method_4_code 74 = .ok (.iload_n 1, 1) := by decide +kernel
theorem d2_75 : decode method_4_code 75 = .ok (.aload_n 0, 1) := by decide +kernel
theorem d2_76 : decode method_4_code 76 = .ok (.bipush 9, 2) := by decide +kernel
theorem d2_78 : decode method_4_code 78 = .ok (.iaload, 1) := by decide +kernel
theorem d2_79 : decode method_4_code 79 = .ok (.invokestatic 27, 3) := by decide +kernel
theorem d2_82 : decode method_4_code 82 = .ok (.iadd, 1) := by decide +kernel
theorem d2_83 : decode method_4_code 83 = .ok (.iload_n 1, 1) := by decide +kernel
theorem d2_84 : decode method_4_code 84 = .ok (.aload_n 0, 1) := by decide +kernel
theorem d2_85 : decode method_4_code 85 = .ok (.bipush 10, 2) := by decide +kernel
theorem d2_87 : decode method_4_code 87 = .ok (.iaload, 1) := by decide +kernel
theorem d2_88 : decode method_4_code 88 = .ok (.invokestatic 27, 3) := by decide +kernel
theorem d2_91 : decode method_4_code 91 = .ok (.iadd, 1) := by decide +kernel
theorem d2_92 : decode method_4_code 92 = .ok (.iload_n 1, 1) := by decide +kernel
theorem d2_93 : decode method_4_code 93 = .ok (.aload_n 0, 1) := by decide +kernel
theorem d2_94 : decode method_4_code 94 = .ok (.bipush 11, 2) := by decide +kernel
theorem d2_96 : decode method_4_code 96 = .ok (.iaload, 1) := by decide +kernel
theorem d2_97 : decode method_4_code 97 = .ok (.invokestatic 27, 3) := by decide +kernel
theorem d2_100 : decode method_4_code 100 = .ok (.iadd, 1) := by decide +kernel
theorem d2_101 : decode method_4_code 101 = .ok (.iload_n 1, 1) := by decide +kernel
theorem d2_102 : decode method_4_code 102 = .ok (.aload_n 0, 1) := by decide +kernel
theorem d2_103 : decode method_4_code 103 = .ok (.bipush 12, 2) := by decide +kernel
theorem d2_105 : decode method_4_code 105 = .ok (.iaload, 1) := by decide +kernel
theorem d2_106 : decode method_4_code 106 = .ok (.invokestatic 27, 3) := by decide +kernel
theorem d2_109 : decode method_4_code 109 = .ok (.iadd, 1) := by decide +kernel
theorem d2_110 : decode method_4_code 110 = .ok (.iload_n 1, 1) := by decide +kernel
theorem d2_111 : decode method_4_code 111 = .ok (.aload_n 0, 1) := by decide +kernel
theorem d2_112 : decode method_4_code 112 = .ok (.bipush 13, 2) := by decide +kernel
theorem d2_114 : decode method_4_code 114 = .ok (.iaload, 1) := by decide +kernel
theorem d2_115 : decode method_4_code 115 = .ok (.invokestatic 27, 3) := by decide +kernel
theorem d2_118 : decode method_4_code 118 = .ok (.iadd, 1) := by decide +kernel
theorem d2_119 : decode method_4_code 119 = .ok (.iload_n 1, 1) := by decide +kernel
theorem d2_120 : decode method_4_code 120 = .ok (.aload_n 0, 1) := by decide +kernel
theorem d2_121 : decode method_4_code 121 = .ok (.bipush 14, 2) := by decide +kernel
theorem d2_123 : decode method_4_code 123 = .ok (.iaload, 1) := by decide +kernel
theorem d2_124 : decode method_4_code 124 = .ok (.invokestatic 27, 3) := by decide +kernel
theorem d2_127 : decode method_4_code 127 = .ok (.iadd, 1) := by decide +kernel
theorem d2_128 : decode method_4_code 128 = .ok (.iload_n 1, 1) := by decide +kernel
theorem d2_129 : decode method_4_code 129 = .ok (.aload_n 0, 1) := by decide +kernel
theorem d2_130 : decode method_4_code 130 = .ok (.bipush 15, 2) := by decide +kernel
theorem d2_132 : decode method_4_code 132 = .ok (.iaload, 1) := by decide +kernel
theorem d2_133 : decode method_4_code 133 = .ok (.invokestatic 27, 3) := by decide +kernel
theorem d2_136 : decode method_4_code 136 = .ok (.iadd, 1) := by decide +kernel
theorem d2_137 : decode method_4_code 137 = .ok (.iload_n 1, 1) := by decide +kernel
theorem d2_138 : decode method_4_code 138 = .ok (.aload_n 0, 1) := by decide +kernel
theorem d2_139 : decode method_4_code 139 = .ok (.bipush 16, 2) := by decide +kernel
theorem d2_141 : decode method_4_code 141 = .ok (.iaload, 1) := by decide +kernel
theorem d2_142 : decode method_4_code 142 = .ok (.invokestatic 27, 3) := by decide +kernel
theorem d2_145 : decode method_4_code 145 = .ok (.iadd, 1) := by decide +kernel
theorem d2_146 : decode method_4_code 146 = .ok (.iload_n 1, 1) := by decide +kernel
theorem d2_147 : decode method_4_code 147 = .ok (.aload_n 0, 1) := by decide +kernel
theorem d2_148 : decode method_4_code 148 = .ok (.bipush 17, 2) := by decide +kernel
theorem d2_150 : decode method_4_code 150 = .ok (.iaload, 1) := by decide +kernel
theorem d2_151 : decode method_4_code 151 = .ok (.invokestatic 27, 3) := by decide +kernel
theorem d2_154 : decode method_4_code 154 = .ok (.iadd, 1) := by decide +kernel
theorem d2_155 : decode method_4_code 155 = .ok (.iload_n 1, 1) := by decide +kernel
theorem d2_156 : decode method_4_code 156 = .ok (.aload_n 0, 1) := by decide +kernel
theorem d2_157 : decode method_4_code 157 = .ok (.bipush 18, 2) := by decide +kernel
theorem d2_159 : decode method_4_code 159 = .ok (.iaload, 1) := by decide +kernel
theorem d2_160 : decode method_4_code 160 = .ok (.invokestatic 27, 3) := by decide +kernel
theorem d2_163 : decode method_4_code 163 = .ok (.iadd, 1) := by decide +kernel
theorem d2_164 : decode method_4_code 164 = .ok (.iload_n 1, 1) := by decide +kernel
theorem d2_165 : decode method_4_code 165 = .ok (.aload_n 0, 1) := by decide +kernel
theorem d2_166 : decode method_4_code 166 = .ok (.bipush 19, 2) := by decide +kernel
theorem d2_168 : decode method_4_code 168 = .ok (.iaload, 1) := by decide +kernel
theorem d2_169 : decode method_4_code 169 = .ok (.invokestatic 27, 3) := by decide +kernel
theorem d2_172 : decode method_4_code 172 = .ok (.iadd, 1) := by decide +kernel
theorem d2_173 : decode method_4_code 173 = .ok (.iload_n 1, 1) := by decide +kernel
theorem d2_174 : decode method_4_code 174 = .ok (.aload_n 0, 1) := by decide +kernel
theorem d2_175 : decode method_4_code 175 = .ok (.bipush 20, 2) := by decide +kernel
theorem d2_177 : decode method_4_code 177 = .ok (.iaload, 1) := by decide +kernel
theorem d2_178 : decode method_4_code 178 = .ok (.invokestatic 27, 3) := by decide +kernel
theorem d2_181 : decode method_4_code 181 = .ok (.iadd, 1) := by decide +kernel
theorem d2_182 : decode method_4_code 182 = .ok (.iload_n 1, 1) := by decide +kernel
theorem d2_183 : decode method_4_code 183 = .ok (.aload_n 0, 1) := by decide +kernel
theorem d2_184 : decode method_4_code 184 = .ok (.bipush 21, 2) := by decide +kernel
theorem d2_186 : decode method_4_code 186 = .ok (.iaload, 1) := by decide +kernel
theorem d2_187 : decode method_4_code 187 = .ok (.invokestatic 27, 3) := by decide +kernel
theorem d2_190 : decode method_4_code 190 = .ok (.iadd, 1) := by decide +kernel
theorem d2_191 : decode method_4_code 191 = .ok (.iload_n 1, 1) := by decide +kernel
theorem d2_192 : decode method_4_code 192 = .ok (.aload_n 0, 1) := by decide +kernel
theorem d2_193 : decode method_4_code 193 = .ok (.bipush 22, 2) := by decide +kernel
theorem d2_195 : decode method_4_code 195 = .ok (.iaload, 1) := by decide +kernel
theorem d2_196 : decode method_4_code 196 = .ok (.invokestatic 27, 3) := by decide +kernel
theorem d2_199 : decode method_4_code 199 = .ok (.iadd, 1) := by decide +kernel
theorem d2_200 : decode method_4_code 200 = .ok (.iload_n 1, 1) := by decide +kernel
theorem d2_201 : decode method_4_code 201 = .ok (.aload_n 0, 1) := by decide +kernel
theorem d2_202 : decode method_4_code 202 = .ok (.bipush 23, 2) := by decide +kernel
theorem d2_204 : decode method_4_code 204 = .ok (.iaload, 1) := by decide +kernel
theorem d2_205 : decode method_4_code 205 = .ok (.invokestatic 27, 3) := by decide +kernel
theorem d2_208 : decode method_4_code 208 = .ok (.iadd, 1) := by decide +kernel
theorem d2_209 : decode method_4_code 209 = .ok (.iload_n 1, 1) := by decide +kernel
theorem d2_210 : decode method_4_code 210 = .ok (.aload_n 0, 1) := by decide +kernel
theorem d2_211 : decode method_4_code 211 = .ok (.bipush 24, 2) := by decide +kernel
theorem d2_213 : decode method_4_code 213 = .ok (.iaload, 1) := by decide +kernel
theorem d2_214 : decode method_4_code 214 = .ok (.invokestatic 27, 3) := by decide +kernel
theorem d2_217 : decode method_4_code 217 = .ok (.iadd, 1) := by decide +kernel
theorem d2_218 : decode method_4_code 218 = .ok (.iload_n 1, 1) := by decide +kernel
theorem d2_219 : decode method_4_code 219 = .ok (.aload_n 0, 1) := by decide +kernel
theorem d2_220 : decode method_4_code 220 = .ok (.bipush 25, 2) := by decide +kernel
theorem d2_222 : decode method_4_code 222 = .ok (.iaload, 1) := by decide +kernel
theorem d2_223 : decode method_4_code 223 = .ok (.invokestatic 27, 3) := by decide +kernel
theorem d2_226 : decode method_4_code 226 = .ok (.iadd, 1) := by decide +kernel
theorem d2_227 : decode method_4_code 227 = .ok (.iload_n 1, 1) := by decide +kernel
theorem d2_228 : decode method_4_code 228 = .ok (.aload_n 0, 1) := by decide +kernel
theorem d2_229 : decode method_4_code 229 = .ok (.bipush 26, 2) := by decide +kernel
theorem d2_231 : decode method_4_code 231 = .ok (.iaload, 1) := by decide +kernel
theorem d2_232 : decode method_4_code 232 = .ok (.invokestatic 27, 3) := by decide +kernel
theorem d2_235 : decode method_4_code 235 = .ok (.iadd, 1) := by decide +kernel
theorem d2_236 : decode method_4_code 236 = .ok (.iload_n 1, 1) := by decide +kernel
theorem d2_237 : decode method_4_code 237 = .ok (.aload_n 0, 1) := by decide +kernel
theorem d2_238 : decode method_4_code 238 = .ok (.bipush 27, 2) := by decide +kernel
theorem d2_240 : decode method_4_code 240 = .ok (.iaload, 1) := by decide +kernel
theorem d2_241 : decode method_4_code 241 = .ok (.invokestatic 27, 3) := by decide +kernel
theorem d2_244 : decode method_4_code 244 = .ok (.iadd, 1) := by decide +kernel
theorem d2_245 : decode method_4_code 245 = .ok (.istore_n 2, 1) := by decide +kernel
theorem d2_246 : decode method_4_code 246 = .ok (.iload_n 2, 1) := by decide +kernel
theorem d2_247 : decode method_4_code 247 = .ok (.iconst 1, 1) := by decide +kernel
theorem d2_248 : decode method_4_code 248 = .ok (.iand, 1) := by decide +kernel
theorem d2_249 : decode method_4_code 249 = .ok (.iconst 1, 1) := by decide +kernel
theorem d2_250 : decode method_4_code 250 = .ok (.if_icmp .ne 7, 3) := by decide +kernel
theorem d2_253 : decode method_4_code 253 = .ok (.iconst 1, 1) := by decide +kernel
theorem d2_254 : decode method_4_code 254 = .ok (.goto 4, 3) := by decide +kernel
theorem d2_257 : decode method_4_code 257 = .ok (.iconst 0, 1) := by decide +kernel
theorem d2_258 : decode method_4_code 258 = .ok (.ireturn, 1) := by decide +kernel
def ref (x : Int32) : Int32 := (if (((((((((((((((((((((((((((((ge x (65 : Int32)) + (ge x (91 : Int32))) + (ge x (97 : Int32))) + (ge x (123 : Int32))) + (ge x (192 : Int32))) + (ge x (215 : Int32))) + (ge x (216 : Int32))) + (ge x (247 : Int32))) + (ge x (248 : Int32))) + (ge x (768 : Int32))) + (ge x (880 : Int32))) + (ge x (894 : Int32))) + (ge x (895 : Int32))) + (ge x (8192 : Int32))) + (ge x (8204 : Int32))) + (ge x (8206 : Int32))) + (ge x (8304 : Int32))) + (ge x (8592 : Int32))) + (ge x (11264 : Int32))) + (ge x (12272 : Int32))) + (ge x (12289 : Int32))) + (ge x (55296 : Int32))) + (ge x (63744 : Int32))) + (ge x (64976 : Int32))) + (ge x (65008 : Int32))) + (ge x (65534 : Int32))) + (ge x (65536 : Int32))) + (ge x (983040 : Int32))) &&& (1 : Int32)) = (1 : Int32) then (1 : Int32) else (0 : Int32))
def rm_ref : Room := { frames := 1, cells := 0, slots := 0, locals := 14 }
def Q_ref (x : Int32) (h0 : Heap) (v : Option Value) (h : Heap) : Prop := v = some (.int (ref x)) ∧ h = h0
theorem pf_ref : plainFor (⟨"com/example/aboxdb/aboxdb/TerminalsIsNameStartCharacterPinLaw", "ref", "([II)Z"⟩ : MethodName) = true := plainFor_of_name (by first | (simp [plainName, overriddenIn]; done) | decide +kernel)
set_option maxRecDepth 65536 in
set_option maxHeartbeats 40000000 in
theorem ct_ref {l : Launch} {Z : State} {a0 : Array Value} (hw : ∀ d ∈ tables_1, d.before a0 Z = true) (h0 : Heap) (n0 : Nat) (b : Addr) (x : Int32) (O_b : Ar Z h0 b .int [.int (65 : Int32), .int (91 : Int32), .int (97 : Int32), .int (123 : Int32), .int (192 : Int32), .int (215 : Int32), .int (216 : Int32), .int (247 : Int32), .int (248 : Int32), .int (768 : Int32), .int (880 : Int32), .int (894 : Int32), .int (895 : Int32), .int (8192 : Int32), .int (8204 : Int32), .int (8206 : Int32), .int (8304 : Int32), .int (8592 : Int32), .int (11264 : Int32), .int (12272 : Int32), .int (12289 : Int32), .int (55296 : Int32), .int (63744 : Int32), .int (64976 : Int32), .int (65008 : Int32), .int (65534 : Int32), .int (65536 : Int32), .int (983040 : Int32)]) :
    Ct l Z (⟨"com/example/aboxdb/aboxdb/TerminalsIsNameStartCharacterPinLaw", "ref", "([II)Z"⟩ : MethodName) method_4_code 3 (Option.some Jvm.ClassFile.FieldType.boolean) [] rm_ref #[.ref b, .int x] h0 n0 (Q_ref x h0) := by
  refine Ct.of (Ls := #[.val (.ref b), .val (.int x), .unset]) pf_ref (fun m => by first | (simp [entryFrame, mkF, argsToLocals, Value.category, maxLocals]; done) | rfl) ?_
  intro p e s m below meth c C
  have hr : ref x = (if (((((((((((((((((((((((((((((ge x (65 : Int32)) + (ge x (91 : Int32))) + (ge x (97 : Int32))) + (ge x (123 : Int32))) + (ge x (192 : Int32))) + (ge x (215 : Int32))) + (ge x (216 : Int32))) + (ge x (247 : Int32))) + (ge x (248 : Int32))) + (ge x (768 : Int32))) + (ge x (880 : Int32))) + (ge x (894 : Int32))) + (ge x (895 : Int32))) + (ge x (8192 : Int32))) + (ge x (8204 : Int32))) + (ge x (8206 : Int32))) + (ge x (8304 : Int32))) + (ge x (8592 : Int32))) + (ge x (11264 : Int32))) + (ge x (12272 : Int32))) + (ge x (12289 : Int32))) + (ge x (55296 : Int32))) + (ge x (63744 : Int32))) + (ge x (64976 : Int32))) + (ge x (65008 : Int32))) + (ge x (65534 : Int32))) + (ge x (65536 : Int32))) + (ge x (983040 : Int32))) &&& (1 : Int32)) = (1 : Int32) then (1 : Int32) else (0 : Int32)) := rfl
  refine w_iloadN (pc' := 1) C d2_0 rfl rfl ?_
  refine w_aloadN (pc' := 2) C d2_1 rfl rfl rfl ?_
  refine w_iconst (pc' := 3) (x := (0 : Int32)) C d2_2 rfl rfl ?_
  refine wA_iaload (pc' := 4) (v := .int (65 : Int32)) C d2_3 rfl O_b (by decide) rfl ?_
  refine w_callS (pc' := 7) (argsL := [.int x, .int (65 : Int32)]) (st := []) (W := 0) (ce' := 0) (sl' := 0) C (tw hw 20 rfl) (tw hw 21 rfl) (tw hw 18 rfl) (tw hw 22 rfl) (by decide) d2_4 rfl rfl (by decide) (by decide) (Nat.le_of_eq rfl) rfl rfl (by decide) (by decide) rfl (lenOf pd_0 rfl) (ct_ge hw h0 n0 x (65 : Int32)) (kp ?_)
  refine w_iloadN (pc' := 8) C d2_7 rfl rfl ?_
  refine w_aloadN (pc' := 9) C d2_8 rfl rfl rfl ?_
  refine w_iconst (pc' := 10) (x := (1 : Int32)) C d2_9 rfl rfl ?_
  refine wA_iaload (pc' := 11) (v := .int (91 : Int32)) C d2_10 rfl O_b (by decide) rfl ?_
  refine w_callS (pc' := 14) (argsL := [.int x, .int (91 : Int32)]) (st := [.int (ge x (65 : Int32))]) (W := 1) (ce' := 0) (sl' := 0) C (tw hw 20 rfl) (tw hw 21 rfl) (tw hw 18 rfl) (tw hw 22 rfl) (by decide) d2_11 rfl rfl (by decide) (by decide) (Nat.le_of_eq rfl) rfl rfl (by decide) (by decide) rfl (lenOf pd_0 rfl) (ct_ge hw h0 n0 x (91 : Int32)) (kp ?_)
  refine w_iadd (pc' := 15) C d2_14 rfl ?_
  refine w_iloadN (pc' := 16) C d2_15 rfl rfl ?_
  refine w_aloadN (pc' := 17) C d2_16 rfl rfl rfl ?_
  refine w_iconst (pc' := 18) (x := (2 : Int32)) C d2_17 rfl rfl ?_
  refine wA_iaload (pc' := 19) (v := .int (97 : Int32)) C d2_18 rfl O_b (by decide) rfl ?_
  refine w_callS (pc' := 22) (argsL := [.int x, .int (97 : Int32)]) (st := [.int ((ge x (65 : Int32)) + (ge x (91 : Int32)))]) (W := 1) (ce' := 0) (sl' := 0) C (tw hw 20 rfl) (tw hw 21 rfl) (tw hw 18 rfl) (tw hw 22 rfl) (by decide) d2_19 rfl rfl (by decide) (by decide) (Nat.le_of_eq rfl) rfl rfl (by decide) (by decide) rfl (lenOf pd_0 rfl) (ct_ge hw h0 n0 x (97 : Int32)) (kp ?_)
  refine w_iadd (pc' := 23) C d2_22 rfl ?_
  refine w_iloadN (pc' := 24) C d2_23 rfl rfl ?_
  refine w_aloadN (pc' := 25) C d2_24 rfl rfl rfl ?_
  refine w_iconst (pc' := 26) (x := (3 : Int32)) C d2_25 rfl rfl ?_
  refine wA_iaload (pc' := 27) (v := .int (123 : Int32)) C d2_26 rfl O_b (by decide) rfl ?_
  refine w_callS (pc' := 30) (argsL := [.int x, .int (123 : Int32)]) (st := [.int (((ge x (65 : Int32)) + (ge x (91 : Int32))) + (ge x (97 : Int32)))]) (W := 1) (ce' := 0) (sl' := 0) C (tw hw 20 rfl) (tw hw 21 rfl) (tw hw 18 rfl) (tw hw 22 rfl) (by decide) d2_27 rfl rfl (by decide) (by decide) (Nat.le_of_eq rfl) rfl rfl (by decide) (by decide) rfl (lenOf pd_0 rfl) (ct_ge hw h0 n0 x (123 : Int32)) (kp ?_)
  refine w_iadd (pc' := 31) C d2_30 rfl ?_
  refine w_iloadN (pc' := 32) C d2_31 rfl rfl ?_
  refine w_aloadN (pc' := 33) C d2_32 rfl rfl rfl ?_
  refine w_iconst (pc' := 34) (x := (4 : Int32)) C d2_33 rfl rfl ?_
  refine wA_iaload (pc' := 35) (v := .int (192 : Int32)) C d2_34 rfl O_b (by decide) rfl ?_
  refine w_callS (pc' := 38) (argsL := [.int x, .int (192 : Int32)]) (st := [.int ((((ge x (65 : Int32)) + (ge x (91 : Int32))) + (ge x (97 : Int32))) + (ge x (123 : Int32)))]) (W := 1) (ce' := 0) (sl' := 0) C (tw hw 20 rfl) (tw hw 21 rfl) (tw hw 18 rfl) (tw hw 22 rfl) (by decide) d2_35 rfl rfl (by decide) (by decide) (Nat.le_of_eq rfl) rfl rfl (by decide) (by decide) rfl (lenOf pd_0 rfl) (ct_ge hw h0 n0 x (192 : Int32)) (kp ?_)
  refine w_iadd (pc' := 39) C d2_38 rfl ?_
  refine w_iloadN (pc' := 40) C d2_39 rfl rfl ?_
  refine w_aloadN (pc' := 41) C d2_40 rfl rfl rfl ?_
  refine w_iconst (pc' := 42) (x := (5 : Int32)) C d2_41 rfl rfl ?_
  refine wA_iaload (pc' := 43) (v := .int (215 : Int32)) C d2_42 rfl O_b (by decide) rfl ?_
  refine w_callS (pc' := 46) (argsL := [.int x, .int (215 : Int32)]) (st := [.int (((((ge x (65 : Int32)) + (ge x (91 : Int32))) + (ge x (97 : Int32))) + (ge x (123 : Int32))) + (ge x (192 : Int32)))]) (W := 1) (ce' := 0) (sl' := 0) C (tw hw 20 rfl) (tw hw 21 rfl) (tw hw 18 rfl) (tw hw 22 rfl) (by decide) d2_43 rfl rfl (by decide) (by decide) (Nat.le_of_eq rfl) rfl rfl (by decide) (by decide) rfl (lenOf pd_0 rfl) (ct_ge hw h0 n0 x (215 : Int32)) (kp ?_)
  refine w_iadd (pc' := 47) C d2_46 rfl ?_
  refine w_iloadN (pc' := 48) C d2_47 rfl rfl ?_
  refine w_aloadN (pc' := 49) C d2_48 rfl rfl rfl ?_
  refine w_bipush (pc' := 51) (x := (6 : Int32)) C d2_49 rfl rfl ?_
  refine wA_iaload (pc' := 52) (v := .int (216 : Int32)) C d2_51 rfl O_b (by decide) rfl ?_
  refine w_callS (pc' := 55) (argsL := [.int x, .int (216 : Int32)]) (st := [.int ((((((ge x (65 : Int32)) + (ge x (91 : Int32))) + (ge x (97 : Int32))) + (ge x (123 : Int32))) + (ge x (192 : Int32))) + (ge x (215 : Int32)))]) (W := 1) (ce' := 0) (sl' := 0) C (tw hw 20 rfl) (tw hw 21 rfl) (tw hw 18 rfl) (tw hw 22 rfl) (by decide) d2_52 rfl rfl (by decide) (by decide) (Nat.le_of_eq rfl) rfl rfl (by decide) (by decide) rfl (lenOf pd_0 rfl) (ct_ge hw h0 n0 x (216 : Int32)) (kp ?_)
  refine w_iadd (pc' := 56) C d2_55 rfl ?_
  refine w_iloadN (pc' := 57) C d2_56 rfl rfl ?_
  refine w_aloadN (pc' := 58) C d2_57 rfl rfl rfl ?_
  refine w_bipush (pc' := 60) (x := (7 : Int32)) C d2_58 rfl rfl ?_
  refine wA_iaload (pc' := 61) (v := .int (247 : Int32)) C d2_60 rfl O_b (by decide) rfl ?_
  refine w_callS (pc' := 64) (argsL := [.int x, .int (247 : Int32)]) (st := [.int (((((((ge x (65 : Int32)) + (ge x (91 : Int32))) + (ge x (97 : Int32))) + (ge x (123 : Int32))) + (ge x (192 : Int32))) + (ge x (215 : Int32))) + (ge x (216 : Int32)))]) (W := 1) (ce' := 0) (sl' := 0) C (tw hw 20 rfl) (tw hw 21 rfl) (tw hw 18 rfl) (tw hw 22 rfl) (by decide) d2_61 rfl rfl (by decide) (by decide) (Nat.le_of_eq rfl) rfl rfl (by decide) (by decide) rfl (lenOf pd_0 rfl) (ct_ge hw h0 n0 x (247 : Int32)) (kp ?_)
  refine w_iadd (pc' := 65) C d2_64 rfl ?_
  refine w_iloadN (pc' := 66) C d2_65 rfl rfl ?_
  refine w_aloadN (pc' := 67) C d2_66 rfl rfl rfl ?_
  refine w_bipush (pc' := 69) (x := (8 : Int32)) C d2_67 rfl rfl ?_
  refine wA_iaload (pc' := 70) (v := .int (248 : Int32)) C d2_69 rfl O_b (by decide) rfl ?_
  refine w_callS (pc' := 73) (argsL := [.int x, .int (248 : Int32)]) (st := [.int ((((((((ge x (65 : Int32)) + (ge x (91 : Int32))) + (ge x (97 : Int32))) + (ge x (123 : Int32))) + (ge x (192 : Int32))) + (ge x (215 : Int32))) + (ge x (216 : Int32))) + (ge x (247 : Int32)))]) (W := 1) (ce' := 0) (sl' := 0) C (tw hw 20 rfl) (tw hw 21 rfl) (tw hw 18 rfl) (tw hw 22 rfl) (by decide) d2_70 rfl rfl (by decide) (by decide) (Nat.le_of_eq rfl) rfl rfl (by decide) (by decide) rfl (lenOf pd_0 rfl) (ct_ge hw h0 n0 x (248 : Int32)) (kp ?_)
  refine w_iadd (pc' := 74) C d2_73 rfl ?_
  refine w_iloadN (pc' := 75) C d2_74 rfl rfl ?_
  refine w_aloadN (pc' := 76) C d2_75 rfl rfl rfl ?_
  refine w_bipush (pc' := 78) (x := (9 : Int32)) C d2_76 rfl rfl ?_
  refine wA_iaload (pc' := 79) (v := .int (768 : Int32)) C d2_78 rfl O_b (by decide) rfl ?_
  refine w_callS (pc' := 82) (argsL := [.int x, .int (768 : Int32)]) (st := [.int (((((((((ge x (65 : Int32)) + (ge x (91 : Int32))) + (ge x (97 : Int32))) + (ge x (123 : Int32))) + (ge x (192 : Int32))) + (ge x (215 : Int32))) + (ge x (216 : Int32))) + (ge x (247 : Int32))) + (ge x (248 : Int32)))]) (W := 1) (ce' := 0) (sl' := 0) C (tw hw 20 rfl) (tw hw 21 rfl) (tw hw 18 rfl) (tw hw 22 rfl) (by decide) d2_79 rfl rfl (by decide) (by decide) (Nat.le_of_eq rfl) rfl rfl (by decide) (by decide) rfl (lenOf pd_0 rfl) (ct_ge hw h0 n0 x (768 : Int32)) (kp ?_)
  refine w_iadd (pc' := 83) C d2_82 rfl ?_
  refine w_iloadN (pc' := 84) C d2_83 rfl rfl ?_
  refine w_aloadN (pc' := 85) C d2_84 rfl rfl rfl ?_
  refine w_bipush (pc' := 87) (x := (10 : Int32)) C d2_85 rfl rfl ?_
  refine wA_iaload (pc' := 88) (v := .int (880 : Int32)) C d2_87 rfl O_b (by decide) rfl ?_
  refine w_callS (pc' := 91) (argsL := [.int x, .int (880 : Int32)]) (st := [.int ((((((((((ge x (65 : Int32)) + (ge x (91 : Int32))) + (ge x (97 : Int32))) + (ge x (123 : Int32))) + (ge x (192 : Int32))) + (ge x (215 : Int32))) + (ge x (216 : Int32))) + (ge x (247 : Int32))) + (ge x (248 : Int32))) + (ge x (768 : Int32)))]) (W := 1) (ce' := 0) (sl' := 0) C (tw hw 20 rfl) (tw hw 21 rfl) (tw hw 18 rfl) (tw hw 22 rfl) (by decide) d2_88 rfl rfl (by decide) (by decide) (Nat.le_of_eq rfl) rfl rfl (by decide) (by decide) rfl (lenOf pd_0 rfl) (ct_ge hw h0 n0 x (880 : Int32)) (kp ?_)
  refine w_iadd (pc' := 92) C d2_91 rfl ?_
  refine w_iloadN (pc' := 93) C d2_92 rfl rfl ?_
  refine w_aloadN (pc' := 94) C d2_93 rfl rfl rfl ?_
  refine w_bipush (pc' := 96) (x := (11 : Int32)) C d2_94 rfl rfl ?_
  refine wA_iaload (pc' := 97) (v := .int (894 : Int32)) C d2_96 rfl O_b (by decide) rfl ?_
  refine w_callS (pc' := 100) (argsL := [.int x, .int (894 : Int32)]) (st := [.int (((((((((((ge x (65 : Int32)) + (ge x (91 : Int32))) + (ge x (97 : Int32))) + (ge x (123 : Int32))) + (ge x (192 : Int32))) + (ge x (215 : Int32))) + (ge x (216 : Int32))) + (ge x (247 : Int32))) + (ge x (248 : Int32))) + (ge x (768 : Int32))) + (ge x (880 : Int32)))]) (W := 1) (ce' := 0) (sl' := 0) C (tw hw 20 rfl) (tw hw 21 rfl) (tw hw 18 rfl) (tw hw 22 rfl) (by decide) d2_97 rfl rfl (by decide) (by decide) (Nat.le_of_eq rfl) rfl rfl (by decide) (by decide) rfl (lenOf pd_0 rfl) (ct_ge hw h0 n0 x (894 : Int32)) (kp ?_)
  refine w_iadd (pc' := 101) C d2_100 rfl ?_
  refine w_iloadN (pc' := 102) C d2_101 rfl rfl ?_
  refine w_aloadN (pc' := 103) C d2_102 rfl rfl rfl ?_
  refine w_bipush (pc' := 105) (x := (12 : Int32)) C d2_103 rfl rfl ?_
  refine wA_iaload (pc' := 106) (v := .int (895 : Int32)) C d2_105 rfl O_b (by decide) rfl ?_
  refine w_callS (pc' := 109) (argsL := [.int x, .int (895 : Int32)]) (st := [.int ((((((((((((ge x (65 : Int32)) + (ge x (91 : Int32))) + (ge x (97 : Int32))) + (ge x (123 : Int32))) + (ge x (192 : Int32))) + (ge x (215 : Int32))) + (ge x (216 : Int32))) + (ge x (247 : Int32))) + (ge x (248 : Int32))) + (ge x (768 : Int32))) + (ge x (880 : Int32))) + (ge x (894 : Int32)))]) (W := 1) (ce' := 0) (sl' := 0) C (tw hw 20 rfl) (tw hw 21 rfl) (tw hw 18 rfl) (tw hw 22 rfl) (by decide) d2_106 rfl rfl (by decide) (by decide) (Nat.le_of_eq rfl) rfl rfl (by decide) (by decide) rfl (lenOf pd_0 rfl) (ct_ge hw h0 n0 x (895 : Int32)) (kp ?_)
  refine w_iadd (pc' := 110) C d2_109 rfl ?_
  refine w_iloadN (pc' := 111) C d2_110 rfl rfl ?_
  refine w_aloadN (pc' := 112) C d2_111 rfl rfl rfl ?_
  refine w_bipush (pc' := 114) (x := (13 : Int32)) C d2_112 rfl rfl ?_
  refine wA_iaload (pc' := 115) (v := .int (8192 : Int32)) C d2_114 rfl O_b (by decide) rfl ?_
  refine w_callS (pc' := 118) (argsL := [.int x, .int (8192 : Int32)]) (st := [.int (((((((((((((ge x (65 : Int32)) + (ge x (91 : Int32))) + (ge x (97 : Int32))) + (ge x (123 : Int32))) + (ge x (192 : Int32))) + (ge x (215 : Int32))) + (ge x (216 : Int32))) + (ge x (247 : Int32))) + (ge x (248 : Int32))) + (ge x (768 : Int32))) + (ge x (880 : Int32))) + (ge x (894 : Int32))) + (ge x (895 : Int32)))]) (W := 1) (ce' := 0) (sl' := 0) C (tw hw 20 rfl) (tw hw 21 rfl) (tw hw 18 rfl) (tw hw 22 rfl) (by decide) d2_115 rfl rfl (by decide) (by decide) (Nat.le_of_eq rfl) rfl rfl (by decide) (by decide) rfl (lenOf pd_0 rfl) (ct_ge hw h0 n0 x (8192 : Int32)) (kp ?_)
  refine w_iadd (pc' := 119) C d2_118 rfl ?_
  refine w_iloadN (pc' := 120) C d2_119 rfl rfl ?_
  refine w_aloadN (pc' := 121) C d2_120 rfl rfl rfl ?_
  refine w_bipush (pc' := 123) (x := (14 : Int32)) C d2_121 rfl rfl ?_
  refine wA_iaload (pc' := 124) (v := .int (8204 : Int32)) C d2_123 rfl O_b (by decide) rfl ?_
  refine w_callS (pc' := 127) (argsL := [.int x, .int (8204 : Int32)]) (st := [.int ((((((((((((((ge x (65 : Int32)) + (ge x (91 : Int32))) + (ge x (97 : Int32))) + (ge x (123 : Int32))) + (ge x (192 : Int32))) + (ge x (215 : Int32))) + (ge x (216 : Int32))) + (ge x (247 : Int32))) + (ge x (248 : Int32))) + (ge x (768 : Int32))) + (ge x (880 : Int32))) + (ge x (894 : Int32))) + (ge x (895 : Int32))) + (ge x (8192 : Int32)))]) (W := 1) (ce' := 0) (sl' := 0) C (tw hw 20 rfl) (tw hw 21 rfl) (tw hw 18 rfl) (tw hw 22 rfl) (by decide) d2_124 rfl rfl (by decide) (by decide) (Nat.le_of_eq rfl) rfl rfl (by decide) (by decide) rfl (lenOf pd_0 rfl) (ct_ge hw h0 n0 x (8204 : Int32)) (kp ?_)
  refine w_iadd (pc' := 128) C d2_127 rfl ?_
  refine w_iloadN (pc' := 129) C d2_128 rfl rfl ?_
  refine w_aloadN (pc' := 130) C d2_129 rfl rfl rfl ?_
  refine w_bipush (pc' := 132) (x := (15 : Int32)) C d2_130 rfl rfl ?_
  refine wA_iaload (pc' := 133) (v := .int (8206 : Int32)) C d2_132 rfl O_b (by decide) rfl ?_
  refine w_callS (pc' := 136) (argsL := [.int x, .int (8206 : Int32)]) (st := [.int (((((((((((((((ge x (65 : Int32)) + (ge x (91 : Int32))) + (ge x (97 : Int32))) + (ge x (123 : Int32))) + (ge x (192 : Int32))) + (ge x (215 : Int32))) + (ge x (216 : Int32))) + (ge x (247 : Int32))) + (ge x (248 : Int32))) + (ge x (768 : Int32))) + (ge x (880 : Int32))) + (ge x (894 : Int32))) + (ge x (895 : Int32))) + (ge x (8192 : Int32))) + (ge x (8204 : Int32)))]) (W := 1) (ce' := 0) (sl' := 0) C (tw hw 20 rfl) (tw hw 21 rfl) (tw hw 18 rfl) (tw hw 22 rfl) (by decide) d2_133 rfl rfl (by decide) (by decide) (Nat.le_of_eq rfl) rfl rfl (by decide) (by decide) rfl (lenOf pd_0 rfl) (ct_ge hw h0 n0 x (8206 : Int32)) (kp ?_)
  refine w_iadd (pc' := 137) C d2_136 rfl ?_
  refine w_iloadN (pc' := 138) C d2_137 rfl rfl ?_
  refine w_aloadN (pc' := 139) C d2_138 rfl rfl rfl ?_
  refine w_bipush (pc' := 141) (x := (16 : Int32)) C d2_139 rfl rfl ?_
  refine wA_iaload (pc' := 142) (v := .int (8304 : Int32)) C d2_141 rfl O_b (by decide) rfl ?_
  refine w_callS (pc' := 145) (argsL := [.int x, .int (8304 : Int32)]) (st := [.int ((((((((((((((((ge x (65 : Int32)) + (ge x (91 : Int32))) + (ge x (97 : Int32))) + (ge x (123 : Int32))) + (ge x (192 : Int32))) + (ge x (215 : Int32))) + (ge x (216 : Int32))) + (ge x (247 : Int32))) + (ge x (248 : Int32))) + (ge x (768 : Int32))) + (ge x (880 : Int32))) + (ge x (894 : Int32))) + (ge x (895 : Int32))) + (ge x (8192 : Int32))) + (ge x (8204 : Int32))) + (ge x (8206 : Int32)))]) (W := 1) (ce' := 0) (sl' := 0) C (tw hw 20 rfl) (tw hw 21 rfl) (tw hw 18 rfl) (tw hw 22 rfl) (by decide) d2_142 rfl rfl (by decide) (by decide) (Nat.le_of_eq rfl) rfl rfl (by decide) (by decide) rfl (lenOf pd_0 rfl) (ct_ge hw h0 n0 x (8304 : Int32)) (kp ?_)
  refine w_iadd (pc' := 146) C d2_145 rfl ?_
  refine w_iloadN (pc' := 147) C d2_146 rfl rfl ?_
  refine w_aloadN (pc' := 148) C d2_147 rfl rfl rfl ?_
  refine w_bipush (pc' := 150) (x := (17 : Int32)) C d2_148 rfl rfl ?_
  refine wA_iaload (pc' := 151) (v := .int (8592 : Int32)) C d2_150 rfl O_b (by decide) rfl ?_
  refine w_callS (pc' := 154) (argsL := [.int x, .int (8592 : Int32)]) (st := [.int (((((((((((((((((ge x (65 : Int32)) + (ge x (91 : Int32))) + (ge x (97 : Int32))) + (ge x (123 : Int32))) + (ge x (192 : Int32))) + (ge x (215 : Int32))) + (ge x (216 : Int32))) + (ge x (247 : Int32))) + (ge x (248 : Int32))) + (ge x (768 : Int32))) + (ge x (880 : Int32))) + (ge x (894 : Int32))) + (ge x (895 : Int32))) + (ge x (8192 : Int32))) + (ge x (8204 : Int32))) + (ge x (8206 : Int32))) + (ge x (8304 : Int32)))]) (W := 1) (ce' := 0) (sl' := 0) C (tw hw 20 rfl) (tw hw 21 rfl) (tw hw 18 rfl) (tw hw 22 rfl) (by decide) d2_151 rfl rfl (by decide) (by decide) (Nat.le_of_eq rfl) rfl rfl (by decide) (by decide) rfl (lenOf pd_0 rfl) (ct_ge hw h0 n0 x (8592 : Int32)) (kp ?_)
  refine w_iadd (pc' := 155) C d2_154 rfl ?_
  refine w_iloadN (pc' := 156) C d2_155 rfl rfl ?_
  refine w_aloadN (pc' := 157) C d2_156 rfl rfl rfl ?_
  refine w_bipush (pc' := 159) (x := (18 : Int32)) C d2_157 rfl rfl ?_
  refine wA_iaload (pc' := 160) (v := .int (11264 : Int32)) C d2_159 rfl O_b (by decide) rfl ?_
  refine w_callS (pc' := 163) (argsL := [.int x, .int (11264 : Int32)]) (st := [.int ((((((((((((((((((ge x (65 : Int32)) + (ge x (91 : Int32))) + (ge x (97 : Int32))) + (ge x (123 : Int32))) + (ge x (192 : Int32))) + (ge x (215 : Int32))) + (ge x (216 : Int32))) + (ge x (247 : Int32))) + (ge x (248 : Int32))) + (ge x (768 : Int32))) + (ge x (880 : Int32))) + (ge x (894 : Int32))) + (ge x (895 : Int32))) + (ge x (8192 : Int32))) + (ge x (8204 : Int32))) + (ge x (8206 : Int32))) + (ge x (8304 : Int32))) + (ge x (8592 : Int32)))]) (W := 1) (ce' := 0) (sl' := 0) C (tw hw 20 rfl) (tw hw 21 rfl) (tw hw 18 rfl) (tw hw 22 rfl) (by decide) d2_160 rfl rfl (by decide) (by decide) (Nat.le_of_eq rfl) rfl rfl (by decide) (by decide) rfl (lenOf pd_0 rfl) (ct_ge hw h0 n0 x (11264 : Int32)) (kp ?_)
  refine w_iadd (pc' := 164) C d2_163 rfl ?_
  refine w_iloadN (pc' := 165) C d2_164 rfl rfl ?_
  refine w_aloadN (pc' := 166) C d2_165 rfl rfl rfl ?_
  refine w_bipush (pc' := 168) (x := (19 : Int32)) C d2_166 rfl rfl ?_
  refine wA_iaload (pc' := 169) (v := .int (12272 : Int32)) C d2_168 rfl O_b (by decide) rfl ?_
  refine w_callS (pc' := 172) (argsL := [.int x, .int (12272 : Int32)]) (st := [.int (((((((((((((((((((ge x (65 : Int32)) + (ge x (91 : Int32))) + (ge x (97 : Int32))) + (ge x (123 : Int32))) + (ge x (192 : Int32))) + (ge x (215 : Int32))) + (ge x (216 : Int32))) + (ge x (247 : Int32))) + (ge x (248 : Int32))) + (ge x (768 : Int32))) + (ge x (880 : Int32))) + (ge x (894 : Int32))) + (ge x (895 : Int32))) + (ge x (8192 : Int32))) + (ge x (8204 : Int32))) + (ge x (8206 : Int32))) + (ge x (8304 : Int32))) + (ge x (8592 : Int32))) + (ge x (11264 : Int32)))]) (W := 1) (ce' := 0) (sl' := 0) C (tw hw 20 rfl) (tw hw 21 rfl) (tw hw 18 rfl) (tw hw 22 rfl) (by decide) d2_169 rfl rfl (by decide) (by decide) (Nat.le_of_eq rfl) rfl rfl (by decide) (by decide) rfl (lenOf pd_0 rfl) (ct_ge hw h0 n0 x (12272 : Int32)) (kp ?_)
  refine w_iadd (pc' := 173) C d2_172 rfl ?_
  refine w_iloadN (pc' := 174) C d2_173 rfl rfl ?_
  refine w_aloadN (pc' := 175) C d2_174 rfl rfl rfl ?_
  refine w_bipush (pc' := 177) (x := (20 : Int32)) C d2_175 rfl rfl ?_
  refine wA_iaload (pc' := 178) (v := .int (12289 : Int32)) C d2_177 rfl O_b (by decide) rfl ?_
  refine w_callS (pc' := 181) (argsL := [.int x, .int (12289 : Int32)]) (st := [.int ((((((((((((((((((((ge x (65 : Int32)) + (ge x (91 : Int32))) + (ge x (97 : Int32))) + (ge x (123 : Int32))) + (ge x (192 : Int32))) + (ge x (215 : Int32))) + (ge x (216 : Int32))) + (ge x (247 : Int32))) + (ge x (248 : Int32))) + (ge x (768 : Int32))) + (ge x (880 : Int32))) + (ge x (894 : Int32))) + (ge x (895 : Int32))) + (ge x (8192 : Int32))) + (ge x (8204 : Int32))) + (ge x (8206 : Int32))) + (ge x (8304 : Int32))) + (ge x (8592 : Int32))) + (ge x (11264 : Int32))) + (ge x (12272 : Int32)))]) (W := 1) (ce' := 0) (sl' := 0) C (tw hw 20 rfl) (tw hw 21 rfl) (tw hw 18 rfl) (tw hw 22 rfl) (by decide) d2_178 rfl rfl (by decide) (by decide) (Nat.le_of_eq rfl) rfl rfl (by decide) (by decide) rfl (lenOf pd_0 rfl) (ct_ge hw h0 n0 x (12289 : Int32)) (kp ?_)
  refine w_iadd (pc' := 182) C d2_181 rfl ?_
  refine w_iloadN (pc' := 183) C d2_182 rfl rfl ?_
  refine w_aloadN (pc' := 184) C d2_183 rfl rfl rfl ?_
  refine w_bipush (pc' := 186) (x := (21 : Int32)) C d2_184 rfl rfl ?_
  refine wA_iaload (pc' := 187) (v := .int (55296 : Int32)) C d2_186 rfl O_b (by decide) rfl ?_
  refine w_callS (pc' := 190) (argsL := [.int x, .int (55296 : Int32)]) (st := [.int (((((((((((((((((((((ge x (65 : Int32)) + (ge x (91 : Int32))) + (ge x (97 : Int32))) + (ge x (123 : Int32))) + (ge x (192 : Int32))) + (ge x (215 : Int32))) + (ge x (216 : Int32))) + (ge x (247 : Int32))) + (ge x (248 : Int32))) + (ge x (768 : Int32))) + (ge x (880 : Int32))) + (ge x (894 : Int32))) + (ge x (895 : Int32))) + (ge x (8192 : Int32))) + (ge x (8204 : Int32))) + (ge x (8206 : Int32))) + (ge x (8304 : Int32))) + (ge x (8592 : Int32))) + (ge x (11264 : Int32))) + (ge x (12272 : Int32))) + (ge x (12289 : Int32)))]) (W := 1) (ce' := 0) (sl' := 0) C (tw hw 20 rfl) (tw hw 21 rfl) (tw hw 18 rfl) (tw hw 22 rfl) (by decide) d2_187 rfl rfl (by decide) (by decide) (Nat.le_of_eq rfl) rfl rfl (by decide) (by decide) rfl (lenOf pd_0 rfl) (ct_ge hw h0 n0 x (55296 : Int32)) (kp ?_)
  refine w_iadd (pc' := 191) C d2_190 rfl ?_
  refine w_iloadN (pc' := 192) C d2_191 rfl rfl ?_
  refine w_aloadN (pc' := 193) C d2_192 rfl rfl rfl ?_
  refine w_bipush (pc' := 195) (x := (22 : Int32)) C d2_193 rfl rfl ?_
  refine wA_iaload (pc' := 196) (v := .int (63744 : Int32)) C d2_195 rfl O_b (by decide) rfl ?_
  refine w_callS (pc' := 199) (argsL := [.int x, .int (63744 : Int32)]) (st := [.int ((((((((((((((((((((((ge x (65 : Int32)) + (ge x (91 : Int32))) + (ge x (97 : Int32))) + (ge x (123 : Int32))) + (ge x (192 : Int32))) + (ge x (215 : Int32))) + (ge x (216 : Int32))) + (ge x (247 : Int32))) + (ge x (248 : Int32))) + (ge x (768 : Int32))) + (ge x (880 : Int32))) + (ge x (894 : Int32))) + (ge x (895 : Int32))) + (ge x (8192 : Int32))) + (ge x (8204 : Int32))) + (ge x (8206 : Int32))) + (ge x (8304 : Int32))) + (ge x (8592 : Int32))) + (ge x (11264 : Int32))) + (ge x (12272 : Int32))) + (ge x (12289 : Int32))) + (ge x (55296 : Int32)))]) (W := 1) (ce' := 0) (sl' := 0) C (tw hw 20 rfl) (tw hw 21 rfl) (tw hw 18 rfl) (tw hw 22 rfl) (by decide) d2_196 rfl rfl (by decide) (by decide) (Nat.le_of_eq rfl) rfl rfl (by decide) (by decide) rfl (lenOf pd_0 rfl) (ct_ge hw h0 n0 x (63744 : Int32)) (kp ?_)
  refine w_iadd (pc' := 200) C d2_199 rfl ?_
  refine w_iloadN (pc' := 201) C d2_200 rfl rfl ?_
  refine w_aloadN (pc' := 202) C d2_201 rfl rfl rfl ?_
  refine w_bipush (pc' := 204) (x := (23 : Int32)) C d2_202 rfl rfl ?_
  refine wA_iaload (pc' := 205) (v := .int (64976 : Int32)) C d2_204 rfl O_b (by decide) rfl ?_
  refine w_callS (pc' := 208) (argsL := [.int x, .int (64976 : Int32)]) (st := [.int (((((((((((((((((((((((ge x (65 : Int32)) + (ge x (91 : Int32))) + (ge x (97 : Int32))) + (ge x (123 : Int32))) + (ge x (192 : Int32))) + (ge x (215 : Int32))) + (ge x (216 : Int32))) + (ge x (247 : Int32))) + (ge x (248 : Int32))) + (ge x (768 : Int32))) + (ge x (880 : Int32))) + (ge x (894 : Int32))) + (ge x (895 : Int32))) + (ge x (8192 : Int32))) + (ge x (8204 : Int32))) + (ge x (8206 : Int32))) + (ge x (8304 : Int32))) + (ge x (8592 : Int32))) + (ge x (11264 : Int32))) + (ge x (12272 : Int32))) + (ge x (12289 : Int32))) + (ge x (55296 : Int32))) + (ge x (63744 : Int32)))]) (W := 1) (ce' := 0) (sl' := 0) C (tw hw 20 rfl) (tw hw 21 rfl) (tw hw 18 rfl) (tw hw 22 rfl) (by decide) d2_205 rfl rfl (by decide) (by decide) (Nat.le_of_eq rfl) rfl rfl (by decide) (by decide) rfl (lenOf pd_0 rfl) (ct_ge hw h0 n0 x (64976 : Int32)) (kp ?_)
  refine w_iadd (pc' := 209) C d2_208 rfl ?_
  refine w_iloadN (pc' := 210) C d2_209 rfl rfl ?_
  refine w_aloadN (pc' := 211) C d2_210 rfl rfl rfl ?_
  refine w_bipush (pc' := 213) (x := (24 : Int32)) C d2_211 rfl rfl ?_
  refine wA_iaload (pc' := 214) (v := .int (65008 : Int32)) C d2_213 rfl O_b (by decide) rfl ?_
  refine w_callS (pc' := 217) (argsL := [.int x, .int (65008 : Int32)]) (st := [.int ((((((((((((((((((((((((ge x (65 : Int32)) + (ge x (91 : Int32))) + (ge x (97 : Int32))) + (ge x (123 : Int32))) + (ge x (192 : Int32))) + (ge x (215 : Int32))) + (ge x (216 : Int32))) + (ge x (247 : Int32))) + (ge x (248 : Int32))) + (ge x (768 : Int32))) + (ge x (880 : Int32))) + (ge x (894 : Int32))) + (ge x (895 : Int32))) + (ge x (8192 : Int32))) + (ge x (8204 : Int32))) + (ge x (8206 : Int32))) + (ge x (8304 : Int32))) + (ge x (8592 : Int32))) + (ge x (11264 : Int32))) + (ge x (12272 : Int32))) + (ge x (12289 : Int32))) + (ge x (55296 : Int32))) + (ge x (63744 : Int32))) + (ge x (64976 : Int32)))]) (W := 1) (ce' := 0) (sl' := 0) C (tw hw 20 rfl) (tw hw 21 rfl) (tw hw 18 rfl) (tw hw 22 rfl) (by decide) d2_214 rfl rfl (by decide) (by decide) (Nat.le_of_eq rfl) rfl rfl (by decide) (by decide) rfl (lenOf pd_0 rfl) (ct_ge hw h0 n0 x (65008 : Int32)) (kp ?_)
  refine w_iadd (pc' := 218) C d2_217 rfl ?_
  refine w_iloadN (pc' := 219) C d2_218 rfl rfl ?_
  refine w_aloadN (pc' := 220) C d2_219 rfl rfl rfl ?_
  refine w_bipush (pc' := 222) (x := (25 : Int32)) C d2_220 rfl rfl ?_
  refine wA_iaload (pc' := 223) (v := .int (65534 : Int32)) C d2_222 rfl O_b (by decide) rfl ?_
  refine w_callS (pc' := 226) (argsL := [.int x, .int (65534 : Int32)]) (st := [.int (((((((((((((((((((((((((ge x (65 : Int32)) + (ge x (91 : Int32))) + (ge x (97 : Int32))) + (ge x (123 : Int32))) + (ge x (192 : Int32))) + (ge x (215 : Int32))) + (ge x (216 : Int32))) + (ge x (247 : Int32))) + (ge x (248 : Int32))) + (ge x (768 : Int32))) + (ge x (880 : Int32))) + (ge x (894 : Int32))) + (ge x (895 : Int32))) + (ge x (8192 : Int32))) + (ge x (8204 : Int32))) + (ge x (8206 : Int32))) + (ge x (8304 : Int32))) + (ge x (8592 : Int32))) + (ge x (11264 : Int32))) + (ge x (12272 : Int32))) + (ge x (12289 : Int32))) + (ge x (55296 : Int32))) + (ge x (63744 : Int32))) + (ge x (64976 : Int32))) + (ge x (65008 : Int32)))]) (W := 1) (ce' := 0) (sl' := 0) C (tw hw 20 rfl) (tw hw 21 rfl) (tw hw 18 rfl) (tw hw 22 rfl) (by decide) d2_223 rfl rfl (by decide) (by decide) (Nat.le_of_eq rfl) rfl rfl (by decide) (by decide) rfl (lenOf pd_0 rfl) (ct_ge hw h0 n0 x (65534 : Int32)) (kp ?_)
  refine w_iadd (pc' := 227) C d2_226 rfl ?_
  refine w_iloadN (pc' := 228) C d2_227 rfl rfl ?_
  refine w_aloadN (pc' := 229) C d2_228 rfl rfl rfl ?_
  refine w_bipush (pc' := 231) (x := (26 : Int32)) C d2_229 rfl rfl ?_
  refine wA_iaload (pc' := 232) (v := .int (65536 : Int32)) C d2_231 rfl O_b (by decide) rfl ?_
  refine w_callS (pc' := 235) (argsL := [.int x, .int (65536 : Int32)]) (st := [.int ((((((((((((((((((((((((((ge x (65 : Int32)) + (ge x (91 : Int32))) + (ge x (97 : Int32))) + (ge x (123 : Int32))) + (ge x (192 : Int32))) + (ge x (215 : Int32))) + (ge x (216 : Int32))) + (ge x (247 : Int32))) + (ge x (248 : Int32))) + (ge x (768 : Int32))) + (ge x (880 : Int32))) + (ge x (894 : Int32))) + (ge x (895 : Int32))) + (ge x (8192 : Int32))) + (ge x (8204 : Int32))) + (ge x (8206 : Int32))) + (ge x (8304 : Int32))) + (ge x (8592 : Int32))) + (ge x (11264 : Int32))) + (ge x (12272 : Int32))) + (ge x (12289 : Int32))) + (ge x (55296 : Int32))) + (ge x (63744 : Int32))) + (ge x (64976 : Int32))) + (ge x (65008 : Int32))) + (ge x (65534 : Int32)))]) (W := 1) (ce' := 0) (sl' := 0) C (tw hw 20 rfl) (tw hw 21 rfl) (tw hw 18 rfl) (tw hw 22 rfl) (by decide) d2_232 rfl rfl (by decide) (by decide) (Nat.le_of_eq rfl) rfl rfl (by decide) (by decide) rfl (lenOf pd_0 rfl) (ct_ge hw h0 n0 x (65536 : Int32)) (kp ?_)
  refine w_iadd (pc' := 236) C d2_235 rfl ?_
  refine w_iloadN (pc' := 237) C d2_236 rfl rfl ?_
  refine w_aloadN (pc' := 238) C d2_237 rfl rfl rfl ?_
  refine w_bipush (pc' := 240) (x := (27 : Int32)) C d2_238 rfl rfl ?_
  refine wA_iaload (pc' := 241) (v := .int (983040 : Int32)) C d2_240 rfl O_b (by decide) rfl ?_
  refine w_callS (pc' := 244) (argsL := [.int x, .int (983040 : Int32)]) (st := [.int (((((((((((((((((((((((((((ge x (65 : Int32)) + (ge x (91 : Int32))) + (ge x (97 : Int32))) + (ge x (123 : Int32))) + (ge x (192 : Int32))) + (ge x (215 : Int32))) + (ge x (216 : Int32))) + (ge x (247 : Int32))) + (ge x (248 : Int32))) + (ge x (768 : Int32))) + (ge x (880 : Int32))) + (ge x (894 : Int32))) + (ge x (895 : Int32))) + (ge x (8192 : Int32))) + (ge x (8204 : Int32))) + (ge x (8206 : Int32))) + (ge x (8304 : Int32))) + (ge x (8592 : Int32))) + (ge x (11264 : Int32))) + (ge x (12272 : Int32))) + (ge x (12289 : Int32))) + (ge x (55296 : Int32))) + (ge x (63744 : Int32))) + (ge x (64976 : Int32))) + (ge x (65008 : Int32))) + (ge x (65534 : Int32))) + (ge x (65536 : Int32)))]) (W := 1) (ce' := 0) (sl' := 0) C (tw hw 20 rfl) (tw hw 21 rfl) (tw hw 18 rfl) (tw hw 22 rfl) (by decide) d2_241 rfl rfl (by decide) (by decide) (Nat.le_of_eq rfl) rfl rfl (by decide) (by decide) rfl (lenOf pd_0 rfl) (ct_ge hw h0 n0 x (983040 : Int32)) (kp ?_)
  refine w_iadd (pc' := 245) C d2_244 rfl ?_
  refine w_istoreN (pc' := 246) (Ls' := #[.val (.ref b), .val (.int x), .val (.int ((((((((((((((((((((((((((((ge x (65 : Int32)) + (ge x (91 : Int32))) + (ge x (97 : Int32))) + (ge x (123 : Int32))) + (ge x (192 : Int32))) + (ge x (215 : Int32))) + (ge x (216 : Int32))) + (ge x (247 : Int32))) + (ge x (248 : Int32))) + (ge x (768 : Int32))) + (ge x (880 : Int32))) + (ge x (894 : Int32))) + (ge x (895 : Int32))) + (ge x (8192 : Int32))) + (ge x (8204 : Int32))) + (ge x (8206 : Int32))) + (ge x (8304 : Int32))) + (ge x (8592 : Int32))) + (ge x (11264 : Int32))) + (ge x (12272 : Int32))) + (ge x (12289 : Int32))) + (ge x (55296 : Int32))) + (ge x (63744 : Int32))) + (ge x (64976 : Int32))) + (ge x (65008 : Int32))) + (ge x (65534 : Int32))) + (ge x (65536 : Int32))) + (ge x (983040 : Int32))))]) C d2_245 rfl rfl ?_
  refine w_iloadN (pc' := 247) C d2_246 rfl rfl ?_
  refine w_iconst (pc' := 248) (x := (1 : Int32)) C d2_247 rfl rfl ?_
  refine w_iand (pc' := 249) C d2_248 rfl ?_
  refine w_iconst (pc' := 250) (x := (1 : Int32)) C d2_249 rfl rfl ?_
  refine w_icmp_ne (pcT := 257) (pcF := 253) C d2_250 (by decide) (by decide) rfl (fun q250 => ?_) (fun q250 => ?_)
  · have hr := hr.trans (if_neg q250)
    refine w_iconst (pc' := 258) (x := (0 : Int32)) C d2_257 rfl rfl ?_
    refine w_retN' (t := .boolean) (z' := (0 : Int32)) C rfl (by simp) d2_258 (by decide) (by decide) narB0 ?_
    exact And.intro (congrArg (fun z => some (Value.int z)) hr.symm) rfl
  · have hr := hr.trans (if_pos q250)
    refine w_iconst (pc' := 254) (x := (1 : Int32)) C d2_253 rfl rfl ?_
    refine w_goto (pc' := 258) C d2_254 (by decide) (by decide) ?_
    refine w_retN' (t := .boolean) (z' := (1 : Int32)) C rfl (by simp) d2_258 (by decide) (by decide) narB1 ?_
    exact And.intro (congrArg (fun z => some (Value.int z)) hr.symm) rfl
def law_255 (x0 : Int32) (x1 : Int32) (x2 : Int32) (t218_0 : Int32) (t239_0 : Int32) : Int32 := (0 : Int32)
def law_239 (x0 : Int32) (x1 : Int32) (x2 : Int32) (t239_0 : Int32) (t218_0 : Int32) : Int32 := (if t218_0 = 0 then (law_255 x0 x1 x2 t218_0 t239_0) else (if t239_0 = 0 then (law_255 x0 x1 x2 t218_0 t239_0) else (1 : Int32)))
def law_218 (x0 : Int32) (x1 : Int32) (x2 : Int32) (t218_0 : Int32) : Int32 := (if (isName ((tabAt ((x1 &&& (2147483647 : Int32)) % (28 : Int32))) + ((x2 &&& (3 : Int32)) - (2 : Int32)))) = (ref ((tabAt ((x1 &&& (2147483647 : Int32)) % (28 : Int32))) + ((x2 &&& (3 : Int32)) - (2 : Int32)))) then (law_239 x0 x1 x2 (1 : Int32) t218_0) else (law_239 x0 x1 x2 (0 : Int32) t218_0))
def law (x0 : Int32) (x1 : Int32) (x2 : Int32) : Int32 := (if (isName x0) = (ref x0) then (law_218 x0 x1 x2 (1 : Int32)) else (law_218 x0 x1 x2 (0 : Int32)))
theorem pf_law : plainFor (⟨"com/example/aboxdb/aboxdb/TerminalsIsNameStartCharacterPinLaw", "law", "(III)Z"⟩ : MethodName) = true := plainFor_of_name (by first | (simp [plainName, overriddenIn]; done) | decide +kernel)
set_option maxRecDepth 65536 in
set_option maxHeartbeats 40000000 in
theorem ct_law {l : Launch} {Z : State} {a0 : Array Value} (hw : ∀ d ∈ tables_1, d.before a0 Z = true) (ws : List Jvm.Cond) (h0 : Heap) (n0 : Nat) (x0 : Int32) (x1 : Int32) (x2 : Int32) (hz : n0 ≤ h0.size) :
    Ct l Z x code maxLocals ret ws room_1 #[.int x0, .int x1, .int x2] h0 n0 (fun v h => v = some (.int (law x0 x1 x2))) := by
  refine Ct.of (Ls := #[.val (.int x0), .val (.int x1), .val (.int x2), .unset, .unset, .unset, .unset]) pf_law (fun m => by first | (simp [entryFrame, mkF, argsToLocals, Value.category, maxLocals]; done) | rfl) ?_
  intro p e s m below meth c C
  have hk : Keep h0 h0 [] := Keep.refl _ _
  refine w_bipush (pc' := 2) (x := (28 : Int32)) C at_0 rfl rfl ?_
  refine wA_newP (pc' := 4) (cap := 28) (ce' := 1) (sl' := 28) C (tw hw 0 rfl) at_2 rfl (by decide) (by decide) (by decide) rfl rfl (by decide) (by decide) (fun h1 a1 e1 E1 A1 => ?_)
  have g_a1 : n0 ≤ a1 := by rw [e1]; exact hz
  have fr_a1 : h0.size ≤ a1 := by rw [e1]; exact hk.1
  have hz : n0 ≤ h1.size := Nat.le_trans hz E1.1
  have hk := hk.ext E1
  have O_a1 : Ar Z h1 a1 .int [.int (0 : Int32), .int (0 : Int32), .int (0 : Int32), .int (0 : Int32), .int (0 : Int32), .int (0 : Int32), .int (0 : Int32), .int (0 : Int32), .int (0 : Int32), .int (0 : Int32), .int (0 : Int32), .int (0 : Int32), .int (0 : Int32), .int (0 : Int32), .int (0 : Int32), .int (0 : Int32), .int (0 : Int32), .int (0 : Int32), .int (0 : Int32), .int (0 : Int32), .int (0 : Int32), .int (0 : Int32), .int (0 : Int32), .int (0 : Int32), .int (0 : Int32), .int (0 : Int32), .int (0 : Int32), .int (0 : Int32)] := A1
  refine w_dup (pc' := 5) C at_4 rfl rfl ?_
  refine w_iconst (pc' := 6) (x := (0 : Int32)) C at_5 rfl rfl ?_
  refine w_bipush (pc' := 8) (x := (65 : Int32)) C at_6 rfl rfl ?_
  refine wA_iastore (pc' := 9) C at_8 rfl g_a1 O_a1 (by decide) (by decide) (fun h2 W2 A2 => ?_)
  have O_a1 : Ar Z h2 a1 .int [.int (65 : Int32), .int (0 : Int32), .int (0 : Int32), .int (0 : Int32), .int (0 : Int32), .int (0 : Int32), .int (0 : Int32), .int (0 : Int32), .int (0 : Int32), .int (0 : Int32), .int (0 : Int32), .int (0 : Int32), .int (0 : Int32), .int (0 : Int32), .int (0 : Int32), .int (0 : Int32), .int (0 : Int32), .int (0 : Int32), .int (0 : Int32), .int (0 : Int32), .int (0 : Int32), .int (0 : Int32), .int (0 : Int32), .int (0 : Int32), .int (0 : Int32), .int (0 : Int32), .int (0 : Int32), .int (0 : Int32)] := A2
  have hz : n0 ≤ h2.size := by rw [W2.size]; exact hz
  have hk := hk.wr W2 (Or.inr fr_a1)
  refine w_dup (pc' := 10) C at_9 rfl rfl ?_
  refine w_iconst (pc' := 11) (x := (1 : Int32)) C at_10 rfl rfl ?_
  refine w_bipush (pc' := 13) (x := (91 : Int32)) C at_11 rfl rfl ?_
  refine wA_iastore (pc' := 14) C at_13 rfl g_a1 O_a1 (by decide) (by decide) (fun h3 W3 A3 => ?_)
  have O_a1 : Ar Z h3 a1 .int [.int (65 : Int32), .int (91 : Int32), .int (0 : Int32), .int (0 : Int32), .int (0 : Int32), .int (0 : Int32), .int (0 : Int32), .int (0 : Int32), .int (0 : Int32), .int (0 : Int32), .int (0 : Int32), .int (0 : Int32), .int (0 : Int32), .int (0 : Int32), .int (0 : Int32), .int (0 : Int32), .int (0 : Int32), .int (0 : Int32), .int (0 : Int32), .int (0 : Int32), .int (0 : Int32), .int (0 : Int32), .int (0 : Int32), .int (0 : Int32), .int (0 : Int32), .int (0 : Int32), .int (0 : Int32), .int (0 : Int32)] := A3
  have hz : n0 ≤ h3.size := by rw [W3.size]; exact hz
  have hk := hk.wr W3 (Or.inr fr_a1)
  refine w_dup (pc' := 15) C at_14 rfl rfl ?_
  refine w_iconst (pc' := 16) (x := (2 : Int32)) C at_15 rfl rfl ?_
  refine w_bipush (pc' := 18) (x := (97 : Int32)) C at_16 rfl rfl ?_
  refine wA_iastore (pc' := 19) C at_18 rfl g_a1 O_a1 (by decide) (by decide) (fun h4 W4 A4 => ?_)
  have O_a1 : Ar Z h4 a1 .int [.int (65 : Int32), .int (91 : Int32), .int (97 : Int32), .int (0 : Int32), .int (0 : Int32), .int (0 : Int32), .int (0 : Int32), .int (0 : Int32), .int (0 : Int32), .int (0 : Int32), .int (0 : Int32), .int (0 : Int32), .int (0 : Int32), .int (0 : Int32), .int (0 : Int32), .int (0 : Int32), .int (0 : Int32), .int (0 : Int32), .int (0 : Int32), .int (0 : Int32), .int (0 : Int32), .int (0 : Int32), .int (0 : Int32), .int (0 : Int32), .int (0 : Int32), .int (0 : Int32), .int (0 : Int32), .int (0 : Int32)] := A4
  have hz : n0 ≤ h4.size := by rw [W4.size]; exact hz
  have hk := hk.wr W4 (Or.inr fr_a1)
  refine w_dup (pc' := 20) C at_19 rfl rfl ?_
  refine w_iconst (pc' := 21) (x := (3 : Int32)) C at_20 rfl rfl ?_
  refine w_bipush (pc' := 23) (x := (123 : Int32)) C at_21 rfl rfl ?_
  refine wA_iastore (pc' := 24) C at_23 rfl g_a1 O_a1 (by decide) (by decide) (fun h5 W5 A5 => ?_)
  have O_a1 : Ar Z h5 a1 .int [.int (65 : Int32), .int (91 : Int32), .int (97 : Int32), .int (123 : Int32), .int (0 : Int32), .int (0 : Int32), .int (0 : Int32), .int (0 : Int32), .int (0 : Int32), .int (0 : Int32), .int (0 : Int32), .int (0 : Int32), .int (0 : Int32), .int (0 : Int32), .int (0 : Int32), .int (0 : Int32), .int (0 : Int32), .int (0 : Int32), .int (0 : Int32), .int (0 : Int32), .int (0 : Int32), .int (0 : Int32), .int (0 : Int32), .int (0 : Int32), .int (0 : Int32), .int (0 : Int32), .int (0 : Int32), .int (0 : Int32)] := A5
  have hz : n0 ≤ h5.size := by rw [W5.size]; exact hz
  have hk := hk.wr W5 (Or.inr fr_a1)
  refine w_dup (pc' := 25) C at_24 rfl rfl ?_
  refine w_iconst (pc' := 26) (x := (4 : Int32)) C at_25 rfl rfl ?_
  refine w_sipush (pc' := 29) (x := (192 : Int32)) C at_26 rfl rfl ?_
  refine wA_iastore (pc' := 30) C at_29 rfl g_a1 O_a1 (by decide) (by decide) (fun h6 W6 A6 => ?_)
  have O_a1 : Ar Z h6 a1 .int [.int (65 : Int32), .int (91 : Int32), .int (97 : Int32), .int (123 : Int32), .int (192 : Int32), .int (0 : Int32), .int (0 : Int32), .int (0 : Int32), .int (0 : Int32), .int (0 : Int32), .int (0 : Int32), .int (0 : Int32), .int (0 : Int32), .int (0 : Int32), .int (0 : Int32), .int (0 : Int32), .int (0 : Int32), .int (0 : Int32), .int (0 : Int32), .int (0 : Int32), .int (0 : Int32), .int (0 : Int32), .int (0 : Int32), .int (0 : Int32), .int (0 : Int32), .int (0 : Int32), .int (0 : Int32), .int (0 : Int32)] := A6
  have hz : n0 ≤ h6.size := by rw [W6.size]; exact hz
  have hk := hk.wr W6 (Or.inr fr_a1)
  refine w_dup (pc' := 31) C at_30 rfl rfl ?_
  refine w_iconst (pc' := 32) (x := (5 : Int32)) C at_31 rfl rfl ?_
  refine w_sipush (pc' := 35) (x := (215 : Int32)) C at_32 rfl rfl ?_
  refine wA_iastore (pc' := 36) C at_35 rfl g_a1 O_a1 (by decide) (by decide) (fun h7 W7 A7 => ?_)
  have O_a1 : Ar Z h7 a1 .int [.int (65 : Int32), .int (91 : Int32), .int (97 : Int32), .int (123 : Int32), .int (192 : Int32), .int (215 : Int32), .int (0 : Int32), .int (0 : Int32), .int (0 : Int32), .int (0 : Int32), .int (0 : Int32), .int (0 : Int32), .int (0 : Int32), .int (0 : Int32), .int (0 : Int32), .int (0 : Int32), .int (0 : Int32), .int (0 : Int32), .int (0 : Int32), .int (0 : Int32), .int (0 : Int32), .int (0 : Int32), .int (0 : Int32), .int (0 : Int32), .int (0 : Int32), .int (0 : Int32), .int (0 : Int32), .int (0 : Int32)] := A7
  have hz : n0 ≤ h7.size := by rw [W7.size]; exact hz
  have hk := hk.wr W7 (Or.inr fr_a1)
  refine w_dup (pc' := 37) C at_36 rfl rfl ?_
  refine w_bipush (pc' := 39) (x := (6 : Int32)) C at_37 rfl rfl ?_
  refine w_sipush (pc' := 42) (x := (216 : Int32)) C at_39 rfl rfl ?_
  refine wA_iastore (pc' := 43) C at_42 rfl g_a1 O_a1 (by decide) (by decide) (fun h8 W8 A8 => ?_)
  have O_a1 : Ar Z h8 a1 .int [.int (65 : Int32), .int (91 : Int32), .int (97 : Int32), .int (123 : Int32), .int (192 : Int32), .int (215 : Int32), .int (216 : Int32), .int (0 : Int32), .int (0 : Int32), .int (0 : Int32), .int (0 : Int32), .int (0 : Int32), .int (0 : Int32), .int (0 : Int32), .int (0 : Int32), .int (0 : Int32), .int (0 : Int32), .int (0 : Int32), .int (0 : Int32), .int (0 : Int32), .int (0 : Int32), .int (0 : Int32), .int (0 : Int32), .int (0 : Int32), .int (0 : Int32), .int (0 : Int32), .int (0 : Int32), .int (0 : Int32)] := A8
  have hz : n0 ≤ h8.size := by rw [W8.size]; exact hz
  have hk := hk.wr W8 (Or.inr fr_a1)
  refine w_dup (pc' := 44) C at_43 rfl rfl ?_
  refine w_bipush (pc' := 46) (x := (7 : Int32)) C at_44 rfl rfl ?_
  refine w_sipush (pc' := 49) (x := (247 : Int32)) C at_46 rfl rfl ?_
  refine wA_iastore (pc' := 50) C at_49 rfl g_a1 O_a1 (by decide) (by decide) (fun h9 W9 A9 => ?_)
  have O_a1 : Ar Z h9 a1 .int [.int (65 : Int32), .int (91 : Int32), .int (97 : Int32), .int (123 : Int32), .int (192 : Int32), .int (215 : Int32), .int (216 : Int32), .int (247 : Int32), .int (0 : Int32), .int (0 : Int32), .int (0 : Int32), .int (0 : Int32), .int (0 : Int32), .int (0 : Int32), .int (0 : Int32), .int (0 : Int32), .int (0 : Int32), .int (0 : Int32), .int (0 : Int32), .int (0 : Int32), .int (0 : Int32), .int (0 : Int32), .int (0 : Int32), .int (0 : Int32), .int (0 : Int32), .int (0 : Int32), .int (0 : Int32), .int (0 : Int32)] := A9
  have hz : n0 ≤ h9.size := by rw [W9.size]; exact hz
  have hk := hk.wr W9 (Or.inr fr_a1)
  refine w_dup (pc' := 51) C at_50 rfl rfl ?_
  refine w_bipush (pc' := 53) (x := (8 : Int32)) C at_51 rfl rfl ?_
  refine w_sipush (pc' := 56) (x := (248 : Int32)) C at_53 rfl rfl ?_
  refine wA_iastore (pc' := 57) C at_56 rfl g_a1 O_a1 (by decide) (by decide) (fun h10 W10 A10 => ?_)
  have O_a1 : Ar Z h10 a1 .int [.int (65 : Int32), .int (91 : Int32), .int (97 : Int32), .int (123 : Int32), .int (192 : Int32), .int (215 : Int32), .int (216 : Int32), .int (247 : Int32), .int (248 : Int32), .int (0 : Int32), .int (0 : Int32), .int (0 : Int32), .int (0 : Int32), .int (0 : Int32), .int (0 : Int32), .int (0 : Int32), .int (0 : Int32), .int (0 : Int32), .int (0 : Int32), .int (0 : Int32), .int (0 : Int32), .int (0 : Int32), .int (0 : Int32), .int (0 : Int32), .int (0 : Int32), .int (0 : Int32), .int (0 : Int32), .int (0 : Int32)] := A10
  have hz : n0 ≤ h10.size := by rw [W10.size]; exact hz
  have hk := hk.wr W10 (Or.inr fr_a1)
  refine w_dup (pc' := 58) C at_57 rfl rfl ?_
  refine w_bipush (pc' := 60) (x := (9 : Int32)) C at_58 rfl rfl ?_
  refine w_sipush (pc' := 63) (x := (768 : Int32)) C at_60 rfl rfl ?_
  refine wA_iastore (pc' := 64) C at_63 rfl g_a1 O_a1 (by decide) (by decide) (fun h11 W11 A11 => ?_)
  have O_a1 : Ar Z h11 a1 .int [.int (65 : Int32), .int (91 : Int32), .int (97 : Int32), .int (123 : Int32), .int (192 : Int32), .int (215 : Int32), .int (216 : Int32), .int (247 : Int32), .int (248 : Int32), .int (768 : Int32), .int (0 : Int32), .int (0 : Int32), .int (0 : Int32), .int (0 : Int32), .int (0 : Int32), .int (0 : Int32), .int (0 : Int32), .int (0 : Int32), .int (0 : Int32), .int (0 : Int32), .int (0 : Int32), .int (0 : Int32), .int (0 : Int32), .int (0 : Int32), .int (0 : Int32), .int (0 : Int32), .int (0 : Int32), .int (0 : Int32)] := A11
  have hz : n0 ≤ h11.size := by rw [W11.size]; exact hz
  have hk := hk.wr W11 (Or.inr fr_a1)
  refine w_dup (pc' := 65) C at_64 rfl rfl ?_
  refine w_bipush (pc' := 67) (x := (10 : Int32)) C at_65 rfl rfl ?_
  refine w_sipush (pc' := 70) (x := (880 : Int32)) C at_67 rfl rfl ?_
  refine wA_iastore (pc' := 71) C at_70 rfl g_a1 O_a1 (by decide) (by decide) (fun h12 W12 A12 => ?_)
  have O_a1 : Ar Z h12 a1 .int [.int (65 : Int32), .int (91 : Int32), .int (97 : Int32), .int (123 : Int32), .int (192 : Int32), .int (215 : Int32), .int (216 : Int32), .int (247 : Int32), .int (248 : Int32), .int (768 : Int32), .int (880 : Int32), .int (0 : Int32), .int (0 : Int32), .int (0 : Int32), .int (0 : Int32), .int (0 : Int32), .int (0 : Int32), .int (0 : Int32), .int (0 : Int32), .int (0 : Int32), .int (0 : Int32), .int (0 : Int32), .int (0 : Int32), .int (0 : Int32), .int (0 : Int32), .int (0 : Int32), .int (0 : Int32), .int (0 : Int32)] := A12
  have hz : n0 ≤ h12.size := by rw [W12.size]; exact hz
  have hk := hk.wr W12 (Or.inr fr_a1)
  refine w_dup (pc' := 72) C at_71 rfl rfl ?_
  refine w_bipush (pc' := 74) (x := (11 : Int32)) C at_72 rfl rfl ?_
  refine w_sipush (pc' := 77) (x := (894 : Int32)) C at_74 rfl rfl ?_
  refine wA_iastore (pc' := 78) C at_77 rfl g_a1 O_a1 (by decide) (by decide) (fun h13 W13 A13 => ?_)
  have O_a1 : Ar Z h13 a1 .int [.int (65 : Int32), .int (91 : Int32), .int (97 : Int32), .int (123 : Int32), .int (192 : Int32), .int (215 : Int32), .int (216 : Int32), .int (247 : Int32), .int (248 : Int32), .int (768 : Int32), .int (880 : Int32), .int (894 : Int32), .int (0 : Int32), .int (0 : Int32), .int (0 : Int32), .int (0 : Int32), .int (0 : Int32), .int (0 : Int32), .int (0 : Int32), .int (0 : Int32), .int (0 : Int32), .int (0 : Int32), .int (0 : Int32), .int (0 : Int32), .int (0 : Int32), .int (0 : Int32), .int (0 : Int32), .int (0 : Int32)] := A13
  have hz : n0 ≤ h13.size := by rw [W13.size]; exact hz
  have hk := hk.wr W13 (Or.inr fr_a1)
  refine w_dup (pc' := 79) C at_78 rfl rfl ?_
  refine w_bipush (pc' := 81) (x := (12 : Int32)) C at_79 rfl rfl ?_
  refine w_sipush (pc' := 84) (x := (895 : Int32)) C at_81 rfl rfl ?_
  refine wA_iastore (pc' := 85) C at_84 rfl g_a1 O_a1 (by decide) (by decide) (fun h14 W14 A14 => ?_)
  have O_a1 : Ar Z h14 a1 .int [.int (65 : Int32), .int (91 : Int32), .int (97 : Int32), .int (123 : Int32), .int (192 : Int32), .int (215 : Int32), .int (216 : Int32), .int (247 : Int32), .int (248 : Int32), .int (768 : Int32), .int (880 : Int32), .int (894 : Int32), .int (895 : Int32), .int (0 : Int32), .int (0 : Int32), .int (0 : Int32), .int (0 : Int32), .int (0 : Int32), .int (0 : Int32), .int (0 : Int32), .int (0 : Int32), .int (0 : Int32), .int (0 : Int32), .int (0 : Int32), .int (0 : Int32), .int (0 : Int32), .int (0 : Int32), .int (0 : Int32)] := A14
  have hz : n0 ≤ h14.size := by rw [W14.size]; exact hz
  have hk := hk.wr W14 (Or.inr fr_a1)
  refine w_dup (pc' := 86) C at_85 rfl rfl ?_
  refine w_bipush (pc' := 88) (x := (13 : Int32)) C at_86 rfl rfl ?_
  refine w_sipush (pc' := 91) (x := (8192 : Int32)) C at_88 rfl rfl ?_
  refine wA_iastore (pc' := 92) C at_91 rfl g_a1 O_a1 (by decide) (by decide) (fun h15 W15 A15 => ?_)
  have O_a1 : Ar Z h15 a1 .int [.int (65 : Int32), .int (91 : Int32), .int (97 : Int32), .int (123 : Int32), .int (192 : Int32), .int (215 : Int32), .int (216 : Int32), .int (247 : Int32), .int (248 : Int32), .int (768 : Int32), .int (880 : Int32), .int (894 : Int32), .int (895 : Int32), .int (8192 : Int32), .int (0 : Int32), .int (0 : Int32), .int (0 : Int32), .int (0 : Int32), .int (0 : Int32), .int (0 : Int32), .int (0 : Int32), .int (0 : Int32), .int (0 : Int32), .int (0 : Int32), .int (0 : Int32), .int (0 : Int32), .int (0 : Int32), .int (0 : Int32)] := A15
  have hz : n0 ≤ h15.size := by rw [W15.size]; exact hz
  have hk := hk.wr W15 (Or.inr fr_a1)
  refine w_dup (pc' := 93) C at_92 rfl rfl ?_
  refine w_bipush (pc' := 95) (x := (14 : Int32)) C at_93 rfl rfl ?_
  refine w_sipush (pc' := 98) (x := (8204 : Int32)) C at_95 rfl rfl ?_
  refine wA_iastore (pc' := 99) C at_98 rfl g_a1 O_a1 (by decide) (by decide) (fun h16 W16 A16 => ?_)
  have O_a1 : Ar Z h16 a1 .int [.int (65 : Int32), .int (91 : Int32), .int (97 : Int32), .int (123 : Int32), .int (192 : Int32), .int (215 : Int32), .int (216 : Int32), .int (247 : Int32), .int (248 : Int32), .int (768 : Int32), .int (880 : Int32), .int (894 : Int32), .int (895 : Int32), .int (8192 : Int32), .int (8204 : Int32), .int (0 : Int32), .int (0 : Int32), .int (0 : Int32), .int (0 : Int32), .int (0 : Int32), .int (0 : Int32), .int (0 : Int32), .int (0 : Int32), .int (0 : Int32), .int (0 : Int32), .int (0 : Int32), .int (0 : Int32), .int (0 : Int32)] := A16
  have hz : n0 ≤ h16.size := by rw [W16.size]; exact hz
  have hk := hk.wr W16 (Or.inr fr_a1)
  refine w_dup (pc' := 100) C at_99 rfl rfl ?_
  refine w_bipush (pc' := 102) (x := (15 : Int32)) C at_100 rfl rfl ?_
  refine w_sipush (pc' := 105) (x := (8206 : Int32)) C at_102 rfl rfl ?_
  refine wA_iastore (pc' := 106) C at_105 rfl g_a1 O_a1 (by decide) (by decide) (fun h17 W17 A17 => ?_)
  have O_a1 : Ar Z h17 a1 .int [.int (65 : Int32), .int (91 : Int32), .int (97 : Int32), .int (123 : Int32), .int (192 : Int32), .int (215 : Int32), .int (216 : Int32), .int (247 : Int32), .int (248 : Int32), .int (768 : Int32), .int (880 : Int32), .int (894 : Int32), .int (895 : Int32), .int (8192 : Int32), .int (8204 : Int32), .int (8206 : Int32), .int (0 : Int32), .int (0 : Int32), .int (0 : Int32), .int (0 : Int32), .int (0 : Int32), .int (0 : Int32), .int (0 : Int32), .int (0 : Int32), .int (0 : Int32), .int (0 : Int32), .int (0 : Int32), .int (0 : Int32)] := A17
  have hz : n0 ≤ h17.size := by rw [W17.size]; exact hz
  have hk := hk.wr W17 (Or.inr fr_a1)
  refine w_dup (pc' := 107) C at_106 rfl rfl ?_
  refine w_bipush (pc' := 109) (x := (16 : Int32)) C at_107 rfl rfl ?_
  refine w_sipush (pc' := 112) (x := (8304 : Int32)) C at_109 rfl rfl ?_
  refine wA_iastore (pc' := 113) C at_112 rfl g_a1 O_a1 (by decide) (by decide) (fun h18 W18 A18 => ?_)
  have O_a1 : Ar Z h18 a1 .int [.int (65 : Int32), .int (91 : Int32), .int (97 : Int32), .int (123 : Int32), .int (192 : Int32), .int (215 : Int32), .int (216 : Int32), .int (247 : Int32), .int (248 : Int32), .int (768 : Int32), .int (880 : Int32), .int (894 : Int32), .int (895 : Int32), .int (8192 : Int32), .int (8204 : Int32), .int (8206 : Int32), .int (8304 : Int32), .int (0 : Int32), .int (0 : Int32), .int (0 : Int32), .int (0 : Int32), .int (0 : Int32), .int (0 : Int32), .int (0 : Int32), .int (0 : Int32), .int (0 : Int32), .int (0 : Int32), .int (0 : Int32)] := A18
  have hz : n0 ≤ h18.size := by rw [W18.size]; exact hz
  have hk := hk.wr W18 (Or.inr fr_a1)
  refine w_dup (pc' := 114) C at_113 rfl rfl ?_
  refine w_bipush (pc' := 116) (x := (17 : Int32)) C at_114 rfl rfl ?_
  refine w_sipush (pc' := 119) (x := (8592 : Int32)) C at_116 rfl rfl ?_
  refine wA_iastore (pc' := 120) C at_119 rfl g_a1 O_a1 (by decide) (by decide) (fun h19 W19 A19 => ?_)
  have O_a1 : Ar Z h19 a1 .int [.int (65 : Int32), .int (91 : Int32), .int (97 : Int32), .int (123 : Int32), .int (192 : Int32), .int (215 : Int32), .int (216 : Int32), .int (247 : Int32), .int (248 : Int32), .int (768 : Int32), .int (880 : Int32), .int (894 : Int32), .int (895 : Int32), .int (8192 : Int32), .int (8204 : Int32), .int (8206 : Int32), .int (8304 : Int32), .int (8592 : Int32), .int (0 : Int32), .int (0 : Int32), .int (0 : Int32), .int (0 : Int32), .int (0 : Int32), .int (0 : Int32), .int (0 : Int32), .int (0 : Int32), .int (0 : Int32), .int (0 : Int32)] := A19
  have hz : n0 ≤ h19.size := by rw [W19.size]; exact hz
  have hk := hk.wr W19 (Or.inr fr_a1)
  refine w_dup (pc' := 121) C at_120 rfl rfl ?_
  refine w_bipush (pc' := 123) (x := (18 : Int32)) C at_121 rfl rfl ?_
  refine w_sipush (pc' := 126) (x := (11264 : Int32)) C at_123 rfl rfl ?_
  refine wA_iastore (pc' := 127) C at_126 rfl g_a1 O_a1 (by decide) (by decide) (fun h20 W20 A20 => ?_)
  have O_a1 : Ar Z h20 a1 .int [.int (65 : Int32), .int (91 : Int32), .int (97 : Int32), .int (123 : Int32), .int (192 : Int32), .int (215 : Int32), .int (216 : Int32), .int (247 : Int32), .int (248 : Int32), .int (768 : Int32), .int (880 : Int32), .int (894 : Int32), .int (895 : Int32), .int (8192 : Int32), .int (8204 : Int32), .int (8206 : Int32), .int (8304 : Int32), .int (8592 : Int32), .int (11264 : Int32), .int (0 : Int32), .int (0 : Int32), .int (0 : Int32), .int (0 : Int32), .int (0 : Int32), .int (0 : Int32), .int (0 : Int32), .int (0 : Int32), .int (0 : Int32)] := A20
  have hz : n0 ≤ h20.size := by rw [W20.size]; exact hz
  have hk := hk.wr W20 (Or.inr fr_a1)
  refine w_dup (pc' := 128) C at_127 rfl rfl ?_
  refine w_bipush (pc' := 130) (x := (19 : Int32)) C at_128 rfl rfl ?_
  refine w_sipush (pc' := 133) (x := (12272 : Int32)) C at_130 rfl rfl ?_
  refine wA_iastore (pc' := 134) C at_133 rfl g_a1 O_a1 (by decide) (by decide) (fun h21 W21 A21 => ?_)
  have O_a1 : Ar Z h21 a1 .int [.int (65 : Int32), .int (91 : Int32), .int (97 : Int32), .int (123 : Int32), .int (192 : Int32), .int (215 : Int32), .int (216 : Int32), .int (247 : Int32), .int (248 : Int32), .int (768 : Int32), .int (880 : Int32), .int (894 : Int32), .int (895 : Int32), .int (8192 : Int32), .int (8204 : Int32), .int (8206 : Int32), .int (8304 : Int32), .int (8592 : Int32), .int (11264 : Int32), .int (12272 : Int32), .int (0 : Int32), .int (0 : Int32), .int (0 : Int32), .int (0 : Int32), .int (0 : Int32), .int (0 : Int32), .int (0 : Int32), .int (0 : Int32)] := A21
  have hz : n0 ≤ h21.size := by rw [W21.size]; exact hz
  have hk := hk.wr W21 (Or.inr fr_a1)
  refine w_dup (pc' := 135) C at_134 rfl rfl ?_
  refine w_bipush (pc' := 137) (x := (20 : Int32)) C at_135 rfl rfl ?_
  refine w_sipush (pc' := 140) (x := (12289 : Int32)) C at_137 rfl rfl ?_
  refine wA_iastore (pc' := 141) C at_140 rfl g_a1 O_a1 (by decide) (by decide) (fun h22 W22 A22 => ?_)
  have O_a1 : Ar Z h22 a1 .int [.int (65 : Int32), .int (91 : Int32), .int (97 : Int32), .int (123 : Int32), .int (192 : Int32), .int (215 : Int32), .int (216 : Int32), .int (247 : Int32), .int (248 : Int32), .int (768 : Int32), .int (880 : Int32), .int (894 : Int32), .int (895 : Int32), .int (8192 : Int32), .int (8204 : Int32), .int (8206 : Int32), .int (8304 : Int32), .int (8592 : Int32), .int (11264 : Int32), .int (12272 : Int32), .int (12289 : Int32), .int (0 : Int32), .int (0 : Int32), .int (0 : Int32), .int (0 : Int32), .int (0 : Int32), .int (0 : Int32), .int (0 : Int32)] := A22
  have hz : n0 ≤ h22.size := by rw [W22.size]; exact hz
  have hk := hk.wr W22 (Or.inr fr_a1)
  refine w_dup (pc' := 142) C at_141 rfl rfl ?_
  refine w_bipush (pc' := 144) (x := (21 : Int32)) C at_142 rfl rfl ?_
  refine w_ldcI (pc' := 146) C (tw hw 1 rfl) at_144 rfl ?_
  refine wA_iastore (pc' := 147) C at_146 rfl g_a1 O_a1 (by decide) (by decide) (fun h23 W23 A23 => ?_)
  have O_a1 : Ar Z h23 a1 .int [.int (65 : Int32), .int (91 : Int32), .int (97 : Int32), .int (123 : Int32), .int (192 : Int32), .int (215 : Int32), .int (216 : Int32), .int (247 : Int32), .int (248 : Int32), .int (768 : Int32), .int (880 : Int32), .int (894 : Int32), .int (895 : Int32), .int (8192 : Int32), .int (8204 : Int32), .int (8206 : Int32), .int (8304 : Int32), .int (8592 : Int32), .int (11264 : Int32), .int (12272 : Int32), .int (12289 : Int32), .int (55296 : Int32), .int (0 : Int32), .int (0 : Int32), .int (0 : Int32), .int (0 : Int32), .int (0 : Int32), .int (0 : Int32)] := A23
  have hz : n0 ≤ h23.size := by rw [W23.size]; exact hz
  have hk := hk.wr W23 (Or.inr fr_a1)
  refine w_dup (pc' := 148) C at_147 rfl rfl ?_
  refine w_bipush (pc' := 150) (x := (22 : Int32)) C at_148 rfl rfl ?_
  refine w_ldcI (pc' := 152) C (tw hw 2 rfl) at_150 rfl ?_
  refine wA_iastore (pc' := 153) C at_152 rfl g_a1 O_a1 (by decide) (by decide) (fun h24 W24 A24 => ?_)
  have O_a1 : Ar Z h24 a1 .int [.int (65 : Int32), .int (91 : Int32), .int (97 : Int32), .int (123 : Int32), .int (192 : Int32), .int (215 : Int32), .int (216 : Int32), .int (247 : Int32), .int (248 : Int32), .int (768 : Int32), .int (880 : Int32), .int (894 : Int32), .int (895 : Int32), .int (8192 : Int32), .int (8204 : Int32), .int (8206 : Int32), .int (8304 : Int32), .int (8592 : Int32), .int (11264 : Int32), .int (12272 : Int32), .int (12289 : Int32), .int (55296 : Int32), .int (63744 : Int32), .int (0 : Int32), .int (0 : Int32), .int (0 : Int32), .int (0 : Int32), .int (0 : Int32)] := A24
  have hz : n0 ≤ h24.size := by rw [W24.size]; exact hz
  have hk := hk.wr W24 (Or.inr fr_a1)
  refine w_dup (pc' := 154) C at_153 rfl rfl ?_
  refine w_bipush (pc' := 156) (x := (23 : Int32)) C at_154 rfl rfl ?_
  refine w_ldcI (pc' := 158) C (tw hw 3 rfl) at_156 rfl ?_
  refine wA_iastore (pc' := 159) C at_158 rfl g_a1 O_a1 (by decide) (by decide) (fun h25 W25 A25 => ?_)
  have O_a1 : Ar Z h25 a1 .int [.int (65 : Int32), .int (91 : Int32), .int (97 : Int32), .int (123 : Int32), .int (192 : Int32), .int (215 : Int32), .int (216 : Int32), .int (247 : Int32), .int (248 : Int32), .int (768 : Int32), .int (880 : Int32), .int (894 : Int32), .int (895 : Int32), .int (8192 : Int32), .int (8204 : Int32), .int (8206 : Int32), .int (8304 : Int32), .int (8592 : Int32), .int (11264 : Int32), .int (12272 : Int32), .int (12289 : Int32), .int (55296 : Int32), .int (63744 : Int32), .int (64976 : Int32), .int (0 : Int32), .int (0 : Int32), .int (0 : Int32), .int (0 : Int32)] := A25
  have hz : n0 ≤ h25.size := by rw [W25.size]; exact hz
  have hk := hk.wr W25 (Or.inr fr_a1)
  refine w_dup (pc' := 160) C at_159 rfl rfl ?_
  refine w_bipush (pc' := 162) (x := (24 : Int32)) C at_160 rfl rfl ?_
  refine w_ldcI (pc' := 164) C (tw hw 4 rfl) at_162 rfl ?_
  refine wA_iastore (pc' := 165) C at_164 rfl g_a1 O_a1 (by decide) (by decide) (fun h26 W26 A26 => ?_)
  have O_a1 : Ar Z h26 a1 .int [.int (65 : Int32), .int (91 : Int32), .int (97 : Int32), .int (123 : Int32), .int (192 : Int32), .int (215 : Int32), .int (216 : Int32), .int (247 : Int32), .int (248 : Int32), .int (768 : Int32), .int (880 : Int32), .int (894 : Int32), .int (895 : Int32), .int (8192 : Int32), .int (8204 : Int32), .int (8206 : Int32), .int (8304 : Int32), .int (8592 : Int32), .int (11264 : Int32), .int (12272 : Int32), .int (12289 : Int32), .int (55296 : Int32), .int (63744 : Int32), .int (64976 : Int32), .int (65008 : Int32), .int (0 : Int32), .int (0 : Int32), .int (0 : Int32)] := A26
  have hz : n0 ≤ h26.size := by rw [W26.size]; exact hz
  have hk := hk.wr W26 (Or.inr fr_a1)
  refine w_dup (pc' := 166) C at_165 rfl rfl ?_
  refine w_bipush (pc' := 168) (x := (25 : Int32)) C at_166 rfl rfl ?_
  refine w_ldcI (pc' := 170) C (tw hw 5 rfl) at_168 rfl ?_
  refine wA_iastore (pc' := 171) C at_170 rfl g_a1 O_a1 (by decide) (by decide) (fun h27 W27 A27 => ?_)
  have O_a1 : Ar Z h27 a1 .int [.int (65 : Int32), .int (91 : Int32), .int (97 : Int32), .int (123 : Int32), .int (192 : Int32), .int (215 : Int32), .int (216 : Int32), .int (247 : Int32), .int (248 : Int32), .int (768 : Int32), .int (880 : Int32), .int (894 : Int32), .int (895 : Int32), .int (8192 : Int32), .int (8204 : Int32), .int (8206 : Int32), .int (8304 : Int32), .int (8592 : Int32), .int (11264 : Int32), .int (12272 : Int32), .int (12289 : Int32), .int (55296 : Int32), .int (63744 : Int32), .int (64976 : Int32), .int (65008 : Int32), .int (65534 : Int32), .int (0 : Int32), .int (0 : Int32)] := A27
  have hz : n0 ≤ h27.size := by rw [W27.size]; exact hz
  have hk := hk.wr W27 (Or.inr fr_a1)
  refine w_dup (pc' := 172) C at_171 rfl rfl ?_
  refine w_bipush (pc' := 174) (x := (26 : Int32)) C at_172 rfl rfl ?_
  refine w_ldcI (pc' := 176) C (tw hw 6 rfl) at_174 rfl ?_
  refine wA_iastore (pc' := 177) C at_176 rfl g_a1 O_a1 (by decide) (by decide) (fun h28 W28 A28 => ?_)
  have O_a1 : Ar Z h28 a1 .int [.int (65 : Int32), .int (91 : Int32), .int (97 : Int32), .int (123 : Int32), .int (192 : Int32), .int (215 : Int32), .int (216 : Int32), .int (247 : Int32), .int (248 : Int32), .int (768 : Int32), .int (880 : Int32), .int (894 : Int32), .int (895 : Int32), .int (8192 : Int32), .int (8204 : Int32), .int (8206 : Int32), .int (8304 : Int32), .int (8592 : Int32), .int (11264 : Int32), .int (12272 : Int32), .int (12289 : Int32), .int (55296 : Int32), .int (63744 : Int32), .int (64976 : Int32), .int (65008 : Int32), .int (65534 : Int32), .int (65536 : Int32), .int (0 : Int32)] := A28
  have hz : n0 ≤ h28.size := by rw [W28.size]; exact hz
  have hk := hk.wr W28 (Or.inr fr_a1)
  refine w_dup (pc' := 178) C at_177 rfl rfl ?_
  refine w_bipush (pc' := 180) (x := (27 : Int32)) C at_178 rfl rfl ?_
  refine w_ldcI (pc' := 182) C (tw hw 7 rfl) at_180 rfl ?_
  refine wA_iastore (pc' := 183) C at_182 rfl g_a1 O_a1 (by decide) (by decide) (fun h29 W29 A29 => ?_)
  have O_a1 : Ar Z h29 a1 .int [.int (65 : Int32), .int (91 : Int32), .int (97 : Int32), .int (123 : Int32), .int (192 : Int32), .int (215 : Int32), .int (216 : Int32), .int (247 : Int32), .int (248 : Int32), .int (768 : Int32), .int (880 : Int32), .int (894 : Int32), .int (895 : Int32), .int (8192 : Int32), .int (8204 : Int32), .int (8206 : Int32), .int (8304 : Int32), .int (8592 : Int32), .int (11264 : Int32), .int (12272 : Int32), .int (12289 : Int32), .int (55296 : Int32), .int (63744 : Int32), .int (64976 : Int32), .int (65008 : Int32), .int (65534 : Int32), .int (65536 : Int32), .int (983040 : Int32)] := A29
  have hz : n0 ≤ h29.size := by rw [W29.size]; exact hz
  have hk := hk.wr W29 (Or.inr fr_a1)
  refine w_astoreN (pc' := 184) (Ls' := #[.val (.int x0), .val (.int x1), .val (.int x2), .val (.ref a1), .unset, .unset, .unset]) C at_183 rfl rfl rfl ?_
  have K255 : ∀ (t218_0 : Int32) (t239_0 : Int32), law x0 x1 x2 = law_255 x0 x1 x2 t218_0 t239_0 → Wp p l e room_1 s m #[.int x0, .int x1, .int x2] below meth c n0 room_1.cells room_1.slots (fun v h => v = some (.int (law x0 x1 x2))) h29 1 28 (mkF m 255 #[.val (.int x0), .val (.int x1), .val (.int x2), .val (.ref a1), .val (.int ((tabAt ((x1 &&& (2147483647 : Int32)) % (28 : Int32))) + ((x2 &&& (3 : Int32)) - (2 : Int32)))), .val (.int t218_0), .val (.int t239_0)] []) := by
    intro t218_0 t239_0 hr
    change _ = (0 : Int32) at hr
    refine w_iconst (pc' := 256) (x := (0 : Int32)) C at_255 rfl rfl ?_
    refine w_retN' (t := .boolean) (z' := (0 : Int32)) C rfl (by simp) at_256 (by decide) (by decide) narB0 ?_
    exact congrArg (fun z => some (Value.int z)) hr.symm
  have K239 : ∀ (t239_0 : Int32) (t218_0 : Int32), law x0 x1 x2 = law_239 x0 x1 x2 t239_0 t218_0 → Wp p l e room_1 s m #[.int x0, .int x1, .int x2] below meth c n0 room_1.cells room_1.slots (fun v h => v = some (.int (law x0 x1 x2))) h29 1 28 (mkF m 239 #[.val (.int x0), .val (.int x1), .val (.int x2), .val (.ref a1), .val (.int ((tabAt ((x1 &&& (2147483647 : Int32)) % (28 : Int32))) + ((x2 &&& (3 : Int32)) - (2 : Int32)))), .val (.int t218_0), .unset] [.int t239_0]) := by
    intro t239_0 t218_0 hr
    change _ = (if t218_0 = 0 then (law_255 x0 x1 x2 t218_0 t239_0) else (if t239_0 = 0 then (law_255 x0 x1 x2 t218_0 t239_0) else (1 : Int32))) at hr
    refine w_istore (pc' := 241) (Ls' := #[.val (.int x0), .val (.int x1), .val (.int x2), .val (.ref a1), .val (.int ((tabAt ((x1 &&& (2147483647 : Int32)) % (28 : Int32))) + ((x2 &&& (3 : Int32)) - (2 : Int32)))), .val (.int t218_0), .val (.int t239_0)]) C at_239 rfl rfl ?_
    refine w_iload (pc' := 243) C at_241 rfl rfl ?_
    refine w_if_eq (pcT := 255) (pcF := 246) C at_243 (by decide) (by decide) rfl (fun q243 => ?_) (fun q243 => ?_)
    · have hr := hr.trans (if_pos q243)
      exact K255 t218_0 t239_0 hr
    · have hr := hr.trans (if_neg q243)
      refine w_iload (pc' := 248) C at_246 rfl rfl ?_
      refine w_if_eq (pcT := 255) (pcF := 251) C at_248 (by decide) (by decide) rfl (fun q248 => ?_) (fun q248 => ?_)
      · have hr := hr.trans (if_pos q248)
        exact K255 t218_0 t239_0 hr
      · have hr := hr.trans (if_neg q248)
        refine w_iconst (pc' := 252) (x := (1 : Int32)) C at_251 rfl rfl ?_
        refine w_goto (pc' := 256) C at_252 (by decide) (by decide) ?_
        refine w_retN' (t := .boolean) (z' := (1 : Int32)) C rfl (by simp) at_256 (by decide) (by decide) narB1 ?_
        exact congrArg (fun z => some (Value.int z)) hr.symm
  have K218 : ∀ (t218_0 : Int32), law x0 x1 x2 = law_218 x0 x1 x2 t218_0 → Wp p l e room_1 s m #[.int x0, .int x1, .int x2] below meth c n0 room_1.cells room_1.slots (fun v h => v = some (.int (law x0 x1 x2))) h29 1 28 (mkF m 218 #[.val (.int x0), .val (.int x1), .val (.int x2), .val (.ref a1), .val (.int ((tabAt ((x1 &&& (2147483647 : Int32)) % (28 : Int32))) + ((x2 &&& (3 : Int32)) - (2 : Int32)))), .unset, .unset] [.int t218_0]) := by
    intro t218_0 hr
    change _ = (if (isName ((tabAt ((x1 &&& (2147483647 : Int32)) % (28 : Int32))) + ((x2 &&& (3 : Int32)) - (2 : Int32)))) = (ref ((tabAt ((x1 &&& (2147483647 : Int32)) % (28 : Int32))) + ((x2 &&& (3 : Int32)) - (2 : Int32)))) then (law_239 x0 x1 x2 (1 : Int32) t218_0) else (law_239 x0 x1 x2 (0 : Int32) t218_0)) at hr
    refine w_istore (pc' := 220) (Ls' := #[.val (.int x0), .val (.int x1), .val (.int x2), .val (.ref a1), .val (.int ((tabAt ((x1 &&& (2147483647 : Int32)) % (28 : Int32))) + ((x2 &&& (3 : Int32)) - (2 : Int32)))), .val (.int t218_0), .unset]) C at_218 rfl rfl ?_
    refine w_iload (pc' := 222) C at_220 rfl rfl ?_
    refine w_callS (pc' := 225) (argsL := [.int ((tabAt ((x1 &&& (2147483647 : Int32)) % (28 : Int32))) + ((x2 &&& (3 : Int32)) - (2 : Int32)))]) (st := []) (W := 0) (ce' := 1) (sl' := 28) C (tw hw 9 rfl) (tw hw 10 rfl) (tw hw 11 rfl) (tw hw 12 rfl) (by decide) at_222 rfl rfl (by decide) (by decide) (Nat.le_of_eq rfl) rfl rfl (by decide) (by decide) rfl (lenOf pd_1 rfl) (ct_isName hw h29 n0 ((tabAt ((x1 &&& (2147483647 : Int32)) % (28 : Int32))) + ((x2 &&& (3 : Int32)) - (2 : Int32)))) (kp ?_)
    refine w_aloadN (pc' := 226) C at_225 rfl rfl rfl ?_
    refine w_iload (pc' := 228) C at_226 rfl rfl ?_
    refine w_callS (pc' := 231) (argsL := [.ref a1, .int ((tabAt ((x1 &&& (2147483647 : Int32)) % (28 : Int32))) + ((x2 &&& (3 : Int32)) - (2 : Int32)))]) (st := [.int (isName ((tabAt ((x1 &&& (2147483647 : Int32)) % (28 : Int32))) + ((x2 &&& (3 : Int32)) - (2 : Int32))))]) (W := 1) (ce' := 1) (sl' := 28) C (tw hw 16 rfl) (tw hw 17 rfl) (tw hw 18 rfl) (tw hw 19 rfl) (by decide) at_228 rfl rfl (by decide) (by decide) (Nat.le_of_eq rfl) rfl rfl (by decide) (by decide) rfl (lenOf pd_2 rfl) (ct_ref hw h29 n0 a1 ((tabAt ((x1 &&& (2147483647 : Int32)) % (28 : Int32))) + ((x2 &&& (3 : Int32)) - (2 : Int32))) O_a1) (kp ?_)
    refine w_icmp_ne (pcT := 238) (pcF := 234) C at_231 (by decide) (by decide) rfl (fun q231 => ?_) (fun q231 => ?_)
    · have hr := hr.trans (if_neg q231)
      refine w_iconst (pc' := 239) (x := (0 : Int32)) C at_238 rfl rfl ?_
      exact K239 (0 : Int32) t218_0 hr
    · have hr := hr.trans (if_pos q231)
      refine w_iconst (pc' := 235) (x := (1 : Int32)) C at_234 rfl rfl ?_
      refine w_goto (pc' := 239) C at_235 (by decide) (by decide) ?_
      exact K239 (1 : Int32) t218_0 hr
  have hr : law x0 x1 x2 = (if (isName x0) = (ref x0) then (law_218 x0 x1 x2 (1 : Int32)) else (law_218 x0 x1 x2 (0 : Int32))) := rfl
  refine w_aloadN (pc' := 185) C at_184 rfl rfl rfl ?_
  refine w_iloadN (pc' := 186) C at_185 rfl rfl ?_
  refine w_ldcI (pc' := 188) C (tw hw 8 rfl) at_186 rfl ?_
  refine w_iand (pc' := 189) C at_188 rfl ?_
  refine w_bipush (pc' := 191) (x := (28 : Int32)) C at_189 rfl rfl ?_
  refine w_irem (pc' := 192) C at_191 (by decide) rfl ?_
  refine wA_iaload (pc' := 193) (v := .int (tabAt ((x1 &&& (2147483647 : Int32)) % (28 : Int32)))) C at_192 rfl O_a1 (own_idx _).1 (own_idx _).2 ?_
  refine w_iloadN (pc' := 194) C at_193 rfl rfl ?_
  refine w_iconst (pc' := 195) (x := (3 : Int32)) C at_194 rfl rfl ?_
  refine w_iand (pc' := 196) C at_195 rfl ?_
  refine w_iconst (pc' := 197) (x := (2 : Int32)) C at_196 rfl rfl ?_
  refine w_isub (pc' := 198) C at_197 rfl ?_
  refine w_iadd (pc' := 199) C at_198 rfl ?_
  refine w_istore (pc' := 201) (Ls' := #[.val (.int x0), .val (.int x1), .val (.int x2), .val (.ref a1), .val (.int ((tabAt ((x1 &&& (2147483647 : Int32)) % (28 : Int32))) + ((x2 &&& (3 : Int32)) - (2 : Int32)))), .unset, .unset]) C at_199 rfl rfl ?_
  refine w_iloadN (pc' := 202) C at_201 rfl rfl ?_
  refine w_callS (pc' := 205) (argsL := [.int x0]) (st := []) (W := 0) (ce' := 1) (sl' := 28) C (tw hw 9 rfl) (tw hw 10 rfl) (tw hw 11 rfl) (tw hw 12 rfl) (by decide) at_202 rfl rfl (by decide) (by decide) (Nat.le_of_eq rfl) rfl rfl (by decide) (by decide) rfl (lenOf pd_1 rfl) (ct_isName hw h29 n0 x0) (kp ?_)
  refine w_aloadN (pc' := 206) C at_205 rfl rfl rfl ?_
  refine w_iloadN (pc' := 207) C at_206 rfl rfl ?_
  refine w_callS (pc' := 210) (argsL := [.ref a1, .int x0]) (st := [.int (isName x0)]) (W := 1) (ce' := 1) (sl' := 28) C (tw hw 16 rfl) (tw hw 17 rfl) (tw hw 18 rfl) (tw hw 19 rfl) (by decide) at_207 rfl rfl (by decide) (by decide) (Nat.le_of_eq rfl) rfl rfl (by decide) (by decide) rfl (lenOf pd_2 rfl) (ct_ref hw h29 n0 a1 x0 O_a1) (kp ?_)
  refine w_icmp_ne (pcT := 217) (pcF := 213) C at_210 (by decide) (by decide) rfl (fun q210 => ?_) (fun q210 => ?_)
  · have hr := hr.trans (if_neg q210)
    refine w_iconst (pc' := 218) (x := (0 : Int32)) C at_217 rfl rfl ?_
    exact K218 (0 : Int32) hr
  · have hr := hr.trans (if_pos q210)
    refine w_iconst (pc' := 214) (x := (1 : Int32)) C at_213 rfl rfl ?_
    refine w_goto (pc' := 218) C at_214 (by decide) (by decide) ?_
    exact K218 (1 : Int32) hr
set_option maxHeartbeats 4000000 in
theorem case_0 (x : Int32) (hi : x.toInt < 65) : isName x = ref x := by
  simp only [isName, isName_12, isName_24, isName_38, isName_52, isName_66, isName_80, isName_94, isName_108, isName_122, isName_136, isName_149, isName_161, isName_173, isName_185, isName_189, ref, ge, Int32.lt_iff_toInt_lt, Int32.reduceToInt]
  generalize x.toInt = f at *
  simp only [show f < 65 by omega, show f < 91 by omega, show f < 97 by omega, show f < 123 by omega, show f < 192 by omega, show f < 215 by omega, show f < 216 by omega, show f < 247 by omega, show f < 248 by omega, show f < 768 by omega, show f < 880 by omega, show f < 894 by omega, show f < 895 by omega, show f < 8192 by omega, show f < 8204 by omega, show f < 8206 by omega, show f < 8304 by omega, show f < 8592 by omega, show f < 11264 by omega, show f < 12272 by omega, show f < 12289 by omega, show f < 55296 by omega, show f < 63744 by omega, show f < 64976 by omega, show f < 65008 by omega, show f < 65534 by omega, show f < 65536 by omega, show f < 983040 by omega, show ¬ 90 < f by omega, show ¬ 122 < f by omega, show ¬ 214 < f by omega, show ¬ 246 < f by omega, show ¬ 767 < f by omega, show ¬ 893 < f by omega, show ¬ 8191 < f by omega, show ¬ 8205 < f by omega, show ¬ 8591 < f by omega, show ¬ 12271 < f by omega, show ¬ 55295 < f by omega, show ¬ 64975 < f by omega, show ¬ 65533 < f by omega, show ¬ 983039 < f by omega, if_true, if_false]
  decide
set_option maxHeartbeats 4000000 in
theorem case_1 (x : Int32) (lo : 65 ≤ x.toInt) (hi : x.toInt < 91) : isName x = ref x := by
  simp only [isName, isName_12, isName_24, isName_38, isName_52, isName_66, isName_80, isName_94, isName_108, isName_122, isName_136, isName_149, isName_161, isName_173, isName_185, isName_189, ref, ge, Int32.lt_iff_toInt_lt, Int32.reduceToInt]
  generalize x.toInt = f at *
  simp only [show ¬ f < 65 by omega, show f < 91 by omega, show f < 97 by omega, show f < 123 by omega, show f < 192 by omega, show f < 215 by omega, show f < 216 by omega, show f < 247 by omega, show f < 248 by omega, show f < 768 by omega, show f < 880 by omega, show f < 894 by omega, show f < 895 by omega, show f < 8192 by omega, show f < 8204 by omega, show f < 8206 by omega, show f < 8304 by omega, show f < 8592 by omega, show f < 11264 by omega, show f < 12272 by omega, show f < 12289 by omega, show f < 55296 by omega, show f < 63744 by omega, show f < 64976 by omega, show f < 65008 by omega, show f < 65534 by omega, show f < 65536 by omega, show f < 983040 by omega, show ¬ 90 < f by omega, show ¬ 122 < f by omega, show ¬ 214 < f by omega, show ¬ 246 < f by omega, show ¬ 767 < f by omega, show ¬ 893 < f by omega, show ¬ 8191 < f by omega, show ¬ 8205 < f by omega, show ¬ 8591 < f by omega, show ¬ 12271 < f by omega, show ¬ 55295 < f by omega, show ¬ 64975 < f by omega, show ¬ 65533 < f by omega, show ¬ 983039 < f by omega, if_true, if_false]
  decide
set_option maxHeartbeats 4000000 in
theorem case_2 (x : Int32) (lo : 91 ≤ x.toInt) (hi : x.toInt < 97) : isName x = ref x := by
  simp only [isName, isName_12, isName_24, isName_38, isName_52, isName_66, isName_80, isName_94, isName_108, isName_122, isName_136, isName_149, isName_161, isName_173, isName_185, isName_189, ref, ge, Int32.lt_iff_toInt_lt, Int32.reduceToInt]
  generalize x.toInt = f at *
  simp only [show ¬ f < 65 by omega, show ¬ f < 91 by omega, show f < 97 by omega, show f < 123 by omega, show f < 192 by omega, show f < 215 by omega, show f < 216 by omega, show f < 247 by omega, show f < 248 by omega, show f < 768 by omega, show f < 880 by omega, show f < 894 by omega, show f < 895 by omega, show f < 8192 by omega, show f < 8204 by omega, show f < 8206 by omega, show f < 8304 by omega, show f < 8592 by omega, show f < 11264 by omega, show f < 12272 by omega, show f < 12289 by omega, show f < 55296 by omega, show f < 63744 by omega, show f < 64976 by omega, show f < 65008 by omega, show f < 65534 by omega, show f < 65536 by omega, show f < 983040 by omega, show 90 < f by omega, show ¬ 122 < f by omega, show ¬ 214 < f by omega, show ¬ 246 < f by omega, show ¬ 767 < f by omega, show ¬ 893 < f by omega, show ¬ 8191 < f by omega, show ¬ 8205 < f by omega, show ¬ 8591 < f by omega, show ¬ 12271 < f by omega, show ¬ 55295 < f by omega, show ¬ 64975 < f by omega, show ¬ 65533 < f by omega, show ¬ 983039 < f by omega, if_true, if_false]
  decide
set_option maxHeartbeats 4000000 in
theorem case_3 (x : Int32) (lo : 97 ≤ x.toInt) (hi : x.toInt < 123) : isName x = ref x := by
  simp only [isName, isName_12, isName_24, isName_38, isName_52, isName_66, isName_80, isName_94, isName_108, isName_122, isName_136, isName_149, isName_161, isName_173, isName_185, isName_189, ref, ge, Int32.lt_iff_toInt_lt, Int32.reduceToInt]
  generalize x.toInt = f at *
  simp only [show ¬ f < 65 by omega, show ¬ f < 91 by omega, show ¬ f < 97 by omega, show f < 123 by omega, show f < 192 by omega, show f < 215 by omega, show f < 216 by omega, show f < 247 by omega, show f < 248 by omega, show f < 768 by omega, show f < 880 by omega, show f < 894 by omega, show f < 895 by omega, show f < 8192 by omega, show f < 8204 by omega, show f < 8206 by omega, show f < 8304 by omega, show f < 8592 by omega, show f < 11264 by omega, show f < 12272 by omega, show f < 12289 by omega, show f < 55296 by omega, show f < 63744 by omega, show f < 64976 by omega, show f < 65008 by omega, show f < 65534 by omega, show f < 65536 by omega, show f < 983040 by omega, show 90 < f by omega, show ¬ 122 < f by omega, show ¬ 214 < f by omega, show ¬ 246 < f by omega, show ¬ 767 < f by omega, show ¬ 893 < f by omega, show ¬ 8191 < f by omega, show ¬ 8205 < f by omega, show ¬ 8591 < f by omega, show ¬ 12271 < f by omega, show ¬ 55295 < f by omega, show ¬ 64975 < f by omega, show ¬ 65533 < f by omega, show ¬ 983039 < f by omega, if_true, if_false]
  decide
set_option maxHeartbeats 4000000 in
theorem case_4 (x : Int32) (lo : 123 ≤ x.toInt) (hi : x.toInt < 192) : isName x = ref x := by
  simp only [isName, isName_12, isName_24, isName_38, isName_52, isName_66, isName_80, isName_94, isName_108, isName_122, isName_136, isName_149, isName_161, isName_173, isName_185, isName_189, ref, ge, Int32.lt_iff_toInt_lt, Int32.reduceToInt]
  generalize x.toInt = f at *
  simp only [show ¬ f < 65 by omega, show ¬ f < 91 by omega, show ¬ f < 97 by omega, show ¬ f < 123 by omega, show f < 192 by omega, show f < 215 by omega, show f < 216 by omega, show f < 247 by omega, show f < 248 by omega, show f < 768 by omega, show f < 880 by omega, show f < 894 by omega, show f < 895 by omega, show f < 8192 by omega, show f < 8204 by omega, show f < 8206 by omega, show f < 8304 by omega, show f < 8592 by omega, show f < 11264 by omega, show f < 12272 by omega, show f < 12289 by omega, show f < 55296 by omega, show f < 63744 by omega, show f < 64976 by omega, show f < 65008 by omega, show f < 65534 by omega, show f < 65536 by omega, show f < 983040 by omega, show 90 < f by omega, show 122 < f by omega, show ¬ 214 < f by omega, show ¬ 246 < f by omega, show ¬ 767 < f by omega, show ¬ 893 < f by omega, show ¬ 8191 < f by omega, show ¬ 8205 < f by omega, show ¬ 8591 < f by omega, show ¬ 12271 < f by omega, show ¬ 55295 < f by omega, show ¬ 64975 < f by omega, show ¬ 65533 < f by omega, show ¬ 983039 < f by omega, if_true, if_false]
  decide
set_option maxHeartbeats 4000000 in
theorem case_5 (x : Int32) (lo : 192 ≤ x.toInt) (hi : x.toInt < 215) : isName x = ref x := by
  simp only [isName, isName_12, isName_24, isName_38, isName_52, isName_66, isName_80, isName_94, isName_108, isName_122, isName_136, isName_149, isName_161, isName_173, isName_185, isName_189, ref, ge, Int32.lt_iff_toInt_lt, Int32.reduceToInt]
  generalize x.toInt = f at *
  simp only [show ¬ f < 65 by omega, show ¬ f < 91 by omega, show ¬ f < 97 by omega, show ¬ f < 123 by omega, show ¬ f < 192 by omega, show f < 215 by omega, show f < 216 by omega, show f < 247 by omega, show f < 248 by omega, show f < 768 by omega, show f < 880 by omega, show f < 894 by omega, show f < 895 by omega, show f < 8192 by omega, show f < 8204 by omega, show f < 8206 by omega, show f < 8304 by omega, show f < 8592 by omega, show f < 11264 by omega, show f < 12272 by omega, show f < 12289 by omega, show f < 55296 by omega, show f < 63744 by omega, show f < 64976 by omega, show f < 65008 by omega, show f < 65534 by omega, show f < 65536 by omega, show f < 983040 by omega, show 90 < f by omega, show 122 < f by omega, show ¬ 214 < f by omega, show ¬ 246 < f by omega, show ¬ 767 < f by omega, show ¬ 893 < f by omega, show ¬ 8191 < f by omega, show ¬ 8205 < f by omega, show ¬ 8591 < f by omega, show ¬ 12271 < f by omega, show ¬ 55295 < f by omega, show ¬ 64975 < f by omega, show ¬ 65533 < f by omega, show ¬ 983039 < f by omega, if_true, if_false]
  decide
set_option maxHeartbeats 4000000 in
theorem case_6 (x : Int32) (lo : 215 ≤ x.toInt) (hi : x.toInt < 216) : isName x = ref x := by
  simp only [isName, isName_12, isName_24, isName_38, isName_52, isName_66, isName_80, isName_94, isName_108, isName_122, isName_136, isName_149, isName_161, isName_173, isName_185, isName_189, ref, ge, Int32.lt_iff_toInt_lt, Int32.reduceToInt]
  generalize x.toInt = f at *
  simp only [show ¬ f < 65 by omega, show ¬ f < 91 by omega, show ¬ f < 97 by omega, show ¬ f < 123 by omega, show ¬ f < 192 by omega, show ¬ f < 215 by omega, show f < 216 by omega, show f < 247 by omega, show f < 248 by omega, show f < 768 by omega, show f < 880 by omega, show f < 894 by omega, show f < 895 by omega, show f < 8192 by omega, show f < 8204 by omega, show f < 8206 by omega, show f < 8304 by omega, show f < 8592 by omega, show f < 11264 by omega, show f < 12272 by omega, show f < 12289 by omega, show f < 55296 by omega, show f < 63744 by omega, show f < 64976 by omega, show f < 65008 by omega, show f < 65534 by omega, show f < 65536 by omega, show f < 983040 by omega, show 90 < f by omega, show 122 < f by omega, show 214 < f by omega, show ¬ 246 < f by omega, show ¬ 767 < f by omega, show ¬ 893 < f by omega, show ¬ 8191 < f by omega, show ¬ 8205 < f by omega, show ¬ 8591 < f by omega, show ¬ 12271 < f by omega, show ¬ 55295 < f by omega, show ¬ 64975 < f by omega, show ¬ 65533 < f by omega, show ¬ 983039 < f by omega, if_true, if_false]
  decide
set_option maxHeartbeats 4000000 in
theorem case_7 (x : Int32) (lo : 216 ≤ x.toInt) (hi : x.toInt < 247) : isName x = ref x := by
  simp only [isName, isName_12, isName_24, isName_38, isName_52, isName_66, isName_80, isName_94, isName_108, isName_122, isName_136, isName_149, isName_161, isName_173, isName_185, isName_189, ref, ge, Int32.lt_iff_toInt_lt, Int32.reduceToInt]
  generalize x.toInt = f at *
  simp only [show ¬ f < 65 by omega, show ¬ f < 91 by omega, show ¬ f < 97 by omega, show ¬ f < 123 by omega, show ¬ f < 192 by omega, show ¬ f < 215 by omega, show ¬ f < 216 by omega, show f < 247 by omega, show f < 248 by omega, show f < 768 by omega, show f < 880 by omega, show f < 894 by omega, show f < 895 by omega, show f < 8192 by omega, show f < 8204 by omega, show f < 8206 by omega, show f < 8304 by omega, show f < 8592 by omega, show f < 11264 by omega, show f < 12272 by omega, show f < 12289 by omega, show f < 55296 by omega, show f < 63744 by omega, show f < 64976 by omega, show f < 65008 by omega, show f < 65534 by omega, show f < 65536 by omega, show f < 983040 by omega, show 90 < f by omega, show 122 < f by omega, show 214 < f by omega, show ¬ 246 < f by omega, show ¬ 767 < f by omega, show ¬ 893 < f by omega, show ¬ 8191 < f by omega, show ¬ 8205 < f by omega, show ¬ 8591 < f by omega, show ¬ 12271 < f by omega, show ¬ 55295 < f by omega, show ¬ 64975 < f by omega, show ¬ 65533 < f by omega, show ¬ 983039 < f by omega, if_true, if_false]
  decide
set_option maxHeartbeats 4000000 in
theorem case_8 (x : Int32) (lo : 247 ≤ x.toInt) (hi : x.toInt < 248) : isName x = ref x := by
  simp only [isName, isName_12, isName_24, isName_38, isName_52, isName_66, isName_80, isName_94, isName_108, isName_122, isName_136, isName_149, isName_161, isName_173, isName_185, isName_189, ref, ge, Int32.lt_iff_toInt_lt, Int32.reduceToInt]
  generalize x.toInt = f at *
  simp only [show ¬ f < 65 by omega, show ¬ f < 91 by omega, show ¬ f < 97 by omega, show ¬ f < 123 by omega, show ¬ f < 192 by omega, show ¬ f < 215 by omega, show ¬ f < 216 by omega, show ¬ f < 247 by omega, show f < 248 by omega, show f < 768 by omega, show f < 880 by omega, show f < 894 by omega, show f < 895 by omega, show f < 8192 by omega, show f < 8204 by omega, show f < 8206 by omega, show f < 8304 by omega, show f < 8592 by omega, show f < 11264 by omega, show f < 12272 by omega, show f < 12289 by omega, show f < 55296 by omega, show f < 63744 by omega, show f < 64976 by omega, show f < 65008 by omega, show f < 65534 by omega, show f < 65536 by omega, show f < 983040 by omega, show 90 < f by omega, show 122 < f by omega, show 214 < f by omega, show 246 < f by omega, show ¬ 767 < f by omega, show ¬ 893 < f by omega, show ¬ 8191 < f by omega, show ¬ 8205 < f by omega, show ¬ 8591 < f by omega, show ¬ 12271 < f by omega, show ¬ 55295 < f by omega, show ¬ 64975 < f by omega, show ¬ 65533 < f by omega, show ¬ 983039 < f by omega, if_true, if_false]
  decide
set_option maxHeartbeats 4000000 in
theorem case_9 (x : Int32) (lo : 248 ≤ x.toInt) (hi : x.toInt < 768) : isName x = ref x := by
  simp only [isName, isName_12, isName_24, isName_38, isName_52, isName_66, isName_80, isName_94, isName_108, isName_122, isName_136, isName_149, isName_161, isName_173, isName_185, isName_189, ref, ge, Int32.lt_iff_toInt_lt, Int32.reduceToInt]
  generalize x.toInt = f at *
  simp only [show ¬ f < 65 by omega, show ¬ f < 91 by omega, show ¬ f < 97 by omega, show ¬ f < 123 by omega, show ¬ f < 192 by omega, show ¬ f < 215 by omega, show ¬ f < 216 by omega, show ¬ f < 247 by omega, show ¬ f < 248 by omega, show f < 768 by omega, show f < 880 by omega, show f < 894 by omega, show f < 895 by omega, show f < 8192 by omega, show f < 8204 by omega, show f < 8206 by omega, show f < 8304 by omega, show f < 8592 by omega, show f < 11264 by omega, show f < 12272 by omega, show f < 12289 by omega, show f < 55296 by omega, show f < 63744 by omega, show f < 64976 by omega, show f < 65008 by omega, show f < 65534 by omega, show f < 65536 by omega, show f < 983040 by omega, show 90 < f by omega, show 122 < f by omega, show 214 < f by omega, show 246 < f by omega, show ¬ 767 < f by omega, show ¬ 893 < f by omega, show ¬ 8191 < f by omega, show ¬ 8205 < f by omega, show ¬ 8591 < f by omega, show ¬ 12271 < f by omega, show ¬ 55295 < f by omega, show ¬ 64975 < f by omega, show ¬ 65533 < f by omega, show ¬ 983039 < f by omega, if_true, if_false]
  decide
set_option maxHeartbeats 4000000 in
theorem case_10 (x : Int32) (lo : 768 ≤ x.toInt) (hi : x.toInt < 880) : isName x = ref x := by
  simp only [isName, isName_12, isName_24, isName_38, isName_52, isName_66, isName_80, isName_94, isName_108, isName_122, isName_136, isName_149, isName_161, isName_173, isName_185, isName_189, ref, ge, Int32.lt_iff_toInt_lt, Int32.reduceToInt]
  generalize x.toInt = f at *
  simp only [show ¬ f < 65 by omega, show ¬ f < 91 by omega, show ¬ f < 97 by omega, show ¬ f < 123 by omega, show ¬ f < 192 by omega, show ¬ f < 215 by omega, show ¬ f < 216 by omega, show ¬ f < 247 by omega, show ¬ f < 248 by omega, show ¬ f < 768 by omega, show f < 880 by omega, show f < 894 by omega, show f < 895 by omega, show f < 8192 by omega, show f < 8204 by omega, show f < 8206 by omega, show f < 8304 by omega, show f < 8592 by omega, show f < 11264 by omega, show f < 12272 by omega, show f < 12289 by omega, show f < 55296 by omega, show f < 63744 by omega, show f < 64976 by omega, show f < 65008 by omega, show f < 65534 by omega, show f < 65536 by omega, show f < 983040 by omega, show 90 < f by omega, show 122 < f by omega, show 214 < f by omega, show 246 < f by omega, show 767 < f by omega, show ¬ 893 < f by omega, show ¬ 8191 < f by omega, show ¬ 8205 < f by omega, show ¬ 8591 < f by omega, show ¬ 12271 < f by omega, show ¬ 55295 < f by omega, show ¬ 64975 < f by omega, show ¬ 65533 < f by omega, show ¬ 983039 < f by omega, if_true, if_false]
  decide
set_option maxHeartbeats 4000000 in
theorem case_11 (x : Int32) (lo : 880 ≤ x.toInt) (hi : x.toInt < 894) : isName x = ref x := by
  simp only [isName, isName_12, isName_24, isName_38, isName_52, isName_66, isName_80, isName_94, isName_108, isName_122, isName_136, isName_149, isName_161, isName_173, isName_185, isName_189, ref, ge, Int32.lt_iff_toInt_lt, Int32.reduceToInt]
  generalize x.toInt = f at *
  simp only [show ¬ f < 65 by omega, show ¬ f < 91 by omega, show ¬ f < 97 by omega, show ¬ f < 123 by omega, show ¬ f < 192 by omega, show ¬ f < 215 by omega, show ¬ f < 216 by omega, show ¬ f < 247 by omega, show ¬ f < 248 by omega, show ¬ f < 768 by omega, show ¬ f < 880 by omega, show f < 894 by omega, show f < 895 by omega, show f < 8192 by omega, show f < 8204 by omega, show f < 8206 by omega, show f < 8304 by omega, show f < 8592 by omega, show f < 11264 by omega, show f < 12272 by omega, show f < 12289 by omega, show f < 55296 by omega, show f < 63744 by omega, show f < 64976 by omega, show f < 65008 by omega, show f < 65534 by omega, show f < 65536 by omega, show f < 983040 by omega, show 90 < f by omega, show 122 < f by omega, show 214 < f by omega, show 246 < f by omega, show 767 < f by omega, show ¬ 893 < f by omega, show ¬ 8191 < f by omega, show ¬ 8205 < f by omega, show ¬ 8591 < f by omega, show ¬ 12271 < f by omega, show ¬ 55295 < f by omega, show ¬ 64975 < f by omega, show ¬ 65533 < f by omega, show ¬ 983039 < f by omega, if_true, if_false]
  decide
set_option maxHeartbeats 4000000 in
theorem case_12 (x : Int32) (lo : 894 ≤ x.toInt) (hi : x.toInt < 895) : isName x = ref x := by
  simp only [isName, isName_12, isName_24, isName_38, isName_52, isName_66, isName_80, isName_94, isName_108, isName_122, isName_136, isName_149, isName_161, isName_173, isName_185, isName_189, ref, ge, Int32.lt_iff_toInt_lt, Int32.reduceToInt]
  generalize x.toInt = f at *
  simp only [show ¬ f < 65 by omega, show ¬ f < 91 by omega, show ¬ f < 97 by omega, show ¬ f < 123 by omega, show ¬ f < 192 by omega, show ¬ f < 215 by omega, show ¬ f < 216 by omega, show ¬ f < 247 by omega, show ¬ f < 248 by omega, show ¬ f < 768 by omega, show ¬ f < 880 by omega, show ¬ f < 894 by omega, show f < 895 by omega, show f < 8192 by omega, show f < 8204 by omega, show f < 8206 by omega, show f < 8304 by omega, show f < 8592 by omega, show f < 11264 by omega, show f < 12272 by omega, show f < 12289 by omega, show f < 55296 by omega, show f < 63744 by omega, show f < 64976 by omega, show f < 65008 by omega, show f < 65534 by omega, show f < 65536 by omega, show f < 983040 by omega, show 90 < f by omega, show 122 < f by omega, show 214 < f by omega, show 246 < f by omega, show 767 < f by omega, show 893 < f by omega, show ¬ 8191 < f by omega, show ¬ 8205 < f by omega, show ¬ 8591 < f by omega, show ¬ 12271 < f by omega, show ¬ 55295 < f by omega, show ¬ 64975 < f by omega, show ¬ 65533 < f by omega, show ¬ 983039 < f by omega, if_true, if_false]
  decide
set_option maxHeartbeats 4000000 in
theorem case_13 (x : Int32) (lo : 895 ≤ x.toInt) (hi : x.toInt < 8192) : isName x = ref x := by
  simp only [isName, isName_12, isName_24, isName_38, isName_52, isName_66, isName_80, isName_94, isName_108, isName_122, isName_136, isName_149, isName_161, isName_173, isName_185, isName_189, ref, ge, Int32.lt_iff_toInt_lt, Int32.reduceToInt]
  generalize x.toInt = f at *
  simp only [show ¬ f < 65 by omega, show ¬ f < 91 by omega, show ¬ f < 97 by omega, show ¬ f < 123 by omega, show ¬ f < 192 by omega, show ¬ f < 215 by omega, show ¬ f < 216 by omega, show ¬ f < 247 by omega, show ¬ f < 248 by omega, show ¬ f < 768 by omega, show ¬ f < 880 by omega, show ¬ f < 894 by omega, show ¬ f < 895 by omega, show f < 8192 by omega, show f < 8204 by omega, show f < 8206 by omega, show f < 8304 by omega, show f < 8592 by omega, show f < 11264 by omega, show f < 12272 by omega, show f < 12289 by omega, show f < 55296 by omega, show f < 63744 by omega, show f < 64976 by omega, show f < 65008 by omega, show f < 65534 by omega, show f < 65536 by omega, show f < 983040 by omega, show 90 < f by omega, show 122 < f by omega, show 214 < f by omega, show 246 < f by omega, show 767 < f by omega, show 893 < f by omega, show ¬ 8191 < f by omega, show ¬ 8205 < f by omega, show ¬ 8591 < f by omega, show ¬ 12271 < f by omega, show ¬ 55295 < f by omega, show ¬ 64975 < f by omega, show ¬ 65533 < f by omega, show ¬ 983039 < f by omega, if_true, if_false]
  decide
set_option maxHeartbeats 4000000 in
theorem case_14 (x : Int32) (lo : 8192 ≤ x.toInt) (hi : x.toInt < 8204) : isName x = ref x := by
  simp only [isName, isName_12, isName_24, isName_38, isName_52, isName_66, isName_80, isName_94, isName_108, isName_122, isName_136, isName_149, isName_161, isName_173, isName_185, isName_189, ref, ge, Int32.lt_iff_toInt_lt, Int32.reduceToInt]
  generalize x.toInt = f at *
  simp only [show ¬ f < 65 by omega, show ¬ f < 91 by omega, show ¬ f < 97 by omega, show ¬ f < 123 by omega, show ¬ f < 192 by omega, show ¬ f < 215 by omega, show ¬ f < 216 by omega, show ¬ f < 247 by omega, show ¬ f < 248 by omega, show ¬ f < 768 by omega, show ¬ f < 880 by omega, show ¬ f < 894 by omega, show ¬ f < 895 by omega, show ¬ f < 8192 by omega, show f < 8204 by omega, show f < 8206 by omega, show f < 8304 by omega, show f < 8592 by omega, show f < 11264 by omega, show f < 12272 by omega, show f < 12289 by omega, show f < 55296 by omega, show f < 63744 by omega, show f < 64976 by omega, show f < 65008 by omega, show f < 65534 by omega, show f < 65536 by omega, show f < 983040 by omega, show 90 < f by omega, show 122 < f by omega, show 214 < f by omega, show 246 < f by omega, show 767 < f by omega, show 893 < f by omega, show 8191 < f by omega, show ¬ 8205 < f by omega, show ¬ 8591 < f by omega, show ¬ 12271 < f by omega, show ¬ 55295 < f by omega, show ¬ 64975 < f by omega, show ¬ 65533 < f by omega, show ¬ 983039 < f by omega, if_true, if_false]
  decide
set_option maxHeartbeats 4000000 in
theorem case_15 (x : Int32) (lo : 8204 ≤ x.toInt) (hi : x.toInt < 8206) : isName x = ref x := by
  simp only [isName, isName_12, isName_24, isName_38, isName_52, isName_66, isName_80, isName_94, isName_108, isName_122, isName_136, isName_149, isName_161, isName_173, isName_185, isName_189, ref, ge, Int32.lt_iff_toInt_lt, Int32.reduceToInt]
  generalize x.toInt = f at *
  simp only [show ¬ f < 65 by omega, show ¬ f < 91 by omega, show ¬ f < 97 by omega, show ¬ f < 123 by omega, show ¬ f < 192 by omega, show ¬ f < 215 by omega, show ¬ f < 216 by omega, show ¬ f < 247 by omega, show ¬ f < 248 by omega, show ¬ f < 768 by omega, show ¬ f < 880 by omega, show ¬ f < 894 by omega, show ¬ f < 895 by omega, show ¬ f < 8192 by omega, show ¬ f < 8204 by omega, show f < 8206 by omega, show f < 8304 by omega, show f < 8592 by omega, show f < 11264 by omega, show f < 12272 by omega, show f < 12289 by omega, show f < 55296 by omega, show f < 63744 by omega, show f < 64976 by omega, show f < 65008 by omega, show f < 65534 by omega, show f < 65536 by omega, show f < 983040 by omega, show 90 < f by omega, show 122 < f by omega, show 214 < f by omega, show 246 < f by omega, show 767 < f by omega, show 893 < f by omega, show 8191 < f by omega, show ¬ 8205 < f by omega, show ¬ 8591 < f by omega, show ¬ 12271 < f by omega, show ¬ 55295 < f by omega, show ¬ 64975 < f by omega, show ¬ 65533 < f by omega, show ¬ 983039 < f by omega, if_true, if_false]
  decide
set_option maxHeartbeats 4000000 in
theorem case_16 (x : Int32) (lo : 8206 ≤ x.toInt) (hi : x.toInt < 8304) : isName x = ref x := by
  simp only [isName, isName_12, isName_24, isName_38, isName_52, isName_66, isName_80, isName_94, isName_108, isName_122, isName_136, isName_149, isName_161, isName_173, isName_185, isName_189, ref, ge, Int32.lt_iff_toInt_lt, Int32.reduceToInt]
  generalize x.toInt = f at *
  simp only [show ¬ f < 65 by omega, show ¬ f < 91 by omega, show ¬ f < 97 by omega, show ¬ f < 123 by omega, show ¬ f < 192 by omega, show ¬ f < 215 by omega, show ¬ f < 216 by omega, show ¬ f < 247 by omega, show ¬ f < 248 by omega, show ¬ f < 768 by omega, show ¬ f < 880 by omega, show ¬ f < 894 by omega, show ¬ f < 895 by omega, show ¬ f < 8192 by omega, show ¬ f < 8204 by omega, show ¬ f < 8206 by omega, show f < 8304 by omega, show f < 8592 by omega, show f < 11264 by omega, show f < 12272 by omega, show f < 12289 by omega, show f < 55296 by omega, show f < 63744 by omega, show f < 64976 by omega, show f < 65008 by omega, show f < 65534 by omega, show f < 65536 by omega, show f < 983040 by omega, show 90 < f by omega, show 122 < f by omega, show 214 < f by omega, show 246 < f by omega, show 767 < f by omega, show 893 < f by omega, show 8191 < f by omega, show 8205 < f by omega, show ¬ 8591 < f by omega, show ¬ 12271 < f by omega, show ¬ 55295 < f by omega, show ¬ 64975 < f by omega, show ¬ 65533 < f by omega, show ¬ 983039 < f by omega, if_true, if_false]
  decide
set_option maxHeartbeats 4000000 in
theorem case_17 (x : Int32) (lo : 8304 ≤ x.toInt) (hi : x.toInt < 8592) : isName x = ref x := by
  simp only [isName, isName_12, isName_24, isName_38, isName_52, isName_66, isName_80, isName_94, isName_108, isName_122, isName_136, isName_149, isName_161, isName_173, isName_185, isName_189, ref, ge, Int32.lt_iff_toInt_lt, Int32.reduceToInt]
  generalize x.toInt = f at *
  simp only [show ¬ f < 65 by omega, show ¬ f < 91 by omega, show ¬ f < 97 by omega, show ¬ f < 123 by omega, show ¬ f < 192 by omega, show ¬ f < 215 by omega, show ¬ f < 216 by omega, show ¬ f < 247 by omega, show ¬ f < 248 by omega, show ¬ f < 768 by omega, show ¬ f < 880 by omega, show ¬ f < 894 by omega, show ¬ f < 895 by omega, show ¬ f < 8192 by omega, show ¬ f < 8204 by omega, show ¬ f < 8206 by omega, show ¬ f < 8304 by omega, show f < 8592 by omega, show f < 11264 by omega, show f < 12272 by omega, show f < 12289 by omega, show f < 55296 by omega, show f < 63744 by omega, show f < 64976 by omega, show f < 65008 by omega, show f < 65534 by omega, show f < 65536 by omega, show f < 983040 by omega, show 90 < f by omega, show 122 < f by omega, show 214 < f by omega, show 246 < f by omega, show 767 < f by omega, show 893 < f by omega, show 8191 < f by omega, show 8205 < f by omega, show ¬ 8591 < f by omega, show ¬ 12271 < f by omega, show ¬ 55295 < f by omega, show ¬ 64975 < f by omega, show ¬ 65533 < f by omega, show ¬ 983039 < f by omega, if_true, if_false]
  decide
set_option maxHeartbeats 4000000 in
theorem case_18 (x : Int32) (lo : 8592 ≤ x.toInt) (hi : x.toInt < 11264) : isName x = ref x := by
  simp only [isName, isName_12, isName_24, isName_38, isName_52, isName_66, isName_80, isName_94, isName_108, isName_122, isName_136, isName_149, isName_161, isName_173, isName_185, isName_189, ref, ge, Int32.lt_iff_toInt_lt, Int32.reduceToInt]
  generalize x.toInt = f at *
  simp only [show ¬ f < 65 by omega, show ¬ f < 91 by omega, show ¬ f < 97 by omega, show ¬ f < 123 by omega, show ¬ f < 192 by omega, show ¬ f < 215 by omega, show ¬ f < 216 by omega, show ¬ f < 247 by omega, show ¬ f < 248 by omega, show ¬ f < 768 by omega, show ¬ f < 880 by omega, show ¬ f < 894 by omega, show ¬ f < 895 by omega, show ¬ f < 8192 by omega, show ¬ f < 8204 by omega, show ¬ f < 8206 by omega, show ¬ f < 8304 by omega, show ¬ f < 8592 by omega, show f < 11264 by omega, show f < 12272 by omega, show f < 12289 by omega, show f < 55296 by omega, show f < 63744 by omega, show f < 64976 by omega, show f < 65008 by omega, show f < 65534 by omega, show f < 65536 by omega, show f < 983040 by omega, show 90 < f by omega, show 122 < f by omega, show 214 < f by omega, show 246 < f by omega, show 767 < f by omega, show 893 < f by omega, show 8191 < f by omega, show 8205 < f by omega, show 8591 < f by omega, show ¬ 12271 < f by omega, show ¬ 55295 < f by omega, show ¬ 64975 < f by omega, show ¬ 65533 < f by omega, show ¬ 983039 < f by omega, if_true, if_false]
  decide
set_option maxHeartbeats 4000000 in
theorem case_19 (x : Int32) (lo : 11264 ≤ x.toInt) (hi : x.toInt < 12272) : isName x = ref x := by
  simp only [isName, isName_12, isName_24, isName_38, isName_52, isName_66, isName_80, isName_94, isName_108, isName_122, isName_136, isName_149, isName_161, isName_173, isName_185, isName_189, ref, ge, Int32.lt_iff_toInt_lt, Int32.reduceToInt]
  generalize x.toInt = f at *
  simp only [show ¬ f < 65 by omega, show ¬ f < 91 by omega, show ¬ f < 97 by omega, show ¬ f < 123 by omega, show ¬ f < 192 by omega, show ¬ f < 215 by omega, show ¬ f < 216 by omega, show ¬ f < 247 by omega, show ¬ f < 248 by omega, show ¬ f < 768 by omega, show ¬ f < 880 by omega, show ¬ f < 894 by omega, show ¬ f < 895 by omega, show ¬ f < 8192 by omega, show ¬ f < 8204 by omega, show ¬ f < 8206 by omega, show ¬ f < 8304 by omega, show ¬ f < 8592 by omega, show ¬ f < 11264 by omega, show f < 12272 by omega, show f < 12289 by omega, show f < 55296 by omega, show f < 63744 by omega, show f < 64976 by omega, show f < 65008 by omega, show f < 65534 by omega, show f < 65536 by omega, show f < 983040 by omega, show 90 < f by omega, show 122 < f by omega, show 214 < f by omega, show 246 < f by omega, show 767 < f by omega, show 893 < f by omega, show 8191 < f by omega, show 8205 < f by omega, show 8591 < f by omega, show ¬ 12271 < f by omega, show ¬ 55295 < f by omega, show ¬ 64975 < f by omega, show ¬ 65533 < f by omega, show ¬ 983039 < f by omega, if_true, if_false]
  decide
set_option maxHeartbeats 4000000 in
theorem case_20 (x : Int32) (lo : 12272 ≤ x.toInt) (hi : x.toInt < 12289) : isName x = ref x := by
  simp only [isName, isName_12, isName_24, isName_38, isName_52, isName_66, isName_80, isName_94, isName_108, isName_122, isName_136, isName_149, isName_161, isName_173, isName_185, isName_189, ref, ge, Int32.lt_iff_toInt_lt, Int32.reduceToInt]
  generalize x.toInt = f at *
  simp only [show ¬ f < 65 by omega, show ¬ f < 91 by omega, show ¬ f < 97 by omega, show ¬ f < 123 by omega, show ¬ f < 192 by omega, show ¬ f < 215 by omega, show ¬ f < 216 by omega, show ¬ f < 247 by omega, show ¬ f < 248 by omega, show ¬ f < 768 by omega, show ¬ f < 880 by omega, show ¬ f < 894 by omega, show ¬ f < 895 by omega, show ¬ f < 8192 by omega, show ¬ f < 8204 by omega, show ¬ f < 8206 by omega, show ¬ f < 8304 by omega, show ¬ f < 8592 by omega, show ¬ f < 11264 by omega, show ¬ f < 12272 by omega, show f < 12289 by omega, show f < 55296 by omega, show f < 63744 by omega, show f < 64976 by omega, show f < 65008 by omega, show f < 65534 by omega, show f < 65536 by omega, show f < 983040 by omega, show 90 < f by omega, show 122 < f by omega, show 214 < f by omega, show 246 < f by omega, show 767 < f by omega, show 893 < f by omega, show 8191 < f by omega, show 8205 < f by omega, show 8591 < f by omega, show 12271 < f by omega, show ¬ 55295 < f by omega, show ¬ 64975 < f by omega, show ¬ 65533 < f by omega, show ¬ 983039 < f by omega, if_true, if_false]
  decide
set_option maxHeartbeats 4000000 in
theorem case_21 (x : Int32) (lo : 12289 ≤ x.toInt) (hi : x.toInt < 55296) : isName x = ref x := by
  simp only [isName, isName_12, isName_24, isName_38, isName_52, isName_66, isName_80, isName_94, isName_108, isName_122, isName_136, isName_149, isName_161, isName_173, isName_185, isName_189, ref, ge, Int32.lt_iff_toInt_lt, Int32.reduceToInt]
  generalize x.toInt = f at *
  simp only [show ¬ f < 65 by omega, show ¬ f < 91 by omega, show ¬ f < 97 by omega, show ¬ f < 123 by omega, show ¬ f < 192 by omega, show ¬ f < 215 by omega, show ¬ f < 216 by omega, show ¬ f < 247 by omega, show ¬ f < 248 by omega, show ¬ f < 768 by omega, show ¬ f < 880 by omega, show ¬ f < 894 by omega, show ¬ f < 895 by omega, show ¬ f < 8192 by omega, show ¬ f < 8204 by omega, show ¬ f < 8206 by omega, show ¬ f < 8304 by omega, show ¬ f < 8592 by omega, show ¬ f < 11264 by omega, show ¬ f < 12272 by omega, show ¬ f < 12289 by omega, show f < 55296 by omega, show f < 63744 by omega, show f < 64976 by omega, show f < 65008 by omega, show f < 65534 by omega, show f < 65536 by omega, show f < 983040 by omega, show 90 < f by omega, show 122 < f by omega, show 214 < f by omega, show 246 < f by omega, show 767 < f by omega, show 893 < f by omega, show 8191 < f by omega, show 8205 < f by omega, show 8591 < f by omega, show 12271 < f by omega, show ¬ 55295 < f by omega, show ¬ 64975 < f by omega, show ¬ 65533 < f by omega, show ¬ 983039 < f by omega, if_true, if_false]
  decide
set_option maxHeartbeats 4000000 in
theorem case_22 (x : Int32) (lo : 55296 ≤ x.toInt) (hi : x.toInt < 63744) : isName x = ref x := by
  simp only [isName, isName_12, isName_24, isName_38, isName_52, isName_66, isName_80, isName_94, isName_108, isName_122, isName_136, isName_149, isName_161, isName_173, isName_185, isName_189, ref, ge, Int32.lt_iff_toInt_lt, Int32.reduceToInt]
  generalize x.toInt = f at *
  simp only [show ¬ f < 65 by omega, show ¬ f < 91 by omega, show ¬ f < 97 by omega, show ¬ f < 123 by omega, show ¬ f < 192 by omega, show ¬ f < 215 by omega, show ¬ f < 216 by omega, show ¬ f < 247 by omega, show ¬ f < 248 by omega, show ¬ f < 768 by omega, show ¬ f < 880 by omega, show ¬ f < 894 by omega, show ¬ f < 895 by omega, show ¬ f < 8192 by omega, show ¬ f < 8204 by omega, show ¬ f < 8206 by omega, show ¬ f < 8304 by omega, show ¬ f < 8592 by omega, show ¬ f < 11264 by omega, show ¬ f < 12272 by omega, show ¬ f < 12289 by omega, show ¬ f < 55296 by omega, show f < 63744 by omega, show f < 64976 by omega, show f < 65008 by omega, show f < 65534 by omega, show f < 65536 by omega, show f < 983040 by omega, show 90 < f by omega, show 122 < f by omega, show 214 < f by omega, show 246 < f by omega, show 767 < f by omega, show 893 < f by omega, show 8191 < f by omega, show 8205 < f by omega, show 8591 < f by omega, show 12271 < f by omega, show 55295 < f by omega, show ¬ 64975 < f by omega, show ¬ 65533 < f by omega, show ¬ 983039 < f by omega, if_true, if_false]
  decide
set_option maxHeartbeats 4000000 in
theorem case_23 (x : Int32) (lo : 63744 ≤ x.toInt) (hi : x.toInt < 64976) : isName x = ref x := by
  simp only [isName, isName_12, isName_24, isName_38, isName_52, isName_66, isName_80, isName_94, isName_108, isName_122, isName_136, isName_149, isName_161, isName_173, isName_185, isName_189, ref, ge, Int32.lt_iff_toInt_lt, Int32.reduceToInt]
  generalize x.toInt = f at *
  simp only [show ¬ f < 65 by omega, show ¬ f < 91 by omega, show ¬ f < 97 by omega, show ¬ f < 123 by omega, show ¬ f < 192 by omega, show ¬ f < 215 by omega, show ¬ f < 216 by omega, show ¬ f < 247 by omega, show ¬ f < 248 by omega, show ¬ f < 768 by omega, show ¬ f < 880 by omega, show ¬ f < 894 by omega, show ¬ f < 895 by omega, show ¬ f < 8192 by omega, show ¬ f < 8204 by omega, show ¬ f < 8206 by omega, show ¬ f < 8304 by omega, show ¬ f < 8592 by omega, show ¬ f < 11264 by omega, show ¬ f < 12272 by omega, show ¬ f < 12289 by omega, show ¬ f < 55296 by omega, show ¬ f < 63744 by omega, show f < 64976 by omega, show f < 65008 by omega, show f < 65534 by omega, show f < 65536 by omega, show f < 983040 by omega, show 90 < f by omega, show 122 < f by omega, show 214 < f by omega, show 246 < f by omega, show 767 < f by omega, show 893 < f by omega, show 8191 < f by omega, show 8205 < f by omega, show 8591 < f by omega, show 12271 < f by omega, show 55295 < f by omega, show ¬ 64975 < f by omega, show ¬ 65533 < f by omega, show ¬ 983039 < f by omega, if_true, if_false]
  decide
set_option maxHeartbeats 4000000 in
theorem case_24 (x : Int32) (lo : 64976 ≤ x.toInt) (hi : x.toInt < 65008) : isName x = ref x := by
  simp only [isName, isName_12, isName_24, isName_38, isName_52, isName_66, isName_80, isName_94, isName_108, isName_122, isName_136, isName_149, isName_161, isName_173, isName_185, isName_189, ref, ge, Int32.lt_iff_toInt_lt, Int32.reduceToInt]
  generalize x.toInt = f at *
  simp only [show ¬ f < 65 by omega, show ¬ f < 91 by omega, show ¬ f < 97 by omega, show ¬ f < 123 by omega, show ¬ f < 192 by omega, show ¬ f < 215 by omega, show ¬ f < 216 by omega, show ¬ f < 247 by omega, show ¬ f < 248 by omega, show ¬ f < 768 by omega, show ¬ f < 880 by omega, show ¬ f < 894 by omega, show ¬ f < 895 by omega, show ¬ f < 8192 by omega, show ¬ f < 8204 by omega, show ¬ f < 8206 by omega, show ¬ f < 8304 by omega, show ¬ f < 8592 by omega, show ¬ f < 11264 by omega, show ¬ f < 12272 by omega, show ¬ f < 12289 by omega, show ¬ f < 55296 by omega, show ¬ f < 63744 by omega, show ¬ f < 64976 by omega, show f < 65008 by omega, show f < 65534 by omega, show f < 65536 by omega, show f < 983040 by omega, show 90 < f by omega, show 122 < f by omega, show 214 < f by omega, show 246 < f by omega, show 767 < f by omega, show 893 < f by omega, show 8191 < f by omega, show 8205 < f by omega, show 8591 < f by omega, show 12271 < f by omega, show 55295 < f by omega, show 64975 < f by omega, show ¬ 65533 < f by omega, show ¬ 983039 < f by omega, if_true, if_false]
  decide
set_option maxHeartbeats 4000000 in
theorem case_25 (x : Int32) (lo : 65008 ≤ x.toInt) (hi : x.toInt < 65534) : isName x = ref x := by
  simp only [isName, isName_12, isName_24, isName_38, isName_52, isName_66, isName_80, isName_94, isName_108, isName_122, isName_136, isName_149, isName_161, isName_173, isName_185, isName_189, ref, ge, Int32.lt_iff_toInt_lt, Int32.reduceToInt]
  generalize x.toInt = f at *
  simp only [show ¬ f < 65 by omega, show ¬ f < 91 by omega, show ¬ f < 97 by omega, show ¬ f < 123 by omega, show ¬ f < 192 by omega, show ¬ f < 215 by omega, show ¬ f < 216 by omega, show ¬ f < 247 by omega, show ¬ f < 248 by omega, show ¬ f < 768 by omega, show ¬ f < 880 by omega, show ¬ f < 894 by omega, show ¬ f < 895 by omega, show ¬ f < 8192 by omega, show ¬ f < 8204 by omega, show ¬ f < 8206 by omega, show ¬ f < 8304 by omega, show ¬ f < 8592 by omega, show ¬ f < 11264 by omega, show ¬ f < 12272 by omega, show ¬ f < 12289 by omega, show ¬ f < 55296 by omega, show ¬ f < 63744 by omega, show ¬ f < 64976 by omega, show ¬ f < 65008 by omega, show f < 65534 by omega, show f < 65536 by omega, show f < 983040 by omega, show 90 < f by omega, show 122 < f by omega, show 214 < f by omega, show 246 < f by omega, show 767 < f by omega, show 893 < f by omega, show 8191 < f by omega, show 8205 < f by omega, show 8591 < f by omega, show 12271 < f by omega, show 55295 < f by omega, show 64975 < f by omega, show ¬ 65533 < f by omega, show ¬ 983039 < f by omega, if_true, if_false]
  decide
set_option maxHeartbeats 4000000 in
theorem case_26 (x : Int32) (lo : 65534 ≤ x.toInt) (hi : x.toInt < 65536) : isName x = ref x := by
  simp only [isName, isName_12, isName_24, isName_38, isName_52, isName_66, isName_80, isName_94, isName_108, isName_122, isName_136, isName_149, isName_161, isName_173, isName_185, isName_189, ref, ge, Int32.lt_iff_toInt_lt, Int32.reduceToInt]
  generalize x.toInt = f at *
  simp only [show ¬ f < 65 by omega, show ¬ f < 91 by omega, show ¬ f < 97 by omega, show ¬ f < 123 by omega, show ¬ f < 192 by omega, show ¬ f < 215 by omega, show ¬ f < 216 by omega, show ¬ f < 247 by omega, show ¬ f < 248 by omega, show ¬ f < 768 by omega, show ¬ f < 880 by omega, show ¬ f < 894 by omega, show ¬ f < 895 by omega, show ¬ f < 8192 by omega, show ¬ f < 8204 by omega, show ¬ f < 8206 by omega, show ¬ f < 8304 by omega, show ¬ f < 8592 by omega, show ¬ f < 11264 by omega, show ¬ f < 12272 by omega, show ¬ f < 12289 by omega, show ¬ f < 55296 by omega, show ¬ f < 63744 by omega, show ¬ f < 64976 by omega, show ¬ f < 65008 by omega, show ¬ f < 65534 by omega, show f < 65536 by omega, show f < 983040 by omega, show 90 < f by omega, show 122 < f by omega, show 214 < f by omega, show 246 < f by omega, show 767 < f by omega, show 893 < f by omega, show 8191 < f by omega, show 8205 < f by omega, show 8591 < f by omega, show 12271 < f by omega, show 55295 < f by omega, show 64975 < f by omega, show 65533 < f by omega, show ¬ 983039 < f by omega, if_true, if_false]
  decide
set_option maxHeartbeats 4000000 in
theorem case_27 (x : Int32) (lo : 65536 ≤ x.toInt) (hi : x.toInt < 983040) : isName x = ref x := by
  simp only [isName, isName_12, isName_24, isName_38, isName_52, isName_66, isName_80, isName_94, isName_108, isName_122, isName_136, isName_149, isName_161, isName_173, isName_185, isName_189, ref, ge, Int32.lt_iff_toInt_lt, Int32.reduceToInt]
  generalize x.toInt = f at *
  simp only [show ¬ f < 65 by omega, show ¬ f < 91 by omega, show ¬ f < 97 by omega, show ¬ f < 123 by omega, show ¬ f < 192 by omega, show ¬ f < 215 by omega, show ¬ f < 216 by omega, show ¬ f < 247 by omega, show ¬ f < 248 by omega, show ¬ f < 768 by omega, show ¬ f < 880 by omega, show ¬ f < 894 by omega, show ¬ f < 895 by omega, show ¬ f < 8192 by omega, show ¬ f < 8204 by omega, show ¬ f < 8206 by omega, show ¬ f < 8304 by omega, show ¬ f < 8592 by omega, show ¬ f < 11264 by omega, show ¬ f < 12272 by omega, show ¬ f < 12289 by omega, show ¬ f < 55296 by omega, show ¬ f < 63744 by omega, show ¬ f < 64976 by omega, show ¬ f < 65008 by omega, show ¬ f < 65534 by omega, show ¬ f < 65536 by omega, show f < 983040 by omega, show 90 < f by omega, show 122 < f by omega, show 214 < f by omega, show 246 < f by omega, show 767 < f by omega, show 893 < f by omega, show 8191 < f by omega, show 8205 < f by omega, show 8591 < f by omega, show 12271 < f by omega, show 55295 < f by omega, show 64975 < f by omega, show 65533 < f by omega, show ¬ 983039 < f by omega, if_true, if_false]
  decide
set_option maxHeartbeats 4000000 in
theorem case_28 (x : Int32) (lo : 983040 ≤ x.toInt)  : isName x = ref x := by
  simp only [isName, isName_12, isName_24, isName_38, isName_52, isName_66, isName_80, isName_94, isName_108, isName_122, isName_136, isName_149, isName_161, isName_173, isName_185, isName_189, ref, ge, Int32.lt_iff_toInt_lt, Int32.reduceToInt]
  generalize x.toInt = f at *
  simp only [show ¬ f < 65 by omega, show ¬ f < 91 by omega, show ¬ f < 97 by omega, show ¬ f < 123 by omega, show ¬ f < 192 by omega, show ¬ f < 215 by omega, show ¬ f < 216 by omega, show ¬ f < 247 by omega, show ¬ f < 248 by omega, show ¬ f < 768 by omega, show ¬ f < 880 by omega, show ¬ f < 894 by omega, show ¬ f < 895 by omega, show ¬ f < 8192 by omega, show ¬ f < 8204 by omega, show ¬ f < 8206 by omega, show ¬ f < 8304 by omega, show ¬ f < 8592 by omega, show ¬ f < 11264 by omega, show ¬ f < 12272 by omega, show ¬ f < 12289 by omega, show ¬ f < 55296 by omega, show ¬ f < 63744 by omega, show ¬ f < 64976 by omega, show ¬ f < 65008 by omega, show ¬ f < 65534 by omega, show ¬ f < 65536 by omega, show ¬ f < 983040 by omega, show 90 < f by omega, show 122 < f by omega, show 214 < f by omega, show 246 < f by omega, show 767 < f by omega, show 893 < f by omega, show 8191 < f by omega, show 8205 < f by omega, show 8591 < f by omega, show 12271 < f by omega, show 55295 < f by omega, show 64975 < f by omega, show 65533 < f by omega, show 983039 < f by omega, if_true, if_false]
  decide
theorem name_eq (x : Int32) : isName x = ref x := by
  by_cases h0 : x.toInt < 65
  · exact case_0 x h0
  by_cases h1 : x.toInt < 91
  · exact case_1 x (by omega) h1
  by_cases h2 : x.toInt < 97
  · exact case_2 x (by omega) h2
  by_cases h3 : x.toInt < 123
  · exact case_3 x (by omega) h3
  by_cases h4 : x.toInt < 192
  · exact case_4 x (by omega) h4
  by_cases h5 : x.toInt < 215
  · exact case_5 x (by omega) h5
  by_cases h6 : x.toInt < 216
  · exact case_6 x (by omega) h6
  by_cases h7 : x.toInt < 247
  · exact case_7 x (by omega) h7
  by_cases h8 : x.toInt < 248
  · exact case_8 x (by omega) h8
  by_cases h9 : x.toInt < 768
  · exact case_9 x (by omega) h9
  by_cases h10 : x.toInt < 880
  · exact case_10 x (by omega) h10
  by_cases h11 : x.toInt < 894
  · exact case_11 x (by omega) h11
  by_cases h12 : x.toInt < 895
  · exact case_12 x (by omega) h12
  by_cases h13 : x.toInt < 8192
  · exact case_13 x (by omega) h13
  by_cases h14 : x.toInt < 8204
  · exact case_14 x (by omega) h14
  by_cases h15 : x.toInt < 8206
  · exact case_15 x (by omega) h15
  by_cases h16 : x.toInt < 8304
  · exact case_16 x (by omega) h16
  by_cases h17 : x.toInt < 8592
  · exact case_17 x (by omega) h17
  by_cases h18 : x.toInt < 11264
  · exact case_18 x (by omega) h18
  by_cases h19 : x.toInt < 12272
  · exact case_19 x (by omega) h19
  by_cases h20 : x.toInt < 12289
  · exact case_20 x (by omega) h20
  by_cases h21 : x.toInt < 55296
  · exact case_21 x (by omega) h21
  by_cases h22 : x.toInt < 63744
  · exact case_22 x (by omega) h22
  by_cases h23 : x.toInt < 64976
  · exact case_23 x (by omega) h23
  by_cases h24 : x.toInt < 65008
  · exact case_24 x (by omega) h24
  by_cases h25 : x.toInt < 65534
  · exact case_25 x (by omega) h25
  by_cases h26 : x.toInt < 65536
  · exact case_26 x (by omega) h26
  by_cases h27 : x.toInt < 983040
  · exact case_27 x (by omega) h27
  exact case_28 x (by omega)
theorem law_one (x0 x1 x2 : Int32) : law x0 x1 x2 = 1 := by
  simp only [law, law_218, law_239, law_255, name_eq, if_true]
  decide
theorem q_law {x0 x1 x2 : Int32} {v : Option Value} (q : v = some (.int (law x0 x1 x2))) : v = some (.int 1) := by
  rw [q, law_one]
set_option maxRecDepth 65536 in
set_option maxHeartbeats 40000000 in
theorem comes_1 {Post : Tables → Env → Array Value → State → Outcome → State → Prop} (hpost : ∀ tb e args s v u, (limb_1_1.after args s (.returned v) u = true ∧ limb_1_2.after args s (.returned v) u = true ∧ True) → FrameEnd s (.returned v) u (Jvm.fieldLocs frame_1_writes args s ++ Jvm.arrayLocs frame_1_arrays args s ++ Jvm.staticLocs frame_1_statics s) 16 128 → Post tb e args s (.returned v) u) :
    ArmFor flags0 classFile x code maxLocals ret World_1 tables_1 room_1 Calls_1 rest_1 Pre_1 Post := by
  intro l hfl _ _ p e ha hc hk s m args below hf hA hF happ hP
  obtain ⟨hcalls, hrest, hpre⟩ := hP
  obtain ⟨-, -, -, hnamed, -, -, -, hat⟩ := (Spec.applies_iff hf).mp happ
  obtain ⟨hg, hn⟩ := and_e (Cond.before_iff.mp (show (Jvm.Cond.and given_1 narrow_1).before args s = true from hpre))
  obtain ⟨h1, hr0⟩ := and_e hg
  obtain ⟨w0, w1, w2, rfl⟩ : ∃ w0 w1 w2 : Value, args = #[w0, w1, w2] := by
    have hs : args.size = 3 := by simpa [Cond.value, given_1] using h1
    obtain ⟨L⟩ := args
    match L, hs with
    | [w0, w1, w2], _ => exact ⟨w0, w1, w2, rfl⟩
  have hw := fun d (hd : d ∈ tables_1) => atoms_spec (ws := Jvm.Cond.code x code maxLocals ret :: tables_1) hat d (List.mem_cons_of_mem _ hd)
  obtain ⟨hi0, hr1⟩ := and_e hr0
  obtain ⟨i0, e0⟩ := is_v hi0
  obtain rfl : w0 = (.int i0) := Option.some.inj e0
  obtain ⟨hi1, hr2⟩ := and_e hr1
  obtain ⟨i1, e1⟩ := is_v hi1
  obtain rfl : w1 = (.int i1) := Option.some.inj e1
  have hi2 := hr2
  obtain ⟨i2, e2⟩ := is_v hi2
  obtain rfl : w2 = (.int i2) := Option.some.inj e2
  obtain ⟨n, o, h1, h2, h3, _, L, rfl, ⟨q, N⟩, hq⟩ := ct_law (l := l) (Z := s) (a0 := _) hw tables_1 s.heap s.heap.size i0 i1 i2 (Nat.le_refl _) p e ha hc hk s m _ below hf ((Spec.applies_iff_loose hf).mp happ).1 ⟨rfl, State.Warmed39.refl s, rfl⟩ trivial
  have q1 := q_law q
  subst q1
  refine ⟨n, _, h1, h2, h3, hpost _ _ _ _ _ _ ⟨Cond.after_iff.mpr rfl, Cond.after_iff.mpr (eq_i res_at (Term.int_eval (1)) rfl), trivial⟩ ⟨hq.1, hq.2.1, (hq.2.2.sift fun y hy => Or.inr (N y hy)).mono (by decide) (by decide)⟩⟩
theorem main_1_1 : Claimed_1_1 := comes_1 fun _ _ _ _ _ _ h hF => ⟨h.1, hF⟩
theorem main_1_2 : Claimed_1_2 := comes_1 fun _ _ _ _ _ _ h hF => ⟨h.2.1, hF⟩
end Jvm.Pilot.@@N@@
namespace Jvm.Pilot.@@N@@
open Jvm Jvm.ClassFile Sem Op Lib Jvm.Free Jvm.Stand Jvm.Pilot.@@N@@.Jvm.D
/-! MADE BY PROGRAM (witnessworld.py) out of the Statement's table words and the real class files: 9 classes; the members and pool entries that the words name. The judged class is class 1, her method 1. -/
namespace start1
open Jvm.ClassFile
def u (s : String) : CpInfo := .utf8 (stringToUtf16 s)
/-- a pool by its gaps: so many unusable entries, then the entry; so many at the end -/
def gap : Nat → List CpInfo → List CpInfo
  | 0, r => r
  | n + 1, r => .unusable :: gap n r
def poolList (es : List (Nat × CpInfo)) (last : Nat) : List CpInfo := es.foldr (fun e r => gap e.1 (e.2 :: r)) (gap last [])
def pool (es : List (Nat × CpInfo)) (last : Nat) : Array CpInfo := ⟨poolList es last⟩
def fileOf (pool : Array CpInfo) (this : Nat) (attrs : Array Attribute := #[]) (ms : Array MethodInfo := #[]) (fl : Nat := 33) (sup : Nat := 0) (ifs : Array Nat := #[]) (fds : Array FieldInfo := #[]) : ClassFile where
  minorVersion := 0
  majorVersion := 65
  constantPool := pool
  accessFlags := fl
  thisClass := this
  superClass := sup
  interfaces := ifs
  fields := fds
  methods := ms
  attributes := attrs
def plain (name : String) (sup : Option ClassId) : Class where
  name := name
  kind := .ordinary
  loader := none
  accessFlags := 33
  super := sup
  interfaces := #[]
  cf := none
  fields := #[]
  methods := #[]
  instanceTypes := #[]
  staticTypes := #[]
  resolved := #[]
  callSites := []
  init := .initialized
  statics := none
  mirror := none

def pool0 : Array CpInfo := pool [(5, u "<init>"), (0, u "()V"), (1, .class_ 10), (1, u "java/lang/Object")] 113

def k0m0 : Method := { name := "<init>", desc := "()V", sig := { parameters := [], returnType := none }, accessFlags := 1, code := none }
/-- java/lang/Object -/
def k0 : Class := { plain "java/lang/Object" none with
  accessFlags := 33
  interfaces := #[]
  cf := some (fileOf pool0 8 #[] #[{ accessFlags := 1, nameIndex := 5, descriptorIndex := 6, attributes := #[] }] 33 0 #[] #[])
  fields := #[]
  methods := #[k0m0]
  instanceTypes := #[]
  staticTypes := #[]
  resolved := Array.replicate 124 none
  statics := none }

def pool1 : Array CpInfo := pool [(2, .class_ 4), (1, u "java/lang/Object"), (0, u "<init>"), (0, u "()V"), (0, .integer 55296), (0, .integer 63744), (0, .integer 64976), (0, .integer 65008), (0, .integer 65534), (0, .integer 65536), (0, .integer 983040), (0, .integer 2147483647), (0, .methodref 16 17), (0, .class_ 18), (0, .nameAndType 19 20), (0, u "com/example/aboxdb/aboxdb/Terminals"), (0, u "isNameStartCharacter"), (0, u "(I)Z"), (0, .methodref 22 23), (0, .class_ 24), (0, .nameAndType 25 26), (0, u "com/example/aboxdb/aboxdb/TerminalsIsNameStartCharacterPinLaw"), (0, u "ref"), (0, u "([II)Z"), (0, .methodref 22 28), (0, .nameAndType 29 30), (0, u "ge"), (0, u "(II)I"), (2, u "law"), (0, u "(III)Z")] 5

def k1m0 : Method := { name := "<init>", desc := "()V", sig := { parameters := [], returnType := none }, accessFlags := 2, code := none }
def k1c1 : Code := { maxStack := 4, maxLocals := 7, code := code, exceptionTable := #[], attributes := #[] }
def k1m1 : Method := { name := "law", desc := "(III)Z", sig := { parameters := [.int, .int, .int], returnType := some .boolean }, accessFlags := 9, code := some k1c1 }
def k1c2 : Code := { maxStack := 2, maxLocals := 2, code := method_3_code, exceptionTable := #[], attributes := #[] }
def k1m2 : Method := { name := "ge", desc := "(II)I", sig := { parameters := [.int, .int], returnType := some .int }, accessFlags := 10, code := some k1c2 }
def k1c3 : Code := { maxStack := 4, maxLocals := 3, code := method_4_code, exceptionTable := #[], attributes := #[] }
def k1m3 : Method := { name := "ref", desc := "([II)Z", sig := { parameters := [(.array .int), .int], returnType := some .boolean }, accessFlags := 10, code := some k1c3 }
/-- com/example/aboxdb/aboxdb/TerminalsIsNameStartCharacterPinLaw -/
def k1 : Class := { plain "com/example/aboxdb/aboxdb/TerminalsIsNameStartCharacterPinLaw" (some 0) with
  accessFlags := 49
  interfaces := #[]
  cf := some (fileOf pool1 22 #[] #[{ accessFlags := 2, nameIndex := 5, descriptorIndex := 6, attributes := #[] }, { accessFlags := 9, nameIndex := 33, descriptorIndex := 34, attributes := #[] }, { accessFlags := 10, nameIndex := 29, descriptorIndex := 30, attributes := #[] }, { accessFlags := 10, nameIndex := 25, descriptorIndex := 26, attributes := #[] }] 49 2 #[] #[])
  fields := #[]
  methods := #[k1m0, k1m1, k1m2, k1m3]
  instanceTypes := #[]
  staticTypes := #[]
  resolved := Array.replicate 40 none
  statics := none }

def pool2 : Array CpInfo := pool [(2, .class_ 4), (1, u "java/lang/Object"), (0, u "<init>"), (0, u "()V"), (11, .class_ 19), (0, u "com/example/aboxdb/aboxdb/Terminals"), (11, u "(I)Z"), (18, .integer 55295), (0, .integer 63744), (0, .integer 64975), (0, .integer 65008), (0, .integer 65533), (0, .integer 65536), (0, .integer 983039), (2, u "isNameStartCharacter"), (0, u "NOT_IN_IRIS"), (0, u "Ljava/lang/String;"), (1, u "ESCAPES"), (0, u "ESCAPED"), (0, u "LOCAL_ESCAPES"), (0, u "NO_LABEL"), (2, u "NO_LANGUAGE_TAG"), (2, u "NO_DIGITS")] 39

def k2m0 : Method := { name := "<init>", desc := "()V", sig := { parameters := [], returnType := none }, accessFlags := 2, code := none }
def k2c1 : Code := { maxStack := 2, maxLocals := 1, code := prog_68_method_14_code, exceptionTable := #[], attributes := #[] }
def k2m1 : Method := { name := "isNameStartCharacter", desc := "(I)Z", sig := { parameters := [.int], returnType := some .boolean }, accessFlags := 8, code := some k2c1 }
/-- com/example/aboxdb/aboxdb/Terminals -/
def k2 : Class := { plain "com/example/aboxdb/aboxdb/Terminals" (some 0) with
  accessFlags := 48
  interfaces := #[]
  cf := some (fileOf pool2 18 #[] #[{ accessFlags := 2, nameIndex := 5, descriptorIndex := 6, attributes := #[] }, { accessFlags := 8, nameIndex := 59, descriptorIndex := 31, attributes := #[] }] 48 2 #[] #[{ accessFlags := 26, nameIndex := 60, descriptorIndex := 61, attributes := #[] }, { accessFlags := 26, nameIndex := 63, descriptorIndex := 61, attributes := #[] }, { accessFlags := 26, nameIndex := 64, descriptorIndex := 61, attributes := #[] }, { accessFlags := 26, nameIndex := 65, descriptorIndex := 61, attributes := #[] }, { accessFlags := 24, nameIndex := 66, descriptorIndex := 61, attributes := #[] }, { accessFlags := 24, nameIndex := 69, descriptorIndex := 61, attributes := #[] }, { accessFlags := 24, nameIndex := 72, descriptorIndex := 61, attributes := #[] }])
  fields := #[{ name := "NOT_IN_IRIS", type := (.object "java/lang/String"), accessFlags := 26, slot := 0, constantValue := 0 }, { name := "ESCAPES", type := (.object "java/lang/String"), accessFlags := 26, slot := 1, constantValue := 0 }, { name := "ESCAPED", type := (.object "java/lang/String"), accessFlags := 26, slot := 2, constantValue := 0 }, { name := "LOCAL_ESCAPES", type := (.object "java/lang/String"), accessFlags := 26, slot := 3, constantValue := 0 }, { name := "NO_LABEL", type := (.object "java/lang/String"), accessFlags := 24, slot := 4, constantValue := 0 }, { name := "NO_LANGUAGE_TAG", type := (.object "java/lang/String"), accessFlags := 24, slot := 5, constantValue := 0 }, { name := "NO_DIGITS", type := (.object "java/lang/String"), accessFlags := 24, slot := 6, constantValue := 0 }]
  methods := #[k2m0, k2m1]
  instanceTypes := #[]
  staticTypes := #[(.object "java/lang/String"), (.object "java/lang/String"), (.object "java/lang/String"), (.object "java/lang/String"), (.object "java/lang/String"), (.object "java/lang/String"), (.object "java/lang/String")]
  resolved := Array.replicate 112 none
  statics := none }

def pool3 : Array CpInfo := pool [(1, u "java/lang/Cloneable"), (0, .class_ 1), (0, u "java/lang/Object"), (0, .class_ 3)] 3

/-- java/lang/Cloneable -/
def k3 : Class := { plain "java/lang/Cloneable" (some 0) with
  accessFlags := 1537
  interfaces := #[]
  cf := some (fileOf pool3 2 #[] #[] 1537 4 #[] #[])
  fields := #[]
  methods := #[]
  instanceTypes := #[]
  staticTypes := #[]
  resolved := Array.replicate 8 none
  statics := none }

def pool4 : Array CpInfo := pool [(1, u "java/io/Serializable"), (0, .class_ 1), (0, u "java/lang/Object"), (0, .class_ 3)] 3

/-- java/io/Serializable -/
def k4 : Class := { plain "java/io/Serializable" (some 0) with
  accessFlags := 1537
  interfaces := #[]
  cf := some (fileOf pool4 2 #[] #[] 1537 4 #[] #[])
  fields := #[]
  methods := #[]
  instanceTypes := #[]
  staticTypes := #[]
  resolved := Array.replicate 8 none
  statics := none }

/-- the primitive byte -/
def k5 : Class := { plain "byte" none with kind := .primitive 'B', accessFlags := 0x411 }
/-- [B -/
def k6 : Class := { plain "[B" (some 0) with kind := .array 5 .byte, interfaces := #[3, 4], accessFlags := 1041 }

/-- the primitive int -/
def k7 : Class := { plain "int" none with kind := .primitive 'I', accessFlags := 0x411 }
/-- [I -/
def k8 : Class := { plain "[I" (some 0) with kind := .array 7 .int, interfaces := #[3, 4], accessFlags := 1041 }

def heap : Heap := #[]
def classes : Array Class := #[k0, k1, k2, k3, k4, k5, k6, k7, k8]
def interned : List (Array UInt16 × Addr) := []
def slotsUsed : Nat := 0
def theMethod : MethodId := ⟨1, 1⟩
def args0 : Array Value := #[.int 5, .int 6, .int 7]
def aboutOver (below : List Frame) : State where
  vm := { classes := classes, interned := interned.toArray }
  heap := heap
  slotsUsed := slotsUsed
  threads := #[{ frames := .invoking theMethod args0 :: below }]
def below0 : List Frame := [.native { method := ⟨0, 0⟩, args := #[] }]
def about1 : State := aboutOver below0
def p0 : Program := .bare "" "" ""
def e0 : Env := launch0.env 0 0 0
theorem w_frames : about1.frames = Frame.invoking theMethod args0 :: below0 := rfl
set_option maxRecDepth 65536 in
theorem w_args : argsFit about1.vm theMethod args0 = true := by decide +kernel
set_option maxRecDepth 65536 in
theorem w_heap : heapFits about1 = true := by decide +kernel
set_option maxRecDepth 65536 in
theorem w_runnable : about1.curStatus? = some .runnable := by decide +kernel
set_option maxRecDepth 65536 in
theorem w_alone : about1.alone = true := by decide +kernel
set_option maxRecDepth 65536 in
theorem w_named : about1.methodNamed? x = some theMethod := by decide +kernel
set_option maxRecDepth 65536 in
theorem w_hears : about1.hears theMethod below0 = true := by decide +kernel
set_option maxRecDepth 65536 in
theorem w_ripe : about1.ripe theMethod args0 below0 = true := by decide +kernel
theorem w_running : about1.status = .running := rfl
set_option maxRecDepth 65536 in
theorem w_room : about1.hasRoom e0.platform room_1 = true :=
  launch0.hasRoom_least _ room_1 (by decide +kernel) (by decide +kernel) (by decide +kernel) (by decide +kernel) (by decide +kernel) (by decide +kernel)
theorem allAtoms_all (ts : List Jvm.Cond) (a : Array Jvm.Value) (st : Jvm.State) : (allAtoms ts).before a st = ts.all (fun c => c.before a st) := by
  induction ts with
  | nil => rfl
  | cons c t ih =>
    show (Jvm.Cond.and c (allAtoms t)).before a st = _
    rw [Jvm.Cond.before_and, ih, List.all_cons]
def words1 : List Jvm.Cond := Jvm.Cond.code x code maxLocals ret :: tables_1
/-- a 'code' word, met by the world's own term for the bytes: nothing is compared byte by byte -/
theorem code_word {y : MethodName} {bytes : ByteArray} {mx : Nat} {rt : Option FieldType} {a : Array Value} {s : State} {m : MethodId} {meth : Method} {c : Code} (h1 : s.methodNamed? y = some m) (h2 : s.vm.method? m = some meth) (h3 : meth.code = some c) (h4 : c.code = bytes)
    (h5 : (c.maxLocals == mx && c.exceptionTable.isEmpty && decide (c.maxStack ≤ mostOperands) && decide (meth.sig.returnType = rt) && !meth.locks && decide (parseMethodDescriptor y.desc = some meth.sig)) = true) : (Jvm.Cond.code y bytes mx rt).before a s = true := by
  simp only [Bool.and_eq_true, beq_iff_eq, Bool.not_eq_true', decide_eq_true_eq] at h5
  obtain ⟨⟨⟨⟨⟨g1, g2⟩, g3⟩, g4⟩, g5⟩, g6⟩ := h5
  simp [Cond.before, Cond.holds, Cond.value, h1, h2, h3, h4, g1, g2, g3, g4, g5, g6]
def isCode : Jvm.Cond → Bool
  | .code _ _ _ _ => true
  | _ => false
theorem all_split {L : List Jvm.Cond} {P : Jvm.Cond → Bool} (h1 : L.all (fun c => isCode c || P c) = true) (h2 : ∀ c ∈ L.filter isCode, P c = true) : L.all P = true := by
  refine List.all_eq_true.mpr fun c hc => ?_
  have h := List.all_eq_true.mp h1 c hc
  rcases Bool.eq_false_or_eq_true (isCode c) with hi | hi
  · exact h2 c (List.mem_filter.mpr ⟨hc, hi⟩)
  · simpa [hi] using h
set_option maxRecDepth 65536 in
theorem w_c0 : (Jvm.Cond.code x code maxLocals ret).before args0 about1 = true := code_word (m := ⟨1, 1⟩) (meth := k1m1) (c := k1c1) (by decide +kernel) rfl rfl rfl (by decide +kernel)
set_option maxRecDepth 65536 in
theorem w_c1 : (Jvm.Cond.code ({ cls := "com/example/aboxdb/aboxdb/Terminals", name := "isNameStartCharacter", desc := "(I)Z" } : Jvm.MethodName) prog_68_method_14_code (1 : Nat) (Option.some Jvm.ClassFile.FieldType.boolean)).before args0 about1 = true := code_word (m := ⟨2, 1⟩) (meth := k2m1) (c := k2c1) (by decide +kernel) rfl rfl rfl (by decide +kernel)
set_option maxRecDepth 65536 in
theorem w_c2 : (Jvm.Cond.code ({ cls := "com/example/aboxdb/aboxdb/TerminalsIsNameStartCharacterPinLaw", name := "ref", desc := "([II)Z" } : Jvm.MethodName) method_4_code (3 : Nat) (Option.some Jvm.ClassFile.FieldType.boolean)).before args0 about1 = true := code_word (m := ⟨1, 3⟩) (meth := k1m3) (c := k1c3) (by decide +kernel) rfl rfl rfl (by decide +kernel)
set_option maxRecDepth 65536 in
theorem w_c3 : (Jvm.Cond.code ({ cls := "com/example/aboxdb/aboxdb/TerminalsIsNameStartCharacterPinLaw", name := "ge", desc := "(II)I" } : Jvm.MethodName) method_3_code (2 : Nat) (Option.some Jvm.ClassFile.FieldType.int)).before args0 about1 = true := code_word (m := ⟨1, 2⟩) (meth := k1m2) (c := k1c2) (by decide +kernel) rfl rfl rfl (by decide +kernel)
def codes1 : List Jvm.Cond := [Jvm.Cond.code x code maxLocals ret, Jvm.Cond.code ({ cls := "com/example/aboxdb/aboxdb/Terminals", name := "isNameStartCharacter", desc := "(I)Z" } : Jvm.MethodName) prog_68_method_14_code (1 : Nat) (Option.some Jvm.ClassFile.FieldType.boolean), Jvm.Cond.code ({ cls := "com/example/aboxdb/aboxdb/TerminalsIsNameStartCharacterPinLaw", name := "ref", desc := "([II)Z" } : Jvm.MethodName) method_4_code (3 : Nat) (Option.some Jvm.ClassFile.FieldType.boolean), Jvm.Cond.code ({ cls := "com/example/aboxdb/aboxdb/TerminalsIsNameStartCharacterPinLaw", name := "ge", desc := "(II)I" } : Jvm.MethodName) method_3_code (2 : Nat) (Option.some Jvm.ClassFile.FieldType.int)]
set_option maxRecDepth 65536 in
theorem codes_eq : words1.filter isCode = codes1 := rfl
theorem w_codes : ∀ c ∈ words1.filter isCode, c.before args0 about1 = true := by
  rw [codes_eq]
  intro c hc
  simp only [codes1, List.mem_cons, List.not_mem_nil, or_false] at hc
  rcases hc with rfl | rfl | rfl | rfl
  · exact w_c0
  · exact w_c1
  · exact w_c2
  · exact w_c3
set_option maxRecDepth 65536 in
theorem w_t1 : (words1.take 24).all (fun c => isCode c || c.before args0 about1) = true := by decide +kernel
set_option maxRecDepth 65536 in
theorem w_t2 : (words1.drop 24).all (fun c => isCode c || c.before args0 about1) = true := by decide +kernel
theorem w_tables : (allAtoms (Jvm.Cond.code x code maxLocals ret :: tables_1)).before args0 about1 = true := by
  rw [allAtoms_all]
  show words1.all (fun c => c.before args0 about1) = true
  refine all_split ?_ w_codes
  rw [← List.take_append_drop 24 words1, List.all_append, w_t1, w_t2]
  rfl
set_option maxRecDepth 65536 in
theorem w_case : (Jvm.Cond.and given_1 narrow_1).before args0 about1 = true := by decide +kernel
theorem w_applies : (headSpec (Jvm.Cond.code x code maxLocals ret :: tables_1) room_1).applies x e0.platform about1 = true :=
  (Spec.applies_iff w_frames).mpr ⟨w_running, w_runnable, w_alone, w_named, w_hears, w_ripe, w_room, w_tables⟩
theorem atStart : AtStart classFile x code maxLocals ret World_1 tables_1 room_1 Calls_1 rest_1 Pre_1 launch0 p0 e0 about1 theMethod args0 below0 :=
  ⟨lists_1, trivial, launch0.admits_env _ _ _, launch0.least_env, fairChoices_fair.cas, fairChoices_fair.clock, w_frames, w_args, w_heap, w_applies, trivial, trivial, w_case⟩
end start1
theorem witness_1 : WitnessClaimed_1 := ⟨start1.p0, start1.e0, start1.about1, start1.theMethod, start1.args0, start1.below0, start1.atStart⟩
end Jvm.Pilot.@@N@@
