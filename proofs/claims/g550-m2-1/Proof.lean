import JvmDerived
import JvmDerived.Pilot.@@N@@Statement
import JvmDerived.Pilot.@@N@@Code
set_option linter.unusedVariables false
set_option linter.unusedSimpArgs false
namespace Jvm.Own
open Jvm Sem ClassFile Op Lib Jvm.Stand Jvm.Free Jvm.LawKit Jvm.RoadKit
/-- what is left to run: from any state that stands here with this heap, in this frame, the method comes back, and Q holds of what it returns and of the heap -/
def Wp (p : Program) (l : Launch) (e : Env) (R : Room) (s : State) (m : MethodId) (args : Array Value) (below : List Frame) (meth : Method) (c : Code)
    (n0 cM sM : Nat) (Q : Option Value → Heap → Prop) (h : Heap) (cells slots : Nat) (g : JFrame) : Prop :=
  ∀ (T : State) (locs : List Loc), Stand p l e R s m args below meth c T locs cells slots → T.heap = h → Fr n0 locs →
    ∃ s₂ v L, Steps p.tables e below (T.setTop g) s₂ ∧ s₂.status = .running ∧ Ended s₂ below (.returned v) ∧ (Q v s₂.heap ∧ Fr n0 L) ∧ FrameEnd s (.returned v) s₂ L cM sM
/-- what is known of the method that is walked -/
def Cx (p : Program) (s : State) (m : MethodId) (meth : Method) (c : Code) (Z : State) (own : String) (bytes : ByteArray) (ml : Nat) (rt : Option FieldType) (nm : String) : Prop :=
  p.tables.exec = Jvm.exec ∧ c.code = bytes ∧ Z.Warmed39 s.vm ∧ s.vm.findClass own = some m.cls ∧ c.maxLocals = ml ∧ meth.sig.returnType = rt ∧ meth.name = nm ∧ meth.locks = false
/-- a method's contract: called with these arguments at this heap -/
def Ct (l : Launch) (Z : State) (y : MethodName) (bytes : ByteArray) (maxL : Nat) (ret : Option FieldType) (ws : List Jvm.Cond) (rm : Room) (as' : Array Value) (h : Heap) (n0 : Nat) (Q : Option Value → Heap → Prop) : Prop :=
  MetFree l y (head1 (Jvm.Cond.code y bytes maxL ret :: ws) rm) (fun a U => a = as' ∧ Z.Warmed39 U.vm ∧ U.heap = h) (fun _ _ _ _ _ => True)
    (fun _ U o U' => ∃ v L, o = .returned v ∧ (Q v U'.heap ∧ Fr n0 L) ∧ FrameEnd U o U' L rm.cells rm.slots)
theorem Ct.of {l : Launch} {Z : State} {y : MethodName} {bytes : ByteArray} {maxL : Nat} {ret : Option FieldType} {ws : List Jvm.Cond} {rm : Room} {as' : Array Value} {h : Heap} {n0 : Nat} {Q : Option Value → Heap → Prop} {Ls : Array Slot}
    (hpl : plainFor y = true) (ef : ∀ m, entryFrame m as' maxL = mkF m 0 Ls [])
    (H : ∀ p e s m below meth c, Cx p s m meth c Z y.cls bytes maxL ret y.name → Wp p l e rm s m as' below meth c n0 rm.cells rm.slots Q h 0 0 (mkF m 0 Ls [])) :
    Ct l Z y bytes maxL ret ws rm as' h n0 Q := by
  refine MetFree.of_bodySF hpl hisR ?_
  intro p e s m args below meth c s₁ Bd hml0 hP hK
  obtain ⟨rfl, hZ, hh⟩ := hP
  have C : Cx p s m meth c Z y.cls bytes maxL ret y.name := ⟨Bd.exec, Bd.bytes, hZ, findClass_of_methodNamed Bd.named, hml0, Bd.returns, (name_of_methodNamed Bd.named Bd.method).1, Bd.notSynchronized⟩
  obtain ⟨s₂, v, L, a1, a2, a3, a4, a5⟩ := H p e s m below meth c C s₁ [] (Stand.of_body Bd) (by rw [← hh, Bd.state]; rfl) (Fr.nil n0)
  exact ⟨s₂, .returned v, castTop (ef m) a1, a2, a3, v, L, rfl, a4, a5⟩
theorem Ct.mono {l : Launch} {Z : State} {y : MethodName} {bytes : ByteArray} {maxL : Nat} {ret : Option FieldType} {ws : List Jvm.Cond} {rm : Room} {as' : Array Value} {h : Heap} {n0 : Nat} {Q Q' : Option Value → Heap → Prop}
    (H : Ct l Z y bytes maxL ret ws rm as' h n0 Q) (i : ∀ v h', Q v h' → Q' v h') : Ct l Z y bytes maxL ret ws rm as' h n0 Q' := by
  intro p e ha hc hk s m args below hf happ hP hK
  obtain ⟨n, o, h1, h2, h3, v, L, h4, h5, h6⟩ := H p e ha hc hk s m args below hf happ hP hK
  exact ⟨n, o, h1, h2, h3, v, L, h4, ⟨i _ _ h5.1, h5.2⟩, h6⟩
section Rules
variable {p : Program} {l : Launch} {e : Env} {R : Room} {s : State} {m : MethodId} {args : Array Value} {below : List Frame} {meth : Method} {c : Code} {n0 cM sM : Nat} {Q : Option Value → Heap → Prop} {h : Heap} {cells slots : Nat}
variable {Z : State} {own nm : String} {bytes : ByteArray} {ml : Nat} {rt : Option FieldType} {a0 : Array Value}
theorem Wp.pure {g g' : JFrame} (st : ∀ (T t : State), At T m c below → Steps p.tables e below (T.setTop g') t → Steps p.tables e below (T.setTop g) t) (k : Wp p l e R s m args below meth c n0 cM sM Q h cells slots g') :
    Wp p l e R s m args below meth c n0 cM sM Q h cells slots g := fun T locs X e0 N => by
  obtain ⟨s2, v, L, a, r⟩ := k T locs X e0 N
  exact ⟨s2, v, L, st T s2 X.here a, r⟩
theorem Wp.law {g g' : JFrame} (st : ∀ (T : State) (locs : List Loc), Stand p l e R s m args below meth c T locs cells slots → T.heap = h → ∃ T', Stand p l e R s m args below meth c T' locs cells slots ∧ T'.heap = h ∧ ∀ t, Steps p.tables e below (T'.setTop g') t → Steps p.tables e below (T.setTop g) t)
    (k : Wp p l e R s m args below meth c n0 cM sM Q h cells slots g') : Wp p l e R s m args below meth c n0 cM sM Q h cells slots g := fun T locs X e0 N => by
  obtain ⟨T', X', e', st'⟩ := st T locs X e0
  obtain ⟨s2, v, L, a, r⟩ := k T' locs X' e' N
  exact ⟨s2, v, L, st' s2 a, r⟩
theorem Wp.more {g : JFrame} {cells' slots' : Nat} (hc : cells ≤ cells') (hs : slots ≤ slots') (k : Wp p l e R s m args below meth c n0 cM sM Q h cells' slots' g) : Wp p l e R s m args below meth c n0 cM sM Q h cells slots g :=
  fun T locs X e0 N => k T locs (X.more hc hs) e0 N
theorem Wp.mono {g : JFrame} {Q' : Option Value → Heap → Prop} (i : ∀ v h', Q v h' → Q' v h') (k : Wp p l e R s m args below meth c n0 cM sM Q h cells slots g) : Wp p l e R s m args below meth c n0 cM sM Q' h cells slots g :=
  fun T locs X e0 N => by
    obtain ⟨s2, v, L, a, b, d, q, r⟩ := k T locs X e0 N
    exact ⟨s2, v, L, a, b, d, ⟨i _ _ q.1, q.2⟩, r⟩
theorem Wp.ret {g : JFrame} {v : Option Value} (C : Cx p s m meth c Z own bytes ml rt nm)
    (st : ∀ (T : State) (fs : List Frame) (locs : List Loc), Stand p l e R s m args below meth c T locs cells slots → (∀ (f : JFrame) (acts : List Action), f.method = m → f.locked = none → f.entered = [] → (doReturn e (T.setTop f) acts v).1 = T.setFrames fs) → Steps p.tables e below (T.setTop g) (T.setFrames fs))
    (hv : meth.sig.returnType = none → v = none) (hc : cells ≤ cM) (hs : slots ≤ sM) (q : Q v h) : Wp p l e R s m args below meth c n0 cM sM Q h cells slots g := by
  intro T locs X e0 N
  have hlk : meth.locks = false := C.2.2.2.2.2.2.2
  obtain ⟨fs, hr, hrun, hended, hW, hsame⟩ := X.leave (v := v) hv hlk
  exact ⟨_, v, locs, st T fs locs X hr, hrun, hended, ⟨by subst e0; exact q, N⟩, ⟨_, rfl⟩, hW, hsame.mono hc hs⟩
theorem w_iloadN (C : Cx p s m meth c Z own bytes ml rt nm) {pc pc' : Nat} {Ls : Array Slot} {st : List Value} {k : Fin 4} {x : Int32} (hd : decode bytes pc = .ok (.iload_n k, 1)) (hl : Ls[k.val]? = some (.val (.int x))) (hp : pc + 1 = pc') (K : Wp p l e R s m args below meth c n0 cM sM Q h cells slots (mkF m pc' Ls (.int x :: st))) :
    Wp p l e R s m args below meth c n0 cM sM Q h cells slots (mkF m pc Ls st) := by
  subst hp; exact Wp.pure (fun T t X hr => XS.iloadN X C.1 rfl (hb C.2.1 hd) hl hr) K
theorem w_iload (C : Cx p s m meth c Z own bytes ml rt nm) {pc pc' : Nat} {Ls : Array Slot} {st : List Value} {k : Nat} {x : Int32} (hd : decode bytes pc = .ok (.iload k, 2)) (hl : Ls[k]? = some (.val (.int x))) (hp : pc + 2 = pc') (K : Wp p l e R s m args below meth c n0 cM sM Q h cells slots (mkF m pc' Ls (.int x :: st))) :
    Wp p l e R s m args below meth c n0 cM sM Q h cells slots (mkF m pc Ls st) := by
  subst hp; exact Wp.pure (fun T t X hr => XS.iload X C.1 rfl (hb C.2.1 hd) hl hr) K
theorem w_lloadN (C : Cx p s m meth c Z own bytes ml rt nm) {pc pc' : Nat} {Ls : Array Slot} {st : List Value} {k : Fin 4} {x : Int64} (hd : decode bytes pc = .ok (.lload_n k, 1)) (hl : Ls[k.val]? = some (.val (.long x))) (hp : pc + 1 = pc') (K : Wp p l e R s m args below meth c n0 cM sM Q h cells slots (mkF m pc' Ls (.long x :: st))) :
    Wp p l e R s m args below meth c n0 cM sM Q h cells slots (mkF m pc Ls st) := by
  subst hp; exact Wp.pure (fun T t X hr => XS.lloadN X C.1 rfl (hb C.2.1 hd) hl hr) K
theorem w_lload (C : Cx p s m meth c Z own bytes ml rt nm) {pc pc' : Nat} {Ls : Array Slot} {st : List Value} {k : Nat} {x : Int64} (hd : decode bytes pc = .ok (.lload k, 2)) (hl : Ls[k]? = some (.val (.long x))) (hp : pc + 2 = pc') (K : Wp p l e R s m args below meth c n0 cM sM Q h cells slots (mkF m pc' Ls (.long x :: st))) :
    Wp p l e R s m args below meth c n0 cM sM Q h cells slots (mkF m pc Ls st) := by
  subst hp; exact Wp.pure (fun T t X hr => XS.lload X C.1 rfl (hb C.2.1 hd) hl hr) K
theorem w_aloadN (C : Cx p s m meth c Z own bytes ml rt nm) {pc pc' : Nat} {Ls : Array Slot} {st : List Value} {k : Fin 4} {v : Value} (hd : decode bytes pc = .ok (.aload_n k, 1)) (hl : Ls[k.val]? = some (.val v)) (hv : v.isRef = true) (hp : pc + 1 = pc') (K : Wp p l e R s m args below meth c n0 cM sM Q h cells slots (mkF m pc' Ls (v :: st))) :
    Wp p l e R s m args below meth c n0 cM sM Q h cells slots (mkF m pc Ls st) := by
  subst hp; exact Wp.pure (fun T t X hr => XS.aloadN X C.1 rfl (hb C.2.1 hd) hl hv hr) K
theorem w_aload (C : Cx p s m meth c Z own bytes ml rt nm) {pc pc' : Nat} {Ls : Array Slot} {st : List Value} {k : Nat} {v : Value} (hd : decode bytes pc = .ok (.aload k, 2)) (hl : Ls[k]? = some (.val v)) (hv : v.isRef = true) (hp : pc + 2 = pc') (K : Wp p l e R s m args below meth c n0 cM sM Q h cells slots (mkF m pc' Ls (v :: st))) :
    Wp p l e R s m args below meth c n0 cM sM Q h cells slots (mkF m pc Ls st) := by
  subst hp; exact Wp.pure (fun T t X hr => XS.aload X C.1 rfl (hb C.2.1 hd) hl hv hr) K
theorem w_istoreN (C : Cx p s m meth c Z own bytes ml rt nm) {pc pc' : Nat} {Ls : Array Slot} {st : List Value} {k : Fin 4} {x : Int32} {Ls' : Array Slot} (hd : decode bytes pc = .ok (.istore_n k, 1)) (hl : storeLocals Ls k.val (.int x) = some Ls') (hp : pc + 1 = pc') (K : Wp p l e R s m args below meth c n0 cM sM Q h cells slots (mkF m pc' Ls' st)) :
    Wp p l e R s m args below meth c n0 cM sM Q h cells slots (mkF m pc Ls (.int x :: st)) := by
  subst hp; exact Wp.pure (fun T t X hr => XS.istoreN X C.1 rfl (hb C.2.1 hd) rfl hl hr) K
theorem w_istore (C : Cx p s m meth c Z own bytes ml rt nm) {pc pc' : Nat} {Ls : Array Slot} {st : List Value} {k : Nat} {x : Int32} {Ls' : Array Slot} (hd : decode bytes pc = .ok (.istore k, 2)) (hl : storeLocals Ls k (.int x) = some Ls') (hp : pc + 2 = pc') (K : Wp p l e R s m args below meth c n0 cM sM Q h cells slots (mkF m pc' Ls' st)) :
    Wp p l e R s m args below meth c n0 cM sM Q h cells slots (mkF m pc Ls (.int x :: st)) := by
  subst hp; exact Wp.pure (fun T t X hr => XS.istore X C.1 rfl (hb C.2.1 hd) rfl hl hr) K
theorem w_lstoreN (C : Cx p s m meth c Z own bytes ml rt nm) {pc pc' : Nat} {Ls : Array Slot} {st : List Value} {k : Fin 4} {x : Int64} {Ls' : Array Slot} (hd : decode bytes pc = .ok (.lstore_n k, 1)) (hl : storeLocals Ls k.val (.long x) = some Ls') (hp : pc + 1 = pc') (K : Wp p l e R s m args below meth c n0 cM sM Q h cells slots (mkF m pc' Ls' st)) :
    Wp p l e R s m args below meth c n0 cM sM Q h cells slots (mkF m pc Ls (.long x :: st)) := by
  subst hp; exact Wp.pure (fun T t X hr => XS.lstoreN X C.1 rfl (hb C.2.1 hd) rfl hl hr) K
theorem w_lstore (C : Cx p s m meth c Z own bytes ml rt nm) {pc pc' : Nat} {Ls : Array Slot} {st : List Value} {k : Nat} {x : Int64} {Ls' : Array Slot} (hd : decode bytes pc = .ok (.lstore k, 2)) (hl : storeLocals Ls k (.long x) = some Ls') (hp : pc + 2 = pc') (K : Wp p l e R s m args below meth c n0 cM sM Q h cells slots (mkF m pc' Ls' st)) :
    Wp p l e R s m args below meth c n0 cM sM Q h cells slots (mkF m pc Ls (.long x :: st)) := by
  subst hp; exact Wp.pure (fun T t X hr => XS.lstore X C.1 rfl (hb C.2.1 hd) rfl hl hr) K
theorem w_astoreN (C : Cx p s m meth c Z own bytes ml rt nm) {pc pc' : Nat} {Ls : Array Slot} {st : List Value} {k : Fin 4} {v : Value} {Ls' : Array Slot} (hd : decode bytes pc = .ok (.astore_n k, 1)) (hv : v.isRef = true) (hl : storeLocals Ls k.val v = some Ls') (hp : pc + 1 = pc') (K : Wp p l e R s m args below meth c n0 cM sM Q h cells slots (mkF m pc' Ls' st)) :
    Wp p l e R s m args below meth c n0 cM sM Q h cells slots (mkF m pc Ls (v :: st)) := by
  subst hp; exact Wp.pure (fun T t X hr => XS.astoreN X C.1 rfl (hb C.2.1 hd) rfl hv hl hr) K
theorem w_astore (C : Cx p s m meth c Z own bytes ml rt nm) {pc pc' : Nat} {Ls : Array Slot} {st : List Value} {k : Nat} {v : Value} {Ls' : Array Slot} (hd : decode bytes pc = .ok (.astore k, 2)) (hv : v.isRef = true) (hl : storeLocals Ls k v = some Ls') (hp : pc + 2 = pc') (K : Wp p l e R s m args below meth c n0 cM sM Q h cells slots (mkF m pc' Ls' st)) :
    Wp p l e R s m args below meth c n0 cM sM Q h cells slots (mkF m pc Ls (v :: st)) := by
  subst hp; exact Wp.pure (fun T t X hr => XS.astore X C.1 rfl (hb C.2.1 hd) rfl hv hl hr) K
theorem w_iinc (C : Cx p s m meth c Z own bytes ml rt nm) {pc pc' : Nat} {Ls : Array Slot} {st : List Value} {k : Nat} {cst : Int} {x : Int32} {Ls' : Array Slot} (hd : decode bytes pc = .ok (.iinc k cst, 3)) (hx : Ls[k]? = some (.val (.int x))) (hl : storeLocals Ls k (.int (x + Int32.ofInt cst)) = some Ls') (hp : pc + 3 = pc') (K : Wp p l e R s m args below meth c n0 cM sM Q h cells slots (mkF m pc' Ls' st)) :
    Wp p l e R s m args below meth c n0 cM sM Q h cells slots (mkF m pc Ls st) := by
  subst hp; exact Wp.pure (fun T t X hr => XS.iinc X C.1 rfl (hb C.2.1 hd) hx hl hr) K
theorem w_iconst (C : Cx p s m meth c Z own bytes ml rt nm) {pc pc' : Nat} {Ls : Array Slot} {st : List Value} {i : Int} {x : Int32} (hd : decode bytes pc = .ok (.iconst i, 1)) (hx : Int32.ofInt i = x) (hp : pc + 1 = pc') (K : Wp p l e R s m args below meth c n0 cM sM Q h cells slots (mkF m pc' Ls (.int x :: st))) :
    Wp p l e R s m args below meth c n0 cM sM Q h cells slots (mkF m pc Ls st) := by
  subst hp hx; exact Wp.pure (fun T t X hr => XS.iconst X C.1 rfl (hb C.2.1 hd) hr) K
theorem w_bipush (C : Cx p s m meth c Z own bytes ml rt nm) {pc pc' : Nat} {Ls : Array Slot} {st : List Value} {i : Int} {x : Int32} (hd : decode bytes pc = .ok (.bipush i, 2)) (hx : (Int8.ofInt i).toInt32 = x) (hp : pc + 2 = pc') (K : Wp p l e R s m args below meth c n0 cM sM Q h cells slots (mkF m pc' Ls (.int x :: st))) :
    Wp p l e R s m args below meth c n0 cM sM Q h cells slots (mkF m pc Ls st) := by
  subst hp hx; exact Wp.pure (fun T t X hr => XS.bipush X C.1 rfl (hb C.2.1 hd) hr) K
theorem w_sipush (C : Cx p s m meth c Z own bytes ml rt nm) {pc pc' : Nat} {Ls : Array Slot} {st : List Value} {i : Int} {x : Int32} (hd : decode bytes pc = .ok (.sipush i, 3)) (hx : (Int16.ofInt i).toInt32 = x) (hp : pc + 3 = pc') (K : Wp p l e R s m args below meth c n0 cM sM Q h cells slots (mkF m pc' Ls (.int x :: st))) :
    Wp p l e R s m args below meth c n0 cM sM Q h cells slots (mkF m pc Ls st) := by
  subst hp hx; exact Wp.pure (fun T t X hr => XS.sipush X C.1 rfl (hb C.2.1 hd) hr) K
theorem w_lconst (C : Cx p s m meth c Z own bytes ml rt nm) {pc pc' : Nat} {Ls : Array Slot} {st : List Value} {k : Fin 2} {x : Int64} (hd : decode bytes pc = .ok (.lconst k, 1)) (hx : Int64.ofNat k = x) (hp : pc + 1 = pc') (K : Wp p l e R s m args below meth c n0 cM sM Q h cells slots (mkF m pc' Ls (.long x :: st))) :
    Wp p l e R s m args below meth c n0 cM sM Q h cells slots (mkF m pc Ls st) := by
  subst hp hx; exact Wp.pure (fun T t X hr => XS.lconst X C.1 rfl (hb C.2.1 hd) hr) K
theorem w_aconstNull (C : Cx p s m meth c Z own bytes ml rt nm) {pc pc' : Nat} {Ls : Array Slot} {st : List Value}  (hd : decode bytes pc = .ok (.aconst_null, 1))  (hp : pc + 1 = pc') (K : Wp p l e R s m args below meth c n0 cM sM Q h cells slots (mkF m pc' Ls (.null :: st))) :
    Wp p l e R s m args below meth c n0 cM sM Q h cells slots (mkF m pc Ls st) := by
  subst hp; exact Wp.pure (fun T t X hr => XS.aconstNull X C.1 rfl (hb C.2.1 hd)  hr) K
theorem w_iadd (C : Cx p s m meth c Z own bytes ml rt nm) {pc pc' : Nat} {Ls : Array Slot} {st : List Value} {x y : Int32} (hd : decode bytes pc = .ok (.iadd, 1))  (hp : pc + 1 = pc') (K : Wp p l e R s m args below meth c n0 cM sM Q h cells slots (mkF m pc' Ls (.int (x + y) :: st))) :
    Wp p l e R s m args below meth c n0 cM sM Q h cells slots (mkF m pc Ls (.int y :: .int x :: st)) := by
  subst hp; exact Wp.pure (fun T t X hr => XS.iadd X C.1 rfl (hb C.2.1 hd) rfl hr) K
theorem w_isub (C : Cx p s m meth c Z own bytes ml rt nm) {pc pc' : Nat} {Ls : Array Slot} {st : List Value} {x y : Int32} (hd : decode bytes pc = .ok (.isub, 1))  (hp : pc + 1 = pc') (K : Wp p l e R s m args below meth c n0 cM sM Q h cells slots (mkF m pc' Ls (.int (x - y) :: st))) :
    Wp p l e R s m args below meth c n0 cM sM Q h cells slots (mkF m pc Ls (.int y :: .int x :: st)) := by
  subst hp; exact Wp.pure (fun T t X hr => XS.isub X C.1 rfl (hb C.2.1 hd) rfl hr) K
theorem w_imul (C : Cx p s m meth c Z own bytes ml rt nm) {pc pc' : Nat} {Ls : Array Slot} {st : List Value} {x y : Int32} (hd : decode bytes pc = .ok (.imul, 1))  (hp : pc + 1 = pc') (K : Wp p l e R s m args below meth c n0 cM sM Q h cells slots (mkF m pc' Ls (.int (x * y) :: st))) :
    Wp p l e R s m args below meth c n0 cM sM Q h cells slots (mkF m pc Ls (.int y :: .int x :: st)) := by
  subst hp; exact Wp.pure (fun T t X hr => XS.imul X C.1 rfl (hb C.2.1 hd) rfl hr) K
theorem w_iand (C : Cx p s m meth c Z own bytes ml rt nm) {pc pc' : Nat} {Ls : Array Slot} {st : List Value} {x y : Int32} (hd : decode bytes pc = .ok (.iand, 1))  (hp : pc + 1 = pc') (K : Wp p l e R s m args below meth c n0 cM sM Q h cells slots (mkF m pc' Ls (.int (x &&& y) :: st))) :
    Wp p l e R s m args below meth c n0 cM sM Q h cells slots (mkF m pc Ls (.int y :: .int x :: st)) := by
  subst hp; exact Wp.pure (fun T t X hr => XS.iand X C.1 rfl (hb C.2.1 hd) rfl hr) K
theorem w_ior (C : Cx p s m meth c Z own bytes ml rt nm) {pc pc' : Nat} {Ls : Array Slot} {st : List Value} {x y : Int32} (hd : decode bytes pc = .ok (.ior, 1))  (hp : pc + 1 = pc') (K : Wp p l e R s m args below meth c n0 cM sM Q h cells slots (mkF m pc' Ls (.int (x ||| y) :: st))) :
    Wp p l e R s m args below meth c n0 cM sM Q h cells slots (mkF m pc Ls (.int y :: .int x :: st)) := by
  subst hp; exact Wp.pure (fun T t X hr => XS.ior X C.1 rfl (hb C.2.1 hd) rfl hr) K
theorem w_ixor (C : Cx p s m meth c Z own bytes ml rt nm) {pc pc' : Nat} {Ls : Array Slot} {st : List Value} {x y : Int32} (hd : decode bytes pc = .ok (.ixor, 1))  (hp : pc + 1 = pc') (K : Wp p l e R s m args below meth c n0 cM sM Q h cells slots (mkF m pc' Ls (.int (x ^^^ y) :: st))) :
    Wp p l e R s m args below meth c n0 cM sM Q h cells slots (mkF m pc Ls (.int y :: .int x :: st)) := by
  subst hp; exact Wp.pure (fun T t X hr => XS.ixor X C.1 rfl (hb C.2.1 hd) rfl hr) K
theorem w_ishl (C : Cx p s m meth c Z own bytes ml rt nm) {pc pc' : Nat} {Ls : Array Slot} {st : List Value} {x y : Int32} (hd : decode bytes pc = .ok (.ishl, 1))  (hp : pc + 1 = pc') (K : Wp p l e R s m args below meth c n0 cM sM Q h cells slots (mkF m pc' Ls (.int (x <<< (y &&& 31)) :: st))) :
    Wp p l e R s m args below meth c n0 cM sM Q h cells slots (mkF m pc Ls (.int y :: .int x :: st)) := by
  subst hp; exact Wp.pure (fun T t X hr => XS.ishl X C.1 rfl (hb C.2.1 hd) rfl hr) K
theorem w_ishr (C : Cx p s m meth c Z own bytes ml rt nm) {pc pc' : Nat} {Ls : Array Slot} {st : List Value} {x y : Int32} (hd : decode bytes pc = .ok (.ishr, 1))  (hp : pc + 1 = pc') (K : Wp p l e R s m args below meth c n0 cM sM Q h cells slots (mkF m pc' Ls (.int (x >>> (y &&& 31)) :: st))) :
    Wp p l e R s m args below meth c n0 cM sM Q h cells slots (mkF m pc Ls (.int y :: .int x :: st)) := by
  subst hp; exact Wp.pure (fun T t X hr => XS.ishr X C.1 rfl (hb C.2.1 hd) rfl hr) K
theorem w_iushr (C : Cx p s m meth c Z own bytes ml rt nm) {pc pc' : Nat} {Ls : Array Slot} {st : List Value} {x y : Int32} (hd : decode bytes pc = .ok (.iushr, 1))  (hp : pc + 1 = pc') (K : Wp p l e R s m args below meth c n0 cM sM Q h cells slots (mkF m pc' Ls (.int ((x.toUInt32 >>> (y &&& 31).toUInt32).toInt32) :: st))) :
    Wp p l e R s m args below meth c n0 cM sM Q h cells slots (mkF m pc Ls (.int y :: .int x :: st)) := by
  subst hp; exact Wp.pure (fun T t X hr => XS.iushr X C.1 rfl (hb C.2.1 hd) rfl hr) K
theorem w_ladd (C : Cx p s m meth c Z own bytes ml rt nm) {pc pc' : Nat} {Ls : Array Slot} {st : List Value} {x y : Int64} (hd : decode bytes pc = .ok (.ladd, 1))  (hp : pc + 1 = pc') (K : Wp p l e R s m args below meth c n0 cM sM Q h cells slots (mkF m pc' Ls (.long (x + y) :: st))) :
    Wp p l e R s m args below meth c n0 cM sM Q h cells slots (mkF m pc Ls (.long y :: .long x :: st)) := by
  subst hp; exact Wp.pure (fun T t X hr => XS.ladd X C.1 rfl (hb C.2.1 hd) rfl hr) K
theorem w_lsub (C : Cx p s m meth c Z own bytes ml rt nm) {pc pc' : Nat} {Ls : Array Slot} {st : List Value} {x y : Int64} (hd : decode bytes pc = .ok (.lsub, 1))  (hp : pc + 1 = pc') (K : Wp p l e R s m args below meth c n0 cM sM Q h cells slots (mkF m pc' Ls (.long (x - y) :: st))) :
    Wp p l e R s m args below meth c n0 cM sM Q h cells slots (mkF m pc Ls (.long y :: .long x :: st)) := by
  subst hp; exact Wp.pure (fun T t X hr => XS.lsub X C.1 rfl (hb C.2.1 hd) rfl hr) K
theorem w_lmul (C : Cx p s m meth c Z own bytes ml rt nm) {pc pc' : Nat} {Ls : Array Slot} {st : List Value} {x y : Int64} (hd : decode bytes pc = .ok (.lmul, 1))  (hp : pc + 1 = pc') (K : Wp p l e R s m args below meth c n0 cM sM Q h cells slots (mkF m pc' Ls (.long (x * y) :: st))) :
    Wp p l e R s m args below meth c n0 cM sM Q h cells slots (mkF m pc Ls (.long y :: .long x :: st)) := by
  subst hp; exact Wp.pure (fun T t X hr => XS.lmul X C.1 rfl (hb C.2.1 hd) rfl hr) K
theorem w_land (C : Cx p s m meth c Z own bytes ml rt nm) {pc pc' : Nat} {Ls : Array Slot} {st : List Value} {x y : Int64} (hd : decode bytes pc = .ok (.land, 1))  (hp : pc + 1 = pc') (K : Wp p l e R s m args below meth c n0 cM sM Q h cells slots (mkF m pc' Ls (.long (x &&& y) :: st))) :
    Wp p l e R s m args below meth c n0 cM sM Q h cells slots (mkF m pc Ls (.long y :: .long x :: st)) := by
  subst hp; exact Wp.pure (fun T t X hr => XS.land X C.1 rfl (hb C.2.1 hd) rfl hr) K
theorem w_lor (C : Cx p s m meth c Z own bytes ml rt nm) {pc pc' : Nat} {Ls : Array Slot} {st : List Value} {x y : Int64} (hd : decode bytes pc = .ok (.lor, 1))  (hp : pc + 1 = pc') (K : Wp p l e R s m args below meth c n0 cM sM Q h cells slots (mkF m pc' Ls (.long (x ||| y) :: st))) :
    Wp p l e R s m args below meth c n0 cM sM Q h cells slots (mkF m pc Ls (.long y :: .long x :: st)) := by
  subst hp; exact Wp.pure (fun T t X hr => XS.lor X C.1 rfl (hb C.2.1 hd) rfl hr) K
theorem w_lxor (C : Cx p s m meth c Z own bytes ml rt nm) {pc pc' : Nat} {Ls : Array Slot} {st : List Value} {x y : Int64} (hd : decode bytes pc = .ok (.lxor, 1))  (hp : pc + 1 = pc') (K : Wp p l e R s m args below meth c n0 cM sM Q h cells slots (mkF m pc' Ls (.long (x ^^^ y) :: st))) :
    Wp p l e R s m args below meth c n0 cM sM Q h cells slots (mkF m pc Ls (.long y :: .long x :: st)) := by
  subst hp; exact Wp.pure (fun T t X hr => XS.lxor X C.1 rfl (hb C.2.1 hd) rfl hr) K
theorem w_lshl (C : Cx p s m meth c Z own bytes ml rt nm) {pc pc' : Nat} {Ls : Array Slot} {st : List Value} {x : Int64} {y : Int32} (hd : decode bytes pc = .ok (.lshl, 1))  (hp : pc + 1 = pc') (K : Wp p l e R s m args below meth c n0 cM sM Q h cells slots (mkF m pc' Ls (.long (x <<< (y &&& 0x3f).toInt64) :: st))) :
    Wp p l e R s m args below meth c n0 cM sM Q h cells slots (mkF m pc Ls (.int y :: .long x :: st)) := by
  subst hp; exact Wp.pure (fun T t X hr => XS.lshl X C.1 rfl (hb C.2.1 hd) rfl hr) K
theorem w_lshr (C : Cx p s m meth c Z own bytes ml rt nm) {pc pc' : Nat} {Ls : Array Slot} {st : List Value} {x : Int64} {y : Int32} (hd : decode bytes pc = .ok (.lshr, 1))  (hp : pc + 1 = pc') (K : Wp p l e R s m args below meth c n0 cM sM Q h cells slots (mkF m pc' Ls (.long (x >>> (y &&& 0x3f).toInt64) :: st))) :
    Wp p l e R s m args below meth c n0 cM sM Q h cells slots (mkF m pc Ls (.int y :: .long x :: st)) := by
  subst hp; exact Wp.pure (fun T t X hr => XS.lshr X C.1 rfl (hb C.2.1 hd) rfl hr) K
theorem w_lushr (C : Cx p s m meth c Z own bytes ml rt nm) {pc pc' : Nat} {Ls : Array Slot} {st : List Value} {x : Int64} {y : Int32} (hd : decode bytes pc = .ok (.lushr, 1))  (hp : pc + 1 = pc') (K : Wp p l e R s m args below meth c n0 cM sM Q h cells slots (mkF m pc' Ls (.long ((x.toUInt64 >>> (y &&& 0x3f).toInt64.toUInt64).toInt64) :: st))) :
    Wp p l e R s m args below meth c n0 cM sM Q h cells slots (mkF m pc Ls (.int y :: .long x :: st)) := by
  subst hp; exact Wp.pure (fun T t X hr => XS.lushr X C.1 rfl (hb C.2.1 hd) rfl hr) K
theorem w_idiv (C : Cx p s m meth c Z own bytes ml rt nm) {pc pc' : Nat} {Ls : Array Slot} {st : List Value} {x y : Int32} (hd : decode bytes pc = .ok (.idiv, 1)) (hy : y ≠ 0) (hp : pc + 1 = pc') (K : Wp p l e R s m args below meth c n0 cM sM Q h cells slots (mkF m pc' Ls (.int (x / y) :: st))) :
    Wp p l e R s m args below meth c n0 cM sM Q h cells slots (mkF m pc Ls (.int y :: .int x :: st)) := by
  subst hp; exact Wp.pure (fun T t X hr => XS.idiv X C.1 rfl (hb C.2.1 hd) rfl hy hr) K
theorem w_ldiv (C : Cx p s m meth c Z own bytes ml rt nm) {pc pc' : Nat} {Ls : Array Slot} {st : List Value} {x y : Int64} (hd : decode bytes pc = .ok (.ldiv, 1)) (hy : y ≠ 0) (hp : pc + 1 = pc') (K : Wp p l e R s m args below meth c n0 cM sM Q h cells slots (mkF m pc' Ls (.long (x / y) :: st))) :
    Wp p l e R s m args below meth c n0 cM sM Q h cells slots (mkF m pc Ls (.long y :: .long x :: st)) := by
  subst hp; exact Wp.pure (fun T t X hr => XS.ldiv X C.1 rfl (hb C.2.1 hd) rfl hy hr) K
theorem w_irem (C : Cx p s m meth c Z own bytes ml rt nm) {pc pc' : Nat} {Ls : Array Slot} {st : List Value} {x y : Int32} (hd : decode bytes pc = .ok (.irem, 1)) (hy : y ≠ 0) (hp : pc + 1 = pc') (K : Wp p l e R s m args below meth c n0 cM sM Q h cells slots (mkF m pc' Ls (.int (x % y) :: st))) :
    Wp p l e R s m args below meth c n0 cM sM Q h cells slots (mkF m pc Ls (.int y :: .int x :: st)) := by
  subst hp; exact Wp.pure (fun T t X hr => XS.irem X C.1 rfl (hb C.2.1 hd) rfl hy (by rw [irem_eq_mod x y]; exact hr)) K
theorem w_lrem (C : Cx p s m meth c Z own bytes ml rt nm) {pc pc' : Nat} {Ls : Array Slot} {st : List Value} {x y : Int64} (hd : decode bytes pc = .ok (.lrem, 1)) (hy : y ≠ 0) (hp : pc + 1 = pc') (K : Wp p l e R s m args below meth c n0 cM sM Q h cells slots (mkF m pc' Ls (.long (x % y) :: st))) :
    Wp p l e R s m args below meth c n0 cM sM Q h cells slots (mkF m pc Ls (.long y :: .long x :: st)) := by
  subst hp; exact Wp.pure (fun T t X hr => XS.lrem X C.1 rfl (hb C.2.1 hd) rfl hy (by rw [lrem_mod x y]; exact hr)) K
theorem w_ineg (C : Cx p s m meth c Z own bytes ml rt nm) {pc pc' : Nat} {Ls : Array Slot} {st : List Value} {x : Int32} (hd : decode bytes pc = .ok (.ineg, 1))  (hp : pc + 1 = pc') (K : Wp p l e R s m args below meth c n0 cM sM Q h cells slots (mkF m pc' Ls (.int (-x) :: st))) :
    Wp p l e R s m args below meth c n0 cM sM Q h cells slots (mkF m pc Ls (.int x :: st)) := by
  subst hp; exact Wp.pure (fun T t X hr => XS.ineg X C.1 rfl (hb C.2.1 hd) rfl hr) K
theorem w_lneg (C : Cx p s m meth c Z own bytes ml rt nm) {pc pc' : Nat} {Ls : Array Slot} {st : List Value} {x : Int64} (hd : decode bytes pc = .ok (.lneg, 1))  (hp : pc + 1 = pc') (K : Wp p l e R s m args below meth c n0 cM sM Q h cells slots (mkF m pc' Ls (.long (-x) :: st))) :
    Wp p l e R s m args below meth c n0 cM sM Q h cells slots (mkF m pc Ls (.long x :: st)) := by
  subst hp; exact Wp.pure (fun T t X hr => XS.lneg X C.1 rfl (hb C.2.1 hd) rfl hr) K
theorem w_i2l (C : Cx p s m meth c Z own bytes ml rt nm) {pc pc' : Nat} {Ls : Array Slot} {st : List Value} {x : Int32} (hd : decode bytes pc = .ok (.i2l, 1))  (hp : pc + 1 = pc') (K : Wp p l e R s m args below meth c n0 cM sM Q h cells slots (mkF m pc' Ls (.long x.toInt64 :: st))) :
    Wp p l e R s m args below meth c n0 cM sM Q h cells slots (mkF m pc Ls (.int x :: st)) := by
  subst hp; exact Wp.pure (fun T t X hr => XS.i2l X C.1 rfl (hb C.2.1 hd) rfl hr) K
theorem w_l2i (C : Cx p s m meth c Z own bytes ml rt nm) {pc pc' : Nat} {Ls : Array Slot} {st : List Value} {x : Int64} (hd : decode bytes pc = .ok (.l2i, 1))  (hp : pc + 1 = pc') (K : Wp p l e R s m args below meth c n0 cM sM Q h cells slots (mkF m pc' Ls (.int x.toInt32 :: st))) :
    Wp p l e R s m args below meth c n0 cM sM Q h cells slots (mkF m pc Ls (.long x :: st)) := by
  subst hp; exact Wp.pure (fun T t X hr => XS.l2i X C.1 rfl (hb C.2.1 hd) rfl hr) K
theorem w_i2b (C : Cx p s m meth c Z own bytes ml rt nm) {pc pc' : Nat} {Ls : Array Slot} {st : List Value} {x : Int32} (hd : decode bytes pc = .ok (.i2b, 1))  (hp : pc + 1 = pc') (K : Wp p l e R s m args below meth c n0 cM sM Q h cells slots (mkF m pc' Ls (.int x.toInt8.toInt32 :: st))) :
    Wp p l e R s m args below meth c n0 cM sM Q h cells slots (mkF m pc Ls (.int x :: st)) := by
  subst hp; exact Wp.pure (fun T t X hr => XS.i2b X C.1 rfl (hb C.2.1 hd) rfl hr) K
theorem w_i2s (C : Cx p s m meth c Z own bytes ml rt nm) {pc pc' : Nat} {Ls : Array Slot} {st : List Value} {x : Int32} (hd : decode bytes pc = .ok (.i2s, 1))  (hp : pc + 1 = pc') (K : Wp p l e R s m args below meth c n0 cM sM Q h cells slots (mkF m pc' Ls (.int x.toInt16.toInt32 :: st))) :
    Wp p l e R s m args below meth c n0 cM sM Q h cells slots (mkF m pc Ls (.int x :: st)) := by
  subst hp; exact Wp.pure (fun T t X hr => XS.i2s X C.1 rfl (hb C.2.1 hd) rfl hr) K
/-- i2c -/
def toCh (x : Int32) : Int32 := x.toUInt32.toUInt16.toUInt32.toInt32
theorem w_i2c (C : Cx p s m meth c Z own bytes ml rt nm) {pc pc' : Nat} {Ls : Array Slot} {st : List Value} {x : Int32} (hd : decode bytes pc = .ok (.i2c, 1))  (hp : pc + 1 = pc') (K : Wp p l e R s m args below meth c n0 cM sM Q h cells slots (mkF m pc' Ls (.int (toCh x) :: st))) :
    Wp p l e R s m args below meth c n0 cM sM Q h cells slots (mkF m pc Ls (.int x :: st)) := by
  subst hp; exact Wp.pure (fun T t X hr => XS.i2c X C.1 rfl (hb C.2.1 hd) rfl hr) K
/-- lcmp -/
def cmpJ (x y : Int64) : Int32 := if x > y then 1 else if x = y then 0 else -1
theorem w_lcmp (C : Cx p s m meth c Z own bytes ml rt nm) {pc pc' : Nat} {Ls : Array Slot} {st : List Value} {x y : Int64} (hd : decode bytes pc = .ok (.lcmp, 1))  (hp : pc + 1 = pc') (K : Wp p l e R s m args below meth c n0 cM sM Q h cells slots (mkF m pc' Ls (.int (cmpJ x y) :: st))) :
    Wp p l e R s m args below meth c n0 cM sM Q h cells slots (mkF m pc Ls (.long y :: .long x :: st)) := by
  subst hp; exact Wp.pure (fun T t X hr => XS.lcmp X C.1 rfl (hb C.2.1 hd) rfl hr) K
theorem w_dup (C : Cx p s m meth c Z own bytes ml rt nm) {pc pc' : Nat} {Ls : Array Slot} {st : List Value} {v : Value} (hd : decode bytes pc = .ok (.dup, 1)) (hc : v.category = 1) (hp : pc + 1 = pc') (K : Wp p l e R s m args below meth c n0 cM sM Q h cells slots (mkF m pc' Ls (v :: v :: st))) :
    Wp p l e R s m args below meth c n0 cM sM Q h cells slots (mkF m pc Ls (v :: st)) := by
  subst hp; exact Wp.pure (fun T t X hr => XS.dup X C.1 rfl (hb C.2.1 hd) rfl hc hr) K
theorem w_pop (C : Cx p s m meth c Z own bytes ml rt nm) {pc pc' : Nat} {Ls : Array Slot} {st : List Value} {v : Value} (hd : decode bytes pc = .ok (.pop, 1)) (hc : v.category = 1) (hp : pc + 1 = pc') (K : Wp p l e R s m args below meth c n0 cM sM Q h cells slots (mkF m pc' Ls st)) :
    Wp p l e R s m args below meth c n0 cM sM Q h cells slots (mkF m pc Ls (v :: st)) := by
  subst hp; exact Wp.pure (fun T t X hr => XS.pop X C.1 rfl (hb C.2.1 hd) rfl hc hr) K
theorem w_dupX1 (C : Cx p s m meth c Z own bytes ml rt nm) {pc pc' : Nat} {Ls : Array Slot} {st : List Value} {v w : Value} (hd : decode bytes pc = .ok (.dup_x1, 1)) (hc : v.category = 1) (hc' : w.category = 1) (hp : pc + 1 = pc') (K : Wp p l e R s m args below meth c n0 cM sM Q h cells slots (mkF m pc' Ls (v :: w :: v :: st))) :
    Wp p l e R s m args below meth c n0 cM sM Q h cells slots (mkF m pc Ls (v :: w :: st)) := by
  subst hp; exact Wp.pure (fun T t X hr => XS.dupX1 X C.1 rfl (hb C.2.1 hd) rfl hc hc' hr) K
theorem w_dup2 (C : Cx p s m meth c Z own bytes ml rt nm) {pc pc' : Nat} {Ls : Array Slot} {st : List Value} {v w : Value} (hd : decode bytes pc = .ok (.dup2, 1)) (hc : v.category = 1) (hc' : w.category = 1) (hp : pc + 1 = pc') (K : Wp p l e R s m args below meth c n0 cM sM Q h cells slots (mkF m pc' Ls (v :: w :: v :: w :: st))) :
    Wp p l e R s m args below meth c n0 cM sM Q h cells slots (mkF m pc Ls (v :: w :: st)) := by
  subst hp; exact Wp.pure (fun T t X hr => XT.dup2 X C.1 rfl (hb C.2.1 hd) rfl hc hc' hr) K
theorem w_eqI {pc : Nat} {Ls : Array Slot} {st : List Value} {x z : Int32} (hz : x = z) (K : Wp p l e R s m args below meth c n0 cM sM Q h cells slots (mkF m pc Ls (.int z :: st))) :
    Wp p l e R s m args below meth c n0 cM sM Q h cells slots (mkF m pc Ls (.int x :: st)) := by
  subst hz; exact K
theorem w_eqJ {pc : Nat} {Ls : Array Slot} {st : List Value} {x z : Int64} (hz : x = z) (K : Wp p l e R s m args below meth c n0 cM sM Q h cells slots (mkF m pc Ls (.long z :: st))) :
    Wp p l e R s m args below meth c n0 cM sM Q h cells slots (mkF m pc Ls (.long x :: st)) := by
  subst hz; exact K
theorem w_iincE (C : Cx p s m meth c Z own bytes ml rt nm) {pc pc' : Nat} {Ls Ls' : Array Slot} {st : List Value} {k : Nat} {cst : Int} {x z : Int32} (hd : decode bytes pc = .ok (.iinc k cst, 3)) (hx : Ls[k]? = some (.val (.int x))) (hz : x + Int32.ofInt cst = z) (hl : storeLocals Ls k (.int z) = some Ls') (hp : pc + 3 = pc') (K : Wp p l e R s m args below meth c n0 cM sM Q h cells slots (mkF m pc' Ls' st)) :
    Wp p l e R s m args below meth c n0 cM sM Q h cells slots (mkF m pc Ls st) := by
  subst hz; exact w_iinc C hd hx hl hp K
theorem w_goto (C : Cx p s m meth c Z own bytes ml rt nm) {pc pc' : Nat} {Ls : Array Slot} {st : List Value} {o : Int} (hd : decode bytes pc = .ok (.goto o, 3)) (ho : 0 ≤ (pc : Int) + o) (hp : ((pc : Int) + o).toNat = pc') (K : Wp p l e R s m args below meth c n0 cM sM Q h cells slots (mkF m pc' Ls st)) :
    Wp p l e R s m args below meth c n0 cM sM Q h cells slots (mkF m pc Ls st) :=
  Wp.pure (fun T t X hr => XS.goto X C.1 rfl rfl (hb C.2.1 hd) ho hp hr) K
theorem w_icmp_lt (C : Cx p s m meth c Z own bytes ml rt nm) {pc pcT pcF : Nat} {Ls : Array Slot} {st : List Value} {x y : Int32} {o : Int} (hd : decode bytes pc = .ok (.if_icmp .lt o, 3)) (ho : 0 ≤ (pc : Int) + o) (hT : ((pc : Int) + o).toNat = pcT) (hF : pc + 3 = pcF)
    (KT : x < y → Wp p l e R s m args below meth c n0 cM sM Q h cells slots (mkF m pcT Ls st)) (KF : ¬ x < y → Wp p l e R s m args below meth c n0 cM sM Q h cells slots (mkF m pcF Ls st)) :
    Wp p l e R s m args below meth c n0 cM sM Q h cells slots (mkF m pc Ls (.int y :: .int x :: st)) := by
  subst hF
  by_cases q : x < y
  · exact Wp.pure (fun T t X hr => XS.icmpYes X C.1 rfl rfl (hb C.2.1 hd) rfl (tlt q).1 ho hT hr) (KT q)
  · exact Wp.pure (fun T t X hr => XS.icmpNo X C.1 rfl (hb C.2.1 hd) rfl (flt q).1 hr) (KF q)
theorem w_if_lt (C : Cx p s m meth c Z own bytes ml rt nm) {pc pcT pcF : Nat} {Ls : Array Slot} {st : List Value} {x : Int32} {o : Int} (hd : decode bytes pc = .ok (.ifCond .lt o, 3)) (ho : 0 ≤ (pc : Int) + o) (hT : ((pc : Int) + o).toNat = pcT) (hF : pc + 3 = pcF)
    (KT : x < 0 → Wp p l e R s m args below meth c n0 cM sM Q h cells slots (mkF m pcT Ls st)) (KF : ¬ x < 0 → Wp p l e R s m args below meth c n0 cM sM Q h cells slots (mkF m pcF Ls st)) :
    Wp p l e R s m args below meth c n0 cM sM Q h cells slots (mkF m pc Ls (.int x :: st)) := by
  subst hF
  by_cases q : x < 0
  · exact Wp.pure (fun T t X hr => XS.ifYes X C.1 rfl rfl (hb C.2.1 hd) rfl ((if0 _ _).trans (tlt q).1) ho hT hr) (KT q)
  · exact Wp.pure (fun T t X hr => XS.ifNo X C.1 rfl (hb C.2.1 hd) rfl ((if0 _ _).trans (flt q).1) hr) (KF q)
theorem w_icmp_ge (C : Cx p s m meth c Z own bytes ml rt nm) {pc pcT pcF : Nat} {Ls : Array Slot} {st : List Value} {x y : Int32} {o : Int} (hd : decode bytes pc = .ok (.if_icmp .ge o, 3)) (ho : 0 ≤ (pc : Int) + o) (hT : ((pc : Int) + o).toNat = pcT) (hF : pc + 3 = pcF)
    (KT : ¬ x < y → Wp p l e R s m args below meth c n0 cM sM Q h cells slots (mkF m pcT Ls st)) (KF : x < y → Wp p l e R s m args below meth c n0 cM sM Q h cells slots (mkF m pcF Ls st)) :
    Wp p l e R s m args below meth c n0 cM sM Q h cells slots (mkF m pc Ls (.int y :: .int x :: st)) := by
  subst hF
  by_cases q : ¬ x < y
  · exact Wp.pure (fun T t X hr => XS.icmpYes X C.1 rfl rfl (hb C.2.1 hd) rfl (flt q).2.1 ho hT hr) (KT q)
  · exact Wp.pure (fun T t X hr => XS.icmpNo X C.1 rfl (hb C.2.1 hd) rfl (tlt (Classical.not_not.mp q)).2.1 hr) (KF (Classical.not_not.mp q))
theorem w_if_ge (C : Cx p s m meth c Z own bytes ml rt nm) {pc pcT pcF : Nat} {Ls : Array Slot} {st : List Value} {x : Int32} {o : Int} (hd : decode bytes pc = .ok (.ifCond .ge o, 3)) (ho : 0 ≤ (pc : Int) + o) (hT : ((pc : Int) + o).toNat = pcT) (hF : pc + 3 = pcF)
    (KT : ¬ x < 0 → Wp p l e R s m args below meth c n0 cM sM Q h cells slots (mkF m pcT Ls st)) (KF : x < 0 → Wp p l e R s m args below meth c n0 cM sM Q h cells slots (mkF m pcF Ls st)) :
    Wp p l e R s m args below meth c n0 cM sM Q h cells slots (mkF m pc Ls (.int x :: st)) := by
  subst hF
  by_cases q : ¬ x < 0
  · exact Wp.pure (fun T t X hr => XS.ifYes X C.1 rfl rfl (hb C.2.1 hd) rfl ((if0 _ _).trans (flt q).2.1) ho hT hr) (KT q)
  · exact Wp.pure (fun T t X hr => XS.ifNo X C.1 rfl (hb C.2.1 hd) rfl ((if0 _ _).trans (tlt (Classical.not_not.mp q)).2.1) hr) (KF (Classical.not_not.mp q))
theorem w_icmp_gt (C : Cx p s m meth c Z own bytes ml rt nm) {pc pcT pcF : Nat} {Ls : Array Slot} {st : List Value} {x y : Int32} {o : Int} (hd : decode bytes pc = .ok (.if_icmp .gt o, 3)) (ho : 0 ≤ (pc : Int) + o) (hT : ((pc : Int) + o).toNat = pcT) (hF : pc + 3 = pcF)
    (KT : y < x → Wp p l e R s m args below meth c n0 cM sM Q h cells slots (mkF m pcT Ls st)) (KF : ¬ y < x → Wp p l e R s m args below meth c n0 cM sM Q h cells slots (mkF m pcF Ls st)) :
    Wp p l e R s m args below meth c n0 cM sM Q h cells slots (mkF m pc Ls (.int y :: .int x :: st)) := by
  subst hF
  by_cases q : y < x
  · exact Wp.pure (fun T t X hr => XS.icmpYes X C.1 rfl rfl (hb C.2.1 hd) rfl (tlt q).2.2.1 ho hT hr) (KT q)
  · exact Wp.pure (fun T t X hr => XS.icmpNo X C.1 rfl (hb C.2.1 hd) rfl (flt q).2.2.1 hr) (KF q)
theorem w_if_gt (C : Cx p s m meth c Z own bytes ml rt nm) {pc pcT pcF : Nat} {Ls : Array Slot} {st : List Value} {x : Int32} {o : Int} (hd : decode bytes pc = .ok (.ifCond .gt o, 3)) (ho : 0 ≤ (pc : Int) + o) (hT : ((pc : Int) + o).toNat = pcT) (hF : pc + 3 = pcF)
    (KT : 0 < x → Wp p l e R s m args below meth c n0 cM sM Q h cells slots (mkF m pcT Ls st)) (KF : ¬ 0 < x → Wp p l e R s m args below meth c n0 cM sM Q h cells slots (mkF m pcF Ls st)) :
    Wp p l e R s m args below meth c n0 cM sM Q h cells slots (mkF m pc Ls (.int x :: st)) := by
  subst hF
  by_cases q : 0 < x
  · exact Wp.pure (fun T t X hr => XS.ifYes X C.1 rfl rfl (hb C.2.1 hd) rfl ((if0 _ _).trans (tlt q).2.2.1) ho hT hr) (KT q)
  · exact Wp.pure (fun T t X hr => XS.ifNo X C.1 rfl (hb C.2.1 hd) rfl ((if0 _ _).trans (flt q).2.2.1) hr) (KF q)
theorem w_icmp_le (C : Cx p s m meth c Z own bytes ml rt nm) {pc pcT pcF : Nat} {Ls : Array Slot} {st : List Value} {x y : Int32} {o : Int} (hd : decode bytes pc = .ok (.if_icmp .le o, 3)) (ho : 0 ≤ (pc : Int) + o) (hT : ((pc : Int) + o).toNat = pcT) (hF : pc + 3 = pcF)
    (KT : ¬ y < x → Wp p l e R s m args below meth c n0 cM sM Q h cells slots (mkF m pcT Ls st)) (KF : y < x → Wp p l e R s m args below meth c n0 cM sM Q h cells slots (mkF m pcF Ls st)) :
    Wp p l e R s m args below meth c n0 cM sM Q h cells slots (mkF m pc Ls (.int y :: .int x :: st)) := by
  subst hF
  by_cases q : ¬ y < x
  · exact Wp.pure (fun T t X hr => XS.icmpYes X C.1 rfl rfl (hb C.2.1 hd) rfl (flt q).2.2.2 ho hT hr) (KT q)
  · exact Wp.pure (fun T t X hr => XS.icmpNo X C.1 rfl (hb C.2.1 hd) rfl (tlt (Classical.not_not.mp q)).2.2.2 hr) (KF (Classical.not_not.mp q))
theorem w_if_le (C : Cx p s m meth c Z own bytes ml rt nm) {pc pcT pcF : Nat} {Ls : Array Slot} {st : List Value} {x : Int32} {o : Int} (hd : decode bytes pc = .ok (.ifCond .le o, 3)) (ho : 0 ≤ (pc : Int) + o) (hT : ((pc : Int) + o).toNat = pcT) (hF : pc + 3 = pcF)
    (KT : ¬ 0 < x → Wp p l e R s m args below meth c n0 cM sM Q h cells slots (mkF m pcT Ls st)) (KF : 0 < x → Wp p l e R s m args below meth c n0 cM sM Q h cells slots (mkF m pcF Ls st)) :
    Wp p l e R s m args below meth c n0 cM sM Q h cells slots (mkF m pc Ls (.int x :: st)) := by
  subst hF
  by_cases q : ¬ 0 < x
  · exact Wp.pure (fun T t X hr => XS.ifYes X C.1 rfl rfl (hb C.2.1 hd) rfl ((if0 _ _).trans (flt q).2.2.2) ho hT hr) (KT q)
  · exact Wp.pure (fun T t X hr => XS.ifNo X C.1 rfl (hb C.2.1 hd) rfl ((if0 _ _).trans (tlt (Classical.not_not.mp q)).2.2.2) hr) (KF (Classical.not_not.mp q))
theorem w_icmp_eq (C : Cx p s m meth c Z own bytes ml rt nm) {pc pcT pcF : Nat} {Ls : Array Slot} {st : List Value} {x y : Int32} {o : Int} (hd : decode bytes pc = .ok (.if_icmp .eq o, 3)) (ho : 0 ≤ (pc : Int) + o) (hT : ((pc : Int) + o).toNat = pcT) (hF : pc + 3 = pcF)
    (KT : x = y → Wp p l e R s m args below meth c n0 cM sM Q h cells slots (mkF m pcT Ls st)) (KF : ¬ x = y → Wp p l e R s m args below meth c n0 cM sM Q h cells slots (mkF m pcF Ls st)) :
    Wp p l e R s m args below meth c n0 cM sM Q h cells slots (mkF m pc Ls (.int y :: .int x :: st)) := by
  subst hF
  by_cases q : x = y
  · exact Wp.pure (fun T t X hr => XS.icmpYes X C.1 rfl rfl (hb C.2.1 hd) rfl (teq q).1 ho hT hr) (KT q)
  · exact Wp.pure (fun T t X hr => XS.icmpNo X C.1 rfl (hb C.2.1 hd) rfl (feq q).1 hr) (KF q)
theorem w_if_eq (C : Cx p s m meth c Z own bytes ml rt nm) {pc pcT pcF : Nat} {Ls : Array Slot} {st : List Value} {x : Int32} {o : Int} (hd : decode bytes pc = .ok (.ifCond .eq o, 3)) (ho : 0 ≤ (pc : Int) + o) (hT : ((pc : Int) + o).toNat = pcT) (hF : pc + 3 = pcF)
    (KT : x = 0 → Wp p l e R s m args below meth c n0 cM sM Q h cells slots (mkF m pcT Ls st)) (KF : ¬ x = 0 → Wp p l e R s m args below meth c n0 cM sM Q h cells slots (mkF m pcF Ls st)) :
    Wp p l e R s m args below meth c n0 cM sM Q h cells slots (mkF m pc Ls (.int x :: st)) := by
  subst hF
  by_cases q : x = 0
  · exact Wp.pure (fun T t X hr => XS.ifYes X C.1 rfl rfl (hb C.2.1 hd) rfl ((if0 _ _).trans (teq q).1) ho hT hr) (KT q)
  · exact Wp.pure (fun T t X hr => XS.ifNo X C.1 rfl (hb C.2.1 hd) rfl ((if0 _ _).trans (feq q).1) hr) (KF q)
theorem w_icmp_ne (C : Cx p s m meth c Z own bytes ml rt nm) {pc pcT pcF : Nat} {Ls : Array Slot} {st : List Value} {x y : Int32} {o : Int} (hd : decode bytes pc = .ok (.if_icmp .ne o, 3)) (ho : 0 ≤ (pc : Int) + o) (hT : ((pc : Int) + o).toNat = pcT) (hF : pc + 3 = pcF)
    (KT : ¬ x = y → Wp p l e R s m args below meth c n0 cM sM Q h cells slots (mkF m pcT Ls st)) (KF : x = y → Wp p l e R s m args below meth c n0 cM sM Q h cells slots (mkF m pcF Ls st)) :
    Wp p l e R s m args below meth c n0 cM sM Q h cells slots (mkF m pc Ls (.int y :: .int x :: st)) := by
  subst hF
  by_cases q : ¬ x = y
  · exact Wp.pure (fun T t X hr => XS.icmpYes X C.1 rfl rfl (hb C.2.1 hd) rfl (feq q).2 ho hT hr) (KT q)
  · exact Wp.pure (fun T t X hr => XS.icmpNo X C.1 rfl (hb C.2.1 hd) rfl (teq (Classical.not_not.mp q)).2 hr) (KF (Classical.not_not.mp q))
theorem w_if_ne (C : Cx p s m meth c Z own bytes ml rt nm) {pc pcT pcF : Nat} {Ls : Array Slot} {st : List Value} {x : Int32} {o : Int} (hd : decode bytes pc = .ok (.ifCond .ne o, 3)) (ho : 0 ≤ (pc : Int) + o) (hT : ((pc : Int) + o).toNat = pcT) (hF : pc + 3 = pcF)
    (KT : ¬ x = 0 → Wp p l e R s m args below meth c n0 cM sM Q h cells slots (mkF m pcT Ls st)) (KF : x = 0 → Wp p l e R s m args below meth c n0 cM sM Q h cells slots (mkF m pcF Ls st)) :
    Wp p l e R s m args below meth c n0 cM sM Q h cells slots (mkF m pc Ls (.int x :: st)) := by
  subst hF
  by_cases q : ¬ x = 0
  · exact Wp.pure (fun T t X hr => XS.ifYes X C.1 rfl rfl (hb C.2.1 hd) rfl ((if0 _ _).trans (feq q).2) ho hT hr) (KT q)
  · exact Wp.pure (fun T t X hr => XS.ifNo X C.1 rfl (hb C.2.1 hd) rfl ((if0 _ _).trans (teq (Classical.not_not.mp q)).2) hr) (KF (Classical.not_not.mp q))
theorem w_ifnull_null (C : Cx p s m meth c Z own bytes ml rt nm) {pc pc' : Nat} {Ls : Array Slot} {st : List Value}  {o : Int} (hd : decode bytes pc = .ok (.ifnull o, 3)) (ho : 0 ≤ (pc : Int) + o) (hp : ((pc : Int) + o).toNat = pc') (K : Wp p l e R s m args below meth c n0 cM sM Q h cells slots (mkF m pc' Ls st)) :
    Wp p l e R s m args below meth c n0 cM sM Q h cells slots (mkF m pc Ls (.null :: st)) :=
  Wp.pure (fun T t X hr => XS.ifnullYes X C.1 rfl rfl (hb C.2.1 hd) rfl ho hp hr) K
theorem w_ifnull_ref (C : Cx p s m meth c Z own bytes ml rt nm) {pc pc' : Nat} {Ls : Array Slot} {st : List Value} {b : Addr} {o : Int} (hd : decode bytes pc = .ok (.ifnull o, 3)) (hp : pc + 3 = pc') (K : Wp p l e R s m args below meth c n0 cM sM Q h cells slots (mkF m pc' Ls st)) :
    Wp p l e R s m args below meth c n0 cM sM Q h cells slots (mkF m pc Ls (.ref b :: st)) := by
  subst hp; exact Wp.pure (fun T t X hr => XS.ifnullNo X C.1 rfl (hb C.2.1 hd) rfl hr) K
theorem w_ifnonnull_ref (C : Cx p s m meth c Z own bytes ml rt nm) {pc pc' : Nat} {Ls : Array Slot} {st : List Value} {b : Addr} {o : Int} (hd : decode bytes pc = .ok (.ifnonnull o, 3)) (ho : 0 ≤ (pc : Int) + o) (hp : ((pc : Int) + o).toNat = pc') (K : Wp p l e R s m args below meth c n0 cM sM Q h cells slots (mkF m pc' Ls st)) :
    Wp p l e R s m args below meth c n0 cM sM Q h cells slots (mkF m pc Ls (.ref b :: st)) :=
  Wp.pure (fun T t X hr => XS.ifnonnullYes X C.1 rfl rfl (hb C.2.1 hd) rfl ho hp hr) K
theorem w_ifnonnull_null (C : Cx p s m meth c Z own bytes ml rt nm) {pc pc' : Nat} {Ls : Array Slot} {st : List Value}  {o : Int} (hd : decode bytes pc = .ok (.ifnonnull o, 3)) (hp : pc + 3 = pc') (K : Wp p l e R s m args below meth c n0 cM sM Q h cells slots (mkF m pc' Ls st)) :
    Wp p l e R s m args below meth c n0 cM sM Q h cells slots (mkF m pc Ls (.null :: st)) := by
  subst hp; exact Wp.pure (fun T t X hr => XS.ifnonnullNo X C.1 rfl (hb C.2.1 hd) rfl hr) K
theorem w_acmp_eq (C : Cx p s m meth c Z own bytes ml rt nm) {pc pcT pcF : Nat} {Ls : Array Slot} {st : List Value} {v w : Value} {o : Int} (hv : v.isRef = true) (hw : w.isRef = true) (hd : decode bytes pc = .ok (.if_acmp .eq o, 3)) (ho : 0 ≤ (pc : Int) + o) (hT : ((pc : Int) + o).toNat = pcT) (hF : pc + 3 = pcF)
    (KT : v = w → Wp p l e R s m args below meth c n0 cM sM Q h cells slots (mkF m pcT Ls st)) (KF : ¬ v = w → Wp p l e R s m args below meth c n0 cM sM Q h cells slots (mkF m pcF Ls st)) :
    Wp p l e R s m args below meth c n0 cM sM Q h cells slots (mkF m pc Ls (w :: v :: st)) := by
  intro T locs X e0 N
  by_cases q : v = w
  · obtain ⟨s2, u, L, a, r⟩ := KT q T locs X e0 N
    exact ⟨s2, u, L, Jvm.RoadKit.acmp (g := mkF m pc Ls (w :: v :: st)) X C.1 rfl hv hw (pc0 := pc) (same := true) rfl (hb C.2.1 hd) rfl (decide_eq_true q) ho (by simp [acV, hT, hF]) a, r⟩
  · obtain ⟨s2, u, L, a, r⟩ := KF q T locs X e0 N
    exact ⟨s2, u, L, Jvm.RoadKit.acmp (g := mkF m pc Ls (w :: v :: st)) X C.1 rfl hv hw (pc0 := pc) (same := false) rfl (hb C.2.1 hd) rfl (decide_eq_false q) ho (by simp [acV, hT, hF]) a, r⟩
theorem w_acmp_ne (C : Cx p s m meth c Z own bytes ml rt nm) {pc pcT pcF : Nat} {Ls : Array Slot} {st : List Value} {v w : Value} {o : Int} (hv : v.isRef = true) (hw : w.isRef = true) (hd : decode bytes pc = .ok (.if_acmp .ne o, 3)) (ho : 0 ≤ (pc : Int) + o) (hT : ((pc : Int) + o).toNat = pcT) (hF : pc + 3 = pcF)
    (KT : ¬ v = w → Wp p l e R s m args below meth c n0 cM sM Q h cells slots (mkF m pcT Ls st)) (KF : v = w → Wp p l e R s m args below meth c n0 cM sM Q h cells slots (mkF m pcF Ls st)) :
    Wp p l e R s m args below meth c n0 cM sM Q h cells slots (mkF m pc Ls (w :: v :: st)) := by
  intro T locs X e0 N
  by_cases q : v = w
  · obtain ⟨s2, u, L, a, r⟩ := KF q T locs X e0 N
    exact ⟨s2, u, L, Jvm.RoadKit.acmp (g := mkF m pc Ls (w :: v :: st)) X C.1 rfl hv hw (pc0 := pc) (same := true) rfl (hb C.2.1 hd) rfl (decide_eq_true q) ho (by simp [acV, hT, hF]) a, r⟩
  · obtain ⟨s2, u, L, a, r⟩ := KT q T locs X e0 N
    exact ⟨s2, u, L, Jvm.RoadKit.acmp (g := mkF m pc Ls (w :: v :: st)) X C.1 rfl hv hw (pc0 := pc) (same := false) rfl (hb C.2.1 hd) rfl (decide_eq_false q) ho (by simp [acV, hT, hF]) a, r⟩
theorem w_ldcI (C : Cx p s m meth c Z own bytes ml rt nm) {pc pc' : Nat} {Ls : Array Slot} {st : List Value} {i : Nat} {x : Int32} (w : (Jvm.Cond.constant own i x).before a0 Z = true) (hd : decode bytes pc = .ok (.ldc i, 2)) (hp : pc + 2 = pc') (K : Wp p l e R s m args below meth c n0 cM sM Q h cells slots (mkF m pc' Ls (.int x :: st))) :
    Wp p l e R s m args below meth c n0 cM sM Q h cells slots (mkF m pc Ls st) := by
  subst hp; intro T locs X e0 N
  obtain ⟨s2, v, L, a, r⟩ := K T locs X e0 N
  exact ⟨s2, v, L, X.ldcInt C.1 C.2.2.2.1 (mvT C.2.2.1 w) (g := mkF m pc Ls st) rfl (hb C.2.1 hd) _ a, r⟩
theorem w_ldcwI (C : Cx p s m meth c Z own bytes ml rt nm) {pc pc' : Nat} {Ls : Array Slot} {st : List Value} {i : Nat} {x : Int32} (w : (Jvm.Cond.constant own i x).before a0 Z = true) (hd : decode bytes pc = .ok (.ldc_w i, 3)) (hp : pc + 3 = pc') (K : Wp p l e R s m args below meth c n0 cM sM Q h cells slots (mkF m pc' Ls (.int x :: st))) :
    Wp p l e R s m args below meth c n0 cM sM Q h cells slots (mkF m pc Ls st) := by
  subst hp; intro T locs X e0 N
  obtain ⟨s2, v, L, a, r⟩ := K T locs X e0 N
  exact ⟨s2, v, L, X.ldcwInt C.1 C.2.2.2.1 (mvT C.2.2.1 w) (g := mkF m pc Ls st) rfl (hb C.2.1 hd) _ a, r⟩
theorem w_ldc2J (C : Cx p s m meth c Z own bytes ml rt nm) {pc pc' : Nat} {Ls : Array Slot} {st : List Value} {i : Nat} {x : Int64} (w : (Jvm.Cond.constantLong own i x).before a0 Z = true) (hd : decode bytes pc = .ok (.ldc2_w i, 3)) (hp : pc + 3 = pc') (K : Wp p l e R s m args below meth c n0 cM sM Q h cells slots (mkF m pc' Ls (.long x :: st))) :
    Wp p l e R s m args below meth c n0 cM sM Q h cells slots (mkF m pc Ls st) := by
  subst hp; intro T locs X e0 N
  obtain ⟨s2, v, L, a, r⟩ := K T locs X e0 N
  exact ⟨s2, v, L, X.ldc2Long C.1 C.2.2.2.1 (mvT C.2.2.1 w) (g := mkF m pc Ls st) rfl (hb C.2.1 hd) _ a, r⟩
theorem w_retN (C : Cx p s m meth c Z own bytes ml rt nm) {pc : Nat} {Ls : Array Slot} {st : List Value} {z : Int32} {t : FieldType} (hrt : rt = some t) (ht : t = .boolean ∨ t = .byte ∨ t = .char ∨ t = .short) (hd : decode bytes pc = .ok (.ireturn, 1)) (hc : cells ≤ cM) (hs : slots ≤ sM) (q : Q (some (.int (nar t z))) h) :
    Wp p l e R s m args below meth c n0 cM sM Q h cells slots (mkF m pc Ls (.int z :: st)) :=
  have hr : meth.sig.returnType = some t := C.2.2.2.2.2.1.trans hrt
  Wp.ret C (fun T fs locs X hl => retN X C.1 hr ht (hb C.2.1 hd) hl) (fun q => by rw [hr] at q; cases q) hc hs q
theorem narB0 : nar .boolean 0 = 0 := by decide
theorem narB1 : nar .boolean 1 = 1 := by decide
theorem w_retN' (C : Cx p s m meth c Z own bytes ml rt nm) {pc : Nat} {Ls : Array Slot} {st : List Value} {z z' : Int32} {t : FieldType} (hrt : rt = some t) (ht : t = .boolean ∨ t = .byte ∨ t = .char ∨ t = .short) (hd : decode bytes pc = .ok (.ireturn, 1)) (hc : cells ≤ cM) (hs : slots ≤ sM) (hz : nar t z = z') (q : Q (some (.int z')) h) :
    Wp p l e R s m args below meth c n0 cM sM Q h cells slots (mkF m pc Ls (.int z :: st)) := by
  subst hz; exact w_retN C hrt ht hd hc hs q
theorem ireturn_step {T : State} {locs : List Loc} (X : Stand p l e R s m args below meth c T locs cells slots) (hx : p.tables.exec = Jvm.exec) {pc : Nat} {Ls : Array Slot} {z : Int32} {rest : List Value} (hret : meth.sig.returnType = some .int) (hd : decode c.code pc = .ok (.ireturn, 1)) {fs : List Frame}
    (hl : ∀ (f : JFrame) (acts : List Action), f.method = m → f.locked = none → f.entered = [] → (doReturn e (T.setTop f) acts (some (.int z))).1 = T.setFrames fs) : Steps p.tables e below (T.setTop (mkF m pc Ls (.int z :: rest))) (T.setFrames fs) :=
  retOut X hx (t := .int) (i := .ireturn) hret rfl (Or.inl ⟨rfl, Or.inl rfl, _, rfl⟩) hd hl
theorem w_retI (C : Cx p s m meth c Z own bytes ml rt nm) {pc : Nat} {Ls : Array Slot} {st : List Value} {z : Int32} (hrt : rt = some .int) (hd : decode bytes pc = .ok (.ireturn, 1)) (hc : cells ≤ cM) (hs : slots ≤ sM) (q : Q (some (.int z)) h) :
    Wp p l e R s m args below meth c n0 cM sM Q h cells slots (mkF m pc Ls (.int z :: st)) :=
  have hr : meth.sig.returnType = some .int := C.2.2.2.2.2.1.trans hrt
  Wp.ret C (fun T fs locs X hl => ireturn_step X C.1 hr (hb C.2.1 hd) hl) (fun q => by rw [hr] at q; cases q) hc hs q
theorem w_retJ (C : Cx p s m meth c Z own bytes ml rt nm) {pc : Nat} {Ls : Array Slot} {st : List Value} {z : Int64} (hrt : rt = some .long) (hd : decode bytes pc = .ok (.lreturn, 1)) (hc : cells ≤ cM) (hs : slots ≤ sM) (q : Q (some (.long z)) h) :
    Wp p l e R s m args below meth c n0 cM sM Q h cells slots (mkF m pc Ls (.long z :: st)) :=
  have hr : meth.sig.returnType = some .long := C.2.2.2.2.2.1.trans hrt
  Wp.ret C (fun T fs locs X hl => retOut X C.1 (t := .long) (i := .lreturn) hr rfl (Or.inr (Or.inl ⟨rfl, rfl, _, rfl⟩)) (hb C.2.1 hd) hl) (fun q => by rw [hr] at q; cases q) hc hs q
theorem w_retA (C : Cx p s m meth c Z own bytes ml rt nm) {pc : Nat} {Ls : Array Slot} {st : List Value} {v : Value} {t : FieldType} (hrt : rt = some t) (ht : t.isReference = true) (hv : v.isRef = true) (hd : decode bytes pc = .ok (.areturn, 1)) (hc : cells ≤ cM) (hs : slots ≤ sM) (q : Q (some v) h) :
    Wp p l e R s m args below meth c n0 cM sM Q h cells slots (mkF m pc Ls (v :: st)) :=
  have hr : meth.sig.returnType = some t := C.2.2.2.2.2.1.trans hrt
  Wp.ret C (fun T fs locs X hl => retOut X C.1 (t := t) (i := .areturn) hr (by cases v <;> simp [Value.isRef] at hv <;> cases t <;> first | rfl | (simp [FieldType.isReference] at ht)) (Or.inr (Or.inr (Or.inr (Or.inr ⟨rfl, ht, hv⟩)))) (hb C.2.1 hd) hl) (fun q => by rw [hr] at q; cases q) hc hs q
theorem w_ret0 (C : Cx p s m meth c Z own bytes ml rt nm) {pc : Nat} {Ls : Array Slot} (hrt : rt = none) (hd : decode bytes pc = .ok (.return_, 1)) (hc : cells ≤ cM) (hs : slots ≤ sM) (q : Q none h) :
    Wp p l e R s m args below meth c n0 cM sM Q h cells slots (mkF m pc Ls []) :=
  have hr : meth.sig.returnType = none := C.2.2.2.2.2.1.trans hrt
  Wp.ret C (fun T fs locs X hl => X.returnOut C.1 hr (hb C.2.1 hd) hl) (fun _ => rfl) hc hs q
theorem w_getF (C : Cx p s m meth c Z own bytes ml rt nm) {pc pc' : Nat} {Ls : Array Slot} {st : List Value} {O n d : String} {i : Nat} {a : Addr} {v : Value} (w : (Jvm.Cond.fieldLink own i O n d).before a0 Z = true) (hd : decode bytes pc = .ok (.getfield i, 3)) (hp : pc + 3 = pc') (F : Fld Z h a O n d v) (K : Wp p l e R s m args below meth c n0 cM sM Q h cells slots (mkF m pc' Ls (v :: st))) :
    Wp p l e R s m args below meth c n0 cM sM Q h cells slots (mkF m pc Ls (.ref a :: st)) := by
  subst hp
  exact Wp.law (fun T locs X e0 => getF X C.1 C.2.2.1 C.2.2.2.1 (host := "") (Or.inl w) Via.refl e0 F (g := mkF m pc Ls (.ref a :: st)) rfl rfl (hb C.2.1 hd)) K
theorem w_getFN (C : Cx p s m meth c Z own bytes ml rt nm) {pc pc' : Nat} {Ls : Array Slot} {st : List Value} {O n d host : String} {i : Nat} {a : Addr} {v : Value} (w : (Jvm.Cond.fieldLinkNest own i O n d host).before a0 Z = true) (hd : decode bytes pc = .ok (.getfield i, 3)) (hp : pc + 3 = pc') (F : Fld Z h a O n d v) (K : Wp p l e R s m args below meth c n0 cM sM Q h cells slots (mkF m pc' Ls (v :: st))) :
    Wp p l e R s m args below meth c n0 cM sM Q h cells slots (mkF m pc Ls (.ref a :: st)) := by
  subst hp
  exact Wp.law (fun T locs X e0 => getF X C.1 C.2.2.1 C.2.2.2.1 (Or.inr w) Via.refl e0 F (g := mkF m pc Ls (.ref a :: st)) rfl rfl (hb C.2.1 hd)) K
theorem w_getS (C : Cx p s m meth c Z own bytes ml rt nm) {pc pc' : Nat} {Ls : Array Slot} {st : List Value} {O n d : String} {i : Nat} {v : Value} (w : (Jvm.Cond.fieldLink own i O n d).before a0 Z = true) (hd : decode bytes pc = .ok (.getstatic i, 3)) (hp : pc + 3 = pc') (F : Sta Z h O n d v) (K : Wp p l e R s m args below meth c n0 cM sM Q h cells slots (mkF m pc' Ls (v :: st))) :
    Wp p l e R s m args below meth c n0 cM sM Q h cells slots (mkF m pc Ls st) := by
  subst hp
  exact Wp.law (fun T locs X e0 => getS X C.1 C.2.2.1 C.2.2.2.1 (host := "") w Via.refl e0 F (g := mkF m pc Ls st) rfl (hb C.2.1 hd)) K
theorem w_putF (C : Cx p s m meth c Z own bytes ml rt nm) {pc pc' : Nat} {Ls : Array Slot} {st : List Value} {O n d Cl : String} {i kk : Nat} {a : Addr} {v old : Value} {ty : FieldType} (w : (Jvm.Cond.fieldLink own i O n d).before a0 Z = true) (L : (Jvm.Cond.lays Cl O n d).before a0 Z = true ∨ ((Jvm.Cond.laysFinal Cl O n d).before a0 Z = true ∧ own = O ∧ nm = "<init>")) (wi : (Jvm.Cond.instantiable Cl kk).before a0 Z = true)
    (hty : parseFieldDescriptor d = some ty) (hn : narrow ty v = v) (hf : fits ty v = true) (hd : decode bytes pc = .ok (.putfield i, 3)) (hp : pc + 3 = pc') (g0 : n0 ≤ a) (F : Fld Z h a O n d old) (E : Exa Z h a Cl)
    (K : ∀ h', Wr h h' a (Jvm.RoadKit.slotOf Z O n d) v → Wp p l e R s m args below meth c n0 cM sM Q h' cells slots (mkF m pc' Ls st)) :
    Wp p l e R s m args below meth c n0 cM sM Q h cells slots (mkF m pc Ls (v :: .ref a :: st)) := by
  subst hp
  intro T locs X e0 N
  obtain ⟨T', h', X', e', W, st'⟩ := putF X C.1 C.2.2.1 C.2.2.2.1 (host := "") (Or.inl w) Via.refl e0 F E (L.imp id fun q => ⟨q.1, q.2.1, C.2.2.2.2.2.2.1.trans q.2.2⟩) wi hty hn hf (g := mkF m pc Ls (v :: .ref a :: st)) rfl rfl (hb C.2.1 hd)
  obtain ⟨s2, u, Lc, x, r⟩ := K h' W T' _ X' e' (Fr.snoc X' N g0)
  exact ⟨s2, u, Lc, st' _ x, r⟩
theorem w_putFN (C : Cx p s m meth c Z own bytes ml rt nm) {pc pc' : Nat} {Ls : Array Slot} {st : List Value} {O n d Cl : String} {i kk : Nat} {a : Addr} {v old : Value} {ty : FieldType} {host : String} (w : (Jvm.Cond.fieldLinkNest own i O n d host).before a0 Z = true) (L : (Jvm.Cond.lays Cl O n d).before a0 Z = true ∨ ((Jvm.Cond.laysFinal Cl O n d).before a0 Z = true ∧ own = O ∧ nm = "<init>")) (wi : (Jvm.Cond.instantiable Cl kk).before a0 Z = true)
    (hty : parseFieldDescriptor d = some ty) (hn : narrow ty v = v) (hf : fits ty v = true) (hd : decode bytes pc = .ok (.putfield i, 3)) (hp : pc + 3 = pc') (g0 : n0 ≤ a) (F : Fld Z h a O n d old) (E : Exa Z h a Cl)
    (K : ∀ h', Wr h h' a (Jvm.RoadKit.slotOf Z O n d) v → Wp p l e R s m args below meth c n0 cM sM Q h' cells slots (mkF m pc' Ls st)) :
    Wp p l e R s m args below meth c n0 cM sM Q h cells slots (mkF m pc Ls (v :: .ref a :: st)) := by
  subst hp
  intro T locs X e0 N
  obtain ⟨T', h', X', e', W, st'⟩ := putF X C.1 C.2.2.1 C.2.2.2.1 (Or.inr w) Via.refl e0 F E (L.imp id fun q => ⟨q.1, q.2.1, C.2.2.2.2.2.2.1.trans q.2.2⟩) wi hty hn hf (g := mkF m pc Ls (v :: .ref a :: st)) rfl rfl (hb C.2.1 hd)
  obtain ⟨s2, u, Lc, x, r⟩ := K h' W T' _ X' e' (Fr.snoc X' N g0)
  exact ⟨s2, u, Lc, st' _ x, r⟩
theorem w_putFZ (C : Cx p s m meth c Z own bytes ml rt nm) {pc pc' : Nat} {Ls : Array Slot} {st : List Value} {O n d Cl : String} {i kk : Nat} {a : Addr} {v v' old : Value} {ty : FieldType} (w : (Jvm.Cond.fieldLink own i O n d).before a0 Z = true) (L : (Jvm.Cond.lays Cl O n d).before a0 Z = true ∨ ((Jvm.Cond.laysFinal Cl O n d).before a0 Z = true ∧ own = O ∧ nm = "<init>")) (wi : (Jvm.Cond.instantiable Cl kk).before a0 Z = true)
    (hty : parseFieldDescriptor d = some ty) (hn : narrow ty v = v') (hf : fits ty v' = true) (hd : decode bytes pc = .ok (.putfield i, 3)) (hp : pc + 3 = pc') (g0 : n0 ≤ a) (F : Fld Z h a O n d old) (E : Exa Z h a Cl)
    (K : ∀ h', Wr h h' a (Jvm.RoadKit.slotOf Z O n d) v' → Wp p l e R s m args below meth c n0 cM sM Q h' cells slots (mkF m pc' Ls st)) :
    Wp p l e R s m args below meth c n0 cM sM Q h cells slots (mkF m pc Ls (v :: .ref a :: st)) := by
  subst hp
  intro T locs X e0 N
  obtain ⟨T', h', X', e', W, st'⟩ := putFN X C.1 C.2.2.1 C.2.2.2.1 w Via.refl e0 F E (L.imp id fun q => ⟨q.1, q.2.1, C.2.2.2.2.2.2.1.trans q.2.2⟩) wi hty hn hf (g := mkF m pc Ls (v :: .ref a :: st)) rfl rfl (hb C.2.1 hd)
  obtain ⟨s2, u, Lc, x, r⟩ := K h' W T' _ X' e' (Fr.snoc X' N g0)
  exact ⟨s2, u, Lc, st' _ x, r⟩
theorem w_new (C : Cx p s m meth c Z own bytes ml rt nm) {pc pc' ce' sl' : Nat} {Ls : Array Slot} {st : List Value} {Cl : String} {i n : Nat} (w : (Jvm.Cond.classLink own i Cl).before a0 Z = true) (wi : (Jvm.Cond.instantiable Cl n).before a0 Z = true) (wz : (Jvm.Cond.initialized Cl).before a0 Z = true) (hd : decode bytes pc = .ok (.new i, 3)) (hp : pc + 3 = pc') (hc1 : cells + 1 = ce') (hl1 : slots + n = sl') (hc : ce' ≤ R.cells) (hl : sl' ≤ R.slots)
    (K : ∀ h' a, a = h.size → Ext h h' → Exa Z h' a Cl → (∀ {O nm d : String} {ty : FieldType}, Laid Z a0 Cl O nm d → parseFieldDescriptor d = some ty → Fld Z h' a O nm d (defaultValue ty)) → Wp p l e R s m args below meth c n0 cM sM Q h' ce' sl' (mkF m pc' Ls (.ref a :: st))) :
    Wp p l e R s m args below meth c n0 cM sM Q h cells slots (mkF m pc Ls st) := by
  subst hp hc1 hl1
  intro T locs X e0 N
  obtain ⟨T', h', X', e', E, A, D, -, st'⟩ := newO X C.1 C.2.2.1 C.2.2.2.1 w wi wz e0 (g := mkF m pc Ls st) rfl (hb C.2.1 hd) hc hl
  obtain ⟨s2, u, Lc, x, r⟩ := K h' h.size rfl E A D T' _ X' e' N
  exact ⟨s2, u, Lc, st' _ x, r⟩
theorem w_newP (C : Cx p s m meth c Z own bytes ml rt nm) {pc pc' ce' sl' : Nat} {Ls : Array Slot} {st : List Value} {aty : ArrayType} {n : Int32} {cap : Nat} (w : (Jvm.Cond.arrayClass (newarray.typeOf aty)).before a0 Z = true) (hd : decode bytes pc = .ok (.newarray aty, 2)) (hp : pc + 2 = pc') (hn : ¬ n < 0) (hcap : n.toNatClampNeg ≤ cap) (hbig : cap * 8 ≤ 536870912) (hc1 : cells + 1 = ce') (hl1 : slots + cap = sl') (hc : ce' ≤ R.cells) (hl : sl' ≤ R.slots)
    (K : ∀ h' a cA, a = h.size → Ext h h' → Arr Z h' a (newA cA (newarray.typeOf aty) n) (newarray.typeOf aty) → Wp p l e R s m args below meth c n0 cM sM Q h' ce' sl' (mkF m pc' Ls (.ref a :: st))) :
    Wp p l e R s m args below meth c n0 cM sM Q h cells slots (mkF m pc Ls (.int n :: st)) := by
  subst hp hc1 hl1
  intro T locs X e0 N
  obtain ⟨T', h', cA, X', e', E, A, st'⟩ := newP X C.1 C.2.2.1 w e0 (g := mkF m pc Ls (.int n :: st)) rfl (hb C.2.1 hd) rfl hn hcap hbig hc hl
  obtain ⟨s2, u, Lc, x, r⟩ := K h' h.size cA rfl E A T' _ X' e' N
  exact ⟨s2, u, Lc, st' _ x, r⟩
theorem w_newR (C : Cx p s m meth c Z own bytes ml rt nm) {pc pc' ce' sl' : Nat} {Ls : Array Slot} {st : List Value} {Cl : String} {i : Nat} {n : Int32} {cap : Nat} (w1 : (Jvm.Cond.classLink own i Cl).before a0 Z = true) (w2 : (Jvm.Cond.arrayOver (.object Cl)).before a0 Z = true) (hd : decode bytes pc = .ok (.anewarray i, 3)) (hp : pc + 3 = pc') (hn : ¬ n < 0) (hcap : n.toNatClampNeg ≤ cap) (hbig : cap * 8 ≤ 536870912) (hc1 : cells + 1 = ce') (hl1 : slots + cap = sl') (hc : ce' ≤ R.cells) (hl : sl' ≤ R.slots)
    (K : ∀ h' a cA, a = h.size → Ext h h' → Arr Z h' a (newA cA (.object Cl) n) (.object Cl) → Ovr Z cA Cl → Wp p l e R s m args below meth c n0 cM sM Q h' ce' sl' (mkF m pc' Ls (.ref a :: st))) :
    Wp p l e R s m args below meth c n0 cM sM Q h cells slots (mkF m pc Ls (.int n :: st)) := by
  subst hp hc1 hl1
  intro T locs X e0 N
  obtain ⟨T', h', cA, X', e', E, A, O, st'⟩ := newR X C.1 C.2.2.1 C.2.2.2.1 w1 w2 e0 (g := mkF m pc Ls (.int n :: st)) rfl (hb C.2.1 hd) rfl hn hcap hbig hc hl
  obtain ⟨s2, u, Lc, x, r⟩ := K h' h.size cA rfl E A O T' _ X' e' N
  exact ⟨s2, u, Lc, st' _ x, r⟩
theorem w_iastore (C : Cx p s m meth c Z own bytes ml rt nm) {pc pc' : Nat} {Ls : Array Slot} {st : List Value} {a : Addr} {cl : Cell} {j : Int32} {x : Int32} (hd : decode bytes pc = .ok (.iastore, 1)) (hp : pc + 1 = pc') (g0 : n0 ≤ a) (A : Arr Z h a cl .int) (hj : ¬ (j < 0 ∨ cl.slots.size ≤ j.toNatClampNeg))
    (K : ∀ h', Wr h h' a j.toNatClampNeg (.int x) → Wp p l e R s m args below meth c n0 cM sM Q h' cells slots (mkF m pc' Ls st)) :
    Wp p l e R s m args below meth c n0 cM sM Q h cells slots (mkF m pc Ls (.int x :: .int j :: .ref a :: st)) := by
  subst hp
  intro T locs X e0 N
  obtain ⟨T', h', X', e', W, st'⟩ := stI X C.1 C.2.2.1 e0 A hj (g := mkF m pc Ls (.int x :: .int j :: .ref a :: st)) rfl rfl (hb C.2.1 hd)
  obtain ⟨s2, u, Lc, q, r⟩ := K h' W T' _ X' e' (Fr.snoc X' N g0)
  exact ⟨s2, u, Lc, st' _ q, r⟩
theorem w_lastore (C : Cx p s m meth c Z own bytes ml rt nm) {pc pc' : Nat} {Ls : Array Slot} {st : List Value} {a : Addr} {cl : Cell} {j : Int32} {x : Int64} (hd : decode bytes pc = .ok (.lastore, 1)) (hp : pc + 1 = pc') (g0 : n0 ≤ a) (A : Arr Z h a cl .long) (hj : ¬ (j < 0 ∨ cl.slots.size ≤ j.toNatClampNeg))
    (K : ∀ h', Wr h h' a j.toNatClampNeg (.long x) → Wp p l e R s m args below meth c n0 cM sM Q h' cells slots (mkF m pc' Ls st)) :
    Wp p l e R s m args below meth c n0 cM sM Q h cells slots (mkF m pc Ls (.long x :: .int j :: .ref a :: st)) := by
  subst hp
  intro T locs X e0 N
  obtain ⟨T', h', X', e', W, st'⟩ := stJ X C.1 C.2.2.1 e0 A hj (g := mkF m pc Ls (.long x :: .int j :: .ref a :: st)) rfl rfl (hb C.2.1 hd)
  obtain ⟨s2, u, Lc, q, r⟩ := K h' W T' _ X' e' (Fr.snoc X' N g0)
  exact ⟨s2, u, Lc, st' _ q, r⟩
theorem w_castore (C : Cx p s m meth c Z own bytes ml rt nm) {pc pc' : Nat} {Ls : Array Slot} {st : List Value} {a : Addr} {cl : Cell} {j : Int32} {x : Int32} (hd : decode bytes pc = .ok (.castore, 1)) (hp : pc + 1 = pc') (g0 : n0 ≤ a) (A : Arr Z h a cl .char) (hj : ¬ (j < 0 ∨ cl.slots.size ≤ j.toNatClampNeg))
    (K : ∀ h', Wr h h' a j.toNatClampNeg (.int (nar .char x)) → Wp p l e R s m args below meth c n0 cM sM Q h' cells slots (mkF m pc' Ls st)) :
    Wp p l e R s m args below meth c n0 cM sM Q h cells slots (mkF m pc Ls (.int x :: .int j :: .ref a :: st)) := by
  subst hp
  intro T locs X e0 N
  obtain ⟨T', h', X', e', W, st'⟩ := stC X C.1 C.2.2.1 e0 A hj (g := mkF m pc Ls (.int x :: .int j :: .ref a :: st)) rfl rfl (hb C.2.1 hd)
  obtain ⟨s2, u, Lc, q, r⟩ := K h' W T' _ X' e' (Fr.snoc X' N g0)
  exact ⟨s2, u, Lc, st' _ q, r⟩
theorem w_aastore (C : Cx p s m meth c Z own bytes ml rt nm) {pc pc' : Nat} {Ls : Array Slot} {st : List Value} {a : Addr} {cl : Cell} {j : Int32} {v : Value} {ty : FieldType} (hd : decode bytes pc = .ok (.aastore, 1)) (hp : pc + 1 = pc') (g0 : n0 ≤ a) (A : Arr Z h a cl ty) (hj : ¬ (j < 0 ∨ cl.slots.size ≤ j.toNatClampNeg)) (hty : ty.isReference = true) (F : Sto Z h a v)
    (K : ∀ h', Wr h h' a j.toNatClampNeg v → Wp p l e R s m args below meth c n0 cM sM Q h' cells slots (mkF m pc' Ls st)) :
    Wp p l e R s m args below meth c n0 cM sM Q h cells slots (mkF m pc Ls (v :: .int j :: .ref a :: st)) := by
  subst hp
  intro T locs X e0 N
  obtain ⟨T', h', X', e', W, st'⟩ := stR X C.1 C.2.2.1 e0 A hj hty F (g := mkF m pc Ls (v :: .int j :: .ref a :: st)) rfl rfl (hb C.2.1 hd)
  obtain ⟨s2, u, Lc, q, r⟩ := K h' W T' _ X' e' (Fr.snoc X' N g0)
  exact ⟨s2, u, Lc, st' _ q, r⟩
theorem w_iaload (C : Cx p s m meth c Z own bytes ml rt nm) {pc pc' : Nat} {Ls : Array Slot} {st : List Value} {a : Addr} {cl : Cell} {j : Int32} {v : Value} (hd : decode bytes pc = .ok (.iaload, 1)) (hp : pc + 1 = pc') (A : Arr Z h a cl .int) (hj : ¬ (j < 0 ∨ cl.slots.size ≤ j.toNatClampNeg)) (hv : cl.slots[j.toNatClampNeg]? = some v)
    (K : Wp p l e R s m args below meth c n0 cM sM Q h cells slots (mkF m pc' Ls (v :: st))) :
    Wp p l e R s m args below meth c n0 cM sM Q h cells slots (mkF m pc Ls (.int j :: .ref a :: st)) := by
  subst hp
  intro T locs X e0 N
  obtain ⟨s2, u, L, q, r⟩ := K T locs X e0 N
  exact ⟨s2, u, L, X.iaload C.1 (j := j) (v := v) (by rw [e0]; exact A.1) (State.isArrayOf_alike C.2.2.1.alike A.2.1) A.2.2 hj hv (g := mkF m pc Ls (.int j :: .ref a :: st)) rfl rfl (hb C.2.1 hd) _ q, r⟩
theorem w_laload (C : Cx p s m meth c Z own bytes ml rt nm) {pc pc' : Nat} {Ls : Array Slot} {st : List Value} {a : Addr} {cl : Cell} {j : Int32} {v : Value} (hd : decode bytes pc = .ok (.laload, 1)) (hp : pc + 1 = pc') (A : Arr Z h a cl .long) (hj : ¬ (j < 0 ∨ cl.slots.size ≤ j.toNatClampNeg)) (hv : cl.slots[j.toNatClampNeg]? = some v)
    (K : Wp p l e R s m args below meth c n0 cM sM Q h cells slots (mkF m pc' Ls (v :: st))) :
    Wp p l e R s m args below meth c n0 cM sM Q h cells slots (mkF m pc Ls (.int j :: .ref a :: st)) := by
  subst hp
  intro T locs X e0 N
  obtain ⟨s2, u, L, q, r⟩ := K T locs X e0 N
  exact ⟨s2, u, L, X.laload C.1 (j := j) (v := v) (by rw [e0]; exact A.1) (State.isArrayOf_alike C.2.2.1.alike A.2.1) A.2.2 hj hv (g := mkF m pc Ls (.int j :: .ref a :: st)) rfl rfl (hb C.2.1 hd) _ q, r⟩
theorem w_caload (C : Cx p s m meth c Z own bytes ml rt nm) {pc pc' : Nat} {Ls : Array Slot} {st : List Value} {a : Addr} {cl : Cell} {j : Int32} {v : Value} (hd : decode bytes pc = .ok (.caload, 1)) (hp : pc + 1 = pc') (A : Arr Z h a cl .char) (hj : ¬ (j < 0 ∨ cl.slots.size ≤ j.toNatClampNeg)) (hv : cl.slots[j.toNatClampNeg]? = some v)
    (K : Wp p l e R s m args below meth c n0 cM sM Q h cells slots (mkF m pc' Ls (v :: st))) :
    Wp p l e R s m args below meth c n0 cM sM Q h cells slots (mkF m pc Ls (.int j :: .ref a :: st)) := by
  subst hp
  intro T locs X e0 N
  obtain ⟨s2, u, L, q, r⟩ := K T locs X e0 N
  exact ⟨s2, u, L, X.caload C.1 (j := j) (v := v) (by rw [e0]; exact A.1) (State.isArrayOf_alike C.2.2.1.alike A.2.1) A.2.2 hj hv (g := mkF m pc Ls (.int j :: .ref a :: st)) rfl rfl (hb C.2.1 hd) _ q, r⟩
theorem w_baload (C : Cx p s m meth c Z own bytes ml rt nm) {pc pc' : Nat} {Ls : Array Slot} {st : List Value} {a : Addr} {cl : Cell} {j : Int32} {v : Value} (hd : decode bytes pc = .ok (.baload, 1)) (hp : pc + 1 = pc') (A : Arr Z h a cl .byte) (hj : ¬ (j < 0 ∨ cl.slots.size ≤ j.toNatClampNeg)) (hv : cl.slots[j.toNatClampNeg]? = some v)
    (K : Wp p l e R s m args below meth c n0 cM sM Q h cells slots (mkF m pc' Ls (v :: st))) :
    Wp p l e R s m args below meth c n0 cM sM Q h cells slots (mkF m pc Ls (.int j :: .ref a :: st)) := by
  subst hp
  intro T locs X e0 N
  obtain ⟨s2, u, L, q, r⟩ := K T locs X e0 N
  exact ⟨s2, u, L, X.baloadBytes C.1 (j := j) (v := v) (by rw [e0]; exact A.1) (State.isArrayOf_alike C.2.2.1.alike A.2.1) A.2.2 hj hv (g := mkF m pc Ls (.int j :: .ref a :: st)) rfl rfl (hb C.2.1 hd) _ q, r⟩
theorem w_aaload (C : Cx p s m meth c Z own bytes ml rt nm) {pc pc' : Nat} {Ls : Array Slot} {st : List Value} {a : Addr} {cl : Cell} {j : Int32} {v : Value} {ty : FieldType} (hd : decode bytes pc = .ok (.aaload, 1)) (hp : pc + 1 = pc') (A : Arr Z h a cl ty) (hty : ty.isReference = true) (hj : ¬ (j < 0 ∨ cl.slots.size ≤ j.toNatClampNeg)) (hv : cl.slots[j.toNatClampNeg]? = some v)
    (K : Wp p l e R s m args below meth c n0 cM sM Q h cells slots (mkF m pc' Ls (v :: st))) :
    Wp p l e R s m args below meth c n0 cM sM Q h cells slots (mkF m pc Ls (.int j :: .ref a :: st)) := by
  subst hp
  intro T locs X e0 N
  obtain ⟨s2, u, L, q, r⟩ := K T locs X e0 N
  exact ⟨s2, u, L, X.aaload C.1 (j := j) (v := v) (by rw [e0]; exact A.1) (State.isArrayOf_alike C.2.2.1.alike A.2.1) hty A.2.2 hj hv (g := mkF m pc Ls (.int j :: .ref a :: st)) rfl rfl (hb C.2.1 hd) _ q, r⟩
theorem w_alen (C : Cx p s m meth c Z own bytes ml rt nm) {pc pc' : Nat} {Ls : Array Slot} {st : List Value} {a : Addr} {cl : Cell} {ty : FieldType} {n : Int32} (hd : decode bytes pc = .ok (.arraylength, 1)) (hp : pc + 1 = pc') (A : Arr Z h a cl ty) (hn : cl.slots.size.toInt32 = n)
    (K : Wp p l e R s m args below meth c n0 cM sM Q h cells slots (mkF m pc' Ls (.int n :: st))) :
    Wp p l e R s m args below meth c n0 cM sM Q h cells slots (mkF m pc Ls (.ref a :: st)) := by
  subst hp hn
  intro T locs X e0 N
  obtain ⟨s2, u, L, q, r⟩ := K T locs X e0 N
  exact ⟨s2, u, L, X.arraylength C.1 (by rw [e0]; exact A.1) (State.isArrayOf_alike C.2.2.1.alike A.2.1) (g := mkF m pc Ls (.ref a :: st)) rfl rfl (hb C.2.1 hd) _ q, r⟩
theorem w_initO (C : Cx p s m meth c Z own bytes ml rt nm) {pc pc' : Nat} {Ls : Array Slot} {st : List Value} {i : Nat} {a : Addr} {W : Nat} (w1 : (Jvm.Cond.methodLink own i Lib.objectInit).before a0 Z = true) (w2 : (Jvm.Cond.instanceMethod Lib.objectInit).before a0 Z = true) (w3 : (Jvm.Cond.code Lib.objectInit ⟨#[0xb1]⟩ 1 none).before a0 Z = true) (hd : decode bytes pc = .ok (.invokespecial i, 3)) (hp : pc + 3 = pc')
    (hsz : Ls.size = ml) (hf : 1 ≤ R.frames) (hW : (st.map fun v => v.category).sum ≤ W) (hl : W + 12 ≤ R.locals) (K : Wp p l e R s m args below meth c n0 cM sM Q h cells slots (mkF m pc' Ls st)) :
    Wp p l e R s m args below meth c n0 cM sM Q h cells slots (mkF m pc Ls (.ref a :: st)) := by
  subst hp
  exact Wp.law (fun T locs X e0 => initO X C.1 C.2.2.1 C.2.2.2.1 w1 w2 w3 e0 (g := mkF m pc Ls (.ref a :: st)) rfl (hsz.trans C.2.2.2.2.1.symm) rfl (hb C.2.1 hd) hf (by show 2 * 0 + _ ≤ _; rw [Nat.mul_zero, Nat.zero_add]; exact hW) hl) K
theorem w_callS (C : Cx p s m meth c Z own bytes ml rt nm) {pc pc' : Nat} {Ls : Array Slot} {stk st : List Value} {i : Nat} {ce' sl' : Nat} {y : MethodName} {cb : ByteArray} {cml : Nat} {cret : Option FieldType} {crm : Room} {argsL : List Value} {Q' : Option Value → Heap → Prop} {W : Nat} (w1 : (Jvm.Cond.methodLink own i y).before a0 Z = true) (w2 : (Jvm.Cond.static y).before a0 Z = true) (w3 : (Jvm.Cond.initialized y.cls).before a0 Z = true) (w4 : (Jvm.Cond.code y cb cml cret).before a0 Z = true) (hy : y.cls ≠ "java/lang/invoke/MethodHandle" ∧ y.cls ≠ "java/lang/invoke/VarHandle")
    (hd : decode bytes pc = .ok (.invokestatic i, 3)) (hp : pc + 3 = pc') (hst : stk = argsL.reverse ++ st) (hfr : crm.frames + 1 ≤ R.frames) (hlo : W + (cml + 11) + crm.locals ≤ R.locals) (hW : (st.map fun v => v.category).sum ≤ W) (hce1 : cells + crm.cells = ce') (hsl1 : slots + crm.slots = sl') (hce : ce' ≤ R.cells) (hsl : sl' ≤ R.slots) (hsz : Ls.size = ml) (hlen : ∀ sig, parseMethodDescriptor y.desc = some sig → argsL.length = sig.parameters.length) (ct : Ct l Z y cb cml cret [] crm argsL.toArray h n0 Q')
    (K : ∀ v h', Q' v h' → Wp p l e R s m args below meth c n0 cM sM Q h' ce' sl' (mkF m pc' Ls (v.toList ++ st))) :
    Wp p l e R s m args below meth c n0 cM sM Q h cells slots (mkF m pc Ls stk) := by
  subst hp hce1 hsl1
  intro T locs X e0 N
  obtain ⟨v, _, ⟨T', L', k', n'⟩, -, X', ⟨Lc, hq, l1, l2, l3⟩, st'⟩ := Jvm.LawKit.callS X C.1 (y := y) C.2.2.2.1 (mvT C.2.2.1 w1) (mvT C.2.2.1 w2) (mvT C.2.2.1 w3) (mvT C.2.2.1 w4) hy (backOf (W := W) (Q := fun v hh L => Q' v hh ∧ Fr n0 L) ct C.2.2.1 w4 w3 hfr hlo) (g := mkF m pc Ls stk) rfl (hsz.trans C.2.2.2.2.1.symm) (argsL := argsL) (rest := st) hlen hst (by show 2 * 0 + _ ≤ _; rw [Nat.mul_zero, Nat.zero_add]; exact hW) (hb C.2.1 hd) (fun _ _ => ⟨rfl, e0, hce, hsl⟩)
  dsimp only [Pt.U, Pt.locs, Pt.cells, Pt.slots] at X' l1 l2 l3 st' hq
  subst l1 l2 l3
  obtain ⟨s2, u, L, q, r⟩ := K _ _ hq.1 _ _ X' rfl (Fr.app N hq.2)
  exact ⟨s2, u, L, st' _ q, r⟩
theorem w_callI (C : Cx p s m meth c Z own bytes ml rt nm) {pc pc' : Nat} {Ls : Array Slot} {stk st : List Value} {i : Nat} {a : Addr} {ce' sl' : Nat} {y : MethodName} {cb : ByteArray} {cml : Nat} {crm : Room} {argsL : List Value} {Q' : Option Value → Heap → Prop} {W : Nat} (hin : y.name = "<init>") (w1 : (Jvm.Cond.methodLink own i y).before a0 Z = true) (w2 : (Jvm.Cond.instanceMethod y).before a0 Z = true) (w3 : (Jvm.Cond.initialized y.cls).before a0 Z = true) (w4 : (Jvm.Cond.code y cb cml none).before a0 Z = true) (hy : y.cls ≠ "java/lang/invoke/MethodHandle" ∧ y.cls ≠ "java/lang/invoke/VarHandle")
    (hd : decode bytes pc = .ok (.invokespecial i, 3)) (hp : pc + 3 = pc') (hst : stk = argsL.reverse ++ .ref a :: st) (hfr : crm.frames + 1 ≤ R.frames) (hlo : W + (cml + 11) + crm.locals ≤ R.locals) (hW : (st.map fun v => v.category).sum ≤ W) (hce1 : cells + crm.cells = ce') (hsl1 : slots + crm.slots = sl') (hce : ce' ≤ R.cells) (hsl : sl' ≤ R.slots) (hsz : Ls.size = ml) (hlen : ∀ sig, parseMethodDescriptor y.desc = some sig → argsL.length = sig.parameters.length) (ct : Ct l Z y cb cml none [] crm (.ref a :: argsL).toArray h n0 Q')
    (K : ∀ v h', Q' v h' → Wp p l e R s m args below meth c n0 cM sM Q h' ce' sl' (mkF m pc' Ls (v.toList ++ st))) :
    Wp p l e R s m args below meth c n0 cM sM Q h cells slots (mkF m pc Ls stk) := by
  subst hp hce1 hsl1
  intro T locs X e0 N
  obtain ⟨v, _, ⟨T', L', k', n'⟩, -, X', ⟨Lc, hq, l1, l2, l3⟩, st'⟩ := X.specialBack C.1 (y := y) hin C.2.2.2.1 (mvT C.2.2.1 w1) (mvT C.2.2.1 w2) (mvT C.2.2.1 w4) hy (backOf (W := W) (Q := fun v hh L => Q' v hh ∧ Fr n0 L) ct C.2.2.1 w4 w3 hfr hlo) (g := mkF m pc Ls stk) rfl (hsz.trans C.2.2.2.2.1.symm) (Steps.refl _) (a := a) (argsL := argsL) (rest := st) hlen hst (by show 2 * 0 + _ ≤ _; rw [Nat.mul_zero, Nat.zero_add]; exact hW) (hb C.2.1 hd) (fun _ _ => ⟨rfl, e0, hce, hsl⟩)
  dsimp only [Pt.U, Pt.locs, Pt.cells, Pt.slots] at X' l1 l2 l3 st' hq
  subst l1 l2 l3
  obtain ⟨s2, u, L, q, r⟩ := K _ _ hq.1 _ _ X' rfl (Fr.app N hq.2)
  exact ⟨s2, u, L, st'.trans q, r⟩
theorem w_callV (C : Cx p s m meth c Z own bytes ml rt nm) {pc pc' : Nat} {Ls : Array Slot} {stk st : List Value} {i : Nat} {a : Addr} {Cl : String} {ce' sl' : Nat} {y : MethodName} {cb : ByteArray} {cml : Nat} {cret : Option FieldType} {crm : Room} {argsL : List Value} {Q' : Option Value → Heap → Prop} {W : Nat} (w1 : (Jvm.Cond.methodLink own i y).before a0 Z = true) (w2 : (Jvm.Cond.declares y).before a0 Z = true) (w5 : (Jvm.Cond.selects Cl y y).before a0 Z = true) (w6 : (Jvm.Cond.instanceMethod y).before a0 Z = true) (w3 : (Jvm.Cond.initialized y.cls).before a0 Z = true) (w4 : (Jvm.Cond.code y cb cml cret).before a0 Z = true) (hy : y.cls ≠ "java/lang/invoke/MethodHandle" ∧ y.cls ≠ "java/lang/invoke/VarHandle")
    (hd : decode bytes pc = .ok (.invokevirtual i, 3)) (hp : pc + 3 = pc') (hst : stk = argsL.reverse ++ .ref a :: st) (hfr : crm.frames + 1 ≤ R.frames) (hlo : W + (cml + 11) + crm.locals ≤ R.locals) (hW : (st.map fun v => v.category).sum ≤ W) (hce1 : cells + crm.cells = ce') (hsl1 : slots + crm.slots = sl') (hce : ce' ≤ R.cells) (hsl : sl' ≤ R.slots) (hsz : Ls.size = ml) (hlen : ∀ sig, parseMethodDescriptor y.desc = some sig → argsL.length = sig.parameters.length) (E : Exa Z h a Cl) (ct : Ct l Z y cb cml cret [] crm (.ref a :: argsL).toArray h n0 Q')
    (K : ∀ v h', Q' v h' → Wp p l e R s m args below meth c n0 cM sM Q h' ce' sl' (mkF m pc' Ls (v.toList ++ st))) :
    Wp p l e R s m args below meth c n0 cM sM Q h cells slots (mkF m pc Ls stk) := by
  subst hp hce1 hsl1
  intro T locs X e0 N
  obtain ⟨_, _, qa, qb, qc⟩ := isOf C.2.2.1 e0 E
  obtain ⟨v, _, ⟨T', L', k', n'⟩, -, X', ⟨Lc, hq, l1, l2, l3⟩, st'⟩ := X.virtualBack C.1 (y := y) (z := y) C.2.2.2.1 (mvT C.2.2.1 w1) (mvT C.2.2.1 w2) (notFace_of_selects (args := #[]) (mvT C.2.2.1 w5)) (mvT C.2.2.1 w5) (mvT C.2.2.1 w6) hy (backOf (W := W) (Q := fun v hh L => Q' v hh ∧ Fr n0 L) ct C.2.2.1 w4 w3 hfr hlo) qa qc (g := mkF m pc Ls stk) rfl (hsz.trans C.2.2.2.2.1.symm) (Steps.refl _) (argsL := argsL) (rest := st) hlen hst (by show 2 * 0 + _ ≤ _; rw [Nat.mul_zero, Nat.zero_add]; exact hW) (hb C.2.1 hd) (fun _ _ => ⟨rfl, e0, hce, hsl⟩)
  dsimp only [Pt.U, Pt.locs, Pt.cells, Pt.slots] at X' l1 l2 l3 st' hq
  subst l1 l2 l3
  obtain ⟨s2, u, L, q, r⟩ := K _ _ hq.1 _ _ X' rfl (Fr.app N hq.2)
  exact ⟨s2, u, L, st'.trans q, r⟩
theorem w_callP (C : Cx p s m meth c Z own bytes ml rt nm) {pc pc' : Nat} {Ls : Array Slot} {stk st : List Value} {i : Nat} {a : Addr} {Cl : String} {ce' sl' : Nat} {y : MethodName} {cb : ByteArray} {cml : Nat} {cret : Option FieldType} {crm : Room} {argsL : List Value} {Q' : Option Value → Heap → Prop} {W : Nat} (w1 : (Jvm.Cond.methodLink own i y).before a0 Z = true) (w6 : (Jvm.Cond.instanceMethod y).before a0 Z = true) {kk : Nat} (w5 : (Jvm.Cond.instantiable y.cls kk).before a0 Z = true) (w7 : (Jvm.Cond.privateMethod y).before a0 Z = true) (w3 : (Jvm.Cond.initialized y.cls).before a0 Z = true) (w4 : (Jvm.Cond.code y cb cml cret).before a0 Z = true) (hy : y.cls ≠ "java/lang/invoke/MethodHandle" ∧ y.cls ≠ "java/lang/invoke/VarHandle")
    (hd : decode bytes pc = .ok (.invokevirtual i, 3)) (hp : pc + 3 = pc') (hst : stk = argsL.reverse ++ .ref a :: st) (hfr : crm.frames + 1 ≤ R.frames) (hlo : W + (cml + 11) + crm.locals ≤ R.locals) (hW : (st.map fun v => v.category).sum ≤ W) (hce1 : cells + crm.cells = ce') (hsl1 : slots + crm.slots = sl') (hce : ce' ≤ R.cells) (hsl : sl' ≤ R.slots) (hsz : Ls.size = ml) (hlen : ∀ sig, parseMethodDescriptor y.desc = some sig → argsL.length = sig.parameters.length) (E : Exa Z h a Cl) (ct : Ct l Z y cb cml cret [] crm (.ref a :: argsL).toArray h n0 Q')
    (K : ∀ v h', Q' v h' → Wp p l e R s m args below meth c n0 cM sM Q h' ce' sl' (mkF m pc' Ls (v.toList ++ st))) :
    Wp p l e R s m args below meth c n0 cM sM Q h cells slots (mkF m pc Ls stk) := by
  subst hp hce1 hsl1
  intro T locs X e0 N
  obtain ⟨cq, q1, q2⟩ := E.cell
  have hpr : s.PrivateAt y := Cond.privateMethod_at (mvP C.2.2.1 w7 (args := #[]))
  obtain ⟨ci, ki, i1, i2, -, i4, -⟩ := Cond.instantiable_spec (show (Jvm.Cond.instantiable y.cls kk).before #[] s = true from mvT C.2.2.1 w5)
  have hsel := selects_self_of_private (args := args) i1 i2 (by simp only [Bool.or_eq_false_iff] at i4; exact i4.1) hpr (mvT C.2.2.1 w6) hy
  obtain ⟨v, _, ⟨T', L', k', n'⟩, -, X', ⟨Lc, hq, l1, l2, l3⟩, st'⟩ := X.privateBack C.1 (y := y) C.2.2.2.1 (mvT C.2.2.1 w1) (mvT C.2.2.1 w6) hsel hpr (mvT C.2.2.1 w4) hy (backOf (W := W) (Q := fun v hh L => Q' v hh ∧ Fr n0 L) ct C.2.2.1 w4 w3 hfr hlo) (g := mkF m pc Ls stk) rfl (hsz.trans C.2.2.2.2.1.symm) (Steps.refl _) (a := a) (by rw [e0]; exact q1) q2 (argsL := argsL) (rest := st) hlen hst (by show 2 * 0 + _ ≤ _; rw [Nat.mul_zero, Nat.zero_add]; exact hW) (hb C.2.1 hd) (fun _ _ => ⟨rfl, e0, hce, hsl⟩)
  dsimp only [Pt.U, Pt.locs, Pt.cells, Pt.slots] at X' l1 l2 l3 st' hq
  subst l1 l2 l3
  obtain ⟨s2, u, L, q, r⟩ := K _ _ hq.1 _ _ X' rfl (Fr.app N hq.2)
  exact ⟨s2, u, L, st'.trans q, r⟩
theorem k1 {pc' ce' sl' : Nat} {Ls : Array Slot} {st : List Value} {r : Value} {P : Heap → Prop} (K : ∀ h', P h' → Wp p l e R s m args below meth c n0 cM sM Q h' ce' sl' (mkF m pc' Ls (r :: st))) : ∀ v h', (v = some r ∧ P h') → Wp p l e R s m args below meth c n0 cM sM Q h' ce' sl' (mkF m pc' Ls (v.toList ++ st)) := fun v h' q => by
  obtain ⟨rfl, q⟩ := q; exact K h' q
theorem k0 {pc' ce' sl' : Nat} {Ls : Array Slot} {st : List Value} {P : Heap → Prop} (K : ∀ h', P h' → Wp p l e R s m args below meth c n0 cM sM Q h' ce' sl' (mkF m pc' Ls st)) : ∀ v h', (v = none ∧ P h') → Wp p l e R s m args below meth c n0 cM sM Q h' ce' sl' (mkF m pc' Ls (v.toList ++ st)) := fun v h' q => by
  obtain ⟨rfl, q⟩ := q; exact K h' q
theorem kp {pc' ce' sl' : Nat} {Ls : Array Slot} {st : List Value} {r : Value} (K : Wp p l e R s m args below meth c n0 cM sM Q h ce' sl' (mkF m pc' Ls (r :: st))) : ∀ v h', (v = some r ∧ h' = h) → Wp p l e R s m args below meth c n0 cM sM Q h' ce' sl' (mkF m pc' Ls (v.toList ++ st)) := fun v h' q => by
  obtain ⟨rfl, rfl⟩ := q; exact K
theorem kx {pc' ce' sl' : Nat} {Ls : Array Slot} {st : List Value} {P : Addr → Heap → Prop} (K : ∀ b h', P b h' → Wp p l e R s m args below meth c n0 cM sM Q h' ce' sl' (mkF m pc' Ls (.ref b :: st))) : ∀ v h', (∃ b, v = some (.ref b) ∧ P b h') → Wp p l e R s m args below meth c n0 cM sM Q h' ce' sl' (mkF m pc' Ls (v.toList ++ st)) := fun v h' q => by
  obtain ⟨b, rfl, q⟩ := q; exact K b h' q
theorem kv {pc' ce' sl' : Nat} {Ls : Array Slot} {st : List Value} (K : Wp p l e R s m args below meth c n0 cM sM Q h ce' sl' (mkF m pc' Ls st)) : ∀ v h', (v = none ∧ h' = h) → Wp p l e R s m args below meth c n0 cM sM Q h' ce' sl' (mkF m pc' Ls (v.toList ++ st)) := fun v h' q => by
  obtain ⟨rfl, rfl⟩ := q; exact K
end Rules

/-! objects and arrays, each one fact -/
section Facts
variable {Z : State} {h h' : Heap} {a b : Addr} {Cl n d : String} {v v' w : Value} {fs fs' : List (String × String × Value)} {ws : List Addr} {sl : Nat} {ty : FieldType} {vs : List Value}
/-- an object of exactly the class Cl, and what its fields hold -/
def Obj (Z : State) (h : Heap) (a : Addr) (Cl : String) (fs : List (String × String × Value)) : Prop :=
  Exa Z h a Cl ∧ (∀ (i : Nat) (f : String × String × Value), fs[i]? = some f → Fld Z h a Cl f.1 f.2.1 f.2.2) ∧ ∀ (i j : Nat) (f g : String × String × Value), fs[i]? = some f → fs[j]? = some g → i ≠ j → Jvm.RoadKit.slotOf Z Cl f.1 f.2.1 ≠ Jvm.RoadKit.slotOf Z Cl g.1 g.2.1
theorem Obj.lt (O : Obj Z h a Cl fs) : a < h.size := O.1.lt
theorem Obj.fld (O : Obj Z h a Cl fs) (i : Nat) (e : fs[i]? = some (n, d, v)) : Fld Z h a Cl n d v := O.2.1 i _ e
theorem Obj.ext (O : Obj Z h a Cl fs) (E : Ext h h') : Obj Z h' a Cl fs := ⟨O.1.ext E, fun i f q => (O.2.1 i f q).ext E, O.2.2⟩
theorem Obj.keep (O : Obj Z h a Cl fs) (K : Keep h h' ws) (q : a ∉ ws) : Obj Z h' a Cl fs := ⟨O.1.keep K, fun i f r => (O.2.1 i f r).keep K q, O.2.2⟩
theorem Obj.other (O : Obj Z h a Cl fs) (W : Wr h h' b sl w) (q : a ≠ b) : Obj Z h' a Cl fs := ⟨O.1.wr W, fun i f r => (O.2.1 i f r).other W (Or.inl q), O.2.2⟩
theorem Obj.put (O : Obj Z h a Cl fs) (i : Nat) (e : fs[i]? = some (n, d, v)) (W : Wr h h' a (Jvm.RoadKit.slotOf Z Cl n d) v') (e' : fs.set i (n, d, v') = fs') : Obj Z h' a Cl fs' := by
  subst e'
  have key : ∀ j f, (fs.set i (n, d, v'))[j]? = some f → ∃ u, fs[j]? = some (f.1, f.2.1, u) ∧ (j = i → f = (n, d, v')) ∧ (j ≠ i → fs[j]? = some f) := fun j f q => by
    by_cases z : i = j
    · subst z
      have hl : i < fs.length := (List.getElem?_eq_some_iff.mp e).1
      rw [List.getElem?_set_self hl] at q
      cases q
      exact ⟨v, e, fun _ => rfl, fun r => absurd rfl r⟩
    · rw [List.getElem?_set_ne z] at q
      exact ⟨f.2.2, q, fun r => absurd r.symm z, fun _ => q⟩
  refine ⟨O.1.wr W, fun j f q => ?_, fun j k f g q r z => ?_⟩
  · obtain ⟨u, k1, k2, k3⟩ := key j f q
    by_cases z : j = i
    · cases k2 z; subst z
      exact (O.fld j e).same W
    · have ne : Jvm.RoadKit.slotOf Z Cl f.1 f.2.1 ≠ Jvm.RoadKit.slotOf Z Cl n d := O.2.2 j i f (n, d, v) (k3 z) e z
      exact Fld.other W (O.2.1 j f (k3 z)) (Or.inr ne)
  · obtain ⟨u, k1, -⟩ := key j f q
    obtain ⟨u', k2, -⟩ := key k g r
    exact O.2.2 j k (f.1, f.2.1, u) (g.1, g.2.1, u') k1 k2 z
theorem Obj.size (O : Obj Z h a Cl fs) (K : Keep h h' ws) : h.size ≤ h'.size := K.1
/-- an array of the component type ty, and what it holds -/
def Ar (Z : State) (h : Heap) (a : Addr) (ty : FieldType) (vs : List Value) : Prop := ∃ cl : Cell, Arr Z h a cl ty ∧ cl.slots = vs.toArray
theorem Ar.lt (A : Ar Z h a ty vs) : a < h.size := by obtain ⟨_, A, -⟩ := A; exact A.lt
theorem Ar.ext (A : Ar Z h a ty vs) (E : Ext h h') : Ar Z h' a ty vs := by obtain ⟨cl, A, q⟩ := A; exact ⟨cl, A.ext E, q⟩
theorem Ar.keep (A : Ar Z h a ty vs) (K : Keep h h' ws) (q : a ∉ ws) : Ar Z h' a ty vs := by obtain ⟨cl, A, r⟩ := A; exact ⟨cl, ⟨K.2.1 a cl A.1 q, A.2⟩, r⟩
theorem Ar.other (A : Ar Z h a ty vs) (W : Wr h h' b sl w) (q : a ≠ b) : Ar Z h' a ty vs := by obtain ⟨cl, A, r⟩ := A; exact ⟨cl, A.other W q, r⟩
theorem set_slots {cl : Cell} (r : cl.slots = vs.toArray) (j : Nat) (v : Value) : (cl.setSlot j v).slots = (vs.set j v).toArray := by
  show cl.slots.setIfInBounds j v = _
  rw [r]; simp
theorem Ar.set (A : Ar Z h a ty vs) (W : Wr h h' a sl w) : Ar Z h' a ty (vs.set sl w) := by
  obtain ⟨cl, A, r⟩ := A; exact ⟨_, A.same W, set_slots r _ _⟩
theorem Ar.new {cA : ClassId} {z : Int32} (A : Arr Z h a (newA cA ty z) ty) : Ar Z h a ty (List.replicate z.toNatClampNeg (defaultValue ty)) := ⟨_, A, by simp [newA]⟩
theorem Ar.nin {cl : Cell} {j : Int32} (r : cl.slots = vs.toArray) (hj : ¬ j < 0) (hl : j.toNatClampNeg < vs.length) : ¬ (j < 0 ∨ cl.slots.size ≤ j.toNatClampNeg) := by
  rw [r]; simp only [List.size_toArray]
  exact fun q => q.elim hj (fun q => Nat.not_le.mpr hl q)
theorem Ar.at {cl : Cell} {k : Nat} (r : cl.slots = vs.toArray) (hv : vs[k]? = some v) : cl.slots[k]? = some v := by rw [r]; simpa using hv
/-- an array of references to objects of the class Cl -/
def ArR (Z : State) (h : Heap) (a : Addr) (Cl : String) (vs : List Value) : Prop := ∃ cl : Cell, Arr Z h a cl (.object Cl) ∧ cl.slots = vs.toArray ∧ Ovr Z cl.cls Cl
theorem ArR.lt (A : ArR Z h a Cl vs) : a < h.size := by obtain ⟨_, A, -⟩ := A; exact A.lt
theorem ArR.ext (A : ArR Z h a Cl vs) (E : Ext h h') : ArR Z h' a Cl vs := by obtain ⟨cl, A, q⟩ := A; exact ⟨cl, A.ext E, q⟩
theorem ArR.keep (A : ArR Z h a Cl vs) (K : Keep h h' ws) (q : a ∉ ws) : ArR Z h' a Cl vs := by obtain ⟨cl, A, r⟩ := A; exact ⟨cl, ⟨K.2.1 a cl A.1 q, A.2⟩, r⟩
theorem ArR.other (A : ArR Z h a Cl vs) (W : Wr h h' b sl w) (q : a ≠ b) : ArR Z h' a Cl vs := by obtain ⟨cl, A, r⟩ := A; exact ⟨cl, A.other W q, r⟩
theorem ArR.set (A : ArR Z h a Cl vs) (W : Wr h h' a sl w) : ArR Z h' a Cl (vs.set sl w) := by
  obtain ⟨cl, A, r, q⟩ := A; exact ⟨_, A.same W, set_slots r _ _, q⟩
theorem ArR.new {cA : ClassId} {z : Int32} (A : Arr Z h a (newA cA (.object Cl) z) (.object Cl)) (O : Ovr Z cA Cl) : ArR Z h a Cl (List.replicate z.toNatClampNeg .null) := ⟨_, A, by simp [newA, defaultValue], O⟩
theorem ArR.sto (A : ArR Z h a Cl vs) {y : Addr} (E : Exa Z h y Cl) : Sto Z h a (.ref y) := by
  obtain ⟨cl, A, -, q⟩ := A; exact Sto.ofV A rfl q (Ins.self E)
theorem Keep.app (K : Keep h h' ws) {h2 : Heap} {ws2 ws3 : List Addr} (K' : Keep h' h2 ws2) (q1 : ∀ x ∈ ws, x ∈ ws3 ∨ h.size ≤ x) (q : ∀ x ∈ ws2, x ∈ ws3 ∨ h.size ≤ x) : Keep h h2 ws3 := by
  refine Keep.trans (ws := ws3) ⟨K.1, fun x c r z => ?_, K.2.2⟩ K' q
  refine K.2.1 x c r fun y => ?_
  rcases q1 x y with u | u
  · exact z u
  · exact absurd (Array.getElem?_eq_some_iff.mp r).1 (Nat.not_lt.mpr u)
end Facts
section Rules2
variable {p : Program} {l : Launch} {e : Env} {R : Room} {s : State} {m : MethodId} {args : Array Value} {below : List Frame} {meth : Method} {c : Code} {n0 cM sM : Nat} {Q : Option Value → Heap → Prop} {h : Heap} {cells slots : Nat}
variable {Z : State} {own nm : String} {bytes : ByteArray} {ml : Nat} {rt : Option FieldType} {a0 : Array Value}
theorem wA_iaload (C : Cx p s m meth c Z own bytes ml rt nm) {pc pc' : Nat} {Ls : Array Slot} {st : List Value} {a : Addr} {vs : List Value} {j : Int32} {v : Value} (hd : decode bytes pc = .ok (.iaload, 1)) (hp : pc + 1 = pc') (A : Ar Z h a .int vs) (hj : ¬ j < 0) (hv : vs[j.toNatClampNeg]? = some v)
    (K : Wp p l e R s m args below meth c n0 cM sM Q h cells slots (mkF m pc' Ls (v :: st))) : Wp p l e R s m args below meth c n0 cM sM Q h cells slots (mkF m pc Ls (.int j :: .ref a :: st)) := by
  obtain ⟨cl, A, r⟩ := A
  exact w_iaload C hd hp A (Ar.nin r hj (List.getElem?_eq_some_iff.mp hv).1) (Ar.at r hv) K
theorem wA_laload (C : Cx p s m meth c Z own bytes ml rt nm) {pc pc' : Nat} {Ls : Array Slot} {st : List Value} {a : Addr} {vs : List Value} {j : Int32} {v : Value} (hd : decode bytes pc = .ok (.laload, 1)) (hp : pc + 1 = pc') (A : Ar Z h a .long vs) (hj : ¬ j < 0) (hv : vs[j.toNatClampNeg]? = some v)
    (K : Wp p l e R s m args below meth c n0 cM sM Q h cells slots (mkF m pc' Ls (v :: st))) : Wp p l e R s m args below meth c n0 cM sM Q h cells slots (mkF m pc Ls (.int j :: .ref a :: st)) := by
  obtain ⟨cl, A, r⟩ := A
  exact w_laload C hd hp A (Ar.nin r hj (List.getElem?_eq_some_iff.mp hv).1) (Ar.at r hv) K
theorem wA_caload (C : Cx p s m meth c Z own bytes ml rt nm) {pc pc' : Nat} {Ls : Array Slot} {st : List Value} {a : Addr} {vs : List Value} {j : Int32} {v : Value} (hd : decode bytes pc = .ok (.caload, 1)) (hp : pc + 1 = pc') (A : Ar Z h a .char vs) (hj : ¬ j < 0) (hv : vs[j.toNatClampNeg]? = some v)
    (K : Wp p l e R s m args below meth c n0 cM sM Q h cells slots (mkF m pc' Ls (v :: st))) : Wp p l e R s m args below meth c n0 cM sM Q h cells slots (mkF m pc Ls (.int j :: .ref a :: st)) := by
  obtain ⟨cl, A, r⟩ := A
  exact w_caload C hd hp A (Ar.nin r hj (List.getElem?_eq_some_iff.mp hv).1) (Ar.at r hv) K
theorem wA_baload (C : Cx p s m meth c Z own bytes ml rt nm) {pc pc' : Nat} {Ls : Array Slot} {st : List Value} {a : Addr} {vs : List Value} {j : Int32} {v : Value} (hd : decode bytes pc = .ok (.baload, 1)) (hp : pc + 1 = pc') (A : Ar Z h a .byte vs) (hj : ¬ j < 0) (hv : vs[j.toNatClampNeg]? = some v)
    (K : Wp p l e R s m args below meth c n0 cM sM Q h cells slots (mkF m pc' Ls (v :: st))) : Wp p l e R s m args below meth c n0 cM sM Q h cells slots (mkF m pc Ls (.int j :: .ref a :: st)) := by
  obtain ⟨cl, A, r⟩ := A
  exact w_baload C hd hp A (Ar.nin r hj (List.getElem?_eq_some_iff.mp hv).1) (Ar.at r hv) K
theorem wA_aaload (C : Cx p s m meth c Z own bytes ml rt nm) {pc pc' : Nat} {Ls : Array Slot} {st : List Value} {a : Addr} {Cl : String} {vs : List Value} {j : Int32} {v : Value} (hd : decode bytes pc = .ok (.aaload, 1)) (hp : pc + 1 = pc') (A : ArR Z h a Cl vs) (hj : ¬ j < 0) (hv : vs[j.toNatClampNeg]? = some v)
    (K : Wp p l e R s m args below meth c n0 cM sM Q h cells slots (mkF m pc' Ls (v :: st))) : Wp p l e R s m args below meth c n0 cM sM Q h cells slots (mkF m pc Ls (.int j :: .ref a :: st)) := by
  obtain ⟨cl, A, r, -⟩ := A
  exact w_aaload C hd hp A rfl (Ar.nin r hj (List.getElem?_eq_some_iff.mp hv).1) (Ar.at r hv) K
theorem wA_iastore (C : Cx p s m meth c Z own bytes ml rt nm) {pc pc' : Nat} {Ls : Array Slot} {st : List Value} {a : Addr} {vs : List Value} {j : Int32} {x : Int32} (hd : decode bytes pc = .ok (.iastore, 1)) (hp : pc + 1 = pc') (g0 : n0 ≤ a) (A : Ar Z h a .int vs) (hj : ¬ j < 0) (hl : j.toNatClampNeg < vs.length)
    (K : ∀ h', Wr h h' a j.toNatClampNeg (.int x) → Ar Z h' a .int (vs.set j.toNatClampNeg (.int x)) → Wp p l e R s m args below meth c n0 cM sM Q h' cells slots (mkF m pc' Ls st)) : Wp p l e R s m args below meth c n0 cM sM Q h cells slots (mkF m pc Ls (.int x :: .int j :: .ref a :: st)) := by
  have A' := A
  obtain ⟨cl, A, r⟩ := A
  exact w_iastore C hd hp g0 A (Ar.nin r hj hl) (fun h' W => K h' W (A'.set W))
theorem wA_lastore (C : Cx p s m meth c Z own bytes ml rt nm) {pc pc' : Nat} {Ls : Array Slot} {st : List Value} {a : Addr} {vs : List Value} {j : Int32} {x : Int64} (hd : decode bytes pc = .ok (.lastore, 1)) (hp : pc + 1 = pc') (g0 : n0 ≤ a) (A : Ar Z h a .long vs) (hj : ¬ j < 0) (hl : j.toNatClampNeg < vs.length)
    (K : ∀ h', Wr h h' a j.toNatClampNeg (.long x) → Ar Z h' a .long (vs.set j.toNatClampNeg (.long x)) → Wp p l e R s m args below meth c n0 cM sM Q h' cells slots (mkF m pc' Ls st)) : Wp p l e R s m args below meth c n0 cM sM Q h cells slots (mkF m pc Ls (.long x :: .int j :: .ref a :: st)) := by
  have A' := A
  obtain ⟨cl, A, r⟩ := A
  exact w_lastore C hd hp g0 A (Ar.nin r hj hl) (fun h' W => K h' W (A'.set W))
theorem wA_castore (C : Cx p s m meth c Z own bytes ml rt nm) {pc pc' : Nat} {Ls : Array Slot} {st : List Value} {a : Addr} {vs : List Value} {j : Int32} {x : Int32} (hd : decode bytes pc = .ok (.castore, 1)) (hp : pc + 1 = pc') (g0 : n0 ≤ a) (A : Ar Z h a .char vs) (hj : ¬ j < 0) (hl : j.toNatClampNeg < vs.length)
    (K : ∀ h', Wr h h' a j.toNatClampNeg (.int (toCh x)) → Ar Z h' a .char (vs.set j.toNatClampNeg (.int (toCh x))) → Wp p l e R s m args below meth c n0 cM sM Q h' cells slots (mkF m pc' Ls st)) : Wp p l e R s m args below meth c n0 cM sM Q h cells slots (mkF m pc Ls (.int x :: .int j :: .ref a :: st)) := by
  have A' := A
  obtain ⟨cl, A, r⟩ := A
  exact w_castore C hd hp g0 A (Ar.nin r hj hl) (fun h' W => K h' W (A'.set W))
theorem wA_aastore (C : Cx p s m meth c Z own bytes ml rt nm) {pc pc' : Nat} {Ls : Array Slot} {st : List Value} {a : Addr} {Cl : String} {vs : List Value} {j : Int32} {v : Value} (hd : decode bytes pc = .ok (.aastore, 1)) (hp : pc + 1 = pc') (g0 : n0 ≤ a) (A : ArR Z h a Cl vs) (hj : ¬ j < 0) (hl : j.toNatClampNeg < vs.length) (F : Sto Z h a v)
    (K : ∀ h', Wr h h' a j.toNatClampNeg v → ArR Z h' a Cl (vs.set j.toNatClampNeg v) → Wp p l e R s m args below meth c n0 cM sM Q h' cells slots (mkF m pc' Ls st)) : Wp p l e R s m args below meth c n0 cM sM Q h cells slots (mkF m pc Ls (v :: .int j :: .ref a :: st)) := by
  have A' := A
  obtain ⟨cl, A, r, -⟩ := A
  exact w_aastore C hd hp g0 A (Ar.nin r hj hl) rfl F (fun h' W => K h' W (A'.set W))
theorem wA_alen (C : Cx p s m meth c Z own bytes ml rt nm) {pc pc' : Nat} {Ls : Array Slot} {st : List Value} {a : Addr} {ty : FieldType} {vs : List Value} {n : Int32} (hd : decode bytes pc = .ok (.arraylength, 1)) (hp : pc + 1 = pc') (A : Ar Z h a ty vs) (hn : vs.length.toInt32 = n)
    (K : Wp p l e R s m args below meth c n0 cM sM Q h cells slots (mkF m pc' Ls (.int n :: st))) : Wp p l e R s m args below meth c n0 cM sM Q h cells slots (mkF m pc Ls (.ref a :: st)) := by
  obtain ⟨cl, A, r⟩ := A
  exact w_alen C hd hp A (by rw [r]; simpa using hn) K
theorem wA_alenR (C : Cx p s m meth c Z own bytes ml rt nm) {pc pc' : Nat} {Ls : Array Slot} {st : List Value} {a : Addr} {Cl : String} {vs : List Value} {n : Int32} (hd : decode bytes pc = .ok (.arraylength, 1)) (hp : pc + 1 = pc') (A : ArR Z h a Cl vs) (hn : vs.length.toInt32 = n)
    (K : Wp p l e R s m args below meth c n0 cM sM Q h cells slots (mkF m pc' Ls (.int n :: st))) : Wp p l e R s m args below meth c n0 cM sM Q h cells slots (mkF m pc Ls (.ref a :: st)) := by
  obtain ⟨cl, A, r, -⟩ := A
  exact w_alen C hd hp A (by rw [r]; simpa using hn) K
theorem wA_newP (C : Cx p s m meth c Z own bytes ml rt nm) {pc pc' ce' sl' : Nat} {Ls : Array Slot} {st : List Value} {aty : ArrayType} {n : Int32} {cap : Nat} (w : (Jvm.Cond.arrayClass (newarray.typeOf aty)).before a0 Z = true) (hd : decode bytes pc = .ok (.newarray aty, 2)) (hp : pc + 2 = pc') (hn : ¬ n < 0) (hcap : n.toNatClampNeg ≤ cap) (hbig : cap * 8 ≤ 536870912) (hc1 : cells + 1 = ce') (hl1 : slots + cap = sl') (hc : ce' ≤ R.cells) (hl : sl' ≤ R.slots)
    (K : ∀ h' a, a = h.size → Ext h h' → Ar Z h' a (newarray.typeOf aty) (List.replicate n.toNatClampNeg (defaultValue (newarray.typeOf aty))) → Wp p l e R s m args below meth c n0 cM sM Q h' ce' sl' (mkF m pc' Ls (.ref a :: st))) : Wp p l e R s m args below meth c n0 cM sM Q h cells slots (mkF m pc Ls (.int n :: st)) :=
  w_newP C w hd hp hn hcap hbig hc1 hl1 hc hl (fun h' a cA e E A => K h' a e E (Ar.new A))
theorem wA_newR (C : Cx p s m meth c Z own bytes ml rt nm) {pc pc' ce' sl' : Nat} {Ls : Array Slot} {st : List Value} {Cl : String} {i : Nat} {n : Int32} {cap : Nat} (w1 : (Jvm.Cond.classLink own i Cl).before a0 Z = true) (w2 : (Jvm.Cond.arrayOver (.object Cl)).before a0 Z = true) (hd : decode bytes pc = .ok (.anewarray i, 3)) (hp : pc + 3 = pc') (hn : ¬ n < 0) (hcap : n.toNatClampNeg ≤ cap) (hbig : cap * 8 ≤ 536870912) (hc1 : cells + 1 = ce') (hl1 : slots + cap = sl') (hc : ce' ≤ R.cells) (hl : sl' ≤ R.slots)
    (K : ∀ h' a, a = h.size → Ext h h' → ArR Z h' a Cl (List.replicate n.toNatClampNeg .null) → Wp p l e R s m args below meth c n0 cM sM Q h' ce' sl' (mkF m pc' Ls (.ref a :: st))) : Wp p l e R s m args below meth c n0 cM sM Q h cells slots (mkF m pc Ls (.int n :: st)) :=
  w_newR C w1 w2 hd hp hn hcap hbig hc1 hl1 hc hl (fun h' a cA e E A O => K h' a e E (ArR.new A O))
end Rules2
theorem cmpJ_gt (x y : Int64) : (0 < cmpJ x y) = (y < x) := propext (lw_gt x y)
theorem cmpJ_lt (x y : Int64) : (cmpJ x y < 0) = (x < y) := propext (lw_lt x y)
theorem cmpJ_eq (x y : Int64) : (cmpJ x y = 0) = (x = y) := propext (lw_eq x y)
theorem toCh_rng (x : Int32) : 0 ≤ (toCh x).toInt ∧ (toCh x).toInt < 65536 := ⟨(c_i2c x).2.1, (c_i2c x).2.2⟩
theorem toCh_mod (x : Int32) : ((toCh x).toInt - x.toInt) % 65536 = 0 := (c_i2c x).1
theorem toCh_id {x : Int32} (h0 : 0 ≤ x.toInt) (h1 : x.toInt < 65536) : toCh x = x := by
  apply Int32.toInt_inj.mp
  have := toCh_rng x; have := toCh_mod x
  omega
/-- an int in 0 .. n-1 is one of the n numbers -/
theorem small_int {n : Nat} {x : Int32} (h0 : 0 ≤ x.toInt) (h1 : x.toInt < n) : ∃ k : Fin n, x = Int32.ofInt (k.1 : Int) := by
  refine ⟨⟨x.toInt.toNat, by omega⟩, ?_⟩
  show x = Int32.ofInt ((x.toInt.toNat : Nat) : Int)
  rw [Int.toNat_of_nonneg h0, Int32.ofInt_toInt]
end Jvm.Own
namespace Jvm.Pilot.@@N@@
open Jvm Jvm.ClassFile Sem Op Lib Jvm.Free Jvm.Stand Jvm.LawKit Jvm.RoadKit Jvm.Own Bundle Jvm.Pilot.@@N@@.Jvm.D
theorem tw {tabs : List Jvm.Cond} {a0 : Array Value} {Z : State} (hw : ∀ d ∈ tabs, d.before a0 Z = true) (i : Nat) {d : Jvm.Cond} (h : tabs[i]? = some d) : d.before a0 Z = true := hw _ (List.mem_of_getElem? h)
theorem pd_0 : parseMethodDescriptor "(I)I" = some ⟨[.int], some .int⟩ := by decide +kernel
theorem pd_1 : parseMethodDescriptor "(II)V" = some ⟨[.int, .int], none⟩ := by decide +kernel
theorem pd_2 : parseMethodDescriptor "(I)V" = some ⟨[.int], none⟩ := by decide +kernel
theorem pd_3 : parseMethodDescriptor "(Lcom/example/aboxdb/aboxdb/Partition;[II)V" = some ⟨[(.object "com/example/aboxdb/aboxdb/Partition"), (.array .int), .int], none⟩ := by decide +kernel
theorem obj_Par {Z : State} {a0 : Array Value} (hw : ∀ d ∈ tables_1, d.before a0 Z = true) {h : Heap} {a : Addr} (A : Exa Z h a "com/example/aboxdb/aboxdb/Partition") (D : ∀ {O nm d : String} {ty : FieldType}, Laid Z a0 "com/example/aboxdb/aboxdb/Partition" O nm d → parseFieldDescriptor d = some ty → Fld Z h a O nm d (defaultValue ty)) :
    Obj Z h a "com/example/aboxdb/aboxdb/Partition" [("parents", "[I", .null)] := by
  refine ⟨A, fun i f q => ?_, fun i j f g q r z => ?_⟩
  · match i, q with
    | 0, q => cases q; exact D (Or.inr (tw hw 11 rfl)) (ty := (.array .int)) (by decide)
    | (k + 1), q => simp at q
  · match i, j, q, r, z with
    | 0, 0, q, r, z => exact absurd rfl z
    | (k + 1), j, q, r, z => simp at q
    | 0, (k + 1), q, r, z => simp at r
def at5 (l : List Int32) (j : Int32) : Int32 := l.getD j.toNatClampNeg 0
def st5 (l : List Int32) (j x : Int32) : List Int32 := l.set j.toNatClampNeg x
def R5 (j : Int32) : Prop := 0 ≤ j.toInt ∧ j.toInt < 5
theorem R5.nn {j : Int32} (h : R5 j) : ¬ j < 0 := by
  have e0 : (0 : Int32).toInt = 0 := by decide
  rw [Int32.lt_iff_toInt_lt, e0]; have := h.1; omega
theorem R5.lt {j : Int32} (h : R5 j) : j.toNatClampNeg < 5 := by
  have h1 := h.1; have h2 := h.2
  simp only [Int32.toNatClampNeg]; omega
theorem R5.inj {i j : Int32} (hi : R5 i) (hj : R5 j) (e : i.toNatClampNeg = j.toNatClampNeg) : i = j := by
  have h1 := hi.1; have h2 := hj.1
  simp only [Int32.toNatClampNeg] at e
  exact Int32.toInt_inj.mp (by omega)
theorem map_get {l : List Int32} {j : Int32} (hl : l.length = 5) (h : R5 j) : (l.map Value.int)[j.toNatClampNeg]? = some (.int (at5 l j)) := by
  have := h.lt
  rw [List.getElem?_map, List.getElem?_eq_getElem (by omega)]
  simp [at5, List.getD, List.getElem?_eq_getElem (show j.toNatClampNeg < l.length by omega)]
theorem map_len {l : List Int32} {j : Int32} (hl : l.length = 5) (h : R5 j) : j.toNatClampNeg < (l.map Value.int).length := by
  rw [List.length_map, hl]; exact h.lt
theorem len_st {l : List Int32} {j x : Int32} (hl : l.length = 5) : (st5 l j x).length = 5 := by simp [st5, hl]
theorem at_same {l : List Int32} {j x : Int32} (hl : l.length = 5) (h : R5 j) : at5 (st5 l j x) j = x := by
  have := h.lt
  simp [at5, st5, List.getD, List.getElem?_set_self (show j.toNatClampNeg < l.length by omega)]
theorem at_other {l : List Int32} {i j x : Int32} (hi : R5 i) (hj : R5 j) (ne : i ≠ j) : at5 (st5 l j x) i = at5 l i := by
  simp [at5, st5, List.getD, List.getElem?_set_ne (fun e => ne (R5.inj hi hj e.symm))]
theorem ar_set {Z : State} {h : Heap} {a : Addr} {l : List Int32} {j x : Int32} (A : Jvm.Own.Ar Z h a .int ((l.map Value.int).set j.toNatClampNeg (.int x))) : Jvm.Own.Ar Z h a .int ((st5 l j x).map Value.int) := by
  rw [← List.map_set] at A; exact A
def InvR (ps r : List Int32) (rank : Int32 → Nat) : Prop := ps.length = 5 ∧ r.length = 5 ∧ ∀ k, R5 k → R5 (at5 ps k) ∧ R5 (at5 r k) ∧ ((at5 ps k = k ∧ at5 r k = k) ∨ (at5 ps k ≠ k ∧ rank (at5 ps k) < rank k ∧ at5 r (at5 ps k) = at5 r k))
theorem InvR.par {ps r : List Int32} {rank : Int32 → Nat} (I : InvR ps r rank) {k : Int32} (hk : R5 k) : R5 (at5 ps k) := (I.2.2 k hk).1
theorem InvR.rr {ps r : List Int32} {rank : Int32 → Nat} (I : InvR ps r rank) {k : Int32} (hk : R5 k) : R5 (at5 r k) := (I.2.2 k hk).2.1
theorem InvR.fix {ps r : List Int32} {rank : Int32 → Nat} (I : InvR ps r rank) {k : Int32} (hk : R5 k) (q : at5 ps k = k) : at5 r k = k := by
  rcases (I.2.2 k hk).2.2 with h | h
  · exact h.2
  · exact absurd q h.1
theorem InvR.step {ps r : List Int32} {rank : Int32 → Nat} (I : InvR ps r rank) {k : Int32} (hk : R5 k) (q : ¬ at5 ps k = k) : rank (at5 ps k) < rank k ∧ at5 r (at5 ps k) = at5 r k := by
  rcases (I.2.2 k hk).2.2 with h | h
  · exact absurd h.1 q
  · exact h.2
theorem InvR.step2 {ps r : List Int32} {rank : Int32 → Nat} (I : InvR ps r rank) {k : Int32} (hk : R5 k) (q : ¬ at5 ps k = k) : rank (at5 ps (at5 ps k)) < rank k ∧ at5 r (at5 ps (at5 ps k)) = at5 r k := by
  have h1 := I.step hk q
  by_cases z : at5 ps (at5 ps k) = at5 ps k
  · rw [z]; exact h1
  · have h2 := I.step (I.par hk) z
    exact ⟨Nat.lt_trans h2.1 h1.1, h2.2.trans h1.2⟩
theorem InvR.half {ps r : List Int32} {rank : Int32 → Nat} (I : InvR ps r rank) {k : Int32} (hk : R5 k) (q : ¬ at5 ps k = k) : InvR (st5 ps k (at5 ps (at5 ps k))) r rank := by
  have h2 := I.step2 hk q
  refine ⟨len_st I.1, I.2.1, fun i hi => ?_⟩
  by_cases z : i = k
  · subst z
    rw [at_same I.1 hi]
    refine ⟨I.par (I.par hi), I.rr hi, Or.inr ⟨fun e => ?_, h2.1, h2.2⟩⟩
    rw [e] at h2; exact Nat.lt_irrefl _ h2.1
  · rw [at_other hi hk z]; exact I.2.2 i hi
theorem InvR.root {ps r : List Int32} {rank : Int32 → Nat} (I : InvR ps r rank) : ∀ (n : Nat) (k : Int32), rank k < n → R5 k → at5 r (at5 r k) = at5 r k ∧ at5 ps (at5 r k) = at5 r k := by
  intro n
  induction n with
  | zero => intro k h; exact absurd h (Nat.not_lt_zero _)
  | succ n ih =>
    intro k h hk
    by_cases q : at5 ps k = k
    · have e := I.fix hk q
      rw [e, e]; exact ⟨rfl, q⟩
    · have s := I.step hk q
      rw [← s.2]
      exact ih _ (by omega) (I.par hk)
def joinL (r : List Int32) (a b : Int32) : List Int32 := r.map fun x => if x = at5 r a then at5 r b else x
theorem at_join {r : List Int32} {a b k : Int32} (hl : r.length = 5) (hk : R5 k) : at5 (joinL r a b) k = if at5 r k = at5 r a then at5 r b else at5 r k := by
  have := hk.lt
  simp only [at5, joinL, List.getD, List.getElem?_map, List.getElem?_eq_getElem (show k.toNatClampNeg < r.length by omega), Option.map_some, Option.getD_some]
  rfl
theorem InvR.join {ps r : List Int32} {rank : Int32 → Nat} (I : InvR ps r rank) {a b : Int32} (ha : R5 a) (hb : R5 b) : ∃ rank', InvR (st5 ps (at5 r a) (at5 r b)) (joinL r a b) rank' := by
  have qa := I.root _ a (Nat.lt_succ_self _) ha
  have qb := I.root _ b (Nat.lt_succ_self _) hb
  have hra := I.rr ha; have hrb := I.rr hb
  refine ⟨fun k => if at5 r k = at5 r a ∧ at5 r a ≠ at5 r b then rank k + (rank (at5 r b) + 1) else rank k, len_st I.1, by simp [joinL, I.2.1], fun k hk => ?_⟩
  rw [at_join I.2.1 hk]
  by_cases z : k = at5 r a
  · subst z
    rw [at_same I.1 hk, if_pos qa.1]
    refine ⟨hrb, hrb, ?_⟩
    by_cases e : at5 r a = at5 r b
    · left; exact ⟨e.symm, e.symm⟩
    · right
      refine ⟨fun w => e w.symm, ?_, ?_⟩
      · show (if at5 r (at5 r b) = at5 r a ∧ at5 r a ≠ at5 r b then _ else _) < (if at5 r (at5 r a) = at5 r a ∧ at5 r a ≠ at5 r b then _ else _)
        rw [if_neg (fun w => e (w.1.symm.trans qb.1)), if_pos ⟨qa.1, e⟩]; omega
      · rw [at_join I.2.1 hrb, qb.1]; split <;> rfl
  · rw [at_other hk hra z]
    have hp := I.par hk
    refine ⟨hp, by split <;> first | exact hrb | exact I.rr hk, ?_⟩
    rcases (I.2.2 k hk).2.2 with h | h
    · left
      refine ⟨h.1, ?_⟩
      rw [if_neg (fun w => z (h.2.symm.trans w))]; exact h.2
    · right
      refine ⟨h.1, ?_, ?_⟩
      · show (if at5 r (at5 ps k) = at5 r a ∧ at5 r a ≠ at5 r b then _ else _) < (if at5 r k = at5 r a ∧ at5 r a ≠ at5 r b then _ else _)
        rw [h.2.2]; split <;> omega
      · rw [at_join I.2.1 hp, h.2.2]
def upd (r : List Int32) (k ra rb : Int32) : List Int32 := if at5 r k = ra then st5 r k rb else r
theorem len_upd {r : List Int32} {k ra rb : Int32} (hl : r.length = 5) : (upd r k ra rb).length = 5 := by
  unfold upd; split
  · exact len_st hl
  · exact hl
theorem upd_all {r : List Int32} {ra rb : Int32} (hl : r.length = 5) : upd (upd (upd (upd (upd r 0 ra rb) 1 ra rb) 2 ra rb) 3 ra rb) 4 ra rb = r.map fun x => if x = ra then rb else x := by
  match r, hl with
  | [r0, r1, r2, r3, r4], _ =>
    have u0 : ∀ (x0 x1 x2 x3 x4 : Int32), upd [x0, x1, x2, x3, x4] 0 ra rb = [if x0 = ra then rb else x0, x1, x2, x3, x4] := fun x0 x1 x2 x3 x4 => by
      show (if x0 = ra then [rb, x1, x2, x3, x4] else [x0, x1, x2, x3, x4]) = _
      split <;> rfl
    have u1 : ∀ (x0 x1 x2 x3 x4 : Int32), upd [x0, x1, x2, x3, x4] 1 ra rb = [x0, if x1 = ra then rb else x1, x2, x3, x4] := fun x0 x1 x2 x3 x4 => by
      show (if x1 = ra then [x0, rb, x2, x3, x4] else [x0, x1, x2, x3, x4]) = _
      split <;> rfl
    have u2 : ∀ (x0 x1 x2 x3 x4 : Int32), upd [x0, x1, x2, x3, x4] 2 ra rb = [x0, x1, if x2 = ra then rb else x2, x3, x4] := fun x0 x1 x2 x3 x4 => by
      show (if x2 = ra then [x0, x1, rb, x3, x4] else [x0, x1, x2, x3, x4]) = _
      split <;> rfl
    have u3 : ∀ (x0 x1 x2 x3 x4 : Int32), upd [x0, x1, x2, x3, x4] 3 ra rb = [x0, x1, x2, if x3 = ra then rb else x3, x4] := fun x0 x1 x2 x3 x4 => by
      show (if x3 = ra then [x0, x1, x2, rb, x4] else [x0, x1, x2, x3, x4]) = _
      split <;> rfl
    have u4 : ∀ (x0 x1 x2 x3 x4 : Int32), upd [x0, x1, x2, x3, x4] 4 ra rb = [x0, x1, x2, x3, if x4 = ra then rb else x4] := fun x0 x1 x2 x3 x4 => by
      show (if x4 = ra then [x0, x1, x2, x3, rb] else [x0, x1, x2, x3, x4]) = _
      split <;> rfl
    rw [u0, u1, u2, u3, u4]; rfl
theorem d1_0 : decode prog_28_method_1_code 0 = .ok (.aload_n 0, 1) := by decide +kernel
theorem d1_1 : decode prog_28_method_1_code 1 = .ok (.invokespecial 1, 3) := by decide +kernel
theorem d1_4 : decode prog_28_method_1_code 4 = .ok (.aload_n 0, 1) := by decide +kernel
theorem d1_5 : decode prog_28_method_1_code 5 = .ok (.iload_n 1, 1) := by decide +kernel
theorem d1_6 : decode prog_28_method_1_code 6 = .ok (.newarray .int, 2) := by decide +kernel
theorem d1_8 : decode prog_28_method_1_code 8 = .ok (.putfield 7, 3) := by decide +kernel
theorem d1_11 : decode prog_28_method_1_code 11 = .ok (.iconst 0, 1) := by decide +kernel
theorem d1_12 : decode prog_28_method_1_code 12 = .ok (.istore_n 2, 1) := by decide +kernel
theorem d1_13 : decode prog_28_method_1_code 13 = .ok (.iload_n 2, 1) := by decide +kernel
theorem d1_14 : decode prog_28_method_1_code 14 = .ok (.iload_n 1, 1) := by decide +kernel
theorem d1_15 : decode prog_28_method_1_code 15 = .ok (.if_icmp .ge 16, 3) := by decide +kernel
theorem d1_18 : decode prog_28_method_1_code 18 = .ok (.aload_n 0, 1) := by decide +kernel
theorem d1_19 : decode prog_28_method_1_code 19 = .ok (.getfield 7, 3) := by decide +kernel
theorem d1_22 : decode prog_28_method_1_code 22 = .ok (.iload_n 2, 1) := by decide +kernel
theorem d1_23 : decode prog_28_method_1_code 23 = .ok (.iload_n 2, 1) := by decide +kernel
theorem d1_24 : decode prog_28_method_1_code 24 = .ok (.iastore, 1) := by decide +kernel
theorem d1_25 : decode prog_28_method_1_code 25 = .ok (.iinc 2 1, 3) := by decide +kernel
theorem d1_28 : decode prog_28_method_1_code 28 = .ok (.goto (-15), 3) := by decide +kernel
theorem d1_31 : decode prog_28_method_1_code 31 = .ok (.return_, 1) := by decide +kernel
def rm_init : Room := { frames := 1, cells := 1, slots := 5, locals := 12 }
theorem pf_init : plainFor (⟨"com/example/aboxdb/aboxdb/Partition", "<init>", "(I)V"⟩ : MethodName) = true := plainFor_of_name (by first | (simp [plainName, overriddenIn]; done) | decide +kernel)
set_option maxRecDepth 65536 in
set_option maxHeartbeats 40000000 in
theorem ct_init {l : Launch} {Z : State} {a0 : Array Value} (hw : ∀ d ∈ tables_1, d.before a0 Z = true) (h0 : Heap) (n0 : Nat) (b : Addr) (hz : n0 ≤ h0.size) (O_b : Obj Z h0 b "com/example/aboxdb/aboxdb/Partition" [("parents", "[I", .null)]) (g_b : n0 ≤ b) :
    Ct l Z (⟨"com/example/aboxdb/aboxdb/Partition", "<init>", "(I)V"⟩ : MethodName) prog_28_method_1_code 3 (Option.none : Option Jvm.ClassFile.FieldType) [] rm_init #[.ref b, .int (5 : Int32)] h0 n0 (fun v h => v = none ∧ ∃ pa, h0.size ≤ pa ∧ Obj Z h b "com/example/aboxdb/aboxdb/Partition" [("parents", "[I", .ref pa)] ∧ Ar Z h pa .int [.int (0 : Int32), .int (1 : Int32), .int (2 : Int32), .int (3 : Int32), .int (4 : Int32)] ∧ Keep h0 h [b]) := by
  refine Ct.of (Ls := #[.val (.ref b), .val (.int (5 : Int32)), .unset]) pf_init (fun m => by first | (simp [entryFrame, mkF, argsToLocals, Value.category, maxLocals]; done) | rfl) ?_
  intro p e s m below meth c C
  have hk : Keep h0 h0 [b] := Keep.refl _ _
  refine w_aloadN (pc' := 1) C d1_0 rfl rfl rfl ?_
  refine w_initO (pc' := 4) (W := 0) C (tw hw 6 rfl) (tw hw 7 rfl) (tw hw 8 rfl) d1_1 rfl rfl (by decide) (Nat.le_of_eq rfl) (by decide) ?_
  refine w_aloadN (pc' := 5) C d1_4 rfl rfl rfl ?_
  refine w_iloadN (pc' := 6) C d1_5 rfl rfl ?_
  refine wA_newP (pc' := 8) (cap := 5) (ce' := 1) (sl' := 5) C (tw hw 9 rfl) d1_6 rfl (by decide) (by decide) (by decide) rfl rfl (by decide) (by decide) (fun h1 a1 e1 E1 A1 => ?_)
  have g_a1 : n0 ≤ a1 := by rw [e1]; exact hz
  have fr_a1 : h0.size ≤ a1 := by rw [e1]; exact hk.1
  have ne_b_a1 : b ≠ a1 := by rw [e1]; exact Nat.ne_of_lt O_b.lt
  have O_b := O_b.ext E1
  have hz : n0 ≤ h1.size := Nat.le_trans hz E1.1
  have hk := hk.ext E1
  have O_a1 : Ar Z h1 a1 .int [.int (0 : Int32), .int (0 : Int32), .int (0 : Int32), .int (0 : Int32), .int (0 : Int32)] := A1
  refine w_putF (pc' := 11) (ty := (.array .int)) C (tw hw 10 rfl) (Or.inr ⟨(tw hw 11 rfl), rfl, rfl⟩) (tw hw 1 rfl) (by decide) rfl rfl d1_8 rfl g_b (O_b.fld 0 rfl) O_b.1 (fun h2 W2 => ?_)
  have O_b : Obj Z h2 b "com/example/aboxdb/aboxdb/Partition" [("parents", "[I", .ref a1)] := O_b.put 0 rfl W2 rfl
  have O_a1 := O_a1.other W2 (Ne.symm ne_b_a1)
  have hz : n0 ≤ h2.size := by rw [W2.size]; exact hz
  have hk := hk.wr W2 (Or.inl (by simp))
  refine w_iconst (pc' := 12) (x := (0 : Int32)) C d1_11 rfl rfl ?_
  refine w_istoreN (pc' := 13) (Ls' := #[.val (.ref b), .val (.int (5 : Int32)), .val (.int (0 : Int32))]) C d1_12 rfl rfl ?_
  refine w_iloadN (pc' := 14) C d1_13 rfl rfl ?_
  refine w_iloadN (pc' := 15) C d1_14 rfl rfl ?_
  refine w_icmp_ge (pcT := 31) (pcF := 18) C d1_15 (by decide) (by decide) rfl (fun q => absurd q (by decide)) (fun q15 => ?_)
  refine w_aloadN (pc' := 19) C d1_18 rfl rfl rfl ?_
  refine w_getF (pc' := 22) C (tw hw 10 rfl) d1_19 rfl (O_b.fld 0 rfl) ?_
  refine w_iloadN (pc' := 23) C d1_22 rfl rfl ?_
  refine w_iloadN (pc' := 24) C d1_23 rfl rfl ?_
  refine wA_iastore (pc' := 25) C d1_24 rfl g_a1 O_a1 (by decide) (Nat.le_of_ble_eq_true rfl) (fun h3 W3 A3 => ?_)
  have O_a1 : Ar Z h3 a1 .int [.int (0 : Int32), .int (0 : Int32), .int (0 : Int32), .int (0 : Int32), .int (0 : Int32)] := A3
  have O_b := O_b.other W3 ne_b_a1
  have hz : n0 ≤ h3.size := by rw [W3.size]; exact hz
  have hk := hk.wr W3 (Or.inr fr_a1)
  refine w_iincE (pc' := 28) (z := (1 : Int32)) (Ls' := #[.val (.ref b), .val (.int (5 : Int32)), .val (.int (1 : Int32))]) C d1_25 rfl (by decide) rfl rfl ?_
  refine w_goto (pc' := 13) C d1_28 (by decide) (by decide) ?_
  refine w_iloadN (pc' := 14) C d1_13 rfl rfl ?_
  refine w_iloadN (pc' := 15) C d1_14 rfl rfl ?_
  refine w_icmp_ge (pcT := 31) (pcF := 18) C d1_15 (by decide) (by decide) rfl (fun q => absurd q (by decide)) (fun q15 => ?_)
  refine w_aloadN (pc' := 19) C d1_18 rfl rfl rfl ?_
  refine w_getF (pc' := 22) C (tw hw 10 rfl) d1_19 rfl (O_b.fld 0 rfl) ?_
  refine w_iloadN (pc' := 23) C d1_22 rfl rfl ?_
  refine w_iloadN (pc' := 24) C d1_23 rfl rfl ?_
  refine wA_iastore (pc' := 25) C d1_24 rfl g_a1 O_a1 (by decide) (Nat.le_of_ble_eq_true rfl) (fun h4 W4 A4 => ?_)
  have O_a1 : Ar Z h4 a1 .int [.int (0 : Int32), .int (1 : Int32), .int (0 : Int32), .int (0 : Int32), .int (0 : Int32)] := A4
  have O_b := O_b.other W4 ne_b_a1
  have hz : n0 ≤ h4.size := by rw [W4.size]; exact hz
  have hk := hk.wr W4 (Or.inr fr_a1)
  refine w_iincE (pc' := 28) (z := (2 : Int32)) (Ls' := #[.val (.ref b), .val (.int (5 : Int32)), .val (.int (2 : Int32))]) C d1_25 rfl (by decide) rfl rfl ?_
  refine w_goto (pc' := 13) C d1_28 (by decide) (by decide) ?_
  refine w_iloadN (pc' := 14) C d1_13 rfl rfl ?_
  refine w_iloadN (pc' := 15) C d1_14 rfl rfl ?_
  refine w_icmp_ge (pcT := 31) (pcF := 18) C d1_15 (by decide) (by decide) rfl (fun q => absurd q (by decide)) (fun q15 => ?_)
  refine w_aloadN (pc' := 19) C d1_18 rfl rfl rfl ?_
  refine w_getF (pc' := 22) C (tw hw 10 rfl) d1_19 rfl (O_b.fld 0 rfl) ?_
  refine w_iloadN (pc' := 23) C d1_22 rfl rfl ?_
  refine w_iloadN (pc' := 24) C d1_23 rfl rfl ?_
  refine wA_iastore (pc' := 25) C d1_24 rfl g_a1 O_a1 (by decide) (Nat.le_of_ble_eq_true rfl) (fun h5 W5 A5 => ?_)
  have O_a1 : Ar Z h5 a1 .int [.int (0 : Int32), .int (1 : Int32), .int (2 : Int32), .int (0 : Int32), .int (0 : Int32)] := A5
  have O_b := O_b.other W5 ne_b_a1
  have hz : n0 ≤ h5.size := by rw [W5.size]; exact hz
  have hk := hk.wr W5 (Or.inr fr_a1)
  refine w_iincE (pc' := 28) (z := (3 : Int32)) (Ls' := #[.val (.ref b), .val (.int (5 : Int32)), .val (.int (3 : Int32))]) C d1_25 rfl (by decide) rfl rfl ?_
  refine w_goto (pc' := 13) C d1_28 (by decide) (by decide) ?_
  refine w_iloadN (pc' := 14) C d1_13 rfl rfl ?_
  refine w_iloadN (pc' := 15) C d1_14 rfl rfl ?_
  refine w_icmp_ge (pcT := 31) (pcF := 18) C d1_15 (by decide) (by decide) rfl (fun q => absurd q (by decide)) (fun q15 => ?_)
  refine w_aloadN (pc' := 19) C d1_18 rfl rfl rfl ?_
  refine w_getF (pc' := 22) C (tw hw 10 rfl) d1_19 rfl (O_b.fld 0 rfl) ?_
  refine w_iloadN (pc' := 23) C d1_22 rfl rfl ?_
  refine w_iloadN (pc' := 24) C d1_23 rfl rfl ?_
  refine wA_iastore (pc' := 25) C d1_24 rfl g_a1 O_a1 (by decide) (Nat.le_of_ble_eq_true rfl) (fun h6 W6 A6 => ?_)
  have O_a1 : Ar Z h6 a1 .int [.int (0 : Int32), .int (1 : Int32), .int (2 : Int32), .int (3 : Int32), .int (0 : Int32)] := A6
  have O_b := O_b.other W6 ne_b_a1
  have hz : n0 ≤ h6.size := by rw [W6.size]; exact hz
  have hk := hk.wr W6 (Or.inr fr_a1)
  refine w_iincE (pc' := 28) (z := (4 : Int32)) (Ls' := #[.val (.ref b), .val (.int (5 : Int32)), .val (.int (4 : Int32))]) C d1_25 rfl (by decide) rfl rfl ?_
  refine w_goto (pc' := 13) C d1_28 (by decide) (by decide) ?_
  refine w_iloadN (pc' := 14) C d1_13 rfl rfl ?_
  refine w_iloadN (pc' := 15) C d1_14 rfl rfl ?_
  refine w_icmp_ge (pcT := 31) (pcF := 18) C d1_15 (by decide) (by decide) rfl (fun q => absurd q (by decide)) (fun q15 => ?_)
  refine w_aloadN (pc' := 19) C d1_18 rfl rfl rfl ?_
  refine w_getF (pc' := 22) C (tw hw 10 rfl) d1_19 rfl (O_b.fld 0 rfl) ?_
  refine w_iloadN (pc' := 23) C d1_22 rfl rfl ?_
  refine w_iloadN (pc' := 24) C d1_23 rfl rfl ?_
  refine wA_iastore (pc' := 25) C d1_24 rfl g_a1 O_a1 (by decide) (Nat.le_of_ble_eq_true rfl) (fun h7 W7 A7 => ?_)
  have O_a1 : Ar Z h7 a1 .int [.int (0 : Int32), .int (1 : Int32), .int (2 : Int32), .int (3 : Int32), .int (4 : Int32)] := A7
  have O_b := O_b.other W7 ne_b_a1
  have hz : n0 ≤ h7.size := by rw [W7.size]; exact hz
  have hk := hk.wr W7 (Or.inr fr_a1)
  refine w_iincE (pc' := 28) (z := (5 : Int32)) (Ls' := #[.val (.ref b), .val (.int (5 : Int32)), .val (.int (5 : Int32))]) C d1_25 rfl (by decide) rfl rfl ?_
  refine w_goto (pc' := 13) C d1_28 (by decide) (by decide) ?_
  refine w_iloadN (pc' := 14) C d1_13 rfl rfl ?_
  refine w_iloadN (pc' := 15) C d1_14 rfl rfl ?_
  refine w_icmp_ge (pcT := 31) (pcF := 18) C d1_15 (by decide) (by decide) rfl (fun q15 => ?_) (fun q => absurd q (by decide))
  refine w_ret0 C rfl d1_31 (by decide) (by decide) ?_
  exact ⟨rfl, a1, fr_a1, O_b, O_a1, hk⟩
theorem d5_0 : decode prog_28_method_3_code 0 = .ok (.iload_n 1, 1) := by decide +kernel
theorem d5_1 : decode prog_28_method_3_code 1 = .ok (.istore_n 2, 1) := by decide +kernel
theorem d5_2 : decode prog_28_method_3_code 2 = .ok (.aload_n 0, 1) := by decide +kernel
theorem d5_3 : decode prog_28_method_3_code 3 = .ok (.getfield 7, 3) := by decide +kernel
theorem d5_6 : decode prog_28_method_3_code 6 = .ok (.iload_n 2, 1) := by decide +kernel
theorem d5_7 : decode prog_28_method_3_code 7 = .ok (.iaload, 1) := by decide +kernel
theorem d5_8 : decode prog_28_method_3_code 8 = .ok (.iload_n 2, 1) := by decide +kernel
theorem d5_9 : decode prog_28_method_3_code 9 = .ok (.if_icmp .eq 30, 3) := by decide +kernel
theorem d5_12 : decode prog_28_method_3_code 12 = .ok (.aload_n 0, 1) := by decide +kernel
theorem d5_13 : decode prog_28_method_3_code 13 = .ok (.getfield 7, 3) := by decide +kernel
theorem d5_16 : decode prog_28_method_3_code 16 = .ok (.iload_n 2, 1) := by decide +kernel
theorem d5_17 : decode prog_28_method_3_code 17 = .ok (.aload_n 0, 1) := by decide +kernel
theorem d5_18 : decode prog_28_method_3_code 18 = .ok (.getfield 7, 3) := by decide +kernel
theorem d5_21 : decode prog_28_method_3_code 21 = .ok (.aload_n 0, 1) := by decide +kernel
theorem d5_22 : decode prog_28_method_3_code 22 = .ok (.getfield 7, 3) := by decide +kernel
theorem d5_25 : decode prog_28_method_3_code 25 = .ok (.iload_n 2, 1) := by decide +kernel
theorem d5_26 : decode prog_28_method_3_code 26 = .ok (.iaload, 1) := by decide +kernel
theorem d5_27 : decode prog_28_method_3_code 27 = .ok (.iaload, 1) := by decide +kernel
theorem d5_28 : decode prog_28_method_3_code 28 = .ok (.iastore, 1) := by decide +kernel
theorem d5_29 : decode prog_28_method_3_code 29 = .ok (.aload_n 0, 1) := by decide +kernel
theorem d5_30 : decode prog_28_method_3_code 30 = .ok (.getfield 7, 3) := by decide +kernel
theorem d5_33 : decode prog_28_method_3_code 33 = .ok (.iload_n 2, 1) := by decide +kernel
theorem d5_34 : decode prog_28_method_3_code 34 = .ok (.iaload, 1) := by decide +kernel
theorem d5_35 : decode prog_28_method_3_code 35 = .ok (.istore_n 2, 1) := by decide +kernel
theorem d5_36 : decode prog_28_method_3_code 36 = .ok (.goto (-34), 3) := by decide +kernel
theorem d5_39 : decode prog_28_method_3_code 39 = .ok (.iload_n 2, 1) := by decide +kernel
theorem d5_40 : decode prog_28_method_3_code 40 = .ok (.ireturn, 1) := by decide +kernel
def rm_root : Room := { frames := 0, cells := 0, slots := 0, locals := 0 }
theorem pf_root : plainFor (⟨"com/example/aboxdb/aboxdb/Partition", "root", "(I)I"⟩ : MethodName) = true := plainFor_of_name (by first | (simp [plainName, overriddenIn]; done) | decide +kernel)
set_option maxRecDepth 65536 in
set_option maxHeartbeats 40000000 in
theorem ct_root {l : Launch} {Z : State} {a0 : Array Value} (hw : ∀ d ∈ tables_1, d.before a0 Z = true) (h0 : Heap) (n0 : Nat) (b : Addr) (j : Int32) (pa : Addr) (ps0 : List Int32) (r : List Int32) (hz : n0 ≤ h0.size) (I0 : ∃ rank, InvR ps0 r rank) (hj : R5 j) (O_b : Obj Z h0 b "com/example/aboxdb/aboxdb/Partition" [("parents", "[I", .ref pa)]) (O_pa : Ar Z h0 pa .int (ps0.map Value.int)) (g_pa : n0 ≤ pa) (ne_b_pa : b ≠ pa) :
    Ct l Z (⟨"com/example/aboxdb/aboxdb/Partition", "root", "(I)I"⟩ : MethodName) prog_28_method_3_code 3 (Option.some Jvm.ClassFile.FieldType.int) [] rm_root #[.ref b, .int j] h0 n0 (fun v h => v = some (.int (at5 r j)) ∧ ∃ ps', (∃ rank', InvR ps' r rank') ∧ Ar Z h pa .int (ps'.map Value.int) ∧ Keep h0 h [pa]) := by
  refine Ct.of (Ls := #[.val (.ref b), .val (.int j), .unset]) pf_root (fun m => by first | (simp [entryFrame, mkF, argsToLocals, Value.category, maxLocals]; done) | rfl) ?_
  intro p e s m below meth c C
  have L2 : ∀ (N : Nat) (ps : List Int32) (rank : Int32 → Nat) (k : Int32) (h : Heap), InvR ps r rank → R5 k → at5 r k = at5 r j → rank k < N → n0 ≤ h.size → Obj Z h b "com/example/aboxdb/aboxdb/Partition" [("parents", "[I", .ref pa)] → Ar Z h pa .int (ps.map Value.int) → Keep h0 h [pa] → Wp p l e rm_root s m #[.ref b, .int j] below meth c n0 rm_root.cells rm_root.slots (fun v h => v = some (.int (at5 r j)) ∧ ∃ ps', (∃ rank', InvR ps' r rank') ∧ Ar Z h pa .int (ps'.map Value.int) ∧ Keep h0 h [pa]) h 0 0 (mkF m 2 #[.val (.ref b), .val (.int j), .val (.int k)] []) := by
    intro N
    induction N with
    | zero => intro ps rank k h I hk5 hr hN; exact absurd hN (Nat.not_lt_zero _)
    | succ N ih =>
      intro ps rank k h I hk5 hr hN hz O_b O_pa hk
      refine w_aloadN (pc' := 3) C d5_2 rfl rfl rfl ?_
      refine w_getF (pc' := 6) C (tw hw 10 rfl) d5_3 rfl (O_b.fld 0 rfl) ?_
      refine w_iloadN (pc' := 7) C d5_6 rfl rfl ?_
      refine wA_iaload (pc' := 8) (v := .int (at5 ps k)) C d5_7 rfl O_pa (R5.nn hk5) (map_get I.1 hk5) ?_
      refine w_iloadN (pc' := 9) C d5_8 rfl rfl ?_
      refine w_icmp_eq (pcT := 39) (pcF := 12) C d5_9 (by decide) (by decide) rfl (fun q9 => ?_) (fun q9 => ?_)
      · skip
        refine w_iloadN (pc' := 40) C d5_39 rfl rfl ?_
        refine w_retI C rfl d5_40 (by decide) (by decide) ?_
        exact ⟨congrArg (fun z => some (Value.int z)) ((I.fix hk5 q9).symm.trans hr), ps, ⟨rank, I⟩, O_pa, hk⟩
      · skip
        refine w_aloadN (pc' := 13) C d5_12 rfl rfl rfl ?_
        refine w_getF (pc' := 16) C (tw hw 10 rfl) d5_13 rfl (O_b.fld 0 rfl) ?_
        refine w_iloadN (pc' := 17) C d5_16 rfl rfl ?_
        refine w_aloadN (pc' := 18) C d5_17 rfl rfl rfl ?_
        refine w_getF (pc' := 21) C (tw hw 10 rfl) d5_18 rfl (O_b.fld 0 rfl) ?_
        refine w_aloadN (pc' := 22) C d5_21 rfl rfl rfl ?_
        refine w_getF (pc' := 25) C (tw hw 10 rfl) d5_22 rfl (O_b.fld 0 rfl) ?_
        refine w_iloadN (pc' := 26) C d5_25 rfl rfl ?_
        refine wA_iaload (pc' := 27) (v := .int (at5 ps k)) C d5_26 rfl O_pa (R5.nn hk5) (map_get I.1 hk5) ?_
        refine wA_iaload (pc' := 28) (v := .int (at5 ps (at5 ps k))) C d5_27 rfl O_pa (R5.nn (I.par hk5)) (map_get I.1 (I.par hk5)) ?_
        refine wA_iastore (pc' := 29) C d5_28 rfl g_pa O_pa (R5.nn hk5) (map_len I.1 hk5) (fun h1 W1 A1 => ?_)
        have O_pa : Ar Z h1 pa .int ((st5 ps k (at5 ps (at5 ps k))).map Value.int) := (ar_set A1)
        have O_b := O_b.other W1 ne_b_pa
        have hz : n0 ≤ h1.size := by rw [W1.size]; exact hz
        have hk := hk.wr W1 (Or.inl (by simp))
        refine w_aloadN (pc' := 30) C d5_29 rfl rfl rfl ?_
        refine w_getF (pc' := 33) C (tw hw 10 rfl) d5_30 rfl (O_b.fld 0 rfl) ?_
        refine w_iloadN (pc' := 34) C d5_33 rfl rfl ?_
        refine wA_iaload (pc' := 35) (v := .int (at5 (st5 ps k (at5 ps (at5 ps k))) k)) C d5_34 rfl O_pa (R5.nn hk5) (map_get (len_st I.1) hk5) ?_
        refine w_istoreN (pc' := 36) (Ls' := #[.val (.ref b), .val (.int j), .val (.int (at5 (st5 ps k (at5 ps (at5 ps k))) k))]) C d5_35 rfl rfl ?_
        refine w_goto (pc' := 2) C d5_36 (by decide) (by decide) ?_
        rw [at_same I.1 hk5]
        exact ih _ rank _ _ (I.half hk5 q9) (I.par (I.par hk5)) ((I.step2 hk5 q9).2.trans hr) (Nat.lt_of_lt_of_le (I.step2 hk5 q9).1 (Nat.le_of_lt_succ hN)) hz O_b O_pa hk
  obtain ⟨rank, I⟩ := I0
  refine w_iloadN (pc' := 1) C d5_0 rfl rfl ?_
  refine w_istoreN (pc' := 2) (Ls' := #[.val (.ref b), .val (.int j), .val (.int j)]) C d5_1 rfl rfl ?_
  exact L2 _ ps0 rank j h0 I hj rfl (Nat.lt_succ_self _) hz O_b O_pa (Keep.refl _ _)
theorem d4_0 : decode prog_28_method_2_code 0 = .ok (.aload_n 0, 1) := by decide +kernel
theorem d4_1 : decode prog_28_method_2_code 1 = .ok (.getfield 7, 3) := by decide +kernel
theorem d4_4 : decode prog_28_method_2_code 4 = .ok (.aload_n 0, 1) := by decide +kernel
theorem d4_5 : decode prog_28_method_2_code 5 = .ok (.iload_n 1, 1) := by decide +kernel
theorem d4_6 : decode prog_28_method_2_code 6 = .ok (.invokevirtual 13, 3) := by decide +kernel
theorem d4_9 : decode prog_28_method_2_code 9 = .ok (.aload_n 0, 1) := by decide +kernel
theorem d4_10 : decode prog_28_method_2_code 10 = .ok (.iload_n 2, 1) := by decide +kernel
theorem d4_11 : decode prog_28_method_2_code 11 = .ok (.invokevirtual 13, 3) := by decide +kernel
theorem d4_14 : decode prog_28_method_2_code 14 = .ok (.iastore, 1) := by decide +kernel
theorem d4_15 : decode prog_28_method_2_code 15 = .ok (.return_, 1) := by decide +kernel
def rm_join : Room := { frames := 1, cells := 0, slots := 0, locals := 16 }
theorem pf_join : plainFor (⟨"com/example/aboxdb/aboxdb/Partition", "join", "(II)V"⟩ : MethodName) = true := plainFor_of_name (by first | (simp [plainName, overriddenIn]; done) | decide +kernel)
set_option maxRecDepth 65536 in
set_option maxHeartbeats 40000000 in
theorem ct_join {l : Launch} {Z : State} {a0 : Array Value} (hw : ∀ d ∈ tables_1, d.before a0 Z = true) (h0 : Heap) (n0 : Nat) (b : Addr) (j1 : Int32) (j2 : Int32) (pa : Addr) (ps0 : List Int32) (r : List Int32) (hz : n0 ≤ h0.size) (I0 : ∃ rank, InvR ps0 r rank) (hj1 : R5 j1) (hj2 : R5 j2) (O_b : Obj Z h0 b "com/example/aboxdb/aboxdb/Partition" [("parents", "[I", .ref pa)]) (O_pa : Ar Z h0 pa .int (ps0.map Value.int)) (g_pa : n0 ≤ pa) (ne_b_pa : b ≠ pa) :
    Ct l Z (⟨"com/example/aboxdb/aboxdb/Partition", "join", "(II)V"⟩ : MethodName) prog_28_method_2_code 3 (Option.none : Option Jvm.ClassFile.FieldType) [] rm_join #[.ref b, .int j1, .int j2] h0 n0 (fun v h => v = none ∧ ∃ ps', (∃ rank', InvR ps' (joinL r j1 j2) rank') ∧ Ar Z h pa .int (ps'.map Value.int) ∧ Keep h0 h [pa]) := by
  refine Ct.of (Ls := #[.val (.ref b), .val (.int j1), .val (.int j2)]) pf_join (fun m => by first | (simp [entryFrame, mkF, argsToLocals, Value.category, maxLocals]; done) | rfl) ?_
  intro p e s m below meth c C
  have hk : Keep h0 h0 [pa] := Keep.refl _ _
  refine w_aloadN (pc' := 1) C d4_0 rfl rfl rfl ?_
  refine w_getF (pc' := 4) C (tw hw 10 rfl) d4_1 rfl (O_b.fld 0 rfl) ?_
  refine w_aloadN (pc' := 5) C d4_4 rfl rfl rfl ?_
  refine w_iloadN (pc' := 6) C d4_5 rfl rfl ?_
  refine w_callV (Cl := "com/example/aboxdb/aboxdb/Partition") (pc' := 9) (argsL := [.int j1]) (st := [.ref pa]) (W := 1) (ce' := 0) (sl' := 0) C (tw hw 21 rfl) (tw hw 22 rfl) (tw hw 24 rfl) (tw hw 23 rfl) (tw hw 2 rfl) (tw hw 25 rfl) (by decide) d4_6 rfl rfl (by decide) (by decide) (Nat.le_of_eq rfl) rfl rfl (by decide) (by decide) rfl (lenOf pd_0 rfl) O_b.1 (ct_root hw h0 n0 b j1 pa ps0 r hz I0 hj1 O_b O_pa g_pa ne_b_pa) (k1 (fun h1 q1 => ?_))
  obtain ⟨ps1, I1, P1, K1⟩ := q1
  have O_b := O_b.keep K1 (ninS ne_b_pa nin0)
  have hz : n0 ≤ h1.size := Nat.le_trans hz K1.1
  have hk := Keep.app hk K1 (fun x hx => Or.inl hx) (allS (Or.inl (by simp)) all0)
  have O_pa := P1
  refine w_aloadN (pc' := 10) C d4_9 rfl rfl rfl ?_
  refine w_iloadN (pc' := 11) C d4_10 rfl rfl ?_
  refine w_callV (Cl := "com/example/aboxdb/aboxdb/Partition") (pc' := 14) (argsL := [.int j2]) (st := [.int (at5 r j1), .ref pa]) (W := 2) (ce' := 0) (sl' := 0) C (tw hw 21 rfl) (tw hw 22 rfl) (tw hw 24 rfl) (tw hw 23 rfl) (tw hw 2 rfl) (tw hw 25 rfl) (by decide) d4_11 rfl rfl (by decide) (by decide) (Nat.le_of_eq rfl) rfl rfl (by decide) (by decide) rfl (lenOf pd_0 rfl) O_b.1 (ct_root hw h1 n0 b j2 pa ps1 r hz I1 hj2 O_b O_pa g_pa ne_b_pa) (k1 (fun h2 q2 => ?_))
  obtain ⟨ps2, I2, P2, K2⟩ := q2
  have O_b := O_b.keep K2 (ninS ne_b_pa nin0)
  have hz : n0 ≤ h2.size := Nat.le_trans hz K2.1
  have hk := Keep.app hk K2 (fun x hx => Or.inl hx) (allS (Or.inl (by simp)) all0)
  have O_pa := P2
  refine wA_iastore (pc' := 15) C d4_14 rfl g_pa O_pa (R5.nn (I2.choose_spec.rr hj1)) (map_len I2.choose_spec.1 (I2.choose_spec.rr hj1)) (fun h3 W3 A3 => ?_)
  have O_pa : Ar Z h3 pa .int ((st5 ps2 (at5 r j1) (at5 r j2)).map Value.int) := (ar_set A3)
  have O_b := O_b.other W3 ne_b_pa
  have hz : n0 ≤ h3.size := by rw [W3.size]; exact hz
  have hk := hk.wr W3 (Or.inl (by simp))
  refine w_ret0 C rfl d4_15 (by decide) (by decide) ?_
  exact ⟨rfl, _, I2.choose_spec.join hj1 hj2, O_pa, hk⟩
theorem r5_mod (u : Int32) : R5 ((u &&& (255 : Int32)) % (5 : Int32)) := by
  have h1 := c_mask u 255 8 (by decide) (by decide)
  have h2 := c_irem (u &&& 255) 5 5 (by decide)
  unfold R5; omega
theorem r5_lit : R5 0 ∧ R5 1 ∧ R5 2 ∧ R5 3 ∧ R5 4 := by unfold R5; decide
theorem r5_next {u : Int32} (h : R5 u) : R5 ((u + (1 : Int32)) % (5 : Int32)) := by
  have h1 := c_iadd u 1
  have h2 := rng32 (u + 1)
  have h3 := c_irem (u + 1) 5 5 (by decide)
  have e1 : (1 : Int32).toInt = 1 := by decide
  rw [e1] at h1
  unfold R5 at *; omega
def ja (x : Int32) : Int32 := ((x &&& (255 : Int32)) % (5 : Int32))
def jb (x : Int32) : Int32 := ((((x.toUInt32 >>> ((8 : Int32) &&& 31).toUInt32).toInt32) &&& (255 : Int32)) % (5 : Int32))
def joinX (r : List Int32) (x : Int32) : List Int32 := joinL r (ja x) (jb x)
theorem d3_0 : decode method_3_code 0 = .ok (.iload_n 2, 1) := by decide +kernel
theorem d3_1 : decode method_3_code 1 = .ok (.sipush 255, 3) := by decide +kernel
theorem d3_4 : decode method_3_code 4 = .ok (.iand, 1) := by decide +kernel
theorem d3_5 : decode method_3_code 5 = .ok (.iconst 5, 1) := by decide +kernel
theorem d3_6 : decode method_3_code 6 = .ok (.irem, 1) := by decide +kernel
theorem d3_7 : decode method_3_code 7 = .ok (.istore_n 3, 1) := by decide +kernel
theorem d3_8 : decode method_3_code 8 = .ok (.iload_n 2, 1) := by decide +kernel
theorem d3_9 : decode method_3_code 9 = .ok (.bipush 8, 2) := by decide +kernel
theorem d3_11 : decode method_3_code 11 = .ok (.iushr, 1) := by decide +kernel
theorem d3_12 : decode method_3_code 12 = .ok (.sipush 255, 3) := by decide +kernel
theorem d3_15 : decode method_3_code 15 = .ok (.iand, 1) := by decide +kernel
theorem d3_16 : decode method_3_code 16 = .ok (.iconst 5, 1) := by decide +kernel
theorem d3_17 : decode method_3_code 17 = .ok (.irem, 1) := by decide +kernel
theorem d3_18 : decode method_3_code 18 = .ok (.istore 4, 2) := by decide +kernel
theorem d3_20 : decode method_3_code 20 = .ok (.aload_n 0, 1) := by decide +kernel
theorem d3_21 : decode method_3_code 21 = .ok (.iload_n 3, 1) := by decide +kernel
theorem d3_22 : decode method_3_code 22 = .ok (.iload 4, 2) := by decide +kernel
theorem d3_24 : decode method_3_code 24 = .ok (.invokevirtual 22, 3) := by decide +kernel
theorem d3_27 : decode method_3_code 27 = .ok (.aload_n 1, 1) := by decide +kernel
theorem d3_28 : decode method_3_code 28 = .ok (.iload_n 3, 1) := by decide +kernel
theorem d3_29 : decode method_3_code 29 = .ok (.iaload, 1) := by decide +kernel
theorem d3_30 : decode method_3_code 30 = .ok (.istore 5, 2) := by decide +kernel
theorem d3_32 : decode method_3_code 32 = .ok (.aload_n 1, 1) := by decide +kernel
theorem d3_33 : decode method_3_code 33 = .ok (.iload 4, 2) := by decide +kernel
theorem d3_35 : decode method_3_code 35 = .ok (.iaload, 1) := by decide +kernel
theorem d3_36 : decode method_3_code 36 = .ok (.istore 6, 2) := by decide +kernel
theorem d3_38 : decode method_3_code 38 = .ok (.aload_n 1, 1) := by decide +kernel
theorem d3_39 : decode method_3_code 39 = .ok (.iconst 0, 1) := by decide +kernel
theorem d3_40 : decode method_3_code 40 = .ok (.iaload, 1) := by decide +kernel
theorem d3_41 : decode method_3_code 41 = .ok (.iload 5, 2) := by decide +kernel
theorem d3_43 : decode method_3_code 43 = .ok (.if_icmp .ne 8, 3) := by decide +kernel
theorem d3_46 : decode method_3_code 46 = .ok (.aload_n 1, 1) := by decide +kernel
theorem d3_47 : decode method_3_code 47 = .ok (.iconst 0, 1) := by decide +kernel
theorem d3_48 : decode method_3_code 48 = .ok (.iload 6, 2) := by decide +kernel
theorem d3_50 : decode method_3_code 50 = .ok (.iastore, 1) := by decide +kernel
theorem d3_51 : decode method_3_code 51 = .ok (.aload_n 1, 1) := by decide +kernel
theorem d3_52 : decode method_3_code 52 = .ok (.iconst 1, 1) := by decide +kernel
theorem d3_53 : decode method_3_code 53 = .ok (.iaload, 1) := by decide +kernel
theorem d3_54 : decode method_3_code 54 = .ok (.iload 5, 2) := by decide +kernel
theorem d3_56 : decode method_3_code 56 = .ok (.if_icmp .ne 8, 3) := by decide +kernel
theorem d3_59 : decode method_3_code 59 = .ok (.aload_n 1, 1) := by decide +kernel
theorem d3_60 : decode method_3_code 60 = .ok (.iconst 1, 1) := by decide +kernel
theorem d3_61 : decode method_3_code 61 = .ok (.iload 6, 2) := by decide +kernel
theorem d3_63 : decode method_3_code 63 = .ok (.iastore, 1) := by decide +kernel
theorem d3_64 : decode method_3_code 64 = .ok (.aload_n 1, 1) := by decide +kernel
theorem d3_65 : decode method_3_code 65 = .ok (.iconst 2, 1) := by decide +kernel
theorem d3_66 : decode method_3_code 66 = .ok (.iaload, 1) := by decide +kernel
theorem d3_67 : decode method_3_code 67 = .ok (.iload 5, 2) := by decide +kernel
theorem d3_69 : decode method_3_code 69 = .ok (.if_icmp .ne 8, 3) := by decide +kernel
theorem d3_72 : decode method_3_code 72 = .ok (.aload_n 1, 1) := by decide +kernel
theorem d3_73 : decode method_3_code 73 = .ok (.iconst 2, 1) := by decide +kernel
theorem d3_74 : decode method_3_code 74 = .ok (.iload 6, 2) := by decide +kernel
theorem d3_76 : decode method_3_code 76 = .ok (.iastore, 1) := by decide +kernel
theorem d3_77 : decode method_3_code 77 = .ok (.aload_n 1, 1) := by decide +kernel
theorem d3_78 : decode method_3_code 78 = .ok (.iconst 3, 1) := by decide +kernel
theorem d3_79 : decode method_3_code 79 = .ok (.iaload, 1) := by decide +kernel
theorem d3_80 : decode method_3_code 80 = .ok (.iload 5, 2) := by decide +kernel
theorem d3_82 : decode method_3_code 82 = .ok (.if_icmp .ne 8, 3) := by decide +kernel
theorem d3_85 : decode method_3_code 85 = .ok (.aload_n 1, 1) := by decide +kernel
theorem d3_86 : decode method_3_code 86 = .ok (.iconst 3, 1) := by decide +kernel
theorem d3_87 : decode method_3_code 87 = .ok (.iload 6, 2) := by decide +kernel
theorem d3_89 : decode method_3_code 89 = .ok (.iastore, 1) := by decide +kernel
theorem d3_90 : decode method_3_code 90 = .ok (.aload_n 1, 1) := by decide +kernel
theorem d3_91 : decode method_3_code 91 = .ok (.iconst 4, 1) := by decide +kernel
theorem d3_92 : decode method_3_code 92 = .ok (.iaload, 1) := by decide +kernel
theorem d3_93 : decode method_3_code 93 = .ok (.iload 5, 2) := by decide +kernel
theorem d3_95 : decode method_3_code 95 = .ok (.if_icmp .ne 8, 3) := by decide +kernel
theorem d3_98 : decode method_3_code 98 = .ok (.aload_n 1, 1) := by decide +kernel
theorem d3_99 : decode method_3_code 99 = .ok (.iconst 4, 1) := by decide +kernel
theorem d3_100 : decode method_3_code 100 = .ok (.iload 6, 2) := by decide +kernel
theorem d3_102 : decode method_3_code 102 = .ok (.iastore, 1) := by decide +kernel
theorem d3_103 : decode method_3_code 103 = .ok (.return_, 1) := by decide +kernel
def rm_doJoin : Room := { frames := 2, cells := 0, slots := 0, locals := 30 }
theorem pf_doJoin : plainFor (⟨"com/example/aboxdb/aboxdb/PartitionRootPinLaw", "doJoin", "(Lcom/example/aboxdb/aboxdb/Partition;[II)V"⟩ : MethodName) = true := plainFor_of_name (by first | (simp [plainName, overriddenIn]; done) | decide +kernel)
set_option maxRecDepth 65536 in
set_option maxHeartbeats 40000000 in
theorem ct_doJoin {l : Launch} {Z : State} {a0 : Array Value} (hw : ∀ d ∈ tables_1, d.before a0 Z = true) (h0 : Heap) (n0 : Nat) (b : Addr) (ra : Addr) (x : Int32) (pa : Addr) (ps0 : List Int32) (r : List Int32) (hz : n0 ≤ h0.size) (I0 : ∃ rank, InvR ps0 r rank) (O_b : Obj Z h0 b "com/example/aboxdb/aboxdb/Partition" [("parents", "[I", .ref pa)]) (O_pa : Ar Z h0 pa .int (ps0.map Value.int)) (O_ra : Ar Z h0 ra .int (r.map Value.int)) (g_pa : n0 ≤ pa) (g_ra : n0 ≤ ra) (ne_b_pa : b ≠ pa) (ne_b_ra : b ≠ ra) (ne_pa_ra : pa ≠ ra) :
    Ct l Z (⟨"com/example/aboxdb/aboxdb/PartitionRootPinLaw", "doJoin", "(Lcom/example/aboxdb/aboxdb/Partition;[II)V"⟩ : MethodName) method_3_code 7 (Option.none : Option Jvm.ClassFile.FieldType) [] rm_doJoin #[.ref b, .ref ra, .int x] h0 n0 (fun v h => v = none ∧ ∃ ps', (∃ rank', InvR ps' (joinX r x) rank') ∧ Ar Z h pa .int (ps'.map Value.int) ∧ Ar Z h ra .int ((joinX r x).map Value.int) ∧ Keep h0 h [pa, ra]) := by
  refine Ct.of (Ls := #[.val (.ref b), .val (.ref ra), .val (.int x), .unset, .unset, .unset, .unset]) pf_doJoin (fun m => by first | (simp [entryFrame, mkF, argsToLocals, Value.category, maxLocals]; done) | rfl) ?_
  intro p e s m below meth c C
  have hk : Keep h0 h0 [pa, ra] := Keep.refl _ _
  refine w_iloadN (pc' := 1) C d3_0 rfl rfl ?_
  refine w_sipush (pc' := 4) (x := (255 : Int32)) C d3_1 rfl rfl ?_
  refine w_iand (pc' := 5) C d3_4 rfl ?_
  refine w_iconst (pc' := 6) (x := (5 : Int32)) C d3_5 rfl rfl ?_
  refine w_irem (pc' := 7) C d3_6 (by decide) rfl ?_
  refine w_istoreN (pc' := 8) (Ls' := #[.val (.ref b), .val (.ref ra), .val (.int x), .val (.int ((x &&& (255 : Int32)) % (5 : Int32))), .unset, .unset, .unset]) C d3_7 rfl rfl ?_
  refine w_iloadN (pc' := 9) C d3_8 rfl rfl ?_
  refine w_bipush (pc' := 11) (x := (8 : Int32)) C d3_9 rfl rfl ?_
  refine w_iushr (pc' := 12) C d3_11 rfl ?_
  refine w_sipush (pc' := 15) (x := (255 : Int32)) C d3_12 rfl rfl ?_
  refine w_iand (pc' := 16) C d3_15 rfl ?_
  refine w_iconst (pc' := 17) (x := (5 : Int32)) C d3_16 rfl rfl ?_
  refine w_irem (pc' := 18) C d3_17 (by decide) rfl ?_
  refine w_istore (pc' := 20) (Ls' := #[.val (.ref b), .val (.ref ra), .val (.int x), .val (.int ((x &&& (255 : Int32)) % (5 : Int32))), .val (.int ((((x.toUInt32 >>> ((8 : Int32) &&& 31).toUInt32).toInt32) &&& (255 : Int32)) % (5 : Int32))), .unset, .unset]) C d3_18 rfl rfl ?_
  refine w_aloadN (pc' := 21) C d3_20 rfl rfl rfl ?_
  refine w_iloadN (pc' := 22) C d3_21 rfl rfl ?_
  refine w_iload (pc' := 24) C d3_22 rfl rfl ?_
  refine w_callV (Cl := "com/example/aboxdb/aboxdb/Partition") (pc' := 27) (argsL := [.int ((x &&& (255 : Int32)) % (5 : Int32)), .int ((((x.toUInt32 >>> ((8 : Int32) &&& 31).toUInt32).toInt32) &&& (255 : Int32)) % (5 : Int32))]) (st := []) (W := 0) (ce' := 0) (sl' := 0) C (tw hw 16 rfl) (tw hw 17 rfl) (tw hw 19 rfl) (tw hw 18 rfl) (tw hw 2 rfl) (tw hw 20 rfl) (by decide) d3_24 rfl rfl (by decide) (by decide) (Nat.le_of_eq rfl) rfl rfl (by decide) (by decide) rfl (lenOf pd_1 rfl) O_b.1 (ct_join hw h0 n0 b ((x &&& (255 : Int32)) % (5 : Int32)) ((((x.toUInt32 >>> ((8 : Int32) &&& 31).toUInt32).toInt32) &&& (255 : Int32)) % (5 : Int32)) pa ps0 r hz I0 (r5_mod _) (r5_mod _) O_b O_pa g_pa ne_b_pa) (k0 (fun h6 q6 => ?_))
  obtain ⟨ps6, I6, P6, K6⟩ := q6
  have O_b := O_b.keep K6 (ninS ne_b_pa nin0)
  have O_ra := O_ra.keep K6 (ninS (Ne.symm ne_pa_ra) nin0)
  have hz : n0 ≤ h6.size := Nat.le_trans hz K6.1
  have hk := Keep.app hk K6 (fun x hx => Or.inl hx) (allS (Or.inl (by simp)) all0)
  have O_pa := P6
  refine w_aloadN (pc' := 28) C d3_27 rfl rfl rfl ?_
  refine w_iloadN (pc' := 29) C d3_28 rfl rfl ?_
  refine wA_iaload (pc' := 30) (v := .int (at5 r ((x &&& (255 : Int32)) % (5 : Int32)))) C d3_29 rfl O_ra (R5.nn (r5_mod _)) (map_get I0.choose_spec.2.1 (r5_mod _)) ?_
  refine w_istore (pc' := 32) (Ls' := #[.val (.ref b), .val (.ref ra), .val (.int x), .val (.int ((x &&& (255 : Int32)) % (5 : Int32))), .val (.int ((((x.toUInt32 >>> ((8 : Int32) &&& 31).toUInt32).toInt32) &&& (255 : Int32)) % (5 : Int32))), .val (.int (at5 r ((x &&& (255 : Int32)) % (5 : Int32)))), .unset]) C d3_30 rfl rfl ?_
  refine w_aloadN (pc' := 33) C d3_32 rfl rfl rfl ?_
  refine w_iload (pc' := 35) C d3_33 rfl rfl ?_
  refine wA_iaload (pc' := 36) (v := .int (at5 r ((((x.toUInt32 >>> ((8 : Int32) &&& 31).toUInt32).toInt32) &&& (255 : Int32)) % (5 : Int32)))) C d3_35 rfl O_ra (R5.nn (r5_mod _)) (map_get I0.choose_spec.2.1 (r5_mod _)) ?_
  refine w_istore (pc' := 38) (Ls' := #[.val (.ref b), .val (.ref ra), .val (.int x), .val (.int ((x &&& (255 : Int32)) % (5 : Int32))), .val (.int ((((x.toUInt32 >>> ((8 : Int32) &&& 31).toUInt32).toInt32) &&& (255 : Int32)) % (5 : Int32))), .val (.int (at5 r ((x &&& (255 : Int32)) % (5 : Int32)))), .val (.int (at5 r ((((x.toUInt32 >>> ((8 : Int32) &&& 31).toUInt32).toInt32) &&& (255 : Int32)) % (5 : Int32))))]) C d3_36 rfl rfl ?_
  have I' : ∃ rank', InvR ps6 (joinX r x) rank' := I6
  have K103 : ∀ (us : List Int32) (h : Heap), us.length = 5 → n0 ≤ h.size → Obj Z h b "com/example/aboxdb/aboxdb/Partition" [("parents", "[I", .ref pa)] → Ar Z h pa .int (ps6.map Value.int) → Ar Z h ra .int (us.map Value.int) → Keep h0 h [pa, ra] → joinX r x = us → Wp p l e rm_doJoin s m #[.ref b, .ref ra, .int x] below meth c n0 rm_doJoin.cells rm_doJoin.slots (fun v h => v = none ∧ ∃ ps6, (∃ rank', InvR ps6 (joinX r x) rank') ∧ Ar Z h pa .int (ps6.map Value.int) ∧ Ar Z h ra .int ((joinX r x).map Value.int) ∧ Keep h0 h [pa, ra]) h 0 0 (mkF m 103 #[.val (.ref b), .val (.ref ra), .val (.int x), .val (.int ((x &&& (255 : Int32)) % (5 : Int32))), .val (.int ((((x.toUInt32 >>> ((8 : Int32) &&& 31).toUInt32).toInt32) &&& (255 : Int32)) % (5 : Int32))), .val (.int (at5 r ((x &&& (255 : Int32)) % (5 : Int32)))), .val (.int (at5 r ((((x.toUInt32 >>> ((8 : Int32) &&& 31).toUInt32).toInt32) &&& (255 : Int32)) % (5 : Int32))))] []) := by
    intro us h hl hz O_b O_pa O_ra hk hq
    refine w_ret0 C rfl d3_103 (by decide) (by decide) ?_
    exact ⟨rfl, ps6, I', O_pa, by rw [hq]; exact O_ra, hk⟩
  have K90 : ∀ (us : List Int32) (h : Heap), us.length = 5 → n0 ≤ h.size → Obj Z h b "com/example/aboxdb/aboxdb/Partition" [("parents", "[I", .ref pa)] → Ar Z h pa .int (ps6.map Value.int) → Ar Z h ra .int (us.map Value.int) → Keep h0 h [pa, ra] → joinX r x = (upd us 4 (at5 r ((x &&& (255 : Int32)) % (5 : Int32))) (at5 r ((((x.toUInt32 >>> ((8 : Int32) &&& 31).toUInt32).toInt32) &&& (255 : Int32)) % (5 : Int32)))) → Wp p l e rm_doJoin s m #[.ref b, .ref ra, .int x] below meth c n0 rm_doJoin.cells rm_doJoin.slots (fun v h => v = none ∧ ∃ ps6, (∃ rank', InvR ps6 (joinX r x) rank') ∧ Ar Z h pa .int (ps6.map Value.int) ∧ Ar Z h ra .int ((joinX r x).map Value.int) ∧ Keep h0 h [pa, ra]) h 0 0 (mkF m 90 #[.val (.ref b), .val (.ref ra), .val (.int x), .val (.int ((x &&& (255 : Int32)) % (5 : Int32))), .val (.int ((((x.toUInt32 >>> ((8 : Int32) &&& 31).toUInt32).toInt32) &&& (255 : Int32)) % (5 : Int32))), .val (.int (at5 r ((x &&& (255 : Int32)) % (5 : Int32)))), .val (.int (at5 r ((((x.toUInt32 >>> ((8 : Int32) &&& 31).toUInt32).toInt32) &&& (255 : Int32)) % (5 : Int32))))] []) := by
    intro us h hl hz O_b O_pa O_ra hk hq
    refine w_aloadN (pc' := 91) C d3_90 rfl rfl rfl ?_
    refine w_iconst (pc' := 92) (x := (4 : Int32)) C d3_91 rfl rfl ?_
    refine wA_iaload (pc' := 93) (v := .int (at5 us (4 : Int32))) C d3_92 rfl O_ra (R5.nn r5_lit.2.2.2.2) (map_get hl r5_lit.2.2.2.2) ?_
    refine w_iload (pc' := 95) C d3_93 rfl rfl ?_
    refine w_icmp_ne (pcT := 103) (pcF := 98) C d3_95 (by decide) (by decide) rfl (fun q95 => ?_) (fun q95 => ?_)
    · skip
      exact K103 us h hl hz O_b O_pa O_ra hk (hq.trans (by rw [show upd us 4 (at5 r ((x &&& (255 : Int32)) % (5 : Int32))) (at5 r ((((x.toUInt32 >>> ((8 : Int32) &&& 31).toUInt32).toInt32) &&& (255 : Int32)) % (5 : Int32))) = us from if_neg q95]))
    · skip
      refine w_aloadN (pc' := 99) C d3_98 rfl rfl rfl ?_
      refine w_iconst (pc' := 100) (x := (4 : Int32)) C d3_99 rfl rfl ?_
      refine w_iload (pc' := 102) C d3_100 rfl rfl ?_
      refine wA_iastore (pc' := 103) C d3_102 rfl g_ra O_ra (R5.nn r5_lit.2.2.2.2) (map_len hl r5_lit.2.2.2.2) (fun h1 W1 A1 => ?_)
      have O_ra : Ar Z h1 ra .int ((st5 us (4 : Int32) (at5 r ((((x.toUInt32 >>> ((8 : Int32) &&& 31).toUInt32).toInt32) &&& (255 : Int32)) % (5 : Int32)))).map Value.int) := (ar_set A1)
      have O_b := O_b.other W1 ne_b_ra
      have O_pa := O_pa.other W1 ne_pa_ra
      have hz : n0 ≤ h1.size := by rw [W1.size]; exact hz
      have hk := hk.wr W1 (Or.inl (by simp))
      exact K103 (st5 us (4 : Int32) (at5 r ((((x.toUInt32 >>> ((8 : Int32) &&& 31).toUInt32).toInt32) &&& (255 : Int32)) % (5 : Int32)))) h1 (len_st hl) hz O_b O_pa O_ra hk (hq.trans (by rw [show upd us 4 (at5 r ((x &&& (255 : Int32)) % (5 : Int32))) (at5 r ((((x.toUInt32 >>> ((8 : Int32) &&& 31).toUInt32).toInt32) &&& (255 : Int32)) % (5 : Int32))) = (st5 us (4 : Int32) (at5 r ((((x.toUInt32 >>> ((8 : Int32) &&& 31).toUInt32).toInt32) &&& (255 : Int32)) % (5 : Int32)))) from if_pos q95]))
  have K77 : ∀ (us : List Int32) (h : Heap), us.length = 5 → n0 ≤ h.size → Obj Z h b "com/example/aboxdb/aboxdb/Partition" [("parents", "[I", .ref pa)] → Ar Z h pa .int (ps6.map Value.int) → Ar Z h ra .int (us.map Value.int) → Keep h0 h [pa, ra] → joinX r x = (upd (upd us 3 (at5 r ((x &&& (255 : Int32)) % (5 : Int32))) (at5 r ((((x.toUInt32 >>> ((8 : Int32) &&& 31).toUInt32).toInt32) &&& (255 : Int32)) % (5 : Int32)))) 4 (at5 r ((x &&& (255 : Int32)) % (5 : Int32))) (at5 r ((((x.toUInt32 >>> ((8 : Int32) &&& 31).toUInt32).toInt32) &&& (255 : Int32)) % (5 : Int32)))) → Wp p l e rm_doJoin s m #[.ref b, .ref ra, .int x] below meth c n0 rm_doJoin.cells rm_doJoin.slots (fun v h => v = none ∧ ∃ ps6, (∃ rank', InvR ps6 (joinX r x) rank') ∧ Ar Z h pa .int (ps6.map Value.int) ∧ Ar Z h ra .int ((joinX r x).map Value.int) ∧ Keep h0 h [pa, ra]) h 0 0 (mkF m 77 #[.val (.ref b), .val (.ref ra), .val (.int x), .val (.int ((x &&& (255 : Int32)) % (5 : Int32))), .val (.int ((((x.toUInt32 >>> ((8 : Int32) &&& 31).toUInt32).toInt32) &&& (255 : Int32)) % (5 : Int32))), .val (.int (at5 r ((x &&& (255 : Int32)) % (5 : Int32)))), .val (.int (at5 r ((((x.toUInt32 >>> ((8 : Int32) &&& 31).toUInt32).toInt32) &&& (255 : Int32)) % (5 : Int32))))] []) := by
    intro us h hl hz O_b O_pa O_ra hk hq
    refine w_aloadN (pc' := 78) C d3_77 rfl rfl rfl ?_
    refine w_iconst (pc' := 79) (x := (3 : Int32)) C d3_78 rfl rfl ?_
    refine wA_iaload (pc' := 80) (v := .int (at5 us (3 : Int32))) C d3_79 rfl O_ra (R5.nn r5_lit.2.2.2.1) (map_get hl r5_lit.2.2.2.1) ?_
    refine w_iload (pc' := 82) C d3_80 rfl rfl ?_
    refine w_icmp_ne (pcT := 90) (pcF := 85) C d3_82 (by decide) (by decide) rfl (fun q82 => ?_) (fun q82 => ?_)
    · skip
      exact K90 us h hl hz O_b O_pa O_ra hk (hq.trans (by rw [show upd us 3 (at5 r ((x &&& (255 : Int32)) % (5 : Int32))) (at5 r ((((x.toUInt32 >>> ((8 : Int32) &&& 31).toUInt32).toInt32) &&& (255 : Int32)) % (5 : Int32))) = us from if_neg q82]))
    · skip
      refine w_aloadN (pc' := 86) C d3_85 rfl rfl rfl ?_
      refine w_iconst (pc' := 87) (x := (3 : Int32)) C d3_86 rfl rfl ?_
      refine w_iload (pc' := 89) C d3_87 rfl rfl ?_
      refine wA_iastore (pc' := 90) C d3_89 rfl g_ra O_ra (R5.nn r5_lit.2.2.2.1) (map_len hl r5_lit.2.2.2.1) (fun h2 W2 A2 => ?_)
      have O_ra : Ar Z h2 ra .int ((st5 us (3 : Int32) (at5 r ((((x.toUInt32 >>> ((8 : Int32) &&& 31).toUInt32).toInt32) &&& (255 : Int32)) % (5 : Int32)))).map Value.int) := (ar_set A2)
      have O_b := O_b.other W2 ne_b_ra
      have O_pa := O_pa.other W2 ne_pa_ra
      have hz : n0 ≤ h2.size := by rw [W2.size]; exact hz
      have hk := hk.wr W2 (Or.inl (by simp))
      exact K90 (st5 us (3 : Int32) (at5 r ((((x.toUInt32 >>> ((8 : Int32) &&& 31).toUInt32).toInt32) &&& (255 : Int32)) % (5 : Int32)))) h2 (len_st hl) hz O_b O_pa O_ra hk (hq.trans (by rw [show upd us 3 (at5 r ((x &&& (255 : Int32)) % (5 : Int32))) (at5 r ((((x.toUInt32 >>> ((8 : Int32) &&& 31).toUInt32).toInt32) &&& (255 : Int32)) % (5 : Int32))) = (st5 us (3 : Int32) (at5 r ((((x.toUInt32 >>> ((8 : Int32) &&& 31).toUInt32).toInt32) &&& (255 : Int32)) % (5 : Int32)))) from if_pos q82]))
  have K64 : ∀ (us : List Int32) (h : Heap), us.length = 5 → n0 ≤ h.size → Obj Z h b "com/example/aboxdb/aboxdb/Partition" [("parents", "[I", .ref pa)] → Ar Z h pa .int (ps6.map Value.int) → Ar Z h ra .int (us.map Value.int) → Keep h0 h [pa, ra] → joinX r x = (upd (upd (upd us 2 (at5 r ((x &&& (255 : Int32)) % (5 : Int32))) (at5 r ((((x.toUInt32 >>> ((8 : Int32) &&& 31).toUInt32).toInt32) &&& (255 : Int32)) % (5 : Int32)))) 3 (at5 r ((x &&& (255 : Int32)) % (5 : Int32))) (at5 r ((((x.toUInt32 >>> ((8 : Int32) &&& 31).toUInt32).toInt32) &&& (255 : Int32)) % (5 : Int32)))) 4 (at5 r ((x &&& (255 : Int32)) % (5 : Int32))) (at5 r ((((x.toUInt32 >>> ((8 : Int32) &&& 31).toUInt32).toInt32) &&& (255 : Int32)) % (5 : Int32)))) → Wp p l e rm_doJoin s m #[.ref b, .ref ra, .int x] below meth c n0 rm_doJoin.cells rm_doJoin.slots (fun v h => v = none ∧ ∃ ps6, (∃ rank', InvR ps6 (joinX r x) rank') ∧ Ar Z h pa .int (ps6.map Value.int) ∧ Ar Z h ra .int ((joinX r x).map Value.int) ∧ Keep h0 h [pa, ra]) h 0 0 (mkF m 64 #[.val (.ref b), .val (.ref ra), .val (.int x), .val (.int ((x &&& (255 : Int32)) % (5 : Int32))), .val (.int ((((x.toUInt32 >>> ((8 : Int32) &&& 31).toUInt32).toInt32) &&& (255 : Int32)) % (5 : Int32))), .val (.int (at5 r ((x &&& (255 : Int32)) % (5 : Int32)))), .val (.int (at5 r ((((x.toUInt32 >>> ((8 : Int32) &&& 31).toUInt32).toInt32) &&& (255 : Int32)) % (5 : Int32))))] []) := by
    intro us h hl hz O_b O_pa O_ra hk hq
    refine w_aloadN (pc' := 65) C d3_64 rfl rfl rfl ?_
    refine w_iconst (pc' := 66) (x := (2 : Int32)) C d3_65 rfl rfl ?_
    refine wA_iaload (pc' := 67) (v := .int (at5 us (2 : Int32))) C d3_66 rfl O_ra (R5.nn r5_lit.2.2.1) (map_get hl r5_lit.2.2.1) ?_
    refine w_iload (pc' := 69) C d3_67 rfl rfl ?_
    refine w_icmp_ne (pcT := 77) (pcF := 72) C d3_69 (by decide) (by decide) rfl (fun q69 => ?_) (fun q69 => ?_)
    · skip
      exact K77 us h hl hz O_b O_pa O_ra hk (hq.trans (by rw [show upd us 2 (at5 r ((x &&& (255 : Int32)) % (5 : Int32))) (at5 r ((((x.toUInt32 >>> ((8 : Int32) &&& 31).toUInt32).toInt32) &&& (255 : Int32)) % (5 : Int32))) = us from if_neg q69]))
    · skip
      refine w_aloadN (pc' := 73) C d3_72 rfl rfl rfl ?_
      refine w_iconst (pc' := 74) (x := (2 : Int32)) C d3_73 rfl rfl ?_
      refine w_iload (pc' := 76) C d3_74 rfl rfl ?_
      refine wA_iastore (pc' := 77) C d3_76 rfl g_ra O_ra (R5.nn r5_lit.2.2.1) (map_len hl r5_lit.2.2.1) (fun h3 W3 A3 => ?_)
      have O_ra : Ar Z h3 ra .int ((st5 us (2 : Int32) (at5 r ((((x.toUInt32 >>> ((8 : Int32) &&& 31).toUInt32).toInt32) &&& (255 : Int32)) % (5 : Int32)))).map Value.int) := (ar_set A3)
      have O_b := O_b.other W3 ne_b_ra
      have O_pa := O_pa.other W3 ne_pa_ra
      have hz : n0 ≤ h3.size := by rw [W3.size]; exact hz
      have hk := hk.wr W3 (Or.inl (by simp))
      exact K77 (st5 us (2 : Int32) (at5 r ((((x.toUInt32 >>> ((8 : Int32) &&& 31).toUInt32).toInt32) &&& (255 : Int32)) % (5 : Int32)))) h3 (len_st hl) hz O_b O_pa O_ra hk (hq.trans (by rw [show upd us 2 (at5 r ((x &&& (255 : Int32)) % (5 : Int32))) (at5 r ((((x.toUInt32 >>> ((8 : Int32) &&& 31).toUInt32).toInt32) &&& (255 : Int32)) % (5 : Int32))) = (st5 us (2 : Int32) (at5 r ((((x.toUInt32 >>> ((8 : Int32) &&& 31).toUInt32).toInt32) &&& (255 : Int32)) % (5 : Int32)))) from if_pos q69]))
  have K51 : ∀ (us : List Int32) (h : Heap), us.length = 5 → n0 ≤ h.size → Obj Z h b "com/example/aboxdb/aboxdb/Partition" [("parents", "[I", .ref pa)] → Ar Z h pa .int (ps6.map Value.int) → Ar Z h ra .int (us.map Value.int) → Keep h0 h [pa, ra] → joinX r x = (upd (upd (upd (upd us 1 (at5 r ((x &&& (255 : Int32)) % (5 : Int32))) (at5 r ((((x.toUInt32 >>> ((8 : Int32) &&& 31).toUInt32).toInt32) &&& (255 : Int32)) % (5 : Int32)))) 2 (at5 r ((x &&& (255 : Int32)) % (5 : Int32))) (at5 r ((((x.toUInt32 >>> ((8 : Int32) &&& 31).toUInt32).toInt32) &&& (255 : Int32)) % (5 : Int32)))) 3 (at5 r ((x &&& (255 : Int32)) % (5 : Int32))) (at5 r ((((x.toUInt32 >>> ((8 : Int32) &&& 31).toUInt32).toInt32) &&& (255 : Int32)) % (5 : Int32)))) 4 (at5 r ((x &&& (255 : Int32)) % (5 : Int32))) (at5 r ((((x.toUInt32 >>> ((8 : Int32) &&& 31).toUInt32).toInt32) &&& (255 : Int32)) % (5 : Int32)))) → Wp p l e rm_doJoin s m #[.ref b, .ref ra, .int x] below meth c n0 rm_doJoin.cells rm_doJoin.slots (fun v h => v = none ∧ ∃ ps6, (∃ rank', InvR ps6 (joinX r x) rank') ∧ Ar Z h pa .int (ps6.map Value.int) ∧ Ar Z h ra .int ((joinX r x).map Value.int) ∧ Keep h0 h [pa, ra]) h 0 0 (mkF m 51 #[.val (.ref b), .val (.ref ra), .val (.int x), .val (.int ((x &&& (255 : Int32)) % (5 : Int32))), .val (.int ((((x.toUInt32 >>> ((8 : Int32) &&& 31).toUInt32).toInt32) &&& (255 : Int32)) % (5 : Int32))), .val (.int (at5 r ((x &&& (255 : Int32)) % (5 : Int32)))), .val (.int (at5 r ((((x.toUInt32 >>> ((8 : Int32) &&& 31).toUInt32).toInt32) &&& (255 : Int32)) % (5 : Int32))))] []) := by
    intro us h hl hz O_b O_pa O_ra hk hq
    refine w_aloadN (pc' := 52) C d3_51 rfl rfl rfl ?_
    refine w_iconst (pc' := 53) (x := (1 : Int32)) C d3_52 rfl rfl ?_
    refine wA_iaload (pc' := 54) (v := .int (at5 us (1 : Int32))) C d3_53 rfl O_ra (R5.nn r5_lit.2.1) (map_get hl r5_lit.2.1) ?_
    refine w_iload (pc' := 56) C d3_54 rfl rfl ?_
    refine w_icmp_ne (pcT := 64) (pcF := 59) C d3_56 (by decide) (by decide) rfl (fun q56 => ?_) (fun q56 => ?_)
    · skip
      exact K64 us h hl hz O_b O_pa O_ra hk (hq.trans (by rw [show upd us 1 (at5 r ((x &&& (255 : Int32)) % (5 : Int32))) (at5 r ((((x.toUInt32 >>> ((8 : Int32) &&& 31).toUInt32).toInt32) &&& (255 : Int32)) % (5 : Int32))) = us from if_neg q56]))
    · skip
      refine w_aloadN (pc' := 60) C d3_59 rfl rfl rfl ?_
      refine w_iconst (pc' := 61) (x := (1 : Int32)) C d3_60 rfl rfl ?_
      refine w_iload (pc' := 63) C d3_61 rfl rfl ?_
      refine wA_iastore (pc' := 64) C d3_63 rfl g_ra O_ra (R5.nn r5_lit.2.1) (map_len hl r5_lit.2.1) (fun h4 W4 A4 => ?_)
      have O_ra : Ar Z h4 ra .int ((st5 us (1 : Int32) (at5 r ((((x.toUInt32 >>> ((8 : Int32) &&& 31).toUInt32).toInt32) &&& (255 : Int32)) % (5 : Int32)))).map Value.int) := (ar_set A4)
      have O_b := O_b.other W4 ne_b_ra
      have O_pa := O_pa.other W4 ne_pa_ra
      have hz : n0 ≤ h4.size := by rw [W4.size]; exact hz
      have hk := hk.wr W4 (Or.inl (by simp))
      exact K64 (st5 us (1 : Int32) (at5 r ((((x.toUInt32 >>> ((8 : Int32) &&& 31).toUInt32).toInt32) &&& (255 : Int32)) % (5 : Int32)))) h4 (len_st hl) hz O_b O_pa O_ra hk (hq.trans (by rw [show upd us 1 (at5 r ((x &&& (255 : Int32)) % (5 : Int32))) (at5 r ((((x.toUInt32 >>> ((8 : Int32) &&& 31).toUInt32).toInt32) &&& (255 : Int32)) % (5 : Int32))) = (st5 us (1 : Int32) (at5 r ((((x.toUInt32 >>> ((8 : Int32) &&& 31).toUInt32).toInt32) &&& (255 : Int32)) % (5 : Int32)))) from if_pos q56]))
  have K38 : ∀ (us : List Int32) (h : Heap), us.length = 5 → n0 ≤ h.size → Obj Z h b "com/example/aboxdb/aboxdb/Partition" [("parents", "[I", .ref pa)] → Ar Z h pa .int (ps6.map Value.int) → Ar Z h ra .int (us.map Value.int) → Keep h0 h [pa, ra] → joinX r x = (upd (upd (upd (upd (upd us 0 (at5 r ((x &&& (255 : Int32)) % (5 : Int32))) (at5 r ((((x.toUInt32 >>> ((8 : Int32) &&& 31).toUInt32).toInt32) &&& (255 : Int32)) % (5 : Int32)))) 1 (at5 r ((x &&& (255 : Int32)) % (5 : Int32))) (at5 r ((((x.toUInt32 >>> ((8 : Int32) &&& 31).toUInt32).toInt32) &&& (255 : Int32)) % (5 : Int32)))) 2 (at5 r ((x &&& (255 : Int32)) % (5 : Int32))) (at5 r ((((x.toUInt32 >>> ((8 : Int32) &&& 31).toUInt32).toInt32) &&& (255 : Int32)) % (5 : Int32)))) 3 (at5 r ((x &&& (255 : Int32)) % (5 : Int32))) (at5 r ((((x.toUInt32 >>> ((8 : Int32) &&& 31).toUInt32).toInt32) &&& (255 : Int32)) % (5 : Int32)))) 4 (at5 r ((x &&& (255 : Int32)) % (5 : Int32))) (at5 r ((((x.toUInt32 >>> ((8 : Int32) &&& 31).toUInt32).toInt32) &&& (255 : Int32)) % (5 : Int32)))) → Wp p l e rm_doJoin s m #[.ref b, .ref ra, .int x] below meth c n0 rm_doJoin.cells rm_doJoin.slots (fun v h => v = none ∧ ∃ ps6, (∃ rank', InvR ps6 (joinX r x) rank') ∧ Ar Z h pa .int (ps6.map Value.int) ∧ Ar Z h ra .int ((joinX r x).map Value.int) ∧ Keep h0 h [pa, ra]) h 0 0 (mkF m 38 #[.val (.ref b), .val (.ref ra), .val (.int x), .val (.int ((x &&& (255 : Int32)) % (5 : Int32))), .val (.int ((((x.toUInt32 >>> ((8 : Int32) &&& 31).toUInt32).toInt32) &&& (255 : Int32)) % (5 : Int32))), .val (.int (at5 r ((x &&& (255 : Int32)) % (5 : Int32)))), .val (.int (at5 r ((((x.toUInt32 >>> ((8 : Int32) &&& 31).toUInt32).toInt32) &&& (255 : Int32)) % (5 : Int32))))] []) := by
    intro us h hl hz O_b O_pa O_ra hk hq
    refine w_aloadN (pc' := 39) C d3_38 rfl rfl rfl ?_
    refine w_iconst (pc' := 40) (x := (0 : Int32)) C d3_39 rfl rfl ?_
    refine wA_iaload (pc' := 41) (v := .int (at5 us (0 : Int32))) C d3_40 rfl O_ra (R5.nn r5_lit.1) (map_get hl r5_lit.1) ?_
    refine w_iload (pc' := 43) C d3_41 rfl rfl ?_
    refine w_icmp_ne (pcT := 51) (pcF := 46) C d3_43 (by decide) (by decide) rfl (fun q43 => ?_) (fun q43 => ?_)
    · skip
      exact K51 us h hl hz O_b O_pa O_ra hk (hq.trans (by rw [show upd us 0 (at5 r ((x &&& (255 : Int32)) % (5 : Int32))) (at5 r ((((x.toUInt32 >>> ((8 : Int32) &&& 31).toUInt32).toInt32) &&& (255 : Int32)) % (5 : Int32))) = us from if_neg q43]))
    · skip
      refine w_aloadN (pc' := 47) C d3_46 rfl rfl rfl ?_
      refine w_iconst (pc' := 48) (x := (0 : Int32)) C d3_47 rfl rfl ?_
      refine w_iload (pc' := 50) C d3_48 rfl rfl ?_
      refine wA_iastore (pc' := 51) C d3_50 rfl g_ra O_ra (R5.nn r5_lit.1) (map_len hl r5_lit.1) (fun h5 W5 A5 => ?_)
      have O_ra : Ar Z h5 ra .int ((st5 us (0 : Int32) (at5 r ((((x.toUInt32 >>> ((8 : Int32) &&& 31).toUInt32).toInt32) &&& (255 : Int32)) % (5 : Int32)))).map Value.int) := (ar_set A5)
      have O_b := O_b.other W5 ne_b_ra
      have O_pa := O_pa.other W5 ne_pa_ra
      have hz : n0 ≤ h5.size := by rw [W5.size]; exact hz
      have hk := hk.wr W5 (Or.inl (by simp))
      exact K51 (st5 us (0 : Int32) (at5 r ((((x.toUInt32 >>> ((8 : Int32) &&& 31).toUInt32).toInt32) &&& (255 : Int32)) % (5 : Int32)))) h5 (len_st hl) hz O_b O_pa O_ra hk (hq.trans (by rw [show upd us 0 (at5 r ((x &&& (255 : Int32)) % (5 : Int32))) (at5 r ((((x.toUInt32 >>> ((8 : Int32) &&& 31).toUInt32).toInt32) &&& (255 : Int32)) % (5 : Int32))) = (st5 us (0 : Int32) (at5 r ((((x.toUInt32 >>> ((8 : Int32) &&& 31).toUInt32).toInt32) &&& (255 : Int32)) % (5 : Int32)))) from if_pos q43]))
  exact K38 r h6 I0.choose_spec.2.1 hz O_b O_pa O_ra hk (upd_all I0.choose_spec.2.1).symm
def id5 : List Int32 := [0, 1, 2, 3, 4]
theorem id5_at : ∀ k : Fin 5, at5 id5 (Int32.ofInt (k.1 : Int)) = Int32.ofInt (k.1 : Int) := by decide
theorem inv0 : ∃ rank, InvR id5 id5 rank := by
  refine ⟨fun _ => 0, rfl, rfl, fun k hk => ?_⟩
  obtain ⟨i, rfl⟩ := small_int (n := 5) hk.1 hk.2
  rw [id5_at]
  exact ⟨hk, hk, Or.inl ⟨rfl, rfl⟩⟩
theorem pf_law : plainFor (⟨"com/example/aboxdb/aboxdb/PartitionRootPinLaw", "law", "(IIIII)Z"⟩ : MethodName) = true := plainFor_of_name (by first | (simp [plainName, overriddenIn]; done) | decide +kernel)
set_option maxRecDepth 65536 in
set_option maxHeartbeats 40000000 in
theorem ct_law {l : Launch} {Z : State} {a0 : Array Value} (hw : ∀ d ∈ tables_1, d.before a0 Z = true) (ws : List Jvm.Cond) (h0 : Heap) (n0 : Nat) (x0 : Int32) (x1 : Int32) (x2 : Int32) (x3 : Int32) (x4 : Int32) (hz : n0 ≤ h0.size) :
    Ct l Z x code maxLocals ret ws room_1 #[.int x0, .int x1, .int x2, .int x3, .int x4] h0 n0 (fun v h => v = some (.int 1)) := by
  refine Ct.of (Ls := #[.val (.int x0), .val (.int x1), .val (.int x2), .val (.int x3), .val (.int x4), .unset, .unset, .unset, .unset]) pf_law (fun m => by first | (simp [entryFrame, mkF, argsToLocals, Value.category, maxLocals]; done) | rfl) ?_
  intro p e s m below meth c C
  have hk : Keep h0 h0 [] := Keep.refl _ _
  refine w_new (pc' := 3) (ce' := 1) (sl' := 1) C (tw hw 0 rfl) (tw hw 1 rfl) (tw hw 2 rfl) at_0 rfl rfl rfl (by decide) (by decide) (fun h1 a1 e1 E1 A1 D1 => ?_)
  have g_a1 : n0 ≤ a1 := by rw [e1]; exact hz
  have fr_a1 : h0.size ≤ a1 := by rw [e1]; exact hk.1
  have hz : n0 ≤ h1.size := Nat.le_trans hz E1.1
  have hk := hk.ext E1
  have O_a1 : Obj Z h1 a1 "com/example/aboxdb/aboxdb/Partition" [("parents", "[I", .null)] := obj_Par hw A1 D1
  refine w_dup (pc' := 4) C at_3 rfl rfl ?_
  refine w_iconst (pc' := 5) (x := (5 : Int32)) C at_4 rfl rfl ?_
  refine w_callI (pc' := 8) (argsL := [.int (5 : Int32)]) (st := [.ref a1]) (W := 1) (ce' := 2) (sl' := 6) C rfl (tw hw 3 rfl) (tw hw 4 rfl) (tw hw 2 rfl) (tw hw 5 rfl) (by decide) at_5 rfl rfl (by decide) (by decide) (Nat.le_of_eq rfl) rfl rfl (by decide) (by decide) rfl (lenOf pd_2 rfl) (ct_init hw h1 n0 a1 hz O_a1 g_a1) (k0 (fun h2 q2 => ?_))
  obtain ⟨c2_0, fb_c2_0, P_a1, P_c2_0, K2⟩ := q2
  have g_c2_0 : n0 ≤ c2_0 := Nat.le_trans hz fb_c2_0
  have fr_c2_0 : h0.size ≤ c2_0 := Nat.le_trans hk.1 fb_c2_0
  have ne_a1_c2_0 : a1 ≠ c2_0 := Nat.ne_of_lt (Nat.lt_of_lt_of_le O_a1.lt fb_c2_0)
  have hz : n0 ≤ h2.size := Nat.le_trans hz K2.1
  have hk := Keep.app hk K2 (fun x hx => Or.inl hx) (allS (Or.inr fr_a1) all0)
  have O_a1 := P_a1
  have O_c2_0 := P_c2_0
  refine w_astore (pc' := 10) (Ls' := #[.val (.int x0), .val (.int x1), .val (.int x2), .val (.int x3), .val (.int x4), .val (.ref a1), .unset, .unset, .unset]) C at_8 rfl rfl rfl ?_
  refine w_iconst (pc' := 11) (x := (5 : Int32)) C at_10 rfl rfl ?_
  refine wA_newP (pc' := 13) (cap := 5) (ce' := 3) (sl' := 11) C (tw hw 9 rfl) at_11 rfl (by decide) (by decide) (by decide) rfl rfl (by decide) (by decide) (fun h3 a3 e3 E3 A3 => ?_)
  have g_a3 : n0 ≤ a3 := by rw [e3]; exact hz
  have fr_a3 : h0.size ≤ a3 := by rw [e3]; exact hk.1
  have ne_a1_a3 : a1 ≠ a3 := by rw [e3]; exact Nat.ne_of_lt O_a1.lt
  have ne_c2_0_a3 : c2_0 ≠ a3 := by rw [e3]; exact Nat.ne_of_lt O_c2_0.lt
  have O_a1 := O_a1.ext E3
  have O_c2_0 := O_c2_0.ext E3
  have hz : n0 ≤ h3.size := Nat.le_trans hz E3.1
  have hk := hk.ext E3
  have O_a3 : Ar Z h3 a3 .int [.int (0 : Int32), .int (0 : Int32), .int (0 : Int32), .int (0 : Int32), .int (0 : Int32)] := A3
  refine w_dup (pc' := 14) C at_13 rfl rfl ?_
  refine w_iconst (pc' := 15) (x := (0 : Int32)) C at_14 rfl rfl ?_
  refine w_iconst (pc' := 16) (x := (0 : Int32)) C at_15 rfl rfl ?_
  refine wA_iastore (pc' := 17) C at_16 rfl g_a3 O_a3 (by decide) (Nat.le_of_ble_eq_true rfl) (fun h4 W4 A4 => ?_)
  have O_a3 : Ar Z h4 a3 .int [.int (0 : Int32), .int (0 : Int32), .int (0 : Int32), .int (0 : Int32), .int (0 : Int32)] := A4
  have O_a1 := O_a1.other W4 ne_a1_a3
  have O_c2_0 := O_c2_0.other W4 ne_c2_0_a3
  have hz : n0 ≤ h4.size := by rw [W4.size]; exact hz
  have hk := hk.wr W4 (Or.inr fr_a3)
  refine w_dup (pc' := 18) C at_17 rfl rfl ?_
  refine w_iconst (pc' := 19) (x := (1 : Int32)) C at_18 rfl rfl ?_
  refine w_iconst (pc' := 20) (x := (1 : Int32)) C at_19 rfl rfl ?_
  refine wA_iastore (pc' := 21) C at_20 rfl g_a3 O_a3 (by decide) (Nat.le_of_ble_eq_true rfl) (fun h5 W5 A5 => ?_)
  have O_a3 : Ar Z h5 a3 .int [.int (0 : Int32), .int (1 : Int32), .int (0 : Int32), .int (0 : Int32), .int (0 : Int32)] := A5
  have O_a1 := O_a1.other W5 ne_a1_a3
  have O_c2_0 := O_c2_0.other W5 ne_c2_0_a3
  have hz : n0 ≤ h5.size := by rw [W5.size]; exact hz
  have hk := hk.wr W5 (Or.inr fr_a3)
  refine w_dup (pc' := 22) C at_21 rfl rfl ?_
  refine w_iconst (pc' := 23) (x := (2 : Int32)) C at_22 rfl rfl ?_
  refine w_iconst (pc' := 24) (x := (2 : Int32)) C at_23 rfl rfl ?_
  refine wA_iastore (pc' := 25) C at_24 rfl g_a3 O_a3 (by decide) (Nat.le_of_ble_eq_true rfl) (fun h6 W6 A6 => ?_)
  have O_a3 : Ar Z h6 a3 .int [.int (0 : Int32), .int (1 : Int32), .int (2 : Int32), .int (0 : Int32), .int (0 : Int32)] := A6
  have O_a1 := O_a1.other W6 ne_a1_a3
  have O_c2_0 := O_c2_0.other W6 ne_c2_0_a3
  have hz : n0 ≤ h6.size := by rw [W6.size]; exact hz
  have hk := hk.wr W6 (Or.inr fr_a3)
  refine w_dup (pc' := 26) C at_25 rfl rfl ?_
  refine w_iconst (pc' := 27) (x := (3 : Int32)) C at_26 rfl rfl ?_
  refine w_iconst (pc' := 28) (x := (3 : Int32)) C at_27 rfl rfl ?_
  refine wA_iastore (pc' := 29) C at_28 rfl g_a3 O_a3 (by decide) (Nat.le_of_ble_eq_true rfl) (fun h7 W7 A7 => ?_)
  have O_a3 : Ar Z h7 a3 .int [.int (0 : Int32), .int (1 : Int32), .int (2 : Int32), .int (3 : Int32), .int (0 : Int32)] := A7
  have O_a1 := O_a1.other W7 ne_a1_a3
  have O_c2_0 := O_c2_0.other W7 ne_c2_0_a3
  have hz : n0 ≤ h7.size := by rw [W7.size]; exact hz
  have hk := hk.wr W7 (Or.inr fr_a3)
  refine w_dup (pc' := 30) C at_29 rfl rfl ?_
  refine w_iconst (pc' := 31) (x := (4 : Int32)) C at_30 rfl rfl ?_
  refine w_iconst (pc' := 32) (x := (4 : Int32)) C at_31 rfl rfl ?_
  refine wA_iastore (pc' := 33) C at_32 rfl g_a3 O_a3 (by decide) (Nat.le_of_ble_eq_true rfl) (fun h8 W8 A8 => ?_)
  have O_a3 : Ar Z h8 a3 .int [.int (0 : Int32), .int (1 : Int32), .int (2 : Int32), .int (3 : Int32), .int (4 : Int32)] := A8
  have O_a1 := O_a1.other W8 ne_a1_a3
  have O_c2_0 := O_c2_0.other W8 ne_c2_0_a3
  have hz : n0 ≤ h8.size := by rw [W8.size]; exact hz
  have hk := hk.wr W8 (Or.inr fr_a3)
  refine w_astore (pc' := 35) (Ls' := #[.val (.int x0), .val (.int x1), .val (.int x2), .val (.int x3), .val (.int x4), .val (.ref a1), .val (.ref a3), .unset, .unset]) C at_33 rfl rfl rfl ?_
  have O_c2_0 : Ar Z h8 c2_0 .int (id5.map Value.int) := O_c2_0
  have O_a3 : Ar Z h8 a3 .int (id5.map Value.int) := O_a3
  refine w_aload (pc' := 37) C at_35 rfl rfl rfl ?_
  refine w_aload (pc' := 39) C at_37 rfl rfl rfl ?_
  refine w_iloadN (pc' := 40) C at_39 rfl rfl ?_
  refine w_callS (pc' := 43) (argsL := [.ref a1, .ref a3, .int x0]) (st := []) (W := 0) (ce' := 3) (sl' := 11) C (tw hw 12 rfl) (tw hw 13 rfl) (tw hw 14 rfl) (tw hw 15 rfl) (by decide) at_40 rfl rfl (by decide) (by decide) (Nat.le_of_eq rfl) rfl rfl (by decide) (by decide) rfl (lenOf pd_3 rfl) (ct_doJoin hw h8 n0 a1 a3 x0 c2_0 id5 id5 hz inv0 O_a1 O_c2_0 O_a3 g_c2_0 g_a3 ne_a1_c2_0 ne_a1_a3 ne_c2_0_a3) (k0 (fun h9 q9 => ?_))
  obtain ⟨ps9, I9, P9, R9, K9⟩ := q9
  have O_a1 := O_a1.keep K9 (ninS ne_a1_c2_0 (ninS ne_a1_a3 nin0))
  have hz : n0 ≤ h9.size := Nat.le_trans hz K9.1
  have hk := Keep.app hk K9 (fun x hx => Or.inl hx) (allS (Or.inr fr_c2_0) (allS (Or.inr fr_a3) all0))
  have O_c2_0 := P9
  have O_a3 := R9
  refine w_aload (pc' := 45) C at_43 rfl rfl rfl ?_
  refine w_aload (pc' := 47) C at_45 rfl rfl rfl ?_
  refine w_iloadN (pc' := 48) C at_47 rfl rfl ?_
  refine w_callS (pc' := 51) (argsL := [.ref a1, .ref a3, .int x1]) (st := []) (W := 0) (ce' := 3) (sl' := 11) C (tw hw 12 rfl) (tw hw 13 rfl) (tw hw 14 rfl) (tw hw 15 rfl) (by decide) at_48 rfl rfl (by decide) (by decide) (Nat.le_of_eq rfl) rfl rfl (by decide) (by decide) rfl (lenOf pd_3 rfl) (ct_doJoin hw h9 n0 a1 a3 x1 c2_0 ps9 (joinX id5 x0) hz I9 O_a1 O_c2_0 O_a3 g_c2_0 g_a3 ne_a1_c2_0 ne_a1_a3 ne_c2_0_a3) (k0 (fun h10 q10 => ?_))
  obtain ⟨ps10, I10, P10, R10, K10⟩ := q10
  have O_a1 := O_a1.keep K10 (ninS ne_a1_c2_0 (ninS ne_a1_a3 nin0))
  have hz : n0 ≤ h10.size := Nat.le_trans hz K10.1
  have hk := Keep.app hk K10 (fun x hx => Or.inl hx) (allS (Or.inr fr_c2_0) (allS (Or.inr fr_a3) all0))
  have O_c2_0 := P10
  have O_a3 := R10
  refine w_aload (pc' := 53) C at_51 rfl rfl rfl ?_
  refine w_aload (pc' := 55) C at_53 rfl rfl rfl ?_
  refine w_iloadN (pc' := 56) C at_55 rfl rfl ?_
  refine w_callS (pc' := 59) (argsL := [.ref a1, .ref a3, .int x2]) (st := []) (W := 0) (ce' := 3) (sl' := 11) C (tw hw 12 rfl) (tw hw 13 rfl) (tw hw 14 rfl) (tw hw 15 rfl) (by decide) at_56 rfl rfl (by decide) (by decide) (Nat.le_of_eq rfl) rfl rfl (by decide) (by decide) rfl (lenOf pd_3 rfl) (ct_doJoin hw h10 n0 a1 a3 x2 c2_0 ps10 (joinX (joinX id5 x0) x1) hz I10 O_a1 O_c2_0 O_a3 g_c2_0 g_a3 ne_a1_c2_0 ne_a1_a3 ne_c2_0_a3) (k0 (fun h11 q11 => ?_))
  obtain ⟨ps11, I11, P11, R11, K11⟩ := q11
  have O_a1 := O_a1.keep K11 (ninS ne_a1_c2_0 (ninS ne_a1_a3 nin0))
  have hz : n0 ≤ h11.size := Nat.le_trans hz K11.1
  have hk := Keep.app hk K11 (fun x hx => Or.inl hx) (allS (Or.inr fr_c2_0) (allS (Or.inr fr_a3) all0))
  have O_c2_0 := P11
  have O_a3 := R11
  refine w_aload (pc' := 61) C at_59 rfl rfl rfl ?_
  refine w_aload (pc' := 63) C at_61 rfl rfl rfl ?_
  refine w_iloadN (pc' := 64) C at_63 rfl rfl ?_
  refine w_callS (pc' := 67) (argsL := [.ref a1, .ref a3, .int x3]) (st := []) (W := 0) (ce' := 3) (sl' := 11) C (tw hw 12 rfl) (tw hw 13 rfl) (tw hw 14 rfl) (tw hw 15 rfl) (by decide) at_64 rfl rfl (by decide) (by decide) (Nat.le_of_eq rfl) rfl rfl (by decide) (by decide) rfl (lenOf pd_3 rfl) (ct_doJoin hw h11 n0 a1 a3 x3 c2_0 ps11 (joinX (joinX (joinX id5 x0) x1) x2) hz I11 O_a1 O_c2_0 O_a3 g_c2_0 g_a3 ne_a1_c2_0 ne_a1_a3 ne_c2_0_a3) (k0 (fun h12 q12 => ?_))
  obtain ⟨ps12, I12, P12, R12, K12⟩ := q12
  have O_a1 := O_a1.keep K12 (ninS ne_a1_c2_0 (ninS ne_a1_a3 nin0))
  have hz : n0 ≤ h12.size := Nat.le_trans hz K12.1
  have hk := Keep.app hk K12 (fun x hx => Or.inl hx) (allS (Or.inr fr_c2_0) (allS (Or.inr fr_a3) all0))
  have O_c2_0 := P12
  have O_a3 := R12
  refine w_iload (pc' := 69) C at_67 rfl rfl ?_
  refine w_sipush (pc' := 72) (x := (255 : Int32)) C at_69 rfl rfl ?_
  refine w_iand (pc' := 73) C at_72 rfl ?_
  refine w_iconst (pc' := 74) (x := (5 : Int32)) C at_73 rfl rfl ?_
  refine w_irem (pc' := 75) C at_74 (by decide) rfl ?_
  refine w_istore (pc' := 77) (Ls' := #[.val (.int x0), .val (.int x1), .val (.int x2), .val (.int x3), .val (.int x4), .val (.ref a1), .val (.ref a3), .val (.int ((x4 &&& (255 : Int32)) % (5 : Int32))), .unset]) C at_75 rfl rfl ?_
  refine w_aload (pc' := 79) C at_77 rfl rfl rfl ?_
  refine w_iload (pc' := 81) C at_79 rfl rfl ?_
  refine w_callV (Cl := "com/example/aboxdb/aboxdb/Partition") (pc' := 84) (argsL := [.int ((x4 &&& (255 : Int32)) % (5 : Int32))]) (st := []) (W := 0) (ce' := 3) (sl' := 11) C (tw hw 26 rfl) (tw hw 22 rfl) (tw hw 24 rfl) (tw hw 23 rfl) (tw hw 2 rfl) (tw hw 25 rfl) (by decide) at_81 rfl rfl (by decide) (by decide) (Nat.le_of_eq rfl) rfl rfl (by decide) (by decide) rfl (lenOf pd_0 rfl) O_a1.1 (ct_root hw h12 n0 a1 ((x4 &&& (255 : Int32)) % (5 : Int32)) c2_0 ps12 (joinX (joinX (joinX (joinX id5 x0) x1) x2) x3) hz I12 (r5_mod _) O_a1 O_c2_0 g_c2_0 ne_a1_c2_0) (k1 (fun h13 q13 => ?_))
  obtain ⟨ps13, I13, P13, K13⟩ := q13
  have O_a1 := O_a1.keep K13 (ninS ne_a1_c2_0 nin0)
  have O_a3 := O_a3.keep K13 (ninS (Ne.symm ne_c2_0_a3) nin0)
  have hz : n0 ≤ h13.size := Nat.le_trans hz K13.1
  have hk := Keep.app hk K13 (fun x hx => Or.inl hx) (allS (Or.inr fr_c2_0) all0)
  have O_c2_0 := P13
  refine w_aload (pc' := 86) C at_84 rfl rfl rfl ?_
  refine w_iload (pc' := 88) C at_86 rfl rfl ?_
  refine wA_iaload (pc' := 89) (v := .int (at5 (joinX (joinX (joinX (joinX id5 x0) x1) x2) x3) ((x4 &&& (255 : Int32)) % (5 : Int32)))) C at_88 rfl O_a3 (R5.nn (r5_mod _)) (map_get I13.choose_spec.2.1 (r5_mod _)) ?_
  refine w_icmp_ne (pcT := 96) (pcF := 92) C at_89 (by decide) (by decide) rfl (fun q => absurd rfl q) (fun _ => ?_)
  refine w_iconst (pc' := 93) (x := (1 : Int32)) C at_92 rfl rfl ?_
  refine w_goto (pc' := 97) C at_93 (by decide) (by decide) ?_
  refine w_istore (pc' := 99) (Ls' := #[.val (.int x0), .val (.int x1), .val (.int x2), .val (.int x3), .val (.int x4), .val (.ref a1), .val (.ref a3), .val (.int ((x4 &&& (255 : Int32)) % (5 : Int32))), .val (.int (1 : Int32))]) C at_97 rfl rfl ?_
  refine w_iload (pc' := 101) C at_99 rfl rfl ?_
  refine w_iconst (pc' := 102) (x := (1 : Int32)) C at_101 rfl rfl ?_
  refine w_iadd (pc' := 103) C at_102 rfl ?_
  refine w_iconst (pc' := 104) (x := (5 : Int32)) C at_103 rfl rfl ?_
  refine w_irem (pc' := 105) C at_104 (by decide) rfl ?_
  refine w_istore (pc' := 107) (Ls' := #[.val (.int x0), .val (.int x1), .val (.int x2), .val (.int x3), .val (.int x4), .val (.ref a1), .val (.ref a3), .val (.int ((((x4 &&& (255 : Int32)) % (5 : Int32)) + (1 : Int32)) % (5 : Int32))), .val (.int (1 : Int32))]) C at_105 rfl rfl ?_
  refine w_iload (pc' := 109) C at_107 rfl rfl ?_
  refine w_if_eq (pcT := 131) (pcF := 112) C at_109 (by decide) (by decide) rfl (fun q => absurd q (by decide)) (fun q109 => ?_)
  refine w_aload (pc' := 114) C at_112 rfl rfl rfl ?_
  refine w_iload (pc' := 116) C at_114 rfl rfl ?_
  refine w_callV (Cl := "com/example/aboxdb/aboxdb/Partition") (pc' := 119) (argsL := [.int ((((x4 &&& (255 : Int32)) % (5 : Int32)) + (1 : Int32)) % (5 : Int32))]) (st := []) (W := 0) (ce' := 3) (sl' := 11) C (tw hw 26 rfl) (tw hw 22 rfl) (tw hw 24 rfl) (tw hw 23 rfl) (tw hw 2 rfl) (tw hw 25 rfl) (by decide) at_116 rfl rfl (by decide) (by decide) (Nat.le_of_eq rfl) rfl rfl (by decide) (by decide) rfl (lenOf pd_0 rfl) O_a1.1 (ct_root hw h13 n0 a1 ((((x4 &&& (255 : Int32)) % (5 : Int32)) + (1 : Int32)) % (5 : Int32)) c2_0 ps13 (joinX (joinX (joinX (joinX id5 x0) x1) x2) x3) hz I13 (r5_next (r5_mod _)) O_a1 O_c2_0 g_c2_0 ne_a1_c2_0) (k1 (fun h14 q14 => ?_))
  obtain ⟨ps14, I14, P14, K14⟩ := q14
  have O_a1 := O_a1.keep K14 (ninS ne_a1_c2_0 nin0)
  have O_a3 := O_a3.keep K14 (ninS (Ne.symm ne_c2_0_a3) nin0)
  have hz : n0 ≤ h14.size := Nat.le_trans hz K14.1
  have hk := Keep.app hk K14 (fun x hx => Or.inl hx) (allS (Or.inr fr_c2_0) all0)
  have O_c2_0 := P14
  refine w_aload (pc' := 121) C at_119 rfl rfl rfl ?_
  refine w_iload (pc' := 123) C at_121 rfl rfl ?_
  refine wA_iaload (pc' := 124) (v := .int (at5 (joinX (joinX (joinX (joinX id5 x0) x1) x2) x3) ((((x4 &&& (255 : Int32)) % (5 : Int32)) + (1 : Int32)) % (5 : Int32)))) C at_123 rfl O_a3 (R5.nn (r5_next (r5_mod _))) (map_get I14.choose_spec.2.1 (r5_next (r5_mod _))) ?_
  refine w_icmp_ne (pcT := 131) (pcF := 127) C at_124 (by decide) (by decide) rfl (fun q => absurd rfl q) (fun _ => ?_)
  refine w_iconst (pc' := 128) (x := (1 : Int32)) C at_127 rfl rfl ?_
  refine w_goto (pc' := 132) C at_128 (by decide) (by decide) ?_
  refine w_istore (pc' := 134) (Ls' := #[.val (.int x0), .val (.int x1), .val (.int x2), .val (.int x3), .val (.int x4), .val (.ref a1), .val (.ref a3), .val (.int ((((x4 &&& (255 : Int32)) % (5 : Int32)) + (1 : Int32)) % (5 : Int32))), .val (.int (1 : Int32))]) C at_132 rfl rfl ?_
  refine w_iload (pc' := 136) C at_134 rfl rfl ?_
  refine w_iconst (pc' := 137) (x := (1 : Int32)) C at_136 rfl rfl ?_
  refine w_iadd (pc' := 138) C at_137 rfl ?_
  refine w_iconst (pc' := 139) (x := (5 : Int32)) C at_138 rfl rfl ?_
  refine w_irem (pc' := 140) C at_139 (by decide) rfl ?_
  refine w_istore (pc' := 142) (Ls' := #[.val (.int x0), .val (.int x1), .val (.int x2), .val (.int x3), .val (.int x4), .val (.ref a1), .val (.ref a3), .val (.int ((((((x4 &&& (255 : Int32)) % (5 : Int32)) + (1 : Int32)) % (5 : Int32)) + (1 : Int32)) % (5 : Int32))), .val (.int (1 : Int32))]) C at_140 rfl rfl ?_
  refine w_iload (pc' := 144) C at_142 rfl rfl ?_
  refine w_if_eq (pcT := 166) (pcF := 147) C at_144 (by decide) (by decide) rfl (fun q => absurd q (by decide)) (fun q144 => ?_)
  refine w_aload (pc' := 149) C at_147 rfl rfl rfl ?_
  refine w_iload (pc' := 151) C at_149 rfl rfl ?_
  refine w_callV (Cl := "com/example/aboxdb/aboxdb/Partition") (pc' := 154) (argsL := [.int ((((((x4 &&& (255 : Int32)) % (5 : Int32)) + (1 : Int32)) % (5 : Int32)) + (1 : Int32)) % (5 : Int32))]) (st := []) (W := 0) (ce' := 3) (sl' := 11) C (tw hw 26 rfl) (tw hw 22 rfl) (tw hw 24 rfl) (tw hw 23 rfl) (tw hw 2 rfl) (tw hw 25 rfl) (by decide) at_151 rfl rfl (by decide) (by decide) (Nat.le_of_eq rfl) rfl rfl (by decide) (by decide) rfl (lenOf pd_0 rfl) O_a1.1 (ct_root hw h14 n0 a1 ((((((x4 &&& (255 : Int32)) % (5 : Int32)) + (1 : Int32)) % (5 : Int32)) + (1 : Int32)) % (5 : Int32)) c2_0 ps14 (joinX (joinX (joinX (joinX id5 x0) x1) x2) x3) hz I14 (r5_next (r5_next (r5_mod _))) O_a1 O_c2_0 g_c2_0 ne_a1_c2_0) (k1 (fun h15 q15 => ?_))
  obtain ⟨ps15, I15, P15, K15⟩ := q15
  have O_a1 := O_a1.keep K15 (ninS ne_a1_c2_0 nin0)
  have O_a3 := O_a3.keep K15 (ninS (Ne.symm ne_c2_0_a3) nin0)
  have hz : n0 ≤ h15.size := Nat.le_trans hz K15.1
  have hk := Keep.app hk K15 (fun x hx => Or.inl hx) (allS (Or.inr fr_c2_0) all0)
  have O_c2_0 := P15
  refine w_aload (pc' := 156) C at_154 rfl rfl rfl ?_
  refine w_iload (pc' := 158) C at_156 rfl rfl ?_
  refine wA_iaload (pc' := 159) (v := .int (at5 (joinX (joinX (joinX (joinX id5 x0) x1) x2) x3) ((((((x4 &&& (255 : Int32)) % (5 : Int32)) + (1 : Int32)) % (5 : Int32)) + (1 : Int32)) % (5 : Int32)))) C at_158 rfl O_a3 (R5.nn (r5_next (r5_next (r5_mod _)))) (map_get I15.choose_spec.2.1 (r5_next (r5_next (r5_mod _)))) ?_
  refine w_icmp_ne (pcT := 166) (pcF := 162) C at_159 (by decide) (by decide) rfl (fun q => absurd rfl q) (fun _ => ?_)
  refine w_iconst (pc' := 163) (x := (1 : Int32)) C at_162 rfl rfl ?_
  refine w_goto (pc' := 167) C at_163 (by decide) (by decide) ?_
  refine w_istore (pc' := 169) (Ls' := #[.val (.int x0), .val (.int x1), .val (.int x2), .val (.int x3), .val (.int x4), .val (.ref a1), .val (.ref a3), .val (.int ((((((x4 &&& (255 : Int32)) % (5 : Int32)) + (1 : Int32)) % (5 : Int32)) + (1 : Int32)) % (5 : Int32))), .val (.int (1 : Int32))]) C at_167 rfl rfl ?_
  refine w_iload (pc' := 171) C at_169 rfl rfl ?_
  refine w_iconst (pc' := 172) (x := (1 : Int32)) C at_171 rfl rfl ?_
  refine w_iadd (pc' := 173) C at_172 rfl ?_
  refine w_iconst (pc' := 174) (x := (5 : Int32)) C at_173 rfl rfl ?_
  refine w_irem (pc' := 175) C at_174 (by decide) rfl ?_
  refine w_istore (pc' := 177) (Ls' := #[.val (.int x0), .val (.int x1), .val (.int x2), .val (.int x3), .val (.int x4), .val (.ref a1), .val (.ref a3), .val (.int ((((((((x4 &&& (255 : Int32)) % (5 : Int32)) + (1 : Int32)) % (5 : Int32)) + (1 : Int32)) % (5 : Int32)) + (1 : Int32)) % (5 : Int32))), .val (.int (1 : Int32))]) C at_175 rfl rfl ?_
  refine w_iload (pc' := 179) C at_177 rfl rfl ?_
  refine w_if_eq (pcT := 201) (pcF := 182) C at_179 (by decide) (by decide) rfl (fun q => absurd q (by decide)) (fun q179 => ?_)
  refine w_aload (pc' := 184) C at_182 rfl rfl rfl ?_
  refine w_iload (pc' := 186) C at_184 rfl rfl ?_
  refine w_callV (Cl := "com/example/aboxdb/aboxdb/Partition") (pc' := 189) (argsL := [.int ((((((((x4 &&& (255 : Int32)) % (5 : Int32)) + (1 : Int32)) % (5 : Int32)) + (1 : Int32)) % (5 : Int32)) + (1 : Int32)) % (5 : Int32))]) (st := []) (W := 0) (ce' := 3) (sl' := 11) C (tw hw 26 rfl) (tw hw 22 rfl) (tw hw 24 rfl) (tw hw 23 rfl) (tw hw 2 rfl) (tw hw 25 rfl) (by decide) at_186 rfl rfl (by decide) (by decide) (Nat.le_of_eq rfl) rfl rfl (by decide) (by decide) rfl (lenOf pd_0 rfl) O_a1.1 (ct_root hw h15 n0 a1 ((((((((x4 &&& (255 : Int32)) % (5 : Int32)) + (1 : Int32)) % (5 : Int32)) + (1 : Int32)) % (5 : Int32)) + (1 : Int32)) % (5 : Int32)) c2_0 ps15 (joinX (joinX (joinX (joinX id5 x0) x1) x2) x3) hz I15 (r5_next (r5_next (r5_next (r5_mod _)))) O_a1 O_c2_0 g_c2_0 ne_a1_c2_0) (k1 (fun h16 q16 => ?_))
  obtain ⟨ps16, I16, P16, K16⟩ := q16
  have O_a1 := O_a1.keep K16 (ninS ne_a1_c2_0 nin0)
  have O_a3 := O_a3.keep K16 (ninS (Ne.symm ne_c2_0_a3) nin0)
  have hz : n0 ≤ h16.size := Nat.le_trans hz K16.1
  have hk := Keep.app hk K16 (fun x hx => Or.inl hx) (allS (Or.inr fr_c2_0) all0)
  have O_c2_0 := P16
  refine w_aload (pc' := 191) C at_189 rfl rfl rfl ?_
  refine w_iload (pc' := 193) C at_191 rfl rfl ?_
  refine wA_iaload (pc' := 194) (v := .int (at5 (joinX (joinX (joinX (joinX id5 x0) x1) x2) x3) ((((((((x4 &&& (255 : Int32)) % (5 : Int32)) + (1 : Int32)) % (5 : Int32)) + (1 : Int32)) % (5 : Int32)) + (1 : Int32)) % (5 : Int32)))) C at_193 rfl O_a3 (R5.nn (r5_next (r5_next (r5_next (r5_mod _))))) (map_get I16.choose_spec.2.1 (r5_next (r5_next (r5_next (r5_mod _))))) ?_
  refine w_icmp_ne (pcT := 201) (pcF := 197) C at_194 (by decide) (by decide) rfl (fun q => absurd rfl q) (fun _ => ?_)
  refine w_iconst (pc' := 198) (x := (1 : Int32)) C at_197 rfl rfl ?_
  refine w_goto (pc' := 202) C at_198 (by decide) (by decide) ?_
  refine w_istore (pc' := 204) (Ls' := #[.val (.int x0), .val (.int x1), .val (.int x2), .val (.int x3), .val (.int x4), .val (.ref a1), .val (.ref a3), .val (.int ((((((((x4 &&& (255 : Int32)) % (5 : Int32)) + (1 : Int32)) % (5 : Int32)) + (1 : Int32)) % (5 : Int32)) + (1 : Int32)) % (5 : Int32))), .val (.int (1 : Int32))]) C at_202 rfl rfl ?_
  refine w_iload (pc' := 206) C at_204 rfl rfl ?_
  refine w_iconst (pc' := 207) (x := (1 : Int32)) C at_206 rfl rfl ?_
  refine w_iadd (pc' := 208) C at_207 rfl ?_
  refine w_iconst (pc' := 209) (x := (5 : Int32)) C at_208 rfl rfl ?_
  refine w_irem (pc' := 210) C at_209 (by decide) rfl ?_
  refine w_istore (pc' := 212) (Ls' := #[.val (.int x0), .val (.int x1), .val (.int x2), .val (.int x3), .val (.int x4), .val (.ref a1), .val (.ref a3), .val (.int ((((((((((x4 &&& (255 : Int32)) % (5 : Int32)) + (1 : Int32)) % (5 : Int32)) + (1 : Int32)) % (5 : Int32)) + (1 : Int32)) % (5 : Int32)) + (1 : Int32)) % (5 : Int32))), .val (.int (1 : Int32))]) C at_210 rfl rfl ?_
  refine w_iload (pc' := 214) C at_212 rfl rfl ?_
  refine w_if_eq (pcT := 236) (pcF := 217) C at_214 (by decide) (by decide) rfl (fun q => absurd q (by decide)) (fun q214 => ?_)
  refine w_aload (pc' := 219) C at_217 rfl rfl rfl ?_
  refine w_iload (pc' := 221) C at_219 rfl rfl ?_
  refine w_callV (Cl := "com/example/aboxdb/aboxdb/Partition") (pc' := 224) (argsL := [.int ((((((((((x4 &&& (255 : Int32)) % (5 : Int32)) + (1 : Int32)) % (5 : Int32)) + (1 : Int32)) % (5 : Int32)) + (1 : Int32)) % (5 : Int32)) + (1 : Int32)) % (5 : Int32))]) (st := []) (W := 0) (ce' := 3) (sl' := 11) C (tw hw 26 rfl) (tw hw 22 rfl) (tw hw 24 rfl) (tw hw 23 rfl) (tw hw 2 rfl) (tw hw 25 rfl) (by decide) at_221 rfl rfl (by decide) (by decide) (Nat.le_of_eq rfl) rfl rfl (by decide) (by decide) rfl (lenOf pd_0 rfl) O_a1.1 (ct_root hw h16 n0 a1 ((((((((((x4 &&& (255 : Int32)) % (5 : Int32)) + (1 : Int32)) % (5 : Int32)) + (1 : Int32)) % (5 : Int32)) + (1 : Int32)) % (5 : Int32)) + (1 : Int32)) % (5 : Int32)) c2_0 ps16 (joinX (joinX (joinX (joinX id5 x0) x1) x2) x3) hz I16 (r5_next (r5_next (r5_next (r5_next (r5_mod _))))) O_a1 O_c2_0 g_c2_0 ne_a1_c2_0) (k1 (fun h17 q17 => ?_))
  obtain ⟨ps17, I17, P17, K17⟩ := q17
  have O_a1 := O_a1.keep K17 (ninS ne_a1_c2_0 nin0)
  have O_a3 := O_a3.keep K17 (ninS (Ne.symm ne_c2_0_a3) nin0)
  have hz : n0 ≤ h17.size := Nat.le_trans hz K17.1
  have hk := Keep.app hk K17 (fun x hx => Or.inl hx) (allS (Or.inr fr_c2_0) all0)
  have O_c2_0 := P17
  refine w_aload (pc' := 226) C at_224 rfl rfl rfl ?_
  refine w_iload (pc' := 228) C at_226 rfl rfl ?_
  refine wA_iaload (pc' := 229) (v := .int (at5 (joinX (joinX (joinX (joinX id5 x0) x1) x2) x3) ((((((((((x4 &&& (255 : Int32)) % (5 : Int32)) + (1 : Int32)) % (5 : Int32)) + (1 : Int32)) % (5 : Int32)) + (1 : Int32)) % (5 : Int32)) + (1 : Int32)) % (5 : Int32)))) C at_228 rfl O_a3 (R5.nn (r5_next (r5_next (r5_next (r5_next (r5_mod _)))))) (map_get I17.choose_spec.2.1 (r5_next (r5_next (r5_next (r5_next (r5_mod _)))))) ?_
  refine w_icmp_ne (pcT := 236) (pcF := 232) C at_229 (by decide) (by decide) rfl (fun q => absurd rfl q) (fun _ => ?_)
  refine w_iconst (pc' := 233) (x := (1 : Int32)) C at_232 rfl rfl ?_
  refine w_goto (pc' := 237) C at_233 (by decide) (by decide) ?_
  refine w_istore (pc' := 239) (Ls' := #[.val (.int x0), .val (.int x1), .val (.int x2), .val (.int x3), .val (.int x4), .val (.ref a1), .val (.ref a3), .val (.int ((((((((((x4 &&& (255 : Int32)) % (5 : Int32)) + (1 : Int32)) % (5 : Int32)) + (1 : Int32)) % (5 : Int32)) + (1 : Int32)) % (5 : Int32)) + (1 : Int32)) % (5 : Int32))), .val (.int (1 : Int32))]) C at_237 rfl rfl ?_
  refine w_iload (pc' := 241) C at_239 rfl rfl ?_
  refine w_retN' (t := .boolean) (z' := (1 : Int32)) C rfl (by simp) at_241 (by decide) (by decide) narB1 ?_
  rfl
theorem q_law {v : Option Value} (q : v = some (.int 1)) : v = some (.int 1) := q
set_option maxRecDepth 65536 in
set_option maxHeartbeats 40000000 in
theorem comes_1 {Post : Tables → Env → Array Value → State → Outcome → State → Prop} (hpost : ∀ tb e args s v u, (limb_1_1.after args s (.returned v) u = true ∧ limb_1_2.after args s (.returned v) u = true ∧ True) → FrameEnd s (.returned v) u (Jvm.fieldLocs frame_1_writes args s ++ Jvm.arrayLocs frame_1_arrays args s ++ Jvm.staticLocs frame_1_statics s) 16 128 → Post tb e args s (.returned v) u) :
    ArmFor flags0 classFile x code maxLocals ret World_1 tables_1 room_1 Calls_1 rest_1 Pre_1 Post := by
  intro l hfl _ _ p e ha hc hk s m args below hf hA hF happ hP
  obtain ⟨hcalls, hrest, hpre⟩ := hP
  obtain ⟨-, -, -, hnamed, -, -, -, hat⟩ := (Spec.applies_iff hf).mp happ
  obtain ⟨hg, hn⟩ := and_e (Cond.before_iff.mp (show (Jvm.Cond.and given_1 narrow_1).before args s = true from hpre))
  obtain ⟨h1, hr0⟩ := and_e hg
  obtain ⟨w0, w1, w2, w3, w4, rfl⟩ : ∃ w0 w1 w2 w3 w4 : Value, args = #[w0, w1, w2, w3, w4] := by
    have hs : args.size = 5 := by simpa [Cond.value, given_1] using h1
    obtain ⟨L⟩ := args
    match L, hs with
    | [w0, w1, w2, w3, w4], _ => exact ⟨w0, w1, w2, w3, w4, rfl⟩
  have hw := fun d (hd : d ∈ tables_1) => atoms_spec (ws := Jvm.Cond.code x code maxLocals ret :: tables_1) hat d (List.mem_cons_of_mem _ hd)
  obtain ⟨hi0, hr1⟩ := and_e hr0
  obtain ⟨i0, e0⟩ := is_v hi0
  obtain rfl : w0 = (.int i0) := Option.some.inj e0
  obtain ⟨hi1, hr2⟩ := and_e hr1
  obtain ⟨i1, e1⟩ := is_v hi1
  obtain rfl : w1 = (.int i1) := Option.some.inj e1
  obtain ⟨hi2, hr3⟩ := and_e hr2
  obtain ⟨i2, e2⟩ := is_v hi2
  obtain rfl : w2 = (.int i2) := Option.some.inj e2
  obtain ⟨hi3, hr4⟩ := and_e hr3
  obtain ⟨i3, e3⟩ := is_v hi3
  obtain rfl : w3 = (.int i3) := Option.some.inj e3
  have hi4 := hr4
  obtain ⟨i4, e4⟩ := is_v hi4
  obtain rfl : w4 = (.int i4) := Option.some.inj e4
  obtain ⟨n, o, h1, h2, h3, _, L, rfl, ⟨q, N⟩, hq⟩ := ct_law (l := l) (Z := s) (a0 := _) hw tables_1 s.heap s.heap.size i0 i1 i2 i3 i4 (Nat.le_refl _) p e ha hc hk s m _ below hf ((Spec.applies_iff_loose hf).mp happ).1 ⟨rfl, State.Warmed39.refl s, rfl⟩ trivial
  have q1 := q_law q
  subst q1
  refine ⟨n, _, h1, h2, h3, hpost _ _ _ _ _ _ ⟨Cond.after_iff.mpr rfl, Cond.after_iff.mpr (eq_i res_at (Term.int_eval (1)) rfl), trivial⟩ ⟨hq.1, hq.2.1, (hq.2.2.sift fun y hy => Or.inr (N y hy)).mono (by decide) (by decide)⟩⟩
theorem main_1_1 : Claimed_1_1 := comes_1 fun _ _ _ _ _ _ h hF => ⟨h.1, hF⟩
theorem main_1_2 : Claimed_1_2 := comes_1 fun _ _ _ _ _ _ h hF => ⟨h.2.1, hF⟩
end Jvm.Pilot.@@N@@
namespace Jvm.Pilot.@@N@@
open Jvm Jvm.ClassFile Sem Op Lib Jvm.Free Jvm.Stand Jvm.Pilot.@@N@@.Jvm.D
/-! MADE BY PROGRAM (witnessworld.py) out of the Statement's table words and the real class files: 9 classes; the members and pool entries that the words name. The judged class is class 1, her method 1. -/
namespace start1
open Jvm.ClassFile
def u (s : String) : CpInfo := .utf8 (stringToUtf16 s)
/-- a pool by its gaps: so many unusable entries, then the entry; so many at the end -/
def gap : Nat → List CpInfo → List CpInfo
  | 0, r => r
  | n + 1, r => .unusable :: gap n r
def poolList (es : List (Nat × CpInfo)) (last : Nat) : List CpInfo := es.foldr (fun e r => gap e.1 (e.2 :: r)) (gap last [])
def pool (es : List (Nat × CpInfo)) (last : Nat) : Array CpInfo := ⟨poolList es last⟩
def fileOf (pool : Array CpInfo) (this : Nat) (attrs : Array Attribute := #[]) (ms : Array MethodInfo := #[]) (fl : Nat := 33) (sup : Nat := 0) (ifs : Array Nat := #[]) (fds : Array FieldInfo := #[]) : ClassFile where
  minorVersion := 0
  majorVersion := 65
  constantPool := pool
  accessFlags := fl
  thisClass := this
  superClass := sup
  interfaces := ifs
  fields := fds
  methods := ms
  attributes := attrs
def plain (name : String) (sup : Option ClassId) : Class where
  name := name
  kind := .ordinary
  loader := none
  accessFlags := 33
  super := sup
  interfaces := #[]
  cf := none
  fields := #[]
  methods := #[]
  instanceTypes := #[]
  staticTypes := #[]
  resolved := #[]
  callSites := []
  init := .initialized
  statics := none
  mirror := none

def pool0 : Array CpInfo := pool [(5, u "<init>"), (0, u "()V"), (1, .class_ 10), (1, u "java/lang/Object")] 113

def k0c0 : Code := { maxStack := 0, maxLocals := 1, code := object_method_1_code, exceptionTable := #[], attributes := #[] }
def k0m0 : Method := { name := "<init>", desc := "()V", sig := { parameters := [], returnType := none }, accessFlags := 1, code := some k0c0 }
/-- java/lang/Object -/
def k0 : Class := { plain "java/lang/Object" none with
  accessFlags := 33
  interfaces := #[]
  cf := some (fileOf pool0 8 #[] #[{ accessFlags := 1, nameIndex := 5, descriptorIndex := 6, attributes := #[] }] 33 0 #[] #[])
  fields := #[]
  methods := #[k0m0]
  instanceTypes := #[]
  staticTypes := #[]
  resolved := Array.replicate 124 none
  statics := none }

def pool1 : Array CpInfo := pool [(2, .class_ 4), (1, u "java/lang/Object"), (0, u "<init>"), (0, u "()V"), (0, .class_ 8), (0, u "com/example/aboxdb/aboxdb/Partition"), (0, .methodref 7 10), (0, .nameAndType 5 11), (0, u "(I)V"), (0, .methodref 13 14), (0, .class_ 15), (0, .nameAndType 16 17), (0, u "com/example/aboxdb/aboxdb/PartitionRootPinLaw"), (0, u "doJoin"), (0, u "(Lcom/example/aboxdb/aboxdb/Partition;[II)V"), (0, .methodref 7 19), (0, .nameAndType 20 21), (0, u "root"), (0, u "(I)I"), (0, .methodref 7 23), (0, .nameAndType 24 25), (0, u "join"), (0, u "(II)V"), (2, u "law"), (0, u "(IIIII)Z")] 5

def k1m0 : Method := { name := "<init>", desc := "()V", sig := { parameters := [], returnType := none }, accessFlags := 1, code := none }
def k1c1 : Code := { maxStack := 4, maxLocals := 9, code := code, exceptionTable := #[], attributes := #[] }
def k1m1 : Method := { name := "law", desc := "(IIIII)Z", sig := { parameters := [.int, .int, .int, .int, .int], returnType := some .boolean }, accessFlags := 9, code := some k1c1 }
def k1c2 : Code := { maxStack := 3, maxLocals := 7, code := method_3_code, exceptionTable := #[], attributes := #[] }
def k1m2 : Method := { name := "doJoin", desc := "(Lcom/example/aboxdb/aboxdb/Partition;[II)V", sig := { parameters := [(.object "com/example/aboxdb/aboxdb/Partition"), (.array .int), .int], returnType := none }, accessFlags := 10, code := some k1c2 }
/-- com/example/aboxdb/aboxdb/PartitionRootPinLaw -/
def k1 : Class := { plain "com/example/aboxdb/aboxdb/PartitionRootPinLaw" (some 0) with
  accessFlags := 49
  interfaces := #[]
  cf := some (fileOf pool1 13 #[] #[{ accessFlags := 1, nameIndex := 5, descriptorIndex := 6, attributes := #[] }, { accessFlags := 9, nameIndex := 28, descriptorIndex := 29, attributes := #[] }, { accessFlags := 10, nameIndex := 16, descriptorIndex := 17, attributes := #[] }] 49 2 #[] #[])
  fields := #[]
  methods := #[k1m0, k1m1, k1m2]
  instanceTypes := #[]
  staticTypes := #[]
  resolved := Array.replicate 35 none
  statics := none }

def pool2 : Array CpInfo := pool [(1, .methodref 2 3), (0, .class_ 4), (0, .nameAndType 5 6), (0, u "java/lang/Object"), (0, u "<init>"), (0, u "()V"), (0, .fieldref 8 9), (0, .class_ 10), (0, .nameAndType 11 12), (0, u "com/example/aboxdb/aboxdb/Partition"), (0, u "parents"), (0, u "[I"), (0, .methodref 8 14), (0, .nameAndType 15 16), (0, u "root"), (0, u "(I)I"), (0, u "(I)V"), (3, u "join"), (0, u "(II)V")] 2

def k2c0 : Code := { maxStack := 3, maxLocals := 3, code := prog_28_method_1_code, exceptionTable := #[], attributes := #[] }
def k2m0 : Method := { name := "<init>", desc := "(I)V", sig := { parameters := [.int], returnType := none }, accessFlags := 0, code := some k2c0 }
def k2c1 : Code := { maxStack := 4, maxLocals := 3, code := prog_28_method_2_code, exceptionTable := #[], attributes := #[] }
def k2m1 : Method := { name := "join", desc := "(II)V", sig := { parameters := [.int, .int], returnType := none }, accessFlags := 0, code := some k2c1 }
def k2c2 : Code := { maxStack := 5, maxLocals := 3, code := prog_28_method_3_code, exceptionTable := #[], attributes := #[] }
def k2m2 : Method := { name := "root", desc := "(I)I", sig := { parameters := [.int], returnType := some .int }, accessFlags := 0, code := some k2c2 }
/-- com/example/aboxdb/aboxdb/Partition -/
def k2 : Class := { plain "com/example/aboxdb/aboxdb/Partition" (some 0) with
  accessFlags := 48
  interfaces := #[]
  cf := some (fileOf pool2 8 #[] #[{ accessFlags := 0, nameIndex := 5, descriptorIndex := 17, attributes := #[] }, { accessFlags := 0, nameIndex := 21, descriptorIndex := 22, attributes := #[] }, { accessFlags := 0, nameIndex := 15, descriptorIndex := 16, attributes := #[] }] 48 2 #[] #[{ accessFlags := 18, nameIndex := 11, descriptorIndex := 12, attributes := #[] }])
  fields := #[{ name := "parents", type := (.array .int), accessFlags := 18, slot := 0, constantValue := 0 }]
  methods := #[k2m0, k2m1, k2m2]
  instanceTypes := #[(.array .int)]
  staticTypes := #[]
  resolved := Array.replicate 25 none
  statics := none }

def pool3 : Array CpInfo := pool [(1, u "java/lang/Cloneable"), (0, .class_ 1), (0, u "java/lang/Object"), (0, .class_ 3)] 3

/-- java/lang/Cloneable -/
def k3 : Class := { plain "java/lang/Cloneable" (some 0) with
  accessFlags := 1537
  interfaces := #[]
  cf := some (fileOf pool3 2 #[] #[] 1537 4 #[] #[])
  fields := #[]
  methods := #[]
  instanceTypes := #[]
  staticTypes := #[]
  resolved := Array.replicate 8 none
  statics := none }

def pool4 : Array CpInfo := pool [(1, u "java/io/Serializable"), (0, .class_ 1), (0, u "java/lang/Object"), (0, .class_ 3)] 3

/-- java/io/Serializable -/
def k4 : Class := { plain "java/io/Serializable" (some 0) with
  accessFlags := 1537
  interfaces := #[]
  cf := some (fileOf pool4 2 #[] #[] 1537 4 #[] #[])
  fields := #[]
  methods := #[]
  instanceTypes := #[]
  staticTypes := #[]
  resolved := Array.replicate 8 none
  statics := none }

/-- the primitive byte -/
def k5 : Class := { plain "byte" none with kind := .primitive 'B', accessFlags := 0x411 }
/-- [B -/
def k6 : Class := { plain "[B" (some 0) with kind := .array 5 .byte, interfaces := #[3, 4], accessFlags := 1041 }

/-- the primitive int -/
def k7 : Class := { plain "int" none with kind := .primitive 'I', accessFlags := 0x411 }
/-- [I -/
def k8 : Class := { plain "[I" (some 0) with kind := .array 7 .int, interfaces := #[3, 4], accessFlags := 1041 }

def heap : Heap := #[]
def classes : Array Class := #[k0, k1, k2, k3, k4, k5, k6, k7, k8]
def interned : List (Array UInt16 × Addr) := []
def slotsUsed : Nat := 0
def theMethod : MethodId := ⟨1, 1⟩
def args0 : Array Value := #[.int 5, .int 6, .int 7, .int 8, .int 9]
def aboutOver (below : List Frame) : State where
  vm := { classes := classes, interned := interned.toArray }
  heap := heap
  slotsUsed := slotsUsed
  threads := #[{ frames := .invoking theMethod args0 :: below }]
def below0 : List Frame := [.native { method := ⟨0, 0⟩, args := #[] }]
def about1 : State := aboutOver below0
def p0 : Program := .bare "" "" ""
def e0 : Env := launch0.env 0 0 0
theorem w_frames : about1.frames = Frame.invoking theMethod args0 :: below0 := rfl
set_option maxRecDepth 65536 in
theorem w_args : argsFit about1.vm theMethod args0 = true := by decide +kernel
set_option maxRecDepth 65536 in
theorem w_heap : heapFits about1 = true := by decide +kernel
set_option maxRecDepth 65536 in
theorem w_runnable : about1.curStatus? = some .runnable := by decide +kernel
set_option maxRecDepth 65536 in
theorem w_alone : about1.alone = true := by decide +kernel
set_option maxRecDepth 65536 in
theorem w_named : about1.methodNamed? x = some theMethod := by decide +kernel
set_option maxRecDepth 65536 in
theorem w_hears : about1.hears theMethod below0 = true := by decide +kernel
set_option maxRecDepth 65536 in
theorem w_ripe : about1.ripe theMethod args0 below0 = true := by decide +kernel
theorem w_running : about1.status = .running := rfl
set_option maxRecDepth 65536 in
theorem w_room : about1.hasRoom e0.platform room_1 = true :=
  launch0.hasRoom_least _ room_1 (by decide +kernel) (by decide +kernel) (by decide +kernel) (by decide +kernel) (by decide +kernel) (by decide +kernel)
theorem allAtoms_all (ts : List Jvm.Cond) (a : Array Jvm.Value) (st : Jvm.State) : (allAtoms ts).before a st = ts.all (fun c => c.before a st) := by
  induction ts with
  | nil => rfl
  | cons c t ih =>
    show (Jvm.Cond.and c (allAtoms t)).before a st = _
    rw [Jvm.Cond.before_and, ih, List.all_cons]
def words1 : List Jvm.Cond := Jvm.Cond.code x code maxLocals ret :: tables_1
/-- a 'code' word, met by the world's own term for the bytes: nothing is compared byte by byte -/
theorem code_word {y : MethodName} {bytes : ByteArray} {mx : Nat} {rt : Option FieldType} {a : Array Value} {s : State} {m : MethodId} {meth : Method} {c : Code} (h1 : s.methodNamed? y = some m) (h2 : s.vm.method? m = some meth) (h3 : meth.code = some c) (h4 : c.code = bytes)
    (h5 : (c.maxLocals == mx && c.exceptionTable.isEmpty && decide (c.maxStack ≤ mostOperands) && decide (meth.sig.returnType = rt) && !meth.locks && decide (parseMethodDescriptor y.desc = some meth.sig)) = true) : (Jvm.Cond.code y bytes mx rt).before a s = true := by
  simp only [Bool.and_eq_true, beq_iff_eq, Bool.not_eq_true', decide_eq_true_eq] at h5
  obtain ⟨⟨⟨⟨⟨g1, g2⟩, g3⟩, g4⟩, g5⟩, g6⟩ := h5
  simp [Cond.before, Cond.holds, Cond.value, h1, h2, h3, h4, g1, g2, g3, g4, g5, g6]
def isCode : Jvm.Cond → Bool
  | .code _ _ _ _ => true
  | _ => false
theorem all_split {L : List Jvm.Cond} {P : Jvm.Cond → Bool} (h1 : L.all (fun c => isCode c || P c) = true) (h2 : ∀ c ∈ L.filter isCode, P c = true) : L.all P = true := by
  refine List.all_eq_true.mpr fun c hc => ?_
  have h := List.all_eq_true.mp h1 c hc
  rcases Bool.eq_false_or_eq_true (isCode c) with hi | hi
  · exact h2 c (List.mem_filter.mpr ⟨hc, hi⟩)
  · simpa [hi] using h
set_option maxRecDepth 65536 in
theorem w_c0 : (Jvm.Cond.code x code maxLocals ret).before args0 about1 = true := code_word (m := ⟨1, 1⟩) (meth := k1m1) (c := k1c1) (by decide +kernel) rfl rfl rfl (by decide +kernel)
set_option maxRecDepth 65536 in
theorem w_c1 : (Jvm.Cond.code ({ cls := "com/example/aboxdb/aboxdb/Partition", name := "<init>", desc := "(I)V" } : Jvm.MethodName) prog_28_method_1_code (3 : Nat) (Option.none : Option Jvm.ClassFile.FieldType)).before args0 about1 = true := code_word (m := ⟨2, 0⟩) (meth := k2m0) (c := k2c0) (by decide +kernel) rfl rfl rfl (by decide +kernel)
set_option maxRecDepth 65536 in
theorem w_c2 : (Jvm.Cond.code ({ cls := "java/lang/Object", name := "<init>", desc := "()V" } : Jvm.MethodName) object_method_1_code (1 : Nat) (Option.none : Option Jvm.ClassFile.FieldType)).before args0 about1 = true := code_word (m := ⟨0, 0⟩) (meth := k0m0) (c := k0c0) (by decide +kernel) rfl rfl rfl (by decide +kernel)
set_option maxRecDepth 65536 in
theorem w_c3 : (Jvm.Cond.code ({ cls := "com/example/aboxdb/aboxdb/PartitionRootPinLaw", name := "doJoin", desc := "(Lcom/example/aboxdb/aboxdb/Partition;[II)V" } : Jvm.MethodName) method_3_code (7 : Nat) (Option.none : Option Jvm.ClassFile.FieldType)).before args0 about1 = true := code_word (m := ⟨1, 2⟩) (meth := k1m2) (c := k1c2) (by decide +kernel) rfl rfl rfl (by decide +kernel)
set_option maxRecDepth 65536 in
theorem w_c4 : (Jvm.Cond.code ({ cls := "com/example/aboxdb/aboxdb/Partition", name := "join", desc := "(II)V" } : Jvm.MethodName) prog_28_method_2_code (3 : Nat) (Option.none : Option Jvm.ClassFile.FieldType)).before args0 about1 = true := code_word (m := ⟨2, 1⟩) (meth := k2m1) (c := k2c1) (by decide +kernel) rfl rfl rfl (by decide +kernel)
set_option maxRecDepth 65536 in
theorem w_c5 : (Jvm.Cond.code ({ cls := "com/example/aboxdb/aboxdb/Partition", name := "root", desc := "(I)I" } : Jvm.MethodName) prog_28_method_3_code (3 : Nat) (Option.some Jvm.ClassFile.FieldType.int)).before args0 about1 = true := code_word (m := ⟨2, 2⟩) (meth := k2m2) (c := k2c2) (by decide +kernel) rfl rfl rfl (by decide +kernel)
def codes1 : List Jvm.Cond := [Jvm.Cond.code x code maxLocals ret, Jvm.Cond.code ({ cls := "com/example/aboxdb/aboxdb/Partition", name := "<init>", desc := "(I)V" } : Jvm.MethodName) prog_28_method_1_code (3 : Nat) (Option.none : Option Jvm.ClassFile.FieldType), Jvm.Cond.code ({ cls := "java/lang/Object", name := "<init>", desc := "()V" } : Jvm.MethodName) object_method_1_code (1 : Nat) (Option.none : Option Jvm.ClassFile.FieldType), Jvm.Cond.code ({ cls := "com/example/aboxdb/aboxdb/PartitionRootPinLaw", name := "doJoin", desc := "(Lcom/example/aboxdb/aboxdb/Partition;[II)V" } : Jvm.MethodName) method_3_code (7 : Nat) (Option.none : Option Jvm.ClassFile.FieldType), Jvm.Cond.code ({ cls := "com/example/aboxdb/aboxdb/Partition", name := "join", desc := "(II)V" } : Jvm.MethodName) prog_28_method_2_code (3 : Nat) (Option.none : Option Jvm.ClassFile.FieldType), Jvm.Cond.code ({ cls := "com/example/aboxdb/aboxdb/Partition", name := "root", desc := "(I)I" } : Jvm.MethodName) prog_28_method_3_code (3 : Nat) (Option.some Jvm.ClassFile.FieldType.int)]
set_option maxRecDepth 65536 in
theorem codes_eq : words1.filter isCode = codes1 := rfl
theorem w_codes : ∀ c ∈ words1.filter isCode, c.before args0 about1 = true := by
  rw [codes_eq]
  intro c hc
  simp only [codes1, List.mem_cons, List.not_mem_nil, or_false] at hc
  rcases hc with rfl | rfl | rfl | rfl | rfl | rfl
  · exact w_c0
  · exact w_c1
  · exact w_c2
  · exact w_c3
  · exact w_c4
  · exact w_c5
set_option maxRecDepth 65536 in
theorem w_t1 : (words1.take 24).all (fun c => isCode c || c.before args0 about1) = true := by decide +kernel
set_option maxRecDepth 65536 in
theorem w_t2 : (words1.drop 24).all (fun c => isCode c || c.before args0 about1) = true := by decide +kernel
theorem w_tables : (allAtoms (Jvm.Cond.code x code maxLocals ret :: tables_1)).before args0 about1 = true := by
  rw [allAtoms_all]
  show words1.all (fun c => c.before args0 about1) = true
  refine all_split ?_ w_codes
  rw [← List.take_append_drop 24 words1, List.all_append, w_t1, w_t2]
  rfl
set_option maxRecDepth 65536 in
theorem w_case : (Jvm.Cond.and given_1 narrow_1).before args0 about1 = true := by decide +kernel
theorem w_applies : (headSpec (Jvm.Cond.code x code maxLocals ret :: tables_1) room_1).applies x e0.platform about1 = true :=
  (Spec.applies_iff w_frames).mpr ⟨w_running, w_runnable, w_alone, w_named, w_hears, w_ripe, w_room, w_tables⟩
theorem atStart : AtStart classFile x code maxLocals ret World_1 tables_1 room_1 Calls_1 rest_1 Pre_1 launch0 p0 e0 about1 theMethod args0 below0 :=
  ⟨lists_1, trivial, launch0.admits_env _ _ _, launch0.least_env, fairChoices_fair.cas, fairChoices_fair.clock, w_frames, w_args, w_heap, w_applies, trivial, trivial, w_case⟩
end start1
theorem witness_1 : WitnessClaimed_1 := ⟨start1.p0, start1.e0, start1.about1, start1.theMethod, start1.args0, start1.below0, start1.atStart⟩
end Jvm.Pilot.@@N@@
