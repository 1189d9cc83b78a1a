import JvmDerived
import JvmDerived.Pilot.@@N@@Statement
import JvmDerived.Pilot.@@N@@Code
set_option linter.unusedVariables false
set_option linter.unusedSimpArgs false
namespace Jvm.Own
open Jvm Sem ClassFile Op Lib Jvm.Stand Jvm.Free Jvm.LawKit Jvm.RoadKit
/-- what is left to run: from any state that stands here with this heap, in this frame, the method comes back, and Q holds of what it returns and of the heap -/
def Wp (p : Program) (l : Launch) (e : Env) (R : Room) (s : State) (m : MethodId) (args : Array Value) (below : List Frame) (meth : Method) (c : Code)
    (n0 cM sM : Nat) (Q : Option Value → Heap → Prop) (h : Heap) (cells slots : Nat) (g : JFrame) : Prop :=
  ∀ (T : State) (locs : List Loc), Stand p l e R s m args below meth c T locs cells slots → T.heap = h → Fr n0 locs →
    ∃ s₂ v L, Steps p.tables e below (T.setTop g) s₂ ∧ s₂.status = .running ∧ Ended s₂ below (.returned v) ∧ (Q v s₂.heap ∧ Fr n0 L) ∧ FrameEnd s (.returned v) s₂ L cM sM
/-- what is known of the method that is walked -/
def Cx (p : Program) (s : State) (m : MethodId) (meth : Method) (c : Code) (Z : State) (own : String) (bytes : ByteArray) (ml : Nat) (rt : Option FieldType) (nm : String) : Prop :=
  p.tables.exec = Jvm.exec ∧ c.code = bytes ∧ Z.Warmed39 s.vm ∧ s.vm.findClass own = some m.cls ∧ c.maxLocals = ml ∧ meth.sig.returnType = rt ∧ meth.name = nm ∧ meth.locks = false
/-- a method's contract: called with these arguments at this heap -/
def Ct (l : Launch) (Z : State) (y : MethodName) (bytes : ByteArray) (maxL : Nat) (ret : Option FieldType) (ws : List Jvm.Cond) (rm : Room) (as' : Array Value) (h : Heap) (n0 : Nat) (Q : Option Value → Heap → Prop) : Prop :=
  MetFree l y (head1 (Jvm.Cond.code y bytes maxL ret :: ws) rm) (fun a U => a = as' ∧ Z.Warmed39 U.vm ∧ U.heap = h) (fun _ _ _ _ _ => True)
    (fun _ U o U' => ∃ v L, o = .returned v ∧ (Q v U'.heap ∧ Fr n0 L) ∧ FrameEnd U o U' L rm.cells rm.slots)
theorem Ct.of {l : Launch} {Z : State} {y : MethodName} {bytes : ByteArray} {maxL : Nat} {ret : Option FieldType} {ws : List Jvm.Cond} {rm : Room} {as' : Array Value} {h : Heap} {n0 : Nat} {Q : Option Value → Heap → Prop} {Ls : Array Slot}
    (hpl : plainFor y = true) (ef : ∀ m, entryFrame m as' maxL = mkF m 0 Ls [])
    (H : ∀ p e s m below meth c, Cx p s m meth c Z y.cls bytes maxL ret y.name → Wp p l e rm s m as' below meth c n0 rm.cells rm.slots Q h 0 0 (mkF m 0 Ls [])) :
    Ct l Z y bytes maxL ret ws rm as' h n0 Q := by
  refine MetFree.of_bodySF hpl hisR ?_
  intro p e s m args below meth c s₁ Bd hml0 hP hK
  obtain ⟨rfl, hZ, hh⟩ := hP
  have C : Cx p s m meth c Z y.cls bytes maxL ret y.name := ⟨Bd.exec, Bd.bytes, hZ, findClass_of_methodNamed Bd.named, hml0, Bd.returns, (name_of_methodNamed Bd.named Bd.method).1, Bd.notSynchronized⟩
  obtain ⟨s₂, v, L, a1, a2, a3, a4, a5⟩ := H p e s m below meth c C s₁ [] (Stand.of_body Bd) (by rw [← hh, Bd.state]; rfl) (Fr.nil n0)
  exact ⟨s₂, .returned v, castTop (ef m) a1, a2, a3, v, L, rfl, a4, a5⟩
theorem Ct.mono {l : Launch} {Z : State} {y : MethodName} {bytes : ByteArray} {maxL : Nat} {ret : Option FieldType} {ws : List Jvm.Cond} {rm : Room} {as' : Array Value} {h : Heap} {n0 : Nat} {Q Q' : Option Value → Heap → Prop}
    (H : Ct l Z y bytes maxL ret ws rm as' h n0 Q) (i : ∀ v h', Q v h' → Q' v h') : Ct l Z y bytes maxL ret ws rm as' h n0 Q' := by
  intro p e ha hc hk s m args below hf happ hP hK
  obtain ⟨n, o, h1, h2, h3, v, L, h4, h5, h6⟩ := H p e ha hc hk s m args below hf happ hP hK
  exact ⟨n, o, h1, h2, h3, v, L, h4, ⟨i _ _ h5.1, h5.2⟩, h6⟩
section Rules
variable {p : Program} {l : Launch} {e : Env} {R : Room} {s : State} {m : MethodId} {args : Array Value} {below : List Frame} {meth : Method} {c : Code} {n0 cM sM : Nat} {Q : Option Value → Heap → Prop} {h : Heap} {cells slots : Nat}
variable {Z : State} {own nm : String} {bytes : ByteArray} {ml : Nat} {rt : Option FieldType} {a0 : Array Value}
theorem Wp.pure {g g' : JFrame} (st : ∀ (T t : State), At T m c below → Steps p.tables e below (T.setTop g') t → Steps p.tables e below (T.setTop g) t) (k : Wp p l e R s m args below meth c n0 cM sM Q h cells slots g') :
    Wp p l e R s m args below meth c n0 cM sM Q h cells slots g := fun T locs X e0 N => by
  obtain ⟨s2, v, L, a, r⟩ := k T locs X e0 N
  exact ⟨s2, v, L, st T s2 X.here a, r⟩
theorem Wp.law {g g' : JFrame} (st : ∀ (T : State) (locs : List Loc), Stand p l e R s m args below meth c T locs cells slots → T.heap = h → ∃ T', Stand p l e R s m args below meth c T' locs cells slots ∧ T'.heap = h ∧ ∀ t, Steps p.tables e below (T'.setTop g') t → Steps p.tables e below (T.setTop g) t)
    (k : Wp p l e R s m args below meth c n0 cM sM Q h cells slots g') : Wp p l e R s m args below meth c n0 cM sM Q h cells slots g := fun T locs X e0 N => by
  obtain ⟨T', X', e', st'⟩ := st T locs X e0
  obtain ⟨s2, v, L, a, r⟩ := k T' locs X' e' N
  exact ⟨s2, v, L, st' s2 a, r⟩
theorem Wp.more {g : JFrame} {cells' slots' : Nat} (hc : cells ≤ cells') (hs : slots ≤ slots') (k : Wp p l e R s m args below meth c n0 cM sM Q h cells' slots' g) : Wp p l e R s m args below meth c n0 cM sM Q h cells slots g :=
  fun T locs X e0 N => k T locs (X.more hc hs) e0 N
theorem Wp.mono {g : JFrame} {Q' : Option Value → Heap → Prop} (i : ∀ v h', Q v h' → Q' v h') (k : Wp p l e R s m args below meth c n0 cM sM Q h cells slots g) : Wp p l e R s m args below meth c n0 cM sM Q' h cells slots g :=
  fun T locs X e0 N => by
    obtain ⟨s2, v, L, a, b, d, q, r⟩ := k T locs X e0 N
    exact ⟨s2, v, L, a, b, d, ⟨i _ _ q.1, q.2⟩, r⟩
theorem Wp.ret {g : JFrame} {v : Option Value} (C : Cx p s m meth c Z own bytes ml rt nm)
    (st : ∀ (T : State) (fs : List Frame) (locs : List Loc), Stand p l e R s m args below meth c T locs cells slots → (∀ (f : JFrame) (acts : List Action), f.method = m → f.locked = none → f.entered = [] → (doReturn e (T.setTop f) acts v).1 = T.setFrames fs) → Steps p.tables e below (T.setTop g) (T.setFrames fs))
    (hv : meth.sig.returnType = none → v = none) (hc : cells ≤ cM) (hs : slots ≤ sM) (q : Q v h) : Wp p l e R s m args below meth c n0 cM sM Q h cells slots g := by
  intro T locs X e0 N
  have hlk : meth.locks = false := C.2.2.2.2.2.2.2
  obtain ⟨fs, hr, hrun, hended, hW, hsame⟩ := X.leave (v := v) hv hlk
  exact ⟨_, v, locs, st T fs locs X hr, hrun, hended, ⟨by subst e0; exact q, N⟩, ⟨_, rfl⟩, hW, hsame.mono hc hs⟩
theorem w_iloadN (C : Cx p s m meth c Z own bytes ml rt nm) {pc pc' : Nat} {Ls : Array Slot} {st : List Value} {k : Fin 4} {x : Int32} (hd : decode bytes pc = .ok (.iload_n k, 1)) (hl : Ls[k.val]? = some (.val (.int x))) (hp : pc + 1 = pc') (K : Wp p l e R s m args below meth c n0 cM sM Q h cells slots (mkF m pc' Ls (.int x :: st))) :
    Wp p l e R s m args below meth c n0 cM sM Q h cells slots (mkF m pc Ls st) := by
  subst hp; exact Wp.pure (fun T t X hr => XS.iloadN X C.1 rfl (hb C.2.1 hd) hl hr) K
theorem w_iload (C : Cx p s m meth c Z own bytes ml rt nm) {pc pc' : Nat} {Ls : Array Slot} {st : List Value} {k : Nat} {x : Int32} (hd : decode bytes pc = .ok (.iload k, 2)) (hl : Ls[k]? = some (.val (.int x))) (hp : pc + 2 = pc') (K : Wp p l e R s m args below meth c n0 cM sM Q h cells slots (mkF m pc' Ls (.int x :: st))) :
    Wp p l e R s m args below meth c n0 cM sM Q h cells slots (mkF m pc Ls st) := by
  subst hp; exact Wp.pure (fun T t X hr => XS.iload X C.1 rfl (hb C.2.1 hd) hl hr) K
theorem w_lloadN (C : Cx p s m meth c Z own bytes ml rt nm) {pc pc' : Nat} {Ls : Array Slot} {st : List Value} {k : Fin 4} {x : Int64} (hd : decode bytes pc = .ok (.lload_n k, 1)) (hl : Ls[k.val]? = some (.val (.long x))) (hp : pc + 1 = pc') (K : Wp p l e R s m args below meth c n0 cM sM Q h cells slots (mkF m pc' Ls (.long x :: st))) :
    Wp p l e R s m args below meth c n0 cM sM Q h cells slots (mkF m pc Ls st) := by
  subst hp; exact Wp.pure (fun T t X hr => XS.lloadN X C.1 rfl (hb C.2.1 hd) hl hr) K
theorem w_lload (C : Cx p s m meth c Z own bytes ml rt nm) {pc pc' : Nat} {Ls : Array Slot} {st : List Value} {k : Nat} {x : Int64} (hd : decode bytes pc = .ok (.lload k, 2)) (hl : Ls[k]? = some (.val (.long x))) (hp : pc + 2 = pc') (K : Wp p l e R s m args below meth c n0 cM sM Q h cells slots (mkF m pc' Ls (.long x :: st))) :
    Wp p l e R s m args below meth c n0 cM sM Q h cells slots (mkF m pc Ls st) := by
  subst hp; exact Wp.pure (fun T t X hr => XS.lload X C.1 rfl (hb C.2.1 hd) hl hr) K
theorem w_aloadN (C : Cx p s m meth c Z own bytes ml rt nm) {pc pc' : Nat} {Ls : Array Slot} {st : List Value} {k : Fin 4} {v : Value} (hd : decode bytes pc = .ok (.aload_n k, 1)) (hl : Ls[k.val]? = some (.val v)) (hv : v.isRef = true) (hp : pc + 1 = pc') (K : Wp p l e R s m args below meth c n0 cM sM Q h cells slots (mkF m pc' Ls (v :: st))) :
    Wp p l e R s m args below meth c n0 cM sM Q h cells slots (mkF m pc Ls st) := by
  subst hp; exact Wp.pure (fun T t X hr => XS.aloadN X C.1 rfl (hb C.2.1 hd) hl hv hr) K
theorem w_aload (C : Cx p s m meth c Z own bytes ml rt nm) {pc pc' : Nat} {Ls : Array Slot} {st : List Value} {k : Nat} {v : Value} (hd : decode bytes pc = .ok (.aload k, 2)) (hl : Ls[k]? = some (.val v)) (hv : v.isRef = true) (hp : pc + 2 = pc') (K : Wp p l e R s m args below meth c n0 cM sM Q h cells slots (mkF m pc' Ls (v :: st))) :
    Wp p l e R s m args below meth c n0 cM sM Q h cells slots (mkF m pc Ls st) := by
  subst hp; exact Wp.pure (fun T t X hr => XS.aload X C.1 rfl (hb C.2.1 hd) hl hv hr) K
theorem w_istoreN (C : Cx p s m meth c Z own bytes ml rt nm) {pc pc' : Nat} {Ls : Array Slot} {st : List Value} {k : Fin 4} {x : Int32} {Ls' : Array Slot} (hd : decode bytes pc = .ok (.istore_n k, 1)) (hl : storeLocals Ls k.val (.int x) = some Ls') (hp : pc + 1 = pc') (K : Wp p l e R s m args below meth c n0 cM sM Q h cells slots (mkF m pc' Ls' st)) :
    Wp p l e R s m args below meth c n0 cM sM Q h cells slots (mkF m pc Ls (.int x :: st)) := by
  subst hp; exact Wp.pure (fun T t X hr => XS.istoreN X C.1 rfl (hb C.2.1 hd) rfl hl hr) K
theorem w_istore (C : Cx p s m meth c Z own bytes ml rt nm) {pc pc' : Nat} {Ls : Array Slot} {st : List Value} {k : Nat} {x : Int32} {Ls' : Array Slot} (hd : decode bytes pc = .ok (.istore k, 2)) (hl : storeLocals Ls k (.int x) = some Ls') (hp : pc + 2 = pc') (K : Wp p l e R s m args below meth c n0 cM sM Q h cells slots (mkF m pc' Ls' st)) :
    Wp p l e R s m args below meth c n0 cM sM Q h cells slots (mkF m pc Ls (.int x :: st)) := by
  subst hp; exact Wp.pure (fun T t X hr => XS.istore X C.1 rfl (hb C.2.1 hd) rfl hl hr) K
theorem w_lstoreN (C : Cx p s m meth c Z own bytes ml rt nm) {pc pc' : Nat} {Ls : Array Slot} {st : List Value} {k : Fin 4} {x : Int64} {Ls' : Array Slot} (hd : decode bytes pc = .ok (.lstore_n k, 1)) (hl : storeLocals Ls k.val (.long x) = some Ls') (hp : pc + 1 = pc') (K : Wp p l e R s m args below meth c n0 cM sM Q h cells slots (mkF m pc' Ls' st)) :
    Wp p l e R s m args below meth c n0 cM sM Q h cells slots (mkF m pc Ls (.long x :: st)) := by
  subst hp; exact Wp.pure (fun T t X hr => XS.lstoreN X C.1 rfl (hb C.2.1 hd) rfl hl hr) K
theorem w_lstore (C : Cx p s m meth c Z own bytes ml rt nm) {pc pc' : Nat} {Ls : Array Slot} {st : List Value} {k : Nat} {x : Int64} {Ls' : Array Slot} (hd : decode bytes pc = .ok (.lstore k, 2)) (hl : storeLocals Ls k (.long x) = some Ls') (hp : pc + 2 = pc') (K : Wp p l e R s m args below meth c n0 cM sM Q h cells slots (mkF m pc' Ls' st)) :
    Wp p l e R s m args below meth c n0 cM sM Q h cells slots (mkF m pc Ls (.long x :: st)) := by
  subst hp; exact Wp.pure (fun T t X hr => XS.lstore X C.1 rfl (hb C.2.1 hd) rfl hl hr) K
theorem w_astoreN (C : Cx p s m meth c Z own bytes ml rt nm) {pc pc' : Nat} {Ls : Array Slot} {st : List Value} {k : Fin 4} {v : Value} {Ls' : Array Slot} (hd : decode bytes pc = .ok (.astore_n k, 1)) (hv : v.isRef = true) (hl : storeLocals Ls k.val v = some Ls') (hp : pc + 1 = pc') (K : Wp p l e R s m args below meth c n0 cM sM Q h cells slots (mkF m pc' Ls' st)) :
    Wp p l e R s m args below meth c n0 cM sM Q h cells slots (mkF m pc Ls (v :: st)) := by
  subst hp; exact Wp.pure (fun T t X hr => XS.astoreN X C.1 rfl (hb C.2.1 hd) rfl hv hl hr) K
theorem w_astore (C : Cx p s m meth c Z own bytes ml rt nm) {pc pc' : Nat} {Ls : Array Slot} {st : List Value} {k : Nat} {v : Value} {Ls' : Array Slot} (hd : decode bytes pc = .ok (.astore k, 2)) (hv : v.isRef = true) (hl : storeLocals Ls k v = some Ls') (hp : pc + 2 = pc') (K : Wp p l e R s m args below meth c n0 cM sM Q h cells slots (mkF m pc' Ls' st)) :
    Wp p l e R s m args below meth c n0 cM sM Q h cells slots (mkF m pc Ls (v :: st)) := by
  subst hp; exact Wp.pure (fun T t X hr => XS.astore X C.1 rfl (hb C.2.1 hd) rfl hv hl hr) K
theorem w_iinc (C : Cx p s m meth c Z own bytes ml rt nm) {pc pc' : Nat} {Ls : Array Slot} {st : List Value} {k : Nat} {cst : Int} {x : Int32} {Ls' : Array Slot} (hd : decode bytes pc = .ok (.iinc k cst, 3)) (hx : Ls[k]? = some (.val (.int x))) (hl : storeLocals Ls k (.int (x + Int32.ofInt cst)) = some Ls') (hp : pc + 3 = pc') (K : Wp p l e R s m args below meth c n0 cM sM Q h cells slots (mkF m pc' Ls' st)) :
    Wp p l e R s m args below meth c n0 cM sM Q h cells slots (mkF m pc Ls st) := by
  subst hp; exact Wp.pure (fun T t X hr => XS.iinc X C.1 rfl (hb C.2.1 hd) hx hl hr) K
theorem w_iconst (C : Cx p s m meth c Z own bytes ml rt nm) {pc pc' : Nat} {Ls : Array Slot} {st : List Value} {i : Int} {x : Int32} (hd : decode bytes pc = .ok (.iconst i, 1)) (hx : Int32.ofInt i = x) (hp : pc + 1 = pc') (K : Wp p l e R s m args below meth c n0 cM sM Q h cells slots (mkF m pc' Ls (.int x :: st))) :
    Wp p l e R s m args below meth c n0 cM sM Q h cells slots (mkF m pc Ls st) := by
  subst hp hx; exact Wp.pure (fun T t X hr => XS.iconst X C.1 rfl (hb C.2.1 hd) hr) K
theorem w_bipush (C : Cx p s m meth c Z own bytes ml rt nm) {pc pc' : Nat} {Ls : Array Slot} {st : List Value} {i : Int} {x : Int32} (hd : decode bytes pc = .ok (.bipush i, 2)) (hx : (Int8.ofInt i).toInt32 = x) (hp : pc + 2 = pc') (K : Wp p l e R s m args below meth c n0 cM sM Q h cells slots (mkF m pc' Ls (.int x :: st))) :
    Wp p l e R s m args below meth c n0 cM sM Q h cells slots (mkF m pc Ls st) := by
  subst hp hx; exact Wp.pure (fun T t X hr => XS.bipush X C.1 rfl (hb C.2.1 hd) hr) K
theorem w_sipush (C : Cx p s m meth c Z own bytes ml rt nm) {pc pc' : Nat} {Ls : Array Slot} {st : List Value} {i : Int} {x : Int32} (hd : decode bytes pc = .ok (.sipush i, 3)) (hx : (Int16.ofInt i).toInt32 = x) (hp : pc + 3 = pc') (K : Wp p l e R s m args below meth c n0 cM sM Q h cells slots (mkF m pc' Ls (.int x :: st))) :
    Wp p l e R s m args below meth c n0 cM sM Q h cells slots (mkF m pc Ls st) := by
  subst hp hx; exact Wp.pure (fun T t X hr => XS.sipush X C.1 rfl (hb C.2.1 hd) hr) K
theorem w_lconst (C : Cx p s m meth c Z own bytes ml rt nm) {pc pc' : Nat} {Ls : Array Slot} {st : List Value} {k : Fin 2} {x : Int64} (hd : decode bytes pc = .ok (.lconst k, 1)) (hx : Int64.ofNat k = x) (hp : pc + 1 = pc') (K : Wp p l e R s m args below meth c n0 cM sM Q h cells slots (mkF m pc' Ls (.long x :: st))) :
    Wp p l e R s m args below meth c n0 cM sM Q h cells slots (mkF m pc Ls st) := by
  subst hp hx; exact Wp.pure (fun T t X hr => XS.lconst X C.1 rfl (hb C.2.1 hd) hr) K
theorem w_aconstNull (C : Cx p s m meth c Z own bytes ml rt nm) {pc pc' : Nat} {Ls : Array Slot} {st : List Value}  (hd : decode bytes pc = .ok (.aconst_null, 1))  (hp : pc + 1 = pc') (K : Wp p l e R s m args below meth c n0 cM sM Q h cells slots (mkF m pc' Ls (.null :: st))) :
    Wp p l e R s m args below meth c n0 cM sM Q h cells slots (mkF m pc Ls st) := by
  subst hp; exact Wp.pure (fun T t X hr => XS.aconstNull X C.1 rfl (hb C.2.1 hd)  hr) K
theorem w_iadd (C : Cx p s m meth c Z own bytes ml rt nm) {pc pc' : Nat} {Ls : Array Slot} {st : List Value} {x y : Int32} (hd : decode bytes pc = .ok (.iadd, 1))  (hp : pc + 1 = pc') (K : Wp p l e R s m args below meth c n0 cM sM Q h cells slots (mkF m pc' Ls (.int (x + y) :: st))) :
    Wp p l e R s m args below meth c n0 cM sM Q h cells slots (mkF m pc Ls (.int y :: .int x :: st)) := by
  subst hp; exact Wp.pure (fun T t X hr => XS.iadd X C.1 rfl (hb C.2.1 hd) rfl hr) K
theorem w_isub (C : Cx p s m meth c Z own bytes ml rt nm) {pc pc' : Nat} {Ls : Array Slot} {st : List Value} {x y : Int32} (hd : decode bytes pc = .ok (.isub, 1))  (hp : pc + 1 = pc') (K : Wp p l e R s m args below meth c n0 cM sM Q h cells slots (mkF m pc' Ls (.int (x - y) :: st))) :
    Wp p l e R s m args below meth c n0 cM sM Q h cells slots (mkF m pc Ls (.int y :: .int x :: st)) := by
  subst hp; exact Wp.pure (fun T t X hr => XS.isub X C.1 rfl (hb C.2.1 hd) rfl hr) K
theorem w_imul (C : Cx p s m meth c Z own bytes ml rt nm) {pc pc' : Nat} {Ls : Array Slot} {st : List Value} {x y : Int32} (hd : decode bytes pc = .ok (.imul, 1))  (hp : pc + 1 = pc') (K : Wp p l e R s m args below meth c n0 cM sM Q h cells slots (mkF m pc' Ls (.int (x * y) :: st))) :
    Wp p l e R s m args below meth c n0 cM sM Q h cells slots (mkF m pc Ls (.int y :: .int x :: st)) := by
  subst hp; exact Wp.pure (fun T t X hr => XS.imul X C.1 rfl (hb C.2.1 hd) rfl hr) K
theorem w_iand (C : Cx p s m meth c Z own bytes ml rt nm) {pc pc' : Nat} {Ls : Array Slot} {st : List Value} {x y : Int32} (hd : decode bytes pc = .ok (.iand, 1))  (hp : pc + 1 = pc') (K : Wp p l e R s m args below meth c n0 cM sM Q h cells slots (mkF m pc' Ls (.int (x &&& y) :: st))) :
    Wp p l e R s m args below meth c n0 cM sM Q h cells slots (mkF m pc Ls (.int y :: .int x :: st)) := by
  subst hp; exact Wp.pure (fun T t X hr => XS.iand X C.1 rfl (hb C.2.1 hd) rfl hr) K
theorem w_ior (C : Cx p s m meth c Z own bytes ml rt nm) {pc pc' : Nat} {Ls : Array Slot} {st : List Value} {x y : Int32} (hd : decode bytes pc = .ok (.ior, 1))  (hp : pc + 1 = pc') (K : Wp p l e R s m args below meth c n0 cM sM Q h cells slots (mkF m pc' Ls (.int (x ||| y) :: st))) :
    Wp p l e R s m args below meth c n0 cM sM Q h cells slots (mkF m pc Ls (.int y :: .int x :: st)) := by
  subst hp; exact Wp.pure (fun T t X hr => XS.ior X C.1 rfl (hb C.2.1 hd) rfl hr) K
theorem w_ixor (C : Cx p s m meth c Z own bytes ml rt nm) {pc pc' : Nat} {Ls : Array Slot} {st : List Value} {x y : Int32} (hd : decode bytes pc = .ok (.ixor, 1))  (hp : pc + 1 = pc') (K : Wp p l e R s m args below meth c n0 cM sM Q h cells slots (mkF m pc' Ls (.int (x ^^^ y) :: st))) :
    Wp p l e R s m args below meth c n0 cM sM Q h cells slots (mkF m pc Ls (.int y :: .int x :: st)) := by
  subst hp; exact Wp.pure (fun T t X hr => XS.ixor X C.1 rfl (hb C.2.1 hd) rfl hr) K
theorem w_ishl (C : Cx p s m meth c Z own bytes ml rt nm) {pc pc' : Nat} {Ls : Array Slot} {st : List Value} {x y : Int32} (hd : decode bytes pc = .ok (.ishl, 1))  (hp : pc + 1 = pc') (K : Wp p l e R s m args below meth c n0 cM sM Q h cells slots (mkF m pc' Ls (.int (x <<< (y &&& 31)) :: st))) :
    Wp p l e R s m args below meth c n0 cM sM Q h cells slots (mkF m pc Ls (.int y :: .int x :: st)) := by
  subst hp; exact Wp.pure (fun T t X hr => XS.ishl X C.1 rfl (hb C.2.1 hd) rfl hr) K
theorem w_ishr (C : Cx p s m meth c Z own bytes ml rt nm) {pc pc' : Nat} {Ls : Array Slot} {st : List Value} {x y : Int32} (hd : decode bytes pc = .ok (.ishr, 1))  (hp : pc + 1 = pc') (K : Wp p l e R s m args below meth c n0 cM sM Q h cells slots (mkF m pc' Ls (.int (x >>> (y &&& 31)) :: st))) :
    Wp p l e R s m args below meth c n0 cM sM Q h cells slots (mkF m pc Ls (.int y :: .int x :: st)) := by
  subst hp; exact Wp.pure (fun T t X hr => XS.ishr X C.1 rfl (hb C.2.1 hd) rfl hr) K
theorem w_iushr (C : Cx p s m meth c Z own bytes ml rt nm) {pc pc' : Nat} {Ls : Array Slot} {st : List Value} {x y : Int32} (hd : decode bytes pc = .ok (.iushr, 1))  (hp : pc + 1 = pc') (K : Wp p l e R s m args below meth c n0 cM sM Q h cells slots (mkF m pc' Ls (.int ((x.toUInt32 >>> (y &&& 31).toUInt32).toInt32) :: st))) :
    Wp p l e R s m args below meth c n0 cM sM Q h cells slots (mkF m pc Ls (.int y :: .int x :: st)) := by
  subst hp; exact Wp.pure (fun T t X hr => XS.iushr X C.1 rfl (hb C.2.1 hd) rfl hr) K
theorem w_ladd (C : Cx p s m meth c Z own bytes ml rt nm) {pc pc' : Nat} {Ls : Array Slot} {st : List Value} {x y : Int64} (hd : decode bytes pc = .ok (.ladd, 1))  (hp : pc + 1 = pc') (K : Wp p l e R s m args below meth c n0 cM sM Q h cells slots (mkF m pc' Ls (.long (x + y) :: st))) :
    Wp p l e R s m args below meth c n0 cM sM Q h cells slots (mkF m pc Ls (.long y :: .long x :: st)) := by
  subst hp; exact Wp.pure (fun T t X hr => XS.ladd X C.1 rfl (hb C.2.1 hd) rfl hr) K
theorem w_lsub (C : Cx p s m meth c Z own bytes ml rt nm) {pc pc' : Nat} {Ls : Array Slot} {st : List Value} {x y : Int64} (hd : decode bytes pc = .ok (.lsub, 1))  (hp : pc + 1 = pc') (K : Wp p l e R s m args below meth c n0 cM sM Q h cells slots (mkF m pc' Ls (.long (x - y) :: st))) :
    Wp p l e R s m args below meth c n0 cM sM Q h cells slots (mkF m pc Ls (.long y :: .long x :: st)) := by
  subst hp; exact Wp.pure (fun T t X hr => XS.lsub X C.1 rfl (hb C.2.1 hd) rfl hr) K
theorem w_lmul (C : Cx p s m meth c Z own bytes ml rt nm) {pc pc' : Nat} {Ls : Array Slot} {st : List Value} {x y : Int64} (hd : decode bytes pc = .ok (.lmul, 1))  (hp : pc + 1 = pc') (K : Wp p l e R s m args below meth c n0 cM sM Q h cells slots (mkF m pc' Ls (.long (x * y) :: st))) :
    Wp p l e R s m args below meth c n0 cM sM Q h cells slots (mkF m pc Ls (.long y :: .long x :: st)) := by
  subst hp; exact Wp.pure (fun T t X hr => XS.lmul X C.1 rfl (hb C.2.1 hd) rfl hr) K
theorem w_land (C : Cx p s m meth c Z own bytes ml rt nm) {pc pc' : Nat} {Ls : Array Slot} {st : List Value} {x y : Int64} (hd : decode bytes pc = .ok (.land, 1))  (hp : pc + 1 = pc') (K : Wp p l e R s m args below meth c n0 cM sM Q h cells slots (mkF m pc' Ls (.long (x &&& y) :: st))) :
    Wp p l e R s m args below meth c n0 cM sM Q h cells slots (mkF m pc Ls (.long y :: .long x :: st)) := by
  subst hp; exact Wp.pure (fun T t X hr => XS.land X C.1 rfl (hb C.2.1 hd) rfl hr) K
theorem w_lor (C : Cx p s m meth c Z own bytes ml rt nm) {pc pc' : Nat} {Ls : Array Slot} {st : List Value} {x y : Int64} (hd : decode bytes pc = .ok (.lor, 1))  (hp : pc + 1 = pc') (K : Wp p l e R s m args below meth c n0 cM sM Q h cells slots (mkF m pc' Ls (.long (x ||| y) :: st))) :
    Wp p l e R s m args below meth c n0 cM sM Q h cells slots (mkF m pc Ls (.long y :: .long x :: st)) := by
  subst hp; exact Wp.pure (fun T t X hr => XS.lor X C.1 rfl (hb C.2.1 hd) rfl hr) K
theorem w_lxor (C : Cx p s m meth c Z own bytes ml rt nm) {pc pc' : Nat} {Ls : Array Slot} {st : List Value} {x y : Int64} (hd : decode bytes pc = .ok (.lxor, 1))  (hp : pc + 1 = pc') (K : Wp p l e R s m args below meth c n0 cM sM Q h cells slots (mkF m pc' Ls (.long (x ^^^ y) :: st))) :
    Wp p l e R s m args below meth c n0 cM sM Q h cells slots (mkF m pc Ls (.long y :: .long x :: st)) := by
  subst hp; exact Wp.pure (fun T t X hr => XS.lxor X C.1 rfl (hb C.2.1 hd) rfl hr) K
theorem w_lshl (C : Cx p s m meth c Z own bytes ml rt nm) {pc pc' : Nat} {Ls : Array Slot} {st : List Value} {x : Int64} {y : Int32} (hd : decode bytes pc = .ok (.lshl, 1))  (hp : pc + 1 = pc') (K : Wp p l e R s m args below meth c n0 cM sM Q h cells slots (mkF m pc' Ls (.long (x <<< (y &&& 0x3f).toInt64) :: st))) :
    Wp p l e R s m args below meth c n0 cM sM Q h cells slots (mkF m pc Ls (.int y :: .long x :: st)) := by
  subst hp; exact Wp.pure (fun T t X hr => XS.lshl X C.1 rfl (hb C.2.1 hd) rfl hr) K
theorem w_lshr (C : Cx p s m meth c Z own bytes ml rt nm) {pc pc' : Nat} {Ls : Array Slot} {st : List Value} {x : Int64} {y : Int32} (hd : decode bytes pc = .ok (.lshr, 1))  (hp : pc + 1 = pc') (K : Wp p l e R s m args below meth c n0 cM sM Q h cells slots (mkF m pc' Ls (.long (x >>> (y &&& 0x3f).toInt64) :: st))) :
    Wp p l e R s m args below meth c n0 cM sM Q h cells slots (mkF m pc Ls (.int y :: .long x :: st)) := by
  subst hp; exact Wp.pure (fun T t X hr => XS.lshr X C.1 rfl (hb C.2.1 hd) rfl hr) K
theorem w_lushr (C : Cx p s m meth c Z own bytes ml rt nm) {pc pc' : Nat} {Ls : Array Slot} {st : List Value} {x : Int64} {y : Int32} (hd : decode bytes pc = .ok (.lushr, 1))  (hp : pc + 1 = pc') (K : Wp p l e R s m args below meth c n0 cM sM Q h cells slots (mkF m pc' Ls (.long ((x.toUInt64 >>> (y &&& 0x3f).toInt64.toUInt64).toInt64) :: st))) :
    Wp p l e R s m args below meth c n0 cM sM Q h cells slots (mkF m pc Ls (.int y :: .long x :: st)) := by
  subst hp; exact Wp.pure (fun T t X hr => XS.lushr X C.1 rfl (hb C.2.1 hd) rfl hr) K
theorem w_idiv (C : Cx p s m meth c Z own bytes ml rt nm) {pc pc' : Nat} {Ls : Array Slot} {st : List Value} {x y : Int32} (hd : decode bytes pc = .ok (.idiv, 1)) (hy : y ≠ 0) (hp : pc + 1 = pc') (K : Wp p l e R s m args below meth c n0 cM sM Q h cells slots (mkF m pc' Ls (.int (x / y) :: st))) :
    Wp p l e R s m args below meth c n0 cM sM Q h cells slots (mkF m pc Ls (.int y :: .int x :: st)) := by
  subst hp; exact Wp.pure (fun T t X hr => XS.idiv X C.1 rfl (hb C.2.1 hd) rfl hy hr) K
theorem w_ldiv (C : Cx p s m meth c Z own bytes ml rt nm) {pc pc' : Nat} {Ls : Array Slot} {st : List Value} {x y : Int64} (hd : decode bytes pc = .ok (.ldiv, 1)) (hy : y ≠ 0) (hp : pc + 1 = pc') (K : Wp p l e R s m args below meth c n0 cM sM Q h cells slots (mkF m pc' Ls (.long (x / y) :: st))) :
    Wp p l e R s m args below meth c n0 cM sM Q h cells slots (mkF m pc Ls (.long y :: .long x :: st)) := by
  subst hp; exact Wp.pure (fun T t X hr => XS.ldiv X C.1 rfl (hb C.2.1 hd) rfl hy hr) K
theorem w_irem (C : Cx p s m meth c Z own bytes ml rt nm) {pc pc' : Nat} {Ls : Array Slot} {st : List Value} {x y : Int32} (hd : decode bytes pc = .ok (.irem, 1)) (hy : y ≠ 0) (hp : pc + 1 = pc') (K : Wp p l e R s m args below meth c n0 cM sM Q h cells slots (mkF m pc' Ls (.int (x % y) :: st))) :
    Wp p l e R s m args below meth c n0 cM sM Q h cells slots (mkF m pc Ls (.int y :: .int x :: st)) := by
  subst hp; exact Wp.pure (fun T t X hr => XS.irem X C.1 rfl (hb C.2.1 hd) rfl hy (by rw [irem_eq_mod x y]; exact hr)) K
theorem w_lrem (C : Cx p s m meth c Z own bytes ml rt nm) {pc pc' : Nat} {Ls : Array Slot} {st : List Value} {x y : Int64} (hd : decode bytes pc = .ok (.lrem, 1)) (hy : y ≠ 0) (hp : pc + 1 = pc') (K : Wp p l e R s m args below meth c n0 cM sM Q h cells slots (mkF m pc' Ls (.long (x % y) :: st))) :
    Wp p l e R s m args below meth c n0 cM sM Q h cells slots (mkF m pc Ls (.long y :: .long x :: st)) := by
  subst hp; exact Wp.pure (fun T t X hr => XS.lrem X C.1 rfl (hb C.2.1 hd) rfl hy (by rw [lrem_mod x y]; exact hr)) K
theorem w_ineg (C : Cx p s m meth c Z own bytes ml rt nm) {pc pc' : Nat} {Ls : Array Slot} {st : List Value} {x : Int32} (hd : decode bytes pc = .ok (.ineg, 1))  (hp : pc + 1 = pc') (K : Wp p l e R s m args below meth c n0 cM sM Q h cells slots (mkF m pc' Ls (.int (-x) :: st))) :
    Wp p l e R s m args below meth c n0 cM sM Q h cells slots (mkF m pc Ls (.int x :: st)) := by
  subst hp; exact Wp.pure (fun T t X hr => XS.ineg X C.1 rfl (hb C.2.1 hd) rfl hr) K
theorem w_lneg (C : Cx p s m meth c Z own bytes ml rt nm) {pc pc' : Nat} {Ls : Array Slot} {st : List Value} {x : Int64} (hd : decode bytes pc = .ok (.lneg, 1))  (hp : pc + 1 = pc') (K : Wp p l e R s m args below meth c n0 cM sM Q h cells slots (mkF m pc' Ls (.long (-x) :: st))) :
    Wp p l e R s m args below meth c n0 cM sM Q h cells slots (mkF m pc Ls (.long x :: st)) := by
  subst hp; exact Wp.pure (fun T t X hr => XS.lneg X C.1 rfl (hb C.2.1 hd) rfl hr) K
theorem w_i2l (C : Cx p s m meth c Z own bytes ml rt nm) {pc pc' : Nat} {Ls : Array Slot} {st : List Value} {x : Int32} (hd : decode bytes pc = .ok (.i2l, 1))  (hp : pc + 1 = pc') (K : Wp p l e R s m args below meth c n0 cM sM Q h cells slots (mkF m pc' Ls (.long x.toInt64 :: st))) :
    Wp p l e R s m args below meth c n0 cM sM Q h cells slots (mkF m pc Ls (.int x :: st)) := by
  subst hp; exact Wp.pure (fun T t X hr => XS.i2l X C.1 rfl (hb C.2.1 hd) rfl hr) K
theorem w_l2i (C : Cx p s m meth c Z own bytes ml rt nm) {pc pc' : Nat} {Ls : Array Slot} {st : List Value} {x : Int64} (hd : decode bytes pc = .ok (.l2i, 1))  (hp : pc + 1 = pc') (K : Wp p l e R s m args below meth c n0 cM sM Q h cells slots (mkF m pc' Ls (.int x.toInt32 :: st))) :
    Wp p l e R s m args below meth c n0 cM sM Q h cells slots (mkF m pc Ls (.long x :: st)) := by
  subst hp; exact Wp.pure (fun T t X hr => XS.l2i X C.1 rfl (hb C.2.1 hd) rfl hr) K
theorem w_i2b (C : Cx p s m meth c Z own bytes ml rt nm) {pc pc' : Nat} {Ls : Array Slot} {st : List Value} {x : Int32} (hd : decode bytes pc = .ok (.i2b, 1))  (hp : pc + 1 = pc') (K : Wp p l e R s m args below meth c n0 cM sM Q h cells slots (mkF m pc' Ls (.int x.toInt8.toInt32 :: st))) :
    Wp p l e R s m args below meth c n0 cM sM Q h cells slots (mkF m pc Ls (.int x :: st)) := by
  subst hp; exact Wp.pure (fun T t X hr => XS.i2b X C.1 rfl (hb C.2.1 hd) rfl hr) K
theorem w_i2s (C : Cx p s m meth c Z own bytes ml rt nm) {pc pc' : Nat} {Ls : Array Slot} {st : List Value} {x : Int32} (hd : decode bytes pc = .ok (.i2s, 1))  (hp : pc + 1 = pc') (K : Wp p l e R s m args below meth c n0 cM sM Q h cells slots (mkF m pc' Ls (.int x.toInt16.toInt32 :: st))) :
    Wp p l e R s m args below meth c n0 cM sM Q h cells slots (mkF m pc Ls (.int x :: st)) := by
  subst hp; exact Wp.pure (fun T t X hr => XS.i2s X C.1 rfl (hb C.2.1 hd) rfl hr) K
/-- i2c -/
def toCh (x : Int32) : Int32 := x.toUInt32.toUInt16.toUInt32.toInt32
theorem w_i2c (C : Cx p s m meth c Z own bytes ml rt nm) {pc pc' : Nat} {Ls : Array Slot} {st : List Value} {x : Int32} (hd : decode bytes pc = .ok (.i2c, 1))  (hp : pc + 1 = pc') (K : Wp p l e R s m args below meth c n0 cM sM Q h cells slots (mkF m pc' Ls (.int (toCh x) :: st))) :
    Wp p l e R s m args below meth c n0 cM sM Q h cells slots (mkF m pc Ls (.int x :: st)) := by
  subst hp; exact Wp.pure (fun T t X hr => XS.i2c X C.1 rfl (hb C.2.1 hd) rfl hr) K
/-- lcmp -/
def cmpJ (x y : Int64) : Int32 := if x > y then 1 else if x = y then 0 else -1
theorem w_lcmp (C : Cx p s m meth c Z own bytes ml rt nm) {pc pc' : Nat} {Ls : Array Slot} {st : List Value} {x y : Int64} (hd : decode bytes pc = .ok (.lcmp, 1))  (hp : pc + 1 = pc') (K : Wp p l e R s m args below meth c n0 cM sM Q h cells slots (mkF m pc' Ls (.int (cmpJ x y) :: st))) :
    Wp p l e R s m args below meth c n0 cM sM Q h cells slots (mkF m pc Ls (.long y :: .long x :: st)) := by
  subst hp; exact Wp.pure (fun T t X hr => XS.lcmp X C.1 rfl (hb C.2.1 hd) rfl hr) K
theorem w_dup (C : Cx p s m meth c Z own bytes ml rt nm) {pc pc' : Nat} {Ls : Array Slot} {st : List Value} {v : Value} (hd : decode bytes pc = .ok (.dup, 1)) (hc : v.category = 1) (hp : pc + 1 = pc') (K : Wp p l e R s m args below meth c n0 cM sM Q h cells slots (mkF m pc' Ls (v :: v :: st))) :
    Wp p l e R s m args below meth c n0 cM sM Q h cells slots (mkF m pc Ls (v :: st)) := by
  subst hp; exact Wp.pure (fun T t X hr => XS.dup X C.1 rfl (hb C.2.1 hd) rfl hc hr) K
theorem w_pop (C : Cx p s m meth c Z own bytes ml rt nm) {pc pc' : Nat} {Ls : Array Slot} {st : List Value} {v : Value} (hd : decode bytes pc = .ok (.pop, 1)) (hc : v.category = 1) (hp : pc + 1 = pc') (K : Wp p l e R s m args below meth c n0 cM sM Q h cells slots (mkF m pc' Ls st)) :
    Wp p l e R s m args below meth c n0 cM sM Q h cells slots (mkF m pc Ls (v :: st)) := by
  subst hp; exact Wp.pure (fun T t X hr => XS.pop X C.1 rfl (hb C.2.1 hd) rfl hc hr) K
theorem w_dupX1 (C : Cx p s m meth c Z own bytes ml rt nm) {pc pc' : Nat} {Ls : Array Slot} {st : List Value} {v w : Value} (hd : decode bytes pc = .ok (.dup_x1, 1)) (hc : v.category = 1) (hc' : w.category = 1) (hp : pc + 1 = pc') (K : Wp p l e R s m args below meth c n0 cM sM Q h cells slots (mkF m pc' Ls (v :: w :: v :: st))) :
    Wp p l e R s m args below meth c n0 cM sM Q h cells slots (mkF m pc Ls (v :: w :: st)) := by
  subst hp; exact Wp.pure (fun T t X hr => XS.dupX1 X C.1 rfl (hb C.2.1 hd) rfl hc hc' hr) K
theorem w_dup2 (C : Cx p s m meth c Z own bytes ml rt nm) {pc pc' : Nat} {Ls : Array Slot} {st : List Value} {v w : Value} (hd : decode bytes pc = .ok (.dup2, 1)) (hc : v.category = 1) (hc' : w.category = 1) (hp : pc + 1 = pc') (K : Wp p l e R s m args below meth c n0 cM sM Q h cells slots (mkF m pc' Ls (v :: w :: v :: w :: st))) :
    Wp p l e R s m args below meth c n0 cM sM Q h cells slots (mkF m pc Ls (v :: w :: st)) := by
  subst hp; exact Wp.pure (fun T t X hr => XT.dup2 X C.1 rfl (hb C.2.1 hd) rfl hc hc' hr) K
theorem w_eqI {pc : Nat} {Ls : Array Slot} {st : List Value} {x z : Int32} (hz : x = z) (K : Wp p l e R s m args below meth c n0 cM sM Q h cells slots (mkF m pc Ls (.int z :: st))) :
    Wp p l e R s m args below meth c n0 cM sM Q h cells slots (mkF m pc Ls (.int x :: st)) := by
  subst hz; exact K
theorem w_eqJ {pc : Nat} {Ls : Array Slot} {st : List Value} {x z : Int64} (hz : x = z) (K : Wp p l e R s m args below meth c n0 cM sM Q h cells slots (mkF m pc Ls (.long z :: st))) :
    Wp p l e R s m args below meth c n0 cM sM Q h cells slots (mkF m pc Ls (.long x :: st)) := by
  subst hz; exact K
theorem w_iincE (C : Cx p s m meth c Z own bytes ml rt nm) {pc pc' : Nat} {Ls Ls' : Array Slot} {st : List Value} {k : Nat} {cst : Int} {x z : Int32} (hd : decode bytes pc = .ok (.iinc k cst, 3)) (hx : Ls[k]? = some (.val (.int x))) (hz : x + Int32.ofInt cst = z) (hl : storeLocals Ls k (.int z) = some Ls') (hp : pc + 3 = pc') (K : Wp p l e R s m args below meth c n0 cM sM Q h cells slots (mkF m pc' Ls' st)) :
    Wp p l e R s m args below meth c n0 cM sM Q h cells slots (mkF m pc Ls st) := by
  subst hz; exact w_iinc C hd hx hl hp K
theorem w_goto (C : Cx p s m meth c Z own bytes ml rt nm) {pc pc' : Nat} {Ls : Array Slot} {st : List Value} {o : Int} (hd : decode bytes pc = .ok (.goto o, 3)) (ho : 0 ≤ (pc : Int) + o) (hp : ((pc : Int) + o).toNat = pc') (K : Wp p l e R s m args below meth c n0 cM sM Q h cells slots (mkF m pc' Ls st)) :
    Wp p l e R s m args below meth c n0 cM sM Q h cells slots (mkF m pc Ls st) :=
  Wp.pure (fun T t X hr => XS.goto X C.1 rfl rfl (hb C.2.1 hd) ho hp hr) K
theorem w_icmp_lt (C : Cx p s m meth c Z own bytes ml rt nm) {pc pcT pcF : Nat} {Ls : Array Slot} {st : List Value} {x y : Int32} {o : Int} (hd : decode bytes pc = .ok (.if_icmp .lt o, 3)) (ho : 0 ≤ (pc : Int) + o) (hT : ((pc : Int) + o).toNat = pcT) (hF : pc + 3 = pcF)
    (KT : x < y → Wp p l e R s m args below meth c n0 cM sM Q h cells slots (mkF m pcT Ls st)) (KF : ¬ x < y → Wp p l e R s m args below meth c n0 cM sM Q h cells slots (mkF m pcF Ls st)) :
    Wp p l e R s m args below meth c n0 cM sM Q h cells slots (mkF m pc Ls (.int y :: .int x :: st)) := by
  subst hF
  by_cases q : x < y
  · exact Wp.pure (fun T t X hr => XS.icmpYes X C.1 rfl rfl (hb C.2.1 hd) rfl (tlt q).1 ho hT hr) (KT q)
  · exact Wp.pure (fun T t X hr => XS.icmpNo X C.1 rfl (hb C.2.1 hd) rfl (flt q).1 hr) (KF q)
theorem w_if_lt (C : Cx p s m meth c Z own bytes ml rt nm) {pc pcT pcF : Nat} {Ls : Array Slot} {st : List Value} {x : Int32} {o : Int} (hd : decode bytes pc = .ok (.ifCond .lt o, 3)) (ho : 0 ≤ (pc : Int) + o) (hT : ((pc : Int) + o).toNat = pcT) (hF : pc + 3 = pcF)
    (KT : x < 0 → Wp p l e R s m args below meth c n0 cM sM Q h cells slots (mkF m pcT Ls st)) (KF : ¬ x < 0 → Wp p l e R s m args below meth c n0 cM sM Q h cells slots (mkF m pcF Ls st)) :
    Wp p l e R s m args below meth c n0 cM sM Q h cells slots (mkF m pc Ls (.int x :: st)) := by
  subst hF
  by_cases q : x < 0
  · exact Wp.pure (fun T t X hr => XS.ifYes X C.1 rfl rfl (hb C.2.1 hd) rfl ((if0 _ _).trans (tlt q).1) ho hT hr) (KT q)
  · exact Wp.pure (fun T t X hr => XS.ifNo X C.1 rfl (hb C.2.1 hd) rfl ((if0 _ _).trans (flt q).1) hr) (KF q)
theorem w_icmp_ge (C : Cx p s m meth c Z own bytes ml rt nm) {pc pcT pcF : Nat} {Ls : Array Slot} {st : List Value} {x y : Int32} {o : Int} (hd : decode bytes pc = .ok (.if_icmp .ge o, 3)) (ho : 0 ≤ (pc : Int) + o) (hT : ((pc : Int) + o).toNat = pcT) (hF : pc + 3 = pcF)
    (KT : ¬ x < y → Wp p l e R s m args below meth c n0 cM sM Q h cells slots (mkF m pcT Ls st)) (KF : x < y → Wp p l e R s m args below meth c n0 cM sM Q h cells slots (mkF m pcF Ls st)) :
    Wp p l e R s m args below meth c n0 cM sM Q h cells slots (mkF m pc Ls (.int y :: .int x :: st)) := by
  subst hF
  by_cases q : ¬ x < y
  · exact Wp.pure (fun T t X hr => XS.icmpYes X C.1 rfl rfl (hb C.2.1 hd) rfl (flt q).2.1 ho hT hr) (KT q)
  · exact Wp.pure (fun T t X hr => XS.icmpNo X C.1 rfl (hb C.2.1 hd) rfl (tlt (Classical.not_not.mp q)).2.1 hr) (KF (Classical.not_not.mp q))
theorem w_if_ge (C : Cx p s m meth c Z own bytes ml rt nm) {pc pcT pcF : Nat} {Ls : Array Slot} {st : List Value} {x : Int32} {o : Int} (hd : decode bytes pc = .ok (.ifCond .ge o, 3)) (ho : 0 ≤ (pc : Int) + o) (hT : ((pc : Int) + o).toNat = pcT) (hF : pc + 3 = pcF)
    (KT : ¬ x < 0 → Wp p l e R s m args below meth c n0 cM sM Q h cells slots (mkF m pcT Ls st)) (KF : x < 0 → Wp p l e R s m args below meth c n0 cM sM Q h cells slots (mkF m pcF Ls st)) :
    Wp p l e R s m args below meth c n0 cM sM Q h cells slots (mkF m pc Ls (.int x :: st)) := by
  subst hF
  by_cases q : ¬ x < 0
  · exact Wp.pure (fun T t X hr => XS.ifYes X C.1 rfl rfl (hb C.2.1 hd) rfl ((if0 _ _).trans (flt q).2.1) ho hT hr) (KT q)
  · exact Wp.pure (fun T t X hr => XS.ifNo X C.1 rfl (hb C.2.1 hd) rfl ((if0 _ _).trans (tlt (Classical.not_not.mp q)).2.1) hr) (KF (Classical.not_not.mp q))
theorem w_icmp_gt (C : Cx p s m meth c Z own bytes ml rt nm) {pc pcT pcF : Nat} {Ls : Array Slot} {st : List Value} {x y : Int32} {o : Int} (hd : decode bytes pc = .ok (.if_icmp .gt o, 3)) (ho : 0 ≤ (pc : Int) + o) (hT : ((pc : Int) + o).toNat = pcT) (hF : pc + 3 = pcF)
    (KT : y < x → Wp p l e R s m args below meth c n0 cM sM Q h cells slots (mkF m pcT Ls st)) (KF : ¬ y < x → Wp p l e R s m args below meth c n0 cM sM Q h cells slots (mkF m pcF Ls st)) :
    Wp p l e R s m args below meth c n0 cM sM Q h cells slots (mkF m pc Ls (.int y :: .int x :: st)) := by
  subst hF
  by_cases q : y < x
  · exact Wp.pure (fun T t X hr => XS.icmpYes X C.1 rfl rfl (hb C.2.1 hd) rfl (tlt q).2.2.1 ho hT hr) (KT q)
  · exact Wp.pure (fun T t X hr => XS.icmpNo X C.1 rfl (hb C.2.1 hd) rfl (flt q).2.2.1 hr) (KF q)
theorem w_if_gt (C : Cx p s m meth c Z own bytes ml rt nm) {pc pcT pcF : Nat} {Ls : Array Slot} {st : List Value} {x : Int32} {o : Int} (hd : decode bytes pc = .ok (.ifCond .gt o, 3)) (ho : 0 ≤ (pc : Int) + o) (hT : ((pc : Int) + o).toNat = pcT) (hF : pc + 3 = pcF)
    (KT : 0 < x → Wp p l e R s m args below meth c n0 cM sM Q h cells slots (mkF m pcT Ls st)) (KF : ¬ 0 < x → Wp p l e R s m args below meth c n0 cM sM Q h cells slots (mkF m pcF Ls st)) :
    Wp p l e R s m args below meth c n0 cM sM Q h cells slots (mkF m pc Ls (.int x :: st)) := by
  subst hF
  by_cases q : 0 < x
  · exact Wp.pure (fun T t X hr => XS.ifYes X C.1 rfl rfl (hb C.2.1 hd) rfl ((if0 _ _).trans (tlt q).2.2.1) ho hT hr) (KT q)
  · exact Wp.pure (fun T t X hr => XS.ifNo X C.1 rfl (hb C.2.1 hd) rfl ((if0 _ _).trans (flt q).2.2.1) hr) (KF q)
theorem w_icmp_le (C : Cx p s m meth c Z own bytes ml rt nm) {pc pcT pcF : Nat} {Ls : Array Slot} {st : List Value} {x y : Int32} {o : Int} (hd : decode bytes pc = .ok (.if_icmp .le o, 3)) (ho : 0 ≤ (pc : Int) + o) (hT : ((pc : Int) + o).toNat = pcT) (hF : pc + 3 = pcF)
    (KT : ¬ y < x → Wp p l e R s m args below meth c n0 cM sM Q h cells slots (mkF m pcT Ls st)) (KF : y < x → Wp p l e R s m args below meth c n0 cM sM Q h cells slots (mkF m pcF Ls st)) :
    Wp p l e R s m args below meth c n0 cM sM Q h cells slots (mkF m pc Ls (.int y :: .int x :: st)) := by
  subst hF
  by_cases q : ¬ y < x
  · exact Wp.pure (fun T t X hr => XS.icmpYes X C.1 rfl rfl (hb C.2.1 hd) rfl (flt q).2.2.2 ho hT hr) (KT q)
  · exact Wp.pure (fun T t X hr => XS.icmpNo X C.1 rfl (hb C.2.1 hd) rfl (tlt (Classical.not_not.mp q)).2.2.2 hr) (KF (Classical.not_not.mp q))
theorem w_if_le (C : Cx p s m meth c Z own bytes ml rt nm) {pc pcT pcF : Nat} {Ls : Array Slot} {st : List Value} {x : Int32} {o : Int} (hd : decode bytes pc = .ok (.ifCond .le o, 3)) (ho : 0 ≤ (pc : Int) + o) (hT : ((pc : Int) + o).toNat = pcT) (hF : pc + 3 = pcF)
    (KT : ¬ 0 < x → Wp p l e R s m args below meth c n0 cM sM Q h cells slots (mkF m pcT Ls st)) (KF : 0 < x → Wp p l e R s m args below meth c n0 cM sM Q h cells slots (mkF m pcF Ls st)) :
    Wp p l e R s m args below meth c n0 cM sM Q h cells slots (mkF m pc Ls (.int x :: st)) := by
  subst hF
  by_cases q : ¬ 0 < x
  · exact Wp.pure (fun T t X hr => XS.ifYes X C.1 rfl rfl (hb C.2.1 hd) rfl ((if0 _ _).trans (flt q).2.2.2) ho hT hr) (KT q)
  · exact Wp.pure (fun T t X hr => XS.ifNo X C.1 rfl (hb C.2.1 hd) rfl ((if0 _ _).trans (tlt (Classical.not_not.mp q)).2.2.2) hr) (KF (Classical.not_not.mp q))
theorem w_icmp_eq (C : Cx p s m meth c Z own bytes ml rt nm) {pc pcT pcF : Nat} {Ls : Array Slot} {st : List Value} {x y : Int32} {o : Int} (hd : decode bytes pc = .ok (.if_icmp .eq o, 3)) (ho : 0 ≤ (pc : Int) + o) (hT : ((pc : Int) + o).toNat = pcT) (hF : pc + 3 = pcF)
    (KT : x = y → Wp p l e R s m args below meth c n0 cM sM Q h cells slots (mkF m pcT Ls st)) (KF : ¬ x = y → Wp p l e R s m args below meth c n0 cM sM Q h cells slots (mkF m pcF Ls st)) :
    Wp p l e R s m args below meth c n0 cM sM Q h cells slots (mkF m pc Ls (.int y :: .int x :: st)) := by
  subst hF
  by_cases q : x = y
  · exact Wp.pure (fun T t X hr => XS.icmpYes X C.1 rfl rfl (hb C.2.1 hd) rfl (teq q).1 ho hT hr) (KT q)
  · exact Wp.pure (fun T t X hr => XS.icmpNo X C.1 rfl (hb C.2.1 hd) rfl (feq q).1 hr) (KF q)
theorem w_if_eq (C : Cx p s m meth c Z own bytes ml rt nm) {pc pcT pcF : Nat} {Ls : Array Slot} {st : List Value} {x : Int32} {o : Int} (hd : decode bytes pc = .ok (.ifCond .eq o, 3)) (ho : 0 ≤ (pc : Int) + o) (hT : ((pc : Int) + o).toNat = pcT) (hF : pc + 3 = pcF)
    (KT : x = 0 → Wp p l e R s m args below meth c n0 cM sM Q h cells slots (mkF m pcT Ls st)) (KF : ¬ x = 0 → Wp p l e R s m args below meth c n0 cM sM Q h cells slots (mkF m pcF Ls st)) :
    Wp p l e R s m args below meth c n0 cM sM Q h cells slots (mkF m pc Ls (.int x :: st)) := by
  subst hF
  by_cases q : x = 0
  · exact Wp.pure (fun T t X hr => XS.ifYes X C.1 rfl rfl (hb C.2.1 hd) rfl ((if0 _ _).trans (teq q).1) ho hT hr) (KT q)
  · exact Wp.pure (fun T t X hr => XS.ifNo X C.1 rfl (hb C.2.1 hd) rfl ((if0 _ _).trans (feq q).1) hr) (KF q)
theorem w_icmp_ne (C : Cx p s m meth c Z own bytes ml rt nm) {pc pcT pcF : Nat} {Ls : Array Slot} {st : List Value} {x y : Int32} {o : Int} (hd : decode bytes pc = .ok (.if_icmp .ne o, 3)) (ho : 0 ≤ (pc : Int) + o) (hT : ((pc : Int) + o).toNat = pcT) (hF : pc + 3 = pcF)
    (KT : ¬ x = y → Wp p l e R s m args below meth c n0 cM sM Q h cells slots (mkF m pcT Ls st)) (KF : x = y → Wp p l e R s m args below meth c n0 cM sM Q h cells slots (mkF m pcF Ls st)) :
    Wp p l e R s m args below meth c n0 cM sM Q h cells slots (mkF m pc Ls (.int y :: .int x :: st)) := by
  subst hF
  by_cases q : ¬ x = y
  · exact Wp.pure (fun T t X hr => XS.icmpYes X C.1 rfl rfl (hb C.2.1 hd) rfl (feq q).2 ho hT hr) (KT q)
  · exact Wp.pure (fun T t X hr => XS.icmpNo X C.1 rfl (hb C.2.1 hd) rfl (teq (Classical.not_not.mp q)).2 hr) (KF (Classical.not_not.mp q))
theorem w_if_ne (C : Cx p s m meth c Z own bytes ml rt nm) {pc pcT pcF : Nat} {Ls : Array Slot} {st : List Value} {x : Int32} {o : Int} (hd : decode bytes pc = .ok (.ifCond .ne o, 3)) (ho : 0 ≤ (pc : Int) + o) (hT : ((pc : Int) + o).toNat = pcT) (hF : pc + 3 = pcF)
    (KT : ¬ x = 0 → Wp p l e R s m args below meth c n0 cM sM Q h cells slots (mkF m pcT Ls st)) (KF : x = 0 → Wp p l e R s m args below meth c n0 cM sM Q h cells slots (mkF m pcF Ls st)) :
    Wp p l e R s m args below meth c n0 cM sM Q h cells slots (mkF m pc Ls (.int x :: st)) := by
  subst hF
  by_cases q : ¬ x = 0
  · exact Wp.pure (fun T t X hr => XS.ifYes X C.1 rfl rfl (hb C.2.1 hd) rfl ((if0 _ _).trans (feq q).2) ho hT hr) (KT q)
  · exact Wp.pure (fun T t X hr => XS.ifNo X C.1 rfl (hb C.2.1 hd) rfl ((if0 _ _).trans (teq (Classical.not_not.mp q)).2) hr) (KF (Classical.not_not.mp q))
theorem w_ifnull_null (C : Cx p s m meth c Z own bytes ml rt nm) {pc pc' : Nat} {Ls : Array Slot} {st : List Value}  {o : Int} (hd : decode bytes pc = .ok (.ifnull o, 3)) (ho : 0 ≤ (pc : Int) + o) (hp : ((pc : Int) + o).toNat = pc') (K : Wp p l e R s m args below meth c n0 cM sM Q h cells slots (mkF m pc' Ls st)) :
    Wp p l e R s m args below meth c n0 cM sM Q h cells slots (mkF m pc Ls (.null :: st)) :=
  Wp.pure (fun T t X hr => XS.ifnullYes X C.1 rfl rfl (hb C.2.1 hd) rfl ho hp hr) K
theorem w_ifnull_ref (C : Cx p s m meth c Z own bytes ml rt nm) {pc pc' : Nat} {Ls : Array Slot} {st : List Value} {b : Addr} {o : Int} (hd : decode bytes pc = .ok (.ifnull o, 3)) (hp : pc + 3 = pc') (K : Wp p l e R s m args below meth c n0 cM sM Q h cells slots (mkF m pc' Ls st)) :
    Wp p l e R s m args below meth c n0 cM sM Q h cells slots (mkF m pc Ls (.ref b :: st)) := by
  subst hp; exact Wp.pure (fun T t X hr => XS.ifnullNo X C.1 rfl (hb C.2.1 hd) rfl hr) K
theorem w_ifnonnull_ref (C : Cx p s m meth c Z own bytes ml rt nm) {pc pc' : Nat} {Ls : Array Slot} {st : List Value} {b : Addr} {o : Int} (hd : decode bytes pc = .ok (.ifnonnull o, 3)) (ho : 0 ≤ (pc : Int) + o) (hp : ((pc : Int) + o).toNat = pc') (K : Wp p l e R s m args below meth c n0 cM sM Q h cells slots (mkF m pc' Ls st)) :
    Wp p l e R s m args below meth c n0 cM sM Q h cells slots (mkF m pc Ls (.ref b :: st)) :=
  Wp.pure (fun T t X hr => XS.ifnonnullYes X C.1 rfl rfl (hb C.2.1 hd) rfl ho hp hr) K
theorem w_ifnonnull_null (C : Cx p s m meth c Z own bytes ml rt nm) {pc pc' : Nat} {Ls : Array Slot} {st : List Value}  {o : Int} (hd : decode bytes pc = .ok (.ifnonnull o, 3)) (hp : pc + 3 = pc') (K : Wp p l e R s m args below meth c n0 cM sM Q h cells slots (mkF m pc' Ls st)) :
    Wp p l e R s m args below meth c n0 cM sM Q h cells slots (mkF m pc Ls (.null :: st)) := by
  subst hp; exact Wp.pure (fun T t X hr => XS.ifnonnullNo X C.1 rfl (hb C.2.1 hd) rfl hr) K
theorem w_acmp_eq (C : Cx p s m meth c Z own bytes ml rt nm) {pc pcT pcF : Nat} {Ls : Array Slot} {st : List Value} {v w : Value} {o : Int} (hv : v.isRef = true) (hw : w.isRef = true) (hd : decode bytes pc = .ok (.if_acmp .eq o, 3)) (ho : 0 ≤ (pc : Int) + o) (hT : ((pc : Int) + o).toNat = pcT) (hF : pc + 3 = pcF)
    (KT : v = w → Wp p l e R s m args below meth c n0 cM sM Q h cells slots (mkF m pcT Ls st)) (KF : ¬ v = w → Wp p l e R s m args below meth c n0 cM sM Q h cells slots (mkF m pcF Ls st)) :
    Wp p l e R s m args below meth c n0 cM sM Q h cells slots (mkF m pc Ls (w :: v :: st)) := by
  intro T locs X e0 N
  by_cases q : v = w
  · obtain ⟨s2, u, L, a, r⟩ := KT q T locs X e0 N
    exact ⟨s2, u, L, Jvm.RoadKit.acmp (g := mkF m pc Ls (w :: v :: st)) X C.1 rfl hv hw (pc0 := pc) (same := true) rfl (hb C.2.1 hd) rfl (decide_eq_true q) ho (by simp [acV, hT, hF]) a, r⟩
  · obtain ⟨s2, u, L, a, r⟩ := KF q T locs X e0 N
    exact ⟨s2, u, L, Jvm.RoadKit.acmp (g := mkF m pc Ls (w :: v :: st)) X C.1 rfl hv hw (pc0 := pc) (same := false) rfl (hb C.2.1 hd) rfl (decide_eq_false q) ho (by simp [acV, hT, hF]) a, r⟩
theorem w_acmp_ne (C : Cx p s m meth c Z own bytes ml rt nm) {pc pcT pcF : Nat} {Ls : Array Slot} {st : List Value} {v w : Value} {o : Int} (hv : v.isRef = true) (hw : w.isRef = true) (hd : decode bytes pc = .ok (.if_acmp .ne o, 3)) (ho : 0 ≤ (pc : Int) + o) (hT : ((pc : Int) + o).toNat = pcT) (hF : pc + 3 = pcF)
    (KT : ¬ v = w → Wp p l e R s m args below meth c n0 cM sM Q h cells slots (mkF m pcT Ls st)) (KF : v = w → Wp p l e R s m args below meth c n0 cM sM Q h cells slots (mkF m pcF Ls st)) :
    Wp p l e R s m args below meth c n0 cM sM Q h cells slots (mkF m pc Ls (w :: v :: st)) := by
  intro T locs X e0 N
  by_cases q : v = w
  · obtain ⟨s2, u, L, a, r⟩ := KF q T locs X e0 N
    exact ⟨s2, u, L, Jvm.RoadKit.acmp (g := mkF m pc Ls (w :: v :: st)) X C.1 rfl hv hw (pc0 := pc) (same := true) rfl (hb C.2.1 hd) rfl (decide_eq_true q) ho (by simp [acV, hT, hF]) a, r⟩
  · obtain ⟨s2, u, L, a, r⟩ := KT q T locs X e0 N
    exact ⟨s2, u, L, Jvm.RoadKit.acmp (g := mkF m pc Ls (w :: v :: st)) X C.1 rfl hv hw (pc0 := pc) (same := false) rfl (hb C.2.1 hd) rfl (decide_eq_false q) ho (by simp [acV, hT, hF]) a, r⟩
theorem w_ldcI (C : Cx p s m meth c Z own bytes ml rt nm) {pc pc' : Nat} {Ls : Array Slot} {st : List Value} {i : Nat} {x : Int32} (w : (Jvm.Cond.constant own i x).before a0 Z = true) (hd : decode bytes pc = .ok (.ldc i, 2)) (hp : pc + 2 = pc') (K : Wp p l e R s m args below meth c n0 cM sM Q h cells slots (mkF m pc' Ls (.int x :: st))) :
    Wp p l e R s m args below meth c n0 cM sM Q h cells slots (mkF m pc Ls st) := by
  subst hp; intro T locs X e0 N
  obtain ⟨s2, v, L, a, r⟩ := K T locs X e0 N
  exact ⟨s2, v, L, X.ldcInt C.1 C.2.2.2.1 (mvT C.2.2.1 w) (g := mkF m pc Ls st) rfl (hb C.2.1 hd) _ a, r⟩
theorem w_ldcwI (C : Cx p s m meth c Z own bytes ml rt nm) {pc pc' : Nat} {Ls : Array Slot} {st : List Value} {i : Nat} {x : Int32} (w : (Jvm.Cond.constant own i x).before a0 Z = true) (hd : decode bytes pc = .ok (.ldc_w i, 3)) (hp : pc + 3 = pc') (K : Wp p l e R s m args below meth c n0 cM sM Q h cells slots (mkF m pc' Ls (.int x :: st))) :
    Wp p l e R s m args below meth c n0 cM sM Q h cells slots (mkF m pc Ls st) := by
  subst hp; intro T locs X e0 N
  obtain ⟨s2, v, L, a, r⟩ := K T locs X e0 N
  exact ⟨s2, v, L, X.ldcwInt C.1 C.2.2.2.1 (mvT C.2.2.1 w) (g := mkF m pc Ls st) rfl (hb C.2.1 hd) _ a, r⟩
theorem w_ldc2J (C : Cx p s m meth c Z own bytes ml rt nm) {pc pc' : Nat} {Ls : Array Slot} {st : List Value} {i : Nat} {x : Int64} (w : (Jvm.Cond.constantLong own i x).before a0 Z = true) (hd : decode bytes pc = .ok (.ldc2_w i, 3)) (hp : pc + 3 = pc') (K : Wp p l e R s m args below meth c n0 cM sM Q h cells slots (mkF m pc' Ls (.long x :: st))) :
    Wp p l e R s m args below meth c n0 cM sM Q h cells slots (mkF m pc Ls st) := by
  subst hp; intro T locs X e0 N
  obtain ⟨s2, v, L, a, r⟩ := K T locs X e0 N
  exact ⟨s2, v, L, X.ldc2Long C.1 C.2.2.2.1 (mvT C.2.2.1 w) (g := mkF m pc Ls st) rfl (hb C.2.1 hd) _ a, r⟩
theorem w_retN (C : Cx p s m meth c Z own bytes ml rt nm) {pc : Nat} {Ls : Array Slot} {st : List Value} {z : Int32} {t : FieldType} (hrt : rt = some t) (ht : t = .boolean ∨ t = .byte ∨ t = .char ∨ t = .short) (hd : decode bytes pc = .ok (.ireturn, 1)) (hc : cells ≤ cM) (hs : slots ≤ sM) (q : Q (some (.int (nar t z))) h) :
    Wp p l e R s m args below meth c n0 cM sM Q h cells slots (mkF m pc Ls (.int z :: st)) :=
  have hr : meth.sig.returnType = some t := C.2.2.2.2.2.1.trans hrt
  Wp.ret C (fun T fs locs X hl => retN X C.1 hr ht (hb C.2.1 hd) hl) (fun q => by rw [hr] at q; cases q) hc hs q
theorem narB0 : nar .boolean 0 = 0 := by decide
theorem narB1 : nar .boolean 1 = 1 := by decide
theorem w_retN' (C : Cx p s m meth c Z own bytes ml rt nm) {pc : Nat} {Ls : Array Slot} {st : List Value} {z z' : Int32} {t : FieldType} (hrt : rt = some t) (ht : t = .boolean ∨ t = .byte ∨ t = .char ∨ t = .short) (hd : decode bytes pc = .ok (.ireturn, 1)) (hc : cells ≤ cM) (hs : slots ≤ sM) (hz : nar t z = z') (q : Q (some (.int z')) h) :
    Wp p l e R s m args below meth c n0 cM sM Q h cells slots (mkF m pc Ls (.int z :: st)) := by
  subst hz; exact w_retN C hrt ht hd hc hs q
theorem ireturn_step {T : State} {locs : List Loc} (X : Stand p l e R s m args below meth c T locs cells slots) (hx : p.tables.exec = Jvm.exec) {pc : Nat} {Ls : Array Slot} {z : Int32} {rest : List Value} (hret : meth.sig.returnType = some .int) (hd : decode c.code pc = .ok (.ireturn, 1)) {fs : List Frame}
    (hl : ∀ (f : JFrame) (acts : List Action), f.method = m → f.locked = none → f.entered = [] → (doReturn e (T.setTop f) acts (some (.int z))).1 = T.setFrames fs) : Steps p.tables e below (T.setTop (mkF m pc Ls (.int z :: rest))) (T.setFrames fs) :=
  retOut X hx (t := .int) (i := .ireturn) hret rfl (Or.inl ⟨rfl, Or.inl rfl, _, rfl⟩) hd hl
theorem w_retI (C : Cx p s m meth c Z own bytes ml rt nm) {pc : Nat} {Ls : Array Slot} {st : List Value} {z : Int32} (hrt : rt = some .int) (hd : decode bytes pc = .ok (.ireturn, 1)) (hc : cells ≤ cM) (hs : slots ≤ sM) (q : Q (some (.int z)) h) :
    Wp p l e R s m args below meth c n0 cM sM Q h cells slots (mkF m pc Ls (.int z :: st)) :=
  have hr : meth.sig.returnType = some .int := C.2.2.2.2.2.1.trans hrt
  Wp.ret C (fun T fs locs X hl => ireturn_step X C.1 hr (hb C.2.1 hd) hl) (fun q => by rw [hr] at q; cases q) hc hs q
theorem w_retJ (C : Cx p s m meth c Z own bytes ml rt nm) {pc : Nat} {Ls : Array Slot} {st : List Value} {z : Int64} (hrt : rt = some .long) (hd : decode bytes pc = .ok (.lreturn, 1)) (hc : cells ≤ cM) (hs : slots ≤ sM) (q : Q (some (.long z)) h) :
    Wp p l e R s m args below meth c n0 cM sM Q h cells slots (mkF m pc Ls (.long z :: st)) :=
  have hr : meth.sig.returnType = some .long := C.2.2.2.2.2.1.trans hrt
  Wp.ret C (fun T fs locs X hl => retOut X C.1 (t := .long) (i := .lreturn) hr rfl (Or.inr (Or.inl ⟨rfl, rfl, _, rfl⟩)) (hb C.2.1 hd) hl) (fun q => by rw [hr] at q; cases q) hc hs q
theorem w_retA (C : Cx p s m meth c Z own bytes ml rt nm) {pc : Nat} {Ls : Array Slot} {st : List Value} {v : Value} {t : FieldType} (hrt : rt = some t) (ht : t.isReference = true) (hv : v.isRef = true) (hd : decode bytes pc = .ok (.areturn, 1)) (hc : cells ≤ cM) (hs : slots ≤ sM) (q : Q (some v) h) :
    Wp p l e R s m args below meth c n0 cM sM Q h cells slots (mkF m pc Ls (v :: st)) :=
  have hr : meth.sig.returnType = some t := C.2.2.2.2.2.1.trans hrt
  Wp.ret C (fun T fs locs X hl => retOut X C.1 (t := t) (i := .areturn) hr (by cases v <;> simp [Value.isRef] at hv <;> cases t <;> first | rfl | (simp [FieldType.isReference] at ht)) (Or.inr (Or.inr (Or.inr (Or.inr ⟨rfl, ht, hv⟩)))) (hb C.2.1 hd) hl) (fun q => by rw [hr] at q; cases q) hc hs q
theorem w_ret0 (C : Cx p s m meth c Z own bytes ml rt nm) {pc : Nat} {Ls : Array Slot} (hrt : rt = none) (hd : decode bytes pc = .ok (.return_, 1)) (hc : cells ≤ cM) (hs : slots ≤ sM) (q : Q none h) :
    Wp p l e R s m args below meth c n0 cM sM Q h cells slots (mkF m pc Ls []) :=
  have hr : meth.sig.returnType = none := C.2.2.2.2.2.1.trans hrt
  Wp.ret C (fun T fs locs X hl => X.returnOut C.1 hr (hb C.2.1 hd) hl) (fun _ => rfl) hc hs q
theorem w_getF (C : Cx p s m meth c Z own bytes ml rt nm) {pc pc' : Nat} {Ls : Array Slot} {st : List Value} {O n d : String} {i : Nat} {a : Addr} {v : Value} (w : (Jvm.Cond.fieldLink own i O n d).before a0 Z = true) (hd : decode bytes pc = .ok (.getfield i, 3)) (hp : pc + 3 = pc') (F : Fld Z h a O n d v) (K : Wp p l e R s m args below meth c n0 cM sM Q h cells slots (mkF m pc' Ls (v :: st))) :
    Wp p l e R s m args below meth c n0 cM sM Q h cells slots (mkF m pc Ls (.ref a :: st)) := by
  subst hp
  exact Wp.law (fun T locs X e0 => getF X C.1 C.2.2.1 C.2.2.2.1 (host := "") (Or.inl w) Via.refl e0 F (g := mkF m pc Ls (.ref a :: st)) rfl rfl (hb C.2.1 hd)) K
theorem w_getFN (C : Cx p s m meth c Z own bytes ml rt nm) {pc pc' : Nat} {Ls : Array Slot} {st : List Value} {O n d host : String} {i : Nat} {a : Addr} {v : Value} (w : (Jvm.Cond.fieldLinkNest own i O n d host).before a0 Z = true) (hd : decode bytes pc = .ok (.getfield i, 3)) (hp : pc + 3 = pc') (F : Fld Z h a O n d v) (K : Wp p l e R s m args below meth c n0 cM sM Q h cells slots (mkF m pc' Ls (v :: st))) :
    Wp p l e R s m args below meth c n0 cM sM Q h cells slots (mkF m pc Ls (.ref a :: st)) := by
  subst hp
  exact Wp.law (fun T locs X e0 => getF X C.1 C.2.2.1 C.2.2.2.1 (Or.inr w) Via.refl e0 F (g := mkF m pc Ls (.ref a :: st)) rfl rfl (hb C.2.1 hd)) K
theorem w_getS (C : Cx p s m meth c Z own bytes ml rt nm) {pc pc' : Nat} {Ls : Array Slot} {st : List Value} {O n d : String} {i : Nat} {v : Value} (w : (Jvm.Cond.fieldLink own i O n d).before a0 Z = true) (hd : decode bytes pc = .ok (.getstatic i, 3)) (hp : pc + 3 = pc') (F : Sta Z h O n d v) (K : Wp p l e R s m args below meth c n0 cM sM Q h cells slots (mkF m pc' Ls (v :: st))) :
    Wp p l e R s m args below meth c n0 cM sM Q h cells slots (mkF m pc Ls st) := by
  subst hp
  exact Wp.law (fun T locs X e0 => getS X C.1 C.2.2.1 C.2.2.2.1 (host := "") w Via.refl e0 F (g := mkF m pc Ls st) rfl (hb C.2.1 hd)) K
theorem w_putF (C : Cx p s m meth c Z own bytes ml rt nm) {pc pc' : Nat} {Ls : Array Slot} {st : List Value} {O n d Cl : String} {i kk : Nat} {a : Addr} {v old : Value} {ty : FieldType} (w : (Jvm.Cond.fieldLink own i O n d).before a0 Z = true) (L : (Jvm.Cond.lays Cl O n d).before a0 Z = true ∨ ((Jvm.Cond.laysFinal Cl O n d).before a0 Z = true ∧ own = O ∧ nm = "<init>")) (wi : (Jvm.Cond.instantiable Cl kk).before a0 Z = true)
    (hty : parseFieldDescriptor d = some ty) (hn : narrow ty v = v) (hf : fits ty v = true) (hd : decode bytes pc = .ok (.putfield i, 3)) (hp : pc + 3 = pc') (g0 : n0 ≤ a) (F : Fld Z h a O n d old) (E : Exa Z h a Cl)
    (K : ∀ h', Wr h h' a (Jvm.RoadKit.slotOf Z O n d) v → Wp p l e R s m args below meth c n0 cM sM Q h' cells slots (mkF m pc' Ls st)) :
    Wp p l e R s m args below meth c n0 cM sM Q h cells slots (mkF m pc Ls (v :: .ref a :: st)) := by
  subst hp
  intro T locs X e0 N
  obtain ⟨T', h', X', e', W, st'⟩ := putF X C.1 C.2.2.1 C.2.2.2.1 (host := "") (Or.inl w) Via.refl e0 F E (L.imp id fun q => ⟨q.1, q.2.1, C.2.2.2.2.2.2.1.trans q.2.2⟩) wi hty hn hf (g := mkF m pc Ls (v :: .ref a :: st)) rfl rfl (hb C.2.1 hd)
  obtain ⟨s2, u, Lc, x, r⟩ := K h' W T' _ X' e' (Fr.snoc X' N g0)
  exact ⟨s2, u, Lc, st' _ x, r⟩
theorem w_putFN (C : Cx p s m meth c Z own bytes ml rt nm) {pc pc' : Nat} {Ls : Array Slot} {st : List Value} {O n d Cl : String} {i kk : Nat} {a : Addr} {v old : Value} {ty : FieldType} {host : String} (w : (Jvm.Cond.fieldLinkNest own i O n d host).before a0 Z = true) (L : (Jvm.Cond.lays Cl O n d).before a0 Z = true ∨ ((Jvm.Cond.laysFinal Cl O n d).before a0 Z = true ∧ own = O ∧ nm = "<init>")) (wi : (Jvm.Cond.instantiable Cl kk).before a0 Z = true)
    (hty : parseFieldDescriptor d = some ty) (hn : narrow ty v = v) (hf : fits ty v = true) (hd : decode bytes pc = .ok (.putfield i, 3)) (hp : pc + 3 = pc') (g0 : n0 ≤ a) (F : Fld Z h a O n d old) (E : Exa Z h a Cl)
    (K : ∀ h', Wr h h' a (Jvm.RoadKit.slotOf Z O n d) v → Wp p l e R s m args below meth c n0 cM sM Q h' cells slots (mkF m pc' Ls st)) :
    Wp p l e R s m args below meth c n0 cM sM Q h cells slots (mkF m pc Ls (v :: .ref a :: st)) := by
  subst hp
  intro T locs X e0 N
  obtain ⟨T', h', X', e', W, st'⟩ := putF X C.1 C.2.2.1 C.2.2.2.1 (Or.inr w) Via.refl e0 F E (L.imp id fun q => ⟨q.1, q.2.1, C.2.2.2.2.2.2.1.trans q.2.2⟩) wi hty hn hf (g := mkF m pc Ls (v :: .ref a :: st)) rfl rfl (hb C.2.1 hd)
  obtain ⟨s2, u, Lc, x, r⟩ := K h' W T' _ X' e' (Fr.snoc X' N g0)
  exact ⟨s2, u, Lc, st' _ x, r⟩
theorem w_putFZ (C : Cx p s m meth c Z own bytes ml rt nm) {pc pc' : Nat} {Ls : Array Slot} {st : List Value} {O n d Cl : String} {i kk : Nat} {a : Addr} {v v' old : Value} {ty : FieldType} (w : (Jvm.Cond.fieldLink own i O n d).before a0 Z = true) (L : (Jvm.Cond.lays Cl O n d).before a0 Z = true ∨ ((Jvm.Cond.laysFinal Cl O n d).before a0 Z = true ∧ own = O ∧ nm = "<init>")) (wi : (Jvm.Cond.instantiable Cl kk).before a0 Z = true)
    (hty : parseFieldDescriptor d = some ty) (hn : narrow ty v = v') (hf : fits ty v' = true) (hd : decode bytes pc = .ok (.putfield i, 3)) (hp : pc + 3 = pc') (g0 : n0 ≤ a) (F : Fld Z h a O n d old) (E : Exa Z h a Cl)
    (K : ∀ h', Wr h h' a (Jvm.RoadKit.slotOf Z O n d) v' → Wp p l e R s m args below meth c n0 cM sM Q h' cells slots (mkF m pc' Ls st)) :
    Wp p l e R s m args below meth c n0 cM sM Q h cells slots (mkF m pc Ls (v :: .ref a :: st)) := by
  subst hp
  intro T locs X e0 N
  obtain ⟨T', h', X', e', W, st'⟩ := putFN X C.1 C.2.2.1 C.2.2.2.1 w Via.refl e0 F E (L.imp id fun q => ⟨q.1, q.2.1, C.2.2.2.2.2.2.1.trans q.2.2⟩) wi hty hn hf (g := mkF m pc Ls (v :: .ref a :: st)) rfl rfl (hb C.2.1 hd)
  obtain ⟨s2, u, Lc, x, r⟩ := K h' W T' _ X' e' (Fr.snoc X' N g0)
  exact ⟨s2, u, Lc, st' _ x, r⟩
theorem w_new (C : Cx p s m meth c Z own bytes ml rt nm) {pc pc' ce' sl' : Nat} {Ls : Array Slot} {st : List Value} {Cl : String} {i n : Nat} (w : (Jvm.Cond.classLink own i Cl).before a0 Z = true) (wi : (Jvm.Cond.instantiable Cl n).before a0 Z = true) (wz : (Jvm.Cond.initialized Cl).before a0 Z = true) (hd : decode bytes pc = .ok (.new i, 3)) (hp : pc + 3 = pc') (hc1 : cells + 1 = ce') (hl1 : slots + n = sl') (hc : ce' ≤ R.cells) (hl : sl' ≤ R.slots)
    (K : ∀ h' a, a = h.size → Ext h h' → Exa Z h' a Cl → (∀ {O nm d : String} {ty : FieldType}, Laid Z a0 Cl O nm d → parseFieldDescriptor d = some ty → Fld Z h' a O nm d (defaultValue ty)) → Wp p l e R s m args below meth c n0 cM sM Q h' ce' sl' (mkF m pc' Ls (.ref a :: st))) :
    Wp p l e R s m args below meth c n0 cM sM Q h cells slots (mkF m pc Ls st) := by
  subst hp hc1 hl1
  intro T locs X e0 N
  obtain ⟨T', h', X', e', E, A, D, -, st'⟩ := newO X C.1 C.2.2.1 C.2.2.2.1 w wi wz e0 (g := mkF m pc Ls st) rfl (hb C.2.1 hd) hc hl
  obtain ⟨s2, u, Lc, x, r⟩ := K h' h.size rfl E A D T' _ X' e' N
  exact ⟨s2, u, Lc, st' _ x, r⟩
theorem w_newP (C : Cx p s m meth c Z own bytes ml rt nm) {pc pc' ce' sl' : Nat} {Ls : Array Slot} {st : List Value} {aty : ArrayType} {n : Int32} {cap : Nat} (w : (Jvm.Cond.arrayClass (newarray.typeOf aty)).before a0 Z = true) (hd : decode bytes pc = .ok (.newarray aty, 2)) (hp : pc + 2 = pc') (hn : ¬ n < 0) (hcap : n.toNatClampNeg ≤ cap) (hbig : cap * 8 ≤ 536870912) (hc1 : cells + 1 = ce') (hl1 : slots + cap = sl') (hc : ce' ≤ R.cells) (hl : sl' ≤ R.slots)
    (K : ∀ h' a cA, a = h.size → Ext h h' → Arr Z h' a (newA cA (newarray.typeOf aty) n) (newarray.typeOf aty) → Wp p l e R s m args below meth c n0 cM sM Q h' ce' sl' (mkF m pc' Ls (.ref a :: st))) :
    Wp p l e R s m args below meth c n0 cM sM Q h cells slots (mkF m pc Ls (.int n :: st)) := by
  subst hp hc1 hl1
  intro T locs X e0 N
  obtain ⟨T', h', cA, X', e', E, A, st'⟩ := newP X C.1 C.2.2.1 w e0 (g := mkF m pc Ls (.int n :: st)) rfl (hb C.2.1 hd) rfl hn hcap hbig hc hl
  obtain ⟨s2, u, Lc, x, r⟩ := K h' h.size cA rfl E A T' _ X' e' N
  exact ⟨s2, u, Lc, st' _ x, r⟩
theorem w_newR (C : Cx p s m meth c Z own bytes ml rt nm) {pc pc' ce' sl' : Nat} {Ls : Array Slot} {st : List Value} {Cl : String} {i : Nat} {n : Int32} {cap : Nat} (w1 : (Jvm.Cond.classLink own i Cl).before a0 Z = true) (w2 : (Jvm.Cond.arrayOver (.object Cl)).before a0 Z = true) (hd : decode bytes pc = .ok (.anewarray i, 3)) (hp : pc + 3 = pc') (hn : ¬ n < 0) (hcap : n.toNatClampNeg ≤ cap) (hbig : cap * 8 ≤ 536870912) (hc1 : cells + 1 = ce') (hl1 : slots + cap = sl') (hc : ce' ≤ R.cells) (hl : sl' ≤ R.slots)
    (K : ∀ h' a cA, a = h.size → Ext h h' → Arr Z h' a (newA cA (.object Cl) n) (.object Cl) → Ovr Z cA Cl → Wp p l e R s m args below meth c n0 cM sM Q h' ce' sl' (mkF m pc' Ls (.ref a :: st))) :
    Wp p l e R s m args below meth c n0 cM sM Q h cells slots (mkF m pc Ls (.int n :: st)) := by
  subst hp hc1 hl1
  intro T locs X e0 N
  obtain ⟨T', h', cA, X', e', E, A, O, st'⟩ := newR X C.1 C.2.2.1 C.2.2.2.1 w1 w2 e0 (g := mkF m pc Ls (.int n :: st)) rfl (hb C.2.1 hd) rfl hn hcap hbig hc hl
  obtain ⟨s2, u, Lc, x, r⟩ := K h' h.size cA rfl E A O T' _ X' e' N
  exact ⟨s2, u, Lc, st' _ x, r⟩
theorem w_iastore (C : Cx p s m meth c Z own bytes ml rt nm) {pc pc' : Nat} {Ls : Array Slot} {st : List Value} {a : Addr} {cl : Cell} {j : Int32} {x : Int32} (hd : decode bytes pc = .ok (.iastore, 1)) (hp : pc + 1 = pc') (g0 : n0 ≤ a) (A : Arr Z h a cl .int) (hj : ¬ (j < 0 ∨ cl.slots.size ≤ j.toNatClampNeg))
    (K : ∀ h', Wr h h' a j.toNatClampNeg (.int x) → Wp p l e R s m args below meth c n0 cM sM Q h' cells slots (mkF m pc' Ls st)) :
    Wp p l e R s m args below meth c n0 cM sM Q h cells slots (mkF m pc Ls (.int x :: .int j :: .ref a :: st)) := by
  subst hp
  intro T locs X e0 N
  obtain ⟨T', h', X', e', W, st'⟩ := stI X C.1 C.2.2.1 e0 A hj (g := mkF m pc Ls (.int x :: .int j :: .ref a :: st)) rfl rfl (hb C.2.1 hd)
  obtain ⟨s2, u, Lc, q, r⟩ := K h' W T' _ X' e' (Fr.snoc X' N g0)
  exact ⟨s2, u, Lc, st' _ q, r⟩
theorem w_lastore (C : Cx p s m meth c Z own bytes ml rt nm) {pc pc' : Nat} {Ls : Array Slot} {st : List Value} {a : Addr} {cl : Cell} {j : Int32} {x : Int64} (hd : decode bytes pc = .ok (.lastore, 1)) (hp : pc + 1 = pc') (g0 : n0 ≤ a) (A : Arr Z h a cl .long) (hj : ¬ (j < 0 ∨ cl.slots.size ≤ j.toNatClampNeg))
    (K : ∀ h', Wr h h' a j.toNatClampNeg (.long x) → Wp p l e R s m args below meth c n0 cM sM Q h' cells slots (mkF m pc' Ls st)) :
    Wp p l e R s m args below meth c n0 cM sM Q h cells slots (mkF m pc Ls (.long x :: .int j :: .ref a :: st)) := by
  subst hp
  intro T locs X e0 N
  obtain ⟨T', h', X', e', W, st'⟩ := stJ X C.1 C.2.2.1 e0 A hj (g := mkF m pc Ls (.long x :: .int j :: .ref a :: st)) rfl rfl (hb C.2.1 hd)
  obtain ⟨s2, u, Lc, q, r⟩ := K h' W T' _ X' e' (Fr.snoc X' N g0)
  exact ⟨s2, u, Lc, st' _ q, r⟩
theorem w_castore (C : Cx p s m meth c Z own bytes ml rt nm) {pc pc' : Nat} {Ls : Array Slot} {st : List Value} {a : Addr} {cl : Cell} {j : Int32} {x : Int32} (hd : decode bytes pc = .ok (.castore, 1)) (hp : pc + 1 = pc') (g0 : n0 ≤ a) (A : Arr Z h a cl .char) (hj : ¬ (j < 0 ∨ cl.slots.size ≤ j.toNatClampNeg))
    (K : ∀ h', Wr h h' a j.toNatClampNeg (.int (nar .char x)) → Wp p l e R s m args below meth c n0 cM sM Q h' cells slots (mkF m pc' Ls st)) :
    Wp p l e R s m args below meth c n0 cM sM Q h cells slots (mkF m pc Ls (.int x :: .int j :: .ref a :: st)) := by
  subst hp
  intro T locs X e0 N
  obtain ⟨T', h', X', e', W, st'⟩ := stC X C.1 C.2.2.1 e0 A hj (g := mkF m pc Ls (.int x :: .int j :: .ref a :: st)) rfl rfl (hb C.2.1 hd)
  obtain ⟨s2, u, Lc, q, r⟩ := K h' W T' _ X' e' (Fr.snoc X' N g0)
  exact ⟨s2, u, Lc, st' _ q, r⟩
theorem w_aastore (C : Cx p s m meth c Z own bytes ml rt nm) {pc pc' : Nat} {Ls : Array Slot} {st : List Value} {a : Addr} {cl : Cell} {j : Int32} {v : Value} {ty : FieldType} (hd : decode bytes pc = .ok (.aastore, 1)) (hp : pc + 1 = pc') (g0 : n0 ≤ a) (A : Arr Z h a cl ty) (hj : ¬ (j < 0 ∨ cl.slots.size ≤ j.toNatClampNeg)) (hty : ty.isReference = true) (F : Sto Z h a v)
    (K : ∀ h', Wr h h' a j.toNatClampNeg v → Wp p l e R s m args below meth c n0 cM sM Q h' cells slots (mkF m pc' Ls st)) :
    Wp p l e R s m args below meth c n0 cM sM Q h cells slots (mkF m pc Ls (v :: .int j :: .ref a :: st)) := by
  subst hp
  intro T locs X e0 N
  obtain ⟨T', h', X', e', W, st'⟩ := stR X C.1 C.2.2.1 e0 A hj hty F (g := mkF m pc Ls (v :: .int j :: .ref a :: st)) rfl rfl (hb C.2.1 hd)
  obtain ⟨s2, u, Lc, q, r⟩ := K h' W T' _ X' e' (Fr.snoc X' N g0)
  exact ⟨s2, u, Lc, st' _ q, r⟩
theorem w_iaload (C : Cx p s m meth c Z own bytes ml rt nm) {pc pc' : Nat} {Ls : Array Slot} {st : List Value} {a : Addr} {cl : Cell} {j : Int32} {v : Value} (hd : decode bytes pc = .ok (.iaload, 1)) (hp : pc + 1 = pc') (A : Arr Z h a cl .int) (hj : ¬ (j < 0 ∨ cl.slots.size ≤ j.toNatClampNeg)) (hv : cl.slots[j.toNatClampNeg]? = some v)
    (K : Wp p l e R s m args below meth c n0 cM sM Q h cells slots (mkF m pc' Ls (v :: st))) :
    Wp p l e R s m args below meth c n0 cM sM Q h cells slots (mkF m pc Ls (.int j :: .ref a :: st)) := by
  subst hp
  intro T locs X e0 N
  obtain ⟨s2, u, L, q, r⟩ := K T locs X e0 N
  exact ⟨s2, u, L, X.iaload C.1 (j := j) (v := v) (by rw [e0]; exact A.1) (State.isArrayOf_alike C.2.2.1.alike A.2.1) A.2.2 hj hv (g := mkF m pc Ls (.int j :: .ref a :: st)) rfl rfl (hb C.2.1 hd) _ q, r⟩
theorem w_laload (C : Cx p s m meth c Z own bytes ml rt nm) {pc pc' : Nat} {Ls : Array Slot} {st : List Value} {a : Addr} {cl : Cell} {j : Int32} {v : Value} (hd : decode bytes pc = .ok (.laload, 1)) (hp : pc + 1 = pc') (A : Arr Z h a cl .long) (hj : ¬ (j < 0 ∨ cl.slots.size ≤ j.toNatClampNeg)) (hv : cl.slots[j.toNatClampNeg]? = some v)
    (K : Wp p l e R s m args below meth c n0 cM sM Q h cells slots (mkF m pc' Ls (v :: st))) :
    Wp p l e R s m args below meth c n0 cM sM Q h cells slots (mkF m pc Ls (.int j :: .ref a :: st)) := by
  subst hp
  intro T locs X e0 N
  obtain ⟨s2, u, L, q, r⟩ := K T locs X e0 N
  exact ⟨s2, u, L, X.laload C.1 (j := j) (v := v) (by rw [e0]; exact A.1) (State.isArrayOf_alike C.2.2.1.alike A.2.1) A.2.2 hj hv (g := mkF m pc Ls (.int j :: .ref a :: st)) rfl rfl (hb C.2.1 hd) _ q, r⟩
theorem w_caload (C : Cx p s m meth c Z own bytes ml rt nm) {pc pc' : Nat} {Ls : Array Slot} {st : List Value} {a : Addr} {cl : Cell} {j : Int32} {v : Value} (hd : decode bytes pc = .ok (.caload, 1)) (hp : pc + 1 = pc') (A : Arr Z h a cl .char) (hj : ¬ (j < 0 ∨ cl.slots.size ≤ j.toNatClampNeg)) (hv : cl.slots[j.toNatClampNeg]? = some v)
    (K : Wp p l e R s m args below meth c n0 cM sM Q h cells slots (mkF m pc' Ls (v :: st))) :
    Wp p l e R s m args below meth c n0 cM sM Q h cells slots (mkF m pc Ls (.int j :: .ref a :: st)) := by
  subst hp
  intro T locs X e0 N
  obtain ⟨s2, u, L, q, r⟩ := K T locs X e0 N
  exact ⟨s2, u, L, X.caload C.1 (j := j) (v := v) (by rw [e0]; exact A.1) (State.isArrayOf_alike C.2.2.1.alike A.2.1) A.2.2 hj hv (g := mkF m pc Ls (.int j :: .ref a :: st)) rfl rfl (hb C.2.1 hd) _ q, r⟩
theorem w_baload (C : Cx p s m meth c Z own bytes ml rt nm) {pc pc' : Nat} {Ls : Array Slot} {st : List Value} {a : Addr} {cl : Cell} {j : Int32} {v : Value} (hd : decode bytes pc = .ok (.baload, 1)) (hp : pc + 1 = pc') (A : Arr Z h a cl .byte) (hj : ¬ (j < 0 ∨ cl.slots.size ≤ j.toNatClampNeg)) (hv : cl.slots[j.toNatClampNeg]? = some v)
    (K : Wp p l e R s m args below meth c n0 cM sM Q h cells slots (mkF m pc' Ls (v :: st))) :
    Wp p l e R s m args below meth c n0 cM sM Q h cells slots (mkF m pc Ls (.int j :: .ref a :: st)) := by
  subst hp
  intro T locs X e0 N
  obtain ⟨s2, u, L, q, r⟩ := K T locs X e0 N
  exact ⟨s2, u, L, X.baloadBytes C.1 (j := j) (v := v) (by rw [e0]; exact A.1) (State.isArrayOf_alike C.2.2.1.alike A.2.1) A.2.2 hj hv (g := mkF m pc Ls (.int j :: .ref a :: st)) rfl rfl (hb C.2.1 hd) _ q, r⟩
theorem w_aaload (C : Cx p s m meth c Z own bytes ml rt nm) {pc pc' : Nat} {Ls : Array Slot} {st : List Value} {a : Addr} {cl : Cell} {j : Int32} {v : Value} {ty : FieldType} (hd : decode bytes pc = .ok (.aaload, 1)) (hp : pc + 1 = pc') (A : Arr Z h a cl ty) (hty : ty.isReference = true) (hj : ¬ (j < 0 ∨ cl.slots.size ≤ j.toNatClampNeg)) (hv : cl.slots[j.toNatClampNeg]? = some v)
    (K : Wp p l e R s m args below meth c n0 cM sM Q h cells slots (mkF m pc' Ls (v :: st))) :
    Wp p l e R s m args below meth c n0 cM sM Q h cells slots (mkF m pc Ls (.int j :: .ref a :: st)) := by
  subst hp
  intro T locs X e0 N
  obtain ⟨s2, u, L, q, r⟩ := K T locs X e0 N
  exact ⟨s2, u, L, X.aaload C.1 (j := j) (v := v) (by rw [e0]; exact A.1) (State.isArrayOf_alike C.2.2.1.alike A.2.1) hty A.2.2 hj hv (g := mkF m pc Ls (.int j :: .ref a :: st)) rfl rfl (hb C.2.1 hd) _ q, r⟩
theorem w_alen (C : Cx p s m meth c Z own bytes ml rt nm) {pc pc' : Nat} {Ls : Array Slot} {st : List Value} {a : Addr} {cl : Cell} {ty : FieldType} {n : Int32} (hd : decode bytes pc = .ok (.arraylength, 1)) (hp : pc + 1 = pc') (A : Arr Z h a cl ty) (hn : cl.slots.size.toInt32 = n)
    (K : Wp p l e R s m args below meth c n0 cM sM Q h cells slots (mkF m pc' Ls (.int n :: st))) :
    Wp p l e R s m args below meth c n0 cM sM Q h cells slots (mkF m pc Ls (.ref a :: st)) := by
  subst hp hn
  intro T locs X e0 N
  obtain ⟨s2, u, L, q, r⟩ := K T locs X e0 N
  exact ⟨s2, u, L, X.arraylength C.1 (by rw [e0]; exact A.1) (State.isArrayOf_alike C.2.2.1.alike A.2.1) (g := mkF m pc Ls (.ref a :: st)) rfl rfl (hb C.2.1 hd) _ q, r⟩
theorem w_initO (C : Cx p s m meth c Z own bytes ml rt nm) {pc pc' : Nat} {Ls : Array Slot} {st : List Value} {i : Nat} {a : Addr} {W : Nat} (w1 : (Jvm.Cond.methodLink own i Lib.objectInit).before a0 Z = true) (w2 : (Jvm.Cond.instanceMethod Lib.objectInit).before a0 Z = true) (w3 : (Jvm.Cond.code Lib.objectInit ⟨#[0xb1]⟩ 1 none).before a0 Z = true) (hd : decode bytes pc = .ok (.invokespecial i, 3)) (hp : pc + 3 = pc')
    (hsz : Ls.size = ml) (hf : 1 ≤ R.frames) (hW : (st.map fun v => v.category).sum ≤ W) (hl : W + 12 ≤ R.locals) (K : Wp p l e R s m args below meth c n0 cM sM Q h cells slots (mkF m pc' Ls st)) :
    Wp p l e R s m args below meth c n0 cM sM Q h cells slots (mkF m pc Ls (.ref a :: st)) := by
  subst hp
  exact Wp.law (fun T locs X e0 => initO X C.1 C.2.2.1 C.2.2.2.1 w1 w2 w3 e0 (g := mkF m pc Ls (.ref a :: st)) rfl (hsz.trans C.2.2.2.2.1.symm) rfl (hb C.2.1 hd) hf (by show 2 * 0 + _ ≤ _; rw [Nat.mul_zero, Nat.zero_add]; exact hW) hl) K
theorem w_callS (C : Cx p s m meth c Z own bytes ml rt nm) {pc pc' : Nat} {Ls : Array Slot} {stk st : List Value} {i : Nat} {ce' sl' : Nat} {y : MethodName} {cb : ByteArray} {cml : Nat} {cret : Option FieldType} {crm : Room} {argsL : List Value} {Q' : Option Value → Heap → Prop} {W : Nat} (w1 : (Jvm.Cond.methodLink own i y).before a0 Z = true) (w2 : (Jvm.Cond.static y).before a0 Z = true) (w3 : (Jvm.Cond.initialized y.cls).before a0 Z = true) (w4 : (Jvm.Cond.code y cb cml cret).before a0 Z = true) (hy : y.cls ≠ "java/lang/invoke/MethodHandle" ∧ y.cls ≠ "java/lang/invoke/VarHandle")
    (hd : decode bytes pc = .ok (.invokestatic i, 3)) (hp : pc + 3 = pc') (hst : stk = argsL.reverse ++ st) (hfr : crm.frames + 1 ≤ R.frames) (hlo : W + (cml + 11) + crm.locals ≤ R.locals) (hW : (st.map fun v => v.category).sum ≤ W) (hce1 : cells + crm.cells = ce') (hsl1 : slots + crm.slots = sl') (hce : ce' ≤ R.cells) (hsl : sl' ≤ R.slots) (hsz : Ls.size = ml) (hlen : ∀ sig, parseMethodDescriptor y.desc = some sig → argsL.length = sig.parameters.length) (ct : Ct l Z y cb cml cret [] crm argsL.toArray h n0 Q')
    (K : ∀ v h', Q' v h' → Wp p l e R s m args below meth c n0 cM sM Q h' ce' sl' (mkF m pc' Ls (v.toList ++ st))) :
    Wp p l e R s m args below meth c n0 cM sM Q h cells slots (mkF m pc Ls stk) := by
  subst hp hce1 hsl1
  intro T locs X e0 N
  obtain ⟨v, _, ⟨T', L', k', n'⟩, -, X', ⟨Lc, hq, l1, l2, l3⟩, st'⟩ := Jvm.LawKit.callS X C.1 (y := y) C.2.2.2.1 (mvT C.2.2.1 w1) (mvT C.2.2.1 w2) (mvT C.2.2.1 w3) (mvT C.2.2.1 w4) hy (backOf (W := W) (Q := fun v hh L => Q' v hh ∧ Fr n0 L) ct C.2.2.1 w4 w3 hfr hlo) (g := mkF m pc Ls stk) rfl (hsz.trans C.2.2.2.2.1.symm) (argsL := argsL) (rest := st) hlen hst (by show 2 * 0 + _ ≤ _; rw [Nat.mul_zero, Nat.zero_add]; exact hW) (hb C.2.1 hd) (fun _ _ => ⟨rfl, e0, hce, hsl⟩)
  dsimp only [Pt.U, Pt.locs, Pt.cells, Pt.slots] at X' l1 l2 l3 st' hq
  subst l1 l2 l3
  obtain ⟨s2, u, L, q, r⟩ := K _ _ hq.1 _ _ X' rfl (Fr.app N hq.2)
  exact ⟨s2, u, L, st' _ q, r⟩
theorem w_callI (C : Cx p s m meth c Z own bytes ml rt nm) {pc pc' : Nat} {Ls : Array Slot} {stk st : List Value} {i : Nat} {a : Addr} {ce' sl' : Nat} {y : MethodName} {cb : ByteArray} {cml : Nat} {crm : Room} {argsL : List Value} {Q' : Option Value → Heap → Prop} {W : Nat} (hin : y.name = "<init>") (w1 : (Jvm.Cond.methodLink own i y).before a0 Z = true) (w2 : (Jvm.Cond.instanceMethod y).before a0 Z = true) (w3 : (Jvm.Cond.initialized y.cls).before a0 Z = true) (w4 : (Jvm.Cond.code y cb cml none).before a0 Z = true) (hy : y.cls ≠ "java/lang/invoke/MethodHandle" ∧ y.cls ≠ "java/lang/invoke/VarHandle")
    (hd : decode bytes pc = .ok (.invokespecial i, 3)) (hp : pc + 3 = pc') (hst : stk = argsL.reverse ++ .ref a :: st) (hfr : crm.frames + 1 ≤ R.frames) (hlo : W + (cml + 11) + crm.locals ≤ R.locals) (hW : (st.map fun v => v.category).sum ≤ W) (hce1 : cells + crm.cells = ce') (hsl1 : slots + crm.slots = sl') (hce : ce' ≤ R.cells) (hsl : sl' ≤ R.slots) (hsz : Ls.size = ml) (hlen : ∀ sig, parseMethodDescriptor y.desc = some sig → argsL.length = sig.parameters.length) (ct : Ct l Z y cb cml none [] crm (.ref a :: argsL).toArray h n0 Q')
    (K : ∀ v h', Q' v h' → Wp p l e R s m args below meth c n0 cM sM Q h' ce' sl' (mkF m pc' Ls (v.toList ++ st))) :
    Wp p l e R s m args below meth c n0 cM sM Q h cells slots (mkF m pc Ls stk) := by
  subst hp hce1 hsl1
  intro T locs X e0 N
  obtain ⟨v, _, ⟨T', L', k', n'⟩, -, X', ⟨Lc, hq, l1, l2, l3⟩, st'⟩ := X.specialBack C.1 (y := y) hin C.2.2.2.1 (mvT C.2.2.1 w1) (mvT C.2.2.1 w2) (mvT C.2.2.1 w4) hy (backOf (W := W) (Q := fun v hh L => Q' v hh ∧ Fr n0 L) ct C.2.2.1 w4 w3 hfr hlo) (g := mkF m pc Ls stk) rfl (hsz.trans C.2.2.2.2.1.symm) (Steps.refl _) (a := a) (argsL := argsL) (rest := st) hlen hst (by show 2 * 0 + _ ≤ _; rw [Nat.mul_zero, Nat.zero_add]; exact hW) (hb C.2.1 hd) (fun _ _ => ⟨rfl, e0, hce, hsl⟩)
  dsimp only [Pt.U, Pt.locs, Pt.cells, Pt.slots] at X' l1 l2 l3 st' hq
  subst l1 l2 l3
  obtain ⟨s2, u, L, q, r⟩ := K _ _ hq.1 _ _ X' rfl (Fr.app N hq.2)
  exact ⟨s2, u, L, st'.trans q, r⟩
theorem w_callV (C : Cx p s m meth c Z own bytes ml rt nm) {pc pc' : Nat} {Ls : Array Slot} {stk st : List Value} {i : Nat} {a : Addr} {Cl : String} {ce' sl' : Nat} {y : MethodName} {cb : ByteArray} {cml : Nat} {cret : Option FieldType} {crm : Room} {argsL : List Value} {Q' : Option Value → Heap → Prop} {W : Nat} (w1 : (Jvm.Cond.methodLink own i y).before a0 Z = true) (w2 : (Jvm.Cond.declares y).before a0 Z = true) (w5 : (Jvm.Cond.selects Cl y y).before a0 Z = true) (w6 : (Jvm.Cond.instanceMethod y).before a0 Z = true) (w3 : (Jvm.Cond.initialized y.cls).before a0 Z = true) (w4 : (Jvm.Cond.code y cb cml cret).before a0 Z = true) (hy : y.cls ≠ "java/lang/invoke/MethodHandle" ∧ y.cls ≠ "java/lang/invoke/VarHandle")
    (hd : decode bytes pc = .ok (.invokevirtual i, 3)) (hp : pc + 3 = pc') (hst : stk = argsL.reverse ++ .ref a :: st) (hfr : crm.frames + 1 ≤ R.frames) (hlo : W + (cml + 11) + crm.locals ≤ R.locals) (hW : (st.map fun v => v.category).sum ≤ W) (hce1 : cells + crm.cells = ce') (hsl1 : slots + crm.slots = sl') (hce : ce' ≤ R.cells) (hsl : sl' ≤ R.slots) (hsz : Ls.size = ml) (hlen : ∀ sig, parseMethodDescriptor y.desc = some sig → argsL.length = sig.parameters.length) (E : Exa Z h a Cl) (ct : Ct l Z y cb cml cret [] crm (.ref a :: argsL).toArray h n0 Q')
    (K : ∀ v h', Q' v h' → Wp p l e R s m args below meth c n0 cM sM Q h' ce' sl' (mkF m pc' Ls (v.toList ++ st))) :
    Wp p l e R s m args below meth c n0 cM sM Q h cells slots (mkF m pc Ls stk) := by
  subst hp hce1 hsl1
  intro T locs X e0 N
  obtain ⟨_, _, qa, qb, qc⟩ := isOf C.2.2.1 e0 E
  obtain ⟨v, _, ⟨T', L', k', n'⟩, -, X', ⟨Lc, hq, l1, l2, l3⟩, st'⟩ := X.virtualBack C.1 (y := y) (z := y) C.2.2.2.1 (mvT C.2.2.1 w1) (mvT C.2.2.1 w2) (notFace_of_selects (args := #[]) (mvT C.2.2.1 w5)) (mvT C.2.2.1 w5) (mvT C.2.2.1 w6) hy (backOf (W := W) (Q := fun v hh L => Q' v hh ∧ Fr n0 L) ct C.2.2.1 w4 w3 hfr hlo) qa qc (g := mkF m pc Ls stk) rfl (hsz.trans C.2.2.2.2.1.symm) (Steps.refl _) (argsL := argsL) (rest := st) hlen hst (by show 2 * 0 + _ ≤ _; rw [Nat.mul_zero, Nat.zero_add]; exact hW) (hb C.2.1 hd) (fun _ _ => ⟨rfl, e0, hce, hsl⟩)
  dsimp only [Pt.U, Pt.locs, Pt.cells, Pt.slots] at X' l1 l2 l3 st' hq
  subst l1 l2 l3
  obtain ⟨s2, u, L, q, r⟩ := K _ _ hq.1 _ _ X' rfl (Fr.app N hq.2)
  exact ⟨s2, u, L, st'.trans q, r⟩
theorem w_callP (C : Cx p s m meth c Z own bytes ml rt nm) {pc pc' : Nat} {Ls : Array Slot} {stk st : List Value} {i : Nat} {a : Addr} {Cl : String} {ce' sl' : Nat} {y : MethodName} {cb : ByteArray} {cml : Nat} {cret : Option FieldType} {crm : Room} {argsL : List Value} {Q' : Option Value → Heap → Prop} {W : Nat} (w1 : (Jvm.Cond.methodLink own i y).before a0 Z = true) (w6 : (Jvm.Cond.instanceMethod y).before a0 Z = true) (w5 : (Jvm.Cond.selects y.cls y y).before a0 Z = true) (w7 : (Jvm.Cond.privateMethod y).before a0 Z = true) (w3 : (Jvm.Cond.initialized y.cls).before a0 Z = true) (w4 : (Jvm.Cond.code y cb cml cret).before a0 Z = true) (hy : y.cls ≠ "java/lang/invoke/MethodHandle" ∧ y.cls ≠ "java/lang/invoke/VarHandle")
    (hd : decode bytes pc = .ok (.invokevirtual i, 3)) (hp : pc + 3 = pc') (hst : stk = argsL.reverse ++ .ref a :: st) (hfr : crm.frames + 1 ≤ R.frames) (hlo : W + (cml + 11) + crm.locals ≤ R.locals) (hW : (st.map fun v => v.category).sum ≤ W) (hce1 : cells + crm.cells = ce') (hsl1 : slots + crm.slots = sl') (hce : ce' ≤ R.cells) (hsl : sl' ≤ R.slots) (hsz : Ls.size = ml) (hlen : ∀ sig, parseMethodDescriptor y.desc = some sig → argsL.length = sig.parameters.length) (E : Exa Z h a Cl) (ct : Ct l Z y cb cml cret [] crm (.ref a :: argsL).toArray h n0 Q')
    (K : ∀ v h', Q' v h' → Wp p l e R s m args below meth c n0 cM sM Q h' ce' sl' (mkF m pc' Ls (v.toList ++ st))) :
    Wp p l e R s m args below meth c n0 cM sM Q h cells slots (mkF m pc Ls stk) := by
  subst hp hce1 hsl1
  intro T locs X e0 N
  obtain ⟨cq, q1, q2⟩ := E.cell
  obtain ⟨v, _, ⟨T', L', k', n'⟩, -, X', ⟨Lc, hq, l1, l2, l3⟩, st'⟩ := X.privateBack C.1 (y := y) C.2.2.2.1 (mvT C.2.2.1 w1) (mvT C.2.2.1 w6) (mvT C.2.2.1 w5) (Cond.privateMethod_at (mvP C.2.2.1 w7 (args := #[]))) (mvT C.2.2.1 w4) hy (backOf (W := W) (Q := fun v hh L => Q' v hh ∧ Fr n0 L) ct C.2.2.1 w4 w3 hfr hlo) (g := mkF m pc Ls stk) rfl (hsz.trans C.2.2.2.2.1.symm) (Steps.refl _) (a := a) (by rw [e0]; exact q1) q2 (argsL := argsL) (rest := st) hlen hst (by show 2 * 0 + _ ≤ _; rw [Nat.mul_zero, Nat.zero_add]; exact hW) (hb C.2.1 hd) (fun _ _ => ⟨rfl, e0, hce, hsl⟩)
  dsimp only [Pt.U, Pt.locs, Pt.cells, Pt.slots] at X' l1 l2 l3 st' hq
  subst l1 l2 l3
  obtain ⟨s2, u, L, q, r⟩ := K _ _ hq.1 _ _ X' rfl (Fr.app N hq.2)
  exact ⟨s2, u, L, st'.trans q, r⟩
theorem k1 {pc' ce' sl' : Nat} {Ls : Array Slot} {st : List Value} {r : Value} {P : Heap → Prop} (K : ∀ h', P h' → Wp p l e R s m args below meth c n0 cM sM Q h' ce' sl' (mkF m pc' Ls (r :: st))) : ∀ v h', (v = some r ∧ P h') → Wp p l e R s m args below meth c n0 cM sM Q h' ce' sl' (mkF m pc' Ls (v.toList ++ st)) := fun v h' q => by
  obtain ⟨rfl, q⟩ := q; exact K h' q
theorem k0 {pc' ce' sl' : Nat} {Ls : Array Slot} {st : List Value} {P : Heap → Prop} (K : ∀ h', P h' → Wp p l e R s m args below meth c n0 cM sM Q h' ce' sl' (mkF m pc' Ls st)) : ∀ v h', (v = none ∧ P h') → Wp p l e R s m args below meth c n0 cM sM Q h' ce' sl' (mkF m pc' Ls (v.toList ++ st)) := fun v h' q => by
  obtain ⟨rfl, q⟩ := q; exact K h' q
theorem kp {pc' ce' sl' : Nat} {Ls : Array Slot} {st : List Value} {r : Value} (K : Wp p l e R s m args below meth c n0 cM sM Q h ce' sl' (mkF m pc' Ls (r :: st))) : ∀ v h', (v = some r ∧ h' = h) → Wp p l e R s m args below meth c n0 cM sM Q h' ce' sl' (mkF m pc' Ls (v.toList ++ st)) := fun v h' q => by
  obtain ⟨rfl, rfl⟩ := q; exact K
theorem kx {pc' ce' sl' : Nat} {Ls : Array Slot} {st : List Value} {P : Addr → Heap → Prop} (K : ∀ b h', P b h' → Wp p l e R s m args below meth c n0 cM sM Q h' ce' sl' (mkF m pc' Ls (.ref b :: st))) : ∀ v h', (∃ b, v = some (.ref b) ∧ P b h') → Wp p l e R s m args below meth c n0 cM sM Q h' ce' sl' (mkF m pc' Ls (v.toList ++ st)) := fun v h' q => by
  obtain ⟨b, rfl, q⟩ := q; exact K b h' q
theorem kv {pc' ce' sl' : Nat} {Ls : Array Slot} {st : List Value} (K : Wp p l e R s m args below meth c n0 cM sM Q h ce' sl' (mkF m pc' Ls st)) : ∀ v h', (v = none ∧ h' = h) → Wp p l e R s m args below meth c n0 cM sM Q h' ce' sl' (mkF m pc' Ls (v.toList ++ st)) := fun v h' q => by
  obtain ⟨rfl, rfl⟩ := q; exact K
end Rules

/-! objects and arrays, each one fact -/
section Facts
variable {Z : State} {h h' : Heap} {a b : Addr} {Cl n d : String} {v v' w : Value} {fs fs' : List (String × String × Value)} {ws : List Addr} {sl : Nat} {ty : FieldType} {vs : List Value}
/-- an object of exactly the class Cl, and what its fields hold -/
def Obj (Z : State) (h : Heap) (a : Addr) (Cl : String) (fs : List (String × String × Value)) : Prop :=
  Exa Z h a Cl ∧ (∀ (i : Nat) (f : String × String × Value), fs[i]? = some f → Fld Z h a Cl f.1 f.2.1 f.2.2) ∧ ∀ (i j : Nat) (f g : String × String × Value), fs[i]? = some f → fs[j]? = some g → i ≠ j → Jvm.RoadKit.slotOf Z Cl f.1 f.2.1 ≠ Jvm.RoadKit.slotOf Z Cl g.1 g.2.1
theorem Obj.lt (O : Obj Z h a Cl fs) : a < h.size := O.1.lt
theorem Obj.fld (O : Obj Z h a Cl fs) (i : Nat) (e : fs[i]? = some (n, d, v)) : Fld Z h a Cl n d v := O.2.1 i _ e
theorem Obj.ext (O : Obj Z h a Cl fs) (E : Ext h h') : Obj Z h' a Cl fs := ⟨O.1.ext E, fun i f q => (O.2.1 i f q).ext E, O.2.2⟩
theorem Obj.keep (O : Obj Z h a Cl fs) (K : Keep h h' ws) (q : a ∉ ws) : Obj Z h' a Cl fs := ⟨O.1.keep K, fun i f r => (O.2.1 i f r).keep K q, O.2.2⟩
theorem Obj.other (O : Obj Z h a Cl fs) (W : Wr h h' b sl w) (q : a ≠ b) : Obj Z h' a Cl fs := ⟨O.1.wr W, fun i f r => (O.2.1 i f r).other W (Or.inl q), O.2.2⟩
theorem Obj.put (O : Obj Z h a Cl fs) (i : Nat) (e : fs[i]? = some (n, d, v)) (W : Wr h h' a (Jvm.RoadKit.slotOf Z Cl n d) v') (e' : fs.set i (n, d, v') = fs') : Obj Z h' a Cl fs' := by
  subst e'
  have key : ∀ j f, (fs.set i (n, d, v'))[j]? = some f → ∃ u, fs[j]? = some (f.1, f.2.1, u) ∧ (j = i → f = (n, d, v')) ∧ (j ≠ i → fs[j]? = some f) := fun j f q => by
    by_cases z : i = j
    · subst z
      have hl : i < fs.length := (List.getElem?_eq_some_iff.mp e).1
      rw [List.getElem?_set_self hl] at q
      cases q
      exact ⟨v, e, fun _ => rfl, fun r => absurd rfl r⟩
    · rw [List.getElem?_set_ne z] at q
      exact ⟨f.2.2, q, fun r => absurd r.symm z, fun _ => q⟩
  refine ⟨O.1.wr W, fun j f q => ?_, fun j k f g q r z => ?_⟩
  · obtain ⟨u, k1, k2, k3⟩ := key j f q
    by_cases z : j = i
    · cases k2 z; subst z
      exact (O.fld j e).same W
    · have ne : Jvm.RoadKit.slotOf Z Cl f.1 f.2.1 ≠ Jvm.RoadKit.slotOf Z Cl n d := O.2.2 j i f (n, d, v) (k3 z) e z
      exact Fld.other W (O.2.1 j f (k3 z)) (Or.inr ne)
  · obtain ⟨u, k1, -⟩ := key j f q
    obtain ⟨u', k2, -⟩ := key k g r
    exact O.2.2 j k (f.1, f.2.1, u) (g.1, g.2.1, u') k1 k2 z
theorem Obj.size (O : Obj Z h a Cl fs) (K : Keep h h' ws) : h.size ≤ h'.size := K.1
/-- an array of the component type ty, and what it holds -/
def Ar (Z : State) (h : Heap) (a : Addr) (ty : FieldType) (vs : List Value) : Prop := ∃ cl : Cell, Arr Z h a cl ty ∧ cl.slots = vs.toArray
theorem Ar.lt (A : Ar Z h a ty vs) : a < h.size := by obtain ⟨_, A, -⟩ := A; exact A.lt
theorem Ar.ext (A : Ar Z h a ty vs) (E : Ext h h') : Ar Z h' a ty vs := by obtain ⟨cl, A, q⟩ := A; exact ⟨cl, A.ext E, q⟩
theorem Ar.keep (A : Ar Z h a ty vs) (K : Keep h h' ws) (q : a ∉ ws) : Ar Z h' a ty vs := by obtain ⟨cl, A, r⟩ := A; exact ⟨cl, ⟨K.2.1 a cl A.1 q, A.2⟩, r⟩
theorem Ar.other (A : Ar Z h a ty vs) (W : Wr h h' b sl w) (q : a ≠ b) : Ar Z h' a ty vs := by obtain ⟨cl, A, r⟩ := A; exact ⟨cl, A.other W q, r⟩
theorem set_slots {cl : Cell} (r : cl.slots = vs.toArray) (j : Nat) (v : Value) : (cl.setSlot j v).slots = (vs.set j v).toArray := by
  show cl.slots.setIfInBounds j v = _
  rw [r]; simp
theorem Ar.set (A : Ar Z h a ty vs) (W : Wr h h' a sl w) : Ar Z h' a ty (vs.set sl w) := by
  obtain ⟨cl, A, r⟩ := A; exact ⟨_, A.same W, set_slots r _ _⟩
theorem Ar.new {cA : ClassId} {z : Int32} (A : Arr Z h a (newA cA ty z) ty) : Ar Z h a ty (List.replicate z.toNatClampNeg (defaultValue ty)) := ⟨_, A, by simp [newA]⟩
theorem Ar.nin {cl : Cell} {j : Int32} (r : cl.slots = vs.toArray) (hj : ¬ j < 0) (hl : j.toNatClampNeg < vs.length) : ¬ (j < 0 ∨ cl.slots.size ≤ j.toNatClampNeg) := by
  rw [r]; simp only [List.size_toArray]
  exact fun q => q.elim hj (fun q => Nat.not_le.mpr hl q)
theorem Ar.at {cl : Cell} {k : Nat} (r : cl.slots = vs.toArray) (hv : vs[k]? = some v) : cl.slots[k]? = some v := by rw [r]; simpa using hv
/-- an array of references to objects of the class Cl -/
def ArR (Z : State) (h : Heap) (a : Addr) (Cl : String) (vs : List Value) : Prop := ∃ cl : Cell, Arr Z h a cl (.object Cl) ∧ cl.slots = vs.toArray ∧ Ovr Z cl.cls Cl
theorem ArR.lt (A : ArR Z h a Cl vs) : a < h.size := by obtain ⟨_, A, -⟩ := A; exact A.lt
theorem ArR.ext (A : ArR Z h a Cl vs) (E : Ext h h') : ArR Z h' a Cl vs := by obtain ⟨cl, A, q⟩ := A; exact ⟨cl, A.ext E, q⟩
theorem ArR.keep (A : ArR Z h a Cl vs) (K : Keep h h' ws) (q : a ∉ ws) : ArR Z h' a Cl vs := by obtain ⟨cl, A, r⟩ := A; exact ⟨cl, ⟨K.2.1 a cl A.1 q, A.2⟩, r⟩
theorem ArR.other (A : ArR Z h a Cl vs) (W : Wr h h' b sl w) (q : a ≠ b) : ArR Z h' a Cl vs := by obtain ⟨cl, A, r⟩ := A; exact ⟨cl, A.other W q, r⟩
theorem ArR.set (A : ArR Z h a Cl vs) (W : Wr h h' a sl w) : ArR Z h' a Cl (vs.set sl w) := by
  obtain ⟨cl, A, r, q⟩ := A; exact ⟨_, A.same W, set_slots r _ _, q⟩
theorem ArR.new {cA : ClassId} {z : Int32} (A : Arr Z h a (newA cA (.object Cl) z) (.object Cl)) (O : Ovr Z cA Cl) : ArR Z h a Cl (List.replicate z.toNatClampNeg .null) := ⟨_, A, by simp [newA, defaultValue], O⟩
theorem ArR.sto (A : ArR Z h a Cl vs) {y : Addr} (E : Exa Z h y Cl) : Sto Z h a (.ref y) := by
  obtain ⟨cl, A, -, q⟩ := A; exact Sto.ofV A rfl q (Ins.self E)
theorem Keep.app (K : Keep h h' ws) {h2 : Heap} {ws2 ws3 : List Addr} (K' : Keep h' h2 ws2) (q1 : ∀ x ∈ ws, x ∈ ws3 ∨ h.size ≤ x) (q : ∀ x ∈ ws2, x ∈ ws3 ∨ h.size ≤ x) : Keep h h2 ws3 := by
  refine Keep.trans (ws := ws3) ⟨K.1, fun x c r z => ?_, K.2.2⟩ K' q
  refine K.2.1 x c r fun y => ?_
  rcases q1 x y with u | u
  · exact z u
  · exact absurd (Array.getElem?_eq_some_iff.mp r).1 (Nat.not_lt.mpr u)
end Facts
section Rules2
variable {p : Program} {l : Launch} {e : Env} {R : Room} {s : State} {m : MethodId} {args : Array Value} {below : List Frame} {meth : Method} {c : Code} {n0 cM sM : Nat} {Q : Option Value → Heap → Prop} {h : Heap} {cells slots : Nat}
variable {Z : State} {own nm : String} {bytes : ByteArray} {ml : Nat} {rt : Option FieldType} {a0 : Array Value}
theorem wA_iaload (C : Cx p s m meth c Z own bytes ml rt nm) {pc pc' : Nat} {Ls : Array Slot} {st : List Value} {a : Addr} {vs : List Value} {j : Int32} {v : Value} (hd : decode bytes pc = .ok (.iaload, 1)) (hp : pc + 1 = pc') (A : Ar Z h a .int vs) (hj : ¬ j < 0) (hv : vs[j.toNatClampNeg]? = some v)
    (K : Wp p l e R s m args below meth c n0 cM sM Q h cells slots (mkF m pc' Ls (v :: st))) : Wp p l e R s m args below meth c n0 cM sM Q h cells slots (mkF m pc Ls (.int j :: .ref a :: st)) := by
  obtain ⟨cl, A, r⟩ := A
  exact w_iaload C hd hp A (Ar.nin r hj (List.getElem?_eq_some_iff.mp hv).1) (Ar.at r hv) K
theorem wA_laload (C : Cx p s m meth c Z own bytes ml rt nm) {pc pc' : Nat} {Ls : Array Slot} {st : List Value} {a : Addr} {vs : List Value} {j : Int32} {v : Value} (hd : decode bytes pc = .ok (.laload, 1)) (hp : pc + 1 = pc') (A : Ar Z h a .long vs) (hj : ¬ j < 0) (hv : vs[j.toNatClampNeg]? = some v)
    (K : Wp p l e R s m args below meth c n0 cM sM Q h cells slots (mkF m pc' Ls (v :: st))) : Wp p l e R s m args below meth c n0 cM sM Q h cells slots (mkF m pc Ls (.int j :: .ref a :: st)) := by
  obtain ⟨cl, A, r⟩ := A
  exact w_laload C hd hp A (Ar.nin r hj (List.getElem?_eq_some_iff.mp hv).1) (Ar.at r hv) K
theorem wA_caload (C : Cx p s m meth c Z own bytes ml rt nm) {pc pc' : Nat} {Ls : Array Slot} {st : List Value} {a : Addr} {vs : List Value} {j : Int32} {v : Value} (hd : decode bytes pc = .ok (.caload, 1)) (hp : pc + 1 = pc') (A : Ar Z h a .char vs) (hj : ¬ j < 0) (hv : vs[j.toNatClampNeg]? = some v)
    (K : Wp p l e R s m args below meth c n0 cM sM Q h cells slots (mkF m pc' Ls (v :: st))) : Wp p l e R s m args below meth c n0 cM sM Q h cells slots (mkF m pc Ls (.int j :: .ref a :: st)) := by
  obtain ⟨cl, A, r⟩ := A
  exact w_caload C hd hp A (Ar.nin r hj (List.getElem?_eq_some_iff.mp hv).1) (Ar.at r hv) K
theorem wA_baload (C : Cx p s m meth c Z own bytes ml rt nm) {pc pc' : Nat} {Ls : Array Slot} {st : List Value} {a : Addr} {vs : List Value} {j : Int32} {v : Value} (hd : decode bytes pc = .ok (.baload, 1)) (hp : pc + 1 = pc') (A : Ar Z h a .byte vs) (hj : ¬ j < 0) (hv : vs[j.toNatClampNeg]? = some v)
    (K : Wp p l e R s m args below meth c n0 cM sM Q h cells slots (mkF m pc' Ls (v :: st))) : Wp p l e R s m args below meth c n0 cM sM Q h cells slots (mkF m pc Ls (.int j :: .ref a :: st)) := by
  obtain ⟨cl, A, r⟩ := A
  exact w_baload C hd hp A (Ar.nin r hj (List.getElem?_eq_some_iff.mp hv).1) (Ar.at r hv) K
theorem wA_aaload (C : Cx p s m meth c Z own bytes ml rt nm) {pc pc' : Nat} {Ls : Array Slot} {st : List Value} {a : Addr} {Cl : String} {vs : List Value} {j : Int32} {v : Value} (hd : decode bytes pc = .ok (.aaload, 1)) (hp : pc + 1 = pc') (A : ArR Z h a Cl vs) (hj : ¬ j < 0) (hv : vs[j.toNatClampNeg]? = some v)
    (K : Wp p l e R s m args below meth c n0 cM sM Q h cells slots (mkF m pc' Ls (v :: st))) : Wp p l e R s m args below meth c n0 cM sM Q h cells slots (mkF m pc Ls (.int j :: .ref a :: st)) := by
  obtain ⟨cl, A, r, -⟩ := A
  exact w_aaload C hd hp A rfl (Ar.nin r hj (List.getElem?_eq_some_iff.mp hv).1) (Ar.at r hv) K
theorem wA_iastore (C : Cx p s m meth c Z own bytes ml rt nm) {pc pc' : Nat} {Ls : Array Slot} {st : List Value} {a : Addr} {vs : List Value} {j : Int32} {x : Int32} (hd : decode bytes pc = .ok (.iastore, 1)) (hp : pc + 1 = pc') (g0 : n0 ≤ a) (A : Ar Z h a .int vs) (hj : ¬ j < 0) (hl : j.toNatClampNeg < vs.length)
    (K : ∀ h', Wr h h' a j.toNatClampNeg (.int x) → Ar Z h' a .int (vs.set j.toNatClampNeg (.int x)) → Wp p l e R s m args below meth c n0 cM sM Q h' cells slots (mkF m pc' Ls st)) : Wp p l e R s m args below meth c n0 cM sM Q h cells slots (mkF m pc Ls (.int x :: .int j :: .ref a :: st)) := by
  have A' := A
  obtain ⟨cl, A, r⟩ := A
  exact w_iastore C hd hp g0 A (Ar.nin r hj hl) (fun h' W => K h' W (A'.set W))
theorem wA_lastore (C : Cx p s m meth c Z own bytes ml rt nm) {pc pc' : Nat} {Ls : Array Slot} {st : List Value} {a : Addr} {vs : List Value} {j : Int32} {x : Int64} (hd : decode bytes pc = .ok (.lastore, 1)) (hp : pc + 1 = pc') (g0 : n0 ≤ a) (A : Ar Z h a .long vs) (hj : ¬ j < 0) (hl : j.toNatClampNeg < vs.length)
    (K : ∀ h', Wr h h' a j.toNatClampNeg (.long x) → Ar Z h' a .long (vs.set j.toNatClampNeg (.long x)) → Wp p l e R s m args below meth c n0 cM sM Q h' cells slots (mkF m pc' Ls st)) : Wp p l e R s m args below meth c n0 cM sM Q h cells slots (mkF m pc Ls (.long x :: .int j :: .ref a :: st)) := by
  have A' := A
  obtain ⟨cl, A, r⟩ := A
  exact w_lastore C hd hp g0 A (Ar.nin r hj hl) (fun h' W => K h' W (A'.set W))
theorem wA_castore (C : Cx p s m meth c Z own bytes ml rt nm) {pc pc' : Nat} {Ls : Array Slot} {st : List Value} {a : Addr} {vs : List Value} {j : Int32} {x : Int32} (hd : decode bytes pc = .ok (.castore, 1)) (hp : pc + 1 = pc') (g0 : n0 ≤ a) (A : Ar Z h a .char vs) (hj : ¬ j < 0) (hl : j.toNatClampNeg < vs.length)
    (K : ∀ h', Wr h h' a j.toNatClampNeg (.int (toCh x)) → Ar Z h' a .char (vs.set j.toNatClampNeg (.int (toCh x))) → Wp p l e R s m args below meth c n0 cM sM Q h' cells slots (mkF m pc' Ls st)) : Wp p l e R s m args below meth c n0 cM sM Q h cells slots (mkF m pc Ls (.int x :: .int j :: .ref a :: st)) := by
  have A' := A
  obtain ⟨cl, A, r⟩ := A
  exact w_castore C hd hp g0 A (Ar.nin r hj hl) (fun h' W => K h' W (A'.set W))
theorem wA_aastore (C : Cx p s m meth c Z own bytes ml rt nm) {pc pc' : Nat} {Ls : Array Slot} {st : List Value} {a : Addr} {Cl : String} {vs : List Value} {j : Int32} {v : Value} (hd : decode bytes pc = .ok (.aastore, 1)) (hp : pc + 1 = pc') (g0 : n0 ≤ a) (A : ArR Z h a Cl vs) (hj : ¬ j < 0) (hl : j.toNatClampNeg < vs.length) (F : Sto Z h a v)
    (K : ∀ h', Wr h h' a j.toNatClampNeg v → ArR Z h' a Cl (vs.set j.toNatClampNeg v) → Wp p l e R s m args below meth c n0 cM sM Q h' cells slots (mkF m pc' Ls st)) : Wp p l e R s m args below meth c n0 cM sM Q h cells slots (mkF m pc Ls (v :: .int j :: .ref a :: st)) := by
  have A' := A
  obtain ⟨cl, A, r, -⟩ := A
  exact w_aastore C hd hp g0 A (Ar.nin r hj hl) rfl F (fun h' W => K h' W (A'.set W))
theorem wA_alen (C : Cx p s m meth c Z own bytes ml rt nm) {pc pc' : Nat} {Ls : Array Slot} {st : List Value} {a : Addr} {ty : FieldType} {vs : List Value} {n : Int32} (hd : decode bytes pc = .ok (.arraylength, 1)) (hp : pc + 1 = pc') (A : Ar Z h a ty vs) (hn : vs.length.toInt32 = n)
    (K : Wp p l e R s m args below meth c n0 cM sM Q h cells slots (mkF m pc' Ls (.int n :: st))) : Wp p l e R s m args below meth c n0 cM sM Q h cells slots (mkF m pc Ls (.ref a :: st)) := by
  obtain ⟨cl, A, r⟩ := A
  exact w_alen C hd hp A (by rw [r]; simpa using hn) K
theorem wA_alenR (C : Cx p s m meth c Z own bytes ml rt nm) {pc pc' : Nat} {Ls : Array Slot} {st : List Value} {a : Addr} {Cl : String} {vs : List Value} {n : Int32} (hd : decode bytes pc = .ok (.arraylength, 1)) (hp : pc + 1 = pc') (A : ArR Z h a Cl vs) (hn : vs.length.toInt32 = n)
    (K : Wp p l e R s m args below meth c n0 cM sM Q h cells slots (mkF m pc' Ls (.int n :: st))) : Wp p l e R s m args below meth c n0 cM sM Q h cells slots (mkF m pc Ls (.ref a :: st)) := by
  obtain ⟨cl, A, r, -⟩ := A
  exact w_alen C hd hp A (by rw [r]; simpa using hn) K
theorem wA_newP (C : Cx p s m meth c Z own bytes ml rt nm) {pc pc' ce' sl' : Nat} {Ls : Array Slot} {st : List Value} {aty : ArrayType} {n : Int32} {cap : Nat} (w : (Jvm.Cond.arrayClass (newarray.typeOf aty)).before a0 Z = true) (hd : decode bytes pc = .ok (.newarray aty, 2)) (hp : pc + 2 = pc') (hn : ¬ n < 0) (hcap : n.toNatClampNeg ≤ cap) (hbig : cap * 8 ≤ 536870912) (hc1 : cells + 1 = ce') (hl1 : slots + cap = sl') (hc : ce' ≤ R.cells) (hl : sl' ≤ R.slots)
    (K : ∀ h' a, a = h.size → Ext h h' → Ar Z h' a (newarray.typeOf aty) (List.replicate n.toNatClampNeg (defaultValue (newarray.typeOf aty))) → Wp p l e R s m args below meth c n0 cM sM Q h' ce' sl' (mkF m pc' Ls (.ref a :: st))) : Wp p l e R s m args below meth c n0 cM sM Q h cells slots (mkF m pc Ls (.int n :: st)) :=
  w_newP C w hd hp hn hcap hbig hc1 hl1 hc hl (fun h' a cA e E A => K h' a e E (Ar.new A))
theorem wA_newR (C : Cx p s m meth c Z own bytes ml rt nm) {pc pc' ce' sl' : Nat} {Ls : Array Slot} {st : List Value} {Cl : String} {i : Nat} {n : Int32} {cap : Nat} (w1 : (Jvm.Cond.classLink own i Cl).before a0 Z = true) (w2 : (Jvm.Cond.arrayOver (.object Cl)).before a0 Z = true) (hd : decode bytes pc = .ok (.anewarray i, 3)) (hp : pc + 3 = pc') (hn : ¬ n < 0) (hcap : n.toNatClampNeg ≤ cap) (hbig : cap * 8 ≤ 536870912) (hc1 : cells + 1 = ce') (hl1 : slots + cap = sl') (hc : ce' ≤ R.cells) (hl : sl' ≤ R.slots)
    (K : ∀ h' a, a = h.size → Ext h h' → ArR Z h' a Cl (List.replicate n.toNatClampNeg .null) → Wp p l e R s m args below meth c n0 cM sM Q h' ce' sl' (mkF m pc' Ls (.ref a :: st))) : Wp p l e R s m args below meth c n0 cM sM Q h cells slots (mkF m pc Ls (.int n :: st)) :=
  w_newR C w1 w2 hd hp hn hcap hbig hc1 hl1 hc hl (fun h' a cA e E A O => K h' a e E (ArR.new A O))
end Rules2
theorem cmpJ_gt (x y : Int64) : (0 < cmpJ x y) = (y < x) := propext (lw_gt x y)
theorem cmpJ_lt (x y : Int64) : (cmpJ x y < 0) = (x < y) := propext (lw_lt x y)
theorem cmpJ_eq (x y : Int64) : (cmpJ x y = 0) = (x = y) := propext (lw_eq x y)
theorem toCh_rng (x : Int32) : 0 ≤ (toCh x).toInt ∧ (toCh x).toInt < 65536 := ⟨(c_i2c x).2.1, (c_i2c x).2.2⟩
theorem toCh_mod (x : Int32) : ((toCh x).toInt - x.toInt) % 65536 = 0 := (c_i2c x).1
theorem toCh_id {x : Int32} (h0 : 0 ≤ x.toInt) (h1 : x.toInt < 65536) : toCh x = x := by
  apply Int32.toInt_inj.mp
  have := toCh_rng x; have := toCh_mod x
  omega
/-- an int in 0 .. n-1 is one of the n numbers -/
theorem small_int {n : Nat} {x : Int32} (h0 : 0 ≤ x.toInt) (h1 : x.toInt < n) : ∃ k : Fin n, x = Int32.ofInt (k.1 : Int) := by
  refine ⟨⟨x.toInt.toNat, by omega⟩, ?_⟩
  show x = Int32.ofInt ((x.toInt.toNat : Nat) : Int)
  rw [Int.toNat_of_nonneg h0, Int32.ofInt_toInt]
end Jvm.Own
namespace Jvm.Pilot.@@N@@
open Jvm Jvm.ClassFile Sem Op Lib Jvm.Free Jvm.Stand Jvm.LawKit Jvm.RoadKit Jvm.Own Bundle Jvm.Pilot.@@N@@.Jvm.D
theorem tw {tabs : List Jvm.Cond} {a0 : Array Value} {Z : State} (hw : ∀ d ∈ tabs, d.before a0 Z = true) (i : Nat) {d : Jvm.Cond} (h : tabs[i]? = some d) : d.before a0 Z = true := hw _ (List.mem_of_getElem? h)
theorem pd_0 : parseMethodDescriptor "(I)V" = some ⟨[.int], none⟩ := by decide +kernel
theorem d1_0 : decode prog_43_method_6_code 0 = .ok (.iload_n 0, 1) := by decide +kernel
theorem d1_1 : decode prog_43_method_6_code 1 = .ok (.sipush 256, 3) := by decide +kernel
theorem d1_4 : decode prog_43_method_6_code 4 = .ok (.if_icmp .le 13, 3) := by decide +kernel
theorem d1_17 : decode prog_43_method_6_code 17 = .ok (.return_, 1) := by decide +kernel
def rm_checkDepth : Room := { frames := 0, cells := 0, slots := 0, locals := 0 }
def Q_checkDepth (x0 : Int32) (h0 : Heap) (v : Option Value) (h : Heap) : Prop := v = none ∧ h = h0
theorem pf_checkDepth : plainFor (⟨"com/example/headtail/headtail/type/TupleType", "checkDepth", "(I)V"⟩ : MethodName) = true := plainFor_of_name (by first | (simp [plainName, overriddenIn]; done) | decide +kernel)
set_option maxRecDepth 65536 in
set_option maxHeartbeats 40000000 in
theorem ct_checkDepth {l : Launch} {Z : State} {a0 : Array Value} (hw : ∀ d ∈ tables_1, d.before a0 Z = true) (h0 : Heap) (n0 : Nat) (x0 : Int32) (hx : ¬ (256 : Int32) < x0) :
    Ct l Z (⟨"com/example/headtail/headtail/type/TupleType", "checkDepth", "(I)V"⟩ : MethodName) prog_43_method_6_code 1 (Option.none : Option Jvm.ClassFile.FieldType) [] rm_checkDepth #[.int x0] h0 n0 (Q_checkDepth x0 h0) := by
  refine Ct.of (Ls := #[.val (.int x0)]) pf_checkDepth (fun m => by first | (simp [entryFrame, mkF, argsToLocals, Value.category, maxLocals]; done) | rfl) ?_
  intro p e s m below meth c C
  refine w_iloadN (pc' := 1) C d1_0 rfl rfl ?_
  refine w_sipush (pc' := 4) (x := (256 : Int32)) C d1_1 rfl rfl ?_
  refine w_icmp_le (pcT := 17) (pcF := 7) C d1_4 (by decide) (by decide) rfl (fun q4 => ?_) (fun q4 => ?_)
  · skip
    refine w_ret0 C rfl d1_17 (by decide) (by decide) ?_
    exact And.intro rfl rfl
  · skip
    exact absurd q4 hx
theorem own_low (x : Int32) : ¬ (256 : Int32) < ((256 : Int32) - (x &&& (255 : Int32))) := by
  have h1 := c_mask x 255 8 (by decide) (by decide)
  have h2 := c_isub 256 (x &&& 255)
  have h3 := rng32 ((256 : Int32) - (x &&& (255 : Int32)))
  have h4 : (256 : Int32).toInt = 256 := by decide
  rw [Int32.lt_iff_toInt_lt]
  omega
def law (x0 : Int32) : Int32 := (if (256 : Int32) < x0 then (1 : Int32) else (1 : Int32))
def Q_law (x0 : Int32) (h0 : Heap) (v : Option Value) (h : Heap) : Prop := v = some (.int (law x0)) ∧ h = h0
theorem pf_law : plainFor (⟨"com/example/headtail/headtail/type/TupleTypeCheckDepthPinLaw", "law", "(I)Z"⟩ : MethodName) = true := plainFor_of_name (by first | (simp [plainName, overriddenIn]; done) | decide +kernel)
set_option maxRecDepth 65536 in
set_option maxHeartbeats 40000000 in
theorem ct_law {l : Launch} {Z : State} {a0 : Array Value} (hw : ∀ d ∈ tables_1, d.before a0 Z = true) (ws : List Jvm.Cond) (h0 : Heap) (n0 : Nat) (x0 : Int32)  :
    Ct l Z x code maxLocals ret ws room_1 #[.int x0] h0 n0 (Q_law x0 h0) := by
  refine Ct.of (Ls := #[.val (.int x0), .unset, .unset]) pf_law (fun m => by first | (simp [entryFrame, mkF, argsToLocals, Value.category, maxLocals]; done) | rfl) ?_
  intro p e s m below meth c C
  have hr : law x0 = (if (256 : Int32) < x0 then (1 : Int32) else (1 : Int32)) := rfl
  refine w_sipush (pc' := 3) (x := (256 : Int32)) C at_0 rfl rfl ?_
  refine w_istoreN (pc' := 4) (Ls' := #[.val (.int x0), .val (.int (256 : Int32)), .unset]) C at_3 rfl rfl ?_
  refine w_iloadN (pc' := 5) C at_4 rfl rfl ?_
  refine w_iloadN (pc' := 6) C at_5 rfl rfl ?_
  refine w_icmp_gt (pcT := 13) (pcF := 9) C at_6 (by decide) (by decide) rfl (fun q6 => ?_) (fun q6 => ?_)
  · have hr := hr.trans (if_pos q6)
    refine w_iloadN (pc' := 14) C at_13 rfl rfl ?_
    refine w_iloadN (pc' := 15) C at_14 rfl rfl ?_
    refine w_sipush (pc' := 18) (x := (255 : Int32)) C at_15 rfl rfl ?_
    refine w_iand (pc' := 19) C at_18 rfl ?_
    refine w_isub (pc' := 20) C at_19 rfl ?_
    refine w_istoreN (pc' := 21) (Ls' := #[.val (.int x0), .val (.int (256 : Int32)), .val (.int ((256 : Int32) - (x0 &&& (255 : Int32))))]) C at_20 rfl rfl ?_
    refine w_iloadN (pc' := 22) C at_21 rfl rfl ?_
    refine w_callS (pc' := 25) (argsL := [.int ((256 : Int32) - (x0 &&& (255 : Int32)))]) (st := []) (W := 0) (ce' := 0) (sl' := 0) C (tw hw 0 rfl) (tw hw 1 rfl) (tw hw 2 rfl) (tw hw 3 rfl) (by decide) at_22 rfl rfl (by decide) (by decide) (Nat.le_of_eq rfl) rfl rfl (by decide) (by decide) rfl (lenOf pd_0 rfl) (ct_checkDepth hw h0 n0 ((256 : Int32) - (x0 &&& (255 : Int32))) (own_low _)) (kv ?_)
    refine w_iloadN (pc' := 26) C at_25 rfl rfl ?_
    refine w_callS (pc' := 29) (argsL := [.int (256 : Int32)]) (st := []) (W := 0) (ce' := 0) (sl' := 0) C (tw hw 0 rfl) (tw hw 1 rfl) (tw hw 2 rfl) (tw hw 3 rfl) (by decide) at_26 rfl rfl (by decide) (by decide) (Nat.le_of_eq rfl) rfl rfl (by decide) (by decide) rfl (lenOf pd_0 rfl) (ct_checkDepth hw h0 n0 (256 : Int32) (by decide)) (kv ?_)
    refine w_iconst (pc' := 30) (x := (1 : Int32)) C at_29 rfl rfl ?_
    refine w_retN' (t := .boolean) (z' := (1 : Int32)) C rfl (by simp) at_30 (by decide) (by decide) narB1 ?_
    exact And.intro (congrArg (fun z => some (Value.int z)) hr.symm) rfl
  · have hr := hr.trans (if_neg q6)
    refine w_iloadN (pc' := 10) C at_9 rfl rfl ?_
    refine w_goto (pc' := 20) C at_10 (by decide) (by decide) ?_
    refine w_istoreN (pc' := 21) (Ls' := #[.val (.int x0), .val (.int (256 : Int32)), .val (.int x0)]) C at_20 rfl rfl ?_
    refine w_iloadN (pc' := 22) C at_21 rfl rfl ?_
    refine w_callS (pc' := 25) (argsL := [.int x0]) (st := []) (W := 0) (ce' := 0) (sl' := 0) C (tw hw 0 rfl) (tw hw 1 rfl) (tw hw 2 rfl) (tw hw 3 rfl) (by decide) at_22 rfl rfl (by decide) (by decide) (Nat.le_of_eq rfl) rfl rfl (by decide) (by decide) rfl (lenOf pd_0 rfl) (ct_checkDepth hw h0 n0 x0 (by assumption)) (kv ?_)
    refine w_iloadN (pc' := 26) C at_25 rfl rfl ?_
    refine w_callS (pc' := 29) (argsL := [.int (256 : Int32)]) (st := []) (W := 0) (ce' := 0) (sl' := 0) C (tw hw 0 rfl) (tw hw 1 rfl) (tw hw 2 rfl) (tw hw 3 rfl) (by decide) at_26 rfl rfl (by decide) (by decide) (Nat.le_of_eq rfl) rfl rfl (by decide) (by decide) rfl (lenOf pd_0 rfl) (ct_checkDepth hw h0 n0 (256 : Int32) (by decide)) (kv ?_)
    refine w_iconst (pc' := 30) (x := (1 : Int32)) C at_29 rfl rfl ?_
    refine w_retN' (t := .boolean) (z' := (1 : Int32)) C rfl (by simp) at_30 (by decide) (by decide) narB1 ?_
    exact And.intro (congrArg (fun z => some (Value.int z)) hr.symm) rfl
theorem law_one (x0 : Int32) : law x0 = 1 := by
  simp only [law, ite_self]
theorem q_law {x0 : Int32} {h0 h : Heap} {v : Option Value} (q : Q_law x0 h0 v h) : v = some (.int 1) := by
  rw [q.1, law_one]
set_option maxRecDepth 65536 in
set_option maxHeartbeats 40000000 in
theorem comes_1 {Post : Tables → Env → Array Value → State → Outcome → State → Prop} (hpost : ∀ tb e args s v u, (limb_1_1.after args s (.returned v) u = true ∧ limb_1_2.after args s (.returned v) u = true ∧ True) → FrameEnd s (.returned v) u (Jvm.fieldLocs frame_1_writes args s ++ Jvm.arrayLocs frame_1_arrays args s ++ Jvm.staticLocs frame_1_statics s) 0 0 → Post tb e args s (.returned v) u) :
    ArmFor flags0 classFile x code maxLocals ret World_1 tables_1 room_1 Calls_1 rest_1 Pre_1 Post := by
  intro l hfl _ _ p e ha hc hk s m args below hf hA hF happ hP
  obtain ⟨hcalls, hrest, hpre⟩ := hP
  obtain ⟨-, -, -, hnamed, -, -, -, hat⟩ := (Spec.applies_iff hf).mp happ
  obtain ⟨hg, hn⟩ := and_e (Cond.before_iff.mp (show (Jvm.Cond.and given_1 narrow_1).before args s = true from hpre))
  obtain ⟨h1, hr0⟩ := and_e hg
  obtain ⟨w0, rfl⟩ : ∃ w0 : Value, args = #[w0] := by
    have hs : args.size = 1 := by simpa [Cond.value, given_1] using h1
    obtain ⟨L⟩ := args
    match L, hs with
    | [w0], _ => exact ⟨w0, rfl⟩
  have hw := fun d (hd : d ∈ tables_1) => atoms_spec (ws := Jvm.Cond.code x code maxLocals ret :: tables_1) hat d (List.mem_cons_of_mem _ hd)
  have hi0 := hr0
  obtain ⟨i0, e0⟩ := is_v hi0
  obtain rfl : w0 = (.int i0) := Option.some.inj e0
  obtain ⟨n, o, h1, h2, h3, _, L, rfl, ⟨q, N⟩, hq⟩ := ct_law (l := l) (Z := s) (a0 := _) hw tables_1 s.heap s.heap.size i0 p e ha hc hk s m _ below hf ((Spec.applies_iff_loose hf).mp happ).1 ⟨rfl, State.Warmed39.refl s, rfl⟩ trivial
  have q1 := q_law q
  subst q1
  refine ⟨n, _, h1, h2, h3, hpost _ _ _ _ _ _ ⟨Cond.after_iff.mpr rfl, Cond.after_iff.mpr (eq_i res_at (Term.int_eval (1)) rfl), trivial⟩ ⟨hq.1, hq.2.1, (hq.2.2.sift fun y hy => Or.inr (N y hy)).mono (by decide) (by decide)⟩⟩
theorem main_1_1 : Claimed_1_1 := comes_1 fun _ _ _ _ _ _ h hF => ⟨h.1, hF⟩
theorem main_1_2 : Claimed_1_2 := comes_1 fun _ _ _ _ _ _ h hF => ⟨h.2.1, hF⟩
end Jvm.Pilot.@@N@@
namespace Jvm.Pilot.@@N@@
open Jvm Jvm.ClassFile Sem Op Lib Jvm.Free Jvm.Stand Jvm.Pilot.@@N@@.Jvm.D
/-! MADE BY PROGRAM (witnessworld.py) out of the Statement's table words and the real class files: 11 classes; the members and pool entries that the words name. The judged class is class 1, her method 1. -/
namespace start1
open Jvm.ClassFile
def u (s : String) : CpInfo := .utf8 (stringToUtf16 s)
/-- a pool by its gaps: so many unusable entries, then the entry; so many at the end -/
def gap : Nat → List CpInfo → List CpInfo
  | 0, r => r
  | n + 1, r => .unusable :: gap n r
def poolList (es : List (Nat × CpInfo)) (last : Nat) : List CpInfo := es.foldr (fun e r => gap e.1 (e.2 :: r)) (gap last [])
def pool (es : List (Nat × CpInfo)) (last : Nat) : Array CpInfo := ⟨poolList es last⟩
def fileOf (pool : Array CpInfo) (this : Nat) (attrs : Array Attribute := #[]) (ms : Array MethodInfo := #[]) (fl : Nat := 33) (sup : Nat := 0) (ifs : Array Nat := #[]) (fds : Array FieldInfo := #[]) : ClassFile where
  minorVersion := 0
  majorVersion := 65
  constantPool := pool
  accessFlags := fl
  thisClass := this
  superClass := sup
  interfaces := ifs
  fields := fds
  methods := ms
  attributes := attrs
def plain (name : String) (sup : Option ClassId) : Class where
  name := name
  kind := .ordinary
  loader := none
  accessFlags := 33
  super := sup
  interfaces := #[]
  cf := none
  fields := #[]
  methods := #[]
  instanceTypes := #[]
  staticTypes := #[]
  resolved := #[]
  callSites := []
  init := .initialized
  statics := none
  mirror := none

def pool0 : Array CpInfo := pool [(5, u "<init>"), (0, u "()V"), (1, .class_ 10), (1, u "java/lang/Object")] 113

def k0m0 : Method := { name := "<init>", desc := "()V", sig := { parameters := [], returnType := none }, accessFlags := 1, code := none }
/-- java/lang/Object -/
def k0 : Class := { plain "java/lang/Object" none with
  accessFlags := 33
  interfaces := #[]
  cf := some (fileOf pool0 8 #[] #[{ accessFlags := 1, nameIndex := 5, descriptorIndex := 6, attributes := #[] }] 33 0 #[] #[])
  fields := #[]
  methods := #[k0m0]
  instanceTypes := #[]
  staticTypes := #[]
  resolved := Array.replicate 124 none
  statics := none }

def pool1 : Array CpInfo := pool [(2, .class_ 4), (1, u "java/lang/Object"), (0, u "<init>"), (0, u "()V"), (2, .methodref 10 11), (0, .class_ 12), (0, .nameAndType 13 14), (0, u "com/example/headtail/headtail/type/TupleType"), (0, u "checkDepth"), (0, u "(I)V"), (0, .class_ 16), (0, u "com/example/headtail/headtail/type/TupleTypeCheckDepthPinLaw"), (2, u "law"), (0, u "(I)Z")] 3

def k1m0 : Method := { name := "<init>", desc := "()V", sig := { parameters := [], returnType := none }, accessFlags := 1, code := none }
def k1c1 : Code := { maxStack := 3, maxLocals := 3, code := code, exceptionTable := #[], attributes := #[] }
def k1m1 : Method := { name := "law", desc := "(I)Z", sig := { parameters := [.int], returnType := some .boolean }, accessFlags := 9, code := some k1c1 }
/-- com/example/headtail/headtail/type/TupleTypeCheckDepthPinLaw -/
def k1 : Class := { plain "com/example/headtail/headtail/type/TupleTypeCheckDepthPinLaw" (some 0) with
  accessFlags := 49
  interfaces := #[]
  cf := some (fileOf pool1 15 #[] #[{ accessFlags := 1, nameIndex := 5, descriptorIndex := 6, attributes := #[] }, { accessFlags := 9, nameIndex := 19, descriptorIndex := 20, attributes := #[] }] 49 2 #[] #[])
  fields := #[]
  methods := #[k1m0, k1m1]
  instanceTypes := #[]
  staticTypes := #[]
  resolved := Array.replicate 24 none
  statics := none }

def pool2 : Array CpInfo := pool [(2, .class_ 4), (1, u "java/lang/Object"), (0, u "<init>"), (0, u "()V"), (0, .class_ 8), (0, u "java/lang/Record")] 13

def k2m0 : Method := { name := "<init>", desc := "()V", sig := { parameters := [], returnType := none }, accessFlags := 4, code := none }
/-- java/lang/Record -/
def k2 : Class := { plain "java/lang/Record" (some 0) with
  accessFlags := 1057
  interfaces := #[]
  cf := some (fileOf pool2 7 #[] #[{ accessFlags := 4, nameIndex := 5, descriptorIndex := 6, attributes := #[] }] 1057 2 #[] #[])
  fields := #[]
  methods := #[k2m0]
  instanceTypes := #[]
  staticTypes := #[]
  resolved := Array.replicate 22 none
  statics := none }

def pool3 : Array CpInfo := pool [(11, .class_ 12), (0, u "com/example/headtail/headtail/type/AbiType"), (0, .class_ 14), (0, u "java/lang/Object"), (0, u "MAX_DEPTH"), (0, u "I")] 24

/-- com/example/headtail/headtail/type/AbiType -/
def k3 : Class := { plain "com/example/headtail/headtail/type/AbiType" (some 0) with
  accessFlags := 1537
  interfaces := #[]
  cf := some (fileOf pool3 11 #[] #[] 1537 13 #[] #[{ accessFlags := 25, nameIndex := 15, descriptorIndex := 16, attributes := #[] }])
  fields := #[{ name := "MAX_DEPTH", type := .int, accessFlags := 25, slot := 0, constantValue := 0 }]
  methods := #[]
  instanceTypes := #[]
  staticTypes := #[.int]
  resolved := Array.replicate 41 none
  statics := none }

def pool4 : Array CpInfo := pool [(2, .class_ 4), (1, u "java/lang/Record"), (9, .class_ 16), (1, u "com/example/headtail/headtail/type/TupleType"), (4, u "checkDepth"), (0, u "(I)V"), (2, u "components"), (0, u "Ljava/util/List;"), (42, .class_ 70), (0, u "com/example/headtail/headtail/type/AbiType")] 84

def k4c0 : Code := { maxStack := 3, maxLocals := 1, code := prog_43_method_6_code, exceptionTable := #[], attributes := #[] }
def k4m0 : Method := { name := "checkDepth", desc := "(I)V", sig := { parameters := [.int], returnType := none }, accessFlags := 8, code := some k4c0 }
/-- com/example/headtail/headtail/type/TupleType -/
def k4 : Class := { plain "com/example/headtail/headtail/type/TupleType" (some 2) with
  accessFlags := 49
  interfaces := #[3]
  cf := some (fileOf pool4 14 #[] #[{ accessFlags := 8, nameIndex := 21, descriptorIndex := 22, attributes := #[] }] 49 2 #[69] #[{ accessFlags := 18, nameIndex := 25, descriptorIndex := 26, attributes := #[] }])
  fields := #[{ name := "components", type := (.object "java/util/List"), accessFlags := 18, slot := 0, constantValue := 0 }]
  methods := #[k4m0]
  instanceTypes := #[(.object "java/util/List")]
  staticTypes := #[]
  resolved := Array.replicate 155 none
  statics := none }

def pool5 : Array CpInfo := pool [(1, u "java/lang/Cloneable"), (0, .class_ 1), (0, u "java/lang/Object"), (0, .class_ 3)] 3

/-- java/lang/Cloneable -/
def k5 : Class := { plain "java/lang/Cloneable" (some 0) with
  accessFlags := 1537
  interfaces := #[]
  cf := some (fileOf pool5 2 #[] #[] 1537 4 #[] #[])
  fields := #[]
  methods := #[]
  instanceTypes := #[]
  staticTypes := #[]
  resolved := Array.replicate 8 none
  statics := none }

def pool6 : Array CpInfo := pool [(1, u "java/io/Serializable"), (0, .class_ 1), (0, u "java/lang/Object"), (0, .class_ 3)] 3

/-- java/io/Serializable -/
def k6 : Class := { plain "java/io/Serializable" (some 0) with
  accessFlags := 1537
  interfaces := #[]
  cf := some (fileOf pool6 2 #[] #[] 1537 4 #[] #[])
  fields := #[]
  methods := #[]
  instanceTypes := #[]
  staticTypes := #[]
  resolved := Array.replicate 8 none
  statics := none }

/-- the primitive byte -/
def k7 : Class := { plain "byte" none with kind := .primitive 'B', accessFlags := 0x411 }
/-- [B -/
def k8 : Class := { plain "[B" (some 0) with kind := .array 7 .byte, interfaces := #[5, 6], accessFlags := 1041 }

/-- the primitive int -/
def k9 : Class := { plain "int" none with kind := .primitive 'I', accessFlags := 0x411 }
/-- [I -/
def k10 : Class := { plain "[I" (some 0) with kind := .array 9 .int, interfaces := #[5, 6], accessFlags := 1041 }

def heap : Heap := #[]
def classes : Array Class := #[k0, k1, k2, k3, k4, k5, k6, k7, k8, k9, k10]
def interned : List (Array UInt16 × Addr) := []
def slotsUsed : Nat := 0
def theMethod : MethodId := ⟨1, 1⟩
def args0 : Array Value := #[.int 5]
def aboutOver (below : List Frame) : State where
  vm := { classes := classes, interned := interned.toArray }
  heap := heap
  slotsUsed := slotsUsed
  threads := #[{ frames := .invoking theMethod args0 :: below }]
def below0 : List Frame := [.native { method := ⟨0, 0⟩, args := #[] }]
def about1 : State := aboutOver below0
def p0 : Program := .bare "" "" ""
def e0 : Env := launch0.env 0 0 0
theorem w_frames : about1.frames = Frame.invoking theMethod args0 :: below0 := rfl
set_option maxRecDepth 65536 in
theorem w_args : argsFit about1.vm theMethod args0 = true := by decide +kernel
set_option maxRecDepth 65536 in
theorem w_heap : heapFits about1 = true := by decide +kernel
set_option maxRecDepth 65536 in
theorem w_runnable : about1.curStatus? = some .runnable := by decide +kernel
set_option maxRecDepth 65536 in
theorem w_alone : about1.alone = true := by decide +kernel
set_option maxRecDepth 65536 in
theorem w_named : about1.methodNamed? x = some theMethod := by decide +kernel
set_option maxRecDepth 65536 in
theorem w_hears : about1.hears theMethod below0 = true := by decide +kernel
set_option maxRecDepth 65536 in
theorem w_ripe : about1.ripe theMethod args0 below0 = true := by decide +kernel
theorem w_running : about1.status = .running := rfl
set_option maxRecDepth 65536 in
theorem w_room : about1.hasRoom e0.platform room_1 = true :=
  launch0.hasRoom_least _ room_1 (by decide +kernel) (by decide +kernel) (by decide +kernel) (by decide +kernel) (by decide +kernel) (by decide +kernel)
theorem allAtoms_all (ts : List Jvm.Cond) (a : Array Jvm.Value) (st : Jvm.State) : (allAtoms ts).before a st = ts.all (fun c => c.before a st) := by
  induction ts with
  | nil => rfl
  | cons c t ih =>
    show (Jvm.Cond.and c (allAtoms t)).before a st = _
    rw [Jvm.Cond.before_and, ih, List.all_cons]
def words1 : List Jvm.Cond := Jvm.Cond.code x code maxLocals ret :: tables_1
/-- a 'code' word, met by the world's own term for the bytes: nothing is compared byte by byte -/
theorem code_word {y : MethodName} {bytes : ByteArray} {mx : Nat} {rt : Option FieldType} {a : Array Value} {s : State} {m : MethodId} {meth : Method} {c : Code} (h1 : s.methodNamed? y = some m) (h2 : s.vm.method? m = some meth) (h3 : meth.code = some c) (h4 : c.code = bytes)
    (h5 : (c.maxLocals == mx && c.exceptionTable.isEmpty && decide (c.maxStack ≤ mostOperands) && decide (meth.sig.returnType = rt) && !meth.locks && decide (parseMethodDescriptor y.desc = some meth.sig)) = true) : (Jvm.Cond.code y bytes mx rt).before a s = true := by
  simp only [Bool.and_eq_true, beq_iff_eq, Bool.not_eq_true', decide_eq_true_eq] at h5
  obtain ⟨⟨⟨⟨⟨g1, g2⟩, g3⟩, g4⟩, g5⟩, g6⟩ := h5
  simp [Cond.before, Cond.holds, Cond.value, h1, h2, h3, h4, g1, g2, g3, g4, g5, g6]
def isCode : Jvm.Cond → Bool
  | .code _ _ _ _ => true
  | _ => false
theorem all_split {L : List Jvm.Cond} {P : Jvm.Cond → Bool} (h1 : L.all (fun c => isCode c || P c) = true) (h2 : ∀ c ∈ L.filter isCode, P c = true) : L.all P = true := by
  refine List.all_eq_true.mpr fun c hc => ?_
  have h := List.all_eq_true.mp h1 c hc
  rcases Bool.eq_false_or_eq_true (isCode c) with hi | hi
  · exact h2 c (List.mem_filter.mpr ⟨hc, hi⟩)
  · simpa [hi] using h
set_option maxRecDepth 65536 in
theorem w_c0 : (Jvm.Cond.code x code maxLocals ret).before args0 about1 = true := code_word (m := ⟨1, 1⟩) (meth := k1m1) (c := k1c1) (by decide +kernel) rfl rfl rfl (by decide +kernel)
set_option maxRecDepth 65536 in
theorem w_c1 : (Jvm.Cond.code ({ cls := "com/example/headtail/headtail/type/TupleType", name := "checkDepth", desc := "(I)V" } : Jvm.MethodName) prog_43_method_6_code (1 : Nat) (Option.none : Option Jvm.ClassFile.FieldType)).before args0 about1 = true := code_word (m := ⟨4, 0⟩) (meth := k4m0) (c := k4c0) (by decide +kernel) rfl rfl rfl (by decide +kernel)
def codes1 : List Jvm.Cond := [Jvm.Cond.code x code maxLocals ret, Jvm.Cond.code ({ cls := "com/example/headtail/headtail/type/TupleType", name := "checkDepth", desc := "(I)V" } : Jvm.MethodName) prog_43_method_6_code (1 : Nat) (Option.none : Option Jvm.ClassFile.FieldType)]
set_option maxRecDepth 65536 in
theorem codes_eq : words1.filter isCode = codes1 := rfl
theorem w_codes : ∀ c ∈ words1.filter isCode, c.before args0 about1 = true := by
  rw [codes_eq]
  intro c hc
  simp only [codes1, List.mem_cons, List.not_mem_nil, or_false] at hc
  rcases hc with rfl | rfl
  · exact w_c0
  · exact w_c1
set_option maxRecDepth 65536 in
theorem w_t1 : words1.all (fun c => isCode c || c.before args0 about1) = true := by decide +kernel
theorem w_tables : (allAtoms (Jvm.Cond.code x code maxLocals ret :: tables_1)).before args0 about1 = true := by
  rw [allAtoms_all]
  show words1.all (fun c => c.before args0 about1) = true
  refine all_split ?_ w_codes
  rw [w_t1]
set_option maxRecDepth 65536 in
theorem w_case : (Jvm.Cond.and given_1 narrow_1).before args0 about1 = true := by decide +kernel
theorem w_applies : (headSpec (Jvm.Cond.code x code maxLocals ret :: tables_1) room_1).applies x e0.platform about1 = true :=
  (Spec.applies_iff w_frames).mpr ⟨w_running, w_runnable, w_alone, w_named, w_hears, w_ripe, w_room, w_tables⟩
theorem atStart : AtStart classFile x code maxLocals ret World_1 tables_1 room_1 Calls_1 rest_1 Pre_1 launch0 p0 e0 about1 theMethod args0 below0 :=
  ⟨lists_1, trivial, launch0.admits_env _ _ _, launch0.least_env, fairChoices_fair.cas, fairChoices_fair.clock, w_frames, w_args, w_heap, w_applies, trivial, trivial, w_case⟩
end start1
theorem witness_1 : WitnessClaimed_1 := ⟨start1.p0, start1.e0, start1.about1, start1.theMethod, start1.args0, start1.below0, start1.atStart⟩
end Jvm.Pilot.@@N@@
