import JvmDerived
import JvmDerived.Pilot.@@N@@Statement
import JvmDerived.Pilot.@@N@@Code
set_option linter.unusedVariables false
set_option linter.unusedSimpArgs false
namespace Jvm.Own
open Jvm Sem ClassFile Op Lib Jvm.Stand Jvm.Free Jvm.LawKit Jvm.RoadKit
/-- what is left to run: from any state that stands here with this heap, in this frame, the method comes back, and Q holds of what it returns and of the heap -/
def Wp (p : Program) (l : Launch) (e : Env) (R : Room) (s : State) (m : MethodId) (args : Array Value) (below : List Frame) (meth : Method) (c : Code)
    (n0 cM sM : Nat) (Q : Option Value → Heap → Prop) (h : Heap) (cells slots : Nat) (g : JFrame) : Prop :=
  ∀ (T : State) (locs : List Loc), Stand p l e R s m args below meth c T locs cells slots → T.heap = h → Fr n0 locs →
    ∃ s₂ v L, Steps p.tables e below (T.setTop g) s₂ ∧ s₂.status = .running ∧ Ended s₂ below (.returned v) ∧ (Q v s₂.heap ∧ Fr n0 L) ∧ FrameEnd s (.returned v) s₂ L cM sM
/-- what is known of the method that is walked -/
def Cx (p : Program) (s : State) (m : MethodId) (meth : Method) (c : Code) (Z : State) (own : String) (bytes : ByteArray) (ml : Nat) (rt : Option FieldType) (nm : String) : Prop :=
  p.tables.exec = Jvm.exec ∧ c.code = bytes ∧ Z.Warmed39 s.vm ∧ s.vm.findClass own = some m.cls ∧ c.maxLocals = ml ∧ meth.sig.returnType = rt ∧ meth.name = nm ∧ meth.locks = false
/-- a method's contract: called with these arguments at this heap -/
def Ct (l : Launch) (Z : State) (y : MethodName) (bytes : ByteArray) (maxL : Nat) (ret : Option FieldType) (ws : List Jvm.Cond) (rm : Room) (as' : Array Value) (h : Heap) (n0 : Nat) (Q : Option Value → Heap → Prop) : Prop :=
  MetFree l y (head1 (Jvm.Cond.code y bytes maxL ret :: ws) rm) (fun a U => a = as' ∧ Z.Warmed39 U.vm ∧ U.heap = h) (fun _ _ _ _ _ => True)
    (fun _ U o U' => ∃ v L, o = .returned v ∧ (Q v U'.heap ∧ Fr n0 L) ∧ FrameEnd U o U' L rm.cells rm.slots)
theorem Ct.of {l : Launch} {Z : State} {y : MethodName} {bytes : ByteArray} {maxL : Nat} {ret : Option FieldType} {ws : List Jvm.Cond} {rm : Room} {as' : Array Value} {h : Heap} {n0 : Nat} {Q : Option Value → Heap → Prop} {Ls : Array Slot}
    (hpl : plainFor y = true) (ef : ∀ m, entryFrame m as' maxL = mkF m 0 Ls [])
    (H : ∀ p e s m below meth c, Cx p s m meth c Z y.cls bytes maxL ret y.name → Wp p l e rm s m as' below meth c n0 rm.cells rm.slots Q h 0 0 (mkF m 0 Ls [])) :
    Ct l Z y bytes maxL ret ws rm as' h n0 Q := by
  refine MetFree.of_bodySF hpl hisR ?_
  intro p e s m args below meth c s₁ Bd hml0 hP hK
  obtain ⟨rfl, hZ, hh⟩ := hP
  have C : Cx p s m meth c Z y.cls bytes maxL ret y.name := ⟨Bd.exec, Bd.bytes, hZ, findClass_of_methodNamed Bd.named, hml0, Bd.returns, (name_of_methodNamed Bd.named Bd.method).1, Bd.notSynchronized⟩
  obtain ⟨s₂, v, L, a1, a2, a3, a4, a5⟩ := H p e s m below meth c C s₁ [] (Stand.of_body Bd) (by rw [← hh, Bd.state]; rfl) (Fr.nil n0)
  exact ⟨s₂, .returned v, castTop (ef m) a1, a2, a3, v, L, rfl, a4, a5⟩
theorem Ct.mono {l : Launch} {Z : State} {y : MethodName} {bytes : ByteArray} {maxL : Nat} {ret : Option FieldType} {ws : List Jvm.Cond} {rm : Room} {as' : Array Value} {h : Heap} {n0 : Nat} {Q Q' : Option Value → Heap → Prop}
    (H : Ct l Z y bytes maxL ret ws rm as' h n0 Q) (i : ∀ v h', Q v h' → Q' v h') : Ct l Z y bytes maxL ret ws rm as' h n0 Q' := by
  intro p e ha hc hk s m args below hf happ hP hK
  obtain ⟨n, o, h1, h2, h3, v, L, h4, h5, h6⟩ := H p e ha hc hk s m args below hf happ hP hK
  exact ⟨n, o, h1, h2, h3, v, L, h4, ⟨i _ _ h5.1, h5.2⟩, h6⟩
section Rules
variable {p : Program} {l : Launch} {e : Env} {R : Room} {s : State} {m : MethodId} {args : Array Value} {below : List Frame} {meth : Method} {c : Code} {n0 cM sM : Nat} {Q : Option Value → Heap → Prop} {h : Heap} {cells slots : Nat}
variable {Z : State} {own nm : String} {bytes : ByteArray} {ml : Nat} {rt : Option FieldType} {a0 : Array Value}
theorem Wp.pure {g g' : JFrame} (st : ∀ (T t : State), At T m c below → Steps p.tables e below (T.setTop g') t → Steps p.tables e below (T.setTop g) t) (k : Wp p l e R s m args below meth c n0 cM sM Q h cells slots g') :
    Wp p l e R s m args below meth c n0 cM sM Q h cells slots g := fun T locs X e0 N => by
  obtain ⟨s2, v, L, a, r⟩ := k T locs X e0 N
  exact ⟨s2, v, L, st T s2 X.here a, r⟩
theorem Wp.law {g g' : JFrame} (st : ∀ (T : State) (locs : List Loc), Stand p l e R s m args below meth c T locs cells slots → T.heap = h → ∃ T', Stand p l e R s m args below meth c T' locs cells slots ∧ T'.heap = h ∧ ∀ t, Steps p.tables e below (T'.setTop g') t → Steps p.tables e below (T.setTop g) t)
    (k : Wp p l e R s m args below meth c n0 cM sM Q h cells slots g') : Wp p l e R s m args below meth c n0 cM sM Q h cells slots g := fun T locs X e0 N => by
  obtain ⟨T', X', e', st'⟩ := st T locs X e0
  obtain ⟨s2, v, L, a, r⟩ := k T' locs X' e' N
  exact ⟨s2, v, L, st' s2 a, r⟩
theorem Wp.more {g : JFrame} {cells' slots' : Nat} (hc : cells ≤ cells') (hs : slots ≤ slots') (k : Wp p l e R s m args below meth c n0 cM sM Q h cells' slots' g) : Wp p l e R s m args below meth c n0 cM sM Q h cells slots g :=
  fun T locs X e0 N => k T locs (X.more hc hs) e0 N
theorem Wp.mono {g : JFrame} {Q' : Option Value → Heap → Prop} (i : ∀ v h', Q v h' → Q' v h') (k : Wp p l e R s m args below meth c n0 cM sM Q h cells slots g) : Wp p l e R s m args below meth c n0 cM sM Q' h cells slots g :=
  fun T locs X e0 N => by
    obtain ⟨s2, v, L, a, b, d, q, r⟩ := k T locs X e0 N
    exact ⟨s2, v, L, a, b, d, ⟨i _ _ q.1, q.2⟩, r⟩
theorem Wp.ret {g : JFrame} {v : Option Value} (C : Cx p s m meth c Z own bytes ml rt nm)
    (st : ∀ (T : State) (fs : List Frame) (locs : List Loc), Stand p l e R s m args below meth c T locs cells slots → (∀ (f : JFrame) (acts : List Action), f.method = m → f.locked = none → f.entered = [] → (doReturn e (T.setTop f) acts v).1 = T.setFrames fs) → Steps p.tables e below (T.setTop g) (T.setFrames fs))
    (hv : meth.sig.returnType = none → v = none) (hc : cells ≤ cM) (hs : slots ≤ sM) (q : Q v h) : Wp p l e R s m args below meth c n0 cM sM Q h cells slots g := by
  intro T locs X e0 N
  have hlk : meth.locks = false := C.2.2.2.2.2.2.2
  obtain ⟨fs, hr, hrun, hended, hW, hsame⟩ := X.leave (v := v) hv hlk
  exact ⟨_, v, locs, st T fs locs X hr, hrun, hended, ⟨by subst e0; exact q, N⟩, ⟨_, rfl⟩, hW, hsame.mono hc hs⟩
theorem w_iloadN (C : Cx p s m meth c Z own bytes ml rt nm) {pc pc' : Nat} {Ls : Array Slot} {st : List Value} {k : Fin 4} {x : Int32} (hd : decode bytes pc = .ok (.iload_n k, 1)) (hl : Ls[k.val]? = some (.val (.int x))) (hp : pc + 1 = pc') (K : Wp p l e R s m args below meth c n0 cM sM Q h cells slots (mkF m pc' Ls (.int x :: st))) :
    Wp p l e R s m args below meth c n0 cM sM Q h cells slots (mkF m pc Ls st) := by
  subst hp; exact Wp.pure (fun T t X hr => XS.iloadN X C.1 rfl (hb C.2.1 hd) hl hr) K
theorem w_iload (C : Cx p s m meth c Z own bytes ml rt nm) {pc pc' : Nat} {Ls : Array Slot} {st : List Value} {k : Nat} {x : Int32} (hd : decode bytes pc = .ok (.iload k, 2)) (hl : Ls[k]? = some (.val (.int x))) (hp : pc + 2 = pc') (K : Wp p l e R s m args below meth c n0 cM sM Q h cells slots (mkF m pc' Ls (.int x :: st))) :
    Wp p l e R s m args below meth c n0 cM sM Q h cells slots (mkF m pc Ls st) := by
  subst hp; exact Wp.pure (fun T t X hr => XS.iload X C.1 rfl (hb C.2.1 hd) hl hr) K
theorem w_lloadN (C : Cx p s m meth c Z own bytes ml rt nm) {pc pc' : Nat} {Ls : Array Slot} {st : List Value} {k : Fin 4} {x : Int64} (hd : decode bytes pc = .ok (.lload_n k, 1)) (hl : Ls[k.val]? = some (.val (.long x))) (hp : pc + 1 = pc') (K : Wp p l e R s m args below meth c n0 cM sM Q h cells slots (mkF m pc' Ls (.long x :: st))) :
    Wp p l e R s m args below meth c n0 cM sM Q h cells slots (mkF m pc Ls st) := by
  subst hp; exact Wp.pure (fun T t X hr => XS.lloadN X C.1 rfl (hb C.2.1 hd) hl hr) K
theorem w_lload (C : Cx p s m meth c Z own bytes ml rt nm) {pc pc' : Nat} {Ls : Array Slot} {st : List Value} {k : Nat} {x : Int64} (hd : decode bytes pc = .ok (.lload k, 2)) (hl : Ls[k]? = some (.val (.long x))) (hp : pc + 2 = pc') (K : Wp p l e R s m args below meth c n0 cM sM Q h cells slots (mkF m pc' Ls (.long x :: st))) :
    Wp p l e R s m args below meth c n0 cM sM Q h cells slots (mkF m pc Ls st) := by
  subst hp; exact Wp.pure (fun T t X hr => XS.lload X C.1 rfl (hb C.2.1 hd) hl hr) K
theorem w_aloadN (C : Cx p s m meth c Z own bytes ml rt nm) {pc pc' : Nat} {Ls : Array Slot} {st : List Value} {k : Fin 4} {v : Value} (hd : decode bytes pc = .ok (.aload_n k, 1)) (hl : Ls[k.val]? = some (.val v)) (hv : v.isRef = true) (hp : pc + 1 = pc') (K : Wp p l e R s m args below meth c n0 cM sM Q h cells slots (mkF m pc' Ls (v :: st))) :
    Wp p l e R s m args below meth c n0 cM sM Q h cells slots (mkF m pc Ls st) := by
  subst hp; exact Wp.pure (fun T t X hr => XS.aloadN X C.1 rfl (hb C.2.1 hd) hl hv hr) K
theorem w_aload (C : Cx p s m meth c Z own bytes ml rt nm) {pc pc' : Nat} {Ls : Array Slot} {st : List Value} {k : Nat} {v : Value} (hd : decode bytes pc = .ok (.aload k, 2)) (hl : Ls[k]? = some (.val v)) (hv : v.isRef = true) (hp : pc + 2 = pc') (K : Wp p l e R s m args below meth c n0 cM sM Q h cells slots (mkF m pc' Ls (v :: st))) :
    Wp p l e R s m args below meth c n0 cM sM Q h cells slots (mkF m pc Ls st) := by
  subst hp; exact Wp.pure (fun T t X hr => XS.aload X C.1 rfl (hb C.2.1 hd) hl hv hr) K
theorem w_istoreN (C : Cx p s m meth c Z own bytes ml rt nm) {pc pc' : Nat} {Ls : Array Slot} {st : List Value} {k : Fin 4} {x : Int32} {Ls' : Array Slot} (hd : decode bytes pc = .ok (.istore_n k, 1)) (hl : storeLocals Ls k.val (.int x) = some Ls') (hp : pc + 1 = pc') (K : Wp p l e R s m args below meth c n0 cM sM Q h cells slots (mkF m pc' Ls' st)) :
    Wp p l e R s m args below meth c n0 cM sM Q h cells slots (mkF m pc Ls (.int x :: st)) := by
  subst hp; exact Wp.pure (fun T t X hr => XS.istoreN X C.1 rfl (hb C.2.1 hd) rfl hl hr) K
theorem w_istore (C : Cx p s m meth c Z own bytes ml rt nm) {pc pc' : Nat} {Ls : Array Slot} {st : List Value} {k : Nat} {x : Int32} {Ls' : Array Slot} (hd : decode bytes pc = .ok (.istore k, 2)) (hl : storeLocals Ls k (.int x) = some Ls') (hp : pc + 2 = pc') (K : Wp p l e R s m args below meth c n0 cM sM Q h cells slots (mkF m pc' Ls' st)) :
    Wp p l e R s m args below meth c n0 cM sM Q h cells slots (mkF m pc Ls (.int x :: st)) := by
  subst hp; exact Wp.pure (fun T t X hr => XS.istore X C.1 rfl (hb C.2.1 hd) rfl hl hr) K
theorem w_lstoreN (C : Cx p s m meth c Z own bytes ml rt nm) {pc pc' : Nat} {Ls : Array Slot} {st : List Value} {k : Fin 4} {x : Int64} {Ls' : Array Slot} (hd : decode bytes pc = .ok (.lstore_n k, 1)) (hl : storeLocals Ls k.val (.long x) = some Ls') (hp : pc + 1 = pc') (K : Wp p l e R s m args below meth c n0 cM sM Q h cells slots (mkF m pc' Ls' st)) :
    Wp p l e R s m args below meth c n0 cM sM Q h cells slots (mkF m pc Ls (.long x :: st)) := by
  subst hp; exact Wp.pure (fun T t X hr => XS.lstoreN X C.1 rfl (hb C.2.1 hd) rfl hl hr) K
theorem w_lstore (C : Cx p s m meth c Z own bytes ml rt nm) {pc pc' : Nat} {Ls : Array Slot} {st : List Value} {k : Nat} {x : Int64} {Ls' : Array Slot} (hd : decode bytes pc = .ok (.lstore k, 2)) (hl : storeLocals Ls k (.long x) = some Ls') (hp : pc + 2 = pc') (K : Wp p l e R s m args below meth c n0 cM sM Q h cells slots (mkF m pc' Ls' st)) :
    Wp p l e R s m args below meth c n0 cM sM Q h cells slots (mkF m pc Ls (.long x :: st)) := by
  subst hp; exact Wp.pure (fun T t X hr => XS.lstore X C.1 rfl (hb C.2.1 hd) rfl hl hr) K
theorem w_astoreN (C : Cx p s m meth c Z own bytes ml rt nm) {pc pc' : Nat} {Ls : Array Slot} {st : List Value} {k : Fin 4} {v : Value} {Ls' : Array Slot} (hd : decode bytes pc = .ok (.astore_n k, 1)) (hv : v.isRef = true) (hl : storeLocals Ls k.val v = some Ls') (hp : pc + 1 = pc') (K : Wp p l e R s m args below meth c n0 cM sM Q h cells slots (mkF m pc' Ls' st)) :
    Wp p l e R s m args below meth c n0 cM sM Q h cells slots (mkF m pc Ls (v :: st)) := by
  subst hp; exact Wp.pure (fun T t X hr => XS.astoreN X C.1 rfl (hb C.2.1 hd) rfl hv hl hr) K
theorem w_astore (C : Cx p s m meth c Z own bytes ml rt nm) {pc pc' : Nat} {Ls : Array Slot} {st : List Value} {k : Nat} {v : Value} {Ls' : Array Slot} (hd : decode bytes pc = .ok (.astore k, 2)) (hv : v.isRef = true) (hl : storeLocals Ls k v = some Ls') (hp : pc + 2 = pc') (K : Wp p l e R s m args below meth c n0 cM sM Q h cells slots (mkF m pc' Ls' st)) :
    Wp p l e R s m args below meth c n0 cM sM Q h cells slots (mkF m pc Ls (v :: st)) := by
  subst hp; exact Wp.pure (fun T t X hr => XS.astore X C.1 rfl (hb C.2.1 hd) rfl hv hl hr) K
theorem w_iinc (C : Cx p s m meth c Z own bytes ml rt nm) {pc pc' : Nat} {Ls : Array Slot} {st : List Value} {k : Nat} {cst : Int} {x : Int32} {Ls' : Array Slot} (hd : decode bytes pc = .ok (.iinc k cst, 3)) (hx : Ls[k]? = some (.val (.int x))) (hl : storeLocals Ls k (.int (x + Int32.ofInt cst)) = some Ls') (hp : pc + 3 = pc') (K : Wp p l e R s m args below meth c n0 cM sM Q h cells slots (mkF m pc' Ls' st)) :
    Wp p l e R s m args below meth c n0 cM sM Q h cells slots (mkF m pc Ls st) := by
  subst hp; exact Wp.pure (fun T t X hr => XS.iinc X C.1 rfl (hb C.2.1 hd) hx hl hr) K
theorem w_iconst (C : Cx p s m meth c Z own bytes ml rt nm) {pc pc' : Nat} {Ls : Array Slot} {st : List Value} {i : Int} {x : Int32} (hd : decode bytes pc = .ok (.iconst i, 1)) (hx : Int32.ofInt i = x) (hp : pc + 1 = pc') (K : Wp p l e R s m args below meth c n0 cM sM Q h cells slots (mkF m pc' Ls (.int x :: st))) :
    Wp p l e R s m args below meth c n0 cM sM Q h cells slots (mkF m pc Ls st) := by
  subst hp hx; exact Wp.pure (fun T t X hr => XS.iconst X C.1 rfl (hb C.2.1 hd) hr) K
theorem w_bipush (C : Cx p s m meth c Z own bytes ml rt nm) {pc pc' : Nat} {Ls : Array Slot} {st : List Value} {i : Int} {x : Int32} (hd : decode bytes pc = .ok (.bipush i, 2)) (hx : (Int8.ofInt i).toInt32 = x) (hp : pc + 2 = pc') (K : Wp p l e R s m args below meth c n0 cM sM Q h cells slots (mkF m pc' Ls (.int x :: st))) :
    Wp p l e R s m args below meth c n0 cM sM Q h cells slots (mkF m pc Ls st) := by
  subst hp hx; exact Wp.pure (fun T t X hr => XS.bipush X C.1 rfl (hb C.2.1 hd) hr) K
theorem w_sipush (C : Cx p s m meth c Z own bytes ml rt nm) {pc pc' : Nat} {Ls : Array Slot} {st : List Value} {i : Int} {x : Int32} (hd : decode bytes pc = .ok (.sipush i, 3)) (hx : (Int16.ofInt i).toInt32 = x) (hp : pc + 3 = pc') (K : Wp p l e R s m args below meth c n0 cM sM Q h cells slots (mkF m pc' Ls (.int x :: st))) :
    Wp p l e R s m args below meth c n0 cM sM Q h cells slots (mkF m pc Ls st) := by
  subst hp hx; exact Wp.pure (fun T t X hr => XS.sipush X C.1 rfl (hb C.2.1 hd) hr) K
theorem w_lconst (C : Cx p s m meth c Z own bytes ml rt nm) {pc pc' : Nat} {Ls : Array Slot} {st : List Value} {k : Fin 2} {x : Int64} (hd : decode bytes pc = .ok (.lconst k, 1)) (hx : Int64.ofNat k = x) (hp : pc + 1 = pc') (K : Wp p l e R s m args below meth c n0 cM sM Q h cells slots (mkF m pc' Ls (.long x :: st))) :
    Wp p l e R s m args below meth c n0 cM sM Q h cells slots (mkF m pc Ls st) := by
  subst hp hx; exact Wp.pure (fun T t X hr => XS.lconst X C.1 rfl (hb C.2.1 hd) hr) K
theorem w_aconstNull (C : Cx p s m meth c Z own bytes ml rt nm) {pc pc' : Nat} {Ls : Array Slot} {st : List Value}  (hd : decode bytes pc = .ok (.aconst_null, 1))  (hp : pc + 1 = pc') (K : Wp p l e R s m args below meth c n0 cM sM Q h cells slots (mkF m pc' Ls (.null :: st))) :
    Wp p l e R s m args below meth c n0 cM sM Q h cells slots (mkF m pc Ls st) := by
  subst hp; exact Wp.pure (fun T t X hr => XS.aconstNull X C.1 rfl (hb C.2.1 hd)  hr) K
theorem w_iadd (C : Cx p s m meth c Z own bytes ml rt nm) {pc pc' : Nat} {Ls : Array Slot} {st : List Value} {x y : Int32} (hd : decode bytes pc = .ok (.iadd, 1))  (hp : pc + 1 = pc') (K : Wp p l e R s m args below meth c n0 cM sM Q h cells slots (mkF m pc' Ls (.int (x + y) :: st))) :
    Wp p l e R s m args below meth c n0 cM sM Q h cells slots (mkF m pc Ls (.int y :: .int x :: st)) := by
  subst hp; exact Wp.pure (fun T t X hr => XS.iadd X C.1 rfl (hb C.2.1 hd) rfl hr) K
theorem w_isub (C : Cx p s m meth c Z own bytes ml rt nm) {pc pc' : Nat} {Ls : Array Slot} {st : List Value} {x y : Int32} (hd : decode bytes pc = .ok (.isub, 1))  (hp : pc + 1 = pc') (K : Wp p l e R s m args below meth c n0 cM sM Q h cells slots (mkF m pc' Ls (.int (x - y) :: st))) :
    Wp p l e R s m args below meth c n0 cM sM Q h cells slots (mkF m pc Ls (.int y :: .int x :: st)) := by
  subst hp; exact Wp.pure (fun T t X hr => XS.isub X C.1 rfl (hb C.2.1 hd) rfl hr) K
theorem w_imul (C : Cx p s m meth c Z own bytes ml rt nm) {pc pc' : Nat} {Ls : Array Slot} {st : List Value} {x y : Int32} (hd : decode bytes pc = .ok (.imul, 1))  (hp : pc + 1 = pc') (K : Wp p l e R s m args below meth c n0 cM sM Q h cells slots (mkF m pc' Ls (.int (x * y) :: st))) :
    Wp p l e R s m args below meth c n0 cM sM Q h cells slots (mkF m pc Ls (.int y :: .int x :: st)) := by
  subst hp; exact Wp.pure (fun T t X hr => XS.imul X C.1 rfl (hb C.2.1 hd) rfl hr) K
theorem w_iand (C : Cx p s m meth c Z own bytes ml rt nm) {pc pc' : Nat} {Ls : Array Slot} {st : List Value} {x y : Int32} (hd : decode bytes pc = .ok (.iand, 1))  (hp : pc + 1 = pc') (K : Wp p l e R s m args below meth c n0 cM sM Q h cells slots (mkF m pc' Ls (.int (x &&& y) :: st))) :
    Wp p l e R s m args below meth c n0 cM sM Q h cells slots (mkF m pc Ls (.int y :: .int x :: st)) := by
  subst hp; exact Wp.pure (fun T t X hr => XS.iand X C.1 rfl (hb C.2.1 hd) rfl hr) K
theorem w_ior (C : Cx p s m meth c Z own bytes ml rt nm) {pc pc' : Nat} {Ls : Array Slot} {st : List Value} {x y : Int32} (hd : decode bytes pc = .ok (.ior, 1))  (hp : pc + 1 = pc') (K : Wp p l e R s m args below meth c n0 cM sM Q h cells slots (mkF m pc' Ls (.int (x ||| y) :: st))) :
    Wp p l e R s m args below meth c n0 cM sM Q h cells slots (mkF m pc Ls (.int y :: .int x :: st)) := by
  subst hp; exact Wp.pure (fun T t X hr => XS.ior X C.1 rfl (hb C.2.1 hd) rfl hr) K
theorem w_ixor (C : Cx p s m meth c Z own bytes ml rt nm) {pc pc' : Nat} {Ls : Array Slot} {st : List Value} {x y : Int32} (hd : decode bytes pc = .ok (.ixor, 1))  (hp : pc + 1 = pc') (K : Wp p l e R s m args below meth c n0 cM sM Q h cells slots (mkF m pc' Ls (.int (x ^^^ y) :: st))) :
    Wp p l e R s m args below meth c n0 cM sM Q h cells slots (mkF m pc Ls (.int y :: .int x :: st)) := by
  subst hp; exact Wp.pure (fun T t X hr => XS.ixor X C.1 rfl (hb C.2.1 hd) rfl hr) K
theorem w_ishl (C : Cx p s m meth c Z own bytes ml rt nm) {pc pc' : Nat} {Ls : Array Slot} {st : List Value} {x y : Int32} (hd : decode bytes pc = .ok (.ishl, 1))  (hp : pc + 1 = pc') (K : Wp p l e R s m args below meth c n0 cM sM Q h cells slots (mkF m pc' Ls (.int (x <<< (y &&& 31)) :: st))) :
    Wp p l e R s m args below meth c n0 cM sM Q h cells slots (mkF m pc Ls (.int y :: .int x :: st)) := by
  subst hp; exact Wp.pure (fun T t X hr => XS.ishl X C.1 rfl (hb C.2.1 hd) rfl hr) K
theorem w_ishr (C : Cx p s m meth c Z own bytes ml rt nm) {pc pc' : Nat} {Ls : Array Slot} {st : List Value} {x y : Int32} (hd : decode bytes pc = .ok (.ishr, 1))  (hp : pc + 1 = pc') (K : Wp p l e R s m args below meth c n0 cM sM Q h cells slots (mkF m pc' Ls (.int (x >>> (y &&& 31)) :: st))) :
    Wp p l e R s m args below meth c n0 cM sM Q h cells slots (mkF m pc Ls (.int y :: .int x :: st)) := by
  subst hp; exact Wp.pure (fun T t X hr => XS.ishr X C.1 rfl (hb C.2.1 hd) rfl hr) K
theorem w_iushr (C : Cx p s m meth c Z own bytes ml rt nm) {pc pc' : Nat} {Ls : Array Slot} {st : List Value} {x y : Int32} (hd : decode bytes pc = .ok (.iushr, 1))  (hp : pc + 1 = pc') (K : Wp p l e R s m args below meth c n0 cM sM Q h cells slots (mkF m pc' Ls (.int ((x.toUInt32 >>> (y &&& 31).toUInt32).toInt32) :: st))) :
    Wp p l e R s m args below meth c n0 cM sM Q h cells slots (mkF m pc Ls (.int y :: .int x :: st)) := by
  subst hp; exact Wp.pure (fun T t X hr => XS.iushr X C.1 rfl (hb C.2.1 hd) rfl hr) K
theorem w_ladd (C : Cx p s m meth c Z own bytes ml rt nm) {pc pc' : Nat} {Ls : Array Slot} {st : List Value} {x y : Int64} (hd : decode bytes pc = .ok (.ladd, 1))  (hp : pc + 1 = pc') (K : Wp p l e R s m args below meth c n0 cM sM Q h cells slots (mkF m pc' Ls (.long (x + y) :: st))) :
    Wp p l e R s m args below meth c n0 cM sM Q h cells slots (mkF m pc Ls (.long y :: .long x :: st)) := by
  subst hp; exact Wp.pure (fun T t X hr => XS.ladd X C.1 rfl (hb C.2.1 hd) rfl hr) K
theorem w_lsub (C : Cx p s m meth c Z own bytes ml rt nm) {pc pc' : Nat} {Ls : Array Slot} {st : List Value} {x y : Int64} (hd : decode bytes pc = .ok (.lsub, 1))  (hp : pc + 1 = pc') (K : Wp p l e R s m args below meth c n0 cM sM Q h cells slots (mkF m pc' Ls (.long (x - y) :: st))) :
    Wp p l e R s m args below meth c n0 cM sM Q h cells slots (mkF m pc Ls (.long y :: .long x :: st)) := by
  subst hp; exact Wp.pure (fun T t X hr => XS.lsub X C.1 rfl (hb C.2.1 hd) rfl hr) K
theorem w_lmul (C : Cx p s m meth c Z own bytes ml rt nm) {pc pc' : Nat} {Ls : Array Slot} {st : List Value} {x y : Int64} (hd : decode bytes pc = .ok (.lmul, 1))  (hp : pc + 1 = pc') (K : Wp p l e R s m args below meth c n0 cM sM Q h cells slots (mkF m pc' Ls (.long (x * y) :: st))) :
    Wp p l e R s m args below meth c n0 cM sM Q h cells slots (mkF m pc Ls (.long y :: .long x :: st)) := by
  subst hp; exact Wp.pure (fun T t X hr => XS.lmul X C.1 rfl (hb C.2.1 hd) rfl hr) K
theorem w_land (C : Cx p s m meth c Z own bytes ml rt nm) {pc pc' : Nat} {Ls : Array Slot} {st : List Value} {x y : Int64} (hd : decode bytes pc = .ok (.land, 1))  (hp : pc + 1 = pc') (K : Wp p l e R s m args below meth c n0 cM sM Q h cells slots (mkF m pc' Ls (.long (x &&& y) :: st))) :
    Wp p l e R s m args below meth c n0 cM sM Q h cells slots (mkF m pc Ls (.long y :: .long x :: st)) := by
  subst hp; exact Wp.pure (fun T t X hr => XS.land X C.1 rfl (hb C.2.1 hd) rfl hr) K
theorem w_lor (C : Cx p s m meth c Z own bytes ml rt nm) {pc pc' : Nat} {Ls : Array Slot} {st : List Value} {x y : Int64} (hd : decode bytes pc = .ok (.lor, 1))  (hp : pc + 1 = pc') (K : Wp p l e R s m args below meth c n0 cM sM Q h cells slots (mkF m pc' Ls (.long (x ||| y) :: st))) :
    Wp p l e R s m args below meth c n0 cM sM Q h cells slots (mkF m pc Ls (.long y :: .long x :: st)) := by
  subst hp; exact Wp.pure (fun T t X hr => XS.lor X C.1 rfl (hb C.2.1 hd) rfl hr) K
theorem w_lxor (C : Cx p s m meth c Z own bytes ml rt nm) {pc pc' : Nat} {Ls : Array Slot} {st : List Value} {x y : Int64} (hd : decode bytes pc = .ok (.lxor, 1))  (hp : pc + 1 = pc') (K : Wp p l e R s m args below meth c n0 cM sM Q h cells slots (mkF m pc' Ls (.long (x ^^^ y) :: st))) :
    Wp p l e R s m args below meth c n0 cM sM Q h cells slots (mkF m pc Ls (.long y :: .long x :: st)) := by
  subst hp; exact Wp.pure (fun T t X hr => XS.lxor X C.1 rfl (hb C.2.1 hd) rfl hr) K
theorem w_lshl (C : Cx p s m meth c Z own bytes ml rt nm) {pc pc' : Nat} {Ls : Array Slot} {st : List Value} {x : Int64} {y : Int32} (hd : decode bytes pc = .ok (.lshl, 1))  (hp : pc + 1 = pc') (K : Wp p l e R s m args below meth c n0 cM sM Q h cells slots (mkF m pc' Ls (.long (x <<< (y &&& 0x3f).toInt64) :: st))) :
    Wp p l e R s m args below meth c n0 cM sM Q h cells slots (mkF m pc Ls (.int y :: .long x :: st)) := by
  subst hp; exact Wp.pure (fun T t X hr => XS.lshl X C.1 rfl (hb C.2.1 hd) rfl hr) K
theorem w_lshr (C : Cx p s m meth c Z own bytes ml rt nm) {pc pc' : Nat} {Ls : Array Slot} {st : List Value} {x : Int64} {y : Int32} (hd : decode bytes pc = .ok (.lshr, 1))  (hp : pc + 1 = pc') (K : Wp p l e R s m args below meth c n0 cM sM Q h cells slots (mkF m pc' Ls (.long (x >>> (y &&& 0x3f).toInt64) :: st))) :
    Wp p l e R s m args below meth c n0 cM sM Q h cells slots (mkF m pc Ls (.int y :: .long x :: st)) := by
  subst hp; exact Wp.pure (fun T t X hr => XS.lshr X C.1 rfl (hb C.2.1 hd) rfl hr) K
theorem w_lushr (C : Cx p s m meth c Z own bytes ml rt nm) {pc pc' : Nat} {Ls : Array Slot} {st : List Value} {x : Int64} {y : Int32} (hd : decode bytes pc = .ok (.lushr, 1))  (hp : pc + 1 = pc') (K : Wp p l e R s m args below meth c n0 cM sM Q h cells slots (mkF m pc' Ls (.long ((x.toUInt64 >>> (y &&& 0x3f).toInt64.toUInt64).toInt64) :: st))) :
    Wp p l e R s m args below meth c n0 cM sM Q h cells slots (mkF m pc Ls (.int y :: .long x :: st)) := by
  subst hp; exact Wp.pure (fun T t X hr => XS.lushr X C.1 rfl (hb C.2.1 hd) rfl hr) K
theorem w_idiv (C : Cx p s m meth c Z own bytes ml rt nm) {pc pc' : Nat} {Ls : Array Slot} {st : List Value} {x y : Int32} (hd : decode bytes pc = .ok (.idiv, 1)) (hy : y ≠ 0) (hp : pc + 1 = pc') (K : Wp p l e R s m args below meth c n0 cM sM Q h cells slots (mkF m pc' Ls (.int (x / y) :: st))) :
    Wp p l e R s m args below meth c n0 cM sM Q h cells slots (mkF m pc Ls (.int y :: .int x :: st)) := by
  subst hp; exact Wp.pure (fun T t X hr => XS.idiv X C.1 rfl (hb C.2.1 hd) rfl hy hr) K
theorem w_ldiv (C : Cx p s m meth c Z own bytes ml rt nm) {pc pc' : Nat} {Ls : Array Slot} {st : List Value} {x y : Int64} (hd : decode bytes pc = .ok (.ldiv, 1)) (hy : y ≠ 0) (hp : pc + 1 = pc') (K : Wp p l e R s m args below meth c n0 cM sM Q h cells slots (mkF m pc' Ls (.long (x / y) :: st))) :
    Wp p l e R s m args below meth c n0 cM sM Q h cells slots (mkF m pc Ls (.long y :: .long x :: st)) := by
  subst hp; exact Wp.pure (fun T t X hr => XS.ldiv X C.1 rfl (hb C.2.1 hd) rfl hy hr) K
theorem w_irem (C : Cx p s m meth c Z own bytes ml rt nm) {pc pc' : Nat} {Ls : Array Slot} {st : List Value} {x y : Int32} (hd : decode bytes pc = .ok (.irem, 1)) (hy : y ≠ 0) (hp : pc + 1 = pc') (K : Wp p l e R s m args below meth c n0 cM sM Q h cells slots (mkF m pc' Ls (.int (x % y) :: st))) :
    Wp p l e R s m args below meth c n0 cM sM Q h cells slots (mkF m pc Ls (.int y :: .int x :: st)) := by
  subst hp; exact Wp.pure (fun T t X hr => XS.irem X C.1 rfl (hb C.2.1 hd) rfl hy (by rw [irem_eq_mod x y]; exact hr)) K
theorem w_lrem (C : Cx p s m meth c Z own bytes ml rt nm) {pc pc' : Nat} {Ls : Array Slot} {st : List Value} {x y : Int64} (hd : decode bytes pc = .ok (.lrem, 1)) (hy : y ≠ 0) (hp : pc + 1 = pc') (K : Wp p l e R s m args below meth c n0 cM sM Q h cells slots (mkF m pc' Ls (.long (x % y) :: st))) :
    Wp p l e R s m args below meth c n0 cM sM Q h cells slots (mkF m pc Ls (.long y :: .long x :: st)) := by
  subst hp; exact Wp.pure (fun T t X hr => XS.lrem X C.1 rfl (hb C.2.1 hd) rfl hy (by rw [lrem_mod x y]; exact hr)) K
theorem w_ineg (C : Cx p s m meth c Z own bytes ml rt nm) {pc pc' : Nat} {Ls : Array Slot} {st : List Value} {x : Int32} (hd : decode bytes pc = .ok (.ineg, 1))  (hp : pc + 1 = pc') (K : Wp p l e R s m args below meth c n0 cM sM Q h cells slots (mkF m pc' Ls (.int (-x) :: st))) :
    Wp p l e R s m args below meth c n0 cM sM Q h cells slots (mkF m pc Ls (.int x :: st)) := by
  subst hp; exact Wp.pure (fun T t X hr => XS.ineg X C.1 rfl (hb C.2.1 hd) rfl hr) K
theorem w_lneg (C : Cx p s m meth c Z own bytes ml rt nm) {pc pc' : Nat} {Ls : Array Slot} {st : List Value} {x : Int64} (hd : decode bytes pc = .ok (.lneg, 1))  (hp : pc + 1 = pc') (K : Wp p l e R s m args below meth c n0 cM sM Q h cells slots (mkF m pc' Ls (.long (-x) :: st))) :
    Wp p l e R s m args below meth c n0 cM sM Q h cells slots (mkF m pc Ls (.long x :: st)) := by
  subst hp; exact Wp.pure (fun T t X hr => XS.lneg X C.1 rfl (hb C.2.1 hd) rfl hr) K
theorem w_i2l (C : Cx p s m meth c Z own bytes ml rt nm) {pc pc' : Nat} {Ls : Array Slot} {st : List Value} {x : Int32} (hd : decode bytes pc = .ok (.i2l, 1))  (hp : pc + 1 = pc') (K : Wp p l e R s m args below meth c n0 cM sM Q h cells slots (mkF m pc' Ls (.long x.toInt64 :: st))) :
    Wp p l e R s m args below meth c n0 cM sM Q h cells slots (mkF m pc Ls (.int x :: st)) := by
  subst hp; exact Wp.pure (fun T t X hr => XS.i2l X C.1 rfl (hb C.2.1 hd) rfl hr) K
theorem w_l2i (C : Cx p s m meth c Z own bytes ml rt nm) {pc pc' : Nat} {Ls : Array Slot} {st : List Value} {x : Int64} (hd : decode bytes pc = .ok (.l2i, 1))  (hp : pc + 1 = pc') (K : Wp p l e R s m args below meth c n0 cM sM Q h cells slots (mkF m pc' Ls (.int x.toInt32 :: st))) :
    Wp p l e R s m args below meth c n0 cM sM Q h cells slots (mkF m pc Ls (.long x :: st)) := by
  subst hp; exact Wp.pure (fun T t X hr => XS.l2i X C.1 rfl (hb C.2.1 hd) rfl hr) K
theorem w_i2b (C : Cx p s m meth c Z own bytes ml rt nm) {pc pc' : Nat} {Ls : Array Slot} {st : List Value} {x : Int32} (hd : decode bytes pc = .ok (.i2b, 1))  (hp : pc + 1 = pc') (K : Wp p l e R s m args below meth c n0 cM sM Q h cells slots (mkF m pc' Ls (.int x.toInt8.toInt32 :: st))) :
    Wp p l e R s m args below meth c n0 cM sM Q h cells slots (mkF m pc Ls (.int x :: st)) := by
  subst hp; exact Wp.pure (fun T t X hr => XS.i2b X C.1 rfl (hb C.2.1 hd) rfl hr) K
theorem w_i2s (C : Cx p s m meth c Z own bytes ml rt nm) {pc pc' : Nat} {Ls : Array Slot} {st : List Value} {x : Int32} (hd : decode bytes pc = .ok (.i2s, 1))  (hp : pc + 1 = pc') (K : Wp p l e R s m args below meth c n0 cM sM Q h cells slots (mkF m pc' Ls (.int x.toInt16.toInt32 :: st))) :
    Wp p l e R s m args below meth c n0 cM sM Q h cells slots (mkF m pc Ls (.int x :: st)) := by
  subst hp; exact Wp.pure (fun T t X hr => XS.i2s X C.1 rfl (hb C.2.1 hd) rfl hr) K
/-- i2c -/
def toCh (x : Int32) : Int32 := x.toUInt32.toUInt16.toUInt32.toInt32
theorem w_i2c (C : Cx p s m meth c Z own bytes ml rt nm) {pc pc' : Nat} {Ls : Array Slot} {st : List Value} {x : Int32} (hd : decode bytes pc = .ok (.i2c, 1))  (hp : pc + 1 = pc') (K : Wp p l e R s m args below meth c n0 cM sM Q h cells slots (mkF m pc' Ls (.int (toCh x) :: st))) :
    Wp p l e R s m args below meth c n0 cM sM Q h cells slots (mkF m pc Ls (.int x :: st)) := by
  subst hp; exact Wp.pure (fun T t X hr => XS.i2c X C.1 rfl (hb C.2.1 hd) rfl hr) K
/-- lcmp -/
def cmpJ (x y : Int64) : Int32 := if x > y then 1 else if x = y then 0 else -1
theorem w_lcmp (C : Cx p s m meth c Z own bytes ml rt nm) {pc pc' : Nat} {Ls : Array Slot} {st : List Value} {x y : Int64} (hd : decode bytes pc = .ok (.lcmp, 1))  (hp : pc + 1 = pc') (K : Wp p l e R s m args below meth c n0 cM sM Q h cells slots (mkF m pc' Ls (.int (cmpJ x y) :: st))) :
    Wp p l e R s m args below meth c n0 cM sM Q h cells slots (mkF m pc Ls (.long y :: .long x :: st)) := by
  subst hp; exact Wp.pure (fun T t X hr => XS.lcmp X C.1 rfl (hb C.2.1 hd) rfl hr) K
theorem w_dup (C : Cx p s m meth c Z own bytes ml rt nm) {pc pc' : Nat} {Ls : Array Slot} {st : List Value} {v : Value} (hd : decode bytes pc = .ok (.dup, 1)) (hc : v.category = 1) (hp : pc + 1 = pc') (K : Wp p l e R s m args below meth c n0 cM sM Q h cells slots (mkF m pc' Ls (v :: v :: st))) :
    Wp p l e R s m args below meth c n0 cM sM Q h cells slots (mkF m pc Ls (v :: st)) := by
  subst hp; exact Wp.pure (fun T t X hr => XS.dup X C.1 rfl (hb C.2.1 hd) rfl hc hr) K
theorem w_pop (C : Cx p s m meth c Z own bytes ml rt nm) {pc pc' : Nat} {Ls : Array Slot} {st : List Value} {v : Value} (hd : decode bytes pc = .ok (.pop, 1)) (hc : v.category = 1) (hp : pc + 1 = pc') (K : Wp p l e R s m args below meth c n0 cM sM Q h cells slots (mkF m pc' Ls st)) :
    Wp p l e R s m args below meth c n0 cM sM Q h cells slots (mkF m pc Ls (v :: st)) := by
  subst hp; exact Wp.pure (fun T t X hr => XS.pop X C.1 rfl (hb C.2.1 hd) rfl hc hr) K
theorem w_dupX1 (C : Cx p s m meth c Z own bytes ml rt nm) {pc pc' : Nat} {Ls : Array Slot} {st : List Value} {v w : Value} (hd : decode bytes pc = .ok (.dup_x1, 1)) (hc : v.category = 1) (hc' : w.category = 1) (hp : pc + 1 = pc') (K : Wp p l e R s m args below meth c n0 cM sM Q h cells slots (mkF m pc' Ls (v :: w :: v :: st))) :
    Wp p l e R s m args below meth c n0 cM sM Q h cells slots (mkF m pc Ls (v :: w :: st)) := by
  subst hp; exact Wp.pure (fun T t X hr => XS.dupX1 X C.1 rfl (hb C.2.1 hd) rfl hc hc' hr) K
theorem w_dup2 (C : Cx p s m meth c Z own bytes ml rt nm) {pc pc' : Nat} {Ls : Array Slot} {st : List Value} {v w : Value} (hd : decode bytes pc = .ok (.dup2, 1)) (hc : v.category = 1) (hc' : w.category = 1) (hp : pc + 1 = pc') (K : Wp p l e R s m args below meth c n0 cM sM Q h cells slots (mkF m pc' Ls (v :: w :: v :: w :: st))) :
    Wp p l e R s m args below meth c n0 cM sM Q h cells slots (mkF m pc Ls (v :: w :: st)) := by
  subst hp; exact Wp.pure (fun T t X hr => XT.dup2 X C.1 rfl (hb C.2.1 hd) rfl hc hc' hr) K
theorem w_eqI {pc : Nat} {Ls : Array Slot} {st : List Value} {x z : Int32} (hz : x = z) (K : Wp p l e R s m args below meth c n0 cM sM Q h cells slots (mkF m pc Ls (.int z :: st))) :
    Wp p l e R s m args below meth c n0 cM sM Q h cells slots (mkF m pc Ls (.int x :: st)) := by
  subst hz; exact K
theorem w_eqJ {pc : Nat} {Ls : Array Slot} {st : List Value} {x z : Int64} (hz : x = z) (K : Wp p l e R s m args below meth c n0 cM sM Q h cells slots (mkF m pc Ls (.long z :: st))) :
    Wp p l e R s m args below meth c n0 cM sM Q h cells slots (mkF m pc Ls (.long x :: st)) := by
  subst hz; exact K
theorem w_iincE (C : Cx p s m meth c Z own bytes ml rt nm) {pc pc' : Nat} {Ls Ls' : Array Slot} {st : List Value} {k : Nat} {cst : Int} {x z : Int32} (hd : decode bytes pc = .ok (.iinc k cst, 3)) (hx : Ls[k]? = some (.val (.int x))) (hz : x + Int32.ofInt cst = z) (hl : storeLocals Ls k (.int z) = some Ls') (hp : pc + 3 = pc') (K : Wp p l e R s m args below meth c n0 cM sM Q h cells slots (mkF m pc' Ls' st)) :
    Wp p l e R s m args below meth c n0 cM sM Q h cells slots (mkF m pc Ls st) := by
  subst hz; exact w_iinc C hd hx hl hp K
theorem w_goto (C : Cx p s m meth c Z own bytes ml rt nm) {pc pc' : Nat} {Ls : Array Slot} {st : List Value} {o : Int} (hd : decode bytes pc = .ok (.goto o, 3)) (ho : 0 ≤ (pc : Int) + o) (hp : ((pc : Int) + o).toNat = pc') (K : Wp p l e R s m args below meth c n0 cM sM Q h cells slots (mkF m pc' Ls st)) :
    Wp p l e R s m args below meth c n0 cM sM Q h cells slots (mkF m pc Ls st) :=
  Wp.pure (fun T t X hr => XS.goto X C.1 rfl rfl (hb C.2.1 hd) ho hp hr) K
theorem w_icmp_lt (C : Cx p s m meth c Z own bytes ml rt nm) {pc pcT pcF : Nat} {Ls : Array Slot} {st : List Value} {x y : Int32} {o : Int} (hd : decode bytes pc = .ok (.if_icmp .lt o, 3)) (ho : 0 ≤ (pc : Int) + o) (hT : ((pc : Int) + o).toNat = pcT) (hF : pc + 3 = pcF)
    (KT : x < y → Wp p l e R s m args below meth c n0 cM sM Q h cells slots (mkF m pcT Ls st)) (KF : ¬ x < y → Wp p l e R s m args below meth c n0 cM sM Q h cells slots (mkF m pcF Ls st)) :
    Wp p l e R s m args below meth c n0 cM sM Q h cells slots (mkF m pc Ls (.int y :: .int x :: st)) := by
  subst hF
  by_cases q : x < y
  · exact Wp.pure (fun T t X hr => XS.icmpYes X C.1 rfl rfl (hb C.2.1 hd) rfl (tlt q).1 ho hT hr) (KT q)
  · exact Wp.pure (fun T t X hr => XS.icmpNo X C.1 rfl (hb C.2.1 hd) rfl (flt q).1 hr) (KF q)
theorem w_if_lt (C : Cx p s m meth c Z own bytes ml rt nm) {pc pcT pcF : Nat} {Ls : Array Slot} {st : List Value} {x : Int32} {o : Int} (hd : decode bytes pc = .ok (.ifCond .lt o, 3)) (ho : 0 ≤ (pc : Int) + o) (hT : ((pc : Int) + o).toNat = pcT) (hF : pc + 3 = pcF)
    (KT : x < 0 → Wp p l e R s m args below meth c n0 cM sM Q h cells slots (mkF m pcT Ls st)) (KF : ¬ x < 0 → Wp p l e R s m args below meth c n0 cM sM Q h cells slots (mkF m pcF Ls st)) :
    Wp p l e R s m args below meth c n0 cM sM Q h cells slots (mkF m pc Ls (.int x :: st)) := by
  subst hF
  by_cases q : x < 0
  · exact Wp.pure (fun T t X hr => XS.ifYes X C.1 rfl rfl (hb C.2.1 hd) rfl ((if0 _ _).trans (tlt q).1) ho hT hr) (KT q)
  · exact Wp.pure (fun T t X hr => XS.ifNo X C.1 rfl (hb C.2.1 hd) rfl ((if0 _ _).trans (flt q).1) hr) (KF q)
theorem w_icmp_ge (C : Cx p s m meth c Z own bytes ml rt nm) {pc pcT pcF : Nat} {Ls : Array Slot} {st : List Value} {x y : Int32} {o : Int} (hd : decode bytes pc = .ok (.if_icmp .ge o, 3)) (ho : 0 ≤ (pc : Int) + o) (hT : ((pc : Int) + o).toNat = pcT) (hF : pc + 3 = pcF)
    (KT : ¬ x < y → Wp p l e R s m args below meth c n0 cM sM Q h cells slots (mkF m pcT Ls st)) (KF : x < y → Wp p l e R s m args below meth c n0 cM sM Q h cells slots (mkF m pcF Ls st)) :
    Wp p l e R s m args below meth c n0 cM sM Q h cells slots (mkF m pc Ls (.int y :: .int x :: st)) := by
  subst hF
  by_cases q : ¬ x < y
  · exact Wp.pure (fun T t X hr => XS.icmpYes X C.1 rfl rfl (hb C.2.1 hd) rfl (flt q).2.1 ho hT hr) (KT q)
  · exact Wp.pure (fun T t X hr => XS.icmpNo X C.1 rfl (hb C.2.1 hd) rfl (tlt (Classical.not_not.mp q)).2.1 hr) (KF (Classical.not_not.mp q))
theorem w_if_ge (C : Cx p s m meth c Z own bytes ml rt nm) {pc pcT pcF : Nat} {Ls : Array Slot} {st : List Value} {x : Int32} {o : Int} (hd : decode bytes pc = .ok (.ifCond .ge o, 3)) (ho : 0 ≤ (pc : Int) + o) (hT : ((pc : Int) + o).toNat = pcT) (hF : pc + 3 = pcF)
    (KT : ¬ x < 0 → Wp p l e R s m args below meth c n0 cM sM Q h cells slots (mkF m pcT Ls st)) (KF : x < 0 → Wp p l e R s m args below meth c n0 cM sM Q h cells slots (mkF m pcF Ls st)) :
    Wp p l e R s m args below meth c n0 cM sM Q h cells slots (mkF m pc Ls (.int x :: st)) := by
  subst hF
  by_cases q : ¬ x < 0
  · exact Wp.pure (fun T t X hr => XS.ifYes X C.1 rfl rfl (hb C.2.1 hd) rfl ((if0 _ _).trans (flt q).2.1) ho hT hr) (KT q)
  · exact Wp.pure (fun T t X hr => XS.ifNo X C.1 rfl (hb C.2.1 hd) rfl ((if0 _ _).trans (tlt (Classical.not_not.mp q)).2.1) hr) (KF (Classical.not_not.mp q))
theorem w_icmp_gt (C : Cx p s m meth c Z own bytes ml rt nm) {pc pcT pcF : Nat} {Ls : Array Slot} {st : List Value} {x y : Int32} {o : Int} (hd : decode bytes pc = .ok (.if_icmp .gt o, 3)) (ho : 0 ≤ (pc : Int) + o) (hT : ((pc : Int) + o).toNat = pcT) (hF : pc + 3 = pcF)
    (KT : y < x → Wp p l e R s m args below meth c n0 cM sM Q h cells slots (mkF m pcT Ls st)) (KF : ¬ y < x → Wp p l e R s m args below meth c n0 cM sM Q h cells slots (mkF m pcF Ls st)) :
    Wp p l e R s m args below meth c n0 cM sM Q h cells slots (mkF m pc Ls (.int y :: .int x :: st)) := by
  subst hF
  by_cases q : y < x
  · exact Wp.pure (fun T t X hr => XS.icmpYes X C.1 rfl rfl (hb C.2.1 hd) rfl (tlt q).2.2.1 ho hT hr) (KT q)
  · exact Wp.pure (fun T t X hr => XS.icmpNo X C.1 rfl (hb C.2.1 hd) rfl (flt q).2.2.1 hr) (KF q)
theorem w_if_gt (C : Cx p s m meth c Z own bytes ml rt nm) {pc pcT pcF : Nat} {Ls : Array Slot} {st : List Value} {x : Int32} {o : Int} (hd : decode bytes pc = .ok (.ifCond .gt o, 3)) (ho : 0 ≤ (pc : Int) + o) (hT : ((pc : Int) + o).toNat = pcT) (hF : pc + 3 = pcF)
    (KT : 0 < x → Wp p l e R s m args below meth c n0 cM sM Q h cells slots (mkF m pcT Ls st)) (KF : ¬ 0 < x → Wp p l e R s m args below meth c n0 cM sM Q h cells slots (mkF m pcF Ls st)) :
    Wp p l e R s m args below meth c n0 cM sM Q h cells slots (mkF m pc Ls (.int x :: st)) := by
  subst hF
  by_cases q : 0 < x
  · exact Wp.pure (fun T t X hr => XS.ifYes X C.1 rfl rfl (hb C.2.1 hd) rfl ((if0 _ _).trans (tlt q).2.2.1) ho hT hr) (KT q)
  · exact Wp.pure (fun T t X hr => XS.ifNo X C.1 rfl (hb C.2.1 hd) rfl ((if0 _ _).trans (flt q).2.2.1) hr) (KF q)
theorem w_icmp_le (C : Cx p s m meth c Z own bytes ml rt nm) {pc pcT pcF : Nat} {Ls : Array Slot} {st : List Value} {x y : Int32} {o : Int} (hd : decode bytes pc = .ok (.if_icmp .le o, 3)) (ho : 0 ≤ (pc : Int) + o) (hT : ((pc : Int) + o).toNat = pcT) (hF : pc + 3 = pcF)
    (KT : ¬ y < x → Wp p l e R s m args below meth c n0 cM sM Q h cells slots (mkF m pcT Ls st)) (KF : y < x → Wp p l e R s m args below meth c n0 cM sM Q h cells slots (mkF m pcF Ls st)) :
    Wp p l e R s m args below meth c n0 cM sM Q h cells slots (mkF m pc Ls (.int y :: .int x :: st)) := by
  subst hF
  by_cases q : ¬ y < x
  · exact Wp.pure (fun T t X hr => XS.icmpYes X C.1 rfl rfl (hb C.2.1 hd) rfl (flt q).2.2.2 ho hT hr) (KT q)
  · exact Wp.pure (fun T t X hr => XS.icmpNo X C.1 rfl (hb C.2.1 hd) rfl (tlt (Classical.not_not.mp q)).2.2.2 hr) (KF (Classical.not_not.mp q))
theorem w_if_le (C : Cx p s m meth c Z own bytes ml rt nm) {pc pcT pcF : Nat} {Ls : Array Slot} {st : List Value} {x : Int32} {o : Int} (hd : decode bytes pc = .ok (.ifCond .le o, 3)) (ho : 0 ≤ (pc : Int) + o) (hT : ((pc : Int) + o).toNat = pcT) (hF : pc + 3 = pcF)
    (KT : ¬ 0 < x → Wp p l e R s m args below meth c n0 cM sM Q h cells slots (mkF m pcT Ls st)) (KF : 0 < x → Wp p l e R s m args below meth c n0 cM sM Q h cells slots (mkF m pcF Ls st)) :
    Wp p l e R s m args below meth c n0 cM sM Q h cells slots (mkF m pc Ls (.int x :: st)) := by
  subst hF
  by_cases q : ¬ 0 < x
  · exact Wp.pure (fun T t X hr => XS.ifYes X C.1 rfl rfl (hb C.2.1 hd) rfl ((if0 _ _).trans (flt q).2.2.2) ho hT hr) (KT q)
  · exact Wp.pure (fun T t X hr => XS.ifNo X C.1 rfl (hb C.2.1 hd) rfl ((if0 _ _).trans (tlt (Classical.not_not.mp q)).2.2.2) hr) (KF (Classical.not_not.mp q))
theorem w_icmp_eq (C : Cx p s m meth c Z own bytes ml rt nm) {pc pcT pcF : Nat} {Ls : Array Slot} {st : List Value} {x y : Int32} {o : Int} (hd : decode bytes pc = .ok (.if_icmp .eq o, 3)) (ho : 0 ≤ (pc : Int) + o) (hT : ((pc : Int) + o).toNat = pcT) (hF : pc + 3 = pcF)
    (KT : x = y → Wp p l e R s m args below meth c n0 cM sM Q h cells slots (mkF m pcT Ls st)) (KF : ¬ x = y → Wp p l e R s m args below meth c n0 cM sM Q h cells slots (mkF m pcF Ls st)) :
    Wp p l e R s m args below meth c n0 cM sM Q h cells slots (mkF m pc Ls (.int y :: .int x :: st)) := by
  subst hF
  by_cases q : x = y
  · exact Wp.pure (fun T t X hr => XS.icmpYes X C.1 rfl rfl (hb C.2.1 hd) rfl (teq q).1 ho hT hr) (KT q)
  · exact Wp.pure (fun T t X hr => XS.icmpNo X C.1 rfl (hb C.2.1 hd) rfl (feq q).1 hr) (KF q)
theorem w_if_eq (C : Cx p s m meth c Z own bytes ml rt nm) {pc pcT pcF : Nat} {Ls : Array Slot} {st : List Value} {x : Int32} {o : Int} (hd : decode bytes pc = .ok (.ifCond .eq o, 3)) (ho : 0 ≤ (pc : Int) + o) (hT : ((pc : Int) + o).toNat = pcT) (hF : pc + 3 = pcF)
    (KT : x = 0 → Wp p l e R s m args below meth c n0 cM sM Q h cells slots (mkF m pcT Ls st)) (KF : ¬ x = 0 → Wp p l e R s m args below meth c n0 cM sM Q h cells slots (mkF m pcF Ls st)) :
    Wp p l e R s m args below meth c n0 cM sM Q h cells slots (mkF m pc Ls (.int x :: st)) := by
  subst hF
  by_cases q : x = 0
  · exact Wp.pure (fun T t X hr => XS.ifYes X C.1 rfl rfl (hb C.2.1 hd) rfl ((if0 _ _).trans (teq q).1) ho hT hr) (KT q)
  · exact Wp.pure (fun T t X hr => XS.ifNo X C.1 rfl (hb C.2.1 hd) rfl ((if0 _ _).trans (feq q).1) hr) (KF q)
theorem w_icmp_ne (C : Cx p s m meth c Z own bytes ml rt nm) {pc pcT pcF : Nat} {Ls : Array Slot} {st : List Value} {x y : Int32} {o : Int} (hd : decode bytes pc = .ok (.if_icmp .ne o, 3)) (ho : 0 ≤ (pc : Int) + o) (hT : ((pc : Int) + o).toNat = pcT) (hF : pc + 3 = pcF)
    (KT : ¬ x = y → Wp p l e R s m args below meth c n0 cM sM Q h cells slots (mkF m pcT Ls st)) (KF : x = y → Wp p l e R s m args below meth c n0 cM sM Q h cells slots (mkF m pcF Ls st)) :
    Wp p l e R s m args below meth c n0 cM sM Q h cells slots (mkF m pc Ls (.int y :: .int x :: st)) := by
  subst hF
  by_cases q : ¬ x = y
  · exact Wp.pure (fun T t X hr => XS.icmpYes X C.1 rfl rfl (hb C.2.1 hd) rfl (feq q).2 ho hT hr) (KT q)
  · exact Wp.pure (fun T t X hr => XS.icmpNo X C.1 rfl (hb C.2.1 hd) rfl (teq (Classical.not_not.mp q)).2 hr) (KF (Classical.not_not.mp q))
theorem w_if_ne (C : Cx p s m meth c Z own bytes ml rt nm) {pc pcT pcF : Nat} {Ls : Array Slot} {st : List Value} {x : Int32} {o : Int} (hd : decode bytes pc = .ok (.ifCond .ne o, 3)) (ho : 0 ≤ (pc : Int) + o) (hT : ((pc : Int) + o).toNat = pcT) (hF : pc + 3 = pcF)
    (KT : ¬ x = 0 → Wp p l e R s m args below meth c n0 cM sM Q h cells slots (mkF m pcT Ls st)) (KF : x = 0 → Wp p l e R s m args below meth c n0 cM sM Q h cells slots (mkF m pcF Ls st)) :
    Wp p l e R s m args below meth c n0 cM sM Q h cells slots (mkF m pc Ls (.int x :: st)) := by
  subst hF
  by_cases q : ¬ x = 0
  · exact Wp.pure (fun T t X hr => XS.ifYes X C.1 rfl rfl (hb C.2.1 hd) rfl ((if0 _ _).trans (feq q).2) ho hT hr) (KT q)
  · exact Wp.pure (fun T t X hr => XS.ifNo X C.1 rfl (hb C.2.1 hd) rfl ((if0 _ _).trans (teq (Classical.not_not.mp q)).2) hr) (KF (Classical.not_not.mp q))
theorem w_ifnull_null (C : Cx p s m meth c Z own bytes ml rt nm) {pc pc' : Nat} {Ls : Array Slot} {st : List Value}  {o : Int} (hd : decode bytes pc = .ok (.ifnull o, 3)) (ho : 0 ≤ (pc : Int) + o) (hp : ((pc : Int) + o).toNat = pc') (K : Wp p l e R s m args below meth c n0 cM sM Q h cells slots (mkF m pc' Ls st)) :
    Wp p l e R s m args below meth c n0 cM sM Q h cells slots (mkF m pc Ls (.null :: st)) :=
  Wp.pure (fun T t X hr => XS.ifnullYes X C.1 rfl rfl (hb C.2.1 hd) rfl ho hp hr) K
theorem w_ifnull_ref (C : Cx p s m meth c Z own bytes ml rt nm) {pc pc' : Nat} {Ls : Array Slot} {st : List Value} {b : Addr} {o : Int} (hd : decode bytes pc = .ok (.ifnull o, 3)) (hp : pc + 3 = pc') (K : Wp p l e R s m args below meth c n0 cM sM Q h cells slots (mkF m pc' Ls st)) :
    Wp p l e R s m args below meth c n0 cM sM Q h cells slots (mkF m pc Ls (.ref b :: st)) := by
  subst hp; exact Wp.pure (fun T t X hr => XS.ifnullNo X C.1 rfl (hb C.2.1 hd) rfl hr) K
theorem w_ifnonnull_ref (C : Cx p s m meth c Z own bytes ml rt nm) {pc pc' : Nat} {Ls : Array Slot} {st : List Value} {b : Addr} {o : Int} (hd : decode bytes pc = .ok (.ifnonnull o, 3)) (ho : 0 ≤ (pc : Int) + o) (hp : ((pc : Int) + o).toNat = pc') (K : Wp p l e R s m args below meth c n0 cM sM Q h cells slots (mkF m pc' Ls st)) :
    Wp p l e R s m args below meth c n0 cM sM Q h cells slots (mkF m pc Ls (.ref b :: st)) :=
  Wp.pure (fun T t X hr => XS.ifnonnullYes X C.1 rfl rfl (hb C.2.1 hd) rfl ho hp hr) K
theorem w_ifnonnull_null (C : Cx p s m meth c Z own bytes ml rt nm) {pc pc' : Nat} {Ls : Array Slot} {st : List Value}  {o : Int} (hd : decode bytes pc = .ok (.ifnonnull o, 3)) (hp : pc + 3 = pc') (K : Wp p l e R s m args below meth c n0 cM sM Q h cells slots (mkF m pc' Ls st)) :
    Wp p l e R s m args below meth c n0 cM sM Q h cells slots (mkF m pc Ls (.null :: st)) := by
  subst hp; exact Wp.pure (fun T t X hr => XS.ifnonnullNo X C.1 rfl (hb C.2.1 hd) rfl hr) K
theorem w_acmp_eq (C : Cx p s m meth c Z own bytes ml rt nm) {pc pcT pcF : Nat} {Ls : Array Slot} {st : List Value} {v w : Value} {o : Int} (hv : v.isRef = true) (hw : w.isRef = true) (hd : decode bytes pc = .ok (.if_acmp .eq o, 3)) (ho : 0 ≤ (pc : Int) + o) (hT : ((pc : Int) + o).toNat = pcT) (hF : pc + 3 = pcF)
    (KT : v = w → Wp p l e R s m args below meth c n0 cM sM Q h cells slots (mkF m pcT Ls st)) (KF : ¬ v = w → Wp p l e R s m args below meth c n0 cM sM Q h cells slots (mkF m pcF Ls st)) :
    Wp p l e R s m args below meth c n0 cM sM Q h cells slots (mkF m pc Ls (w :: v :: st)) := by
  intro T locs X e0 N
  by_cases q : v = w
  · obtain ⟨s2, u, L, a, r⟩ := KT q T locs X e0 N
    exact ⟨s2, u, L, Jvm.RoadKit.acmp (g := mkF m pc Ls (w :: v :: st)) X C.1 rfl hv hw (pc0 := pc) (same := true) rfl (hb C.2.1 hd) rfl (decide_eq_true q) ho (by simp [acV, hT, hF]) a, r⟩
  · obtain ⟨s2, u, L, a, r⟩ := KF q T locs X e0 N
    exact ⟨s2, u, L, Jvm.RoadKit.acmp (g := mkF m pc Ls (w :: v :: st)) X C.1 rfl hv hw (pc0 := pc) (same := false) rfl (hb C.2.1 hd) rfl (decide_eq_false q) ho (by simp [acV, hT, hF]) a, r⟩
theorem w_acmp_ne (C : Cx p s m meth c Z own bytes ml rt nm) {pc pcT pcF : Nat} {Ls : Array Slot} {st : List Value} {v w : Value} {o : Int} (hv : v.isRef = true) (hw : w.isRef = true) (hd : decode bytes pc = .ok (.if_acmp .ne o, 3)) (ho : 0 ≤ (pc : Int) + o) (hT : ((pc : Int) + o).toNat = pcT) (hF : pc + 3 = pcF)
    (KT : ¬ v = w → Wp p l e R s m args below meth c n0 cM sM Q h cells slots (mkF m pcT Ls st)) (KF : v = w → Wp p l e R s m args below meth c n0 cM sM Q h cells slots (mkF m pcF Ls st)) :
    Wp p l e R s m args below meth c n0 cM sM Q h cells slots (mkF m pc Ls (w :: v :: st)) := by
  intro T locs X e0 N
  by_cases q : v = w
  · obtain ⟨s2, u, L, a, r⟩ := KF q T locs X e0 N
    exact ⟨s2, u, L, Jvm.RoadKit.acmp (g := mkF m pc Ls (w :: v :: st)) X C.1 rfl hv hw (pc0 := pc) (same := true) rfl (hb C.2.1 hd) rfl (decide_eq_true q) ho (by simp [acV, hT, hF]) a, r⟩
  · obtain ⟨s2, u, L, a, r⟩ := KT q T locs X e0 N
    exact ⟨s2, u, L, Jvm.RoadKit.acmp (g := mkF m pc Ls (w :: v :: st)) X C.1 rfl hv hw (pc0 := pc) (same := false) rfl (hb C.2.1 hd) rfl (decide_eq_false q) ho (by simp [acV, hT, hF]) a, r⟩
theorem w_ldcI (C : Cx p s m meth c Z own bytes ml rt nm) {pc pc' : Nat} {Ls : Array Slot} {st : List Value} {i : Nat} {x : Int32} (w : (Jvm.Cond.constant own i x).before a0 Z = true) (hd : decode bytes pc = .ok (.ldc i, 2)) (hp : pc + 2 = pc') (K : Wp p l e R s m args below meth c n0 cM sM Q h cells slots (mkF m pc' Ls (.int x :: st))) :
    Wp p l e R s m args below meth c n0 cM sM Q h cells slots (mkF m pc Ls st) := by
  subst hp; intro T locs X e0 N
  obtain ⟨s2, v, L, a, r⟩ := K T locs X e0 N
  exact ⟨s2, v, L, X.ldcInt C.1 C.2.2.2.1 (mvT C.2.2.1 w) (g := mkF m pc Ls st) rfl (hb C.2.1 hd) _ a, r⟩
theorem w_ldcwI (C : Cx p s m meth c Z own bytes ml rt nm) {pc pc' : Nat} {Ls : Array Slot} {st : List Value} {i : Nat} {x : Int32} (w : (Jvm.Cond.constant own i x).before a0 Z = true) (hd : decode bytes pc = .ok (.ldc_w i, 3)) (hp : pc + 3 = pc') (K : Wp p l e R s m args below meth c n0 cM sM Q h cells slots (mkF m pc' Ls (.int x :: st))) :
    Wp p l e R s m args below meth c n0 cM sM Q h cells slots (mkF m pc Ls st) := by
  subst hp; intro T locs X e0 N
  obtain ⟨s2, v, L, a, r⟩ := K T locs X e0 N
  exact ⟨s2, v, L, X.ldcwInt C.1 C.2.2.2.1 (mvT C.2.2.1 w) (g := mkF m pc Ls st) rfl (hb C.2.1 hd) _ a, r⟩
theorem w_ldc2J (C : Cx p s m meth c Z own bytes ml rt nm) {pc pc' : Nat} {Ls : Array Slot} {st : List Value} {i : Nat} {x : Int64} (w : (Jvm.Cond.constantLong own i x).before a0 Z = true) (hd : decode bytes pc = .ok (.ldc2_w i, 3)) (hp : pc + 3 = pc') (K : Wp p l e R s m args below meth c n0 cM sM Q h cells slots (mkF m pc' Ls (.long x :: st))) :
    Wp p l e R s m args below meth c n0 cM sM Q h cells slots (mkF m pc Ls st) := by
  subst hp; intro T locs X e0 N
  obtain ⟨s2, v, L, a, r⟩ := K T locs X e0 N
  exact ⟨s2, v, L, X.ldc2Long C.1 C.2.2.2.1 (mvT C.2.2.1 w) (g := mkF m pc Ls st) rfl (hb C.2.1 hd) _ a, r⟩
theorem w_retN (C : Cx p s m meth c Z own bytes ml rt nm) {pc : Nat} {Ls : Array Slot} {st : List Value} {z : Int32} {t : FieldType} (hrt : rt = some t) (ht : t = .boolean ∨ t = .byte ∨ t = .char ∨ t = .short) (hd : decode bytes pc = .ok (.ireturn, 1)) (hc : cells ≤ cM) (hs : slots ≤ sM) (q : Q (some (.int (nar t z))) h) :
    Wp p l e R s m args below meth c n0 cM sM Q h cells slots (mkF m pc Ls (.int z :: st)) :=
  have hr : meth.sig.returnType = some t := C.2.2.2.2.2.1.trans hrt
  Wp.ret C (fun T fs locs X hl => retN X C.1 hr ht (hb C.2.1 hd) hl) (fun q => by rw [hr] at q; cases q) hc hs q
theorem narB0 : nar .boolean 0 = 0 := by decide
theorem narB1 : nar .boolean 1 = 1 := by decide
theorem w_retN' (C : Cx p s m meth c Z own bytes ml rt nm) {pc : Nat} {Ls : Array Slot} {st : List Value} {z z' : Int32} {t : FieldType} (hrt : rt = some t) (ht : t = .boolean ∨ t = .byte ∨ t = .char ∨ t = .short) (hd : decode bytes pc = .ok (.ireturn, 1)) (hc : cells ≤ cM) (hs : slots ≤ sM) (hz : nar t z = z') (q : Q (some (.int z')) h) :
    Wp p l e R s m args below meth c n0 cM sM Q h cells slots (mkF m pc Ls (.int z :: st)) := by
  subst hz; exact w_retN C hrt ht hd hc hs q
theorem ireturn_step {T : State} {locs : List Loc} (X : Stand p l e R s m args below meth c T locs cells slots) (hx : p.tables.exec = Jvm.exec) {pc : Nat} {Ls : Array Slot} {z : Int32} {rest : List Value} (hret : meth.sig.returnType = some .int) (hd : decode c.code pc = .ok (.ireturn, 1)) {fs : List Frame}
    (hl : ∀ (f : JFrame) (acts : List Action), f.method = m → f.locked = none → f.entered = [] → (doReturn e (T.setTop f) acts (some (.int z))).1 = T.setFrames fs) : Steps p.tables e below (T.setTop (mkF m pc Ls (.int z :: rest))) (T.setFrames fs) :=
  retOut X hx (t := .int) (i := .ireturn) hret rfl (Or.inl ⟨rfl, Or.inl rfl, _, rfl⟩) hd hl
theorem w_retI (C : Cx p s m meth c Z own bytes ml rt nm) {pc : Nat} {Ls : Array Slot} {st : List Value} {z : Int32} (hrt : rt = some .int) (hd : decode bytes pc = .ok (.ireturn, 1)) (hc : cells ≤ cM) (hs : slots ≤ sM) (q : Q (some (.int z)) h) :
    Wp p l e R s m args below meth c n0 cM sM Q h cells slots (mkF m pc Ls (.int z :: st)) :=
  have hr : meth.sig.returnType = some .int := C.2.2.2.2.2.1.trans hrt
  Wp.ret C (fun T fs locs X hl => ireturn_step X C.1 hr (hb C.2.1 hd) hl) (fun q => by rw [hr] at q; cases q) hc hs q
theorem w_retJ (C : Cx p s m meth c Z own bytes ml rt nm) {pc : Nat} {Ls : Array Slot} {st : List Value} {z : Int64} (hrt : rt = some .long) (hd : decode bytes pc = .ok (.lreturn, 1)) (hc : cells ≤ cM) (hs : slots ≤ sM) (q : Q (some (.long z)) h) :
    Wp p l e R s m args below meth c n0 cM sM Q h cells slots (mkF m pc Ls (.long z :: st)) :=
  have hr : meth.sig.returnType = some .long := C.2.2.2.2.2.1.trans hrt
  Wp.ret C (fun T fs locs X hl => retOut X C.1 (t := .long) (i := .lreturn) hr rfl (Or.inr (Or.inl ⟨rfl, rfl, _, rfl⟩)) (hb C.2.1 hd) hl) (fun q => by rw [hr] at q; cases q) hc hs q
theorem w_retA (C : Cx p s m meth c Z own bytes ml rt nm) {pc : Nat} {Ls : Array Slot} {st : List Value} {v : Value} {t : FieldType} (hrt : rt = some t) (ht : t.isReference = true) (hv : v.isRef = true) (hd : decode bytes pc = .ok (.areturn, 1)) (hc : cells ≤ cM) (hs : slots ≤ sM) (q : Q (some v) h) :
    Wp p l e R s m args below meth c n0 cM sM Q h cells slots (mkF m pc Ls (v :: st)) :=
  have hr : meth.sig.returnType = some t := C.2.2.2.2.2.1.trans hrt
  Wp.ret C (fun T fs locs X hl => retOut X C.1 (t := t) (i := .areturn) hr (by cases v <;> simp [Value.isRef] at hv <;> cases t <;> first | rfl | (simp [FieldType.isReference] at ht)) (Or.inr (Or.inr (Or.inr (Or.inr ⟨rfl, ht, hv⟩)))) (hb C.2.1 hd) hl) (fun q => by rw [hr] at q; cases q) hc hs q
theorem w_ret0 (C : Cx p s m meth c Z own bytes ml rt nm) {pc : Nat} {Ls : Array Slot} (hrt : rt = none) (hd : decode bytes pc = .ok (.return_, 1)) (hc : cells ≤ cM) (hs : slots ≤ sM) (q : Q none h) :
    Wp p l e R s m args below meth c n0 cM sM Q h cells slots (mkF m pc Ls []) :=
  have hr : meth.sig.returnType = none := C.2.2.2.2.2.1.trans hrt
  Wp.ret C (fun T fs locs X hl => X.returnOut C.1 hr (hb C.2.1 hd) hl) (fun _ => rfl) hc hs q
theorem w_getF (C : Cx p s m meth c Z own bytes ml rt nm) {pc pc' : Nat} {Ls : Array Slot} {st : List Value} {O n d : String} {i : Nat} {a : Addr} {v : Value} (w : (Jvm.Cond.fieldLink own i O n d).before a0 Z = true) (hd : decode bytes pc = .ok (.getfield i, 3)) (hp : pc + 3 = pc') (F : Fld Z h a O n d v) (K : Wp p l e R s m args below meth c n0 cM sM Q h cells slots (mkF m pc' Ls (v :: st))) :
    Wp p l e R s m args below meth c n0 cM sM Q h cells slots (mkF m pc Ls (.ref a :: st)) := by
  subst hp
  exact Wp.law (fun T locs X e0 => getF X C.1 C.2.2.1 C.2.2.2.1 (host := "") (Or.inl w) Via.refl e0 F (g := mkF m pc Ls (.ref a :: st)) rfl rfl (hb C.2.1 hd)) K
theorem w_getFN (C : Cx p s m meth c Z own bytes ml rt nm) {pc pc' : Nat} {Ls : Array Slot} {st : List Value} {O n d host : String} {i : Nat} {a : Addr} {v : Value} (w : (Jvm.Cond.fieldLinkNest own i O n d host).before a0 Z = true) (hd : decode bytes pc = .ok (.getfield i, 3)) (hp : pc + 3 = pc') (F : Fld Z h a O n d v) (K : Wp p l e R s m args below meth c n0 cM sM Q h cells slots (mkF m pc' Ls (v :: st))) :
    Wp p l e R s m args below meth c n0 cM sM Q h cells slots (mkF m pc Ls (.ref a :: st)) := by
  subst hp
  exact Wp.law (fun T locs X e0 => getF X C.1 C.2.2.1 C.2.2.2.1 (Or.inr w) Via.refl e0 F (g := mkF m pc Ls (.ref a :: st)) rfl rfl (hb C.2.1 hd)) K
theorem w_getS (C : Cx p s m meth c Z own bytes ml rt nm) {pc pc' : Nat} {Ls : Array Slot} {st : List Value} {O n d : String} {i : Nat} {v : Value} (w : (Jvm.Cond.fieldLink own i O n d).before a0 Z = true) (hd : decode bytes pc = .ok (.getstatic i, 3)) (hp : pc + 3 = pc') (F : Sta Z h O n d v) (K : Wp p l e R s m args below meth c n0 cM sM Q h cells slots (mkF m pc' Ls (v :: st))) :
    Wp p l e R s m args below meth c n0 cM sM Q h cells slots (mkF m pc Ls st) := by
  subst hp
  exact Wp.law (fun T locs X e0 => getS X C.1 C.2.2.1 C.2.2.2.1 (host := "") w Via.refl e0 F (g := mkF m pc Ls st) rfl (hb C.2.1 hd)) K
theorem w_putF (C : Cx p s m meth c Z own bytes ml rt nm) {pc pc' : Nat} {Ls : Array Slot} {st : List Value} {O n d Cl : String} {i kk : Nat} {a : Addr} {v old : Value} {ty : FieldType} (w : (Jvm.Cond.fieldLink own i O n d).before a0 Z = true) (L : (Jvm.Cond.lays Cl O n d).before a0 Z = true ∨ ((Jvm.Cond.laysFinal Cl O n d).before a0 Z = true ∧ own = O ∧ nm = "<init>")) (wi : (Jvm.Cond.instantiable Cl kk).before a0 Z = true)
    (hty : parseFieldDescriptor d = some ty) (hn : narrow ty v = v) (hf : fits ty v = true) (hd : decode bytes pc = .ok (.putfield i, 3)) (hp : pc + 3 = pc') (g0 : n0 ≤ a) (F : Fld Z h a O n d old) (E : Exa Z h a Cl)
    (K : ∀ h', Wr h h' a (Jvm.RoadKit.slotOf Z O n d) v → Wp p l e R s m args below meth c n0 cM sM Q h' cells slots (mkF m pc' Ls st)) :
    Wp p l e R s m args below meth c n0 cM sM Q h cells slots (mkF m pc Ls (v :: .ref a :: st)) := by
  subst hp
  intro T locs X e0 N
  obtain ⟨T', h', X', e', W, st'⟩ := putF X C.1 C.2.2.1 C.2.2.2.1 (host := "") (Or.inl w) Via.refl e0 F E (L.imp id fun q => ⟨q.1, q.2.1, C.2.2.2.2.2.2.1.trans q.2.2⟩) wi hty hn hf (g := mkF m pc Ls (v :: .ref a :: st)) rfl rfl (hb C.2.1 hd)
  obtain ⟨s2, u, Lc, x, r⟩ := K h' W T' _ X' e' (Fr.snoc X' N g0)
  exact ⟨s2, u, Lc, st' _ x, r⟩
theorem w_putFN (C : Cx p s m meth c Z own bytes ml rt nm) {pc pc' : Nat} {Ls : Array Slot} {st : List Value} {O n d Cl : String} {i kk : Nat} {a : Addr} {v old : Value} {ty : FieldType} {host : String} (w : (Jvm.Cond.fieldLinkNest own i O n d host).before a0 Z = true) (L : (Jvm.Cond.lays Cl O n d).before a0 Z = true ∨ ((Jvm.Cond.laysFinal Cl O n d).before a0 Z = true ∧ own = O ∧ nm = "<init>")) (wi : (Jvm.Cond.instantiable Cl kk).before a0 Z = true)
    (hty : parseFieldDescriptor d = some ty) (hn : narrow ty v = v) (hf : fits ty v = true) (hd : decode bytes pc = .ok (.putfield i, 3)) (hp : pc + 3 = pc') (g0 : n0 ≤ a) (F : Fld Z h a O n d old) (E : Exa Z h a Cl)
    (K : ∀ h', Wr h h' a (Jvm.RoadKit.slotOf Z O n d) v → Wp p l e R s m args below meth c n0 cM sM Q h' cells slots (mkF m pc' Ls st)) :
    Wp p l e R s m args below meth c n0 cM sM Q h cells slots (mkF m pc Ls (v :: .ref a :: st)) := by
  subst hp
  intro T locs X e0 N
  obtain ⟨T', h', X', e', W, st'⟩ := putF X C.1 C.2.2.1 C.2.2.2.1 (Or.inr w) Via.refl e0 F E (L.imp id fun q => ⟨q.1, q.2.1, C.2.2.2.2.2.2.1.trans q.2.2⟩) wi hty hn hf (g := mkF m pc Ls (v :: .ref a :: st)) rfl rfl (hb C.2.1 hd)
  obtain ⟨s2, u, Lc, x, r⟩ := K h' W T' _ X' e' (Fr.snoc X' N g0)
  exact ⟨s2, u, Lc, st' _ x, r⟩
theorem w_putFZ (C : Cx p s m meth c Z own bytes ml rt nm) {pc pc' : Nat} {Ls : Array Slot} {st : List Value} {O n d Cl : String} {i kk : Nat} {a : Addr} {v v' old : Value} {ty : FieldType} (w : (Jvm.Cond.fieldLink own i O n d).before a0 Z = true) (L : (Jvm.Cond.lays Cl O n d).before a0 Z = true ∨ ((Jvm.Cond.laysFinal Cl O n d).before a0 Z = true ∧ own = O ∧ nm = "<init>")) (wi : (Jvm.Cond.instantiable Cl kk).before a0 Z = true)
    (hty : parseFieldDescriptor d = some ty) (hn : narrow ty v = v') (hf : fits ty v' = true) (hd : decode bytes pc = .ok (.putfield i, 3)) (hp : pc + 3 = pc') (g0 : n0 ≤ a) (F : Fld Z h a O n d old) (E : Exa Z h a Cl)
    (K : ∀ h', Wr h h' a (Jvm.RoadKit.slotOf Z O n d) v' → Wp p l e R s m args below meth c n0 cM sM Q h' cells slots (mkF m pc' Ls st)) :
    Wp p l e R s m args below meth c n0 cM sM Q h cells slots (mkF m pc Ls (v :: .ref a :: st)) := by
  subst hp
  intro T locs X e0 N
  obtain ⟨T', h', X', e', W, st'⟩ := putFN X C.1 C.2.2.1 C.2.2.2.1 w Via.refl e0 F E (L.imp id fun q => ⟨q.1, q.2.1, C.2.2.2.2.2.2.1.trans q.2.2⟩) wi hty hn hf (g := mkF m pc Ls (v :: .ref a :: st)) rfl rfl (hb C.2.1 hd)
  obtain ⟨s2, u, Lc, x, r⟩ := K h' W T' _ X' e' (Fr.snoc X' N g0)
  exact ⟨s2, u, Lc, st' _ x, r⟩
theorem ready39 {Z : State} {vm' : Vm} {cur i c : Nat} {f : Field} (h : Z.Warmed39 vm') (r : Z.vm.fieldReady cur i c f) : vm'.fieldReady cur i c f := by
  obtain ⟨k, j, kc, h1, h2, h3, h4⟩ := r
  obtain ⟨k', a1, a2, -, a4, -⟩ := h.2.2.2 cur k h1
  obtain ⟨kc', b1, b2, -⟩ := h.2.2.2 c kc h3
  refine ⟨k', j, kc', a1, ?_, b1, by rw [b2]; exact h4⟩
  rcases a4 i with q | ⟨q, -⟩
  · rw [q]; exact h2
  · rw [h2] at q; cases q
/-- a field whose entry is resolved already -/
theorem w_getFR (C : Cx p s m meth c Z own bytes ml rt nm) {pc pc' : Nat} {Ls : Array Slot} {st : List Value} {O n d : String} {i : Nat} {a : Addr} {v : Value} (w : (Jvm.Cond.fieldRef own i O n d).before a0 Z = true) (hd : decode bytes pc = .ok (.getfield i, 3)) (hp : pc + 3 = pc') (F : Fld Z h a O n d v) (K : Wp p l e R s m args below meth c n0 cM sM Q h cells slots (mkF m pc' Ls (v :: st))) :
    Wp p l e R s m args below meth c n0 cM sM Q h cells slots (mkF m pc Ls (.ref a :: st)) := by
  subst hp
  refine Wp.law (fun T locs X e0 => ⟨T, X, e0, fun t hr => ?_⟩) K
  obtain ⟨cell, cf, k, ix, f, h1, h2, h3, h4, h5, h6, h7⟩ := F
  have hown := C.2.2.2.1
  rw [C.2.2.1.alike.findClass] at hown
  obtain ⟨cf', k', ix', f', g1, g2⟩ := Cond.fieldRef_spec hown w
  cases h2.symm.trans g1
  have hready := ready39 (wtrans C.2.2.1 X.warmed) g2
  have hexec := C.1
  have hdg := hb C.2.1 hd
  have hcell : T.heap[a]? = some cell := by rw [e0]; exact h1
  show Steps p.tables e below (T.setTop (mkF m pc Ls (.ref a :: st))) t
  jvm_step X.here [hexec, hdg, getfield.wp_ready (e := e) (s := T) (f := mkF m pc Ls (.ref a :: st)) X.here.top hready h3 rfl hcell h4 h7]
  exact hr
theorem w_putFR (C : Cx p s m meth c Z own bytes ml rt nm) {pc pc' : Nat} {Ls : Array Slot} {st : List Value} {O n d Cl : String} {i kk : Nat} {a : Addr} {v old : Value} {ty : FieldType} (w : (Jvm.Cond.fieldRef own i O n d).before a0 Z = true) (L : (Jvm.Cond.lays Cl O n d).before a0 Z = true) (wi : (Jvm.Cond.instantiable Cl kk).before a0 Z = true)
    (hty : parseFieldDescriptor d = some ty) (hn : narrow ty v = v) (hf : fits ty v = true) (hd : decode bytes pc = .ok (.putfield i, 3)) (hp : pc + 3 = pc') (g0 : n0 ≤ a) (F : Fld Z h a O n d old) (E : Exa Z h a Cl)
    (K : ∀ h', Wr h h' a (Jvm.RoadKit.slotOf Z O n d) v → Wp p l e R s m args below meth c n0 cM sM Q h' cells slots (mkF m pc' Ls st)) :
    Wp p l e R s m args below meth c n0 cM sM Q h cells slots (mkF m pc Ls (v :: .ref a :: st)) := by
  subst hp
  intro T locs X e0 N
  obtain ⟨cell, cf, k, ix, f, h1, h2, h3, h4, h5, -, h7⟩ := F
  obtain ⟨cell', kc, e1, e2, e3, -⟩ := E
  cases h1.symm.trans e1
  obtain ⟨c1, k1, cf1, kf1, i1, f1, a1, a2, a3, -, -, a6, -⟩ := Laid.spec (a0 := a0) (Or.inl L)
  cases h2.symm.trans a3
  cases e2.symm.trans a1
  obtain ⟨c2, k2, j1, j2, j3, -⟩ := Cond.instantiable_spec wi
  cases e2.symm.trans j1
  cases a2.symm.trans j2
  have ht := (State.fieldFound?_type h2 hty).2
  have hfit : Z.fitsSlot cell.cls cell.vm f.slot v = true := by
    have q : Z.slotType? cell.cls cell.vm f.slot = some ty := by
      simp only [State.slotType?, a2, Option.bind_eq_bind, Option.bind_some, j3]
      cases hq : cell.vm <;> first | (rw [hq] at h5; exact Bool.noConfusion h5) | (rw [a6, ht])
    simp [State.fitsSlot, q, hf]
  have hU := wtrans C.2.2.1 X.warmed
  have hfit' : T.fitsSlot cell.cls cell.vm f.slot v = true := by rw [← State.fitsSlot_setVm hU.alike] at hfit; exact hfit
  obtain ⟨_, _, _, _, _, _, -, -, b3, -, b5, -⟩ := Cond.lays_spec L
  cases h2.symm.trans b3
  have hown := C.2.2.2.1
  rw [C.2.2.1.alike.findClass] at hown
  obtain ⟨cf', k', ix', f', g1, g2⟩ := Cond.fieldRef_spec hown w
  cases h2.symm.trans g1
  have hlt := (Array.getElem?_eq_some_iff.mp h7).1
  have es : Jvm.RoadKit.slotOf Z O n d = f.slot := by simp [Jvm.RoadKit.slotOf, h2]
  obtain ⟨X', st'⟩ := X.putfieldReady C.1 (ready39 hU g2) h3 (Or.inl b5) (by rw [e0]; exact h1) h4 hlt (by rw [ht]; exact hn) hfit' (g := mkF m pc Ls (v :: .ref a :: st)) rfl rfl (hb C.2.1 hd)
  obtain ⟨s2, u, Lc, x, r⟩ := K (h.setIfInBounds a (cell.setSlot f.slot v)) ⟨cell, h1, h5, by rw [es]; exact hlt, by rw [es]⟩ _ _ X' (by rw [← e0]; rfl) (Fr.snoc X' N g0)
  exact ⟨s2, u, Lc, st' _ x, r⟩
theorem w_new (C : Cx p s m meth c Z own bytes ml rt nm) {pc pc' ce' sl' : Nat} {Ls : Array Slot} {st : List Value} {Cl : String} {i n : Nat} (w : (Jvm.Cond.classLink own i Cl).before a0 Z = true) (wi : (Jvm.Cond.instantiable Cl n).before a0 Z = true) (wz : (Jvm.Cond.initialized Cl).before a0 Z = true) (hd : decode bytes pc = .ok (.new i, 3)) (hp : pc + 3 = pc') (hc1 : cells + 1 = ce') (hl1 : slots + n = sl') (hc : ce' ≤ R.cells) (hl : sl' ≤ R.slots)
    (K : ∀ h' a, a = h.size → Ext h h' → Exa Z h' a Cl → (∀ {O nm d : String} {ty : FieldType}, Laid Z a0 Cl O nm d → parseFieldDescriptor d = some ty → Fld Z h' a O nm d (defaultValue ty)) → Wp p l e R s m args below meth c n0 cM sM Q h' ce' sl' (mkF m pc' Ls (.ref a :: st))) :
    Wp p l e R s m args below meth c n0 cM sM Q h cells slots (mkF m pc Ls st) := by
  subst hp hc1 hl1
  intro T locs X e0 N
  obtain ⟨T', h', X', e', E, A, D, -, st'⟩ := newO X C.1 C.2.2.1 C.2.2.2.1 w wi wz e0 (g := mkF m pc Ls st) rfl (hb C.2.1 hd) hc hl
  obtain ⟨s2, u, Lc, x, r⟩ := K h' h.size rfl E A D T' _ X' e' N
  exact ⟨s2, u, Lc, st' _ x, r⟩
theorem w_newP (C : Cx p s m meth c Z own bytes ml rt nm) {pc pc' ce' sl' : Nat} {Ls : Array Slot} {st : List Value} {aty : ArrayType} {n : Int32} {cap : Nat} (w : (Jvm.Cond.arrayClass (newarray.typeOf aty)).before a0 Z = true) (hd : decode bytes pc = .ok (.newarray aty, 2)) (hp : pc + 2 = pc') (hn : ¬ n < 0) (hcap : n.toNatClampNeg ≤ cap) (hbig : cap * 8 ≤ 536870912) (hc1 : cells + 1 = ce') (hl1 : slots + cap = sl') (hc : ce' ≤ R.cells) (hl : sl' ≤ R.slots)
    (K : ∀ h' a cA, a = h.size → Ext h h' → Arr Z h' a (newA cA (newarray.typeOf aty) n) (newarray.typeOf aty) → Wp p l e R s m args below meth c n0 cM sM Q h' ce' sl' (mkF m pc' Ls (.ref a :: st))) :
    Wp p l e R s m args below meth c n0 cM sM Q h cells slots (mkF m pc Ls (.int n :: st)) := by
  subst hp hc1 hl1
  intro T locs X e0 N
  obtain ⟨T', h', cA, X', e', E, A, st'⟩ := newP X C.1 C.2.2.1 w e0 (g := mkF m pc Ls (.int n :: st)) rfl (hb C.2.1 hd) rfl hn hcap hbig hc hl
  obtain ⟨s2, u, Lc, x, r⟩ := K h' h.size cA rfl E A T' _ X' e' N
  exact ⟨s2, u, Lc, st' _ x, r⟩
theorem w_newR (C : Cx p s m meth c Z own bytes ml rt nm) {pc pc' ce' sl' : Nat} {Ls : Array Slot} {st : List Value} {Cl : String} {i : Nat} {n : Int32} {cap : Nat} (w1 : (Jvm.Cond.classLink own i Cl).before a0 Z = true) (w2 : (Jvm.Cond.arrayOver (.object Cl)).before a0 Z = true) (hd : decode bytes pc = .ok (.anewarray i, 3)) (hp : pc + 3 = pc') (hn : ¬ n < 0) (hcap : n.toNatClampNeg ≤ cap) (hbig : cap * 8 ≤ 536870912) (hc1 : cells + 1 = ce') (hl1 : slots + cap = sl') (hc : ce' ≤ R.cells) (hl : sl' ≤ R.slots)
    (K : ∀ h' a cA, a = h.size → Ext h h' → Arr Z h' a (newA cA (.object Cl) n) (.object Cl) → Ovr Z cA Cl → Wp p l e R s m args below meth c n0 cM sM Q h' ce' sl' (mkF m pc' Ls (.ref a :: st))) :
    Wp p l e R s m args below meth c n0 cM sM Q h cells slots (mkF m pc Ls (.int n :: st)) := by
  subst hp hc1 hl1
  intro T locs X e0 N
  obtain ⟨T', h', cA, X', e', E, A, O, st'⟩ := newR X C.1 C.2.2.1 C.2.2.2.1 w1 w2 e0 (g := mkF m pc Ls (.int n :: st)) rfl (hb C.2.1 hd) rfl hn hcap hbig hc hl
  obtain ⟨s2, u, Lc, x, r⟩ := K h' h.size cA rfl E A O T' _ X' e' N
  exact ⟨s2, u, Lc, st' _ x, r⟩
theorem w_iastore (C : Cx p s m meth c Z own bytes ml rt nm) {pc pc' : Nat} {Ls : Array Slot} {st : List Value} {a : Addr} {cl : Cell} {j : Int32} {x : Int32} (hd : decode bytes pc = .ok (.iastore, 1)) (hp : pc + 1 = pc') (g0 : n0 ≤ a) (A : Arr Z h a cl .int) (hj : ¬ (j < 0 ∨ cl.slots.size ≤ j.toNatClampNeg))
    (K : ∀ h', Wr h h' a j.toNatClampNeg (.int x) → Wp p l e R s m args below meth c n0 cM sM Q h' cells slots (mkF m pc' Ls st)) :
    Wp p l e R s m args below meth c n0 cM sM Q h cells slots (mkF m pc Ls (.int x :: .int j :: .ref a :: st)) := by
  subst hp
  intro T locs X e0 N
  obtain ⟨T', h', X', e', W, st'⟩ := stI X C.1 C.2.2.1 e0 A hj (g := mkF m pc Ls (.int x :: .int j :: .ref a :: st)) rfl rfl (hb C.2.1 hd)
  obtain ⟨s2, u, Lc, q, r⟩ := K h' W T' _ X' e' (Fr.snoc X' N g0)
  exact ⟨s2, u, Lc, st' _ q, r⟩
theorem w_lastore (C : Cx p s m meth c Z own bytes ml rt nm) {pc pc' : Nat} {Ls : Array Slot} {st : List Value} {a : Addr} {cl : Cell} {j : Int32} {x : Int64} (hd : decode bytes pc = .ok (.lastore, 1)) (hp : pc + 1 = pc') (g0 : n0 ≤ a) (A : Arr Z h a cl .long) (hj : ¬ (j < 0 ∨ cl.slots.size ≤ j.toNatClampNeg))
    (K : ∀ h', Wr h h' a j.toNatClampNeg (.long x) → Wp p l e R s m args below meth c n0 cM sM Q h' cells slots (mkF m pc' Ls st)) :
    Wp p l e R s m args below meth c n0 cM sM Q h cells slots (mkF m pc Ls (.long x :: .int j :: .ref a :: st)) := by
  subst hp
  intro T locs X e0 N
  obtain ⟨T', h', X', e', W, st'⟩ := stJ X C.1 C.2.2.1 e0 A hj (g := mkF m pc Ls (.long x :: .int j :: .ref a :: st)) rfl rfl (hb C.2.1 hd)
  obtain ⟨s2, u, Lc, q, r⟩ := K h' W T' _ X' e' (Fr.snoc X' N g0)
  exact ⟨s2, u, Lc, st' _ q, r⟩
theorem w_castore (C : Cx p s m meth c Z own bytes ml rt nm) {pc pc' : Nat} {Ls : Array Slot} {st : List Value} {a : Addr} {cl : Cell} {j : Int32} {x : Int32} (hd : decode bytes pc = .ok (.castore, 1)) (hp : pc + 1 = pc') (g0 : n0 ≤ a) (A : Arr Z h a cl .char) (hj : ¬ (j < 0 ∨ cl.slots.size ≤ j.toNatClampNeg))
    (K : ∀ h', Wr h h' a j.toNatClampNeg (.int (nar .char x)) → Wp p l e R s m args below meth c n0 cM sM Q h' cells slots (mkF m pc' Ls st)) :
    Wp p l e R s m args below meth c n0 cM sM Q h cells slots (mkF m pc Ls (.int x :: .int j :: .ref a :: st)) := by
  subst hp
  intro T locs X e0 N
  obtain ⟨T', h', X', e', W, st'⟩ := stC X C.1 C.2.2.1 e0 A hj (g := mkF m pc Ls (.int x :: .int j :: .ref a :: st)) rfl rfl (hb C.2.1 hd)
  obtain ⟨s2, u, Lc, q, r⟩ := K h' W T' _ X' e' (Fr.snoc X' N g0)
  exact ⟨s2, u, Lc, st' _ q, r⟩
theorem w_aastore (C : Cx p s m meth c Z own bytes ml rt nm) {pc pc' : Nat} {Ls : Array Slot} {st : List Value} {a : Addr} {cl : Cell} {j : Int32} {v : Value} {ty : FieldType} (hd : decode bytes pc = .ok (.aastore, 1)) (hp : pc + 1 = pc') (g0 : n0 ≤ a) (A : Arr Z h a cl ty) (hj : ¬ (j < 0 ∨ cl.slots.size ≤ j.toNatClampNeg)) (hty : ty.isReference = true) (F : Sto Z h a v)
    (K : ∀ h', Wr h h' a j.toNatClampNeg v → Wp p l e R s m args below meth c n0 cM sM Q h' cells slots (mkF m pc' Ls st)) :
    Wp p l e R s m args below meth c n0 cM sM Q h cells slots (mkF m pc Ls (v :: .int j :: .ref a :: st)) := by
  subst hp
  intro T locs X e0 N
  obtain ⟨T', h', X', e', W, st'⟩ := stR X C.1 C.2.2.1 e0 A hj hty F (g := mkF m pc Ls (v :: .int j :: .ref a :: st)) rfl rfl (hb C.2.1 hd)
  obtain ⟨s2, u, Lc, q, r⟩ := K h' W T' _ X' e' (Fr.snoc X' N g0)
  exact ⟨s2, u, Lc, st' _ q, r⟩
theorem w_iaload (C : Cx p s m meth c Z own bytes ml rt nm) {pc pc' : Nat} {Ls : Array Slot} {st : List Value} {a : Addr} {cl : Cell} {j : Int32} {v : Value} (hd : decode bytes pc = .ok (.iaload, 1)) (hp : pc + 1 = pc') (A : Arr Z h a cl .int) (hj : ¬ (j < 0 ∨ cl.slots.size ≤ j.toNatClampNeg)) (hv : cl.slots[j.toNatClampNeg]? = some v)
    (K : Wp p l e R s m args below meth c n0 cM sM Q h cells slots (mkF m pc' Ls (v :: st))) :
    Wp p l e R s m args below meth c n0 cM sM Q h cells slots (mkF m pc Ls (.int j :: .ref a :: st)) := by
  subst hp
  intro T locs X e0 N
  obtain ⟨s2, u, L, q, r⟩ := K T locs X e0 N
  exact ⟨s2, u, L, X.iaload C.1 (j := j) (v := v) (by rw [e0]; exact A.1) (State.isArrayOf_alike C.2.2.1.alike A.2.1) A.2.2 hj hv (g := mkF m pc Ls (.int j :: .ref a :: st)) rfl rfl (hb C.2.1 hd) _ q, r⟩
theorem w_laload (C : Cx p s m meth c Z own bytes ml rt nm) {pc pc' : Nat} {Ls : Array Slot} {st : List Value} {a : Addr} {cl : Cell} {j : Int32} {v : Value} (hd : decode bytes pc = .ok (.laload, 1)) (hp : pc + 1 = pc') (A : Arr Z h a cl .long) (hj : ¬ (j < 0 ∨ cl.slots.size ≤ j.toNatClampNeg)) (hv : cl.slots[j.toNatClampNeg]? = some v)
    (K : Wp p l e R s m args below meth c n0 cM sM Q h cells slots (mkF m pc' Ls (v :: st))) :
    Wp p l e R s m args below meth c n0 cM sM Q h cells slots (mkF m pc Ls (.int j :: .ref a :: st)) := by
  subst hp
  intro T locs X e0 N
  obtain ⟨s2, u, L, q, r⟩ := K T locs X e0 N
  exact ⟨s2, u, L, X.laload C.1 (j := j) (v := v) (by rw [e0]; exact A.1) (State.isArrayOf_alike C.2.2.1.alike A.2.1) A.2.2 hj hv (g := mkF m pc Ls (.int j :: .ref a :: st)) rfl rfl (hb C.2.1 hd) _ q, r⟩
theorem w_caload (C : Cx p s m meth c Z own bytes ml rt nm) {pc pc' : Nat} {Ls : Array Slot} {st : List Value} {a : Addr} {cl : Cell} {j : Int32} {v : Value} (hd : decode bytes pc = .ok (.caload, 1)) (hp : pc + 1 = pc') (A : Arr Z h a cl .char) (hj : ¬ (j < 0 ∨ cl.slots.size ≤ j.toNatClampNeg)) (hv : cl.slots[j.toNatClampNeg]? = some v)
    (K : Wp p l e R s m args below meth c n0 cM sM Q h cells slots (mkF m pc' Ls (v :: st))) :
    Wp p l e R s m args below meth c n0 cM sM Q h cells slots (mkF m pc Ls (.int j :: .ref a :: st)) := by
  subst hp
  intro T locs X e0 N
  obtain ⟨s2, u, L, q, r⟩ := K T locs X e0 N
  exact ⟨s2, u, L, X.caload C.1 (j := j) (v := v) (by rw [e0]; exact A.1) (State.isArrayOf_alike C.2.2.1.alike A.2.1) A.2.2 hj hv (g := mkF m pc Ls (.int j :: .ref a :: st)) rfl rfl (hb C.2.1 hd) _ q, r⟩
theorem w_baload (C : Cx p s m meth c Z own bytes ml rt nm) {pc pc' : Nat} {Ls : Array Slot} {st : List Value} {a : Addr} {cl : Cell} {j : Int32} {v : Value} (hd : decode bytes pc = .ok (.baload, 1)) (hp : pc + 1 = pc') (A : Arr Z h a cl .byte) (hj : ¬ (j < 0 ∨ cl.slots.size ≤ j.toNatClampNeg)) (hv : cl.slots[j.toNatClampNeg]? = some v)
    (K : Wp p l e R s m args below meth c n0 cM sM Q h cells slots (mkF m pc' Ls (v :: st))) :
    Wp p l e R s m args below meth c n0 cM sM Q h cells slots (mkF m pc Ls (.int j :: .ref a :: st)) := by
  subst hp
  intro T locs X e0 N
  obtain ⟨s2, u, L, q, r⟩ := K T locs X e0 N
  exact ⟨s2, u, L, X.baloadBytes C.1 (j := j) (v := v) (by rw [e0]; exact A.1) (State.isArrayOf_alike C.2.2.1.alike A.2.1) A.2.2 hj hv (g := mkF m pc Ls (.int j :: .ref a :: st)) rfl rfl (hb C.2.1 hd) _ q, r⟩
theorem w_aaload (C : Cx p s m meth c Z own bytes ml rt nm) {pc pc' : Nat} {Ls : Array Slot} {st : List Value} {a : Addr} {cl : Cell} {j : Int32} {v : Value} {ty : FieldType} (hd : decode bytes pc = .ok (.aaload, 1)) (hp : pc + 1 = pc') (A : Arr Z h a cl ty) (hty : ty.isReference = true) (hj : ¬ (j < 0 ∨ cl.slots.size ≤ j.toNatClampNeg)) (hv : cl.slots[j.toNatClampNeg]? = some v)
    (K : Wp p l e R s m args below meth c n0 cM sM Q h cells slots (mkF m pc' Ls (v :: st))) :
    Wp p l e R s m args below meth c n0 cM sM Q h cells slots (mkF m pc Ls (.int j :: .ref a :: st)) := by
  subst hp
  intro T locs X e0 N
  obtain ⟨s2, u, L, q, r⟩ := K T locs X e0 N
  exact ⟨s2, u, L, X.aaload C.1 (j := j) (v := v) (by rw [e0]; exact A.1) (State.isArrayOf_alike C.2.2.1.alike A.2.1) hty A.2.2 hj hv (g := mkF m pc Ls (.int j :: .ref a :: st)) rfl rfl (hb C.2.1 hd) _ q, r⟩
theorem w_alen (C : Cx p s m meth c Z own bytes ml rt nm) {pc pc' : Nat} {Ls : Array Slot} {st : List Value} {a : Addr} {cl : Cell} {ty : FieldType} {n : Int32} (hd : decode bytes pc = .ok (.arraylength, 1)) (hp : pc + 1 = pc') (A : Arr Z h a cl ty) (hn : cl.slots.size.toInt32 = n)
    (K : Wp p l e R s m args below meth c n0 cM sM Q h cells slots (mkF m pc' Ls (.int n :: st))) :
    Wp p l e R s m args below meth c n0 cM sM Q h cells slots (mkF m pc Ls (.ref a :: st)) := by
  subst hp hn
  intro T locs X e0 N
  obtain ⟨s2, u, L, q, r⟩ := K T locs X e0 N
  exact ⟨s2, u, L, X.arraylength C.1 (by rw [e0]; exact A.1) (State.isArrayOf_alike C.2.2.1.alike A.2.1) (g := mkF m pc Ls (.ref a :: st)) rfl rfl (hb C.2.1 hd) _ q, r⟩
theorem w_initO (C : Cx p s m meth c Z own bytes ml rt nm) {pc pc' : Nat} {Ls : Array Slot} {st : List Value} {i : Nat} {a : Addr} {W : Nat} (w1 : (Jvm.Cond.methodLink own i Lib.objectInit).before a0 Z = true) (w2 : (Jvm.Cond.instanceMethod Lib.objectInit).before a0 Z = true) (w3 : (Jvm.Cond.code Lib.objectInit ⟨#[0xb1]⟩ 1 none).before a0 Z = true) (hd : decode bytes pc = .ok (.invokespecial i, 3)) (hp : pc + 3 = pc')
    (hsz : Ls.size = ml) (hf : 1 ≤ R.frames) (hW : (st.map fun v => v.category).sum ≤ W) (hl : W + 12 ≤ R.locals) (K : Wp p l e R s m args below meth c n0 cM sM Q h cells slots (mkF m pc' Ls st)) :
    Wp p l e R s m args below meth c n0 cM sM Q h cells slots (mkF m pc Ls (.ref a :: st)) := by
  subst hp
  exact Wp.law (fun T locs X e0 => initO X C.1 C.2.2.1 C.2.2.2.1 w1 w2 w3 e0 (g := mkF m pc Ls (.ref a :: st)) rfl (hsz.trans C.2.2.2.2.1.symm) rfl (hb C.2.1 hd) hf (by show 2 * 0 + _ ≤ _; rw [Nat.mul_zero, Nat.zero_add]; exact hW) hl) K
theorem w_callS (C : Cx p s m meth c Z own bytes ml rt nm) {pc pc' : Nat} {Ls : Array Slot} {stk st : List Value} {i : Nat} {ce' sl' : Nat} {y : MethodName} {cb : ByteArray} {cml : Nat} {cret : Option FieldType} {crm : Room} {argsL : List Value} {Q' : Option Value → Heap → Prop} {W : Nat} (w1 : (Jvm.Cond.methodLink own i y).before a0 Z = true) (w2 : (Jvm.Cond.static y).before a0 Z = true) (w3 : (Jvm.Cond.initialized y.cls).before a0 Z = true) (w4 : (Jvm.Cond.code y cb cml cret).before a0 Z = true) (hy : y.cls ≠ "java/lang/invoke/MethodHandle" ∧ y.cls ≠ "java/lang/invoke/VarHandle")
    (hd : decode bytes pc = .ok (.invokestatic i, 3)) (hp : pc + 3 = pc') (hst : stk = argsL.reverse ++ st) (hfr : crm.frames + 1 ≤ R.frames) (hlo : W + (cml + 11) + crm.locals ≤ R.locals) (hW : (st.map fun v => v.category).sum ≤ W) (hce1 : cells + crm.cells = ce') (hsl1 : slots + crm.slots = sl') (hce : ce' ≤ R.cells) (hsl : sl' ≤ R.slots) (hsz : Ls.size = ml) (hlen : ∀ sig, parseMethodDescriptor y.desc = some sig → argsL.length = sig.parameters.length) (ct : Ct l Z y cb cml cret [] crm argsL.toArray h n0 Q')
    (K : ∀ v h', Q' v h' → Wp p l e R s m args below meth c n0 cM sM Q h' ce' sl' (mkF m pc' Ls (v.toList ++ st))) :
    Wp p l e R s m args below meth c n0 cM sM Q h cells slots (mkF m pc Ls stk) := by
  subst hp hce1 hsl1
  intro T locs X e0 N
  obtain ⟨v, _, ⟨T', L', k', n'⟩, -, X', ⟨Lc, hq, l1, l2, l3⟩, st'⟩ := Jvm.LawKit.callS X C.1 (y := y) C.2.2.2.1 (mvT C.2.2.1 w1) (mvT C.2.2.1 w2) (mvT C.2.2.1 w3) (mvT C.2.2.1 w4) hy (backOf (W := W) (Q := fun v hh L => Q' v hh ∧ Fr n0 L) ct C.2.2.1 w4 w3 hfr hlo) (g := mkF m pc Ls stk) rfl (hsz.trans C.2.2.2.2.1.symm) (argsL := argsL) (rest := st) hlen hst (by show 2 * 0 + _ ≤ _; rw [Nat.mul_zero, Nat.zero_add]; exact hW) (hb C.2.1 hd) (fun _ _ => ⟨rfl, e0, hce, hsl⟩)
  dsimp only [Pt.U, Pt.locs, Pt.cells, Pt.slots] at X' l1 l2 l3 st' hq
  subst l1 l2 l3
  obtain ⟨s2, u, L, q, r⟩ := K _ _ hq.1 _ _ X' rfl (Fr.app N hq.2)
  exact ⟨s2, u, L, st' _ q, r⟩
theorem w_callI (C : Cx p s m meth c Z own bytes ml rt nm) {pc pc' : Nat} {Ls : Array Slot} {stk st : List Value} {i : Nat} {a : Addr} {ce' sl' : Nat} {y : MethodName} {cb : ByteArray} {cml : Nat} {crm : Room} {argsL : List Value} {Q' : Option Value → Heap → Prop} {W : Nat} (hin : y.name = "<init>") (w1 : (Jvm.Cond.methodLink own i y).before a0 Z = true) (w2 : (Jvm.Cond.instanceMethod y).before a0 Z = true) (w3 : (Jvm.Cond.initialized y.cls).before a0 Z = true) (w4 : (Jvm.Cond.code y cb cml none).before a0 Z = true) (hy : y.cls ≠ "java/lang/invoke/MethodHandle" ∧ y.cls ≠ "java/lang/invoke/VarHandle")
    (hd : decode bytes pc = .ok (.invokespecial i, 3)) (hp : pc + 3 = pc') (hst : stk = argsL.reverse ++ .ref a :: st) (hfr : crm.frames + 1 ≤ R.frames) (hlo : W + (cml + 11) + crm.locals ≤ R.locals) (hW : (st.map fun v => v.category).sum ≤ W) (hce1 : cells + crm.cells = ce') (hsl1 : slots + crm.slots = sl') (hce : ce' ≤ R.cells) (hsl : sl' ≤ R.slots) (hsz : Ls.size = ml) (hlen : ∀ sig, parseMethodDescriptor y.desc = some sig → argsL.length = sig.parameters.length) (ct : Ct l Z y cb cml none [] crm (.ref a :: argsL).toArray h n0 Q')
    (K : ∀ v h', Q' v h' → Wp p l e R s m args below meth c n0 cM sM Q h' ce' sl' (mkF m pc' Ls (v.toList ++ st))) :
    Wp p l e R s m args below meth c n0 cM sM Q h cells slots (mkF m pc Ls stk) := by
  subst hp hce1 hsl1
  intro T locs X e0 N
  obtain ⟨v, _, ⟨T', L', k', n'⟩, -, X', ⟨Lc, hq, l1, l2, l3⟩, st'⟩ := X.specialBack C.1 (y := y) hin C.2.2.2.1 (mvT C.2.2.1 w1) (mvT C.2.2.1 w2) (mvT C.2.2.1 w4) hy (backOf (W := W) (Q := fun v hh L => Q' v hh ∧ Fr n0 L) ct C.2.2.1 w4 w3 hfr hlo) (g := mkF m pc Ls stk) rfl (hsz.trans C.2.2.2.2.1.symm) (Steps.refl _) (a := a) (argsL := argsL) (rest := st) hlen hst (by show 2 * 0 + _ ≤ _; rw [Nat.mul_zero, Nat.zero_add]; exact hW) (hb C.2.1 hd) (fun _ _ => ⟨rfl, e0, hce, hsl⟩)
  dsimp only [Pt.U, Pt.locs, Pt.cells, Pt.slots] at X' l1 l2 l3 st' hq
  subst l1 l2 l3
  obtain ⟨s2, u, L, q, r⟩ := K _ _ hq.1 _ _ X' rfl (Fr.app N hq.2)
  exact ⟨s2, u, L, st'.trans q, r⟩
theorem w_callV (C : Cx p s m meth c Z own bytes ml rt nm) {pc pc' : Nat} {Ls : Array Slot} {stk st : List Value} {i : Nat} {a : Addr} {Cl : String} {ce' sl' : Nat} {y : MethodName} {cb : ByteArray} {cml : Nat} {cret : Option FieldType} {crm : Room} {argsL : List Value} {Q' : Option Value → Heap → Prop} {W : Nat} (w1 : (Jvm.Cond.methodLink own i y).before a0 Z = true) (w2 : (Jvm.Cond.declares y).before a0 Z = true) (w5 : (Jvm.Cond.selects Cl y y).before a0 Z = true) (w6 : (Jvm.Cond.instanceMethod y).before a0 Z = true) (w3 : (Jvm.Cond.initialized y.cls).before a0 Z = true) (w4 : (Jvm.Cond.code y cb cml cret).before a0 Z = true) (hy : y.cls ≠ "java/lang/invoke/MethodHandle" ∧ y.cls ≠ "java/lang/invoke/VarHandle")
    (hd : decode bytes pc = .ok (.invokevirtual i, 3)) (hp : pc + 3 = pc') (hst : stk = argsL.reverse ++ .ref a :: st) (hfr : crm.frames + 1 ≤ R.frames) (hlo : W + (cml + 11) + crm.locals ≤ R.locals) (hW : (st.map fun v => v.category).sum ≤ W) (hce1 : cells + crm.cells = ce') (hsl1 : slots + crm.slots = sl') (hce : ce' ≤ R.cells) (hsl : sl' ≤ R.slots) (hsz : Ls.size = ml) (hlen : ∀ sig, parseMethodDescriptor y.desc = some sig → argsL.length = sig.parameters.length) (E : Exa Z h a Cl) (ct : Ct l Z y cb cml cret [] crm (.ref a :: argsL).toArray h n0 Q')
    (K : ∀ v h', Q' v h' → Wp p l e R s m args below meth c n0 cM sM Q h' ce' sl' (mkF m pc' Ls (v.toList ++ st))) :
    Wp p l e R s m args below meth c n0 cM sM Q h cells slots (mkF m pc Ls stk) := by
  subst hp hce1 hsl1
  intro T locs X e0 N
  obtain ⟨_, _, qa, qb, qc⟩ := isOf C.2.2.1 e0 E
  obtain ⟨v, _, ⟨T', L', k', n'⟩, -, X', ⟨Lc, hq, l1, l2, l3⟩, st'⟩ := X.virtualBack C.1 (y := y) (z := y) C.2.2.2.1 (mvT C.2.2.1 w1) (mvT C.2.2.1 w2) (notFace_of_selects (args := #[]) (mvT C.2.2.1 w5)) (mvT C.2.2.1 w5) (mvT C.2.2.1 w6) hy (backOf (W := W) (Q := fun v hh L => Q' v hh ∧ Fr n0 L) ct C.2.2.1 w4 w3 hfr hlo) qa qc (g := mkF m pc Ls stk) rfl (hsz.trans C.2.2.2.2.1.symm) (Steps.refl _) (argsL := argsL) (rest := st) hlen hst (by show 2 * 0 + _ ≤ _; rw [Nat.mul_zero, Nat.zero_add]; exact hW) (hb C.2.1 hd) (fun _ _ => ⟨rfl, e0, hce, hsl⟩)
  dsimp only [Pt.U, Pt.locs, Pt.cells, Pt.slots] at X' l1 l2 l3 st' hq
  subst l1 l2 l3
  obtain ⟨s2, u, L, q, r⟩ := K _ _ hq.1 _ _ X' rfl (Fr.app N hq.2)
  exact ⟨s2, u, L, st'.trans q, r⟩
theorem w_callP (C : Cx p s m meth c Z own bytes ml rt nm) {pc pc' : Nat} {Ls : Array Slot} {stk st : List Value} {i : Nat} {a : Addr} {Cl : String} {ce' sl' : Nat} {y : MethodName} {cb : ByteArray} {cml : Nat} {cret : Option FieldType} {crm : Room} {argsL : List Value} {Q' : Option Value → Heap → Prop} {W : Nat} (w1 : (Jvm.Cond.methodLink own i y).before a0 Z = true) (w6 : (Jvm.Cond.instanceMethod y).before a0 Z = true) {kk : Nat} (w5 : (Jvm.Cond.instantiable y.cls kk).before a0 Z = true) (w7 : (Jvm.Cond.privateMethod y).before a0 Z = true) (w3 : (Jvm.Cond.initialized y.cls).before a0 Z = true) (w4 : (Jvm.Cond.code y cb cml cret).before a0 Z = true) (hy : y.cls ≠ "java/lang/invoke/MethodHandle" ∧ y.cls ≠ "java/lang/invoke/VarHandle")
    (hd : decode bytes pc = .ok (.invokevirtual i, 3)) (hp : pc + 3 = pc') (hst : stk = argsL.reverse ++ .ref a :: st) (hfr : crm.frames + 1 ≤ R.frames) (hlo : W + (cml + 11) + crm.locals ≤ R.locals) (hW : (st.map fun v => v.category).sum ≤ W) (hce1 : cells + crm.cells = ce') (hsl1 : slots + crm.slots = sl') (hce : ce' ≤ R.cells) (hsl : sl' ≤ R.slots) (hsz : Ls.size = ml) (hlen : ∀ sig, parseMethodDescriptor y.desc = some sig → argsL.length = sig.parameters.length) (E : Exa Z h a Cl) (ct : Ct l Z y cb cml cret [] crm (.ref a :: argsL).toArray h n0 Q')
    (K : ∀ v h', Q' v h' → Wp p l e R s m args below meth c n0 cM sM Q h' ce' sl' (mkF m pc' Ls (v.toList ++ st))) :
    Wp p l e R s m args below meth c n0 cM sM Q h cells slots (mkF m pc Ls stk) := by
  subst hp hce1 hsl1
  intro T locs X e0 N
  obtain ⟨cq, q1, q2⟩ := E.cell
  have hpr : s.PrivateAt y := Cond.privateMethod_at (mvP C.2.2.1 w7 (args := #[]))
  obtain ⟨ci, ki, i1, i2, -, i4, -⟩ := Cond.instantiable_spec (show (Jvm.Cond.instantiable y.cls kk).before #[] s = true from mvT C.2.2.1 w5)
  have hsel := selects_self_of_private (args := args) i1 i2 (by simp only [Bool.or_eq_false_iff] at i4; exact i4.1) hpr (mvT C.2.2.1 w6) hy
  obtain ⟨v, _, ⟨T', L', k', n'⟩, -, X', ⟨Lc, hq, l1, l2, l3⟩, st'⟩ := X.privateBack C.1 (y := y) C.2.2.2.1 (mvT C.2.2.1 w1) (mvT C.2.2.1 w6) hsel hpr (mvT C.2.2.1 w4) hy (backOf (W := W) (Q := fun v hh L => Q' v hh ∧ Fr n0 L) ct C.2.2.1 w4 w3 hfr hlo) (g := mkF m pc Ls stk) rfl (hsz.trans C.2.2.2.2.1.symm) (Steps.refl _) (a := a) (by rw [e0]; exact q1) q2 (argsL := argsL) (rest := st) hlen hst (by show 2 * 0 + _ ≤ _; rw [Nat.mul_zero, Nat.zero_add]; exact hW) (hb C.2.1 hd) (fun _ _ => ⟨rfl, e0, hce, hsl⟩)
  dsimp only [Pt.U, Pt.locs, Pt.cells, Pt.slots] at X' l1 l2 l3 st' hq
  subst l1 l2 l3
  obtain ⟨s2, u, L, q, r⟩ := K _ _ hq.1 _ _ X' rfl (Fr.app N hq.2)
  exact ⟨s2, u, L, st'.trans q, r⟩
theorem k1 {pc' ce' sl' : Nat} {Ls : Array Slot} {st : List Value} {r : Value} {P : Heap → Prop} (K : ∀ h', P h' → Wp p l e R s m args below meth c n0 cM sM Q h' ce' sl' (mkF m pc' Ls (r :: st))) : ∀ v h', (v = some r ∧ P h') → Wp p l e R s m args below meth c n0 cM sM Q h' ce' sl' (mkF m pc' Ls (v.toList ++ st)) := fun v h' q => by
  obtain ⟨rfl, q⟩ := q; exact K h' q
theorem k0 {pc' ce' sl' : Nat} {Ls : Array Slot} {st : List Value} {P : Heap → Prop} (K : ∀ h', P h' → Wp p l e R s m args below meth c n0 cM sM Q h' ce' sl' (mkF m pc' Ls st)) : ∀ v h', (v = none ∧ P h') → Wp p l e R s m args below meth c n0 cM sM Q h' ce' sl' (mkF m pc' Ls (v.toList ++ st)) := fun v h' q => by
  obtain ⟨rfl, q⟩ := q; exact K h' q
theorem kp {pc' ce' sl' : Nat} {Ls : Array Slot} {st : List Value} {r : Value} (K : Wp p l e R s m args below meth c n0 cM sM Q h ce' sl' (mkF m pc' Ls (r :: st))) : ∀ v h', (v = some r ∧ h' = h) → Wp p l e R s m args below meth c n0 cM sM Q h' ce' sl' (mkF m pc' Ls (v.toList ++ st)) := fun v h' q => by
  obtain ⟨rfl, rfl⟩ := q; exact K
theorem kx {pc' ce' sl' : Nat} {Ls : Array Slot} {st : List Value} {P : Addr → Heap → Prop} (K : ∀ b h', P b h' → Wp p l e R s m args below meth c n0 cM sM Q h' ce' sl' (mkF m pc' Ls (.ref b :: st))) : ∀ v h', (∃ b, v = some (.ref b) ∧ P b h') → Wp p l e R s m args below meth c n0 cM sM Q h' ce' sl' (mkF m pc' Ls (v.toList ++ st)) := fun v h' q => by
  obtain ⟨b, rfl, q⟩ := q; exact K b h' q
theorem kz {pc' ce' sl' : Nat} {Ls : Array Slot} {st : List Value} {P : Int32 → Heap → Prop} (K : ∀ b h', P b h' → Wp p l e R s m args below meth c n0 cM sM Q h' ce' sl' (mkF m pc' Ls (.int b :: st))) : ∀ v h', (∃ b, v = some (.int b) ∧ P b h') → Wp p l e R s m args below meth c n0 cM sM Q h' ce' sl' (mkF m pc' Ls (v.toList ++ st)) := fun v h' q => by
  obtain ⟨b, rfl, q⟩ := q; exact K b h' q
theorem kv {pc' ce' sl' : Nat} {Ls : Array Slot} {st : List Value} (K : Wp p l e R s m args below meth c n0 cM sM Q h ce' sl' (mkF m pc' Ls st)) : ∀ v h', (v = none ∧ h' = h) → Wp p l e R s m args below meth c n0 cM sM Q h' ce' sl' (mkF m pc' Ls (v.toList ++ st)) := fun v h' q => by
  obtain ⟨rfl, rfl⟩ := q; exact K
end Rules
theorem cat_ref {v : Value} (hv : v.isRef = true) : v.category = 1 := by cases v <;> simp [Value.isRef] at hv <;> rfl
theorem st_ref {Ls Ls' : Array Slot} {k : Nat} {v : Value} {o : Slot} (hv : v.isRef = true) (ho : Ls[k]? = some o) (hc : o = .unset ∨ ∃ w, o = .val w ∧ w.category = 1) (e : Ls.setIfInBounds k (.val v) = Ls') : storeLocals Ls k v = some Ls' := by
  rw [← e]; exact XS.store1 ho hc (cat_ref hv)
/-! objects and arrays, each one fact -/
section Facts
variable {Z : State} {h h' : Heap} {a b : Addr} {Cl n d : String} {v v' w : Value} {fs fs' : List (String × String × Value)} {ws : List Addr} {sl : Nat} {ty : FieldType} {vs : List Value}
/-- an object of exactly the class Cl, and what its fields hold -/
def Obj (Z : State) (h : Heap) (a : Addr) (Cl : String) (fs : List (String × String × Value)) : Prop :=
  Exa Z h a Cl ∧ (∀ (i : Nat) (f : String × String × Value), fs[i]? = some f → Fld Z h a Cl f.1 f.2.1 f.2.2) ∧ ∀ (i j : Nat) (f g : String × String × Value), fs[i]? = some f → fs[j]? = some g → i ≠ j → Jvm.RoadKit.slotOf Z Cl f.1 f.2.1 ≠ Jvm.RoadKit.slotOf Z Cl g.1 g.2.1
theorem Obj.lt (O : Obj Z h a Cl fs) : a < h.size := O.1.lt
theorem Obj.fld (O : Obj Z h a Cl fs) (i : Nat) (e : fs[i]? = some (n, d, v)) : Fld Z h a Cl n d v := O.2.1 i _ e
theorem Obj.ext (O : Obj Z h a Cl fs) (E : Ext h h') : Obj Z h' a Cl fs := ⟨O.1.ext E, fun i f q => (O.2.1 i f q).ext E, O.2.2⟩
theorem Obj.keep (O : Obj Z h a Cl fs) (K : Keep h h' ws) (q : a ∉ ws) : Obj Z h' a Cl fs := ⟨O.1.keep K, fun i f r => (O.2.1 i f r).keep K q, O.2.2⟩
theorem Obj.other (O : Obj Z h a Cl fs) (W : Wr h h' b sl w) (q : a ≠ b) : Obj Z h' a Cl fs := ⟨O.1.wr W, fun i f r => (O.2.1 i f r).other W (Or.inl q), O.2.2⟩
theorem Obj.put (O : Obj Z h a Cl fs) (i : Nat) (e : fs[i]? = some (n, d, v)) (W : Wr h h' a (Jvm.RoadKit.slotOf Z Cl n d) v') (e' : fs.set i (n, d, v') = fs') : Obj Z h' a Cl fs' := by
  subst e'
  have key : ∀ j f, (fs.set i (n, d, v'))[j]? = some f → ∃ u, fs[j]? = some (f.1, f.2.1, u) ∧ (j = i → f = (n, d, v')) ∧ (j ≠ i → fs[j]? = some f) := fun j f q => by
    by_cases z : i = j
    · subst z
      have hl : i < fs.length := (List.getElem?_eq_some_iff.mp e).1
      rw [List.getElem?_set_self hl] at q
      cases q
      exact ⟨v, e, fun _ => rfl, fun r => absurd rfl r⟩
    · rw [List.getElem?_set_ne z] at q
      exact ⟨f.2.2, q, fun r => absurd r.symm z, fun _ => q⟩
  refine ⟨O.1.wr W, fun j f q => ?_, fun j k f g q r z => ?_⟩
  · obtain ⟨u, k1, k2, k3⟩ := key j f q
    by_cases z : j = i
    · cases k2 z; subst z
      exact (O.fld j e).same W
    · have ne : Jvm.RoadKit.slotOf Z Cl f.1 f.2.1 ≠ Jvm.RoadKit.slotOf Z Cl n d := O.2.2 j i f (n, d, v) (k3 z) e z
      exact Fld.other W (O.2.1 j f (k3 z)) (Or.inr ne)
  · obtain ⟨u, k1, -⟩ := key j f q
    obtain ⟨u', k2, -⟩ := key k g r
    exact O.2.2 j k (f.1, f.2.1, u) (g.1, g.2.1, u') k1 k2 z
theorem Obj.size (O : Obj Z h a Cl fs) (K : Keep h h' ws) : h.size ≤ h'.size := K.1
/-- an array of the component type ty, and what it holds -/
def Ar (Z : State) (h : Heap) (a : Addr) (ty : FieldType) (vs : List Value) : Prop := ∃ cl : Cell, Arr Z h a cl ty ∧ cl.slots = vs.toArray
theorem Ar.lt (A : Ar Z h a ty vs) : a < h.size := by obtain ⟨_, A, -⟩ := A; exact A.lt
theorem Ar.ext (A : Ar Z h a ty vs) (E : Ext h h') : Ar Z h' a ty vs := by obtain ⟨cl, A, q⟩ := A; exact ⟨cl, A.ext E, q⟩
theorem Ar.keep (A : Ar Z h a ty vs) (K : Keep h h' ws) (q : a ∉ ws) : Ar Z h' a ty vs := by obtain ⟨cl, A, r⟩ := A; exact ⟨cl, ⟨K.2.1 a cl A.1 q, A.2⟩, r⟩
theorem Ar.other (A : Ar Z h a ty vs) (W : Wr h h' b sl w) (q : a ≠ b) : Ar Z h' a ty vs := by obtain ⟨cl, A, r⟩ := A; exact ⟨cl, A.other W q, r⟩
theorem set_slots {cl : Cell} (r : cl.slots = vs.toArray) (j : Nat) (v : Value) : (cl.setSlot j v).slots = (vs.set j v).toArray := by
  show cl.slots.setIfInBounds j v = _
  rw [r]; simp
theorem Ar.set (A : Ar Z h a ty vs) (W : Wr h h' a sl w) : Ar Z h' a ty (vs.set sl w) := by
  obtain ⟨cl, A, r⟩ := A; exact ⟨_, A.same W, set_slots r _ _⟩
theorem Ar.new {cA : ClassId} {z : Int32} (A : Arr Z h a (newA cA ty z) ty) : Ar Z h a ty (List.replicate z.toNatClampNeg (defaultValue ty)) := ⟨_, A, by simp [newA]⟩
theorem Ar.nin {cl : Cell} {j : Int32} (r : cl.slots = vs.toArray) (hj : ¬ j < 0) (hl : j.toNatClampNeg < vs.length) : ¬ (j < 0 ∨ cl.slots.size ≤ j.toNatClampNeg) := by
  rw [r]; simp only [List.size_toArray]
  exact fun q => q.elim hj (fun q => Nat.not_le.mpr hl q)
theorem Ar.at {cl : Cell} {k : Nat} (r : cl.slots = vs.toArray) (hv : vs[k]? = some v) : cl.slots[k]? = some v := by rw [r]; simpa using hv
/-- an array of references to objects of the class Cl -/
def ArR (Z : State) (h : Heap) (a : Addr) (Cl : String) (vs : List Value) : Prop := ∃ cl : Cell, Arr Z h a cl (.object Cl) ∧ cl.slots = vs.toArray ∧ Ovr Z cl.cls Cl
theorem ArR.lt (A : ArR Z h a Cl vs) : a < h.size := by obtain ⟨_, A, -⟩ := A; exact A.lt
theorem ArR.ext (A : ArR Z h a Cl vs) (E : Ext h h') : ArR Z h' a Cl vs := by obtain ⟨cl, A, q⟩ := A; exact ⟨cl, A.ext E, q⟩
theorem ArR.keep (A : ArR Z h a Cl vs) (K : Keep h h' ws) (q : a ∉ ws) : ArR Z h' a Cl vs := by obtain ⟨cl, A, r⟩ := A; exact ⟨cl, ⟨K.2.1 a cl A.1 q, A.2⟩, r⟩
theorem ArR.other (A : ArR Z h a Cl vs) (W : Wr h h' b sl w) (q : a ≠ b) : ArR Z h' a Cl vs := by obtain ⟨cl, A, r⟩ := A; exact ⟨cl, A.other W q, r⟩
theorem ArR.set (A : ArR Z h a Cl vs) (W : Wr h h' a sl w) : ArR Z h' a Cl (vs.set sl w) := by
  obtain ⟨cl, A, r, q⟩ := A; exact ⟨_, A.same W, set_slots r _ _, q⟩
theorem ArR.new {cA : ClassId} {z : Int32} (A : Arr Z h a (newA cA (.object Cl) z) (.object Cl)) (O : Ovr Z cA Cl) : ArR Z h a Cl (List.replicate z.toNatClampNeg .null) := ⟨_, A, by simp [newA, defaultValue], O⟩
theorem ArR.sto (A : ArR Z h a Cl vs) {y : Addr} (E : Exa Z h y Cl) : Sto Z h a (.ref y) := by
  obtain ⟨cl, A, -, q⟩ := A; exact Sto.ofV A rfl q (Ins.self E)
theorem Keep.app (K : Keep h h' ws) {h2 : Heap} {ws2 ws3 : List Addr} (K' : Keep h' h2 ws2) (q1 : ∀ x ∈ ws, x ∈ ws3 ∨ h.size ≤ x) (q : ∀ x ∈ ws2, x ∈ ws3 ∨ h.size ≤ x) : Keep h h2 ws3 := by
  refine Keep.trans (ws := ws3) ⟨K.1, fun x c r z => ?_, K.2.2⟩ K' q
  refine K.2.1 x c r fun y => ?_
  rcases q1 x y with u | u
  · exact z u
  · exact absurd (Array.getElem?_eq_some_iff.mp r).1 (Nat.not_lt.mpr u)
end Facts
section Rules2
variable {p : Program} {l : Launch} {e : Env} {R : Room} {s : State} {m : MethodId} {args : Array Value} {below : List Frame} {meth : Method} {c : Code} {n0 cM sM : Nat} {Q : Option Value → Heap → Prop} {h : Heap} {cells slots : Nat}
variable {Z : State} {own nm : String} {bytes : ByteArray} {ml : Nat} {rt : Option FieldType} {a0 : Array Value}
theorem wA_iaload (C : Cx p s m meth c Z own bytes ml rt nm) {pc pc' : Nat} {Ls : Array Slot} {st : List Value} {a : Addr} {vs : List Value} {j : Int32} {v : Value} (hd : decode bytes pc = .ok (.iaload, 1)) (hp : pc + 1 = pc') (A : Ar Z h a .int vs) (hj : ¬ j < 0) (hv : vs[j.toNatClampNeg]? = some v)
    (K : Wp p l e R s m args below meth c n0 cM sM Q h cells slots (mkF m pc' Ls (v :: st))) : Wp p l e R s m args below meth c n0 cM sM Q h cells slots (mkF m pc Ls (.int j :: .ref a :: st)) := by
  obtain ⟨cl, A, r⟩ := A
  exact w_iaload C hd hp A (Ar.nin r hj (List.getElem?_eq_some_iff.mp hv).1) (Ar.at r hv) K
theorem wA_laload (C : Cx p s m meth c Z own bytes ml rt nm) {pc pc' : Nat} {Ls : Array Slot} {st : List Value} {a : Addr} {vs : List Value} {j : Int32} {v : Value} (hd : decode bytes pc = .ok (.laload, 1)) (hp : pc + 1 = pc') (A : Ar Z h a .long vs) (hj : ¬ j < 0) (hv : vs[j.toNatClampNeg]? = some v)
    (K : Wp p l e R s m args below meth c n0 cM sM Q h cells slots (mkF m pc' Ls (v :: st))) : Wp p l e R s m args below meth c n0 cM sM Q h cells slots (mkF m pc Ls (.int j :: .ref a :: st)) := by
  obtain ⟨cl, A, r⟩ := A
  exact w_laload C hd hp A (Ar.nin r hj (List.getElem?_eq_some_iff.mp hv).1) (Ar.at r hv) K
theorem wA_caload (C : Cx p s m meth c Z own bytes ml rt nm) {pc pc' : Nat} {Ls : Array Slot} {st : List Value} {a : Addr} {vs : List Value} {j : Int32} {v : Value} (hd : decode bytes pc = .ok (.caload, 1)) (hp : pc + 1 = pc') (A : Ar Z h a .char vs) (hj : ¬ j < 0) (hv : vs[j.toNatClampNeg]? = some v)
    (K : Wp p l e R s m args below meth c n0 cM sM Q h cells slots (mkF m pc' Ls (v :: st))) : Wp p l e R s m args below meth c n0 cM sM Q h cells slots (mkF m pc Ls (.int j :: .ref a :: st)) := by
  obtain ⟨cl, A, r⟩ := A
  exact w_caload C hd hp A (Ar.nin r hj (List.getElem?_eq_some_iff.mp hv).1) (Ar.at r hv) K
theorem wA_baload (C : Cx p s m meth c Z own bytes ml rt nm) {pc pc' : Nat} {Ls : Array Slot} {st : List Value} {a : Addr} {vs : List Value} {j : Int32} {v : Value} (hd : decode bytes pc = .ok (.baload, 1)) (hp : pc + 1 = pc') (A : Ar Z h a .byte vs) (hj : ¬ j < 0) (hv : vs[j.toNatClampNeg]? = some v)
    (K : Wp p l e R s m args below meth c n0 cM sM Q h cells slots (mkF m pc' Ls (v :: st))) : Wp p l e R s m args below meth c n0 cM sM Q h cells slots (mkF m pc Ls (.int j :: .ref a :: st)) := by
  obtain ⟨cl, A, r⟩ := A
  exact w_baload C hd hp A (Ar.nin r hj (List.getElem?_eq_some_iff.mp hv).1) (Ar.at r hv) K
theorem wA_aaload (C : Cx p s m meth c Z own bytes ml rt nm) {pc pc' : Nat} {Ls : Array Slot} {st : List Value} {a : Addr} {Cl : String} {vs : List Value} {j : Int32} {v : Value} (hd : decode bytes pc = .ok (.aaload, 1)) (hp : pc + 1 = pc') (A : ArR Z h a Cl vs) (hj : ¬ j < 0) (hv : vs[j.toNatClampNeg]? = some v)
    (K : Wp p l e R s m args below meth c n0 cM sM Q h cells slots (mkF m pc' Ls (v :: st))) : Wp p l e R s m args below meth c n0 cM sM Q h cells slots (mkF m pc Ls (.int j :: .ref a :: st)) := by
  obtain ⟨cl, A, r, -⟩ := A
  exact w_aaload C hd hp A rfl (Ar.nin r hj (List.getElem?_eq_some_iff.mp hv).1) (Ar.at r hv) K
theorem wA_iastore (C : Cx p s m meth c Z own bytes ml rt nm) {pc pc' : Nat} {Ls : Array Slot} {st : List Value} {a : Addr} {vs : List Value} {j : Int32} {x : Int32} (hd : decode bytes pc = .ok (.iastore, 1)) (hp : pc + 1 = pc') (g0 : n0 ≤ a) (A : Ar Z h a .int vs) (hj : ¬ j < 0) (hl : j.toNatClampNeg < vs.length)
    (K : ∀ h', Wr h h' a j.toNatClampNeg (.int x) → Ar Z h' a .int (vs.set j.toNatClampNeg (.int x)) → Wp p l e R s m args below meth c n0 cM sM Q h' cells slots (mkF m pc' Ls st)) : Wp p l e R s m args below meth c n0 cM sM Q h cells slots (mkF m pc Ls (.int x :: .int j :: .ref a :: st)) := by
  have A' := A
  obtain ⟨cl, A, r⟩ := A
  exact w_iastore C hd hp g0 A (Ar.nin r hj hl) (fun h' W => K h' W (A'.set W))
theorem wA_lastore (C : Cx p s m meth c Z own bytes ml rt nm) {pc pc' : Nat} {Ls : Array Slot} {st : List Value} {a : Addr} {vs : List Value} {j : Int32} {x : Int64} (hd : decode bytes pc = .ok (.lastore, 1)) (hp : pc + 1 = pc') (g0 : n0 ≤ a) (A : Ar Z h a .long vs) (hj : ¬ j < 0) (hl : j.toNatClampNeg < vs.length)
    (K : ∀ h', Wr h h' a j.toNatClampNeg (.long x) → Ar Z h' a .long (vs.set j.toNatClampNeg (.long x)) → Wp p l e R s m args below meth c n0 cM sM Q h' cells slots (mkF m pc' Ls st)) : Wp p l e R s m args below meth c n0 cM sM Q h cells slots (mkF m pc Ls (.long x :: .int j :: .ref a :: st)) := by
  have A' := A
  obtain ⟨cl, A, r⟩ := A
  exact w_lastore C hd hp g0 A (Ar.nin r hj hl) (fun h' W => K h' W (A'.set W))
theorem wA_castore (C : Cx p s m meth c Z own bytes ml rt nm) {pc pc' : Nat} {Ls : Array Slot} {st : List Value} {a : Addr} {vs : List Value} {j : Int32} {x : Int32} (hd : decode bytes pc = .ok (.castore, 1)) (hp : pc + 1 = pc') (g0 : n0 ≤ a) (A : Ar Z h a .char vs) (hj : ¬ j < 0) (hl : j.toNatClampNeg < vs.length)
    (K : ∀ h', Wr h h' a j.toNatClampNeg (.int (toCh x)) → Ar Z h' a .char (vs.set j.toNatClampNeg (.int (toCh x))) → Wp p l e R s m args below meth c n0 cM sM Q h' cells slots (mkF m pc' Ls st)) : Wp p l e R s m args below meth c n0 cM sM Q h cells slots (mkF m pc Ls (.int x :: .int j :: .ref a :: st)) := by
  have A' := A
  obtain ⟨cl, A, r⟩ := A
  exact w_castore C hd hp g0 A (Ar.nin r hj hl) (fun h' W => K h' W (A'.set W))
theorem wA_aastore (C : Cx p s m meth c Z own bytes ml rt nm) {pc pc' : Nat} {Ls : Array Slot} {st : List Value} {a : Addr} {Cl : String} {vs : List Value} {j : Int32} {v : Value} (hd : decode bytes pc = .ok (.aastore, 1)) (hp : pc + 1 = pc') (g0 : n0 ≤ a) (A : ArR Z h a Cl vs) (hj : ¬ j < 0) (hl : j.toNatClampNeg < vs.length) (F : Sto Z h a v)
    (K : ∀ h', Wr h h' a j.toNatClampNeg v → ArR Z h' a Cl (vs.set j.toNatClampNeg v) → Wp p l e R s m args below meth c n0 cM sM Q h' cells slots (mkF m pc' Ls st)) : Wp p l e R s m args below meth c n0 cM sM Q h cells slots (mkF m pc Ls (v :: .int j :: .ref a :: st)) := by
  have A' := A
  obtain ⟨cl, A, r, -⟩ := A
  exact w_aastore C hd hp g0 A (Ar.nin r hj hl) rfl F (fun h' W => K h' W (A'.set W))
theorem wA_alen (C : Cx p s m meth c Z own bytes ml rt nm) {pc pc' : Nat} {Ls : Array Slot} {st : List Value} {a : Addr} {ty : FieldType} {vs : List Value} {n : Int32} (hd : decode bytes pc = .ok (.arraylength, 1)) (hp : pc + 1 = pc') (A : Ar Z h a ty vs) (hn : vs.length.toInt32 = n)
    (K : Wp p l e R s m args below meth c n0 cM sM Q h cells slots (mkF m pc' Ls (.int n :: st))) : Wp p l e R s m args below meth c n0 cM sM Q h cells slots (mkF m pc Ls (.ref a :: st)) := by
  obtain ⟨cl, A, r⟩ := A
  exact w_alen C hd hp A (by rw [r]; simpa using hn) K
theorem wA_alenR (C : Cx p s m meth c Z own bytes ml rt nm) {pc pc' : Nat} {Ls : Array Slot} {st : List Value} {a : Addr} {Cl : String} {vs : List Value} {n : Int32} (hd : decode bytes pc = .ok (.arraylength, 1)) (hp : pc + 1 = pc') (A : ArR Z h a Cl vs) (hn : vs.length.toInt32 = n)
    (K : Wp p l e R s m args below meth c n0 cM sM Q h cells slots (mkF m pc' Ls (.int n :: st))) : Wp p l e R s m args below meth c n0 cM sM Q h cells slots (mkF m pc Ls (.ref a :: st)) := by
  obtain ⟨cl, A, r, -⟩ := A
  exact w_alen C hd hp A (by rw [r]; simpa using hn) K
theorem wA_newP (C : Cx p s m meth c Z own bytes ml rt nm) {pc pc' ce' sl' : Nat} {Ls : Array Slot} {st : List Value} {aty : ArrayType} {n : Int32} {cap : Nat} (w : (Jvm.Cond.arrayClass (newarray.typeOf aty)).before a0 Z = true) (hd : decode bytes pc = .ok (.newarray aty, 2)) (hp : pc + 2 = pc') (hn : ¬ n < 0) (hcap : n.toNatClampNeg ≤ cap) (hbig : cap * 8 ≤ 536870912) (hc1 : cells + 1 = ce') (hl1 : slots + cap = sl') (hc : ce' ≤ R.cells) (hl : sl' ≤ R.slots)
    (K : ∀ h' a, a = h.size → Ext h h' → Ar Z h' a (newarray.typeOf aty) (List.replicate n.toNatClampNeg (defaultValue (newarray.typeOf aty))) → Wp p l e R s m args below meth c n0 cM sM Q h' ce' sl' (mkF m pc' Ls (.ref a :: st))) : Wp p l e R s m args below meth c n0 cM sM Q h cells slots (mkF m pc Ls (.int n :: st)) :=
  w_newP C w hd hp hn hcap hbig hc1 hl1 hc hl (fun h' a cA e E A => K h' a e E (Ar.new A))
theorem wA_newR (C : Cx p s m meth c Z own bytes ml rt nm) {pc pc' ce' sl' : Nat} {Ls : Array Slot} {st : List Value} {Cl : String} {i : Nat} {n : Int32} {cap : Nat} (w1 : (Jvm.Cond.classLink own i Cl).before a0 Z = true) (w2 : (Jvm.Cond.arrayOver (.object Cl)).before a0 Z = true) (hd : decode bytes pc = .ok (.anewarray i, 3)) (hp : pc + 3 = pc') (hn : ¬ n < 0) (hcap : n.toNatClampNeg ≤ cap) (hbig : cap * 8 ≤ 536870912) (hc1 : cells + 1 = ce') (hl1 : slots + cap = sl') (hc : ce' ≤ R.cells) (hl : sl' ≤ R.slots)
    (K : ∀ h' a, a = h.size → Ext h h' → ArR Z h' a Cl (List.replicate n.toNatClampNeg .null) → Wp p l e R s m args below meth c n0 cM sM Q h' ce' sl' (mkF m pc' Ls (.ref a :: st))) : Wp p l e R s m args below meth c n0 cM sM Q h cells slots (mkF m pc Ls (.int n :: st)) :=
  w_newR C w1 w2 hd hp hn hcap hbig hc1 hl1 hc hl (fun h' a cA e E A O => K h' a e E (ArR.new A O))
end Rules2
theorem cmpJ_gt (x y : Int64) : (0 < cmpJ x y) = (y < x) := propext (lw_gt x y)
theorem cmpJ_lt (x y : Int64) : (cmpJ x y < 0) = (x < y) := propext (lw_lt x y)
theorem cmpJ_eq (x y : Int64) : (cmpJ x y = 0) = (x = y) := propext (lw_eq x y)
theorem toCh_rng (x : Int32) : 0 ≤ (toCh x).toInt ∧ (toCh x).toInt < 65536 := ⟨(c_i2c x).2.1, (c_i2c x).2.2⟩
theorem toCh_mod (x : Int32) : ((toCh x).toInt - x.toInt) % 65536 = 0 := (c_i2c x).1
theorem toCh_id {x : Int32} (h0 : 0 ≤ x.toInt) (h1 : x.toInt < 65536) : toCh x = x := by
  apply Int32.toInt_inj.mp
  have := toCh_rng x; have := toCh_mod x
  omega
/-- an int in 0 .. n-1 is one of the n numbers -/
theorem small_int {n : Nat} {x : Int32} (h0 : 0 ≤ x.toInt) (h1 : x.toInt < n) : ∃ k : Fin n, x = Int32.ofInt (k.1 : Int) := by
  refine ⟨⟨x.toInt.toNat, by omega⟩, ?_⟩
  show x = Int32.ofInt ((x.toInt.toNat : Nat) : Int)
  rw [Int.toNat_of_nonneg h0, Int32.ofInt_toInt]
end Jvm.Own
namespace Jvm.Pilot.@@N@@
open Jvm Jvm.ClassFile Sem Op Lib Jvm.Free Jvm.Stand Jvm.LawKit Jvm.RoadKit Jvm.Own Bundle Jvm.Pilot.@@N@@.Jvm.D
theorem tw {tabs : List Jvm.Cond} {a0 : Array Value} {Z : State} (hw : ∀ d ∈ tabs, d.before a0 Z = true) (i : Nat) {d : Jvm.Cond} (h : tabs[i]? = some d) : d.before a0 Z = true := hw _ (List.mem_of_getElem? h)
theorem pd_0 : parseMethodDescriptor "([JJ)V" = some ⟨[(.array .long), .long], none⟩ := by decide +kernel
theorem pd_1 : parseMethodDescriptor "(I)[J" = some ⟨[.int], some (.array .long)⟩ := by decide +kernel
theorem pd_2 : parseMethodDescriptor "(JJ)J" = some ⟨[.long, .long], some .long⟩ := by decide +kernel
theorem pd_3 : parseMethodDescriptor "(IJ)V" = some ⟨[.int, .long], none⟩ := by decide +kernel
theorem pd_4 : parseMethodDescriptor "(Ltallygate/RequestQueue$Entry;)V" = some ⟨[(.object "tallygate/RequestQueue$Entry")], none⟩ := by decide +kernel
theorem pd_5 : parseMethodDescriptor "()V" = some ⟨[], none⟩ := by decide +kernel
theorem pd_6 : parseMethodDescriptor "(II)I" = some ⟨[.int, .int], some .int⟩ := by decide +kernel
theorem pd_7 : parseMethodDescriptor "(I)V" = some ⟨[.int], none⟩ := by decide +kernel
theorem pd_8 : parseMethodDescriptor "()Z" = some ⟨[], some .boolean⟩ := by decide +kernel
theorem pd_9 : parseMethodDescriptor "(Ltallygate/RequestQueue;Ltallygate/RequestQueue$Entry;Ltallygate/RequestQueue$Entry;II)I" = some ⟨[(.object "tallygate/RequestQueue"), (.object "tallygate/RequestQueue$Entry"), (.object "tallygate/RequestQueue$Entry"), .int, .int], some .int⟩ := by decide +kernel
theorem obj_Q {Z : State} {a0 : Array Value} (hw : ∀ d ∈ tables_1, d.before a0 Z = true) {h : Heap} {a : Addr} (A : Exa Z h a "tallygate/RequestQueue") (D : ∀ {O nm d : String} {ty : FieldType}, Laid Z a0 "tallygate/RequestQueue" O nm d → parseFieldDescriptor d = some ty → Fld Z h a O nm d (defaultValue ty)) :
    Obj Z h a "tallygate/RequestQueue" [("slots", "[Ltallygate/RequestQueue$Entry;", .null), ("least", "[J", .null), ("size", "I", .int (0 : Int32)), ("end", "I", .int (0 : Int32))] := by
  refine ⟨A, fun i f q => ?_, fun i j f g q r z => ?_⟩
  · match i, q with
    | 0, q => cases q; exact D (Or.inl (tw hw 12 rfl)) (ty := (.array (.object "tallygate/RequestQueue$Entry"))) (by decide)
    | 1, q => cases q; exact D (Or.inl (tw hw 23 rfl)) (ty := (.array .long)) (by decide)
    | 2, q => cases q; exact D (Or.inl (tw hw 45 rfl)) (ty := .int) (by decide)
    | 3, q => cases q; exact D (Or.inl (tw hw 56 rfl)) (ty := .int) (by decide)
    | (k + 4), q => simp at q
  · match i, j, q, r, z with
    | 0, 0, q, r, z => exact absurd rfl z
    | 0, 1, q, r, z => cases q; cases r; exact slot_ne (C := "tallygate/RequestQueue") (Or.inl (tw hw 12 rfl)) (Or.inl (tw hw 23 rfl)) (by decide) (t := (.array (.object "tallygate/RequestQueue$Entry"))) (t' := (.array .long)) (by decide) (by decide)
    | 0, 2, q, r, z => cases q; cases r; exact slot_ne (C := "tallygate/RequestQueue") (Or.inl (tw hw 12 rfl)) (Or.inl (tw hw 45 rfl)) (by decide) (t := (.array (.object "tallygate/RequestQueue$Entry"))) (t' := .int) (by decide) (by decide)
    | 0, 3, q, r, z => cases q; cases r; exact slot_ne (C := "tallygate/RequestQueue") (Or.inl (tw hw 12 rfl)) (Or.inl (tw hw 56 rfl)) (by decide) (t := (.array (.object "tallygate/RequestQueue$Entry"))) (t' := .int) (by decide) (by decide)
    | 1, 0, q, r, z => cases q; cases r; exact slot_ne (C := "tallygate/RequestQueue") (Or.inl (tw hw 23 rfl)) (Or.inl (tw hw 12 rfl)) (by decide) (t := (.array .long)) (t' := (.array (.object "tallygate/RequestQueue$Entry"))) (by decide) (by decide)
    | 1, 1, q, r, z => exact absurd rfl z
    | 1, 2, q, r, z => cases q; cases r; exact slot_ne (C := "tallygate/RequestQueue") (Or.inl (tw hw 23 rfl)) (Or.inl (tw hw 45 rfl)) (by decide) (t := (.array .long)) (t' := .int) (by decide) (by decide)
    | 1, 3, q, r, z => cases q; cases r; exact slot_ne (C := "tallygate/RequestQueue") (Or.inl (tw hw 23 rfl)) (Or.inl (tw hw 56 rfl)) (by decide) (t := (.array .long)) (t' := .int) (by decide) (by decide)
    | 2, 0, q, r, z => cases q; cases r; exact slot_ne (C := "tallygate/RequestQueue") (Or.inl (tw hw 45 rfl)) (Or.inl (tw hw 12 rfl)) (by decide) (t := .int) (t' := (.array (.object "tallygate/RequestQueue$Entry"))) (by decide) (by decide)
    | 2, 1, q, r, z => cases q; cases r; exact slot_ne (C := "tallygate/RequestQueue") (Or.inl (tw hw 45 rfl)) (Or.inl (tw hw 23 rfl)) (by decide) (t := .int) (t' := (.array .long)) (by decide) (by decide)
    | 2, 2, q, r, z => exact absurd rfl z
    | 2, 3, q, r, z => cases q; cases r; exact slot_ne (C := "tallygate/RequestQueue") (Or.inl (tw hw 45 rfl)) (Or.inl (tw hw 56 rfl)) (by decide) (t := .int) (t' := .int) (by decide) (by decide)
    | 3, 0, q, r, z => cases q; cases r; exact slot_ne (C := "tallygate/RequestQueue") (Or.inl (tw hw 56 rfl)) (Or.inl (tw hw 12 rfl)) (by decide) (t := .int) (t' := (.array (.object "tallygate/RequestQueue$Entry"))) (by decide) (by decide)
    | 3, 1, q, r, z => cases q; cases r; exact slot_ne (C := "tallygate/RequestQueue") (Or.inl (tw hw 56 rfl)) (Or.inl (tw hw 23 rfl)) (by decide) (t := .int) (t' := (.array .long)) (by decide) (by decide)
    | 3, 2, q, r, z => cases q; cases r; exact slot_ne (C := "tallygate/RequestQueue") (Or.inl (tw hw 56 rfl)) (Or.inl (tw hw 45 rfl)) (by decide) (t := .int) (t' := .int) (by decide) (by decide)
    | 3, 3, q, r, z => exact absurd rfl z
    | (k + 4), j, q, r, z => simp at q
    | 0, (k + 4), q, r, z => simp at r
    | 1, (k + 4), q, r, z => simp at r
    | 2, (k + 4), q, r, z => simp at r
    | 3, (k + 4), q, r, z => simp at r
theorem obj_E {Z : State} {a0 : Array Value} (hw : ∀ d ∈ tables_1, d.before a0 Z = true) {h : Heap} {a : Addr} (A : Exa Z h a "tallygate/RequestQueue$Entry") (D : ∀ {O nm d : String} {ty : FieldType}, Laid Z a0 "tallygate/RequestQueue$Entry" O nm d → parseFieldDescriptor d = some ty → Fld Z h a O nm d (defaultValue ty)) :
    Obj Z h a "tallygate/RequestQueue$Entry" [("slot", "I", .int (0 : Int32)), ("permits", "I", .int (0 : Int32))] := by
  refine ⟨A, fun i f q => ?_, fun i j f g q r z => ?_⟩
  · match i, q with
    | 0, q => cases q; exact D (Or.inl (tw hw 36 rfl)) (ty := .int) (by decide)
    | 1, q => cases q; exact D (Or.inr (tw hw 38 rfl)) (ty := .int) (by decide)
    | (k + 2), q => simp at q
  · match i, j, q, r, z with
    | 0, 0, q, r, z => exact absurd rfl z
    | 0, 1, q, r, z => cases q; cases r; exact slot_ne (C := "tallygate/RequestQueue$Entry") (Or.inl (tw hw 36 rfl)) (Or.inr (tw hw 38 rfl)) (by decide) (t := .int) (t' := .int) (by decide) (by decide)
    | 1, 0, q, r, z => cases q; cases r; exact slot_ne (C := "tallygate/RequestQueue$Entry") (Or.inr (tw hw 38 rfl)) (Or.inl (tw hw 36 rfl)) (by decide) (t := .int) (t' := .int) (by decide) (by decide)
    | 1, 1, q, r, z => exact absurd rfl z
    | (k + 2), j, q, r, z => simp at q
    | 0, (k + 2), q, r, z => simp at r
    | 1, (k + 2), q, r, z => simp at r
theorem d11_0 : decode jdk_29_method_70_code 0 = .ok (.lload_n 0, 1) := by decide +kernel
theorem d11_1 : decode jdk_29_method_70_code 1 = .ok (.lload_n 2, 1) := by decide +kernel
theorem d11_2 : decode jdk_29_method_70_code 2 = .ok (.lcmp, 1) := by decide +kernel
theorem d11_3 : decode jdk_29_method_70_code 3 = .ok (.ifCond .gt 7, 3) := by decide +kernel
theorem d11_6 : decode jdk_29_method_70_code 6 = .ok (.lload_n 0, 1) := by decide +kernel
theorem d11_7 : decode jdk_29_method_70_code 7 = .ok (.goto 4, 3) := by decide +kernel
theorem d11_10 : decode jdk_29_method_70_code 10 = .ok (.lload_n 2, 1) := by decide +kernel
theorem d11_11 : decode jdk_29_method_70_code 11 = .ok (.lreturn, 1) := by decide +kernel
def minJ (x : Int64) (y : Int64) : Int64 := (if 0 < (cmpJ x y) then y else x)
def rm_minJ : Room := { frames := 0, cells := 0, slots := 0, locals := 0 }
def Q_minJ (x : Int64) (y : Int64) (h0 : Heap) (v : Option Value) (h : Heap) : Prop := v = some (.long (minJ x y)) ∧ h = h0
theorem pf_minJ : plainFor (⟨"java/lang/Math", "min", "(JJ)J"⟩ : MethodName) = true := Jvm.Free.JP.mathPlain rfl (by decide)
set_option maxRecDepth 65536 in
set_option maxHeartbeats 40000000 in
theorem ct_minJ {l : Launch} {Z : State} {a0 : Array Value} (hw : ∀ d ∈ tables_1, d.before a0 Z = true) (h0 : Heap) (n0 : Nat) (x : Int64) (y : Int64)  :
    Ct l Z (⟨"java/lang/Math", "min", "(JJ)J"⟩ : MethodName) jdk_29_method_70_code 4 (Option.some Jvm.ClassFile.FieldType.long) [] rm_minJ #[.long x, .long y] h0 n0 (Q_minJ x y h0) := by
  refine Ct.of (Ls := #[.val (.long x), .second, .val (.long y), .second]) pf_minJ (fun m => by first | (simp [entryFrame, mkF, argsToLocals, Value.category, maxLocals]; done) | rfl) ?_
  intro p e s m below meth c C
  have hr : minJ x y = (if 0 < (cmpJ x y) then y else x) := rfl
  refine w_lloadN (pc' := 1) C d11_0 rfl rfl ?_
  refine w_lloadN (pc' := 2) C d11_1 rfl rfl ?_
  refine w_lcmp (pc' := 3) C d11_2 rfl ?_
  refine w_if_gt (pcT := 10) (pcF := 6) C d11_3 (by decide) (by decide) rfl (fun q3 => ?_) (fun q3 => ?_)
  · have hr := hr.trans (if_pos q3)
    refine w_lloadN (pc' := 11) C d11_10 rfl rfl ?_
    refine w_retJ C rfl d11_11 (by decide) (by decide) ?_
    exact And.intro (congrArg (fun z => some (Value.long z)) hr.symm) rfl
  · have hr := hr.trans (if_neg q3)
    refine w_lloadN (pc' := 7) C d11_6 rfl rfl ?_
    refine w_goto (pc' := 11) C d11_7 (by decide) (by decide) ?_
    refine w_retJ C rfl d11_11 (by decide) (by decide) ?_
    exact And.intro (congrArg (fun z => some (Value.long z)) hr.symm) rfl
theorem d5_0 : decode jdk_29_method_65_code 0 = .ok (.iload_n 0, 1) := by decide +kernel
theorem d5_1 : decode jdk_29_method_65_code 1 = .ok (.iload_n 1, 1) := by decide +kernel
theorem d5_2 : decode jdk_29_method_65_code 2 = .ok (.if_icmp .lt 7, 3) := by decide +kernel
theorem d5_5 : decode jdk_29_method_65_code 5 = .ok (.iload_n 0, 1) := by decide +kernel
theorem d5_6 : decode jdk_29_method_65_code 6 = .ok (.goto 4, 3) := by decide +kernel
theorem d5_9 : decode jdk_29_method_65_code 9 = .ok (.iload_n 1, 1) := by decide +kernel
theorem d5_10 : decode jdk_29_method_65_code 10 = .ok (.ireturn, 1) := by decide +kernel
def maxI (x : Int32) (y : Int32) : Int32 := (if x < y then y else x)
def rm_maxI : Room := { frames := 0, cells := 0, slots := 0, locals := 0 }
def Q_maxI (x : Int32) (y : Int32) (h0 : Heap) (v : Option Value) (h : Heap) : Prop := v = some (.int (maxI x y)) ∧ h = h0
theorem pf_maxI : plainFor (⟨"java/lang/Math", "max", "(II)I"⟩ : MethodName) = true := Jvm.Free.JP.mathPlain rfl (by decide)
set_option maxRecDepth 65536 in
set_option maxHeartbeats 40000000 in
theorem ct_maxI {l : Launch} {Z : State} {a0 : Array Value} (hw : ∀ d ∈ tables_1, d.before a0 Z = true) (h0 : Heap) (n0 : Nat) (x : Int32) (y : Int32)  :
    Ct l Z (⟨"java/lang/Math", "max", "(II)I"⟩ : MethodName) jdk_29_method_65_code 2 (Option.some Jvm.ClassFile.FieldType.int) [] rm_maxI #[.int x, .int y] h0 n0 (Q_maxI x y h0) := by
  refine Ct.of (Ls := #[.val (.int x), .val (.int y)]) pf_maxI (fun m => by first | (simp [entryFrame, mkF, argsToLocals, Value.category, maxLocals]; done) | rfl) ?_
  intro p e s m below meth c C
  have hr : maxI x y = (if x < y then y else x) := rfl
  refine w_iloadN (pc' := 1) C d5_0 rfl rfl ?_
  refine w_iloadN (pc' := 2) C d5_1 rfl rfl ?_
  refine w_icmp_lt (pcT := 9) (pcF := 5) C d5_2 (by decide) (by decide) rfl (fun q2 => ?_) (fun q2 => ?_)
  · have hr := hr.trans (if_pos q2)
    refine w_iloadN (pc' := 10) C d5_9 rfl rfl ?_
    refine w_retI C rfl d5_10 (by decide) (by decide) ?_
    exact And.intro (congrArg (fun z => some (Value.int z)) hr.symm) rfl
  · have hr := hr.trans (if_neg q2)
    refine w_iloadN (pc' := 6) C d5_5 rfl rfl ?_
    refine w_goto (pc' := 10) C d5_6 (by decide) (by decide) ?_
    refine w_retI C rfl d5_10 (by decide) (by decide) ?_
    exact And.intro (congrArg (fun z => some (Value.int z)) hr.symm) rfl
def sl3 (a b c : Value) : List Value := [a, b, c, .null, .null, .null, .null, .null, .null, .null, .null, .null, .null, .null, .null, .null]
def EMP : Int64 := 9223372036854775807
def tr3 (a b c : Int64) : List Value := [.long EMP, .long (minJ (minJ (minJ (minJ a b) (minJ c EMP)) EMP) EMP), .long (minJ (minJ (minJ a b) (minJ c EMP)) EMP), .long EMP, .long (minJ (minJ a b) (minJ c EMP)), .long EMP, .long EMP, .long EMP, .long (minJ a b), .long (minJ c EMP), .long EMP, .long EMP, .long EMP, .long EMP, .long EMP, .long EMP, .long a, .long b, .long c, .long EMP, .long EMP, .long EMP, .long EMP, .long EMP, .long EMP, .long EMP, .long EMP, .long EMP, .long EMP, .long EMP, .long EMP, .long EMP]
theorem tr_emp : List.replicate 32 (Value.long EMP) = tr3 EMP EMP EMP := by decide +kernel
theorem d4_0 : decode jdk_65_method_101_code 0 = .ok (.iconst 0, 1) := by decide +kernel
theorem d4_1 : decode jdk_65_method_101_code 1 = .ok (.istore_n 3, 1) := by decide +kernel
theorem d4_2 : decode jdk_65_method_101_code 2 = .ok (.aload_n 0, 1) := by decide +kernel
theorem d4_3 : decode jdk_65_method_101_code 3 = .ok (.arraylength, 1) := by decide +kernel
theorem d4_4 : decode jdk_65_method_101_code 4 = .ok (.istore 4, 2) := by decide +kernel
theorem d4_6 : decode jdk_65_method_101_code 6 = .ok (.iload_n 3, 1) := by decide +kernel
theorem d4_7 : decode jdk_65_method_101_code 7 = .ok (.iload 4, 2) := by decide +kernel
theorem d4_9 : decode jdk_65_method_101_code 9 = .ok (.if_icmp .ge 13, 3) := by decide +kernel
theorem d4_12 : decode jdk_65_method_101_code 12 = .ok (.aload_n 0, 1) := by decide +kernel
theorem d4_13 : decode jdk_65_method_101_code 13 = .ok (.iload_n 3, 1) := by decide +kernel
theorem d4_14 : decode jdk_65_method_101_code 14 = .ok (.lload_n 1, 1) := by decide +kernel
theorem d4_15 : decode jdk_65_method_101_code 15 = .ok (.lastore, 1) := by decide +kernel
theorem d4_16 : decode jdk_65_method_101_code 16 = .ok (.iinc 3 1, 3) := by decide +kernel
theorem d4_19 : decode jdk_65_method_101_code 19 = .ok (.goto (-13), 3) := by decide +kernel
theorem d4_22 : decode jdk_65_method_101_code 22 = .ok (.return_, 1) := by decide +kernel
def rm_fillJ : Room := { frames := 0, cells := 0, slots := 0, locals := 0 }
theorem pf_fillJ : plainFor (⟨"java/util/Arrays", "fill", "([JJ)V"⟩ : MethodName) = true := plainFor_of_name (by first | (simp [plainName, overriddenIn]; done) | decide +kernel)
set_option maxRecDepth 65536 in
set_option maxHeartbeats 40000000 in
theorem ct_fillJ {l : Launch} {Z : State} {a0 : Array Value} (hw : ∀ d ∈ tables_1, d.before a0 Z = true) (h0 : Heap) (n0 : Nat) (a : Addr) (x : Int64) (hz : n0 ≤ h0.size) (O_a : Ar Z h0 a .long [.long (0 : Int64), .long (0 : Int64), .long (0 : Int64), .long (0 : Int64), .long (0 : Int64), .long (0 : Int64), .long (0 : Int64), .long (0 : Int64), .long (0 : Int64), .long (0 : Int64), .long (0 : Int64), .long (0 : Int64), .long (0 : Int64), .long (0 : Int64), .long (0 : Int64), .long (0 : Int64), .long (0 : Int64), .long (0 : Int64), .long (0 : Int64), .long (0 : Int64), .long (0 : Int64), .long (0 : Int64), .long (0 : Int64), .long (0 : Int64), .long (0 : Int64), .long (0 : Int64), .long (0 : Int64), .long (0 : Int64), .long (0 : Int64), .long (0 : Int64), .long (0 : Int64), .long (0 : Int64)]) (g_a : n0 ≤ a) :
    Ct l Z (⟨"java/util/Arrays", "fill", "([JJ)V"⟩ : MethodName) jdk_65_method_101_code 5 (Option.none : Option Jvm.ClassFile.FieldType) [] rm_fillJ #[.ref a, .long x] h0 n0 (fun v h => v = none ∧ Ar Z h a .long [.long x, .long x, .long x, .long x, .long x, .long x, .long x, .long x, .long x, .long x, .long x, .long x, .long x, .long x, .long x, .long x, .long x, .long x, .long x, .long x, .long x, .long x, .long x, .long x, .long x, .long x, .long x, .long x, .long x, .long x, .long x, .long x] ∧ Keep h0 h [a]) := by
  refine Ct.of (Ls := #[.val (.ref a), .val (.long x), .second, .unset, .unset]) pf_fillJ (fun m => by first | (simp [entryFrame, mkF, argsToLocals, Value.category, maxLocals]; done) | rfl) ?_
  intro p e s m below meth c C
  have hk : Keep h0 h0 [a] := Keep.refl _ _
  refine w_iconst (pc' := 1) (x := (0 : Int32)) C d4_0 rfl rfl ?_
  refine w_istoreN (pc' := 2) (Ls' := #[.val (.ref a), .val (.long x), .second, .val (.int (0 : Int32)), .unset]) C d4_1 rfl rfl ?_
  refine w_aloadN (pc' := 3) C d4_2 rfl rfl rfl ?_
  refine wA_alen (pc' := 4) (n := (32 : Int32)) C d4_3 rfl O_a rfl ?_
  refine w_istore (pc' := 6) (Ls' := #[.val (.ref a), .val (.long x), .second, .val (.int (0 : Int32)), .val (.int (32 : Int32))]) C d4_4 rfl rfl ?_
  refine w_iloadN (pc' := 7) C d4_6 rfl rfl ?_
  refine w_iload (pc' := 9) C d4_7 rfl rfl ?_
  refine w_icmp_ge (pcT := 22) (pcF := 12) C d4_9 (by decide) (by decide) rfl (fun q => absurd q (by decide)) (fun q9 => ?_)
  refine w_aloadN (pc' := 13) C d4_12 rfl rfl rfl ?_
  refine w_iloadN (pc' := 14) C d4_13 rfl rfl ?_
  refine w_lloadN (pc' := 15) C d4_14 rfl rfl ?_
  refine wA_lastore (pc' := 16) C d4_15 rfl g_a O_a (by decide) (Nat.le_of_ble_eq_true rfl) (fun h1 W1 A1 => ?_)
  have O_a : Ar Z h1 a .long [.long x, .long (0 : Int64), .long (0 : Int64), .long (0 : Int64), .long (0 : Int64), .long (0 : Int64), .long (0 : Int64), .long (0 : Int64), .long (0 : Int64), .long (0 : Int64), .long (0 : Int64), .long (0 : Int64), .long (0 : Int64), .long (0 : Int64), .long (0 : Int64), .long (0 : Int64), .long (0 : Int64), .long (0 : Int64), .long (0 : Int64), .long (0 : Int64), .long (0 : Int64), .long (0 : Int64), .long (0 : Int64), .long (0 : Int64), .long (0 : Int64), .long (0 : Int64), .long (0 : Int64), .long (0 : Int64), .long (0 : Int64), .long (0 : Int64), .long (0 : Int64), .long (0 : Int64)] := A1
  have hz : n0 ≤ h1.size := by rw [W1.size]; exact hz
  have hk := hk.wr W1 (Or.inl (by simp))
  refine w_iincE (pc' := 19) (z := (1 : Int32)) (Ls' := #[.val (.ref a), .val (.long x), .second, .val (.int (1 : Int32)), .val (.int (32 : Int32))]) C d4_16 rfl (by decide) rfl rfl ?_
  refine w_goto (pc' := 6) C d4_19 (by decide) (by decide) ?_
  refine w_iloadN (pc' := 7) C d4_6 rfl rfl ?_
  refine w_iload (pc' := 9) C d4_7 rfl rfl ?_
  refine w_icmp_ge (pcT := 22) (pcF := 12) C d4_9 (by decide) (by decide) rfl (fun q => absurd q (by decide)) (fun q9 => ?_)
  refine w_aloadN (pc' := 13) C d4_12 rfl rfl rfl ?_
  refine w_iloadN (pc' := 14) C d4_13 rfl rfl ?_
  refine w_lloadN (pc' := 15) C d4_14 rfl rfl ?_
  refine wA_lastore (pc' := 16) C d4_15 rfl g_a O_a (by decide) (Nat.le_of_ble_eq_true rfl) (fun h2 W2 A2 => ?_)
  have O_a : Ar Z h2 a .long [.long x, .long x, .long (0 : Int64), .long (0 : Int64), .long (0 : Int64), .long (0 : Int64), .long (0 : Int64), .long (0 : Int64), .long (0 : Int64), .long (0 : Int64), .long (0 : Int64), .long (0 : Int64), .long (0 : Int64), .long (0 : Int64), .long (0 : Int64), .long (0 : Int64), .long (0 : Int64), .long (0 : Int64), .long (0 : Int64), .long (0 : Int64), .long (0 : Int64), .long (0 : Int64), .long (0 : Int64), .long (0 : Int64), .long (0 : Int64), .long (0 : Int64), .long (0 : Int64), .long (0 : Int64), .long (0 : Int64), .long (0 : Int64), .long (0 : Int64), .long (0 : Int64)] := A2
  have hz : n0 ≤ h2.size := by rw [W2.size]; exact hz
  have hk := hk.wr W2 (Or.inl (by simp))
  refine w_iincE (pc' := 19) (z := (2 : Int32)) (Ls' := #[.val (.ref a), .val (.long x), .second, .val (.int (2 : Int32)), .val (.int (32 : Int32))]) C d4_16 rfl (by decide) rfl rfl ?_
  refine w_goto (pc' := 6) C d4_19 (by decide) (by decide) ?_
  refine w_iloadN (pc' := 7) C d4_6 rfl rfl ?_
  refine w_iload (pc' := 9) C d4_7 rfl rfl ?_
  refine w_icmp_ge (pcT := 22) (pcF := 12) C d4_9 (by decide) (by decide) rfl (fun q => absurd q (by decide)) (fun q9 => ?_)
  refine w_aloadN (pc' := 13) C d4_12 rfl rfl rfl ?_
  refine w_iloadN (pc' := 14) C d4_13 rfl rfl ?_
  refine w_lloadN (pc' := 15) C d4_14 rfl rfl ?_
  refine wA_lastore (pc' := 16) C d4_15 rfl g_a O_a (by decide) (Nat.le_of_ble_eq_true rfl) (fun h3 W3 A3 => ?_)
  have O_a : Ar Z h3 a .long [.long x, .long x, .long x, .long (0 : Int64), .long (0 : Int64), .long (0 : Int64), .long (0 : Int64), .long (0 : Int64), .long (0 : Int64), .long (0 : Int64), .long (0 : Int64), .long (0 : Int64), .long (0 : Int64), .long (0 : Int64), .long (0 : Int64), .long (0 : Int64), .long (0 : Int64), .long (0 : Int64), .long (0 : Int64), .long (0 : Int64), .long (0 : Int64), .long (0 : Int64), .long (0 : Int64), .long (0 : Int64), .long (0 : Int64), .long (0 : Int64), .long (0 : Int64), .long (0 : Int64), .long (0 : Int64), .long (0 : Int64), .long (0 : Int64), .long (0 : Int64)] := A3
  have hz : n0 ≤ h3.size := by rw [W3.size]; exact hz
  have hk := hk.wr W3 (Or.inl (by simp))
  refine w_iincE (pc' := 19) (z := (3 : Int32)) (Ls' := #[.val (.ref a), .val (.long x), .second, .val (.int (3 : Int32)), .val (.int (32 : Int32))]) C d4_16 rfl (by decide) rfl rfl ?_
  refine w_goto (pc' := 6) C d4_19 (by decide) (by decide) ?_
  refine w_iloadN (pc' := 7) C d4_6 rfl rfl ?_
  refine w_iload (pc' := 9) C d4_7 rfl rfl ?_
  refine w_icmp_ge (pcT := 22) (pcF := 12) C d4_9 (by decide) (by decide) rfl (fun q => absurd q (by decide)) (fun q9 => ?_)
  refine w_aloadN (pc' := 13) C d4_12 rfl rfl rfl ?_
  refine w_iloadN (pc' := 14) C d4_13 rfl rfl ?_
  refine w_lloadN (pc' := 15) C d4_14 rfl rfl ?_
  refine wA_lastore (pc' := 16) C d4_15 rfl g_a O_a (by decide) (Nat.le_of_ble_eq_true rfl) (fun h4 W4 A4 => ?_)
  have O_a : Ar Z h4 a .long [.long x, .long x, .long x, .long x, .long (0 : Int64), .long (0 : Int64), .long (0 : Int64), .long (0 : Int64), .long (0 : Int64), .long (0 : Int64), .long (0 : Int64), .long (0 : Int64), .long (0 : Int64), .long (0 : Int64), .long (0 : Int64), .long (0 : Int64), .long (0 : Int64), .long (0 : Int64), .long (0 : Int64), .long (0 : Int64), .long (0 : Int64), .long (0 : Int64), .long (0 : Int64), .long (0 : Int64), .long (0 : Int64), .long (0 : Int64), .long (0 : Int64), .long (0 : Int64), .long (0 : Int64), .long (0 : Int64), .long (0 : Int64), .long (0 : Int64)] := A4
  have hz : n0 ≤ h4.size := by rw [W4.size]; exact hz
  have hk := hk.wr W4 (Or.inl (by simp))
  refine w_iincE (pc' := 19) (z := (4 : Int32)) (Ls' := #[.val (.ref a), .val (.long x), .second, .val (.int (4 : Int32)), .val (.int (32 : Int32))]) C d4_16 rfl (by decide) rfl rfl ?_
  refine w_goto (pc' := 6) C d4_19 (by decide) (by decide) ?_
  refine w_iloadN (pc' := 7) C d4_6 rfl rfl ?_
  refine w_iload (pc' := 9) C d4_7 rfl rfl ?_
  refine w_icmp_ge (pcT := 22) (pcF := 12) C d4_9 (by decide) (by decide) rfl (fun q => absurd q (by decide)) (fun q9 => ?_)
  refine w_aloadN (pc' := 13) C d4_12 rfl rfl rfl ?_
  refine w_iloadN (pc' := 14) C d4_13 rfl rfl ?_
  refine w_lloadN (pc' := 15) C d4_14 rfl rfl ?_
  refine wA_lastore (pc' := 16) C d4_15 rfl g_a O_a (by decide) (Nat.le_of_ble_eq_true rfl) (fun h5 W5 A5 => ?_)
  have O_a : Ar Z h5 a .long [.long x, .long x, .long x, .long x, .long x, .long (0 : Int64), .long (0 : Int64), .long (0 : Int64), .long (0 : Int64), .long (0 : Int64), .long (0 : Int64), .long (0 : Int64), .long (0 : Int64), .long (0 : Int64), .long (0 : Int64), .long (0 : Int64), .long (0 : Int64), .long (0 : Int64), .long (0 : Int64), .long (0 : Int64), .long (0 : Int64), .long (0 : Int64), .long (0 : Int64), .long (0 : Int64), .long (0 : Int64), .long (0 : Int64), .long (0 : Int64), .long (0 : Int64), .long (0 : Int64), .long (0 : Int64), .long (0 : Int64), .long (0 : Int64)] := A5
  have hz : n0 ≤ h5.size := by rw [W5.size]; exact hz
  have hk := hk.wr W5 (Or.inl (by simp))
  refine w_iincE (pc' := 19) (z := (5 : Int32)) (Ls' := #[.val (.ref a), .val (.long x), .second, .val (.int (5 : Int32)), .val (.int (32 : Int32))]) C d4_16 rfl (by decide) rfl rfl ?_
  refine w_goto (pc' := 6) C d4_19 (by decide) (by decide) ?_
  refine w_iloadN (pc' := 7) C d4_6 rfl rfl ?_
  refine w_iload (pc' := 9) C d4_7 rfl rfl ?_
  refine w_icmp_ge (pcT := 22) (pcF := 12) C d4_9 (by decide) (by decide) rfl (fun q => absurd q (by decide)) (fun q9 => ?_)
  refine w_aloadN (pc' := 13) C d4_12 rfl rfl rfl ?_
  refine w_iloadN (pc' := 14) C d4_13 rfl rfl ?_
  refine w_lloadN (pc' := 15) C d4_14 rfl rfl ?_
  refine wA_lastore (pc' := 16) C d4_15 rfl g_a O_a (by decide) (Nat.le_of_ble_eq_true rfl) (fun h6 W6 A6 => ?_)
  have O_a : Ar Z h6 a .long [.long x, .long x, .long x, .long x, .long x, .long x, .long (0 : Int64), .long (0 : Int64), .long (0 : Int64), .long (0 : Int64), .long (0 : Int64), .long (0 : Int64), .long (0 : Int64), .long (0 : Int64), .long (0 : Int64), .long (0 : Int64), .long (0 : Int64), .long (0 : Int64), .long (0 : Int64), .long (0 : Int64), .long (0 : Int64), .long (0 : Int64), .long (0 : Int64), .long (0 : Int64), .long (0 : Int64), .long (0 : Int64), .long (0 : Int64), .long (0 : Int64), .long (0 : Int64), .long (0 : Int64), .long (0 : Int64), .long (0 : Int64)] := A6
  have hz : n0 ≤ h6.size := by rw [W6.size]; exact hz
  have hk := hk.wr W6 (Or.inl (by simp))
  refine w_iincE (pc' := 19) (z := (6 : Int32)) (Ls' := #[.val (.ref a), .val (.long x), .second, .val (.int (6 : Int32)), .val (.int (32 : Int32))]) C d4_16 rfl (by decide) rfl rfl ?_
  refine w_goto (pc' := 6) C d4_19 (by decide) (by decide) ?_
  refine w_iloadN (pc' := 7) C d4_6 rfl rfl ?_
  refine w_iload (pc' := 9) C d4_7 rfl rfl ?_
  refine w_icmp_ge (pcT := 22) (pcF := 12) C d4_9 (by decide) (by decide) rfl (fun q => absurd q (by decide)) (fun q9 => ?_)
  refine w_aloadN (pc' := 13) C d4_12 rfl rfl rfl ?_
  refine w_iloadN (pc' := 14) C d4_13 rfl rfl ?_
  refine w_lloadN (pc' := 15) C d4_14 rfl rfl ?_
  refine wA_lastore (pc' := 16) C d4_15 rfl g_a O_a (by decide) (Nat.le_of_ble_eq_true rfl) (fun h7 W7 A7 => ?_)
  have O_a : Ar Z h7 a .long [.long x, .long x, .long x, .long x, .long x, .long x, .long x, .long (0 : Int64), .long (0 : Int64), .long (0 : Int64), .long (0 : Int64), .long (0 : Int64), .long (0 : Int64), .long (0 : Int64), .long (0 : Int64), .long (0 : Int64), .long (0 : Int64), .long (0 : Int64), .long (0 : Int64), .long (0 : Int64), .long (0 : Int64), .long (0 : Int64), .long (0 : Int64), .long (0 : Int64), .long (0 : Int64), .long (0 : Int64), .long (0 : Int64), .long (0 : Int64), .long (0 : Int64), .long (0 : Int64), .long (0 : Int64), .long (0 : Int64)] := A7
  have hz : n0 ≤ h7.size := by rw [W7.size]; exact hz
  have hk := hk.wr W7 (Or.inl (by simp))
  refine w_iincE (pc' := 19) (z := (7 : Int32)) (Ls' := #[.val (.ref a), .val (.long x), .second, .val (.int (7 : Int32)), .val (.int (32 : Int32))]) C d4_16 rfl (by decide) rfl rfl ?_
  refine w_goto (pc' := 6) C d4_19 (by decide) (by decide) ?_
  refine w_iloadN (pc' := 7) C d4_6 rfl rfl ?_
  refine w_iload (pc' := 9) C d4_7 rfl rfl ?_
  refine w_icmp_ge (pcT := 22) (pcF := 12) C d4_9 (by decide) (by decide) rfl (fun q => absurd q (by decide)) (fun q9 => ?_)
  refine w_aloadN (pc' := 13) C d4_12 rfl rfl rfl ?_
  refine w_iloadN (pc' := 14) C d4_13 rfl rfl ?_
  refine w_lloadN (pc' := 15) C d4_14 rfl rfl ?_
  refine wA_lastore (pc' := 16) C d4_15 rfl g_a O_a (by decide) (Nat.le_of_ble_eq_true rfl) (fun h8 W8 A8 => ?_)
  have O_a : Ar Z h8 a .long [.long x, .long x, .long x, .long x, .long x, .long x, .long x, .long x, .long (0 : Int64), .long (0 : Int64), .long (0 : Int64), .long (0 : Int64), .long (0 : Int64), .long (0 : Int64), .long (0 : Int64), .long (0 : Int64), .long (0 : Int64), .long (0 : Int64), .long (0 : Int64), .long (0 : Int64), .long (0 : Int64), .long (0 : Int64), .long (0 : Int64), .long (0 : Int64), .long (0 : Int64), .long (0 : Int64), .long (0 : Int64), .long (0 : Int64), .long (0 : Int64), .long (0 : Int64), .long (0 : Int64), .long (0 : Int64)] := A8
  have hz : n0 ≤ h8.size := by rw [W8.size]; exact hz
  have hk := hk.wr W8 (Or.inl (by simp))
  refine w_iincE (pc' := 19) (z := (8 : Int32)) (Ls' := #[.val (.ref a), .val (.long x), .second, .val (.int (8 : Int32)), .val (.int (32 : Int32))]) C d4_16 rfl (by decide) rfl rfl ?_
  refine w_goto (pc' := 6) C d4_19 (by decide) (by decide) ?_
  refine w_iloadN (pc' := 7) C d4_6 rfl rfl ?_
  refine w_iload (pc' := 9) C d4_7 rfl rfl ?_
  refine w_icmp_ge (pcT := 22) (pcF := 12) C d4_9 (by decide) (by decide) rfl (fun q => absurd q (by decide)) (fun q9 => ?_)
  refine w_aloadN (pc' := 13) C d4_12 rfl rfl rfl ?_
  refine w_iloadN (pc' := 14) C d4_13 rfl rfl ?_
  refine w_lloadN (pc' := 15) C d4_14 rfl rfl ?_
  refine wA_lastore (pc' := 16) C d4_15 rfl g_a O_a (by decide) (Nat.le_of_ble_eq_true rfl) (fun h9 W9 A9 => ?_)
  have O_a : Ar Z h9 a .long [.long x, .long x, .long x, .long x, .long x, .long x, .long x, .long x, .long x, .long (0 : Int64), .long (0 : Int64), .long (0 : Int64), .long (0 : Int64), .long (0 : Int64), .long (0 : Int64), .long (0 : Int64), .long (0 : Int64), .long (0 : Int64), .long (0 : Int64), .long (0 : Int64), .long (0 : Int64), .long (0 : Int64), .long (0 : Int64), .long (0 : Int64), .long (0 : Int64), .long (0 : Int64), .long (0 : Int64), .long (0 : Int64), .long (0 : Int64), .long (0 : Int64), .long (0 : Int64), .long (0 : Int64)] := A9
  have hz : n0 ≤ h9.size := by rw [W9.size]; exact hz
  have hk := hk.wr W9 (Or.inl (by simp))
  refine w_iincE (pc' := 19) (z := (9 : Int32)) (Ls' := #[.val (.ref a), .val (.long x), .second, .val (.int (9 : Int32)), .val (.int (32 : Int32))]) C d4_16 rfl (by decide) rfl rfl ?_
  refine w_goto (pc' := 6) C d4_19 (by decide) (by decide) ?_
  refine w_iloadN (pc' := 7) C d4_6 rfl rfl ?_
  refine w_iload (pc' := 9) C d4_7 rfl rfl ?_
  refine w_icmp_ge (pcT := 22) (pcF := 12) C d4_9 (by decide) (by decide) rfl (fun q => absurd q (by decide)) (fun q9 => ?_)
  refine w_aloadN (pc' := 13) C d4_12 rfl rfl rfl ?_
  refine w_iloadN (pc' := 14) C d4_13 rfl rfl ?_
  refine w_lloadN (pc' := 15) C d4_14 rfl rfl ?_
  refine wA_lastore (pc' := 16) C d4_15 rfl g_a O_a (by decide) (Nat.le_of_ble_eq_true rfl) (fun h10 W10 A10 => ?_)
  have O_a : Ar Z h10 a .long [.long x, .long x, .long x, .long x, .long x, .long x, .long x, .long x, .long x, .long x, .long (0 : Int64), .long (0 : Int64), .long (0 : Int64), .long (0 : Int64), .long (0 : Int64), .long (0 : Int64), .long (0 : Int64), .long (0 : Int64), .long (0 : Int64), .long (0 : Int64), .long (0 : Int64), .long (0 : Int64), .long (0 : Int64), .long (0 : Int64), .long (0 : Int64), .long (0 : Int64), .long (0 : Int64), .long (0 : Int64), .long (0 : Int64), .long (0 : Int64), .long (0 : Int64), .long (0 : Int64)] := A10
  have hz : n0 ≤ h10.size := by rw [W10.size]; exact hz
  have hk := hk.wr W10 (Or.inl (by simp))
  refine w_iincE (pc' := 19) (z := (10 : Int32)) (Ls' := #[.val (.ref a), .val (.long x), .second, .val (.int (10 : Int32)), .val (.int (32 : Int32))]) C d4_16 rfl (by decide) rfl rfl ?_
  refine w_goto (pc' := 6) C d4_19 (by decide) (by decide) ?_
  refine w_iloadN (pc' := 7) C d4_6 rfl rfl ?_
  refine w_iload (pc' := 9) C d4_7 rfl rfl ?_
  refine w_icmp_ge (pcT := 22) (pcF := 12) C d4_9 (by decide) (by decide) rfl (fun q => absurd q (by decide)) (fun q9 => ?_)
  refine w_aloadN (pc' := 13) C d4_12 rfl rfl rfl ?_
  refine w_iloadN (pc' := 14) C d4_13 rfl rfl ?_
  refine w_lloadN (pc' := 15) C d4_14 rfl rfl ?_
  refine wA_lastore (pc' := 16) C d4_15 rfl g_a O_a (by decide) (Nat.le_of_ble_eq_true rfl) (fun h11 W11 A11 => ?_)
  have O_a : Ar Z h11 a .long [.long x, .long x, .long x, .long x, .long x, .long x, .long x, .long x, .long x, .long x, .long x, .long (0 : Int64), .long (0 : Int64), .long (0 : Int64), .long (0 : Int64), .long (0 : Int64), .long (0 : Int64), .long (0 : Int64), .long (0 : Int64), .long (0 : Int64), .long (0 : Int64), .long (0 : Int64), .long (0 : Int64), .long (0 : Int64), .long (0 : Int64), .long (0 : Int64), .long (0 : Int64), .long (0 : Int64), .long (0 : Int64), .long (0 : Int64), .long (0 : Int64), .long (0 : Int64)] := A11
  have hz : n0 ≤ h11.size := by rw [W11.size]; exact hz
  have hk := hk.wr W11 (Or.inl (by simp))
  refine w_iincE (pc' := 19) (z := (11 : Int32)) (Ls' := #[.val (.ref a), .val (.long x), .second, .val (.int (11 : Int32)), .val (.int (32 : Int32))]) C d4_16 rfl (by decide) rfl rfl ?_
  refine w_goto (pc' := 6) C d4_19 (by decide) (by decide) ?_
  refine w_iloadN (pc' := 7) C d4_6 rfl rfl ?_
  refine w_iload (pc' := 9) C d4_7 rfl rfl ?_
  refine w_icmp_ge (pcT := 22) (pcF := 12) C d4_9 (by decide) (by decide) rfl (fun q => absurd q (by decide)) (fun q9 => ?_)
  refine w_aloadN (pc' := 13) C d4_12 rfl rfl rfl ?_
  refine w_iloadN (pc' := 14) C d4_13 rfl rfl ?_
  refine w_lloadN (pc' := 15) C d4_14 rfl rfl ?_
  refine wA_lastore (pc' := 16) C d4_15 rfl g_a O_a (by decide) (Nat.le_of_ble_eq_true rfl) (fun h12 W12 A12 => ?_)
  have O_a : Ar Z h12 a .long [.long x, .long x, .long x, .long x, .long x, .long x, .long x, .long x, .long x, .long x, .long x, .long x, .long (0 : Int64), .long (0 : Int64), .long (0 : Int64), .long (0 : Int64), .long (0 : Int64), .long (0 : Int64), .long (0 : Int64), .long (0 : Int64), .long (0 : Int64), .long (0 : Int64), .long (0 : Int64), .long (0 : Int64), .long (0 : Int64), .long (0 : Int64), .long (0 : Int64), .long (0 : Int64), .long (0 : Int64), .long (0 : Int64), .long (0 : Int64), .long (0 : Int64)] := A12
  have hz : n0 ≤ h12.size := by rw [W12.size]; exact hz
  have hk := hk.wr W12 (Or.inl (by simp))
  refine w_iincE (pc' := 19) (z := (12 : Int32)) (Ls' := #[.val (.ref a), .val (.long x), .second, .val (.int (12 : Int32)), .val (.int (32 : Int32))]) C d4_16 rfl (by decide) rfl rfl ?_
  refine w_goto (pc' := 6) C d4_19 (by decide) (by decide) ?_
  refine w_iloadN (pc' := 7) C d4_6 rfl rfl ?_
  refine w_iload (pc' := 9) C d4_7 rfl rfl ?_
  refine w_icmp_ge (pcT := 22) (pcF := 12) C d4_9 (by decide) (by decide) rfl (fun q => absurd q (by decide)) (fun q9 => ?_)
  refine w_aloadN (pc' := 13) C d4_12 rfl rfl rfl ?_
  refine w_iloadN (pc' := 14) C d4_13 rfl rfl ?_
  refine w_lloadN (pc' := 15) C d4_14 rfl rfl ?_
  refine wA_lastore (pc' := 16) C d4_15 rfl g_a O_a (by decide) (Nat.le_of_ble_eq_true rfl) (fun h13 W13 A13 => ?_)
  have O_a : Ar Z h13 a .long [.long x, .long x, .long x, .long x, .long x, .long x, .long x, .long x, .long x, .long x, .long x, .long x, .long x, .long (0 : Int64), .long (0 : Int64), .long (0 : Int64), .long (0 : Int64), .long (0 : Int64), .long (0 : Int64), .long (0 : Int64), .long (0 : Int64), .long (0 : Int64), .long (0 : Int64), .long (0 : Int64), .long (0 : Int64), .long (0 : Int64), .long (0 : Int64), .long (0 : Int64), .long (0 : Int64), .long (0 : Int64), .long (0 : Int64), .long (0 : Int64)] := A13
  have hz : n0 ≤ h13.size := by rw [W13.size]; exact hz
  have hk := hk.wr W13 (Or.inl (by simp))
  refine w_iincE (pc' := 19) (z := (13 : Int32)) (Ls' := #[.val (.ref a), .val (.long x), .second, .val (.int (13 : Int32)), .val (.int (32 : Int32))]) C d4_16 rfl (by decide) rfl rfl ?_
  refine w_goto (pc' := 6) C d4_19 (by decide) (by decide) ?_
  refine w_iloadN (pc' := 7) C d4_6 rfl rfl ?_
  refine w_iload (pc' := 9) C d4_7 rfl rfl ?_
  refine w_icmp_ge (pcT := 22) (pcF := 12) C d4_9 (by decide) (by decide) rfl (fun q => absurd q (by decide)) (fun q9 => ?_)
  refine w_aloadN (pc' := 13) C d4_12 rfl rfl rfl ?_
  refine w_iloadN (pc' := 14) C d4_13 rfl rfl ?_
  refine w_lloadN (pc' := 15) C d4_14 rfl rfl ?_
  refine wA_lastore (pc' := 16) C d4_15 rfl g_a O_a (by decide) (Nat.le_of_ble_eq_true rfl) (fun h14 W14 A14 => ?_)
  have O_a : Ar Z h14 a .long [.long x, .long x, .long x, .long x, .long x, .long x, .long x, .long x, .long x, .long x, .long x, .long x, .long x, .long x, .long (0 : Int64), .long (0 : Int64), .long (0 : Int64), .long (0 : Int64), .long (0 : Int64), .long (0 : Int64), .long (0 : Int64), .long (0 : Int64), .long (0 : Int64), .long (0 : Int64), .long (0 : Int64), .long (0 : Int64), .long (0 : Int64), .long (0 : Int64), .long (0 : Int64), .long (0 : Int64), .long (0 : Int64), .long (0 : Int64)] := A14
  have hz : n0 ≤ h14.size := by rw [W14.size]; exact hz
  have hk := hk.wr W14 (Or.inl (by simp))
  refine w_iincE (pc' := 19) (z := (14 : Int32)) (Ls' := #[.val (.ref a), .val (.long x), .second, .val (.int (14 : Int32)), .val (.int (32 : Int32))]) C d4_16 rfl (by decide) rfl rfl ?_
  refine w_goto (pc' := 6) C d4_19 (by decide) (by decide) ?_
  refine w_iloadN (pc' := 7) C d4_6 rfl rfl ?_
  refine w_iload (pc' := 9) C d4_7 rfl rfl ?_
  refine w_icmp_ge (pcT := 22) (pcF := 12) C d4_9 (by decide) (by decide) rfl (fun q => absurd q (by decide)) (fun q9 => ?_)
  refine w_aloadN (pc' := 13) C d4_12 rfl rfl rfl ?_
  refine w_iloadN (pc' := 14) C d4_13 rfl rfl ?_
  refine w_lloadN (pc' := 15) C d4_14 rfl rfl ?_
  refine wA_lastore (pc' := 16) C d4_15 rfl g_a O_a (by decide) (Nat.le_of_ble_eq_true rfl) (fun h15 W15 A15 => ?_)
  have O_a : Ar Z h15 a .long [.long x, .long x, .long x, .long x, .long x, .long x, .long x, .long x, .long x, .long x, .long x, .long x, .long x, .long x, .long x, .long (0 : Int64), .long (0 : Int64), .long (0 : Int64), .long (0 : Int64), .long (0 : Int64), .long (0 : Int64), .long (0 : Int64), .long (0 : Int64), .long (0 : Int64), .long (0 : Int64), .long (0 : Int64), .long (0 : Int64), .long (0 : Int64), .long (0 : Int64), .long (0 : Int64), .long (0 : Int64), .long (0 : Int64)] := A15
  have hz : n0 ≤ h15.size := by rw [W15.size]; exact hz
  have hk := hk.wr W15 (Or.inl (by simp))
  refine w_iincE (pc' := 19) (z := (15 : Int32)) (Ls' := #[.val (.ref a), .val (.long x), .second, .val (.int (15 : Int32)), .val (.int (32 : Int32))]) C d4_16 rfl (by decide) rfl rfl ?_
  refine w_goto (pc' := 6) C d4_19 (by decide) (by decide) ?_
  refine w_iloadN (pc' := 7) C d4_6 rfl rfl ?_
  refine w_iload (pc' := 9) C d4_7 rfl rfl ?_
  refine w_icmp_ge (pcT := 22) (pcF := 12) C d4_9 (by decide) (by decide) rfl (fun q => absurd q (by decide)) (fun q9 => ?_)
  refine w_aloadN (pc' := 13) C d4_12 rfl rfl rfl ?_
  refine w_iloadN (pc' := 14) C d4_13 rfl rfl ?_
  refine w_lloadN (pc' := 15) C d4_14 rfl rfl ?_
  refine wA_lastore (pc' := 16) C d4_15 rfl g_a O_a (by decide) (Nat.le_of_ble_eq_true rfl) (fun h16 W16 A16 => ?_)
  have O_a : Ar Z h16 a .long [.long x, .long x, .long x, .long x, .long x, .long x, .long x, .long x, .long x, .long x, .long x, .long x, .long x, .long x, .long x, .long x, .long (0 : Int64), .long (0 : Int64), .long (0 : Int64), .long (0 : Int64), .long (0 : Int64), .long (0 : Int64), .long (0 : Int64), .long (0 : Int64), .long (0 : Int64), .long (0 : Int64), .long (0 : Int64), .long (0 : Int64), .long (0 : Int64), .long (0 : Int64), .long (0 : Int64), .long (0 : Int64)] := A16
  have hz : n0 ≤ h16.size := by rw [W16.size]; exact hz
  have hk := hk.wr W16 (Or.inl (by simp))
  refine w_iincE (pc' := 19) (z := (16 : Int32)) (Ls' := #[.val (.ref a), .val (.long x), .second, .val (.int (16 : Int32)), .val (.int (32 : Int32))]) C d4_16 rfl (by decide) rfl rfl ?_
  refine w_goto (pc' := 6) C d4_19 (by decide) (by decide) ?_
  refine w_iloadN (pc' := 7) C d4_6 rfl rfl ?_
  refine w_iload (pc' := 9) C d4_7 rfl rfl ?_
  refine w_icmp_ge (pcT := 22) (pcF := 12) C d4_9 (by decide) (by decide) rfl (fun q => absurd q (by decide)) (fun q9 => ?_)
  refine w_aloadN (pc' := 13) C d4_12 rfl rfl rfl ?_
  refine w_iloadN (pc' := 14) C d4_13 rfl rfl ?_
  refine w_lloadN (pc' := 15) C d4_14 rfl rfl ?_
  refine wA_lastore (pc' := 16) C d4_15 rfl g_a O_a (by decide) (Nat.le_of_ble_eq_true rfl) (fun h17 W17 A17 => ?_)
  have O_a : Ar Z h17 a .long [.long x, .long x, .long x, .long x, .long x, .long x, .long x, .long x, .long x, .long x, .long x, .long x, .long x, .long x, .long x, .long x, .long x, .long (0 : Int64), .long (0 : Int64), .long (0 : Int64), .long (0 : Int64), .long (0 : Int64), .long (0 : Int64), .long (0 : Int64), .long (0 : Int64), .long (0 : Int64), .long (0 : Int64), .long (0 : Int64), .long (0 : Int64), .long (0 : Int64), .long (0 : Int64), .long (0 : Int64)] := A17
  have hz : n0 ≤ h17.size := by rw [W17.size]; exact hz
  have hk := hk.wr W17 (Or.inl (by simp))
  refine w_iincE (pc' := 19) (z := (17 : Int32)) (Ls' := #[.val (.ref a), .val (.long x), .second, .val (.int (17 : Int32)), .val (.int (32 : Int32))]) C d4_16 rfl (by decide) rfl rfl ?_
  refine w_goto (pc' := 6) C d4_19 (by decide) (by decide) ?_
  refine w_iloadN (pc' := 7) C d4_6 rfl rfl ?_
  refine w_iload (pc' := 9) C d4_7 rfl rfl ?_
  refine w_icmp_ge (pcT := 22) (pcF := 12) C d4_9 (by decide) (by decide) rfl (fun q => absurd q (by decide)) (fun q9 => ?_)
  refine w_aloadN (pc' := 13) C d4_12 rfl rfl rfl ?_
  refine w_iloadN (pc' := 14) C d4_13 rfl rfl ?_
  refine w_lloadN (pc' := 15) C d4_14 rfl rfl ?_
  refine wA_lastore (pc' := 16) C d4_15 rfl g_a O_a (by decide) (Nat.le_of_ble_eq_true rfl) (fun h18 W18 A18 => ?_)
  have O_a : Ar Z h18 a .long [.long x, .long x, .long x, .long x, .long x, .long x, .long x, .long x, .long x, .long x, .long x, .long x, .long x, .long x, .long x, .long x, .long x, .long x, .long (0 : Int64), .long (0 : Int64), .long (0 : Int64), .long (0 : Int64), .long (0 : Int64), .long (0 : Int64), .long (0 : Int64), .long (0 : Int64), .long (0 : Int64), .long (0 : Int64), .long (0 : Int64), .long (0 : Int64), .long (0 : Int64), .long (0 : Int64)] := A18
  have hz : n0 ≤ h18.size := by rw [W18.size]; exact hz
  have hk := hk.wr W18 (Or.inl (by simp))
  refine w_iincE (pc' := 19) (z := (18 : Int32)) (Ls' := #[.val (.ref a), .val (.long x), .second, .val (.int (18 : Int32)), .val (.int (32 : Int32))]) C d4_16 rfl (by decide) rfl rfl ?_
  refine w_goto (pc' := 6) C d4_19 (by decide) (by decide) ?_
  refine w_iloadN (pc' := 7) C d4_6 rfl rfl ?_
  refine w_iload (pc' := 9) C d4_7 rfl rfl ?_
  refine w_icmp_ge (pcT := 22) (pcF := 12) C d4_9 (by decide) (by decide) rfl (fun q => absurd q (by decide)) (fun q9 => ?_)
  refine w_aloadN (pc' := 13) C d4_12 rfl rfl rfl ?_
  refine w_iloadN (pc' := 14) C d4_13 rfl rfl ?_
  refine w_lloadN (pc' := 15) C d4_14 rfl rfl ?_
  refine wA_lastore (pc' := 16) C d4_15 rfl g_a O_a (by decide) (Nat.le_of_ble_eq_true rfl) (fun h19 W19 A19 => ?_)
  have O_a : Ar Z h19 a .long [.long x, .long x, .long x, .long x, .long x, .long x, .long x, .long x, .long x, .long x, .long x, .long x, .long x, .long x, .long x, .long x, .long x, .long x, .long x, .long (0 : Int64), .long (0 : Int64), .long (0 : Int64), .long (0 : Int64), .long (0 : Int64), .long (0 : Int64), .long (0 : Int64), .long (0 : Int64), .long (0 : Int64), .long (0 : Int64), .long (0 : Int64), .long (0 : Int64), .long (0 : Int64)] := A19
  have hz : n0 ≤ h19.size := by rw [W19.size]; exact hz
  have hk := hk.wr W19 (Or.inl (by simp))
  refine w_iincE (pc' := 19) (z := (19 : Int32)) (Ls' := #[.val (.ref a), .val (.long x), .second, .val (.int (19 : Int32)), .val (.int (32 : Int32))]) C d4_16 rfl (by decide) rfl rfl ?_
  refine w_goto (pc' := 6) C d4_19 (by decide) (by decide) ?_
  refine w_iloadN (pc' := 7) C d4_6 rfl rfl ?_
  refine w_iload (pc' := 9) C d4_7 rfl rfl ?_
  refine w_icmp_ge (pcT := 22) (pcF := 12) C d4_9 (by decide) (by decide) rfl (fun q => absurd q (by decide)) (fun q9 => ?_)
  refine w_aloadN (pc' := 13) C d4_12 rfl rfl rfl ?_
  refine w_iloadN (pc' := 14) C d4_13 rfl rfl ?_
  refine w_lloadN (pc' := 15) C d4_14 rfl rfl ?_
  refine wA_lastore (pc' := 16) C d4_15 rfl g_a O_a (by decide) (Nat.le_of_ble_eq_true rfl) (fun h20 W20 A20 => ?_)
  have O_a : Ar Z h20 a .long [.long x, .long x, .long x, .long x, .long x, .long x, .long x, .long x, .long x, .long x, .long x, .long x, .long x, .long x, .long x, .long x, .long x, .long x, .long x, .long x, .long (0 : Int64), .long (0 : Int64), .long (0 : Int64), .long (0 : Int64), .long (0 : Int64), .long (0 : Int64), .long (0 : Int64), .long (0 : Int64), .long (0 : Int64), .long (0 : Int64), .long (0 : Int64), .long (0 : Int64)] := A20
  have hz : n0 ≤ h20.size := by rw [W20.size]; exact hz
  have hk := hk.wr W20 (Or.inl (by simp))
  refine w_iincE (pc' := 19) (z := (20 : Int32)) (Ls' := #[.val (.ref a), .val (.long x), .second, .val (.int (20 : Int32)), .val (.int (32 : Int32))]) C d4_16 rfl (by decide) rfl rfl ?_
  refine w_goto (pc' := 6) C d4_19 (by decide) (by decide) ?_
  refine w_iloadN (pc' := 7) C d4_6 rfl rfl ?_
  refine w_iload (pc' := 9) C d4_7 rfl rfl ?_
  refine w_icmp_ge (pcT := 22) (pcF := 12) C d4_9 (by decide) (by decide) rfl (fun q => absurd q (by decide)) (fun q9 => ?_)
  refine w_aloadN (pc' := 13) C d4_12 rfl rfl rfl ?_
  refine w_iloadN (pc' := 14) C d4_13 rfl rfl ?_
  refine w_lloadN (pc' := 15) C d4_14 rfl rfl ?_
  refine wA_lastore (pc' := 16) C d4_15 rfl g_a O_a (by decide) (Nat.le_of_ble_eq_true rfl) (fun h21 W21 A21 => ?_)
  have O_a : Ar Z h21 a .long [.long x, .long x, .long x, .long x, .long x, .long x, .long x, .long x, .long x, .long x, .long x, .long x, .long x, .long x, .long x, .long x, .long x, .long x, .long x, .long x, .long x, .long (0 : Int64), .long (0 : Int64), .long (0 : Int64), .long (0 : Int64), .long (0 : Int64), .long (0 : Int64), .long (0 : Int64), .long (0 : Int64), .long (0 : Int64), .long (0 : Int64), .long (0 : Int64)] := A21
  have hz : n0 ≤ h21.size := by rw [W21.size]; exact hz
  have hk := hk.wr W21 (Or.inl (by simp))
  refine w_iincE (pc' := 19) (z := (21 : Int32)) (Ls' := #[.val (.ref a), .val (.long x), .second, .val (.int (21 : Int32)), .val (.int (32 : Int32))]) C d4_16 rfl (by decide) rfl rfl ?_
  refine w_goto (pc' := 6) C d4_19 (by decide) (by decide) ?_
  refine w_iloadN (pc' := 7) C d4_6 rfl rfl ?_
  refine w_iload (pc' := 9) C d4_7 rfl rfl ?_
  refine w_icmp_ge (pcT := 22) (pcF := 12) C d4_9 (by decide) (by decide) rfl (fun q => absurd q (by decide)) (fun q9 => ?_)
  refine w_aloadN (pc' := 13) C d4_12 rfl rfl rfl ?_
  refine w_iloadN (pc' := 14) C d4_13 rfl rfl ?_
  refine w_lloadN (pc' := 15) C d4_14 rfl rfl ?_
  refine wA_lastore (pc' := 16) C d4_15 rfl g_a O_a (by decide) (Nat.le_of_ble_eq_true rfl) (fun h22 W22 A22 => ?_)
  have O_a : Ar Z h22 a .long [.long x, .long x, .long x, .long x, .long x, .long x, .long x, .long x, .long x, .long x, .long x, .long x, .long x, .long x, .long x, .long x, .long x, .long x, .long x, .long x, .long x, .long x, .long (0 : Int64), .long (0 : Int64), .long (0 : Int64), .long (0 : Int64), .long (0 : Int64), .long (0 : Int64), .long (0 : Int64), .long (0 : Int64), .long (0 : Int64), .long (0 : Int64)] := A22
  have hz : n0 ≤ h22.size := by rw [W22.size]; exact hz
  have hk := hk.wr W22 (Or.inl (by simp))
  refine w_iincE (pc' := 19) (z := (22 : Int32)) (Ls' := #[.val (.ref a), .val (.long x), .second, .val (.int (22 : Int32)), .val (.int (32 : Int32))]) C d4_16 rfl (by decide) rfl rfl ?_
  refine w_goto (pc' := 6) C d4_19 (by decide) (by decide) ?_
  refine w_iloadN (pc' := 7) C d4_6 rfl rfl ?_
  refine w_iload (pc' := 9) C d4_7 rfl rfl ?_
  refine w_icmp_ge (pcT := 22) (pcF := 12) C d4_9 (by decide) (by decide) rfl (fun q => absurd q (by decide)) (fun q9 => ?_)
  refine w_aloadN (pc' := 13) C d4_12 rfl rfl rfl ?_
  refine w_iloadN (pc' := 14) C d4_13 rfl rfl ?_
  refine w_lloadN (pc' := 15) C d4_14 rfl rfl ?_
  refine wA_lastore (pc' := 16) C d4_15 rfl g_a O_a (by decide) (Nat.le_of_ble_eq_true rfl) (fun h23 W23 A23 => ?_)
  have O_a : Ar Z h23 a .long [.long x, .long x, .long x, .long x, .long x, .long x, .long x, .long x, .long x, .long x, .long x, .long x, .long x, .long x, .long x, .long x, .long x, .long x, .long x, .long x, .long x, .long x, .long x, .long (0 : Int64), .long (0 : Int64), .long (0 : Int64), .long (0 : Int64), .long (0 : Int64), .long (0 : Int64), .long (0 : Int64), .long (0 : Int64), .long (0 : Int64)] := A23
  have hz : n0 ≤ h23.size := by rw [W23.size]; exact hz
  have hk := hk.wr W23 (Or.inl (by simp))
  refine w_iincE (pc' := 19) (z := (23 : Int32)) (Ls' := #[.val (.ref a), .val (.long x), .second, .val (.int (23 : Int32)), .val (.int (32 : Int32))]) C d4_16 rfl (by decide) rfl rfl ?_
  refine w_goto (pc' := 6) C d4_19 (by decide) (by decide) ?_
  refine w_iloadN (pc' := 7) C d4_6 rfl rfl ?_
  refine w_iload (pc' := 9) C d4_7 rfl rfl ?_
  refine w_icmp_ge (pcT := 22) (pcF := 12) C d4_9 (by decide) (by decide) rfl (fun q => absurd q (by decide)) (fun q9 => ?_)
  refine w_aloadN (pc' := 13) C d4_12 rfl rfl rfl ?_
  refine w_iloadN (pc' := 14) C d4_13 rfl rfl ?_
  refine w_lloadN (pc' := 15) C d4_14 rfl rfl ?_
  refine wA_lastore (pc' := 16) C d4_15 rfl g_a O_a (by decide) (Nat.le_of_ble_eq_true rfl) (fun h24 W24 A24 => ?_)
  have O_a : Ar Z h24 a .long [.long x, .long x, .long x, .long x, .long x, .long x, .long x, .long x, .long x, .long x, .long x, .long x, .long x, .long x, .long x, .long x, .long x, .long x, .long x, .long x, .long x, .long x, .long x, .long x, .long (0 : Int64), .long (0 : Int64), .long (0 : Int64), .long (0 : Int64), .long (0 : Int64), .long (0 : Int64), .long (0 : Int64), .long (0 : Int64)] := A24
  have hz : n0 ≤ h24.size := by rw [W24.size]; exact hz
  have hk := hk.wr W24 (Or.inl (by simp))
  refine w_iincE (pc' := 19) (z := (24 : Int32)) (Ls' := #[.val (.ref a), .val (.long x), .second, .val (.int (24 : Int32)), .val (.int (32 : Int32))]) C d4_16 rfl (by decide) rfl rfl ?_
  refine w_goto (pc' := 6) C d4_19 (by decide) (by decide) ?_
  refine w_iloadN (pc' := 7) C d4_6 rfl rfl ?_
  refine w_iload (pc' := 9) C d4_7 rfl rfl ?_
  refine w_icmp_ge (pcT := 22) (pcF := 12) C d4_9 (by decide) (by decide) rfl (fun q => absurd q (by decide)) (fun q9 => ?_)
  refine w_aloadN (pc' := 13) C d4_12 rfl rfl rfl ?_
  refine w_iloadN (pc' := 14) C d4_13 rfl rfl ?_
  refine w_lloadN (pc' := 15) C d4_14 rfl rfl ?_
  refine wA_lastore (pc' := 16) C d4_15 rfl g_a O_a (by decide) (Nat.le_of_ble_eq_true rfl) (fun h25 W25 A25 => ?_)
  have O_a : Ar Z h25 a .long [.long x, .long x, .long x, .long x, .long x, .long x, .long x, .long x, .long x, .long x, .long x, .long x, .long x, .long x, .long x, .long x, .long x, .long x, .long x, .long x, .long x, .long x, .long x, .long x, .long x, .long (0 : Int64), .long (0 : Int64), .long (0 : Int64), .long (0 : Int64), .long (0 : Int64), .long (0 : Int64), .long (0 : Int64)] := A25
  have hz : n0 ≤ h25.size := by rw [W25.size]; exact hz
  have hk := hk.wr W25 (Or.inl (by simp))
  refine w_iincE (pc' := 19) (z := (25 : Int32)) (Ls' := #[.val (.ref a), .val (.long x), .second, .val (.int (25 : Int32)), .val (.int (32 : Int32))]) C d4_16 rfl (by decide) rfl rfl ?_
  refine w_goto (pc' := 6) C d4_19 (by decide) (by decide) ?_
  refine w_iloadN (pc' := 7) C d4_6 rfl rfl ?_
  refine w_iload (pc' := 9) C d4_7 rfl rfl ?_
  refine w_icmp_ge (pcT := 22) (pcF := 12) C d4_9 (by decide) (by decide) rfl (fun q => absurd q (by decide)) (fun q9 => ?_)
  refine w_aloadN (pc' := 13) C d4_12 rfl rfl rfl ?_
  refine w_iloadN (pc' := 14) C d4_13 rfl rfl ?_
  refine w_lloadN (pc' := 15) C d4_14 rfl rfl ?_
  refine wA_lastore (pc' := 16) C d4_15 rfl g_a O_a (by decide) (Nat.le_of_ble_eq_true rfl) (fun h26 W26 A26 => ?_)
  have O_a : Ar Z h26 a .long [.long x, .long x, .long x, .long x, .long x, .long x, .long x, .long x, .long x, .long x, .long x, .long x, .long x, .long x, .long x, .long x, .long x, .long x, .long x, .long x, .long x, .long x, .long x, .long x, .long x, .long x, .long (0 : Int64), .long (0 : Int64), .long (0 : Int64), .long (0 : Int64), .long (0 : Int64), .long (0 : Int64)] := A26
  have hz : n0 ≤ h26.size := by rw [W26.size]; exact hz
  have hk := hk.wr W26 (Or.inl (by simp))
  refine w_iincE (pc' := 19) (z := (26 : Int32)) (Ls' := #[.val (.ref a), .val (.long x), .second, .val (.int (26 : Int32)), .val (.int (32 : Int32))]) C d4_16 rfl (by decide) rfl rfl ?_
  refine w_goto (pc' := 6) C d4_19 (by decide) (by decide) ?_
  refine w_iloadN (pc' := 7) C d4_6 rfl rfl ?_
  refine w_iload (pc' := 9) C d4_7 rfl rfl ?_
  refine w_icmp_ge (pcT := 22) (pcF := 12) C d4_9 (by decide) (by decide) rfl (fun q => absurd q (by decide)) (fun q9 => ?_)
  refine w_aloadN (pc' := 13) C d4_12 rfl rfl rfl ?_
  refine w_iloadN (pc' := 14) C d4_13 rfl rfl ?_
  refine w_lloadN (pc' := 15) C d4_14 rfl rfl ?_
  refine wA_lastore (pc' := 16) C d4_15 rfl g_a O_a (by decide) (Nat.le_of_ble_eq_true rfl) (fun h27 W27 A27 => ?_)
  have O_a : Ar Z h27 a .long [.long x, .long x, .long x, .long x, .long x, .long x, .long x, .long x, .long x, .long x, .long x, .long x, .long x, .long x, .long x, .long x, .long x, .long x, .long x, .long x, .long x, .long x, .long x, .long x, .long x, .long x, .long x, .long (0 : Int64), .long (0 : Int64), .long (0 : Int64), .long (0 : Int64), .long (0 : Int64)] := A27
  have hz : n0 ≤ h27.size := by rw [W27.size]; exact hz
  have hk := hk.wr W27 (Or.inl (by simp))
  refine w_iincE (pc' := 19) (z := (27 : Int32)) (Ls' := #[.val (.ref a), .val (.long x), .second, .val (.int (27 : Int32)), .val (.int (32 : Int32))]) C d4_16 rfl (by decide) rfl rfl ?_
  refine w_goto (pc' := 6) C d4_19 (by decide) (by decide) ?_
  refine w_iloadN (pc' := 7) C d4_6 rfl rfl ?_
  refine w_iload (pc' := 9) C d4_7 rfl rfl ?_
  refine w_icmp_ge (pcT := 22) (pcF := 12) C d4_9 (by decide) (by decide) rfl (fun q => absurd q (by decide)) (fun q9 => ?_)
  refine w_aloadN (pc' := 13) C d4_12 rfl rfl rfl ?_
  refine w_iloadN (pc' := 14) C d4_13 rfl rfl ?_
  refine w_lloadN (pc' := 15) C d4_14 rfl rfl ?_
  refine wA_lastore (pc' := 16) C d4_15 rfl g_a O_a (by decide) (Nat.le_of_ble_eq_true rfl) (fun h28 W28 A28 => ?_)
  have O_a : Ar Z h28 a .long [.long x, .long x, .long x, .long x, .long x, .long x, .long x, .long x, .long x, .long x, .long x, .long x, .long x, .long x, .long x, .long x, .long x, .long x, .long x, .long x, .long x, .long x, .long x, .long x, .long x, .long x, .long x, .long x, .long (0 : Int64), .long (0 : Int64), .long (0 : Int64), .long (0 : Int64)] := A28
  have hz : n0 ≤ h28.size := by rw [W28.size]; exact hz
  have hk := hk.wr W28 (Or.inl (by simp))
  refine w_iincE (pc' := 19) (z := (28 : Int32)) (Ls' := #[.val (.ref a), .val (.long x), .second, .val (.int (28 : Int32)), .val (.int (32 : Int32))]) C d4_16 rfl (by decide) rfl rfl ?_
  refine w_goto (pc' := 6) C d4_19 (by decide) (by decide) ?_
  refine w_iloadN (pc' := 7) C d4_6 rfl rfl ?_
  refine w_iload (pc' := 9) C d4_7 rfl rfl ?_
  refine w_icmp_ge (pcT := 22) (pcF := 12) C d4_9 (by decide) (by decide) rfl (fun q => absurd q (by decide)) (fun q9 => ?_)
  refine w_aloadN (pc' := 13) C d4_12 rfl rfl rfl ?_
  refine w_iloadN (pc' := 14) C d4_13 rfl rfl ?_
  refine w_lloadN (pc' := 15) C d4_14 rfl rfl ?_
  refine wA_lastore (pc' := 16) C d4_15 rfl g_a O_a (by decide) (Nat.le_of_ble_eq_true rfl) (fun h29 W29 A29 => ?_)
  have O_a : Ar Z h29 a .long [.long x, .long x, .long x, .long x, .long x, .long x, .long x, .long x, .long x, .long x, .long x, .long x, .long x, .long x, .long x, .long x, .long x, .long x, .long x, .long x, .long x, .long x, .long x, .long x, .long x, .long x, .long x, .long x, .long x, .long (0 : Int64), .long (0 : Int64), .long (0 : Int64)] := A29
  have hz : n0 ≤ h29.size := by rw [W29.size]; exact hz
  have hk := hk.wr W29 (Or.inl (by simp))
  refine w_iincE (pc' := 19) (z := (29 : Int32)) (Ls' := #[.val (.ref a), .val (.long x), .second, .val (.int (29 : Int32)), .val (.int (32 : Int32))]) C d4_16 rfl (by decide) rfl rfl ?_
  refine w_goto (pc' := 6) C d4_19 (by decide) (by decide) ?_
  refine w_iloadN (pc' := 7) C d4_6 rfl rfl ?_
  refine w_iload (pc' := 9) C d4_7 rfl rfl ?_
  refine w_icmp_ge (pcT := 22) (pcF := 12) C d4_9 (by decide) (by decide) rfl (fun q => absurd q (by decide)) (fun q9 => ?_)
  refine w_aloadN (pc' := 13) C d4_12 rfl rfl rfl ?_
  refine w_iloadN (pc' := 14) C d4_13 rfl rfl ?_
  refine w_lloadN (pc' := 15) C d4_14 rfl rfl ?_
  refine wA_lastore (pc' := 16) C d4_15 rfl g_a O_a (by decide) (Nat.le_of_ble_eq_true rfl) (fun h30 W30 A30 => ?_)
  have O_a : Ar Z h30 a .long [.long x, .long x, .long x, .long x, .long x, .long x, .long x, .long x, .long x, .long x, .long x, .long x, .long x, .long x, .long x, .long x, .long x, .long x, .long x, .long x, .long x, .long x, .long x, .long x, .long x, .long x, .long x, .long x, .long x, .long x, .long (0 : Int64), .long (0 : Int64)] := A30
  have hz : n0 ≤ h30.size := by rw [W30.size]; exact hz
  have hk := hk.wr W30 (Or.inl (by simp))
  refine w_iincE (pc' := 19) (z := (30 : Int32)) (Ls' := #[.val (.ref a), .val (.long x), .second, .val (.int (30 : Int32)), .val (.int (32 : Int32))]) C d4_16 rfl (by decide) rfl rfl ?_
  refine w_goto (pc' := 6) C d4_19 (by decide) (by decide) ?_
  refine w_iloadN (pc' := 7) C d4_6 rfl rfl ?_
  refine w_iload (pc' := 9) C d4_7 rfl rfl ?_
  refine w_icmp_ge (pcT := 22) (pcF := 12) C d4_9 (by decide) (by decide) rfl (fun q => absurd q (by decide)) (fun q9 => ?_)
  refine w_aloadN (pc' := 13) C d4_12 rfl rfl rfl ?_
  refine w_iloadN (pc' := 14) C d4_13 rfl rfl ?_
  refine w_lloadN (pc' := 15) C d4_14 rfl rfl ?_
  refine wA_lastore (pc' := 16) C d4_15 rfl g_a O_a (by decide) (Nat.le_of_ble_eq_true rfl) (fun h31 W31 A31 => ?_)
  have O_a : Ar Z h31 a .long [.long x, .long x, .long x, .long x, .long x, .long x, .long x, .long x, .long x, .long x, .long x, .long x, .long x, .long x, .long x, .long x, .long x, .long x, .long x, .long x, .long x, .long x, .long x, .long x, .long x, .long x, .long x, .long x, .long x, .long x, .long x, .long (0 : Int64)] := A31
  have hz : n0 ≤ h31.size := by rw [W31.size]; exact hz
  have hk := hk.wr W31 (Or.inl (by simp))
  refine w_iincE (pc' := 19) (z := (31 : Int32)) (Ls' := #[.val (.ref a), .val (.long x), .second, .val (.int (31 : Int32)), .val (.int (32 : Int32))]) C d4_16 rfl (by decide) rfl rfl ?_
  refine w_goto (pc' := 6) C d4_19 (by decide) (by decide) ?_
  refine w_iloadN (pc' := 7) C d4_6 rfl rfl ?_
  refine w_iload (pc' := 9) C d4_7 rfl rfl ?_
  refine w_icmp_ge (pcT := 22) (pcF := 12) C d4_9 (by decide) (by decide) rfl (fun q => absurd q (by decide)) (fun q9 => ?_)
  refine w_aloadN (pc' := 13) C d4_12 rfl rfl rfl ?_
  refine w_iloadN (pc' := 14) C d4_13 rfl rfl ?_
  refine w_lloadN (pc' := 15) C d4_14 rfl rfl ?_
  refine wA_lastore (pc' := 16) C d4_15 rfl g_a O_a (by decide) (Nat.le_of_ble_eq_true rfl) (fun h32 W32 A32 => ?_)
  have O_a : Ar Z h32 a .long [.long x, .long x, .long x, .long x, .long x, .long x, .long x, .long x, .long x, .long x, .long x, .long x, .long x, .long x, .long x, .long x, .long x, .long x, .long x, .long x, .long x, .long x, .long x, .long x, .long x, .long x, .long x, .long x, .long x, .long x, .long x, .long x] := A32
  have hz : n0 ≤ h32.size := by rw [W32.size]; exact hz
  have hk := hk.wr W32 (Or.inl (by simp))
  refine w_iincE (pc' := 19) (z := (32 : Int32)) (Ls' := #[.val (.ref a), .val (.long x), .second, .val (.int (32 : Int32)), .val (.int (32 : Int32))]) C d4_16 rfl (by decide) rfl rfl ?_
  refine w_goto (pc' := 6) C d4_19 (by decide) (by decide) ?_
  refine w_iloadN (pc' := 7) C d4_6 rfl rfl ?_
  refine w_iload (pc' := 9) C d4_7 rfl rfl ?_
  refine w_icmp_ge (pcT := 22) (pcF := 12) C d4_9 (by decide) (by decide) rfl (fun q9 => ?_) (fun q => absurd q (by decide))
  refine w_ret0 C rfl d4_22 (by decide) (by decide) ?_
  exact ⟨rfl, O_a, hk⟩
theorem d3_0 : decode prog_14_method_10_code 0 = .ok (.iconst 2, 1) := by decide +kernel
theorem d3_1 : decode prog_14_method_10_code 1 = .ok (.iload_n 0, 1) := by decide +kernel
theorem d3_2 : decode prog_14_method_10_code 2 = .ok (.imul, 1) := by decide +kernel
theorem d3_3 : decode prog_14_method_10_code 3 = .ok (.newarray .long, 2) := by decide +kernel
theorem d3_5 : decode prog_14_method_10_code 5 = .ok (.astore_n 1, 1) := by decide +kernel
theorem d3_6 : decode prog_14_method_10_code 6 = .ok (.aload_n 1, 1) := by decide +kernel
theorem d3_7 : decode prog_14_method_10_code 7 = .ok (.ldc2_w 45, 3) := by decide +kernel
theorem d3_10 : decode prog_14_method_10_code 10 = .ok (.invokestatic 71, 3) := by decide +kernel
theorem d3_13 : decode prog_14_method_10_code 13 = .ok (.aload_n 1, 1) := by decide +kernel
theorem d3_14 : decode prog_14_method_10_code 14 = .ok (.areturn, 1) := by decide +kernel
def rm_emptyTree : Room := { frames := 1, cells := 1, slots := 32, locals := 16 }
theorem pf_emptyTree : plainFor (⟨"tallygate/RequestQueue", "emptyTree", "(I)[J"⟩ : MethodName) = true := plainFor_of_name (by first | (simp [plainName, overriddenIn]; done) | decide +kernel)
set_option maxRecDepth 65536 in
set_option maxHeartbeats 40000000 in
theorem ct_emptyTree {l : Launch} {Z : State} {a0 : Array Value} (hw : ∀ d ∈ tables_1, d.before a0 Z = true) (h0 : Heap) (n0 : Nat)  (hz : n0 ≤ h0.size) :
    Ct l Z (⟨"tallygate/RequestQueue", "emptyTree", "(I)[J"⟩ : MethodName) prog_14_method_10_code 2 (Option.some (Jvm.ClassFile.FieldType.array Jvm.ClassFile.FieldType.long)) [] rm_emptyTree #[.int (16 : Int32)] h0 n0 (fun v h => ∃ r, v = some (.ref r) ∧ h0.size ≤ r ∧ Ar Z h r .long [.long (9223372036854775807 : Int64), .long (9223372036854775807 : Int64), .long (9223372036854775807 : Int64), .long (9223372036854775807 : Int64), .long (9223372036854775807 : Int64), .long (9223372036854775807 : Int64), .long (9223372036854775807 : Int64), .long (9223372036854775807 : Int64), .long (9223372036854775807 : Int64), .long (9223372036854775807 : Int64), .long (9223372036854775807 : Int64), .long (9223372036854775807 : Int64), .long (9223372036854775807 : Int64), .long (9223372036854775807 : Int64), .long (9223372036854775807 : Int64), .long (9223372036854775807 : Int64), .long (9223372036854775807 : Int64), .long (9223372036854775807 : Int64), .long (9223372036854775807 : Int64), .long (9223372036854775807 : Int64), .long (9223372036854775807 : Int64), .long (9223372036854775807 : Int64), .long (9223372036854775807 : Int64), .long (9223372036854775807 : Int64), .long (9223372036854775807 : Int64), .long (9223372036854775807 : Int64), .long (9223372036854775807 : Int64), .long (9223372036854775807 : Int64), .long (9223372036854775807 : Int64), .long (9223372036854775807 : Int64), .long (9223372036854775807 : Int64), .long (9223372036854775807 : Int64)] ∧ Keep h0 h []) := by
  refine Ct.of (Ls := #[.val (.int (16 : Int32)), .unset]) pf_emptyTree (fun m => by first | (simp [entryFrame, mkF, argsToLocals, Value.category, maxLocals]; done) | rfl) ?_
  intro p e s m below meth c C
  have hk : Keep h0 h0 [] := Keep.refl _ _
  refine w_iconst (pc' := 1) (x := (2 : Int32)) C d3_0 rfl rfl ?_
  refine w_iloadN (pc' := 2) C d3_1 rfl rfl ?_
  refine w_imul (pc' := 3) C d3_2 rfl ?_
  refine w_eqI (z := (32 : Int32)) (by decide) ?_
  refine wA_newP (pc' := 5) (cap := 32) (ce' := 1) (sl' := 32) C (tw hw 16 rfl) d3_3 rfl (by decide) (by decide) (by decide) rfl rfl (by decide) (by decide) (fun h1 a1 e1 E1 A1 => ?_)
  have g_a1 : n0 ≤ a1 := by rw [e1]; exact hz
  have fr_a1 : h0.size ≤ a1 := by rw [e1]; exact hk.1
  have hz : n0 ≤ h1.size := Nat.le_trans hz E1.1
  have hk := hk.ext E1
  have O_a1 : Ar Z h1 a1 .long [.long (0 : Int64), .long (0 : Int64), .long (0 : Int64), .long (0 : Int64), .long (0 : Int64), .long (0 : Int64), .long (0 : Int64), .long (0 : Int64), .long (0 : Int64), .long (0 : Int64), .long (0 : Int64), .long (0 : Int64), .long (0 : Int64), .long (0 : Int64), .long (0 : Int64), .long (0 : Int64), .long (0 : Int64), .long (0 : Int64), .long (0 : Int64), .long (0 : Int64), .long (0 : Int64), .long (0 : Int64), .long (0 : Int64), .long (0 : Int64), .long (0 : Int64), .long (0 : Int64), .long (0 : Int64), .long (0 : Int64), .long (0 : Int64), .long (0 : Int64), .long (0 : Int64), .long (0 : Int64)] := A1
  refine w_astoreN (pc' := 6) (Ls' := #[.val (.int (16 : Int32)), .val (.ref a1)]) C d3_5 rfl rfl rfl ?_
  refine w_aloadN (pc' := 7) C d3_6 rfl rfl rfl ?_
  refine w_ldc2J (pc' := 10) C (tw hw 17 rfl) d3_7 rfl ?_
  refine w_callS (pc' := 13) (argsL := [.ref a1, .long (9223372036854775807 : Int64)]) (st := []) (W := 0) (ce' := 1) (sl' := 32) C (tw hw 18 rfl) (tw hw 19 rfl) (tw hw 20 rfl) (tw hw 21 rfl) (by decide) d3_10 rfl rfl (by decide) (by decide) (Nat.le_of_eq rfl) rfl rfl (by decide) (by decide) rfl (lenOf pd_0 rfl) (ct_fillJ hw h1 n0 a1 (9223372036854775807 : Int64) hz O_a1 g_a1) (k0 (fun h2 q2 => ?_))
  obtain ⟨P_a1, K2⟩ := q2
  have hz : n0 ≤ h2.size := Nat.le_trans hz K2.1
  have hk := Keep.app hk K2 (fun x hx => Or.inl hx) (allS (Or.inr fr_a1) all0)
  have O_a1 := P_a1
  refine w_aloadN (pc' := 14) C d3_13 rfl rfl rfl ?_
  refine w_retA (t := (.array .long)) C rfl rfl rfl d3_14 (by decide) (by decide) ?_
  exact ⟨a1, rfl, fr_a1, O_a1, hk⟩
theorem d1_0 : decode prog_14_method_1_code 0 = .ok (.aload_n 0, 1) := by decide +kernel
theorem d1_1 : decode prog_14_method_1_code 1 = .ok (.invokespecial 3, 3) := by decide +kernel
theorem d1_4 : decode prog_14_method_1_code 4 = .ok (.aload_n 0, 1) := by decide +kernel
theorem d1_5 : decode prog_14_method_1_code 5 = .ok (.bipush 16, 2) := by decide +kernel
theorem d1_7 : decode prog_14_method_1_code 7 = .ok (.anewarray 11, 3) := by decide +kernel
theorem d1_10 : decode prog_14_method_1_code 10 = .ok (.putfield 13, 3) := by decide +kernel
theorem d1_13 : decode prog_14_method_1_code 13 = .ok (.aload_n 0, 1) := by decide +kernel
theorem d1_14 : decode prog_14_method_1_code 14 = .ok (.bipush 16, 2) := by decide +kernel
theorem d1_16 : decode prog_14_method_1_code 16 = .ok (.invokestatic 17, 3) := by decide +kernel
theorem d1_19 : decode prog_14_method_1_code 19 = .ok (.putfield 21, 3) := by decide +kernel
theorem d1_22 : decode prog_14_method_1_code 22 = .ok (.return_, 1) := by decide +kernel
def rm_initQ : Room := { frames := 2, cells := 2, slots := 48, locals := 30 }
theorem pf_initQ : plainFor (⟨"tallygate/RequestQueue", "<init>", "()V"⟩ : MethodName) = true := plainFor_of_name (by first | (simp [plainName, overriddenIn]; done) | decide +kernel)
set_option maxRecDepth 65536 in
set_option maxHeartbeats 40000000 in
theorem ct_initQ {l : Launch} {Z : State} {a0 : Array Value} (hw : ∀ d ∈ tables_1, d.before a0 Z = true) (h0 : Heap) (n0 : Nat) (q : Addr) (hz : n0 ≤ h0.size) (O_q : Obj Z h0 q "tallygate/RequestQueue" [("slots", "[Ltallygate/RequestQueue$Entry;", .null), ("least", "[J", .null), ("size", "I", .int (0 : Int32)), ("end", "I", .int (0 : Int32))]) (g_q : n0 ≤ q) :
    Ct l Z (⟨"tallygate/RequestQueue", "<init>", "()V"⟩ : MethodName) prog_14_method_1_code 1 (Option.none : Option Jvm.ClassFile.FieldType) [] rm_initQ #[.ref q] h0 n0 (fun v h => v = none ∧ ∃ sa la, h0.size ≤ sa ∧ h0.size ≤ la ∧ sa ≠ la ∧ Obj Z h q "tallygate/RequestQueue" [("slots", "[Ltallygate/RequestQueue$Entry;", .ref sa), ("least", "[J", .ref la), ("size", "I", .int (0 : Int32)), ("end", "I", .int (0 : Int32))] ∧ ArR Z h sa "tallygate/RequestQueue$Entry" (sl3 .null .null .null) ∧ Ar Z h la .long (tr3 EMP EMP EMP) ∧ Keep h0 h [q]) := by
  refine Ct.of (Ls := #[.val (.ref q)]) pf_initQ (fun m => by first | (simp [entryFrame, mkF, argsToLocals, Value.category, maxLocals]; done) | rfl) ?_
  intro p e s m below meth c C
  have hk : Keep h0 h0 [q] := Keep.refl _ _
  refine w_aloadN (pc' := 1) C d1_0 rfl rfl rfl ?_
  refine w_initO (pc' := 4) (W := 0) C (tw hw 6 rfl) (tw hw 7 rfl) (tw hw 8 rfl) d1_1 rfl rfl (by decide) (Nat.le_of_eq rfl) (by decide) ?_
  refine w_aloadN (pc' := 5) C d1_4 rfl rfl rfl ?_
  refine w_bipush (pc' := 7) (x := (16 : Int32)) C d1_5 rfl rfl ?_
  refine wA_newR (pc' := 10) (cap := 16) (ce' := 1) (sl' := 16) C (tw hw 9 rfl) (tw hw 10 rfl) d1_7 rfl (by decide) (by decide) (by decide) rfl rfl (by decide) (by decide) (fun h1 a1 e1 E1 A1 => ?_)
  have g_a1 : n0 ≤ a1 := by rw [e1]; exact hz
  have fr_a1 : h0.size ≤ a1 := by rw [e1]; exact hk.1
  have ne_q_a1 : q ≠ a1 := by rw [e1]; exact Nat.ne_of_lt O_q.lt
  have O_q := O_q.ext E1
  have hz : n0 ≤ h1.size := Nat.le_trans hz E1.1
  have hk := hk.ext E1
  have O_a1 : ArR Z h1 a1 "tallygate/RequestQueue$Entry" [.null, .null, .null, .null, .null, .null, .null, .null, .null, .null, .null, .null, .null, .null, .null, .null] := A1
  refine w_putF (pc' := 13) (ty := (.array (.object "tallygate/RequestQueue$Entry"))) C (tw hw 11 rfl) (Or.inl (tw hw 12 rfl)) (tw hw 1 rfl) (by decide) rfl rfl d1_10 rfl g_q (O_q.fld 0 rfl) O_q.1 (fun h2 W2 => ?_)
  have O_q : Obj Z h2 q "tallygate/RequestQueue" [("slots", "[Ltallygate/RequestQueue$Entry;", .ref a1), ("least", "[J", .null), ("size", "I", .int (0 : Int32)), ("end", "I", .int (0 : Int32))] := O_q.put 0 rfl W2 rfl
  have O_a1 := O_a1.other W2 (Ne.symm ne_q_a1)
  have hz : n0 ≤ h2.size := by rw [W2.size]; exact hz
  have hk := hk.wr W2 (Or.inl (by simp))
  refine w_aloadN (pc' := 14) C d1_13 rfl rfl rfl ?_
  refine w_bipush (pc' := 16) (x := (16 : Int32)) C d1_14 rfl rfl ?_
  refine w_callS (pc' := 19) (argsL := [.int (16 : Int32)]) (st := [.ref q]) (W := 1) (ce' := 2) (sl' := 48) C (tw hw 13 rfl) (tw hw 14 rfl) (tw hw 2 rfl) (tw hw 15 rfl) (by decide) d1_16 rfl rfl (by decide) (by decide) (Nat.le_of_eq rfl) rfl rfl (by decide) (by decide) rfl (lenOf pd_1 rfl) (ct_emptyTree hw h2 n0 hz) (kx (fun c3 h3 q3 => ?_))
  obtain ⟨fb_c3, P_c3, K3⟩ := q3
  have g_c3 : n0 ≤ c3 := Nat.le_trans hz fb_c3
  have fr_c3 : h0.size ≤ c3 := Nat.le_trans hk.1 fb_c3
  have ne_q_c3 : q ≠ c3 := Nat.ne_of_lt (Nat.lt_of_lt_of_le O_q.lt fb_c3)
  have ne_a1_c3 : a1 ≠ c3 := Nat.ne_of_lt (Nat.lt_of_lt_of_le O_a1.lt fb_c3)
  have O_q := O_q.keep K3 nin0
  have O_a1 := O_a1.keep K3 nin0
  have hz : n0 ≤ h3.size := Nat.le_trans hz K3.1
  have hk := Keep.app hk K3 (fun x hx => Or.inl hx) all0
  have O_c3 := P_c3
  refine w_putF (pc' := 22) (ty := (.array .long)) C (tw hw 22 rfl) (Or.inl (tw hw 23 rfl)) (tw hw 1 rfl) (by decide) rfl rfl d1_19 rfl g_q (O_q.fld 1 rfl) O_q.1 (fun h4 W4 => ?_)
  have O_q : Obj Z h4 q "tallygate/RequestQueue" [("slots", "[Ltallygate/RequestQueue$Entry;", .ref a1), ("least", "[J", .ref c3), ("size", "I", .int (0 : Int32)), ("end", "I", .int (0 : Int32))] := O_q.put 1 rfl W4 rfl
  have O_a1 := O_a1.other W4 (Ne.symm ne_q_a1)
  have O_c3 := O_c3.other W4 (Ne.symm ne_q_c3)
  have hz : n0 ≤ h4.size := by rw [W4.size]; exact hz
  have hk := hk.wr W4 (Or.inl (by simp))
  refine w_ret0 C rfl d1_22 (by decide) (by decide) ?_
  exact ⟨rfl, a1, c3, fr_a1, fr_c3, ne_a1_c3, O_q, O_a1, (by rw [← tr_emp]; exact O_c3), hk⟩
theorem d6_0 : decode prog_15_method_1_code 0 = .ok (.aload_n 0, 1) := by decide +kernel
theorem d6_1 : decode prog_15_method_1_code 1 = .ok (.invokespecial 3, 3) := by decide +kernel
theorem d6_4 : decode prog_15_method_1_code 4 = .ok (.aload_n 0, 1) := by decide +kernel
theorem d6_5 : decode prog_15_method_1_code 5 = .ok (.iconst (-1), 1) := by decide +kernel
theorem d6_6 : decode prog_15_method_1_code 6 = .ok (.putfield 9, 3) := by decide +kernel
theorem d6_9 : decode prog_15_method_1_code 9 = .ok (.aload_n 0, 1) := by decide +kernel
theorem d6_10 : decode prog_15_method_1_code 10 = .ok (.iload_n 1, 1) := by decide +kernel
theorem d6_11 : decode prog_15_method_1_code 11 = .ok (.putfield 15, 3) := by decide +kernel
theorem d6_14 : decode prog_15_method_1_code 14 = .ok (.return_, 1) := by decide +kernel
def rm_initE : Room := { frames := 1, cells := 0, slots := 0, locals := 12 }
theorem pf_initE : plainFor (⟨"tallygate/RequestQueue$Entry", "<init>", "(I)V"⟩ : MethodName) = true := plainFor_of_name (by first | (simp [plainName, overriddenIn]; done) | decide +kernel)
set_option maxRecDepth 65536 in
set_option maxHeartbeats 40000000 in
theorem ct_initE {l : Launch} {Z : State} {a0 : Array Value} (hw : ∀ d ∈ tables_1, d.before a0 Z = true) (h0 : Heap) (n0 : Nat) (ee : Addr) (x : Int32) (hz : n0 ≤ h0.size) (O_ee : Obj Z h0 ee "tallygate/RequestQueue$Entry" [("slot", "I", .int (0 : Int32)), ("permits", "I", .int (0 : Int32))]) (g_ee : n0 ≤ ee) :
    Ct l Z (⟨"tallygate/RequestQueue$Entry", "<init>", "(I)V"⟩ : MethodName) prog_15_method_1_code 2 (Option.none : Option Jvm.ClassFile.FieldType) [] rm_initE #[.ref ee, .int x] h0 n0 (fun v h => v = none ∧ Obj Z h ee "tallygate/RequestQueue$Entry" [("slot", "I", .int (-1 : Int32)), ("permits", "I", .int x)] ∧ Keep h0 h [ee]) := by
  refine Ct.of (Ls := #[.val (.ref ee), .val (.int x)]) pf_initE (fun m => by first | (simp [entryFrame, mkF, argsToLocals, Value.category, maxLocals]; done) | rfl) ?_
  intro p e s m below meth c C
  have hk : Keep h0 h0 [ee] := Keep.refl _ _
  refine w_aloadN (pc' := 1) C d6_0 rfl rfl rfl ?_
  refine w_initO (pc' := 4) (W := 0) C (tw hw 34 rfl) (tw hw 7 rfl) (tw hw 8 rfl) d6_1 rfl rfl (by decide) (Nat.le_of_eq rfl) (by decide) ?_
  refine w_aloadN (pc' := 5) C d6_4 rfl rfl rfl ?_
  refine w_iconst (pc' := 6) (x := (-1 : Int32)) C d6_5 rfl rfl ?_
  refine w_putF (pc' := 9) (ty := .int) C (tw hw 35 rfl) (Or.inl (tw hw 36 rfl)) (tw hw 25 rfl) (by decide) rfl rfl d6_6 rfl g_ee (O_ee.fld 0 rfl) O_ee.1 (fun h1 W1 => ?_)
  have O_ee : Obj Z h1 ee "tallygate/RequestQueue$Entry" [("slot", "I", .int (-1 : Int32)), ("permits", "I", .int (0 : Int32))] := O_ee.put 0 rfl W1 rfl
  have hz : n0 ≤ h1.size := by rw [W1.size]; exact hz
  have hk := hk.wr W1 (Or.inl (by simp))
  refine w_aloadN (pc' := 10) C d6_9 rfl rfl rfl ?_
  refine w_iloadN (pc' := 11) C d6_10 rfl rfl ?_
  refine w_putF (pc' := 14) (ty := .int) C (tw hw 37 rfl) (Or.inr ⟨(tw hw 38 rfl), rfl, rfl⟩) (tw hw 25 rfl) (by decide) rfl rfl d6_11 rfl g_ee (O_ee.fld 1 rfl) O_ee.1 (fun h2 W2 => ?_)
  have O_ee : Obj Z h2 ee "tallygate/RequestQueue$Entry" [("slot", "I", .int (-1 : Int32)), ("permits", "I", .int x)] := O_ee.put 1 rfl W2 rfl
  have hz : n0 ≤ h2.size := by rw [W2.size]; exact hz
  have hk := hk.wr W2 (Or.inl (by simp))
  refine w_ret0 C rfl d6_14 (by decide) (by decide) ?_
  exact ⟨rfl, O_ee, hk⟩
theorem d10_0 : decode prog_14_method_8_code 0 = .ok (.aload_n 0, 1) := by decide +kernel
theorem d10_1 : decode prog_14_method_8_code 1 = .ok (.getfield 13, 3) := by decide +kernel
theorem d10_4 : decode prog_14_method_8_code 4 = .ok (.arraylength, 1) := by decide +kernel
theorem d10_5 : decode prog_14_method_8_code 5 = .ok (.iload_n 1, 1) := by decide +kernel
theorem d10_6 : decode prog_14_method_8_code 6 = .ok (.iadd, 1) := by decide +kernel
theorem d10_7 : decode prog_14_method_8_code 7 = .ok (.istore 4, 2) := by decide +kernel
theorem d10_9 : decode prog_14_method_8_code 9 = .ok (.aload_n 0, 1) := by decide +kernel
theorem d10_10 : decode prog_14_method_8_code 10 = .ok (.getfield 21, 3) := by decide +kernel
theorem d10_13 : decode prog_14_method_8_code 13 = .ok (.iload 4, 2) := by decide +kernel
theorem d10_15 : decode prog_14_method_8_code 15 = .ok (.lload_n 2, 1) := by decide +kernel
theorem d10_16 : decode prog_14_method_8_code 16 = .ok (.lastore, 1) := by decide +kernel
theorem d10_17 : decode prog_14_method_8_code 17 = .ok (.iload 4, 2) := by decide +kernel
theorem d10_19 : decode prog_14_method_8_code 19 = .ok (.iconst 1, 1) := by decide +kernel
theorem d10_20 : decode prog_14_method_8_code 20 = .ok (.if_icmp .le 60, 3) := by decide +kernel
theorem d10_23 : decode prog_14_method_8_code 23 = .ok (.iload 4, 2) := by decide +kernel
theorem d10_25 : decode prog_14_method_8_code 25 = .ok (.iconst 2, 1) := by decide +kernel
theorem d10_26 : decode prog_14_method_8_code 26 = .ok (.idiv, 1) := by decide +kernel
theorem d10_27 : decode prog_14_method_8_code 27 = .ok (.istore 4, 2) := by decide +kernel
theorem d10_29 : decode prog_14_method_8_code 29 = .ok (.aload_n 0, 1) := by decide +kernel
theorem d10_30 : decode prog_14_method_8_code 30 = .ok (.getfield 21, 3) := by decide +kernel
theorem d10_33 : decode prog_14_method_8_code 33 = .ok (.iconst 2, 1) := by decide +kernel
theorem d10_34 : decode prog_14_method_8_code 34 = .ok (.iload 4, 2) := by decide +kernel
theorem d10_36 : decode prog_14_method_8_code 36 = .ok (.imul, 1) := by decide +kernel
theorem d10_37 : decode prog_14_method_8_code 37 = .ok (.laload, 1) := by decide +kernel
theorem d10_38 : decode prog_14_method_8_code 38 = .ok (.aload_n 0, 1) := by decide +kernel
theorem d10_39 : decode prog_14_method_8_code 39 = .ok (.getfield 21, 3) := by decide +kernel
theorem d10_42 : decode prog_14_method_8_code 42 = .ok (.iconst 2, 1) := by decide +kernel
theorem d10_43 : decode prog_14_method_8_code 43 = .ok (.iload 4, 2) := by decide +kernel
theorem d10_45 : decode prog_14_method_8_code 45 = .ok (.imul, 1) := by decide +kernel
theorem d10_46 : decode prog_14_method_8_code 46 = .ok (.iconst 1, 1) := by decide +kernel
theorem d10_47 : decode prog_14_method_8_code 47 = .ok (.iadd, 1) := by decide +kernel
theorem d10_48 : decode prog_14_method_8_code 48 = .ok (.laload, 1) := by decide +kernel
theorem d10_49 : decode prog_14_method_8_code 49 = .ok (.invokestatic 57, 3) := by decide +kernel
theorem d10_52 : decode prog_14_method_8_code 52 = .ok (.lstore 5, 2) := by decide +kernel
theorem d10_54 : decode prog_14_method_8_code 54 = .ok (.aload_n 0, 1) := by decide +kernel
theorem d10_55 : decode prog_14_method_8_code 55 = .ok (.getfield 21, 3) := by decide +kernel
theorem d10_58 : decode prog_14_method_8_code 58 = .ok (.iload 4, 2) := by decide +kernel
theorem d10_60 : decode prog_14_method_8_code 60 = .ok (.laload, 1) := by decide +kernel
theorem d10_61 : decode prog_14_method_8_code 61 = .ok (.lload 5, 2) := by decide +kernel
theorem d10_63 : decode prog_14_method_8_code 63 = .ok (.lcmp, 1) := by decide +kernel
theorem d10_64 : decode prog_14_method_8_code 64 = .ok (.ifCond .ne 4, 3) := by decide +kernel
theorem d10_67 : decode prog_14_method_8_code 67 = .ok (.return_, 1) := by decide +kernel
theorem d10_68 : decode prog_14_method_8_code 68 = .ok (.aload_n 0, 1) := by decide +kernel
theorem d10_69 : decode prog_14_method_8_code 69 = .ok (.getfield 21, 3) := by decide +kernel
theorem d10_72 : decode prog_14_method_8_code 72 = .ok (.iload 4, 2) := by decide +kernel
theorem d10_74 : decode prog_14_method_8_code 74 = .ok (.lload 5, 2) := by decide +kernel
theorem d10_76 : decode prog_14_method_8_code 76 = .ok (.lastore, 1) := by decide +kernel
theorem d10_77 : decode prog_14_method_8_code 77 = .ok (.goto (-60), 3) := by decide +kernel
theorem d10_80 : decode prog_14_method_8_code 80 = .ok (.return_, 1) := by decide +kernel
def rm_setLeaf0 : Room := { frames := 1, cells := 0, slots := 0, locals := 15 }
theorem pf_setLeaf0 : plainFor (⟨"tallygate/RequestQueue", "setLeaf", "(IJ)V"⟩ : MethodName) = true := plainFor_of_name (by first | (simp [plainName, overriddenIn]; done) | decide +kernel)
set_option maxRecDepth 65536 in
set_option maxHeartbeats 40000000 in
theorem ct_setLeaf0 {l : Launch} {Z : State} {a0 : Array Value} (hw : ∀ d ∈ tables_1, d.before a0 Z = true) (h0 : Heap) (n0 : Nat) (q : Addr) (x : Int64) (sa : Addr) (la : Addr) (en : Int32) (sz : Int32) (sv : List Value) (ta : Int64) (tb : Int64) (tc : Int64) (hz : n0 ≤ h0.size) (hsv : sv.length = 16) (O_q : Obj Z h0 q "tallygate/RequestQueue" [("slots", "[Ltallygate/RequestQueue$Entry;", .ref sa), ("least", "[J", .ref la), ("size", "I", .int sz), ("end", "I", .int en)]) (O_sa : ArR Z h0 sa "tallygate/RequestQueue$Entry" sv) (O_la : Ar Z h0 la .long (tr3 ta tb tc)) (g_la : n0 ≤ la) (ne_q_la : q ≠ la) (ne_sa_la : sa ≠ la) :
    Ct l Z (⟨"tallygate/RequestQueue", "setLeaf", "(IJ)V"⟩ : MethodName) prog_14_method_8_code 7 (Option.none : Option Jvm.ClassFile.FieldType) [] rm_setLeaf0 #[.ref q, .int (0 : Int32), .long x] h0 n0 (fun v h => v = none ∧ Ar Z h la .long (tr3 x tb tc) ∧ Keep h0 h [la]) := by
  refine Ct.of (Ls := #[.val (.ref q), .val (.int (0 : Int32)), .val (.long x), .second, .unset, .unset, .unset]) pf_setLeaf0 (fun m => by first | (simp [entryFrame, mkF, argsToLocals, Value.category, maxLocals]; done) | rfl) ?_
  intro p e s m below meth c C
  have hk : Keep h0 h0 [la] := Keep.refl _ _
  have O_la : Ar Z h0 la .long [.long EMP, .long (minJ (minJ (minJ (minJ ta tb) (minJ tc EMP)) EMP) EMP), .long (minJ (minJ (minJ ta tb) (minJ tc EMP)) EMP), .long EMP, .long (minJ (minJ ta tb) (minJ tc EMP)), .long EMP, .long EMP, .long EMP, .long (minJ ta tb), .long (minJ tc EMP), .long EMP, .long EMP, .long EMP, .long EMP, .long EMP, .long EMP, .long ta, .long tb, .long tc, .long EMP, .long EMP, .long EMP, .long EMP, .long EMP, .long EMP, .long EMP, .long EMP, .long EMP, .long EMP, .long EMP, .long EMP, .long EMP] := O_la
  refine w_aloadN (pc' := 1) C d10_0 rfl rfl rfl ?_
  refine w_getF (pc' := 4) C (tw hw 11 rfl) d10_1 rfl (O_q.fld 0 rfl) ?_
  refine wA_alenR (pc' := 5) (n := (16 : Int32)) C d10_4 rfl O_sa (by rw [hsv]; rfl) ?_
  refine w_iloadN (pc' := 6) C d10_5 rfl rfl ?_
  refine w_iadd (pc' := 7) C d10_6 rfl ?_
  refine w_eqI (z := (16 : Int32)) (by decide) ?_
  refine w_istore (pc' := 9) (Ls' := #[.val (.ref q), .val (.int (0 : Int32)), .val (.long x), .second, .val (.int (16 : Int32)), .unset, .unset]) C d10_7 rfl rfl ?_
  refine w_aloadN (pc' := 10) C d10_9 rfl rfl rfl ?_
  refine w_getF (pc' := 13) C (tw hw 22 rfl) d10_10 rfl (O_q.fld 1 rfl) ?_
  refine w_iload (pc' := 15) C d10_13 rfl rfl ?_
  refine w_lloadN (pc' := 16) C d10_15 rfl rfl ?_
  refine wA_lastore (pc' := 17) C d10_16 rfl g_la O_la (by decide) (Nat.le_of_ble_eq_true rfl) (fun h1 W1 A1 => ?_)
  have O_la : Ar Z h1 la .long [.long EMP, .long (minJ (minJ (minJ (minJ ta tb) (minJ tc EMP)) EMP) EMP), .long (minJ (minJ (minJ ta tb) (minJ tc EMP)) EMP), .long EMP, .long (minJ (minJ ta tb) (minJ tc EMP)), .long EMP, .long EMP, .long EMP, .long (minJ ta tb), .long (minJ tc EMP), .long EMP, .long EMP, .long EMP, .long EMP, .long EMP, .long EMP, .long x, .long tb, .long tc, .long EMP, .long EMP, .long EMP, .long EMP, .long EMP, .long EMP, .long EMP, .long EMP, .long EMP, .long EMP, .long EMP, .long EMP, .long EMP] := A1
  have O_q := O_q.other W1 ne_q_la
  have O_sa := O_sa.other W1 ne_sa_la
  have hz : n0 ≤ h1.size := by rw [W1.size]; exact hz
  have hk := hk.wr W1 (Or.inl (by simp))
  refine w_iload (pc' := 19) C d10_17 rfl rfl ?_
  refine w_iconst (pc' := 20) (x := (1 : Int32)) C d10_19 rfl rfl ?_
  refine w_icmp_le (pcT := 80) (pcF := 23) C d10_20 (by decide) (by decide) rfl (fun q => absurd q (by decide)) (fun q20 => ?_)
  refine w_iload (pc' := 25) C d10_23 rfl rfl ?_
  refine w_iconst (pc' := 26) (x := (2 : Int32)) C d10_25 rfl rfl ?_
  refine w_idiv (pc' := 27) C d10_26 (by decide) rfl ?_
  refine w_eqI (z := (8 : Int32)) (by decide) ?_
  refine w_istore (pc' := 29) (Ls' := #[.val (.ref q), .val (.int (0 : Int32)), .val (.long x), .second, .val (.int (8 : Int32)), .unset, .unset]) C d10_27 rfl rfl ?_
  refine w_aloadN (pc' := 30) C d10_29 rfl rfl rfl ?_
  refine w_getF (pc' := 33) C (tw hw 22 rfl) d10_30 rfl (O_q.fld 1 rfl) ?_
  refine w_iconst (pc' := 34) (x := (2 : Int32)) C d10_33 rfl rfl ?_
  refine w_iload (pc' := 36) C d10_34 rfl rfl ?_
  refine w_imul (pc' := 37) C d10_36 rfl ?_
  refine w_eqI (z := (16 : Int32)) (by decide) ?_
  refine wA_laload (pc' := 38) (v := .long x) C d10_37 rfl O_la (by decide) rfl ?_
  refine w_aloadN (pc' := 39) C d10_38 rfl rfl rfl ?_
  refine w_getF (pc' := 42) C (tw hw 22 rfl) d10_39 rfl (O_q.fld 1 rfl) ?_
  refine w_iconst (pc' := 43) (x := (2 : Int32)) C d10_42 rfl rfl ?_
  refine w_iload (pc' := 45) C d10_43 rfl rfl ?_
  refine w_imul (pc' := 46) C d10_45 rfl ?_
  refine w_eqI (z := (16 : Int32)) (by decide) ?_
  refine w_iconst (pc' := 47) (x := (1 : Int32)) C d10_46 rfl rfl ?_
  refine w_iadd (pc' := 48) C d10_47 rfl ?_
  refine w_eqI (z := (17 : Int32)) (by decide) ?_
  refine wA_laload (pc' := 49) (v := .long tb) C d10_48 rfl O_la (by decide) rfl ?_
  refine w_callS (pc' := 52) (argsL := [.long x, .long tb]) (st := []) (W := 0) (ce' := 0) (sl' := 0) C (tw hw 64 rfl) (tw hw 65 rfl) (tw hw 29 rfl) (tw hw 66 rfl) (by decide) d10_49 rfl rfl (by decide) (by decide) (Nat.le_of_eq rfl) rfl rfl (by decide) (by decide) rfl (lenOf pd_2 rfl) (ct_minJ hw h1 n0 x tb) (kp ?_)
  refine w_lstore (pc' := 54) (Ls' := #[.val (.ref q), .val (.int (0 : Int32)), .val (.long x), .second, .val (.int (8 : Int32)), .val (.long (minJ x tb)), .second]) C d10_52 rfl rfl ?_
  refine w_aloadN (pc' := 55) C d10_54 rfl rfl rfl ?_
  refine w_getF (pc' := 58) C (tw hw 22 rfl) d10_55 rfl (O_q.fld 1 rfl) ?_
  refine w_iload (pc' := 60) C d10_58 rfl rfl ?_
  refine wA_laload (pc' := 61) (v := .long (minJ ta tb)) C d10_60 rfl O_la (by decide) rfl ?_
  refine w_lload (pc' := 63) C d10_61 rfl rfl ?_
  refine w_lcmp (pc' := 64) C d10_63 rfl ?_
  refine w_if_ne (pcT := 68) (pcF := 67) C d10_64 (by decide) (by decide) rfl (fun q64 => ?_) (fun q64 => ?_)
  · skip
    refine w_aloadN (pc' := 69) C d10_68 rfl rfl rfl ?_
    refine w_getF (pc' := 72) C (tw hw 22 rfl) d10_69 rfl (O_q.fld 1 rfl) ?_
    refine w_iload (pc' := 74) C d10_72 rfl rfl ?_
    refine w_lload (pc' := 76) C d10_74 rfl rfl ?_
    refine wA_lastore (pc' := 77) C d10_76 rfl g_la O_la (by decide) (Nat.le_of_ble_eq_true rfl) (fun h2 W2 A2 => ?_)
    have O_la : Ar Z h2 la .long [.long EMP, .long (minJ (minJ (minJ (minJ ta tb) (minJ tc EMP)) EMP) EMP), .long (minJ (minJ (minJ ta tb) (minJ tc EMP)) EMP), .long EMP, .long (minJ (minJ ta tb) (minJ tc EMP)), .long EMP, .long EMP, .long EMP, .long (minJ x tb), .long (minJ tc EMP), .long EMP, .long EMP, .long EMP, .long EMP, .long EMP, .long EMP, .long x, .long tb, .long tc, .long EMP, .long EMP, .long EMP, .long EMP, .long EMP, .long EMP, .long EMP, .long EMP, .long EMP, .long EMP, .long EMP, .long EMP, .long EMP] := A2
    have O_q := O_q.other W2 ne_q_la
    have O_sa := O_sa.other W2 ne_sa_la
    have hz : n0 ≤ h2.size := by rw [W2.size]; exact hz
    have hk := hk.wr W2 (Or.inl (by simp))
    refine w_goto (pc' := 17) C d10_77 (by decide) (by decide) ?_
    refine w_iload (pc' := 19) C d10_17 rfl rfl ?_
    refine w_iconst (pc' := 20) (x := (1 : Int32)) C d10_19 rfl rfl ?_
    refine w_icmp_le (pcT := 80) (pcF := 23) C d10_20 (by decide) (by decide) rfl (fun q => absurd q (by decide)) (fun q20 => ?_)
    refine w_iload (pc' := 25) C d10_23 rfl rfl ?_
    refine w_iconst (pc' := 26) (x := (2 : Int32)) C d10_25 rfl rfl ?_
    refine w_idiv (pc' := 27) C d10_26 (by decide) rfl ?_
    refine w_eqI (z := (4 : Int32)) (by decide) ?_
    refine w_istore (pc' := 29) (Ls' := #[.val (.ref q), .val (.int (0 : Int32)), .val (.long x), .second, .val (.int (4 : Int32)), .val (.long (minJ x tb)), .second]) C d10_27 rfl rfl ?_
    refine w_aloadN (pc' := 30) C d10_29 rfl rfl rfl ?_
    refine w_getF (pc' := 33) C (tw hw 22 rfl) d10_30 rfl (O_q.fld 1 rfl) ?_
    refine w_iconst (pc' := 34) (x := (2 : Int32)) C d10_33 rfl rfl ?_
    refine w_iload (pc' := 36) C d10_34 rfl rfl ?_
    refine w_imul (pc' := 37) C d10_36 rfl ?_
    refine w_eqI (z := (8 : Int32)) (by decide) ?_
    refine wA_laload (pc' := 38) (v := .long (minJ x tb)) C d10_37 rfl O_la (by decide) rfl ?_
    refine w_aloadN (pc' := 39) C d10_38 rfl rfl rfl ?_
    refine w_getF (pc' := 42) C (tw hw 22 rfl) d10_39 rfl (O_q.fld 1 rfl) ?_
    refine w_iconst (pc' := 43) (x := (2 : Int32)) C d10_42 rfl rfl ?_
    refine w_iload (pc' := 45) C d10_43 rfl rfl ?_
    refine w_imul (pc' := 46) C d10_45 rfl ?_
    refine w_eqI (z := (8 : Int32)) (by decide) ?_
    refine w_iconst (pc' := 47) (x := (1 : Int32)) C d10_46 rfl rfl ?_
    refine w_iadd (pc' := 48) C d10_47 rfl ?_
    refine w_eqI (z := (9 : Int32)) (by decide) ?_
    refine wA_laload (pc' := 49) (v := .long (minJ tc EMP)) C d10_48 rfl O_la (by decide) rfl ?_
    refine w_callS (pc' := 52) (argsL := [.long (minJ x tb), .long (minJ tc EMP)]) (st := []) (W := 0) (ce' := 0) (sl' := 0) C (tw hw 64 rfl) (tw hw 65 rfl) (tw hw 29 rfl) (tw hw 66 rfl) (by decide) d10_49 rfl rfl (by decide) (by decide) (Nat.le_of_eq rfl) rfl rfl (by decide) (by decide) rfl (lenOf pd_2 rfl) (ct_minJ hw h2 n0 (minJ x tb) (minJ tc EMP)) (kp ?_)
    refine w_lstore (pc' := 54) (Ls' := #[.val (.ref q), .val (.int (0 : Int32)), .val (.long x), .second, .val (.int (4 : Int32)), .val (.long (minJ (minJ x tb) (minJ tc EMP))), .second]) C d10_52 rfl rfl ?_
    refine w_aloadN (pc' := 55) C d10_54 rfl rfl rfl ?_
    refine w_getF (pc' := 58) C (tw hw 22 rfl) d10_55 rfl (O_q.fld 1 rfl) ?_
    refine w_iload (pc' := 60) C d10_58 rfl rfl ?_
    refine wA_laload (pc' := 61) (v := .long (minJ (minJ ta tb) (minJ tc EMP))) C d10_60 rfl O_la (by decide) rfl ?_
    refine w_lload (pc' := 63) C d10_61 rfl rfl ?_
    refine w_lcmp (pc' := 64) C d10_63 rfl ?_
    refine w_if_ne (pcT := 68) (pcF := 67) C d10_64 (by decide) (by decide) rfl (fun q64 => ?_) (fun q64 => ?_)
    · skip
      refine w_aloadN (pc' := 69) C d10_68 rfl rfl rfl ?_
      refine w_getF (pc' := 72) C (tw hw 22 rfl) d10_69 rfl (O_q.fld 1 rfl) ?_
      refine w_iload (pc' := 74) C d10_72 rfl rfl ?_
      refine w_lload (pc' := 76) C d10_74 rfl rfl ?_
      refine wA_lastore (pc' := 77) C d10_76 rfl g_la O_la (by decide) (Nat.le_of_ble_eq_true rfl) (fun h3 W3 A3 => ?_)
      have O_la : Ar Z h3 la .long [.long EMP, .long (minJ (minJ (minJ (minJ ta tb) (minJ tc EMP)) EMP) EMP), .long (minJ (minJ (minJ ta tb) (minJ tc EMP)) EMP), .long EMP, .long (minJ (minJ x tb) (minJ tc EMP)), .long EMP, .long EMP, .long EMP, .long (minJ x tb), .long (minJ tc EMP), .long EMP, .long EMP, .long EMP, .long EMP, .long EMP, .long EMP, .long x, .long tb, .long tc, .long EMP, .long EMP, .long EMP, .long EMP, .long EMP, .long EMP, .long EMP, .long EMP, .long EMP, .long EMP, .long EMP, .long EMP, .long EMP] := A3
      have O_q := O_q.other W3 ne_q_la
      have O_sa := O_sa.other W3 ne_sa_la
      have hz : n0 ≤ h3.size := by rw [W3.size]; exact hz
      have hk := hk.wr W3 (Or.inl (by simp))
      refine w_goto (pc' := 17) C d10_77 (by decide) (by decide) ?_
      refine w_iload (pc' := 19) C d10_17 rfl rfl ?_
      refine w_iconst (pc' := 20) (x := (1 : Int32)) C d10_19 rfl rfl ?_
      refine w_icmp_le (pcT := 80) (pcF := 23) C d10_20 (by decide) (by decide) rfl (fun q => absurd q (by decide)) (fun q20 => ?_)
      refine w_iload (pc' := 25) C d10_23 rfl rfl ?_
      refine w_iconst (pc' := 26) (x := (2 : Int32)) C d10_25 rfl rfl ?_
      refine w_idiv (pc' := 27) C d10_26 (by decide) rfl ?_
      refine w_eqI (z := (2 : Int32)) (by decide) ?_
      refine w_istore (pc' := 29) (Ls' := #[.val (.ref q), .val (.int (0 : Int32)), .val (.long x), .second, .val (.int (2 : Int32)), .val (.long (minJ (minJ x tb) (minJ tc EMP))), .second]) C d10_27 rfl rfl ?_
      refine w_aloadN (pc' := 30) C d10_29 rfl rfl rfl ?_
      refine w_getF (pc' := 33) C (tw hw 22 rfl) d10_30 rfl (O_q.fld 1 rfl) ?_
      refine w_iconst (pc' := 34) (x := (2 : Int32)) C d10_33 rfl rfl ?_
      refine w_iload (pc' := 36) C d10_34 rfl rfl ?_
      refine w_imul (pc' := 37) C d10_36 rfl ?_
      refine w_eqI (z := (4 : Int32)) (by decide) ?_
      refine wA_laload (pc' := 38) (v := .long (minJ (minJ x tb) (minJ tc EMP))) C d10_37 rfl O_la (by decide) rfl ?_
      refine w_aloadN (pc' := 39) C d10_38 rfl rfl rfl ?_
      refine w_getF (pc' := 42) C (tw hw 22 rfl) d10_39 rfl (O_q.fld 1 rfl) ?_
      refine w_iconst (pc' := 43) (x := (2 : Int32)) C d10_42 rfl rfl ?_
      refine w_iload (pc' := 45) C d10_43 rfl rfl ?_
      refine w_imul (pc' := 46) C d10_45 rfl ?_
      refine w_eqI (z := (4 : Int32)) (by decide) ?_
      refine w_iconst (pc' := 47) (x := (1 : Int32)) C d10_46 rfl rfl ?_
      refine w_iadd (pc' := 48) C d10_47 rfl ?_
      refine w_eqI (z := (5 : Int32)) (by decide) ?_
      refine wA_laload (pc' := 49) (v := .long EMP) C d10_48 rfl O_la (by decide) rfl ?_
      refine w_callS (pc' := 52) (argsL := [.long (minJ (minJ x tb) (minJ tc EMP)), .long EMP]) (st := []) (W := 0) (ce' := 0) (sl' := 0) C (tw hw 64 rfl) (tw hw 65 rfl) (tw hw 29 rfl) (tw hw 66 rfl) (by decide) d10_49 rfl rfl (by decide) (by decide) (Nat.le_of_eq rfl) rfl rfl (by decide) (by decide) rfl (lenOf pd_2 rfl) (ct_minJ hw h3 n0 (minJ (minJ x tb) (minJ tc EMP)) EMP) (kp ?_)
      refine w_lstore (pc' := 54) (Ls' := #[.val (.ref q), .val (.int (0 : Int32)), .val (.long x), .second, .val (.int (2 : Int32)), .val (.long (minJ (minJ (minJ x tb) (minJ tc EMP)) EMP)), .second]) C d10_52 rfl rfl ?_
      refine w_aloadN (pc' := 55) C d10_54 rfl rfl rfl ?_
      refine w_getF (pc' := 58) C (tw hw 22 rfl) d10_55 rfl (O_q.fld 1 rfl) ?_
      refine w_iload (pc' := 60) C d10_58 rfl rfl ?_
      refine wA_laload (pc' := 61) (v := .long (minJ (minJ (minJ ta tb) (minJ tc EMP)) EMP)) C d10_60 rfl O_la (by decide) rfl ?_
      refine w_lload (pc' := 63) C d10_61 rfl rfl ?_
      refine w_lcmp (pc' := 64) C d10_63 rfl ?_
      refine w_if_ne (pcT := 68) (pcF := 67) C d10_64 (by decide) (by decide) rfl (fun q64 => ?_) (fun q64 => ?_)
      · skip
        refine w_aloadN (pc' := 69) C d10_68 rfl rfl rfl ?_
        refine w_getF (pc' := 72) C (tw hw 22 rfl) d10_69 rfl (O_q.fld 1 rfl) ?_
        refine w_iload (pc' := 74) C d10_72 rfl rfl ?_
        refine w_lload (pc' := 76) C d10_74 rfl rfl ?_
        refine wA_lastore (pc' := 77) C d10_76 rfl g_la O_la (by decide) (Nat.le_of_ble_eq_true rfl) (fun h4 W4 A4 => ?_)
        have O_la : Ar Z h4 la .long [.long EMP, .long (minJ (minJ (minJ (minJ ta tb) (minJ tc EMP)) EMP) EMP), .long (minJ (minJ (minJ x tb) (minJ tc EMP)) EMP), .long EMP, .long (minJ (minJ x tb) (minJ tc EMP)), .long EMP, .long EMP, .long EMP, .long (minJ x tb), .long (minJ tc EMP), .long EMP, .long EMP, .long EMP, .long EMP, .long EMP, .long EMP, .long x, .long tb, .long tc, .long EMP, .long EMP, .long EMP, .long EMP, .long EMP, .long EMP, .long EMP, .long EMP, .long EMP, .long EMP, .long EMP, .long EMP, .long EMP] := A4
        have O_q := O_q.other W4 ne_q_la
        have O_sa := O_sa.other W4 ne_sa_la
        have hz : n0 ≤ h4.size := by rw [W4.size]; exact hz
        have hk := hk.wr W4 (Or.inl (by simp))
        refine w_goto (pc' := 17) C d10_77 (by decide) (by decide) ?_
        refine w_iload (pc' := 19) C d10_17 rfl rfl ?_
        refine w_iconst (pc' := 20) (x := (1 : Int32)) C d10_19 rfl rfl ?_
        refine w_icmp_le (pcT := 80) (pcF := 23) C d10_20 (by decide) (by decide) rfl (fun q => absurd q (by decide)) (fun q20 => ?_)
        refine w_iload (pc' := 25) C d10_23 rfl rfl ?_
        refine w_iconst (pc' := 26) (x := (2 : Int32)) C d10_25 rfl rfl ?_
        refine w_idiv (pc' := 27) C d10_26 (by decide) rfl ?_
        refine w_eqI (z := (1 : Int32)) (by decide) ?_
        refine w_istore (pc' := 29) (Ls' := #[.val (.ref q), .val (.int (0 : Int32)), .val (.long x), .second, .val (.int (1 : Int32)), .val (.long (minJ (minJ (minJ x tb) (minJ tc EMP)) EMP)), .second]) C d10_27 rfl rfl ?_
        refine w_aloadN (pc' := 30) C d10_29 rfl rfl rfl ?_
        refine w_getF (pc' := 33) C (tw hw 22 rfl) d10_30 rfl (O_q.fld 1 rfl) ?_
        refine w_iconst (pc' := 34) (x := (2 : Int32)) C d10_33 rfl rfl ?_
        refine w_iload (pc' := 36) C d10_34 rfl rfl ?_
        refine w_imul (pc' := 37) C d10_36 rfl ?_
        refine w_eqI (z := (2 : Int32)) (by decide) ?_
        refine wA_laload (pc' := 38) (v := .long (minJ (minJ (minJ x tb) (minJ tc EMP)) EMP)) C d10_37 rfl O_la (by decide) rfl ?_
        refine w_aloadN (pc' := 39) C d10_38 rfl rfl rfl ?_
        refine w_getF (pc' := 42) C (tw hw 22 rfl) d10_39 rfl (O_q.fld 1 rfl) ?_
        refine w_iconst (pc' := 43) (x := (2 : Int32)) C d10_42 rfl rfl ?_
        refine w_iload (pc' := 45) C d10_43 rfl rfl ?_
        refine w_imul (pc' := 46) C d10_45 rfl ?_
        refine w_eqI (z := (2 : Int32)) (by decide) ?_
        refine w_iconst (pc' := 47) (x := (1 : Int32)) C d10_46 rfl rfl ?_
        refine w_iadd (pc' := 48) C d10_47 rfl ?_
        refine w_eqI (z := (3 : Int32)) (by decide) ?_
        refine wA_laload (pc' := 49) (v := .long EMP) C d10_48 rfl O_la (by decide) rfl ?_
        refine w_callS (pc' := 52) (argsL := [.long (minJ (minJ (minJ x tb) (minJ tc EMP)) EMP), .long EMP]) (st := []) (W := 0) (ce' := 0) (sl' := 0) C (tw hw 64 rfl) (tw hw 65 rfl) (tw hw 29 rfl) (tw hw 66 rfl) (by decide) d10_49 rfl rfl (by decide) (by decide) (Nat.le_of_eq rfl) rfl rfl (by decide) (by decide) rfl (lenOf pd_2 rfl) (ct_minJ hw h4 n0 (minJ (minJ (minJ x tb) (minJ tc EMP)) EMP) EMP) (kp ?_)
        refine w_lstore (pc' := 54) (Ls' := #[.val (.ref q), .val (.int (0 : Int32)), .val (.long x), .second, .val (.int (1 : Int32)), .val (.long (minJ (minJ (minJ (minJ x tb) (minJ tc EMP)) EMP) EMP)), .second]) C d10_52 rfl rfl ?_
        refine w_aloadN (pc' := 55) C d10_54 rfl rfl rfl ?_
        refine w_getF (pc' := 58) C (tw hw 22 rfl) d10_55 rfl (O_q.fld 1 rfl) ?_
        refine w_iload (pc' := 60) C d10_58 rfl rfl ?_
        refine wA_laload (pc' := 61) (v := .long (minJ (minJ (minJ (minJ ta tb) (minJ tc EMP)) EMP) EMP)) C d10_60 rfl O_la (by decide) rfl ?_
        refine w_lload (pc' := 63) C d10_61 rfl rfl ?_
        refine w_lcmp (pc' := 64) C d10_63 rfl ?_
        refine w_if_ne (pcT := 68) (pcF := 67) C d10_64 (by decide) (by decide) rfl (fun q64 => ?_) (fun q64 => ?_)
        · skip
          refine w_aloadN (pc' := 69) C d10_68 rfl rfl rfl ?_
          refine w_getF (pc' := 72) C (tw hw 22 rfl) d10_69 rfl (O_q.fld 1 rfl) ?_
          refine w_iload (pc' := 74) C d10_72 rfl rfl ?_
          refine w_lload (pc' := 76) C d10_74 rfl rfl ?_
          refine wA_lastore (pc' := 77) C d10_76 rfl g_la O_la (by decide) (Nat.le_of_ble_eq_true rfl) (fun h5 W5 A5 => ?_)
          have O_la : Ar Z h5 la .long [.long EMP, .long (minJ (minJ (minJ (minJ x tb) (minJ tc EMP)) EMP) EMP), .long (minJ (minJ (minJ x tb) (minJ tc EMP)) EMP), .long EMP, .long (minJ (minJ x tb) (minJ tc EMP)), .long EMP, .long EMP, .long EMP, .long (minJ x tb), .long (minJ tc EMP), .long EMP, .long EMP, .long EMP, .long EMP, .long EMP, .long EMP, .long x, .long tb, .long tc, .long EMP, .long EMP, .long EMP, .long EMP, .long EMP, .long EMP, .long EMP, .long EMP, .long EMP, .long EMP, .long EMP, .long EMP, .long EMP] := A5
          have O_q := O_q.other W5 ne_q_la
          have O_sa := O_sa.other W5 ne_sa_la
          have hz : n0 ≤ h5.size := by rw [W5.size]; exact hz
          have hk := hk.wr W5 (Or.inl (by simp))
          refine w_goto (pc' := 17) C d10_77 (by decide) (by decide) ?_
          refine w_iload (pc' := 19) C d10_17 rfl rfl ?_
          refine w_iconst (pc' := 20) (x := (1 : Int32)) C d10_19 rfl rfl ?_
          refine w_icmp_le (pcT := 80) (pcF := 23) C d10_20 (by decide) (by decide) rfl (fun q20 => ?_) (fun q => absurd q (by decide))
          refine w_ret0 C rfl d10_80 (by decide) (by decide) ?_
          exact ⟨rfl, O_la, hk⟩
        · skip
          refine w_ret0 C rfl d10_67 (by decide) (by decide) ?_
          have e := (cmpJ_eq _ _).mp q64
          exact ⟨rfl, (by unfold tr3; rw [← e]; exact O_la), hk⟩
      · skip
        refine w_ret0 C rfl d10_67 (by decide) (by decide) ?_
        have e := (cmpJ_eq _ _).mp q64
        exact ⟨rfl, (by unfold tr3; rw [← e]; exact O_la), hk⟩
    · skip
      refine w_ret0 C rfl d10_67 (by decide) (by decide) ?_
      have e := (cmpJ_eq _ _).mp q64
      exact ⟨rfl, (by unfold tr3; rw [← e]; exact O_la), hk⟩
  · skip
    refine w_ret0 C rfl d10_67 (by decide) (by decide) ?_
    have e := (cmpJ_eq _ _).mp q64
    exact ⟨rfl, (by unfold tr3; rw [← e]; exact O_la), hk⟩
def rm_setLeaf1 : Room := { frames := 1, cells := 0, slots := 0, locals := 15 }
theorem pf_setLeaf1 : plainFor (⟨"tallygate/RequestQueue", "setLeaf", "(IJ)V"⟩ : MethodName) = true := plainFor_of_name (by first | (simp [plainName, overriddenIn]; done) | decide +kernel)
set_option maxRecDepth 65536 in
set_option maxHeartbeats 40000000 in
theorem ct_setLeaf1 {l : Launch} {Z : State} {a0 : Array Value} (hw : ∀ d ∈ tables_1, d.before a0 Z = true) (h0 : Heap) (n0 : Nat) (q : Addr) (x : Int64) (sa : Addr) (la : Addr) (en : Int32) (sz : Int32) (sv : List Value) (ta : Int64) (tb : Int64) (tc : Int64) (hz : n0 ≤ h0.size) (hsv : sv.length = 16) (O_q : Obj Z h0 q "tallygate/RequestQueue" [("slots", "[Ltallygate/RequestQueue$Entry;", .ref sa), ("least", "[J", .ref la), ("size", "I", .int sz), ("end", "I", .int en)]) (O_sa : ArR Z h0 sa "tallygate/RequestQueue$Entry" sv) (O_la : Ar Z h0 la .long (tr3 ta tb tc)) (g_la : n0 ≤ la) (ne_q_la : q ≠ la) (ne_sa_la : sa ≠ la) :
    Ct l Z (⟨"tallygate/RequestQueue", "setLeaf", "(IJ)V"⟩ : MethodName) prog_14_method_8_code 7 (Option.none : Option Jvm.ClassFile.FieldType) [] rm_setLeaf1 #[.ref q, .int (1 : Int32), .long x] h0 n0 (fun v h => v = none ∧ Ar Z h la .long (tr3 ta x tc) ∧ Keep h0 h [la]) := by
  refine Ct.of (Ls := #[.val (.ref q), .val (.int (1 : Int32)), .val (.long x), .second, .unset, .unset, .unset]) pf_setLeaf1 (fun m => by first | (simp [entryFrame, mkF, argsToLocals, Value.category, maxLocals]; done) | rfl) ?_
  intro p e s m below meth c C
  have hk : Keep h0 h0 [la] := Keep.refl _ _
  have O_la : Ar Z h0 la .long [.long EMP, .long (minJ (minJ (minJ (minJ ta tb) (minJ tc EMP)) EMP) EMP), .long (minJ (minJ (minJ ta tb) (minJ tc EMP)) EMP), .long EMP, .long (minJ (minJ ta tb) (minJ tc EMP)), .long EMP, .long EMP, .long EMP, .long (minJ ta tb), .long (minJ tc EMP), .long EMP, .long EMP, .long EMP, .long EMP, .long EMP, .long EMP, .long ta, .long tb, .long tc, .long EMP, .long EMP, .long EMP, .long EMP, .long EMP, .long EMP, .long EMP, .long EMP, .long EMP, .long EMP, .long EMP, .long EMP, .long EMP] := O_la
  refine w_aloadN (pc' := 1) C d10_0 rfl rfl rfl ?_
  refine w_getF (pc' := 4) C (tw hw 11 rfl) d10_1 rfl (O_q.fld 0 rfl) ?_
  refine wA_alenR (pc' := 5) (n := (16 : Int32)) C d10_4 rfl O_sa (by rw [hsv]; rfl) ?_
  refine w_iloadN (pc' := 6) C d10_5 rfl rfl ?_
  refine w_iadd (pc' := 7) C d10_6 rfl ?_
  refine w_eqI (z := (17 : Int32)) (by decide) ?_
  refine w_istore (pc' := 9) (Ls' := #[.val (.ref q), .val (.int (1 : Int32)), .val (.long x), .second, .val (.int (17 : Int32)), .unset, .unset]) C d10_7 rfl rfl ?_
  refine w_aloadN (pc' := 10) C d10_9 rfl rfl rfl ?_
  refine w_getF (pc' := 13) C (tw hw 22 rfl) d10_10 rfl (O_q.fld 1 rfl) ?_
  refine w_iload (pc' := 15) C d10_13 rfl rfl ?_
  refine w_lloadN (pc' := 16) C d10_15 rfl rfl ?_
  refine wA_lastore (pc' := 17) C d10_16 rfl g_la O_la (by decide) (Nat.le_of_ble_eq_true rfl) (fun h1 W1 A1 => ?_)
  have O_la : Ar Z h1 la .long [.long EMP, .long (minJ (minJ (minJ (minJ ta tb) (minJ tc EMP)) EMP) EMP), .long (minJ (minJ (minJ ta tb) (minJ tc EMP)) EMP), .long EMP, .long (minJ (minJ ta tb) (minJ tc EMP)), .long EMP, .long EMP, .long EMP, .long (minJ ta tb), .long (minJ tc EMP), .long EMP, .long EMP, .long EMP, .long EMP, .long EMP, .long EMP, .long ta, .long x, .long tc, .long EMP, .long EMP, .long EMP, .long EMP, .long EMP, .long EMP, .long EMP, .long EMP, .long EMP, .long EMP, .long EMP, .long EMP, .long EMP] := A1
  have O_q := O_q.other W1 ne_q_la
  have O_sa := O_sa.other W1 ne_sa_la
  have hz : n0 ≤ h1.size := by rw [W1.size]; exact hz
  have hk := hk.wr W1 (Or.inl (by simp))
  refine w_iload (pc' := 19) C d10_17 rfl rfl ?_
  refine w_iconst (pc' := 20) (x := (1 : Int32)) C d10_19 rfl rfl ?_
  refine w_icmp_le (pcT := 80) (pcF := 23) C d10_20 (by decide) (by decide) rfl (fun q => absurd q (by decide)) (fun q20 => ?_)
  refine w_iload (pc' := 25) C d10_23 rfl rfl ?_
  refine w_iconst (pc' := 26) (x := (2 : Int32)) C d10_25 rfl rfl ?_
  refine w_idiv (pc' := 27) C d10_26 (by decide) rfl ?_
  refine w_eqI (z := (8 : Int32)) (by decide) ?_
  refine w_istore (pc' := 29) (Ls' := #[.val (.ref q), .val (.int (1 : Int32)), .val (.long x), .second, .val (.int (8 : Int32)), .unset, .unset]) C d10_27 rfl rfl ?_
  refine w_aloadN (pc' := 30) C d10_29 rfl rfl rfl ?_
  refine w_getF (pc' := 33) C (tw hw 22 rfl) d10_30 rfl (O_q.fld 1 rfl) ?_
  refine w_iconst (pc' := 34) (x := (2 : Int32)) C d10_33 rfl rfl ?_
  refine w_iload (pc' := 36) C d10_34 rfl rfl ?_
  refine w_imul (pc' := 37) C d10_36 rfl ?_
  refine w_eqI (z := (16 : Int32)) (by decide) ?_
  refine wA_laload (pc' := 38) (v := .long ta) C d10_37 rfl O_la (by decide) rfl ?_
  refine w_aloadN (pc' := 39) C d10_38 rfl rfl rfl ?_
  refine w_getF (pc' := 42) C (tw hw 22 rfl) d10_39 rfl (O_q.fld 1 rfl) ?_
  refine w_iconst (pc' := 43) (x := (2 : Int32)) C d10_42 rfl rfl ?_
  refine w_iload (pc' := 45) C d10_43 rfl rfl ?_
  refine w_imul (pc' := 46) C d10_45 rfl ?_
  refine w_eqI (z := (16 : Int32)) (by decide) ?_
  refine w_iconst (pc' := 47) (x := (1 : Int32)) C d10_46 rfl rfl ?_
  refine w_iadd (pc' := 48) C d10_47 rfl ?_
  refine w_eqI (z := (17 : Int32)) (by decide) ?_
  refine wA_laload (pc' := 49) (v := .long x) C d10_48 rfl O_la (by decide) rfl ?_
  refine w_callS (pc' := 52) (argsL := [.long ta, .long x]) (st := []) (W := 0) (ce' := 0) (sl' := 0) C (tw hw 64 rfl) (tw hw 65 rfl) (tw hw 29 rfl) (tw hw 66 rfl) (by decide) d10_49 rfl rfl (by decide) (by decide) (Nat.le_of_eq rfl) rfl rfl (by decide) (by decide) rfl (lenOf pd_2 rfl) (ct_minJ hw h1 n0 ta x) (kp ?_)
  refine w_lstore (pc' := 54) (Ls' := #[.val (.ref q), .val (.int (1 : Int32)), .val (.long x), .second, .val (.int (8 : Int32)), .val (.long (minJ ta x)), .second]) C d10_52 rfl rfl ?_
  refine w_aloadN (pc' := 55) C d10_54 rfl rfl rfl ?_
  refine w_getF (pc' := 58) C (tw hw 22 rfl) d10_55 rfl (O_q.fld 1 rfl) ?_
  refine w_iload (pc' := 60) C d10_58 rfl rfl ?_
  refine wA_laload (pc' := 61) (v := .long (minJ ta tb)) C d10_60 rfl O_la (by decide) rfl ?_
  refine w_lload (pc' := 63) C d10_61 rfl rfl ?_
  refine w_lcmp (pc' := 64) C d10_63 rfl ?_
  refine w_if_ne (pcT := 68) (pcF := 67) C d10_64 (by decide) (by decide) rfl (fun q64 => ?_) (fun q64 => ?_)
  · skip
    refine w_aloadN (pc' := 69) C d10_68 rfl rfl rfl ?_
    refine w_getF (pc' := 72) C (tw hw 22 rfl) d10_69 rfl (O_q.fld 1 rfl) ?_
    refine w_iload (pc' := 74) C d10_72 rfl rfl ?_
    refine w_lload (pc' := 76) C d10_74 rfl rfl ?_
    refine wA_lastore (pc' := 77) C d10_76 rfl g_la O_la (by decide) (Nat.le_of_ble_eq_true rfl) (fun h2 W2 A2 => ?_)
    have O_la : Ar Z h2 la .long [.long EMP, .long (minJ (minJ (minJ (minJ ta tb) (minJ tc EMP)) EMP) EMP), .long (minJ (minJ (minJ ta tb) (minJ tc EMP)) EMP), .long EMP, .long (minJ (minJ ta tb) (minJ tc EMP)), .long EMP, .long EMP, .long EMP, .long (minJ ta x), .long (minJ tc EMP), .long EMP, .long EMP, .long EMP, .long EMP, .long EMP, .long EMP, .long ta, .long x, .long tc, .long EMP, .long EMP, .long EMP, .long EMP, .long EMP, .long EMP, .long EMP, .long EMP, .long EMP, .long EMP, .long EMP, .long EMP, .long EMP] := A2
    have O_q := O_q.other W2 ne_q_la
    have O_sa := O_sa.other W2 ne_sa_la
    have hz : n0 ≤ h2.size := by rw [W2.size]; exact hz
    have hk := hk.wr W2 (Or.inl (by simp))
    refine w_goto (pc' := 17) C d10_77 (by decide) (by decide) ?_
    refine w_iload (pc' := 19) C d10_17 rfl rfl ?_
    refine w_iconst (pc' := 20) (x := (1 : Int32)) C d10_19 rfl rfl ?_
    refine w_icmp_le (pcT := 80) (pcF := 23) C d10_20 (by decide) (by decide) rfl (fun q => absurd q (by decide)) (fun q20 => ?_)
    refine w_iload (pc' := 25) C d10_23 rfl rfl ?_
    refine w_iconst (pc' := 26) (x := (2 : Int32)) C d10_25 rfl rfl ?_
    refine w_idiv (pc' := 27) C d10_26 (by decide) rfl ?_
    refine w_eqI (z := (4 : Int32)) (by decide) ?_
    refine w_istore (pc' := 29) (Ls' := #[.val (.ref q), .val (.int (1 : Int32)), .val (.long x), .second, .val (.int (4 : Int32)), .val (.long (minJ ta x)), .second]) C d10_27 rfl rfl ?_
    refine w_aloadN (pc' := 30) C d10_29 rfl rfl rfl ?_
    refine w_getF (pc' := 33) C (tw hw 22 rfl) d10_30 rfl (O_q.fld 1 rfl) ?_
    refine w_iconst (pc' := 34) (x := (2 : Int32)) C d10_33 rfl rfl ?_
    refine w_iload (pc' := 36) C d10_34 rfl rfl ?_
    refine w_imul (pc' := 37) C d10_36 rfl ?_
    refine w_eqI (z := (8 : Int32)) (by decide) ?_
    refine wA_laload (pc' := 38) (v := .long (minJ ta x)) C d10_37 rfl O_la (by decide) rfl ?_
    refine w_aloadN (pc' := 39) C d10_38 rfl rfl rfl ?_
    refine w_getF (pc' := 42) C (tw hw 22 rfl) d10_39 rfl (O_q.fld 1 rfl) ?_
    refine w_iconst (pc' := 43) (x := (2 : Int32)) C d10_42 rfl rfl ?_
    refine w_iload (pc' := 45) C d10_43 rfl rfl ?_
    refine w_imul (pc' := 46) C d10_45 rfl ?_
    refine w_eqI (z := (8 : Int32)) (by decide) ?_
    refine w_iconst (pc' := 47) (x := (1 : Int32)) C d10_46 rfl rfl ?_
    refine w_iadd (pc' := 48) C d10_47 rfl ?_
    refine w_eqI (z := (9 : Int32)) (by decide) ?_
    refine wA_laload (pc' := 49) (v := .long (minJ tc EMP)) C d10_48 rfl O_la (by decide) rfl ?_
    refine w_callS (pc' := 52) (argsL := [.long (minJ ta x), .long (minJ tc EMP)]) (st := []) (W := 0) (ce' := 0) (sl' := 0) C (tw hw 64 rfl) (tw hw 65 rfl) (tw hw 29 rfl) (tw hw 66 rfl) (by decide) d10_49 rfl rfl (by decide) (by decide) (Nat.le_of_eq rfl) rfl rfl (by decide) (by decide) rfl (lenOf pd_2 rfl) (ct_minJ hw h2 n0 (minJ ta x) (minJ tc EMP)) (kp ?_)
    refine w_lstore (pc' := 54) (Ls' := #[.val (.ref q), .val (.int (1 : Int32)), .val (.long x), .second, .val (.int (4 : Int32)), .val (.long (minJ (minJ ta x) (minJ tc EMP))), .second]) C d10_52 rfl rfl ?_
    refine w_aloadN (pc' := 55) C d10_54 rfl rfl rfl ?_
    refine w_getF (pc' := 58) C (tw hw 22 rfl) d10_55 rfl (O_q.fld 1 rfl) ?_
    refine w_iload (pc' := 60) C d10_58 rfl rfl ?_
    refine wA_laload (pc' := 61) (v := .long (minJ (minJ ta tb) (minJ tc EMP))) C d10_60 rfl O_la (by decide) rfl ?_
    refine w_lload (pc' := 63) C d10_61 rfl rfl ?_
    refine w_lcmp (pc' := 64) C d10_63 rfl ?_
    refine w_if_ne (pcT := 68) (pcF := 67) C d10_64 (by decide) (by decide) rfl (fun q64 => ?_) (fun q64 => ?_)
    · skip
      refine w_aloadN (pc' := 69) C d10_68 rfl rfl rfl ?_
      refine w_getF (pc' := 72) C (tw hw 22 rfl) d10_69 rfl (O_q.fld 1 rfl) ?_
      refine w_iload (pc' := 74) C d10_72 rfl rfl ?_
      refine w_lload (pc' := 76) C d10_74 rfl rfl ?_
      refine wA_lastore (pc' := 77) C d10_76 rfl g_la O_la (by decide) (Nat.le_of_ble_eq_true rfl) (fun h3 W3 A3 => ?_)
      have O_la : Ar Z h3 la .long [.long EMP, .long (minJ (minJ (minJ (minJ ta tb) (minJ tc EMP)) EMP) EMP), .long (minJ (minJ (minJ ta tb) (minJ tc EMP)) EMP), .long EMP, .long (minJ (minJ ta x) (minJ tc EMP)), .long EMP, .long EMP, .long EMP, .long (minJ ta x), .long (minJ tc EMP), .long EMP, .long EMP, .long EMP, .long EMP, .long EMP, .long EMP, .long ta, .long x, .long tc, .long EMP, .long EMP, .long EMP, .long EMP, .long EMP, .long EMP, .long EMP, .long EMP, .long EMP, .long EMP, .long EMP, .long EMP, .long EMP] := A3
      have O_q := O_q.other W3 ne_q_la
      have O_sa := O_sa.other W3 ne_sa_la
      have hz : n0 ≤ h3.size := by rw [W3.size]; exact hz
      have hk := hk.wr W3 (Or.inl (by simp))
      refine w_goto (pc' := 17) C d10_77 (by decide) (by decide) ?_
      refine w_iload (pc' := 19) C d10_17 rfl rfl ?_
      refine w_iconst (pc' := 20) (x := (1 : Int32)) C d10_19 rfl rfl ?_
      refine w_icmp_le (pcT := 80) (pcF := 23) C d10_20 (by decide) (by decide) rfl (fun q => absurd q (by decide)) (fun q20 => ?_)
      refine w_iload (pc' := 25) C d10_23 rfl rfl ?_
      refine w_iconst (pc' := 26) (x := (2 : Int32)) C d10_25 rfl rfl ?_
      refine w_idiv (pc' := 27) C d10_26 (by decide) rfl ?_
      refine w_eqI (z := (2 : Int32)) (by decide) ?_
      refine w_istore (pc' := 29) (Ls' := #[.val (.ref q), .val (.int (1 : Int32)), .val (.long x), .second, .val (.int (2 : Int32)), .val (.long (minJ (minJ ta x) (minJ tc EMP))), .second]) C d10_27 rfl rfl ?_
      refine w_aloadN (pc' := 30) C d10_29 rfl rfl rfl ?_
      refine w_getF (pc' := 33) C (tw hw 22 rfl) d10_30 rfl (O_q.fld 1 rfl) ?_
      refine w_iconst (pc' := 34) (x := (2 : Int32)) C d10_33 rfl rfl ?_
      refine w_iload (pc' := 36) C d10_34 rfl rfl ?_
      refine w_imul (pc' := 37) C d10_36 rfl ?_
      refine w_eqI (z := (4 : Int32)) (by decide) ?_
      refine wA_laload (pc' := 38) (v := .long (minJ (minJ ta x) (minJ tc EMP))) C d10_37 rfl O_la (by decide) rfl ?_
      refine w_aloadN (pc' := 39) C d10_38 rfl rfl rfl ?_
      refine w_getF (pc' := 42) C (tw hw 22 rfl) d10_39 rfl (O_q.fld 1 rfl) ?_
      refine w_iconst (pc' := 43) (x := (2 : Int32)) C d10_42 rfl rfl ?_
      refine w_iload (pc' := 45) C d10_43 rfl rfl ?_
      refine w_imul (pc' := 46) C d10_45 rfl ?_
      refine w_eqI (z := (4 : Int32)) (by decide) ?_
      refine w_iconst (pc' := 47) (x := (1 : Int32)) C d10_46 rfl rfl ?_
      refine w_iadd (pc' := 48) C d10_47 rfl ?_
      refine w_eqI (z := (5 : Int32)) (by decide) ?_
      refine wA_laload (pc' := 49) (v := .long EMP) C d10_48 rfl O_la (by decide) rfl ?_
      refine w_callS (pc' := 52) (argsL := [.long (minJ (minJ ta x) (minJ tc EMP)), .long EMP]) (st := []) (W := 0) (ce' := 0) (sl' := 0) C (tw hw 64 rfl) (tw hw 65 rfl) (tw hw 29 rfl) (tw hw 66 rfl) (by decide) d10_49 rfl rfl (by decide) (by decide) (Nat.le_of_eq rfl) rfl rfl (by decide) (by decide) rfl (lenOf pd_2 rfl) (ct_minJ hw h3 n0 (minJ (minJ ta x) (minJ tc EMP)) EMP) (kp ?_)
      refine w_lstore (pc' := 54) (Ls' := #[.val (.ref q), .val (.int (1 : Int32)), .val (.long x), .second, .val (.int (2 : Int32)), .val (.long (minJ (minJ (minJ ta x) (minJ tc EMP)) EMP)), .second]) C d10_52 rfl rfl ?_
      refine w_aloadN (pc' := 55) C d10_54 rfl rfl rfl ?_
      refine w_getF (pc' := 58) C (tw hw 22 rfl) d10_55 rfl (O_q.fld 1 rfl) ?_
      refine w_iload (pc' := 60) C d10_58 rfl rfl ?_
      refine wA_laload (pc' := 61) (v := .long (minJ (minJ (minJ ta tb) (minJ tc EMP)) EMP)) C d10_60 rfl O_la (by decide) rfl ?_
      refine w_lload (pc' := 63) C d10_61 rfl rfl ?_
      refine w_lcmp (pc' := 64) C d10_63 rfl ?_
      refine w_if_ne (pcT := 68) (pcF := 67) C d10_64 (by decide) (by decide) rfl (fun q64 => ?_) (fun q64 => ?_)
      · skip
        refine w_aloadN (pc' := 69) C d10_68 rfl rfl rfl ?_
        refine w_getF (pc' := 72) C (tw hw 22 rfl) d10_69 rfl (O_q.fld 1 rfl) ?_
        refine w_iload (pc' := 74) C d10_72 rfl rfl ?_
        refine w_lload (pc' := 76) C d10_74 rfl rfl ?_
        refine wA_lastore (pc' := 77) C d10_76 rfl g_la O_la (by decide) (Nat.le_of_ble_eq_true rfl) (fun h4 W4 A4 => ?_)
        have O_la : Ar Z h4 la .long [.long EMP, .long (minJ (minJ (minJ (minJ ta tb) (minJ tc EMP)) EMP) EMP), .long (minJ (minJ (minJ ta x) (minJ tc EMP)) EMP), .long EMP, .long (minJ (minJ ta x) (minJ tc EMP)), .long EMP, .long EMP, .long EMP, .long (minJ ta x), .long (minJ tc EMP), .long EMP, .long EMP, .long EMP, .long EMP, .long EMP, .long EMP, .long ta, .long x, .long tc, .long EMP, .long EMP, .long EMP, .long EMP, .long EMP, .long EMP, .long EMP, .long EMP, .long EMP, .long EMP, .long EMP, .long EMP, .long EMP] := A4
        have O_q := O_q.other W4 ne_q_la
        have O_sa := O_sa.other W4 ne_sa_la
        have hz : n0 ≤ h4.size := by rw [W4.size]; exact hz
        have hk := hk.wr W4 (Or.inl (by simp))
        refine w_goto (pc' := 17) C d10_77 (by decide) (by decide) ?_
        refine w_iload (pc' := 19) C d10_17 rfl rfl ?_
        refine w_iconst (pc' := 20) (x := (1 : Int32)) C d10_19 rfl rfl ?_
        refine w_icmp_le (pcT := 80) (pcF := 23) C d10_20 (by decide) (by decide) rfl (fun q => absurd q (by decide)) (fun q20 => ?_)
        refine w_iload (pc' := 25) C d10_23 rfl rfl ?_
        refine w_iconst (pc' := 26) (x := (2 : Int32)) C d10_25 rfl rfl ?_
        refine w_idiv (pc' := 27) C d10_26 (by decide) rfl ?_
        refine w_eqI (z := (1 : Int32)) (by decide) ?_
        refine w_istore (pc' := 29) (Ls' := #[.val (.ref q), .val (.int (1 : Int32)), .val (.long x), .second, .val (.int (1 : Int32)), .val (.long (minJ (minJ (minJ ta x) (minJ tc EMP)) EMP)), .second]) C d10_27 rfl rfl ?_
        refine w_aloadN (pc' := 30) C d10_29 rfl rfl rfl ?_
        refine w_getF (pc' := 33) C (tw hw 22 rfl) d10_30 rfl (O_q.fld 1 rfl) ?_
        refine w_iconst (pc' := 34) (x := (2 : Int32)) C d10_33 rfl rfl ?_
        refine w_iload (pc' := 36) C d10_34 rfl rfl ?_
        refine w_imul (pc' := 37) C d10_36 rfl ?_
        refine w_eqI (z := (2 : Int32)) (by decide) ?_
        refine wA_laload (pc' := 38) (v := .long (minJ (minJ (minJ ta x) (minJ tc EMP)) EMP)) C d10_37 rfl O_la (by decide) rfl ?_
        refine w_aloadN (pc' := 39) C d10_38 rfl rfl rfl ?_
        refine w_getF (pc' := 42) C (tw hw 22 rfl) d10_39 rfl (O_q.fld 1 rfl) ?_
        refine w_iconst (pc' := 43) (x := (2 : Int32)) C d10_42 rfl rfl ?_
        refine w_iload (pc' := 45) C d10_43 rfl rfl ?_
        refine w_imul (pc' := 46) C d10_45 rfl ?_
        refine w_eqI (z := (2 : Int32)) (by decide) ?_
        refine w_iconst (pc' := 47) (x := (1 : Int32)) C d10_46 rfl rfl ?_
        refine w_iadd (pc' := 48) C d10_47 rfl ?_
        refine w_eqI (z := (3 : Int32)) (by decide) ?_
        refine wA_laload (pc' := 49) (v := .long EMP) C d10_48 rfl O_la (by decide) rfl ?_
        refine w_callS (pc' := 52) (argsL := [.long (minJ (minJ (minJ ta x) (minJ tc EMP)) EMP), .long EMP]) (st := []) (W := 0) (ce' := 0) (sl' := 0) C (tw hw 64 rfl) (tw hw 65 rfl) (tw hw 29 rfl) (tw hw 66 rfl) (by decide) d10_49 rfl rfl (by decide) (by decide) (Nat.le_of_eq rfl) rfl rfl (by decide) (by decide) rfl (lenOf pd_2 rfl) (ct_minJ hw h4 n0 (minJ (minJ (minJ ta x) (minJ tc EMP)) EMP) EMP) (kp ?_)
        refine w_lstore (pc' := 54) (Ls' := #[.val (.ref q), .val (.int (1 : Int32)), .val (.long x), .second, .val (.int (1 : Int32)), .val (.long (minJ (minJ (minJ (minJ ta x) (minJ tc EMP)) EMP) EMP)), .second]) C d10_52 rfl rfl ?_
        refine w_aloadN (pc' := 55) C d10_54 rfl rfl rfl ?_
        refine w_getF (pc' := 58) C (tw hw 22 rfl) d10_55 rfl (O_q.fld 1 rfl) ?_
        refine w_iload (pc' := 60) C d10_58 rfl rfl ?_
        refine wA_laload (pc' := 61) (v := .long (minJ (minJ (minJ (minJ ta tb) (minJ tc EMP)) EMP) EMP)) C d10_60 rfl O_la (by decide) rfl ?_
        refine w_lload (pc' := 63) C d10_61 rfl rfl ?_
        refine w_lcmp (pc' := 64) C d10_63 rfl ?_
        refine w_if_ne (pcT := 68) (pcF := 67) C d10_64 (by decide) (by decide) rfl (fun q64 => ?_) (fun q64 => ?_)
        · skip
          refine w_aloadN (pc' := 69) C d10_68 rfl rfl rfl ?_
          refine w_getF (pc' := 72) C (tw hw 22 rfl) d10_69 rfl (O_q.fld 1 rfl) ?_
          refine w_iload (pc' := 74) C d10_72 rfl rfl ?_
          refine w_lload (pc' := 76) C d10_74 rfl rfl ?_
          refine wA_lastore (pc' := 77) C d10_76 rfl g_la O_la (by decide) (Nat.le_of_ble_eq_true rfl) (fun h5 W5 A5 => ?_)
          have O_la : Ar Z h5 la .long [.long EMP, .long (minJ (minJ (minJ (minJ ta x) (minJ tc EMP)) EMP) EMP), .long (minJ (minJ (minJ ta x) (minJ tc EMP)) EMP), .long EMP, .long (minJ (minJ ta x) (minJ tc EMP)), .long EMP, .long EMP, .long EMP, .long (minJ ta x), .long (minJ tc EMP), .long EMP, .long EMP, .long EMP, .long EMP, .long EMP, .long EMP, .long ta, .long x, .long tc, .long EMP, .long EMP, .long EMP, .long EMP, .long EMP, .long EMP, .long EMP, .long EMP, .long EMP, .long EMP, .long EMP, .long EMP, .long EMP] := A5
          have O_q := O_q.other W5 ne_q_la
          have O_sa := O_sa.other W5 ne_sa_la
          have hz : n0 ≤ h5.size := by rw [W5.size]; exact hz
          have hk := hk.wr W5 (Or.inl (by simp))
          refine w_goto (pc' := 17) C d10_77 (by decide) (by decide) ?_
          refine w_iload (pc' := 19) C d10_17 rfl rfl ?_
          refine w_iconst (pc' := 20) (x := (1 : Int32)) C d10_19 rfl rfl ?_
          refine w_icmp_le (pcT := 80) (pcF := 23) C d10_20 (by decide) (by decide) rfl (fun q20 => ?_) (fun q => absurd q (by decide))
          refine w_ret0 C rfl d10_80 (by decide) (by decide) ?_
          exact ⟨rfl, O_la, hk⟩
        · skip
          refine w_ret0 C rfl d10_67 (by decide) (by decide) ?_
          have e := (cmpJ_eq _ _).mp q64
          exact ⟨rfl, (by unfold tr3; rw [← e]; exact O_la), hk⟩
      · skip
        refine w_ret0 C rfl d10_67 (by decide) (by decide) ?_
        have e := (cmpJ_eq _ _).mp q64
        exact ⟨rfl, (by unfold tr3; rw [← e]; exact O_la), hk⟩
    · skip
      refine w_ret0 C rfl d10_67 (by decide) (by decide) ?_
      have e := (cmpJ_eq _ _).mp q64
      exact ⟨rfl, (by unfold tr3; rw [← e]; exact O_la), hk⟩
  · skip
    refine w_ret0 C rfl d10_67 (by decide) (by decide) ?_
    have e := (cmpJ_eq _ _).mp q64
    exact ⟨rfl, (by unfold tr3; rw [← e]; exact O_la), hk⟩
def rm_setLeaf2 : Room := { frames := 1, cells := 0, slots := 0, locals := 15 }
theorem pf_setLeaf2 : plainFor (⟨"tallygate/RequestQueue", "setLeaf", "(IJ)V"⟩ : MethodName) = true := plainFor_of_name (by first | (simp [plainName, overriddenIn]; done) | decide +kernel)
set_option maxRecDepth 65536 in
set_option maxHeartbeats 40000000 in
theorem ct_setLeaf2 {l : Launch} {Z : State} {a0 : Array Value} (hw : ∀ d ∈ tables_1, d.before a0 Z = true) (h0 : Heap) (n0 : Nat) (q : Addr) (x : Int64) (sa : Addr) (la : Addr) (en : Int32) (sz : Int32) (sv : List Value) (ta : Int64) (tb : Int64) (tc : Int64) (hz : n0 ≤ h0.size) (hsv : sv.length = 16) (O_q : Obj Z h0 q "tallygate/RequestQueue" [("slots", "[Ltallygate/RequestQueue$Entry;", .ref sa), ("least", "[J", .ref la), ("size", "I", .int sz), ("end", "I", .int en)]) (O_sa : ArR Z h0 sa "tallygate/RequestQueue$Entry" sv) (O_la : Ar Z h0 la .long (tr3 ta tb tc)) (g_la : n0 ≤ la) (ne_q_la : q ≠ la) (ne_sa_la : sa ≠ la) :
    Ct l Z (⟨"tallygate/RequestQueue", "setLeaf", "(IJ)V"⟩ : MethodName) prog_14_method_8_code 7 (Option.none : Option Jvm.ClassFile.FieldType) [] rm_setLeaf2 #[.ref q, .int (2 : Int32), .long x] h0 n0 (fun v h => v = none ∧ Ar Z h la .long (tr3 ta tb x) ∧ Keep h0 h [la]) := by
  refine Ct.of (Ls := #[.val (.ref q), .val (.int (2 : Int32)), .val (.long x), .second, .unset, .unset, .unset]) pf_setLeaf2 (fun m => by first | (simp [entryFrame, mkF, argsToLocals, Value.category, maxLocals]; done) | rfl) ?_
  intro p e s m below meth c C
  have hk : Keep h0 h0 [la] := Keep.refl _ _
  have O_la : Ar Z h0 la .long [.long EMP, .long (minJ (minJ (minJ (minJ ta tb) (minJ tc EMP)) EMP) EMP), .long (minJ (minJ (minJ ta tb) (minJ tc EMP)) EMP), .long EMP, .long (minJ (minJ ta tb) (minJ tc EMP)), .long EMP, .long EMP, .long EMP, .long (minJ ta tb), .long (minJ tc EMP), .long EMP, .long EMP, .long EMP, .long EMP, .long EMP, .long EMP, .long ta, .long tb, .long tc, .long EMP, .long EMP, .long EMP, .long EMP, .long EMP, .long EMP, .long EMP, .long EMP, .long EMP, .long EMP, .long EMP, .long EMP, .long EMP] := O_la
  refine w_aloadN (pc' := 1) C d10_0 rfl rfl rfl ?_
  refine w_getF (pc' := 4) C (tw hw 11 rfl) d10_1 rfl (O_q.fld 0 rfl) ?_
  refine wA_alenR (pc' := 5) (n := (16 : Int32)) C d10_4 rfl O_sa (by rw [hsv]; rfl) ?_
  refine w_iloadN (pc' := 6) C d10_5 rfl rfl ?_
  refine w_iadd (pc' := 7) C d10_6 rfl ?_
  refine w_eqI (z := (18 : Int32)) (by decide) ?_
  refine w_istore (pc' := 9) (Ls' := #[.val (.ref q), .val (.int (2 : Int32)), .val (.long x), .second, .val (.int (18 : Int32)), .unset, .unset]) C d10_7 rfl rfl ?_
  refine w_aloadN (pc' := 10) C d10_9 rfl rfl rfl ?_
  refine w_getF (pc' := 13) C (tw hw 22 rfl) d10_10 rfl (O_q.fld 1 rfl) ?_
  refine w_iload (pc' := 15) C d10_13 rfl rfl ?_
  refine w_lloadN (pc' := 16) C d10_15 rfl rfl ?_
  refine wA_lastore (pc' := 17) C d10_16 rfl g_la O_la (by decide) (Nat.le_of_ble_eq_true rfl) (fun h1 W1 A1 => ?_)
  have O_la : Ar Z h1 la .long [.long EMP, .long (minJ (minJ (minJ (minJ ta tb) (minJ tc EMP)) EMP) EMP), .long (minJ (minJ (minJ ta tb) (minJ tc EMP)) EMP), .long EMP, .long (minJ (minJ ta tb) (minJ tc EMP)), .long EMP, .long EMP, .long EMP, .long (minJ ta tb), .long (minJ tc EMP), .long EMP, .long EMP, .long EMP, .long EMP, .long EMP, .long EMP, .long ta, .long tb, .long x, .long EMP, .long EMP, .long EMP, .long EMP, .long EMP, .long EMP, .long EMP, .long EMP, .long EMP, .long EMP, .long EMP, .long EMP, .long EMP] := A1
  have O_q := O_q.other W1 ne_q_la
  have O_sa := O_sa.other W1 ne_sa_la
  have hz : n0 ≤ h1.size := by rw [W1.size]; exact hz
  have hk := hk.wr W1 (Or.inl (by simp))
  refine w_iload (pc' := 19) C d10_17 rfl rfl ?_
  refine w_iconst (pc' := 20) (x := (1 : Int32)) C d10_19 rfl rfl ?_
  refine w_icmp_le (pcT := 80) (pcF := 23) C d10_20 (by decide) (by decide) rfl (fun q => absurd q (by decide)) (fun q20 => ?_)
  refine w_iload (pc' := 25) C d10_23 rfl rfl ?_
  refine w_iconst (pc' := 26) (x := (2 : Int32)) C d10_25 rfl rfl ?_
  refine w_idiv (pc' := 27) C d10_26 (by decide) rfl ?_
  refine w_eqI (z := (9 : Int32)) (by decide) ?_
  refine w_istore (pc' := 29) (Ls' := #[.val (.ref q), .val (.int (2 : Int32)), .val (.long x), .second, .val (.int (9 : Int32)), .unset, .unset]) C d10_27 rfl rfl ?_
  refine w_aloadN (pc' := 30) C d10_29 rfl rfl rfl ?_
  refine w_getF (pc' := 33) C (tw hw 22 rfl) d10_30 rfl (O_q.fld 1 rfl) ?_
  refine w_iconst (pc' := 34) (x := (2 : Int32)) C d10_33 rfl rfl ?_
  refine w_iload (pc' := 36) C d10_34 rfl rfl ?_
  refine w_imul (pc' := 37) C d10_36 rfl ?_
  refine w_eqI (z := (18 : Int32)) (by decide) ?_
  refine wA_laload (pc' := 38) (v := .long x) C d10_37 rfl O_la (by decide) rfl ?_
  refine w_aloadN (pc' := 39) C d10_38 rfl rfl rfl ?_
  refine w_getF (pc' := 42) C (tw hw 22 rfl) d10_39 rfl (O_q.fld 1 rfl) ?_
  refine w_iconst (pc' := 43) (x := (2 : Int32)) C d10_42 rfl rfl ?_
  refine w_iload (pc' := 45) C d10_43 rfl rfl ?_
  refine w_imul (pc' := 46) C d10_45 rfl ?_
  refine w_eqI (z := (18 : Int32)) (by decide) ?_
  refine w_iconst (pc' := 47) (x := (1 : Int32)) C d10_46 rfl rfl ?_
  refine w_iadd (pc' := 48) C d10_47 rfl ?_
  refine w_eqI (z := (19 : Int32)) (by decide) ?_
  refine wA_laload (pc' := 49) (v := .long EMP) C d10_48 rfl O_la (by decide) rfl ?_
  refine w_callS (pc' := 52) (argsL := [.long x, .long EMP]) (st := []) (W := 0) (ce' := 0) (sl' := 0) C (tw hw 64 rfl) (tw hw 65 rfl) (tw hw 29 rfl) (tw hw 66 rfl) (by decide) d10_49 rfl rfl (by decide) (by decide) (Nat.le_of_eq rfl) rfl rfl (by decide) (by decide) rfl (lenOf pd_2 rfl) (ct_minJ hw h1 n0 x EMP) (kp ?_)
  refine w_lstore (pc' := 54) (Ls' := #[.val (.ref q), .val (.int (2 : Int32)), .val (.long x), .second, .val (.int (9 : Int32)), .val (.long (minJ x EMP)), .second]) C d10_52 rfl rfl ?_
  refine w_aloadN (pc' := 55) C d10_54 rfl rfl rfl ?_
  refine w_getF (pc' := 58) C (tw hw 22 rfl) d10_55 rfl (O_q.fld 1 rfl) ?_
  refine w_iload (pc' := 60) C d10_58 rfl rfl ?_
  refine wA_laload (pc' := 61) (v := .long (minJ tc EMP)) C d10_60 rfl O_la (by decide) rfl ?_
  refine w_lload (pc' := 63) C d10_61 rfl rfl ?_
  refine w_lcmp (pc' := 64) C d10_63 rfl ?_
  refine w_if_ne (pcT := 68) (pcF := 67) C d10_64 (by decide) (by decide) rfl (fun q64 => ?_) (fun q64 => ?_)
  · skip
    refine w_aloadN (pc' := 69) C d10_68 rfl rfl rfl ?_
    refine w_getF (pc' := 72) C (tw hw 22 rfl) d10_69 rfl (O_q.fld 1 rfl) ?_
    refine w_iload (pc' := 74) C d10_72 rfl rfl ?_
    refine w_lload (pc' := 76) C d10_74 rfl rfl ?_
    refine wA_lastore (pc' := 77) C d10_76 rfl g_la O_la (by decide) (Nat.le_of_ble_eq_true rfl) (fun h2 W2 A2 => ?_)
    have O_la : Ar Z h2 la .long [.long EMP, .long (minJ (minJ (minJ (minJ ta tb) (minJ tc EMP)) EMP) EMP), .long (minJ (minJ (minJ ta tb) (minJ tc EMP)) EMP), .long EMP, .long (minJ (minJ ta tb) (minJ tc EMP)), .long EMP, .long EMP, .long EMP, .long (minJ ta tb), .long (minJ x EMP), .long EMP, .long EMP, .long EMP, .long EMP, .long EMP, .long EMP, .long ta, .long tb, .long x, .long EMP, .long EMP, .long EMP, .long EMP, .long EMP, .long EMP, .long EMP, .long EMP, .long EMP, .long EMP, .long EMP, .long EMP, .long EMP] := A2
    have O_q := O_q.other W2 ne_q_la
    have O_sa := O_sa.other W2 ne_sa_la
    have hz : n0 ≤ h2.size := by rw [W2.size]; exact hz
    have hk := hk.wr W2 (Or.inl (by simp))
    refine w_goto (pc' := 17) C d10_77 (by decide) (by decide) ?_
    refine w_iload (pc' := 19) C d10_17 rfl rfl ?_
    refine w_iconst (pc' := 20) (x := (1 : Int32)) C d10_19 rfl rfl ?_
    refine w_icmp_le (pcT := 80) (pcF := 23) C d10_20 (by decide) (by decide) rfl (fun q => absurd q (by decide)) (fun q20 => ?_)
    refine w_iload (pc' := 25) C d10_23 rfl rfl ?_
    refine w_iconst (pc' := 26) (x := (2 : Int32)) C d10_25 rfl rfl ?_
    refine w_idiv (pc' := 27) C d10_26 (by decide) rfl ?_
    refine w_eqI (z := (4 : Int32)) (by decide) ?_
    refine w_istore (pc' := 29) (Ls' := #[.val (.ref q), .val (.int (2 : Int32)), .val (.long x), .second, .val (.int (4 : Int32)), .val (.long (minJ x EMP)), .second]) C d10_27 rfl rfl ?_
    refine w_aloadN (pc' := 30) C d10_29 rfl rfl rfl ?_
    refine w_getF (pc' := 33) C (tw hw 22 rfl) d10_30 rfl (O_q.fld 1 rfl) ?_
    refine w_iconst (pc' := 34) (x := (2 : Int32)) C d10_33 rfl rfl ?_
    refine w_iload (pc' := 36) C d10_34 rfl rfl ?_
    refine w_imul (pc' := 37) C d10_36 rfl ?_
    refine w_eqI (z := (8 : Int32)) (by decide) ?_
    refine wA_laload (pc' := 38) (v := .long (minJ ta tb)) C d10_37 rfl O_la (by decide) rfl ?_
    refine w_aloadN (pc' := 39) C d10_38 rfl rfl rfl ?_
    refine w_getF (pc' := 42) C (tw hw 22 rfl) d10_39 rfl (O_q.fld 1 rfl) ?_
    refine w_iconst (pc' := 43) (x := (2 : Int32)) C d10_42 rfl rfl ?_
    refine w_iload (pc' := 45) C d10_43 rfl rfl ?_
    refine w_imul (pc' := 46) C d10_45 rfl ?_
    refine w_eqI (z := (8 : Int32)) (by decide) ?_
    refine w_iconst (pc' := 47) (x := (1 : Int32)) C d10_46 rfl rfl ?_
    refine w_iadd (pc' := 48) C d10_47 rfl ?_
    refine w_eqI (z := (9 : Int32)) (by decide) ?_
    refine wA_laload (pc' := 49) (v := .long (minJ x EMP)) C d10_48 rfl O_la (by decide) rfl ?_
    refine w_callS (pc' := 52) (argsL := [.long (minJ ta tb), .long (minJ x EMP)]) (st := []) (W := 0) (ce' := 0) (sl' := 0) C (tw hw 64 rfl) (tw hw 65 rfl) (tw hw 29 rfl) (tw hw 66 rfl) (by decide) d10_49 rfl rfl (by decide) (by decide) (Nat.le_of_eq rfl) rfl rfl (by decide) (by decide) rfl (lenOf pd_2 rfl) (ct_minJ hw h2 n0 (minJ ta tb) (minJ x EMP)) (kp ?_)
    refine w_lstore (pc' := 54) (Ls' := #[.val (.ref q), .val (.int (2 : Int32)), .val (.long x), .second, .val (.int (4 : Int32)), .val (.long (minJ (minJ ta tb) (minJ x EMP))), .second]) C d10_52 rfl rfl ?_
    refine w_aloadN (pc' := 55) C d10_54 rfl rfl rfl ?_
    refine w_getF (pc' := 58) C (tw hw 22 rfl) d10_55 rfl (O_q.fld 1 rfl) ?_
    refine w_iload (pc' := 60) C d10_58 rfl rfl ?_
    refine wA_laload (pc' := 61) (v := .long (minJ (minJ ta tb) (minJ tc EMP))) C d10_60 rfl O_la (by decide) rfl ?_
    refine w_lload (pc' := 63) C d10_61 rfl rfl ?_
    refine w_lcmp (pc' := 64) C d10_63 rfl ?_
    refine w_if_ne (pcT := 68) (pcF := 67) C d10_64 (by decide) (by decide) rfl (fun q64 => ?_) (fun q64 => ?_)
    · skip
      refine w_aloadN (pc' := 69) C d10_68 rfl rfl rfl ?_
      refine w_getF (pc' := 72) C (tw hw 22 rfl) d10_69 rfl (O_q.fld 1 rfl) ?_
      refine w_iload (pc' := 74) C d10_72 rfl rfl ?_
      refine w_lload (pc' := 76) C d10_74 rfl rfl ?_
      refine wA_lastore (pc' := 77) C d10_76 rfl g_la O_la (by decide) (Nat.le_of_ble_eq_true rfl) (fun h3 W3 A3 => ?_)
      have O_la : Ar Z h3 la .long [.long EMP, .long (minJ (minJ (minJ (minJ ta tb) (minJ tc EMP)) EMP) EMP), .long (minJ (minJ (minJ ta tb) (minJ tc EMP)) EMP), .long EMP, .long (minJ (minJ ta tb) (minJ x EMP)), .long EMP, .long EMP, .long EMP, .long (minJ ta tb), .long (minJ x EMP), .long EMP, .long EMP, .long EMP, .long EMP, .long EMP, .long EMP, .long ta, .long tb, .long x, .long EMP, .long EMP, .long EMP, .long EMP, .long EMP, .long EMP, .long EMP, .long EMP, .long EMP, .long EMP, .long EMP, .long EMP, .long EMP] := A3
      have O_q := O_q.other W3 ne_q_la
      have O_sa := O_sa.other W3 ne_sa_la
      have hz : n0 ≤ h3.size := by rw [W3.size]; exact hz
      have hk := hk.wr W3 (Or.inl (by simp))
      refine w_goto (pc' := 17) C d10_77 (by decide) (by decide) ?_
      refine w_iload (pc' := 19) C d10_17 rfl rfl ?_
      refine w_iconst (pc' := 20) (x := (1 : Int32)) C d10_19 rfl rfl ?_
      refine w_icmp_le (pcT := 80) (pcF := 23) C d10_20 (by decide) (by decide) rfl (fun q => absurd q (by decide)) (fun q20 => ?_)
      refine w_iload (pc' := 25) C d10_23 rfl rfl ?_
      refine w_iconst (pc' := 26) (x := (2 : Int32)) C d10_25 rfl rfl ?_
      refine w_idiv (pc' := 27) C d10_26 (by decide) rfl ?_
      refine w_eqI (z := (2 : Int32)) (by decide) ?_
      refine w_istore (pc' := 29) (Ls' := #[.val (.ref q), .val (.int (2 : Int32)), .val (.long x), .second, .val (.int (2 : Int32)), .val (.long (minJ (minJ ta tb) (minJ x EMP))), .second]) C d10_27 rfl rfl ?_
      refine w_aloadN (pc' := 30) C d10_29 rfl rfl rfl ?_
      refine w_getF (pc' := 33) C (tw hw 22 rfl) d10_30 rfl (O_q.fld 1 rfl) ?_
      refine w_iconst (pc' := 34) (x := (2 : Int32)) C d10_33 rfl rfl ?_
      refine w_iload (pc' := 36) C d10_34 rfl rfl ?_
      refine w_imul (pc' := 37) C d10_36 rfl ?_
      refine w_eqI (z := (4 : Int32)) (by decide) ?_
      refine wA_laload (pc' := 38) (v := .long (minJ (minJ ta tb) (minJ x EMP))) C d10_37 rfl O_la (by decide) rfl ?_
      refine w_aloadN (pc' := 39) C d10_38 rfl rfl rfl ?_
      refine w_getF (pc' := 42) C (tw hw 22 rfl) d10_39 rfl (O_q.fld 1 rfl) ?_
      refine w_iconst (pc' := 43) (x := (2 : Int32)) C d10_42 rfl rfl ?_
      refine w_iload (pc' := 45) C d10_43 rfl rfl ?_
      refine w_imul (pc' := 46) C d10_45 rfl ?_
      refine w_eqI (z := (4 : Int32)) (by decide) ?_
      refine w_iconst (pc' := 47) (x := (1 : Int32)) C d10_46 rfl rfl ?_
      refine w_iadd (pc' := 48) C d10_47 rfl ?_
      refine w_eqI (z := (5 : Int32)) (by decide) ?_
      refine wA_laload (pc' := 49) (v := .long EMP) C d10_48 rfl O_la (by decide) rfl ?_
      refine w_callS (pc' := 52) (argsL := [.long (minJ (minJ ta tb) (minJ x EMP)), .long EMP]) (st := []) (W := 0) (ce' := 0) (sl' := 0) C (tw hw 64 rfl) (tw hw 65 rfl) (tw hw 29 rfl) (tw hw 66 rfl) (by decide) d10_49 rfl rfl (by decide) (by decide) (Nat.le_of_eq rfl) rfl rfl (by decide) (by decide) rfl (lenOf pd_2 rfl) (ct_minJ hw h3 n0 (minJ (minJ ta tb) (minJ x EMP)) EMP) (kp ?_)
      refine w_lstore (pc' := 54) (Ls' := #[.val (.ref q), .val (.int (2 : Int32)), .val (.long x), .second, .val (.int (2 : Int32)), .val (.long (minJ (minJ (minJ ta tb) (minJ x EMP)) EMP)), .second]) C d10_52 rfl rfl ?_
      refine w_aloadN (pc' := 55) C d10_54 rfl rfl rfl ?_
      refine w_getF (pc' := 58) C (tw hw 22 rfl) d10_55 rfl (O_q.fld 1 rfl) ?_
      refine w_iload (pc' := 60) C d10_58 rfl rfl ?_
      refine wA_laload (pc' := 61) (v := .long (minJ (minJ (minJ ta tb) (minJ tc EMP)) EMP)) C d10_60 rfl O_la (by decide) rfl ?_
      refine w_lload (pc' := 63) C d10_61 rfl rfl ?_
      refine w_lcmp (pc' := 64) C d10_63 rfl ?_
      refine w_if_ne (pcT := 68) (pcF := 67) C d10_64 (by decide) (by decide) rfl (fun q64 => ?_) (fun q64 => ?_)
      · skip
        refine w_aloadN (pc' := 69) C d10_68 rfl rfl rfl ?_
        refine w_getF (pc' := 72) C (tw hw 22 rfl) d10_69 rfl (O_q.fld 1 rfl) ?_
        refine w_iload (pc' := 74) C d10_72 rfl rfl ?_
        refine w_lload (pc' := 76) C d10_74 rfl rfl ?_
        refine wA_lastore (pc' := 77) C d10_76 rfl g_la O_la (by decide) (Nat.le_of_ble_eq_true rfl) (fun h4 W4 A4 => ?_)
        have O_la : Ar Z h4 la .long [.long EMP, .long (minJ (minJ (minJ (minJ ta tb) (minJ tc EMP)) EMP) EMP), .long (minJ (minJ (minJ ta tb) (minJ x EMP)) EMP), .long EMP, .long (minJ (minJ ta tb) (minJ x EMP)), .long EMP, .long EMP, .long EMP, .long (minJ ta tb), .long (minJ x EMP), .long EMP, .long EMP, .long EMP, .long EMP, .long EMP, .long EMP, .long ta, .long tb, .long x, .long EMP, .long EMP, .long EMP, .long EMP, .long EMP, .long EMP, .long EMP, .long EMP, .long EMP, .long EMP, .long EMP, .long EMP, .long EMP] := A4
        have O_q := O_q.other W4 ne_q_la
        have O_sa := O_sa.other W4 ne_sa_la
        have hz : n0 ≤ h4.size := by rw [W4.size]; exact hz
        have hk := hk.wr W4 (Or.inl (by simp))
        refine w_goto (pc' := 17) C d10_77 (by decide) (by decide) ?_
        refine w_iload (pc' := 19) C d10_17 rfl rfl ?_
        refine w_iconst (pc' := 20) (x := (1 : Int32)) C d10_19 rfl rfl ?_
        refine w_icmp_le (pcT := 80) (pcF := 23) C d10_20 (by decide) (by decide) rfl (fun q => absurd q (by decide)) (fun q20 => ?_)
        refine w_iload (pc' := 25) C d10_23 rfl rfl ?_
        refine w_iconst (pc' := 26) (x := (2 : Int32)) C d10_25 rfl rfl ?_
        refine w_idiv (pc' := 27) C d10_26 (by decide) rfl ?_
        refine w_eqI (z := (1 : Int32)) (by decide) ?_
        refine w_istore (pc' := 29) (Ls' := #[.val (.ref q), .val (.int (2 : Int32)), .val (.long x), .second, .val (.int (1 : Int32)), .val (.long (minJ (minJ (minJ ta tb) (minJ x EMP)) EMP)), .second]) C d10_27 rfl rfl ?_
        refine w_aloadN (pc' := 30) C d10_29 rfl rfl rfl ?_
        refine w_getF (pc' := 33) C (tw hw 22 rfl) d10_30 rfl (O_q.fld 1 rfl) ?_
        refine w_iconst (pc' := 34) (x := (2 : Int32)) C d10_33 rfl rfl ?_
        refine w_iload (pc' := 36) C d10_34 rfl rfl ?_
        refine w_imul (pc' := 37) C d10_36 rfl ?_
        refine w_eqI (z := (2 : Int32)) (by decide) ?_
        refine wA_laload (pc' := 38) (v := .long (minJ (minJ (minJ ta tb) (minJ x EMP)) EMP)) C d10_37 rfl O_la (by decide) rfl ?_
        refine w_aloadN (pc' := 39) C d10_38 rfl rfl rfl ?_
        refine w_getF (pc' := 42) C (tw hw 22 rfl) d10_39 rfl (O_q.fld 1 rfl) ?_
        refine w_iconst (pc' := 43) (x := (2 : Int32)) C d10_42 rfl rfl ?_
        refine w_iload (pc' := 45) C d10_43 rfl rfl ?_
        refine w_imul (pc' := 46) C d10_45 rfl ?_
        refine w_eqI (z := (2 : Int32)) (by decide) ?_
        refine w_iconst (pc' := 47) (x := (1 : Int32)) C d10_46 rfl rfl ?_
        refine w_iadd (pc' := 48) C d10_47 rfl ?_
        refine w_eqI (z := (3 : Int32)) (by decide) ?_
        refine wA_laload (pc' := 49) (v := .long EMP) C d10_48 rfl O_la (by decide) rfl ?_
        refine w_callS (pc' := 52) (argsL := [.long (minJ (minJ (minJ ta tb) (minJ x EMP)) EMP), .long EMP]) (st := []) (W := 0) (ce' := 0) (sl' := 0) C (tw hw 64 rfl) (tw hw 65 rfl) (tw hw 29 rfl) (tw hw 66 rfl) (by decide) d10_49 rfl rfl (by decide) (by decide) (Nat.le_of_eq rfl) rfl rfl (by decide) (by decide) rfl (lenOf pd_2 rfl) (ct_minJ hw h4 n0 (minJ (minJ (minJ ta tb) (minJ x EMP)) EMP) EMP) (kp ?_)
        refine w_lstore (pc' := 54) (Ls' := #[.val (.ref q), .val (.int (2 : Int32)), .val (.long x), .second, .val (.int (1 : Int32)), .val (.long (minJ (minJ (minJ (minJ ta tb) (minJ x EMP)) EMP) EMP)), .second]) C d10_52 rfl rfl ?_
        refine w_aloadN (pc' := 55) C d10_54 rfl rfl rfl ?_
        refine w_getF (pc' := 58) C (tw hw 22 rfl) d10_55 rfl (O_q.fld 1 rfl) ?_
        refine w_iload (pc' := 60) C d10_58 rfl rfl ?_
        refine wA_laload (pc' := 61) (v := .long (minJ (minJ (minJ (minJ ta tb) (minJ tc EMP)) EMP) EMP)) C d10_60 rfl O_la (by decide) rfl ?_
        refine w_lload (pc' := 63) C d10_61 rfl rfl ?_
        refine w_lcmp (pc' := 64) C d10_63 rfl ?_
        refine w_if_ne (pcT := 68) (pcF := 67) C d10_64 (by decide) (by decide) rfl (fun q64 => ?_) (fun q64 => ?_)
        · skip
          refine w_aloadN (pc' := 69) C d10_68 rfl rfl rfl ?_
          refine w_getF (pc' := 72) C (tw hw 22 rfl) d10_69 rfl (O_q.fld 1 rfl) ?_
          refine w_iload (pc' := 74) C d10_72 rfl rfl ?_
          refine w_lload (pc' := 76) C d10_74 rfl rfl ?_
          refine wA_lastore (pc' := 77) C d10_76 rfl g_la O_la (by decide) (Nat.le_of_ble_eq_true rfl) (fun h5 W5 A5 => ?_)
          have O_la : Ar Z h5 la .long [.long EMP, .long (minJ (minJ (minJ (minJ ta tb) (minJ x EMP)) EMP) EMP), .long (minJ (minJ (minJ ta tb) (minJ x EMP)) EMP), .long EMP, .long (minJ (minJ ta tb) (minJ x EMP)), .long EMP, .long EMP, .long EMP, .long (minJ ta tb), .long (minJ x EMP), .long EMP, .long EMP, .long EMP, .long EMP, .long EMP, .long EMP, .long ta, .long tb, .long x, .long EMP, .long EMP, .long EMP, .long EMP, .long EMP, .long EMP, .long EMP, .long EMP, .long EMP, .long EMP, .long EMP, .long EMP, .long EMP] := A5
          have O_q := O_q.other W5 ne_q_la
          have O_sa := O_sa.other W5 ne_sa_la
          have hz : n0 ≤ h5.size := by rw [W5.size]; exact hz
          have hk := hk.wr W5 (Or.inl (by simp))
          refine w_goto (pc' := 17) C d10_77 (by decide) (by decide) ?_
          refine w_iload (pc' := 19) C d10_17 rfl rfl ?_
          refine w_iconst (pc' := 20) (x := (1 : Int32)) C d10_19 rfl rfl ?_
          refine w_icmp_le (pcT := 80) (pcF := 23) C d10_20 (by decide) (by decide) rfl (fun q20 => ?_) (fun q => absurd q (by decide))
          refine w_ret0 C rfl d10_80 (by decide) (by decide) ?_
          exact ⟨rfl, O_la, hk⟩
        · skip
          refine w_ret0 C rfl d10_67 (by decide) (by decide) ?_
          have e := (cmpJ_eq _ _).mp q64
          exact ⟨rfl, (by unfold tr3; rw [← e]; exact O_la), hk⟩
      · skip
        refine w_ret0 C rfl d10_67 (by decide) (by decide) ?_
        have e := (cmpJ_eq _ _).mp q64
        exact ⟨rfl, (by unfold tr3; rw [← e]; exact O_la), hk⟩
    · skip
      refine w_ret0 C rfl d10_67 (by decide) (by decide) ?_
      have e := (cmpJ_eq _ _).mp q64
      exact ⟨rfl, (by unfold tr3; rw [← e]; exact O_la), hk⟩
  · skip
    refine w_ret0 C rfl d10_67 (by decide) (by decide) ?_
    have e := (cmpJ_eq _ _).mp q64
    exact ⟨rfl, (by unfold tr3; rw [← e]; exact O_la), hk⟩
theorem d9_0 : decode prog_14_method_2_code 0 = .ok (.aload_n 0, 1) := by decide +kernel
theorem d9_1 : decode prog_14_method_2_code 1 = .ok (.getfield 25, 3) := by decide +kernel
theorem d9_4 : decode prog_14_method_2_code 4 = .ok (.aload_n 0, 1) := by decide +kernel
theorem d9_5 : decode prog_14_method_2_code 5 = .ok (.getfield 13, 3) := by decide +kernel
theorem d9_8 : decode prog_14_method_2_code 8 = .ok (.arraylength, 1) := by decide +kernel
theorem d9_9 : decode prog_14_method_2_code 9 = .ok (.if_icmp .ne 7, 3) := by decide +kernel
theorem d9_16 : decode prog_14_method_2_code 16 = .ok (.aload_n 1, 1) := by decide +kernel
theorem d9_17 : decode prog_14_method_2_code 17 = .ok (.astore_n 2, 1) := by decide +kernel
theorem d9_18 : decode prog_14_method_2_code 18 = .ok (.aload_n 2, 1) := by decide +kernel
theorem d9_19 : decode prog_14_method_2_code 19 = .ok (.aload_n 0, 1) := by decide +kernel
theorem d9_20 : decode prog_14_method_2_code 20 = .ok (.getfield 25, 3) := by decide +kernel
theorem d9_23 : decode prog_14_method_2_code 23 = .ok (.putfield 32, 3) := by decide +kernel
theorem d9_26 : decode prog_14_method_2_code 26 = .ok (.aload_n 0, 1) := by decide +kernel
theorem d9_27 : decode prog_14_method_2_code 27 = .ok (.getfield 13, 3) := by decide +kernel
theorem d9_30 : decode prog_14_method_2_code 30 = .ok (.aload_n 0, 1) := by decide +kernel
theorem d9_31 : decode prog_14_method_2_code 31 = .ok (.getfield 25, 3) := by decide +kernel
theorem d9_34 : decode prog_14_method_2_code 34 = .ok (.aload_n 2, 1) := by decide +kernel
theorem d9_35 : decode prog_14_method_2_code 35 = .ok (.aastore, 1) := by decide +kernel
theorem d9_36 : decode prog_14_method_2_code 36 = .ok (.aload_n 0, 1) := by decide +kernel
theorem d9_37 : decode prog_14_method_2_code 37 = .ok (.aload_n 0, 1) := by decide +kernel
theorem d9_38 : decode prog_14_method_2_code 38 = .ok (.getfield 25, 3) := by decide +kernel
theorem d9_41 : decode prog_14_method_2_code 41 = .ok (.aload_n 2, 1) := by decide +kernel
theorem d9_42 : decode prog_14_method_2_code 42 = .ok (.getfield 35, 3) := by decide +kernel
theorem d9_45 : decode prog_14_method_2_code 45 = .ok (.i2l, 1) := by decide +kernel
theorem d9_46 : decode prog_14_method_2_code 46 = .ok (.invokevirtual 38, 3) := by decide +kernel
theorem d9_49 : decode prog_14_method_2_code 49 = .ok (.aload_n 0, 1) := by decide +kernel
theorem d9_50 : decode prog_14_method_2_code 50 = .ok (.dup, 1) := by decide +kernel
theorem d9_51 : decode prog_14_method_2_code 51 = .ok (.getfield 25, 3) := by decide +kernel
theorem d9_54 : decode prog_14_method_2_code 54 = .ok (.iconst 1, 1) := by decide +kernel
theorem d9_55 : decode prog_14_method_2_code 55 = .ok (.iadd, 1) := by decide +kernel
theorem d9_56 : decode prog_14_method_2_code 56 = .ok (.putfield 25, 3) := by decide +kernel
theorem d9_59 : decode prog_14_method_2_code 59 = .ok (.aload_n 0, 1) := by decide +kernel
theorem d9_60 : decode prog_14_method_2_code 60 = .ok (.dup, 1) := by decide +kernel
theorem d9_61 : decode prog_14_method_2_code 61 = .ok (.getfield 42, 3) := by decide +kernel
theorem d9_64 : decode prog_14_method_2_code 64 = .ok (.iconst 1, 1) := by decide +kernel
theorem d9_65 : decode prog_14_method_2_code 65 = .ok (.iadd, 1) := by decide +kernel
theorem d9_66 : decode prog_14_method_2_code 66 = .ok (.putfield 42, 3) := by decide +kernel
theorem d9_69 : decode prog_14_method_2_code 69 = .ok (.return_, 1) := by decide +kernel
def rm_add0 : Room := { frames := 2, cells := 0, slots := 0, locals := 33 }
theorem pf_add0 : plainFor (⟨"tallygate/RequestQueue", "add", "(Ltallygate/RequestQueue$Entry;)V"⟩ : MethodName) = true := plainFor_of_name (by first | (simp [plainName, overriddenIn]; done) | decide +kernel)
set_option maxRecDepth 65536 in
set_option maxHeartbeats 40000000 in
theorem ct_add0 {l : Launch} {Z : State} {a0 : Array Value} (hw : ∀ d ∈ tables_1, d.before a0 Z = true) (h0 : Heap) (n0 : Nat) (q : Addr) (ee : Addr) (sa : Addr) (la : Addr) (sz : Int32) (pp : Int32) (sl : Int32) (s0 : Value) (s1 : Value) (s2 : Value) (ta : Int64) (tb : Int64) (tc : Int64) (hz : n0 ≤ h0.size) (O_q : Obj Z h0 q "tallygate/RequestQueue" [("slots", "[Ltallygate/RequestQueue$Entry;", .ref sa), ("least", "[J", .ref la), ("size", "I", .int sz), ("end", "I", .int (0 : Int32))]) (O_sa : ArR Z h0 sa "tallygate/RequestQueue$Entry" (sl3 s0 s1 s2)) (O_la : Ar Z h0 la .long (tr3 ta tb tc)) (O_ee : Obj Z h0 ee "tallygate/RequestQueue$Entry" [("slot", "I", .int sl), ("permits", "I", .int pp)]) (g_q : n0 ≤ q) (g_sa : n0 ≤ sa) (g_la : n0 ≤ la) (g_ee : n0 ≤ ee) (ne_q_sa : q ≠ sa) (ne_q_la : q ≠ la) (ne_sa_la : sa ≠ la) (ne_ee_q : ee ≠ q) (ne_ee_sa : ee ≠ sa) (ne_ee_la : ee ≠ la) :
    Ct l Z (⟨"tallygate/RequestQueue", "add", "(Ltallygate/RequestQueue$Entry;)V"⟩ : MethodName) prog_14_method_2_code 3 (Option.none : Option Jvm.ClassFile.FieldType) [] rm_add0 #[.ref q, .ref ee] h0 n0 (fun v h => v = none ∧ Obj Z h q "tallygate/RequestQueue" [("slots", "[Ltallygate/RequestQueue$Entry;", .ref sa), ("least", "[J", .ref la), ("size", "I", .int (sz + (1 : Int32))), ("end", "I", .int (1 : Int32))] ∧ ArR Z h sa "tallygate/RequestQueue$Entry" (sl3 (.ref ee) s1 s2) ∧ Ar Z h la .long (tr3 (pp.toInt64) tb tc) ∧ Obj Z h ee "tallygate/RequestQueue$Entry" [("slot", "I", .int (0 : Int32)), ("permits", "I", .int pp)] ∧ Keep h0 h [q, sa, la, ee]) := by
  refine Ct.of (Ls := #[.val (.ref q), .val (.ref ee), .unset]) pf_add0 (fun m => by first | (simp [entryFrame, mkF, argsToLocals, Value.category, maxLocals]; done) | rfl) ?_
  intro p e s m below meth c C
  have hk : Keep h0 h0 [q, sa, la, ee] := Keep.refl _ _
  have O_sa : ArR Z h0 sa "tallygate/RequestQueue$Entry" [s0, s1, s2, .null, .null, .null, .null, .null, .null, .null, .null, .null, .null, .null, .null, .null] := O_sa
  refine w_aloadN (pc' := 1) C d9_0 rfl rfl rfl ?_
  refine w_getF (pc' := 4) C (tw hw 55 rfl) d9_1 rfl (O_q.fld 3 rfl) ?_
  refine w_aloadN (pc' := 5) C d9_4 rfl rfl rfl ?_
  refine w_getF (pc' := 8) C (tw hw 11 rfl) d9_5 rfl (O_q.fld 0 rfl) ?_
  refine wA_alenR (pc' := 9) (n := (16 : Int32)) C d9_8 rfl O_sa rfl ?_
  refine w_icmp_ne (pcT := 16) (pcF := 12) C d9_9 (by decide) (by decide) rfl (fun q9 => ?_) (fun q => absurd q (by decide))
  refine w_aloadN (pc' := 17) C d9_16 rfl rfl rfl ?_
  refine w_astoreN (pc' := 18) (Ls' := #[.val (.ref q), .val (.ref ee), .val (.ref ee)]) C d9_17 rfl rfl rfl ?_
  refine w_aloadN (pc' := 19) C d9_18 rfl rfl rfl ?_
  refine w_aloadN (pc' := 20) C d9_19 rfl rfl rfl ?_
  refine w_getF (pc' := 23) C (tw hw 55 rfl) d9_20 rfl (O_q.fld 3 rfl) ?_
  refine w_putFR (pc' := 26) (ty := .int) C (tw hw 57 rfl) (tw hw 36 rfl) (tw hw 25 rfl) (by decide) rfl rfl d9_23 rfl g_ee (O_ee.fld 0 rfl) O_ee.1 (fun h1 W1 => ?_)
  have O_ee : Obj Z h1 ee "tallygate/RequestQueue$Entry" [("slot", "I", .int (0 : Int32)), ("permits", "I", .int pp)] := O_ee.put 0 rfl W1 rfl
  have O_q := O_q.other W1 (Ne.symm ne_ee_q)
  have O_sa := O_sa.other W1 (Ne.symm ne_ee_sa)
  have O_la := O_la.other W1 (Ne.symm ne_ee_la)
  have hz : n0 ≤ h1.size := by rw [W1.size]; exact hz
  have hk := hk.wr W1 (Or.inl (by simp))
  refine w_aloadN (pc' := 27) C d9_26 rfl rfl rfl ?_
  refine w_getF (pc' := 30) C (tw hw 11 rfl) d9_27 rfl (O_q.fld 0 rfl) ?_
  refine w_aloadN (pc' := 31) C d9_30 rfl rfl rfl ?_
  refine w_getF (pc' := 34) C (tw hw 55 rfl) d9_31 rfl (O_q.fld 3 rfl) ?_
  refine w_aloadN (pc' := 35) C d9_34 rfl rfl rfl ?_
  refine wA_aastore (pc' := 36) C d9_35 rfl g_sa O_sa (by decide) (Nat.le_of_ble_eq_true rfl) (O_sa.sto O_ee.1) (fun h2 W2 A2 => ?_)
  have O_sa : ArR Z h2 sa "tallygate/RequestQueue$Entry" [.ref ee, s1, s2, .null, .null, .null, .null, .null, .null, .null, .null, .null, .null, .null, .null, .null] := A2
  have O_q := O_q.other W2 ne_q_sa
  have O_la := O_la.other W2 (Ne.symm ne_sa_la)
  have O_ee := O_ee.other W2 ne_ee_sa
  have hz : n0 ≤ h2.size := by rw [W2.size]; exact hz
  have hk := hk.wr W2 (Or.inl (by simp))
  refine w_aloadN (pc' := 37) C d9_36 rfl rfl rfl ?_
  refine w_aloadN (pc' := 38) C d9_37 rfl rfl rfl ?_
  refine w_getF (pc' := 41) C (tw hw 55 rfl) d9_38 rfl (O_q.fld 3 rfl) ?_
  refine w_aloadN (pc' := 42) C d9_41 rfl rfl rfl ?_
  refine w_getF (pc' := 45) C (tw hw 59 rfl) d9_42 rfl (O_ee.fld 1 rfl) ?_
  refine w_i2l (pc' := 46) C d9_45 rfl ?_
  refine w_callP (pc' := 49) (argsL := [.int (0 : Int32), .long (pp.toInt64)]) (st := []) (W := 0) (ce' := 0) (sl' := 0) C (tw hw 60 rfl) (tw hw 61 rfl) (tw hw 1 rfl) (tw hw 62 rfl) (tw hw 2 rfl) (tw hw 63 rfl) (by decide) d9_46 rfl rfl (by decide) (by decide) (Nat.le_of_eq rfl) rfl rfl (by decide) (by decide) rfl (lenOf pd_3 rfl) O_q.1 (ct_setLeaf0 hw h2 n0 q (pp.toInt64) sa la (0 : Int32) sz [.ref ee, s1, s2, .null, .null, .null, .null, .null, .null, .null, .null, .null, .null, .null, .null, .null] ta tb tc hz rfl O_q O_sa O_la g_la ne_q_la ne_sa_la) (k0 (fun h3 q3 => ?_))
  obtain ⟨P_la, K3⟩ := q3
  have O_q := O_q.keep K3 (ninS ne_q_la nin0)
  have O_sa := O_sa.keep K3 (ninS ne_sa_la nin0)
  have O_ee := O_ee.keep K3 (ninS ne_ee_la nin0)
  have hz : n0 ≤ h3.size := Nat.le_trans hz K3.1
  have hk := Keep.app hk K3 (fun x hx => Or.inl hx) (allS (Or.inl (by simp)) all0)
  have O_la := P_la
  refine w_aloadN (pc' := 50) C d9_49 rfl rfl rfl ?_
  refine w_dup (pc' := 51) C d9_50 rfl rfl ?_
  refine w_getF (pc' := 54) C (tw hw 55 rfl) d9_51 rfl (O_q.fld 3 rfl) ?_
  refine w_iconst (pc' := 55) (x := (1 : Int32)) C d9_54 rfl rfl ?_
  refine w_iadd (pc' := 56) C d9_55 rfl ?_
  refine w_eqI (z := (1 : Int32)) (by decide) ?_
  refine w_putF (pc' := 59) (ty := .int) C (tw hw 55 rfl) (Or.inl (tw hw 56 rfl)) (tw hw 1 rfl) (by decide) rfl rfl d9_56 rfl g_q (O_q.fld 3 rfl) O_q.1 (fun h4 W4 => ?_)
  have O_q : Obj Z h4 q "tallygate/RequestQueue" [("slots", "[Ltallygate/RequestQueue$Entry;", .ref sa), ("least", "[J", .ref la), ("size", "I", .int sz), ("end", "I", .int (1 : Int32))] := O_q.put 3 rfl W4 rfl
  have O_sa := O_sa.other W4 (Ne.symm ne_q_sa)
  have O_ee := O_ee.other W4 ne_ee_q
  have O_la := O_la.other W4 (Ne.symm ne_q_la)
  have hz : n0 ≤ h4.size := by rw [W4.size]; exact hz
  have hk := hk.wr W4 (Or.inl (by simp))
  refine w_aloadN (pc' := 60) C d9_59 rfl rfl rfl ?_
  refine w_dup (pc' := 61) C d9_60 rfl rfl ?_
  refine w_getF (pc' := 64) C (tw hw 44 rfl) d9_61 rfl (O_q.fld 2 rfl) ?_
  refine w_iconst (pc' := 65) (x := (1 : Int32)) C d9_64 rfl rfl ?_
  refine w_iadd (pc' := 66) C d9_65 rfl ?_
  refine w_putF (pc' := 69) (ty := .int) C (tw hw 44 rfl) (Or.inl (tw hw 45 rfl)) (tw hw 1 rfl) (by decide) rfl rfl d9_66 rfl g_q (O_q.fld 2 rfl) O_q.1 (fun h5 W5 => ?_)
  have O_q : Obj Z h5 q "tallygate/RequestQueue" [("slots", "[Ltallygate/RequestQueue$Entry;", .ref sa), ("least", "[J", .ref la), ("size", "I", .int (sz + (1 : Int32))), ("end", "I", .int (1 : Int32))] := O_q.put 2 rfl W5 rfl
  have O_sa := O_sa.other W5 (Ne.symm ne_q_sa)
  have O_ee := O_ee.other W5 ne_ee_q
  have O_la := O_la.other W5 (Ne.symm ne_q_la)
  have hz : n0 ≤ h5.size := by rw [W5.size]; exact hz
  have hk := hk.wr W5 (Or.inl (by simp))
  refine w_ret0 C rfl d9_69 (by decide) (by decide) ?_
  exact ⟨rfl, O_q, O_sa, O_la, O_ee, hk⟩
def rm_add1 : Room := { frames := 2, cells := 0, slots := 0, locals := 33 }
theorem pf_add1 : plainFor (⟨"tallygate/RequestQueue", "add", "(Ltallygate/RequestQueue$Entry;)V"⟩ : MethodName) = true := plainFor_of_name (by first | (simp [plainName, overriddenIn]; done) | decide +kernel)
set_option maxRecDepth 65536 in
set_option maxHeartbeats 40000000 in
theorem ct_add1 {l : Launch} {Z : State} {a0 : Array Value} (hw : ∀ d ∈ tables_1, d.before a0 Z = true) (h0 : Heap) (n0 : Nat) (q : Addr) (ee : Addr) (sa : Addr) (la : Addr) (sz : Int32) (pp : Int32) (sl : Int32) (s0 : Value) (s1 : Value) (s2 : Value) (ta : Int64) (tb : Int64) (tc : Int64) (hz : n0 ≤ h0.size) (O_q : Obj Z h0 q "tallygate/RequestQueue" [("slots", "[Ltallygate/RequestQueue$Entry;", .ref sa), ("least", "[J", .ref la), ("size", "I", .int sz), ("end", "I", .int (1 : Int32))]) (O_sa : ArR Z h0 sa "tallygate/RequestQueue$Entry" (sl3 s0 s1 s2)) (O_la : Ar Z h0 la .long (tr3 ta tb tc)) (O_ee : Obj Z h0 ee "tallygate/RequestQueue$Entry" [("slot", "I", .int sl), ("permits", "I", .int pp)]) (g_q : n0 ≤ q) (g_sa : n0 ≤ sa) (g_la : n0 ≤ la) (g_ee : n0 ≤ ee) (ne_q_sa : q ≠ sa) (ne_q_la : q ≠ la) (ne_sa_la : sa ≠ la) (ne_ee_q : ee ≠ q) (ne_ee_sa : ee ≠ sa) (ne_ee_la : ee ≠ la) :
    Ct l Z (⟨"tallygate/RequestQueue", "add", "(Ltallygate/RequestQueue$Entry;)V"⟩ : MethodName) prog_14_method_2_code 3 (Option.none : Option Jvm.ClassFile.FieldType) [] rm_add1 #[.ref q, .ref ee] h0 n0 (fun v h => v = none ∧ Obj Z h q "tallygate/RequestQueue" [("slots", "[Ltallygate/RequestQueue$Entry;", .ref sa), ("least", "[J", .ref la), ("size", "I", .int (sz + (1 : Int32))), ("end", "I", .int (2 : Int32))] ∧ ArR Z h sa "tallygate/RequestQueue$Entry" (sl3 s0 (.ref ee) s2) ∧ Ar Z h la .long (tr3 ta (pp.toInt64) tc) ∧ Obj Z h ee "tallygate/RequestQueue$Entry" [("slot", "I", .int (1 : Int32)), ("permits", "I", .int pp)] ∧ Keep h0 h [q, sa, la, ee]) := by
  refine Ct.of (Ls := #[.val (.ref q), .val (.ref ee), .unset]) pf_add1 (fun m => by first | (simp [entryFrame, mkF, argsToLocals, Value.category, maxLocals]; done) | rfl) ?_
  intro p e s m below meth c C
  have hk : Keep h0 h0 [q, sa, la, ee] := Keep.refl _ _
  have O_sa : ArR Z h0 sa "tallygate/RequestQueue$Entry" [s0, s1, s2, .null, .null, .null, .null, .null, .null, .null, .null, .null, .null, .null, .null, .null] := O_sa
  refine w_aloadN (pc' := 1) C d9_0 rfl rfl rfl ?_
  refine w_getF (pc' := 4) C (tw hw 55 rfl) d9_1 rfl (O_q.fld 3 rfl) ?_
  refine w_aloadN (pc' := 5) C d9_4 rfl rfl rfl ?_
  refine w_getF (pc' := 8) C (tw hw 11 rfl) d9_5 rfl (O_q.fld 0 rfl) ?_
  refine wA_alenR (pc' := 9) (n := (16 : Int32)) C d9_8 rfl O_sa rfl ?_
  refine w_icmp_ne (pcT := 16) (pcF := 12) C d9_9 (by decide) (by decide) rfl (fun q9 => ?_) (fun q => absurd q (by decide))
  refine w_aloadN (pc' := 17) C d9_16 rfl rfl rfl ?_
  refine w_astoreN (pc' := 18) (Ls' := #[.val (.ref q), .val (.ref ee), .val (.ref ee)]) C d9_17 rfl rfl rfl ?_
  refine w_aloadN (pc' := 19) C d9_18 rfl rfl rfl ?_
  refine w_aloadN (pc' := 20) C d9_19 rfl rfl rfl ?_
  refine w_getF (pc' := 23) C (tw hw 55 rfl) d9_20 rfl (O_q.fld 3 rfl) ?_
  refine w_putFR (pc' := 26) (ty := .int) C (tw hw 57 rfl) (tw hw 36 rfl) (tw hw 25 rfl) (by decide) rfl rfl d9_23 rfl g_ee (O_ee.fld 0 rfl) O_ee.1 (fun h1 W1 => ?_)
  have O_ee : Obj Z h1 ee "tallygate/RequestQueue$Entry" [("slot", "I", .int (1 : Int32)), ("permits", "I", .int pp)] := O_ee.put 0 rfl W1 rfl
  have O_q := O_q.other W1 (Ne.symm ne_ee_q)
  have O_sa := O_sa.other W1 (Ne.symm ne_ee_sa)
  have O_la := O_la.other W1 (Ne.symm ne_ee_la)
  have hz : n0 ≤ h1.size := by rw [W1.size]; exact hz
  have hk := hk.wr W1 (Or.inl (by simp))
  refine w_aloadN (pc' := 27) C d9_26 rfl rfl rfl ?_
  refine w_getF (pc' := 30) C (tw hw 11 rfl) d9_27 rfl (O_q.fld 0 rfl) ?_
  refine w_aloadN (pc' := 31) C d9_30 rfl rfl rfl ?_
  refine w_getF (pc' := 34) C (tw hw 55 rfl) d9_31 rfl (O_q.fld 3 rfl) ?_
  refine w_aloadN (pc' := 35) C d9_34 rfl rfl rfl ?_
  refine wA_aastore (pc' := 36) C d9_35 rfl g_sa O_sa (by decide) (Nat.le_of_ble_eq_true rfl) (O_sa.sto O_ee.1) (fun h2 W2 A2 => ?_)
  have O_sa : ArR Z h2 sa "tallygate/RequestQueue$Entry" [s0, .ref ee, s2, .null, .null, .null, .null, .null, .null, .null, .null, .null, .null, .null, .null, .null] := A2
  have O_q := O_q.other W2 ne_q_sa
  have O_la := O_la.other W2 (Ne.symm ne_sa_la)
  have O_ee := O_ee.other W2 ne_ee_sa
  have hz : n0 ≤ h2.size := by rw [W2.size]; exact hz
  have hk := hk.wr W2 (Or.inl (by simp))
  refine w_aloadN (pc' := 37) C d9_36 rfl rfl rfl ?_
  refine w_aloadN (pc' := 38) C d9_37 rfl rfl rfl ?_
  refine w_getF (pc' := 41) C (tw hw 55 rfl) d9_38 rfl (O_q.fld 3 rfl) ?_
  refine w_aloadN (pc' := 42) C d9_41 rfl rfl rfl ?_
  refine w_getF (pc' := 45) C (tw hw 59 rfl) d9_42 rfl (O_ee.fld 1 rfl) ?_
  refine w_i2l (pc' := 46) C d9_45 rfl ?_
  refine w_callP (pc' := 49) (argsL := [.int (1 : Int32), .long (pp.toInt64)]) (st := []) (W := 0) (ce' := 0) (sl' := 0) C (tw hw 60 rfl) (tw hw 61 rfl) (tw hw 1 rfl) (tw hw 62 rfl) (tw hw 2 rfl) (tw hw 63 rfl) (by decide) d9_46 rfl rfl (by decide) (by decide) (Nat.le_of_eq rfl) rfl rfl (by decide) (by decide) rfl (lenOf pd_3 rfl) O_q.1 (ct_setLeaf1 hw h2 n0 q (pp.toInt64) sa la (1 : Int32) sz [s0, .ref ee, s2, .null, .null, .null, .null, .null, .null, .null, .null, .null, .null, .null, .null, .null] ta tb tc hz rfl O_q O_sa O_la g_la ne_q_la ne_sa_la) (k0 (fun h3 q3 => ?_))
  obtain ⟨P_la, K3⟩ := q3
  have O_q := O_q.keep K3 (ninS ne_q_la nin0)
  have O_sa := O_sa.keep K3 (ninS ne_sa_la nin0)
  have O_ee := O_ee.keep K3 (ninS ne_ee_la nin0)
  have hz : n0 ≤ h3.size := Nat.le_trans hz K3.1
  have hk := Keep.app hk K3 (fun x hx => Or.inl hx) (allS (Or.inl (by simp)) all0)
  have O_la := P_la
  refine w_aloadN (pc' := 50) C d9_49 rfl rfl rfl ?_
  refine w_dup (pc' := 51) C d9_50 rfl rfl ?_
  refine w_getF (pc' := 54) C (tw hw 55 rfl) d9_51 rfl (O_q.fld 3 rfl) ?_
  refine w_iconst (pc' := 55) (x := (1 : Int32)) C d9_54 rfl rfl ?_
  refine w_iadd (pc' := 56) C d9_55 rfl ?_
  refine w_eqI (z := (2 : Int32)) (by decide) ?_
  refine w_putF (pc' := 59) (ty := .int) C (tw hw 55 rfl) (Or.inl (tw hw 56 rfl)) (tw hw 1 rfl) (by decide) rfl rfl d9_56 rfl g_q (O_q.fld 3 rfl) O_q.1 (fun h4 W4 => ?_)
  have O_q : Obj Z h4 q "tallygate/RequestQueue" [("slots", "[Ltallygate/RequestQueue$Entry;", .ref sa), ("least", "[J", .ref la), ("size", "I", .int sz), ("end", "I", .int (2 : Int32))] := O_q.put 3 rfl W4 rfl
  have O_sa := O_sa.other W4 (Ne.symm ne_q_sa)
  have O_ee := O_ee.other W4 ne_ee_q
  have O_la := O_la.other W4 (Ne.symm ne_q_la)
  have hz : n0 ≤ h4.size := by rw [W4.size]; exact hz
  have hk := hk.wr W4 (Or.inl (by simp))
  refine w_aloadN (pc' := 60) C d9_59 rfl rfl rfl ?_
  refine w_dup (pc' := 61) C d9_60 rfl rfl ?_
  refine w_getF (pc' := 64) C (tw hw 44 rfl) d9_61 rfl (O_q.fld 2 rfl) ?_
  refine w_iconst (pc' := 65) (x := (1 : Int32)) C d9_64 rfl rfl ?_
  refine w_iadd (pc' := 66) C d9_65 rfl ?_
  refine w_putF (pc' := 69) (ty := .int) C (tw hw 44 rfl) (Or.inl (tw hw 45 rfl)) (tw hw 1 rfl) (by decide) rfl rfl d9_66 rfl g_q (O_q.fld 2 rfl) O_q.1 (fun h5 W5 => ?_)
  have O_q : Obj Z h5 q "tallygate/RequestQueue" [("slots", "[Ltallygate/RequestQueue$Entry;", .ref sa), ("least", "[J", .ref la), ("size", "I", .int (sz + (1 : Int32))), ("end", "I", .int (2 : Int32))] := O_q.put 2 rfl W5 rfl
  have O_sa := O_sa.other W5 (Ne.symm ne_q_sa)
  have O_ee := O_ee.other W5 ne_ee_q
  have O_la := O_la.other W5 (Ne.symm ne_q_la)
  have hz : n0 ≤ h5.size := by rw [W5.size]; exact hz
  have hk := hk.wr W5 (Or.inl (by simp))
  refine w_ret0 C rfl d9_69 (by decide) (by decide) ?_
  exact ⟨rfl, O_q, O_sa, O_la, O_ee, hk⟩
def rm_add2 : Room := { frames := 2, cells := 0, slots := 0, locals := 33 }
theorem pf_add2 : plainFor (⟨"tallygate/RequestQueue", "add", "(Ltallygate/RequestQueue$Entry;)V"⟩ : MethodName) = true := plainFor_of_name (by first | (simp [plainName, overriddenIn]; done) | decide +kernel)
set_option maxRecDepth 65536 in
set_option maxHeartbeats 40000000 in
theorem ct_add2 {l : Launch} {Z : State} {a0 : Array Value} (hw : ∀ d ∈ tables_1, d.before a0 Z = true) (h0 : Heap) (n0 : Nat) (q : Addr) (ee : Addr) (sa : Addr) (la : Addr) (sz : Int32) (pp : Int32) (sl : Int32) (s0 : Value) (s1 : Value) (s2 : Value) (ta : Int64) (tb : Int64) (tc : Int64) (hz : n0 ≤ h0.size) (O_q : Obj Z h0 q "tallygate/RequestQueue" [("slots", "[Ltallygate/RequestQueue$Entry;", .ref sa), ("least", "[J", .ref la), ("size", "I", .int sz), ("end", "I", .int (2 : Int32))]) (O_sa : ArR Z h0 sa "tallygate/RequestQueue$Entry" (sl3 s0 s1 s2)) (O_la : Ar Z h0 la .long (tr3 ta tb tc)) (O_ee : Obj Z h0 ee "tallygate/RequestQueue$Entry" [("slot", "I", .int sl), ("permits", "I", .int pp)]) (g_q : n0 ≤ q) (g_sa : n0 ≤ sa) (g_la : n0 ≤ la) (g_ee : n0 ≤ ee) (ne_q_sa : q ≠ sa) (ne_q_la : q ≠ la) (ne_sa_la : sa ≠ la) (ne_ee_q : ee ≠ q) (ne_ee_sa : ee ≠ sa) (ne_ee_la : ee ≠ la) :
    Ct l Z (⟨"tallygate/RequestQueue", "add", "(Ltallygate/RequestQueue$Entry;)V"⟩ : MethodName) prog_14_method_2_code 3 (Option.none : Option Jvm.ClassFile.FieldType) [] rm_add2 #[.ref q, .ref ee] h0 n0 (fun v h => v = none ∧ Obj Z h q "tallygate/RequestQueue" [("slots", "[Ltallygate/RequestQueue$Entry;", .ref sa), ("least", "[J", .ref la), ("size", "I", .int (sz + (1 : Int32))), ("end", "I", .int (3 : Int32))] ∧ ArR Z h sa "tallygate/RequestQueue$Entry" (sl3 s0 s1 (.ref ee)) ∧ Ar Z h la .long (tr3 ta tb (pp.toInt64)) ∧ Obj Z h ee "tallygate/RequestQueue$Entry" [("slot", "I", .int (2 : Int32)), ("permits", "I", .int pp)] ∧ Keep h0 h [q, sa, la, ee]) := by
  refine Ct.of (Ls := #[.val (.ref q), .val (.ref ee), .unset]) pf_add2 (fun m => by first | (simp [entryFrame, mkF, argsToLocals, Value.category, maxLocals]; done) | rfl) ?_
  intro p e s m below meth c C
  have hk : Keep h0 h0 [q, sa, la, ee] := Keep.refl _ _
  have O_sa : ArR Z h0 sa "tallygate/RequestQueue$Entry" [s0, s1, s2, .null, .null, .null, .null, .null, .null, .null, .null, .null, .null, .null, .null, .null] := O_sa
  refine w_aloadN (pc' := 1) C d9_0 rfl rfl rfl ?_
  refine w_getF (pc' := 4) C (tw hw 55 rfl) d9_1 rfl (O_q.fld 3 rfl) ?_
  refine w_aloadN (pc' := 5) C d9_4 rfl rfl rfl ?_
  refine w_getF (pc' := 8) C (tw hw 11 rfl) d9_5 rfl (O_q.fld 0 rfl) ?_
  refine wA_alenR (pc' := 9) (n := (16 : Int32)) C d9_8 rfl O_sa rfl ?_
  refine w_icmp_ne (pcT := 16) (pcF := 12) C d9_9 (by decide) (by decide) rfl (fun q9 => ?_) (fun q => absurd q (by decide))
  refine w_aloadN (pc' := 17) C d9_16 rfl rfl rfl ?_
  refine w_astoreN (pc' := 18) (Ls' := #[.val (.ref q), .val (.ref ee), .val (.ref ee)]) C d9_17 rfl rfl rfl ?_
  refine w_aloadN (pc' := 19) C d9_18 rfl rfl rfl ?_
  refine w_aloadN (pc' := 20) C d9_19 rfl rfl rfl ?_
  refine w_getF (pc' := 23) C (tw hw 55 rfl) d9_20 rfl (O_q.fld 3 rfl) ?_
  refine w_putFR (pc' := 26) (ty := .int) C (tw hw 57 rfl) (tw hw 36 rfl) (tw hw 25 rfl) (by decide) rfl rfl d9_23 rfl g_ee (O_ee.fld 0 rfl) O_ee.1 (fun h1 W1 => ?_)
  have O_ee : Obj Z h1 ee "tallygate/RequestQueue$Entry" [("slot", "I", .int (2 : Int32)), ("permits", "I", .int pp)] := O_ee.put 0 rfl W1 rfl
  have O_q := O_q.other W1 (Ne.symm ne_ee_q)
  have O_sa := O_sa.other W1 (Ne.symm ne_ee_sa)
  have O_la := O_la.other W1 (Ne.symm ne_ee_la)
  have hz : n0 ≤ h1.size := by rw [W1.size]; exact hz
  have hk := hk.wr W1 (Or.inl (by simp))
  refine w_aloadN (pc' := 27) C d9_26 rfl rfl rfl ?_
  refine w_getF (pc' := 30) C (tw hw 11 rfl) d9_27 rfl (O_q.fld 0 rfl) ?_
  refine w_aloadN (pc' := 31) C d9_30 rfl rfl rfl ?_
  refine w_getF (pc' := 34) C (tw hw 55 rfl) d9_31 rfl (O_q.fld 3 rfl) ?_
  refine w_aloadN (pc' := 35) C d9_34 rfl rfl rfl ?_
  refine wA_aastore (pc' := 36) C d9_35 rfl g_sa O_sa (by decide) (Nat.le_of_ble_eq_true rfl) (O_sa.sto O_ee.1) (fun h2 W2 A2 => ?_)
  have O_sa : ArR Z h2 sa "tallygate/RequestQueue$Entry" [s0, s1, .ref ee, .null, .null, .null, .null, .null, .null, .null, .null, .null, .null, .null, .null, .null] := A2
  have O_q := O_q.other W2 ne_q_sa
  have O_la := O_la.other W2 (Ne.symm ne_sa_la)
  have O_ee := O_ee.other W2 ne_ee_sa
  have hz : n0 ≤ h2.size := by rw [W2.size]; exact hz
  have hk := hk.wr W2 (Or.inl (by simp))
  refine w_aloadN (pc' := 37) C d9_36 rfl rfl rfl ?_
  refine w_aloadN (pc' := 38) C d9_37 rfl rfl rfl ?_
  refine w_getF (pc' := 41) C (tw hw 55 rfl) d9_38 rfl (O_q.fld 3 rfl) ?_
  refine w_aloadN (pc' := 42) C d9_41 rfl rfl rfl ?_
  refine w_getF (pc' := 45) C (tw hw 59 rfl) d9_42 rfl (O_ee.fld 1 rfl) ?_
  refine w_i2l (pc' := 46) C d9_45 rfl ?_
  refine w_callP (pc' := 49) (argsL := [.int (2 : Int32), .long (pp.toInt64)]) (st := []) (W := 0) (ce' := 0) (sl' := 0) C (tw hw 60 rfl) (tw hw 61 rfl) (tw hw 1 rfl) (tw hw 62 rfl) (tw hw 2 rfl) (tw hw 63 rfl) (by decide) d9_46 rfl rfl (by decide) (by decide) (Nat.le_of_eq rfl) rfl rfl (by decide) (by decide) rfl (lenOf pd_3 rfl) O_q.1 (ct_setLeaf2 hw h2 n0 q (pp.toInt64) sa la (2 : Int32) sz [s0, s1, .ref ee, .null, .null, .null, .null, .null, .null, .null, .null, .null, .null, .null, .null, .null] ta tb tc hz rfl O_q O_sa O_la g_la ne_q_la ne_sa_la) (k0 (fun h3 q3 => ?_))
  obtain ⟨P_la, K3⟩ := q3
  have O_q := O_q.keep K3 (ninS ne_q_la nin0)
  have O_sa := O_sa.keep K3 (ninS ne_sa_la nin0)
  have O_ee := O_ee.keep K3 (ninS ne_ee_la nin0)
  have hz : n0 ≤ h3.size := Nat.le_trans hz K3.1
  have hk := Keep.app hk K3 (fun x hx => Or.inl hx) (allS (Or.inl (by simp)) all0)
  have O_la := P_la
  refine w_aloadN (pc' := 50) C d9_49 rfl rfl rfl ?_
  refine w_dup (pc' := 51) C d9_50 rfl rfl ?_
  refine w_getF (pc' := 54) C (tw hw 55 rfl) d9_51 rfl (O_q.fld 3 rfl) ?_
  refine w_iconst (pc' := 55) (x := (1 : Int32)) C d9_54 rfl rfl ?_
  refine w_iadd (pc' := 56) C d9_55 rfl ?_
  refine w_eqI (z := (3 : Int32)) (by decide) ?_
  refine w_putF (pc' := 59) (ty := .int) C (tw hw 55 rfl) (Or.inl (tw hw 56 rfl)) (tw hw 1 rfl) (by decide) rfl rfl d9_56 rfl g_q (O_q.fld 3 rfl) O_q.1 (fun h4 W4 => ?_)
  have O_q : Obj Z h4 q "tallygate/RequestQueue" [("slots", "[Ltallygate/RequestQueue$Entry;", .ref sa), ("least", "[J", .ref la), ("size", "I", .int sz), ("end", "I", .int (3 : Int32))] := O_q.put 3 rfl W4 rfl
  have O_sa := O_sa.other W4 (Ne.symm ne_q_sa)
  have O_ee := O_ee.other W4 ne_ee_q
  have O_la := O_la.other W4 (Ne.symm ne_q_la)
  have hz : n0 ≤ h4.size := by rw [W4.size]; exact hz
  have hk := hk.wr W4 (Or.inl (by simp))
  refine w_aloadN (pc' := 60) C d9_59 rfl rfl rfl ?_
  refine w_dup (pc' := 61) C d9_60 rfl rfl ?_
  refine w_getF (pc' := 64) C (tw hw 44 rfl) d9_61 rfl (O_q.fld 2 rfl) ?_
  refine w_iconst (pc' := 65) (x := (1 : Int32)) C d9_64 rfl rfl ?_
  refine w_iadd (pc' := 66) C d9_65 rfl ?_
  refine w_putF (pc' := 69) (ty := .int) C (tw hw 44 rfl) (Or.inl (tw hw 45 rfl)) (tw hw 1 rfl) (by decide) rfl rfl d9_66 rfl g_q (O_q.fld 2 rfl) O_q.1 (fun h5 W5 => ?_)
  have O_q : Obj Z h5 q "tallygate/RequestQueue" [("slots", "[Ltallygate/RequestQueue$Entry;", .ref sa), ("least", "[J", .ref la), ("size", "I", .int (sz + (1 : Int32))), ("end", "I", .int (3 : Int32))] := O_q.put 2 rfl W5 rfl
  have O_sa := O_sa.other W5 (Ne.symm ne_q_sa)
  have O_ee := O_ee.other W5 ne_ee_q
  have O_la := O_la.other W5 (Ne.symm ne_q_la)
  have hz : n0 ≤ h5.size := by rw [W5.size]; exact hz
  have hk := hk.wr W5 (Or.inl (by simp))
  refine w_ret0 C rfl d9_69 (by decide) (by decide) ?_
  exact ⟨rfl, O_q, O_sa, O_la, O_ee, hk⟩
def endF (sz en : Int32) : Int32 := if (sz - (1 : Int32)) = 0 then 0 else en
theorem d12_0 : decode prog_14_method_3_code 0 = .ok (.aload_n 1, 1) := by decide +kernel
theorem d12_1 : decode prog_14_method_3_code 1 = .ok (.astore_n 2, 1) := by decide +kernel
theorem d12_2 : decode prog_14_method_3_code 2 = .ok (.aload_n 2, 1) := by decide +kernel
theorem d12_3 : decode prog_14_method_3_code 3 = .ok (.getfield 32, 3) := by decide +kernel
theorem d12_6 : decode prog_14_method_3_code 6 = .ok (.istore_n 3, 1) := by decide +kernel
theorem d12_7 : decode prog_14_method_3_code 7 = .ok (.iload_n 3, 1) := by decide +kernel
theorem d12_8 : decode prog_14_method_3_code 8 = .ok (.iconst (-1), 1) := by decide +kernel
theorem d12_9 : decode prog_14_method_3_code 9 = .ok (.if_icmp .ne 4, 3) := by decide +kernel
theorem d12_12 : decode prog_14_method_3_code 12 = .ok (.return_, 1) := by decide +kernel
def rm_remN : Room := { frames := 0, cells := 0, slots := 0, locals := 0 }
theorem pf_remN : plainFor (⟨"tallygate/RequestQueue", "remove", "(Ltallygate/RequestQueue$Entry;)V"⟩ : MethodName) = true := plainFor_of_name (by first | (simp [plainName, overriddenIn]; done) | decide +kernel)
set_option maxRecDepth 65536 in
set_option maxHeartbeats 40000000 in
theorem ct_remN {l : Launch} {Z : State} {a0 : Array Value} (hw : ∀ d ∈ tables_1, d.before a0 Z = true) (h0 : Heap) (n0 : Nat) (q : Addr) (ee : Addr) (sa : Addr) (la : Addr) (en : Int32) (sz : Int32) (pp : Int32) (s0 : Value) (s1 : Value) (s2 : Value) (ta : Int64) (tb : Int64) (tc : Int64) (hz : n0 ≤ h0.size) (O_q : Obj Z h0 q "tallygate/RequestQueue" [("slots", "[Ltallygate/RequestQueue$Entry;", .ref sa), ("least", "[J", .ref la), ("size", "I", .int sz), ("end", "I", .int en)]) (O_sa : ArR Z h0 sa "tallygate/RequestQueue$Entry" (sl3 s0 s1 s2)) (O_la : Ar Z h0 la .long (tr3 ta tb tc)) (O_ee : Obj Z h0 ee "tallygate/RequestQueue$Entry" [("slot", "I", .int (-1 : Int32)), ("permits", "I", .int pp)]) (g_q : n0 ≤ q) (g_sa : n0 ≤ sa) (g_la : n0 ≤ la) (g_ee : n0 ≤ ee) (ne_q_sa : q ≠ sa) (ne_q_la : q ≠ la) (ne_sa_la : sa ≠ la) (ne_ee_q : ee ≠ q) (ne_ee_sa : ee ≠ sa) (ne_ee_la : ee ≠ la) :
    Ct l Z (⟨"tallygate/RequestQueue", "remove", "(Ltallygate/RequestQueue$Entry;)V"⟩ : MethodName) prog_14_method_3_code 4 (Option.none : Option Jvm.ClassFile.FieldType) [] rm_remN #[.ref q, .ref ee] h0 n0 (fun v h => v = none ∧ Obj Z h q "tallygate/RequestQueue" [("slots", "[Ltallygate/RequestQueue$Entry;", .ref sa), ("least", "[J", .ref la), ("size", "I", .int sz), ("end", "I", .int en)] ∧ ArR Z h sa "tallygate/RequestQueue$Entry" (sl3 s0 s1 s2) ∧ Ar Z h la .long (tr3 ta tb tc) ∧ Obj Z h ee "tallygate/RequestQueue$Entry" [("slot", "I", .int (-1 : Int32)), ("permits", "I", .int pp)] ∧ Keep h0 h [q, sa, la, ee]) := by
  refine Ct.of (Ls := #[.val (.ref q), .val (.ref ee), .unset, .unset]) pf_remN (fun m => by first | (simp [entryFrame, mkF, argsToLocals, Value.category, maxLocals]; done) | rfl) ?_
  intro p e s m below meth c C
  have hk : Keep h0 h0 [q, sa, la, ee] := Keep.refl _ _
  have O_sa : ArR Z h0 sa "tallygate/RequestQueue$Entry" [s0, s1, s2, .null, .null, .null, .null, .null, .null, .null, .null, .null, .null, .null, .null, .null] := O_sa
  refine w_aloadN (pc' := 1) C d12_0 rfl rfl rfl ?_
  refine w_astoreN (pc' := 2) (Ls' := #[.val (.ref q), .val (.ref ee), .val (.ref ee), .unset]) C d12_1 rfl rfl rfl ?_
  refine w_aloadN (pc' := 3) C d12_2 rfl rfl rfl ?_
  refine w_getFR (pc' := 6) C (tw hw 57 rfl) d12_3 rfl (O_ee.fld 0 rfl) ?_
  refine w_istoreN (pc' := 7) (Ls' := #[.val (.ref q), .val (.ref ee), .val (.ref ee), .val (.int (-1 : Int32))]) C d12_6 rfl rfl ?_
  refine w_iloadN (pc' := 8) C d12_7 rfl rfl ?_
  refine w_iconst (pc' := 9) (x := (-1 : Int32)) C d12_8 rfl rfl ?_
  refine w_icmp_ne (pcT := 13) (pcF := 12) C d12_9 (by decide) (by decide) rfl (fun q => absurd q (by decide)) (fun q9 => ?_)
  refine w_ret0 C rfl d12_12 (by decide) (by decide) ?_
  exact ⟨rfl, O_q, O_sa, O_la, O_ee, hk⟩
theorem d12_13 : decode prog_14_method_3_code 13 = .ok (.aload_n 2, 1) := by decide +kernel
theorem d12_14 : decode prog_14_method_3_code 14 = .ok (.iconst (-1), 1) := by decide +kernel
theorem d12_15 : decode prog_14_method_3_code 15 = .ok (.putfield 32, 3) := by decide +kernel
theorem d12_18 : decode prog_14_method_3_code 18 = .ok (.aload_n 0, 1) := by decide +kernel
theorem d12_19 : decode prog_14_method_3_code 19 = .ok (.getfield 13, 3) := by decide +kernel
theorem d12_22 : decode prog_14_method_3_code 22 = .ok (.iload_n 3, 1) := by decide +kernel
theorem d12_23 : decode prog_14_method_3_code 23 = .ok (.aconst_null, 1) := by decide +kernel
theorem d12_24 : decode prog_14_method_3_code 24 = .ok (.aastore, 1) := by decide +kernel
theorem d12_25 : decode prog_14_method_3_code 25 = .ok (.aload_n 0, 1) := by decide +kernel
theorem d12_26 : decode prog_14_method_3_code 26 = .ok (.dup, 1) := by decide +kernel
theorem d12_27 : decode prog_14_method_3_code 27 = .ok (.getfield 42, 3) := by decide +kernel
theorem d12_30 : decode prog_14_method_3_code 30 = .ok (.iconst 1, 1) := by decide +kernel
theorem d12_31 : decode prog_14_method_3_code 31 = .ok (.isub, 1) := by decide +kernel
theorem d12_32 : decode prog_14_method_3_code 32 = .ok (.putfield 42, 3) := by decide +kernel
theorem d12_35 : decode prog_14_method_3_code 35 = .ok (.aload_n 0, 1) := by decide +kernel
theorem d12_36 : decode prog_14_method_3_code 36 = .ok (.iload_n 3, 1) := by decide +kernel
theorem d12_37 : decode prog_14_method_3_code 37 = .ok (.ldc2_w 45, 3) := by decide +kernel
theorem d12_40 : decode prog_14_method_3_code 40 = .ok (.invokevirtual 38, 3) := by decide +kernel
theorem d12_43 : decode prog_14_method_3_code 43 = .ok (.aload_n 0, 1) := by decide +kernel
theorem d12_44 : decode prog_14_method_3_code 44 = .ok (.getfield 42, 3) := by decide +kernel
theorem d12_47 : decode prog_14_method_3_code 47 = .ok (.ifCond .ne 8, 3) := by decide +kernel
theorem d12_50 : decode prog_14_method_3_code 50 = .ok (.aload_n 0, 1) := by decide +kernel
theorem d12_51 : decode prog_14_method_3_code 51 = .ok (.iconst 0, 1) := by decide +kernel
theorem d12_52 : decode prog_14_method_3_code 52 = .ok (.putfield 25, 3) := by decide +kernel
theorem d12_55 : decode prog_14_method_3_code 55 = .ok (.return_, 1) := by decide +kernel
def rm_rem0 : Room := { frames := 2, cells := 0, slots := 0, locals := 33 }
theorem pf_rem0 : plainFor (⟨"tallygate/RequestQueue", "remove", "(Ltallygate/RequestQueue$Entry;)V"⟩ : MethodName) = true := plainFor_of_name (by first | (simp [plainName, overriddenIn]; done) | decide +kernel)
set_option maxRecDepth 65536 in
set_option maxHeartbeats 40000000 in
theorem ct_rem0 {l : Launch} {Z : State} {a0 : Array Value} (hw : ∀ d ∈ tables_1, d.before a0 Z = true) (h0 : Heap) (n0 : Nat) (q : Addr) (ee : Addr) (sa : Addr) (la : Addr) (en : Int32) (sz : Int32) (pp : Int32) (s0 : Value) (s1 : Value) (s2 : Value) (ta : Int64) (tb : Int64) (tc : Int64) (hz : n0 ≤ h0.size) (O_q : Obj Z h0 q "tallygate/RequestQueue" [("slots", "[Ltallygate/RequestQueue$Entry;", .ref sa), ("least", "[J", .ref la), ("size", "I", .int sz), ("end", "I", .int en)]) (O_sa : ArR Z h0 sa "tallygate/RequestQueue$Entry" (sl3 s0 s1 s2)) (O_la : Ar Z h0 la .long (tr3 ta tb tc)) (O_ee : Obj Z h0 ee "tallygate/RequestQueue$Entry" [("slot", "I", .int (0 : Int32)), ("permits", "I", .int pp)]) (g_q : n0 ≤ q) (g_sa : n0 ≤ sa) (g_la : n0 ≤ la) (g_ee : n0 ≤ ee) (ne_q_sa : q ≠ sa) (ne_q_la : q ≠ la) (ne_sa_la : sa ≠ la) (ne_ee_q : ee ≠ q) (ne_ee_sa : ee ≠ sa) (ne_ee_la : ee ≠ la) :
    Ct l Z (⟨"tallygate/RequestQueue", "remove", "(Ltallygate/RequestQueue$Entry;)V"⟩ : MethodName) prog_14_method_3_code 4 (Option.none : Option Jvm.ClassFile.FieldType) [] rm_rem0 #[.ref q, .ref ee] h0 n0 (fun v h => v = none ∧ Obj Z h q "tallygate/RequestQueue" [("slots", "[Ltallygate/RequestQueue$Entry;", .ref sa), ("least", "[J", .ref la), ("size", "I", .int (sz - (1 : Int32))), ("end", "I", .int (endF sz en))] ∧ ArR Z h sa "tallygate/RequestQueue$Entry" (sl3 .null s1 s2) ∧ Ar Z h la .long (tr3 EMP tb tc) ∧ Obj Z h ee "tallygate/RequestQueue$Entry" [("slot", "I", .int (-1 : Int32)), ("permits", "I", .int pp)] ∧ Keep h0 h [q, sa, la, ee]) := by
  refine Ct.of (Ls := #[.val (.ref q), .val (.ref ee), .unset, .unset]) pf_rem0 (fun m => by first | (simp [entryFrame, mkF, argsToLocals, Value.category, maxLocals]; done) | rfl) ?_
  intro p e s m below meth c C
  have hk : Keep h0 h0 [q, sa, la, ee] := Keep.refl _ _
  have O_sa : ArR Z h0 sa "tallygate/RequestQueue$Entry" [s0, s1, s2, .null, .null, .null, .null, .null, .null, .null, .null, .null, .null, .null, .null, .null] := O_sa
  refine w_aloadN (pc' := 1) C d12_0 rfl rfl rfl ?_
  refine w_astoreN (pc' := 2) (Ls' := #[.val (.ref q), .val (.ref ee), .val (.ref ee), .unset]) C d12_1 rfl rfl rfl ?_
  refine w_aloadN (pc' := 3) C d12_2 rfl rfl rfl ?_
  refine w_getFR (pc' := 6) C (tw hw 57 rfl) d12_3 rfl (O_ee.fld 0 rfl) ?_
  refine w_istoreN (pc' := 7) (Ls' := #[.val (.ref q), .val (.ref ee), .val (.ref ee), .val (.int (0 : Int32))]) C d12_6 rfl rfl ?_
  refine w_iloadN (pc' := 8) C d12_7 rfl rfl ?_
  refine w_iconst (pc' := 9) (x := (-1 : Int32)) C d12_8 rfl rfl ?_
  refine w_icmp_ne (pcT := 13) (pcF := 12) C d12_9 (by decide) (by decide) rfl (fun q9 => ?_) (fun q => absurd q (by decide))
  refine w_aloadN (pc' := 14) C d12_13 rfl rfl rfl ?_
  refine w_iconst (pc' := 15) (x := (-1 : Int32)) C d12_14 rfl rfl ?_
  refine w_putFR (pc' := 18) (ty := .int) C (tw hw 57 rfl) (tw hw 36 rfl) (tw hw 25 rfl) (by decide) rfl rfl d12_15 rfl g_ee (O_ee.fld 0 rfl) O_ee.1 (fun h1 W1 => ?_)
  have O_ee : Obj Z h1 ee "tallygate/RequestQueue$Entry" [("slot", "I", .int (-1 : Int32)), ("permits", "I", .int pp)] := O_ee.put 0 rfl W1 rfl
  have O_q := O_q.other W1 (Ne.symm ne_ee_q)
  have O_sa := O_sa.other W1 (Ne.symm ne_ee_sa)
  have O_la := O_la.other W1 (Ne.symm ne_ee_la)
  have hz : n0 ≤ h1.size := by rw [W1.size]; exact hz
  have hk := hk.wr W1 (Or.inl (by simp))
  refine w_aloadN (pc' := 19) C d12_18 rfl rfl rfl ?_
  refine w_getF (pc' := 22) C (tw hw 11 rfl) d12_19 rfl (O_q.fld 0 rfl) ?_
  refine w_iloadN (pc' := 23) C d12_22 rfl rfl ?_
  refine w_aconstNull (pc' := 24) C d12_23 rfl ?_
  refine wA_aastore (pc' := 25) C d12_24 rfl g_sa O_sa (by decide) (Nat.le_of_ble_eq_true rfl) (Or.inl rfl) (fun h2 W2 A2 => ?_)
  have O_sa : ArR Z h2 sa "tallygate/RequestQueue$Entry" [.null, s1, s2, .null, .null, .null, .null, .null, .null, .null, .null, .null, .null, .null, .null, .null] := A2
  have O_q := O_q.other W2 ne_q_sa
  have O_la := O_la.other W2 (Ne.symm ne_sa_la)
  have O_ee := O_ee.other W2 ne_ee_sa
  have hz : n0 ≤ h2.size := by rw [W2.size]; exact hz
  have hk := hk.wr W2 (Or.inl (by simp))
  refine w_aloadN (pc' := 26) C d12_25 rfl rfl rfl ?_
  refine w_dup (pc' := 27) C d12_26 rfl rfl ?_
  refine w_getF (pc' := 30) C (tw hw 44 rfl) d12_27 rfl (O_q.fld 2 rfl) ?_
  refine w_iconst (pc' := 31) (x := (1 : Int32)) C d12_30 rfl rfl ?_
  refine w_isub (pc' := 32) C d12_31 rfl ?_
  refine w_putF (pc' := 35) (ty := .int) C (tw hw 44 rfl) (Or.inl (tw hw 45 rfl)) (tw hw 1 rfl) (by decide) rfl rfl d12_32 rfl g_q (O_q.fld 2 rfl) O_q.1 (fun h3 W3 => ?_)
  have O_q : Obj Z h3 q "tallygate/RequestQueue" [("slots", "[Ltallygate/RequestQueue$Entry;", .ref sa), ("least", "[J", .ref la), ("size", "I", .int (sz - (1 : Int32))), ("end", "I", .int en)] := O_q.put 2 rfl W3 rfl
  have O_sa := O_sa.other W3 (Ne.symm ne_q_sa)
  have O_la := O_la.other W3 (Ne.symm ne_q_la)
  have O_ee := O_ee.other W3 ne_ee_q
  have hz : n0 ≤ h3.size := by rw [W3.size]; exact hz
  have hk := hk.wr W3 (Or.inl (by simp))
  refine w_aloadN (pc' := 36) C d12_35 rfl rfl rfl ?_
  refine w_iloadN (pc' := 37) C d12_36 rfl rfl ?_
  refine w_ldc2J (pc' := 40) C (tw hw 17 rfl) d12_37 rfl ?_
  refine w_callP (pc' := 43) (argsL := [.int (0 : Int32), .long (9223372036854775807 : Int64)]) (st := []) (W := 0) (ce' := 0) (sl' := 0) C (tw hw 60 rfl) (tw hw 61 rfl) (tw hw 1 rfl) (tw hw 62 rfl) (tw hw 2 rfl) (tw hw 63 rfl) (by decide) d12_40 rfl rfl (by decide) (by decide) (Nat.le_of_eq rfl) rfl rfl (by decide) (by decide) rfl (lenOf pd_3 rfl) O_q.1 (ct_setLeaf0 hw h3 n0 q (9223372036854775807 : Int64) sa la en (sz - (1 : Int32)) [.null, s1, s2, .null, .null, .null, .null, .null, .null, .null, .null, .null, .null, .null, .null, .null] ta tb tc hz rfl O_q O_sa O_la g_la ne_q_la ne_sa_la) (k0 (fun h4 q4 => ?_))
  obtain ⟨P_la, K4⟩ := q4
  have O_q := O_q.keep K4 (ninS ne_q_la nin0)
  have O_sa := O_sa.keep K4 (ninS ne_sa_la nin0)
  have O_ee := O_ee.keep K4 (ninS ne_ee_la nin0)
  have hz : n0 ≤ h4.size := Nat.le_trans hz K4.1
  have hk := Keep.app hk K4 (fun x hx => Or.inl hx) (allS (Or.inl (by simp)) all0)
  have O_la := P_la
  refine w_aloadN (pc' := 44) C d12_43 rfl rfl rfl ?_
  refine w_getF (pc' := 47) C (tw hw 44 rfl) d12_44 rfl (O_q.fld 2 rfl) ?_
  refine w_if_ne (pcT := 55) (pcF := 50) C d12_47 (by decide) (by decide) rfl (fun q47 => ?_) (fun q47 => ?_)
  · skip
    refine w_ret0 C rfl d12_55 (by decide) (by decide) ?_
    exact ⟨rfl, (by rw [show endF sz en = en from if_neg q47]; exact O_q), O_sa, O_la, O_ee, hk⟩
  · skip
    refine w_aloadN (pc' := 51) C d12_50 rfl rfl rfl ?_
    refine w_iconst (pc' := 52) (x := (0 : Int32)) C d12_51 rfl rfl ?_
    refine w_putF (pc' := 55) (ty := .int) C (tw hw 55 rfl) (Or.inl (tw hw 56 rfl)) (tw hw 1 rfl) (by decide) rfl rfl d12_52 rfl g_q (O_q.fld 3 rfl) O_q.1 (fun h5 W5 => ?_)
    have O_q : Obj Z h5 q "tallygate/RequestQueue" [("slots", "[Ltallygate/RequestQueue$Entry;", .ref sa), ("least", "[J", .ref la), ("size", "I", .int (sz - (1 : Int32))), ("end", "I", .int (0 : Int32))] := O_q.put 3 rfl W5 rfl
    have O_sa := O_sa.other W5 (Ne.symm ne_q_sa)
    have O_ee := O_ee.other W5 ne_ee_q
    have O_la := O_la.other W5 (Ne.symm ne_q_la)
    have hz : n0 ≤ h5.size := by rw [W5.size]; exact hz
    have hk := hk.wr W5 (Or.inl (by simp))
    refine w_ret0 C rfl d12_55 (by decide) (by decide) ?_
    exact ⟨rfl, (by rw [show endF sz en = (0 : Int32) from if_pos q47]; exact O_q), O_sa, O_la, O_ee, hk⟩
def rm_rem1 : Room := { frames := 2, cells := 0, slots := 0, locals := 33 }
theorem pf_rem1 : plainFor (⟨"tallygate/RequestQueue", "remove", "(Ltallygate/RequestQueue$Entry;)V"⟩ : MethodName) = true := plainFor_of_name (by first | (simp [plainName, overriddenIn]; done) | decide +kernel)
set_option maxRecDepth 65536 in
set_option maxHeartbeats 40000000 in
theorem ct_rem1 {l : Launch} {Z : State} {a0 : Array Value} (hw : ∀ d ∈ tables_1, d.before a0 Z = true) (h0 : Heap) (n0 : Nat) (q : Addr) (ee : Addr) (sa : Addr) (la : Addr) (en : Int32) (sz : Int32) (pp : Int32) (s0 : Value) (s1 : Value) (s2 : Value) (ta : Int64) (tb : Int64) (tc : Int64) (hz : n0 ≤ h0.size) (O_q : Obj Z h0 q "tallygate/RequestQueue" [("slots", "[Ltallygate/RequestQueue$Entry;", .ref sa), ("least", "[J", .ref la), ("size", "I", .int sz), ("end", "I", .int en)]) (O_sa : ArR Z h0 sa "tallygate/RequestQueue$Entry" (sl3 s0 s1 s2)) (O_la : Ar Z h0 la .long (tr3 ta tb tc)) (O_ee : Obj Z h0 ee "tallygate/RequestQueue$Entry" [("slot", "I", .int (1 : Int32)), ("permits", "I", .int pp)]) (g_q : n0 ≤ q) (g_sa : n0 ≤ sa) (g_la : n0 ≤ la) (g_ee : n0 ≤ ee) (ne_q_sa : q ≠ sa) (ne_q_la : q ≠ la) (ne_sa_la : sa ≠ la) (ne_ee_q : ee ≠ q) (ne_ee_sa : ee ≠ sa) (ne_ee_la : ee ≠ la) :
    Ct l Z (⟨"tallygate/RequestQueue", "remove", "(Ltallygate/RequestQueue$Entry;)V"⟩ : MethodName) prog_14_method_3_code 4 (Option.none : Option Jvm.ClassFile.FieldType) [] rm_rem1 #[.ref q, .ref ee] h0 n0 (fun v h => v = none ∧ Obj Z h q "tallygate/RequestQueue" [("slots", "[Ltallygate/RequestQueue$Entry;", .ref sa), ("least", "[J", .ref la), ("size", "I", .int (sz - (1 : Int32))), ("end", "I", .int (endF sz en))] ∧ ArR Z h sa "tallygate/RequestQueue$Entry" (sl3 s0 .null s2) ∧ Ar Z h la .long (tr3 ta EMP tc) ∧ Obj Z h ee "tallygate/RequestQueue$Entry" [("slot", "I", .int (-1 : Int32)), ("permits", "I", .int pp)] ∧ Keep h0 h [q, sa, la, ee]) := by
  refine Ct.of (Ls := #[.val (.ref q), .val (.ref ee), .unset, .unset]) pf_rem1 (fun m => by first | (simp [entryFrame, mkF, argsToLocals, Value.category, maxLocals]; done) | rfl) ?_
  intro p e s m below meth c C
  have hk : Keep h0 h0 [q, sa, la, ee] := Keep.refl _ _
  have O_sa : ArR Z h0 sa "tallygate/RequestQueue$Entry" [s0, s1, s2, .null, .null, .null, .null, .null, .null, .null, .null, .null, .null, .null, .null, .null] := O_sa
  refine w_aloadN (pc' := 1) C d12_0 rfl rfl rfl ?_
  refine w_astoreN (pc' := 2) (Ls' := #[.val (.ref q), .val (.ref ee), .val (.ref ee), .unset]) C d12_1 rfl rfl rfl ?_
  refine w_aloadN (pc' := 3) C d12_2 rfl rfl rfl ?_
  refine w_getFR (pc' := 6) C (tw hw 57 rfl) d12_3 rfl (O_ee.fld 0 rfl) ?_
  refine w_istoreN (pc' := 7) (Ls' := #[.val (.ref q), .val (.ref ee), .val (.ref ee), .val (.int (1 : Int32))]) C d12_6 rfl rfl ?_
  refine w_iloadN (pc' := 8) C d12_7 rfl rfl ?_
  refine w_iconst (pc' := 9) (x := (-1 : Int32)) C d12_8 rfl rfl ?_
  refine w_icmp_ne (pcT := 13) (pcF := 12) C d12_9 (by decide) (by decide) rfl (fun q9 => ?_) (fun q => absurd q (by decide))
  refine w_aloadN (pc' := 14) C d12_13 rfl rfl rfl ?_
  refine w_iconst (pc' := 15) (x := (-1 : Int32)) C d12_14 rfl rfl ?_
  refine w_putFR (pc' := 18) (ty := .int) C (tw hw 57 rfl) (tw hw 36 rfl) (tw hw 25 rfl) (by decide) rfl rfl d12_15 rfl g_ee (O_ee.fld 0 rfl) O_ee.1 (fun h1 W1 => ?_)
  have O_ee : Obj Z h1 ee "tallygate/RequestQueue$Entry" [("slot", "I", .int (-1 : Int32)), ("permits", "I", .int pp)] := O_ee.put 0 rfl W1 rfl
  have O_q := O_q.other W1 (Ne.symm ne_ee_q)
  have O_sa := O_sa.other W1 (Ne.symm ne_ee_sa)
  have O_la := O_la.other W1 (Ne.symm ne_ee_la)
  have hz : n0 ≤ h1.size := by rw [W1.size]; exact hz
  have hk := hk.wr W1 (Or.inl (by simp))
  refine w_aloadN (pc' := 19) C d12_18 rfl rfl rfl ?_
  refine w_getF (pc' := 22) C (tw hw 11 rfl) d12_19 rfl (O_q.fld 0 rfl) ?_
  refine w_iloadN (pc' := 23) C d12_22 rfl rfl ?_
  refine w_aconstNull (pc' := 24) C d12_23 rfl ?_
  refine wA_aastore (pc' := 25) C d12_24 rfl g_sa O_sa (by decide) (Nat.le_of_ble_eq_true rfl) (Or.inl rfl) (fun h2 W2 A2 => ?_)
  have O_sa : ArR Z h2 sa "tallygate/RequestQueue$Entry" [s0, .null, s2, .null, .null, .null, .null, .null, .null, .null, .null, .null, .null, .null, .null, .null] := A2
  have O_q := O_q.other W2 ne_q_sa
  have O_la := O_la.other W2 (Ne.symm ne_sa_la)
  have O_ee := O_ee.other W2 ne_ee_sa
  have hz : n0 ≤ h2.size := by rw [W2.size]; exact hz
  have hk := hk.wr W2 (Or.inl (by simp))
  refine w_aloadN (pc' := 26) C d12_25 rfl rfl rfl ?_
  refine w_dup (pc' := 27) C d12_26 rfl rfl ?_
  refine w_getF (pc' := 30) C (tw hw 44 rfl) d12_27 rfl (O_q.fld 2 rfl) ?_
  refine w_iconst (pc' := 31) (x := (1 : Int32)) C d12_30 rfl rfl ?_
  refine w_isub (pc' := 32) C d12_31 rfl ?_
  refine w_putF (pc' := 35) (ty := .int) C (tw hw 44 rfl) (Or.inl (tw hw 45 rfl)) (tw hw 1 rfl) (by decide) rfl rfl d12_32 rfl g_q (O_q.fld 2 rfl) O_q.1 (fun h3 W3 => ?_)
  have O_q : Obj Z h3 q "tallygate/RequestQueue" [("slots", "[Ltallygate/RequestQueue$Entry;", .ref sa), ("least", "[J", .ref la), ("size", "I", .int (sz - (1 : Int32))), ("end", "I", .int en)] := O_q.put 2 rfl W3 rfl
  have O_sa := O_sa.other W3 (Ne.symm ne_q_sa)
  have O_la := O_la.other W3 (Ne.symm ne_q_la)
  have O_ee := O_ee.other W3 ne_ee_q
  have hz : n0 ≤ h3.size := by rw [W3.size]; exact hz
  have hk := hk.wr W3 (Or.inl (by simp))
  refine w_aloadN (pc' := 36) C d12_35 rfl rfl rfl ?_
  refine w_iloadN (pc' := 37) C d12_36 rfl rfl ?_
  refine w_ldc2J (pc' := 40) C (tw hw 17 rfl) d12_37 rfl ?_
  refine w_callP (pc' := 43) (argsL := [.int (1 : Int32), .long (9223372036854775807 : Int64)]) (st := []) (W := 0) (ce' := 0) (sl' := 0) C (tw hw 60 rfl) (tw hw 61 rfl) (tw hw 1 rfl) (tw hw 62 rfl) (tw hw 2 rfl) (tw hw 63 rfl) (by decide) d12_40 rfl rfl (by decide) (by decide) (Nat.le_of_eq rfl) rfl rfl (by decide) (by decide) rfl (lenOf pd_3 rfl) O_q.1 (ct_setLeaf1 hw h3 n0 q (9223372036854775807 : Int64) sa la en (sz - (1 : Int32)) [s0, .null, s2, .null, .null, .null, .null, .null, .null, .null, .null, .null, .null, .null, .null, .null] ta tb tc hz rfl O_q O_sa O_la g_la ne_q_la ne_sa_la) (k0 (fun h4 q4 => ?_))
  obtain ⟨P_la, K4⟩ := q4
  have O_q := O_q.keep K4 (ninS ne_q_la nin0)
  have O_sa := O_sa.keep K4 (ninS ne_sa_la nin0)
  have O_ee := O_ee.keep K4 (ninS ne_ee_la nin0)
  have hz : n0 ≤ h4.size := Nat.le_trans hz K4.1
  have hk := Keep.app hk K4 (fun x hx => Or.inl hx) (allS (Or.inl (by simp)) all0)
  have O_la := P_la
  refine w_aloadN (pc' := 44) C d12_43 rfl rfl rfl ?_
  refine w_getF (pc' := 47) C (tw hw 44 rfl) d12_44 rfl (O_q.fld 2 rfl) ?_
  refine w_if_ne (pcT := 55) (pcF := 50) C d12_47 (by decide) (by decide) rfl (fun q47 => ?_) (fun q47 => ?_)
  · skip
    refine w_ret0 C rfl d12_55 (by decide) (by decide) ?_
    exact ⟨rfl, (by rw [show endF sz en = en from if_neg q47]; exact O_q), O_sa, O_la, O_ee, hk⟩
  · skip
    refine w_aloadN (pc' := 51) C d12_50 rfl rfl rfl ?_
    refine w_iconst (pc' := 52) (x := (0 : Int32)) C d12_51 rfl rfl ?_
    refine w_putF (pc' := 55) (ty := .int) C (tw hw 55 rfl) (Or.inl (tw hw 56 rfl)) (tw hw 1 rfl) (by decide) rfl rfl d12_52 rfl g_q (O_q.fld 3 rfl) O_q.1 (fun h5 W5 => ?_)
    have O_q : Obj Z h5 q "tallygate/RequestQueue" [("slots", "[Ltallygate/RequestQueue$Entry;", .ref sa), ("least", "[J", .ref la), ("size", "I", .int (sz - (1 : Int32))), ("end", "I", .int (0 : Int32))] := O_q.put 3 rfl W5 rfl
    have O_sa := O_sa.other W5 (Ne.symm ne_q_sa)
    have O_ee := O_ee.other W5 ne_ee_q
    have O_la := O_la.other W5 (Ne.symm ne_q_la)
    have hz : n0 ≤ h5.size := by rw [W5.size]; exact hz
    have hk := hk.wr W5 (Or.inl (by simp))
    refine w_ret0 C rfl d12_55 (by decide) (by decide) ?_
    exact ⟨rfl, (by rw [show endF sz en = (0 : Int32) from if_pos q47]; exact O_q), O_sa, O_la, O_ee, hk⟩
def rm_rem2 : Room := { frames := 2, cells := 0, slots := 0, locals := 33 }
theorem pf_rem2 : plainFor (⟨"tallygate/RequestQueue", "remove", "(Ltallygate/RequestQueue$Entry;)V"⟩ : MethodName) = true := plainFor_of_name (by first | (simp [plainName, overriddenIn]; done) | decide +kernel)
set_option maxRecDepth 65536 in
set_option maxHeartbeats 40000000 in
theorem ct_rem2 {l : Launch} {Z : State} {a0 : Array Value} (hw : ∀ d ∈ tables_1, d.before a0 Z = true) (h0 : Heap) (n0 : Nat) (q : Addr) (ee : Addr) (sa : Addr) (la : Addr) (en : Int32) (sz : Int32) (pp : Int32) (s0 : Value) (s1 : Value) (s2 : Value) (ta : Int64) (tb : Int64) (tc : Int64) (hz : n0 ≤ h0.size) (O_q : Obj Z h0 q "tallygate/RequestQueue" [("slots", "[Ltallygate/RequestQueue$Entry;", .ref sa), ("least", "[J", .ref la), ("size", "I", .int sz), ("end", "I", .int en)]) (O_sa : ArR Z h0 sa "tallygate/RequestQueue$Entry" (sl3 s0 s1 s2)) (O_la : Ar Z h0 la .long (tr3 ta tb tc)) (O_ee : Obj Z h0 ee "tallygate/RequestQueue$Entry" [("slot", "I", .int (2 : Int32)), ("permits", "I", .int pp)]) (g_q : n0 ≤ q) (g_sa : n0 ≤ sa) (g_la : n0 ≤ la) (g_ee : n0 ≤ ee) (ne_q_sa : q ≠ sa) (ne_q_la : q ≠ la) (ne_sa_la : sa ≠ la) (ne_ee_q : ee ≠ q) (ne_ee_sa : ee ≠ sa) (ne_ee_la : ee ≠ la) :
    Ct l Z (⟨"tallygate/RequestQueue", "remove", "(Ltallygate/RequestQueue$Entry;)V"⟩ : MethodName) prog_14_method_3_code 4 (Option.none : Option Jvm.ClassFile.FieldType) [] rm_rem2 #[.ref q, .ref ee] h0 n0 (fun v h => v = none ∧ Obj Z h q "tallygate/RequestQueue" [("slots", "[Ltallygate/RequestQueue$Entry;", .ref sa), ("least", "[J", .ref la), ("size", "I", .int (sz - (1 : Int32))), ("end", "I", .int (endF sz en))] ∧ ArR Z h sa "tallygate/RequestQueue$Entry" (sl3 s0 s1 .null) ∧ Ar Z h la .long (tr3 ta tb EMP) ∧ Obj Z h ee "tallygate/RequestQueue$Entry" [("slot", "I", .int (-1 : Int32)), ("permits", "I", .int pp)] ∧ Keep h0 h [q, sa, la, ee]) := by
  refine Ct.of (Ls := #[.val (.ref q), .val (.ref ee), .unset, .unset]) pf_rem2 (fun m => by first | (simp [entryFrame, mkF, argsToLocals, Value.category, maxLocals]; done) | rfl) ?_
  intro p e s m below meth c C
  have hk : Keep h0 h0 [q, sa, la, ee] := Keep.refl _ _
  have O_sa : ArR Z h0 sa "tallygate/RequestQueue$Entry" [s0, s1, s2, .null, .null, .null, .null, .null, .null, .null, .null, .null, .null, .null, .null, .null] := O_sa
  refine w_aloadN (pc' := 1) C d12_0 rfl rfl rfl ?_
  refine w_astoreN (pc' := 2) (Ls' := #[.val (.ref q), .val (.ref ee), .val (.ref ee), .unset]) C d12_1 rfl rfl rfl ?_
  refine w_aloadN (pc' := 3) C d12_2 rfl rfl rfl ?_
  refine w_getFR (pc' := 6) C (tw hw 57 rfl) d12_3 rfl (O_ee.fld 0 rfl) ?_
  refine w_istoreN (pc' := 7) (Ls' := #[.val (.ref q), .val (.ref ee), .val (.ref ee), .val (.int (2 : Int32))]) C d12_6 rfl rfl ?_
  refine w_iloadN (pc' := 8) C d12_7 rfl rfl ?_
  refine w_iconst (pc' := 9) (x := (-1 : Int32)) C d12_8 rfl rfl ?_
  refine w_icmp_ne (pcT := 13) (pcF := 12) C d12_9 (by decide) (by decide) rfl (fun q9 => ?_) (fun q => absurd q (by decide))
  refine w_aloadN (pc' := 14) C d12_13 rfl rfl rfl ?_
  refine w_iconst (pc' := 15) (x := (-1 : Int32)) C d12_14 rfl rfl ?_
  refine w_putFR (pc' := 18) (ty := .int) C (tw hw 57 rfl) (tw hw 36 rfl) (tw hw 25 rfl) (by decide) rfl rfl d12_15 rfl g_ee (O_ee.fld 0 rfl) O_ee.1 (fun h1 W1 => ?_)
  have O_ee : Obj Z h1 ee "tallygate/RequestQueue$Entry" [("slot", "I", .int (-1 : Int32)), ("permits", "I", .int pp)] := O_ee.put 0 rfl W1 rfl
  have O_q := O_q.other W1 (Ne.symm ne_ee_q)
  have O_sa := O_sa.other W1 (Ne.symm ne_ee_sa)
  have O_la := O_la.other W1 (Ne.symm ne_ee_la)
  have hz : n0 ≤ h1.size := by rw [W1.size]; exact hz
  have hk := hk.wr W1 (Or.inl (by simp))
  refine w_aloadN (pc' := 19) C d12_18 rfl rfl rfl ?_
  refine w_getF (pc' := 22) C (tw hw 11 rfl) d12_19 rfl (O_q.fld 0 rfl) ?_
  refine w_iloadN (pc' := 23) C d12_22 rfl rfl ?_
  refine w_aconstNull (pc' := 24) C d12_23 rfl ?_
  refine wA_aastore (pc' := 25) C d12_24 rfl g_sa O_sa (by decide) (Nat.le_of_ble_eq_true rfl) (Or.inl rfl) (fun h2 W2 A2 => ?_)
  have O_sa : ArR Z h2 sa "tallygate/RequestQueue$Entry" [s0, s1, .null, .null, .null, .null, .null, .null, .null, .null, .null, .null, .null, .null, .null, .null] := A2
  have O_q := O_q.other W2 ne_q_sa
  have O_la := O_la.other W2 (Ne.symm ne_sa_la)
  have O_ee := O_ee.other W2 ne_ee_sa
  have hz : n0 ≤ h2.size := by rw [W2.size]; exact hz
  have hk := hk.wr W2 (Or.inl (by simp))
  refine w_aloadN (pc' := 26) C d12_25 rfl rfl rfl ?_
  refine w_dup (pc' := 27) C d12_26 rfl rfl ?_
  refine w_getF (pc' := 30) C (tw hw 44 rfl) d12_27 rfl (O_q.fld 2 rfl) ?_
  refine w_iconst (pc' := 31) (x := (1 : Int32)) C d12_30 rfl rfl ?_
  refine w_isub (pc' := 32) C d12_31 rfl ?_
  refine w_putF (pc' := 35) (ty := .int) C (tw hw 44 rfl) (Or.inl (tw hw 45 rfl)) (tw hw 1 rfl) (by decide) rfl rfl d12_32 rfl g_q (O_q.fld 2 rfl) O_q.1 (fun h3 W3 => ?_)
  have O_q : Obj Z h3 q "tallygate/RequestQueue" [("slots", "[Ltallygate/RequestQueue$Entry;", .ref sa), ("least", "[J", .ref la), ("size", "I", .int (sz - (1 : Int32))), ("end", "I", .int en)] := O_q.put 2 rfl W3 rfl
  have O_sa := O_sa.other W3 (Ne.symm ne_q_sa)
  have O_la := O_la.other W3 (Ne.symm ne_q_la)
  have O_ee := O_ee.other W3 ne_ee_q
  have hz : n0 ≤ h3.size := by rw [W3.size]; exact hz
  have hk := hk.wr W3 (Or.inl (by simp))
  refine w_aloadN (pc' := 36) C d12_35 rfl rfl rfl ?_
  refine w_iloadN (pc' := 37) C d12_36 rfl rfl ?_
  refine w_ldc2J (pc' := 40) C (tw hw 17 rfl) d12_37 rfl ?_
  refine w_callP (pc' := 43) (argsL := [.int (2 : Int32), .long (9223372036854775807 : Int64)]) (st := []) (W := 0) (ce' := 0) (sl' := 0) C (tw hw 60 rfl) (tw hw 61 rfl) (tw hw 1 rfl) (tw hw 62 rfl) (tw hw 2 rfl) (tw hw 63 rfl) (by decide) d12_40 rfl rfl (by decide) (by decide) (Nat.le_of_eq rfl) rfl rfl (by decide) (by decide) rfl (lenOf pd_3 rfl) O_q.1 (ct_setLeaf2 hw h3 n0 q (9223372036854775807 : Int64) sa la en (sz - (1 : Int32)) [s0, s1, .null, .null, .null, .null, .null, .null, .null, .null, .null, .null, .null, .null, .null, .null] ta tb tc hz rfl O_q O_sa O_la g_la ne_q_la ne_sa_la) (k0 (fun h4 q4 => ?_))
  obtain ⟨P_la, K4⟩ := q4
  have O_q := O_q.keep K4 (ninS ne_q_la nin0)
  have O_sa := O_sa.keep K4 (ninS ne_sa_la nin0)
  have O_ee := O_ee.keep K4 (ninS ne_ee_la nin0)
  have hz : n0 ≤ h4.size := Nat.le_trans hz K4.1
  have hk := Keep.app hk K4 (fun x hx => Or.inl hx) (allS (Or.inl (by simp)) all0)
  have O_la := P_la
  refine w_aloadN (pc' := 44) C d12_43 rfl rfl rfl ?_
  refine w_getF (pc' := 47) C (tw hw 44 rfl) d12_44 rfl (O_q.fld 2 rfl) ?_
  refine w_if_ne (pcT := 55) (pcF := 50) C d12_47 (by decide) (by decide) rfl (fun q47 => ?_) (fun q47 => ?_)
  · skip
    refine w_ret0 C rfl d12_55 (by decide) (by decide) ?_
    exact ⟨rfl, (by rw [show endF sz en = en from if_neg q47]; exact O_q), O_sa, O_la, O_ee, hk⟩
  · skip
    refine w_aloadN (pc' := 51) C d12_50 rfl rfl rfl ?_
    refine w_iconst (pc' := 52) (x := (0 : Int32)) C d12_51 rfl rfl ?_
    refine w_putF (pc' := 55) (ty := .int) C (tw hw 55 rfl) (Or.inl (tw hw 56 rfl)) (tw hw 1 rfl) (by decide) rfl rfl d12_52 rfl g_q (O_q.fld 3 rfl) O_q.1 (fun h5 W5 => ?_)
    have O_q : Obj Z h5 q "tallygate/RequestQueue" [("slots", "[Ltallygate/RequestQueue$Entry;", .ref sa), ("least", "[J", .ref la), ("size", "I", .int (sz - (1 : Int32))), ("end", "I", .int (0 : Int32))] := O_q.put 3 rfl W5 rfl
    have O_sa := O_sa.other W5 (Ne.symm ne_q_sa)
    have O_ee := O_ee.other W5 ne_ee_q
    have O_la := O_la.other W5 (Ne.symm ne_q_la)
    have hz : n0 ≤ h5.size := by rw [W5.size]; exact hz
    have hk := hk.wr W5 (Or.inl (by simp))
    refine w_ret0 C rfl d12_55 (by decide) (by decide) ?_
    exact ⟨rfl, (by rw [show endF sz en = (0 : Int32) from if_pos q47]; exact O_q), O_sa, O_la, O_ee, hk⟩
theorem uNull : (Value.null).isRef = true := rfl
theorem d7_0 : decode prog_14_method_4_code 0 = .ok (.aload_n 0, 1) := by decide +kernel
theorem d7_1 : decode prog_14_method_4_code 1 = .ok (.getfield 42, 3) := by decide +kernel
theorem d7_4 : decode prog_14_method_4_code 4 = .ok (.ifCond .ne 7, 3) := by decide +kernel
theorem d7_7 : decode prog_14_method_4_code 7 = .ok (.iconst 1, 1) := by decide +kernel
theorem d7_8 : decode prog_14_method_4_code 8 = .ok (.goto 4, 3) := by decide +kernel
theorem d7_11 : decode prog_14_method_4_code 11 = .ok (.iconst 0, 1) := by decide +kernel
theorem d7_12 : decode prog_14_method_4_code 12 = .ok (.ireturn, 1) := by decide +kernel
def isEmpty (en : Int32) (sz : Int32) : Int32 := (if sz = 0 then (1 : Int32) else (0 : Int32))
def rm_isEmpty : Room := { frames := 0, cells := 0, slots := 0, locals := 0 }
def Q_isEmpty (en : Int32) (sz : Int32) (h0 : Heap) (v : Option Value) (h : Heap) : Prop := v = some (.int (isEmpty en sz)) ∧ h = h0
theorem pf_isEmpty : plainFor (⟨"tallygate/RequestQueue", "isEmpty", "()Z"⟩ : MethodName) = true := plainFor_of_name (by first | (simp [plainName, overriddenIn]; done) | decide +kernel)
set_option maxRecDepth 65536 in
set_option maxHeartbeats 40000000 in
theorem ct_isEmpty {l : Launch} {Z : State} {a0 : Array Value} (hw : ∀ d ∈ tables_1, d.before a0 Z = true) (h0 : Heap) (n0 : Nat) (q : Addr) (sa : Addr) (la : Addr) (en : Int32) (sz : Int32) (O_q : Obj Z h0 q "tallygate/RequestQueue" [("slots", "[Ltallygate/RequestQueue$Entry;", .ref sa), ("least", "[J", .ref la), ("size", "I", .int sz), ("end", "I", .int en)]) :
    Ct l Z (⟨"tallygate/RequestQueue", "isEmpty", "()Z"⟩ : MethodName) prog_14_method_4_code 1 (Option.some Jvm.ClassFile.FieldType.boolean) [] rm_isEmpty #[.ref q] h0 n0 (Q_isEmpty en sz h0) := by
  refine Ct.of (Ls := #[.val (.ref q)]) pf_isEmpty (fun m => by first | (simp [entryFrame, mkF, argsToLocals, Value.category, maxLocals]; done) | rfl) ?_
  intro p e s m below meth c C
  have hr : isEmpty en sz = (if sz = 0 then (1 : Int32) else (0 : Int32)) := rfl
  refine w_aloadN (pc' := 1) C d7_0 rfl rfl rfl ?_
  refine w_getF (pc' := 4) C (tw hw 44 rfl) d7_1 rfl (O_q.fld 2 rfl) ?_
  refine w_if_ne (pcT := 11) (pcF := 7) C d7_4 (by decide) (by decide) rfl (fun q4 => ?_) (fun q4 => ?_)
  · have hr := hr.trans (if_neg q4)
    refine w_iconst (pc' := 12) (x := (0 : Int32)) C d7_11 rfl rfl ?_
    refine w_retN' (t := .boolean) (z' := (0 : Int32)) C rfl (by simp) d7_12 (by decide) (by decide) narB0 ?_
    exact And.intro (congrArg (fun z => some (Value.int z)) hr.symm) rfl
  · have hr := hr.trans (if_pos q4)
    refine w_iconst (pc' := 8) (x := (1 : Int32)) C d7_7 rfl rfl ?_
    refine w_goto (pc' := 12) C d7_8 (by decide) (by decide) ?_
    refine w_retN' (t := .boolean) (z' := (1 : Int32)) C rfl (by simp) d7_12 (by decide) (by decide) narB1 ?_
    exact And.intro (congrArg (fun z => some (Value.int z)) hr.symm) rfl
def cnt (z : Int32) : Int32 := if z = 0 then 0 else if z = 3 then 2 else 1
def JJ (z sA sB sz : Int32) : Prop := (z = 0 ∨ z = 1 ∨ z = 2 ∨ z = 3) ∧ (((z &&& 1) = 0 ∧ sA = -1) ∨ (¬ (z &&& 1) = 0 ∧ (sA = 0 ∨ sA = 1 ∨ sA = 2))) ∧ (((z &&& 2) = 0 ∧ sB = -1) ∨ (¬ (z &&& 2) = 0 ∧ (sB = 0 ∨ sB = 1 ∨ sB = 2))) ∧ sz = cnt z
theorem JJ.remA {z sA sB sz : Int32} (I : JJ z sA sB sz) (q : ¬ (z &&& 1) = 0) : JJ (z &&& (-2)) (-1) sB (sz - 1) := by
  obtain ⟨h1, h2, h3, rfl⟩ := I
  rcases h1 with rfl | rfl | rfl | rfl
  · exact absurd (by decide) q
  · exact ⟨by decide, by decide, by rcases h3 with h | h; exact Or.inl ⟨by decide, h.2⟩; exact absurd (by decide) h.1, by decide⟩
  · exact absurd (by decide) q
  · exact ⟨by decide, by decide, by rcases h3 with h | h; exact absurd h.1 (by decide); exact Or.inr ⟨by decide, h.2⟩, by decide⟩
theorem JJ.remB {z sA sB sz : Int32} (I : JJ z sA sB sz) (q : ¬ (z &&& 2) = 0) : JJ (z &&& (-3)) sA (-1) (sz - 1) := by
  obtain ⟨h1, h2, h3, rfl⟩ := I
  rcases h1 with rfl | rfl | rfl | rfl
  · exact absurd (by decide) q
  · exact absurd (by decide) q
  · exact ⟨by decide, by rcases h2 with h | h; exact Or.inl ⟨by decide, h.2⟩; exact absurd (by decide) h.1, by decide, by decide⟩
  · exact ⟨by decide, by rcases h2 with h | h; exact absurd h.1 (by decide); exact Or.inr ⟨by decide, h.2⟩, by decide, by decide⟩
theorem JJ.addA {z sA sB sz k : Int32} (I : JJ z sA sB sz) (q : (z &&& 1) = 0) (hk : k = 0 ∨ k = 1 ∨ k = 2) : JJ (z ||| 1) k sB (sz + 1) := by
  obtain ⟨h1, h2, h3, rfl⟩ := I
  rcases h1 with rfl | rfl | rfl | rfl
  · exact ⟨by decide, Or.inr ⟨by decide, hk⟩, by rcases h3 with h | h; exact Or.inl ⟨by decide, h.2⟩; exact absurd (by decide) h.1, by decide⟩
  · exact absurd q (by decide)
  · exact ⟨by decide, Or.inr ⟨by decide, hk⟩, by rcases h3 with h | h; exact absurd h.1 (by decide); exact Or.inr ⟨by decide, h.2⟩, by decide⟩
  · exact absurd q (by decide)
theorem JJ.addB {z sA sB sz k : Int32} (I : JJ z sA sB sz) (q : (z &&& 2) = 0) (hk : k = 0 ∨ k = 1 ∨ k = 2) : JJ (z ||| 2) sA k (sz + 1) := by
  obtain ⟨h1, h2, h3, rfl⟩ := I
  rcases h1 with rfl | rfl | rfl | rfl
  · exact ⟨by decide, by rcases h2 with h | h; exact Or.inl ⟨by decide, h.2⟩; exact absurd (by decide) h.1, Or.inr ⟨by decide, hk⟩, by decide⟩
  · exact ⟨by decide, by rcases h2 with h | h; exact absurd h.1 (by decide); exact Or.inr ⟨by decide, h.2⟩, Or.inr ⟨by decide, hk⟩, by decide⟩
  · exact absurd q (by decide)
  · exact absurd q (by decide)
theorem isE1 {z sA sB sz : Int32} (en : Int32) (I : JJ z sA sB sz) (q : z = 0) : isEmpty en sz = 1 := by
  obtain ⟨-, -, -, rfl⟩ := I
  subst q; rfl
theorem isE0 {z sA sB sz : Int32} (en : Int32) (I : JJ z sA sB sz) (q : ¬ z = 0) : isEmpty en sz = 0 := by
  obtain ⟨h1, -, -, rfl⟩ := I
  rcases h1 with rfl | rfl | rfl | rfl
  · exact absurd rfl q
  · rfl
  · rfl
  · rfl
def EB (en : Int32) (k : Int) : Prop := 0 ≤ en.toInt ∧ en.toInt ≤ k
theorem EB.lits {en : Int32} {k : Int} (h : EB en k) (hk : k ≤ 2) : en = 0 ∨ en = 1 ∨ en = 2 := by
  obtain ⟨h1, h2⟩ := h
  obtain ⟨i, rfl⟩ := small_int (n := 3) (x := en) h1 (by omega)
  clear h1 h2
  revert i; decide
theorem EB.up {en : Int32} {k : Int} (h : EB en k) : EB en (k + 1) := ⟨h.1, by have := h.2; omega⟩
theorem EB.end_ {en sz : Int32} {k : Int} (h : EB en k) (hk : 0 ≤ k) : EB (endF sz en) (k + 1) := by
  unfold endF; split
  · exact ⟨by decide, by have e : (0 : Int32).toInt = 0 := by decide
                         rw [e]; omega⟩
  · exact h.up
theorem d8_0 : decode method_2_code 0 = .ok (.iload 4, 2) := by decide +kernel
theorem d8_2 : decode method_2_code 2 = .ok (.iconst 1, 1) := by decide +kernel
theorem d8_3 : decode method_2_code 3 = .ok (.iand, 1) := by decide +kernel
theorem d8_4 : decode method_2_code 4 = .ok (.ifCond .eq 7, 3) := by decide +kernel
theorem d8_7 : decode method_2_code 7 = .ok (.iconst 1, 1) := by decide +kernel
theorem d8_8 : decode method_2_code 8 = .ok (.goto 4, 3) := by decide +kernel
theorem d8_11 : decode method_2_code 11 = .ok (.iconst 0, 1) := by decide +kernel
theorem d8_12 : decode method_2_code 12 = .ok (.istore 5, 2) := by decide +kernel
theorem d8_14 : decode method_2_code 14 = .ok (.iload 4, 2) := by decide +kernel
theorem d8_16 : decode method_2_code 16 = .ok (.iconst 2, 1) := by decide +kernel
theorem d8_17 : decode method_2_code 17 = .ok (.iand, 1) := by decide +kernel
theorem d8_18 : decode method_2_code 18 = .ok (.ifCond .eq 7, 3) := by decide +kernel
theorem d8_21 : decode method_2_code 21 = .ok (.iconst 1, 1) := by decide +kernel
theorem d8_22 : decode method_2_code 22 = .ok (.goto 4, 3) := by decide +kernel
theorem d8_25 : decode method_2_code 25 = .ok (.iconst 0, 1) := by decide +kernel
theorem d8_26 : decode method_2_code 26 = .ok (.istore 6, 2) := by decide +kernel
theorem d8_28 : decode method_2_code 28 = .ok (.iload 5, 2) := by decide +kernel
theorem d8_30 : decode method_2_code 30 = .ok (.ifCond .eq 7, 3) := by decide +kernel
theorem d8_33 : decode method_2_code 33 = .ok (.aload_n 2, 1) := by decide +kernel
theorem d8_34 : decode method_2_code 34 = .ok (.goto 4, 3) := by decide +kernel
theorem d8_37 : decode method_2_code 37 = .ok (.aload_n 1, 1) := by decide +kernel
theorem d8_38 : decode method_2_code 38 = .ok (.astore 7, 2) := by decide +kernel
theorem d8_40 : decode method_2_code 40 = .ok (.iload 5, 2) := by decide +kernel
theorem d8_42 : decode method_2_code 42 = .ok (.ifCond .eq 7, 3) := by decide +kernel
theorem d8_45 : decode method_2_code 45 = .ok (.iconst 2, 1) := by decide +kernel
theorem d8_46 : decode method_2_code 46 = .ok (.goto 4, 3) := by decide +kernel
theorem d8_49 : decode method_2_code 49 = .ok (.iconst 1, 1) := by decide +kernel
theorem d8_50 : decode method_2_code 50 = .ok (.istore 8, 2) := by decide +kernel
theorem d8_52 : decode method_2_code 52 = .ok (.iload_n 3, 1) := by decide +kernel
theorem d8_53 : decode method_2_code 53 = .ok (.iload 8, 2) := by decide +kernel
theorem d8_55 : decode method_2_code 55 = .ok (.iand, 1) := by decide +kernel
theorem d8_56 : decode method_2_code 56 = .ok (.ifCond .eq 16, 3) := by decide +kernel
theorem d8_59 : decode method_2_code 59 = .ok (.aload_n 0, 1) := by decide +kernel
theorem d8_60 : decode method_2_code 60 = .ok (.aload 7, 2) := by decide +kernel
theorem d8_62 : decode method_2_code 62 = .ok (.invokevirtual 7, 3) := by decide +kernel
theorem d8_65 : decode method_2_code 65 = .ok (.iload_n 3, 1) := by decide +kernel
theorem d8_66 : decode method_2_code 66 = .ok (.iload 8, 2) := by decide +kernel
theorem d8_68 : decode method_2_code 68 = .ok (.iconst (-1), 1) := by decide +kernel
theorem d8_69 : decode method_2_code 69 = .ok (.ixor, 1) := by decide +kernel
theorem d8_70 : decode method_2_code 70 = .ok (.iand, 1) := by decide +kernel
theorem d8_71 : decode method_2_code 71 = .ok (.ireturn, 1) := by decide +kernel
theorem d8_72 : decode method_2_code 72 = .ok (.iload 6, 2) := by decide +kernel
theorem d8_74 : decode method_2_code 74 = .ok (.ifCond .eq 11, 3) := by decide +kernel
theorem d8_77 : decode method_2_code 77 = .ok (.aload_n 0, 1) := by decide +kernel
theorem d8_78 : decode method_2_code 78 = .ok (.aload 7, 2) := by decide +kernel
theorem d8_80 : decode method_2_code 80 = .ok (.invokevirtual 7, 3) := by decide +kernel
theorem d8_83 : decode method_2_code 83 = .ok (.iload_n 3, 1) := by decide +kernel
theorem d8_84 : decode method_2_code 84 = .ok (.ireturn, 1) := by decide +kernel
theorem d8_85 : decode method_2_code 85 = .ok (.aload_n 0, 1) := by decide +kernel
theorem d8_86 : decode method_2_code 86 = .ok (.aload 7, 2) := by decide +kernel
theorem d8_88 : decode method_2_code 88 = .ok (.invokevirtual 13, 3) := by decide +kernel
theorem d8_91 : decode method_2_code 91 = .ok (.iload_n 3, 1) := by decide +kernel
theorem d8_92 : decode method_2_code 92 = .ok (.iload 8, 2) := by decide +kernel
theorem d8_94 : decode method_2_code 94 = .ok (.ior, 1) := by decide +kernel
theorem d8_95 : decode method_2_code 95 = .ok (.ireturn, 1) := by decide +kernel
def rm_step : Room := { frames := 3, cells := 0, slots := 0, locals := 48 }
theorem pf_step : plainFor (⟨"tallygate/RequestQueueIsEmptyPinLaw", "step", "(Ltallygate/RequestQueue;Ltallygate/RequestQueue$Entry;Ltallygate/RequestQueue$Entry;II)I"⟩ : MethodName) = true := plainFor_of_name (by first | (simp [plainName, overriddenIn]; done) | decide +kernel)
set_option maxRecDepth 65536 in
set_option maxHeartbeats 40000000 in
theorem ct_step {l : Launch} {Z : State} {a0 : Array Value} (hw : ∀ d ∈ tables_1, d.before a0 Z = true) (h0 : Heap) (n0 : Nat) (q : Addr) (aa : Addr) (bb : Addr) (z : Int32) (cd : Int32) (k : Int) (sa : Addr) (la : Addr) (sA : Int32) (sB : Int32) (en : Int32) (sz : Int32) (pA : Int32) (pB : Int32) (s0 : Value) (s1 : Value) (s2 : Value) (ta : Int64) (tb : Int64) (tc : Int64) (hz : n0 ≤ h0.size) (I : JJ z sA sB sz) (he : EB en k) (hk0 : 0 ≤ k) (hk2 : k ≤ 2) (O_q : Obj Z h0 q "tallygate/RequestQueue" [("slots", "[Ltallygate/RequestQueue$Entry;", .ref sa), ("least", "[J", .ref la), ("size", "I", .int sz), ("end", "I", .int en)]) (O_sa : ArR Z h0 sa "tallygate/RequestQueue$Entry" (sl3 s0 s1 s2)) (O_la : Ar Z h0 la .long (tr3 ta tb tc)) (O_aa : Obj Z h0 aa "tallygate/RequestQueue$Entry" [("slot", "I", .int sA), ("permits", "I", .int pA)]) (O_bb : Obj Z h0 bb "tallygate/RequestQueue$Entry" [("slot", "I", .int sB), ("permits", "I", .int pB)]) (g_q : n0 ≤ q) (g_sa : n0 ≤ sa) (g_la : n0 ≤ la) (g_aa : n0 ≤ aa) (g_bb : n0 ≤ bb) (ne_q_sa : q ≠ sa) (ne_q_la : q ≠ la) (ne_sa_la : sa ≠ la) (ne_aa_q : aa ≠ q) (ne_aa_sa : aa ≠ sa) (ne_aa_la : aa ≠ la) (ne_bb_q : bb ≠ q) (ne_bb_sa : bb ≠ sa) (ne_bb_la : bb ≠ la) (ne_aa_bb : aa ≠ bb) :
    Ct l Z (⟨"tallygate/RequestQueueIsEmptyPinLaw", "step", "(Ltallygate/RequestQueue;Ltallygate/RequestQueue$Entry;Ltallygate/RequestQueue$Entry;II)I"⟩ : MethodName) method_2_code 9 (Option.some Jvm.ClassFile.FieldType.int) [] rm_step #[.ref q, .ref aa, .ref bb, .int z, .int cd] h0 n0 (fun v h => ∃ z', v = some (.int z') ∧ ∃ sA' sB' en' sz' s0' s1' s2' ta' tb' tc', JJ z' sA' sB' sz' ∧ EB en' (k + 1) ∧ Obj Z h q "tallygate/RequestQueue" [("slots", "[Ltallygate/RequestQueue$Entry;", .ref sa), ("least", "[J", .ref la), ("size", "I", .int sz'), ("end", "I", .int en')] ∧ ArR Z h sa "tallygate/RequestQueue$Entry" (sl3 s0' s1' s2') ∧ Ar Z h la .long (tr3 ta' tb' tc') ∧ Obj Z h aa "tallygate/RequestQueue$Entry" [("slot", "I", .int sA'), ("permits", "I", .int pA)] ∧ Obj Z h bb "tallygate/RequestQueue$Entry" [("slot", "I", .int sB'), ("permits", "I", .int pB)] ∧ Keep h0 h [q, sa, la, aa, bb]) := by
  refine Ct.of (Ls := #[.val (.ref q), .val (.ref aa), .val (.ref bb), .val (.int z), .val (.int cd), .unset, .unset, .unset, .unset]) pf_step (fun m => by first | (simp [entryFrame, mkF, argsToLocals, Value.category, maxLocals]; done) | rfl) ?_
  intro p e s m below meth c C
  have hA := I.2.1
  have hB := I.2.2.1
  have hk : Keep h0 h0 [q, sa, la, aa, bb] := Keep.refl _ _
  refine w_iload (pc' := 2) C d8_0 rfl rfl ?_
  refine w_iconst (pc' := 3) (x := (1 : Int32)) C d8_2 rfl rfl ?_
  refine w_iand (pc' := 4) C d8_3 rfl ?_
  refine w_if_eq (pcT := 11) (pcF := 7) C d8_4 (by decide) (by decide) rfl (fun q4 => ?_) (fun q4 => ?_)
  · skip
    refine w_iconst (pc' := 12) (x := (0 : Int32)) C d8_11 rfl rfl ?_
    refine w_istore (pc' := 14) (Ls' := #[.val (.ref q), .val (.ref aa), .val (.ref bb), .val (.int z), .val (.int cd), .val (.int (0 : Int32)), .unset, .unset, .unset]) C d8_12 rfl rfl ?_
    refine w_iload (pc' := 16) C d8_14 rfl rfl ?_
    refine w_iconst (pc' := 17) (x := (2 : Int32)) C d8_16 rfl rfl ?_
    refine w_iand (pc' := 18) C d8_17 rfl ?_
    refine w_if_eq (pcT := 25) (pcF := 21) C d8_18 (by decide) (by decide) rfl (fun q18 => ?_) (fun q18 => ?_)
    · skip
      refine w_iconst (pc' := 26) (x := (0 : Int32)) C d8_25 rfl rfl ?_
      refine w_istore (pc' := 28) (Ls' := #[.val (.ref q), .val (.ref aa), .val (.ref bb), .val (.int z), .val (.int cd), .val (.int (0 : Int32)), .val (.int (0 : Int32)), .unset, .unset]) C d8_26 rfl rfl ?_
      refine w_iload (pc' := 30) C d8_28 rfl rfl ?_
      refine w_if_eq (pcT := 37) (pcF := 33) C d8_30 (by decide) (by decide) rfl (fun q30 => ?_) (fun q => absurd q (by decide))
      refine w_aloadN (pc' := 38) C d8_37 rfl rfl rfl ?_
      refine w_astore (pc' := 40) (Ls' := #[.val (.ref q), .val (.ref aa), .val (.ref bb), .val (.int z), .val (.int cd), .val (.int (0 : Int32)), .val (.int (0 : Int32)), .val (.ref aa), .unset]) C d8_38 rfl rfl rfl ?_
      refine w_iload (pc' := 42) C d8_40 rfl rfl ?_
      refine w_if_eq (pcT := 49) (pcF := 45) C d8_42 (by decide) (by decide) rfl (fun q42 => ?_) (fun q => absurd q (by decide))
      refine w_iconst (pc' := 50) (x := (1 : Int32)) C d8_49 rfl rfl ?_
      refine w_istore (pc' := 52) (Ls' := #[.val (.ref q), .val (.ref aa), .val (.ref bb), .val (.int z), .val (.int cd), .val (.int (0 : Int32)), .val (.int (0 : Int32)), .val (.ref aa), .val (.int (1 : Int32))]) C d8_50 rfl rfl ?_
      refine w_iloadN (pc' := 53) C d8_52 rfl rfl ?_
      refine w_iload (pc' := 55) C d8_53 rfl rfl ?_
      refine w_iand (pc' := 56) C d8_55 rfl ?_
      refine w_if_eq (pcT := 72) (pcF := 59) C d8_56 (by decide) (by decide) rfl (fun q56 => ?_) (fun q56 => ?_)
      · skip
        refine w_iload (pc' := 74) C d8_72 rfl rfl ?_
        refine w_if_eq (pcT := 85) (pcF := 77) C d8_74 (by decide) (by decide) rfl (fun q74 => ?_) (fun q => absurd q (by decide))
        refine w_aloadN (pc' := 86) C d8_85 rfl rfl rfl ?_
        refine w_aload (pc' := 88) C d8_86 rfl rfl rfl ?_
        have c_en := he.lits hk2
        rcases c_en with rfl | rfl | rfl
        · skip
          refine w_callV (Cl := "tallygate/RequestQueue") (pc' := 91) (argsL := [.ref aa]) (st := []) (W := 0) (ce' := 0) (sl' := 0) C (tw hw 50 rfl) (tw hw 51 rfl) (tw hw 53 rfl) (tw hw 52 rfl) (tw hw 2 rfl) (tw hw 54 rfl) (by decide) d8_88 rfl rfl (by decide) (by decide) (Nat.le_of_eq rfl) rfl rfl (by decide) (by decide) rfl (lenOf pd_4 rfl) O_q.1 (ct_add0 hw h0 n0 q aa sa la sz pA sA s0 s1 s2 ta tb tc hz O_q O_sa O_la O_aa g_q g_sa g_la g_aa ne_q_sa ne_q_la ne_sa_la ne_aa_q ne_aa_sa ne_aa_la) (k0 (fun h1 q1 => ?_))
          obtain ⟨P_q, P_sa, P_la, P_aa, K1⟩ := q1
          have O_bb := O_bb.keep K1 (ninS ne_bb_q (ninS ne_bb_sa (ninS ne_bb_la (ninS (Ne.symm ne_aa_bb) nin0))))
          have hz : n0 ≤ h1.size := Nat.le_trans hz K1.1
          have hk := Keep.app hk K1 (fun x hx => Or.inl hx) (allS (Or.inl (by simp)) (allS (Or.inl (by simp)) (allS (Or.inl (by simp)) (allS (Or.inl (by simp)) all0))))
          have O_q := P_q
          have O_sa := P_sa
          have O_la := P_la
          have O_aa := P_aa
          refine w_iloadN (pc' := 92) C d8_91 rfl rfl ?_
          refine w_iload (pc' := 94) C d8_92 rfl rfl ?_
          refine w_ior (pc' := 95) C d8_94 rfl ?_
          refine w_retI C rfl d8_95 (by decide) (by decide) ?_
          have hE : EB (1 : Int32) (k + 1) := by
            have h1 := he.2
            have e1 : (0 : Int32).toInt = 0 := by decide
            exact ⟨by decide, by have e2 : (1 : Int32).toInt = 1 := by decide
                                 rw [e2]; omega⟩
          exact ⟨_, rfl, (0 : Int32), sB, (1 : Int32), (sz + (1 : Int32)), (.ref aa), s1, s2, (pA.toInt64), tb, tc, (I.addA q56 (by decide)), hE, O_q, O_sa, O_la, O_aa, O_bb, hk⟩
        · skip
          refine w_callV (Cl := "tallygate/RequestQueue") (pc' := 91) (argsL := [.ref aa]) (st := []) (W := 0) (ce' := 0) (sl' := 0) C (tw hw 50 rfl) (tw hw 51 rfl) (tw hw 53 rfl) (tw hw 52 rfl) (tw hw 2 rfl) (tw hw 54 rfl) (by decide) d8_88 rfl rfl (by decide) (by decide) (Nat.le_of_eq rfl) rfl rfl (by decide) (by decide) rfl (lenOf pd_4 rfl) O_q.1 (ct_add1 hw h0 n0 q aa sa la sz pA sA s0 s1 s2 ta tb tc hz O_q O_sa O_la O_aa g_q g_sa g_la g_aa ne_q_sa ne_q_la ne_sa_la ne_aa_q ne_aa_sa ne_aa_la) (k0 (fun h2 q2 => ?_))
          obtain ⟨P_q, P_sa, P_la, P_aa, K2⟩ := q2
          have O_bb := O_bb.keep K2 (ninS ne_bb_q (ninS ne_bb_sa (ninS ne_bb_la (ninS (Ne.symm ne_aa_bb) nin0))))
          have hz : n0 ≤ h2.size := Nat.le_trans hz K2.1
          have hk := Keep.app hk K2 (fun x hx => Or.inl hx) (allS (Or.inl (by simp)) (allS (Or.inl (by simp)) (allS (Or.inl (by simp)) (allS (Or.inl (by simp)) all0))))
          have O_q := P_q
          have O_sa := P_sa
          have O_la := P_la
          have O_aa := P_aa
          refine w_iloadN (pc' := 92) C d8_91 rfl rfl ?_
          refine w_iload (pc' := 94) C d8_92 rfl rfl ?_
          refine w_ior (pc' := 95) C d8_94 rfl ?_
          refine w_retI C rfl d8_95 (by decide) (by decide) ?_
          have hE : EB (2 : Int32) (k + 1) := by
            have h1 := he.2
            have e1 : (1 : Int32).toInt = 1 := by decide
            exact ⟨by decide, by have e2 : (2 : Int32).toInt = 2 := by decide
                                 rw [e2]; omega⟩
          exact ⟨_, rfl, (1 : Int32), sB, (2 : Int32), (sz + (1 : Int32)), s0, (.ref aa), s2, ta, (pA.toInt64), tc, (I.addA q56 (by decide)), hE, O_q, O_sa, O_la, O_aa, O_bb, hk⟩
        · skip
          refine w_callV (Cl := "tallygate/RequestQueue") (pc' := 91) (argsL := [.ref aa]) (st := []) (W := 0) (ce' := 0) (sl' := 0) C (tw hw 50 rfl) (tw hw 51 rfl) (tw hw 53 rfl) (tw hw 52 rfl) (tw hw 2 rfl) (tw hw 54 rfl) (by decide) d8_88 rfl rfl (by decide) (by decide) (Nat.le_of_eq rfl) rfl rfl (by decide) (by decide) rfl (lenOf pd_4 rfl) O_q.1 (ct_add2 hw h0 n0 q aa sa la sz pA sA s0 s1 s2 ta tb tc hz O_q O_sa O_la O_aa g_q g_sa g_la g_aa ne_q_sa ne_q_la ne_sa_la ne_aa_q ne_aa_sa ne_aa_la) (k0 (fun h3 q3 => ?_))
          obtain ⟨P_q, P_sa, P_la, P_aa, K3⟩ := q3
          have O_bb := O_bb.keep K3 (ninS ne_bb_q (ninS ne_bb_sa (ninS ne_bb_la (ninS (Ne.symm ne_aa_bb) nin0))))
          have hz : n0 ≤ h3.size := Nat.le_trans hz K3.1
          have hk := Keep.app hk K3 (fun x hx => Or.inl hx) (allS (Or.inl (by simp)) (allS (Or.inl (by simp)) (allS (Or.inl (by simp)) (allS (Or.inl (by simp)) all0))))
          have O_q := P_q
          have O_sa := P_sa
          have O_la := P_la
          have O_aa := P_aa
          refine w_iloadN (pc' := 92) C d8_91 rfl rfl ?_
          refine w_iload (pc' := 94) C d8_92 rfl rfl ?_
          refine w_ior (pc' := 95) C d8_94 rfl ?_
          refine w_retI C rfl d8_95 (by decide) (by decide) ?_
          have hE : EB (3 : Int32) (k + 1) := by
            have h1 := he.2
            have e1 : (2 : Int32).toInt = 2 := by decide
            exact ⟨by decide, by have e2 : (3 : Int32).toInt = 3 := by decide
                                 rw [e2]; omega⟩
          exact ⟨_, rfl, (2 : Int32), sB, (3 : Int32), (sz + (1 : Int32)), s0, s1, (.ref aa), ta, tb, (pA.toInt64), (I.addA q56 (by decide)), hE, O_q, O_sa, O_la, O_aa, O_bb, hk⟩
      · skip
        refine w_aloadN (pc' := 60) C d8_59 rfl rfl rfl ?_
        refine w_aload (pc' := 62) C d8_60 rfl rfl rfl ?_
        have c_sA := (hA.resolve_left (fun u => q56 u.1)).2
        rcases c_sA with rfl | rfl | rfl
        · skip
          refine w_callV (Cl := "tallygate/RequestQueue") (pc' := 65) (argsL := [.ref aa]) (st := []) (W := 0) (ce' := 0) (sl' := 0) C (tw hw 67 rfl) (tw hw 68 rfl) (tw hw 70 rfl) (tw hw 69 rfl) (tw hw 2 rfl) (tw hw 71 rfl) (by decide) d8_62 rfl rfl (by decide) (by decide) (Nat.le_of_eq rfl) rfl rfl (by decide) (by decide) rfl (lenOf pd_4 rfl) O_q.1 (ct_rem0 hw h0 n0 q aa sa la en sz pA s0 s1 s2 ta tb tc hz O_q O_sa O_la O_aa g_q g_sa g_la g_aa ne_q_sa ne_q_la ne_sa_la ne_aa_q ne_aa_sa ne_aa_la) (k0 (fun h4 q4 => ?_))
          obtain ⟨P_q, P_sa, P_la, P_aa, K4⟩ := q4
          have O_bb := O_bb.keep K4 (ninS ne_bb_q (ninS ne_bb_sa (ninS ne_bb_la (ninS (Ne.symm ne_aa_bb) nin0))))
          have hz : n0 ≤ h4.size := Nat.le_trans hz K4.1
          have hk := Keep.app hk K4 (fun x hx => Or.inl hx) (allS (Or.inl (by simp)) (allS (Or.inl (by simp)) (allS (Or.inl (by simp)) (allS (Or.inl (by simp)) all0))))
          have O_q := P_q
          have O_sa := P_sa
          have O_la := P_la
          have O_aa := P_aa
          refine w_iloadN (pc' := 66) C d8_65 rfl rfl ?_
          refine w_iload (pc' := 68) C d8_66 rfl rfl ?_
          refine w_iconst (pc' := 69) (x := (-1 : Int32)) C d8_68 rfl rfl ?_
          refine w_ixor (pc' := 70) C d8_69 rfl ?_
          refine w_eqI (z := (-2 : Int32)) (by decide) ?_
          refine w_iand (pc' := 71) C d8_70 rfl ?_
          refine w_retI C rfl d8_71 (by decide) (by decide) ?_
          exact ⟨_, rfl, (-1 : Int32), sB, (endF sz en), (sz - (1 : Int32)), .null, s1, s2, EMP, tb, tc, (I.remA q56), (he.end_ hk0), O_q, O_sa, O_la, O_aa, O_bb, hk⟩
        · skip
          refine w_callV (Cl := "tallygate/RequestQueue") (pc' := 65) (argsL := [.ref aa]) (st := []) (W := 0) (ce' := 0) (sl' := 0) C (tw hw 67 rfl) (tw hw 68 rfl) (tw hw 70 rfl) (tw hw 69 rfl) (tw hw 2 rfl) (tw hw 71 rfl) (by decide) d8_62 rfl rfl (by decide) (by decide) (Nat.le_of_eq rfl) rfl rfl (by decide) (by decide) rfl (lenOf pd_4 rfl) O_q.1 (ct_rem1 hw h0 n0 q aa sa la en sz pA s0 s1 s2 ta tb tc hz O_q O_sa O_la O_aa g_q g_sa g_la g_aa ne_q_sa ne_q_la ne_sa_la ne_aa_q ne_aa_sa ne_aa_la) (k0 (fun h5 q5 => ?_))
          obtain ⟨P_q, P_sa, P_la, P_aa, K5⟩ := q5
          have O_bb := O_bb.keep K5 (ninS ne_bb_q (ninS ne_bb_sa (ninS ne_bb_la (ninS (Ne.symm ne_aa_bb) nin0))))
          have hz : n0 ≤ h5.size := Nat.le_trans hz K5.1
          have hk := Keep.app hk K5 (fun x hx => Or.inl hx) (allS (Or.inl (by simp)) (allS (Or.inl (by simp)) (allS (Or.inl (by simp)) (allS (Or.inl (by simp)) all0))))
          have O_q := P_q
          have O_sa := P_sa
          have O_la := P_la
          have O_aa := P_aa
          refine w_iloadN (pc' := 66) C d8_65 rfl rfl ?_
          refine w_iload (pc' := 68) C d8_66 rfl rfl ?_
          refine w_iconst (pc' := 69) (x := (-1 : Int32)) C d8_68 rfl rfl ?_
          refine w_ixor (pc' := 70) C d8_69 rfl ?_
          refine w_eqI (z := (-2 : Int32)) (by decide) ?_
          refine w_iand (pc' := 71) C d8_70 rfl ?_
          refine w_retI C rfl d8_71 (by decide) (by decide) ?_
          exact ⟨_, rfl, (-1 : Int32), sB, (endF sz en), (sz - (1 : Int32)), s0, .null, s2, ta, EMP, tc, (I.remA q56), (he.end_ hk0), O_q, O_sa, O_la, O_aa, O_bb, hk⟩
        · skip
          refine w_callV (Cl := "tallygate/RequestQueue") (pc' := 65) (argsL := [.ref aa]) (st := []) (W := 0) (ce' := 0) (sl' := 0) C (tw hw 67 rfl) (tw hw 68 rfl) (tw hw 70 rfl) (tw hw 69 rfl) (tw hw 2 rfl) (tw hw 71 rfl) (by decide) d8_62 rfl rfl (by decide) (by decide) (Nat.le_of_eq rfl) rfl rfl (by decide) (by decide) rfl (lenOf pd_4 rfl) O_q.1 (ct_rem2 hw h0 n0 q aa sa la en sz pA s0 s1 s2 ta tb tc hz O_q O_sa O_la O_aa g_q g_sa g_la g_aa ne_q_sa ne_q_la ne_sa_la ne_aa_q ne_aa_sa ne_aa_la) (k0 (fun h6 q6 => ?_))
          obtain ⟨P_q, P_sa, P_la, P_aa, K6⟩ := q6
          have O_bb := O_bb.keep K6 (ninS ne_bb_q (ninS ne_bb_sa (ninS ne_bb_la (ninS (Ne.symm ne_aa_bb) nin0))))
          have hz : n0 ≤ h6.size := Nat.le_trans hz K6.1
          have hk := Keep.app hk K6 (fun x hx => Or.inl hx) (allS (Or.inl (by simp)) (allS (Or.inl (by simp)) (allS (Or.inl (by simp)) (allS (Or.inl (by simp)) all0))))
          have O_q := P_q
          have O_sa := P_sa
          have O_la := P_la
          have O_aa := P_aa
          refine w_iloadN (pc' := 66) C d8_65 rfl rfl ?_
          refine w_iload (pc' := 68) C d8_66 rfl rfl ?_
          refine w_iconst (pc' := 69) (x := (-1 : Int32)) C d8_68 rfl rfl ?_
          refine w_ixor (pc' := 70) C d8_69 rfl ?_
          refine w_eqI (z := (-2 : Int32)) (by decide) ?_
          refine w_iand (pc' := 71) C d8_70 rfl ?_
          refine w_retI C rfl d8_71 (by decide) (by decide) ?_
          exact ⟨_, rfl, (-1 : Int32), sB, (endF sz en), (sz - (1 : Int32)), s0, s1, .null, ta, tb, EMP, (I.remA q56), (he.end_ hk0), O_q, O_sa, O_la, O_aa, O_bb, hk⟩
    · skip
      refine w_iconst (pc' := 22) (x := (1 : Int32)) C d8_21 rfl rfl ?_
      refine w_goto (pc' := 26) C d8_22 (by decide) (by decide) ?_
      refine w_istore (pc' := 28) (Ls' := #[.val (.ref q), .val (.ref aa), .val (.ref bb), .val (.int z), .val (.int cd), .val (.int (0 : Int32)), .val (.int (1 : Int32)), .unset, .unset]) C d8_26 rfl rfl ?_
      refine w_iload (pc' := 30) C d8_28 rfl rfl ?_
      refine w_if_eq (pcT := 37) (pcF := 33) C d8_30 (by decide) (by decide) rfl (fun q30 => ?_) (fun q => absurd q (by decide))
      refine w_aloadN (pc' := 38) C d8_37 rfl rfl rfl ?_
      refine w_astore (pc' := 40) (Ls' := #[.val (.ref q), .val (.ref aa), .val (.ref bb), .val (.int z), .val (.int cd), .val (.int (0 : Int32)), .val (.int (1 : Int32)), .val (.ref aa), .unset]) C d8_38 rfl rfl rfl ?_
      refine w_iload (pc' := 42) C d8_40 rfl rfl ?_
      refine w_if_eq (pcT := 49) (pcF := 45) C d8_42 (by decide) (by decide) rfl (fun q42 => ?_) (fun q => absurd q (by decide))
      refine w_iconst (pc' := 50) (x := (1 : Int32)) C d8_49 rfl rfl ?_
      refine w_istore (pc' := 52) (Ls' := #[.val (.ref q), .val (.ref aa), .val (.ref bb), .val (.int z), .val (.int cd), .val (.int (0 : Int32)), .val (.int (1 : Int32)), .val (.ref aa), .val (.int (1 : Int32))]) C d8_50 rfl rfl ?_
      refine w_iloadN (pc' := 53) C d8_52 rfl rfl ?_
      refine w_iload (pc' := 55) C d8_53 rfl rfl ?_
      refine w_iand (pc' := 56) C d8_55 rfl ?_
      refine w_if_eq (pcT := 72) (pcF := 59) C d8_56 (by decide) (by decide) rfl (fun q56 => ?_) (fun q56 => ?_)
      · skip
        refine w_iload (pc' := 74) C d8_72 rfl rfl ?_
        refine w_if_eq (pcT := 85) (pcF := 77) C d8_74 (by decide) (by decide) rfl (fun q => absurd q (by decide)) (fun q74 => ?_)
        refine w_aloadN (pc' := 78) C d8_77 rfl rfl rfl ?_
        refine w_aload (pc' := 80) C d8_78 rfl rfl rfl ?_
        have c_sA := (hA.resolve_right (fun u => u.1 q56)).2
        rcases c_sA with rfl
        · skip
          refine w_callV (Cl := "tallygate/RequestQueue") (pc' := 83) (argsL := [.ref aa]) (st := []) (W := 0) (ce' := 0) (sl' := 0) C (tw hw 67 rfl) (tw hw 68 rfl) (tw hw 70 rfl) (tw hw 69 rfl) (tw hw 2 rfl) (tw hw 71 rfl) (by decide) d8_80 rfl rfl (by decide) (by decide) (Nat.le_of_eq rfl) rfl rfl (by decide) (by decide) rfl (lenOf pd_4 rfl) O_q.1 (ct_remN hw h0 n0 q aa sa la en sz pA s0 s1 s2 ta tb tc hz O_q O_sa O_la O_aa g_q g_sa g_la g_aa ne_q_sa ne_q_la ne_sa_la ne_aa_q ne_aa_sa ne_aa_la) (k0 (fun h7 q7 => ?_))
          obtain ⟨P_q, P_sa, P_la, P_aa, K7⟩ := q7
          have O_bb := O_bb.keep K7 (ninS ne_bb_q (ninS ne_bb_sa (ninS ne_bb_la (ninS (Ne.symm ne_aa_bb) nin0))))
          have hz : n0 ≤ h7.size := Nat.le_trans hz K7.1
          have hk := Keep.app hk K7 (fun x hx => Or.inl hx) (allS (Or.inl (by simp)) (allS (Or.inl (by simp)) (allS (Or.inl (by simp)) (allS (Or.inl (by simp)) all0))))
          have O_q := P_q
          have O_sa := P_sa
          have O_la := P_la
          have O_aa := P_aa
          refine w_iloadN (pc' := 84) C d8_83 rfl rfl ?_
          refine w_retI C rfl d8_84 (by decide) (by decide) ?_
          exact ⟨_, rfl, (-1 : Int32), sB, en, sz, s0, s1, s2, ta, tb, tc, I, he.up, O_q, O_sa, O_la, O_aa, O_bb, hk⟩
      · skip
        refine w_aloadN (pc' := 60) C d8_59 rfl rfl rfl ?_
        refine w_aload (pc' := 62) C d8_60 rfl rfl rfl ?_
        have c_sA := (hA.resolve_left (fun u => q56 u.1)).2
        rcases c_sA with rfl | rfl | rfl
        · skip
          refine w_callV (Cl := "tallygate/RequestQueue") (pc' := 65) (argsL := [.ref aa]) (st := []) (W := 0) (ce' := 0) (sl' := 0) C (tw hw 67 rfl) (tw hw 68 rfl) (tw hw 70 rfl) (tw hw 69 rfl) (tw hw 2 rfl) (tw hw 71 rfl) (by decide) d8_62 rfl rfl (by decide) (by decide) (Nat.le_of_eq rfl) rfl rfl (by decide) (by decide) rfl (lenOf pd_4 rfl) O_q.1 (ct_rem0 hw h0 n0 q aa sa la en sz pA s0 s1 s2 ta tb tc hz O_q O_sa O_la O_aa g_q g_sa g_la g_aa ne_q_sa ne_q_la ne_sa_la ne_aa_q ne_aa_sa ne_aa_la) (k0 (fun h8 q8 => ?_))
          obtain ⟨P_q, P_sa, P_la, P_aa, K8⟩ := q8
          have O_bb := O_bb.keep K8 (ninS ne_bb_q (ninS ne_bb_sa (ninS ne_bb_la (ninS (Ne.symm ne_aa_bb) nin0))))
          have hz : n0 ≤ h8.size := Nat.le_trans hz K8.1
          have hk := Keep.app hk K8 (fun x hx => Or.inl hx) (allS (Or.inl (by simp)) (allS (Or.inl (by simp)) (allS (Or.inl (by simp)) (allS (Or.inl (by simp)) all0))))
          have O_q := P_q
          have O_sa := P_sa
          have O_la := P_la
          have O_aa := P_aa
          refine w_iloadN (pc' := 66) C d8_65 rfl rfl ?_
          refine w_iload (pc' := 68) C d8_66 rfl rfl ?_
          refine w_iconst (pc' := 69) (x := (-1 : Int32)) C d8_68 rfl rfl ?_
          refine w_ixor (pc' := 70) C d8_69 rfl ?_
          refine w_eqI (z := (-2 : Int32)) (by decide) ?_
          refine w_iand (pc' := 71) C d8_70 rfl ?_
          refine w_retI C rfl d8_71 (by decide) (by decide) ?_
          exact ⟨_, rfl, (-1 : Int32), sB, (endF sz en), (sz - (1 : Int32)), .null, s1, s2, EMP, tb, tc, (I.remA q56), (he.end_ hk0), O_q, O_sa, O_la, O_aa, O_bb, hk⟩
        · skip
          refine w_callV (Cl := "tallygate/RequestQueue") (pc' := 65) (argsL := [.ref aa]) (st := []) (W := 0) (ce' := 0) (sl' := 0) C (tw hw 67 rfl) (tw hw 68 rfl) (tw hw 70 rfl) (tw hw 69 rfl) (tw hw 2 rfl) (tw hw 71 rfl) (by decide) d8_62 rfl rfl (by decide) (by decide) (Nat.le_of_eq rfl) rfl rfl (by decide) (by decide) rfl (lenOf pd_4 rfl) O_q.1 (ct_rem1 hw h0 n0 q aa sa la en sz pA s0 s1 s2 ta tb tc hz O_q O_sa O_la O_aa g_q g_sa g_la g_aa ne_q_sa ne_q_la ne_sa_la ne_aa_q ne_aa_sa ne_aa_la) (k0 (fun h9 q9 => ?_))
          obtain ⟨P_q, P_sa, P_la, P_aa, K9⟩ := q9
          have O_bb := O_bb.keep K9 (ninS ne_bb_q (ninS ne_bb_sa (ninS ne_bb_la (ninS (Ne.symm ne_aa_bb) nin0))))
          have hz : n0 ≤ h9.size := Nat.le_trans hz K9.1
          have hk := Keep.app hk K9 (fun x hx => Or.inl hx) (allS (Or.inl (by simp)) (allS (Or.inl (by simp)) (allS (Or.inl (by simp)) (allS (Or.inl (by simp)) all0))))
          have O_q := P_q
          have O_sa := P_sa
          have O_la := P_la
          have O_aa := P_aa
          refine w_iloadN (pc' := 66) C d8_65 rfl rfl ?_
          refine w_iload (pc' := 68) C d8_66 rfl rfl ?_
          refine w_iconst (pc' := 69) (x := (-1 : Int32)) C d8_68 rfl rfl ?_
          refine w_ixor (pc' := 70) C d8_69 rfl ?_
          refine w_eqI (z := (-2 : Int32)) (by decide) ?_
          refine w_iand (pc' := 71) C d8_70 rfl ?_
          refine w_retI C rfl d8_71 (by decide) (by decide) ?_
          exact ⟨_, rfl, (-1 : Int32), sB, (endF sz en), (sz - (1 : Int32)), s0, .null, s2, ta, EMP, tc, (I.remA q56), (he.end_ hk0), O_q, O_sa, O_la, O_aa, O_bb, hk⟩
        · skip
          refine w_callV (Cl := "tallygate/RequestQueue") (pc' := 65) (argsL := [.ref aa]) (st := []) (W := 0) (ce' := 0) (sl' := 0) C (tw hw 67 rfl) (tw hw 68 rfl) (tw hw 70 rfl) (tw hw 69 rfl) (tw hw 2 rfl) (tw hw 71 rfl) (by decide) d8_62 rfl rfl (by decide) (by decide) (Nat.le_of_eq rfl) rfl rfl (by decide) (by decide) rfl (lenOf pd_4 rfl) O_q.1 (ct_rem2 hw h0 n0 q aa sa la en sz pA s0 s1 s2 ta tb tc hz O_q O_sa O_la O_aa g_q g_sa g_la g_aa ne_q_sa ne_q_la ne_sa_la ne_aa_q ne_aa_sa ne_aa_la) (k0 (fun h10 q10 => ?_))
          obtain ⟨P_q, P_sa, P_la, P_aa, K10⟩ := q10
          have O_bb := O_bb.keep K10 (ninS ne_bb_q (ninS ne_bb_sa (ninS ne_bb_la (ninS (Ne.symm ne_aa_bb) nin0))))
          have hz : n0 ≤ h10.size := Nat.le_trans hz K10.1
          have hk := Keep.app hk K10 (fun x hx => Or.inl hx) (allS (Or.inl (by simp)) (allS (Or.inl (by simp)) (allS (Or.inl (by simp)) (allS (Or.inl (by simp)) all0))))
          have O_q := P_q
          have O_sa := P_sa
          have O_la := P_la
          have O_aa := P_aa
          refine w_iloadN (pc' := 66) C d8_65 rfl rfl ?_
          refine w_iload (pc' := 68) C d8_66 rfl rfl ?_
          refine w_iconst (pc' := 69) (x := (-1 : Int32)) C d8_68 rfl rfl ?_
          refine w_ixor (pc' := 70) C d8_69 rfl ?_
          refine w_eqI (z := (-2 : Int32)) (by decide) ?_
          refine w_iand (pc' := 71) C d8_70 rfl ?_
          refine w_retI C rfl d8_71 (by decide) (by decide) ?_
          exact ⟨_, rfl, (-1 : Int32), sB, (endF sz en), (sz - (1 : Int32)), s0, s1, .null, ta, tb, EMP, (I.remA q56), (he.end_ hk0), O_q, O_sa, O_la, O_aa, O_bb, hk⟩
  · skip
    refine w_iconst (pc' := 8) (x := (1 : Int32)) C d8_7 rfl rfl ?_
    refine w_goto (pc' := 12) C d8_8 (by decide) (by decide) ?_
    refine w_istore (pc' := 14) (Ls' := #[.val (.ref q), .val (.ref aa), .val (.ref bb), .val (.int z), .val (.int cd), .val (.int (1 : Int32)), .unset, .unset, .unset]) C d8_12 rfl rfl ?_
    refine w_iload (pc' := 16) C d8_14 rfl rfl ?_
    refine w_iconst (pc' := 17) (x := (2 : Int32)) C d8_16 rfl rfl ?_
    refine w_iand (pc' := 18) C d8_17 rfl ?_
    refine w_if_eq (pcT := 25) (pcF := 21) C d8_18 (by decide) (by decide) rfl (fun q18 => ?_) (fun q18 => ?_)
    · skip
      refine w_iconst (pc' := 26) (x := (0 : Int32)) C d8_25 rfl rfl ?_
      refine w_istore (pc' := 28) (Ls' := #[.val (.ref q), .val (.ref aa), .val (.ref bb), .val (.int z), .val (.int cd), .val (.int (1 : Int32)), .val (.int (0 : Int32)), .unset, .unset]) C d8_26 rfl rfl ?_
      refine w_iload (pc' := 30) C d8_28 rfl rfl ?_
      refine w_if_eq (pcT := 37) (pcF := 33) C d8_30 (by decide) (by decide) rfl (fun q => absurd q (by decide)) (fun q30 => ?_)
      refine w_aloadN (pc' := 34) C d8_33 rfl rfl rfl ?_
      refine w_goto (pc' := 38) C d8_34 (by decide) (by decide) ?_
      refine w_astore (pc' := 40) (Ls' := #[.val (.ref q), .val (.ref aa), .val (.ref bb), .val (.int z), .val (.int cd), .val (.int (1 : Int32)), .val (.int (0 : Int32)), .val (.ref bb), .unset]) C d8_38 rfl rfl rfl ?_
      refine w_iload (pc' := 42) C d8_40 rfl rfl ?_
      refine w_if_eq (pcT := 49) (pcF := 45) C d8_42 (by decide) (by decide) rfl (fun q => absurd q (by decide)) (fun q42 => ?_)
      refine w_iconst (pc' := 46) (x := (2 : Int32)) C d8_45 rfl rfl ?_
      refine w_goto (pc' := 50) C d8_46 (by decide) (by decide) ?_
      refine w_istore (pc' := 52) (Ls' := #[.val (.ref q), .val (.ref aa), .val (.ref bb), .val (.int z), .val (.int cd), .val (.int (1 : Int32)), .val (.int (0 : Int32)), .val (.ref bb), .val (.int (2 : Int32))]) C d8_50 rfl rfl ?_
      refine w_iloadN (pc' := 53) C d8_52 rfl rfl ?_
      refine w_iload (pc' := 55) C d8_53 rfl rfl ?_
      refine w_iand (pc' := 56) C d8_55 rfl ?_
      refine w_if_eq (pcT := 72) (pcF := 59) C d8_56 (by decide) (by decide) rfl (fun q56 => ?_) (fun q56 => ?_)
      · skip
        refine w_iload (pc' := 74) C d8_72 rfl rfl ?_
        refine w_if_eq (pcT := 85) (pcF := 77) C d8_74 (by decide) (by decide) rfl (fun q74 => ?_) (fun q => absurd q (by decide))
        refine w_aloadN (pc' := 86) C d8_85 rfl rfl rfl ?_
        refine w_aload (pc' := 88) C d8_86 rfl rfl rfl ?_
        have c_en := he.lits hk2
        rcases c_en with rfl | rfl | rfl
        · skip
          refine w_callV (Cl := "tallygate/RequestQueue") (pc' := 91) (argsL := [.ref bb]) (st := []) (W := 0) (ce' := 0) (sl' := 0) C (tw hw 50 rfl) (tw hw 51 rfl) (tw hw 53 rfl) (tw hw 52 rfl) (tw hw 2 rfl) (tw hw 54 rfl) (by decide) d8_88 rfl rfl (by decide) (by decide) (Nat.le_of_eq rfl) rfl rfl (by decide) (by decide) rfl (lenOf pd_4 rfl) O_q.1 (ct_add0 hw h0 n0 q bb sa la sz pB sB s0 s1 s2 ta tb tc hz O_q O_sa O_la O_bb g_q g_sa g_la g_bb ne_q_sa ne_q_la ne_sa_la ne_bb_q ne_bb_sa ne_bb_la) (k0 (fun h11 q11 => ?_))
          obtain ⟨P_q, P_sa, P_la, P_bb, K11⟩ := q11
          have O_aa := O_aa.keep K11 (ninS ne_aa_q (ninS ne_aa_sa (ninS ne_aa_la (ninS ne_aa_bb nin0))))
          have hz : n0 ≤ h11.size := Nat.le_trans hz K11.1
          have hk := Keep.app hk K11 (fun x hx => Or.inl hx) (allS (Or.inl (by simp)) (allS (Or.inl (by simp)) (allS (Or.inl (by simp)) (allS (Or.inl (by simp)) all0))))
          have O_q := P_q
          have O_sa := P_sa
          have O_la := P_la
          have O_bb := P_bb
          refine w_iloadN (pc' := 92) C d8_91 rfl rfl ?_
          refine w_iload (pc' := 94) C d8_92 rfl rfl ?_
          refine w_ior (pc' := 95) C d8_94 rfl ?_
          refine w_retI C rfl d8_95 (by decide) (by decide) ?_
          have hE : EB (1 : Int32) (k + 1) := by
            have h1 := he.2
            have e1 : (0 : Int32).toInt = 0 := by decide
            exact ⟨by decide, by have e2 : (1 : Int32).toInt = 1 := by decide
                                 rw [e2]; omega⟩
          exact ⟨_, rfl, sA, (0 : Int32), (1 : Int32), (sz + (1 : Int32)), (.ref bb), s1, s2, (pB.toInt64), tb, tc, (I.addB q56 (by decide)), hE, O_q, O_sa, O_la, O_aa, O_bb, hk⟩
        · skip
          refine w_callV (Cl := "tallygate/RequestQueue") (pc' := 91) (argsL := [.ref bb]) (st := []) (W := 0) (ce' := 0) (sl' := 0) C (tw hw 50 rfl) (tw hw 51 rfl) (tw hw 53 rfl) (tw hw 52 rfl) (tw hw 2 rfl) (tw hw 54 rfl) (by decide) d8_88 rfl rfl (by decide) (by decide) (Nat.le_of_eq rfl) rfl rfl (by decide) (by decide) rfl (lenOf pd_4 rfl) O_q.1 (ct_add1 hw h0 n0 q bb sa la sz pB sB s0 s1 s2 ta tb tc hz O_q O_sa O_la O_bb g_q g_sa g_la g_bb ne_q_sa ne_q_la ne_sa_la ne_bb_q ne_bb_sa ne_bb_la) (k0 (fun h12 q12 => ?_))
          obtain ⟨P_q, P_sa, P_la, P_bb, K12⟩ := q12
          have O_aa := O_aa.keep K12 (ninS ne_aa_q (ninS ne_aa_sa (ninS ne_aa_la (ninS ne_aa_bb nin0))))
          have hz : n0 ≤ h12.size := Nat.le_trans hz K12.1
          have hk := Keep.app hk K12 (fun x hx => Or.inl hx) (allS (Or.inl (by simp)) (allS (Or.inl (by simp)) (allS (Or.inl (by simp)) (allS (Or.inl (by simp)) all0))))
          have O_q := P_q
          have O_sa := P_sa
          have O_la := P_la
          have O_bb := P_bb
          refine w_iloadN (pc' := 92) C d8_91 rfl rfl ?_
          refine w_iload (pc' := 94) C d8_92 rfl rfl ?_
          refine w_ior (pc' := 95) C d8_94 rfl ?_
          refine w_retI C rfl d8_95 (by decide) (by decide) ?_
          have hE : EB (2 : Int32) (k + 1) := by
            have h1 := he.2
            have e1 : (1 : Int32).toInt = 1 := by decide
            exact ⟨by decide, by have e2 : (2 : Int32).toInt = 2 := by decide
                                 rw [e2]; omega⟩
          exact ⟨_, rfl, sA, (1 : Int32), (2 : Int32), (sz + (1 : Int32)), s0, (.ref bb), s2, ta, (pB.toInt64), tc, (I.addB q56 (by decide)), hE, O_q, O_sa, O_la, O_aa, O_bb, hk⟩
        · skip
          refine w_callV (Cl := "tallygate/RequestQueue") (pc' := 91) (argsL := [.ref bb]) (st := []) (W := 0) (ce' := 0) (sl' := 0) C (tw hw 50 rfl) (tw hw 51 rfl) (tw hw 53 rfl) (tw hw 52 rfl) (tw hw 2 rfl) (tw hw 54 rfl) (by decide) d8_88 rfl rfl (by decide) (by decide) (Nat.le_of_eq rfl) rfl rfl (by decide) (by decide) rfl (lenOf pd_4 rfl) O_q.1 (ct_add2 hw h0 n0 q bb sa la sz pB sB s0 s1 s2 ta tb tc hz O_q O_sa O_la O_bb g_q g_sa g_la g_bb ne_q_sa ne_q_la ne_sa_la ne_bb_q ne_bb_sa ne_bb_la) (k0 (fun h13 q13 => ?_))
          obtain ⟨P_q, P_sa, P_la, P_bb, K13⟩ := q13
          have O_aa := O_aa.keep K13 (ninS ne_aa_q (ninS ne_aa_sa (ninS ne_aa_la (ninS ne_aa_bb nin0))))
          have hz : n0 ≤ h13.size := Nat.le_trans hz K13.1
          have hk := Keep.app hk K13 (fun x hx => Or.inl hx) (allS (Or.inl (by simp)) (allS (Or.inl (by simp)) (allS (Or.inl (by simp)) (allS (Or.inl (by simp)) all0))))
          have O_q := P_q
          have O_sa := P_sa
          have O_la := P_la
          have O_bb := P_bb
          refine w_iloadN (pc' := 92) C d8_91 rfl rfl ?_
          refine w_iload (pc' := 94) C d8_92 rfl rfl ?_
          refine w_ior (pc' := 95) C d8_94 rfl ?_
          refine w_retI C rfl d8_95 (by decide) (by decide) ?_
          have hE : EB (3 : Int32) (k + 1) := by
            have h1 := he.2
            have e1 : (2 : Int32).toInt = 2 := by decide
            exact ⟨by decide, by have e2 : (3 : Int32).toInt = 3 := by decide
                                 rw [e2]; omega⟩
          exact ⟨_, rfl, sA, (2 : Int32), (3 : Int32), (sz + (1 : Int32)), s0, s1, (.ref bb), ta, tb, (pB.toInt64), (I.addB q56 (by decide)), hE, O_q, O_sa, O_la, O_aa, O_bb, hk⟩
      · skip
        refine w_aloadN (pc' := 60) C d8_59 rfl rfl rfl ?_
        refine w_aload (pc' := 62) C d8_60 rfl rfl rfl ?_
        have c_sB := (hB.resolve_left (fun u => q56 u.1)).2
        rcases c_sB with rfl | rfl | rfl
        · skip
          refine w_callV (Cl := "tallygate/RequestQueue") (pc' := 65) (argsL := [.ref bb]) (st := []) (W := 0) (ce' := 0) (sl' := 0) C (tw hw 67 rfl) (tw hw 68 rfl) (tw hw 70 rfl) (tw hw 69 rfl) (tw hw 2 rfl) (tw hw 71 rfl) (by decide) d8_62 rfl rfl (by decide) (by decide) (Nat.le_of_eq rfl) rfl rfl (by decide) (by decide) rfl (lenOf pd_4 rfl) O_q.1 (ct_rem0 hw h0 n0 q bb sa la en sz pB s0 s1 s2 ta tb tc hz O_q O_sa O_la O_bb g_q g_sa g_la g_bb ne_q_sa ne_q_la ne_sa_la ne_bb_q ne_bb_sa ne_bb_la) (k0 (fun h14 q14 => ?_))
          obtain ⟨P_q, P_sa, P_la, P_bb, K14⟩ := q14
          have O_aa := O_aa.keep K14 (ninS ne_aa_q (ninS ne_aa_sa (ninS ne_aa_la (ninS ne_aa_bb nin0))))
          have hz : n0 ≤ h14.size := Nat.le_trans hz K14.1
          have hk := Keep.app hk K14 (fun x hx => Or.inl hx) (allS (Or.inl (by simp)) (allS (Or.inl (by simp)) (allS (Or.inl (by simp)) (allS (Or.inl (by simp)) all0))))
          have O_q := P_q
          have O_sa := P_sa
          have O_la := P_la
          have O_bb := P_bb
          refine w_iloadN (pc' := 66) C d8_65 rfl rfl ?_
          refine w_iload (pc' := 68) C d8_66 rfl rfl ?_
          refine w_iconst (pc' := 69) (x := (-1 : Int32)) C d8_68 rfl rfl ?_
          refine w_ixor (pc' := 70) C d8_69 rfl ?_
          refine w_eqI (z := (-3 : Int32)) (by decide) ?_
          refine w_iand (pc' := 71) C d8_70 rfl ?_
          refine w_retI C rfl d8_71 (by decide) (by decide) ?_
          exact ⟨_, rfl, sA, (-1 : Int32), (endF sz en), (sz - (1 : Int32)), .null, s1, s2, EMP, tb, tc, (I.remB q56), (he.end_ hk0), O_q, O_sa, O_la, O_aa, O_bb, hk⟩
        · skip
          refine w_callV (Cl := "tallygate/RequestQueue") (pc' := 65) (argsL := [.ref bb]) (st := []) (W := 0) (ce' := 0) (sl' := 0) C (tw hw 67 rfl) (tw hw 68 rfl) (tw hw 70 rfl) (tw hw 69 rfl) (tw hw 2 rfl) (tw hw 71 rfl) (by decide) d8_62 rfl rfl (by decide) (by decide) (Nat.le_of_eq rfl) rfl rfl (by decide) (by decide) rfl (lenOf pd_4 rfl) O_q.1 (ct_rem1 hw h0 n0 q bb sa la en sz pB s0 s1 s2 ta tb tc hz O_q O_sa O_la O_bb g_q g_sa g_la g_bb ne_q_sa ne_q_la ne_sa_la ne_bb_q ne_bb_sa ne_bb_la) (k0 (fun h15 q15 => ?_))
          obtain ⟨P_q, P_sa, P_la, P_bb, K15⟩ := q15
          have O_aa := O_aa.keep K15 (ninS ne_aa_q (ninS ne_aa_sa (ninS ne_aa_la (ninS ne_aa_bb nin0))))
          have hz : n0 ≤ h15.size := Nat.le_trans hz K15.1
          have hk := Keep.app hk K15 (fun x hx => Or.inl hx) (allS (Or.inl (by simp)) (allS (Or.inl (by simp)) (allS (Or.inl (by simp)) (allS (Or.inl (by simp)) all0))))
          have O_q := P_q
          have O_sa := P_sa
          have O_la := P_la
          have O_bb := P_bb
          refine w_iloadN (pc' := 66) C d8_65 rfl rfl ?_
          refine w_iload (pc' := 68) C d8_66 rfl rfl ?_
          refine w_iconst (pc' := 69) (x := (-1 : Int32)) C d8_68 rfl rfl ?_
          refine w_ixor (pc' := 70) C d8_69 rfl ?_
          refine w_eqI (z := (-3 : Int32)) (by decide) ?_
          refine w_iand (pc' := 71) C d8_70 rfl ?_
          refine w_retI C rfl d8_71 (by decide) (by decide) ?_
          exact ⟨_, rfl, sA, (-1 : Int32), (endF sz en), (sz - (1 : Int32)), s0, .null, s2, ta, EMP, tc, (I.remB q56), (he.end_ hk0), O_q, O_sa, O_la, O_aa, O_bb, hk⟩
        · skip
          refine w_callV (Cl := "tallygate/RequestQueue") (pc' := 65) (argsL := [.ref bb]) (st := []) (W := 0) (ce' := 0) (sl' := 0) C (tw hw 67 rfl) (tw hw 68 rfl) (tw hw 70 rfl) (tw hw 69 rfl) (tw hw 2 rfl) (tw hw 71 rfl) (by decide) d8_62 rfl rfl (by decide) (by decide) (Nat.le_of_eq rfl) rfl rfl (by decide) (by decide) rfl (lenOf pd_4 rfl) O_q.1 (ct_rem2 hw h0 n0 q bb sa la en sz pB s0 s1 s2 ta tb tc hz O_q O_sa O_la O_bb g_q g_sa g_la g_bb ne_q_sa ne_q_la ne_sa_la ne_bb_q ne_bb_sa ne_bb_la) (k0 (fun h16 q16 => ?_))
          obtain ⟨P_q, P_sa, P_la, P_bb, K16⟩ := q16
          have O_aa := O_aa.keep K16 (ninS ne_aa_q (ninS ne_aa_sa (ninS ne_aa_la (ninS ne_aa_bb nin0))))
          have hz : n0 ≤ h16.size := Nat.le_trans hz K16.1
          have hk := Keep.app hk K16 (fun x hx => Or.inl hx) (allS (Or.inl (by simp)) (allS (Or.inl (by simp)) (allS (Or.inl (by simp)) (allS (Or.inl (by simp)) all0))))
          have O_q := P_q
          have O_sa := P_sa
          have O_la := P_la
          have O_bb := P_bb
          refine w_iloadN (pc' := 66) C d8_65 rfl rfl ?_
          refine w_iload (pc' := 68) C d8_66 rfl rfl ?_
          refine w_iconst (pc' := 69) (x := (-1 : Int32)) C d8_68 rfl rfl ?_
          refine w_ixor (pc' := 70) C d8_69 rfl ?_
          refine w_eqI (z := (-3 : Int32)) (by decide) ?_
          refine w_iand (pc' := 71) C d8_70 rfl ?_
          refine w_retI C rfl d8_71 (by decide) (by decide) ?_
          exact ⟨_, rfl, sA, (-1 : Int32), (endF sz en), (sz - (1 : Int32)), s0, s1, .null, ta, tb, EMP, (I.remB q56), (he.end_ hk0), O_q, O_sa, O_la, O_aa, O_bb, hk⟩
    · skip
      refine w_iconst (pc' := 22) (x := (1 : Int32)) C d8_21 rfl rfl ?_
      refine w_goto (pc' := 26) C d8_22 (by decide) (by decide) ?_
      refine w_istore (pc' := 28) (Ls' := #[.val (.ref q), .val (.ref aa), .val (.ref bb), .val (.int z), .val (.int cd), .val (.int (1 : Int32)), .val (.int (1 : Int32)), .unset, .unset]) C d8_26 rfl rfl ?_
      refine w_iload (pc' := 30) C d8_28 rfl rfl ?_
      refine w_if_eq (pcT := 37) (pcF := 33) C d8_30 (by decide) (by decide) rfl (fun q => absurd q (by decide)) (fun q30 => ?_)
      refine w_aloadN (pc' := 34) C d8_33 rfl rfl rfl ?_
      refine w_goto (pc' := 38) C d8_34 (by decide) (by decide) ?_
      refine w_astore (pc' := 40) (Ls' := #[.val (.ref q), .val (.ref aa), .val (.ref bb), .val (.int z), .val (.int cd), .val (.int (1 : Int32)), .val (.int (1 : Int32)), .val (.ref bb), .unset]) C d8_38 rfl rfl rfl ?_
      refine w_iload (pc' := 42) C d8_40 rfl rfl ?_
      refine w_if_eq (pcT := 49) (pcF := 45) C d8_42 (by decide) (by decide) rfl (fun q => absurd q (by decide)) (fun q42 => ?_)
      refine w_iconst (pc' := 46) (x := (2 : Int32)) C d8_45 rfl rfl ?_
      refine w_goto (pc' := 50) C d8_46 (by decide) (by decide) ?_
      refine w_istore (pc' := 52) (Ls' := #[.val (.ref q), .val (.ref aa), .val (.ref bb), .val (.int z), .val (.int cd), .val (.int (1 : Int32)), .val (.int (1 : Int32)), .val (.ref bb), .val (.int (2 : Int32))]) C d8_50 rfl rfl ?_
      refine w_iloadN (pc' := 53) C d8_52 rfl rfl ?_
      refine w_iload (pc' := 55) C d8_53 rfl rfl ?_
      refine w_iand (pc' := 56) C d8_55 rfl ?_
      refine w_if_eq (pcT := 72) (pcF := 59) C d8_56 (by decide) (by decide) rfl (fun q56 => ?_) (fun q56 => ?_)
      · skip
        refine w_iload (pc' := 74) C d8_72 rfl rfl ?_
        refine w_if_eq (pcT := 85) (pcF := 77) C d8_74 (by decide) (by decide) rfl (fun q => absurd q (by decide)) (fun q74 => ?_)
        refine w_aloadN (pc' := 78) C d8_77 rfl rfl rfl ?_
        refine w_aload (pc' := 80) C d8_78 rfl rfl rfl ?_
        have c_sB := (hB.resolve_right (fun u => u.1 q56)).2
        rcases c_sB with rfl
        · skip
          refine w_callV (Cl := "tallygate/RequestQueue") (pc' := 83) (argsL := [.ref bb]) (st := []) (W := 0) (ce' := 0) (sl' := 0) C (tw hw 67 rfl) (tw hw 68 rfl) (tw hw 70 rfl) (tw hw 69 rfl) (tw hw 2 rfl) (tw hw 71 rfl) (by decide) d8_80 rfl rfl (by decide) (by decide) (Nat.le_of_eq rfl) rfl rfl (by decide) (by decide) rfl (lenOf pd_4 rfl) O_q.1 (ct_remN hw h0 n0 q bb sa la en sz pB s0 s1 s2 ta tb tc hz O_q O_sa O_la O_bb g_q g_sa g_la g_bb ne_q_sa ne_q_la ne_sa_la ne_bb_q ne_bb_sa ne_bb_la) (k0 (fun h17 q17 => ?_))
          obtain ⟨P_q, P_sa, P_la, P_bb, K17⟩ := q17
          have O_aa := O_aa.keep K17 (ninS ne_aa_q (ninS ne_aa_sa (ninS ne_aa_la (ninS ne_aa_bb nin0))))
          have hz : n0 ≤ h17.size := Nat.le_trans hz K17.1
          have hk := Keep.app hk K17 (fun x hx => Or.inl hx) (allS (Or.inl (by simp)) (allS (Or.inl (by simp)) (allS (Or.inl (by simp)) (allS (Or.inl (by simp)) all0))))
          have O_q := P_q
          have O_sa := P_sa
          have O_la := P_la
          have O_bb := P_bb
          refine w_iloadN (pc' := 84) C d8_83 rfl rfl ?_
          refine w_retI C rfl d8_84 (by decide) (by decide) ?_
          exact ⟨_, rfl, sA, (-1 : Int32), en, sz, s0, s1, s2, ta, tb, tc, I, he.up, O_q, O_sa, O_la, O_aa, O_bb, hk⟩
      · skip
        refine w_aloadN (pc' := 60) C d8_59 rfl rfl rfl ?_
        refine w_aload (pc' := 62) C d8_60 rfl rfl rfl ?_
        have c_sB := (hB.resolve_left (fun u => q56 u.1)).2
        rcases c_sB with rfl | rfl | rfl
        · skip
          refine w_callV (Cl := "tallygate/RequestQueue") (pc' := 65) (argsL := [.ref bb]) (st := []) (W := 0) (ce' := 0) (sl' := 0) C (tw hw 67 rfl) (tw hw 68 rfl) (tw hw 70 rfl) (tw hw 69 rfl) (tw hw 2 rfl) (tw hw 71 rfl) (by decide) d8_62 rfl rfl (by decide) (by decide) (Nat.le_of_eq rfl) rfl rfl (by decide) (by decide) rfl (lenOf pd_4 rfl) O_q.1 (ct_rem0 hw h0 n0 q bb sa la en sz pB s0 s1 s2 ta tb tc hz O_q O_sa O_la O_bb g_q g_sa g_la g_bb ne_q_sa ne_q_la ne_sa_la ne_bb_q ne_bb_sa ne_bb_la) (k0 (fun h18 q18 => ?_))
          obtain ⟨P_q, P_sa, P_la, P_bb, K18⟩ := q18
          have O_aa := O_aa.keep K18 (ninS ne_aa_q (ninS ne_aa_sa (ninS ne_aa_la (ninS ne_aa_bb nin0))))
          have hz : n0 ≤ h18.size := Nat.le_trans hz K18.1
          have hk := Keep.app hk K18 (fun x hx => Or.inl hx) (allS (Or.inl (by simp)) (allS (Or.inl (by simp)) (allS (Or.inl (by simp)) (allS (Or.inl (by simp)) all0))))
          have O_q := P_q
          have O_sa := P_sa
          have O_la := P_la
          have O_bb := P_bb
          refine w_iloadN (pc' := 66) C d8_65 rfl rfl ?_
          refine w_iload (pc' := 68) C d8_66 rfl rfl ?_
          refine w_iconst (pc' := 69) (x := (-1 : Int32)) C d8_68 rfl rfl ?_
          refine w_ixor (pc' := 70) C d8_69 rfl ?_
          refine w_eqI (z := (-3 : Int32)) (by decide) ?_
          refine w_iand (pc' := 71) C d8_70 rfl ?_
          refine w_retI C rfl d8_71 (by decide) (by decide) ?_
          exact ⟨_, rfl, sA, (-1 : Int32), (endF sz en), (sz - (1 : Int32)), .null, s1, s2, EMP, tb, tc, (I.remB q56), (he.end_ hk0), O_q, O_sa, O_la, O_aa, O_bb, hk⟩
        · skip
          refine w_callV (Cl := "tallygate/RequestQueue") (pc' := 65) (argsL := [.ref bb]) (st := []) (W := 0) (ce' := 0) (sl' := 0) C (tw hw 67 rfl) (tw hw 68 rfl) (tw hw 70 rfl) (tw hw 69 rfl) (tw hw 2 rfl) (tw hw 71 rfl) (by decide) d8_62 rfl rfl (by decide) (by decide) (Nat.le_of_eq rfl) rfl rfl (by decide) (by decide) rfl (lenOf pd_4 rfl) O_q.1 (ct_rem1 hw h0 n0 q bb sa la en sz pB s0 s1 s2 ta tb tc hz O_q O_sa O_la O_bb g_q g_sa g_la g_bb ne_q_sa ne_q_la ne_sa_la ne_bb_q ne_bb_sa ne_bb_la) (k0 (fun h19 q19 => ?_))
          obtain ⟨P_q, P_sa, P_la, P_bb, K19⟩ := q19
          have O_aa := O_aa.keep K19 (ninS ne_aa_q (ninS ne_aa_sa (ninS ne_aa_la (ninS ne_aa_bb nin0))))
          have hz : n0 ≤ h19.size := Nat.le_trans hz K19.1
          have hk := Keep.app hk K19 (fun x hx => Or.inl hx) (allS (Or.inl (by simp)) (allS (Or.inl (by simp)) (allS (Or.inl (by simp)) (allS (Or.inl (by simp)) all0))))
          have O_q := P_q
          have O_sa := P_sa
          have O_la := P_la
          have O_bb := P_bb
          refine w_iloadN (pc' := 66) C d8_65 rfl rfl ?_
          refine w_iload (pc' := 68) C d8_66 rfl rfl ?_
          refine w_iconst (pc' := 69) (x := (-1 : Int32)) C d8_68 rfl rfl ?_
          refine w_ixor (pc' := 70) C d8_69 rfl ?_
          refine w_eqI (z := (-3 : Int32)) (by decide) ?_
          refine w_iand (pc' := 71) C d8_70 rfl ?_
          refine w_retI C rfl d8_71 (by decide) (by decide) ?_
          exact ⟨_, rfl, sA, (-1 : Int32), (endF sz en), (sz - (1 : Int32)), s0, .null, s2, ta, EMP, tc, (I.remB q56), (he.end_ hk0), O_q, O_sa, O_la, O_aa, O_bb, hk⟩
        · skip
          refine w_callV (Cl := "tallygate/RequestQueue") (pc' := 65) (argsL := [.ref bb]) (st := []) (W := 0) (ce' := 0) (sl' := 0) C (tw hw 67 rfl) (tw hw 68 rfl) (tw hw 70 rfl) (tw hw 69 rfl) (tw hw 2 rfl) (tw hw 71 rfl) (by decide) d8_62 rfl rfl (by decide) (by decide) (Nat.le_of_eq rfl) rfl rfl (by decide) (by decide) rfl (lenOf pd_4 rfl) O_q.1 (ct_rem2 hw h0 n0 q bb sa la en sz pB s0 s1 s2 ta tb tc hz O_q O_sa O_la O_bb g_q g_sa g_la g_bb ne_q_sa ne_q_la ne_sa_la ne_bb_q ne_bb_sa ne_bb_la) (k0 (fun h20 q20 => ?_))
          obtain ⟨P_q, P_sa, P_la, P_bb, K20⟩ := q20
          have O_aa := O_aa.keep K20 (ninS ne_aa_q (ninS ne_aa_sa (ninS ne_aa_la (ninS ne_aa_bb nin0))))
          have hz : n0 ≤ h20.size := Nat.le_trans hz K20.1
          have hk := Keep.app hk K20 (fun x hx => Or.inl hx) (allS (Or.inl (by simp)) (allS (Or.inl (by simp)) (allS (Or.inl (by simp)) (allS (Or.inl (by simp)) all0))))
          have O_q := P_q
          have O_sa := P_sa
          have O_la := P_la
          have O_bb := P_bb
          refine w_iloadN (pc' := 66) C d8_65 rfl rfl ?_
          refine w_iload (pc' := 68) C d8_66 rfl rfl ?_
          refine w_iconst (pc' := 69) (x := (-1 : Int32)) C d8_68 rfl rfl ?_
          refine w_ixor (pc' := 70) C d8_69 rfl ?_
          refine w_eqI (z := (-3 : Int32)) (by decide) ?_
          refine w_iand (pc' := 71) C d8_70 rfl ?_
          refine w_retI C rfl d8_71 (by decide) (by decide) ?_
          exact ⟨_, rfl, sA, (-1 : Int32), (endF sz en), (sz - (1 : Int32)), s0, s1, .null, ta, tb, EMP, (I.remB q56), (he.end_ hk0), O_q, O_sa, O_la, O_aa, O_bb, hk⟩
theorem j0 : JJ 0 (-1) (-1) 0 := by unfold JJ; decide
theorem e0_ : EB 0 0 := by unfold EB; decide
theorem pf_law : plainFor (⟨"tallygate/RequestQueueIsEmptyPinLaw", "law", "(III)Z"⟩ : MethodName) = true := plainFor_of_name (by first | (simp [plainName, overriddenIn]; done) | decide +kernel)
set_option maxRecDepth 65536 in
set_option maxHeartbeats 40000000 in
theorem ct_law {l : Launch} {Z : State} {a0 : Array Value} (hw : ∀ d ∈ tables_1, d.before a0 Z = true) (ws : List Jvm.Cond) (h0 : Heap) (n0 : Nat) (x0 : Int32) (x1 : Int32) (x2 : Int32) (hz : n0 ≤ h0.size) :
    Ct l Z x code maxLocals ret ws room_1 #[.int x0, .int x1, .int x2] h0 n0 (fun v h => v = some (.int 1)) := by
  refine Ct.of (Ls := #[.val (.int x0), .val (.int x1), .val (.int x2), .unset, .unset, .unset, .unset, .unset, .unset, .unset]) pf_law (fun m => by first | (simp [entryFrame, mkF, argsToLocals, Value.category, maxLocals]; done) | rfl) ?_
  intro p e s m below meth c C
  have hk : Keep h0 h0 [] := Keep.refl _ _
  refine w_new (pc' := 3) (ce' := 1) (sl' := 4) C (tw hw 0 rfl) (tw hw 1 rfl) (tw hw 2 rfl) at_0 rfl rfl rfl (by decide) (by decide) (fun h1 a1 e1 E1 A1 D1 => ?_)
  have g_a1 : n0 ≤ a1 := by rw [e1]; exact hz
  have fr_a1 : h0.size ≤ a1 := by rw [e1]; exact hk.1
  have hz : n0 ≤ h1.size := Nat.le_trans hz E1.1
  have hk := hk.ext E1
  have O_a1 : Obj Z h1 a1 "tallygate/RequestQueue" [("slots", "[Ltallygate/RequestQueue$Entry;", .null), ("least", "[J", .null), ("size", "I", .int (0 : Int32)), ("end", "I", .int (0 : Int32))] := obj_Q hw A1 D1
  refine w_dup (pc' := 4) C at_3 rfl rfl ?_
  refine w_callI (pc' := 7) (argsL := []) (st := [.ref a1]) (W := 1) (ce' := 3) (sl' := 52) C rfl (tw hw 3 rfl) (tw hw 4 rfl) (tw hw 2 rfl) (tw hw 5 rfl) (by decide) at_4 rfl rfl (by decide) (by decide) (Nat.le_of_eq rfl) rfl rfl (by decide) (by decide) rfl (lenOf pd_5 rfl) (ct_initQ hw h1 n0 a1 hz O_a1 g_a1) (k0 (fun h2 q2 => ?_))
  obtain ⟨sa2, la2, fb_sa2, fb_la2, ne_sa2_la2, P_q, P_s, P_l, K2⟩ := q2
  have g_sa2 : n0 ≤ sa2 := Nat.le_trans hz fb_sa2
  have fr_sa2 : h0.size ≤ sa2 := Nat.le_trans hk.1 fb_sa2
  have ne_a1_sa2 : a1 ≠ sa2 := Nat.ne_of_lt (Nat.lt_of_lt_of_le O_a1.lt fb_sa2)
  have g_la2 : n0 ≤ la2 := Nat.le_trans hz fb_la2
  have fr_la2 : h0.size ≤ la2 := Nat.le_trans hk.1 fb_la2
  have ne_a1_la2 : a1 ≠ la2 := Nat.ne_of_lt (Nat.lt_of_lt_of_le O_a1.lt fb_la2)
  have hz : n0 ≤ h2.size := Nat.le_trans hz K2.1
  have hk := Keep.app hk K2 (fun x hx => Or.inl hx) (allS (Or.inr fr_a1) all0)
  have O_a1 := P_q
  have O_sa2 := P_s
  have O_la2 := P_l
  refine w_astoreN (pc' := 8) (Ls' := #[.val (.int x0), .val (.int x1), .val (.int x2), .val (.ref a1), .unset, .unset, .unset, .unset, .unset, .unset]) C at_7 rfl rfl rfl ?_
  refine w_new (pc' := 11) (ce' := 4) (sl' := 54) C (tw hw 24 rfl) (tw hw 25 rfl) (tw hw 26 rfl) at_8 rfl rfl rfl (by decide) (by decide) (fun h3 a3 e3 E3 A3 D3 => ?_)
  have g_a3 : n0 ≤ a3 := by rw [e3]; exact hz
  have fr_a3 : h0.size ≤ a3 := by rw [e3]; exact hk.1
  have ne_a1_a3 : a1 ≠ a3 := by rw [e3]; exact Nat.ne_of_lt O_a1.lt
  have ne_sa2_a3 : sa2 ≠ a3 := by rw [e3]; exact Nat.ne_of_lt O_sa2.lt
  have ne_la2_a3 : la2 ≠ a3 := by rw [e3]; exact Nat.ne_of_lt O_la2.lt
  have O_a1 := O_a1.ext E3
  have O_sa2 := O_sa2.ext E3
  have O_la2 := O_la2.ext E3
  have hz : n0 ≤ h3.size := Nat.le_trans hz E3.1
  have hk := hk.ext E3
  have O_a3 : Obj Z h3 a3 "tallygate/RequestQueue$Entry" [("slot", "I", .int (0 : Int32)), ("permits", "I", .int (0 : Int32))] := obj_E hw A3 D3
  refine w_dup (pc' := 12) C at_11 rfl rfl ?_
  refine w_iconst (pc' := 13) (x := (1 : Int32)) C at_12 rfl rfl ?_
  refine w_iloadN (pc' := 14) C at_13 rfl rfl ?_
  refine w_callS (pc' := 17) (argsL := [.int (1 : Int32), .int x1]) (st := [.ref a3, .ref a3]) (W := 2) (ce' := 4) (sl' := 54) C (tw hw 27 rfl) (tw hw 28 rfl) (tw hw 29 rfl) (tw hw 30 rfl) (by decide) at_14 rfl rfl (by decide) (by decide) (Nat.le_of_eq rfl) rfl rfl (by decide) (by decide) rfl (lenOf pd_6 rfl) (ct_maxI hw h3 n0 (1 : Int32) x1) (kp ?_)
  refine w_callI (pc' := 20) (argsL := [.int (maxI (1 : Int32) x1)]) (st := [.ref a3]) (W := 1) (ce' := 4) (sl' := 54) C rfl (tw hw 31 rfl) (tw hw 32 rfl) (tw hw 26 rfl) (tw hw 33 rfl) (by decide) at_17 rfl rfl (by decide) (by decide) (Nat.le_of_eq rfl) rfl rfl (by decide) (by decide) rfl (lenOf pd_7 rfl) (ct_initE hw h3 n0 a3 (maxI (1 : Int32) x1) hz O_a3 g_a3) (k0 (fun h4 q4 => ?_))
  obtain ⟨P_a3, K4⟩ := q4
  have O_a1 := O_a1.keep K4 (ninS ne_a1_a3 nin0)
  have O_sa2 := O_sa2.keep K4 (ninS ne_sa2_a3 nin0)
  have O_la2 := O_la2.keep K4 (ninS ne_la2_a3 nin0)
  have hz : n0 ≤ h4.size := Nat.le_trans hz K4.1
  have hk := Keep.app hk K4 (fun x hx => Or.inl hx) (allS (Or.inr fr_a3) all0)
  have O_a3 := P_a3
  refine w_astore (pc' := 22) (Ls' := #[.val (.int x0), .val (.int x1), .val (.int x2), .val (.ref a1), .val (.ref a3), .unset, .unset, .unset, .unset, .unset]) C at_20 rfl rfl rfl ?_
  refine w_new (pc' := 25) (ce' := 5) (sl' := 56) C (tw hw 24 rfl) (tw hw 25 rfl) (tw hw 26 rfl) at_22 rfl rfl rfl (by decide) (by decide) (fun h5 a5 e5 E5 A5 D5 => ?_)
  have g_a5 : n0 ≤ a5 := by rw [e5]; exact hz
  have fr_a5 : h0.size ≤ a5 := by rw [e5]; exact hk.1
  have ne_a1_a5 : a1 ≠ a5 := by rw [e5]; exact Nat.ne_of_lt O_a1.lt
  have ne_sa2_a5 : sa2 ≠ a5 := by rw [e5]; exact Nat.ne_of_lt O_sa2.lt
  have ne_la2_a5 : la2 ≠ a5 := by rw [e5]; exact Nat.ne_of_lt O_la2.lt
  have ne_a3_a5 : a3 ≠ a5 := by rw [e5]; exact Nat.ne_of_lt O_a3.lt
  have O_a1 := O_a1.ext E5
  have O_sa2 := O_sa2.ext E5
  have O_la2 := O_la2.ext E5
  have O_a3 := O_a3.ext E5
  have hz : n0 ≤ h5.size := Nat.le_trans hz E5.1
  have hk := hk.ext E5
  have O_a5 : Obj Z h5 a5 "tallygate/RequestQueue$Entry" [("slot", "I", .int (0 : Int32)), ("permits", "I", .int (0 : Int32))] := obj_E hw A5 D5
  refine w_dup (pc' := 26) C at_25 rfl rfl ?_
  refine w_iconst (pc' := 27) (x := (1 : Int32)) C at_26 rfl rfl ?_
  refine w_iloadN (pc' := 28) C at_27 rfl rfl ?_
  refine w_callS (pc' := 31) (argsL := [.int (1 : Int32), .int x2]) (st := [.ref a5, .ref a5]) (W := 2) (ce' := 5) (sl' := 56) C (tw hw 27 rfl) (tw hw 28 rfl) (tw hw 29 rfl) (tw hw 30 rfl) (by decide) at_28 rfl rfl (by decide) (by decide) (Nat.le_of_eq rfl) rfl rfl (by decide) (by decide) rfl (lenOf pd_6 rfl) (ct_maxI hw h5 n0 (1 : Int32) x2) (kp ?_)
  refine w_callI (pc' := 34) (argsL := [.int (maxI (1 : Int32) x2)]) (st := [.ref a5]) (W := 1) (ce' := 5) (sl' := 56) C rfl (tw hw 31 rfl) (tw hw 32 rfl) (tw hw 26 rfl) (tw hw 33 rfl) (by decide) at_31 rfl rfl (by decide) (by decide) (Nat.le_of_eq rfl) rfl rfl (by decide) (by decide) rfl (lenOf pd_7 rfl) (ct_initE hw h5 n0 a5 (maxI (1 : Int32) x2) hz O_a5 g_a5) (k0 (fun h6 q6 => ?_))
  obtain ⟨P_a5, K6⟩ := q6
  have O_a1 := O_a1.keep K6 (ninS ne_a1_a5 nin0)
  have O_sa2 := O_sa2.keep K6 (ninS ne_sa2_a5 nin0)
  have O_la2 := O_la2.keep K6 (ninS ne_la2_a5 nin0)
  have O_a3 := O_a3.keep K6 (ninS ne_a3_a5 nin0)
  have hz : n0 ≤ h6.size := Nat.le_trans hz K6.1
  have hk := Keep.app hk K6 (fun x hx => Or.inl hx) (allS (Or.inr fr_a5) all0)
  have O_a5 := P_a5
  refine w_astore (pc' := 36) (Ls' := #[.val (.int x0), .val (.int x1), .val (.int x2), .val (.ref a1), .val (.ref a3), .val (.ref a5), .unset, .unset, .unset, .unset]) C at_34 rfl rfl rfl ?_
  refine w_aloadN (pc' := 37) C at_36 rfl rfl rfl ?_
  refine w_callV (Cl := "tallygate/RequestQueue") (pc' := 40) (argsL := []) (st := []) (W := 0) (ce' := 5) (sl' := 56) C (tw hw 39 rfl) (tw hw 40 rfl) (tw hw 42 rfl) (tw hw 41 rfl) (tw hw 2 rfl) (tw hw 43 rfl) (by decide) at_37 rfl rfl (by decide) (by decide) (Nat.le_of_eq rfl) rfl rfl (by decide) (by decide) rfl (lenOf pd_8 rfl) O_a1.1 (ct_isEmpty hw h6 n0 a1 sa2 la2 (0 : Int32) (0 : Int32) O_a1) (kp ?_)
  refine w_eqI (z := (1 : Int32)) (by decide) ?_
  refine w_istore (pc' := 42) (Ls' := #[.val (.int x0), .val (.int x1), .val (.int x2), .val (.ref a1), .val (.ref a3), .val (.ref a5), .val (.int (1 : Int32)), .unset, .unset, .unset]) C at_40 rfl rfl ?_
  refine w_aloadN (pc' := 43) C at_42 rfl rfl rfl ?_
  refine w_aload (pc' := 45) C at_43 rfl rfl rfl ?_
  refine w_aload (pc' := 47) C at_45 rfl rfl rfl ?_
  refine w_iconst (pc' := 48) (x := (0 : Int32)) C at_47 rfl rfl ?_
  refine w_iloadN (pc' := 49) C at_48 rfl rfl ?_
  refine w_iconst (pc' := 50) (x := (3 : Int32)) C at_49 rfl rfl ?_
  refine w_iand (pc' := 51) C at_50 rfl ?_
  refine w_callS (pc' := 54) (argsL := [.ref a1, .ref a3, .ref a5, .int (0 : Int32), .int (x0 &&& (3 : Int32))]) (st := []) (W := 0) (ce' := 5) (sl' := 56) C (tw hw 46 rfl) (tw hw 47 rfl) (tw hw 48 rfl) (tw hw 49 rfl) (by decide) at_51 rfl rfl (by decide) (by decide) (Nat.le_of_eq rfl) rfl rfl (by decide) (by decide) rfl (lenOf pd_9 rfl) (ct_step hw h6 n0 a1 a3 a5 (0 : Int32) (x0 &&& (3 : Int32)) (0 : Int) sa2 la2 (-1 : Int32) (-1 : Int32) (0 : Int32) (0 : Int32) (maxI (1 : Int32) x1) (maxI (1 : Int32) x2) .null .null .null EMP EMP EMP hz j0 e0_ (by decide) (by decide) O_a1 O_sa2 O_la2 O_a3 O_a5 g_a1 g_sa2 g_la2 g_a3 g_a5 ne_a1_sa2 ne_a1_la2 ne_sa2_la2 (Ne.symm ne_a1_a3) (Ne.symm ne_sa2_a3) (Ne.symm ne_la2_a3) (Ne.symm ne_a1_a5) (Ne.symm ne_sa2_a5) (Ne.symm ne_la2_a5) ne_a3_a5) (kz (fun z7 h7 q7 => ?_))
  obtain ⟨sA7, sB7, en7, sz7, s07, s17, s27, ta7, tb7, tc7, I7, E7, P_q, P_sa, P_la, P_aa, P_bb, K7⟩ := q7
  have hz : n0 ≤ h7.size := Nat.le_trans hz K7.1
  have hk := Keep.app hk K7 (fun x hx => Or.inl hx) (allS (Or.inr fr_a1) (allS (Or.inr fr_sa2) (allS (Or.inr fr_la2) (allS (Or.inr fr_a3) (allS (Or.inr fr_a5) all0)))))
  have O_a1 := P_q
  have O_sa2 := P_sa
  have O_la2 := P_la
  have O_a3 := P_aa
  have O_a5 := P_bb
  refine w_istore (pc' := 56) (Ls' := #[.val (.int x0), .val (.int x1), .val (.int x2), .val (.ref a1), .val (.ref a3), .val (.ref a5), .val (.int (1 : Int32)), .val (.int z7), .unset, .unset]) C at_54 rfl rfl ?_
  refine w_iload (pc' := 58) C at_56 rfl rfl ?_
  refine w_if_eq (pcT := 82) (pcF := 61) C at_58 (by decide) (by decide) rfl (fun q => absurd q (by decide)) (fun q58 => ?_)
  refine w_aloadN (pc' := 62) C at_61 rfl rfl rfl ?_
  refine w_callV (Cl := "tallygate/RequestQueue") (pc' := 65) (argsL := []) (st := []) (W := 0) (ce' := 5) (sl' := 56) C (tw hw 39 rfl) (tw hw 40 rfl) (tw hw 42 rfl) (tw hw 41 rfl) (tw hw 2 rfl) (tw hw 43 rfl) (by decide) at_62 rfl rfl (by decide) (by decide) (Nat.le_of_eq rfl) rfl rfl (by decide) (by decide) rfl (lenOf pd_8 rfl) O_a1.1 (ct_isEmpty hw h7 n0 a1 sa2 la2 en7 sz7 O_a1) (kp ?_)
  refine w_iload (pc' := 67) C at_65 rfl rfl ?_
  refine w_if_ne (pcT := 74) (pcF := 70) C at_67 (by decide) (by decide) rfl (fun q67 => ?_) (fun q67 => ?_)
  · skip
    refine w_iconst (pc' := 75) (x := (0 : Int32)) C at_74 rfl rfl ?_
    refine w_icmp_ne (pcT := 82) (pcF := 78) C at_75 (by decide) (by decide) rfl (fun q75 => ?_) (fun q75 => ?_)
    · skip
      first | exact absurd (isE1 _ I7 q67) q75 | exact absurd (isE0 _ I7 q67) q75
    · skip
      refine w_iconst (pc' := 79) (x := (1 : Int32)) C at_78 rfl rfl ?_
      refine w_goto (pc' := 83) C at_79 (by decide) (by decide) ?_
      refine w_istore (pc' := 85) (Ls' := #[.val (.int x0), .val (.int x1), .val (.int x2), .val (.ref a1), .val (.ref a3), .val (.ref a5), .val (.int (1 : Int32)), .val (.int z7), .unset, .unset]) C at_83 rfl rfl ?_
      refine w_aloadN (pc' := 86) C at_85 rfl rfl rfl ?_
      refine w_aload (pc' := 88) C at_86 rfl rfl rfl ?_
      refine w_aload (pc' := 90) C at_88 rfl rfl rfl ?_
      refine w_iload (pc' := 92) C at_90 rfl rfl ?_
      refine w_iloadN (pc' := 93) C at_92 rfl rfl ?_
      refine w_iconst (pc' := 94) (x := (2 : Int32)) C at_93 rfl rfl ?_
      refine w_ishr (pc' := 95) C at_94 rfl ?_
      refine w_iconst (pc' := 96) (x := (3 : Int32)) C at_95 rfl rfl ?_
      refine w_iand (pc' := 97) C at_96 rfl ?_
      refine w_callS (pc' := 100) (argsL := [.ref a1, .ref a3, .ref a5, .int z7, .int ((x0 >>> ((2 : Int32) &&& 31)) &&& (3 : Int32))]) (st := []) (W := 0) (ce' := 5) (sl' := 56) C (tw hw 46 rfl) (tw hw 47 rfl) (tw hw 48 rfl) (tw hw 49 rfl) (by decide) at_97 rfl rfl (by decide) (by decide) (Nat.le_of_eq rfl) rfl rfl (by decide) (by decide) rfl (lenOf pd_9 rfl) (ct_step hw h7 n0 a1 a3 a5 z7 ((x0 >>> ((2 : Int32) &&& 31)) &&& (3 : Int32)) (1 : Int) sa2 la2 sA7 sB7 en7 sz7 (maxI (1 : Int32) x1) (maxI (1 : Int32) x2) s07 s17 s27 ta7 tb7 tc7 hz I7 E7 (by decide) (by decide) O_a1 O_sa2 O_la2 O_a3 O_a5 g_a1 g_sa2 g_la2 g_a3 g_a5 ne_a1_sa2 ne_a1_la2 ne_sa2_la2 (Ne.symm ne_a1_a3) (Ne.symm ne_sa2_a3) (Ne.symm ne_la2_a3) (Ne.symm ne_a1_a5) (Ne.symm ne_sa2_a5) (Ne.symm ne_la2_a5) ne_a3_a5) (kz (fun z8 h8 q8 => ?_))
      obtain ⟨sA8, sB8, en8, sz8, s08, s18, s28, ta8, tb8, tc8, I8, E8, P_q, P_sa, P_la, P_aa, P_bb, K8⟩ := q8
      have hz : n0 ≤ h8.size := Nat.le_trans hz K8.1
      have hk := Keep.app hk K8 (fun x hx => Or.inl hx) (allS (Or.inr fr_a1) (allS (Or.inr fr_sa2) (allS (Or.inr fr_la2) (allS (Or.inr fr_a3) (allS (Or.inr fr_a5) all0)))))
      have O_a1 := P_q
      have O_sa2 := P_sa
      have O_la2 := P_la
      have O_a3 := P_aa
      have O_a5 := P_bb
      refine w_istore (pc' := 102) (Ls' := #[.val (.int x0), .val (.int x1), .val (.int x2), .val (.ref a1), .val (.ref a3), .val (.ref a5), .val (.int (1 : Int32)), .val (.int z7), .val (.int z8), .unset]) C at_100 rfl rfl ?_
      refine w_iload (pc' := 104) C at_102 rfl rfl ?_
      refine w_if_eq (pcT := 128) (pcF := 107) C at_104 (by decide) (by decide) rfl (fun q => absurd q (by decide)) (fun q104 => ?_)
      refine w_aloadN (pc' := 108) C at_107 rfl rfl rfl ?_
      refine w_callV (Cl := "tallygate/RequestQueue") (pc' := 111) (argsL := []) (st := []) (W := 0) (ce' := 5) (sl' := 56) C (tw hw 39 rfl) (tw hw 40 rfl) (tw hw 42 rfl) (tw hw 41 rfl) (tw hw 2 rfl) (tw hw 43 rfl) (by decide) at_108 rfl rfl (by decide) (by decide) (Nat.le_of_eq rfl) rfl rfl (by decide) (by decide) rfl (lenOf pd_8 rfl) O_a1.1 (ct_isEmpty hw h8 n0 a1 sa2 la2 en8 sz8 O_a1) (kp ?_)
      refine w_iload (pc' := 113) C at_111 rfl rfl ?_
      refine w_if_ne (pcT := 120) (pcF := 116) C at_113 (by decide) (by decide) rfl (fun q113 => ?_) (fun q113 => ?_)
      · skip
        refine w_iconst (pc' := 121) (x := (0 : Int32)) C at_120 rfl rfl ?_
        refine w_icmp_ne (pcT := 128) (pcF := 124) C at_121 (by decide) (by decide) rfl (fun q121 => ?_) (fun q121 => ?_)
        · skip
          first | exact absurd (isE1 _ I8 q113) q121 | exact absurd (isE0 _ I8 q113) q121
        · skip
          refine w_iconst (pc' := 125) (x := (1 : Int32)) C at_124 rfl rfl ?_
          refine w_goto (pc' := 129) C at_125 (by decide) (by decide) ?_
          refine w_istore (pc' := 131) (Ls' := #[.val (.int x0), .val (.int x1), .val (.int x2), .val (.ref a1), .val (.ref a3), .val (.ref a5), .val (.int (1 : Int32)), .val (.int z7), .val (.int z8), .unset]) C at_129 rfl rfl ?_
          refine w_aloadN (pc' := 132) C at_131 rfl rfl rfl ?_
          refine w_aload (pc' := 134) C at_132 rfl rfl rfl ?_
          refine w_aload (pc' := 136) C at_134 rfl rfl rfl ?_
          refine w_iload (pc' := 138) C at_136 rfl rfl ?_
          refine w_iloadN (pc' := 139) C at_138 rfl rfl ?_
          refine w_iconst (pc' := 140) (x := (4 : Int32)) C at_139 rfl rfl ?_
          refine w_ishr (pc' := 141) C at_140 rfl ?_
          refine w_iconst (pc' := 142) (x := (3 : Int32)) C at_141 rfl rfl ?_
          refine w_iand (pc' := 143) C at_142 rfl ?_
          refine w_callS (pc' := 146) (argsL := [.ref a1, .ref a3, .ref a5, .int z8, .int ((x0 >>> ((4 : Int32) &&& 31)) &&& (3 : Int32))]) (st := []) (W := 0) (ce' := 5) (sl' := 56) C (tw hw 46 rfl) (tw hw 47 rfl) (tw hw 48 rfl) (tw hw 49 rfl) (by decide) at_143 rfl rfl (by decide) (by decide) (Nat.le_of_eq rfl) rfl rfl (by decide) (by decide) rfl (lenOf pd_9 rfl) (ct_step hw h8 n0 a1 a3 a5 z8 ((x0 >>> ((4 : Int32) &&& 31)) &&& (3 : Int32)) (2 : Int) sa2 la2 sA8 sB8 en8 sz8 (maxI (1 : Int32) x1) (maxI (1 : Int32) x2) s08 s18 s28 ta8 tb8 tc8 hz I8 E8 (by decide) (by decide) O_a1 O_sa2 O_la2 O_a3 O_a5 g_a1 g_sa2 g_la2 g_a3 g_a5 ne_a1_sa2 ne_a1_la2 ne_sa2_la2 (Ne.symm ne_a1_a3) (Ne.symm ne_sa2_a3) (Ne.symm ne_la2_a3) (Ne.symm ne_a1_a5) (Ne.symm ne_sa2_a5) (Ne.symm ne_la2_a5) ne_a3_a5) (kz (fun z9 h9 q9 => ?_))
          obtain ⟨sA9, sB9, en9, sz9, s09, s19, s29, ta9, tb9, tc9, I9, E9, P_q, P_sa, P_la, P_aa, P_bb, K9⟩ := q9
          have hz : n0 ≤ h9.size := Nat.le_trans hz K9.1
          have hk := Keep.app hk K9 (fun x hx => Or.inl hx) (allS (Or.inr fr_a1) (allS (Or.inr fr_sa2) (allS (Or.inr fr_la2) (allS (Or.inr fr_a3) (allS (Or.inr fr_a5) all0)))))
          have O_a1 := P_q
          have O_sa2 := P_sa
          have O_la2 := P_la
          have O_a3 := P_aa
          have O_a5 := P_bb
          refine w_istore (pc' := 148) (Ls' := #[.val (.int x0), .val (.int x1), .val (.int x2), .val (.ref a1), .val (.ref a3), .val (.ref a5), .val (.int (1 : Int32)), .val (.int z7), .val (.int z8), .val (.int z9)]) C at_146 rfl rfl ?_
          refine w_iload (pc' := 150) C at_148 rfl rfl ?_
          refine w_if_eq (pcT := 174) (pcF := 153) C at_150 (by decide) (by decide) rfl (fun q => absurd q (by decide)) (fun q150 => ?_)
          refine w_aloadN (pc' := 154) C at_153 rfl rfl rfl ?_
          refine w_callV (Cl := "tallygate/RequestQueue") (pc' := 157) (argsL := []) (st := []) (W := 0) (ce' := 5) (sl' := 56) C (tw hw 39 rfl) (tw hw 40 rfl) (tw hw 42 rfl) (tw hw 41 rfl) (tw hw 2 rfl) (tw hw 43 rfl) (by decide) at_154 rfl rfl (by decide) (by decide) (Nat.le_of_eq rfl) rfl rfl (by decide) (by decide) rfl (lenOf pd_8 rfl) O_a1.1 (ct_isEmpty hw h9 n0 a1 sa2 la2 en9 sz9 O_a1) (kp ?_)
          refine w_iload (pc' := 159) C at_157 rfl rfl ?_
          refine w_if_ne (pcT := 166) (pcF := 162) C at_159 (by decide) (by decide) rfl (fun q159 => ?_) (fun q159 => ?_)
          · skip
            refine w_iconst (pc' := 167) (x := (0 : Int32)) C at_166 rfl rfl ?_
            refine w_icmp_ne (pcT := 174) (pcF := 170) C at_167 (by decide) (by decide) rfl (fun q167 => ?_) (fun q167 => ?_)
            · skip
              first | exact absurd (isE1 _ I9 q159) q167 | exact absurd (isE0 _ I9 q159) q167
            · skip
              refine w_iconst (pc' := 171) (x := (1 : Int32)) C at_170 rfl rfl ?_
              refine w_goto (pc' := 175) C at_171 (by decide) (by decide) ?_
              refine w_istore (pc' := 177) (Ls' := #[.val (.int x0), .val (.int x1), .val (.int x2), .val (.ref a1), .val (.ref a3), .val (.ref a5), .val (.int (1 : Int32)), .val (.int z7), .val (.int z8), .val (.int z9)]) C at_175 rfl rfl ?_
              refine w_iload (pc' := 179) C at_177 rfl rfl ?_
              refine w_retN' (t := .boolean) (z' := (1 : Int32)) C rfl (by simp) at_179 (by decide) (by decide) narB1 ?_
              rfl
          · skip
            refine w_iconst (pc' := 163) (x := (1 : Int32)) C at_162 rfl rfl ?_
            refine w_goto (pc' := 167) C at_163 (by decide) (by decide) ?_
            refine w_icmp_ne (pcT := 174) (pcF := 170) C at_167 (by decide) (by decide) rfl (fun q167 => ?_) (fun q167 => ?_)
            · skip
              first | exact absurd (isE1 _ I9 q159) q167 | exact absurd (isE0 _ I9 q159) q167
            · skip
              refine w_iconst (pc' := 171) (x := (1 : Int32)) C at_170 rfl rfl ?_
              refine w_goto (pc' := 175) C at_171 (by decide) (by decide) ?_
              refine w_istore (pc' := 177) (Ls' := #[.val (.int x0), .val (.int x1), .val (.int x2), .val (.ref a1), .val (.ref a3), .val (.ref a5), .val (.int (1 : Int32)), .val (.int z7), .val (.int z8), .val (.int z9)]) C at_175 rfl rfl ?_
              refine w_iload (pc' := 179) C at_177 rfl rfl ?_
              refine w_retN' (t := .boolean) (z' := (1 : Int32)) C rfl (by simp) at_179 (by decide) (by decide) narB1 ?_
              rfl
      · skip
        refine w_iconst (pc' := 117) (x := (1 : Int32)) C at_116 rfl rfl ?_
        refine w_goto (pc' := 121) C at_117 (by decide) (by decide) ?_
        refine w_icmp_ne (pcT := 128) (pcF := 124) C at_121 (by decide) (by decide) rfl (fun q121 => ?_) (fun q121 => ?_)
        · skip
          first | exact absurd (isE1 _ I8 q113) q121 | exact absurd (isE0 _ I8 q113) q121
        · skip
          refine w_iconst (pc' := 125) (x := (1 : Int32)) C at_124 rfl rfl ?_
          refine w_goto (pc' := 129) C at_125 (by decide) (by decide) ?_
          refine w_istore (pc' := 131) (Ls' := #[.val (.int x0), .val (.int x1), .val (.int x2), .val (.ref a1), .val (.ref a3), .val (.ref a5), .val (.int (1 : Int32)), .val (.int z7), .val (.int z8), .unset]) C at_129 rfl rfl ?_
          refine w_aloadN (pc' := 132) C at_131 rfl rfl rfl ?_
          refine w_aload (pc' := 134) C at_132 rfl rfl rfl ?_
          refine w_aload (pc' := 136) C at_134 rfl rfl rfl ?_
          refine w_iload (pc' := 138) C at_136 rfl rfl ?_
          refine w_iloadN (pc' := 139) C at_138 rfl rfl ?_
          refine w_iconst (pc' := 140) (x := (4 : Int32)) C at_139 rfl rfl ?_
          refine w_ishr (pc' := 141) C at_140 rfl ?_
          refine w_iconst (pc' := 142) (x := (3 : Int32)) C at_141 rfl rfl ?_
          refine w_iand (pc' := 143) C at_142 rfl ?_
          refine w_callS (pc' := 146) (argsL := [.ref a1, .ref a3, .ref a5, .int z8, .int ((x0 >>> ((4 : Int32) &&& 31)) &&& (3 : Int32))]) (st := []) (W := 0) (ce' := 5) (sl' := 56) C (tw hw 46 rfl) (tw hw 47 rfl) (tw hw 48 rfl) (tw hw 49 rfl) (by decide) at_143 rfl rfl (by decide) (by decide) (Nat.le_of_eq rfl) rfl rfl (by decide) (by decide) rfl (lenOf pd_9 rfl) (ct_step hw h8 n0 a1 a3 a5 z8 ((x0 >>> ((4 : Int32) &&& 31)) &&& (3 : Int32)) (2 : Int) sa2 la2 sA8 sB8 en8 sz8 (maxI (1 : Int32) x1) (maxI (1 : Int32) x2) s08 s18 s28 ta8 tb8 tc8 hz I8 E8 (by decide) (by decide) O_a1 O_sa2 O_la2 O_a3 O_a5 g_a1 g_sa2 g_la2 g_a3 g_a5 ne_a1_sa2 ne_a1_la2 ne_sa2_la2 (Ne.symm ne_a1_a3) (Ne.symm ne_sa2_a3) (Ne.symm ne_la2_a3) (Ne.symm ne_a1_a5) (Ne.symm ne_sa2_a5) (Ne.symm ne_la2_a5) ne_a3_a5) (kz (fun z10 h10 q10 => ?_))
          obtain ⟨sA10, sB10, en10, sz10, s010, s110, s210, ta10, tb10, tc10, I10, E10, P_q, P_sa, P_la, P_aa, P_bb, K10⟩ := q10
          have hz : n0 ≤ h10.size := Nat.le_trans hz K10.1
          have hk := Keep.app hk K10 (fun x hx => Or.inl hx) (allS (Or.inr fr_a1) (allS (Or.inr fr_sa2) (allS (Or.inr fr_la2) (allS (Or.inr fr_a3) (allS (Or.inr fr_a5) all0)))))
          have O_a1 := P_q
          have O_sa2 := P_sa
          have O_la2 := P_la
          have O_a3 := P_aa
          have O_a5 := P_bb
          refine w_istore (pc' := 148) (Ls' := #[.val (.int x0), .val (.int x1), .val (.int x2), .val (.ref a1), .val (.ref a3), .val (.ref a5), .val (.int (1 : Int32)), .val (.int z7), .val (.int z8), .val (.int z10)]) C at_146 rfl rfl ?_
          refine w_iload (pc' := 150) C at_148 rfl rfl ?_
          refine w_if_eq (pcT := 174) (pcF := 153) C at_150 (by decide) (by decide) rfl (fun q => absurd q (by decide)) (fun q150 => ?_)
          refine w_aloadN (pc' := 154) C at_153 rfl rfl rfl ?_
          refine w_callV (Cl := "tallygate/RequestQueue") (pc' := 157) (argsL := []) (st := []) (W := 0) (ce' := 5) (sl' := 56) C (tw hw 39 rfl) (tw hw 40 rfl) (tw hw 42 rfl) (tw hw 41 rfl) (tw hw 2 rfl) (tw hw 43 rfl) (by decide) at_154 rfl rfl (by decide) (by decide) (Nat.le_of_eq rfl) rfl rfl (by decide) (by decide) rfl (lenOf pd_8 rfl) O_a1.1 (ct_isEmpty hw h10 n0 a1 sa2 la2 en10 sz10 O_a1) (kp ?_)
          refine w_iload (pc' := 159) C at_157 rfl rfl ?_
          refine w_if_ne (pcT := 166) (pcF := 162) C at_159 (by decide) (by decide) rfl (fun q159 => ?_) (fun q159 => ?_)
          · skip
            refine w_iconst (pc' := 167) (x := (0 : Int32)) C at_166 rfl rfl ?_
            refine w_icmp_ne (pcT := 174) (pcF := 170) C at_167 (by decide) (by decide) rfl (fun q167 => ?_) (fun q167 => ?_)
            · skip
              first | exact absurd (isE1 _ I10 q159) q167 | exact absurd (isE0 _ I10 q159) q167
            · skip
              refine w_iconst (pc' := 171) (x := (1 : Int32)) C at_170 rfl rfl ?_
              refine w_goto (pc' := 175) C at_171 (by decide) (by decide) ?_
              refine w_istore (pc' := 177) (Ls' := #[.val (.int x0), .val (.int x1), .val (.int x2), .val (.ref a1), .val (.ref a3), .val (.ref a5), .val (.int (1 : Int32)), .val (.int z7), .val (.int z8), .val (.int z10)]) C at_175 rfl rfl ?_
              refine w_iload (pc' := 179) C at_177 rfl rfl ?_
              refine w_retN' (t := .boolean) (z' := (1 : Int32)) C rfl (by simp) at_179 (by decide) (by decide) narB1 ?_
              rfl
          · skip
            refine w_iconst (pc' := 163) (x := (1 : Int32)) C at_162 rfl rfl ?_
            refine w_goto (pc' := 167) C at_163 (by decide) (by decide) ?_
            refine w_icmp_ne (pcT := 174) (pcF := 170) C at_167 (by decide) (by decide) rfl (fun q167 => ?_) (fun q167 => ?_)
            · skip
              first | exact absurd (isE1 _ I10 q159) q167 | exact absurd (isE0 _ I10 q159) q167
            · skip
              refine w_iconst (pc' := 171) (x := (1 : Int32)) C at_170 rfl rfl ?_
              refine w_goto (pc' := 175) C at_171 (by decide) (by decide) ?_
              refine w_istore (pc' := 177) (Ls' := #[.val (.int x0), .val (.int x1), .val (.int x2), .val (.ref a1), .val (.ref a3), .val (.ref a5), .val (.int (1 : Int32)), .val (.int z7), .val (.int z8), .val (.int z10)]) C at_175 rfl rfl ?_
              refine w_iload (pc' := 179) C at_177 rfl rfl ?_
              refine w_retN' (t := .boolean) (z' := (1 : Int32)) C rfl (by simp) at_179 (by decide) (by decide) narB1 ?_
              rfl
  · skip
    refine w_iconst (pc' := 71) (x := (1 : Int32)) C at_70 rfl rfl ?_
    refine w_goto (pc' := 75) C at_71 (by decide) (by decide) ?_
    refine w_icmp_ne (pcT := 82) (pcF := 78) C at_75 (by decide) (by decide) rfl (fun q75 => ?_) (fun q75 => ?_)
    · skip
      first | exact absurd (isE1 _ I7 q67) q75 | exact absurd (isE0 _ I7 q67) q75
    · skip
      refine w_iconst (pc' := 79) (x := (1 : Int32)) C at_78 rfl rfl ?_
      refine w_goto (pc' := 83) C at_79 (by decide) (by decide) ?_
      refine w_istore (pc' := 85) (Ls' := #[.val (.int x0), .val (.int x1), .val (.int x2), .val (.ref a1), .val (.ref a3), .val (.ref a5), .val (.int (1 : Int32)), .val (.int z7), .unset, .unset]) C at_83 rfl rfl ?_
      refine w_aloadN (pc' := 86) C at_85 rfl rfl rfl ?_
      refine w_aload (pc' := 88) C at_86 rfl rfl rfl ?_
      refine w_aload (pc' := 90) C at_88 rfl rfl rfl ?_
      refine w_iload (pc' := 92) C at_90 rfl rfl ?_
      refine w_iloadN (pc' := 93) C at_92 rfl rfl ?_
      refine w_iconst (pc' := 94) (x := (2 : Int32)) C at_93 rfl rfl ?_
      refine w_ishr (pc' := 95) C at_94 rfl ?_
      refine w_iconst (pc' := 96) (x := (3 : Int32)) C at_95 rfl rfl ?_
      refine w_iand (pc' := 97) C at_96 rfl ?_
      refine w_callS (pc' := 100) (argsL := [.ref a1, .ref a3, .ref a5, .int z7, .int ((x0 >>> ((2 : Int32) &&& 31)) &&& (3 : Int32))]) (st := []) (W := 0) (ce' := 5) (sl' := 56) C (tw hw 46 rfl) (tw hw 47 rfl) (tw hw 48 rfl) (tw hw 49 rfl) (by decide) at_97 rfl rfl (by decide) (by decide) (Nat.le_of_eq rfl) rfl rfl (by decide) (by decide) rfl (lenOf pd_9 rfl) (ct_step hw h7 n0 a1 a3 a5 z7 ((x0 >>> ((2 : Int32) &&& 31)) &&& (3 : Int32)) (1 : Int) sa2 la2 sA7 sB7 en7 sz7 (maxI (1 : Int32) x1) (maxI (1 : Int32) x2) s07 s17 s27 ta7 tb7 tc7 hz I7 E7 (by decide) (by decide) O_a1 O_sa2 O_la2 O_a3 O_a5 g_a1 g_sa2 g_la2 g_a3 g_a5 ne_a1_sa2 ne_a1_la2 ne_sa2_la2 (Ne.symm ne_a1_a3) (Ne.symm ne_sa2_a3) (Ne.symm ne_la2_a3) (Ne.symm ne_a1_a5) (Ne.symm ne_sa2_a5) (Ne.symm ne_la2_a5) ne_a3_a5) (kz (fun z11 h11 q11 => ?_))
      obtain ⟨sA11, sB11, en11, sz11, s011, s111, s211, ta11, tb11, tc11, I11, E11, P_q, P_sa, P_la, P_aa, P_bb, K11⟩ := q11
      have hz : n0 ≤ h11.size := Nat.le_trans hz K11.1
      have hk := Keep.app hk K11 (fun x hx => Or.inl hx) (allS (Or.inr fr_a1) (allS (Or.inr fr_sa2) (allS (Or.inr fr_la2) (allS (Or.inr fr_a3) (allS (Or.inr fr_a5) all0)))))
      have O_a1 := P_q
      have O_sa2 := P_sa
      have O_la2 := P_la
      have O_a3 := P_aa
      have O_a5 := P_bb
      refine w_istore (pc' := 102) (Ls' := #[.val (.int x0), .val (.int x1), .val (.int x2), .val (.ref a1), .val (.ref a3), .val (.ref a5), .val (.int (1 : Int32)), .val (.int z7), .val (.int z11), .unset]) C at_100 rfl rfl ?_
      refine w_iload (pc' := 104) C at_102 rfl rfl ?_
      refine w_if_eq (pcT := 128) (pcF := 107) C at_104 (by decide) (by decide) rfl (fun q => absurd q (by decide)) (fun q104 => ?_)
      refine w_aloadN (pc' := 108) C at_107 rfl rfl rfl ?_
      refine w_callV (Cl := "tallygate/RequestQueue") (pc' := 111) (argsL := []) (st := []) (W := 0) (ce' := 5) (sl' := 56) C (tw hw 39 rfl) (tw hw 40 rfl) (tw hw 42 rfl) (tw hw 41 rfl) (tw hw 2 rfl) (tw hw 43 rfl) (by decide) at_108 rfl rfl (by decide) (by decide) (Nat.le_of_eq rfl) rfl rfl (by decide) (by decide) rfl (lenOf pd_8 rfl) O_a1.1 (ct_isEmpty hw h11 n0 a1 sa2 la2 en11 sz11 O_a1) (kp ?_)
      refine w_iload (pc' := 113) C at_111 rfl rfl ?_
      refine w_if_ne (pcT := 120) (pcF := 116) C at_113 (by decide) (by decide) rfl (fun q113 => ?_) (fun q113 => ?_)
      · skip
        refine w_iconst (pc' := 121) (x := (0 : Int32)) C at_120 rfl rfl ?_
        refine w_icmp_ne (pcT := 128) (pcF := 124) C at_121 (by decide) (by decide) rfl (fun q121 => ?_) (fun q121 => ?_)
        · skip
          first | exact absurd (isE1 _ I11 q113) q121 | exact absurd (isE0 _ I11 q113) q121
        · skip
          refine w_iconst (pc' := 125) (x := (1 : Int32)) C at_124 rfl rfl ?_
          refine w_goto (pc' := 129) C at_125 (by decide) (by decide) ?_
          refine w_istore (pc' := 131) (Ls' := #[.val (.int x0), .val (.int x1), .val (.int x2), .val (.ref a1), .val (.ref a3), .val (.ref a5), .val (.int (1 : Int32)), .val (.int z7), .val (.int z11), .unset]) C at_129 rfl rfl ?_
          refine w_aloadN (pc' := 132) C at_131 rfl rfl rfl ?_
          refine w_aload (pc' := 134) C at_132 rfl rfl rfl ?_
          refine w_aload (pc' := 136) C at_134 rfl rfl rfl ?_
          refine w_iload (pc' := 138) C at_136 rfl rfl ?_
          refine w_iloadN (pc' := 139) C at_138 rfl rfl ?_
          refine w_iconst (pc' := 140) (x := (4 : Int32)) C at_139 rfl rfl ?_
          refine w_ishr (pc' := 141) C at_140 rfl ?_
          refine w_iconst (pc' := 142) (x := (3 : Int32)) C at_141 rfl rfl ?_
          refine w_iand (pc' := 143) C at_142 rfl ?_
          refine w_callS (pc' := 146) (argsL := [.ref a1, .ref a3, .ref a5, .int z11, .int ((x0 >>> ((4 : Int32) &&& 31)) &&& (3 : Int32))]) (st := []) (W := 0) (ce' := 5) (sl' := 56) C (tw hw 46 rfl) (tw hw 47 rfl) (tw hw 48 rfl) (tw hw 49 rfl) (by decide) at_143 rfl rfl (by decide) (by decide) (Nat.le_of_eq rfl) rfl rfl (by decide) (by decide) rfl (lenOf pd_9 rfl) (ct_step hw h11 n0 a1 a3 a5 z11 ((x0 >>> ((4 : Int32) &&& 31)) &&& (3 : Int32)) (2 : Int) sa2 la2 sA11 sB11 en11 sz11 (maxI (1 : Int32) x1) (maxI (1 : Int32) x2) s011 s111 s211 ta11 tb11 tc11 hz I11 E11 (by decide) (by decide) O_a1 O_sa2 O_la2 O_a3 O_a5 g_a1 g_sa2 g_la2 g_a3 g_a5 ne_a1_sa2 ne_a1_la2 ne_sa2_la2 (Ne.symm ne_a1_a3) (Ne.symm ne_sa2_a3) (Ne.symm ne_la2_a3) (Ne.symm ne_a1_a5) (Ne.symm ne_sa2_a5) (Ne.symm ne_la2_a5) ne_a3_a5) (kz (fun z12 h12 q12 => ?_))
          obtain ⟨sA12, sB12, en12, sz12, s012, s112, s212, ta12, tb12, tc12, I12, E12, P_q, P_sa, P_la, P_aa, P_bb, K12⟩ := q12
          have hz : n0 ≤ h12.size := Nat.le_trans hz K12.1
          have hk := Keep.app hk K12 (fun x hx => Or.inl hx) (allS (Or.inr fr_a1) (allS (Or.inr fr_sa2) (allS (Or.inr fr_la2) (allS (Or.inr fr_a3) (allS (Or.inr fr_a5) all0)))))
          have O_a1 := P_q
          have O_sa2 := P_sa
          have O_la2 := P_la
          have O_a3 := P_aa
          have O_a5 := P_bb
          refine w_istore (pc' := 148) (Ls' := #[.val (.int x0), .val (.int x1), .val (.int x2), .val (.ref a1), .val (.ref a3), .val (.ref a5), .val (.int (1 : Int32)), .val (.int z7), .val (.int z11), .val (.int z12)]) C at_146 rfl rfl ?_
          refine w_iload (pc' := 150) C at_148 rfl rfl ?_
          refine w_if_eq (pcT := 174) (pcF := 153) C at_150 (by decide) (by decide) rfl (fun q => absurd q (by decide)) (fun q150 => ?_)
          refine w_aloadN (pc' := 154) C at_153 rfl rfl rfl ?_
          refine w_callV (Cl := "tallygate/RequestQueue") (pc' := 157) (argsL := []) (st := []) (W := 0) (ce' := 5) (sl' := 56) C (tw hw 39 rfl) (tw hw 40 rfl) (tw hw 42 rfl) (tw hw 41 rfl) (tw hw 2 rfl) (tw hw 43 rfl) (by decide) at_154 rfl rfl (by decide) (by decide) (Nat.le_of_eq rfl) rfl rfl (by decide) (by decide) rfl (lenOf pd_8 rfl) O_a1.1 (ct_isEmpty hw h12 n0 a1 sa2 la2 en12 sz12 O_a1) (kp ?_)
          refine w_iload (pc' := 159) C at_157 rfl rfl ?_
          refine w_if_ne (pcT := 166) (pcF := 162) C at_159 (by decide) (by decide) rfl (fun q159 => ?_) (fun q159 => ?_)
          · skip
            refine w_iconst (pc' := 167) (x := (0 : Int32)) C at_166 rfl rfl ?_
            refine w_icmp_ne (pcT := 174) (pcF := 170) C at_167 (by decide) (by decide) rfl (fun q167 => ?_) (fun q167 => ?_)
            · skip
              first | exact absurd (isE1 _ I12 q159) q167 | exact absurd (isE0 _ I12 q159) q167
            · skip
              refine w_iconst (pc' := 171) (x := (1 : Int32)) C at_170 rfl rfl ?_
              refine w_goto (pc' := 175) C at_171 (by decide) (by decide) ?_
              refine w_istore (pc' := 177) (Ls' := #[.val (.int x0), .val (.int x1), .val (.int x2), .val (.ref a1), .val (.ref a3), .val (.ref a5), .val (.int (1 : Int32)), .val (.int z7), .val (.int z11), .val (.int z12)]) C at_175 rfl rfl ?_
              refine w_iload (pc' := 179) C at_177 rfl rfl ?_
              refine w_retN' (t := .boolean) (z' := (1 : Int32)) C rfl (by simp) at_179 (by decide) (by decide) narB1 ?_
              rfl
          · skip
            refine w_iconst (pc' := 163) (x := (1 : Int32)) C at_162 rfl rfl ?_
            refine w_goto (pc' := 167) C at_163 (by decide) (by decide) ?_
            refine w_icmp_ne (pcT := 174) (pcF := 170) C at_167 (by decide) (by decide) rfl (fun q167 => ?_) (fun q167 => ?_)
            · skip
              first | exact absurd (isE1 _ I12 q159) q167 | exact absurd (isE0 _ I12 q159) q167
            · skip
              refine w_iconst (pc' := 171) (x := (1 : Int32)) C at_170 rfl rfl ?_
              refine w_goto (pc' := 175) C at_171 (by decide) (by decide) ?_
              refine w_istore (pc' := 177) (Ls' := #[.val (.int x0), .val (.int x1), .val (.int x2), .val (.ref a1), .val (.ref a3), .val (.ref a5), .val (.int (1 : Int32)), .val (.int z7), .val (.int z11), .val (.int z12)]) C at_175 rfl rfl ?_
              refine w_iload (pc' := 179) C at_177 rfl rfl ?_
              refine w_retN' (t := .boolean) (z' := (1 : Int32)) C rfl (by simp) at_179 (by decide) (by decide) narB1 ?_
              rfl
      · skip
        refine w_iconst (pc' := 117) (x := (1 : Int32)) C at_116 rfl rfl ?_
        refine w_goto (pc' := 121) C at_117 (by decide) (by decide) ?_
        refine w_icmp_ne (pcT := 128) (pcF := 124) C at_121 (by decide) (by decide) rfl (fun q121 => ?_) (fun q121 => ?_)
        · skip
          first | exact absurd (isE1 _ I11 q113) q121 | exact absurd (isE0 _ I11 q113) q121
        · skip
          refine w_iconst (pc' := 125) (x := (1 : Int32)) C at_124 rfl rfl ?_
          refine w_goto (pc' := 129) C at_125 (by decide) (by decide) ?_
          refine w_istore (pc' := 131) (Ls' := #[.val (.int x0), .val (.int x1), .val (.int x2), .val (.ref a1), .val (.ref a3), .val (.ref a5), .val (.int (1 : Int32)), .val (.int z7), .val (.int z11), .unset]) C at_129 rfl rfl ?_
          refine w_aloadN (pc' := 132) C at_131 rfl rfl rfl ?_
          refine w_aload (pc' := 134) C at_132 rfl rfl rfl ?_
          refine w_aload (pc' := 136) C at_134 rfl rfl rfl ?_
          refine w_iload (pc' := 138) C at_136 rfl rfl ?_
          refine w_iloadN (pc' := 139) C at_138 rfl rfl ?_
          refine w_iconst (pc' := 140) (x := (4 : Int32)) C at_139 rfl rfl ?_
          refine w_ishr (pc' := 141) C at_140 rfl ?_
          refine w_iconst (pc' := 142) (x := (3 : Int32)) C at_141 rfl rfl ?_
          refine w_iand (pc' := 143) C at_142 rfl ?_
          refine w_callS (pc' := 146) (argsL := [.ref a1, .ref a3, .ref a5, .int z11, .int ((x0 >>> ((4 : Int32) &&& 31)) &&& (3 : Int32))]) (st := []) (W := 0) (ce' := 5) (sl' := 56) C (tw hw 46 rfl) (tw hw 47 rfl) (tw hw 48 rfl) (tw hw 49 rfl) (by decide) at_143 rfl rfl (by decide) (by decide) (Nat.le_of_eq rfl) rfl rfl (by decide) (by decide) rfl (lenOf pd_9 rfl) (ct_step hw h11 n0 a1 a3 a5 z11 ((x0 >>> ((4 : Int32) &&& 31)) &&& (3 : Int32)) (2 : Int) sa2 la2 sA11 sB11 en11 sz11 (maxI (1 : Int32) x1) (maxI (1 : Int32) x2) s011 s111 s211 ta11 tb11 tc11 hz I11 E11 (by decide) (by decide) O_a1 O_sa2 O_la2 O_a3 O_a5 g_a1 g_sa2 g_la2 g_a3 g_a5 ne_a1_sa2 ne_a1_la2 ne_sa2_la2 (Ne.symm ne_a1_a3) (Ne.symm ne_sa2_a3) (Ne.symm ne_la2_a3) (Ne.symm ne_a1_a5) (Ne.symm ne_sa2_a5) (Ne.symm ne_la2_a5) ne_a3_a5) (kz (fun z13 h13 q13 => ?_))
          obtain ⟨sA13, sB13, en13, sz13, s013, s113, s213, ta13, tb13, tc13, I13, E13, P_q, P_sa, P_la, P_aa, P_bb, K13⟩ := q13
          have hz : n0 ≤ h13.size := Nat.le_trans hz K13.1
          have hk := Keep.app hk K13 (fun x hx => Or.inl hx) (allS (Or.inr fr_a1) (allS (Or.inr fr_sa2) (allS (Or.inr fr_la2) (allS (Or.inr fr_a3) (allS (Or.inr fr_a5) all0)))))
          have O_a1 := P_q
          have O_sa2 := P_sa
          have O_la2 := P_la
          have O_a3 := P_aa
          have O_a5 := P_bb
          refine w_istore (pc' := 148) (Ls' := #[.val (.int x0), .val (.int x1), .val (.int x2), .val (.ref a1), .val (.ref a3), .val (.ref a5), .val (.int (1 : Int32)), .val (.int z7), .val (.int z11), .val (.int z13)]) C at_146 rfl rfl ?_
          refine w_iload (pc' := 150) C at_148 rfl rfl ?_
          refine w_if_eq (pcT := 174) (pcF := 153) C at_150 (by decide) (by decide) rfl (fun q => absurd q (by decide)) (fun q150 => ?_)
          refine w_aloadN (pc' := 154) C at_153 rfl rfl rfl ?_
          refine w_callV (Cl := "tallygate/RequestQueue") (pc' := 157) (argsL := []) (st := []) (W := 0) (ce' := 5) (sl' := 56) C (tw hw 39 rfl) (tw hw 40 rfl) (tw hw 42 rfl) (tw hw 41 rfl) (tw hw 2 rfl) (tw hw 43 rfl) (by decide) at_154 rfl rfl (by decide) (by decide) (Nat.le_of_eq rfl) rfl rfl (by decide) (by decide) rfl (lenOf pd_8 rfl) O_a1.1 (ct_isEmpty hw h13 n0 a1 sa2 la2 en13 sz13 O_a1) (kp ?_)
          refine w_iload (pc' := 159) C at_157 rfl rfl ?_
          refine w_if_ne (pcT := 166) (pcF := 162) C at_159 (by decide) (by decide) rfl (fun q159 => ?_) (fun q159 => ?_)
          · skip
            refine w_iconst (pc' := 167) (x := (0 : Int32)) C at_166 rfl rfl ?_
            refine w_icmp_ne (pcT := 174) (pcF := 170) C at_167 (by decide) (by decide) rfl (fun q167 => ?_) (fun q167 => ?_)
            · skip
              first | exact absurd (isE1 _ I13 q159) q167 | exact absurd (isE0 _ I13 q159) q167
            · skip
              refine w_iconst (pc' := 171) (x := (1 : Int32)) C at_170 rfl rfl ?_
              refine w_goto (pc' := 175) C at_171 (by decide) (by decide) ?_
              refine w_istore (pc' := 177) (Ls' := #[.val (.int x0), .val (.int x1), .val (.int x2), .val (.ref a1), .val (.ref a3), .val (.ref a5), .val (.int (1 : Int32)), .val (.int z7), .val (.int z11), .val (.int z13)]) C at_175 rfl rfl ?_
              refine w_iload (pc' := 179) C at_177 rfl rfl ?_
              refine w_retN' (t := .boolean) (z' := (1 : Int32)) C rfl (by simp) at_179 (by decide) (by decide) narB1 ?_
              rfl
          · skip
            refine w_iconst (pc' := 163) (x := (1 : Int32)) C at_162 rfl rfl ?_
            refine w_goto (pc' := 167) C at_163 (by decide) (by decide) ?_
            refine w_icmp_ne (pcT := 174) (pcF := 170) C at_167 (by decide) (by decide) rfl (fun q167 => ?_) (fun q167 => ?_)
            · skip
              first | exact absurd (isE1 _ I13 q159) q167 | exact absurd (isE0 _ I13 q159) q167
            · skip
              refine w_iconst (pc' := 171) (x := (1 : Int32)) C at_170 rfl rfl ?_
              refine w_goto (pc' := 175) C at_171 (by decide) (by decide) ?_
              refine w_istore (pc' := 177) (Ls' := #[.val (.int x0), .val (.int x1), .val (.int x2), .val (.ref a1), .val (.ref a3), .val (.ref a5), .val (.int (1 : Int32)), .val (.int z7), .val (.int z11), .val (.int z13)]) C at_175 rfl rfl ?_
              refine w_iload (pc' := 179) C at_177 rfl rfl ?_
              refine w_retN' (t := .boolean) (z' := (1 : Int32)) C rfl (by simp) at_179 (by decide) (by decide) narB1 ?_
              rfl
theorem q_law {v : Option Value} (q : v = some (.int 1)) : v = some (.int 1) := q
set_option maxRecDepth 65536 in
set_option maxHeartbeats 40000000 in
theorem comes_1 {Post : Tables → Env → Array Value → State → Outcome → State → Prop} (hpost : ∀ tb e args s v u, (limb_1_1.after args s (.returned v) u = true ∧ limb_1_2.after args s (.returned v) u = true ∧ True) → FrameEnd s (.returned v) u (Jvm.fieldLocs frame_1_writes args s ++ Jvm.arrayLocs frame_1_arrays args s ++ Jvm.staticLocs frame_1_statics s) 24 192 → Post tb e args s (.returned v) u) :
    ArmFor flags0 classFile x code maxLocals ret World_1 tables_1 room_1 Calls_1 rest_1 Pre_1 Post := by
  intro l hfl _ _ p e ha hc hk s m args below hf hA hF happ hP
  obtain ⟨hcalls, hrest, hpre⟩ := hP
  obtain ⟨-, -, -, hnamed, -, -, -, hat⟩ := (Spec.applies_iff hf).mp happ
  obtain ⟨hg, hn⟩ := and_e (Cond.before_iff.mp (show (Jvm.Cond.and given_1 narrow_1).before args s = true from hpre))
  obtain ⟨h1, hr0⟩ := and_e hg
  obtain ⟨w0, w1, w2, rfl⟩ : ∃ w0 w1 w2 : Value, args = #[w0, w1, w2] := by
    have hs : args.size = 3 := by simpa [Cond.value, given_1] using h1
    obtain ⟨L⟩ := args
    match L, hs with
    | [w0, w1, w2], _ => exact ⟨w0, w1, w2, rfl⟩
  have hw := fun d (hd : d ∈ tables_1) => atoms_spec (ws := Jvm.Cond.code x code maxLocals ret :: tables_1) hat d (List.mem_cons_of_mem _ hd)
  obtain ⟨hi0, hr1⟩ := and_e hr0
  obtain ⟨i0, e0⟩ := is_v hi0
  obtain rfl : w0 = (.int i0) := Option.some.inj e0
  obtain ⟨hi1, hr2⟩ := and_e hr1
  obtain ⟨i1, e1⟩ := is_v hi1
  obtain rfl : w1 = (.int i1) := Option.some.inj e1
  have hi2 := hr2
  obtain ⟨i2, e2⟩ := is_v hi2
  obtain rfl : w2 = (.int i2) := Option.some.inj e2
  obtain ⟨n, o, h1, h2, h3, _, L, rfl, ⟨q, N⟩, hq⟩ := ct_law (l := l) (Z := s) (a0 := _) hw tables_1 s.heap s.heap.size i0 i1 i2 (Nat.le_refl _) p e ha hc hk s m _ below hf ((Spec.applies_iff_loose hf).mp happ).1 ⟨rfl, State.Warmed39.refl s, rfl⟩ trivial
  have q1 := q_law q
  subst q1
  refine ⟨n, _, h1, h2, h3, hpost _ _ _ _ _ _ ⟨Cond.after_iff.mpr rfl, Cond.after_iff.mpr (eq_i res_at (Term.int_eval (1)) rfl), trivial⟩ ⟨hq.1, hq.2.1, (hq.2.2.sift fun y hy => Or.inr (N y hy)).mono (by decide) (by decide)⟩⟩
theorem main_1_1 : Claimed_1_1 := comes_1 fun _ _ _ _ _ _ h hF => ⟨h.1, hF⟩
theorem main_1_2 : Claimed_1_2 := comes_1 fun _ _ _ _ _ _ h hF => ⟨h.2.1, hF⟩
end Jvm.Pilot.@@N@@
namespace Jvm.Pilot.@@N@@
open Jvm Jvm.ClassFile Sem Op Lib Jvm.Free Jvm.Stand Jvm.Pilot.@@N@@.Jvm.D
/-! MADE BY PROGRAM (witnessworld.py) out of the Statement's table words and the real class files: 15 classes; the members and pool entries that the words name. The judged class is class 1, her method 2. -/
namespace start1
open Jvm.ClassFile
def u (s : String) : CpInfo := .utf8 (stringToUtf16 s)
/-- a pool by its gaps: so many unusable entries, then the entry; so many at the end -/
def gap : Nat → List CpInfo → List CpInfo
  | 0, r => r
  | n + 1, r => .unusable :: gap n r
def poolList (es : List (Nat × CpInfo)) (last : Nat) : List CpInfo := es.foldr (fun e r => gap e.1 (e.2 :: r)) (gap last [])
def pool (es : List (Nat × CpInfo)) (last : Nat) : Array CpInfo := ⟨poolList es last⟩
def fileOf (pool : Array CpInfo) (this : Nat) (attrs : Array Attribute := #[]) (ms : Array MethodInfo := #[]) (fl : Nat := 33) (sup : Nat := 0) (ifs : Array Nat := #[]) (fds : Array FieldInfo := #[]) : ClassFile where
  minorVersion := 0
  majorVersion := 65
  constantPool := pool
  accessFlags := fl
  thisClass := this
  superClass := sup
  interfaces := ifs
  fields := fds
  methods := ms
  attributes := attrs
def plain (name : String) (sup : Option ClassId) : Class where
  name := name
  kind := .ordinary
  loader := none
  accessFlags := 33
  super := sup
  interfaces := #[]
  cf := none
  fields := #[]
  methods := #[]
  instanceTypes := #[]
  staticTypes := #[]
  resolved := #[]
  callSites := []
  init := .initialized
  statics := none
  mirror := none

def pool0 : Array CpInfo := pool [(5, u "<init>"), (0, u "()V"), (1, .class_ 10), (1, u "java/lang/Object")] 113

def k0c0 : Code := { maxStack := 0, maxLocals := 1, code := object_method_1_code, exceptionTable := #[], attributes := #[] }
def k0m0 : Method := { name := "<init>", desc := "()V", sig := { parameters := [], returnType := none }, accessFlags := 1, code := some k0c0 }
/-- java/lang/Object -/
def k0 : Class := { plain "java/lang/Object" none with
  accessFlags := 33
  interfaces := #[]
  cf := some (fileOf pool0 8 #[] #[{ accessFlags := 1, nameIndex := 5, descriptorIndex := 6, attributes := #[] }] 33 0 #[] #[])
  fields := #[]
  methods := #[k0m0]
  instanceTypes := #[]
  staticTypes := #[]
  resolved := Array.replicate 124 none
  statics := none }

def pool1 : Array CpInfo := pool [(2, .class_ 4), (0, .nameAndType 5 6), (0, u "java/lang/Object"), (0, u "<init>"), (0, u "()V"), (0, .methodref 8 9), (0, .class_ 10), (0, .nameAndType 11 12), (0, u "tallygate/RequestQueue"), (0, u "remove"), (0, u "(Ltallygate/RequestQueue$Entry;)V"), (0, .methodref 8 14), (0, .nameAndType 15 12), (0, u "add"), (0, .methodref 8 3), (0, .class_ 18), (0, u "tallygate/RequestQueue$Entry"), (0, .methodref 20 21), (0, .class_ 22), (0, .nameAndType 23 24), (0, u "java/lang/Math"), (0, u "max"), (0, u "(II)I"), (0, .methodref 17 26), (0, .nameAndType 5 27), (0, u "(I)V"), (0, .methodref 8 29), (0, .nameAndType 30 31), (0, u "isEmpty"), (0, u "()Z"), (0, .methodref 33 34), (0, .class_ 35), (0, .nameAndType 36 37), (0, u "tallygate/RequestQueueIsEmptyPinLaw"), (0, u "step"), (0, u "(Ltallygate/RequestQueue;Ltallygate/RequestQueue$Entry;Ltallygate/RequestQueue$Entry;II)I"), (5, u "law"), (0, u "(III)Z")] 4

def k1m0 : Method := { name := "<init>", desc := "()V", sig := { parameters := [], returnType := none }, accessFlags := 1, code := none }
def k1c1 : Code := { maxStack := 3, maxLocals := 9, code := method_2_code, exceptionTable := #[], attributes := #[] }
def k1m1 : Method := { name := "step", desc := "(Ltallygate/RequestQueue;Ltallygate/RequestQueue$Entry;Ltallygate/RequestQueue$Entry;II)I", sig := { parameters := [(.object "tallygate/RequestQueue"), (.object "tallygate/RequestQueue$Entry"), (.object "tallygate/RequestQueue$Entry"), .int, .int], returnType := some .int }, accessFlags := 10, code := some k1c1 }
def k1c2 : Code := { maxStack := 6, maxLocals := 10, code := code, exceptionTable := #[], attributes := #[] }
def k1m2 : Method := { name := "law", desc := "(III)Z", sig := { parameters := [.int, .int, .int], returnType := some .boolean }, accessFlags := 9, code := some k1c2 }
/-- tallygate/RequestQueueIsEmptyPinLaw -/
def k1 : Class := { plain "tallygate/RequestQueueIsEmptyPinLaw" (some 0) with
  accessFlags := 49
  interfaces := #[]
  cf := some (fileOf pool1 33 #[] #[{ accessFlags := 1, nameIndex := 5, descriptorIndex := 6, attributes := #[] }, { accessFlags := 10, nameIndex := 36, descriptorIndex := 37, attributes := #[] }, { accessFlags := 9, nameIndex := 43, descriptorIndex := 44, attributes := #[] }] 49 2 #[] #[])
  fields := #[]
  methods := #[k1m0, k1m1, k1m2]
  instanceTypes := #[]
  staticTypes := #[]
  resolved := Array.replicate 49 none
  statics := none }

def pool2 : Array CpInfo := pool [(3, .methodref 4 5), (0, .class_ 6), (0, .nameAndType 7 8), (0, u "java/lang/Object"), (0, u "<init>"), (0, u "()V"), (0, .class_ 10), (0, u "tallygate/RequestQueue"), (0, .class_ 12), (0, u "tallygate/RequestQueue$Entry"), (0, .fieldref 9 14), (0, .nameAndType 15 16), (0, u "slots"), (0, u "[Ltallygate/RequestQueue$Entry;"), (0, .methodref 9 18), (0, .nameAndType 19 20), (0, u "emptyTree"), (0, u "(I)[J"), (0, .fieldref 9 22), (0, .nameAndType 23 24), (0, u "least"), (0, u "[J"), (0, .fieldref 9 26), (0, .nameAndType 27 28), (0, u "end"), (0, u "I"), (3, .fieldref 11 33), (0, .nameAndType 34 28), (0, u "slot"), (0, .fieldref 11 36), (0, .nameAndType 37 28), (0, u "permits"), (0, .methodref 9 39), (0, .nameAndType 40 41), (0, u "setLeaf"), (0, u "(IJ)V"), (0, .fieldref 9 43), (0, .nameAndType 44 28), (0, u "size"), (0, .long 9223372036854775807), (11, .methodref 58 59), (0, .class_ 60), (0, .nameAndType 61 62), (0, u "java/lang/Math"), (0, u "min"), (0, u "(JJ)J"), (8, .methodref 72 73), (0, .class_ 74), (0, .nameAndType 75 76), (0, u "java/util/Arrays"), (0, u "fill"), (0, u "([JJ)V"), (0, u "FIRST_CAPACITY"), (2, u "EMPTY"), (0, u "J"), (0, u "NOT_QUEUED"), (3, u "add"), (0, u "(Ltallygate/RequestQueue$Entry;)V"), (3, u "remove"), (0, u "isEmpty"), (0, u "()Z")] 11

def k2c0 : Code := { maxStack := 2, maxLocals := 1, code := prog_14_method_1_code, exceptionTable := #[], attributes := #[] }
def k2m0 : Method := { name := "<init>", desc := "()V", sig := { parameters := [], returnType := none }, accessFlags := 0, code := some k2c0 }
def k2c1 : Code := { maxStack := 4, maxLocals := 3, code := prog_14_method_2_code, exceptionTable := #[], attributes := #[] }
def k2m1 : Method := { name := "add", desc := "(Ltallygate/RequestQueue$Entry;)V", sig := { parameters := [(.object "tallygate/RequestQueue$Entry")], returnType := none }, accessFlags := 0, code := some k2c1 }
def k2c2 : Code := { maxStack := 4, maxLocals := 4, code := prog_14_method_3_code, exceptionTable := #[], attributes := #[] }
def k2m2 : Method := { name := "remove", desc := "(Ltallygate/RequestQueue$Entry;)V", sig := { parameters := [(.object "tallygate/RequestQueue$Entry")], returnType := none }, accessFlags := 0, code := some k2c2 }
def k2c3 : Code := { maxStack := 1, maxLocals := 1, code := prog_14_method_4_code, exceptionTable := #[], attributes := #[] }
def k2m3 : Method := { name := "isEmpty", desc := "()Z", sig := { parameters := [], returnType := some .boolean }, accessFlags := 0, code := some k2c3 }
def k2c4 : Code := { maxStack := 5, maxLocals := 7, code := prog_14_method_8_code, exceptionTable := #[], attributes := #[] }
def k2m4 : Method := { name := "setLeaf", desc := "(IJ)V", sig := { parameters := [.int, .long], returnType := none }, accessFlags := 2, code := some k2c4 }
def k2c5 : Code := { maxStack := 3, maxLocals := 2, code := prog_14_method_10_code, exceptionTable := #[], attributes := #[] }
def k2m5 : Method := { name := "emptyTree", desc := "(I)[J", sig := { parameters := [.int], returnType := some (.array .long) }, accessFlags := 10, code := some k2c5 }
/-- tallygate/RequestQueue -/
def k2 : Class := { plain "tallygate/RequestQueue" (some 0) with
  accessFlags := 48
  interfaces := #[]
  cf := some (fileOf pool2 9 #[.nestMembers #[11]] #[{ accessFlags := 0, nameIndex := 7, descriptorIndex := 8, attributes := #[] }, { accessFlags := 0, nameIndex := 86, descriptorIndex := 87, attributes := #[] }, { accessFlags := 0, nameIndex := 91, descriptorIndex := 87, attributes := #[] }, { accessFlags := 0, nameIndex := 92, descriptorIndex := 93, attributes := #[] }, { accessFlags := 2, nameIndex := 40, descriptorIndex := 41, attributes := #[] }, { accessFlags := 10, nameIndex := 19, descriptorIndex := 20, attributes := #[] }] 48 4 #[] #[{ accessFlags := 26, nameIndex := 77, descriptorIndex := 28, attributes := #[] }, { accessFlags := 26, nameIndex := 80, descriptorIndex := 81, attributes := #[] }, { accessFlags := 26, nameIndex := 82, descriptorIndex := 28, attributes := #[] }, { accessFlags := 2, nameIndex := 15, descriptorIndex := 16, attributes := #[] }, { accessFlags := 2, nameIndex := 23, descriptorIndex := 24, attributes := #[] }, { accessFlags := 2, nameIndex := 27, descriptorIndex := 28, attributes := #[] }, { accessFlags := 2, nameIndex := 44, descriptorIndex := 28, attributes := #[] }])
  fields := #[{ name := "FIRST_CAPACITY", type := .int, accessFlags := 26, slot := 0, constantValue := 0 }, { name := "EMPTY", type := .long, accessFlags := 26, slot := 1, constantValue := 0 }, { name := "NOT_QUEUED", type := .int, accessFlags := 26, slot := 2, constantValue := 0 }, { name := "slots", type := (.array (.object "tallygate/RequestQueue$Entry")), accessFlags := 2, slot := 0, constantValue := 0 }, { name := "least", type := (.array .long), accessFlags := 2, slot := 1, constantValue := 0 }, { name := "end", type := .int, accessFlags := 2, slot := 2, constantValue := 0 }, { name := "size", type := .int, accessFlags := 2, slot := 3, constantValue := 0 }]
  methods := #[k2m0, k2m1, k2m2, k2m3, k2m4, k2m5]
  instanceTypes := #[(.array (.object "tallygate/RequestQueue$Entry")), (.array .long), .int, .int]
  staticTypes := #[.int, .long, .int]
  resolved := (Array.replicate 105 none).setIfInBounds 32 (some (.field 3 1))
  statics := none }

def pool3 : Array CpInfo := pool [(1, .class_ 2), (0, u "tallygate/RequestQueue"), (0, .methodref 4 5), (0, .class_ 6), (0, .nameAndType 7 8), (0, u "java/lang/Object"), (0, u "<init>"), (0, u "()V"), (0, .fieldref 10 11), (0, .class_ 12), (0, .nameAndType 13 14), (0, u "tallygate/RequestQueue$Entry"), (0, u "slot"), (0, u "I"), (0, .fieldref 10 16), (0, .nameAndType 17 14), (0, u "permits"), (0, u "(I)V")] 7

def k3c0 : Code := { maxStack := 2, maxLocals := 2, code := prog_15_method_1_code, exceptionTable := #[], attributes := #[] }
def k3m0 : Method := { name := "<init>", desc := "(I)V", sig := { parameters := [.int], returnType := none }, accessFlags := 0, code := some k3c0 }
/-- tallygate/RequestQueue$Entry -/
def k3 : Class := { plain "tallygate/RequestQueue$Entry" (some 0) with
  accessFlags := 32
  interfaces := #[]
  cf := some (fileOf pool3 10 #[.nestHost 1] #[{ accessFlags := 0, nameIndex := 7, descriptorIndex := 18, attributes := #[] }] 32 4 #[] #[{ accessFlags := 16, nameIndex := 17, descriptorIndex := 14, attributes := #[] }, { accessFlags := 2, nameIndex := 13, descriptorIndex := 14, attributes := #[] }])
  fields := #[{ name := "permits", type := .int, accessFlags := 16, slot := 0, constantValue := 0 }, { name := "slot", type := .int, accessFlags := 2, slot := 1, constantValue := 0 }]
  methods := #[k3m0]
  instanceTypes := #[.int, .int]
  staticTypes := #[]
  resolved := Array.replicate 26 none
  statics := none }

def pool4 : Array CpInfo := pool [(2, .class_ 4), (1, u "java/lang/Object"), (0, u "<init>"), (0, u "()V"), (7, .class_ 16), (1, u "java/util/Arrays"), (57, .class_ 76), (1, u "java/util/Arrays$NaturalOrder"), (36, .class_ 115), (1, u "java/util/Arrays$LegacyMergeSort"), (1, u "Z"), (257, .class_ 376), (0, u "java/util/Arrays$ArrayList"), (68, u "$assertionsDisabled"), (269, u "MIN_ARRAY_SORT_GRAN"), (0, u "I"), (2, u "INSERTIONSORT_THRESHOLD"), (120, u "fill"), (0, u "([JJ)V"), (133, .class_ 976), (0, u "java/util/Arrays$ArrayItr")] 52

def k4m0 : Method := { name := "<init>", desc := "()V", sig := { parameters := [], returnType := none }, accessFlags := 2, code := none }
def k4c1 : Code := { maxStack := 4, maxLocals := 5, code := jdk_65_method_101_code, exceptionTable := #[], attributes := #[] }
def k4m1 : Method := { name := "fill", desc := "([JJ)V", sig := { parameters := [(.array .long), .long], returnType := none }, accessFlags := 9, code := some k4c1 }
/-- java/util/Arrays -/
def k4 : Class := { plain "java/util/Arrays" (some 0) with
  accessFlags := 49
  interfaces := #[]
  cf := some (fileOf pool4 14 #[.nestMembers #[975, 375, 113, 74]] #[{ accessFlags := 2, nameIndex := 5, descriptorIndex := 6, attributes := #[] }, { accessFlags := 9, nameIndex := 840, descriptorIndex := 841, attributes := #[] }] 49 2 #[] #[{ accessFlags := 26, nameIndex := 715, descriptorIndex := 716, attributes := #[] }, { accessFlags := 26, nameIndex := 719, descriptorIndex := 716, attributes := #[] }, { accessFlags := 4120, nameIndex := 445, descriptorIndex := 117, attributes := #[] }])
  fields := #[{ name := "MIN_ARRAY_SORT_GRAN", type := .int, accessFlags := 26, slot := 0, constantValue := 0 }, { name := "INSERTIONSORT_THRESHOLD", type := .int, accessFlags := 26, slot := 1, constantValue := 0 }, { name := "$assertionsDisabled", type := .boolean, accessFlags := 4120, slot := 2, constantValue := 0 }]
  methods := #[k4m0, k4m1]
  instanceTypes := #[]
  staticTypes := #[.int, .int, .boolean]
  resolved := Array.replicate 1029 none
  statics := none }

def pool5 : Array CpInfo := pool [(1, .class_ 2), (0, u "java/lang/Math"), (1, .class_ 6), (1, u "java/lang/Object"), (0, u "<init>"), (0, u "()V"), (89, .class_ 100), (1, u "java/lang/Math$RandomNumberGeneratorHolder"), (20, u "(JJ)J"), (50, u "negativeZeroFloatBits"), (0, u "J"), (2, u "negativeZeroDoubleBits"), (21, u "max"), (2, u "min"), (43, u "$assertionsDisabled"), (0, u "Z"), (88, u "(II)I"), (2, u "twoToTheDoubleScaleDown"), (0, u "D"), (4, u "twoToTheDoubleScaleUp"), (9, u "E"), (3, u "PI"), (2, u "TAU"), (2, u "DEGREES_TO_RADIANS"), (0, u "RADIANS_TO_DEGREES")] 94

def k5m0 : Method := { name := "<init>", desc := "()V", sig := { parameters := [], returnType := none }, accessFlags := 2, code := none }
def k5c1 : Code := { maxStack := 2, maxLocals := 2, code := jdk_29_method_65_code, exceptionTable := #[], attributes := #[] }
def k5m1 : Method := { name := "max", desc := "(II)I", sig := { parameters := [.int, .int], returnType := some .int }, accessFlags := 9, code := some k5c1 }
def k5c2 : Code := { maxStack := 4, maxLocals := 4, code := jdk_29_method_70_code, exceptionTable := #[], attributes := #[] }
def k5m2 : Method := { name := "min", desc := "(JJ)J", sig := { parameters := [.long, .long], returnType := some .long }, accessFlags := 9, code := some k5c2 }
/-- java/lang/Math -/
def k5 : Class := { plain "java/lang/Math" (some 0) with
  accessFlags := 49
  interfaces := #[]
  cf := some (fileOf pool5 1 #[.nestMembers #[98]] #[{ accessFlags := 2, nameIndex := 7, descriptorIndex := 8, attributes := #[] }, { accessFlags := 9, nameIndex := 198, descriptorIndex := 335, attributes := #[] }, { accessFlags := 9, nameIndex := 201, descriptorIndex := 121, attributes := #[] }] 49 4 #[] #[{ accessFlags := 25, nameIndex := 354, descriptorIndex := 339, attributes := #[] }, { accessFlags := 25, nameIndex := 358, descriptorIndex := 339, attributes := #[] }, { accessFlags := 25, nameIndex := 361, descriptorIndex := 339, attributes := #[] }, { accessFlags := 26, nameIndex := 364, descriptorIndex := 339, attributes := #[] }, { accessFlags := 26, nameIndex := 365, descriptorIndex := 339, attributes := #[] }, { accessFlags := 26, nameIndex := 172, descriptorIndex := 173, attributes := #[] }, { accessFlags := 26, nameIndex := 176, descriptorIndex := 173, attributes := #[] }, { accessFlags := 8, nameIndex := 344, descriptorIndex := 339, attributes := #[] }, { accessFlags := 8, nameIndex := 338, descriptorIndex := 339, attributes := #[] }, { accessFlags := 4120, nameIndex := 245, descriptorIndex := 246, attributes := #[] }])
  fields := #[{ name := "E", type := .double, accessFlags := 25, slot := 0, constantValue := 0 }, { name := "PI", type := .double, accessFlags := 25, slot := 1, constantValue := 0 }, { name := "TAU", type := .double, accessFlags := 25, slot := 2, constantValue := 0 }, { name := "DEGREES_TO_RADIANS", type := .double, accessFlags := 26, slot := 3, constantValue := 0 }, { name := "RADIANS_TO_DEGREES", type := .double, accessFlags := 26, slot := 4, constantValue := 0 }, { name := "negativeZeroFloatBits", type := .long, accessFlags := 26, slot := 5, constantValue := 0 }, { name := "negativeZeroDoubleBits", type := .long, accessFlags := 26, slot := 6, constantValue := 0 }, { name := "twoToTheDoubleScaleUp", type := .double, accessFlags := 8, slot := 7, constantValue := 0 }, { name := "twoToTheDoubleScaleDown", type := .double, accessFlags := 8, slot := 8, constantValue := 0 }, { name := "$assertionsDisabled", type := .boolean, accessFlags := 4120, slot := 9, constantValue := 0 }]
  methods := #[k5m0, k5m1, k5m2]
  instanceTypes := #[]
  staticTypes := #[.double, .double, .double, .double, .double, .long, .long, .double, .double, .boolean]
  resolved := Array.replicate 460 none
  statics := none }

def pool6 : Array CpInfo := pool [(1, u "java/lang/Cloneable"), (0, .class_ 1), (0, u "java/lang/Object"), (0, .class_ 3)] 3

/-- java/lang/Cloneable -/
def k6 : Class := { plain "java/lang/Cloneable" (some 0) with
  accessFlags := 1537
  interfaces := #[]
  cf := some (fileOf pool6 2 #[] #[] 1537 4 #[] #[])
  fields := #[]
  methods := #[]
  instanceTypes := #[]
  staticTypes := #[]
  resolved := Array.replicate 8 none
  statics := none }

def pool7 : Array CpInfo := pool [(1, u "java/io/Serializable"), (0, .class_ 1), (0, u "java/lang/Object"), (0, .class_ 3)] 3

/-- java/io/Serializable -/
def k7 : Class := { plain "java/io/Serializable" (some 0) with
  accessFlags := 1537
  interfaces := #[]
  cf := some (fileOf pool7 2 #[] #[] 1537 4 #[] #[])
  fields := #[]
  methods := #[]
  instanceTypes := #[]
  staticTypes := #[]
  resolved := Array.replicate 8 none
  statics := none }

/-- the primitive byte -/
def k8 : Class := { plain "byte" none with kind := .primitive 'B', accessFlags := 0x411 }
/-- [B -/
def k9 : Class := { plain "[B" (some 0) with kind := .array 8 .byte, interfaces := #[6, 7], accessFlags := 1041 }

/-- the primitive int -/
def k10 : Class := { plain "int" none with kind := .primitive 'I', accessFlags := 0x411 }
/-- [I -/
def k11 : Class := { plain "[I" (some 0) with kind := .array 10 .int, interfaces := #[6, 7], accessFlags := 1041 }

/-- the primitive long -/
def k12 : Class := { plain "long" none with kind := .primitive 'J', accessFlags := 0x411 }
/-- [J -/
def k13 : Class := { plain "[J" (some 0) with kind := .array 12 .long, interfaces := #[6, 7], accessFlags := 1041 }

/-- [Ltallygate/RequestQueue$Entry; -/
def k14 : Class := { plain "[Ltallygate/RequestQueue$Entry;" (some 0) with kind := .array 3 (.object "tallygate/RequestQueue$Entry"), interfaces := #[6, 7], accessFlags := 1041 }

def heap : Heap := #[]
def classes : Array Class := #[k0, k1, k2, k3, k4, k5, k6, k7, k8, k9, k10, k11, k12, k13, k14]
def interned : List (Array UInt16 × Addr) := []
def slotsUsed : Nat := 0
def theMethod : MethodId := ⟨1, 2⟩
def args0 : Array Value := #[.int 5, .int 6, .int 7]
def aboutOver (below : List Frame) : State where
  vm := { classes := classes, interned := interned.toArray }
  heap := heap
  slotsUsed := slotsUsed
  threads := #[{ frames := .invoking theMethod args0 :: below }]
def below0 : List Frame := [.native { method := ⟨0, 0⟩, args := #[] }]
def about1 : State := aboutOver below0
def p0 : Program := .bare "" "" ""
def e0 : Env := launch0.env 0 0 0
theorem w_frames : about1.frames = Frame.invoking theMethod args0 :: below0 := rfl
set_option maxRecDepth 65536 in
theorem w_args : argsFit about1.vm theMethod args0 = true := by decide +kernel
set_option maxRecDepth 65536 in
theorem w_heap : heapFits about1 = true := by decide +kernel
set_option maxRecDepth 65536 in
theorem w_runnable : about1.curStatus? = some .runnable := by decide +kernel
set_option maxRecDepth 65536 in
theorem w_alone : about1.alone = true := by decide +kernel
set_option maxRecDepth 65536 in
theorem w_named : about1.methodNamed? x = some theMethod := by decide +kernel
set_option maxRecDepth 65536 in
theorem w_hears : about1.hears theMethod below0 = true := by decide +kernel
set_option maxRecDepth 65536 in
theorem w_ripe : about1.ripe theMethod args0 below0 = true := by decide +kernel
theorem w_running : about1.status = .running := rfl
set_option maxRecDepth 65536 in
theorem w_room : about1.hasRoom e0.platform room_1 = true :=
  launch0.hasRoom_least _ room_1 (by decide +kernel) (by decide +kernel) (by decide +kernel) (by decide +kernel) (by decide +kernel) (by decide +kernel)
theorem allAtoms_all (ts : List Jvm.Cond) (a : Array Jvm.Value) (st : Jvm.State) : (allAtoms ts).before a st = ts.all (fun c => c.before a st) := by
  induction ts with
  | nil => rfl
  | cons c t ih =>
    show (Jvm.Cond.and c (allAtoms t)).before a st = _
    rw [Jvm.Cond.before_and, ih, List.all_cons]
def words1 : List Jvm.Cond := Jvm.Cond.code x code maxLocals ret :: tables_1
/-- a 'code' word, met by the world's own term for the bytes: nothing is compared byte by byte -/
theorem code_word {y : MethodName} {bytes : ByteArray} {mx : Nat} {rt : Option FieldType} {a : Array Value} {s : State} {m : MethodId} {meth : Method} {c : Code} (h1 : s.methodNamed? y = some m) (h2 : s.vm.method? m = some meth) (h3 : meth.code = some c) (h4 : c.code = bytes)
    (h5 : (c.maxLocals == mx && c.exceptionTable.isEmpty && decide (c.maxStack ≤ mostOperands) && decide (meth.sig.returnType = rt) && !meth.locks && decide (parseMethodDescriptor y.desc = some meth.sig)) = true) : (Jvm.Cond.code y bytes mx rt).before a s = true := by
  simp only [Bool.and_eq_true, beq_iff_eq, Bool.not_eq_true', decide_eq_true_eq] at h5
  obtain ⟨⟨⟨⟨⟨g1, g2⟩, g3⟩, g4⟩, g5⟩, g6⟩ := h5
  simp [Cond.before, Cond.holds, Cond.value, h1, h2, h3, h4, g1, g2, g3, g4, g5, g6]
def isCode : Jvm.Cond → Bool
  | .code _ _ _ _ => true
  | _ => false
theorem all_split {L : List Jvm.Cond} {P : Jvm.Cond → Bool} (h1 : L.all (fun c => isCode c || P c) = true) (h2 : ∀ c ∈ L.filter isCode, P c = true) : L.all P = true := by
  refine List.all_eq_true.mpr fun c hc => ?_
  have h := List.all_eq_true.mp h1 c hc
  rcases Bool.eq_false_or_eq_true (isCode c) with hi | hi
  · exact h2 c (List.mem_filter.mpr ⟨hc, hi⟩)
  · simpa [hi] using h
set_option maxRecDepth 65536 in
theorem w_c0 : (Jvm.Cond.code x code maxLocals ret).before args0 about1 = true := code_word (m := ⟨1, 2⟩) (meth := k1m2) (c := k1c2) (by decide +kernel) rfl rfl rfl (by decide +kernel)
set_option maxRecDepth 65536 in
theorem w_c1 : (Jvm.Cond.code ({ cls := "tallygate/RequestQueue", name := "<init>", desc := "()V" } : Jvm.MethodName) prog_14_method_1_code (1 : Nat) (Option.none : Option Jvm.ClassFile.FieldType)).before args0 about1 = true := code_word (m := ⟨2, 0⟩) (meth := k2m0) (c := k2c0) (by decide +kernel) rfl rfl rfl (by decide +kernel)
set_option maxRecDepth 65536 in
theorem w_c2 : (Jvm.Cond.code ({ cls := "java/lang/Object", name := "<init>", desc := "()V" } : Jvm.MethodName) object_method_1_code (1 : Nat) (Option.none : Option Jvm.ClassFile.FieldType)).before args0 about1 = true := code_word (m := ⟨0, 0⟩) (meth := k0m0) (c := k0c0) (by decide +kernel) rfl rfl rfl (by decide +kernel)
set_option maxRecDepth 65536 in
theorem w_c3 : (Jvm.Cond.code ({ cls := "tallygate/RequestQueue", name := "emptyTree", desc := "(I)[J" } : Jvm.MethodName) prog_14_method_10_code (2 : Nat) (Option.some (Jvm.ClassFile.FieldType.array Jvm.ClassFile.FieldType.long))).before args0 about1 = true := code_word (m := ⟨2, 5⟩) (meth := k2m5) (c := k2c5) (by decide +kernel) rfl rfl rfl (by decide +kernel)
set_option maxRecDepth 65536 in
theorem w_c4 : (Jvm.Cond.code ({ cls := "java/util/Arrays", name := "fill", desc := "([JJ)V" } : Jvm.MethodName) jdk_65_method_101_code (5 : Nat) (Option.none : Option Jvm.ClassFile.FieldType)).before args0 about1 = true := code_word (m := ⟨4, 1⟩) (meth := k4m1) (c := k4c1) (by decide +kernel) rfl rfl rfl (by decide +kernel)
set_option maxRecDepth 65536 in
theorem w_c5 : (Jvm.Cond.code ({ cls := "java/lang/Math", name := "max", desc := "(II)I" } : Jvm.MethodName) jdk_29_method_65_code (2 : Nat) (Option.some Jvm.ClassFile.FieldType.int)).before args0 about1 = true := code_word (m := ⟨5, 1⟩) (meth := k5m1) (c := k5c1) (by decide +kernel) rfl rfl rfl (by decide +kernel)
set_option maxRecDepth 65536 in
theorem w_c6 : (Jvm.Cond.code ({ cls := "tallygate/RequestQueue$Entry", name := "<init>", desc := "(I)V" } : Jvm.MethodName) prog_15_method_1_code (2 : Nat) (Option.none : Option Jvm.ClassFile.FieldType)).before args0 about1 = true := code_word (m := ⟨3, 0⟩) (meth := k3m0) (c := k3c0) (by decide +kernel) rfl rfl rfl (by decide +kernel)
set_option maxRecDepth 65536 in
theorem w_c7 : (Jvm.Cond.code ({ cls := "tallygate/RequestQueue", name := "isEmpty", desc := "()Z" } : Jvm.MethodName) prog_14_method_4_code (1 : Nat) (Option.some Jvm.ClassFile.FieldType.boolean)).before args0 about1 = true := code_word (m := ⟨2, 3⟩) (meth := k2m3) (c := k2c3) (by decide +kernel) rfl rfl rfl (by decide +kernel)
set_option maxRecDepth 65536 in
theorem w_c8 : (Jvm.Cond.code ({ cls := "tallygate/RequestQueueIsEmptyPinLaw", name := "step", desc := "(Ltallygate/RequestQueue;Ltallygate/RequestQueue$Entry;Ltallygate/RequestQueue$Entry;II)I" } : Jvm.MethodName) method_2_code (9 : Nat) (Option.some Jvm.ClassFile.FieldType.int)).before args0 about1 = true := code_word (m := ⟨1, 1⟩) (meth := k1m1) (c := k1c1) (by decide +kernel) rfl rfl rfl (by decide +kernel)
set_option maxRecDepth 65536 in
theorem w_c9 : (Jvm.Cond.code ({ cls := "tallygate/RequestQueue", name := "add", desc := "(Ltallygate/RequestQueue$Entry;)V" } : Jvm.MethodName) prog_14_method_2_code (3 : Nat) (Option.none : Option Jvm.ClassFile.FieldType)).before args0 about1 = true := code_word (m := ⟨2, 1⟩) (meth := k2m1) (c := k2c1) (by decide +kernel) rfl rfl rfl (by decide +kernel)
set_option maxRecDepth 65536 in
theorem w_c10 : (Jvm.Cond.code ({ cls := "tallygate/RequestQueue", name := "setLeaf", desc := "(IJ)V" } : Jvm.MethodName) prog_14_method_8_code (7 : Nat) (Option.none : Option Jvm.ClassFile.FieldType)).before args0 about1 = true := code_word (m := ⟨2, 4⟩) (meth := k2m4) (c := k2c4) (by decide +kernel) rfl rfl rfl (by decide +kernel)
set_option maxRecDepth 65536 in
theorem w_c11 : (Jvm.Cond.code ({ cls := "java/lang/Math", name := "min", desc := "(JJ)J" } : Jvm.MethodName) jdk_29_method_70_code (4 : Nat) (Option.some Jvm.ClassFile.FieldType.long)).before args0 about1 = true := code_word (m := ⟨5, 2⟩) (meth := k5m2) (c := k5c2) (by decide +kernel) rfl rfl rfl (by decide +kernel)
set_option maxRecDepth 65536 in
theorem w_c12 : (Jvm.Cond.code ({ cls := "tallygate/RequestQueue", name := "remove", desc := "(Ltallygate/RequestQueue$Entry;)V" } : Jvm.MethodName) prog_14_method_3_code (4 : Nat) (Option.none : Option Jvm.ClassFile.FieldType)).before args0 about1 = true := code_word (m := ⟨2, 2⟩) (meth := k2m2) (c := k2c2) (by decide +kernel) rfl rfl rfl (by decide +kernel)
def codes1 : List Jvm.Cond := [Jvm.Cond.code x code maxLocals ret, Jvm.Cond.code ({ cls := "tallygate/RequestQueue", name := "<init>", desc := "()V" } : Jvm.MethodName) prog_14_method_1_code (1 : Nat) (Option.none : Option Jvm.ClassFile.FieldType), Jvm.Cond.code ({ cls := "java/lang/Object", name := "<init>", desc := "()V" } : Jvm.MethodName) object_method_1_code (1 : Nat) (Option.none : Option Jvm.ClassFile.FieldType), Jvm.Cond.code ({ cls := "tallygate/RequestQueue", name := "emptyTree", desc := "(I)[J" } : Jvm.MethodName) prog_14_method_10_code (2 : Nat) (Option.some (Jvm.ClassFile.FieldType.array Jvm.ClassFile.FieldType.long)), Jvm.Cond.code ({ cls := "java/util/Arrays", name := "fill", desc := "([JJ)V" } : Jvm.MethodName) jdk_65_method_101_code (5 : Nat) (Option.none : Option Jvm.ClassFile.FieldType), Jvm.Cond.code ({ cls := "java/lang/Math", name := "max", desc := "(II)I" } : Jvm.MethodName) jdk_29_method_65_code (2 : Nat) (Option.some Jvm.ClassFile.FieldType.int), Jvm.Cond.code ({ cls := "tallygate/RequestQueue$Entry", name := "<init>", desc := "(I)V" } : Jvm.MethodName) prog_15_method_1_code (2 : Nat) (Option.none : Option Jvm.ClassFile.FieldType), Jvm.Cond.code ({ cls := "tallygate/RequestQueue", name := "isEmpty", desc := "()Z" } : Jvm.MethodName) prog_14_method_4_code (1 : Nat) (Option.some Jvm.ClassFile.FieldType.boolean), Jvm.Cond.code ({ cls := "tallygate/RequestQueueIsEmptyPinLaw", name := "step", desc := "(Ltallygate/RequestQueue;Ltallygate/RequestQueue$Entry;Ltallygate/RequestQueue$Entry;II)I" } : Jvm.MethodName) method_2_code (9 : Nat) (Option.some Jvm.ClassFile.FieldType.int), Jvm.Cond.code ({ cls := "tallygate/RequestQueue", name := "add", desc := "(Ltallygate/RequestQueue$Entry;)V" } : Jvm.MethodName) prog_14_method_2_code (3 : Nat) (Option.none : Option Jvm.ClassFile.FieldType), Jvm.Cond.code ({ cls := "tallygate/RequestQueue", name := "setLeaf", desc := "(IJ)V" } : Jvm.MethodName) prog_14_method_8_code (7 : Nat) (Option.none : Option Jvm.ClassFile.FieldType), Jvm.Cond.code ({ cls := "java/lang/Math", name := "min", desc := "(JJ)J" } : Jvm.MethodName) jdk_29_method_70_code (4 : Nat) (Option.some Jvm.ClassFile.FieldType.long), Jvm.Cond.code ({ cls := "tallygate/RequestQueue", name := "remove", desc := "(Ltallygate/RequestQueue$Entry;)V" } : Jvm.MethodName) prog_14_method_3_code (4 : Nat) (Option.none : Option Jvm.ClassFile.FieldType)]
set_option maxRecDepth 65536 in
theorem codes_eq : words1.filter isCode = codes1 := rfl
theorem w_codes : ∀ c ∈ words1.filter isCode, c.before args0 about1 = true := by
  rw [codes_eq]
  intro c hc
  simp only [codes1, List.mem_cons, List.not_mem_nil, or_false] at hc
  rcases hc with rfl | rfl | rfl | rfl | rfl | rfl | rfl | rfl | rfl | rfl | rfl | rfl | rfl
  · exact w_c0
  · exact w_c1
  · exact w_c2
  · exact w_c3
  · exact w_c4
  · exact w_c5
  · exact w_c6
  · exact w_c7
  · exact w_c8
  · exact w_c9
  · exact w_c10
  · exact w_c11
  · exact w_c12
set_option maxRecDepth 65536 in
theorem w_t1 : (words1.take 24).all (fun c => isCode c || c.before args0 about1) = true := by decide +kernel
set_option maxRecDepth 65536 in
theorem w_t2 : ((words1.drop 24).take 24).all (fun c => isCode c || c.before args0 about1) = true := by decide +kernel
set_option maxRecDepth 65536 in
theorem w_t3 : (((words1.drop 24).drop 24).take 24).all (fun c => isCode c || c.before args0 about1) = true := by decide +kernel
set_option maxRecDepth 65536 in
theorem w_t4 : (((words1.drop 24).drop 24).drop 24).all (fun c => isCode c || c.before args0 about1) = true := by decide +kernel
theorem w_tables : (allAtoms (Jvm.Cond.code x code maxLocals ret :: tables_1)).before args0 about1 = true := by
  rw [allAtoms_all]
  show words1.all (fun c => c.before args0 about1) = true
  refine all_split ?_ w_codes
  rw [← List.take_append_drop 24 words1, List.all_append, w_t1, ← List.take_append_drop 24 (words1.drop 24), List.all_append, w_t2, ← List.take_append_drop 24 ((words1.drop 24).drop 24), List.all_append, w_t3, w_t4]
  rfl
set_option maxRecDepth 65536 in
theorem w_case : (Jvm.Cond.and given_1 narrow_1).before args0 about1 = true := by decide +kernel
theorem w_applies : (headSpec (Jvm.Cond.code x code maxLocals ret :: tables_1) room_1).applies x e0.platform about1 = true :=
  (Spec.applies_iff w_frames).mpr ⟨w_running, w_runnable, w_alone, w_named, w_hears, w_ripe, w_room, w_tables⟩
theorem atStart : AtStart classFile x code maxLocals ret World_1 tables_1 room_1 Calls_1 rest_1 Pre_1 launch0 p0 e0 about1 theMethod args0 below0 :=
  ⟨lists_1, trivial, launch0.admits_env _ _ _, launch0.least_env, fairChoices_fair.cas, fairChoices_fair.clock, w_frames, w_args, w_heap, w_applies, trivial, trivial, w_case⟩
end start1
theorem witness_1 : WitnessClaimed_1 := ⟨start1.p0, start1.e0, start1.about1, start1.theMethod, start1.args0, start1.below0, start1.atStart⟩
end Jvm.Pilot.@@N@@
