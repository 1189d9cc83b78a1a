import JvmDerived
import JvmDerived.Pilot.@@N@@Statement
import JvmDerived.Pilot.@@N@@Code
set_option linter.unusedVariables false
set_option linter.unusedSimpArgs false
namespace Jvm.Own
open Jvm Sem ClassFile Op Lib Jvm.Stand Jvm.Free Jvm.LawKit Jvm.RoadKit
/-- what is left to run: from any state that stands here with this heap, in this frame, the method comes back, and Q holds of what it returns and of the heap -/
def Wp (p : Program) (l : Launch) (e : Env) (R : Room) (s : State) (m : MethodId) (args : Array Value) (below : List Frame) (meth : Method) (c : Code)
    (n0 cM sM : Nat) (Q : Option Value → Heap → Prop) (h : Heap) (cells slots : Nat) (g : JFrame) : Prop :=
  ∀ (T : State) (locs : List Loc), Stand p l e R s m args below meth c T locs cells slots → T.heap = h → Fr n0 locs →
    ∃ s₂ v L, Steps p.tables e below (T.setTop g) s₂ ∧ s₂.status = .running ∧ Ended s₂ below (.returned v) ∧ (Q v s₂.heap ∧ Fr n0 L) ∧ FrameEnd s (.returned v) s₂ L cM sM
/-- what is known of the method that is walked -/
def Cx (p : Program) (s : State) (m : MethodId) (meth : Method) (c : Code) (Z : State) (own : String) (bytes : ByteArray) (ml : Nat) (rt : Option FieldType) (nm : String) : Prop :=
  p.tables.exec = Jvm.exec ∧ c.code = bytes ∧ Z.Warmed39 s.vm ∧ s.vm.findClass own = some m.cls ∧ c.maxLocals = ml ∧ meth.sig.returnType = rt ∧ meth.name = nm ∧ meth.locks = false
/-- a method's contract: called with these arguments at this heap -/
def Ct (l : Launch) (Z : State) (y : MethodName) (bytes : ByteArray) (maxL : Nat) (ret : Option FieldType) (ws : List Jvm.Cond) (rm : Room) (as' : Array Value) (h : Heap) (n0 : Nat) (Q : Option Value → Heap → Prop) : Prop :=
  MetFree l y (head1 (Jvm.Cond.code y bytes maxL ret :: ws) rm) (fun a U => a = as' ∧ Z.Warmed39 U.vm ∧ U.heap = h) (fun _ _ _ _ _ => True)
    (fun _ U o U' => ∃ v L, o = .returned v ∧ (Q v U'.heap ∧ Fr n0 L) ∧ FrameEnd U o U' L rm.cells rm.slots)
theorem Ct.of {l : Launch} {Z : State} {y : MethodName} {bytes : ByteArray} {maxL : Nat} {ret : Option FieldType} {ws : List Jvm.Cond} {rm : Room} {as' : Array Value} {h : Heap} {n0 : Nat} {Q : Option Value → Heap → Prop} {Ls : Array Slot}
    (hpl : plainFor y = true) (ef : ∀ m, entryFrame m as' maxL = mkF m 0 Ls [])
    (H : ∀ p e s m below meth c, Cx p s m meth c Z y.cls bytes maxL ret y.name → Wp p l e rm s m as' below meth c n0 rm.cells rm.slots Q h 0 0 (mkF m 0 Ls [])) :
    Ct l Z y bytes maxL ret ws rm as' h n0 Q := by
  refine MetFree.of_bodySF hpl hisR ?_
  intro p e s m args below meth c s₁ Bd hml0 hP hK
  obtain ⟨rfl, hZ, hh⟩ := hP
  have C : Cx p s m meth c Z y.cls bytes maxL ret y.name := ⟨Bd.exec, Bd.bytes, hZ, findClass_of_methodNamed Bd.named, hml0, Bd.returns, (name_of_methodNamed Bd.named Bd.method).1, Bd.notSynchronized⟩
  obtain ⟨s₂, v, L, a1, a2, a3, a4, a5⟩ := H p e s m below meth c C s₁ [] (Stand.of_body Bd) (by rw [← hh, Bd.state]; rfl) (Fr.nil n0)
  exact ⟨s₂, .returned v, castTop (ef m) a1, a2, a3, v, L, rfl, a4, a5⟩
theorem Ct.mono {l : Launch} {Z : State} {y : MethodName} {bytes : ByteArray} {maxL : Nat} {ret : Option FieldType} {ws : List Jvm.Cond} {rm : Room} {as' : Array Value} {h : Heap} {n0 : Nat} {Q Q' : Option Value → Heap → Prop}
    (H : Ct l Z y bytes maxL ret ws rm as' h n0 Q) (i : ∀ v h', Q v h' → Q' v h') : Ct l Z y bytes maxL ret ws rm as' h n0 Q' := by
  intro p e ha hc hk s m args below hf happ hP hK
  obtain ⟨n, o, h1, h2, h3, v, L, h4, h5, h6⟩ := H p e ha hc hk s m args below hf happ hP hK
  exact ⟨n, o, h1, h2, h3, v, L, h4, ⟨i _ _ h5.1, h5.2⟩, h6⟩
section Rules
variable {p : Program} {l : Launch} {e : Env} {R : Room} {s : State} {m : MethodId} {args : Array Value} {below : List Frame} {meth : Method} {c : Code} {n0 cM sM : Nat} {Q : Option Value → Heap → Prop} {h : Heap} {cells slots : Nat}
variable {Z : State} {own nm : String} {bytes : ByteArray} {ml : Nat} {rt : Option FieldType} {a0 : Array Value}
theorem Wp.pure {g g' : JFrame} (st : ∀ (T t : State), At T m c below → Steps p.tables e below (T.setTop g') t → Steps p.tables e below (T.setTop g) t) (k : Wp p l e R s m args below meth c n0 cM sM Q h cells slots g') :
    Wp p l e R s m args below meth c n0 cM sM Q h cells slots g := fun T locs X e0 N => by
  obtain ⟨s2, v, L, a, r⟩ := k T locs X e0 N
  exact ⟨s2, v, L, st T s2 X.here a, r⟩
theorem Wp.law {g g' : JFrame} (st : ∀ (T : State) (locs : List Loc), Stand p l e R s m args below meth c T locs cells slots → T.heap = h → ∃ T', Stand p l e R s m args below meth c T' locs cells slots ∧ T'.heap = h ∧ ∀ t, Steps p.tables e below (T'.setTop g') t → Steps p.tables e below (T.setTop g) t)
    (k : Wp p l e R s m args below meth c n0 cM sM Q h cells slots g') : Wp p l e R s m args below meth c n0 cM sM Q h cells slots g := fun T locs X e0 N => by
  obtain ⟨T', X', e', st'⟩ := st T locs X e0
  obtain ⟨s2, v, L, a, r⟩ := k T' locs X' e' N
  exact ⟨s2, v, L, st' s2 a, r⟩
theorem Wp.more {g : JFrame} {cells' slots' : Nat} (hc : cells ≤ cells') (hs : slots ≤ slots') (k : Wp p l e R s m args below meth c n0 cM sM Q h cells' slots' g) : Wp p l e R s m args below meth c n0 cM sM Q h cells slots g :=
  fun T locs X e0 N => k T locs (X.more hc hs) e0 N
theorem Wp.mono {g : JFrame} {Q' : Option Value → Heap → Prop} (i : ∀ v h', Q v h' → Q' v h') (k : Wp p l e R s m args below meth c n0 cM sM Q h cells slots g) : Wp p l e R s m args below meth c n0 cM sM Q' h cells slots g :=
  fun T locs X e0 N => by
    obtain ⟨s2, v, L, a, b, d, q, r⟩ := k T locs X e0 N
    exact ⟨s2, v, L, a, b, d, ⟨i _ _ q.1, q.2⟩, r⟩
theorem Wp.ret {g : JFrame} {v : Option Value} (C : Cx p s m meth c Z own bytes ml rt nm)
    (st : ∀ (T : State) (fs : List Frame) (locs : List Loc), Stand p l e R s m args below meth c T locs cells slots → (∀ (f : JFrame) (acts : List Action), f.method = m → f.locked = none → f.entered = [] → (doReturn e (T.setTop f) acts v).1 = T.setFrames fs) → Steps p.tables e below (T.setTop g) (T.setFrames fs))
    (hv : meth.sig.returnType = none → v = none) (hc : cells ≤ cM) (hs : slots ≤ sM) (q : Q v h) : Wp p l e R s m args below meth c n0 cM sM Q h cells slots g := by
  intro T locs X e0 N
  have hlk : meth.locks = false := C.2.2.2.2.2.2.2
  obtain ⟨fs, hr, hrun, hended, hW, hsame⟩ := X.leave (v := v) hv hlk
  exact ⟨_, v, locs, st T fs locs X hr, hrun, hended, ⟨by subst e0; exact q, N⟩, ⟨_, rfl⟩, hW, hsame.mono hc hs⟩
theorem w_iloadN (C : Cx p s m meth c Z own bytes ml rt nm) {pc pc' : Nat} {Ls : Array Slot} {st : List Value} {k : Fin 4} {x : Int32} (hd : decode bytes pc = .ok (.iload_n k, 1)) (hl : Ls[k.val]? = some (.val (.int x))) (hp : pc + 1 = pc') (K : Wp p l e R s m args below meth c n0 cM sM Q h cells slots (mkF m pc' Ls (.int x :: st))) :
    Wp p l e R s m args below meth c n0 cM sM Q h cells slots (mkF m pc Ls st) := by
  subst hp; exact Wp.pure (fun T t X hr => XS.iloadN X C.1 rfl (hb C.2.1 hd) hl hr) K
theorem w_iload (C : Cx p s m meth c Z own bytes ml rt nm) {pc pc' : Nat} {Ls : Array Slot} {st : List Value} {k : Nat} {x : Int32} (hd : decode bytes pc = .ok (.iload k, 2)) (hl : Ls[k]? = some (.val (.int x))) (hp : pc + 2 = pc') (K : Wp p l e R s m args below meth c n0 cM sM Q h cells slots (mkF m pc' Ls (.int x :: st))) :
    Wp p l e R s m args below meth c n0 cM sM Q h cells slots (mkF m pc Ls st) := by
  subst hp; exact Wp.pure (fun T t X hr => XS.iload X C.1 rfl (hb C.2.1 hd) hl hr) K
theorem w_lloadN (C : Cx p s m meth c Z own bytes ml rt nm) {pc pc' : Nat} {Ls : Array Slot} {st : List Value} {k : Fin 4} {x : Int64} (hd : decode bytes pc = .ok (.lload_n k, 1)) (hl : Ls[k.val]? = some (.val (.long x))) (hp : pc + 1 = pc') (K : Wp p l e R s m args below meth c n0 cM sM Q h cells slots (mkF m pc' Ls (.long x :: st))) :
    Wp p l e R s m args below meth c n0 cM sM Q h cells slots (mkF m pc Ls st) := by
  subst hp; exact Wp.pure (fun T t X hr => XS.lloadN X C.1 rfl (hb C.2.1 hd) hl hr) K
theorem w_lload (C : Cx p s m meth c Z own bytes ml rt nm) {pc pc' : Nat} {Ls : Array Slot} {st : List Value} {k : Nat} {x : Int64} (hd : decode bytes pc = .ok (.lload k, 2)) (hl : Ls[k]? = some (.val (.long x))) (hp : pc + 2 = pc') (K : Wp p l e R s m args below meth c n0 cM sM Q h cells slots (mkF m pc' Ls (.long x :: st))) :
    Wp p l e R s m args below meth c n0 cM sM Q h cells slots (mkF m pc Ls st) := by
  subst hp; exact Wp.pure (fun T t X hr => XS.lload X C.1 rfl (hb C.2.1 hd) hl hr) K
theorem w_aloadN (C : Cx p s m meth c Z own bytes ml rt nm) {pc pc' : Nat} {Ls : Array Slot} {st : List Value} {k : Fin 4} {v : Value} (hd : decode bytes pc = .ok (.aload_n k, 1)) (hl : Ls[k.val]? = some (.val v)) (hv : v.isRef = true) (hp : pc + 1 = pc') (K : Wp p l e R s m args below meth c n0 cM sM Q h cells slots (mkF m pc' Ls (v :: st))) :
    Wp p l e R s m args below meth c n0 cM sM Q h cells slots (mkF m pc Ls st) := by
  subst hp; exact Wp.pure (fun T t X hr => XS.aloadN X C.1 rfl (hb C.2.1 hd) hl hv hr) K
theorem w_aload (C : Cx p s m meth c Z own bytes ml rt nm) {pc pc' : Nat} {Ls : Array Slot} {st : List Value} {k : Nat} {v : Value} (hd : decode bytes pc = .ok (.aload k, 2)) (hl : Ls[k]? = some (.val v)) (hv : v.isRef = true) (hp : pc + 2 = pc') (K : Wp p l e R s m args below meth c n0 cM sM Q h cells slots (mkF m pc' Ls (v :: st))) :
    Wp p l e R s m args below meth c n0 cM sM Q h cells slots (mkF m pc Ls st) := by
  subst hp; exact Wp.pure (fun T t X hr => XS.aload X C.1 rfl (hb C.2.1 hd) hl hv hr) K
theorem w_istoreN (C : Cx p s m meth c Z own bytes ml rt nm) {pc pc' : Nat} {Ls : Array Slot} {st : List Value} {k : Fin 4} {x : Int32} {Ls' : Array Slot} (hd : decode bytes pc = .ok (.istore_n k, 1)) (hl : storeLocals Ls k.val (.int x) = some Ls') (hp : pc + 1 = pc') (K : Wp p l e R s m args below meth c n0 cM sM Q h cells slots (mkF m pc' Ls' st)) :
    Wp p l e R s m args below meth c n0 cM sM Q h cells slots (mkF m pc Ls (.int x :: st)) := by
  subst hp; exact Wp.pure (fun T t X hr => XS.istoreN X C.1 rfl (hb C.2.1 hd) rfl hl hr) K
theorem w_istore (C : Cx p s m meth c Z own bytes ml rt nm) {pc pc' : Nat} {Ls : Array Slot} {st : List Value} {k : Nat} {x : Int32} {Ls' : Array Slot} (hd : decode bytes pc = .ok (.istore k, 2)) (hl : storeLocals Ls k (.int x) = some Ls') (hp : pc + 2 = pc') (K : Wp p l e R s m args below meth c n0 cM sM Q h cells slots (mkF m pc' Ls' st)) :
    Wp p l e R s m args below meth c n0 cM sM Q h cells slots (mkF m pc Ls (.int x :: st)) := by
  subst hp; exact Wp.pure (fun T t X hr => XS.istore X C.1 rfl (hb C.2.1 hd) rfl hl hr) K
theorem w_lstoreN (C : Cx p s m meth c Z own bytes ml rt nm) {pc pc' : Nat} {Ls : Array Slot} {st : List Value} {k : Fin 4} {x : Int64} {Ls' : Array Slot} (hd : decode bytes pc = .ok (.lstore_n k, 1)) (hl : storeLocals Ls k.val (.long x) = some Ls') (hp : pc + 1 = pc') (K : Wp p l e R s m args below meth c n0 cM sM Q h cells slots (mkF m pc' Ls' st)) :
    Wp p l e R s m args below meth c n0 cM sM Q h cells slots (mkF m pc Ls (.long x :: st)) := by
  subst hp; exact Wp.pure (fun T t X hr => XS.lstoreN X C.1 rfl (hb C.2.1 hd) rfl hl hr) K
theorem w_lstore (C : Cx p s m meth c Z own bytes ml rt nm) {pc pc' : Nat} {Ls : Array Slot} {st : List Value} {k : Nat} {x : Int64} {Ls' : Array Slot} (hd : decode bytes pc = .ok (.lstore k, 2)) (hl : storeLocals Ls k (.long x) = some Ls') (hp : pc + 2 = pc') (K : Wp p l e R s m args below meth c n0 cM sM Q h cells slots (mkF m pc' Ls' st)) :
    Wp p l e R s m args below meth c n0 cM sM Q h cells slots (mkF m pc Ls (.long x :: st)) := by
  subst hp; exact Wp.pure (fun T t X hr => XS.lstore X C.1 rfl (hb C.2.1 hd) rfl hl hr) K
theorem w_astoreN (C : Cx p s m meth c Z own bytes ml rt nm) {pc pc' : Nat} {Ls : Array Slot} {st : List Value} {k : Fin 4} {v : Value} {Ls' : Array Slot} (hd : decode bytes pc = .ok (.astore_n k, 1)) (hv : v.isRef = true) (hl : storeLocals Ls k.val v = some Ls') (hp : pc + 1 = pc') (K : Wp p l e R s m args below meth c n0 cM sM Q h cells slots (mkF m pc' Ls' st)) :
    Wp p l e R s m args below meth c n0 cM sM Q h cells slots (mkF m pc Ls (v :: st)) := by
  subst hp; exact Wp.pure (fun T t X hr => XS.astoreN X C.1 rfl (hb C.2.1 hd) rfl hv hl hr) K
theorem w_astore (C : Cx p s m meth c Z own bytes ml rt nm) {pc pc' : Nat} {Ls : Array Slot} {st : List Value} {k : Nat} {v : Value} {Ls' : Array Slot} (hd : decode bytes pc = .ok (.astore k, 2)) (hv : v.isRef = true) (hl : storeLocals Ls k v = some Ls') (hp : pc + 2 = pc') (K : Wp p l e R s m args below meth c n0 cM sM Q h cells slots (mkF m pc' Ls' st)) :
    Wp p l e R s m args below meth c n0 cM sM Q h cells slots (mkF m pc Ls (v :: st)) := by
  subst hp; exact Wp.pure (fun T t X hr => XS.astore X C.1 rfl (hb C.2.1 hd) rfl hv hl hr) K
theorem w_iinc (C : Cx p s m meth c Z own bytes ml rt nm) {pc pc' : Nat} {Ls : Array Slot} {st : List Value} {k : Nat} {cst : Int} {x : Int32} {Ls' : Array Slot} (hd : decode bytes pc = .ok (.iinc k cst, 3)) (hx : Ls[k]? = some (.val (.int x))) (hl : storeLocals Ls k (.int (x + Int32.ofInt cst)) = some Ls') (hp : pc + 3 = pc') (K : Wp p l e R s m args below meth c n0 cM sM Q h cells slots (mkF m pc' Ls' st)) :
    Wp p l e R s m args below meth c n0 cM sM Q h cells slots (mkF m pc Ls st) := by
  subst hp; exact Wp.pure (fun T t X hr => XS.iinc X C.1 rfl (hb C.2.1 hd) hx hl hr) K
theorem w_iconst (C : Cx p s m meth c Z own bytes ml rt nm) {pc pc' : Nat} {Ls : Array Slot} {st : List Value} {i : Int} {x : Int32} (hd : decode bytes pc = .ok (.iconst i, 1)) (hx : Int32.ofInt i = x) (hp : pc + 1 = pc') (K : Wp p l e R s m args below meth c n0 cM sM Q h cells slots (mkF m pc' Ls (.int x :: st))) :
    Wp p l e R s m args below meth c n0 cM sM Q h cells slots (mkF m pc Ls st) := by
  subst hp hx; exact Wp.pure (fun T t X hr => XS.iconst X C.1 rfl (hb C.2.1 hd) hr) K
theorem w_bipush (C : Cx p s m meth c Z own bytes ml rt nm) {pc pc' : Nat} {Ls : Array Slot} {st : List Value} {i : Int} {x : Int32} (hd : decode bytes pc = .ok (.bipush i, 2)) (hx : (Int8.ofInt i).toInt32 = x) (hp : pc + 2 = pc') (K : Wp p l e R s m args below meth c n0 cM sM Q h cells slots (mkF m pc' Ls (.int x :: st))) :
    Wp p l e R s m args below meth c n0 cM sM Q h cells slots (mkF m pc Ls st) := by
  subst hp hx; exact Wp.pure (fun T t X hr => XS.bipush X C.1 rfl (hb C.2.1 hd) hr) K
theorem w_sipush (C : Cx p s m meth c Z own bytes ml rt nm) {pc pc' : Nat} {Ls : Array Slot} {st : List Value} {i : Int} {x : Int32} (hd : decode bytes pc = .ok (.sipush i, 3)) (hx : (Int16.ofInt i).toInt32 = x) (hp : pc + 3 = pc') (K : Wp p l e R s m args below meth c n0 cM sM Q h cells slots (mkF m pc' Ls (.int x :: st))) :
    Wp p l e R s m args below meth c n0 cM sM Q h cells slots (mkF m pc Ls st) := by
  subst hp hx; exact Wp.pure (fun T t X hr => XS.sipush X C.1 rfl (hb C.2.1 hd) hr) K
theorem w_lconst (C : Cx p s m meth c Z own bytes ml rt nm) {pc pc' : Nat} {Ls : Array Slot} {st : List Value} {k : Fin 2} {x : Int64} (hd : decode bytes pc = .ok (.lconst k, 1)) (hx : Int64.ofNat k = x) (hp : pc + 1 = pc') (K : Wp p l e R s m args below meth c n0 cM sM Q h cells slots (mkF m pc' Ls (.long x :: st))) :
    Wp p l e R s m args below meth c n0 cM sM Q h cells slots (mkF m pc Ls st) := by
  subst hp hx; exact Wp.pure (fun T t X hr => XS.lconst X C.1 rfl (hb C.2.1 hd) hr) K
theorem w_aconstNull (C : Cx p s m meth c Z own bytes ml rt nm) {pc pc' : Nat} {Ls : Array Slot} {st : List Value}  (hd : decode bytes pc = .ok (.aconst_null, 1))  (hp : pc + 1 = pc') (K : Wp p l e R s m args below meth c n0 cM sM Q h cells slots (mkF m pc' Ls (.null :: st))) :
    Wp p l e R s m args below meth c n0 cM sM Q h cells slots (mkF m pc Ls st) := by
  subst hp; exact Wp.pure (fun T t X hr => XS.aconstNull X C.1 rfl (hb C.2.1 hd)  hr) K
theorem w_iadd (C : Cx p s m meth c Z own bytes ml rt nm) {pc pc' : Nat} {Ls : Array Slot} {st : List Value} {x y : Int32} (hd : decode bytes pc = .ok (.iadd, 1))  (hp : pc + 1 = pc') (K : Wp p l e R s m args below meth c n0 cM sM Q h cells slots (mkF m pc' Ls (.int (x + y) :: st))) :
    Wp p l e R s m args below meth c n0 cM sM Q h cells slots (mkF m pc Ls (.int y :: .int x :: st)) := by
  subst hp; exact Wp.pure (fun T t X hr => XS.iadd X C.1 rfl (hb C.2.1 hd) rfl hr) K
theorem w_isub (C : Cx p s m meth c Z own bytes ml rt nm) {pc pc' : Nat} {Ls : Array Slot} {st : List Value} {x y : Int32} (hd : decode bytes pc = .ok (.isub, 1))  (hp : pc + 1 = pc') (K : Wp p l e R s m args below meth c n0 cM sM Q h cells slots (mkF m pc' Ls (.int (x - y) :: st))) :
    Wp p l e R s m args below meth c n0 cM sM Q h cells slots (mkF m pc Ls (.int y :: .int x :: st)) := by
  subst hp; exact Wp.pure (fun T t X hr => XS.isub X C.1 rfl (hb C.2.1 hd) rfl hr) K
theorem w_imul (C : Cx p s m meth c Z own bytes ml rt nm) {pc pc' : Nat} {Ls : Array Slot} {st : List Value} {x y : Int32} (hd : decode bytes pc = .ok (.imul, 1))  (hp : pc + 1 = pc') (K : Wp p l e R s m args below meth c n0 cM sM Q h cells slots (mkF m pc' Ls (.int (x * y) :: st))) :
    Wp p l e R s m args below meth c n0 cM sM Q h cells slots (mkF m pc Ls (.int y :: .int x :: st)) := by
  subst hp; exact Wp.pure (fun T t X hr => XS.imul X C.1 rfl (hb C.2.1 hd) rfl hr) K
theorem w_iand (C : Cx p s m meth c Z own bytes ml rt nm) {pc pc' : Nat} {Ls : Array Slot} {st : List Value} {x y : Int32} (hd : decode bytes pc = .ok (.iand, 1))  (hp : pc + 1 = pc') (K : Wp p l e R s m args below meth c n0 cM sM Q h cells slots (mkF m pc' Ls (.int (x &&& y) :: st))) :
    Wp p l e R s m args below meth c n0 cM sM Q h cells slots (mkF m pc Ls (.int y :: .int x :: st)) := by
  subst hp; exact Wp.pure (fun T t X hr => XS.iand X C.1 rfl (hb C.2.1 hd) rfl hr) K
theorem w_ior (C : Cx p s m meth c Z own bytes ml rt nm) {pc pc' : Nat} {Ls : Array Slot} {st : List Value} {x y : Int32} (hd : decode bytes pc = .ok (.ior, 1))  (hp : pc + 1 = pc') (K : Wp p l e R s m args below meth c n0 cM sM Q h cells slots (mkF m pc' Ls (.int (x ||| y) :: st))) :
    Wp p l e R s m args below meth c n0 cM sM Q h cells slots (mkF m pc Ls (.int y :: .int x :: st)) := by
  subst hp; exact Wp.pure (fun T t X hr => XS.ior X C.1 rfl (hb C.2.1 hd) rfl hr) K
theorem w_ixor (C : Cx p s m meth c Z own bytes ml rt nm) {pc pc' : Nat} {Ls : Array Slot} {st : List Value} {x y : Int32} (hd : decode bytes pc = .ok (.ixor, 1))  (hp : pc + 1 = pc') (K : Wp p l e R s m args below meth c n0 cM sM Q h cells slots (mkF m pc' Ls (.int (x ^^^ y) :: st))) :
    Wp p l e R s m args below meth c n0 cM sM Q h cells slots (mkF m pc Ls (.int y :: .int x :: st)) := by
  subst hp; exact Wp.pure (fun T t X hr => XS.ixor X C.1 rfl (hb C.2.1 hd) rfl hr) K
theorem w_ishl (C : Cx p s m meth c Z own bytes ml rt nm) {pc pc' : Nat} {Ls : Array Slot} {st : List Value} {x y : Int32} (hd : decode bytes pc = .ok (.ishl, 1))  (hp : pc + 1 = pc') (K : Wp p l e R s m args below meth c n0 cM sM Q h cells slots (mkF m pc' Ls (.int (x <<< (y &&& 31)) :: st))) :
    Wp p l e R s m args below meth c n0 cM sM Q h cells slots (mkF m pc Ls (.int y :: .int x :: st)) := by
  subst hp; exact Wp.pure (fun T t X hr => XS.ishl X C.1 rfl (hb C.2.1 hd) rfl hr) K
theorem w_ishr (C : Cx p s m meth c Z own bytes ml rt nm) {pc pc' : Nat} {Ls : Array Slot} {st : List Value} {x y : Int32} (hd : decode bytes pc = .ok (.ishr, 1))  (hp : pc + 1 = pc') (K : Wp p l e R s m args below meth c n0 cM sM Q h cells slots (mkF m pc' Ls (.int (x >>> (y &&& 31)) :: st))) :
    Wp p l e R s m args below meth c n0 cM sM Q h cells slots (mkF m pc Ls (.int y :: .int x :: st)) := by
  subst hp; exact Wp.pure (fun T t X hr => XS.ishr X C.1 rfl (hb C.2.1 hd) rfl hr) K
theorem w_iushr (C : Cx p s m meth c Z own bytes ml rt nm) {pc pc' : Nat} {Ls : Array Slot} {st : List Value} {x y : Int32} (hd : decode bytes pc = .ok (.iushr, 1))  (hp : pc + 1 = pc') (K : Wp p l e R s m args below meth c n0 cM sM Q h cells slots (mkF m pc' Ls (.int ((x.toUInt32 >>> (y &&& 31).toUInt32).toInt32) :: st))) :
    Wp p l e R s m args below meth c n0 cM sM Q h cells slots (mkF m pc Ls (.int y :: .int x :: st)) := by
  subst hp; exact Wp.pure (fun T t X hr => XS.iushr X C.1 rfl (hb C.2.1 hd) rfl hr) K
theorem w_ladd (C : Cx p s m meth c Z own bytes ml rt nm) {pc pc' : Nat} {Ls : Array Slot} {st : List Value} {x y : Int64} (hd : decode bytes pc = .ok (.ladd, 1))  (hp : pc + 1 = pc') (K : Wp p l e R s m args below meth c n0 cM sM Q h cells slots (mkF m pc' Ls (.long (x + y) :: st))) :
    Wp p l e R s m args below meth c n0 cM sM Q h cells slots (mkF m pc Ls (.long y :: .long x :: st)) := by
  subst hp; exact Wp.pure (fun T t X hr => XS.ladd X C.1 rfl (hb C.2.1 hd) rfl hr) K
theorem w_lsub (C : Cx p s m meth c Z own bytes ml rt nm) {pc pc' : Nat} {Ls : Array Slot} {st : List Value} {x y : Int64} (hd : decode bytes pc = .ok (.lsub, 1))  (hp : pc + 1 = pc') (K : Wp p l e R s m args below meth c n0 cM sM Q h cells slots (mkF m pc' Ls (.long (x - y) :: st))) :
    Wp p l e R s m args below meth c n0 cM sM Q h cells slots (mkF m pc Ls (.long y :: .long x :: st)) := by
  subst hp; exact Wp.pure (fun T t X hr => XS.lsub X C.1 rfl (hb C.2.1 hd) rfl hr) K
theorem w_lmul (C : Cx p s m meth c Z own bytes ml rt nm) {pc pc' : Nat} {Ls : Array Slot} {st : List Value} {x y : Int64} (hd : decode bytes pc = .ok (.lmul, 1))  (hp : pc + 1 = pc') (K : Wp p l e R s m args below meth c n0 cM sM Q h cells slots (mkF m pc' Ls (.long (x * y) :: st))) :
    Wp p l e R s m args below meth c n0 cM sM Q h cells slots (mkF m pc Ls (.long y :: .long x :: st)) := by
  subst hp; exact Wp.pure (fun T t X hr => XS.lmul X C.1 rfl (hb C.2.1 hd) rfl hr) K
theorem w_land (C : Cx p s m meth c Z own bytes ml rt nm) {pc pc' : Nat} {Ls : Array Slot} {st : List Value} {x y : Int64} (hd : decode bytes pc = .ok (.land, 1))  (hp : pc + 1 = pc') (K : Wp p l e R s m args below meth c n0 cM sM Q h cells slots (mkF m pc' Ls (.long (x &&& y) :: st))) :
    Wp p l e R s m args below meth c n0 cM sM Q h cells slots (mkF m pc Ls (.long y :: .long x :: st)) := by
  subst hp; exact Wp.pure (fun T t X hr => XS.land X C.1 rfl (hb C.2.1 hd) rfl hr) K
theorem w_lor (C : Cx p s m meth c Z own bytes ml rt nm) {pc pc' : Nat} {Ls : Array Slot} {st : List Value} {x y : Int64} (hd : decode bytes pc = .ok (.lor, 1))  (hp : pc + 1 = pc') (K : Wp p l e R s m args below meth c n0 cM sM Q h cells slots (mkF m pc' Ls (.long (x ||| y) :: st))) :
    Wp p l e R s m args below meth c n0 cM sM Q h cells slots (mkF m pc Ls (.long y :: .long x :: st)) := by
  subst hp; exact Wp.pure (fun T t X hr => XS.lor X C.1 rfl (hb C.2.1 hd) rfl hr) K
theorem w_lxor (C : Cx p s m meth c Z own bytes ml rt nm) {pc pc' : Nat} {Ls : Array Slot} {st : List Value} {x y : Int64} (hd : decode bytes pc = .ok (.lxor, 1))  (hp : pc + 1 = pc') (K : Wp p l e R s m args below meth c n0 cM sM Q h cells slots (mkF m pc' Ls (.long (x ^^^ y) :: st))) :
    Wp p l e R s m args below meth c n0 cM sM Q h cells slots (mkF m pc Ls (.long y :: .long x :: st)) := by
  subst hp; exact Wp.pure (fun T t X hr => XS.lxor X C.1 rfl (hb C.2.1 hd) rfl hr) K
theorem w_lshl (C : Cx p s m meth c Z own bytes ml rt nm) {pc pc' : Nat} {Ls : Array Slot} {st : List Value} {x : Int64} {y : Int32} (hd : decode bytes pc = .ok (.lshl, 1))  (hp : pc + 1 = pc') (K : Wp p l e R s m args below meth c n0 cM sM Q h cells slots (mkF m pc' Ls (.long (x <<< (y &&& 0x3f).toInt64) :: st))) :
    Wp p l e R s m args below meth c n0 cM sM Q h cells slots (mkF m pc Ls (.int y :: .long x :: st)) := by
  subst hp; exact Wp.pure (fun T t X hr => XS.lshl X C.1 rfl (hb C.2.1 hd) rfl hr) K
theorem w_lshr (C : Cx p s m meth c Z own bytes ml rt nm) {pc pc' : Nat} {Ls : Array Slot} {st : List Value} {x : Int64} {y : Int32} (hd : decode bytes pc = .ok (.lshr, 1))  (hp : pc + 1 = pc') (K : Wp p l e R s m args below meth c n0 cM sM Q h cells slots (mkF m pc' Ls (.long (x >>> (y &&& 0x3f).toInt64) :: st))) :
    Wp p l e R s m args below meth c n0 cM sM Q h cells slots (mkF m pc Ls (.int y :: .long x :: st)) := by
  subst hp; exact Wp.pure (fun T t X hr => XS.lshr X C.1 rfl (hb C.2.1 hd) rfl hr) K
theorem w_lushr (C : Cx p s m meth c Z own bytes ml rt nm) {pc pc' : Nat} {Ls : Array Slot} {st : List Value} {x : Int64} {y : Int32} (hd : decode bytes pc = .ok (.lushr, 1))  (hp : pc + 1 = pc') (K : Wp p l e R s m args below meth c n0 cM sM Q h cells slots (mkF m pc' Ls (.long ((x.toUInt64 >>> (y &&& 0x3f).toInt64.toUInt64).toInt64) :: st))) :
    Wp p l e R s m args below meth c n0 cM sM Q h cells slots (mkF m pc Ls (.int y :: .long x :: st)) := by
  subst hp; exact Wp.pure (fun T t X hr => XS.lushr X C.1 rfl (hb C.2.1 hd) rfl hr) K
theorem w_idiv (C : Cx p s m meth c Z own bytes ml rt nm) {pc pc' : Nat} {Ls : Array Slot} {st : List Value} {x y : Int32} (hd : decode bytes pc = .ok (.idiv, 1)) (hy : y ≠ 0) (hp : pc + 1 = pc') (K : Wp p l e R s m args below meth c n0 cM sM Q h cells slots (mkF m pc' Ls (.int (x / y) :: st))) :
    Wp p l e R s m args below meth c n0 cM sM Q h cells slots (mkF m pc Ls (.int y :: .int x :: st)) := by
  subst hp; exact Wp.pure (fun T t X hr => XS.idiv X C.1 rfl (hb C.2.1 hd) rfl hy hr) K
theorem w_ldiv (C : Cx p s m meth c Z own bytes ml rt nm) {pc pc' : Nat} {Ls : Array Slot} {st : List Value} {x y : Int64} (hd : decode bytes pc = .ok (.ldiv, 1)) (hy : y ≠ 0) (hp : pc + 1 = pc') (K : Wp p l e R s m args below meth c n0 cM sM Q h cells slots (mkF m pc' Ls (.long (x / y) :: st))) :
    Wp p l e R s m args below meth c n0 cM sM Q h cells slots (mkF m pc Ls (.long y :: .long x :: st)) := by
  subst hp; exact Wp.pure (fun T t X hr => XS.ldiv X C.1 rfl (hb C.2.1 hd) rfl hy hr) K
theorem w_irem (C : Cx p s m meth c Z own bytes ml rt nm) {pc pc' : Nat} {Ls : Array Slot} {st : List Value} {x y : Int32} (hd : decode bytes pc = .ok (.irem, 1)) (hy : y ≠ 0) (hp : pc + 1 = pc') (K : Wp p l e R s m args below meth c n0 cM sM Q h cells slots (mkF m pc' Ls (.int (x % y) :: st))) :
    Wp p l e R s m args below meth c n0 cM sM Q h cells slots (mkF m pc Ls (.int y :: .int x :: st)) := by
  subst hp; exact Wp.pure (fun T t X hr => XS.irem X C.1 rfl (hb C.2.1 hd) rfl hy (by rw [irem_eq_mod x y]; exact hr)) K
theorem w_lrem (C : Cx p s m meth c Z own bytes ml rt nm) {pc pc' : Nat} {Ls : Array Slot} {st : List Value} {x y : Int64} (hd : decode bytes pc = .ok (.lrem, 1)) (hy : y ≠ 0) (hp : pc + 1 = pc') (K : Wp p l e R s m args below meth c n0 cM sM Q h cells slots (mkF m pc' Ls (.long (x % y) :: st))) :
    Wp p l e R s m args below meth c n0 cM sM Q h cells slots (mkF m pc Ls (.long y :: .long x :: st)) := by
  subst hp; exact Wp.pure (fun T t X hr => XS.lrem X C.1 rfl (hb C.2.1 hd) rfl hy (by rw [lrem_mod x y]; exact hr)) K
theorem w_ineg (C : Cx p s m meth c Z own bytes ml rt nm) {pc pc' : Nat} {Ls : Array Slot} {st : List Value} {x : Int32} (hd : decode bytes pc = .ok (.ineg, 1))  (hp : pc + 1 = pc') (K : Wp p l e R s m args below meth c n0 cM sM Q h cells slots (mkF m pc' Ls (.int (-x) :: st))) :
    Wp p l e R s m args below meth c n0 cM sM Q h cells slots (mkF m pc Ls (.int x :: st)) := by
  subst hp; exact Wp.pure (fun T t X hr => XS.ineg X C.1 rfl (hb C.2.1 hd) rfl hr) K
theorem w_lneg (C : Cx p s m meth c Z own bytes ml rt nm) {pc pc' : Nat} {Ls : Array Slot} {st : List Value} {x : Int64} (hd : decode bytes pc = .ok (.lneg, 1))  (hp : pc + 1 = pc') (K : Wp p l e R s m args below meth c n0 cM sM Q h cells slots (mkF m pc' Ls (.long (-x) :: st))) :
    Wp p l e R s m args below meth c n0 cM sM Q h cells slots (mkF m pc Ls (.long x :: st)) := by
  subst hp; exact Wp.pure (fun T t X hr => XS.lneg X C.1 rfl (hb C.2.1 hd) rfl hr) K
theorem w_i2l (C : Cx p s m meth c Z own bytes ml rt nm) {pc pc' : Nat} {Ls : Array Slot} {st : List Value} {x : Int32} (hd : decode bytes pc = .ok (.i2l, 1))  (hp : pc + 1 = pc') (K : Wp p l e R s m args below meth c n0 cM sM Q h cells slots (mkF m pc' Ls (.long x.toInt64 :: st))) :
    Wp p l e R s m args below meth c n0 cM sM Q h cells slots (mkF m pc Ls (.int x :: st)) := by
  subst hp; exact Wp.pure (fun T t X hr => XS.i2l X C.1 rfl (hb C.2.1 hd) rfl hr) K
theorem w_l2i (C : Cx p s m meth c Z own bytes ml rt nm) {pc pc' : Nat} {Ls : Array Slot} {st : List Value} {x : Int64} (hd : decode bytes pc = .ok (.l2i, 1))  (hp : pc + 1 = pc') (K : Wp p l e R s m args below meth c n0 cM sM Q h cells slots (mkF m pc' Ls (.int x.toInt32 :: st))) :
    Wp p l e R s m args below meth c n0 cM sM Q h cells slots (mkF m pc Ls (.long x :: st)) := by
  subst hp; exact Wp.pure (fun T t X hr => XS.l2i X C.1 rfl (hb C.2.1 hd) rfl hr) K
theorem w_i2b (C : Cx p s m meth c Z own bytes ml rt nm) {pc pc' : Nat} {Ls : Array Slot} {st : List Value} {x : Int32} (hd : decode bytes pc = .ok (.i2b, 1))  (hp : pc + 1 = pc') (K : Wp p l e R s m args below meth c n0 cM sM Q h cells slots (mkF m pc' Ls (.int x.toInt8.toInt32 :: st))) :
    Wp p l e R s m args below meth c n0 cM sM Q h cells slots (mkF m pc Ls (.int x :: st)) := by
  subst hp; exact Wp.pure (fun T t X hr => XS.i2b X C.1 rfl (hb C.2.1 hd) rfl hr) K
theorem w_i2s (C : Cx p s m meth c Z own bytes ml rt nm) {pc pc' : Nat} {Ls : Array Slot} {st : List Value} {x : Int32} (hd : decode bytes pc = .ok (.i2s, 1))  (hp : pc + 1 = pc') (K : Wp p l e R s m args below meth c n0 cM sM Q h cells slots (mkF m pc' Ls (.int x.toInt16.toInt32 :: st))) :
    Wp p l e R s m args below meth c n0 cM sM Q h cells slots (mkF m pc Ls (.int x :: st)) := by
  subst hp; exact Wp.pure (fun T t X hr => XS.i2s X C.1 rfl (hb C.2.1 hd) rfl hr) K
/-- i2c -/
def toCh (x : Int32) : Int32 := x.toUInt32.toUInt16.toUInt32.toInt32
theorem w_i2c (C : Cx p s m meth c Z own bytes ml rt nm) {pc pc' : Nat} {Ls : Array Slot} {st : List Value} {x : Int32} (hd : decode bytes pc = .ok (.i2c, 1))  (hp : pc + 1 = pc') (K : Wp p l e R s m args below meth c n0 cM sM Q h cells slots (mkF m pc' Ls (.int (toCh x) :: st))) :
    Wp p l e R s m args below meth c n0 cM sM Q h cells slots (mkF m pc Ls (.int x :: st)) := by
  subst hp; exact Wp.pure (fun T t X hr => XS.i2c X C.1 rfl (hb C.2.1 hd) rfl hr) K
/-- lcmp -/
def cmpJ (x y : Int64) : Int32 := if x > y then 1 else if x = y then 0 else -1
theorem w_lcmp (C : Cx p s m meth c Z own bytes ml rt nm) {pc pc' : Nat} {Ls : Array Slot} {st : List Value} {x y : Int64} (hd : decode bytes pc = .ok (.lcmp, 1))  (hp : pc + 1 = pc') (K : Wp p l e R s m args below meth c n0 cM sM Q h cells slots (mkF m pc' Ls (.int (cmpJ x y) :: st))) :
    Wp p l e R s m args below meth c n0 cM sM Q h cells slots (mkF m pc Ls (.long y :: .long x :: st)) := by
  subst hp; exact Wp.pure (fun T t X hr => XS.lcmp X C.1 rfl (hb C.2.1 hd) rfl hr) K
theorem w_dup (C : Cx p s m meth c Z own bytes ml rt nm) {pc pc' : Nat} {Ls : Array Slot} {st : List Value} {v : Value} (hd : decode bytes pc = .ok (.dup, 1)) (hc : v.category = 1) (hp : pc + 1 = pc') (K : Wp p l e R s m args below meth c n0 cM sM Q h cells slots (mkF m pc' Ls (v :: v :: st))) :
    Wp p l e R s m args below meth c n0 cM sM Q h cells slots (mkF m pc Ls (v :: st)) := by
  subst hp; exact Wp.pure (fun T t X hr => XS.dup X C.1 rfl (hb C.2.1 hd) rfl hc hr) K
theorem w_pop (C : Cx p s m meth c Z own bytes ml rt nm) {pc pc' : Nat} {Ls : Array Slot} {st : List Value} {v : Value} (hd : decode bytes pc = .ok (.pop, 1)) (hc : v.category = 1) (hp : pc + 1 = pc') (K : Wp p l e R s m args below meth c n0 cM sM Q h cells slots (mkF m pc' Ls st)) :
    Wp p l e R s m args below meth c n0 cM sM Q h cells slots (mkF m pc Ls (v :: st)) := by
  subst hp; exact Wp.pure (fun T t X hr => XS.pop X C.1 rfl (hb C.2.1 hd) rfl hc hr) K
theorem w_dupX1 (C : Cx p s m meth c Z own bytes ml rt nm) {pc pc' : Nat} {Ls : Array Slot} {st : List Value} {v w : Value} (hd : decode bytes pc = .ok (.dup_x1, 1)) (hc : v.category = 1) (hc' : w.category = 1) (hp : pc + 1 = pc') (K : Wp p l e R s m args below meth c n0 cM sM Q h cells slots (mkF m pc' Ls (v :: w :: v :: st))) :
    Wp p l e R s m args below meth c n0 cM sM Q h cells slots (mkF m pc Ls (v :: w :: st)) := by
  subst hp; exact Wp.pure (fun T t X hr => XS.dupX1 X C.1 rfl (hb C.2.1 hd) rfl hc hc' hr) K
theorem w_dup2 (C : Cx p s m meth c Z own bytes ml rt nm) {pc pc' : Nat} {Ls : Array Slot} {st : List Value} {v w : Value} (hd : decode bytes pc = .ok (.dup2, 1)) (hc : v.category = 1) (hc' : w.category = 1) (hp : pc + 1 = pc') (K : Wp p l e R s m args below meth c n0 cM sM Q h cells slots (mkF m pc' Ls (v :: w :: v :: w :: st))) :
    Wp p l e R s m args below meth c n0 cM sM Q h cells slots (mkF m pc Ls (v :: w :: st)) := by
  subst hp; exact Wp.pure (fun T t X hr => XT.dup2 X C.1 rfl (hb C.2.1 hd) rfl hc hc' hr) K
theorem w_eqI {pc : Nat} {Ls : Array Slot} {st : List Value} {x z : Int32} (hz : x = z) (K : Wp p l e R s m args below meth c n0 cM sM Q h cells slots (mkF m pc Ls (.int z :: st))) :
    Wp p l e R s m args below meth c n0 cM sM Q h cells slots (mkF m pc Ls (.int x :: st)) := by
  subst hz; exact K
theorem w_eqJ {pc : Nat} {Ls : Array Slot} {st : List Value} {x z : Int64} (hz : x = z) (K : Wp p l e R s m args below meth c n0 cM sM Q h cells slots (mkF m pc Ls (.long z :: st))) :
    Wp p l e R s m args below meth c n0 cM sM Q h cells slots (mkF m pc Ls (.long x :: st)) := by
  subst hz; exact K
theorem w_iincE (C : Cx p s m meth c Z own bytes ml rt nm) {pc pc' : Nat} {Ls Ls' : Array Slot} {st : List Value} {k : Nat} {cst : Int} {x z : Int32} (hd : decode bytes pc = .ok (.iinc k cst, 3)) (hx : Ls[k]? = some (.val (.int x))) (hz : x + Int32.ofInt cst = z) (hl : storeLocals Ls k (.int z) = some Ls') (hp : pc + 3 = pc') (K : Wp p l e R s m args below meth c n0 cM sM Q h cells slots (mkF m pc' Ls' st)) :
    Wp p l e R s m args below meth c n0 cM sM Q h cells slots (mkF m pc Ls st) := by
  subst hz; exact w_iinc C hd hx hl hp K
theorem w_goto (C : Cx p s m meth c Z own bytes ml rt nm) {pc pc' : Nat} {Ls : Array Slot} {st : List Value} {o : Int} (hd : decode bytes pc = .ok (.goto o, 3)) (ho : 0 ≤ (pc : Int) + o) (hp : ((pc : Int) + o).toNat = pc') (K : Wp p l e R s m args below meth c n0 cM sM Q h cells slots (mkF m pc' Ls st)) :
    Wp p l e R s m args below meth c n0 cM sM Q h cells slots (mkF m pc Ls st) :=
  Wp.pure (fun T t X hr => XS.goto X C.1 rfl rfl (hb C.2.1 hd) ho hp hr) K
theorem w_icmp_lt (C : Cx p s m meth c Z own bytes ml rt nm) {pc pcT pcF : Nat} {Ls : Array Slot} {st : List Value} {x y : Int32} {o : Int} (hd : decode bytes pc = .ok (.if_icmp .lt o, 3)) (ho : 0 ≤ (pc : Int) + o) (hT : ((pc : Int) + o).toNat = pcT) (hF : pc + 3 = pcF)
    (KT : x < y → Wp p l e R s m args below meth c n0 cM sM Q h cells slots (mkF m pcT Ls st)) (KF : ¬ x < y → Wp p l e R s m args below meth c n0 cM sM Q h cells slots (mkF m pcF Ls st)) :
    Wp p l e R s m args below meth c n0 cM sM Q h cells slots (mkF m pc Ls (.int y :: .int x :: st)) := by
  subst hF
  by_cases q : x < y
  · exact Wp.pure (fun T t X hr => XS.icmpYes X C.1 rfl rfl (hb C.2.1 hd) rfl (tlt q).1 ho hT hr) (KT q)
  · exact Wp.pure (fun T t X hr => XS.icmpNo X C.1 rfl (hb C.2.1 hd) rfl (flt q).1 hr) (KF q)
theorem w_if_lt (C : Cx p s m meth c Z own bytes ml rt nm) {pc pcT pcF : Nat} {Ls : Array Slot} {st : List Value} {x : Int32} {o : Int} (hd : decode bytes pc = .ok (.ifCond .lt o, 3)) (ho : 0 ≤ (pc : Int) + o) (hT : ((pc : Int) + o).toNat = pcT) (hF : pc + 3 = pcF)
    (KT : x < 0 → Wp p l e R s m args below meth c n0 cM sM Q h cells slots (mkF m pcT Ls st)) (KF : ¬ x < 0 → Wp p l e R s m args below meth c n0 cM sM Q h cells slots (mkF m pcF Ls st)) :
    Wp p l e R s m args below meth c n0 cM sM Q h cells slots (mkF m pc Ls (.int x :: st)) := by
  subst hF
  by_cases q : x < 0
  · exact Wp.pure (fun T t X hr => XS.ifYes X C.1 rfl rfl (hb C.2.1 hd) rfl ((if0 _ _).trans (tlt q).1) ho hT hr) (KT q)
  · exact Wp.pure (fun T t X hr => XS.ifNo X C.1 rfl (hb C.2.1 hd) rfl ((if0 _ _).trans (flt q).1) hr) (KF q)
theorem w_icmp_ge (C : Cx p s m meth c Z own bytes ml rt nm) {pc pcT pcF : Nat} {Ls : Array Slot} {st : List Value} {x y : Int32} {o : Int} (hd : decode bytes pc = .ok (.if_icmp .ge o, 3)) (ho : 0 ≤ (pc : Int) + o) (hT : ((pc : Int) + o).toNat = pcT) (hF : pc + 3 = pcF)
    (KT : ¬ x < y → Wp p l e R s m args below meth c n0 cM sM Q h cells slots (mkF m pcT Ls st)) (KF : x < y → Wp p l e R s m args below meth c n0 cM sM Q h cells slots (mkF m pcF Ls st)) :
    Wp p l e R s m args below meth c n0 cM sM Q h cells slots (mkF m pc Ls (.int y :: .int x :: st)) := by
  subst hF
  by_cases q : ¬ x < y
  · exact Wp.pure (fun T t X hr => XS.icmpYes X C.1 rfl rfl (hb C.2.1 hd) rfl (flt q).2.1 ho hT hr) (KT q)
  · exact Wp.pure (fun T t X hr => XS.icmpNo X C.1 rfl (hb C.2.1 hd) rfl (tlt (Classical.not_not.mp q)).2.1 hr) (KF (Classical.not_not.mp q))
theorem w_if_ge (C : Cx p s m meth c Z own bytes ml rt nm) {pc pcT pcF : Nat} {Ls : Array Slot} {st : List Value} {x : Int32} {o : Int} (hd : decode bytes pc = .ok (.ifCond .ge o, 3)) (ho : 0 ≤ (pc : Int) + o) (hT : ((pc : Int) + o).toNat = pcT) (hF : pc + 3 = pcF)
    (KT : ¬ x < 0 → Wp p l e R s m args below meth c n0 cM sM Q h cells slots (mkF m pcT Ls st)) (KF : x < 0 → Wp p l e R s m args below meth c n0 cM sM Q h cells slots (mkF m pcF Ls st)) :
    Wp p l e R s m args below meth c n0 cM sM Q h cells slots (mkF m pc Ls (.int x :: st)) := by
  subst hF
  by_cases q : ¬ x < 0
  · exact Wp.pure (fun T t X hr => XS.ifYes X C.1 rfl rfl (hb C.2.1 hd) rfl ((if0 _ _).trans (flt q).2.1) ho hT hr) (KT q)
  · exact Wp.pure (fun T t X hr => XS.ifNo X C.1 rfl (hb C.2.1 hd) rfl ((if0 _ _).trans (tlt (Classical.not_not.mp q)).2.1) hr) (KF (Classical.not_not.mp q))
theorem w_icmp_gt (C : Cx p s m meth c Z own bytes ml rt nm) {pc pcT pcF : Nat} {Ls : Array Slot} {st : List Value} {x y : Int32} {o : Int} (hd : decode bytes pc = .ok (.if_icmp .gt o, 3)) (ho : 0 ≤ (pc : Int) + o) (hT : ((pc : Int) + o).toNat = pcT) (hF : pc + 3 = pcF)
    (KT : y < x → Wp p l e R s m args below meth c n0 cM sM Q h cells slots (mkF m pcT Ls st)) (KF : ¬ y < x → Wp p l e R s m args below meth c n0 cM sM Q h cells slots (mkF m pcF Ls st)) :
    Wp p l e R s m args below meth c n0 cM sM Q h cells slots (mkF m pc Ls (.int y :: .int x :: st)) := by
  subst hF
  by_cases q : y < x
  · exact Wp.pure (fun T t X hr => XS.icmpYes X C.1 rfl rfl (hb C.2.1 hd) rfl (tlt q).2.2.1 ho hT hr) (KT q)
  · exact Wp.pure (fun T t X hr => XS.icmpNo X C.1 rfl (hb C.2.1 hd) rfl (flt q).2.2.1 hr) (KF q)
theorem w_if_gt (C : Cx p s m meth c Z own bytes ml rt nm) {pc pcT pcF : Nat} {Ls : Array Slot} {st : List Value} {x : Int32} {o : Int} (hd : decode bytes pc = .ok (.ifCond .gt o, 3)) (ho : 0 ≤ (pc : Int) + o) (hT : ((pc : Int) + o).toNat = pcT) (hF : pc + 3 = pcF)
    (KT : 0 < x → Wp p l e R s m args below meth c n0 cM sM Q h cells slots (mkF m pcT Ls st)) (KF : ¬ 0 < x → Wp p l e R s m args below meth c n0 cM sM Q h cells slots (mkF m pcF Ls st)) :
    Wp p l e R s m args below meth c n0 cM sM Q h cells slots (mkF m pc Ls (.int x :: st)) := by
  subst hF
  by_cases q : 0 < x
  · exact Wp.pure (fun T t X hr => XS.ifYes X C.1 rfl rfl (hb C.2.1 hd) rfl ((if0 _ _).trans (tlt q).2.2.1) ho hT hr) (KT q)
  · exact Wp.pure (fun T t X hr => XS.ifNo X C.1 rfl (hb C.2.1 hd) rfl ((if0 _ _).trans (flt q).2.2.1) hr) (KF q)
theorem w_icmp_le (C : Cx p s m meth c Z own bytes ml rt nm) {pc pcT pcF : Nat} {Ls : Array Slot} {st : List Value} {x y : Int32} {o : Int} (hd : decode bytes pc = .ok (.if_icmp .le o, 3)) (ho : 0 ≤ (pc : Int) + o) (hT : ((pc : Int) + o).toNat = pcT) (hF : pc + 3 = pcF)
    (KT : ¬ y < x → Wp p l e R s m args below meth c n0 cM sM Q h cells slots (mkF m pcT Ls st)) (KF : y < x → Wp p l e R s m args below meth c n0 cM sM Q h cells slots (mkF m pcF Ls st)) :
    Wp p l e R s m args below meth c n0 cM sM Q h cells slots (mkF m pc Ls (.int y :: .int x :: st)) := by
  subst hF
  by_cases q : ¬ y < x
  · exact Wp.pure (fun T t X hr => XS.icmpYes X C.1 rfl rfl (hb C.2.1 hd) rfl (flt q).2.2.2 ho hT hr) (KT q)
  · exact Wp.pure (fun T t X hr => XS.icmpNo X C.1 rfl (hb C.2.1 hd) rfl (tlt (Classical.not_not.mp q)).2.2.2 hr) (KF (Classical.not_not.mp q))
theorem w_if_le (C : Cx p s m meth c Z own bytes ml rt nm) {pc pcT pcF : Nat} {Ls : Array Slot} {st : List Value} {x : Int32} {o : Int} (hd : decode bytes pc = .ok (.ifCond .le o, 3)) (ho : 0 ≤ (pc : Int) + o) (hT : ((pc : Int) + o).toNat = pcT) (hF : pc + 3 = pcF)
    (KT : ¬ 0 < x → Wp p l e R s m args below meth c n0 cM sM Q h cells slots (mkF m pcT Ls st)) (KF : 0 < x → Wp p l e R s m args below meth c n0 cM sM Q h cells slots (mkF m pcF Ls st)) :
    Wp p l e R s m args below meth c n0 cM sM Q h cells slots (mkF m pc Ls (.int x :: st)) := by
  subst hF
  by_cases q : ¬ 0 < x
  · exact Wp.pure (fun T t X hr => XS.ifYes X C.1 rfl rfl (hb C.2.1 hd) rfl ((if0 _ _).trans (flt q).2.2.2) ho hT hr) (KT q)
  · exact Wp.pure (fun T t X hr => XS.ifNo X C.1 rfl (hb C.2.1 hd) rfl ((if0 _ _).trans (tlt (Classical.not_not.mp q)).2.2.2) hr) (KF (Classical.not_not.mp q))
theorem w_icmp_eq (C : Cx p s m meth c Z own bytes ml rt nm) {pc pcT pcF : Nat} {Ls : Array Slot} {st : List Value} {x y : Int32} {o : Int} (hd : decode bytes pc = .ok (.if_icmp .eq o, 3)) (ho : 0 ≤ (pc : Int) + o) (hT : ((pc : Int) + o).toNat = pcT) (hF : pc + 3 = pcF)
    (KT : x = y → Wp p l e R s m args below meth c n0 cM sM Q h cells slots (mkF m pcT Ls st)) (KF : ¬ x = y → Wp p l e R s m args below meth c n0 cM sM Q h cells slots (mkF m pcF Ls st)) :
    Wp p l e R s m args below meth c n0 cM sM Q h cells slots (mkF m pc Ls (.int y :: .int x :: st)) := by
  subst hF
  by_cases q : x = y
  · exact Wp.pure (fun T t X hr => XS.icmpYes X C.1 rfl rfl (hb C.2.1 hd) rfl (teq q).1 ho hT hr) (KT q)
  · exact Wp.pure (fun T t X hr => XS.icmpNo X C.1 rfl (hb C.2.1 hd) rfl (feq q).1 hr) (KF q)
theorem w_if_eq (C : Cx p s m meth c Z own bytes ml rt nm) {pc pcT pcF : Nat} {Ls : Array Slot} {st : List Value} {x : Int32} {o : Int} (hd : decode bytes pc = .ok (.ifCond .eq o, 3)) (ho : 0 ≤ (pc : Int) + o) (hT : ((pc : Int) + o).toNat = pcT) (hF : pc + 3 = pcF)
    (KT : x = 0 → Wp p l e R s m args below meth c n0 cM sM Q h cells slots (mkF m pcT Ls st)) (KF : ¬ x = 0 → Wp p l e R s m args below meth c n0 cM sM Q h cells slots (mkF m pcF Ls st)) :
    Wp p l e R s m args below meth c n0 cM sM Q h cells slots (mkF m pc Ls (.int x :: st)) := by
  subst hF
  by_cases q : x = 0
  · exact Wp.pure (fun T t X hr => XS.ifYes X C.1 rfl rfl (hb C.2.1 hd) rfl ((if0 _ _).trans (teq q).1) ho hT hr) (KT q)
  · exact Wp.pure (fun T t X hr => XS.ifNo X C.1 rfl (hb C.2.1 hd) rfl ((if0 _ _).trans (feq q).1) hr) (KF q)
theorem w_icmp_ne (C : Cx p s m meth c Z own bytes ml rt nm) {pc pcT pcF : Nat} {Ls : Array Slot} {st : List Value} {x y : Int32} {o : Int} (hd : decode bytes pc = .ok (.if_icmp .ne o, 3)) (ho : 0 ≤ (pc : Int) + o) (hT : ((pc : Int) + o).toNat = pcT) (hF : pc + 3 = pcF)
    (KT : ¬ x = y → Wp p l e R s m args below meth c n0 cM sM Q h cells slots (mkF m pcT Ls st)) (KF : x = y → Wp p l e R s m args below meth c n0 cM sM Q h cells slots (mkF m pcF Ls st)) :
    Wp p l e R s m args below meth c n0 cM sM Q h cells slots (mkF m pc Ls (.int y :: .int x :: st)) := by
  subst hF
  by_cases q : ¬ x = y
  · exact Wp.pure (fun T t X hr => XS.icmpYes X C.1 rfl rfl (hb C.2.1 hd) rfl (feq q).2 ho hT hr) (KT q)
  · exact Wp.pure (fun T t X hr => XS.icmpNo X C.1 rfl (hb C.2.1 hd) rfl (teq (Classical.not_not.mp q)).2 hr) (KF (Classical.not_not.mp q))
theorem w_if_ne (C : Cx p s m meth c Z own bytes ml rt nm) {pc pcT pcF : Nat} {Ls : Array Slot} {st : List Value} {x : Int32} {o : Int} (hd : decode bytes pc = .ok (.ifCond .ne o, 3)) (ho : 0 ≤ (pc : Int) + o) (hT : ((pc : Int) + o).toNat = pcT) (hF : pc + 3 = pcF)
    (KT : ¬ x = 0 → Wp p l e R s m args below meth c n0 cM sM Q h cells slots (mkF m pcT Ls st)) (KF : x = 0 → Wp p l e R s m args below meth c n0 cM sM Q h cells slots (mkF m pcF Ls st)) :
    Wp p l e R s m args below meth c n0 cM sM Q h cells slots (mkF m pc Ls (.int x :: st)) := by
  subst hF
  by_cases q : ¬ x = 0
  · exact Wp.pure (fun T t X hr => XS.ifYes X C.1 rfl rfl (hb C.2.1 hd) rfl ((if0 _ _).trans (feq q).2) ho hT hr) (KT q)
  · exact Wp.pure (fun T t X hr => XS.ifNo X C.1 rfl (hb C.2.1 hd) rfl ((if0 _ _).trans (teq (Classical.not_not.mp q)).2) hr) (KF (Classical.not_not.mp q))
theorem w_ifnull_null (C : Cx p s m meth c Z own bytes ml rt nm) {pc pc' : Nat} {Ls : Array Slot} {st : List Value}  {o : Int} (hd : decode bytes pc = .ok (.ifnull o, 3)) (ho : 0 ≤ (pc : Int) + o) (hp : ((pc : Int) + o).toNat = pc') (K : Wp p l e R s m args below meth c n0 cM sM Q h cells slots (mkF m pc' Ls st)) :
    Wp p l e R s m args below meth c n0 cM sM Q h cells slots (mkF m pc Ls (.null :: st)) :=
  Wp.pure (fun T t X hr => XS.ifnullYes X C.1 rfl rfl (hb C.2.1 hd) rfl ho hp hr) K
theorem w_ifnull_ref (C : Cx p s m meth c Z own bytes ml rt nm) {pc pc' : Nat} {Ls : Array Slot} {st : List Value} {b : Addr} {o : Int} (hd : decode bytes pc = .ok (.ifnull o, 3)) (hp : pc + 3 = pc') (K : Wp p l e R s m args below meth c n0 cM sM Q h cells slots (mkF m pc' Ls st)) :
    Wp p l e R s m args below meth c n0 cM sM Q h cells slots (mkF m pc Ls (.ref b :: st)) := by
  subst hp; exact Wp.pure (fun T t X hr => XS.ifnullNo X C.1 rfl (hb C.2.1 hd) rfl hr) K
theorem w_ifnonnull_ref (C : Cx p s m meth c Z own bytes ml rt nm) {pc pc' : Nat} {Ls : Array Slot} {st : List Value} {b : Addr} {o : Int} (hd : decode bytes pc = .ok (.ifnonnull o, 3)) (ho : 0 ≤ (pc : Int) + o) (hp : ((pc : Int) + o).toNat = pc') (K : Wp p l e R s m args below meth c n0 cM sM Q h cells slots (mkF m pc' Ls st)) :
    Wp p l e R s m args below meth c n0 cM sM Q h cells slots (mkF m pc Ls (.ref b :: st)) :=
  Wp.pure (fun T t X hr => XS.ifnonnullYes X C.1 rfl rfl (hb C.2.1 hd) rfl ho hp hr) K
theorem w_ifnonnull_null (C : Cx p s m meth c Z own bytes ml rt nm) {pc pc' : Nat} {Ls : Array Slot} {st : List Value}  {o : Int} (hd : decode bytes pc = .ok (.ifnonnull o, 3)) (hp : pc + 3 = pc') (K : Wp p l e R s m args below meth c n0 cM sM Q h cells slots (mkF m pc' Ls st)) :
    Wp p l e R s m args below meth c n0 cM sM Q h cells slots (mkF m pc Ls (.null :: st)) := by
  subst hp; exact Wp.pure (fun T t X hr => XS.ifnonnullNo X C.1 rfl (hb C.2.1 hd) rfl hr) K
theorem w_acmp_eq (C : Cx p s m meth c Z own bytes ml rt nm) {pc pcT pcF : Nat} {Ls : Array Slot} {st : List Value} {v w : Value} {o : Int} (hv : v.isRef = true) (hw : w.isRef = true) (hd : decode bytes pc = .ok (.if_acmp .eq o, 3)) (ho : 0 ≤ (pc : Int) + o) (hT : ((pc : Int) + o).toNat = pcT) (hF : pc + 3 = pcF)
    (KT : v = w → Wp p l e R s m args below meth c n0 cM sM Q h cells slots (mkF m pcT Ls st)) (KF : ¬ v = w → Wp p l e R s m args below meth c n0 cM sM Q h cells slots (mkF m pcF Ls st)) :
    Wp p l e R s m args below meth c n0 cM sM Q h cells slots (mkF m pc Ls (w :: v :: st)) := by
  intro T locs X e0 N
  by_cases q : v = w
  · obtain ⟨s2, u, L, a, r⟩ := KT q T locs X e0 N
    exact ⟨s2, u, L, Jvm.RoadKit.acmp (g := mkF m pc Ls (w :: v :: st)) X C.1 rfl hv hw (pc0 := pc) (same := true) rfl (hb C.2.1 hd) rfl (decide_eq_true q) ho (by simp [acV, hT, hF]) a, r⟩
  · obtain ⟨s2, u, L, a, r⟩ := KF q T locs X e0 N
    exact ⟨s2, u, L, Jvm.RoadKit.acmp (g := mkF m pc Ls (w :: v :: st)) X C.1 rfl hv hw (pc0 := pc) (same := false) rfl (hb C.2.1 hd) rfl (decide_eq_false q) ho (by simp [acV, hT, hF]) a, r⟩
theorem w_acmp_ne (C : Cx p s m meth c Z own bytes ml rt nm) {pc pcT pcF : Nat} {Ls : Array Slot} {st : List Value} {v w : Value} {o : Int} (hv : v.isRef = true) (hw : w.isRef = true) (hd : decode bytes pc = .ok (.if_acmp .ne o, 3)) (ho : 0 ≤ (pc : Int) + o) (hT : ((pc : Int) + o).toNat = pcT) (hF : pc + 3 = pcF)
    (KT : ¬ v = w → Wp p l e R s m args below meth c n0 cM sM Q h cells slots (mkF m pcT Ls st)) (KF : v = w → Wp p l e R s m args below meth c n0 cM sM Q h cells slots (mkF m pcF Ls st)) :
    Wp p l e R s m args below meth c n0 cM sM Q h cells slots (mkF m pc Ls (w :: v :: st)) := by
  intro T locs X e0 N
  by_cases q : v = w
  · obtain ⟨s2, u, L, a, r⟩ := KF q T locs X e0 N
    exact ⟨s2, u, L, Jvm.RoadKit.acmp (g := mkF m pc Ls (w :: v :: st)) X C.1 rfl hv hw (pc0 := pc) (same := true) rfl (hb C.2.1 hd) rfl (decide_eq_true q) ho (by simp [acV, hT, hF]) a, r⟩
  · obtain ⟨s2, u, L, a, r⟩ := KT q T locs X e0 N
    exact ⟨s2, u, L, Jvm.RoadKit.acmp (g := mkF m pc Ls (w :: v :: st)) X C.1 rfl hv hw (pc0 := pc) (same := false) rfl (hb C.2.1 hd) rfl (decide_eq_false q) ho (by simp [acV, hT, hF]) a, r⟩
theorem w_ldcI (C : Cx p s m meth c Z own bytes ml rt nm) {pc pc' : Nat} {Ls : Array Slot} {st : List Value} {i : Nat} {x : Int32} (w : (Jvm.Cond.constant own i x).before a0 Z = true) (hd : decode bytes pc = .ok (.ldc i, 2)) (hp : pc + 2 = pc') (K : Wp p l e R s m args below meth c n0 cM sM Q h cells slots (mkF m pc' Ls (.int x :: st))) :
    Wp p l e R s m args below meth c n0 cM sM Q h cells slots (mkF m pc Ls st) := by
  subst hp; intro T locs X e0 N
  obtain ⟨s2, v, L, a, r⟩ := K T locs X e0 N
  exact ⟨s2, v, L, X.ldcInt C.1 C.2.2.2.1 (mvT C.2.2.1 w) (g := mkF m pc Ls st) rfl (hb C.2.1 hd) _ a, r⟩
theorem w_ldcwI (C : Cx p s m meth c Z own bytes ml rt nm) {pc pc' : Nat} {Ls : Array Slot} {st : List Value} {i : Nat} {x : Int32} (w : (Jvm.Cond.constant own i x).before a0 Z = true) (hd : decode bytes pc = .ok (.ldc_w i, 3)) (hp : pc + 3 = pc') (K : Wp p l e R s m args below meth c n0 cM sM Q h cells slots (mkF m pc' Ls (.int x :: st))) :
    Wp p l e R s m args below meth c n0 cM sM Q h cells slots (mkF m pc Ls st) := by
  subst hp; intro T locs X e0 N
  obtain ⟨s2, v, L, a, r⟩ := K T locs X e0 N
  exact ⟨s2, v, L, X.ldcwInt C.1 C.2.2.2.1 (mvT C.2.2.1 w) (g := mkF m pc Ls st) rfl (hb C.2.1 hd) _ a, r⟩
theorem w_ldc2J (C : Cx p s m meth c Z own bytes ml rt nm) {pc pc' : Nat} {Ls : Array Slot} {st : List Value} {i : Nat} {x : Int64} (w : (Jvm.Cond.constantLong own i x).before a0 Z = true) (hd : decode bytes pc = .ok (.ldc2_w i, 3)) (hp : pc + 3 = pc') (K : Wp p l e R s m args below meth c n0 cM sM Q h cells slots (mkF m pc' Ls (.long x :: st))) :
    Wp p l e R s m args below meth c n0 cM sM Q h cells slots (mkF m pc Ls st) := by
  subst hp; intro T locs X e0 N
  obtain ⟨s2, v, L, a, r⟩ := K T locs X e0 N
  exact ⟨s2, v, L, X.ldc2Long C.1 C.2.2.2.1 (mvT C.2.2.1 w) (g := mkF m pc Ls st) rfl (hb C.2.1 hd) _ a, r⟩
theorem w_retN (C : Cx p s m meth c Z own bytes ml rt nm) {pc : Nat} {Ls : Array Slot} {st : List Value} {z : Int32} {t : FieldType} (hrt : rt = some t) (ht : t = .boolean ∨ t = .byte ∨ t = .char ∨ t = .short) (hd : decode bytes pc = .ok (.ireturn, 1)) (hc : cells ≤ cM) (hs : slots ≤ sM) (q : Q (some (.int (nar t z))) h) :
    Wp p l e R s m args below meth c n0 cM sM Q h cells slots (mkF m pc Ls (.int z :: st)) :=
  have hr : meth.sig.returnType = some t := C.2.2.2.2.2.1.trans hrt
  Wp.ret C (fun T fs locs X hl => retN X C.1 hr ht (hb C.2.1 hd) hl) (fun q => by rw [hr] at q; cases q) hc hs q
theorem narB0 : nar .boolean 0 = 0 := by decide
theorem narB1 : nar .boolean 1 = 1 := by decide
theorem w_retN' (C : Cx p s m meth c Z own bytes ml rt nm) {pc : Nat} {Ls : Array Slot} {st : List Value} {z z' : Int32} {t : FieldType} (hrt : rt = some t) (ht : t = .boolean ∨ t = .byte ∨ t = .char ∨ t = .short) (hd : decode bytes pc = .ok (.ireturn, 1)) (hc : cells ≤ cM) (hs : slots ≤ sM) (hz : nar t z = z') (q : Q (some (.int z')) h) :
    Wp p l e R s m args below meth c n0 cM sM Q h cells slots (mkF m pc Ls (.int z :: st)) := by
  subst hz; exact w_retN C hrt ht hd hc hs q
theorem ireturn_step {T : State} {locs : List Loc} (X : Stand p l e R s m args below meth c T locs cells slots) (hx : p.tables.exec = Jvm.exec) {pc : Nat} {Ls : Array Slot} {z : Int32} {rest : List Value} (hret : meth.sig.returnType = some .int) (hd : decode c.code pc = .ok (.ireturn, 1)) {fs : List Frame}
    (hl : ∀ (f : JFrame) (acts : List Action), f.method = m → f.locked = none → f.entered = [] → (doReturn e (T.setTop f) acts (some (.int z))).1 = T.setFrames fs) : Steps p.tables e below (T.setTop (mkF m pc Ls (.int z :: rest))) (T.setFrames fs) :=
  retOut X hx (t := .int) (i := .ireturn) hret rfl (Or.inl ⟨rfl, Or.inl rfl, _, rfl⟩) hd hl
theorem w_retI (C : Cx p s m meth c Z own bytes ml rt nm) {pc : Nat} {Ls : Array Slot} {st : List Value} {z : Int32} (hrt : rt = some .int) (hd : decode bytes pc = .ok (.ireturn, 1)) (hc : cells ≤ cM) (hs : slots ≤ sM) (q : Q (some (.int z)) h) :
    Wp p l e R s m args below meth c n0 cM sM Q h cells slots (mkF m pc Ls (.int z :: st)) :=
  have hr : meth.sig.returnType = some .int := C.2.2.2.2.2.1.trans hrt
  Wp.ret C (fun T fs locs X hl => ireturn_step X C.1 hr (hb C.2.1 hd) hl) (fun q => by rw [hr] at q; cases q) hc hs q
theorem w_retJ (C : Cx p s m meth c Z own bytes ml rt nm) {pc : Nat} {Ls : Array Slot} {st : List Value} {z : Int64} (hrt : rt = some .long) (hd : decode bytes pc = .ok (.lreturn, 1)) (hc : cells ≤ cM) (hs : slots ≤ sM) (q : Q (some (.long z)) h) :
    Wp p l e R s m args below meth c n0 cM sM Q h cells slots (mkF m pc Ls (.long z :: st)) :=
  have hr : meth.sig.returnType = some .long := C.2.2.2.2.2.1.trans hrt
  Wp.ret C (fun T fs locs X hl => retOut X C.1 (t := .long) (i := .lreturn) hr rfl (Or.inr (Or.inl ⟨rfl, rfl, _, rfl⟩)) (hb C.2.1 hd) hl) (fun q => by rw [hr] at q; cases q) hc hs q
theorem w_retA (C : Cx p s m meth c Z own bytes ml rt nm) {pc : Nat} {Ls : Array Slot} {st : List Value} {v : Value} {t : FieldType} (hrt : rt = some t) (ht : t.isReference = true) (hv : v.isRef = true) (hd : decode bytes pc = .ok (.areturn, 1)) (hc : cells ≤ cM) (hs : slots ≤ sM) (q : Q (some v) h) :
    Wp p l e R s m args below meth c n0 cM sM Q h cells slots (mkF m pc Ls (v :: st)) :=
  have hr : meth.sig.returnType = some t := C.2.2.2.2.2.1.trans hrt
  Wp.ret C (fun T fs locs X hl => retOut X C.1 (t := t) (i := .areturn) hr (by cases v <;> simp [Value.isRef] at hv <;> cases t <;> first | rfl | (simp [FieldType.isReference] at ht)) (Or.inr (Or.inr (Or.inr (Or.inr ⟨rfl, ht, hv⟩)))) (hb C.2.1 hd) hl) (fun q => by rw [hr] at q; cases q) hc hs q
theorem w_ret0 (C : Cx p s m meth c Z own bytes ml rt nm) {pc : Nat} {Ls : Array Slot} (hrt : rt = none) (hd : decode bytes pc = .ok (.return_, 1)) (hc : cells ≤ cM) (hs : slots ≤ sM) (q : Q none h) :
    Wp p l e R s m args below meth c n0 cM sM Q h cells slots (mkF m pc Ls []) :=
  have hr : meth.sig.returnType = none := C.2.2.2.2.2.1.trans hrt
  Wp.ret C (fun T fs locs X hl => X.returnOut C.1 hr (hb C.2.1 hd) hl) (fun _ => rfl) hc hs q
theorem w_getF (C : Cx p s m meth c Z own bytes ml rt nm) {pc pc' : Nat} {Ls : Array Slot} {st : List Value} {O n d : String} {i : Nat} {a : Addr} {v : Value} (w : (Jvm.Cond.fieldLink own i O n d).before a0 Z = true) (hd : decode bytes pc = .ok (.getfield i, 3)) (hp : pc + 3 = pc') (F : Fld Z h a O n d v) (K : Wp p l e R s m args below meth c n0 cM sM Q h cells slots (mkF m pc' Ls (v :: st))) :
    Wp p l e R s m args below meth c n0 cM sM Q h cells slots (mkF m pc Ls (.ref a :: st)) := by
  subst hp
  exact Wp.law (fun T locs X e0 => getF X C.1 C.2.2.1 C.2.2.2.1 (host := "") (Or.inl w) Via.refl e0 F (g := mkF m pc Ls (.ref a :: st)) rfl rfl (hb C.2.1 hd)) K
theorem w_getFN (C : Cx p s m meth c Z own bytes ml rt nm) {pc pc' : Nat} {Ls : Array Slot} {st : List Value} {O n d host : String} {i : Nat} {a : Addr} {v : Value} (w : (Jvm.Cond.fieldLinkNest own i O n d host).before a0 Z = true) (hd : decode bytes pc = .ok (.getfield i, 3)) (hp : pc + 3 = pc') (F : Fld Z h a O n d v) (K : Wp p l e R s m args below meth c n0 cM sM Q h cells slots (mkF m pc' Ls (v :: st))) :
    Wp p l e R s m args below meth c n0 cM sM Q h cells slots (mkF m pc Ls (.ref a :: st)) := by
  subst hp
  exact Wp.law (fun T locs X e0 => getF X C.1 C.2.2.1 C.2.2.2.1 (Or.inr w) Via.refl e0 F (g := mkF m pc Ls (.ref a :: st)) rfl rfl (hb C.2.1 hd)) K
theorem w_getS (C : Cx p s m meth c Z own bytes ml rt nm) {pc pc' : Nat} {Ls : Array Slot} {st : List Value} {O n d : String} {i : Nat} {v : Value} (w : (Jvm.Cond.fieldLink own i O n d).before a0 Z = true) (hd : decode bytes pc = .ok (.getstatic i, 3)) (hp : pc + 3 = pc') (F : Sta Z h O n d v) (K : Wp p l e R s m args below meth c n0 cM sM Q h cells slots (mkF m pc' Ls (v :: st))) :
    Wp p l e R s m args below meth c n0 cM sM Q h cells slots (mkF m pc Ls st) := by
  subst hp
  exact Wp.law (fun T locs X e0 => getS X C.1 C.2.2.1 C.2.2.2.1 (host := "") w Via.refl e0 F (g := mkF m pc Ls st) rfl (hb C.2.1 hd)) K
theorem w_putF (C : Cx p s m meth c Z own bytes ml rt nm) {pc pc' : Nat} {Ls : Array Slot} {st : List Value} {O n d Cl : String} {i kk : Nat} {a : Addr} {v old : Value} {ty : FieldType} (w : (Jvm.Cond.fieldLink own i O n d).before a0 Z = true) (L : (Jvm.Cond.lays Cl O n d).before a0 Z = true ∨ ((Jvm.Cond.laysFinal Cl O n d).before a0 Z = true ∧ own = O ∧ nm = "<init>")) (wi : (Jvm.Cond.instantiable Cl kk).before a0 Z = true)
    (hty : parseFieldDescriptor d = some ty) (hn : narrow ty v = v) (hf : fits ty v = true) (hd : decode bytes pc = .ok (.putfield i, 3)) (hp : pc + 3 = pc') (g0 : n0 ≤ a) (F : Fld Z h a O n d old) (E : Exa Z h a Cl)
    (K : ∀ h', Wr h h' a (Jvm.RoadKit.slotOf Z O n d) v → Wp p l e R s m args below meth c n0 cM sM Q h' cells slots (mkF m pc' Ls st)) :
    Wp p l e R s m args below meth c n0 cM sM Q h cells slots (mkF m pc Ls (v :: .ref a :: st)) := by
  subst hp
  intro T locs X e0 N
  obtain ⟨T', h', X', e', W, st'⟩ := putF X C.1 C.2.2.1 C.2.2.2.1 (host := "") (Or.inl w) Via.refl e0 F E (L.imp id fun q => ⟨q.1, q.2.1, C.2.2.2.2.2.2.1.trans q.2.2⟩) wi hty hn hf (g := mkF m pc Ls (v :: .ref a :: st)) rfl rfl (hb C.2.1 hd)
  obtain ⟨s2, u, Lc, x, r⟩ := K h' W T' _ X' e' (Fr.snoc X' N g0)
  exact ⟨s2, u, Lc, st' _ x, r⟩
theorem w_putFN (C : Cx p s m meth c Z own bytes ml rt nm) {pc pc' : Nat} {Ls : Array Slot} {st : List Value} {O n d Cl : String} {i kk : Nat} {a : Addr} {v old : Value} {ty : FieldType} {host : String} (w : (Jvm.Cond.fieldLinkNest own i O n d host).before a0 Z = true) (L : (Jvm.Cond.lays Cl O n d).before a0 Z = true ∨ ((Jvm.Cond.laysFinal Cl O n d).before a0 Z = true ∧ own = O ∧ nm = "<init>")) (wi : (Jvm.Cond.instantiable Cl kk).before a0 Z = true)
    (hty : parseFieldDescriptor d = some ty) (hn : narrow ty v = v) (hf : fits ty v = true) (hd : decode bytes pc = .ok (.putfield i, 3)) (hp : pc + 3 = pc') (g0 : n0 ≤ a) (F : Fld Z h a O n d old) (E : Exa Z h a Cl)
    (K : ∀ h', Wr h h' a (Jvm.RoadKit.slotOf Z O n d) v → Wp p l e R s m args below meth c n0 cM sM Q h' cells slots (mkF m pc' Ls st)) :
    Wp p l e R s m args below meth c n0 cM sM Q h cells slots (mkF m pc Ls (v :: .ref a :: st)) := by
  subst hp
  intro T locs X e0 N
  obtain ⟨T', h', X', e', W, st'⟩ := putF X C.1 C.2.2.1 C.2.2.2.1 (Or.inr w) Via.refl e0 F E (L.imp id fun q => ⟨q.1, q.2.1, C.2.2.2.2.2.2.1.trans q.2.2⟩) wi hty hn hf (g := mkF m pc Ls (v :: .ref a :: st)) rfl rfl (hb C.2.1 hd)
  obtain ⟨s2, u, Lc, x, r⟩ := K h' W T' _ X' e' (Fr.snoc X' N g0)
  exact ⟨s2, u, Lc, st' _ x, r⟩
theorem w_putFZ (C : Cx p s m meth c Z own bytes ml rt nm) {pc pc' : Nat} {Ls : Array Slot} {st : List Value} {O n d Cl : String} {i kk : Nat} {a : Addr} {v v' old : Value} {ty : FieldType} (w : (Jvm.Cond.fieldLink own i O n d).before a0 Z = true) (L : (Jvm.Cond.lays Cl O n d).before a0 Z = true ∨ ((Jvm.Cond.laysFinal Cl O n d).before a0 Z = true ∧ own = O ∧ nm = "<init>")) (wi : (Jvm.Cond.instantiable Cl kk).before a0 Z = true)
    (hty : parseFieldDescriptor d = some ty) (hn : narrow ty v = v') (hf : fits ty v' = true) (hd : decode bytes pc = .ok (.putfield i, 3)) (hp : pc + 3 = pc') (g0 : n0 ≤ a) (F : Fld Z h a O n d old) (E : Exa Z h a Cl)
    (K : ∀ h', Wr h h' a (Jvm.RoadKit.slotOf Z O n d) v' → Wp p l e R s m args below meth c n0 cM sM Q h' cells slots (mkF m pc' Ls st)) :
    Wp p l e R s m args below meth c n0 cM sM Q h cells slots (mkF m pc Ls (v :: .ref a :: st)) := by
  subst hp
  intro T locs X e0 N
  obtain ⟨T', h', X', e', W, st'⟩ := putFN X C.1 C.2.2.1 C.2.2.2.1 w Via.refl e0 F E (L.imp id fun q => ⟨q.1, q.2.1, C.2.2.2.2.2.2.1.trans q.2.2⟩) wi hty hn hf (g := mkF m pc Ls (v :: .ref a :: st)) rfl rfl (hb C.2.1 hd)
  obtain ⟨s2, u, Lc, x, r⟩ := K h' W T' _ X' e' (Fr.snoc X' N g0)
  exact ⟨s2, u, Lc, st' _ x, r⟩
theorem ready39 {Z : State} {vm' : Vm} {cur i c : Nat} {f : Field} (h : Z.Warmed39 vm') (r : Z.vm.fieldReady cur i c f) : vm'.fieldReady cur i c f := by
  obtain ⟨k, j, kc, h1, h2, h3, h4⟩ := r
  obtain ⟨k', a1, a2, -, a4, -⟩ := h.2.2.2 cur k h1
  obtain ⟨kc', b1, b2, -⟩ := h.2.2.2 c kc h3
  refine ⟨k', j, kc', a1, ?_, b1, by rw [b2]; exact h4⟩
  rcases a4 i with q | ⟨q, -⟩
  · rw [q]; exact h2
  · rw [h2] at q; cases q
/-- a field whose entry is resolved already -/
theorem w_getFR (C : Cx p s m meth c Z own bytes ml rt nm) {pc pc' : Nat} {Ls : Array Slot} {st : List Value} {O n d : String} {i : Nat} {a : Addr} {v : Value} (w : (Jvm.Cond.fieldRef own i O n d).before a0 Z = true) (hd : decode bytes pc = .ok (.getfield i, 3)) (hp : pc + 3 = pc') (F : Fld Z h a O n d v) (K : Wp p l e R s m args below meth c n0 cM sM Q h cells slots (mkF m pc' Ls (v :: st))) :
    Wp p l e R s m args below meth c n0 cM sM Q h cells slots (mkF m pc Ls (.ref a :: st)) := by
  subst hp
  refine Wp.law (fun T locs X e0 => ⟨T, X, e0, fun t hr => ?_⟩) K
  obtain ⟨cell, cf, k, ix, f, h1, h2, h3, h4, h5, h6, h7⟩ := F
  have hown := C.2.2.2.1
  rw [C.2.2.1.alike.findClass] at hown
  obtain ⟨cf', k', ix', f', g1, g2⟩ := Cond.fieldRef_spec hown w
  cases h2.symm.trans g1
  have hready := ready39 (wtrans C.2.2.1 X.warmed) g2
  have hexec := C.1
  have hdg := hb C.2.1 hd
  have hcell : T.heap[a]? = some cell := by rw [e0]; exact h1
  show Steps p.tables e below (T.setTop (mkF m pc Ls (.ref a :: st))) t
  jvm_step X.here [hexec, hdg, getfield.wp_ready (e := e) (s := T) (f := mkF m pc Ls (.ref a :: st)) X.here.top hready h3 rfl hcell h4 h7]
  exact hr
theorem w_putFR (C : Cx p s m meth c Z own bytes ml rt nm) {pc pc' : Nat} {Ls : Array Slot} {st : List Value} {O n d Cl : String} {i kk : Nat} {a : Addr} {v old : Value} {ty : FieldType} (w : (Jvm.Cond.fieldRef own i O n d).before a0 Z = true) (L : (Jvm.Cond.lays Cl O n d).before a0 Z = true) (wi : (Jvm.Cond.instantiable Cl kk).before a0 Z = true)
    (hty : parseFieldDescriptor d = some ty) (hn : narrow ty v = v) (hf : fits ty v = true) (hd : decode bytes pc = .ok (.putfield i, 3)) (hp : pc + 3 = pc') (g0 : n0 ≤ a) (F : Fld Z h a O n d old) (E : Exa Z h a Cl)
    (K : ∀ h', Wr h h' a (Jvm.RoadKit.slotOf Z O n d) v → Wp p l e R s m args below meth c n0 cM sM Q h' cells slots (mkF m pc' Ls st)) :
    Wp p l e R s m args below meth c n0 cM sM Q h cells slots (mkF m pc Ls (v :: .ref a :: st)) := by
  subst hp
  intro T locs X e0 N
  obtain ⟨cell, cf, k, ix, f, h1, h2, h3, h4, h5, -, h7⟩ := F
  obtain ⟨cell', kc, e1, e2, e3, -⟩ := E
  cases h1.symm.trans e1
  obtain ⟨c1, k1, cf1, kf1, i1, f1, a1, a2, a3, -, -, a6, -⟩ := Laid.spec (a0 := a0) (Or.inl L)
  cases h2.symm.trans a3
  cases e2.symm.trans a1
  obtain ⟨c2, k2, j1, j2, j3, -⟩ := Cond.instantiable_spec wi
  cases e2.symm.trans j1
  cases a2.symm.trans j2
  have ht := (State.fieldFound?_type h2 hty).2
  have hfit : Z.fitsSlot cell.cls cell.vm f.slot v = true := by
    have q : Z.slotType? cell.cls cell.vm f.slot = some ty := by
      simp only [State.slotType?, a2, Option.bind_eq_bind, Option.bind_some, j3]
      cases hq : cell.vm <;> first | (rw [hq] at h5; exact Bool.noConfusion h5) | (rw [a6, ht])
    simp [State.fitsSlot, q, hf]
  have hU := wtrans C.2.2.1 X.warmed
  have hfit' : T.fitsSlot cell.cls cell.vm f.slot v = true := by rw [← State.fitsSlot_setVm hU.alike] at hfit; exact hfit
  obtain ⟨_, _, _, _, _, _, -, -, b3, -, b5, -⟩ := Cond.lays_spec L
  cases h2.symm.trans b3
  have hown := C.2.2.2.1
  rw [C.2.2.1.alike.findClass] at hown
  obtain ⟨cf', k', ix', f', g1, g2⟩ := Cond.fieldRef_spec hown w
  cases h2.symm.trans g1
  have hlt := (Array.getElem?_eq_some_iff.mp h7).1
  have es : Jvm.RoadKit.slotOf Z O n d = f.slot := by simp [Jvm.RoadKit.slotOf, h2]
  obtain ⟨X', st'⟩ := X.putfieldReady C.1 (ready39 hU g2) h3 (Or.inl b5) (by rw [e0]; exact h1) h4 hlt (by rw [ht]; exact hn) hfit' (g := mkF m pc Ls (v :: .ref a :: st)) rfl rfl (hb C.2.1 hd)
  obtain ⟨s2, u, Lc, x, r⟩ := K (h.setIfInBounds a (cell.setSlot f.slot v)) ⟨cell, h1, h5, by rw [es]; exact hlt, by rw [es]⟩ _ _ X' (by rw [← e0]; rfl) (Fr.snoc X' N g0)
  exact ⟨s2, u, Lc, st' _ x, r⟩
theorem w_new (C : Cx p s m meth c Z own bytes ml rt nm) {pc pc' ce' sl' : Nat} {Ls : Array Slot} {st : List Value} {Cl : String} {i n : Nat} (w : (Jvm.Cond.classLink own i Cl).before a0 Z = true) (wi : (Jvm.Cond.instantiable Cl n).before a0 Z = true) (wz : (Jvm.Cond.initialized Cl).before a0 Z = true) (hd : decode bytes pc = .ok (.new i, 3)) (hp : pc + 3 = pc') (hc1 : cells + 1 = ce') (hl1 : slots + n = sl') (hc : ce' ≤ R.cells) (hl : sl' ≤ R.slots)
    (K : ∀ h' a, a = h.size → Ext h h' → Exa Z h' a Cl → (∀ {O nm d : String} {ty : FieldType}, Laid Z a0 Cl O nm d → parseFieldDescriptor d = some ty → Fld Z h' a O nm d (defaultValue ty)) → Wp p l e R s m args below meth c n0 cM sM Q h' ce' sl' (mkF m pc' Ls (.ref a :: st))) :
    Wp p l e R s m args below meth c n0 cM sM Q h cells slots (mkF m pc Ls st) := by
  subst hp hc1 hl1
  intro T locs X e0 N
  obtain ⟨T', h', X', e', E, A, D, -, st'⟩ := newO X C.1 C.2.2.1 C.2.2.2.1 w wi wz e0 (g := mkF m pc Ls st) rfl (hb C.2.1 hd) hc hl
  obtain ⟨s2, u, Lc, x, r⟩ := K h' h.size rfl E A D T' _ X' e' N
  exact ⟨s2, u, Lc, st' _ x, r⟩
theorem w_newP (C : Cx p s m meth c Z own bytes ml rt nm) {pc pc' ce' sl' : Nat} {Ls : Array Slot} {st : List Value} {aty : ArrayType} {n : Int32} {cap : Nat} (w : (Jvm.Cond.arrayClass (newarray.typeOf aty)).before a0 Z = true) (hd : decode bytes pc = .ok (.newarray aty, 2)) (hp : pc + 2 = pc') (hn : ¬ n < 0) (hcap : n.toNatClampNeg ≤ cap) (hbig : cap * 8 ≤ 536870912) (hc1 : cells + 1 = ce') (hl1 : slots + cap = sl') (hc : ce' ≤ R.cells) (hl : sl' ≤ R.slots)
    (K : ∀ h' a cA, a = h.size → Ext h h' → Arr Z h' a (newA cA (newarray.typeOf aty) n) (newarray.typeOf aty) → Wp p l e R s m args below meth c n0 cM sM Q h' ce' sl' (mkF m pc' Ls (.ref a :: st))) :
    Wp p l e R s m args below meth c n0 cM sM Q h cells slots (mkF m pc Ls (.int n :: st)) := by
  subst hp hc1 hl1
  intro T locs X e0 N
  obtain ⟨T', h', cA, X', e', E, A, st'⟩ := newP X C.1 C.2.2.1 w e0 (g := mkF m pc Ls (.int n :: st)) rfl (hb C.2.1 hd) rfl hn hcap hbig hc hl
  obtain ⟨s2, u, Lc, x, r⟩ := K h' h.size cA rfl E A T' _ X' e' N
  exact ⟨s2, u, Lc, st' _ x, r⟩
theorem w_newR (C : Cx p s m meth c Z own bytes ml rt nm) {pc pc' ce' sl' : Nat} {Ls : Array Slot} {st : List Value} {Cl : String} {i : Nat} {n : Int32} {cap : Nat} (w1 : (Jvm.Cond.classLink own i Cl).before a0 Z = true) (w2 : (Jvm.Cond.arrayOver (.object Cl)).before a0 Z = true) (hd : decode bytes pc = .ok (.anewarray i, 3)) (hp : pc + 3 = pc') (hn : ¬ n < 0) (hcap : n.toNatClampNeg ≤ cap) (hbig : cap * 8 ≤ 536870912) (hc1 : cells + 1 = ce') (hl1 : slots + cap = sl') (hc : ce' ≤ R.cells) (hl : sl' ≤ R.slots)
    (K : ∀ h' a cA, a = h.size → Ext h h' → Arr Z h' a (newA cA (.object Cl) n) (.object Cl) → Ovr Z cA Cl → Wp p l e R s m args below meth c n0 cM sM Q h' ce' sl' (mkF m pc' Ls (.ref a :: st))) :
    Wp p l e R s m args below meth c n0 cM sM Q h cells slots (mkF m pc Ls (.int n :: st)) := by
  subst hp hc1 hl1
  intro T locs X e0 N
  obtain ⟨T', h', cA, X', e', E, A, O, st'⟩ := newR X C.1 C.2.2.1 C.2.2.2.1 w1 w2 e0 (g := mkF m pc Ls (.int n :: st)) rfl (hb C.2.1 hd) rfl hn hcap hbig hc hl
  obtain ⟨s2, u, Lc, x, r⟩ := K h' h.size cA rfl E A O T' _ X' e' N
  exact ⟨s2, u, Lc, st' _ x, r⟩
theorem w_iastore (C : Cx p s m meth c Z own bytes ml rt nm) {pc pc' : Nat} {Ls : Array Slot} {st : List Value} {a : Addr} {cl : Cell} {j : Int32} {x : Int32} (hd : decode bytes pc = .ok (.iastore, 1)) (hp : pc + 1 = pc') (g0 : n0 ≤ a) (A : Arr Z h a cl .int) (hj : ¬ (j < 0 ∨ cl.slots.size ≤ j.toNatClampNeg))
    (K : ∀ h', Wr h h' a j.toNatClampNeg (.int x) → Wp p l e R s m args below meth c n0 cM sM Q h' cells slots (mkF m pc' Ls st)) :
    Wp p l e R s m args below meth c n0 cM sM Q h cells slots (mkF m pc Ls (.int x :: .int j :: .ref a :: st)) := by
  subst hp
  intro T locs X e0 N
  obtain ⟨T', h', X', e', W, st'⟩ := stI X C.1 C.2.2.1 e0 A hj (g := mkF m pc Ls (.int x :: .int j :: .ref a :: st)) rfl rfl (hb C.2.1 hd)
  obtain ⟨s2, u, Lc, q, r⟩ := K h' W T' _ X' e' (Fr.snoc X' N g0)
  exact ⟨s2, u, Lc, st' _ q, r⟩
theorem w_lastore (C : Cx p s m meth c Z own bytes ml rt nm) {pc pc' : Nat} {Ls : Array Slot} {st : List Value} {a : Addr} {cl : Cell} {j : Int32} {x : Int64} (hd : decode bytes pc = .ok (.lastore, 1)) (hp : pc + 1 = pc') (g0 : n0 ≤ a) (A : Arr Z h a cl .long) (hj : ¬ (j < 0 ∨ cl.slots.size ≤ j.toNatClampNeg))
    (K : ∀ h', Wr h h' a j.toNatClampNeg (.long x) → Wp p l e R s m args below meth c n0 cM sM Q h' cells slots (mkF m pc' Ls st)) :
    Wp p l e R s m args below meth c n0 cM sM Q h cells slots (mkF m pc Ls (.long x :: .int j :: .ref a :: st)) := by
  subst hp
  intro T locs X e0 N
  obtain ⟨T', h', X', e', W, st'⟩ := stJ X C.1 C.2.2.1 e0 A hj (g := mkF m pc Ls (.long x :: .int j :: .ref a :: st)) rfl rfl (hb C.2.1 hd)
  obtain ⟨s2, u, Lc, q, r⟩ := K h' W T' _ X' e' (Fr.snoc X' N g0)
  exact ⟨s2, u, Lc, st' _ q, r⟩
theorem w_castore (C : Cx p s m meth c Z own bytes ml rt nm) {pc pc' : Nat} {Ls : Array Slot} {st : List Value} {a : Addr} {cl : Cell} {j : Int32} {x : Int32} (hd : decode bytes pc = .ok (.castore, 1)) (hp : pc + 1 = pc') (g0 : n0 ≤ a) (A : Arr Z h a cl .char) (hj : ¬ (j < 0 ∨ cl.slots.size ≤ j.toNatClampNeg))
    (K : ∀ h', Wr h h' a j.toNatClampNeg (.int (nar .char x)) → Wp p l e R s m args below meth c n0 cM sM Q h' cells slots (mkF m pc' Ls st)) :
    Wp p l e R s m args below meth c n0 cM sM Q h cells slots (mkF m pc Ls (.int x :: .int j :: .ref a :: st)) := by
  subst hp
  intro T locs X e0 N
  obtain ⟨T', h', X', e', W, st'⟩ := stC X C.1 C.2.2.1 e0 A hj (g := mkF m pc Ls (.int x :: .int j :: .ref a :: st)) rfl rfl (hb C.2.1 hd)
  obtain ⟨s2, u, Lc, q, r⟩ := K h' W T' _ X' e' (Fr.snoc X' N g0)
  exact ⟨s2, u, Lc, st' _ q, r⟩
theorem w_aastore (C : Cx p s m meth c Z own bytes ml rt nm) {pc pc' : Nat} {Ls : Array Slot} {st : List Value} {a : Addr} {cl : Cell} {j : Int32} {v : Value} {ty : FieldType} (hd : decode bytes pc = .ok (.aastore, 1)) (hp : pc + 1 = pc') (g0 : n0 ≤ a) (A : Arr Z h a cl ty) (hj : ¬ (j < 0 ∨ cl.slots.size ≤ j.toNatClampNeg)) (hty : ty.isReference = true) (F : Sto Z h a v)
    (K : ∀ h', Wr h h' a j.toNatClampNeg v → Wp p l e R s m args below meth c n0 cM sM Q h' cells slots (mkF m pc' Ls st)) :
    Wp p l e R s m args below meth c n0 cM sM Q h cells slots (mkF m pc Ls (v :: .int j :: .ref a :: st)) := by
  subst hp
  intro T locs X e0 N
  obtain ⟨T', h', X', e', W, st'⟩ := stR X C.1 C.2.2.1 e0 A hj hty F (g := mkF m pc Ls (v :: .int j :: .ref a :: st)) rfl rfl (hb C.2.1 hd)
  obtain ⟨s2, u, Lc, q, r⟩ := K h' W T' _ X' e' (Fr.snoc X' N g0)
  exact ⟨s2, u, Lc, st' _ q, r⟩
theorem w_iaload (C : Cx p s m meth c Z own bytes ml rt nm) {pc pc' : Nat} {Ls : Array Slot} {st : List Value} {a : Addr} {cl : Cell} {j : Int32} {v : Value} (hd : decode bytes pc = .ok (.iaload, 1)) (hp : pc + 1 = pc') (A : Arr Z h a cl .int) (hj : ¬ (j < 0 ∨ cl.slots.size ≤ j.toNatClampNeg)) (hv : cl.slots[j.toNatClampNeg]? = some v)
    (K : Wp p l e R s m args below meth c n0 cM sM Q h cells slots (mkF m pc' Ls (v :: st))) :
    Wp p l e R s m args below meth c n0 cM sM Q h cells slots (mkF m pc Ls (.int j :: .ref a :: st)) := by
  subst hp
  intro T locs X e0 N
  obtain ⟨s2, u, L, q, r⟩ := K T locs X e0 N
  exact ⟨s2, u, L, X.iaload C.1 (j := j) (v := v) (by rw [e0]; exact A.1) (State.isArrayOf_alike C.2.2.1.alike A.2.1) A.2.2 hj hv (g := mkF m pc Ls (.int j :: .ref a :: st)) rfl rfl (hb C.2.1 hd) _ q, r⟩
theorem w_laload (C : Cx p s m meth c Z own bytes ml rt nm) {pc pc' : Nat} {Ls : Array Slot} {st : List Value} {a : Addr} {cl : Cell} {j : Int32} {v : Value} (hd : decode bytes pc = .ok (.laload, 1)) (hp : pc + 1 = pc') (A : Arr Z h a cl .long) (hj : ¬ (j < 0 ∨ cl.slots.size ≤ j.toNatClampNeg)) (hv : cl.slots[j.toNatClampNeg]? = some v)
    (K : Wp p l e R s m args below meth c n0 cM sM Q h cells slots (mkF m pc' Ls (v :: st))) :
    Wp p l e R s m args below meth c n0 cM sM Q h cells slots (mkF m pc Ls (.int j :: .ref a :: st)) := by
  subst hp
  intro T locs X e0 N
  obtain ⟨s2, u, L, q, r⟩ := K T locs X e0 N
  exact ⟨s2, u, L, X.laload C.1 (j := j) (v := v) (by rw [e0]; exact A.1) (State.isArrayOf_alike C.2.2.1.alike A.2.1) A.2.2 hj hv (g := mkF m pc Ls (.int j :: .ref a :: st)) rfl rfl (hb C.2.1 hd) _ q, r⟩
theorem w_caload (C : Cx p s m meth c Z own bytes ml rt nm) {pc pc' : Nat} {Ls : Array Slot} {st : List Value} {a : Addr} {cl : Cell} {j : Int32} {v : Value} (hd : decode bytes pc = .ok (.caload, 1)) (hp : pc + 1 = pc') (A : Arr Z h a cl .char) (hj : ¬ (j < 0 ∨ cl.slots.size ≤ j.toNatClampNeg)) (hv : cl.slots[j.toNatClampNeg]? = some v)
    (K : Wp p l e R s m args below meth c n0 cM sM Q h cells slots (mkF m pc' Ls (v :: st))) :
    Wp p l e R s m args below meth c n0 cM sM Q h cells slots (mkF m pc Ls (.int j :: .ref a :: st)) := by
  subst hp
  intro T locs X e0 N
  obtain ⟨s2, u, L, q, r⟩ := K T locs X e0 N
  exact ⟨s2, u, L, X.caload C.1 (j := j) (v := v) (by rw [e0]; exact A.1) (State.isArrayOf_alike C.2.2.1.alike A.2.1) A.2.2 hj hv (g := mkF m pc Ls (.int j :: .ref a :: st)) rfl rfl (hb C.2.1 hd) _ q, r⟩
theorem w_baload (C : Cx p s m meth c Z own bytes ml rt nm) {pc pc' : Nat} {Ls : Array Slot} {st : List Value} {a : Addr} {cl : Cell} {j : Int32} {v : Value} (hd : decode bytes pc = .ok (.baload, 1)) (hp : pc + 1 = pc') (A : Arr Z h a cl .byte) (hj : ¬ (j < 0 ∨ cl.slots.size ≤ j.toNatClampNeg)) (hv : cl.slots[j.toNatClampNeg]? = some v)
    (K : Wp p l e R s m args below meth c n0 cM sM Q h cells slots (mkF m pc' Ls (v :: st))) :
    Wp p l e R s m args below meth c n0 cM sM Q h cells slots (mkF m pc Ls (.int j :: .ref a :: st)) := by
  subst hp
  intro T locs X e0 N
  obtain ⟨s2, u, L, q, r⟩ := K T locs X e0 N
  exact ⟨s2, u, L, X.baloadBytes C.1 (j := j) (v := v) (by rw [e0]; exact A.1) (State.isArrayOf_alike C.2.2.1.alike A.2.1) A.2.2 hj hv (g := mkF m pc Ls (.int j :: .ref a :: st)) rfl rfl (hb C.2.1 hd) _ q, r⟩
theorem w_aaload (C : Cx p s m meth c Z own bytes ml rt nm) {pc pc' : Nat} {Ls : Array Slot} {st : List Value} {a : Addr} {cl : Cell} {j : Int32} {v : Value} {ty : FieldType} (hd : decode bytes pc = .ok (.aaload, 1)) (hp : pc + 1 = pc') (A : Arr Z h a cl ty) (hty : ty.isReference = true) (hj : ¬ (j < 0 ∨ cl.slots.size ≤ j.toNatClampNeg)) (hv : cl.slots[j.toNatClampNeg]? = some v)
    (K : Wp p l e R s m args below meth c n0 cM sM Q h cells slots (mkF m pc' Ls (v :: st))) :
    Wp p l e R s m args below meth c n0 cM sM Q h cells slots (mkF m pc Ls (.int j :: .ref a :: st)) := by
  subst hp
  intro T locs X e0 N
  obtain ⟨s2, u, L, q, r⟩ := K T locs X e0 N
  exact ⟨s2, u, L, X.aaload C.1 (j := j) (v := v) (by rw [e0]; exact A.1) (State.isArrayOf_alike C.2.2.1.alike A.2.1) hty A.2.2 hj hv (g := mkF m pc Ls (.int j :: .ref a :: st)) rfl rfl (hb C.2.1 hd) _ q, r⟩
theorem w_alen (C : Cx p s m meth c Z own bytes ml rt nm) {pc pc' : Nat} {Ls : Array Slot} {st : List Value} {a : Addr} {cl : Cell} {ty : FieldType} {n : Int32} (hd : decode bytes pc = .ok (.arraylength, 1)) (hp : pc + 1 = pc') (A : Arr Z h a cl ty) (hn : cl.slots.size.toInt32 = n)
    (K : Wp p l e R s m args below meth c n0 cM sM Q h cells slots (mkF m pc' Ls (.int n :: st))) :
    Wp p l e R s m args below meth c n0 cM sM Q h cells slots (mkF m pc Ls (.ref a :: st)) := by
  subst hp hn
  intro T locs X e0 N
  obtain ⟨s2, u, L, q, r⟩ := K T locs X e0 N
  exact ⟨s2, u, L, X.arraylength C.1 (by rw [e0]; exact A.1) (State.isArrayOf_alike C.2.2.1.alike A.2.1) (g := mkF m pc Ls (.ref a :: st)) rfl rfl (hb C.2.1 hd) _ q, r⟩
theorem w_initO (C : Cx p s m meth c Z own bytes ml rt nm) {pc pc' : Nat} {Ls : Array Slot} {st : List Value} {i : Nat} {a : Addr} {W : Nat} (w1 : (Jvm.Cond.methodLink own i Lib.objectInit).before a0 Z = true) (w2 : (Jvm.Cond.instanceMethod Lib.objectInit).before a0 Z = true) (w3 : (Jvm.Cond.code Lib.objectInit ⟨#[0xb1]⟩ 1 none).before a0 Z = true) (hd : decode bytes pc = .ok (.invokespecial i, 3)) (hp : pc + 3 = pc')
    (hsz : Ls.size = ml) (hf : 1 ≤ R.frames) (hW : (st.map fun v => v.category).sum ≤ W) (hl : W + 12 ≤ R.locals) (K : Wp p l e R s m args below meth c n0 cM sM Q h cells slots (mkF m pc' Ls st)) :
    Wp p l e R s m args below meth c n0 cM sM Q h cells slots (mkF m pc Ls (.ref a :: st)) := by
  subst hp
  exact Wp.law (fun T locs X e0 => initO X C.1 C.2.2.1 C.2.2.2.1 w1 w2 w3 e0 (g := mkF m pc Ls (.ref a :: st)) rfl (hsz.trans C.2.2.2.2.1.symm) rfl (hb C.2.1 hd) hf (by show 2 * 0 + _ ≤ _; rw [Nat.mul_zero, Nat.zero_add]; exact hW) hl) K
theorem w_callS (C : Cx p s m meth c Z own bytes ml rt nm) {pc pc' : Nat} {Ls : Array Slot} {stk st : List Value} {i : Nat} {ce' sl' : Nat} {y : MethodName} {cb : ByteArray} {cml : Nat} {cret : Option FieldType} {crm : Room} {argsL : List Value} {Q' : Option Value → Heap → Prop} {W : Nat} (w1 : (Jvm.Cond.methodLink own i y).before a0 Z = true) (w2 : (Jvm.Cond.static y).before a0 Z = true) (w3 : (Jvm.Cond.initialized y.cls).before a0 Z = true) (w4 : (Jvm.Cond.code y cb cml cret).before a0 Z = true) (hy : y.cls ≠ "java/lang/invoke/MethodHandle" ∧ y.cls ≠ "java/lang/invoke/VarHandle")
    (hd : decode bytes pc = .ok (.invokestatic i, 3)) (hp : pc + 3 = pc') (hst : stk = argsL.reverse ++ st) (hfr : crm.frames + 1 ≤ R.frames) (hlo : W + (cml + 11) + crm.locals ≤ R.locals) (hW : (st.map fun v => v.category).sum ≤ W) (hce1 : cells + crm.cells = ce') (hsl1 : slots + crm.slots = sl') (hce : ce' ≤ R.cells) (hsl : sl' ≤ R.slots) (hsz : Ls.size = ml) (hlen : ∀ sig, parseMethodDescriptor y.desc = some sig → argsL.length = sig.parameters.length) (ct : Ct l Z y cb cml cret [] crm argsL.toArray h n0 Q')
    (K : ∀ v h', Q' v h' → Wp p l e R s m args below meth c n0 cM sM Q h' ce' sl' (mkF m pc' Ls (v.toList ++ st))) :
    Wp p l e R s m args below meth c n0 cM sM Q h cells slots (mkF m pc Ls stk) := by
  subst hp hce1 hsl1
  intro T locs X e0 N
  obtain ⟨v, _, ⟨T', L', k', n'⟩, -, X', ⟨Lc, hq, l1, l2, l3⟩, st'⟩ := Jvm.LawKit.callS X C.1 (y := y) C.2.2.2.1 (mvT C.2.2.1 w1) (mvT C.2.2.1 w2) (mvT C.2.2.1 w3) (mvT C.2.2.1 w4) hy (backOf (W := W) (Q := fun v hh L => Q' v hh ∧ Fr n0 L) ct C.2.2.1 w4 w3 hfr hlo) (g := mkF m pc Ls stk) rfl (hsz.trans C.2.2.2.2.1.symm) (argsL := argsL) (rest := st) hlen hst (by show 2 * 0 + _ ≤ _; rw [Nat.mul_zero, Nat.zero_add]; exact hW) (hb C.2.1 hd) (fun _ _ => ⟨rfl, e0, hce, hsl⟩)
  dsimp only [Pt.U, Pt.locs, Pt.cells, Pt.slots] at X' l1 l2 l3 st' hq
  subst l1 l2 l3
  obtain ⟨s2, u, L, q, r⟩ := K _ _ hq.1 _ _ X' rfl (Fr.app N hq.2)
  exact ⟨s2, u, L, st' _ q, r⟩
theorem w_callI (C : Cx p s m meth c Z own bytes ml rt nm) {pc pc' : Nat} {Ls : Array Slot} {stk st : List Value} {i : Nat} {a : Addr} {ce' sl' : Nat} {y : MethodName} {cb : ByteArray} {cml : Nat} {crm : Room} {argsL : List Value} {Q' : Option Value → Heap → Prop} {W : Nat} (hin : y.name = "<init>") (w1 : (Jvm.Cond.methodLink own i y).before a0 Z = true) (w2 : (Jvm.Cond.instanceMethod y).before a0 Z = true) (w3 : (Jvm.Cond.initialized y.cls).before a0 Z = true) (w4 : (Jvm.Cond.code y cb cml none).before a0 Z = true) (hy : y.cls ≠ "java/lang/invoke/MethodHandle" ∧ y.cls ≠ "java/lang/invoke/VarHandle")
    (hd : decode bytes pc = .ok (.invokespecial i, 3)) (hp : pc + 3 = pc') (hst : stk = argsL.reverse ++ .ref a :: st) (hfr : crm.frames + 1 ≤ R.frames) (hlo : W + (cml + 11) + crm.locals ≤ R.locals) (hW : (st.map fun v => v.category).sum ≤ W) (hce1 : cells + crm.cells = ce') (hsl1 : slots + crm.slots = sl') (hce : ce' ≤ R.cells) (hsl : sl' ≤ R.slots) (hsz : Ls.size = ml) (hlen : ∀ sig, parseMethodDescriptor y.desc = some sig → argsL.length = sig.parameters.length) (ct : Ct l Z y cb cml none [] crm (.ref a :: argsL).toArray h n0 Q')
    (K : ∀ v h', Q' v h' → Wp p l e R s m args below meth c n0 cM sM Q h' ce' sl' (mkF m pc' Ls (v.toList ++ st))) :
    Wp p l e R s m args below meth c n0 cM sM Q h cells slots (mkF m pc Ls stk) := by
  subst hp hce1 hsl1
  intro T locs X e0 N
  obtain ⟨v, _, ⟨T', L', k', n'⟩, -, X', ⟨Lc, hq, l1, l2, l3⟩, st'⟩ := X.specialBack C.1 (y := y) hin C.2.2.2.1 (mvT C.2.2.1 w1) (mvT C.2.2.1 w2) (mvT C.2.2.1 w4) hy (backOf (W := W) (Q := fun v hh L => Q' v hh ∧ Fr n0 L) ct C.2.2.1 w4 w3 hfr hlo) (g := mkF m pc Ls stk) rfl (hsz.trans C.2.2.2.2.1.symm) (Steps.refl _) (a := a) (argsL := argsL) (rest := st) hlen hst (by show 2 * 0 + _ ≤ _; rw [Nat.mul_zero, Nat.zero_add]; exact hW) (hb C.2.1 hd) (fun _ _ => ⟨rfl, e0, hce, hsl⟩)
  dsimp only [Pt.U, Pt.locs, Pt.cells, Pt.slots] at X' l1 l2 l3 st' hq
  subst l1 l2 l3
  obtain ⟨s2, u, L, q, r⟩ := K _ _ hq.1 _ _ X' rfl (Fr.app N hq.2)
  exact ⟨s2, u, L, st'.trans q, r⟩
theorem w_callV (C : Cx p s m meth c Z own bytes ml rt nm) {pc pc' : Nat} {Ls : Array Slot} {stk st : List Value} {i : Nat} {a : Addr} {Cl : String} {ce' sl' : Nat} {y : MethodName} {cb : ByteArray} {cml : Nat} {cret : Option FieldType} {crm : Room} {argsL : List Value} {Q' : Option Value → Heap → Prop} {W : Nat} (w1 : (Jvm.Cond.methodLink own i y).before a0 Z = true) (w2 : (Jvm.Cond.declares y).before a0 Z = true) (w5 : (Jvm.Cond.selects Cl y y).before a0 Z = true) (w6 : (Jvm.Cond.instanceMethod y).before a0 Z = true) (w3 : (Jvm.Cond.initialized y.cls).before a0 Z = true) (w4 : (Jvm.Cond.code y cb cml cret).before a0 Z = true) (hy : y.cls ≠ "java/lang/invoke/MethodHandle" ∧ y.cls ≠ "java/lang/invoke/VarHandle")
    (hd : decode bytes pc = .ok (.invokevirtual i, 3)) (hp : pc + 3 = pc') (hst : stk = argsL.reverse ++ .ref a :: st) (hfr : crm.frames + 1 ≤ R.frames) (hlo : W + (cml + 11) + crm.locals ≤ R.locals) (hW : (st.map fun v => v.category).sum ≤ W) (hce1 : cells + crm.cells = ce') (hsl1 : slots + crm.slots = sl') (hce : ce' ≤ R.cells) (hsl : sl' ≤ R.slots) (hsz : Ls.size = ml) (hlen : ∀ sig, parseMethodDescriptor y.desc = some sig → argsL.length = sig.parameters.length) (E : Exa Z h a Cl) (ct : Ct l Z y cb cml cret [] crm (.ref a :: argsL).toArray h n0 Q')
    (K : ∀ v h', Q' v h' → Wp p l e R s m args below meth c n0 cM sM Q h' ce' sl' (mkF m pc' Ls (v.toList ++ st))) :
    Wp p l e R s m args below meth c n0 cM sM Q h cells slots (mkF m pc Ls stk) := by
  subst hp hce1 hsl1
  intro T locs X e0 N
  obtain ⟨_, _, qa, qb, qc⟩ := isOf C.2.2.1 e0 E
  obtain ⟨v, _, ⟨T', L', k', n'⟩, -, X', ⟨Lc, hq, l1, l2, l3⟩, st'⟩ := X.virtualBack C.1 (y := y) (z := y) C.2.2.2.1 (mvT C.2.2.1 w1) (mvT C.2.2.1 w2) (notFace_of_selects (args := #[]) (mvT C.2.2.1 w5)) (mvT C.2.2.1 w5) (mvT C.2.2.1 w6) hy (backOf (W := W) (Q := fun v hh L => Q' v hh ∧ Fr n0 L) ct C.2.2.1 w4 w3 hfr hlo) qa qc (g := mkF m pc Ls stk) rfl (hsz.trans C.2.2.2.2.1.symm) (Steps.refl _) (argsL := argsL) (rest := st) hlen hst (by show 2 * 0 + _ ≤ _; rw [Nat.mul_zero, Nat.zero_add]; exact hW) (hb C.2.1 hd) (fun _ _ => ⟨rfl, e0, hce, hsl⟩)
  dsimp only [Pt.U, Pt.locs, Pt.cells, Pt.slots] at X' l1 l2 l3 st' hq
  subst l1 l2 l3
  obtain ⟨s2, u, L, q, r⟩ := K _ _ hq.1 _ _ X' rfl (Fr.app N hq.2)
  exact ⟨s2, u, L, st'.trans q, r⟩
theorem w_callP (C : Cx p s m meth c Z own bytes ml rt nm) {pc pc' : Nat} {Ls : Array Slot} {stk st : List Value} {i : Nat} {a : Addr} {Cl : String} {ce' sl' : Nat} {y : MethodName} {cb : ByteArray} {cml : Nat} {cret : Option FieldType} {crm : Room} {argsL : List Value} {Q' : Option Value → Heap → Prop} {W : Nat} (w1 : (Jvm.Cond.methodLink own i y).before a0 Z = true) (w6 : (Jvm.Cond.instanceMethod y).before a0 Z = true) {kk : Nat} (w5 : (Jvm.Cond.instantiable y.cls kk).before a0 Z = true) (w7 : (Jvm.Cond.privateMethod y).before a0 Z = true) (w3 : (Jvm.Cond.initialized y.cls).before a0 Z = true) (w4 : (Jvm.Cond.code y cb cml cret).before a0 Z = true) (hy : y.cls ≠ "java/lang/invoke/MethodHandle" ∧ y.cls ≠ "java/lang/invoke/VarHandle")
    (hd : decode bytes pc = .ok (.invokevirtual i, 3)) (hp : pc + 3 = pc') (hst : stk = argsL.reverse ++ .ref a :: st) (hfr : crm.frames + 1 ≤ R.frames) (hlo : W + (cml + 11) + crm.locals ≤ R.locals) (hW : (st.map fun v => v.category).sum ≤ W) (hce1 : cells + crm.cells = ce') (hsl1 : slots + crm.slots = sl') (hce : ce' ≤ R.cells) (hsl : sl' ≤ R.slots) (hsz : Ls.size = ml) (hlen : ∀ sig, parseMethodDescriptor y.desc = some sig → argsL.length = sig.parameters.length) (E : Exa Z h a Cl) (ct : Ct l Z y cb cml cret [] crm (.ref a :: argsL).toArray h n0 Q')
    (K : ∀ v h', Q' v h' → Wp p l e R s m args below meth c n0 cM sM Q h' ce' sl' (mkF m pc' Ls (v.toList ++ st))) :
    Wp p l e R s m args below meth c n0 cM sM Q h cells slots (mkF m pc Ls stk) := by
  subst hp hce1 hsl1
  intro T locs X e0 N
  obtain ⟨cq, q1, q2⟩ := E.cell
  have hpr : s.PrivateAt y := Cond.privateMethod_at (mvP C.2.2.1 w7 (args := #[]))
  obtain ⟨ci, ki, i1, i2, -, i4, -⟩ := Cond.instantiable_spec (show (Jvm.Cond.instantiable y.cls kk).before #[] s = true from mvT C.2.2.1 w5)
  have hsel := selects_self_of_private (args := args) i1 i2 (by simp only [Bool.or_eq_false_iff] at i4; exact i4.1) hpr (mvT C.2.2.1 w6) hy
  obtain ⟨v, _, ⟨T', L', k', n'⟩, -, X', ⟨Lc, hq, l1, l2, l3⟩, st'⟩ := X.privateBack C.1 (y := y) C.2.2.2.1 (mvT C.2.2.1 w1) (mvT C.2.2.1 w6) hsel hpr (mvT C.2.2.1 w4) hy (backOf (W := W) (Q := fun v hh L => Q' v hh ∧ Fr n0 L) ct C.2.2.1 w4 w3 hfr hlo) (g := mkF m pc Ls stk) rfl (hsz.trans C.2.2.2.2.1.symm) (Steps.refl _) (a := a) (by rw [e0]; exact q1) q2 (argsL := argsL) (rest := st) hlen hst (by show 2 * 0 + _ ≤ _; rw [Nat.mul_zero, Nat.zero_add]; exact hW) (hb C.2.1 hd) (fun _ _ => ⟨rfl, e0, hce, hsl⟩)
  dsimp only [Pt.U, Pt.locs, Pt.cells, Pt.slots] at X' l1 l2 l3 st' hq
  subst l1 l2 l3
  obtain ⟨s2, u, L, q, r⟩ := K _ _ hq.1 _ _ X' rfl (Fr.app N hq.2)
  exact ⟨s2, u, L, st'.trans q, r⟩
theorem k1 {pc' ce' sl' : Nat} {Ls : Array Slot} {st : List Value} {r : Value} {P : Heap → Prop} (K : ∀ h', P h' → Wp p l e R s m args below meth c n0 cM sM Q h' ce' sl' (mkF m pc' Ls (r :: st))) : ∀ v h', (v = some r ∧ P h') → Wp p l e R s m args below meth c n0 cM sM Q h' ce' sl' (mkF m pc' Ls (v.toList ++ st)) := fun v h' q => by
  obtain ⟨rfl, q⟩ := q; exact K h' q
theorem k0 {pc' ce' sl' : Nat} {Ls : Array Slot} {st : List Value} {P : Heap → Prop} (K : ∀ h', P h' → Wp p l e R s m args below meth c n0 cM sM Q h' ce' sl' (mkF m pc' Ls st)) : ∀ v h', (v = none ∧ P h') → Wp p l e R s m args below meth c n0 cM sM Q h' ce' sl' (mkF m pc' Ls (v.toList ++ st)) := fun v h' q => by
  obtain ⟨rfl, q⟩ := q; exact K h' q
theorem kp {pc' ce' sl' : Nat} {Ls : Array Slot} {st : List Value} {r : Value} (K : Wp p l e R s m args below meth c n0 cM sM Q h ce' sl' (mkF m pc' Ls (r :: st))) : ∀ v h', (v = some r ∧ h' = h) → Wp p l e R s m args below meth c n0 cM sM Q h' ce' sl' (mkF m pc' Ls (v.toList ++ st)) := fun v h' q => by
  obtain ⟨rfl, rfl⟩ := q; exact K
theorem kx {pc' ce' sl' : Nat} {Ls : Array Slot} {st : List Value} {P : Addr → Heap → Prop} (K : ∀ b h', P b h' → Wp p l e R s m args below meth c n0 cM sM Q h' ce' sl' (mkF m pc' Ls (.ref b :: st))) : ∀ v h', (∃ b, v = some (.ref b) ∧ P b h') → Wp p l e R s m args below meth c n0 cM sM Q h' ce' sl' (mkF m pc' Ls (v.toList ++ st)) := fun v h' q => by
  obtain ⟨b, rfl, q⟩ := q; exact K b h' q
theorem kz {pc' ce' sl' : Nat} {Ls : Array Slot} {st : List Value} {P : Int32 → Heap → Prop} (K : ∀ b h', P b h' → Wp p l e R s m args below meth c n0 cM sM Q h' ce' sl' (mkF m pc' Ls (.int b :: st))) : ∀ v h', (∃ b, v = some (.int b) ∧ P b h') → Wp p l e R s m args below meth c n0 cM sM Q h' ce' sl' (mkF m pc' Ls (v.toList ++ st)) := fun v h' q => by
  obtain ⟨b, rfl, q⟩ := q; exact K b h' q
theorem kv {pc' ce' sl' : Nat} {Ls : Array Slot} {st : List Value} (K : Wp p l e R s m args below meth c n0 cM sM Q h ce' sl' (mkF m pc' Ls st)) : ∀ v h', (v = none ∧ h' = h) → Wp p l e R s m args below meth c n0 cM sM Q h' ce' sl' (mkF m pc' Ls (v.toList ++ st)) := fun v h' q => by
  obtain ⟨rfl, rfl⟩ := q; exact K
end Rules
theorem cat_ref {v : Value} (hv : v.isRef = true) : v.category = 1 := by cases v <;> simp [Value.isRef] at hv <;> rfl
theorem st_ref {Ls Ls' : Array Slot} {k : Nat} {v : Value} {o : Slot} (hv : v.isRef = true) (ho : Ls[k]? = some o) (hc : o = .unset ∨ ∃ w, o = .val w ∧ w.category = 1) (e : Ls.setIfInBounds k (.val v) = Ls') : storeLocals Ls k v = some Ls' := by
  rw [← e]; exact XS.store1 ho hc (cat_ref hv)
/-! objects and arrays, each one fact -/
section Facts
variable {Z : State} {h h' : Heap} {a b : Addr} {Cl n d : String} {v v' w : Value} {fs fs' : List (String × String × Value)} {ws : List Addr} {sl : Nat} {ty : FieldType} {vs : List Value}
/-- an object of exactly the class Cl, and what its fields hold -/
def Obj (Z : State) (h : Heap) (a : Addr) (Cl : String) (fs : List (String × String × Value)) : Prop :=
  Exa Z h a Cl ∧ (∀ (i : Nat) (f : String × String × Value), fs[i]? = some f → Fld Z h a Cl f.1 f.2.1 f.2.2) ∧ ∀ (i j : Nat) (f g : String × String × Value), fs[i]? = some f → fs[j]? = some g → i ≠ j → Jvm.RoadKit.slotOf Z Cl f.1 f.2.1 ≠ Jvm.RoadKit.slotOf Z Cl g.1 g.2.1
theorem Obj.lt (O : Obj Z h a Cl fs) : a < h.size := O.1.lt
theorem Obj.fld (O : Obj Z h a Cl fs) (i : Nat) (e : fs[i]? = some (n, d, v)) : Fld Z h a Cl n d v := O.2.1 i _ e
theorem Obj.ext (O : Obj Z h a Cl fs) (E : Ext h h') : Obj Z h' a Cl fs := ⟨O.1.ext E, fun i f q => (O.2.1 i f q).ext E, O.2.2⟩
theorem Obj.keep (O : Obj Z h a Cl fs) (K : Keep h h' ws) (q : a ∉ ws) : Obj Z h' a Cl fs := ⟨O.1.keep K, fun i f r => (O.2.1 i f r).keep K q, O.2.2⟩
theorem Obj.other (O : Obj Z h a Cl fs) (W : Wr h h' b sl w) (q : a ≠ b) : Obj Z h' a Cl fs := ⟨O.1.wr W, fun i f r => (O.2.1 i f r).other W (Or.inl q), O.2.2⟩
theorem Obj.put (O : Obj Z h a Cl fs) (i : Nat) (e : fs[i]? = some (n, d, v)) (W : Wr h h' a (Jvm.RoadKit.slotOf Z Cl n d) v') (e' : fs.set i (n, d, v') = fs') : Obj Z h' a Cl fs' := by
  subst e'
  have key : ∀ j f, (fs.set i (n, d, v'))[j]? = some f → ∃ u, fs[j]? = some (f.1, f.2.1, u) ∧ (j = i → f = (n, d, v')) ∧ (j ≠ i → fs[j]? = some f) := fun j f q => by
    by_cases z : i = j
    · subst z
      have hl : i < fs.length := (List.getElem?_eq_some_iff.mp e).1
      rw [List.getElem?_set_self hl] at q
      cases q
      exact ⟨v, e, fun _ => rfl, fun r => absurd rfl r⟩
    · rw [List.getElem?_set_ne z] at q
      exact ⟨f.2.2, q, fun r => absurd r.symm z, fun _ => q⟩
  refine ⟨O.1.wr W, fun j f q => ?_, fun j k f g q r z => ?_⟩
  · obtain ⟨u, k1, k2, k3⟩ := key j f q
    by_cases z : j = i
    · cases k2 z; subst z
      exact (O.fld j e).same W
    · have ne : Jvm.RoadKit.slotOf Z Cl f.1 f.2.1 ≠ Jvm.RoadKit.slotOf Z Cl n d := O.2.2 j i f (n, d, v) (k3 z) e z
      exact Fld.other W (O.2.1 j f (k3 z)) (Or.inr ne)
  · obtain ⟨u, k1, -⟩ := key j f q
    obtain ⟨u', k2, -⟩ := key k g r
    exact O.2.2 j k (f.1, f.2.1, u) (g.1, g.2.1, u') k1 k2 z
theorem Obj.size (O : Obj Z h a Cl fs) (K : Keep h h' ws) : h.size ≤ h'.size := K.1
/-- an array of the component type ty, and what it holds -/
def Ar (Z : State) (h : Heap) (a : Addr) (ty : FieldType) (vs : List Value) : Prop := ∃ cl : Cell, Arr Z h a cl ty ∧ cl.slots = vs.toArray
theorem Ar.lt (A : Ar Z h a ty vs) : a < h.size := by obtain ⟨_, A, -⟩ := A; exact A.lt
theorem Ar.ext (A : Ar Z h a ty vs) (E : Ext h h') : Ar Z h' a ty vs := by obtain ⟨cl, A, q⟩ := A; exact ⟨cl, A.ext E, q⟩
theorem Ar.keep (A : Ar Z h a ty vs) (K : Keep h h' ws) (q : a ∉ ws) : Ar Z h' a ty vs := by obtain ⟨cl, A, r⟩ := A; exact ⟨cl, ⟨K.2.1 a cl A.1 q, A.2⟩, r⟩
theorem Ar.other (A : Ar Z h a ty vs) (W : Wr h h' b sl w) (q : a ≠ b) : Ar Z h' a ty vs := by obtain ⟨cl, A, r⟩ := A; exact ⟨cl, A.other W q, r⟩
theorem set_slots {cl : Cell} (r : cl.slots = vs.toArray) (j : Nat) (v : Value) : (cl.setSlot j v).slots = (vs.set j v).toArray := by
  show cl.slots.setIfInBounds j v = _
  rw [r]; simp
theorem Ar.set (A : Ar Z h a ty vs) (W : Wr h h' a sl w) : Ar Z h' a ty (vs.set sl w) := by
  obtain ⟨cl, A, r⟩ := A; exact ⟨_, A.same W, set_slots r _ _⟩
theorem Ar.new {cA : ClassId} {z : Int32} (A : Arr Z h a (newA cA ty z) ty) : Ar Z h a ty (List.replicate z.toNatClampNeg (defaultValue ty)) := ⟨_, A, by simp [newA]⟩
theorem Ar.nin {cl : Cell} {j : Int32} (r : cl.slots = vs.toArray) (hj : ¬ j < 0) (hl : j.toNatClampNeg < vs.length) : ¬ (j < 0 ∨ cl.slots.size ≤ j.toNatClampNeg) := by
  rw [r]; simp only [List.size_toArray]
  exact fun q => q.elim hj (fun q => Nat.not_le.mpr hl q)
theorem Ar.at {cl : Cell} {k : Nat} (r : cl.slots = vs.toArray) (hv : vs[k]? = some v) : cl.slots[k]? = some v := by rw [r]; simpa using hv
/-- an array of references to objects of the class Cl -/
def ArR (Z : State) (h : Heap) (a : Addr) (Cl : String) (vs : List Value) : Prop := ∃ cl : Cell, Arr Z h a cl (.object Cl) ∧ cl.slots = vs.toArray ∧ Ovr Z cl.cls Cl
theorem ArR.lt (A : ArR Z h a Cl vs) : a < h.size := by obtain ⟨_, A, -⟩ := A; exact A.lt
theorem ArR.ext (A : ArR Z h a Cl vs) (E : Ext h h') : ArR Z h' a Cl vs := by obtain ⟨cl, A, q⟩ := A; exact ⟨cl, A.ext E, q⟩
theorem ArR.keep (A : ArR Z h a Cl vs) (K : Keep h h' ws) (q : a ∉ ws) : ArR Z h' a Cl vs := by obtain ⟨cl, A, r⟩ := A; exact ⟨cl, ⟨K.2.1 a cl A.1 q, A.2⟩, r⟩
theorem ArR.other (A : ArR Z h a Cl vs) (W : Wr h h' b sl w) (q : a ≠ b) : ArR Z h' a Cl vs := by obtain ⟨cl, A, r⟩ := A; exact ⟨cl, A.other W q, r⟩
theorem ArR.set (A : ArR Z h a Cl vs) (W : Wr h h' a sl w) : ArR Z h' a Cl (vs.set sl w) := by
  obtain ⟨cl, A, r, q⟩ := A; exact ⟨_, A.same W, set_slots r _ _, q⟩
theorem ArR.new {cA : ClassId} {z : Int32} (A : Arr Z h a (newA cA (.object Cl) z) (.object Cl)) (O : Ovr Z cA Cl) : ArR Z h a Cl (List.replicate z.toNatClampNeg .null) := ⟨_, A, by simp [newA, defaultValue], O⟩
theorem ArR.sto (A : ArR Z h a Cl vs) {y : Addr} (E : Exa Z h y Cl) : Sto Z h a (.ref y) := by
  obtain ⟨cl, A, -, q⟩ := A; exact Sto.ofV A rfl q (Ins.self E)
theorem Keep.app (K : Keep h h' ws) {h2 : Heap} {ws2 ws3 : List Addr} (K' : Keep h' h2 ws2) (q1 : ∀ x ∈ ws, x ∈ ws3 ∨ h.size ≤ x) (q : ∀ x ∈ ws2, x ∈ ws3 ∨ h.size ≤ x) : Keep h h2 ws3 := by
  refine Keep.trans (ws := ws3) ⟨K.1, fun x c r z => ?_, K.2.2⟩ K' q
  refine K.2.1 x c r fun y => ?_
  rcases q1 x y with u | u
  · exact z u
  · exact absurd (Array.getElem?_eq_some_iff.mp r).1 (Nat.not_lt.mpr u)
end Facts
section Rules2
variable {p : Program} {l : Launch} {e : Env} {R : Room} {s : State} {m : MethodId} {args : Array Value} {below : List Frame} {meth : Method} {c : Code} {n0 cM sM : Nat} {Q : Option Value → Heap → Prop} {h : Heap} {cells slots : Nat}
variable {Z : State} {own nm : String} {bytes : ByteArray} {ml : Nat} {rt : Option FieldType} {a0 : Array Value}
theorem wA_iaload (C : Cx p s m meth c Z own bytes ml rt nm) {pc pc' : Nat} {Ls : Array Slot} {st : List Value} {a : Addr} {vs : List Value} {j : Int32} {v : Value} (hd : decode bytes pc = .ok (.iaload, 1)) (hp : pc + 1 = pc') (A : Ar Z h a .int vs) (hj : ¬ j < 0) (hv : vs[j.toNatClampNeg]? = some v)
    (K : Wp p l e R s m args below meth c n0 cM sM Q h cells slots (mkF m pc' Ls (v :: st))) : Wp p l e R s m args below meth c n0 cM sM Q h cells slots (mkF m pc Ls (.int j :: .ref a :: st)) := by
  obtain ⟨cl, A, r⟩ := A
  exact w_iaload C hd hp A (Ar.nin r hj (List.getElem?_eq_some_iff.mp hv).1) (Ar.at r hv) K
theorem wA_laload (C : Cx p s m meth c Z own bytes ml rt nm) {pc pc' : Nat} {Ls : Array Slot} {st : List Value} {a : Addr} {vs : List Value} {j : Int32} {v : Value} (hd : decode bytes pc = .ok (.laload, 1)) (hp : pc + 1 = pc') (A : Ar Z h a .long vs) (hj : ¬ j < 0) (hv : vs[j.toNatClampNeg]? = some v)
    (K : Wp p l e R s m args below meth c n0 cM sM Q h cells slots (mkF m pc' Ls (v :: st))) : Wp p l e R s m args below meth c n0 cM sM Q h cells slots (mkF m pc Ls (.int j :: .ref a :: st)) := by
  obtain ⟨cl, A, r⟩ := A
  exact w_laload C hd hp A (Ar.nin r hj (List.getElem?_eq_some_iff.mp hv).1) (Ar.at r hv) K
theorem wA_caload (C : Cx p s m meth c Z own bytes ml rt nm) {pc pc' : Nat} {Ls : Array Slot} {st : List Value} {a : Addr} {vs : List Value} {j : Int32} {v : Value} (hd : decode bytes pc = .ok (.caload, 1)) (hp : pc + 1 = pc') (A : Ar Z h a .char vs) (hj : ¬ j < 0) (hv : vs[j.toNatClampNeg]? = some v)
    (K : Wp p l e R s m args below meth c n0 cM sM Q h cells slots (mkF m pc' Ls (v :: st))) : Wp p l e R s m args below meth c n0 cM sM Q h cells slots (mkF m pc Ls (.int j :: .ref a :: st)) := by
  obtain ⟨cl, A, r⟩ := A
  exact w_caload C hd hp A (Ar.nin r hj (List.getElem?_eq_some_iff.mp hv).1) (Ar.at r hv) K
theorem wA_baload (C : Cx p s m meth c Z own bytes ml rt nm) {pc pc' : Nat} {Ls : Array Slot} {st : List Value} {a : Addr} {vs : List Value} {j : Int32} {v : Value} (hd : decode bytes pc = .ok (.baload, 1)) (hp : pc + 1 = pc') (A : Ar Z h a .byte vs) (hj : ¬ j < 0) (hv : vs[j.toNatClampNeg]? = some v)
    (K : Wp p l e R s m args below meth c n0 cM sM Q h cells slots (mkF m pc' Ls (v :: st))) : Wp p l e R s m args below meth c n0 cM sM Q h cells slots (mkF m pc Ls (.int j :: .ref a :: st)) := by
  obtain ⟨cl, A, r⟩ := A
  exact w_baload C hd hp A (Ar.nin r hj (List.getElem?_eq_some_iff.mp hv).1) (Ar.at r hv) K
theorem wA_aaload (C : Cx p s m meth c Z own bytes ml rt nm) {pc pc' : Nat} {Ls : Array Slot} {st : List Value} {a : Addr} {Cl : String} {vs : List Value} {j : Int32} {v : Value} (hd : decode bytes pc = .ok (.aaload, 1)) (hp : pc + 1 = pc') (A : ArR Z h a Cl vs) (hj : ¬ j < 0) (hv : vs[j.toNatClampNeg]? = some v)
    (K : Wp p l e R s m args below meth c n0 cM sM Q h cells slots (mkF m pc' Ls (v :: st))) : Wp p l e R s m args below meth c n0 cM sM Q h cells slots (mkF m pc Ls (.int j :: .ref a :: st)) := by
  obtain ⟨cl, A, r, -⟩ := A
  exact w_aaload C hd hp A rfl (Ar.nin r hj (List.getElem?_eq_some_iff.mp hv).1) (Ar.at r hv) K
theorem wA_iastore (C : Cx p s m meth c Z own bytes ml rt nm) {pc pc' : Nat} {Ls : Array Slot} {st : List Value} {a : Addr} {vs : List Value} {j : Int32} {x : Int32} (hd : decode bytes pc = .ok (.iastore, 1)) (hp : pc + 1 = pc') (g0 : n0 ≤ a) (A : Ar Z h a .int vs) (hj : ¬ j < 0) (hl : j.toNatClampNeg < vs.length)
    (K : ∀ h', Wr h h' a j.toNatClampNeg (.int x) → Ar Z h' a .int (vs.set j.toNatClampNeg (.int x)) → Wp p l e R s m args below meth c n0 cM sM Q h' cells slots (mkF m pc' Ls st)) : Wp p l e R s m args below meth c n0 cM sM Q h cells slots (mkF m pc Ls (.int x :: .int j :: .ref a :: st)) := by
  have A' := A
  obtain ⟨cl, A, r⟩ := A
  exact w_iastore C hd hp g0 A (Ar.nin r hj hl) (fun h' W => K h' W (A'.set W))
theorem wA_lastore (C : Cx p s m meth c Z own bytes ml rt nm) {pc pc' : Nat} {Ls : Array Slot} {st : List Value} {a : Addr} {vs : List Value} {j : Int32} {x : Int64} (hd : decode bytes pc = .ok (.lastore, 1)) (hp : pc + 1 = pc') (g0 : n0 ≤ a) (A : Ar Z h a .long vs) (hj : ¬ j < 0) (hl : j.toNatClampNeg < vs.length)
    (K : ∀ h', Wr h h' a j.toNatClampNeg (.long x) → Ar Z h' a .long (vs.set j.toNatClampNeg (.long x)) → Wp p l e R s m args below meth c n0 cM sM Q h' cells slots (mkF m pc' Ls st)) : Wp p l e R s m args below meth c n0 cM sM Q h cells slots (mkF m pc Ls (.long x :: .int j :: .ref a :: st)) := by
  have A' := A
  obtain ⟨cl, A, r⟩ := A
  exact w_lastore C hd hp g0 A (Ar.nin r hj hl) (fun h' W => K h' W (A'.set W))
theorem wA_castore (C : Cx p s m meth c Z own bytes ml rt nm) {pc pc' : Nat} {Ls : Array Slot} {st : List Value} {a : Addr} {vs : List Value} {j : Int32} {x : Int32} (hd : decode bytes pc = .ok (.castore, 1)) (hp : pc + 1 = pc') (g0 : n0 ≤ a) (A : Ar Z h a .char vs) (hj : ¬ j < 0) (hl : j.toNatClampNeg < vs.length)
    (K : ∀ h', Wr h h' a j.toNatClampNeg (.int (toCh x)) → Ar Z h' a .char (vs.set j.toNatClampNeg (.int (toCh x))) → Wp p l e R s m args below meth c n0 cM sM Q h' cells slots (mkF m pc' Ls st)) : Wp p l e R s m args below meth c n0 cM sM Q h cells slots (mkF m pc Ls (.int x :: .int j :: .ref a :: st)) := by
  have A' := A
  obtain ⟨cl, A, r⟩ := A
  exact w_castore C hd hp g0 A (Ar.nin r hj hl) (fun h' W => K h' W (A'.set W))
theorem wA_aastore (C : Cx p s m meth c Z own bytes ml rt nm) {pc pc' : Nat} {Ls : Array Slot} {st : List Value} {a : Addr} {Cl : String} {vs : List Value} {j : Int32} {v : Value} (hd : decode bytes pc = .ok (.aastore, 1)) (hp : pc + 1 = pc') (g0 : n0 ≤ a) (A : ArR Z h a Cl vs) (hj : ¬ j < 0) (hl : j.toNatClampNeg < vs.length) (F : Sto Z h a v)
    (K : ∀ h', Wr h h' a j.toNatClampNeg v → ArR Z h' a Cl (vs.set j.toNatClampNeg v) → Wp p l e R s m args below meth c n0 cM sM Q h' cells slots (mkF m pc' Ls st)) : Wp p l e R s m args below meth c n0 cM sM Q h cells slots (mkF m pc Ls (v :: .int j :: .ref a :: st)) := by
  have A' := A
  obtain ⟨cl, A, r, -⟩ := A
  exact w_aastore C hd hp g0 A (Ar.nin r hj hl) rfl F (fun h' W => K h' W (A'.set W))
theorem wA_alen (C : Cx p s m meth c Z own bytes ml rt nm) {pc pc' : Nat} {Ls : Array Slot} {st : List Value} {a : Addr} {ty : FieldType} {vs : List Value} {n : Int32} (hd : decode bytes pc = .ok (.arraylength, 1)) (hp : pc + 1 = pc') (A : Ar Z h a ty vs) (hn : vs.length.toInt32 = n)
    (K : Wp p l e R s m args below meth c n0 cM sM Q h cells slots (mkF m pc' Ls (.int n :: st))) : Wp p l e R s m args below meth c n0 cM sM Q h cells slots (mkF m pc Ls (.ref a :: st)) := by
  obtain ⟨cl, A, r⟩ := A
  exact w_alen C hd hp A (by rw [r]; simpa using hn) K
theorem wA_alenR (C : Cx p s m meth c Z own bytes ml rt nm) {pc pc' : Nat} {Ls : Array Slot} {st : List Value} {a : Addr} {Cl : String} {vs : List Value} {n : Int32} (hd : decode bytes pc = .ok (.arraylength, 1)) (hp : pc + 1 = pc') (A : ArR Z h a Cl vs) (hn : vs.length.toInt32 = n)
    (K : Wp p l e R s m args below meth c n0 cM sM Q h cells slots (mkF m pc' Ls (.int n :: st))) : Wp p l e R s m args below meth c n0 cM sM Q h cells slots (mkF m pc Ls (.ref a :: st)) := by
  obtain ⟨cl, A, r, -⟩ := A
  exact w_alen C hd hp A (by rw [r]; simpa using hn) K
theorem wA_newP (C : Cx p s m meth c Z own bytes ml rt nm) {pc pc' ce' sl' : Nat} {Ls : Array Slot} {st : List Value} {aty : ArrayType} {n : Int32} {cap : Nat} (w : (Jvm.Cond.arrayClass (newarray.typeOf aty)).before a0 Z = true) (hd : decode bytes pc = .ok (.newarray aty, 2)) (hp : pc + 2 = pc') (hn : ¬ n < 0) (hcap : n.toNatClampNeg ≤ cap) (hbig : cap * 8 ≤ 536870912) (hc1 : cells + 1 = ce') (hl1 : slots + cap = sl') (hc : ce' ≤ R.cells) (hl : sl' ≤ R.slots)
    (K : ∀ h' a, a = h.size → Ext h h' → Ar Z h' a (newarray.typeOf aty) (List.replicate n.toNatClampNeg (defaultValue (newarray.typeOf aty))) → Wp p l e R s m args below meth c n0 cM sM Q h' ce' sl' (mkF m pc' Ls (.ref a :: st))) : Wp p l e R s m args below meth c n0 cM sM Q h cells slots (mkF m pc Ls (.int n :: st)) :=
  w_newP C w hd hp hn hcap hbig hc1 hl1 hc hl (fun h' a cA e E A => K h' a e E (Ar.new A))
theorem wA_newR (C : Cx p s m meth c Z own bytes ml rt nm) {pc pc' ce' sl' : Nat} {Ls : Array Slot} {st : List Value} {Cl : String} {i : Nat} {n : Int32} {cap : Nat} (w1 : (Jvm.Cond.classLink own i Cl).before a0 Z = true) (w2 : (Jvm.Cond.arrayOver (.object Cl)).before a0 Z = true) (hd : decode bytes pc = .ok (.anewarray i, 3)) (hp : pc + 3 = pc') (hn : ¬ n < 0) (hcap : n.toNatClampNeg ≤ cap) (hbig : cap * 8 ≤ 536870912) (hc1 : cells + 1 = ce') (hl1 : slots + cap = sl') (hc : ce' ≤ R.cells) (hl : sl' ≤ R.slots)
    (K : ∀ h' a, a = h.size → Ext h h' → ArR Z h' a Cl (List.replicate n.toNatClampNeg .null) → Wp p l e R s m args below meth c n0 cM sM Q h' ce' sl' (mkF m pc' Ls (.ref a :: st))) : Wp p l e R s m args below meth c n0 cM sM Q h cells slots (mkF m pc Ls (.int n :: st)) :=
  w_newR C w1 w2 hd hp hn hcap hbig hc1 hl1 hc hl (fun h' a cA e E A O => K h' a e E (ArR.new A O))
end Rules2
theorem cmpJ_gt (x y : Int64) : (0 < cmpJ x y) = (y < x) := propext (lw_gt x y)
theorem cmpJ_lt (x y : Int64) : (cmpJ x y < 0) = (x < y) := propext (lw_lt x y)
theorem cmpJ_eq (x y : Int64) : (cmpJ x y = 0) = (x = y) := propext (lw_eq x y)
theorem toCh_rng (x : Int32) : 0 ≤ (toCh x).toInt ∧ (toCh x).toInt < 65536 := ⟨(c_i2c x).2.1, (c_i2c x).2.2⟩
theorem toCh_mod (x : Int32) : ((toCh x).toInt - x.toInt) % 65536 = 0 := (c_i2c x).1
theorem toCh_id {x : Int32} (h0 : 0 ≤ x.toInt) (h1 : x.toInt < 65536) : toCh x = x := by
  apply Int32.toInt_inj.mp
  have := toCh_rng x; have := toCh_mod x
  omega
/-- an int in 0 .. n-1 is one of the n numbers -/
theorem small_int {n : Nat} {x : Int32} (h0 : 0 ≤ x.toInt) (h1 : x.toInt < n) : ∃ k : Fin n, x = Int32.ofInt (k.1 : Int) := by
  refine ⟨⟨x.toInt.toNat, by omega⟩, ?_⟩
  show x = Int32.ofInt ((x.toInt.toNat : Nat) : Int)
  rw [Int.toNat_of_nonneg h0, Int32.ofInt_toInt]
end Jvm.Own
namespace Jvm.Pilot.@@N@@
open Jvm Jvm.ClassFile Sem Op Lib Jvm.Free Jvm.Stand Jvm.LawKit Jvm.RoadKit Jvm.Own Bundle Jvm.Pilot.@@N@@.Jvm.D
theorem tw {tabs : List Jvm.Cond} {a0 : Array Value} {Z : State} (hw : ∀ d ∈ tabs, d.before a0 Z = true) (i : Nat) {d : Jvm.Cond} (h : tabs[i]? = some d) : d.before a0 Z = true := hw _ (List.mem_of_getElem? h)
theorem pd_0 : parseMethodDescriptor "([JJ)V" = some ⟨[(.array .long), .long], none⟩ := by decide +kernel
theorem pd_1 : parseMethodDescriptor "(I)[J" = some ⟨[.int], some (.array .long)⟩ := by decide +kernel
theorem pd_2 : parseMethodDescriptor "(JJ)J" = some ⟨[.long, .long], some .long⟩ := by decide +kernel
theorem pd_3 : parseMethodDescriptor "(IJ)V" = some ⟨[.int, .long], none⟩ := by decide +kernel
theorem pd_4 : parseMethodDescriptor "(I)Ltallygate/RequestQueue$Entry;" = some ⟨[.int], some (.object "tallygate/RequestQueue$Entry")⟩ := by decide +kernel
theorem pd_5 : parseMethodDescriptor "(II)I" = some ⟨[.int, .int], some .int⟩ := by decide +kernel
theorem pd_6 : parseMethodDescriptor "(I)I" = some ⟨[.int], some .int⟩ := by decide +kernel
theorem pd_7 : parseMethodDescriptor "()V" = some ⟨[], none⟩ := by decide +kernel
theorem pd_8 : parseMethodDescriptor "(I)V" = some ⟨[.int], none⟩ := by decide +kernel
theorem pd_9 : parseMethodDescriptor "(Ltallygate/RequestQueue$Entry;)V" = some ⟨[(.object "tallygate/RequestQueue$Entry")], none⟩ := by decide +kernel
theorem pd_10 : parseMethodDescriptor "()Z" = some ⟨[], some .boolean⟩ := by decide +kernel
theorem pd_11 : parseMethodDescriptor "()Ltallygate/RequestQueue$Entry;" = some ⟨[], some (.object "tallygate/RequestQueue$Entry")⟩ := by decide +kernel
theorem obj_Q {Z : State} {a0 : Array Value} (hw : ∀ d ∈ tables_1, d.before a0 Z = true) {h : Heap} {a : Addr} (A : Exa Z h a "tallygate/RequestQueue") (D : ∀ {O nm d : String} {ty : FieldType}, Laid Z a0 "tallygate/RequestQueue" O nm d → parseFieldDescriptor d = some ty → Fld Z h a O nm d (defaultValue ty)) :
    Obj Z h a "tallygate/RequestQueue" [("slots", "[Ltallygate/RequestQueue$Entry;", .null), ("least", "[J", .null), ("end", "I", .int (0 : Int32)), ("size", "I", .int (0 : Int32))] := by
  refine ⟨A, fun i f q => ?_, fun i j f g q r z => ?_⟩
  · match i, q with
    | 0, q => cases q; exact D (Or.inl (tw hw 21 rfl)) (ty := (.array (.object "tallygate/RequestQueue$Entry"))) (by decide)
    | 1, q => cases q; exact D (Or.inl (tw hw 32 rfl)) (ty := (.array .long)) (by decide)
    | 2, q => cases q; exact D (Or.inl (tw hw 50 rfl)) (ty := .int) (by decide)
    | 3, q => cases q; exact D (Or.inl (tw hw 62 rfl)) (ty := .int) (by decide)
    | (k + 4), q => simp at q
  · match i, j, q, r, z with
    | 0, 0, q, r, z => exact absurd rfl z
    | 0, 1, q, r, z => cases q; cases r; exact slot_ne (C := "tallygate/RequestQueue") (Or.inl (tw hw 21 rfl)) (Or.inl (tw hw 32 rfl)) (by decide) (t := (.array (.object "tallygate/RequestQueue$Entry"))) (t' := (.array .long)) (by decide) (by decide)
    | 0, 2, q, r, z => cases q; cases r; exact slot_ne (C := "tallygate/RequestQueue") (Or.inl (tw hw 21 rfl)) (Or.inl (tw hw 50 rfl)) (by decide) (t := (.array (.object "tallygate/RequestQueue$Entry"))) (t' := .int) (by decide) (by decide)
    | 0, 3, q, r, z => cases q; cases r; exact slot_ne (C := "tallygate/RequestQueue") (Or.inl (tw hw 21 rfl)) (Or.inl (tw hw 62 rfl)) (by decide) (t := (.array (.object "tallygate/RequestQueue$Entry"))) (t' := .int) (by decide) (by decide)
    | 1, 0, q, r, z => cases q; cases r; exact slot_ne (C := "tallygate/RequestQueue") (Or.inl (tw hw 32 rfl)) (Or.inl (tw hw 21 rfl)) (by decide) (t := (.array .long)) (t' := (.array (.object "tallygate/RequestQueue$Entry"))) (by decide) (by decide)
    | 1, 1, q, r, z => exact absurd rfl z
    | 1, 2, q, r, z => cases q; cases r; exact slot_ne (C := "tallygate/RequestQueue") (Or.inl (tw hw 32 rfl)) (Or.inl (tw hw 50 rfl)) (by decide) (t := (.array .long)) (t' := .int) (by decide) (by decide)
    | 1, 3, q, r, z => cases q; cases r; exact slot_ne (C := "tallygate/RequestQueue") (Or.inl (tw hw 32 rfl)) (Or.inl (tw hw 62 rfl)) (by decide) (t := (.array .long)) (t' := .int) (by decide) (by decide)
    | 2, 0, q, r, z => cases q; cases r; exact slot_ne (C := "tallygate/RequestQueue") (Or.inl (tw hw 50 rfl)) (Or.inl (tw hw 21 rfl)) (by decide) (t := .int) (t' := (.array (.object "tallygate/RequestQueue$Entry"))) (by decide) (by decide)
    | 2, 1, q, r, z => cases q; cases r; exact slot_ne (C := "tallygate/RequestQueue") (Or.inl (tw hw 50 rfl)) (Or.inl (tw hw 32 rfl)) (by decide) (t := .int) (t' := (.array .long)) (by decide) (by decide)
    | 2, 2, q, r, z => exact absurd rfl z
    | 2, 3, q, r, z => cases q; cases r; exact slot_ne (C := "tallygate/RequestQueue") (Or.inl (tw hw 50 rfl)) (Or.inl (tw hw 62 rfl)) (by decide) (t := .int) (t' := .int) (by decide) (by decide)
    | 3, 0, q, r, z => cases q; cases r; exact slot_ne (C := "tallygate/RequestQueue") (Or.inl (tw hw 62 rfl)) (Or.inl (tw hw 21 rfl)) (by decide) (t := .int) (t' := (.array (.object "tallygate/RequestQueue$Entry"))) (by decide) (by decide)
    | 3, 1, q, r, z => cases q; cases r; exact slot_ne (C := "tallygate/RequestQueue") (Or.inl (tw hw 62 rfl)) (Or.inl (tw hw 32 rfl)) (by decide) (t := .int) (t' := (.array .long)) (by decide) (by decide)
    | 3, 2, q, r, z => cases q; cases r; exact slot_ne (C := "tallygate/RequestQueue") (Or.inl (tw hw 62 rfl)) (Or.inl (tw hw 50 rfl)) (by decide) (t := .int) (t' := .int) (by decide) (by decide)
    | 3, 3, q, r, z => exact absurd rfl z
    | (k + 4), j, q, r, z => simp at q
    | 0, (k + 4), q, r, z => simp at r
    | 1, (k + 4), q, r, z => simp at r
    | 2, (k + 4), q, r, z => simp at r
    | 3, (k + 4), q, r, z => simp at r
theorem obj_E {Z : State} {a0 : Array Value} (hw : ∀ d ∈ tables_1, d.before a0 Z = true) {h : Heap} {a : Addr} (A : Exa Z h a "tallygate/RequestQueue$Entry") (D : ∀ {O nm d : String} {ty : FieldType}, Laid Z a0 "tallygate/RequestQueue$Entry" O nm d → parseFieldDescriptor d = some ty → Fld Z h a O nm d (defaultValue ty)) :
    Obj Z h a "tallygate/RequestQueue$Entry" [("slot", "I", .int (0 : Int32)), ("permits", "I", .int (0 : Int32))] := by
  refine ⟨A, fun i f q => ?_, fun i j f g q r z => ?_⟩
  · match i, q with
    | 0, q => cases q; exact D (Or.inl (tw hw 41 rfl)) (ty := .int) (by decide)
    | 1, q => cases q; exact D (Or.inr (tw hw 43 rfl)) (ty := .int) (by decide)
    | (k + 2), q => simp at q
  · match i, j, q, r, z with
    | 0, 0, q, r, z => exact absurd rfl z
    | 0, 1, q, r, z => cases q; cases r; exact slot_ne (C := "tallygate/RequestQueue$Entry") (Or.inl (tw hw 41 rfl)) (Or.inr (tw hw 43 rfl)) (by decide) (t := .int) (t' := .int) (by decide) (by decide)
    | 1, 0, q, r, z => cases q; cases r; exact slot_ne (C := "tallygate/RequestQueue$Entry") (Or.inr (tw hw 43 rfl)) (Or.inl (tw hw 41 rfl)) (by decide) (t := .int) (t' := .int) (by decide) (by decide)
    | 1, 1, q, r, z => exact absurd rfl z
    | (k + 2), j, q, r, z => simp at q
    | 0, (k + 2), q, r, z => simp at r
    | 1, (k + 2), q, r, z => simp at r
theorem d10_0 : decode jdk_29_method_70_code 0 = .ok (.lload_n 0, 1) := by decide +kernel
theorem d10_1 : decode jdk_29_method_70_code 1 = .ok (.lload_n 2, 1) := by decide +kernel
theorem d10_2 : decode jdk_29_method_70_code 2 = .ok (.lcmp, 1) := by decide +kernel
theorem d10_3 : decode jdk_29_method_70_code 3 = .ok (.ifCond .gt 7, 3) := by decide +kernel
theorem d10_6 : decode jdk_29_method_70_code 6 = .ok (.lload_n 0, 1) := by decide +kernel
theorem d10_7 : decode jdk_29_method_70_code 7 = .ok (.goto 4, 3) := by decide +kernel
theorem d10_10 : decode jdk_29_method_70_code 10 = .ok (.lload_n 2, 1) := by decide +kernel
theorem d10_11 : decode jdk_29_method_70_code 11 = .ok (.lreturn, 1) := by decide +kernel
def minJ (x : Int64) (y : Int64) : Int64 := (if 0 < (cmpJ x y) then y else x)
def rm_minJ : Room := { frames := 0, cells := 0, slots := 0, locals := 0 }
def Q_minJ (x : Int64) (y : Int64) (h0 : Heap) (v : Option Value) (h : Heap) : Prop := v = some (.long (minJ x y)) ∧ h = h0
theorem pf_minJ : plainFor (⟨"java/lang/Math", "min", "(JJ)J"⟩ : MethodName) = true := Jvm.Free.JP.mathPlain rfl (by decide)
set_option maxRecDepth 65536 in
set_option maxHeartbeats 40000000 in
theorem ct_minJ {l : Launch} {Z : State} {a0 : Array Value} (hw : ∀ d ∈ tables_1, d.before a0 Z = true) (h0 : Heap) (n0 : Nat) (x : Int64) (y : Int64)  :
    Ct l Z (⟨"java/lang/Math", "min", "(JJ)J"⟩ : MethodName) jdk_29_method_70_code 4 (Option.some Jvm.ClassFile.FieldType.long) [] rm_minJ #[.long x, .long y] h0 n0 (Q_minJ x y h0) := by
  refine Ct.of (Ls := #[.val (.long x), .second, .val (.long y), .second]) pf_minJ (fun m => by first | (simp [entryFrame, mkF, argsToLocals, Value.category, maxLocals]; done) | rfl) ?_
  intro p e s m below meth c C
  have hr : minJ x y = (if 0 < (cmpJ x y) then y else x) := rfl
  refine w_lloadN (pc' := 1) C d10_0 rfl rfl ?_
  refine w_lloadN (pc' := 2) C d10_1 rfl rfl ?_
  refine w_lcmp (pc' := 3) C d10_2 rfl ?_
  refine w_if_gt (pcT := 10) (pcF := 6) C d10_3 (by decide) (by decide) rfl (fun q3 => ?_) (fun q3 => ?_)
  · have hr := hr.trans (if_pos q3)
    refine w_lloadN (pc' := 11) C d10_10 rfl rfl ?_
    refine w_retJ C rfl d10_11 (by decide) (by decide) ?_
    exact And.intro (congrArg (fun z => some (Value.long z)) hr.symm) rfl
  · have hr := hr.trans (if_neg q3)
    refine w_lloadN (pc' := 7) C d10_6 rfl rfl ?_
    refine w_goto (pc' := 11) C d10_7 (by decide) (by decide) ?_
    refine w_retJ C rfl d10_11 (by decide) (by decide) ?_
    exact And.intro (congrArg (fun z => some (Value.long z)) hr.symm) rfl
theorem d2_0 : decode jdk_29_method_65_code 0 = .ok (.iload_n 0, 1) := by decide +kernel
theorem d2_1 : decode jdk_29_method_65_code 1 = .ok (.iload_n 1, 1) := by decide +kernel
theorem d2_2 : decode jdk_29_method_65_code 2 = .ok (.if_icmp .lt 7, 3) := by decide +kernel
theorem d2_5 : decode jdk_29_method_65_code 5 = .ok (.iload_n 0, 1) := by decide +kernel
theorem d2_6 : decode jdk_29_method_65_code 6 = .ok (.goto 4, 3) := by decide +kernel
theorem d2_9 : decode jdk_29_method_65_code 9 = .ok (.iload_n 1, 1) := by decide +kernel
theorem d2_10 : decode jdk_29_method_65_code 10 = .ok (.ireturn, 1) := by decide +kernel
def maxI (x : Int32) (y : Int32) : Int32 := (if x < y then y else x)
def rm_maxI : Room := { frames := 0, cells := 0, slots := 0, locals := 0 }
def Q_maxI (x : Int32) (y : Int32) (h0 : Heap) (v : Option Value) (h : Heap) : Prop := v = some (.int (maxI x y)) ∧ h = h0
theorem pf_maxI : plainFor (⟨"java/lang/Math", "max", "(II)I"⟩ : MethodName) = true := Jvm.Free.JP.mathPlain rfl (by decide)
set_option maxRecDepth 65536 in
set_option maxHeartbeats 40000000 in
theorem ct_maxI {l : Launch} {Z : State} {a0 : Array Value} (hw : ∀ d ∈ tables_1, d.before a0 Z = true) (h0 : Heap) (n0 : Nat) (x : Int32) (y : Int32)  :
    Ct l Z (⟨"java/lang/Math", "max", "(II)I"⟩ : MethodName) jdk_29_method_65_code 2 (Option.some Jvm.ClassFile.FieldType.int) [] rm_maxI #[.int x, .int y] h0 n0 (Q_maxI x y h0) := by
  refine Ct.of (Ls := #[.val (.int x), .val (.int y)]) pf_maxI (fun m => by first | (simp [entryFrame, mkF, argsToLocals, Value.category, maxLocals]; done) | rfl) ?_
  intro p e s m below meth c C
  have hr : maxI x y = (if x < y then y else x) := rfl
  refine w_iloadN (pc' := 1) C d2_0 rfl rfl ?_
  refine w_iloadN (pc' := 2) C d2_1 rfl rfl ?_
  refine w_icmp_lt (pcT := 9) (pcF := 5) C d2_2 (by decide) (by decide) rfl (fun q2 => ?_) (fun q2 => ?_)
  · have hr := hr.trans (if_pos q2)
    refine w_iloadN (pc' := 10) C d2_9 rfl rfl ?_
    refine w_retI C rfl d2_10 (by decide) (by decide) ?_
    exact And.intro (congrArg (fun z => some (Value.int z)) hr.symm) rfl
  · have hr := hr.trans (if_neg q2)
    refine w_iloadN (pc' := 6) C d2_5 rfl rfl ?_
    refine w_goto (pc' := 10) C d2_6 (by decide) (by decide) ?_
    refine w_retI C rfl d2_10 (by decide) (by decide) ?_
    exact And.intro (congrArg (fun z => some (Value.int z)) hr.symm) rfl
def sl3 (a b c : Value) : List Value := [a, b, c, .null, .null, .null, .null, .null, .null, .null, .null, .null, .null, .null, .null, .null]
def EMP : Int64 := 9223372036854775807
def tr3 (a b c : Int64) : List Value := [.long EMP, .long (minJ (minJ (minJ (minJ a b) (minJ c EMP)) EMP) EMP), .long (minJ (minJ (minJ a b) (minJ c EMP)) EMP), .long EMP, .long (minJ (minJ a b) (minJ c EMP)), .long EMP, .long EMP, .long EMP, .long (minJ a b), .long (minJ c EMP), .long EMP, .long EMP, .long EMP, .long EMP, .long EMP, .long EMP, .long a, .long b, .long c, .long EMP, .long EMP, .long EMP, .long EMP, .long EMP, .long EMP, .long EMP, .long EMP, .long EMP, .long EMP, .long EMP, .long EMP, .long EMP]
theorem tr_emp : List.replicate 32 (Value.long EMP) = tr3 EMP EMP EMP := by decide +kernel
theorem d6_0 : decode jdk_65_method_101_code 0 = .ok (.iconst 0, 1) := by decide +kernel
theorem d6_1 : decode jdk_65_method_101_code 1 = .ok (.istore_n 3, 1) := by decide +kernel
theorem d6_2 : decode jdk_65_method_101_code 2 = .ok (.aload_n 0, 1) := by decide +kernel
theorem d6_3 : decode jdk_65_method_101_code 3 = .ok (.arraylength, 1) := by decide +kernel
theorem d6_4 : decode jdk_65_method_101_code 4 = .ok (.istore 4, 2) := by decide +kernel
theorem d6_6 : decode jdk_65_method_101_code 6 = .ok (.iload_n 3, 1) := by decide +kernel
theorem d6_7 : decode jdk_65_method_101_code 7 = .ok (.iload 4, 2) := by decide +kernel
theorem d6_9 : decode jdk_65_method_101_code 9 = .ok (.if_icmp .ge 13, 3) := by decide +kernel
theorem d6_12 : decode jdk_65_method_101_code 12 = .ok (.aload_n 0, 1) := by decide +kernel
theorem d6_13 : decode jdk_65_method_101_code 13 = .ok (.iload_n 3, 1) := by decide +kernel
theorem d6_14 : decode jdk_65_method_101_code 14 = .ok (.lload_n 1, 1) := by decide +kernel
theorem d6_15 : decode jdk_65_method_101_code 15 = .ok (.lastore, 1) := by decide +kernel
theorem d6_16 : decode jdk_65_method_101_code 16 = .ok (.iinc 3 1, 3) := by decide +kernel
theorem d6_19 : decode jdk_65_method_101_code 19 = .ok (.goto (-13), 3) := by decide +kernel
theorem d6_22 : decode jdk_65_method_101_code 22 = .ok (.return_, 1) := by decide +kernel
def rm_fillJ : Room := { frames := 0, cells := 0, slots := 0, locals := 0 }
theorem pf_fillJ : plainFor (⟨"java/util/Arrays", "fill", "([JJ)V"⟩ : MethodName) = true := plainFor_of_name (by first | (simp [plainName, overriddenIn]; done) | decide +kernel)
set_option maxRecDepth 65536 in
set_option maxHeartbeats 40000000 in
theorem ct_fillJ {l : Launch} {Z : State} {a0 : Array Value} (hw : ∀ d ∈ tables_1, d.before a0 Z = true) (h0 : Heap) (n0 : Nat) (a : Addr) (x : Int64) (hz : n0 ≤ h0.size) (O_a : Ar Z h0 a .long [.long (0 : Int64), .long (0 : Int64), .long (0 : Int64), .long (0 : Int64), .long (0 : Int64), .long (0 : Int64), .long (0 : Int64), .long (0 : Int64), .long (0 : Int64), .long (0 : Int64), .long (0 : Int64), .long (0 : Int64), .long (0 : Int64), .long (0 : Int64), .long (0 : Int64), .long (0 : Int64), .long (0 : Int64), .long (0 : Int64), .long (0 : Int64), .long (0 : Int64), .long (0 : Int64), .long (0 : Int64), .long (0 : Int64), .long (0 : Int64), .long (0 : Int64), .long (0 : Int64), .long (0 : Int64), .long (0 : Int64), .long (0 : Int64), .long (0 : Int64), .long (0 : Int64), .long (0 : Int64)]) (g_a : n0 ≤ a) :
    Ct l Z (⟨"java/util/Arrays", "fill", "([JJ)V"⟩ : MethodName) jdk_65_method_101_code 5 (Option.none : Option Jvm.ClassFile.FieldType) [] rm_fillJ #[.ref a, .long x] h0 n0 (fun v h => v = none ∧ Ar Z h a .long [.long x, .long x, .long x, .long x, .long x, .long x, .long x, .long x, .long x, .long x, .long x, .long x, .long x, .long x, .long x, .long x, .long x, .long x, .long x, .long x, .long x, .long x, .long x, .long x, .long x, .long x, .long x, .long x, .long x, .long x, .long x, .long x] ∧ Keep h0 h [a]) := by
  refine Ct.of (Ls := #[.val (.ref a), .val (.long x), .second, .unset, .unset]) pf_fillJ (fun m => by first | (simp [entryFrame, mkF, argsToLocals, Value.category, maxLocals]; done) | rfl) ?_
  intro p e s m below meth c C
  have hk : Keep h0 h0 [a] := Keep.refl _ _
  refine w_iconst (pc' := 1) (x := (0 : Int32)) C d6_0 rfl rfl ?_
  refine w_istoreN (pc' := 2) (Ls' := #[.val (.ref a), .val (.long x), .second, .val (.int (0 : Int32)), .unset]) C d6_1 rfl rfl ?_
  refine w_aloadN (pc' := 3) C d6_2 rfl rfl rfl ?_
  refine wA_alen (pc' := 4) (n := (32 : Int32)) C d6_3 rfl O_a rfl ?_
  refine w_istore (pc' := 6) (Ls' := #[.val (.ref a), .val (.long x), .second, .val (.int (0 : Int32)), .val (.int (32 : Int32))]) C d6_4 rfl rfl ?_
  refine w_iloadN (pc' := 7) C d6_6 rfl rfl ?_
  refine w_iload (pc' := 9) C d6_7 rfl rfl ?_
  refine w_icmp_ge (pcT := 22) (pcF := 12) C d6_9 (by decide) (by decide) rfl (fun q => absurd q (by decide)) (fun q9 => ?_)
  refine w_aloadN (pc' := 13) C d6_12 rfl rfl rfl ?_
  refine w_iloadN (pc' := 14) C d6_13 rfl rfl ?_
  refine w_lloadN (pc' := 15) C d6_14 rfl rfl ?_
  refine wA_lastore (pc' := 16) C d6_15 rfl g_a O_a (by decide) (Nat.le_of_ble_eq_true rfl) (fun h1 W1 A1 => ?_)
  have O_a : Ar Z h1 a .long [.long x, .long (0 : Int64), .long (0 : Int64), .long (0 : Int64), .long (0 : Int64), .long (0 : Int64), .long (0 : Int64), .long (0 : Int64), .long (0 : Int64), .long (0 : Int64), .long (0 : Int64), .long (0 : Int64), .long (0 : Int64), .long (0 : Int64), .long (0 : Int64), .long (0 : Int64), .long (0 : Int64), .long (0 : Int64), .long (0 : Int64), .long (0 : Int64), .long (0 : Int64), .long (0 : Int64), .long (0 : Int64), .long (0 : Int64), .long (0 : Int64), .long (0 : Int64), .long (0 : Int64), .long (0 : Int64), .long (0 : Int64), .long (0 : Int64), .long (0 : Int64), .long (0 : Int64)] := A1
  have hz : n0 ≤ h1.size := by rw [W1.size]; exact hz
  have hk := hk.wr W1 (Or.inl (by simp))
  refine w_iincE (pc' := 19) (z := (1 : Int32)) (Ls' := #[.val (.ref a), .val (.long x), .second, .val (.int (1 : Int32)), .val (.int (32 : Int32))]) C d6_16 rfl (by decide) rfl rfl ?_
  refine w_goto (pc' := 6) C d6_19 (by decide) (by decide) ?_
  refine w_iloadN (pc' := 7) C d6_6 rfl rfl ?_
  refine w_iload (pc' := 9) C d6_7 rfl rfl ?_
  refine w_icmp_ge (pcT := 22) (pcF := 12) C d6_9 (by decide) (by decide) rfl (fun q => absurd q (by decide)) (fun q9 => ?_)
  refine w_aloadN (pc' := 13) C d6_12 rfl rfl rfl ?_
  refine w_iloadN (pc' := 14) C d6_13 rfl rfl ?_
  refine w_lloadN (pc' := 15) C d6_14 rfl rfl ?_
  refine wA_lastore (pc' := 16) C d6_15 rfl g_a O_a (by decide) (Nat.le_of_ble_eq_true rfl) (fun h2 W2 A2 => ?_)
  have O_a : Ar Z h2 a .long [.long x, .long x, .long (0 : Int64), .long (0 : Int64), .long (0 : Int64), .long (0 : Int64), .long (0 : Int64), .long (0 : Int64), .long (0 : Int64), .long (0 : Int64), .long (0 : Int64), .long (0 : Int64), .long (0 : Int64), .long (0 : Int64), .long (0 : Int64), .long (0 : Int64), .long (0 : Int64), .long (0 : Int64), .long (0 : Int64), .long (0 : Int64), .long (0 : Int64), .long (0 : Int64), .long (0 : Int64), .long (0 : Int64), .long (0 : Int64), .long (0 : Int64), .long (0 : Int64), .long (0 : Int64), .long (0 : Int64), .long (0 : Int64), .long (0 : Int64), .long (0 : Int64)] := A2
  have hz : n0 ≤ h2.size := by rw [W2.size]; exact hz
  have hk := hk.wr W2 (Or.inl (by simp))
  refine w_iincE (pc' := 19) (z := (2 : Int32)) (Ls' := #[.val (.ref a), .val (.long x), .second, .val (.int (2 : Int32)), .val (.int (32 : Int32))]) C d6_16 rfl (by decide) rfl rfl ?_
  refine w_goto (pc' := 6) C d6_19 (by decide) (by decide) ?_
  refine w_iloadN (pc' := 7) C d6_6 rfl rfl ?_
  refine w_iload (pc' := 9) C d6_7 rfl rfl ?_
  refine w_icmp_ge (pcT := 22) (pcF := 12) C d6_9 (by decide) (by decide) rfl (fun q => absurd q (by decide)) (fun q9 => ?_)
  refine w_aloadN (pc' := 13) C d6_12 rfl rfl rfl ?_
  refine w_iloadN (pc' := 14) C d6_13 rfl rfl ?_
  refine w_lloadN (pc' := 15) C d6_14 rfl rfl ?_
  refine wA_lastore (pc' := 16) C d6_15 rfl g_a O_a (by decide) (Nat.le_of_ble_eq_true rfl) (fun h3 W3 A3 => ?_)
  have O_a : Ar Z h3 a .long [.long x, .long x, .long x, .long (0 : Int64), .long (0 : Int64), .long (0 : Int64), .long (0 : Int64), .long (0 : Int64), .long (0 : Int64), .long (0 : Int64), .long (0 : Int64), .long (0 : Int64), .long (0 : Int64), .long (0 : Int64), .long (0 : Int64), .long (0 : Int64), .long (0 : Int64), .long (0 : Int64), .long (0 : Int64), .long (0 : Int64), .long (0 : Int64), .long (0 : Int64), .long (0 : Int64), .long (0 : Int64), .long (0 : Int64), .long (0 : Int64), .long (0 : Int64), .long (0 : Int64), .long (0 : Int64), .long (0 : Int64), .long (0 : Int64), .long (0 : Int64)] := A3
  have hz : n0 ≤ h3.size := by rw [W3.size]; exact hz
  have hk := hk.wr W3 (Or.inl (by simp))
  refine w_iincE (pc' := 19) (z := (3 : Int32)) (Ls' := #[.val (.ref a), .val (.long x), .second, .val (.int (3 : Int32)), .val (.int (32 : Int32))]) C d6_16 rfl (by decide) rfl rfl ?_
  refine w_goto (pc' := 6) C d6_19 (by decide) (by decide) ?_
  refine w_iloadN (pc' := 7) C d6_6 rfl rfl ?_
  refine w_iload (pc' := 9) C d6_7 rfl rfl ?_
  refine w_icmp_ge (pcT := 22) (pcF := 12) C d6_9 (by decide) (by decide) rfl (fun q => absurd q (by decide)) (fun q9 => ?_)
  refine w_aloadN (pc' := 13) C d6_12 rfl rfl rfl ?_
  refine w_iloadN (pc' := 14) C d6_13 rfl rfl ?_
  refine w_lloadN (pc' := 15) C d6_14 rfl rfl ?_
  refine wA_lastore (pc' := 16) C d6_15 rfl g_a O_a (by decide) (Nat.le_of_ble_eq_true rfl) (fun h4 W4 A4 => ?_)
  have O_a : Ar Z h4 a .long [.long x, .long x, .long x, .long x, .long (0 : Int64), .long (0 : Int64), .long (0 : Int64), .long (0 : Int64), .long (0 : Int64), .long (0 : Int64), .long (0 : Int64), .long (0 : Int64), .long (0 : Int64), .long (0 : Int64), .long (0 : Int64), .long (0 : Int64), .long (0 : Int64), .long (0 : Int64), .long (0 : Int64), .long (0 : Int64), .long (0 : Int64), .long (0 : Int64), .long (0 : Int64), .long (0 : Int64), .long (0 : Int64), .long (0 : Int64), .long (0 : Int64), .long (0 : Int64), .long (0 : Int64), .long (0 : Int64), .long (0 : Int64), .long (0 : Int64)] := A4
  have hz : n0 ≤ h4.size := by rw [W4.size]; exact hz
  have hk := hk.wr W4 (Or.inl (by simp))
  refine w_iincE (pc' := 19) (z := (4 : Int32)) (Ls' := #[.val (.ref a), .val (.long x), .second, .val (.int (4 : Int32)), .val (.int (32 : Int32))]) C d6_16 rfl (by decide) rfl rfl ?_
  refine w_goto (pc' := 6) C d6_19 (by decide) (by decide) ?_
  refine w_iloadN (pc' := 7) C d6_6 rfl rfl ?_
  refine w_iload (pc' := 9) C d6_7 rfl rfl ?_
  refine w_icmp_ge (pcT := 22) (pcF := 12) C d6_9 (by decide) (by decide) rfl (fun q => absurd q (by decide)) (fun q9 => ?_)
  refine w_aloadN (pc' := 13) C d6_12 rfl rfl rfl ?_
  refine w_iloadN (pc' := 14) C d6_13 rfl rfl ?_
  refine w_lloadN (pc' := 15) C d6_14 rfl rfl ?_
  refine wA_lastore (pc' := 16) C d6_15 rfl g_a O_a (by decide) (Nat.le_of_ble_eq_true rfl) (fun h5 W5 A5 => ?_)
  have O_a : Ar Z h5 a .long [.long x, .long x, .long x, .long x, .long x, .long (0 : Int64), .long (0 : Int64), .long (0 : Int64), .long (0 : Int64), .long (0 : Int64), .long (0 : Int64), .long (0 : Int64), .long (0 : Int64), .long (0 : Int64), .long (0 : Int64), .long (0 : Int64), .long (0 : Int64), .long (0 : Int64), .long (0 : Int64), .long (0 : Int64), .long (0 : Int64), .long (0 : Int64), .long (0 : Int64), .long (0 : Int64), .long (0 : Int64), .long (0 : Int64), .long (0 : Int64), .long (0 : Int64), .long (0 : Int64), .long (0 : Int64), .long (0 : Int64), .long (0 : Int64)] := A5
  have hz : n0 ≤ h5.size := by rw [W5.size]; exact hz
  have hk := hk.wr W5 (Or.inl (by simp))
  refine w_iincE (pc' := 19) (z := (5 : Int32)) (Ls' := #[.val (.ref a), .val (.long x), .second, .val (.int (5 : Int32)), .val (.int (32 : Int32))]) C d6_16 rfl (by decide) rfl rfl ?_
  refine w_goto (pc' := 6) C d6_19 (by decide) (by decide) ?_
  refine w_iloadN (pc' := 7) C d6_6 rfl rfl ?_
  refine w_iload (pc' := 9) C d6_7 rfl rfl ?_
  refine w_icmp_ge (pcT := 22) (pcF := 12) C d6_9 (by decide) (by decide) rfl (fun q => absurd q (by decide)) (fun q9 => ?_)
  refine w_aloadN (pc' := 13) C d6_12 rfl rfl rfl ?_
  refine w_iloadN (pc' := 14) C d6_13 rfl rfl ?_
  refine w_lloadN (pc' := 15) C d6_14 rfl rfl ?_
  refine wA_lastore (pc' := 16) C d6_15 rfl g_a O_a (by decide) (Nat.le_of_ble_eq_true rfl) (fun h6 W6 A6 => ?_)
  have O_a : Ar Z h6 a .long [.long x, .long x, .long x, .long x, .long x, .long x, .long (0 : Int64), .long (0 : Int64), .long (0 : Int64), .long (0 : Int64), .long (0 : Int64), .long (0 : Int64), .long (0 : Int64), .long (0 : Int64), .long (0 : Int64), .long (0 : Int64), .long (0 : Int64), .long (0 : Int64), .long (0 : Int64), .long (0 : Int64), .long (0 : Int64), .long (0 : Int64), .long (0 : Int64), .long (0 : Int64), .long (0 : Int64), .long (0 : Int64), .long (0 : Int64), .long (0 : Int64), .long (0 : Int64), .long (0 : Int64), .long (0 : Int64), .long (0 : Int64)] := A6
  have hz : n0 ≤ h6.size := by rw [W6.size]; exact hz
  have hk := hk.wr W6 (Or.inl (by simp))
  refine w_iincE (pc' := 19) (z := (6 : Int32)) (Ls' := #[.val (.ref a), .val (.long x), .second, .val (.int (6 : Int32)), .val (.int (32 : Int32))]) C d6_16 rfl (by decide) rfl rfl ?_
  refine w_goto (pc' := 6) C d6_19 (by decide) (by decide) ?_
  refine w_iloadN (pc' := 7) C d6_6 rfl rfl ?_
  refine w_iload (pc' := 9) C d6_7 rfl rfl ?_
  refine w_icmp_ge (pcT := 22) (pcF := 12) C d6_9 (by decide) (by decide) rfl (fun q => absurd q (by decide)) (fun q9 => ?_)
  refine w_aloadN (pc' := 13) C d6_12 rfl rfl rfl ?_
  refine w_iloadN (pc' := 14) C d6_13 rfl rfl ?_
  refine w_lloadN (pc' := 15) C d6_14 rfl rfl ?_
  refine wA_lastore (pc' := 16) C d6_15 rfl g_a O_a (by decide) (Nat.le_of_ble_eq_true rfl) (fun h7 W7 A7 => ?_)
  have O_a : Ar Z h7 a .long [.long x, .long x, .long x, .long x, .long x, .long x, .long x, .long (0 : Int64), .long (0 : Int64), .long (0 : Int64), .long (0 : Int64), .long (0 : Int64), .long (0 : Int64), .long (0 : Int64), .long (0 : Int64), .long (0 : Int64), .long (0 : Int64), .long (0 : Int64), .long (0 : Int64), .long (0 : Int64), .long (0 : Int64), .long (0 : Int64), .long (0 : Int64), .long (0 : Int64), .long (0 : Int64), .long (0 : Int64), .long (0 : Int64), .long (0 : Int64), .long (0 : Int64), .long (0 : Int64), .long (0 : Int64), .long (0 : Int64)] := A7
  have hz : n0 ≤ h7.size := by rw [W7.size]; exact hz
  have hk := hk.wr W7 (Or.inl (by simp))
  refine w_iincE (pc' := 19) (z := (7 : Int32)) (Ls' := #[.val (.ref a), .val (.long x), .second, .val (.int (7 : Int32)), .val (.int (32 : Int32))]) C d6_16 rfl (by decide) rfl rfl ?_
  refine w_goto (pc' := 6) C d6_19 (by decide) (by decide) ?_
  refine w_iloadN (pc' := 7) C d6_6 rfl rfl ?_
  refine w_iload (pc' := 9) C d6_7 rfl rfl ?_
  refine w_icmp_ge (pcT := 22) (pcF := 12) C d6_9 (by decide) (by decide) rfl (fun q => absurd q (by decide)) (fun q9 => ?_)
  refine w_aloadN (pc' := 13) C d6_12 rfl rfl rfl ?_
  refine w_iloadN (pc' := 14) C d6_13 rfl rfl ?_
  refine w_lloadN (pc' := 15) C d6_14 rfl rfl ?_
  refine wA_lastore (pc' := 16) C d6_15 rfl g_a O_a (by decide) (Nat.le_of_ble_eq_true rfl) (fun h8 W8 A8 => ?_)
  have O_a : Ar Z h8 a .long [.long x, .long x, .long x, .long x, .long x, .long x, .long x, .long x, .long (0 : Int64), .long (0 : Int64), .long (0 : Int64), .long (0 : Int64), .long (0 : Int64), .long (0 : Int64), .long (0 : Int64), .long (0 : Int64), .long (0 : Int64), .long (0 : Int64), .long (0 : Int64), .long (0 : Int64), .long (0 : Int64), .long (0 : Int64), .long (0 : Int64), .long (0 : Int64), .long (0 : Int64), .long (0 : Int64), .long (0 : Int64), .long (0 : Int64), .long (0 : Int64), .long (0 : Int64), .long (0 : Int64), .long (0 : Int64)] := A8
  have hz : n0 ≤ h8.size := by rw [W8.size]; exact hz
  have hk := hk.wr W8 (Or.inl (by simp))
  refine w_iincE (pc' := 19) (z := (8 : Int32)) (Ls' := #[.val (.ref a), .val (.long x), .second, .val (.int (8 : Int32)), .val (.int (32 : Int32))]) C d6_16 rfl (by decide) rfl rfl ?_
  refine w_goto (pc' := 6) C d6_19 (by decide) (by decide) ?_
  refine w_iloadN (pc' := 7) C d6_6 rfl rfl ?_
  refine w_iload (pc' := 9) C d6_7 rfl rfl ?_
  refine w_icmp_ge (pcT := 22) (pcF := 12) C d6_9 (by decide) (by decide) rfl (fun q => absurd q (by decide)) (fun q9 => ?_)
  refine w_aloadN (pc' := 13) C d6_12 rfl rfl rfl ?_
  refine w_iloadN (pc' := 14) C d6_13 rfl rfl ?_
  refine w_lloadN (pc' := 15) C d6_14 rfl rfl ?_
  refine wA_lastore (pc' := 16) C d6_15 rfl g_a O_a (by decide) (Nat.le_of_ble_eq_true rfl) (fun h9 W9 A9 => ?_)
  have O_a : Ar Z h9 a .long [.long x, .long x, .long x, .long x, .long x, .long x, .long x, .long x, .long x, .long (0 : Int64), .long (0 : Int64), .long (0 : Int64), .long (0 : Int64), .long (0 : Int64), .long (0 : Int64), .long (0 : Int64), .long (0 : Int64), .long (0 : Int64), .long (0 : Int64), .long (0 : Int64), .long (0 : Int64), .long (0 : Int64), .long (0 : Int64), .long (0 : Int64), .long (0 : Int64), .long (0 : Int64), .long (0 : Int64), .long (0 : Int64), .long (0 : Int64), .long (0 : Int64), .long (0 : Int64), .long (0 : Int64)] := A9
  have hz : n0 ≤ h9.size := by rw [W9.size]; exact hz
  have hk := hk.wr W9 (Or.inl (by simp))
  refine w_iincE (pc' := 19) (z := (9 : Int32)) (Ls' := #[.val (.ref a), .val (.long x), .second, .val (.int (9 : Int32)), .val (.int (32 : Int32))]) C d6_16 rfl (by decide) rfl rfl ?_
  refine w_goto (pc' := 6) C d6_19 (by decide) (by decide) ?_
  refine w_iloadN (pc' := 7) C d6_6 rfl rfl ?_
  refine w_iload (pc' := 9) C d6_7 rfl rfl ?_
  refine w_icmp_ge (pcT := 22) (pcF := 12) C d6_9 (by decide) (by decide) rfl (fun q => absurd q (by decide)) (fun q9 => ?_)
  refine w_aloadN (pc' := 13) C d6_12 rfl rfl rfl ?_
  refine w_iloadN (pc' := 14) C d6_13 rfl rfl ?_
  refine w_lloadN (pc' := 15) C d6_14 rfl rfl ?_
  refine wA_lastore (pc' := 16) C d6_15 rfl g_a O_a (by decide) (Nat.le_of_ble_eq_true rfl) (fun h10 W10 A10 => ?_)
  have O_a : Ar Z h10 a .long [.long x, .long x, .long x, .long x, .long x, .long x, .long x, .long x, .long x, .long x, .long (0 : Int64), .long (0 : Int64), .long (0 : Int64), .long (0 : Int64), .long (0 : Int64), .long (0 : Int64), .long (0 : Int64), .long (0 : Int64), .long (0 : Int64), .long (0 : Int64), .long (0 : Int64), .long (0 : Int64), .long (0 : Int64), .long (0 : Int64), .long (0 : Int64), .long (0 : Int64), .long (0 : Int64), .long (0 : Int64), .long (0 : Int64), .long (0 : Int64), .long (0 : Int64), .long (0 : Int64)] := A10
  have hz : n0 ≤ h10.size := by rw [W10.size]; exact hz
  have hk := hk.wr W10 (Or.inl (by simp))
  refine w_iincE (pc' := 19) (z := (10 : Int32)) (Ls' := #[.val (.ref a), .val (.long x), .second, .val (.int (10 : Int32)), .val (.int (32 : Int32))]) C d6_16 rfl (by decide) rfl rfl ?_
  refine w_goto (pc' := 6) C d6_19 (by decide) (by decide) ?_
  refine w_iloadN (pc' := 7) C d6_6 rfl rfl ?_
  refine w_iload (pc' := 9) C d6_7 rfl rfl ?_
  refine w_icmp_ge (pcT := 22) (pcF := 12) C d6_9 (by decide) (by decide) rfl (fun q => absurd q (by decide)) (fun q9 => ?_)
  refine w_aloadN (pc' := 13) C d6_12 rfl rfl rfl ?_
  refine w_iloadN (pc' := 14) C d6_13 rfl rfl ?_
  refine w_lloadN (pc' := 15) C d6_14 rfl rfl ?_
  refine wA_lastore (pc' := 16) C d6_15 rfl g_a O_a (by decide) (Nat.le_of_ble_eq_true rfl) (fun h11 W11 A11 => ?_)
  have O_a : Ar Z h11 a .long [.long x, .long x, .long x, .long x, .long x, .long x, .long x, .long x, .long x, .long x, .long x, .long (0 : Int64), .long (0 : Int64), .long (0 : Int64), .long (0 : Int64), .long (0 : Int64), .long (0 : Int64), .long (0 : Int64), .long (0 : Int64), .long (0 : Int64), .long (0 : Int64), .long (0 : Int64), .long (0 : Int64), .long (0 : Int64), .long (0 : Int64), .long (0 : Int64), .long (0 : Int64), .long (0 : Int64), .long (0 : Int64), .long (0 : Int64), .long (0 : Int64), .long (0 : Int64)] := A11
  have hz : n0 ≤ h11.size := by rw [W11.size]; exact hz
  have hk := hk.wr W11 (Or.inl (by simp))
  refine w_iincE (pc' := 19) (z := (11 : Int32)) (Ls' := #[.val (.ref a), .val (.long x), .second, .val (.int (11 : Int32)), .val (.int (32 : Int32))]) C d6_16 rfl (by decide) rfl rfl ?_
  refine w_goto (pc' := 6) C d6_19 (by decide) (by decide) ?_
  refine w_iloadN (pc' := 7) C d6_6 rfl rfl ?_
  refine w_iload (pc' := 9) C d6_7 rfl rfl ?_
  refine w_icmp_ge (pcT := 22) (pcF := 12) C d6_9 (by decide) (by decide) rfl (fun q => absurd q (by decide)) (fun q9 => ?_)
  refine w_aloadN (pc' := 13) C d6_12 rfl rfl rfl ?_
  refine w_iloadN (pc' := 14) C d6_13 rfl rfl ?_
  refine w_lloadN (pc' := 15) C d6_14 rfl rfl ?_
  refine wA_lastore (pc' := 16) C d6_15 rfl g_a O_a (by decide) (Nat.le_of_ble_eq_true rfl) (fun h12 W12 A12 => ?_)
  have O_a : Ar Z h12 a .long [.long x, .long x, .long x, .long x, .long x, .long x, .long x, .long x, .long x, .long x, .long x, .long x, .long (0 : Int64), .long (0 : Int64), .long (0 : Int64), .long (0 : Int64), .long (0 : Int64), .long (0 : Int64), .long (0 : Int64), .long (0 : Int64), .long (0 : Int64), .long (0 : Int64), .long (0 : Int64), .long (0 : Int64), .long (0 : Int64), .long (0 : Int64), .long (0 : Int64), .long (0 : Int64), .long (0 : Int64), .long (0 : Int64), .long (0 : Int64), .long (0 : Int64)] := A12
  have hz : n0 ≤ h12.size := by rw [W12.size]; exact hz
  have hk := hk.wr W12 (Or.inl (by simp))
  refine w_iincE (pc' := 19) (z := (12 : Int32)) (Ls' := #[.val (.ref a), .val (.long x), .second, .val (.int (12 : Int32)), .val (.int (32 : Int32))]) C d6_16 rfl (by decide) rfl rfl ?_
  refine w_goto (pc' := 6) C d6_19 (by decide) (by decide) ?_
  refine w_iloadN (pc' := 7) C d6_6 rfl rfl ?_
  refine w_iload (pc' := 9) C d6_7 rfl rfl ?_
  refine w_icmp_ge (pcT := 22) (pcF := 12) C d6_9 (by decide) (by decide) rfl (fun q => absurd q (by decide)) (fun q9 => ?_)
  refine w_aloadN (pc' := 13) C d6_12 rfl rfl rfl ?_
  refine w_iloadN (pc' := 14) C d6_13 rfl rfl ?_
  refine w_lloadN (pc' := 15) C d6_14 rfl rfl ?_
  refine wA_lastore (pc' := 16) C d6_15 rfl g_a O_a (by decide) (Nat.le_of_ble_eq_true rfl) (fun h13 W13 A13 => ?_)
  have O_a : Ar Z h13 a .long [.long x, .long x, .long x, .long x, .long x, .long x, .long x, .long x, .long x, .long x, .long x, .long x, .long x, .long (0 : Int64), .long (0 : Int64), .long (0 : Int64), .long (0 : Int64), .long (0 : Int64), .long (0 : Int64), .long (0 : Int64), .long (0 : Int64), .long (0 : Int64), .long (0 : Int64), .long (0 : Int64), .long (0 : Int64), .long (0 : Int64), .long (0 : Int64), .long (0 : Int64), .long (0 : Int64), .long (0 : Int64), .long (0 : Int64), .long (0 : Int64)] := A13
  have hz : n0 ≤ h13.size := by rw [W13.size]; exact hz
  have hk := hk.wr W13 (Or.inl (by simp))
  refine w_iincE (pc' := 19) (z := (13 : Int32)) (Ls' := #[.val (.ref a), .val (.long x), .second, .val (.int (13 : Int32)), .val (.int (32 : Int32))]) C d6_16 rfl (by decide) rfl rfl ?_
  refine w_goto (pc' := 6) C d6_19 (by decide) (by decide) ?_
  refine w_iloadN (pc' := 7) C d6_6 rfl rfl ?_
  refine w_iload (pc' := 9) C d6_7 rfl rfl ?_
  refine w_icmp_ge (pcT := 22) (pcF := 12) C d6_9 (by decide) (by decide) rfl (fun q => absurd q (by decide)) (fun q9 => ?_)
  refine w_aloadN (pc' := 13) C d6_12 rfl rfl rfl ?_
  refine w_iloadN (pc' := 14) C d6_13 rfl rfl ?_
  refine w_lloadN (pc' := 15) C d6_14 rfl rfl ?_
  refine wA_lastore (pc' := 16) C d6_15 rfl g_a O_a (by decide) (Nat.le_of_ble_eq_true rfl) (fun h14 W14 A14 => ?_)
  have O_a : Ar Z h14 a .long [.long x, .long x, .long x, .long x, .long x, .long x, .long x, .long x, .long x, .long x, .long x, .long x, .long x, .long x, .long (0 : Int64), .long (0 : Int64), .long (0 : Int64), .long (0 : Int64), .long (0 : Int64), .long (0 : Int64), .long (0 : Int64), .long (0 : Int64), .long (0 : Int64), .long (0 : Int64), .long (0 : Int64), .long (0 : Int64), .long (0 : Int64), .long (0 : Int64), .long (0 : Int64), .long (0 : Int64), .long (0 : Int64), .long (0 : Int64)] := A14
  have hz : n0 ≤ h14.size := by rw [W14.size]; exact hz
  have hk := hk.wr W14 (Or.inl (by simp))
  refine w_iincE (pc' := 19) (z := (14 : Int32)) (Ls' := #[.val (.ref a), .val (.long x), .second, .val (.int (14 : Int32)), .val (.int (32 : Int32))]) C d6_16 rfl (by decide) rfl rfl ?_
  refine w_goto (pc' := 6) C d6_19 (by decide) (by decide) ?_
  refine w_iloadN (pc' := 7) C d6_6 rfl rfl ?_
  refine w_iload (pc' := 9) C d6_7 rfl rfl ?_
  refine w_icmp_ge (pcT := 22) (pcF := 12) C d6_9 (by decide) (by decide) rfl (fun q => absurd q (by decide)) (fun q9 => ?_)
  refine w_aloadN (pc' := 13) C d6_12 rfl rfl rfl ?_
  refine w_iloadN (pc' := 14) C d6_13 rfl rfl ?_
  refine w_lloadN (pc' := 15) C d6_14 rfl rfl ?_
  refine wA_lastore (pc' := 16) C d6_15 rfl g_a O_a (by decide) (Nat.le_of_ble_eq_true rfl) (fun h15 W15 A15 => ?_)
  have O_a : Ar Z h15 a .long [.long x, .long x, .long x, .long x, .long x, .long x, .long x, .long x, .long x, .long x, .long x, .long x, .long x, .long x, .long x, .long (0 : Int64), .long (0 : Int64), .long (0 : Int64), .long (0 : Int64), .long (0 : Int64), .long (0 : Int64), .long (0 : Int64), .long (0 : Int64), .long (0 : Int64), .long (0 : Int64), .long (0 : Int64), .long (0 : Int64), .long (0 : Int64), .long (0 : Int64), .long (0 : Int64), .long (0 : Int64), .long (0 : Int64)] := A15
  have hz : n0 ≤ h15.size := by rw [W15.size]; exact hz
  have hk := hk.wr W15 (Or.inl (by simp))
  refine w_iincE (pc' := 19) (z := (15 : Int32)) (Ls' := #[.val (.ref a), .val (.long x), .second, .val (.int (15 : Int32)), .val (.int (32 : Int32))]) C d6_16 rfl (by decide) rfl rfl ?_
  refine w_goto (pc' := 6) C d6_19 (by decide) (by decide) ?_
  refine w_iloadN (pc' := 7) C d6_6 rfl rfl ?_
  refine w_iload (pc' := 9) C d6_7 rfl rfl ?_
  refine w_icmp_ge (pcT := 22) (pcF := 12) C d6_9 (by decide) (by decide) rfl (fun q => absurd q (by decide)) (fun q9 => ?_)
  refine w_aloadN (pc' := 13) C d6_12 rfl rfl rfl ?_
  refine w_iloadN (pc' := 14) C d6_13 rfl rfl ?_
  refine w_lloadN (pc' := 15) C d6_14 rfl rfl ?_
  refine wA_lastore (pc' := 16) C d6_15 rfl g_a O_a (by decide) (Nat.le_of_ble_eq_true rfl) (fun h16 W16 A16 => ?_)
  have O_a : Ar Z h16 a .long [.long x, .long x, .long x, .long x, .long x, .long x, .long x, .long x, .long x, .long x, .long x, .long x, .long x, .long x, .long x, .long x, .long (0 : Int64), .long (0 : Int64), .long (0 : Int64), .long (0 : Int64), .long (0 : Int64), .long (0 : Int64), .long (0 : Int64), .long (0 : Int64), .long (0 : Int64), .long (0 : Int64), .long (0 : Int64), .long (0 : Int64), .long (0 : Int64), .long (0 : Int64), .long (0 : Int64), .long (0 : Int64)] := A16
  have hz : n0 ≤ h16.size := by rw [W16.size]; exact hz
  have hk := hk.wr W16 (Or.inl (by simp))
  refine w_iincE (pc' := 19) (z := (16 : Int32)) (Ls' := #[.val (.ref a), .val (.long x), .second, .val (.int (16 : Int32)), .val (.int (32 : Int32))]) C d6_16 rfl (by decide) rfl rfl ?_
  refine w_goto (pc' := 6) C d6_19 (by decide) (by decide) ?_
  refine w_iloadN (pc' := 7) C d6_6 rfl rfl ?_
  refine w_iload (pc' := 9) C d6_7 rfl rfl ?_
  refine w_icmp_ge (pcT := 22) (pcF := 12) C d6_9 (by decide) (by decide) rfl (fun q => absurd q (by decide)) (fun q9 => ?_)
  refine w_aloadN (pc' := 13) C d6_12 rfl rfl rfl ?_
  refine w_iloadN (pc' := 14) C d6_13 rfl rfl ?_
  refine w_lloadN (pc' := 15) C d6_14 rfl rfl ?_
  refine wA_lastore (pc' := 16) C d6_15 rfl g_a O_a (by decide) (Nat.le_of_ble_eq_true rfl) (fun h17 W17 A17 => ?_)
  have O_a : Ar Z h17 a .long [.long x, .long x, .long x, .long x, .long x, .long x, .long x, .long x, .long x, .long x, .long x, .long x, .long x, .long x, .long x, .long x, .long x, .long (0 : Int64), .long (0 : Int64), .long (0 : Int64), .long (0 : Int64), .long (0 : Int64), .long (0 : Int64), .long (0 : Int64), .long (0 : Int64), .long (0 : Int64), .long (0 : Int64), .long (0 : Int64), .long (0 : Int64), .long (0 : Int64), .long (0 : Int64), .long (0 : Int64)] := A17
  have hz : n0 ≤ h17.size := by rw [W17.size]; exact hz
  have hk := hk.wr W17 (Or.inl (by simp))
  refine w_iincE (pc' := 19) (z := (17 : Int32)) (Ls' := #[.val (.ref a), .val (.long x), .second, .val (.int (17 : Int32)), .val (.int (32 : Int32))]) C d6_16 rfl (by decide) rfl rfl ?_
  refine w_goto (pc' := 6) C d6_19 (by decide) (by decide) ?_
  refine w_iloadN (pc' := 7) C d6_6 rfl rfl ?_
  refine w_iload (pc' := 9) C d6_7 rfl rfl ?_
  refine w_icmp_ge (pcT := 22) (pcF := 12) C d6_9 (by decide) (by decide) rfl (fun q => absurd q (by decide)) (fun q9 => ?_)
  refine w_aloadN (pc' := 13) C d6_12 rfl rfl rfl ?_
  refine w_iloadN (pc' := 14) C d6_13 rfl rfl ?_
  refine w_lloadN (pc' := 15) C d6_14 rfl rfl ?_
  refine wA_lastore (pc' := 16) C d6_15 rfl g_a O_a (by decide) (Nat.le_of_ble_eq_true rfl) (fun h18 W18 A18 => ?_)
  have O_a : Ar Z h18 a .long [.long x, .long x, .long x, .long x, .long x, .long x, .long x, .long x, .long x, .long x, .long x, .long x, .long x, .long x, .long x, .long x, .long x, .long x, .long (0 : Int64), .long (0 : Int64), .long (0 : Int64), .long (0 : Int64), .long (0 : Int64), .long (0 : Int64), .long (0 : Int64), .long (0 : Int64), .long (0 : Int64), .long (0 : Int64), .long (0 : Int64), .long (0 : Int64), .long (0 : Int64), .long (0 : Int64)] := A18
  have hz : n0 ≤ h18.size := by rw [W18.size]; exact hz
  have hk := hk.wr W18 (Or.inl (by simp))
  refine w_iincE (pc' := 19) (z := (18 : Int32)) (Ls' := #[.val (.ref a), .val (.long x), .second, .val (.int (18 : Int32)), .val (.int (32 : Int32))]) C d6_16 rfl (by decide) rfl rfl ?_
  refine w_goto (pc' := 6) C d6_19 (by decide) (by decide) ?_
  refine w_iloadN (pc' := 7) C d6_6 rfl rfl ?_
  refine w_iload (pc' := 9) C d6_7 rfl rfl ?_
  refine w_icmp_ge (pcT := 22) (pcF := 12) C d6_9 (by decide) (by decide) rfl (fun q => absurd q (by decide)) (fun q9 => ?_)
  refine w_aloadN (pc' := 13) C d6_12 rfl rfl rfl ?_
  refine w_iloadN (pc' := 14) C d6_13 rfl rfl ?_
  refine w_lloadN (pc' := 15) C d6_14 rfl rfl ?_
  refine wA_lastore (pc' := 16) C d6_15 rfl g_a O_a (by decide) (Nat.le_of_ble_eq_true rfl) (fun h19 W19 A19 => ?_)
  have O_a : Ar Z h19 a .long [.long x, .long x, .long x, .long x, .long x, .long x, .long x, .long x, .long x, .long x, .long x, .long x, .long x, .long x, .long x, .long x, .long x, .long x, .long x, .long (0 : Int64), .long (0 : Int64), .long (0 : Int64), .long (0 : Int64), .long (0 : Int64), .long (0 : Int64), .long (0 : Int64), .long (0 : Int64), .long (0 : Int64), .long (0 : Int64), .long (0 : Int64), .long (0 : Int64), .long (0 : Int64)] := A19
  have hz : n0 ≤ h19.size := by rw [W19.size]; exact hz
  have hk := hk.wr W19 (Or.inl (by simp))
  refine w_iincE (pc' := 19) (z := (19 : Int32)) (Ls' := #[.val (.ref a), .val (.long x), .second, .val (.int (19 : Int32)), .val (.int (32 : Int32))]) C d6_16 rfl (by decide) rfl rfl ?_
  refine w_goto (pc' := 6) C d6_19 (by decide) (by decide) ?_
  refine w_iloadN (pc' := 7) C d6_6 rfl rfl ?_
  refine w_iload (pc' := 9) C d6_7 rfl rfl ?_
  refine w_icmp_ge (pcT := 22) (pcF := 12) C d6_9 (by decide) (by decide) rfl (fun q => absurd q (by decide)) (fun q9 => ?_)
  refine w_aloadN (pc' := 13) C d6_12 rfl rfl rfl ?_
  refine w_iloadN (pc' := 14) C d6_13 rfl rfl ?_
  refine w_lloadN (pc' := 15) C d6_14 rfl rfl ?_
  refine wA_lastore (pc' := 16) C d6_15 rfl g_a O_a (by decide) (Nat.le_of_ble_eq_true rfl) (fun h20 W20 A20 => ?_)
  have O_a : Ar Z h20 a .long [.long x, .long x, .long x, .long x, .long x, .long x, .long x, .long x, .long x, .long x, .long x, .long x, .long x, .long x, .long x, .long x, .long x, .long x, .long x, .long x, .long (0 : Int64), .long (0 : Int64), .long (0 : Int64), .long (0 : Int64), .long (0 : Int64), .long (0 : Int64), .long (0 : Int64), .long (0 : Int64), .long (0 : Int64), .long (0 : Int64), .long (0 : Int64), .long (0 : Int64)] := A20
  have hz : n0 ≤ h20.size := by rw [W20.size]; exact hz
  have hk := hk.wr W20 (Or.inl (by simp))
  refine w_iincE (pc' := 19) (z := (20 : Int32)) (Ls' := #[.val (.ref a), .val (.long x), .second, .val (.int (20 : Int32)), .val (.int (32 : Int32))]) C d6_16 rfl (by decide) rfl rfl ?_
  refine w_goto (pc' := 6) C d6_19 (by decide) (by decide) ?_
  refine w_iloadN (pc' := 7) C d6_6 rfl rfl ?_
  refine w_iload (pc' := 9) C d6_7 rfl rfl ?_
  refine w_icmp_ge (pcT := 22) (pcF := 12) C d6_9 (by decide) (by decide) rfl (fun q => absurd q (by decide)) (fun q9 => ?_)
  refine w_aloadN (pc' := 13) C d6_12 rfl rfl rfl ?_
  refine w_iloadN (pc' := 14) C d6_13 rfl rfl ?_
  refine w_lloadN (pc' := 15) C d6_14 rfl rfl ?_
  refine wA_lastore (pc' := 16) C d6_15 rfl g_a O_a (by decide) (Nat.le_of_ble_eq_true rfl) (fun h21 W21 A21 => ?_)
  have O_a : Ar Z h21 a .long [.long x, .long x, .long x, .long x, .long x, .long x, .long x, .long x, .long x, .long x, .long x, .long x, .long x, .long x, .long x, .long x, .long x, .long x, .long x, .long x, .long x, .long (0 : Int64), .long (0 : Int64), .long (0 : Int64), .long (0 : Int64), .long (0 : Int64), .long (0 : Int64), .long (0 : Int64), .long (0 : Int64), .long (0 : Int64), .long (0 : Int64), .long (0 : Int64)] := A21
  have hz : n0 ≤ h21.size := by rw [W21.size]; exact hz
  have hk := hk.wr W21 (Or.inl (by simp))
  refine w_iincE (pc' := 19) (z := (21 : Int32)) (Ls' := #[.val (.ref a), .val (.long x), .second, .val (.int (21 : Int32)), .val (.int (32 : Int32))]) C d6_16 rfl (by decide) rfl rfl ?_
  refine w_goto (pc' := 6) C d6_19 (by decide) (by decide) ?_
  refine w_iloadN (pc' := 7) C d6_6 rfl rfl ?_
  refine w_iload (pc' := 9) C d6_7 rfl rfl ?_
  refine w_icmp_ge (pcT := 22) (pcF := 12) C d6_9 (by decide) (by decide) rfl (fun q => absurd q (by decide)) (fun q9 => ?_)
  refine w_aloadN (pc' := 13) C d6_12 rfl rfl rfl ?_
  refine w_iloadN (pc' := 14) C d6_13 rfl rfl ?_
  refine w_lloadN (pc' := 15) C d6_14 rfl rfl ?_
  refine wA_lastore (pc' := 16) C d6_15 rfl g_a O_a (by decide) (Nat.le_of_ble_eq_true rfl) (fun h22 W22 A22 => ?_)
  have O_a : Ar Z h22 a .long [.long x, .long x, .long x, .long x, .long x, .long x, .long x, .long x, .long x, .long x, .long x, .long x, .long x, .long x, .long x, .long x, .long x, .long x, .long x, .long x, .long x, .long x, .long (0 : Int64), .long (0 : Int64), .long (0 : Int64), .long (0 : Int64), .long (0 : Int64), .long (0 : Int64), .long (0 : Int64), .long (0 : Int64), .long (0 : Int64), .long (0 : Int64)] := A22
  have hz : n0 ≤ h22.size := by rw [W22.size]; exact hz
  have hk := hk.wr W22 (Or.inl (by simp))
  refine w_iincE (pc' := 19) (z := (22 : Int32)) (Ls' := #[.val (.ref a), .val (.long x), .second, .val (.int (22 : Int32)), .val (.int (32 : Int32))]) C d6_16 rfl (by decide) rfl rfl ?_
  refine w_goto (pc' := 6) C d6_19 (by decide) (by decide) ?_
  refine w_iloadN (pc' := 7) C d6_6 rfl rfl ?_
  refine w_iload (pc' := 9) C d6_7 rfl rfl ?_
  refine w_icmp_ge (pcT := 22) (pcF := 12) C d6_9 (by decide) (by decide) rfl (fun q => absurd q (by decide)) (fun q9 => ?_)
  refine w_aloadN (pc' := 13) C d6_12 rfl rfl rfl ?_
  refine w_iloadN (pc' := 14) C d6_13 rfl rfl ?_
  refine w_lloadN (pc' := 15) C d6_14 rfl rfl ?_
  refine wA_lastore (pc' := 16) C d6_15 rfl g_a O_a (by decide) (Nat.le_of_ble_eq_true rfl) (fun h23 W23 A23 => ?_)
  have O_a : Ar Z h23 a .long [.long x, .long x, .long x, .long x, .long x, .long x, .long x, .long x, .long x, .long x, .long x, .long x, .long x, .long x, .long x, .long x, .long x, .long x, .long x, .long x, .long x, .long x, .long x, .long (0 : Int64), .long (0 : Int64), .long (0 : Int64), .long (0 : Int64), .long (0 : Int64), .long (0 : Int64), .long (0 : Int64), .long (0 : Int64), .long (0 : Int64)] := A23
  have hz : n0 ≤ h23.size := by rw [W23.size]; exact hz
  have hk := hk.wr W23 (Or.inl (by simp))
  refine w_iincE (pc' := 19) (z := (23 : Int32)) (Ls' := #[.val (.ref a), .val (.long x), .second, .val (.int (23 : Int32)), .val (.int (32 : Int32))]) C d6_16 rfl (by decide) rfl rfl ?_
  refine w_goto (pc' := 6) C d6_19 (by decide) (by decide) ?_
  refine w_iloadN (pc' := 7) C d6_6 rfl rfl ?_
  refine w_iload (pc' := 9) C d6_7 rfl rfl ?_
  refine w_icmp_ge (pcT := 22) (pcF := 12) C d6_9 (by decide) (by decide) rfl (fun q => absurd q (by decide)) (fun q9 => ?_)
  refine w_aloadN (pc' := 13) C d6_12 rfl rfl rfl ?_
  refine w_iloadN (pc' := 14) C d6_13 rfl rfl ?_
  refine w_lloadN (pc' := 15) C d6_14 rfl rfl ?_
  refine wA_lastore (pc' := 16) C d6_15 rfl g_a O_a (by decide) (Nat.le_of_ble_eq_true rfl) (fun h24 W24 A24 => ?_)
  have O_a : Ar Z h24 a .long [.long x, .long x, .long x, .long x, .long x, .long x, .long x, .long x, .long x, .long x, .long x, .long x, .long x, .long x, .long x, .long x, .long x, .long x, .long x, .long x, .long x, .long x, .long x, .long x, .long (0 : Int64), .long (0 : Int64), .long (0 : Int64), .long (0 : Int64), .long (0 : Int64), .long (0 : Int64), .long (0 : Int64), .long (0 : Int64)] := A24
  have hz : n0 ≤ h24.size := by rw [W24.size]; exact hz
  have hk := hk.wr W24 (Or.inl (by simp))
  refine w_iincE (pc' := 19) (z := (24 : Int32)) (Ls' := #[.val (.ref a), .val (.long x), .second, .val (.int (24 : Int32)), .val (.int (32 : Int32))]) C d6_16 rfl (by decide) rfl rfl ?_
  refine w_goto (pc' := 6) C d6_19 (by decide) (by decide) ?_
  refine w_iloadN (pc' := 7) C d6_6 rfl rfl ?_
  refine w_iload (pc' := 9) C d6_7 rfl rfl ?_
  refine w_icmp_ge (pcT := 22) (pcF := 12) C d6_9 (by decide) (by decide) rfl (fun q => absurd q (by decide)) (fun q9 => ?_)
  refine w_aloadN (pc' := 13) C d6_12 rfl rfl rfl ?_
  refine w_iloadN (pc' := 14) C d6_13 rfl rfl ?_
  refine w_lloadN (pc' := 15) C d6_14 rfl rfl ?_
  refine wA_lastore (pc' := 16) C d6_15 rfl g_a O_a (by decide) (Nat.le_of_ble_eq_true rfl) (fun h25 W25 A25 => ?_)
  have O_a : Ar Z h25 a .long [.long x, .long x, .long x, .long x, .long x, .long x, .long x, .long x, .long x, .long x, .long x, .long x, .long x, .long x, .long x, .long x, .long x, .long x, .long x, .long x, .long x, .long x, .long x, .long x, .long x, .long (0 : Int64), .long (0 : Int64), .long (0 : Int64), .long (0 : Int64), .long (0 : Int64), .long (0 : Int64), .long (0 : Int64)] := A25
  have hz : n0 ≤ h25.size := by rw [W25.size]; exact hz
  have hk := hk.wr W25 (Or.inl (by simp))
  refine w_iincE (pc' := 19) (z := (25 : Int32)) (Ls' := #[.val (.ref a), .val (.long x), .second, .val (.int (25 : Int32)), .val (.int (32 : Int32))]) C d6_16 rfl (by decide) rfl rfl ?_
  refine w_goto (pc' := 6) C d6_19 (by decide) (by decide) ?_
  refine w_iloadN (pc' := 7) C d6_6 rfl rfl ?_
  refine w_iload (pc' := 9) C d6_7 rfl rfl ?_
  refine w_icmp_ge (pcT := 22) (pcF := 12) C d6_9 (by decide) (by decide) rfl (fun q => absurd q (by decide)) (fun q9 => ?_)
  refine w_aloadN (pc' := 13) C d6_12 rfl rfl rfl ?_
  refine w_iloadN (pc' := 14) C d6_13 rfl rfl ?_
  refine w_lloadN (pc' := 15) C d6_14 rfl rfl ?_
  refine wA_lastore (pc' := 16) C d6_15 rfl g_a O_a (by decide) (Nat.le_of_ble_eq_true rfl) (fun h26 W26 A26 => ?_)
  have O_a : Ar Z h26 a .long [.long x, .long x, .long x, .long x, .long x, .long x, .long x, .long x, .long x, .long x, .long x, .long x, .long x, .long x, .long x, .long x, .long x, .long x, .long x, .long x, .long x, .long x, .long x, .long x, .long x, .long x, .long (0 : Int64), .long (0 : Int64), .long (0 : Int64), .long (0 : Int64), .long (0 : Int64), .long (0 : Int64)] := A26
  have hz : n0 ≤ h26.size := by rw [W26.size]; exact hz
  have hk := hk.wr W26 (Or.inl (by simp))
  refine w_iincE (pc' := 19) (z := (26 : Int32)) (Ls' := #[.val (.ref a), .val (.long x), .second, .val (.int (26 : Int32)), .val (.int (32 : Int32))]) C d6_16 rfl (by decide) rfl rfl ?_
  refine w_goto (pc' := 6) C d6_19 (by decide) (by decide) ?_
  refine w_iloadN (pc' := 7) C d6_6 rfl rfl ?_
  refine w_iload (pc' := 9) C d6_7 rfl rfl ?_
  refine w_icmp_ge (pcT := 22) (pcF := 12) C d6_9 (by decide) (by decide) rfl (fun q => absurd q (by decide)) (fun q9 => ?_)
  refine w_aloadN (pc' := 13) C d6_12 rfl rfl rfl ?_
  refine w_iloadN (pc' := 14) C d6_13 rfl rfl ?_
  refine w_lloadN (pc' := 15) C d6_14 rfl rfl ?_
  refine wA_lastore (pc' := 16) C d6_15 rfl g_a O_a (by decide) (Nat.le_of_ble_eq_true rfl) (fun h27 W27 A27 => ?_)
  have O_a : Ar Z h27 a .long [.long x, .long x, .long x, .long x, .long x, .long x, .long x, .long x, .long x, .long x, .long x, .long x, .long x, .long x, .long x, .long x, .long x, .long x, .long x, .long x, .long x, .long x, .long x, .long x, .long x, .long x, .long x, .long (0 : Int64), .long (0 : Int64), .long (0 : Int64), .long (0 : Int64), .long (0 : Int64)] := A27
  have hz : n0 ≤ h27.size := by rw [W27.size]; exact hz
  have hk := hk.wr W27 (Or.inl (by simp))
  refine w_iincE (pc' := 19) (z := (27 : Int32)) (Ls' := #[.val (.ref a), .val (.long x), .second, .val (.int (27 : Int32)), .val (.int (32 : Int32))]) C d6_16 rfl (by decide) rfl rfl ?_
  refine w_goto (pc' := 6) C d6_19 (by decide) (by decide) ?_
  refine w_iloadN (pc' := 7) C d6_6 rfl rfl ?_
  refine w_iload (pc' := 9) C d6_7 rfl rfl ?_
  refine w_icmp_ge (pcT := 22) (pcF := 12) C d6_9 (by decide) (by decide) rfl (fun q => absurd q (by decide)) (fun q9 => ?_)
  refine w_aloadN (pc' := 13) C d6_12 rfl rfl rfl ?_
  refine w_iloadN (pc' := 14) C d6_13 rfl rfl ?_
  refine w_lloadN (pc' := 15) C d6_14 rfl rfl ?_
  refine wA_lastore (pc' := 16) C d6_15 rfl g_a O_a (by decide) (Nat.le_of_ble_eq_true rfl) (fun h28 W28 A28 => ?_)
  have O_a : Ar Z h28 a .long [.long x, .long x, .long x, .long x, .long x, .long x, .long x, .long x, .long x, .long x, .long x, .long x, .long x, .long x, .long x, .long x, .long x, .long x, .long x, .long x, .long x, .long x, .long x, .long x, .long x, .long x, .long x, .long x, .long (0 : Int64), .long (0 : Int64), .long (0 : Int64), .long (0 : Int64)] := A28
  have hz : n0 ≤ h28.size := by rw [W28.size]; exact hz
  have hk := hk.wr W28 (Or.inl (by simp))
  refine w_iincE (pc' := 19) (z := (28 : Int32)) (Ls' := #[.val (.ref a), .val (.long x), .second, .val (.int (28 : Int32)), .val (.int (32 : Int32))]) C d6_16 rfl (by decide) rfl rfl ?_
  refine w_goto (pc' := 6) C d6_19 (by decide) (by decide) ?_
  refine w_iloadN (pc' := 7) C d6_6 rfl rfl ?_
  refine w_iload (pc' := 9) C d6_7 rfl rfl ?_
  refine w_icmp_ge (pcT := 22) (pcF := 12) C d6_9 (by decide) (by decide) rfl (fun q => absurd q (by decide)) (fun q9 => ?_)
  refine w_aloadN (pc' := 13) C d6_12 rfl rfl rfl ?_
  refine w_iloadN (pc' := 14) C d6_13 rfl rfl ?_
  refine w_lloadN (pc' := 15) C d6_14 rfl rfl ?_
  refine wA_lastore (pc' := 16) C d6_15 rfl g_a O_a (by decide) (Nat.le_of_ble_eq_true rfl) (fun h29 W29 A29 => ?_)
  have O_a : Ar Z h29 a .long [.long x, .long x, .long x, .long x, .long x, .long x, .long x, .long x, .long x, .long x, .long x, .long x, .long x, .long x, .long x, .long x, .long x, .long x, .long x, .long x, .long x, .long x, .long x, .long x, .long x, .long x, .long x, .long x, .long x, .long (0 : Int64), .long (0 : Int64), .long (0 : Int64)] := A29
  have hz : n0 ≤ h29.size := by rw [W29.size]; exact hz
  have hk := hk.wr W29 (Or.inl (by simp))
  refine w_iincE (pc' := 19) (z := (29 : Int32)) (Ls' := #[.val (.ref a), .val (.long x), .second, .val (.int (29 : Int32)), .val (.int (32 : Int32))]) C d6_16 rfl (by decide) rfl rfl ?_
  refine w_goto (pc' := 6) C d6_19 (by decide) (by decide) ?_
  refine w_iloadN (pc' := 7) C d6_6 rfl rfl ?_
  refine w_iload (pc' := 9) C d6_7 rfl rfl ?_
  refine w_icmp_ge (pcT := 22) (pcF := 12) C d6_9 (by decide) (by decide) rfl (fun q => absurd q (by decide)) (fun q9 => ?_)
  refine w_aloadN (pc' := 13) C d6_12 rfl rfl rfl ?_
  refine w_iloadN (pc' := 14) C d6_13 rfl rfl ?_
  refine w_lloadN (pc' := 15) C d6_14 rfl rfl ?_
  refine wA_lastore (pc' := 16) C d6_15 rfl g_a O_a (by decide) (Nat.le_of_ble_eq_true rfl) (fun h30 W30 A30 => ?_)
  have O_a : Ar Z h30 a .long [.long x, .long x, .long x, .long x, .long x, .long x, .long x, .long x, .long x, .long x, .long x, .long x, .long x, .long x, .long x, .long x, .long x, .long x, .long x, .long x, .long x, .long x, .long x, .long x, .long x, .long x, .long x, .long x, .long x, .long x, .long (0 : Int64), .long (0 : Int64)] := A30
  have hz : n0 ≤ h30.size := by rw [W30.size]; exact hz
  have hk := hk.wr W30 (Or.inl (by simp))
  refine w_iincE (pc' := 19) (z := (30 : Int32)) (Ls' := #[.val (.ref a), .val (.long x), .second, .val (.int (30 : Int32)), .val (.int (32 : Int32))]) C d6_16 rfl (by decide) rfl rfl ?_
  refine w_goto (pc' := 6) C d6_19 (by decide) (by decide) ?_
  refine w_iloadN (pc' := 7) C d6_6 rfl rfl ?_
  refine w_iload (pc' := 9) C d6_7 rfl rfl ?_
  refine w_icmp_ge (pcT := 22) (pcF := 12) C d6_9 (by decide) (by decide) rfl (fun q => absurd q (by decide)) (fun q9 => ?_)
  refine w_aloadN (pc' := 13) C d6_12 rfl rfl rfl ?_
  refine w_iloadN (pc' := 14) C d6_13 rfl rfl ?_
  refine w_lloadN (pc' := 15) C d6_14 rfl rfl ?_
  refine wA_lastore (pc' := 16) C d6_15 rfl g_a O_a (by decide) (Nat.le_of_ble_eq_true rfl) (fun h31 W31 A31 => ?_)
  have O_a : Ar Z h31 a .long [.long x, .long x, .long x, .long x, .long x, .long x, .long x, .long x, .long x, .long x, .long x, .long x, .long x, .long x, .long x, .long x, .long x, .long x, .long x, .long x, .long x, .long x, .long x, .long x, .long x, .long x, .long x, .long x, .long x, .long x, .long x, .long (0 : Int64)] := A31
  have hz : n0 ≤ h31.size := by rw [W31.size]; exact hz
  have hk := hk.wr W31 (Or.inl (by simp))
  refine w_iincE (pc' := 19) (z := (31 : Int32)) (Ls' := #[.val (.ref a), .val (.long x), .second, .val (.int (31 : Int32)), .val (.int (32 : Int32))]) C d6_16 rfl (by decide) rfl rfl ?_
  refine w_goto (pc' := 6) C d6_19 (by decide) (by decide) ?_
  refine w_iloadN (pc' := 7) C d6_6 rfl rfl ?_
  refine w_iload (pc' := 9) C d6_7 rfl rfl ?_
  refine w_icmp_ge (pcT := 22) (pcF := 12) C d6_9 (by decide) (by decide) rfl (fun q => absurd q (by decide)) (fun q9 => ?_)
  refine w_aloadN (pc' := 13) C d6_12 rfl rfl rfl ?_
  refine w_iloadN (pc' := 14) C d6_13 rfl rfl ?_
  refine w_lloadN (pc' := 15) C d6_14 rfl rfl ?_
  refine wA_lastore (pc' := 16) C d6_15 rfl g_a O_a (by decide) (Nat.le_of_ble_eq_true rfl) (fun h32 W32 A32 => ?_)
  have O_a : Ar Z h32 a .long [.long x, .long x, .long x, .long x, .long x, .long x, .long x, .long x, .long x, .long x, .long x, .long x, .long x, .long x, .long x, .long x, .long x, .long x, .long x, .long x, .long x, .long x, .long x, .long x, .long x, .long x, .long x, .long x, .long x, .long x, .long x, .long x] := A32
  have hz : n0 ≤ h32.size := by rw [W32.size]; exact hz
  have hk := hk.wr W32 (Or.inl (by simp))
  refine w_iincE (pc' := 19) (z := (32 : Int32)) (Ls' := #[.val (.ref a), .val (.long x), .second, .val (.int (32 : Int32)), .val (.int (32 : Int32))]) C d6_16 rfl (by decide) rfl rfl ?_
  refine w_goto (pc' := 6) C d6_19 (by decide) (by decide) ?_
  refine w_iloadN (pc' := 7) C d6_6 rfl rfl ?_
  refine w_iload (pc' := 9) C d6_7 rfl rfl ?_
  refine w_icmp_ge (pcT := 22) (pcF := 12) C d6_9 (by decide) (by decide) rfl (fun q9 => ?_) (fun q => absurd q (by decide))
  refine w_ret0 C rfl d6_22 (by decide) (by decide) ?_
  exact ⟨rfl, O_a, hk⟩
theorem d5_0 : decode prog_14_method_10_code 0 = .ok (.iconst 2, 1) := by decide +kernel
theorem d5_1 : decode prog_14_method_10_code 1 = .ok (.iload_n 0, 1) := by decide +kernel
theorem d5_2 : decode prog_14_method_10_code 2 = .ok (.imul, 1) := by decide +kernel
theorem d5_3 : decode prog_14_method_10_code 3 = .ok (.newarray .long, 2) := by decide +kernel
theorem d5_5 : decode prog_14_method_10_code 5 = .ok (.astore_n 1, 1) := by decide +kernel
theorem d5_6 : decode prog_14_method_10_code 6 = .ok (.aload_n 1, 1) := by decide +kernel
theorem d5_7 : decode prog_14_method_10_code 7 = .ok (.ldc2_w 45, 3) := by decide +kernel
theorem d5_10 : decode prog_14_method_10_code 10 = .ok (.invokestatic 71, 3) := by decide +kernel
theorem d5_13 : decode prog_14_method_10_code 13 = .ok (.aload_n 1, 1) := by decide +kernel
theorem d5_14 : decode prog_14_method_10_code 14 = .ok (.areturn, 1) := by decide +kernel
def rm_emptyTree : Room := { frames := 1, cells := 1, slots := 32, locals := 16 }
theorem pf_emptyTree : plainFor (⟨"tallygate/RequestQueue", "emptyTree", "(I)[J"⟩ : MethodName) = true := plainFor_of_name (by first | (simp [plainName, overriddenIn]; done) | decide +kernel)
set_option maxRecDepth 65536 in
set_option maxHeartbeats 40000000 in
theorem ct_emptyTree {l : Launch} {Z : State} {a0 : Array Value} (hw : ∀ d ∈ tables_1, d.before a0 Z = true) (h0 : Heap) (n0 : Nat)  (hz : n0 ≤ h0.size) :
    Ct l Z (⟨"tallygate/RequestQueue", "emptyTree", "(I)[J"⟩ : MethodName) prog_14_method_10_code 2 (Option.some (Jvm.ClassFile.FieldType.array Jvm.ClassFile.FieldType.long)) [] rm_emptyTree #[.int (16 : Int32)] h0 n0 (fun v h => ∃ r, v = some (.ref r) ∧ h0.size ≤ r ∧ Ar Z h r .long [.long (9223372036854775807 : Int64), .long (9223372036854775807 : Int64), .long (9223372036854775807 : Int64), .long (9223372036854775807 : Int64), .long (9223372036854775807 : Int64), .long (9223372036854775807 : Int64), .long (9223372036854775807 : Int64), .long (9223372036854775807 : Int64), .long (9223372036854775807 : Int64), .long (9223372036854775807 : Int64), .long (9223372036854775807 : Int64), .long (9223372036854775807 : Int64), .long (9223372036854775807 : Int64), .long (9223372036854775807 : Int64), .long (9223372036854775807 : Int64), .long (9223372036854775807 : Int64), .long (9223372036854775807 : Int64), .long (9223372036854775807 : Int64), .long (9223372036854775807 : Int64), .long (9223372036854775807 : Int64), .long (9223372036854775807 : Int64), .long (9223372036854775807 : Int64), .long (9223372036854775807 : Int64), .long (9223372036854775807 : Int64), .long (9223372036854775807 : Int64), .long (9223372036854775807 : Int64), .long (9223372036854775807 : Int64), .long (9223372036854775807 : Int64), .long (9223372036854775807 : Int64), .long (9223372036854775807 : Int64), .long (9223372036854775807 : Int64), .long (9223372036854775807 : Int64)] ∧ Keep h0 h []) := by
  refine Ct.of (Ls := #[.val (.int (16 : Int32)), .unset]) pf_emptyTree (fun m => by first | (simp [entryFrame, mkF, argsToLocals, Value.category, maxLocals]; done) | rfl) ?_
  intro p e s m below meth c C
  have hk : Keep h0 h0 [] := Keep.refl _ _
  refine w_iconst (pc' := 1) (x := (2 : Int32)) C d5_0 rfl rfl ?_
  refine w_iloadN (pc' := 2) C d5_1 rfl rfl ?_
  refine w_imul (pc' := 3) C d5_2 rfl ?_
  refine w_eqI (z := (32 : Int32)) (by decide) ?_
  refine wA_newP (pc' := 5) (cap := 32) (ce' := 1) (sl' := 32) C (tw hw 25 rfl) d5_3 rfl (by decide) (by decide) (by decide) rfl rfl (by decide) (by decide) (fun h1 a1 e1 E1 A1 => ?_)
  have g_a1 : n0 ≤ a1 := by rw [e1]; exact hz
  have fr_a1 : h0.size ≤ a1 := by rw [e1]; exact hk.1
  have hz : n0 ≤ h1.size := Nat.le_trans hz E1.1
  have hk := hk.ext E1
  have O_a1 : Ar Z h1 a1 .long [.long (0 : Int64), .long (0 : Int64), .long (0 : Int64), .long (0 : Int64), .long (0 : Int64), .long (0 : Int64), .long (0 : Int64), .long (0 : Int64), .long (0 : Int64), .long (0 : Int64), .long (0 : Int64), .long (0 : Int64), .long (0 : Int64), .long (0 : Int64), .long (0 : Int64), .long (0 : Int64), .long (0 : Int64), .long (0 : Int64), .long (0 : Int64), .long (0 : Int64), .long (0 : Int64), .long (0 : Int64), .long (0 : Int64), .long (0 : Int64), .long (0 : Int64), .long (0 : Int64), .long (0 : Int64), .long (0 : Int64), .long (0 : Int64), .long (0 : Int64), .long (0 : Int64), .long (0 : Int64)] := A1
  refine w_astoreN (pc' := 6) (Ls' := #[.val (.int (16 : Int32)), .val (.ref a1)]) C d5_5 rfl rfl rfl ?_
  refine w_aloadN (pc' := 7) C d5_6 rfl rfl rfl ?_
  refine w_ldc2J (pc' := 10) C (tw hw 26 rfl) d5_7 rfl ?_
  refine w_callS (pc' := 13) (argsL := [.ref a1, .long (9223372036854775807 : Int64)]) (st := []) (W := 0) (ce' := 1) (sl' := 32) C (tw hw 27 rfl) (tw hw 28 rfl) (tw hw 29 rfl) (tw hw 30 rfl) (by decide) d5_10 rfl rfl (by decide) (by decide) (Nat.le_of_eq rfl) rfl rfl (by decide) (by decide) rfl (lenOf pd_0 rfl) (ct_fillJ hw h1 n0 a1 (9223372036854775807 : Int64) hz O_a1 g_a1) (k0 (fun h2 q2 => ?_))
  obtain ⟨P_a1, K2⟩ := q2
  have hz : n0 ≤ h2.size := Nat.le_trans hz K2.1
  have hk := Keep.app hk K2 (fun x hx => Or.inl hx) (allS (Or.inr fr_a1) all0)
  have O_a1 := P_a1
  refine w_aloadN (pc' := 14) C d5_13 rfl rfl rfl ?_
  refine w_retA (t := (.array .long)) C rfl rfl rfl d5_14 (by decide) (by decide) ?_
  exact ⟨a1, rfl, fr_a1, O_a1, hk⟩
theorem d3_0 : decode prog_14_method_1_code 0 = .ok (.aload_n 0, 1) := by decide +kernel
theorem d3_1 : decode prog_14_method_1_code 1 = .ok (.invokespecial 3, 3) := by decide +kernel
theorem d3_4 : decode prog_14_method_1_code 4 = .ok (.aload_n 0, 1) := by decide +kernel
theorem d3_5 : decode prog_14_method_1_code 5 = .ok (.bipush 16, 2) := by decide +kernel
theorem d3_7 : decode prog_14_method_1_code 7 = .ok (.anewarray 11, 3) := by decide +kernel
theorem d3_10 : decode prog_14_method_1_code 10 = .ok (.putfield 13, 3) := by decide +kernel
theorem d3_13 : decode prog_14_method_1_code 13 = .ok (.aload_n 0, 1) := by decide +kernel
theorem d3_14 : decode prog_14_method_1_code 14 = .ok (.bipush 16, 2) := by decide +kernel
theorem d3_16 : decode prog_14_method_1_code 16 = .ok (.invokestatic 17, 3) := by decide +kernel
theorem d3_19 : decode prog_14_method_1_code 19 = .ok (.putfield 21, 3) := by decide +kernel
theorem d3_22 : decode prog_14_method_1_code 22 = .ok (.return_, 1) := by decide +kernel
def rm_initQ : Room := { frames := 2, cells := 2, slots := 48, locals := 30 }
theorem pf_initQ : plainFor (⟨"tallygate/RequestQueue", "<init>", "()V"⟩ : MethodName) = true := plainFor_of_name (by first | (simp [plainName, overriddenIn]; done) | decide +kernel)
set_option maxRecDepth 65536 in
set_option maxHeartbeats 40000000 in
theorem ct_initQ {l : Launch} {Z : State} {a0 : Array Value} (hw : ∀ d ∈ tables_1, d.before a0 Z = true) (h0 : Heap) (n0 : Nat) (q : Addr) (hz : n0 ≤ h0.size) (O_q : Obj Z h0 q "tallygate/RequestQueue" [("slots", "[Ltallygate/RequestQueue$Entry;", .null), ("least", "[J", .null), ("end", "I", .int (0 : Int32)), ("size", "I", .int (0 : Int32))]) (g_q : n0 ≤ q) :
    Ct l Z (⟨"tallygate/RequestQueue", "<init>", "()V"⟩ : MethodName) prog_14_method_1_code 1 (Option.none : Option Jvm.ClassFile.FieldType) [] rm_initQ #[.ref q] h0 n0 (fun v h => v = none ∧ ∃ sa la, h0.size ≤ sa ∧ h0.size ≤ la ∧ sa ≠ la ∧ Obj Z h q "tallygate/RequestQueue" [("slots", "[Ltallygate/RequestQueue$Entry;", .ref sa), ("least", "[J", .ref la), ("end", "I", .int (0 : Int32)), ("size", "I", .int (0 : Int32))] ∧ ArR Z h sa "tallygate/RequestQueue$Entry" (sl3 .null .null .null) ∧ Ar Z h la .long (tr3 EMP EMP EMP) ∧ Keep h0 h [q]) := by
  refine Ct.of (Ls := #[.val (.ref q)]) pf_initQ (fun m => by first | (simp [entryFrame, mkF, argsToLocals, Value.category, maxLocals]; done) | rfl) ?_
  intro p e s m below meth c C
  have hk : Keep h0 h0 [q] := Keep.refl _ _
  refine w_aloadN (pc' := 1) C d3_0 rfl rfl rfl ?_
  refine w_initO (pc' := 4) (W := 0) C (tw hw 15 rfl) (tw hw 16 rfl) (tw hw 17 rfl) d3_1 rfl rfl (by decide) (Nat.le_of_eq rfl) (by decide) ?_
  refine w_aloadN (pc' := 5) C d3_4 rfl rfl rfl ?_
  refine w_bipush (pc' := 7) (x := (16 : Int32)) C d3_5 rfl rfl ?_
  refine wA_newR (pc' := 10) (cap := 16) (ce' := 1) (sl' := 16) C (tw hw 18 rfl) (tw hw 19 rfl) d3_7 rfl (by decide) (by decide) (by decide) rfl rfl (by decide) (by decide) (fun h1 a1 e1 E1 A1 => ?_)
  have g_a1 : n0 ≤ a1 := by rw [e1]; exact hz
  have fr_a1 : h0.size ≤ a1 := by rw [e1]; exact hk.1
  have ne_q_a1 : q ≠ a1 := by rw [e1]; exact Nat.ne_of_lt O_q.lt
  have O_q := O_q.ext E1
  have hz : n0 ≤ h1.size := Nat.le_trans hz E1.1
  have hk := hk.ext E1
  have O_a1 : ArR Z h1 a1 "tallygate/RequestQueue$Entry" [.null, .null, .null, .null, .null, .null, .null, .null, .null, .null, .null, .null, .null, .null, .null, .null] := A1
  refine w_putF (pc' := 13) (ty := (.array (.object "tallygate/RequestQueue$Entry"))) C (tw hw 20 rfl) (Or.inl (tw hw 21 rfl)) (tw hw 10 rfl) (by decide) rfl rfl d3_10 rfl g_q (O_q.fld 0 rfl) O_q.1 (fun h2 W2 => ?_)
  have O_q : Obj Z h2 q "tallygate/RequestQueue" [("slots", "[Ltallygate/RequestQueue$Entry;", .ref a1), ("least", "[J", .null), ("end", "I", .int (0 : Int32)), ("size", "I", .int (0 : Int32))] := O_q.put 0 rfl W2 rfl
  have O_a1 := O_a1.other W2 (Ne.symm ne_q_a1)
  have hz : n0 ≤ h2.size := by rw [W2.size]; exact hz
  have hk := hk.wr W2 (Or.inl (by simp))
  refine w_aloadN (pc' := 14) C d3_13 rfl rfl rfl ?_
  refine w_bipush (pc' := 16) (x := (16 : Int32)) C d3_14 rfl rfl ?_
  refine w_callS (pc' := 19) (argsL := [.int (16 : Int32)]) (st := [.ref q]) (W := 1) (ce' := 2) (sl' := 48) C (tw hw 22 rfl) (tw hw 23 rfl) (tw hw 11 rfl) (tw hw 24 rfl) (by decide) d3_16 rfl rfl (by decide) (by decide) (Nat.le_of_eq rfl) rfl rfl (by decide) (by decide) rfl (lenOf pd_1 rfl) (ct_emptyTree hw h2 n0 hz) (kx (fun c3 h3 q3 => ?_))
  obtain ⟨fb_c3, P_c3, K3⟩ := q3
  have g_c3 : n0 ≤ c3 := Nat.le_trans hz fb_c3
  have fr_c3 : h0.size ≤ c3 := Nat.le_trans hk.1 fb_c3
  have ne_q_c3 : q ≠ c3 := Nat.ne_of_lt (Nat.lt_of_lt_of_le O_q.lt fb_c3)
  have ne_a1_c3 : a1 ≠ c3 := Nat.ne_of_lt (Nat.lt_of_lt_of_le O_a1.lt fb_c3)
  have O_q := O_q.keep K3 nin0
  have O_a1 := O_a1.keep K3 nin0
  have hz : n0 ≤ h3.size := Nat.le_trans hz K3.1
  have hk := Keep.app hk K3 (fun x hx => Or.inl hx) all0
  have O_c3 := P_c3
  refine w_putF (pc' := 22) (ty := (.array .long)) C (tw hw 31 rfl) (Or.inl (tw hw 32 rfl)) (tw hw 10 rfl) (by decide) rfl rfl d3_19 rfl g_q (O_q.fld 1 rfl) O_q.1 (fun h4 W4 => ?_)
  have O_q : Obj Z h4 q "tallygate/RequestQueue" [("slots", "[Ltallygate/RequestQueue$Entry;", .ref a1), ("least", "[J", .ref c3), ("end", "I", .int (0 : Int32)), ("size", "I", .int (0 : Int32))] := O_q.put 1 rfl W4 rfl
  have O_a1 := O_a1.other W4 (Ne.symm ne_q_a1)
  have O_c3 := O_c3.other W4 (Ne.symm ne_q_c3)
  have hz : n0 ≤ h4.size := by rw [W4.size]; exact hz
  have hk := hk.wr W4 (Or.inl (by simp))
  refine w_ret0 C rfl d3_22 (by decide) (by decide) ?_
  exact ⟨rfl, a1, c3, fr_a1, fr_c3, ne_a1_c3, O_q, O_a1, (by rw [← tr_emp]; exact O_c3), hk⟩
theorem d7_0 : decode prog_15_method_1_code 0 = .ok (.aload_n 0, 1) := by decide +kernel
theorem d7_1 : decode prog_15_method_1_code 1 = .ok (.invokespecial 3, 3) := by decide +kernel
theorem d7_4 : decode prog_15_method_1_code 4 = .ok (.aload_n 0, 1) := by decide +kernel
theorem d7_5 : decode prog_15_method_1_code 5 = .ok (.iconst (-1), 1) := by decide +kernel
theorem d7_6 : decode prog_15_method_1_code 6 = .ok (.putfield 9, 3) := by decide +kernel
theorem d7_9 : decode prog_15_method_1_code 9 = .ok (.aload_n 0, 1) := by decide +kernel
theorem d7_10 : decode prog_15_method_1_code 10 = .ok (.iload_n 1, 1) := by decide +kernel
theorem d7_11 : decode prog_15_method_1_code 11 = .ok (.putfield 15, 3) := by decide +kernel
theorem d7_14 : decode prog_15_method_1_code 14 = .ok (.return_, 1) := by decide +kernel
def rm_initE : Room := { frames := 1, cells := 0, slots := 0, locals := 12 }
theorem pf_initE : plainFor (⟨"tallygate/RequestQueue$Entry", "<init>", "(I)V"⟩ : MethodName) = true := plainFor_of_name (by first | (simp [plainName, overriddenIn]; done) | decide +kernel)
set_option maxRecDepth 65536 in
set_option maxHeartbeats 40000000 in
theorem ct_initE {l : Launch} {Z : State} {a0 : Array Value} (hw : ∀ d ∈ tables_1, d.before a0 Z = true) (h0 : Heap) (n0 : Nat) (ee : Addr) (x : Int32) (hz : n0 ≤ h0.size) (O_ee : Obj Z h0 ee "tallygate/RequestQueue$Entry" [("slot", "I", .int (0 : Int32)), ("permits", "I", .int (0 : Int32))]) (g_ee : n0 ≤ ee) :
    Ct l Z (⟨"tallygate/RequestQueue$Entry", "<init>", "(I)V"⟩ : MethodName) prog_15_method_1_code 2 (Option.none : Option Jvm.ClassFile.FieldType) [] rm_initE #[.ref ee, .int x] h0 n0 (fun v h => v = none ∧ Obj Z h ee "tallygate/RequestQueue$Entry" [("slot", "I", .int (-1 : Int32)), ("permits", "I", .int x)] ∧ Keep h0 h [ee]) := by
  refine Ct.of (Ls := #[.val (.ref ee), .val (.int x)]) pf_initE (fun m => by first | (simp [entryFrame, mkF, argsToLocals, Value.category, maxLocals]; done) | rfl) ?_
  intro p e s m below meth c C
  have hk : Keep h0 h0 [ee] := Keep.refl _ _
  refine w_aloadN (pc' := 1) C d7_0 rfl rfl rfl ?_
  refine w_initO (pc' := 4) (W := 0) C (tw hw 39 rfl) (tw hw 16 rfl) (tw hw 17 rfl) d7_1 rfl rfl (by decide) (Nat.le_of_eq rfl) (by decide) ?_
  refine w_aloadN (pc' := 5) C d7_4 rfl rfl rfl ?_
  refine w_iconst (pc' := 6) (x := (-1 : Int32)) C d7_5 rfl rfl ?_
  refine w_putF (pc' := 9) (ty := .int) C (tw hw 40 rfl) (Or.inl (tw hw 41 rfl)) (tw hw 34 rfl) (by decide) rfl rfl d7_6 rfl g_ee (O_ee.fld 0 rfl) O_ee.1 (fun h1 W1 => ?_)
  have O_ee : Obj Z h1 ee "tallygate/RequestQueue$Entry" [("slot", "I", .int (-1 : Int32)), ("permits", "I", .int (0 : Int32))] := O_ee.put 0 rfl W1 rfl
  have hz : n0 ≤ h1.size := by rw [W1.size]; exact hz
  have hk := hk.wr W1 (Or.inl (by simp))
  refine w_aloadN (pc' := 10) C d7_9 rfl rfl rfl ?_
  refine w_iloadN (pc' := 11) C d7_10 rfl rfl ?_
  refine w_putF (pc' := 14) (ty := .int) C (tw hw 42 rfl) (Or.inr ⟨(tw hw 43 rfl), rfl, rfl⟩) (tw hw 34 rfl) (by decide) rfl rfl d7_11 rfl g_ee (O_ee.fld 1 rfl) O_ee.1 (fun h2 W2 => ?_)
  have O_ee : Obj Z h2 ee "tallygate/RequestQueue$Entry" [("slot", "I", .int (-1 : Int32)), ("permits", "I", .int x)] := O_ee.put 1 rfl W2 rfl
  have hz : n0 ≤ h2.size := by rw [W2.size]; exact hz
  have hk := hk.wr W2 (Or.inl (by simp))
  refine w_ret0 C rfl d7_14 (by decide) (by decide) ?_
  exact ⟨rfl, O_ee, hk⟩
theorem d9_0 : decode prog_14_method_8_code 0 = .ok (.aload_n 0, 1) := by decide +kernel
theorem d9_1 : decode prog_14_method_8_code 1 = .ok (.getfield 13, 3) := by decide +kernel
theorem d9_4 : decode prog_14_method_8_code 4 = .ok (.arraylength, 1) := by decide +kernel
theorem d9_5 : decode prog_14_method_8_code 5 = .ok (.iload_n 1, 1) := by decide +kernel
theorem d9_6 : decode prog_14_method_8_code 6 = .ok (.iadd, 1) := by decide +kernel
theorem d9_7 : decode prog_14_method_8_code 7 = .ok (.istore 4, 2) := by decide +kernel
theorem d9_9 : decode prog_14_method_8_code 9 = .ok (.aload_n 0, 1) := by decide +kernel
theorem d9_10 : decode prog_14_method_8_code 10 = .ok (.getfield 21, 3) := by decide +kernel
theorem d9_13 : decode prog_14_method_8_code 13 = .ok (.iload 4, 2) := by decide +kernel
theorem d9_15 : decode prog_14_method_8_code 15 = .ok (.lload_n 2, 1) := by decide +kernel
theorem d9_16 : decode prog_14_method_8_code 16 = .ok (.lastore, 1) := by decide +kernel
theorem d9_17 : decode prog_14_method_8_code 17 = .ok (.iload 4, 2) := by decide +kernel
theorem d9_19 : decode prog_14_method_8_code 19 = .ok (.iconst 1, 1) := by decide +kernel
theorem d9_20 : decode prog_14_method_8_code 20 = .ok (.if_icmp .le 60, 3) := by decide +kernel
theorem d9_23 : decode prog_14_method_8_code 23 = .ok (.iload 4, 2) := by decide +kernel
theorem d9_25 : decode prog_14_method_8_code 25 = .ok (.iconst 2, 1) := by decide +kernel
theorem d9_26 : decode prog_14_method_8_code 26 = .ok (.idiv, 1) := by decide +kernel
theorem d9_27 : decode prog_14_method_8_code 27 = .ok (.istore 4, 2) := by decide +kernel
theorem d9_29 : decode prog_14_method_8_code 29 = .ok (.aload_n 0, 1) := by decide +kernel
theorem d9_30 : decode prog_14_method_8_code 30 = .ok (.getfield 21, 3) := by decide +kernel
theorem d9_33 : decode prog_14_method_8_code 33 = .ok (.iconst 2, 1) := by decide +kernel
theorem d9_34 : decode prog_14_method_8_code 34 = .ok (.iload 4, 2) := by decide +kernel
theorem d9_36 : decode prog_14_method_8_code 36 = .ok (.imul, 1) := by decide +kernel
theorem d9_37 : decode prog_14_method_8_code 37 = .ok (.laload, 1) := by decide +kernel
theorem d9_38 : decode prog_14_method_8_code 38 = .ok (.aload_n 0, 1) := by decide +kernel
theorem d9_39 : decode prog_14_method_8_code 39 = .ok (.getfield 21, 3) := by decide +kernel
theorem d9_42 : decode prog_14_method_8_code 42 = .ok (.iconst 2, 1) := by decide +kernel
theorem d9_43 : decode prog_14_method_8_code 43 = .ok (.iload 4, 2) := by decide +kernel
theorem d9_45 : decode prog_14_method_8_code 45 = .ok (.imul, 1) := by decide +kernel
theorem d9_46 : decode prog_14_method_8_code 46 = .ok (.iconst 1, 1) := by decide +kernel
theorem d9_47 : decode prog_14_method_8_code 47 = .ok (.iadd, 1) := by decide +kernel
theorem d9_48 : decode prog_14_method_8_code 48 = .ok (.laload, 1) := by decide +kernel
theorem d9_49 : decode prog_14_method_8_code 49 = .ok (.invokestatic 57, 3) := by decide +kernel
theorem d9_52 : decode prog_14_method_8_code 52 = .ok (.lstore 5, 2) := by decide +kernel
theorem d9_54 : decode prog_14_method_8_code 54 = .ok (.aload_n 0, 1) := by decide +kernel
theorem d9_55 : decode prog_14_method_8_code 55 = .ok (.getfield 21, 3) := by decide +kernel
theorem d9_58 : decode prog_14_method_8_code 58 = .ok (.iload 4, 2) := by decide +kernel
theorem d9_60 : decode prog_14_method_8_code 60 = .ok (.laload, 1) := by decide +kernel
theorem d9_61 : decode prog_14_method_8_code 61 = .ok (.lload 5, 2) := by decide +kernel
theorem d9_63 : decode prog_14_method_8_code 63 = .ok (.lcmp, 1) := by decide +kernel
theorem d9_64 : decode prog_14_method_8_code 64 = .ok (.ifCond .ne 4, 3) := by decide +kernel
theorem d9_67 : decode prog_14_method_8_code 67 = .ok (.return_, 1) := by decide +kernel
theorem d9_68 : decode prog_14_method_8_code 68 = .ok (.aload_n 0, 1) := by decide +kernel
theorem d9_69 : decode prog_14_method_8_code 69 = .ok (.getfield 21, 3) := by decide +kernel
theorem d9_72 : decode prog_14_method_8_code 72 = .ok (.iload 4, 2) := by decide +kernel
theorem d9_74 : decode prog_14_method_8_code 74 = .ok (.lload 5, 2) := by decide +kernel
theorem d9_76 : decode prog_14_method_8_code 76 = .ok (.lastore, 1) := by decide +kernel
theorem d9_77 : decode prog_14_method_8_code 77 = .ok (.goto (-60), 3) := by decide +kernel
theorem d9_80 : decode prog_14_method_8_code 80 = .ok (.return_, 1) := by decide +kernel
def rm_setLeaf0 : Room := { frames := 1, cells := 0, slots := 0, locals := 15 }
theorem pf_setLeaf0 : plainFor (⟨"tallygate/RequestQueue", "setLeaf", "(IJ)V"⟩ : MethodName) = true := plainFor_of_name (by first | (simp [plainName, overriddenIn]; done) | decide +kernel)
set_option maxRecDepth 65536 in
set_option maxHeartbeats 40000000 in
theorem ct_setLeaf0 {l : Launch} {Z : State} {a0 : Array Value} (hw : ∀ d ∈ tables_1, d.before a0 Z = true) (h0 : Heap) (n0 : Nat) (q : Addr) (x : Int64) (sa : Addr) (la : Addr) (en : Int32) (sz : Int32) (sv : List Value) (ta : Int64) (tb : Int64) (tc : Int64) (hz : n0 ≤ h0.size) (hsv : sv.length = 16) (O_q : Obj Z h0 q "tallygate/RequestQueue" [("slots", "[Ltallygate/RequestQueue$Entry;", .ref sa), ("least", "[J", .ref la), ("end", "I", .int en), ("size", "I", .int sz)]) (O_sa : ArR Z h0 sa "tallygate/RequestQueue$Entry" sv) (O_la : Ar Z h0 la .long (tr3 ta tb tc)) (g_la : n0 ≤ la) (ne_q_la : q ≠ la) (ne_sa_la : sa ≠ la) :
    Ct l Z (⟨"tallygate/RequestQueue", "setLeaf", "(IJ)V"⟩ : MethodName) prog_14_method_8_code 7 (Option.none : Option Jvm.ClassFile.FieldType) [] rm_setLeaf0 #[.ref q, .int (0 : Int32), .long x] h0 n0 (fun v h => v = none ∧ Ar Z h la .long (tr3 x tb tc) ∧ Keep h0 h [la]) := by
  refine Ct.of (Ls := #[.val (.ref q), .val (.int (0 : Int32)), .val (.long x), .second, .unset, .unset, .unset]) pf_setLeaf0 (fun m => by first | (simp [entryFrame, mkF, argsToLocals, Value.category, maxLocals]; done) | rfl) ?_
  intro p e s m below meth c C
  have hk : Keep h0 h0 [la] := Keep.refl _ _
  have O_la : Ar Z h0 la .long [.long EMP, .long (minJ (minJ (minJ (minJ ta tb) (minJ tc EMP)) EMP) EMP), .long (minJ (minJ (minJ ta tb) (minJ tc EMP)) EMP), .long EMP, .long (minJ (minJ ta tb) (minJ tc EMP)), .long EMP, .long EMP, .long EMP, .long (minJ ta tb), .long (minJ tc EMP), .long EMP, .long EMP, .long EMP, .long EMP, .long EMP, .long EMP, .long ta, .long tb, .long tc, .long EMP, .long EMP, .long EMP, .long EMP, .long EMP, .long EMP, .long EMP, .long EMP, .long EMP, .long EMP, .long EMP, .long EMP, .long EMP] := O_la
  refine w_aloadN (pc' := 1) C d9_0 rfl rfl rfl ?_
  refine w_getF (pc' := 4) C (tw hw 20 rfl) d9_1 rfl (O_q.fld 0 rfl) ?_
  refine wA_alenR (pc' := 5) (n := (16 : Int32)) C d9_4 rfl O_sa (by rw [hsv]; rfl) ?_
  refine w_iloadN (pc' := 6) C d9_5 rfl rfl ?_
  refine w_iadd (pc' := 7) C d9_6 rfl ?_
  refine w_eqI (z := (16 : Int32)) (by decide) ?_
  refine w_istore (pc' := 9) (Ls' := #[.val (.ref q), .val (.int (0 : Int32)), .val (.long x), .second, .val (.int (16 : Int32)), .unset, .unset]) C d9_7 rfl rfl ?_
  refine w_aloadN (pc' := 10) C d9_9 rfl rfl rfl ?_
  refine w_getF (pc' := 13) C (tw hw 31 rfl) d9_10 rfl (O_q.fld 1 rfl) ?_
  refine w_iload (pc' := 15) C d9_13 rfl rfl ?_
  refine w_lloadN (pc' := 16) C d9_15 rfl rfl ?_
  refine wA_lastore (pc' := 17) C d9_16 rfl g_la O_la (by decide) (Nat.le_of_ble_eq_true rfl) (fun h1 W1 A1 => ?_)
  have O_la : Ar Z h1 la .long [.long EMP, .long (minJ (minJ (minJ (minJ ta tb) (minJ tc EMP)) EMP) EMP), .long (minJ (minJ (minJ ta tb) (minJ tc EMP)) EMP), .long EMP, .long (minJ (minJ ta tb) (minJ tc EMP)), .long EMP, .long EMP, .long EMP, .long (minJ ta tb), .long (minJ tc EMP), .long EMP, .long EMP, .long EMP, .long EMP, .long EMP, .long EMP, .long x, .long tb, .long tc, .long EMP, .long EMP, .long EMP, .long EMP, .long EMP, .long EMP, .long EMP, .long EMP, .long EMP, .long EMP, .long EMP, .long EMP, .long EMP] := A1
  have O_q := O_q.other W1 ne_q_la
  have O_sa := O_sa.other W1 ne_sa_la
  have hz : n0 ≤ h1.size := by rw [W1.size]; exact hz
  have hk := hk.wr W1 (Or.inl (by simp))
  refine w_iload (pc' := 19) C d9_17 rfl rfl ?_
  refine w_iconst (pc' := 20) (x := (1 : Int32)) C d9_19 rfl rfl ?_
  refine w_icmp_le (pcT := 80) (pcF := 23) C d9_20 (by decide) (by decide) rfl (fun q => absurd q (by decide)) (fun q20 => ?_)
  refine w_iload (pc' := 25) C d9_23 rfl rfl ?_
  refine w_iconst (pc' := 26) (x := (2 : Int32)) C d9_25 rfl rfl ?_
  refine w_idiv (pc' := 27) C d9_26 (by decide) rfl ?_
  refine w_eqI (z := (8 : Int32)) (by decide) ?_
  refine w_istore (pc' := 29) (Ls' := #[.val (.ref q), .val (.int (0 : Int32)), .val (.long x), .second, .val (.int (8 : Int32)), .unset, .unset]) C d9_27 rfl rfl ?_
  refine w_aloadN (pc' := 30) C d9_29 rfl rfl rfl ?_
  refine w_getF (pc' := 33) C (tw hw 31 rfl) d9_30 rfl (O_q.fld 1 rfl) ?_
  refine w_iconst (pc' := 34) (x := (2 : Int32)) C d9_33 rfl rfl ?_
  refine w_iload (pc' := 36) C d9_34 rfl rfl ?_
  refine w_imul (pc' := 37) C d9_36 rfl ?_
  refine w_eqI (z := (16 : Int32)) (by decide) ?_
  refine wA_laload (pc' := 38) (v := .long x) C d9_37 rfl O_la (by decide) rfl ?_
  refine w_aloadN (pc' := 39) C d9_38 rfl rfl rfl ?_
  refine w_getF (pc' := 42) C (tw hw 31 rfl) d9_39 rfl (O_q.fld 1 rfl) ?_
  refine w_iconst (pc' := 43) (x := (2 : Int32)) C d9_42 rfl rfl ?_
  refine w_iload (pc' := 45) C d9_43 rfl rfl ?_
  refine w_imul (pc' := 46) C d9_45 rfl ?_
  refine w_eqI (z := (16 : Int32)) (by decide) ?_
  refine w_iconst (pc' := 47) (x := (1 : Int32)) C d9_46 rfl rfl ?_
  refine w_iadd (pc' := 48) C d9_47 rfl ?_
  refine w_eqI (z := (17 : Int32)) (by decide) ?_
  refine wA_laload (pc' := 49) (v := .long tb) C d9_48 rfl O_la (by decide) rfl ?_
  refine w_callS (pc' := 52) (argsL := [.long x, .long tb]) (st := []) (W := 0) (ce' := 0) (sl' := 0) C (tw hw 58 rfl) (tw hw 59 rfl) (tw hw 7 rfl) (tw hw 60 rfl) (by decide) d9_49 rfl rfl (by decide) (by decide) (Nat.le_of_eq rfl) rfl rfl (by decide) (by decide) rfl (lenOf pd_2 rfl) (ct_minJ hw h1 n0 x tb) (kp ?_)
  refine w_lstore (pc' := 54) (Ls' := #[.val (.ref q), .val (.int (0 : Int32)), .val (.long x), .second, .val (.int (8 : Int32)), .val (.long (minJ x tb)), .second]) C d9_52 rfl rfl ?_
  refine w_aloadN (pc' := 55) C d9_54 rfl rfl rfl ?_
  refine w_getF (pc' := 58) C (tw hw 31 rfl) d9_55 rfl (O_q.fld 1 rfl) ?_
  refine w_iload (pc' := 60) C d9_58 rfl rfl ?_
  refine wA_laload (pc' := 61) (v := .long (minJ ta tb)) C d9_60 rfl O_la (by decide) rfl ?_
  refine w_lload (pc' := 63) C d9_61 rfl rfl ?_
  refine w_lcmp (pc' := 64) C d9_63 rfl ?_
  refine w_if_ne (pcT := 68) (pcF := 67) C d9_64 (by decide) (by decide) rfl (fun q64 => ?_) (fun q64 => ?_)
  · skip
    refine w_aloadN (pc' := 69) C d9_68 rfl rfl rfl ?_
    refine w_getF (pc' := 72) C (tw hw 31 rfl) d9_69 rfl (O_q.fld 1 rfl) ?_
    refine w_iload (pc' := 74) C d9_72 rfl rfl ?_
    refine w_lload (pc' := 76) C d9_74 rfl rfl ?_
    refine wA_lastore (pc' := 77) C d9_76 rfl g_la O_la (by decide) (Nat.le_of_ble_eq_true rfl) (fun h2 W2 A2 => ?_)
    have O_la : Ar Z h2 la .long [.long EMP, .long (minJ (minJ (minJ (minJ ta tb) (minJ tc EMP)) EMP) EMP), .long (minJ (minJ (minJ ta tb) (minJ tc EMP)) EMP), .long EMP, .long (minJ (minJ ta tb) (minJ tc EMP)), .long EMP, .long EMP, .long EMP, .long (minJ x tb), .long (minJ tc EMP), .long EMP, .long EMP, .long EMP, .long EMP, .long EMP, .long EMP, .long x, .long tb, .long tc, .long EMP, .long EMP, .long EMP, .long EMP, .long EMP, .long EMP, .long EMP, .long EMP, .long EMP, .long EMP, .long EMP, .long EMP, .long EMP] := A2
    have O_q := O_q.other W2 ne_q_la
    have O_sa := O_sa.other W2 ne_sa_la
    have hz : n0 ≤ h2.size := by rw [W2.size]; exact hz
    have hk := hk.wr W2 (Or.inl (by simp))
    refine w_goto (pc' := 17) C d9_77 (by decide) (by decide) ?_
    refine w_iload (pc' := 19) C d9_17 rfl rfl ?_
    refine w_iconst (pc' := 20) (x := (1 : Int32)) C d9_19 rfl rfl ?_
    refine w_icmp_le (pcT := 80) (pcF := 23) C d9_20 (by decide) (by decide) rfl (fun q => absurd q (by decide)) (fun q20 => ?_)
    refine w_iload (pc' := 25) C d9_23 rfl rfl ?_
    refine w_iconst (pc' := 26) (x := (2 : Int32)) C d9_25 rfl rfl ?_
    refine w_idiv (pc' := 27) C d9_26 (by decide) rfl ?_
    refine w_eqI (z := (4 : Int32)) (by decide) ?_
    refine w_istore (pc' := 29) (Ls' := #[.val (.ref q), .val (.int (0 : Int32)), .val (.long x), .second, .val (.int (4 : Int32)), .val (.long (minJ x tb)), .second]) C d9_27 rfl rfl ?_
    refine w_aloadN (pc' := 30) C d9_29 rfl rfl rfl ?_
    refine w_getF (pc' := 33) C (tw hw 31 rfl) d9_30 rfl (O_q.fld 1 rfl) ?_
    refine w_iconst (pc' := 34) (x := (2 : Int32)) C d9_33 rfl rfl ?_
    refine w_iload (pc' := 36) C d9_34 rfl rfl ?_
    refine w_imul (pc' := 37) C d9_36 rfl ?_
    refine w_eqI (z := (8 : Int32)) (by decide) ?_
    refine wA_laload (pc' := 38) (v := .long (minJ x tb)) C d9_37 rfl O_la (by decide) rfl ?_
    refine w_aloadN (pc' := 39) C d9_38 rfl rfl rfl ?_
    refine w_getF (pc' := 42) C (tw hw 31 rfl) d9_39 rfl (O_q.fld 1 rfl) ?_
    refine w_iconst (pc' := 43) (x := (2 : Int32)) C d9_42 rfl rfl ?_
    refine w_iload (pc' := 45) C d9_43 rfl rfl ?_
    refine w_imul (pc' := 46) C d9_45 rfl ?_
    refine w_eqI (z := (8 : Int32)) (by decide) ?_
    refine w_iconst (pc' := 47) (x := (1 : Int32)) C d9_46 rfl rfl ?_
    refine w_iadd (pc' := 48) C d9_47 rfl ?_
    refine w_eqI (z := (9 : Int32)) (by decide) ?_
    refine wA_laload (pc' := 49) (v := .long (minJ tc EMP)) C d9_48 rfl O_la (by decide) rfl ?_
    refine w_callS (pc' := 52) (argsL := [.long (minJ x tb), .long (minJ tc EMP)]) (st := []) (W := 0) (ce' := 0) (sl' := 0) C (tw hw 58 rfl) (tw hw 59 rfl) (tw hw 7 rfl) (tw hw 60 rfl) (by decide) d9_49 rfl rfl (by decide) (by decide) (Nat.le_of_eq rfl) rfl rfl (by decide) (by decide) rfl (lenOf pd_2 rfl) (ct_minJ hw h2 n0 (minJ x tb) (minJ tc EMP)) (kp ?_)
    refine w_lstore (pc' := 54) (Ls' := #[.val (.ref q), .val (.int (0 : Int32)), .val (.long x), .second, .val (.int (4 : Int32)), .val (.long (minJ (minJ x tb) (minJ tc EMP))), .second]) C d9_52 rfl rfl ?_
    refine w_aloadN (pc' := 55) C d9_54 rfl rfl rfl ?_
    refine w_getF (pc' := 58) C (tw hw 31 rfl) d9_55 rfl (O_q.fld 1 rfl) ?_
    refine w_iload (pc' := 60) C d9_58 rfl rfl ?_
    refine wA_laload (pc' := 61) (v := .long (minJ (minJ ta tb) (minJ tc EMP))) C d9_60 rfl O_la (by decide) rfl ?_
    refine w_lload (pc' := 63) C d9_61 rfl rfl ?_
    refine w_lcmp (pc' := 64) C d9_63 rfl ?_
    refine w_if_ne (pcT := 68) (pcF := 67) C d9_64 (by decide) (by decide) rfl (fun q64 => ?_) (fun q64 => ?_)
    · skip
      refine w_aloadN (pc' := 69) C d9_68 rfl rfl rfl ?_
      refine w_getF (pc' := 72) C (tw hw 31 rfl) d9_69 rfl (O_q.fld 1 rfl) ?_
      refine w_iload (pc' := 74) C d9_72 rfl rfl ?_
      refine w_lload (pc' := 76) C d9_74 rfl rfl ?_
      refine wA_lastore (pc' := 77) C d9_76 rfl g_la O_la (by decide) (Nat.le_of_ble_eq_true rfl) (fun h3 W3 A3 => ?_)
      have O_la : Ar Z h3 la .long [.long EMP, .long (minJ (minJ (minJ (minJ ta tb) (minJ tc EMP)) EMP) EMP), .long (minJ (minJ (minJ ta tb) (minJ tc EMP)) EMP), .long EMP, .long (minJ (minJ x tb) (minJ tc EMP)), .long EMP, .long EMP, .long EMP, .long (minJ x tb), .long (minJ tc EMP), .long EMP, .long EMP, .long EMP, .long EMP, .long EMP, .long EMP, .long x, .long tb, .long tc, .long EMP, .long EMP, .long EMP, .long EMP, .long EMP, .long EMP, .long EMP, .long EMP, .long EMP, .long EMP, .long EMP, .long EMP, .long EMP] := A3
      have O_q := O_q.other W3 ne_q_la
      have O_sa := O_sa.other W3 ne_sa_la
      have hz : n0 ≤ h3.size := by rw [W3.size]; exact hz
      have hk := hk.wr W3 (Or.inl (by simp))
      refine w_goto (pc' := 17) C d9_77 (by decide) (by decide) ?_
      refine w_iload (pc' := 19) C d9_17 rfl rfl ?_
      refine w_iconst (pc' := 20) (x := (1 : Int32)) C d9_19 rfl rfl ?_
      refine w_icmp_le (pcT := 80) (pcF := 23) C d9_20 (by decide) (by decide) rfl (fun q => absurd q (by decide)) (fun q20 => ?_)
      refine w_iload (pc' := 25) C d9_23 rfl rfl ?_
      refine w_iconst (pc' := 26) (x := (2 : Int32)) C d9_25 rfl rfl ?_
      refine w_idiv (pc' := 27) C d9_26 (by decide) rfl ?_
      refine w_eqI (z := (2 : Int32)) (by decide) ?_
      refine w_istore (pc' := 29) (Ls' := #[.val (.ref q), .val (.int (0 : Int32)), .val (.long x), .second, .val (.int (2 : Int32)), .val (.long (minJ (minJ x tb) (minJ tc EMP))), .second]) C d9_27 rfl rfl ?_
      refine w_aloadN (pc' := 30) C d9_29 rfl rfl rfl ?_
      refine w_getF (pc' := 33) C (tw hw 31 rfl) d9_30 rfl (O_q.fld 1 rfl) ?_
      refine w_iconst (pc' := 34) (x := (2 : Int32)) C d9_33 rfl rfl ?_
      refine w_iload (pc' := 36) C d9_34 rfl rfl ?_
      refine w_imul (pc' := 37) C d9_36 rfl ?_
      refine w_eqI (z := (4 : Int32)) (by decide) ?_
      refine wA_laload (pc' := 38) (v := .long (minJ (minJ x tb) (minJ tc EMP))) C d9_37 rfl O_la (by decide) rfl ?_
      refine w_aloadN (pc' := 39) C d9_38 rfl rfl rfl ?_
      refine w_getF (pc' := 42) C (tw hw 31 rfl) d9_39 rfl (O_q.fld 1 rfl) ?_
      refine w_iconst (pc' := 43) (x := (2 : Int32)) C d9_42 rfl rfl ?_
      refine w_iload (pc' := 45) C d9_43 rfl rfl ?_
      refine w_imul (pc' := 46) C d9_45 rfl ?_
      refine w_eqI (z := (4 : Int32)) (by decide) ?_
      refine w_iconst (pc' := 47) (x := (1 : Int32)) C d9_46 rfl rfl ?_
      refine w_iadd (pc' := 48) C d9_47 rfl ?_
      refine w_eqI (z := (5 : Int32)) (by decide) ?_
      refine wA_laload (pc' := 49) (v := .long EMP) C d9_48 rfl O_la (by decide) rfl ?_
      refine w_callS (pc' := 52) (argsL := [.long (minJ (minJ x tb) (minJ tc EMP)), .long EMP]) (st := []) (W := 0) (ce' := 0) (sl' := 0) C (tw hw 58 rfl) (tw hw 59 rfl) (tw hw 7 rfl) (tw hw 60 rfl) (by decide) d9_49 rfl rfl (by decide) (by decide) (Nat.le_of_eq rfl) rfl rfl (by decide) (by decide) rfl (lenOf pd_2 rfl) (ct_minJ hw h3 n0 (minJ (minJ x tb) (minJ tc EMP)) EMP) (kp ?_)
      refine w_lstore (pc' := 54) (Ls' := #[.val (.ref q), .val (.int (0 : Int32)), .val (.long x), .second, .val (.int (2 : Int32)), .val (.long (minJ (minJ (minJ x tb) (minJ tc EMP)) EMP)), .second]) C d9_52 rfl rfl ?_
      refine w_aloadN (pc' := 55) C d9_54 rfl rfl rfl ?_
      refine w_getF (pc' := 58) C (tw hw 31 rfl) d9_55 rfl (O_q.fld 1 rfl) ?_
      refine w_iload (pc' := 60) C d9_58 rfl rfl ?_
      refine wA_laload (pc' := 61) (v := .long (minJ (minJ (minJ ta tb) (minJ tc EMP)) EMP)) C d9_60 rfl O_la (by decide) rfl ?_
      refine w_lload (pc' := 63) C d9_61 rfl rfl ?_
      refine w_lcmp (pc' := 64) C d9_63 rfl ?_
      refine w_if_ne (pcT := 68) (pcF := 67) C d9_64 (by decide) (by decide) rfl (fun q64 => ?_) (fun q64 => ?_)
      · skip
        refine w_aloadN (pc' := 69) C d9_68 rfl rfl rfl ?_
        refine w_getF (pc' := 72) C (tw hw 31 rfl) d9_69 rfl (O_q.fld 1 rfl) ?_
        refine w_iload (pc' := 74) C d9_72 rfl rfl ?_
        refine w_lload (pc' := 76) C d9_74 rfl rfl ?_
        refine wA_lastore (pc' := 77) C d9_76 rfl g_la O_la (by decide) (Nat.le_of_ble_eq_true rfl) (fun h4 W4 A4 => ?_)
        have O_la : Ar Z h4 la .long [.long EMP, .long (minJ (minJ (minJ (minJ ta tb) (minJ tc EMP)) EMP) EMP), .long (minJ (minJ (minJ x tb) (minJ tc EMP)) EMP), .long EMP, .long (minJ (minJ x tb) (minJ tc EMP)), .long EMP, .long EMP, .long EMP, .long (minJ x tb), .long (minJ tc EMP), .long EMP, .long EMP, .long EMP, .long EMP, .long EMP, .long EMP, .long x, .long tb, .long tc, .long EMP, .long EMP, .long EMP, .long EMP, .long EMP, .long EMP, .long EMP, .long EMP, .long EMP, .long EMP, .long EMP, .long EMP, .long EMP] := A4
        have O_q := O_q.other W4 ne_q_la
        have O_sa := O_sa.other W4 ne_sa_la
        have hz : n0 ≤ h4.size := by rw [W4.size]; exact hz
        have hk := hk.wr W4 (Or.inl (by simp))
        refine w_goto (pc' := 17) C d9_77 (by decide) (by decide) ?_
        refine w_iload (pc' := 19) C d9_17 rfl rfl ?_
        refine w_iconst (pc' := 20) (x := (1 : Int32)) C d9_19 rfl rfl ?_
        refine w_icmp_le (pcT := 80) (pcF := 23) C d9_20 (by decide) (by decide) rfl (fun q => absurd q (by decide)) (fun q20 => ?_)
        refine w_iload (pc' := 25) C d9_23 rfl rfl ?_
        refine w_iconst (pc' := 26) (x := (2 : Int32)) C d9_25 rfl rfl ?_
        refine w_idiv (pc' := 27) C d9_26 (by decide) rfl ?_
        refine w_eqI (z := (1 : Int32)) (by decide) ?_
        refine w_istore (pc' := 29) (Ls' := #[.val (.ref q), .val (.int (0 : Int32)), .val (.long x), .second, .val (.int (1 : Int32)), .val (.long (minJ (minJ (minJ x tb) (minJ tc EMP)) EMP)), .second]) C d9_27 rfl rfl ?_
        refine w_aloadN (pc' := 30) C d9_29 rfl rfl rfl ?_
        refine w_getF (pc' := 33) C (tw hw 31 rfl) d9_30 rfl (O_q.fld 1 rfl) ?_
        refine w_iconst (pc' := 34) (x := (2 : Int32)) C d9_33 rfl rfl ?_
        refine w_iload (pc' := 36) C d9_34 rfl rfl ?_
        refine w_imul (pc' := 37) C d9_36 rfl ?_
        refine w_eqI (z := (2 : Int32)) (by decide) ?_
        refine wA_laload (pc' := 38) (v := .long (minJ (minJ (minJ x tb) (minJ tc EMP)) EMP)) C d9_37 rfl O_la (by decide) rfl ?_
        refine w_aloadN (pc' := 39) C d9_38 rfl rfl rfl ?_
        refine w_getF (pc' := 42) C (tw hw 31 rfl) d9_39 rfl (O_q.fld 1 rfl) ?_
        refine w_iconst (pc' := 43) (x := (2 : Int32)) C d9_42 rfl rfl ?_
        refine w_iload (pc' := 45) C d9_43 rfl rfl ?_
        refine w_imul (pc' := 46) C d9_45 rfl ?_
        refine w_eqI (z := (2 : Int32)) (by decide) ?_
        refine w_iconst (pc' := 47) (x := (1 : Int32)) C d9_46 rfl rfl ?_
        refine w_iadd (pc' := 48) C d9_47 rfl ?_
        refine w_eqI (z := (3 : Int32)) (by decide) ?_
        refine wA_laload (pc' := 49) (v := .long EMP) C d9_48 rfl O_la (by decide) rfl ?_
        refine w_callS (pc' := 52) (argsL := [.long (minJ (minJ (minJ x tb) (minJ tc EMP)) EMP), .long EMP]) (st := []) (W := 0) (ce' := 0) (sl' := 0) C (tw hw 58 rfl) (tw hw 59 rfl) (tw hw 7 rfl) (tw hw 60 rfl) (by decide) d9_49 rfl rfl (by decide) (by decide) (Nat.le_of_eq rfl) rfl rfl (by decide) (by decide) rfl (lenOf pd_2 rfl) (ct_minJ hw h4 n0 (minJ (minJ (minJ x tb) (minJ tc EMP)) EMP) EMP) (kp ?_)
        refine w_lstore (pc' := 54) (Ls' := #[.val (.ref q), .val (.int (0 : Int32)), .val (.long x), .second, .val (.int (1 : Int32)), .val (.long (minJ (minJ (minJ (minJ x tb) (minJ tc EMP)) EMP) EMP)), .second]) C d9_52 rfl rfl ?_
        refine w_aloadN (pc' := 55) C d9_54 rfl rfl rfl ?_
        refine w_getF (pc' := 58) C (tw hw 31 rfl) d9_55 rfl (O_q.fld 1 rfl) ?_
        refine w_iload (pc' := 60) C d9_58 rfl rfl ?_
        refine wA_laload (pc' := 61) (v := .long (minJ (minJ (minJ (minJ ta tb) (minJ tc EMP)) EMP) EMP)) C d9_60 rfl O_la (by decide) rfl ?_
        refine w_lload (pc' := 63) C d9_61 rfl rfl ?_
        refine w_lcmp (pc' := 64) C d9_63 rfl ?_
        refine w_if_ne (pcT := 68) (pcF := 67) C d9_64 (by decide) (by decide) rfl (fun q64 => ?_) (fun q64 => ?_)
        · skip
          refine w_aloadN (pc' := 69) C d9_68 rfl rfl rfl ?_
          refine w_getF (pc' := 72) C (tw hw 31 rfl) d9_69 rfl (O_q.fld 1 rfl) ?_
          refine w_iload (pc' := 74) C d9_72 rfl rfl ?_
          refine w_lload (pc' := 76) C d9_74 rfl rfl ?_
          refine wA_lastore (pc' := 77) C d9_76 rfl g_la O_la (by decide) (Nat.le_of_ble_eq_true rfl) (fun h5 W5 A5 => ?_)
          have O_la : Ar Z h5 la .long [.long EMP, .long (minJ (minJ (minJ (minJ x tb) (minJ tc EMP)) EMP) EMP), .long (minJ (minJ (minJ x tb) (minJ tc EMP)) EMP), .long EMP, .long (minJ (minJ x tb) (minJ tc EMP)), .long EMP, .long EMP, .long EMP, .long (minJ x tb), .long (minJ tc EMP), .long EMP, .long EMP, .long EMP, .long EMP, .long EMP, .long EMP, .long x, .long tb, .long tc, .long EMP, .long EMP, .long EMP, .long EMP, .long EMP, .long EMP, .long EMP, .long EMP, .long EMP, .long EMP, .long EMP, .long EMP, .long EMP] := A5
          have O_q := O_q.other W5 ne_q_la
          have O_sa := O_sa.other W5 ne_sa_la
          have hz : n0 ≤ h5.size := by rw [W5.size]; exact hz
          have hk := hk.wr W5 (Or.inl (by simp))
          refine w_goto (pc' := 17) C d9_77 (by decide) (by decide) ?_
          refine w_iload (pc' := 19) C d9_17 rfl rfl ?_
          refine w_iconst (pc' := 20) (x := (1 : Int32)) C d9_19 rfl rfl ?_
          refine w_icmp_le (pcT := 80) (pcF := 23) C d9_20 (by decide) (by decide) rfl (fun q20 => ?_) (fun q => absurd q (by decide))
          refine w_ret0 C rfl d9_80 (by decide) (by decide) ?_
          exact ⟨rfl, O_la, hk⟩
        · skip
          refine w_ret0 C rfl d9_67 (by decide) (by decide) ?_
          have e := (cmpJ_eq _ _).mp q64
          exact ⟨rfl, (by unfold tr3; rw [← e]; exact O_la), hk⟩
      · skip
        refine w_ret0 C rfl d9_67 (by decide) (by decide) ?_
        have e := (cmpJ_eq _ _).mp q64
        exact ⟨rfl, (by unfold tr3; rw [← e]; exact O_la), hk⟩
    · skip
      refine w_ret0 C rfl d9_67 (by decide) (by decide) ?_
      have e := (cmpJ_eq _ _).mp q64
      exact ⟨rfl, (by unfold tr3; rw [← e]; exact O_la), hk⟩
  · skip
    refine w_ret0 C rfl d9_67 (by decide) (by decide) ?_
    have e := (cmpJ_eq _ _).mp q64
    exact ⟨rfl, (by unfold tr3; rw [← e]; exact O_la), hk⟩
def rm_setLeaf1 : Room := { frames := 1, cells := 0, slots := 0, locals := 15 }
theorem pf_setLeaf1 : plainFor (⟨"tallygate/RequestQueue", "setLeaf", "(IJ)V"⟩ : MethodName) = true := plainFor_of_name (by first | (simp [plainName, overriddenIn]; done) | decide +kernel)
set_option maxRecDepth 65536 in
set_option maxHeartbeats 40000000 in
theorem ct_setLeaf1 {l : Launch} {Z : State} {a0 : Array Value} (hw : ∀ d ∈ tables_1, d.before a0 Z = true) (h0 : Heap) (n0 : Nat) (q : Addr) (x : Int64) (sa : Addr) (la : Addr) (en : Int32) (sz : Int32) (sv : List Value) (ta : Int64) (tb : Int64) (tc : Int64) (hz : n0 ≤ h0.size) (hsv : sv.length = 16) (O_q : Obj Z h0 q "tallygate/RequestQueue" [("slots", "[Ltallygate/RequestQueue$Entry;", .ref sa), ("least", "[J", .ref la), ("end", "I", .int en), ("size", "I", .int sz)]) (O_sa : ArR Z h0 sa "tallygate/RequestQueue$Entry" sv) (O_la : Ar Z h0 la .long (tr3 ta tb tc)) (g_la : n0 ≤ la) (ne_q_la : q ≠ la) (ne_sa_la : sa ≠ la) :
    Ct l Z (⟨"tallygate/RequestQueue", "setLeaf", "(IJ)V"⟩ : MethodName) prog_14_method_8_code 7 (Option.none : Option Jvm.ClassFile.FieldType) [] rm_setLeaf1 #[.ref q, .int (1 : Int32), .long x] h0 n0 (fun v h => v = none ∧ Ar Z h la .long (tr3 ta x tc) ∧ Keep h0 h [la]) := by
  refine Ct.of (Ls := #[.val (.ref q), .val (.int (1 : Int32)), .val (.long x), .second, .unset, .unset, .unset]) pf_setLeaf1 (fun m => by first | (simp [entryFrame, mkF, argsToLocals, Value.category, maxLocals]; done) | rfl) ?_
  intro p e s m below meth c C
  have hk : Keep h0 h0 [la] := Keep.refl _ _
  have O_la : Ar Z h0 la .long [.long EMP, .long (minJ (minJ (minJ (minJ ta tb) (minJ tc EMP)) EMP) EMP), .long (minJ (minJ (minJ ta tb) (minJ tc EMP)) EMP), .long EMP, .long (minJ (minJ ta tb) (minJ tc EMP)), .long EMP, .long EMP, .long EMP, .long (minJ ta tb), .long (minJ tc EMP), .long EMP, .long EMP, .long EMP, .long EMP, .long EMP, .long EMP, .long ta, .long tb, .long tc, .long EMP, .long EMP, .long EMP, .long EMP, .long EMP, .long EMP, .long EMP, .long EMP, .long EMP, .long EMP, .long EMP, .long EMP, .long EMP] := O_la
  refine w_aloadN (pc' := 1) C d9_0 rfl rfl rfl ?_
  refine w_getF (pc' := 4) C (tw hw 20 rfl) d9_1 rfl (O_q.fld 0 rfl) ?_
  refine wA_alenR (pc' := 5) (n := (16 : Int32)) C d9_4 rfl O_sa (by rw [hsv]; rfl) ?_
  refine w_iloadN (pc' := 6) C d9_5 rfl rfl ?_
  refine w_iadd (pc' := 7) C d9_6 rfl ?_
  refine w_eqI (z := (17 : Int32)) (by decide) ?_
  refine w_istore (pc' := 9) (Ls' := #[.val (.ref q), .val (.int (1 : Int32)), .val (.long x), .second, .val (.int (17 : Int32)), .unset, .unset]) C d9_7 rfl rfl ?_
  refine w_aloadN (pc' := 10) C d9_9 rfl rfl rfl ?_
  refine w_getF (pc' := 13) C (tw hw 31 rfl) d9_10 rfl (O_q.fld 1 rfl) ?_
  refine w_iload (pc' := 15) C d9_13 rfl rfl ?_
  refine w_lloadN (pc' := 16) C d9_15 rfl rfl ?_
  refine wA_lastore (pc' := 17) C d9_16 rfl g_la O_la (by decide) (Nat.le_of_ble_eq_true rfl) (fun h1 W1 A1 => ?_)
  have O_la : Ar Z h1 la .long [.long EMP, .long (minJ (minJ (minJ (minJ ta tb) (minJ tc EMP)) EMP) EMP), .long (minJ (minJ (minJ ta tb) (minJ tc EMP)) EMP), .long EMP, .long (minJ (minJ ta tb) (minJ tc EMP)), .long EMP, .long EMP, .long EMP, .long (minJ ta tb), .long (minJ tc EMP), .long EMP, .long EMP, .long EMP, .long EMP, .long EMP, .long EMP, .long ta, .long x, .long tc, .long EMP, .long EMP, .long EMP, .long EMP, .long EMP, .long EMP, .long EMP, .long EMP, .long EMP, .long EMP, .long EMP, .long EMP, .long EMP] := A1
  have O_q := O_q.other W1 ne_q_la
  have O_sa := O_sa.other W1 ne_sa_la
  have hz : n0 ≤ h1.size := by rw [W1.size]; exact hz
  have hk := hk.wr W1 (Or.inl (by simp))
  refine w_iload (pc' := 19) C d9_17 rfl rfl ?_
  refine w_iconst (pc' := 20) (x := (1 : Int32)) C d9_19 rfl rfl ?_
  refine w_icmp_le (pcT := 80) (pcF := 23) C d9_20 (by decide) (by decide) rfl (fun q => absurd q (by decide)) (fun q20 => ?_)
  refine w_iload (pc' := 25) C d9_23 rfl rfl ?_
  refine w_iconst (pc' := 26) (x := (2 : Int32)) C d9_25 rfl rfl ?_
  refine w_idiv (pc' := 27) C d9_26 (by decide) rfl ?_
  refine w_eqI (z := (8 : Int32)) (by decide) ?_
  refine w_istore (pc' := 29) (Ls' := #[.val (.ref q), .val (.int (1 : Int32)), .val (.long x), .second, .val (.int (8 : Int32)), .unset, .unset]) C d9_27 rfl rfl ?_
  refine w_aloadN (pc' := 30) C d9_29 rfl rfl rfl ?_
  refine w_getF (pc' := 33) C (tw hw 31 rfl) d9_30 rfl (O_q.fld 1 rfl) ?_
  refine w_iconst (pc' := 34) (x := (2 : Int32)) C d9_33 rfl rfl ?_
  refine w_iload (pc' := 36) C d9_34 rfl rfl ?_
  refine w_imul (pc' := 37) C d9_36 rfl ?_
  refine w_eqI (z := (16 : Int32)) (by decide) ?_
  refine wA_laload (pc' := 38) (v := .long ta) C d9_37 rfl O_la (by decide) rfl ?_
  refine w_aloadN (pc' := 39) C d9_38 rfl rfl rfl ?_
  refine w_getF (pc' := 42) C (tw hw 31 rfl) d9_39 rfl (O_q.fld 1 rfl) ?_
  refine w_iconst (pc' := 43) (x := (2 : Int32)) C d9_42 rfl rfl ?_
  refine w_iload (pc' := 45) C d9_43 rfl rfl ?_
  refine w_imul (pc' := 46) C d9_45 rfl ?_
  refine w_eqI (z := (16 : Int32)) (by decide) ?_
  refine w_iconst (pc' := 47) (x := (1 : Int32)) C d9_46 rfl rfl ?_
  refine w_iadd (pc' := 48) C d9_47 rfl ?_
  refine w_eqI (z := (17 : Int32)) (by decide) ?_
  refine wA_laload (pc' := 49) (v := .long x) C d9_48 rfl O_la (by decide) rfl ?_
  refine w_callS (pc' := 52) (argsL := [.long ta, .long x]) (st := []) (W := 0) (ce' := 0) (sl' := 0) C (tw hw 58 rfl) (tw hw 59 rfl) (tw hw 7 rfl) (tw hw 60 rfl) (by decide) d9_49 rfl rfl (by decide) (by decide) (Nat.le_of_eq rfl) rfl rfl (by decide) (by decide) rfl (lenOf pd_2 rfl) (ct_minJ hw h1 n0 ta x) (kp ?_)
  refine w_lstore (pc' := 54) (Ls' := #[.val (.ref q), .val (.int (1 : Int32)), .val (.long x), .second, .val (.int (8 : Int32)), .val (.long (minJ ta x)), .second]) C d9_52 rfl rfl ?_
  refine w_aloadN (pc' := 55) C d9_54 rfl rfl rfl ?_
  refine w_getF (pc' := 58) C (tw hw 31 rfl) d9_55 rfl (O_q.fld 1 rfl) ?_
  refine w_iload (pc' := 60) C d9_58 rfl rfl ?_
  refine wA_laload (pc' := 61) (v := .long (minJ ta tb)) C d9_60 rfl O_la (by decide) rfl ?_
  refine w_lload (pc' := 63) C d9_61 rfl rfl ?_
  refine w_lcmp (pc' := 64) C d9_63 rfl ?_
  refine w_if_ne (pcT := 68) (pcF := 67) C d9_64 (by decide) (by decide) rfl (fun q64 => ?_) (fun q64 => ?_)
  · skip
    refine w_aloadN (pc' := 69) C d9_68 rfl rfl rfl ?_
    refine w_getF (pc' := 72) C (tw hw 31 rfl) d9_69 rfl (O_q.fld 1 rfl) ?_
    refine w_iload (pc' := 74) C d9_72 rfl rfl ?_
    refine w_lload (pc' := 76) C d9_74 rfl rfl ?_
    refine wA_lastore (pc' := 77) C d9_76 rfl g_la O_la (by decide) (Nat.le_of_ble_eq_true rfl) (fun h2 W2 A2 => ?_)
    have O_la : Ar Z h2 la .long [.long EMP, .long (minJ (minJ (minJ (minJ ta tb) (minJ tc EMP)) EMP) EMP), .long (minJ (minJ (minJ ta tb) (minJ tc EMP)) EMP), .long EMP, .long (minJ (minJ ta tb) (minJ tc EMP)), .long EMP, .long EMP, .long EMP, .long (minJ ta x), .long (minJ tc EMP), .long EMP, .long EMP, .long EMP, .long EMP, .long EMP, .long EMP, .long ta, .long x, .long tc, .long EMP, .long EMP, .long EMP, .long EMP, .long EMP, .long EMP, .long EMP, .long EMP, .long EMP, .long EMP, .long EMP, .long EMP, .long EMP] := A2
    have O_q := O_q.other W2 ne_q_la
    have O_sa := O_sa.other W2 ne_sa_la
    have hz : n0 ≤ h2.size := by rw [W2.size]; exact hz
    have hk := hk.wr W2 (Or.inl (by simp))
    refine w_goto (pc' := 17) C d9_77 (by decide) (by decide) ?_
    refine w_iload (pc' := 19) C d9_17 rfl rfl ?_
    refine w_iconst (pc' := 20) (x := (1 : Int32)) C d9_19 rfl rfl ?_
    refine w_icmp_le (pcT := 80) (pcF := 23) C d9_20 (by decide) (by decide) rfl (fun q => absurd q (by decide)) (fun q20 => ?_)
    refine w_iload (pc' := 25) C d9_23 rfl rfl ?_
    refine w_iconst (pc' := 26) (x := (2 : Int32)) C d9_25 rfl rfl ?_
    refine w_idiv (pc' := 27) C d9_26 (by decide) rfl ?_
    refine w_eqI (z := (4 : Int32)) (by decide) ?_
    refine w_istore (pc' := 29) (Ls' := #[.val (.ref q), .val (.int (1 : Int32)), .val (.long x), .second, .val (.int (4 : Int32)), .val (.long (minJ ta x)), .second]) C d9_27 rfl rfl ?_
    refine w_aloadN (pc' := 30) C d9_29 rfl rfl rfl ?_
    refine w_getF (pc' := 33) C (tw hw 31 rfl) d9_30 rfl (O_q.fld 1 rfl) ?_
    refine w_iconst (pc' := 34) (x := (2 : Int32)) C d9_33 rfl rfl ?_
    refine w_iload (pc' := 36) C d9_34 rfl rfl ?_
    refine w_imul (pc' := 37) C d9_36 rfl ?_
    refine w_eqI (z := (8 : Int32)) (by decide) ?_
    refine wA_laload (pc' := 38) (v := .long (minJ ta x)) C d9_37 rfl O_la (by decide) rfl ?_
    refine w_aloadN (pc' := 39) C d9_38 rfl rfl rfl ?_
    refine w_getF (pc' := 42) C (tw hw 31 rfl) d9_39 rfl (O_q.fld 1 rfl) ?_
    refine w_iconst (pc' := 43) (x := (2 : Int32)) C d9_42 rfl rfl ?_
    refine w_iload (pc' := 45) C d9_43 rfl rfl ?_
    refine w_imul (pc' := 46) C d9_45 rfl ?_
    refine w_eqI (z := (8 : Int32)) (by decide) ?_
    refine w_iconst (pc' := 47) (x := (1 : Int32)) C d9_46 rfl rfl ?_
    refine w_iadd (pc' := 48) C d9_47 rfl ?_
    refine w_eqI (z := (9 : Int32)) (by decide) ?_
    refine wA_laload (pc' := 49) (v := .long (minJ tc EMP)) C d9_48 rfl O_la (by decide) rfl ?_
    refine w_callS (pc' := 52) (argsL := [.long (minJ ta x), .long (minJ tc EMP)]) (st := []) (W := 0) (ce' := 0) (sl' := 0) C (tw hw 58 rfl) (tw hw 59 rfl) (tw hw 7 rfl) (tw hw 60 rfl) (by decide) d9_49 rfl rfl (by decide) (by decide) (Nat.le_of_eq rfl) rfl rfl (by decide) (by decide) rfl (lenOf pd_2 rfl) (ct_minJ hw h2 n0 (minJ ta x) (minJ tc EMP)) (kp ?_)
    refine w_lstore (pc' := 54) (Ls' := #[.val (.ref q), .val (.int (1 : Int32)), .val (.long x), .second, .val (.int (4 : Int32)), .val (.long (minJ (minJ ta x) (minJ tc EMP))), .second]) C d9_52 rfl rfl ?_
    refine w_aloadN (pc' := 55) C d9_54 rfl rfl rfl ?_
    refine w_getF (pc' := 58) C (tw hw 31 rfl) d9_55 rfl (O_q.fld 1 rfl) ?_
    refine w_iload (pc' := 60) C d9_58 rfl rfl ?_
    refine wA_laload (pc' := 61) (v := .long (minJ (minJ ta tb) (minJ tc EMP))) C d9_60 rfl O_la (by decide) rfl ?_
    refine w_lload (pc' := 63) C d9_61 rfl rfl ?_
    refine w_lcmp (pc' := 64) C d9_63 rfl ?_
    refine w_if_ne (pcT := 68) (pcF := 67) C d9_64 (by decide) (by decide) rfl (fun q64 => ?_) (fun q64 => ?_)
    · skip
      refine w_aloadN (pc' := 69) C d9_68 rfl rfl rfl ?_
      refine w_getF (pc' := 72) C (tw hw 31 rfl) d9_69 rfl (O_q.fld 1 rfl) ?_
      refine w_iload (pc' := 74) C d9_72 rfl rfl ?_
      refine w_lload (pc' := 76) C d9_74 rfl rfl ?_
      refine wA_lastore (pc' := 77) C d9_76 rfl g_la O_la (by decide) (Nat.le_of_ble_eq_true rfl) (fun h3 W3 A3 => ?_)
      have O_la : Ar Z h3 la .long [.long EMP, .long (minJ (minJ (minJ (minJ ta tb) (minJ tc EMP)) EMP) EMP), .long (minJ (minJ (minJ ta tb) (minJ tc EMP)) EMP), .long EMP, .long (minJ (minJ ta x) (minJ tc EMP)), .long EMP, .long EMP, .long EMP, .long (minJ ta x), .long (minJ tc EMP), .long EMP, .long EMP, .long EMP, .long EMP, .long EMP, .long EMP, .long ta, .long x, .long tc, .long EMP, .long EMP, .long EMP, .long EMP, .long EMP, .long EMP, .long EMP, .long EMP, .long EMP, .long EMP, .long EMP, .long EMP, .long EMP] := A3
      have O_q := O_q.other W3 ne_q_la
      have O_sa := O_sa.other W3 ne_sa_la
      have hz : n0 ≤ h3.size := by rw [W3.size]; exact hz
      have hk := hk.wr W3 (Or.inl (by simp))
      refine w_goto (pc' := 17) C d9_77 (by decide) (by decide) ?_
      refine w_iload (pc' := 19) C d9_17 rfl rfl ?_
      refine w_iconst (pc' := 20) (x := (1 : Int32)) C d9_19 rfl rfl ?_
      refine w_icmp_le (pcT := 80) (pcF := 23) C d9_20 (by decide) (by decide) rfl (fun q => absurd q (by decide)) (fun q20 => ?_)
      refine w_iload (pc' := 25) C d9_23 rfl rfl ?_
      refine w_iconst (pc' := 26) (x := (2 : Int32)) C d9_25 rfl rfl ?_
      refine w_idiv (pc' := 27) C d9_26 (by decide) rfl ?_
      refine w_eqI (z := (2 : Int32)) (by decide) ?_
      refine w_istore (pc' := 29) (Ls' := #[.val (.ref q), .val (.int (1 : Int32)), .val (.long x), .second, .val (.int (2 : Int32)), .val (.long (minJ (minJ ta x) (minJ tc EMP))), .second]) C d9_27 rfl rfl ?_
      refine w_aloadN (pc' := 30) C d9_29 rfl rfl rfl ?_
      refine w_getF (pc' := 33) C (tw hw 31 rfl) d9_30 rfl (O_q.fld 1 rfl) ?_
      refine w_iconst (pc' := 34) (x := (2 : Int32)) C d9_33 rfl rfl ?_
      refine w_iload (pc' := 36) C d9_34 rfl rfl ?_
      refine w_imul (pc' := 37) C d9_36 rfl ?_
      refine w_eqI (z := (4 : Int32)) (by decide) ?_
      refine wA_laload (pc' := 38) (v := .long (minJ (minJ ta x) (minJ tc EMP))) C d9_37 rfl O_la (by decide) rfl ?_
      refine w_aloadN (pc' := 39) C d9_38 rfl rfl rfl ?_
      refine w_getF (pc' := 42) C (tw hw 31 rfl) d9_39 rfl (O_q.fld 1 rfl) ?_
      refine w_iconst (pc' := 43) (x := (2 : Int32)) C d9_42 rfl rfl ?_
      refine w_iload (pc' := 45) C d9_43 rfl rfl ?_
      refine w_imul (pc' := 46) C d9_45 rfl ?_
      refine w_eqI (z := (4 : Int32)) (by decide) ?_
      refine w_iconst (pc' := 47) (x := (1 : Int32)) C d9_46 rfl rfl ?_
      refine w_iadd (pc' := 48) C d9_47 rfl ?_
      refine w_eqI (z := (5 : Int32)) (by decide) ?_
      refine wA_laload (pc' := 49) (v := .long EMP) C d9_48 rfl O_la (by decide) rfl ?_
      refine w_callS (pc' := 52) (argsL := [.long (minJ (minJ ta x) (minJ tc EMP)), .long EMP]) (st := []) (W := 0) (ce' := 0) (sl' := 0) C (tw hw 58 rfl) (tw hw 59 rfl) (tw hw 7 rfl) (tw hw 60 rfl) (by decide) d9_49 rfl rfl (by decide) (by decide) (Nat.le_of_eq rfl) rfl rfl (by decide) (by decide) rfl (lenOf pd_2 rfl) (ct_minJ hw h3 n0 (minJ (minJ ta x) (minJ tc EMP)) EMP) (kp ?_)
      refine w_lstore (pc' := 54) (Ls' := #[.val (.ref q), .val (.int (1 : Int32)), .val (.long x), .second, .val (.int (2 : Int32)), .val (.long (minJ (minJ (minJ ta x) (minJ tc EMP)) EMP)), .second]) C d9_52 rfl rfl ?_
      refine w_aloadN (pc' := 55) C d9_54 rfl rfl rfl ?_
      refine w_getF (pc' := 58) C (tw hw 31 rfl) d9_55 rfl (O_q.fld 1 rfl) ?_
      refine w_iload (pc' := 60) C d9_58 rfl rfl ?_
      refine wA_laload (pc' := 61) (v := .long (minJ (minJ (minJ ta tb) (minJ tc EMP)) EMP)) C d9_60 rfl O_la (by decide) rfl ?_
      refine w_lload (pc' := 63) C d9_61 rfl rfl ?_
      refine w_lcmp (pc' := 64) C d9_63 rfl ?_
      refine w_if_ne (pcT := 68) (pcF := 67) C d9_64 (by decide) (by decide) rfl (fun q64 => ?_) (fun q64 => ?_)
      · skip
        refine w_aloadN (pc' := 69) C d9_68 rfl rfl rfl ?_
        refine w_getF (pc' := 72) C (tw hw 31 rfl) d9_69 rfl (O_q.fld 1 rfl) ?_
        refine w_iload (pc' := 74) C d9_72 rfl rfl ?_
        refine w_lload (pc' := 76) C d9_74 rfl rfl ?_
        refine wA_lastore (pc' := 77) C d9_76 rfl g_la O_la (by decide) (Nat.le_of_ble_eq_true rfl) (fun h4 W4 A4 => ?_)
        have O_la : Ar Z h4 la .long [.long EMP, .long (minJ (minJ (minJ (minJ ta tb) (minJ tc EMP)) EMP) EMP), .long (minJ (minJ (minJ ta x) (minJ tc EMP)) EMP), .long EMP, .long (minJ (minJ ta x) (minJ tc EMP)), .long EMP, .long EMP, .long EMP, .long (minJ ta x), .long (minJ tc EMP), .long EMP, .long EMP, .long EMP, .long EMP, .long EMP, .long EMP, .long ta, .long x, .long tc, .long EMP, .long EMP, .long EMP, .long EMP, .long EMP, .long EMP, .long EMP, .long EMP, .long EMP, .long EMP, .long EMP, .long EMP, .long EMP] := A4
        have O_q := O_q.other W4 ne_q_la
        have O_sa := O_sa.other W4 ne_sa_la
        have hz : n0 ≤ h4.size := by rw [W4.size]; exact hz
        have hk := hk.wr W4 (Or.inl (by simp))
        refine w_goto (pc' := 17) C d9_77 (by decide) (by decide) ?_
        refine w_iload (pc' := 19) C d9_17 rfl rfl ?_
        refine w_iconst (pc' := 20) (x := (1 : Int32)) C d9_19 rfl rfl ?_
        refine w_icmp_le (pcT := 80) (pcF := 23) C d9_20 (by decide) (by decide) rfl (fun q => absurd q (by decide)) (fun q20 => ?_)
        refine w_iload (pc' := 25) C d9_23 rfl rfl ?_
        refine w_iconst (pc' := 26) (x := (2 : Int32)) C d9_25 rfl rfl ?_
        refine w_idiv (pc' := 27) C d9_26 (by decide) rfl ?_
        refine w_eqI (z := (1 : Int32)) (by decide) ?_
        refine w_istore (pc' := 29) (Ls' := #[.val (.ref q), .val (.int (1 : Int32)), .val (.long x), .second, .val (.int (1 : Int32)), .val (.long (minJ (minJ (minJ ta x) (minJ tc EMP)) EMP)), .second]) C d9_27 rfl rfl ?_
        refine w_aloadN (pc' := 30) C d9_29 rfl rfl rfl ?_
        refine w_getF (pc' := 33) C (tw hw 31 rfl) d9_30 rfl (O_q.fld 1 rfl) ?_
        refine w_iconst (pc' := 34) (x := (2 : Int32)) C d9_33 rfl rfl ?_
        refine w_iload (pc' := 36) C d9_34 rfl rfl ?_
        refine w_imul (pc' := 37) C d9_36 rfl ?_
        refine w_eqI (z := (2 : Int32)) (by decide) ?_
        refine wA_laload (pc' := 38) (v := .long (minJ (minJ (minJ ta x) (minJ tc EMP)) EMP)) C d9_37 rfl O_la (by decide) rfl ?_
        refine w_aloadN (pc' := 39) C d9_38 rfl rfl rfl ?_
        refine w_getF (pc' := 42) C (tw hw 31 rfl) d9_39 rfl (O_q.fld 1 rfl) ?_
        refine w_iconst (pc' := 43) (x := (2 : Int32)) C d9_42 rfl rfl ?_
        refine w_iload (pc' := 45) C d9_43 rfl rfl ?_
        refine w_imul (pc' := 46) C d9_45 rfl ?_
        refine w_eqI (z := (2 : Int32)) (by decide) ?_
        refine w_iconst (pc' := 47) (x := (1 : Int32)) C d9_46 rfl rfl ?_
        refine w_iadd (pc' := 48) C d9_47 rfl ?_
        refine w_eqI (z := (3 : Int32)) (by decide) ?_
        refine wA_laload (pc' := 49) (v := .long EMP) C d9_48 rfl O_la (by decide) rfl ?_
        refine w_callS (pc' := 52) (argsL := [.long (minJ (minJ (minJ ta x) (minJ tc EMP)) EMP), .long EMP]) (st := []) (W := 0) (ce' := 0) (sl' := 0) C (tw hw 58 rfl) (tw hw 59 rfl) (tw hw 7 rfl) (tw hw 60 rfl) (by decide) d9_49 rfl rfl (by decide) (by decide) (Nat.le_of_eq rfl) rfl rfl (by decide) (by decide) rfl (lenOf pd_2 rfl) (ct_minJ hw h4 n0 (minJ (minJ (minJ ta x) (minJ tc EMP)) EMP) EMP) (kp ?_)
        refine w_lstore (pc' := 54) (Ls' := #[.val (.ref q), .val (.int (1 : Int32)), .val (.long x), .second, .val (.int (1 : Int32)), .val (.long (minJ (minJ (minJ (minJ ta x) (minJ tc EMP)) EMP) EMP)), .second]) C d9_52 rfl rfl ?_
        refine w_aloadN (pc' := 55) C d9_54 rfl rfl rfl ?_
        refine w_getF (pc' := 58) C (tw hw 31 rfl) d9_55 rfl (O_q.fld 1 rfl) ?_
        refine w_iload (pc' := 60) C d9_58 rfl rfl ?_
        refine wA_laload (pc' := 61) (v := .long (minJ (minJ (minJ (minJ ta tb) (minJ tc EMP)) EMP) EMP)) C d9_60 rfl O_la (by decide) rfl ?_
        refine w_lload (pc' := 63) C d9_61 rfl rfl ?_
        refine w_lcmp (pc' := 64) C d9_63 rfl ?_
        refine w_if_ne (pcT := 68) (pcF := 67) C d9_64 (by decide) (by decide) rfl (fun q64 => ?_) (fun q64 => ?_)
        · skip
          refine w_aloadN (pc' := 69) C d9_68 rfl rfl rfl ?_
          refine w_getF (pc' := 72) C (tw hw 31 rfl) d9_69 rfl (O_q.fld 1 rfl) ?_
          refine w_iload (pc' := 74) C d9_72 rfl rfl ?_
          refine w_lload (pc' := 76) C d9_74 rfl rfl ?_
          refine wA_lastore (pc' := 77) C d9_76 rfl g_la O_la (by decide) (Nat.le_of_ble_eq_true rfl) (fun h5 W5 A5 => ?_)
          have O_la : Ar Z h5 la .long [.long EMP, .long (minJ (minJ (minJ (minJ ta x) (minJ tc EMP)) EMP) EMP), .long (minJ (minJ (minJ ta x) (minJ tc EMP)) EMP), .long EMP, .long (minJ (minJ ta x) (minJ tc EMP)), .long EMP, .long EMP, .long EMP, .long (minJ ta x), .long (minJ tc EMP), .long EMP, .long EMP, .long EMP, .long EMP, .long EMP, .long EMP, .long ta, .long x, .long tc, .long EMP, .long EMP, .long EMP, .long EMP, .long EMP, .long EMP, .long EMP, .long EMP, .long EMP, .long EMP, .long EMP, .long EMP, .long EMP] := A5
          have O_q := O_q.other W5 ne_q_la
          have O_sa := O_sa.other W5 ne_sa_la
          have hz : n0 ≤ h5.size := by rw [W5.size]; exact hz
          have hk := hk.wr W5 (Or.inl (by simp))
          refine w_goto (pc' := 17) C d9_77 (by decide) (by decide) ?_
          refine w_iload (pc' := 19) C d9_17 rfl rfl ?_
          refine w_iconst (pc' := 20) (x := (1 : Int32)) C d9_19 rfl rfl ?_
          refine w_icmp_le (pcT := 80) (pcF := 23) C d9_20 (by decide) (by decide) rfl (fun q20 => ?_) (fun q => absurd q (by decide))
          refine w_ret0 C rfl d9_80 (by decide) (by decide) ?_
          exact ⟨rfl, O_la, hk⟩
        · skip
          refine w_ret0 C rfl d9_67 (by decide) (by decide) ?_
          have e := (cmpJ_eq _ _).mp q64
          exact ⟨rfl, (by unfold tr3; rw [← e]; exact O_la), hk⟩
      · skip
        refine w_ret0 C rfl d9_67 (by decide) (by decide) ?_
        have e := (cmpJ_eq _ _).mp q64
        exact ⟨rfl, (by unfold tr3; rw [← e]; exact O_la), hk⟩
    · skip
      refine w_ret0 C rfl d9_67 (by decide) (by decide) ?_
      have e := (cmpJ_eq _ _).mp q64
      exact ⟨rfl, (by unfold tr3; rw [← e]; exact O_la), hk⟩
  · skip
    refine w_ret0 C rfl d9_67 (by decide) (by decide) ?_
    have e := (cmpJ_eq _ _).mp q64
    exact ⟨rfl, (by unfold tr3; rw [← e]; exact O_la), hk⟩
def rm_setLeaf2 : Room := { frames := 1, cells := 0, slots := 0, locals := 15 }
theorem pf_setLeaf2 : plainFor (⟨"tallygate/RequestQueue", "setLeaf", "(IJ)V"⟩ : MethodName) = true := plainFor_of_name (by first | (simp [plainName, overriddenIn]; done) | decide +kernel)
set_option maxRecDepth 65536 in
set_option maxHeartbeats 40000000 in
theorem ct_setLeaf2 {l : Launch} {Z : State} {a0 : Array Value} (hw : ∀ d ∈ tables_1, d.before a0 Z = true) (h0 : Heap) (n0 : Nat) (q : Addr) (x : Int64) (sa : Addr) (la : Addr) (en : Int32) (sz : Int32) (sv : List Value) (ta : Int64) (tb : Int64) (tc : Int64) (hz : n0 ≤ h0.size) (hsv : sv.length = 16) (O_q : Obj Z h0 q "tallygate/RequestQueue" [("slots", "[Ltallygate/RequestQueue$Entry;", .ref sa), ("least", "[J", .ref la), ("end", "I", .int en), ("size", "I", .int sz)]) (O_sa : ArR Z h0 sa "tallygate/RequestQueue$Entry" sv) (O_la : Ar Z h0 la .long (tr3 ta tb tc)) (g_la : n0 ≤ la) (ne_q_la : q ≠ la) (ne_sa_la : sa ≠ la) :
    Ct l Z (⟨"tallygate/RequestQueue", "setLeaf", "(IJ)V"⟩ : MethodName) prog_14_method_8_code 7 (Option.none : Option Jvm.ClassFile.FieldType) [] rm_setLeaf2 #[.ref q, .int (2 : Int32), .long x] h0 n0 (fun v h => v = none ∧ Ar Z h la .long (tr3 ta tb x) ∧ Keep h0 h [la]) := by
  refine Ct.of (Ls := #[.val (.ref q), .val (.int (2 : Int32)), .val (.long x), .second, .unset, .unset, .unset]) pf_setLeaf2 (fun m => by first | (simp [entryFrame, mkF, argsToLocals, Value.category, maxLocals]; done) | rfl) ?_
  intro p e s m below meth c C
  have hk : Keep h0 h0 [la] := Keep.refl _ _
  have O_la : Ar Z h0 la .long [.long EMP, .long (minJ (minJ (minJ (minJ ta tb) (minJ tc EMP)) EMP) EMP), .long (minJ (minJ (minJ ta tb) (minJ tc EMP)) EMP), .long EMP, .long (minJ (minJ ta tb) (minJ tc EMP)), .long EMP, .long EMP, .long EMP, .long (minJ ta tb), .long (minJ tc EMP), .long EMP, .long EMP, .long EMP, .long EMP, .long EMP, .long EMP, .long ta, .long tb, .long tc, .long EMP, .long EMP, .long EMP, .long EMP, .long EMP, .long EMP, .long EMP, .long EMP, .long EMP, .long EMP, .long EMP, .long EMP, .long EMP] := O_la
  refine w_aloadN (pc' := 1) C d9_0 rfl rfl rfl ?_
  refine w_getF (pc' := 4) C (tw hw 20 rfl) d9_1 rfl (O_q.fld 0 rfl) ?_
  refine wA_alenR (pc' := 5) (n := (16 : Int32)) C d9_4 rfl O_sa (by rw [hsv]; rfl) ?_
  refine w_iloadN (pc' := 6) C d9_5 rfl rfl ?_
  refine w_iadd (pc' := 7) C d9_6 rfl ?_
  refine w_eqI (z := (18 : Int32)) (by decide) ?_
  refine w_istore (pc' := 9) (Ls' := #[.val (.ref q), .val (.int (2 : Int32)), .val (.long x), .second, .val (.int (18 : Int32)), .unset, .unset]) C d9_7 rfl rfl ?_
  refine w_aloadN (pc' := 10) C d9_9 rfl rfl rfl ?_
  refine w_getF (pc' := 13) C (tw hw 31 rfl) d9_10 rfl (O_q.fld 1 rfl) ?_
  refine w_iload (pc' := 15) C d9_13 rfl rfl ?_
  refine w_lloadN (pc' := 16) C d9_15 rfl rfl ?_
  refine wA_lastore (pc' := 17) C d9_16 rfl g_la O_la (by decide) (Nat.le_of_ble_eq_true rfl) (fun h1 W1 A1 => ?_)
  have O_la : Ar Z h1 la .long [.long EMP, .long (minJ (minJ (minJ (minJ ta tb) (minJ tc EMP)) EMP) EMP), .long (minJ (minJ (minJ ta tb) (minJ tc EMP)) EMP), .long EMP, .long (minJ (minJ ta tb) (minJ tc EMP)), .long EMP, .long EMP, .long EMP, .long (minJ ta tb), .long (minJ tc EMP), .long EMP, .long EMP, .long EMP, .long EMP, .long EMP, .long EMP, .long ta, .long tb, .long x, .long EMP, .long EMP, .long EMP, .long EMP, .long EMP, .long EMP, .long EMP, .long EMP, .long EMP, .long EMP, .long EMP, .long EMP, .long EMP] := A1
  have O_q := O_q.other W1 ne_q_la
  have O_sa := O_sa.other W1 ne_sa_la
  have hz : n0 ≤ h1.size := by rw [W1.size]; exact hz
  have hk := hk.wr W1 (Or.inl (by simp))
  refine w_iload (pc' := 19) C d9_17 rfl rfl ?_
  refine w_iconst (pc' := 20) (x := (1 : Int32)) C d9_19 rfl rfl ?_
  refine w_icmp_le (pcT := 80) (pcF := 23) C d9_20 (by decide) (by decide) rfl (fun q => absurd q (by decide)) (fun q20 => ?_)
  refine w_iload (pc' := 25) C d9_23 rfl rfl ?_
  refine w_iconst (pc' := 26) (x := (2 : Int32)) C d9_25 rfl rfl ?_
  refine w_idiv (pc' := 27) C d9_26 (by decide) rfl ?_
  refine w_eqI (z := (9 : Int32)) (by decide) ?_
  refine w_istore (pc' := 29) (Ls' := #[.val (.ref q), .val (.int (2 : Int32)), .val (.long x), .second, .val (.int (9 : Int32)), .unset, .unset]) C d9_27 rfl rfl ?_
  refine w_aloadN (pc' := 30) C d9_29 rfl rfl rfl ?_
  refine w_getF (pc' := 33) C (tw hw 31 rfl) d9_30 rfl (O_q.fld 1 rfl) ?_
  refine w_iconst (pc' := 34) (x := (2 : Int32)) C d9_33 rfl rfl ?_
  refine w_iload (pc' := 36) C d9_34 rfl rfl ?_
  refine w_imul (pc' := 37) C d9_36 rfl ?_
  refine w_eqI (z := (18 : Int32)) (by decide) ?_
  refine wA_laload (pc' := 38) (v := .long x) C d9_37 rfl O_la (by decide) rfl ?_
  refine w_aloadN (pc' := 39) C d9_38 rfl rfl rfl ?_
  refine w_getF (pc' := 42) C (tw hw 31 rfl) d9_39 rfl (O_q.fld 1 rfl) ?_
  refine w_iconst (pc' := 43) (x := (2 : Int32)) C d9_42 rfl rfl ?_
  refine w_iload (pc' := 45) C d9_43 rfl rfl ?_
  refine w_imul (pc' := 46) C d9_45 rfl ?_
  refine w_eqI (z := (18 : Int32)) (by decide) ?_
  refine w_iconst (pc' := 47) (x := (1 : Int32)) C d9_46 rfl rfl ?_
  refine w_iadd (pc' := 48) C d9_47 rfl ?_
  refine w_eqI (z := (19 : Int32)) (by decide) ?_
  refine wA_laload (pc' := 49) (v := .long EMP) C d9_48 rfl O_la (by decide) rfl ?_
  refine w_callS (pc' := 52) (argsL := [.long x, .long EMP]) (st := []) (W := 0) (ce' := 0) (sl' := 0) C (tw hw 58 rfl) (tw hw 59 rfl) (tw hw 7 rfl) (tw hw 60 rfl) (by decide) d9_49 rfl rfl (by decide) (by decide) (Nat.le_of_eq rfl) rfl rfl (by decide) (by decide) rfl (lenOf pd_2 rfl) (ct_minJ hw h1 n0 x EMP) (kp ?_)
  refine w_lstore (pc' := 54) (Ls' := #[.val (.ref q), .val (.int (2 : Int32)), .val (.long x), .second, .val (.int (9 : Int32)), .val (.long (minJ x EMP)), .second]) C d9_52 rfl rfl ?_
  refine w_aloadN (pc' := 55) C d9_54 rfl rfl rfl ?_
  refine w_getF (pc' := 58) C (tw hw 31 rfl) d9_55 rfl (O_q.fld 1 rfl) ?_
  refine w_iload (pc' := 60) C d9_58 rfl rfl ?_
  refine wA_laload (pc' := 61) (v := .long (minJ tc EMP)) C d9_60 rfl O_la (by decide) rfl ?_
  refine w_lload (pc' := 63) C d9_61 rfl rfl ?_
  refine w_lcmp (pc' := 64) C d9_63 rfl ?_
  refine w_if_ne (pcT := 68) (pcF := 67) C d9_64 (by decide) (by decide) rfl (fun q64 => ?_) (fun q64 => ?_)
  · skip
    refine w_aloadN (pc' := 69) C d9_68 rfl rfl rfl ?_
    refine w_getF (pc' := 72) C (tw hw 31 rfl) d9_69 rfl (O_q.fld 1 rfl) ?_
    refine w_iload (pc' := 74) C d9_72 rfl rfl ?_
    refine w_lload (pc' := 76) C d9_74 rfl rfl ?_
    refine wA_lastore (pc' := 77) C d9_76 rfl g_la O_la (by decide) (Nat.le_of_ble_eq_true rfl) (fun h2 W2 A2 => ?_)
    have O_la : Ar Z h2 la .long [.long EMP, .long (minJ (minJ (minJ (minJ ta tb) (minJ tc EMP)) EMP) EMP), .long (minJ (minJ (minJ ta tb) (minJ tc EMP)) EMP), .long EMP, .long (minJ (minJ ta tb) (minJ tc EMP)), .long EMP, .long EMP, .long EMP, .long (minJ ta tb), .long (minJ x EMP), .long EMP, .long EMP, .long EMP, .long EMP, .long EMP, .long EMP, .long ta, .long tb, .long x, .long EMP, .long EMP, .long EMP, .long EMP, .long EMP, .long EMP, .long EMP, .long EMP, .long EMP, .long EMP, .long EMP, .long EMP, .long EMP] := A2
    have O_q := O_q.other W2 ne_q_la
    have O_sa := O_sa.other W2 ne_sa_la
    have hz : n0 ≤ h2.size := by rw [W2.size]; exact hz
    have hk := hk.wr W2 (Or.inl (by simp))
    refine w_goto (pc' := 17) C d9_77 (by decide) (by decide) ?_
    refine w_iload (pc' := 19) C d9_17 rfl rfl ?_
    refine w_iconst (pc' := 20) (x := (1 : Int32)) C d9_19 rfl rfl ?_
    refine w_icmp_le (pcT := 80) (pcF := 23) C d9_20 (by decide) (by decide) rfl (fun q => absurd q (by decide)) (fun q20 => ?_)
    refine w_iload (pc' := 25) C d9_23 rfl rfl ?_
    refine w_iconst (pc' := 26) (x := (2 : Int32)) C d9_25 rfl rfl ?_
    refine w_idiv (pc' := 27) C d9_26 (by decide) rfl ?_
    refine w_eqI (z := (4 : Int32)) (by decide) ?_
    refine w_istore (pc' := 29) (Ls' := #[.val (.ref q), .val (.int (2 : Int32)), .val (.long x), .second, .val (.int (4 : Int32)), .val (.long (minJ x EMP)), .second]) C d9_27 rfl rfl ?_
    refine w_aloadN (pc' := 30) C d9_29 rfl rfl rfl ?_
    refine w_getF (pc' := 33) C (tw hw 31 rfl) d9_30 rfl (O_q.fld 1 rfl) ?_
    refine w_iconst (pc' := 34) (x := (2 : Int32)) C d9_33 rfl rfl ?_
    refine w_iload (pc' := 36) C d9_34 rfl rfl ?_
    refine w_imul (pc' := 37) C d9_36 rfl ?_
    refine w_eqI (z := (8 : Int32)) (by decide) ?_
    refine wA_laload (pc' := 38) (v := .long (minJ ta tb)) C d9_37 rfl O_la (by decide) rfl ?_
    refine w_aloadN (pc' := 39) C d9_38 rfl rfl rfl ?_
    refine w_getF (pc' := 42) C (tw hw 31 rfl) d9_39 rfl (O_q.fld 1 rfl) ?_
    refine w_iconst (pc' := 43) (x := (2 : Int32)) C d9_42 rfl rfl ?_
    refine w_iload (pc' := 45) C d9_43 rfl rfl ?_
    refine w_imul (pc' := 46) C d9_45 rfl ?_
    refine w_eqI (z := (8 : Int32)) (by decide) ?_
    refine w_iconst (pc' := 47) (x := (1 : Int32)) C d9_46 rfl rfl ?_
    refine w_iadd (pc' := 48) C d9_47 rfl ?_
    refine w_eqI (z := (9 : Int32)) (by decide) ?_
    refine wA_laload (pc' := 49) (v := .long (minJ x EMP)) C d9_48 rfl O_la (by decide) rfl ?_
    refine w_callS (pc' := 52) (argsL := [.long (minJ ta tb), .long (minJ x EMP)]) (st := []) (W := 0) (ce' := 0) (sl' := 0) C (tw hw 58 rfl) (tw hw 59 rfl) (tw hw 7 rfl) (tw hw 60 rfl) (by decide) d9_49 rfl rfl (by decide) (by decide) (Nat.le_of_eq rfl) rfl rfl (by decide) (by decide) rfl (lenOf pd_2 rfl) (ct_minJ hw h2 n0 (minJ ta tb) (minJ x EMP)) (kp ?_)
    refine w_lstore (pc' := 54) (Ls' := #[.val (.ref q), .val (.int (2 : Int32)), .val (.long x), .second, .val (.int (4 : Int32)), .val (.long (minJ (minJ ta tb) (minJ x EMP))), .second]) C d9_52 rfl rfl ?_
    refine w_aloadN (pc' := 55) C d9_54 rfl rfl rfl ?_
    refine w_getF (pc' := 58) C (tw hw 31 rfl) d9_55 rfl (O_q.fld 1 rfl) ?_
    refine w_iload (pc' := 60) C d9_58 rfl rfl ?_
    refine wA_laload (pc' := 61) (v := .long (minJ (minJ ta tb) (minJ tc EMP))) C d9_60 rfl O_la (by decide) rfl ?_
    refine w_lload (pc' := 63) C d9_61 rfl rfl ?_
    refine w_lcmp (pc' := 64) C d9_63 rfl ?_
    refine w_if_ne (pcT := 68) (pcF := 67) C d9_64 (by decide) (by decide) rfl (fun q64 => ?_) (fun q64 => ?_)
    · skip
      refine w_aloadN (pc' := 69) C d9_68 rfl rfl rfl ?_
      refine w_getF (pc' := 72) C (tw hw 31 rfl) d9_69 rfl (O_q.fld 1 rfl) ?_
      refine w_iload (pc' := 74) C d9_72 rfl rfl ?_
      refine w_lload (pc' := 76) C d9_74 rfl rfl ?_
      refine wA_lastore (pc' := 77) C d9_76 rfl g_la O_la (by decide) (Nat.le_of_ble_eq_true rfl) (fun h3 W3 A3 => ?_)
      have O_la : Ar Z h3 la .long [.long EMP, .long (minJ (minJ (minJ (minJ ta tb) (minJ tc EMP)) EMP) EMP), .long (minJ (minJ (minJ ta tb) (minJ tc EMP)) EMP), .long EMP, .long (minJ (minJ ta tb) (minJ x EMP)), .long EMP, .long EMP, .long EMP, .long (minJ ta tb), .long (minJ x EMP), .long EMP, .long EMP, .long EMP, .long EMP, .long EMP, .long EMP, .long ta, .long tb, .long x, .long EMP, .long EMP, .long EMP, .long EMP, .long EMP, .long EMP, .long EMP, .long EMP, .long EMP, .long EMP, .long EMP, .long EMP, .long EMP] := A3
      have O_q := O_q.other W3 ne_q_la
      have O_sa := O_sa.other W3 ne_sa_la
      have hz : n0 ≤ h3.size := by rw [W3.size]; exact hz
      have hk := hk.wr W3 (Or.inl (by simp))
      refine w_goto (pc' := 17) C d9_77 (by decide) (by decide) ?_
      refine w_iload (pc' := 19) C d9_17 rfl rfl ?_
      refine w_iconst (pc' := 20) (x := (1 : Int32)) C d9_19 rfl rfl ?_
      refine w_icmp_le (pcT := 80) (pcF := 23) C d9_20 (by decide) (by decide) rfl (fun q => absurd q (by decide)) (fun q20 => ?_)
      refine w_iload (pc' := 25) C d9_23 rfl rfl ?_
      refine w_iconst (pc' := 26) (x := (2 : Int32)) C d9_25 rfl rfl ?_
      refine w_idiv (pc' := 27) C d9_26 (by decide) rfl ?_
      refine w_eqI (z := (2 : Int32)) (by decide) ?_
      refine w_istore (pc' := 29) (Ls' := #[.val (.ref q), .val (.int (2 : Int32)), .val (.long x), .second, .val (.int (2 : Int32)), .val (.long (minJ (minJ ta tb) (minJ x EMP))), .second]) C d9_27 rfl rfl ?_
      refine w_aloadN (pc' := 30) C d9_29 rfl rfl rfl ?_
      refine w_getF (pc' := 33) C (tw hw 31 rfl) d9_30 rfl (O_q.fld 1 rfl) ?_
      refine w_iconst (pc' := 34) (x := (2 : Int32)) C d9_33 rfl rfl ?_
      refine w_iload (pc' := 36) C d9_34 rfl rfl ?_
      refine w_imul (pc' := 37) C d9_36 rfl ?_
      refine w_eqI (z := (4 : Int32)) (by decide) ?_
      refine wA_laload (pc' := 38) (v := .long (minJ (minJ ta tb) (minJ x EMP))) C d9_37 rfl O_la (by decide) rfl ?_
      refine w_aloadN (pc' := 39) C d9_38 rfl rfl rfl ?_
      refine w_getF (pc' := 42) C (tw hw 31 rfl) d9_39 rfl (O_q.fld 1 rfl) ?_
      refine w_iconst (pc' := 43) (x := (2 : Int32)) C d9_42 rfl rfl ?_
      refine w_iload (pc' := 45) C d9_43 rfl rfl ?_
      refine w_imul (pc' := 46) C d9_45 rfl ?_
      refine w_eqI (z := (4 : Int32)) (by decide) ?_
      refine w_iconst (pc' := 47) (x := (1 : Int32)) C d9_46 rfl rfl ?_
      refine w_iadd (pc' := 48) C d9_47 rfl ?_
      refine w_eqI (z := (5 : Int32)) (by decide) ?_
      refine wA_laload (pc' := 49) (v := .long EMP) C d9_48 rfl O_la (by decide) rfl ?_
      refine w_callS (pc' := 52) (argsL := [.long (minJ (minJ ta tb) (minJ x EMP)), .long EMP]) (st := []) (W := 0) (ce' := 0) (sl' := 0) C (tw hw 58 rfl) (tw hw 59 rfl) (tw hw 7 rfl) (tw hw 60 rfl) (by decide) d9_49 rfl rfl (by decide) (by decide) (Nat.le_of_eq rfl) rfl rfl (by decide) (by decide) rfl (lenOf pd_2 rfl) (ct_minJ hw h3 n0 (minJ (minJ ta tb) (minJ x EMP)) EMP) (kp ?_)
      refine w_lstore (pc' := 54) (Ls' := #[.val (.ref q), .val (.int (2 : Int32)), .val (.long x), .second, .val (.int (2 : Int32)), .val (.long (minJ (minJ (minJ ta tb) (minJ x EMP)) EMP)), .second]) C d9_52 rfl rfl ?_
      refine w_aloadN (pc' := 55) C d9_54 rfl rfl rfl ?_
      refine w_getF (pc' := 58) C (tw hw 31 rfl) d9_55 rfl (O_q.fld 1 rfl) ?_
      refine w_iload (pc' := 60) C d9_58 rfl rfl ?_
      refine wA_laload (pc' := 61) (v := .long (minJ (minJ (minJ ta tb) (minJ tc EMP)) EMP)) C d9_60 rfl O_la (by decide) rfl ?_
      refine w_lload (pc' := 63) C d9_61 rfl rfl ?_
      refine w_lcmp (pc' := 64) C d9_63 rfl ?_
      refine w_if_ne (pcT := 68) (pcF := 67) C d9_64 (by decide) (by decide) rfl (fun q64 => ?_) (fun q64 => ?_)
      · skip
        refine w_aloadN (pc' := 69) C d9_68 rfl rfl rfl ?_
        refine w_getF (pc' := 72) C (tw hw 31 rfl) d9_69 rfl (O_q.fld 1 rfl) ?_
        refine w_iload (pc' := 74) C d9_72 rfl rfl ?_
        refine w_lload (pc' := 76) C d9_74 rfl rfl ?_
        refine wA_lastore (pc' := 77) C d9_76 rfl g_la O_la (by decide) (Nat.le_of_ble_eq_true rfl) (fun h4 W4 A4 => ?_)
        have O_la : Ar Z h4 la .long [.long EMP, .long (minJ (minJ (minJ (minJ ta tb) (minJ tc EMP)) EMP) EMP), .long (minJ (minJ (minJ ta tb) (minJ x EMP)) EMP), .long EMP, .long (minJ (minJ ta tb) (minJ x EMP)), .long EMP, .long EMP, .long EMP, .long (minJ ta tb), .long (minJ x EMP), .long EMP, .long EMP, .long EMP, .long EMP, .long EMP, .long EMP, .long ta, .long tb, .long x, .long EMP, .long EMP, .long EMP, .long EMP, .long EMP, .long EMP, .long EMP, .long EMP, .long EMP, .long EMP, .long EMP, .long EMP, .long EMP] := A4
        have O_q := O_q.other W4 ne_q_la
        have O_sa := O_sa.other W4 ne_sa_la
        have hz : n0 ≤ h4.size := by rw [W4.size]; exact hz
        have hk := hk.wr W4 (Or.inl (by simp))
        refine w_goto (pc' := 17) C d9_77 (by decide) (by decide) ?_
        refine w_iload (pc' := 19) C d9_17 rfl rfl ?_
        refine w_iconst (pc' := 20) (x := (1 : Int32)) C d9_19 rfl rfl ?_
        refine w_icmp_le (pcT := 80) (pcF := 23) C d9_20 (by decide) (by decide) rfl (fun q => absurd q (by decide)) (fun q20 => ?_)
        refine w_iload (pc' := 25) C d9_23 rfl rfl ?_
        refine w_iconst (pc' := 26) (x := (2 : Int32)) C d9_25 rfl rfl ?_
        refine w_idiv (pc' := 27) C d9_26 (by decide) rfl ?_
        refine w_eqI (z := (1 : Int32)) (by decide) ?_
        refine w_istore (pc' := 29) (Ls' := #[.val (.ref q), .val (.int (2 : Int32)), .val (.long x), .second, .val (.int (1 : Int32)), .val (.long (minJ (minJ (minJ ta tb) (minJ x EMP)) EMP)), .second]) C d9_27 rfl rfl ?_
        refine w_aloadN (pc' := 30) C d9_29 rfl rfl rfl ?_
        refine w_getF (pc' := 33) C (tw hw 31 rfl) d9_30 rfl (O_q.fld 1 rfl) ?_
        refine w_iconst (pc' := 34) (x := (2 : Int32)) C d9_33 rfl rfl ?_
        refine w_iload (pc' := 36) C d9_34 rfl rfl ?_
        refine w_imul (pc' := 37) C d9_36 rfl ?_
        refine w_eqI (z := (2 : Int32)) (by decide) ?_
        refine wA_laload (pc' := 38) (v := .long (minJ (minJ (minJ ta tb) (minJ x EMP)) EMP)) C d9_37 rfl O_la (by decide) rfl ?_
        refine w_aloadN (pc' := 39) C d9_38 rfl rfl rfl ?_
        refine w_getF (pc' := 42) C (tw hw 31 rfl) d9_39 rfl (O_q.fld 1 rfl) ?_
        refine w_iconst (pc' := 43) (x := (2 : Int32)) C d9_42 rfl rfl ?_
        refine w_iload (pc' := 45) C d9_43 rfl rfl ?_
        refine w_imul (pc' := 46) C d9_45 rfl ?_
        refine w_eqI (z := (2 : Int32)) (by decide) ?_
        refine w_iconst (pc' := 47) (x := (1 : Int32)) C d9_46 rfl rfl ?_
        refine w_iadd (pc' := 48) C d9_47 rfl ?_
        refine w_eqI (z := (3 : Int32)) (by decide) ?_
        refine wA_laload (pc' := 49) (v := .long EMP) C d9_48 rfl O_la (by decide) rfl ?_
        refine w_callS (pc' := 52) (argsL := [.long (minJ (minJ (minJ ta tb) (minJ x EMP)) EMP), .long EMP]) (st := []) (W := 0) (ce' := 0) (sl' := 0) C (tw hw 58 rfl) (tw hw 59 rfl) (tw hw 7 rfl) (tw hw 60 rfl) (by decide) d9_49 rfl rfl (by decide) (by decide) (Nat.le_of_eq rfl) rfl rfl (by decide) (by decide) rfl (lenOf pd_2 rfl) (ct_minJ hw h4 n0 (minJ (minJ (minJ ta tb) (minJ x EMP)) EMP) EMP) (kp ?_)
        refine w_lstore (pc' := 54) (Ls' := #[.val (.ref q), .val (.int (2 : Int32)), .val (.long x), .second, .val (.int (1 : Int32)), .val (.long (minJ (minJ (minJ (minJ ta tb) (minJ x EMP)) EMP) EMP)), .second]) C d9_52 rfl rfl ?_
        refine w_aloadN (pc' := 55) C d9_54 rfl rfl rfl ?_
        refine w_getF (pc' := 58) C (tw hw 31 rfl) d9_55 rfl (O_q.fld 1 rfl) ?_
        refine w_iload (pc' := 60) C d9_58 rfl rfl ?_
        refine wA_laload (pc' := 61) (v := .long (minJ (minJ (minJ (minJ ta tb) (minJ tc EMP)) EMP) EMP)) C d9_60 rfl O_la (by decide) rfl ?_
        refine w_lload (pc' := 63) C d9_61 rfl rfl ?_
        refine w_lcmp (pc' := 64) C d9_63 rfl ?_
        refine w_if_ne (pcT := 68) (pcF := 67) C d9_64 (by decide) (by decide) rfl (fun q64 => ?_) (fun q64 => ?_)
        · skip
          refine w_aloadN (pc' := 69) C d9_68 rfl rfl rfl ?_
          refine w_getF (pc' := 72) C (tw hw 31 rfl) d9_69 rfl (O_q.fld 1 rfl) ?_
          refine w_iload (pc' := 74) C d9_72 rfl rfl ?_
          refine w_lload (pc' := 76) C d9_74 rfl rfl ?_
          refine wA_lastore (pc' := 77) C d9_76 rfl g_la O_la (by decide) (Nat.le_of_ble_eq_true rfl) (fun h5 W5 A5 => ?_)
          have O_la : Ar Z h5 la .long [.long EMP, .long (minJ (minJ (minJ (minJ ta tb) (minJ x EMP)) EMP) EMP), .long (minJ (minJ (minJ ta tb) (minJ x EMP)) EMP), .long EMP, .long (minJ (minJ ta tb) (minJ x EMP)), .long EMP, .long EMP, .long EMP, .long (minJ ta tb), .long (minJ x EMP), .long EMP, .long EMP, .long EMP, .long EMP, .long EMP, .long EMP, .long ta, .long tb, .long x, .long EMP, .long EMP, .long EMP, .long EMP, .long EMP, .long EMP, .long EMP, .long EMP, .long EMP, .long EMP, .long EMP, .long EMP, .long EMP] := A5
          have O_q := O_q.other W5 ne_q_la
          have O_sa := O_sa.other W5 ne_sa_la
          have hz : n0 ≤ h5.size := by rw [W5.size]; exact hz
          have hk := hk.wr W5 (Or.inl (by simp))
          refine w_goto (pc' := 17) C d9_77 (by decide) (by decide) ?_
          refine w_iload (pc' := 19) C d9_17 rfl rfl ?_
          refine w_iconst (pc' := 20) (x := (1 : Int32)) C d9_19 rfl rfl ?_
          refine w_icmp_le (pcT := 80) (pcF := 23) C d9_20 (by decide) (by decide) rfl (fun q20 => ?_) (fun q => absurd q (by decide))
          refine w_ret0 C rfl d9_80 (by decide) (by decide) ?_
          exact ⟨rfl, O_la, hk⟩
        · skip
          refine w_ret0 C rfl d9_67 (by decide) (by decide) ?_
          have e := (cmpJ_eq _ _).mp q64
          exact ⟨rfl, (by unfold tr3; rw [← e]; exact O_la), hk⟩
      · skip
        refine w_ret0 C rfl d9_67 (by decide) (by decide) ?_
        have e := (cmpJ_eq _ _).mp q64
        exact ⟨rfl, (by unfold tr3; rw [← e]; exact O_la), hk⟩
    · skip
      refine w_ret0 C rfl d9_67 (by decide) (by decide) ?_
      have e := (cmpJ_eq _ _).mp q64
      exact ⟨rfl, (by unfold tr3; rw [← e]; exact O_la), hk⟩
  · skip
    refine w_ret0 C rfl d9_67 (by decide) (by decide) ?_
    have e := (cmpJ_eq _ _).mp q64
    exact ⟨rfl, (by unfold tr3; rw [← e]; exact O_la), hk⟩
theorem d8_0 : decode prog_14_method_2_code 0 = .ok (.aload_n 0, 1) := by decide +kernel
theorem d8_1 : decode prog_14_method_2_code 1 = .ok (.getfield 25, 3) := by decide +kernel
theorem d8_4 : decode prog_14_method_2_code 4 = .ok (.aload_n 0, 1) := by decide +kernel
theorem d8_5 : decode prog_14_method_2_code 5 = .ok (.getfield 13, 3) := by decide +kernel
theorem d8_8 : decode prog_14_method_2_code 8 = .ok (.arraylength, 1) := by decide +kernel
theorem d8_9 : decode prog_14_method_2_code 9 = .ok (.if_icmp .ne 7, 3) := by decide +kernel
theorem d8_16 : decode prog_14_method_2_code 16 = .ok (.aload_n 1, 1) := by decide +kernel
theorem d8_17 : decode prog_14_method_2_code 17 = .ok (.astore_n 2, 1) := by decide +kernel
theorem d8_18 : decode prog_14_method_2_code 18 = .ok (.aload_n 2, 1) := by decide +kernel
theorem d8_19 : decode prog_14_method_2_code 19 = .ok (.aload_n 0, 1) := by decide +kernel
theorem d8_20 : decode prog_14_method_2_code 20 = .ok (.getfield 25, 3) := by decide +kernel
theorem d8_23 : decode prog_14_method_2_code 23 = .ok (.putfield 32, 3) := by decide +kernel
theorem d8_26 : decode prog_14_method_2_code 26 = .ok (.aload_n 0, 1) := by decide +kernel
theorem d8_27 : decode prog_14_method_2_code 27 = .ok (.getfield 13, 3) := by decide +kernel
theorem d8_30 : decode prog_14_method_2_code 30 = .ok (.aload_n 0, 1) := by decide +kernel
theorem d8_31 : decode prog_14_method_2_code 31 = .ok (.getfield 25, 3) := by decide +kernel
theorem d8_34 : decode prog_14_method_2_code 34 = .ok (.aload_n 2, 1) := by decide +kernel
theorem d8_35 : decode prog_14_method_2_code 35 = .ok (.aastore, 1) := by decide +kernel
theorem d8_36 : decode prog_14_method_2_code 36 = .ok (.aload_n 0, 1) := by decide +kernel
theorem d8_37 : decode prog_14_method_2_code 37 = .ok (.aload_n 0, 1) := by decide +kernel
theorem d8_38 : decode prog_14_method_2_code 38 = .ok (.getfield 25, 3) := by decide +kernel
theorem d8_41 : decode prog_14_method_2_code 41 = .ok (.aload_n 2, 1) := by decide +kernel
theorem d8_42 : decode prog_14_method_2_code 42 = .ok (.getfield 35, 3) := by decide +kernel
theorem d8_45 : decode prog_14_method_2_code 45 = .ok (.i2l, 1) := by decide +kernel
theorem d8_46 : decode prog_14_method_2_code 46 = .ok (.invokevirtual 38, 3) := by decide +kernel
theorem d8_49 : decode prog_14_method_2_code 49 = .ok (.aload_n 0, 1) := by decide +kernel
theorem d8_50 : decode prog_14_method_2_code 50 = .ok (.dup, 1) := by decide +kernel
theorem d8_51 : decode prog_14_method_2_code 51 = .ok (.getfield 25, 3) := by decide +kernel
theorem d8_54 : decode prog_14_method_2_code 54 = .ok (.iconst 1, 1) := by decide +kernel
theorem d8_55 : decode prog_14_method_2_code 55 = .ok (.iadd, 1) := by decide +kernel
theorem d8_56 : decode prog_14_method_2_code 56 = .ok (.putfield 25, 3) := by decide +kernel
theorem d8_59 : decode prog_14_method_2_code 59 = .ok (.aload_n 0, 1) := by decide +kernel
theorem d8_60 : decode prog_14_method_2_code 60 = .ok (.dup, 1) := by decide +kernel
theorem d8_61 : decode prog_14_method_2_code 61 = .ok (.getfield 42, 3) := by decide +kernel
theorem d8_64 : decode prog_14_method_2_code 64 = .ok (.iconst 1, 1) := by decide +kernel
theorem d8_65 : decode prog_14_method_2_code 65 = .ok (.iadd, 1) := by decide +kernel
theorem d8_66 : decode prog_14_method_2_code 66 = .ok (.putfield 42, 3) := by decide +kernel
theorem d8_69 : decode prog_14_method_2_code 69 = .ok (.return_, 1) := by decide +kernel
def rm_add0 : Room := { frames := 2, cells := 0, slots := 0, locals := 33 }
theorem pf_add0 : plainFor (⟨"tallygate/RequestQueue", "add", "(Ltallygate/RequestQueue$Entry;)V"⟩ : MethodName) = true := plainFor_of_name (by first | (simp [plainName, overriddenIn]; done) | decide +kernel)
set_option maxRecDepth 65536 in
set_option maxHeartbeats 40000000 in
theorem ct_add0 {l : Launch} {Z : State} {a0 : Array Value} (hw : ∀ d ∈ tables_1, d.before a0 Z = true) (h0 : Heap) (n0 : Nat) (q : Addr) (ee : Addr) (sa : Addr) (la : Addr) (sz : Int32) (pp : Int32) (sl : Int32) (s0 : Value) (s1 : Value) (s2 : Value) (ta : Int64) (tb : Int64) (tc : Int64) (hz : n0 ≤ h0.size) (O_q : Obj Z h0 q "tallygate/RequestQueue" [("slots", "[Ltallygate/RequestQueue$Entry;", .ref sa), ("least", "[J", .ref la), ("end", "I", .int (0 : Int32)), ("size", "I", .int sz)]) (O_sa : ArR Z h0 sa "tallygate/RequestQueue$Entry" (sl3 s0 s1 s2)) (O_la : Ar Z h0 la .long (tr3 ta tb tc)) (O_ee : Obj Z h0 ee "tallygate/RequestQueue$Entry" [("slot", "I", .int sl), ("permits", "I", .int pp)]) (g_q : n0 ≤ q) (g_sa : n0 ≤ sa) (g_la : n0 ≤ la) (g_ee : n0 ≤ ee) (ne_q_sa : q ≠ sa) (ne_q_la : q ≠ la) (ne_sa_la : sa ≠ la) (ne_ee_q : ee ≠ q) (ne_ee_sa : ee ≠ sa) (ne_ee_la : ee ≠ la) :
    Ct l Z (⟨"tallygate/RequestQueue", "add", "(Ltallygate/RequestQueue$Entry;)V"⟩ : MethodName) prog_14_method_2_code 3 (Option.none : Option Jvm.ClassFile.FieldType) [] rm_add0 #[.ref q, .ref ee] h0 n0 (fun v h => v = none ∧ Obj Z h q "tallygate/RequestQueue" [("slots", "[Ltallygate/RequestQueue$Entry;", .ref sa), ("least", "[J", .ref la), ("end", "I", .int (1 : Int32)), ("size", "I", .int (sz + (1 : Int32)))] ∧ ArR Z h sa "tallygate/RequestQueue$Entry" (sl3 (.ref ee) s1 s2) ∧ Ar Z h la .long (tr3 (pp.toInt64) tb tc) ∧ Obj Z h ee "tallygate/RequestQueue$Entry" [("slot", "I", .int (0 : Int32)), ("permits", "I", .int pp)] ∧ Keep h0 h [q, sa, la, ee]) := by
  refine Ct.of (Ls := #[.val (.ref q), .val (.ref ee), .unset]) pf_add0 (fun m => by first | (simp [entryFrame, mkF, argsToLocals, Value.category, maxLocals]; done) | rfl) ?_
  intro p e s m below meth c C
  have hk : Keep h0 h0 [q, sa, la, ee] := Keep.refl _ _
  have O_sa : ArR Z h0 sa "tallygate/RequestQueue$Entry" [s0, s1, s2, .null, .null, .null, .null, .null, .null, .null, .null, .null, .null, .null, .null, .null] := O_sa
  refine w_aloadN (pc' := 1) C d8_0 rfl rfl rfl ?_
  refine w_getF (pc' := 4) C (tw hw 49 rfl) d8_1 rfl (O_q.fld 2 rfl) ?_
  refine w_aloadN (pc' := 5) C d8_4 rfl rfl rfl ?_
  refine w_getF (pc' := 8) C (tw hw 20 rfl) d8_5 rfl (O_q.fld 0 rfl) ?_
  refine wA_alenR (pc' := 9) (n := (16 : Int32)) C d8_8 rfl O_sa rfl ?_
  refine w_icmp_ne (pcT := 16) (pcF := 12) C d8_9 (by decide) (by decide) rfl (fun q9 => ?_) (fun q => absurd q (by decide))
  refine w_aloadN (pc' := 17) C d8_16 rfl rfl rfl ?_
  refine w_astoreN (pc' := 18) (Ls' := #[.val (.ref q), .val (.ref ee), .val (.ref ee)]) C d8_17 rfl rfl rfl ?_
  refine w_aloadN (pc' := 19) C d8_18 rfl rfl rfl ?_
  refine w_aloadN (pc' := 20) C d8_19 rfl rfl rfl ?_
  refine w_getF (pc' := 23) C (tw hw 49 rfl) d8_20 rfl (O_q.fld 2 rfl) ?_
  refine w_putFR (pc' := 26) (ty := .int) C (tw hw 51 rfl) (tw hw 41 rfl) (tw hw 34 rfl) (by decide) rfl rfl d8_23 rfl g_ee (O_ee.fld 0 rfl) O_ee.1 (fun h1 W1 => ?_)
  have O_ee : Obj Z h1 ee "tallygate/RequestQueue$Entry" [("slot", "I", .int (0 : Int32)), ("permits", "I", .int pp)] := O_ee.put 0 rfl W1 rfl
  have O_q := O_q.other W1 (Ne.symm ne_ee_q)
  have O_sa := O_sa.other W1 (Ne.symm ne_ee_sa)
  have O_la := O_la.other W1 (Ne.symm ne_ee_la)
  have hz : n0 ≤ h1.size := by rw [W1.size]; exact hz
  have hk := hk.wr W1 (Or.inl (by simp))
  refine w_aloadN (pc' := 27) C d8_26 rfl rfl rfl ?_
  refine w_getF (pc' := 30) C (tw hw 20 rfl) d8_27 rfl (O_q.fld 0 rfl) ?_
  refine w_aloadN (pc' := 31) C d8_30 rfl rfl rfl ?_
  refine w_getF (pc' := 34) C (tw hw 49 rfl) d8_31 rfl (O_q.fld 2 rfl) ?_
  refine w_aloadN (pc' := 35) C d8_34 rfl rfl rfl ?_
  refine wA_aastore (pc' := 36) C d8_35 rfl g_sa O_sa (by decide) (Nat.le_of_ble_eq_true rfl) (O_sa.sto O_ee.1) (fun h2 W2 A2 => ?_)
  have O_sa : ArR Z h2 sa "tallygate/RequestQueue$Entry" [.ref ee, s1, s2, .null, .null, .null, .null, .null, .null, .null, .null, .null, .null, .null, .null, .null] := A2
  have O_q := O_q.other W2 ne_q_sa
  have O_la := O_la.other W2 (Ne.symm ne_sa_la)
  have O_ee := O_ee.other W2 ne_ee_sa
  have hz : n0 ≤ h2.size := by rw [W2.size]; exact hz
  have hk := hk.wr W2 (Or.inl (by simp))
  refine w_aloadN (pc' := 37) C d8_36 rfl rfl rfl ?_
  refine w_aloadN (pc' := 38) C d8_37 rfl rfl rfl ?_
  refine w_getF (pc' := 41) C (tw hw 49 rfl) d8_38 rfl (O_q.fld 2 rfl) ?_
  refine w_aloadN (pc' := 42) C d8_41 rfl rfl rfl ?_
  refine w_getF (pc' := 45) C (tw hw 53 rfl) d8_42 rfl (O_ee.fld 1 rfl) ?_
  refine w_i2l (pc' := 46) C d8_45 rfl ?_
  refine w_callP (pc' := 49) (argsL := [.int (0 : Int32), .long (pp.toInt64)]) (st := []) (W := 0) (ce' := 0) (sl' := 0) C (tw hw 54 rfl) (tw hw 55 rfl) (tw hw 10 rfl) (tw hw 56 rfl) (tw hw 11 rfl) (tw hw 57 rfl) (by decide) d8_46 rfl rfl (by decide) (by decide) (Nat.le_of_eq rfl) rfl rfl (by decide) (by decide) rfl (lenOf pd_3 rfl) O_q.1 (ct_setLeaf0 hw h2 n0 q (pp.toInt64) sa la (0 : Int32) sz [.ref ee, s1, s2, .null, .null, .null, .null, .null, .null, .null, .null, .null, .null, .null, .null, .null] ta tb tc hz rfl O_q O_sa O_la g_la ne_q_la ne_sa_la) (k0 (fun h3 q3 => ?_))
  obtain ⟨P_la, K3⟩ := q3
  have O_q := O_q.keep K3 (ninS ne_q_la nin0)
  have O_sa := O_sa.keep K3 (ninS ne_sa_la nin0)
  have O_ee := O_ee.keep K3 (ninS ne_ee_la nin0)
  have hz : n0 ≤ h3.size := Nat.le_trans hz K3.1
  have hk := Keep.app hk K3 (fun x hx => Or.inl hx) (allS (Or.inl (by simp)) all0)
  have O_la := P_la
  refine w_aloadN (pc' := 50) C d8_49 rfl rfl rfl ?_
  refine w_dup (pc' := 51) C d8_50 rfl rfl ?_
  refine w_getF (pc' := 54) C (tw hw 49 rfl) d8_51 rfl (O_q.fld 2 rfl) ?_
  refine w_iconst (pc' := 55) (x := (1 : Int32)) C d8_54 rfl rfl ?_
  refine w_iadd (pc' := 56) C d8_55 rfl ?_
  refine w_eqI (z := (1 : Int32)) (by decide) ?_
  refine w_putF (pc' := 59) (ty := .int) C (tw hw 49 rfl) (Or.inl (tw hw 50 rfl)) (tw hw 10 rfl) (by decide) rfl rfl d8_56 rfl g_q (O_q.fld 2 rfl) O_q.1 (fun h4 W4 => ?_)
  have O_q : Obj Z h4 q "tallygate/RequestQueue" [("slots", "[Ltallygate/RequestQueue$Entry;", .ref sa), ("least", "[J", .ref la), ("end", "I", .int (1 : Int32)), ("size", "I", .int sz)] := O_q.put 2 rfl W4 rfl
  have O_sa := O_sa.other W4 (Ne.symm ne_q_sa)
  have O_ee := O_ee.other W4 ne_ee_q
  have O_la := O_la.other W4 (Ne.symm ne_q_la)
  have hz : n0 ≤ h4.size := by rw [W4.size]; exact hz
  have hk := hk.wr W4 (Or.inl (by simp))
  refine w_aloadN (pc' := 60) C d8_59 rfl rfl rfl ?_
  refine w_dup (pc' := 61) C d8_60 rfl rfl ?_
  refine w_getF (pc' := 64) C (tw hw 61 rfl) d8_61 rfl (O_q.fld 3 rfl) ?_
  refine w_iconst (pc' := 65) (x := (1 : Int32)) C d8_64 rfl rfl ?_
  refine w_iadd (pc' := 66) C d8_65 rfl ?_
  refine w_putF (pc' := 69) (ty := .int) C (tw hw 61 rfl) (Or.inl (tw hw 62 rfl)) (tw hw 10 rfl) (by decide) rfl rfl d8_66 rfl g_q (O_q.fld 3 rfl) O_q.1 (fun h5 W5 => ?_)
  have O_q : Obj Z h5 q "tallygate/RequestQueue" [("slots", "[Ltallygate/RequestQueue$Entry;", .ref sa), ("least", "[J", .ref la), ("end", "I", .int (1 : Int32)), ("size", "I", .int (sz + (1 : Int32)))] := O_q.put 3 rfl W5 rfl
  have O_sa := O_sa.other W5 (Ne.symm ne_q_sa)
  have O_ee := O_ee.other W5 ne_ee_q
  have O_la := O_la.other W5 (Ne.symm ne_q_la)
  have hz : n0 ≤ h5.size := by rw [W5.size]; exact hz
  have hk := hk.wr W5 (Or.inl (by simp))
  refine w_ret0 C rfl d8_69 (by decide) (by decide) ?_
  exact ⟨rfl, O_q, O_sa, O_la, O_ee, hk⟩
def rm_add1 : Room := { frames := 2, cells := 0, slots := 0, locals := 33 }
theorem pf_add1 : plainFor (⟨"tallygate/RequestQueue", "add", "(Ltallygate/RequestQueue$Entry;)V"⟩ : MethodName) = true := plainFor_of_name (by first | (simp [plainName, overriddenIn]; done) | decide +kernel)
set_option maxRecDepth 65536 in
set_option maxHeartbeats 40000000 in
theorem ct_add1 {l : Launch} {Z : State} {a0 : Array Value} (hw : ∀ d ∈ tables_1, d.before a0 Z = true) (h0 : Heap) (n0 : Nat) (q : Addr) (ee : Addr) (sa : Addr) (la : Addr) (sz : Int32) (pp : Int32) (sl : Int32) (s0 : Value) (s1 : Value) (s2 : Value) (ta : Int64) (tb : Int64) (tc : Int64) (hz : n0 ≤ h0.size) (O_q : Obj Z h0 q "tallygate/RequestQueue" [("slots", "[Ltallygate/RequestQueue$Entry;", .ref sa), ("least", "[J", .ref la), ("end", "I", .int (1 : Int32)), ("size", "I", .int sz)]) (O_sa : ArR Z h0 sa "tallygate/RequestQueue$Entry" (sl3 s0 s1 s2)) (O_la : Ar Z h0 la .long (tr3 ta tb tc)) (O_ee : Obj Z h0 ee "tallygate/RequestQueue$Entry" [("slot", "I", .int sl), ("permits", "I", .int pp)]) (g_q : n0 ≤ q) (g_sa : n0 ≤ sa) (g_la : n0 ≤ la) (g_ee : n0 ≤ ee) (ne_q_sa : q ≠ sa) (ne_q_la : q ≠ la) (ne_sa_la : sa ≠ la) (ne_ee_q : ee ≠ q) (ne_ee_sa : ee ≠ sa) (ne_ee_la : ee ≠ la) :
    Ct l Z (⟨"tallygate/RequestQueue", "add", "(Ltallygate/RequestQueue$Entry;)V"⟩ : MethodName) prog_14_method_2_code 3 (Option.none : Option Jvm.ClassFile.FieldType) [] rm_add1 #[.ref q, .ref ee] h0 n0 (fun v h => v = none ∧ Obj Z h q "tallygate/RequestQueue" [("slots", "[Ltallygate/RequestQueue$Entry;", .ref sa), ("least", "[J", .ref la), ("end", "I", .int (2 : Int32)), ("size", "I", .int (sz + (1 : Int32)))] ∧ ArR Z h sa "tallygate/RequestQueue$Entry" (sl3 s0 (.ref ee) s2) ∧ Ar Z h la .long (tr3 ta (pp.toInt64) tc) ∧ Obj Z h ee "tallygate/RequestQueue$Entry" [("slot", "I", .int (1 : Int32)), ("permits", "I", .int pp)] ∧ Keep h0 h [q, sa, la, ee]) := by
  refine Ct.of (Ls := #[.val (.ref q), .val (.ref ee), .unset]) pf_add1 (fun m => by first | (simp [entryFrame, mkF, argsToLocals, Value.category, maxLocals]; done) | rfl) ?_
  intro p e s m below meth c C
  have hk : Keep h0 h0 [q, sa, la, ee] := Keep.refl _ _
  have O_sa : ArR Z h0 sa "tallygate/RequestQueue$Entry" [s0, s1, s2, .null, .null, .null, .null, .null, .null, .null, .null, .null, .null, .null, .null, .null] := O_sa
  refine w_aloadN (pc' := 1) C d8_0 rfl rfl rfl ?_
  refine w_getF (pc' := 4) C (tw hw 49 rfl) d8_1 rfl (O_q.fld 2 rfl) ?_
  refine w_aloadN (pc' := 5) C d8_4 rfl rfl rfl ?_
  refine w_getF (pc' := 8) C (tw hw 20 rfl) d8_5 rfl (O_q.fld 0 rfl) ?_
  refine wA_alenR (pc' := 9) (n := (16 : Int32)) C d8_8 rfl O_sa rfl ?_
  refine w_icmp_ne (pcT := 16) (pcF := 12) C d8_9 (by decide) (by decide) rfl (fun q9 => ?_) (fun q => absurd q (by decide))
  refine w_aloadN (pc' := 17) C d8_16 rfl rfl rfl ?_
  refine w_astoreN (pc' := 18) (Ls' := #[.val (.ref q), .val (.ref ee), .val (.ref ee)]) C d8_17 rfl rfl rfl ?_
  refine w_aloadN (pc' := 19) C d8_18 rfl rfl rfl ?_
  refine w_aloadN (pc' := 20) C d8_19 rfl rfl rfl ?_
  refine w_getF (pc' := 23) C (tw hw 49 rfl) d8_20 rfl (O_q.fld 2 rfl) ?_
  refine w_putFR (pc' := 26) (ty := .int) C (tw hw 51 rfl) (tw hw 41 rfl) (tw hw 34 rfl) (by decide) rfl rfl d8_23 rfl g_ee (O_ee.fld 0 rfl) O_ee.1 (fun h1 W1 => ?_)
  have O_ee : Obj Z h1 ee "tallygate/RequestQueue$Entry" [("slot", "I", .int (1 : Int32)), ("permits", "I", .int pp)] := O_ee.put 0 rfl W1 rfl
  have O_q := O_q.other W1 (Ne.symm ne_ee_q)
  have O_sa := O_sa.other W1 (Ne.symm ne_ee_sa)
  have O_la := O_la.other W1 (Ne.symm ne_ee_la)
  have hz : n0 ≤ h1.size := by rw [W1.size]; exact hz
  have hk := hk.wr W1 (Or.inl (by simp))
  refine w_aloadN (pc' := 27) C d8_26 rfl rfl rfl ?_
  refine w_getF (pc' := 30) C (tw hw 20 rfl) d8_27 rfl (O_q.fld 0 rfl) ?_
  refine w_aloadN (pc' := 31) C d8_30 rfl rfl rfl ?_
  refine w_getF (pc' := 34) C (tw hw 49 rfl) d8_31 rfl (O_q.fld 2 rfl) ?_
  refine w_aloadN (pc' := 35) C d8_34 rfl rfl rfl ?_
  refine wA_aastore (pc' := 36) C d8_35 rfl g_sa O_sa (by decide) (Nat.le_of_ble_eq_true rfl) (O_sa.sto O_ee.1) (fun h2 W2 A2 => ?_)
  have O_sa : ArR Z h2 sa "tallygate/RequestQueue$Entry" [s0, .ref ee, s2, .null, .null, .null, .null, .null, .null, .null, .null, .null, .null, .null, .null, .null] := A2
  have O_q := O_q.other W2 ne_q_sa
  have O_la := O_la.other W2 (Ne.symm ne_sa_la)
  have O_ee := O_ee.other W2 ne_ee_sa
  have hz : n0 ≤ h2.size := by rw [W2.size]; exact hz
  have hk := hk.wr W2 (Or.inl (by simp))
  refine w_aloadN (pc' := 37) C d8_36 rfl rfl rfl ?_
  refine w_aloadN (pc' := 38) C d8_37 rfl rfl rfl ?_
  refine w_getF (pc' := 41) C (tw hw 49 rfl) d8_38 rfl (O_q.fld 2 rfl) ?_
  refine w_aloadN (pc' := 42) C d8_41 rfl rfl rfl ?_
  refine w_getF (pc' := 45) C (tw hw 53 rfl) d8_42 rfl (O_ee.fld 1 rfl) ?_
  refine w_i2l (pc' := 46) C d8_45 rfl ?_
  refine w_callP (pc' := 49) (argsL := [.int (1 : Int32), .long (pp.toInt64)]) (st := []) (W := 0) (ce' := 0) (sl' := 0) C (tw hw 54 rfl) (tw hw 55 rfl) (tw hw 10 rfl) (tw hw 56 rfl) (tw hw 11 rfl) (tw hw 57 rfl) (by decide) d8_46 rfl rfl (by decide) (by decide) (Nat.le_of_eq rfl) rfl rfl (by decide) (by decide) rfl (lenOf pd_3 rfl) O_q.1 (ct_setLeaf1 hw h2 n0 q (pp.toInt64) sa la (1 : Int32) sz [s0, .ref ee, s2, .null, .null, .null, .null, .null, .null, .null, .null, .null, .null, .null, .null, .null] ta tb tc hz rfl O_q O_sa O_la g_la ne_q_la ne_sa_la) (k0 (fun h3 q3 => ?_))
  obtain ⟨P_la, K3⟩ := q3
  have O_q := O_q.keep K3 (ninS ne_q_la nin0)
  have O_sa := O_sa.keep K3 (ninS ne_sa_la nin0)
  have O_ee := O_ee.keep K3 (ninS ne_ee_la nin0)
  have hz : n0 ≤ h3.size := Nat.le_trans hz K3.1
  have hk := Keep.app hk K3 (fun x hx => Or.inl hx) (allS (Or.inl (by simp)) all0)
  have O_la := P_la
  refine w_aloadN (pc' := 50) C d8_49 rfl rfl rfl ?_
  refine w_dup (pc' := 51) C d8_50 rfl rfl ?_
  refine w_getF (pc' := 54) C (tw hw 49 rfl) d8_51 rfl (O_q.fld 2 rfl) ?_
  refine w_iconst (pc' := 55) (x := (1 : Int32)) C d8_54 rfl rfl ?_
  refine w_iadd (pc' := 56) C d8_55 rfl ?_
  refine w_eqI (z := (2 : Int32)) (by decide) ?_
  refine w_putF (pc' := 59) (ty := .int) C (tw hw 49 rfl) (Or.inl (tw hw 50 rfl)) (tw hw 10 rfl) (by decide) rfl rfl d8_56 rfl g_q (O_q.fld 2 rfl) O_q.1 (fun h4 W4 => ?_)
  have O_q : Obj Z h4 q "tallygate/RequestQueue" [("slots", "[Ltallygate/RequestQueue$Entry;", .ref sa), ("least", "[J", .ref la), ("end", "I", .int (2 : Int32)), ("size", "I", .int sz)] := O_q.put 2 rfl W4 rfl
  have O_sa := O_sa.other W4 (Ne.symm ne_q_sa)
  have O_ee := O_ee.other W4 ne_ee_q
  have O_la := O_la.other W4 (Ne.symm ne_q_la)
  have hz : n0 ≤ h4.size := by rw [W4.size]; exact hz
  have hk := hk.wr W4 (Or.inl (by simp))
  refine w_aloadN (pc' := 60) C d8_59 rfl rfl rfl ?_
  refine w_dup (pc' := 61) C d8_60 rfl rfl ?_
  refine w_getF (pc' := 64) C (tw hw 61 rfl) d8_61 rfl (O_q.fld 3 rfl) ?_
  refine w_iconst (pc' := 65) (x := (1 : Int32)) C d8_64 rfl rfl ?_
  refine w_iadd (pc' := 66) C d8_65 rfl ?_
  refine w_putF (pc' := 69) (ty := .int) C (tw hw 61 rfl) (Or.inl (tw hw 62 rfl)) (tw hw 10 rfl) (by decide) rfl rfl d8_66 rfl g_q (O_q.fld 3 rfl) O_q.1 (fun h5 W5 => ?_)
  have O_q : Obj Z h5 q "tallygate/RequestQueue" [("slots", "[Ltallygate/RequestQueue$Entry;", .ref sa), ("least", "[J", .ref la), ("end", "I", .int (2 : Int32)), ("size", "I", .int (sz + (1 : Int32)))] := O_q.put 3 rfl W5 rfl
  have O_sa := O_sa.other W5 (Ne.symm ne_q_sa)
  have O_ee := O_ee.other W5 ne_ee_q
  have O_la := O_la.other W5 (Ne.symm ne_q_la)
  have hz : n0 ≤ h5.size := by rw [W5.size]; exact hz
  have hk := hk.wr W5 (Or.inl (by simp))
  refine w_ret0 C rfl d8_69 (by decide) (by decide) ?_
  exact ⟨rfl, O_q, O_sa, O_la, O_ee, hk⟩
def rm_add2 : Room := { frames := 2, cells := 0, slots := 0, locals := 33 }
theorem pf_add2 : plainFor (⟨"tallygate/RequestQueue", "add", "(Ltallygate/RequestQueue$Entry;)V"⟩ : MethodName) = true := plainFor_of_name (by first | (simp [plainName, overriddenIn]; done) | decide +kernel)
set_option maxRecDepth 65536 in
set_option maxHeartbeats 40000000 in
theorem ct_add2 {l : Launch} {Z : State} {a0 : Array Value} (hw : ∀ d ∈ tables_1, d.before a0 Z = true) (h0 : Heap) (n0 : Nat) (q : Addr) (ee : Addr) (sa : Addr) (la : Addr) (sz : Int32) (pp : Int32) (sl : Int32) (s0 : Value) (s1 : Value) (s2 : Value) (ta : Int64) (tb : Int64) (tc : Int64) (hz : n0 ≤ h0.size) (O_q : Obj Z h0 q "tallygate/RequestQueue" [("slots", "[Ltallygate/RequestQueue$Entry;", .ref sa), ("least", "[J", .ref la), ("end", "I", .int (2 : Int32)), ("size", "I", .int sz)]) (O_sa : ArR Z h0 sa "tallygate/RequestQueue$Entry" (sl3 s0 s1 s2)) (O_la : Ar Z h0 la .long (tr3 ta tb tc)) (O_ee : Obj Z h0 ee "tallygate/RequestQueue$Entry" [("slot", "I", .int sl), ("permits", "I", .int pp)]) (g_q : n0 ≤ q) (g_sa : n0 ≤ sa) (g_la : n0 ≤ la) (g_ee : n0 ≤ ee) (ne_q_sa : q ≠ sa) (ne_q_la : q ≠ la) (ne_sa_la : sa ≠ la) (ne_ee_q : ee ≠ q) (ne_ee_sa : ee ≠ sa) (ne_ee_la : ee ≠ la) :
    Ct l Z (⟨"tallygate/RequestQueue", "add", "(Ltallygate/RequestQueue$Entry;)V"⟩ : MethodName) prog_14_method_2_code 3 (Option.none : Option Jvm.ClassFile.FieldType) [] rm_add2 #[.ref q, .ref ee] h0 n0 (fun v h => v = none ∧ Obj Z h q "tallygate/RequestQueue" [("slots", "[Ltallygate/RequestQueue$Entry;", .ref sa), ("least", "[J", .ref la), ("end", "I", .int (3 : Int32)), ("size", "I", .int (sz + (1 : Int32)))] ∧ ArR Z h sa "tallygate/RequestQueue$Entry" (sl3 s0 s1 (.ref ee)) ∧ Ar Z h la .long (tr3 ta tb (pp.toInt64)) ∧ Obj Z h ee "tallygate/RequestQueue$Entry" [("slot", "I", .int (2 : Int32)), ("permits", "I", .int pp)] ∧ Keep h0 h [q, sa, la, ee]) := by
  refine Ct.of (Ls := #[.val (.ref q), .val (.ref ee), .unset]) pf_add2 (fun m => by first | (simp [entryFrame, mkF, argsToLocals, Value.category, maxLocals]; done) | rfl) ?_
  intro p e s m below meth c C
  have hk : Keep h0 h0 [q, sa, la, ee] := Keep.refl _ _
  have O_sa : ArR Z h0 sa "tallygate/RequestQueue$Entry" [s0, s1, s2, .null, .null, .null, .null, .null, .null, .null, .null, .null, .null, .null, .null, .null] := O_sa
  refine w_aloadN (pc' := 1) C d8_0 rfl rfl rfl ?_
  refine w_getF (pc' := 4) C (tw hw 49 rfl) d8_1 rfl (O_q.fld 2 rfl) ?_
  refine w_aloadN (pc' := 5) C d8_4 rfl rfl rfl ?_
  refine w_getF (pc' := 8) C (tw hw 20 rfl) d8_5 rfl (O_q.fld 0 rfl) ?_
  refine wA_alenR (pc' := 9) (n := (16 : Int32)) C d8_8 rfl O_sa rfl ?_
  refine w_icmp_ne (pcT := 16) (pcF := 12) C d8_9 (by decide) (by decide) rfl (fun q9 => ?_) (fun q => absurd q (by decide))
  refine w_aloadN (pc' := 17) C d8_16 rfl rfl rfl ?_
  refine w_astoreN (pc' := 18) (Ls' := #[.val (.ref q), .val (.ref ee), .val (.ref ee)]) C d8_17 rfl rfl rfl ?_
  refine w_aloadN (pc' := 19) C d8_18 rfl rfl rfl ?_
  refine w_aloadN (pc' := 20) C d8_19 rfl rfl rfl ?_
  refine w_getF (pc' := 23) C (tw hw 49 rfl) d8_20 rfl (O_q.fld 2 rfl) ?_
  refine w_putFR (pc' := 26) (ty := .int) C (tw hw 51 rfl) (tw hw 41 rfl) (tw hw 34 rfl) (by decide) rfl rfl d8_23 rfl g_ee (O_ee.fld 0 rfl) O_ee.1 (fun h1 W1 => ?_)
  have O_ee : Obj Z h1 ee "tallygate/RequestQueue$Entry" [("slot", "I", .int (2 : Int32)), ("permits", "I", .int pp)] := O_ee.put 0 rfl W1 rfl
  have O_q := O_q.other W1 (Ne.symm ne_ee_q)
  have O_sa := O_sa.other W1 (Ne.symm ne_ee_sa)
  have O_la := O_la.other W1 (Ne.symm ne_ee_la)
  have hz : n0 ≤ h1.size := by rw [W1.size]; exact hz
  have hk := hk.wr W1 (Or.inl (by simp))
  refine w_aloadN (pc' := 27) C d8_26 rfl rfl rfl ?_
  refine w_getF (pc' := 30) C (tw hw 20 rfl) d8_27 rfl (O_q.fld 0 rfl) ?_
  refine w_aloadN (pc' := 31) C d8_30 rfl rfl rfl ?_
  refine w_getF (pc' := 34) C (tw hw 49 rfl) d8_31 rfl (O_q.fld 2 rfl) ?_
  refine w_aloadN (pc' := 35) C d8_34 rfl rfl rfl ?_
  refine wA_aastore (pc' := 36) C d8_35 rfl g_sa O_sa (by decide) (Nat.le_of_ble_eq_true rfl) (O_sa.sto O_ee.1) (fun h2 W2 A2 => ?_)
  have O_sa : ArR Z h2 sa "tallygate/RequestQueue$Entry" [s0, s1, .ref ee, .null, .null, .null, .null, .null, .null, .null, .null, .null, .null, .null, .null, .null] := A2
  have O_q := O_q.other W2 ne_q_sa
  have O_la := O_la.other W2 (Ne.symm ne_sa_la)
  have O_ee := O_ee.other W2 ne_ee_sa
  have hz : n0 ≤ h2.size := by rw [W2.size]; exact hz
  have hk := hk.wr W2 (Or.inl (by simp))
  refine w_aloadN (pc' := 37) C d8_36 rfl rfl rfl ?_
  refine w_aloadN (pc' := 38) C d8_37 rfl rfl rfl ?_
  refine w_getF (pc' := 41) C (tw hw 49 rfl) d8_38 rfl (O_q.fld 2 rfl) ?_
  refine w_aloadN (pc' := 42) C d8_41 rfl rfl rfl ?_
  refine w_getF (pc' := 45) C (tw hw 53 rfl) d8_42 rfl (O_ee.fld 1 rfl) ?_
  refine w_i2l (pc' := 46) C d8_45 rfl ?_
  refine w_callP (pc' := 49) (argsL := [.int (2 : Int32), .long (pp.toInt64)]) (st := []) (W := 0) (ce' := 0) (sl' := 0) C (tw hw 54 rfl) (tw hw 55 rfl) (tw hw 10 rfl) (tw hw 56 rfl) (tw hw 11 rfl) (tw hw 57 rfl) (by decide) d8_46 rfl rfl (by decide) (by decide) (Nat.le_of_eq rfl) rfl rfl (by decide) (by decide) rfl (lenOf pd_3 rfl) O_q.1 (ct_setLeaf2 hw h2 n0 q (pp.toInt64) sa la (2 : Int32) sz [s0, s1, .ref ee, .null, .null, .null, .null, .null, .null, .null, .null, .null, .null, .null, .null, .null] ta tb tc hz rfl O_q O_sa O_la g_la ne_q_la ne_sa_la) (k0 (fun h3 q3 => ?_))
  obtain ⟨P_la, K3⟩ := q3
  have O_q := O_q.keep K3 (ninS ne_q_la nin0)
  have O_sa := O_sa.keep K3 (ninS ne_sa_la nin0)
  have O_ee := O_ee.keep K3 (ninS ne_ee_la nin0)
  have hz : n0 ≤ h3.size := Nat.le_trans hz K3.1
  have hk := Keep.app hk K3 (fun x hx => Or.inl hx) (allS (Or.inl (by simp)) all0)
  have O_la := P_la
  refine w_aloadN (pc' := 50) C d8_49 rfl rfl rfl ?_
  refine w_dup (pc' := 51) C d8_50 rfl rfl ?_
  refine w_getF (pc' := 54) C (tw hw 49 rfl) d8_51 rfl (O_q.fld 2 rfl) ?_
  refine w_iconst (pc' := 55) (x := (1 : Int32)) C d8_54 rfl rfl ?_
  refine w_iadd (pc' := 56) C d8_55 rfl ?_
  refine w_eqI (z := (3 : Int32)) (by decide) ?_
  refine w_putF (pc' := 59) (ty := .int) C (tw hw 49 rfl) (Or.inl (tw hw 50 rfl)) (tw hw 10 rfl) (by decide) rfl rfl d8_56 rfl g_q (O_q.fld 2 rfl) O_q.1 (fun h4 W4 => ?_)
  have O_q : Obj Z h4 q "tallygate/RequestQueue" [("slots", "[Ltallygate/RequestQueue$Entry;", .ref sa), ("least", "[J", .ref la), ("end", "I", .int (3 : Int32)), ("size", "I", .int sz)] := O_q.put 2 rfl W4 rfl
  have O_sa := O_sa.other W4 (Ne.symm ne_q_sa)
  have O_ee := O_ee.other W4 ne_ee_q
  have O_la := O_la.other W4 (Ne.symm ne_q_la)
  have hz : n0 ≤ h4.size := by rw [W4.size]; exact hz
  have hk := hk.wr W4 (Or.inl (by simp))
  refine w_aloadN (pc' := 60) C d8_59 rfl rfl rfl ?_
  refine w_dup (pc' := 61) C d8_60 rfl rfl ?_
  refine w_getF (pc' := 64) C (tw hw 61 rfl) d8_61 rfl (O_q.fld 3 rfl) ?_
  refine w_iconst (pc' := 65) (x := (1 : Int32)) C d8_64 rfl rfl ?_
  refine w_iadd (pc' := 66) C d8_65 rfl ?_
  refine w_putF (pc' := 69) (ty := .int) C (tw hw 61 rfl) (Or.inl (tw hw 62 rfl)) (tw hw 10 rfl) (by decide) rfl rfl d8_66 rfl g_q (O_q.fld 3 rfl) O_q.1 (fun h5 W5 => ?_)
  have O_q : Obj Z h5 q "tallygate/RequestQueue" [("slots", "[Ltallygate/RequestQueue$Entry;", .ref sa), ("least", "[J", .ref la), ("end", "I", .int (3 : Int32)), ("size", "I", .int (sz + (1 : Int32)))] := O_q.put 3 rfl W5 rfl
  have O_sa := O_sa.other W5 (Ne.symm ne_q_sa)
  have O_ee := O_ee.other W5 ne_ee_q
  have O_la := O_la.other W5 (Ne.symm ne_q_la)
  have hz : n0 ≤ h5.size := by rw [W5.size]; exact hz
  have hk := hk.wr W5 (Or.inl (by simp))
  refine w_ret0 C rfl d8_69 (by decide) (by decide) ?_
  exact ⟨rfl, O_q, O_sa, O_la, O_ee, hk⟩
def endF (sz en : Int32) : Int32 := if (sz - (1 : Int32)) = 0 then 0 else en
theorem d15_0 : decode prog_14_method_3_code 0 = .ok (.aload_n 1, 1) := by decide +kernel
theorem d15_1 : decode prog_14_method_3_code 1 = .ok (.astore_n 2, 1) := by decide +kernel
theorem d15_2 : decode prog_14_method_3_code 2 = .ok (.aload_n 2, 1) := by decide +kernel
theorem d15_3 : decode prog_14_method_3_code 3 = .ok (.getfield 32, 3) := by decide +kernel
theorem d15_6 : decode prog_14_method_3_code 6 = .ok (.istore_n 3, 1) := by decide +kernel
theorem d15_7 : decode prog_14_method_3_code 7 = .ok (.iload_n 3, 1) := by decide +kernel
theorem d15_8 : decode prog_14_method_3_code 8 = .ok (.iconst (-1), 1) := by decide +kernel
theorem d15_9 : decode prog_14_method_3_code 9 = .ok (.if_icmp .ne 4, 3) := by decide +kernel
theorem d15_12 : decode prog_14_method_3_code 12 = .ok (.return_, 1) := by decide +kernel
def rm_remN : Room := { frames := 0, cells := 0, slots := 0, locals := 0 }
theorem pf_remN : plainFor (⟨"tallygate/RequestQueue", "remove", "(Ltallygate/RequestQueue$Entry;)V"⟩ : MethodName) = true := plainFor_of_name (by first | (simp [plainName, overriddenIn]; done) | decide +kernel)
set_option maxRecDepth 65536 in
set_option maxHeartbeats 40000000 in
theorem ct_remN {l : Launch} {Z : State} {a0 : Array Value} (hw : ∀ d ∈ tables_1, d.before a0 Z = true) (h0 : Heap) (n0 : Nat) (q : Addr) (ee : Addr) (sa : Addr) (la : Addr) (en : Int32) (sz : Int32) (pp : Int32) (s0 : Value) (s1 : Value) (s2 : Value) (ta : Int64) (tb : Int64) (tc : Int64) (hz : n0 ≤ h0.size) (O_q : Obj Z h0 q "tallygate/RequestQueue" [("slots", "[Ltallygate/RequestQueue$Entry;", .ref sa), ("least", "[J", .ref la), ("end", "I", .int en), ("size", "I", .int sz)]) (O_sa : ArR Z h0 sa "tallygate/RequestQueue$Entry" (sl3 s0 s1 s2)) (O_la : Ar Z h0 la .long (tr3 ta tb tc)) (O_ee : Obj Z h0 ee "tallygate/RequestQueue$Entry" [("slot", "I", .int (-1 : Int32)), ("permits", "I", .int pp)]) (g_q : n0 ≤ q) (g_sa : n0 ≤ sa) (g_la : n0 ≤ la) (g_ee : n0 ≤ ee) (ne_q_sa : q ≠ sa) (ne_q_la : q ≠ la) (ne_sa_la : sa ≠ la) (ne_ee_q : ee ≠ q) (ne_ee_sa : ee ≠ sa) (ne_ee_la : ee ≠ la) :
    Ct l Z (⟨"tallygate/RequestQueue", "remove", "(Ltallygate/RequestQueue$Entry;)V"⟩ : MethodName) prog_14_method_3_code 4 (Option.none : Option Jvm.ClassFile.FieldType) [] rm_remN #[.ref q, .ref ee] h0 n0 (fun v h => v = none ∧ Obj Z h q "tallygate/RequestQueue" [("slots", "[Ltallygate/RequestQueue$Entry;", .ref sa), ("least", "[J", .ref la), ("end", "I", .int en), ("size", "I", .int sz)] ∧ ArR Z h sa "tallygate/RequestQueue$Entry" (sl3 s0 s1 s2) ∧ Ar Z h la .long (tr3 ta tb tc) ∧ Obj Z h ee "tallygate/RequestQueue$Entry" [("slot", "I", .int (-1 : Int32)), ("permits", "I", .int pp)] ∧ Keep h0 h [q, sa, la, ee]) := by
  refine Ct.of (Ls := #[.val (.ref q), .val (.ref ee), .unset, .unset]) pf_remN (fun m => by first | (simp [entryFrame, mkF, argsToLocals, Value.category, maxLocals]; done) | rfl) ?_
  intro p e s m below meth c C
  have hk : Keep h0 h0 [q, sa, la, ee] := Keep.refl _ _
  have O_sa : ArR Z h0 sa "tallygate/RequestQueue$Entry" [s0, s1, s2, .null, .null, .null, .null, .null, .null, .null, .null, .null, .null, .null, .null, .null] := O_sa
  refine w_aloadN (pc' := 1) C d15_0 rfl rfl rfl ?_
  refine w_astoreN (pc' := 2) (Ls' := #[.val (.ref q), .val (.ref ee), .val (.ref ee), .unset]) C d15_1 rfl rfl rfl ?_
  refine w_aloadN (pc' := 3) C d15_2 rfl rfl rfl ?_
  refine w_getFR (pc' := 6) C (tw hw 51 rfl) d15_3 rfl (O_ee.fld 0 rfl) ?_
  refine w_istoreN (pc' := 7) (Ls' := #[.val (.ref q), .val (.ref ee), .val (.ref ee), .val (.int (-1 : Int32))]) C d15_6 rfl rfl ?_
  refine w_iloadN (pc' := 8) C d15_7 rfl rfl ?_
  refine w_iconst (pc' := 9) (x := (-1 : Int32)) C d15_8 rfl rfl ?_
  refine w_icmp_ne (pcT := 13) (pcF := 12) C d15_9 (by decide) (by decide) rfl (fun q => absurd q (by decide)) (fun q9 => ?_)
  refine w_ret0 C rfl d15_12 (by decide) (by decide) ?_
  exact ⟨rfl, O_q, O_sa, O_la, O_ee, hk⟩
theorem d15_13 : decode prog_14_method_3_code 13 = .ok (.aload_n 2, 1) := by decide +kernel
theorem d15_14 : decode prog_14_method_3_code 14 = .ok (.iconst (-1), 1) := by decide +kernel
theorem d15_15 : decode prog_14_method_3_code 15 = .ok (.putfield 32, 3) := by decide +kernel
theorem d15_18 : decode prog_14_method_3_code 18 = .ok (.aload_n 0, 1) := by decide +kernel
theorem d15_19 : decode prog_14_method_3_code 19 = .ok (.getfield 13, 3) := by decide +kernel
theorem d15_22 : decode prog_14_method_3_code 22 = .ok (.iload_n 3, 1) := by decide +kernel
theorem d15_23 : decode prog_14_method_3_code 23 = .ok (.aconst_null, 1) := by decide +kernel
theorem d15_24 : decode prog_14_method_3_code 24 = .ok (.aastore, 1) := by decide +kernel
theorem d15_25 : decode prog_14_method_3_code 25 = .ok (.aload_n 0, 1) := by decide +kernel
theorem d15_26 : decode prog_14_method_3_code 26 = .ok (.dup, 1) := by decide +kernel
theorem d15_27 : decode prog_14_method_3_code 27 = .ok (.getfield 42, 3) := by decide +kernel
theorem d15_30 : decode prog_14_method_3_code 30 = .ok (.iconst 1, 1) := by decide +kernel
theorem d15_31 : decode prog_14_method_3_code 31 = .ok (.isub, 1) := by decide +kernel
theorem d15_32 : decode prog_14_method_3_code 32 = .ok (.putfield 42, 3) := by decide +kernel
theorem d15_35 : decode prog_14_method_3_code 35 = .ok (.aload_n 0, 1) := by decide +kernel
theorem d15_36 : decode prog_14_method_3_code 36 = .ok (.iload_n 3, 1) := by decide +kernel
theorem d15_37 : decode prog_14_method_3_code 37 = .ok (.ldc2_w 45, 3) := by decide +kernel
theorem d15_40 : decode prog_14_method_3_code 40 = .ok (.invokevirtual 38, 3) := by decide +kernel
theorem d15_43 : decode prog_14_method_3_code 43 = .ok (.aload_n 0, 1) := by decide +kernel
theorem d15_44 : decode prog_14_method_3_code 44 = .ok (.getfield 42, 3) := by decide +kernel
theorem d15_47 : decode prog_14_method_3_code 47 = .ok (.ifCond .ne 8, 3) := by decide +kernel
theorem d15_50 : decode prog_14_method_3_code 50 = .ok (.aload_n 0, 1) := by decide +kernel
theorem d15_51 : decode prog_14_method_3_code 51 = .ok (.iconst 0, 1) := by decide +kernel
theorem d15_52 : decode prog_14_method_3_code 52 = .ok (.putfield 25, 3) := by decide +kernel
theorem d15_55 : decode prog_14_method_3_code 55 = .ok (.return_, 1) := by decide +kernel
def rm_rem0 : Room := { frames := 2, cells := 0, slots := 0, locals := 33 }
theorem pf_rem0 : plainFor (⟨"tallygate/RequestQueue", "remove", "(Ltallygate/RequestQueue$Entry;)V"⟩ : MethodName) = true := plainFor_of_name (by first | (simp [plainName, overriddenIn]; done) | decide +kernel)
set_option maxRecDepth 65536 in
set_option maxHeartbeats 40000000 in
theorem ct_rem0 {l : Launch} {Z : State} {a0 : Array Value} (hw : ∀ d ∈ tables_1, d.before a0 Z = true) (h0 : Heap) (n0 : Nat) (q : Addr) (ee : Addr) (sa : Addr) (la : Addr) (en : Int32) (sz : Int32) (pp : Int32) (s0 : Value) (s1 : Value) (s2 : Value) (ta : Int64) (tb : Int64) (tc : Int64) (hz : n0 ≤ h0.size) (O_q : Obj Z h0 q "tallygate/RequestQueue" [("slots", "[Ltallygate/RequestQueue$Entry;", .ref sa), ("least", "[J", .ref la), ("end", "I", .int en), ("size", "I", .int sz)]) (O_sa : ArR Z h0 sa "tallygate/RequestQueue$Entry" (sl3 s0 s1 s2)) (O_la : Ar Z h0 la .long (tr3 ta tb tc)) (O_ee : Obj Z h0 ee "tallygate/RequestQueue$Entry" [("slot", "I", .int (0 : Int32)), ("permits", "I", .int pp)]) (g_q : n0 ≤ q) (g_sa : n0 ≤ sa) (g_la : n0 ≤ la) (g_ee : n0 ≤ ee) (ne_q_sa : q ≠ sa) (ne_q_la : q ≠ la) (ne_sa_la : sa ≠ la) (ne_ee_q : ee ≠ q) (ne_ee_sa : ee ≠ sa) (ne_ee_la : ee ≠ la) :
    Ct l Z (⟨"tallygate/RequestQueue", "remove", "(Ltallygate/RequestQueue$Entry;)V"⟩ : MethodName) prog_14_method_3_code 4 (Option.none : Option Jvm.ClassFile.FieldType) [] rm_rem0 #[.ref q, .ref ee] h0 n0 (fun v h => v = none ∧ Obj Z h q "tallygate/RequestQueue" [("slots", "[Ltallygate/RequestQueue$Entry;", .ref sa), ("least", "[J", .ref la), ("end", "I", .int (endF sz en)), ("size", "I", .int (sz - (1 : Int32)))] ∧ ArR Z h sa "tallygate/RequestQueue$Entry" (sl3 .null s1 s2) ∧ Ar Z h la .long (tr3 EMP tb tc) ∧ Obj Z h ee "tallygate/RequestQueue$Entry" [("slot", "I", .int (-1 : Int32)), ("permits", "I", .int pp)] ∧ Keep h0 h [q, sa, la, ee]) := by
  refine Ct.of (Ls := #[.val (.ref q), .val (.ref ee), .unset, .unset]) pf_rem0 (fun m => by first | (simp [entryFrame, mkF, argsToLocals, Value.category, maxLocals]; done) | rfl) ?_
  intro p e s m below meth c C
  have hk : Keep h0 h0 [q, sa, la, ee] := Keep.refl _ _
  have O_sa : ArR Z h0 sa "tallygate/RequestQueue$Entry" [s0, s1, s2, .null, .null, .null, .null, .null, .null, .null, .null, .null, .null, .null, .null, .null] := O_sa
  refine w_aloadN (pc' := 1) C d15_0 rfl rfl rfl ?_
  refine w_astoreN (pc' := 2) (Ls' := #[.val (.ref q), .val (.ref ee), .val (.ref ee), .unset]) C d15_1 rfl rfl rfl ?_
  refine w_aloadN (pc' := 3) C d15_2 rfl rfl rfl ?_
  refine w_getFR (pc' := 6) C (tw hw 51 rfl) d15_3 rfl (O_ee.fld 0 rfl) ?_
  refine w_istoreN (pc' := 7) (Ls' := #[.val (.ref q), .val (.ref ee), .val (.ref ee), .val (.int (0 : Int32))]) C d15_6 rfl rfl ?_
  refine w_iloadN (pc' := 8) C d15_7 rfl rfl ?_
  refine w_iconst (pc' := 9) (x := (-1 : Int32)) C d15_8 rfl rfl ?_
  refine w_icmp_ne (pcT := 13) (pcF := 12) C d15_9 (by decide) (by decide) rfl (fun q9 => ?_) (fun q => absurd q (by decide))
  refine w_aloadN (pc' := 14) C d15_13 rfl rfl rfl ?_
  refine w_iconst (pc' := 15) (x := (-1 : Int32)) C d15_14 rfl rfl ?_
  refine w_putFR (pc' := 18) (ty := .int) C (tw hw 51 rfl) (tw hw 41 rfl) (tw hw 34 rfl) (by decide) rfl rfl d15_15 rfl g_ee (O_ee.fld 0 rfl) O_ee.1 (fun h1 W1 => ?_)
  have O_ee : Obj Z h1 ee "tallygate/RequestQueue$Entry" [("slot", "I", .int (-1 : Int32)), ("permits", "I", .int pp)] := O_ee.put 0 rfl W1 rfl
  have O_q := O_q.other W1 (Ne.symm ne_ee_q)
  have O_sa := O_sa.other W1 (Ne.symm ne_ee_sa)
  have O_la := O_la.other W1 (Ne.symm ne_ee_la)
  have hz : n0 ≤ h1.size := by rw [W1.size]; exact hz
  have hk := hk.wr W1 (Or.inl (by simp))
  refine w_aloadN (pc' := 19) C d15_18 rfl rfl rfl ?_
  refine w_getF (pc' := 22) C (tw hw 20 rfl) d15_19 rfl (O_q.fld 0 rfl) ?_
  refine w_iloadN (pc' := 23) C d15_22 rfl rfl ?_
  refine w_aconstNull (pc' := 24) C d15_23 rfl ?_
  refine wA_aastore (pc' := 25) C d15_24 rfl g_sa O_sa (by decide) (Nat.le_of_ble_eq_true rfl) (Or.inl rfl) (fun h2 W2 A2 => ?_)
  have O_sa : ArR Z h2 sa "tallygate/RequestQueue$Entry" [.null, s1, s2, .null, .null, .null, .null, .null, .null, .null, .null, .null, .null, .null, .null, .null] := A2
  have O_q := O_q.other W2 ne_q_sa
  have O_la := O_la.other W2 (Ne.symm ne_sa_la)
  have O_ee := O_ee.other W2 ne_ee_sa
  have hz : n0 ≤ h2.size := by rw [W2.size]; exact hz
  have hk := hk.wr W2 (Or.inl (by simp))
  refine w_aloadN (pc' := 26) C d15_25 rfl rfl rfl ?_
  refine w_dup (pc' := 27) C d15_26 rfl rfl ?_
  refine w_getF (pc' := 30) C (tw hw 61 rfl) d15_27 rfl (O_q.fld 3 rfl) ?_
  refine w_iconst (pc' := 31) (x := (1 : Int32)) C d15_30 rfl rfl ?_
  refine w_isub (pc' := 32) C d15_31 rfl ?_
  refine w_putF (pc' := 35) (ty := .int) C (tw hw 61 rfl) (Or.inl (tw hw 62 rfl)) (tw hw 10 rfl) (by decide) rfl rfl d15_32 rfl g_q (O_q.fld 3 rfl) O_q.1 (fun h3 W3 => ?_)
  have O_q : Obj Z h3 q "tallygate/RequestQueue" [("slots", "[Ltallygate/RequestQueue$Entry;", .ref sa), ("least", "[J", .ref la), ("end", "I", .int en), ("size", "I", .int (sz - (1 : Int32)))] := O_q.put 3 rfl W3 rfl
  have O_sa := O_sa.other W3 (Ne.symm ne_q_sa)
  have O_la := O_la.other W3 (Ne.symm ne_q_la)
  have O_ee := O_ee.other W3 ne_ee_q
  have hz : n0 ≤ h3.size := by rw [W3.size]; exact hz
  have hk := hk.wr W3 (Or.inl (by simp))
  refine w_aloadN (pc' := 36) C d15_35 rfl rfl rfl ?_
  refine w_iloadN (pc' := 37) C d15_36 rfl rfl ?_
  refine w_ldc2J (pc' := 40) C (tw hw 26 rfl) d15_37 rfl ?_
  refine w_callP (pc' := 43) (argsL := [.int (0 : Int32), .long (9223372036854775807 : Int64)]) (st := []) (W := 0) (ce' := 0) (sl' := 0) C (tw hw 54 rfl) (tw hw 55 rfl) (tw hw 10 rfl) (tw hw 56 rfl) (tw hw 11 rfl) (tw hw 57 rfl) (by decide) d15_40 rfl rfl (by decide) (by decide) (Nat.le_of_eq rfl) rfl rfl (by decide) (by decide) rfl (lenOf pd_3 rfl) O_q.1 (ct_setLeaf0 hw h3 n0 q (9223372036854775807 : Int64) sa la en (sz - (1 : Int32)) [.null, s1, s2, .null, .null, .null, .null, .null, .null, .null, .null, .null, .null, .null, .null, .null] ta tb tc hz rfl O_q O_sa O_la g_la ne_q_la ne_sa_la) (k0 (fun h4 q4 => ?_))
  obtain ⟨P_la, K4⟩ := q4
  have O_q := O_q.keep K4 (ninS ne_q_la nin0)
  have O_sa := O_sa.keep K4 (ninS ne_sa_la nin0)
  have O_ee := O_ee.keep K4 (ninS ne_ee_la nin0)
  have hz : n0 ≤ h4.size := Nat.le_trans hz K4.1
  have hk := Keep.app hk K4 (fun x hx => Or.inl hx) (allS (Or.inl (by simp)) all0)
  have O_la := P_la
  refine w_aloadN (pc' := 44) C d15_43 rfl rfl rfl ?_
  refine w_getF (pc' := 47) C (tw hw 61 rfl) d15_44 rfl (O_q.fld 3 rfl) ?_
  refine w_if_ne (pcT := 55) (pcF := 50) C d15_47 (by decide) (by decide) rfl (fun q47 => ?_) (fun q47 => ?_)
  · skip
    refine w_ret0 C rfl d15_55 (by decide) (by decide) ?_
    exact ⟨rfl, (by rw [show endF sz en = en from if_neg q47]; exact O_q), O_sa, O_la, O_ee, hk⟩
  · skip
    refine w_aloadN (pc' := 51) C d15_50 rfl rfl rfl ?_
    refine w_iconst (pc' := 52) (x := (0 : Int32)) C d15_51 rfl rfl ?_
    refine w_putF (pc' := 55) (ty := .int) C (tw hw 49 rfl) (Or.inl (tw hw 50 rfl)) (tw hw 10 rfl) (by decide) rfl rfl d15_52 rfl g_q (O_q.fld 2 rfl) O_q.1 (fun h5 W5 => ?_)
    have O_q : Obj Z h5 q "tallygate/RequestQueue" [("slots", "[Ltallygate/RequestQueue$Entry;", .ref sa), ("least", "[J", .ref la), ("end", "I", .int (0 : Int32)), ("size", "I", .int (sz - (1 : Int32)))] := O_q.put 2 rfl W5 rfl
    have O_sa := O_sa.other W5 (Ne.symm ne_q_sa)
    have O_ee := O_ee.other W5 ne_ee_q
    have O_la := O_la.other W5 (Ne.symm ne_q_la)
    have hz : n0 ≤ h5.size := by rw [W5.size]; exact hz
    have hk := hk.wr W5 (Or.inl (by simp))
    refine w_ret0 C rfl d15_55 (by decide) (by decide) ?_
    exact ⟨rfl, (by rw [show endF sz en = (0 : Int32) from if_pos q47]; exact O_q), O_sa, O_la, O_ee, hk⟩
def rm_rem1 : Room := { frames := 2, cells := 0, slots := 0, locals := 33 }
theorem pf_rem1 : plainFor (⟨"tallygate/RequestQueue", "remove", "(Ltallygate/RequestQueue$Entry;)V"⟩ : MethodName) = true := plainFor_of_name (by first | (simp [plainName, overriddenIn]; done) | decide +kernel)
set_option maxRecDepth 65536 in
set_option maxHeartbeats 40000000 in
theorem ct_rem1 {l : Launch} {Z : State} {a0 : Array Value} (hw : ∀ d ∈ tables_1, d.before a0 Z = true) (h0 : Heap) (n0 : Nat) (q : Addr) (ee : Addr) (sa : Addr) (la : Addr) (en : Int32) (sz : Int32) (pp : Int32) (s0 : Value) (s1 : Value) (s2 : Value) (ta : Int64) (tb : Int64) (tc : Int64) (hz : n0 ≤ h0.size) (O_q : Obj Z h0 q "tallygate/RequestQueue" [("slots", "[Ltallygate/RequestQueue$Entry;", .ref sa), ("least", "[J", .ref la), ("end", "I", .int en), ("size", "I", .int sz)]) (O_sa : ArR Z h0 sa "tallygate/RequestQueue$Entry" (sl3 s0 s1 s2)) (O_la : Ar Z h0 la .long (tr3 ta tb tc)) (O_ee : Obj Z h0 ee "tallygate/RequestQueue$Entry" [("slot", "I", .int (1 : Int32)), ("permits", "I", .int pp)]) (g_q : n0 ≤ q) (g_sa : n0 ≤ sa) (g_la : n0 ≤ la) (g_ee : n0 ≤ ee) (ne_q_sa : q ≠ sa) (ne_q_la : q ≠ la) (ne_sa_la : sa ≠ la) (ne_ee_q : ee ≠ q) (ne_ee_sa : ee ≠ sa) (ne_ee_la : ee ≠ la) :
    Ct l Z (⟨"tallygate/RequestQueue", "remove", "(Ltallygate/RequestQueue$Entry;)V"⟩ : MethodName) prog_14_method_3_code 4 (Option.none : Option Jvm.ClassFile.FieldType) [] rm_rem1 #[.ref q, .ref ee] h0 n0 (fun v h => v = none ∧ Obj Z h q "tallygate/RequestQueue" [("slots", "[Ltallygate/RequestQueue$Entry;", .ref sa), ("least", "[J", .ref la), ("end", "I", .int (endF sz en)), ("size", "I", .int (sz - (1 : Int32)))] ∧ ArR Z h sa "tallygate/RequestQueue$Entry" (sl3 s0 .null s2) ∧ Ar Z h la .long (tr3 ta EMP tc) ∧ Obj Z h ee "tallygate/RequestQueue$Entry" [("slot", "I", .int (-1 : Int32)), ("permits", "I", .int pp)] ∧ Keep h0 h [q, sa, la, ee]) := by
  refine Ct.of (Ls := #[.val (.ref q), .val (.ref ee), .unset, .unset]) pf_rem1 (fun m => by first | (simp [entryFrame, mkF, argsToLocals, Value.category, maxLocals]; done) | rfl) ?_
  intro p e s m below meth c C
  have hk : Keep h0 h0 [q, sa, la, ee] := Keep.refl _ _
  have O_sa : ArR Z h0 sa "tallygate/RequestQueue$Entry" [s0, s1, s2, .null, .null, .null, .null, .null, .null, .null, .null, .null, .null, .null, .null, .null] := O_sa
  refine w_aloadN (pc' := 1) C d15_0 rfl rfl rfl ?_
  refine w_astoreN (pc' := 2) (Ls' := #[.val (.ref q), .val (.ref ee), .val (.ref ee), .unset]) C d15_1 rfl rfl rfl ?_
  refine w_aloadN (pc' := 3) C d15_2 rfl rfl rfl ?_
  refine w_getFR (pc' := 6) C (tw hw 51 rfl) d15_3 rfl (O_ee.fld 0 rfl) ?_
  refine w_istoreN (pc' := 7) (Ls' := #[.val (.ref q), .val (.ref ee), .val (.ref ee), .val (.int (1 : Int32))]) C d15_6 rfl rfl ?_
  refine w_iloadN (pc' := 8) C d15_7 rfl rfl ?_
  refine w_iconst (pc' := 9) (x := (-1 : Int32)) C d15_8 rfl rfl ?_
  refine w_icmp_ne (pcT := 13) (pcF := 12) C d15_9 (by decide) (by decide) rfl (fun q9 => ?_) (fun q => absurd q (by decide))
  refine w_aloadN (pc' := 14) C d15_13 rfl rfl rfl ?_
  refine w_iconst (pc' := 15) (x := (-1 : Int32)) C d15_14 rfl rfl ?_
  refine w_putFR (pc' := 18) (ty := .int) C (tw hw 51 rfl) (tw hw 41 rfl) (tw hw 34 rfl) (by decide) rfl rfl d15_15 rfl g_ee (O_ee.fld 0 rfl) O_ee.1 (fun h1 W1 => ?_)
  have O_ee : Obj Z h1 ee "tallygate/RequestQueue$Entry" [("slot", "I", .int (-1 : Int32)), ("permits", "I", .int pp)] := O_ee.put 0 rfl W1 rfl
  have O_q := O_q.other W1 (Ne.symm ne_ee_q)
  have O_sa := O_sa.other W1 (Ne.symm ne_ee_sa)
  have O_la := O_la.other W1 (Ne.symm ne_ee_la)
  have hz : n0 ≤ h1.size := by rw [W1.size]; exact hz
  have hk := hk.wr W1 (Or.inl (by simp))
  refine w_aloadN (pc' := 19) C d15_18 rfl rfl rfl ?_
  refine w_getF (pc' := 22) C (tw hw 20 rfl) d15_19 rfl (O_q.fld 0 rfl) ?_
  refine w_iloadN (pc' := 23) C d15_22 rfl rfl ?_
  refine w_aconstNull (pc' := 24) C d15_23 rfl ?_
  refine wA_aastore (pc' := 25) C d15_24 rfl g_sa O_sa (by decide) (Nat.le_of_ble_eq_true rfl) (Or.inl rfl) (fun h2 W2 A2 => ?_)
  have O_sa : ArR Z h2 sa "tallygate/RequestQueue$Entry" [s0, .null, s2, .null, .null, .null, .null, .null, .null, .null, .null, .null, .null, .null, .null, .null] := A2
  have O_q := O_q.other W2 ne_q_sa
  have O_la := O_la.other W2 (Ne.symm ne_sa_la)
  have O_ee := O_ee.other W2 ne_ee_sa
  have hz : n0 ≤ h2.size := by rw [W2.size]; exact hz
  have hk := hk.wr W2 (Or.inl (by simp))
  refine w_aloadN (pc' := 26) C d15_25 rfl rfl rfl ?_
  refine w_dup (pc' := 27) C d15_26 rfl rfl ?_
  refine w_getF (pc' := 30) C (tw hw 61 rfl) d15_27 rfl (O_q.fld 3 rfl) ?_
  refine w_iconst (pc' := 31) (x := (1 : Int32)) C d15_30 rfl rfl ?_
  refine w_isub (pc' := 32) C d15_31 rfl ?_
  refine w_putF (pc' := 35) (ty := .int) C (tw hw 61 rfl) (Or.inl (tw hw 62 rfl)) (tw hw 10 rfl) (by decide) rfl rfl d15_32 rfl g_q (O_q.fld 3 rfl) O_q.1 (fun h3 W3 => ?_)
  have O_q : Obj Z h3 q "tallygate/RequestQueue" [("slots", "[Ltallygate/RequestQueue$Entry;", .ref sa), ("least", "[J", .ref la), ("end", "I", .int en), ("size", "I", .int (sz - (1 : Int32)))] := O_q.put 3 rfl W3 rfl
  have O_sa := O_sa.other W3 (Ne.symm ne_q_sa)
  have O_la := O_la.other W3 (Ne.symm ne_q_la)
  have O_ee := O_ee.other W3 ne_ee_q
  have hz : n0 ≤ h3.size := by rw [W3.size]; exact hz
  have hk := hk.wr W3 (Or.inl (by simp))
  refine w_aloadN (pc' := 36) C d15_35 rfl rfl rfl ?_
  refine w_iloadN (pc' := 37) C d15_36 rfl rfl ?_
  refine w_ldc2J (pc' := 40) C (tw hw 26 rfl) d15_37 rfl ?_
  refine w_callP (pc' := 43) (argsL := [.int (1 : Int32), .long (9223372036854775807 : Int64)]) (st := []) (W := 0) (ce' := 0) (sl' := 0) C (tw hw 54 rfl) (tw hw 55 rfl) (tw hw 10 rfl) (tw hw 56 rfl) (tw hw 11 rfl) (tw hw 57 rfl) (by decide) d15_40 rfl rfl (by decide) (by decide) (Nat.le_of_eq rfl) rfl rfl (by decide) (by decide) rfl (lenOf pd_3 rfl) O_q.1 (ct_setLeaf1 hw h3 n0 q (9223372036854775807 : Int64) sa la en (sz - (1 : Int32)) [s0, .null, s2, .null, .null, .null, .null, .null, .null, .null, .null, .null, .null, .null, .null, .null] ta tb tc hz rfl O_q O_sa O_la g_la ne_q_la ne_sa_la) (k0 (fun h4 q4 => ?_))
  obtain ⟨P_la, K4⟩ := q4
  have O_q := O_q.keep K4 (ninS ne_q_la nin0)
  have O_sa := O_sa.keep K4 (ninS ne_sa_la nin0)
  have O_ee := O_ee.keep K4 (ninS ne_ee_la nin0)
  have hz : n0 ≤ h4.size := Nat.le_trans hz K4.1
  have hk := Keep.app hk K4 (fun x hx => Or.inl hx) (allS (Or.inl (by simp)) all0)
  have O_la := P_la
  refine w_aloadN (pc' := 44) C d15_43 rfl rfl rfl ?_
  refine w_getF (pc' := 47) C (tw hw 61 rfl) d15_44 rfl (O_q.fld 3 rfl) ?_
  refine w_if_ne (pcT := 55) (pcF := 50) C d15_47 (by decide) (by decide) rfl (fun q47 => ?_) (fun q47 => ?_)
  · skip
    refine w_ret0 C rfl d15_55 (by decide) (by decide) ?_
    exact ⟨rfl, (by rw [show endF sz en = en from if_neg q47]; exact O_q), O_sa, O_la, O_ee, hk⟩
  · skip
    refine w_aloadN (pc' := 51) C d15_50 rfl rfl rfl ?_
    refine w_iconst (pc' := 52) (x := (0 : Int32)) C d15_51 rfl rfl ?_
    refine w_putF (pc' := 55) (ty := .int) C (tw hw 49 rfl) (Or.inl (tw hw 50 rfl)) (tw hw 10 rfl) (by decide) rfl rfl d15_52 rfl g_q (O_q.fld 2 rfl) O_q.1 (fun h5 W5 => ?_)
    have O_q : Obj Z h5 q "tallygate/RequestQueue" [("slots", "[Ltallygate/RequestQueue$Entry;", .ref sa), ("least", "[J", .ref la), ("end", "I", .int (0 : Int32)), ("size", "I", .int (sz - (1 : Int32)))] := O_q.put 2 rfl W5 rfl
    have O_sa := O_sa.other W5 (Ne.symm ne_q_sa)
    have O_ee := O_ee.other W5 ne_ee_q
    have O_la := O_la.other W5 (Ne.symm ne_q_la)
    have hz : n0 ≤ h5.size := by rw [W5.size]; exact hz
    have hk := hk.wr W5 (Or.inl (by simp))
    refine w_ret0 C rfl d15_55 (by decide) (by decide) ?_
    exact ⟨rfl, (by rw [show endF sz en = (0 : Int32) from if_pos q47]; exact O_q), O_sa, O_la, O_ee, hk⟩
def rm_rem2 : Room := { frames := 2, cells := 0, slots := 0, locals := 33 }
theorem pf_rem2 : plainFor (⟨"tallygate/RequestQueue", "remove", "(Ltallygate/RequestQueue$Entry;)V"⟩ : MethodName) = true := plainFor_of_name (by first | (simp [plainName, overriddenIn]; done) | decide +kernel)
set_option maxRecDepth 65536 in
set_option maxHeartbeats 40000000 in
theorem ct_rem2 {l : Launch} {Z : State} {a0 : Array Value} (hw : ∀ d ∈ tables_1, d.before a0 Z = true) (h0 : Heap) (n0 : Nat) (q : Addr) (ee : Addr) (sa : Addr) (la : Addr) (en : Int32) (sz : Int32) (pp : Int32) (s0 : Value) (s1 : Value) (s2 : Value) (ta : Int64) (tb : Int64) (tc : Int64) (hz : n0 ≤ h0.size) (O_q : Obj Z h0 q "tallygate/RequestQueue" [("slots", "[Ltallygate/RequestQueue$Entry;", .ref sa), ("least", "[J", .ref la), ("end", "I", .int en), ("size", "I", .int sz)]) (O_sa : ArR Z h0 sa "tallygate/RequestQueue$Entry" (sl3 s0 s1 s2)) (O_la : Ar Z h0 la .long (tr3 ta tb tc)) (O_ee : Obj Z h0 ee "tallygate/RequestQueue$Entry" [("slot", "I", .int (2 : Int32)), ("permits", "I", .int pp)]) (g_q : n0 ≤ q) (g_sa : n0 ≤ sa) (g_la : n0 ≤ la) (g_ee : n0 ≤ ee) (ne_q_sa : q ≠ sa) (ne_q_la : q ≠ la) (ne_sa_la : sa ≠ la) (ne_ee_q : ee ≠ q) (ne_ee_sa : ee ≠ sa) (ne_ee_la : ee ≠ la) :
    Ct l Z (⟨"tallygate/RequestQueue", "remove", "(Ltallygate/RequestQueue$Entry;)V"⟩ : MethodName) prog_14_method_3_code 4 (Option.none : Option Jvm.ClassFile.FieldType) [] rm_rem2 #[.ref q, .ref ee] h0 n0 (fun v h => v = none ∧ Obj Z h q "tallygate/RequestQueue" [("slots", "[Ltallygate/RequestQueue$Entry;", .ref sa), ("least", "[J", .ref la), ("end", "I", .int (endF sz en)), ("size", "I", .int (sz - (1 : Int32)))] ∧ ArR Z h sa "tallygate/RequestQueue$Entry" (sl3 s0 s1 .null) ∧ Ar Z h la .long (tr3 ta tb EMP) ∧ Obj Z h ee "tallygate/RequestQueue$Entry" [("slot", "I", .int (-1 : Int32)), ("permits", "I", .int pp)] ∧ Keep h0 h [q, sa, la, ee]) := by
  refine Ct.of (Ls := #[.val (.ref q), .val (.ref ee), .unset, .unset]) pf_rem2 (fun m => by first | (simp [entryFrame, mkF, argsToLocals, Value.category, maxLocals]; done) | rfl) ?_
  intro p e s m below meth c C
  have hk : Keep h0 h0 [q, sa, la, ee] := Keep.refl _ _
  have O_sa : ArR Z h0 sa "tallygate/RequestQueue$Entry" [s0, s1, s2, .null, .null, .null, .null, .null, .null, .null, .null, .null, .null, .null, .null, .null] := O_sa
  refine w_aloadN (pc' := 1) C d15_0 rfl rfl rfl ?_
  refine w_astoreN (pc' := 2) (Ls' := #[.val (.ref q), .val (.ref ee), .val (.ref ee), .unset]) C d15_1 rfl rfl rfl ?_
  refine w_aloadN (pc' := 3) C d15_2 rfl rfl rfl ?_
  refine w_getFR (pc' := 6) C (tw hw 51 rfl) d15_3 rfl (O_ee.fld 0 rfl) ?_
  refine w_istoreN (pc' := 7) (Ls' := #[.val (.ref q), .val (.ref ee), .val (.ref ee), .val (.int (2 : Int32))]) C d15_6 rfl rfl ?_
  refine w_iloadN (pc' := 8) C d15_7 rfl rfl ?_
  refine w_iconst (pc' := 9) (x := (-1 : Int32)) C d15_8 rfl rfl ?_
  refine w_icmp_ne (pcT := 13) (pcF := 12) C d15_9 (by decide) (by decide) rfl (fun q9 => ?_) (fun q => absurd q (by decide))
  refine w_aloadN (pc' := 14) C d15_13 rfl rfl rfl ?_
  refine w_iconst (pc' := 15) (x := (-1 : Int32)) C d15_14 rfl rfl ?_
  refine w_putFR (pc' := 18) (ty := .int) C (tw hw 51 rfl) (tw hw 41 rfl) (tw hw 34 rfl) (by decide) rfl rfl d15_15 rfl g_ee (O_ee.fld 0 rfl) O_ee.1 (fun h1 W1 => ?_)
  have O_ee : Obj Z h1 ee "tallygate/RequestQueue$Entry" [("slot", "I", .int (-1 : Int32)), ("permits", "I", .int pp)] := O_ee.put 0 rfl W1 rfl
  have O_q := O_q.other W1 (Ne.symm ne_ee_q)
  have O_sa := O_sa.other W1 (Ne.symm ne_ee_sa)
  have O_la := O_la.other W1 (Ne.symm ne_ee_la)
  have hz : n0 ≤ h1.size := by rw [W1.size]; exact hz
  have hk := hk.wr W1 (Or.inl (by simp))
  refine w_aloadN (pc' := 19) C d15_18 rfl rfl rfl ?_
  refine w_getF (pc' := 22) C (tw hw 20 rfl) d15_19 rfl (O_q.fld 0 rfl) ?_
  refine w_iloadN (pc' := 23) C d15_22 rfl rfl ?_
  refine w_aconstNull (pc' := 24) C d15_23 rfl ?_
  refine wA_aastore (pc' := 25) C d15_24 rfl g_sa O_sa (by decide) (Nat.le_of_ble_eq_true rfl) (Or.inl rfl) (fun h2 W2 A2 => ?_)
  have O_sa : ArR Z h2 sa "tallygate/RequestQueue$Entry" [s0, s1, .null, .null, .null, .null, .null, .null, .null, .null, .null, .null, .null, .null, .null, .null] := A2
  have O_q := O_q.other W2 ne_q_sa
  have O_la := O_la.other W2 (Ne.symm ne_sa_la)
  have O_ee := O_ee.other W2 ne_ee_sa
  have hz : n0 ≤ h2.size := by rw [W2.size]; exact hz
  have hk := hk.wr W2 (Or.inl (by simp))
  refine w_aloadN (pc' := 26) C d15_25 rfl rfl rfl ?_
  refine w_dup (pc' := 27) C d15_26 rfl rfl ?_
  refine w_getF (pc' := 30) C (tw hw 61 rfl) d15_27 rfl (O_q.fld 3 rfl) ?_
  refine w_iconst (pc' := 31) (x := (1 : Int32)) C d15_30 rfl rfl ?_
  refine w_isub (pc' := 32) C d15_31 rfl ?_
  refine w_putF (pc' := 35) (ty := .int) C (tw hw 61 rfl) (Or.inl (tw hw 62 rfl)) (tw hw 10 rfl) (by decide) rfl rfl d15_32 rfl g_q (O_q.fld 3 rfl) O_q.1 (fun h3 W3 => ?_)
  have O_q : Obj Z h3 q "tallygate/RequestQueue" [("slots", "[Ltallygate/RequestQueue$Entry;", .ref sa), ("least", "[J", .ref la), ("end", "I", .int en), ("size", "I", .int (sz - (1 : Int32)))] := O_q.put 3 rfl W3 rfl
  have O_sa := O_sa.other W3 (Ne.symm ne_q_sa)
  have O_la := O_la.other W3 (Ne.symm ne_q_la)
  have O_ee := O_ee.other W3 ne_ee_q
  have hz : n0 ≤ h3.size := by rw [W3.size]; exact hz
  have hk := hk.wr W3 (Or.inl (by simp))
  refine w_aloadN (pc' := 36) C d15_35 rfl rfl rfl ?_
  refine w_iloadN (pc' := 37) C d15_36 rfl rfl ?_
  refine w_ldc2J (pc' := 40) C (tw hw 26 rfl) d15_37 rfl ?_
  refine w_callP (pc' := 43) (argsL := [.int (2 : Int32), .long (9223372036854775807 : Int64)]) (st := []) (W := 0) (ce' := 0) (sl' := 0) C (tw hw 54 rfl) (tw hw 55 rfl) (tw hw 10 rfl) (tw hw 56 rfl) (tw hw 11 rfl) (tw hw 57 rfl) (by decide) d15_40 rfl rfl (by decide) (by decide) (Nat.le_of_eq rfl) rfl rfl (by decide) (by decide) rfl (lenOf pd_3 rfl) O_q.1 (ct_setLeaf2 hw h3 n0 q (9223372036854775807 : Int64) sa la en (sz - (1 : Int32)) [s0, s1, .null, .null, .null, .null, .null, .null, .null, .null, .null, .null, .null, .null, .null, .null] ta tb tc hz rfl O_q O_sa O_la g_la ne_q_la ne_sa_la) (k0 (fun h4 q4 => ?_))
  obtain ⟨P_la, K4⟩ := q4
  have O_q := O_q.keep K4 (ninS ne_q_la nin0)
  have O_sa := O_sa.keep K4 (ninS ne_sa_la nin0)
  have O_ee := O_ee.keep K4 (ninS ne_ee_la nin0)
  have hz : n0 ≤ h4.size := Nat.le_trans hz K4.1
  have hk := Keep.app hk K4 (fun x hx => Or.inl hx) (allS (Or.inl (by simp)) all0)
  have O_la := P_la
  refine w_aloadN (pc' := 44) C d15_43 rfl rfl rfl ?_
  refine w_getF (pc' := 47) C (tw hw 61 rfl) d15_44 rfl (O_q.fld 3 rfl) ?_
  refine w_if_ne (pcT := 55) (pcF := 50) C d15_47 (by decide) (by decide) rfl (fun q47 => ?_) (fun q47 => ?_)
  · skip
    refine w_ret0 C rfl d15_55 (by decide) (by decide) ?_
    exact ⟨rfl, (by rw [show endF sz en = en from if_neg q47]; exact O_q), O_sa, O_la, O_ee, hk⟩
  · skip
    refine w_aloadN (pc' := 51) C d15_50 rfl rfl rfl ?_
    refine w_iconst (pc' := 52) (x := (0 : Int32)) C d15_51 rfl rfl ?_
    refine w_putF (pc' := 55) (ty := .int) C (tw hw 49 rfl) (Or.inl (tw hw 50 rfl)) (tw hw 10 rfl) (by decide) rfl rfl d15_52 rfl g_q (O_q.fld 2 rfl) O_q.1 (fun h5 W5 => ?_)
    have O_q : Obj Z h5 q "tallygate/RequestQueue" [("slots", "[Ltallygate/RequestQueue$Entry;", .ref sa), ("least", "[J", .ref la), ("end", "I", .int (0 : Int32)), ("size", "I", .int (sz - (1 : Int32)))] := O_q.put 2 rfl W5 rfl
    have O_sa := O_sa.other W5 (Ne.symm ne_q_sa)
    have O_ee := O_ee.other W5 ne_ee_q
    have O_la := O_la.other W5 (Ne.symm ne_q_la)
    have hz : n0 ≤ h5.size := by rw [W5.size]; exact hz
    have hk := hk.wr W5 (Or.inl (by simp))
    refine w_ret0 C rfl d15_55 (by decide) (by decide) ?_
    exact ⟨rfl, (by rw [show endF sz en = (0 : Int32) from if_pos q47]; exact O_q), O_sa, O_la, O_ee, hk⟩
theorem d14_0 : decode prog_14_method_7_code 0 = .ok (.aload_n 0, 1) := by decide +kernel
theorem d14_1 : decode prog_14_method_7_code 1 = .ok (.getfield 13, 3) := by decide +kernel
theorem d14_4 : decode prog_14_method_7_code 4 = .ok (.iload_n 1, 1) := by decide +kernel
theorem d14_5 : decode prog_14_method_7_code 5 = .ok (.aaload, 1) := by decide +kernel
theorem d14_6 : decode prog_14_method_7_code 6 = .ok (.areturn, 1) := by decide +kernel
def rm_request : Room := { frames := 0, cells := 0, slots := 0, locals := 0 }
theorem pf_request : plainFor (⟨"tallygate/RequestQueue", "request", "(I)Ltallygate/RequestQueue$Entry;"⟩ : MethodName) = true := plainFor_of_name (by first | (simp [plainName, overriddenIn]; done) | decide +kernel)
set_option maxRecDepth 65536 in
set_option maxHeartbeats 40000000 in
theorem ct_request {l : Launch} {Z : State} {a0 : Array Value} (hw : ∀ d ∈ tables_1, d.before a0 Z = true) (h0 : Heap) (n0 : Nat) (q : Addr) (x : Int32) (sa : Addr) (la : Addr) (en : Int32) (sz : Int32) (v0 : Value) (sv : List Value) (hz : n0 ≤ h0.size) (hj : ¬ x < 0) (hv : sv[x.toNatClampNeg]? = some v0) (hu : v0.isRef = true) (O_q : Obj Z h0 q "tallygate/RequestQueue" [("slots", "[Ltallygate/RequestQueue$Entry;", .ref sa), ("least", "[J", .ref la), ("end", "I", .int en), ("size", "I", .int sz)]) (O_sa : ArR Z h0 sa "tallygate/RequestQueue$Entry" sv) :
    Ct l Z (⟨"tallygate/RequestQueue", "request", "(I)Ltallygate/RequestQueue$Entry;"⟩ : MethodName) prog_14_method_7_code 2 (Option.some (Jvm.ClassFile.FieldType.object "tallygate/RequestQueue$Entry")) [] rm_request #[.ref q, .int x] h0 n0 (fun v h => v = some v0 ∧ h = h0) := by
  refine Ct.of (Ls := #[.val (.ref q), .val (.int x)]) pf_request (fun m => by first | (simp [entryFrame, mkF, argsToLocals, Value.category, maxLocals]; done) | rfl) ?_
  intro p e s m below meth c C
  have hk : Keep h0 h0 [] := Keep.refl _ _
  refine w_aloadN (pc' := 1) C d14_0 rfl rfl rfl ?_
  refine w_getF (pc' := 4) C (tw hw 20 rfl) d14_1 rfl (O_q.fld 0 rfl) ?_
  refine w_iloadN (pc' := 5) C d14_4 rfl rfl ?_
  refine wA_aaload (pc' := 6) (v := v0) C d14_5 rfl O_sa hj hv ?_
  refine w_retA (t := (.object "tallygate/RequestQueue$Entry")) C rfl rfl (by first | assumption | rfl) d14_6 (by decide) (by decide) ?_
  exact ⟨rfl, rfl⟩
theorem lt_minJ (f a b : Int64) : (f < minJ a b) = (f < a ∧ f < b) := by
  simp only [minJ, cmpJ_gt, Int64.lt_iff_toInt_lt]
  apply propext
  split <;> omega
theorem lt_emp (f : Int32) : f.toInt64 < EMP := by
  rw [Int64.lt_iff_toInt_lt, c_i2l]
  have := rng32 f
  have e : EMP.toInt = 9223372036854775807 := by decide
  omega
theorem lt64 (x y : Int32) : (x.toInt64 < y.toInt64) = (x < y) := propext (by rw [Int64.lt_iff_toInt_lt, Int32.lt_iff_toInt_lt, c_i2l, c_i2l])
def fc (f : Int32) (s0 s1 s2 : Value) (a b c : Int64) : Value := if f.toInt64 < a then (if f.toInt64 < b then (if f.toInt64 < c then .null else s2) else s1) else s0
theorem fc_ref {f : Int32} {s0 s1 s2 : Value} {a b c : Int64} (h0 : s0.isRef = true) (h1 : s1.isRef = true) (h2 : s2.isRef = true) : (fc f s0 s1 s2 a b c).isRef = true := by
  unfold fc; repeat' split
  all_goals first | rfl | assumption
theorem d13_0 : decode prog_14_method_6_code 0 = .ok (.aload_n 0, 1) := by decide +kernel
theorem d13_1 : decode prog_14_method_6_code 1 = .ok (.getfield 21, 3) := by decide +kernel
theorem d13_4 : decode prog_14_method_6_code 4 = .ok (.iconst 1, 1) := by decide +kernel
theorem d13_5 : decode prog_14_method_6_code 5 = .ok (.laload, 1) := by decide +kernel
theorem d13_6 : decode prog_14_method_6_code 6 = .ok (.iload_n 1, 1) := by decide +kernel
theorem d13_7 : decode prog_14_method_6_code 7 = .ok (.i2l, 1) := by decide +kernel
theorem d13_8 : decode prog_14_method_6_code 8 = .ok (.lcmp, 1) := by decide +kernel
theorem d13_9 : decode prog_14_method_6_code 9 = .ok (.ifCond .le 5, 3) := by decide +kernel
theorem d13_12 : decode prog_14_method_6_code 12 = .ok (.aconst_null, 1) := by decide +kernel
theorem d13_13 : decode prog_14_method_6_code 13 = .ok (.areturn, 1) := by decide +kernel
theorem d13_14 : decode prog_14_method_6_code 14 = .ok (.aload_n 0, 1) := by decide +kernel
theorem d13_15 : decode prog_14_method_6_code 15 = .ok (.getfield 13, 3) := by decide +kernel
theorem d13_18 : decode prog_14_method_6_code 18 = .ok (.arraylength, 1) := by decide +kernel
theorem d13_19 : decode prog_14_method_6_code 19 = .ok (.istore_n 2, 1) := by decide +kernel
theorem d13_20 : decode prog_14_method_6_code 20 = .ok (.iconst 1, 1) := by decide +kernel
theorem d13_21 : decode prog_14_method_6_code 21 = .ok (.istore_n 3, 1) := by decide +kernel
theorem d13_22 : decode prog_14_method_6_code 22 = .ok (.iload_n 3, 1) := by decide +kernel
theorem d13_23 : decode prog_14_method_6_code 23 = .ok (.iload_n 2, 1) := by decide +kernel
theorem d13_24 : decode prog_14_method_6_code 24 = .ok (.if_icmp .ge 25, 3) := by decide +kernel
theorem d13_27 : decode prog_14_method_6_code 27 = .ok (.iload_n 3, 1) := by decide +kernel
theorem d13_28 : decode prog_14_method_6_code 28 = .ok (.iconst 2, 1) := by decide +kernel
theorem d13_29 : decode prog_14_method_6_code 29 = .ok (.imul, 1) := by decide +kernel
theorem d13_30 : decode prog_14_method_6_code 30 = .ok (.istore_n 3, 1) := by decide +kernel
theorem d13_31 : decode prog_14_method_6_code 31 = .ok (.aload_n 0, 1) := by decide +kernel
theorem d13_32 : decode prog_14_method_6_code 32 = .ok (.getfield 21, 3) := by decide +kernel
theorem d13_35 : decode prog_14_method_6_code 35 = .ok (.iload_n 3, 1) := by decide +kernel
theorem d13_36 : decode prog_14_method_6_code 36 = .ok (.laload, 1) := by decide +kernel
theorem d13_37 : decode prog_14_method_6_code 37 = .ok (.iload_n 1, 1) := by decide +kernel
theorem d13_38 : decode prog_14_method_6_code 38 = .ok (.i2l, 1) := by decide +kernel
theorem d13_39 : decode prog_14_method_6_code 39 = .ok (.lcmp, 1) := by decide +kernel
theorem d13_40 : decode prog_14_method_6_code 40 = .ok (.ifCond .le (-18), 3) := by decide +kernel
theorem d13_43 : decode prog_14_method_6_code 43 = .ok (.iinc 3 1, 3) := by decide +kernel
theorem d13_46 : decode prog_14_method_6_code 46 = .ok (.goto (-24), 3) := by decide +kernel
theorem d13_49 : decode prog_14_method_6_code 49 = .ok (.aload_n 0, 1) := by decide +kernel
theorem d13_50 : decode prog_14_method_6_code 50 = .ok (.iload_n 3, 1) := by decide +kernel
theorem d13_51 : decode prog_14_method_6_code 51 = .ok (.iload_n 2, 1) := by decide +kernel
theorem d13_52 : decode prog_14_method_6_code 52 = .ok (.isub, 1) := by decide +kernel
theorem d13_53 : decode prog_14_method_6_code 53 = .ok (.invokevirtual 54, 3) := by decide +kernel
theorem d13_56 : decode prog_14_method_6_code 56 = .ok (.areturn, 1) := by decide +kernel
def rm_first : Room := { frames := 1, cells := 0, slots := 0, locals := 13 }
theorem pf_first : plainFor (⟨"tallygate/RequestQueue", "firstCovered", "(I)Ltallygate/RequestQueue$Entry;"⟩ : MethodName) = true := plainFor_of_name (by first | (simp [plainName, overriddenIn]; done) | decide +kernel)
set_option maxRecDepth 65536 in
set_option maxHeartbeats 40000000 in
theorem ct_first {l : Launch} {Z : State} {a0 : Array Value} (hw : ∀ d ∈ tables_1, d.before a0 Z = true) (h0 : Heap) (n0 : Nat) (q : Addr) (f : Int32) (sa : Addr) (la : Addr) (en : Int32) (sz : Int32) (s0 : Value) (s1 : Value) (s2 : Value) (ta : Int64) (tb : Int64) (tc : Int64) (hz : n0 ≤ h0.size) (u0 : s0.isRef = true) (u1 : s1.isRef = true) (u2 : s2.isRef = true) (O_q : Obj Z h0 q "tallygate/RequestQueue" [("slots", "[Ltallygate/RequestQueue$Entry;", .ref sa), ("least", "[J", .ref la), ("end", "I", .int en), ("size", "I", .int sz)]) (O_sa : ArR Z h0 sa "tallygate/RequestQueue$Entry" (sl3 s0 s1 s2)) (O_la : Ar Z h0 la .long (tr3 ta tb tc)) :
    Ct l Z (⟨"tallygate/RequestQueue", "firstCovered", "(I)Ltallygate/RequestQueue$Entry;"⟩ : MethodName) prog_14_method_6_code 4 (Option.some (Jvm.ClassFile.FieldType.object "tallygate/RequestQueue$Entry")) [] rm_first #[.ref q, .int f] h0 n0 (fun v h => v = some (fc f s0 s1 s2 ta tb tc) ∧ h = h0) := by
  refine Ct.of (Ls := #[.val (.ref q), .val (.int f), .unset, .unset]) pf_first (fun m => by first | (simp [entryFrame, mkF, argsToLocals, Value.category, maxLocals]; done) | rfl) ?_
  intro p e s m below meth c C
  have hk : Keep h0 h0 [] := Keep.refl _ _
  have O_la : Ar Z h0 la .long [.long EMP, .long (minJ (minJ (minJ (minJ ta tb) (minJ tc EMP)) EMP) EMP), .long (minJ (minJ (minJ ta tb) (minJ tc EMP)) EMP), .long EMP, .long (minJ (minJ ta tb) (minJ tc EMP)), .long EMP, .long EMP, .long EMP, .long (minJ ta tb), .long (minJ tc EMP), .long EMP, .long EMP, .long EMP, .long EMP, .long EMP, .long EMP, .long ta, .long tb, .long tc, .long EMP, .long EMP, .long EMP, .long EMP, .long EMP, .long EMP, .long EMP, .long EMP, .long EMP, .long EMP, .long EMP, .long EMP, .long EMP] := O_la
  refine w_aloadN (pc' := 1) C d13_0 rfl rfl rfl ?_
  refine w_getF (pc' := 4) C (tw hw 31 rfl) d13_1 rfl (O_q.fld 1 rfl) ?_
  refine w_iconst (pc' := 5) (x := (1 : Int32)) C d13_4 rfl rfl ?_
  refine wA_laload (pc' := 6) (v := .long (minJ (minJ (minJ (minJ ta tb) (minJ tc EMP)) EMP) EMP)) C d13_5 rfl O_la (by decide) rfl ?_
  refine w_iloadN (pc' := 7) C d13_6 rfl rfl ?_
  refine w_i2l (pc' := 8) C d13_7 rfl ?_
  refine w_lcmp (pc' := 9) C d13_8 rfl ?_
  refine w_if_le (pcT := 14) (pcF := 12) C d13_9 (by decide) (by decide) rfl (fun q9_1 => ?_) (fun q9_1 => ?_)
  · skip
    refine w_aloadN (pc' := 15) C d13_14 rfl rfl rfl ?_
    refine w_getF (pc' := 18) C (tw hw 20 rfl) d13_15 rfl (O_q.fld 0 rfl) ?_
    refine wA_alenR (pc' := 19) (n := (16 : Int32)) C d13_18 rfl O_sa rfl ?_
    refine w_istoreN (pc' := 20) (Ls' := #[.val (.ref q), .val (.int f), .val (.int (16 : Int32)), .unset]) C d13_19 rfl rfl ?_
    refine w_iconst (pc' := 21) (x := (1 : Int32)) C d13_20 rfl rfl ?_
    refine w_istoreN (pc' := 22) (Ls' := #[.val (.ref q), .val (.int f), .val (.int (16 : Int32)), .val (.int (1 : Int32))]) C d13_21 rfl rfl ?_
    refine w_iloadN (pc' := 23) C d13_22 rfl rfl ?_
    refine w_iloadN (pc' := 24) C d13_23 rfl rfl ?_
    refine w_icmp_ge (pcT := 49) (pcF := 27) C d13_24 (by decide) (by decide) rfl (fun q => absurd q (by decide)) (fun q24 => ?_)
    refine w_iloadN (pc' := 28) C d13_27 rfl rfl ?_
    refine w_iconst (pc' := 29) (x := (2 : Int32)) C d13_28 rfl rfl ?_
    refine w_imul (pc' := 30) C d13_29 rfl ?_
    refine w_eqI (z := (2 : Int32)) (by decide) ?_
    refine w_istoreN (pc' := 31) (Ls' := #[.val (.ref q), .val (.int f), .val (.int (16 : Int32)), .val (.int (2 : Int32))]) C d13_30 rfl rfl ?_
    refine w_aloadN (pc' := 32) C d13_31 rfl rfl rfl ?_
    refine w_getF (pc' := 35) C (tw hw 31 rfl) d13_32 rfl (O_q.fld 1 rfl) ?_
    refine w_iloadN (pc' := 36) C d13_35 rfl rfl ?_
    refine wA_laload (pc' := 37) (v := .long (minJ (minJ (minJ ta tb) (minJ tc EMP)) EMP)) C d13_36 rfl O_la (by decide) rfl ?_
    refine w_iloadN (pc' := 38) C d13_37 rfl rfl ?_
    refine w_i2l (pc' := 39) C d13_38 rfl ?_
    refine w_lcmp (pc' := 40) C d13_39 rfl ?_
    refine w_if_le (pcT := 22) (pcF := 43) C d13_40 (by decide) (by decide) rfl (fun q40_2 => ?_) (fun q40_2 => ?_)
    · skip
      refine w_iloadN (pc' := 23) C d13_22 rfl rfl ?_
      refine w_iloadN (pc' := 24) C d13_23 rfl rfl ?_
      refine w_icmp_ge (pcT := 49) (pcF := 27) C d13_24 (by decide) (by decide) rfl (fun q => absurd q (by decide)) (fun q24 => ?_)
      refine w_iloadN (pc' := 28) C d13_27 rfl rfl ?_
      refine w_iconst (pc' := 29) (x := (2 : Int32)) C d13_28 rfl rfl ?_
      refine w_imul (pc' := 30) C d13_29 rfl ?_
      refine w_eqI (z := (4 : Int32)) (by decide) ?_
      refine w_istoreN (pc' := 31) (Ls' := #[.val (.ref q), .val (.int f), .val (.int (16 : Int32)), .val (.int (4 : Int32))]) C d13_30 rfl rfl ?_
      refine w_aloadN (pc' := 32) C d13_31 rfl rfl rfl ?_
      refine w_getF (pc' := 35) C (tw hw 31 rfl) d13_32 rfl (O_q.fld 1 rfl) ?_
      refine w_iloadN (pc' := 36) C d13_35 rfl rfl ?_
      refine wA_laload (pc' := 37) (v := .long (minJ (minJ ta tb) (minJ tc EMP))) C d13_36 rfl O_la (by decide) rfl ?_
      refine w_iloadN (pc' := 38) C d13_37 rfl rfl ?_
      refine w_i2l (pc' := 39) C d13_38 rfl ?_
      refine w_lcmp (pc' := 40) C d13_39 rfl ?_
      refine w_if_le (pcT := 22) (pcF := 43) C d13_40 (by decide) (by decide) rfl (fun q40_3 => ?_) (fun q40_3 => ?_)
      · skip
        refine w_iloadN (pc' := 23) C d13_22 rfl rfl ?_
        refine w_iloadN (pc' := 24) C d13_23 rfl rfl ?_
        refine w_icmp_ge (pcT := 49) (pcF := 27) C d13_24 (by decide) (by decide) rfl (fun q => absurd q (by decide)) (fun q24 => ?_)
        refine w_iloadN (pc' := 28) C d13_27 rfl rfl ?_
        refine w_iconst (pc' := 29) (x := (2 : Int32)) C d13_28 rfl rfl ?_
        refine w_imul (pc' := 30) C d13_29 rfl ?_
        refine w_eqI (z := (8 : Int32)) (by decide) ?_
        refine w_istoreN (pc' := 31) (Ls' := #[.val (.ref q), .val (.int f), .val (.int (16 : Int32)), .val (.int (8 : Int32))]) C d13_30 rfl rfl ?_
        refine w_aloadN (pc' := 32) C d13_31 rfl rfl rfl ?_
        refine w_getF (pc' := 35) C (tw hw 31 rfl) d13_32 rfl (O_q.fld 1 rfl) ?_
        refine w_iloadN (pc' := 36) C d13_35 rfl rfl ?_
        refine wA_laload (pc' := 37) (v := .long (minJ ta tb)) C d13_36 rfl O_la (by decide) rfl ?_
        refine w_iloadN (pc' := 38) C d13_37 rfl rfl ?_
        refine w_i2l (pc' := 39) C d13_38 rfl ?_
        refine w_lcmp (pc' := 40) C d13_39 rfl ?_
        refine w_if_le (pcT := 22) (pcF := 43) C d13_40 (by decide) (by decide) rfl (fun q40_4 => ?_) (fun q40_4 => ?_)
        · skip
          refine w_iloadN (pc' := 23) C d13_22 rfl rfl ?_
          refine w_iloadN (pc' := 24) C d13_23 rfl rfl ?_
          refine w_icmp_ge (pcT := 49) (pcF := 27) C d13_24 (by decide) (by decide) rfl (fun q => absurd q (by decide)) (fun q24 => ?_)
          refine w_iloadN (pc' := 28) C d13_27 rfl rfl ?_
          refine w_iconst (pc' := 29) (x := (2 : Int32)) C d13_28 rfl rfl ?_
          refine w_imul (pc' := 30) C d13_29 rfl ?_
          refine w_eqI (z := (16 : Int32)) (by decide) ?_
          refine w_istoreN (pc' := 31) (Ls' := #[.val (.ref q), .val (.int f), .val (.int (16 : Int32)), .val (.int (16 : Int32))]) C d13_30 rfl rfl ?_
          refine w_aloadN (pc' := 32) C d13_31 rfl rfl rfl ?_
          refine w_getF (pc' := 35) C (tw hw 31 rfl) d13_32 rfl (O_q.fld 1 rfl) ?_
          refine w_iloadN (pc' := 36) C d13_35 rfl rfl ?_
          refine wA_laload (pc' := 37) (v := .long ta) C d13_36 rfl O_la (by decide) rfl ?_
          refine w_iloadN (pc' := 38) C d13_37 rfl rfl ?_
          refine w_i2l (pc' := 39) C d13_38 rfl ?_
          refine w_lcmp (pc' := 40) C d13_39 rfl ?_
          refine w_if_le (pcT := 22) (pcF := 43) C d13_40 (by decide) (by decide) rfl (fun q40_5 => ?_) (fun q40_5 => ?_)
          · skip
            refine w_iloadN (pc' := 23) C d13_22 rfl rfl ?_
            refine w_iloadN (pc' := 24) C d13_23 rfl rfl ?_
            refine w_icmp_ge (pcT := 49) (pcF := 27) C d13_24 (by decide) (by decide) rfl (fun q24 => ?_) (fun q => absurd q (by decide))
            refine w_aloadN (pc' := 50) C d13_49 rfl rfl rfl ?_
            refine w_iloadN (pc' := 51) C d13_50 rfl rfl ?_
            refine w_iloadN (pc' := 52) C d13_51 rfl rfl ?_
            refine w_isub (pc' := 53) C d13_52 rfl ?_
            refine w_eqI (z := (0 : Int32)) (by decide) ?_
            refine w_callP (pc' := 56) (argsL := [.int (0 : Int32)]) (st := []) (W := 0) (ce' := 0) (sl' := 0) C (tw hw 79 rfl) (tw hw 80 rfl) (tw hw 10 rfl) (tw hw 81 rfl) (tw hw 11 rfl) (tw hw 82 rfl) (by decide) d13_53 rfl rfl (by decide) (by decide) (Nat.le_of_eq rfl) rfl rfl (by decide) (by decide) rfl (lenOf pd_4 rfl) O_q.1 (ct_request hw h0 n0 q (0 : Int32) sa la en sz (s0 : Value) (sl3 s0 s1 s2) hz (by decide) rfl (by assumption) O_q O_sa) (kp ?_)
            refine w_retA (t := (.object "tallygate/RequestQueue$Entry")) C rfl rfl (by first | assumption | rfl) d13_56 (by decide) (by decide) ?_
            refine ⟨?_, rfl⟩
            by_cases A : f.toInt64 < ta <;> by_cases B : f.toInt64 < tb <;> by_cases D : f.toInt64 < tc <;> simp [fc, A, B, D, cmpJ_gt, lt_minJ, lt_emp] at q9_1 q40_2 q40_3 q40_4 q40_5 ⊢
          · skip
            refine w_iincE (pc' := 46) (z := (17 : Int32)) (Ls' := #[.val (.ref q), .val (.int f), .val (.int (16 : Int32)), .val (.int (17 : Int32))]) C d13_43 rfl (by decide) rfl rfl ?_
            refine w_goto (pc' := 22) C d13_46 (by decide) (by decide) ?_
            refine w_iloadN (pc' := 23) C d13_22 rfl rfl ?_
            refine w_iloadN (pc' := 24) C d13_23 rfl rfl ?_
            refine w_icmp_ge (pcT := 49) (pcF := 27) C d13_24 (by decide) (by decide) rfl (fun q24 => ?_) (fun q => absurd q (by decide))
            refine w_aloadN (pc' := 50) C d13_49 rfl rfl rfl ?_
            refine w_iloadN (pc' := 51) C d13_50 rfl rfl ?_
            refine w_iloadN (pc' := 52) C d13_51 rfl rfl ?_
            refine w_isub (pc' := 53) C d13_52 rfl ?_
            refine w_eqI (z := (1 : Int32)) (by decide) ?_
            refine w_callP (pc' := 56) (argsL := [.int (1 : Int32)]) (st := []) (W := 0) (ce' := 0) (sl' := 0) C (tw hw 79 rfl) (tw hw 80 rfl) (tw hw 10 rfl) (tw hw 81 rfl) (tw hw 11 rfl) (tw hw 82 rfl) (by decide) d13_53 rfl rfl (by decide) (by decide) (Nat.le_of_eq rfl) rfl rfl (by decide) (by decide) rfl (lenOf pd_4 rfl) O_q.1 (ct_request hw h0 n0 q (1 : Int32) sa la en sz (s1 : Value) (sl3 s0 s1 s2) hz (by decide) rfl (by assumption) O_q O_sa) (kp ?_)
            refine w_retA (t := (.object "tallygate/RequestQueue$Entry")) C rfl rfl (by first | assumption | rfl) d13_56 (by decide) (by decide) ?_
            refine ⟨?_, rfl⟩
            by_cases A : f.toInt64 < ta <;> by_cases B : f.toInt64 < tb <;> by_cases D : f.toInt64 < tc <;> simp [fc, A, B, D, cmpJ_gt, lt_minJ, lt_emp] at q9_1 q40_2 q40_3 q40_4 q40_5 ⊢
        · skip
          refine w_iincE (pc' := 46) (z := (9 : Int32)) (Ls' := #[.val (.ref q), .val (.int f), .val (.int (16 : Int32)), .val (.int (9 : Int32))]) C d13_43 rfl (by decide) rfl rfl ?_
          refine w_goto (pc' := 22) C d13_46 (by decide) (by decide) ?_
          refine w_iloadN (pc' := 23) C d13_22 rfl rfl ?_
          refine w_iloadN (pc' := 24) C d13_23 rfl rfl ?_
          refine w_icmp_ge (pcT := 49) (pcF := 27) C d13_24 (by decide) (by decide) rfl (fun q => absurd q (by decide)) (fun q24 => ?_)
          refine w_iloadN (pc' := 28) C d13_27 rfl rfl ?_
          refine w_iconst (pc' := 29) (x := (2 : Int32)) C d13_28 rfl rfl ?_
          refine w_imul (pc' := 30) C d13_29 rfl ?_
          refine w_eqI (z := (18 : Int32)) (by decide) ?_
          refine w_istoreN (pc' := 31) (Ls' := #[.val (.ref q), .val (.int f), .val (.int (16 : Int32)), .val (.int (18 : Int32))]) C d13_30 rfl rfl ?_
          refine w_aloadN (pc' := 32) C d13_31 rfl rfl rfl ?_
          refine w_getF (pc' := 35) C (tw hw 31 rfl) d13_32 rfl (O_q.fld 1 rfl) ?_
          refine w_iloadN (pc' := 36) C d13_35 rfl rfl ?_
          refine wA_laload (pc' := 37) (v := .long tc) C d13_36 rfl O_la (by decide) rfl ?_
          refine w_iloadN (pc' := 38) C d13_37 rfl rfl ?_
          refine w_i2l (pc' := 39) C d13_38 rfl ?_
          refine w_lcmp (pc' := 40) C d13_39 rfl ?_
          refine w_if_le (pcT := 22) (pcF := 43) C d13_40 (by decide) (by decide) rfl (fun q40_6 => ?_) (fun q40_6 => ?_)
          · skip
            refine w_iloadN (pc' := 23) C d13_22 rfl rfl ?_
            refine w_iloadN (pc' := 24) C d13_23 rfl rfl ?_
            refine w_icmp_ge (pcT := 49) (pcF := 27) C d13_24 (by decide) (by decide) rfl (fun q24 => ?_) (fun q => absurd q (by decide))
            refine w_aloadN (pc' := 50) C d13_49 rfl rfl rfl ?_
            refine w_iloadN (pc' := 51) C d13_50 rfl rfl ?_
            refine w_iloadN (pc' := 52) C d13_51 rfl rfl ?_
            refine w_isub (pc' := 53) C d13_52 rfl ?_
            refine w_eqI (z := (2 : Int32)) (by decide) ?_
            refine w_callP (pc' := 56) (argsL := [.int (2 : Int32)]) (st := []) (W := 0) (ce' := 0) (sl' := 0) C (tw hw 79 rfl) (tw hw 80 rfl) (tw hw 10 rfl) (tw hw 81 rfl) (tw hw 11 rfl) (tw hw 82 rfl) (by decide) d13_53 rfl rfl (by decide) (by decide) (Nat.le_of_eq rfl) rfl rfl (by decide) (by decide) rfl (lenOf pd_4 rfl) O_q.1 (ct_request hw h0 n0 q (2 : Int32) sa la en sz (s2 : Value) (sl3 s0 s1 s2) hz (by decide) rfl (by assumption) O_q O_sa) (kp ?_)
            refine w_retA (t := (.object "tallygate/RequestQueue$Entry")) C rfl rfl (by first | assumption | rfl) d13_56 (by decide) (by decide) ?_
            refine ⟨?_, rfl⟩
            by_cases A : f.toInt64 < ta <;> by_cases B : f.toInt64 < tb <;> by_cases D : f.toInt64 < tc <;> simp [fc, A, B, D, cmpJ_gt, lt_minJ, lt_emp] at q9_1 q40_2 q40_3 q40_4 q40_6 ⊢
          · skip
            refine w_iincE (pc' := 46) (z := (19 : Int32)) (Ls' := #[.val (.ref q), .val (.int f), .val (.int (16 : Int32)), .val (.int (19 : Int32))]) C d13_43 rfl (by decide) rfl rfl ?_
            refine w_goto (pc' := 22) C d13_46 (by decide) (by decide) ?_
            refine w_iloadN (pc' := 23) C d13_22 rfl rfl ?_
            refine w_iloadN (pc' := 24) C d13_23 rfl rfl ?_
            refine w_icmp_ge (pcT := 49) (pcF := 27) C d13_24 (by decide) (by decide) rfl (fun q24 => ?_) (fun q => absurd q (by decide))
            refine w_aloadN (pc' := 50) C d13_49 rfl rfl rfl ?_
            refine w_iloadN (pc' := 51) C d13_50 rfl rfl ?_
            refine w_iloadN (pc' := 52) C d13_51 rfl rfl ?_
            refine w_isub (pc' := 53) C d13_52 rfl ?_
            refine w_eqI (z := (3 : Int32)) (by decide) ?_
            refine w_callP (pc' := 56) (argsL := [.int (3 : Int32)]) (st := []) (W := 0) (ce' := 0) (sl' := 0) C (tw hw 79 rfl) (tw hw 80 rfl) (tw hw 10 rfl) (tw hw 81 rfl) (tw hw 11 rfl) (tw hw 82 rfl) (by decide) d13_53 rfl rfl (by decide) (by decide) (Nat.le_of_eq rfl) rfl rfl (by decide) (by decide) rfl (lenOf pd_4 rfl) O_q.1 (ct_request hw h0 n0 q (3 : Int32) sa la en sz (.null : Value) (sl3 s0 s1 s2) hz (by decide) rfl rfl O_q O_sa) (kp ?_)
            refine w_retA (t := (.object "tallygate/RequestQueue$Entry")) C rfl rfl rfl d13_56 (by decide) (by decide) ?_
            refine ⟨?_, rfl⟩
            by_cases A : f.toInt64 < ta <;> by_cases B : f.toInt64 < tb <;> by_cases D : f.toInt64 < tc <;> simp [fc, A, B, D, cmpJ_gt, lt_minJ, lt_emp] at q9_1 q40_2 q40_3 q40_4 q40_6 ⊢
      · skip
        refine w_iincE (pc' := 46) (z := (5 : Int32)) (Ls' := #[.val (.ref q), .val (.int f), .val (.int (16 : Int32)), .val (.int (5 : Int32))]) C d13_43 rfl (by decide) rfl rfl ?_
        refine w_goto (pc' := 22) C d13_46 (by decide) (by decide) ?_
        refine w_iloadN (pc' := 23) C d13_22 rfl rfl ?_
        refine w_iloadN (pc' := 24) C d13_23 rfl rfl ?_
        refine w_icmp_ge (pcT := 49) (pcF := 27) C d13_24 (by decide) (by decide) rfl (fun q => absurd q (by decide)) (fun q24 => ?_)
        refine w_iloadN (pc' := 28) C d13_27 rfl rfl ?_
        refine w_iconst (pc' := 29) (x := (2 : Int32)) C d13_28 rfl rfl ?_
        refine w_imul (pc' := 30) C d13_29 rfl ?_
        refine w_eqI (z := (10 : Int32)) (by decide) ?_
        refine w_istoreN (pc' := 31) (Ls' := #[.val (.ref q), .val (.int f), .val (.int (16 : Int32)), .val (.int (10 : Int32))]) C d13_30 rfl rfl ?_
        refine w_aloadN (pc' := 32) C d13_31 rfl rfl rfl ?_
        refine w_getF (pc' := 35) C (tw hw 31 rfl) d13_32 rfl (O_q.fld 1 rfl) ?_
        refine w_iloadN (pc' := 36) C d13_35 rfl rfl ?_
        refine wA_laload (pc' := 37) (v := .long EMP) C d13_36 rfl O_la (by decide) rfl ?_
        refine w_iloadN (pc' := 38) C d13_37 rfl rfl ?_
        refine w_i2l (pc' := 39) C d13_38 rfl ?_
        refine w_lcmp (pc' := 40) C d13_39 rfl ?_
        refine w_if_le (pcT := 22) (pcF := 43) C d13_40 (by decide) (by decide) rfl (fun q40_7 => ?_) (fun q40_7 => ?_)
        · skip
          refine w_iloadN (pc' := 23) C d13_22 rfl rfl ?_
          refine w_iloadN (pc' := 24) C d13_23 rfl rfl ?_
          refine w_icmp_ge (pcT := 49) (pcF := 27) C d13_24 (by decide) (by decide) rfl (fun q => absurd q (by decide)) (fun q24 => ?_)
          refine w_iloadN (pc' := 28) C d13_27 rfl rfl ?_
          refine w_iconst (pc' := 29) (x := (2 : Int32)) C d13_28 rfl rfl ?_
          refine w_imul (pc' := 30) C d13_29 rfl ?_
          refine w_eqI (z := (20 : Int32)) (by decide) ?_
          refine w_istoreN (pc' := 31) (Ls' := #[.val (.ref q), .val (.int f), .val (.int (16 : Int32)), .val (.int (20 : Int32))]) C d13_30 rfl rfl ?_
          refine w_aloadN (pc' := 32) C d13_31 rfl rfl rfl ?_
          refine w_getF (pc' := 35) C (tw hw 31 rfl) d13_32 rfl (O_q.fld 1 rfl) ?_
          refine w_iloadN (pc' := 36) C d13_35 rfl rfl ?_
          refine wA_laload (pc' := 37) (v := .long EMP) C d13_36 rfl O_la (by decide) rfl ?_
          refine w_iloadN (pc' := 38) C d13_37 rfl rfl ?_
          refine w_i2l (pc' := 39) C d13_38 rfl ?_
          refine w_lcmp (pc' := 40) C d13_39 rfl ?_
          refine w_if_le (pcT := 22) (pcF := 43) C d13_40 (by decide) (by decide) rfl (fun q40_8 => ?_) (fun q40_8 => ?_)
          · skip
            refine w_iloadN (pc' := 23) C d13_22 rfl rfl ?_
            refine w_iloadN (pc' := 24) C d13_23 rfl rfl ?_
            refine w_icmp_ge (pcT := 49) (pcF := 27) C d13_24 (by decide) (by decide) rfl (fun q24 => ?_) (fun q => absurd q (by decide))
            refine w_aloadN (pc' := 50) C d13_49 rfl rfl rfl ?_
            refine w_iloadN (pc' := 51) C d13_50 rfl rfl ?_
            refine w_iloadN (pc' := 52) C d13_51 rfl rfl ?_
            refine w_isub (pc' := 53) C d13_52 rfl ?_
            refine w_eqI (z := (4 : Int32)) (by decide) ?_
            refine w_callP (pc' := 56) (argsL := [.int (4 : Int32)]) (st := []) (W := 0) (ce' := 0) (sl' := 0) C (tw hw 79 rfl) (tw hw 80 rfl) (tw hw 10 rfl) (tw hw 81 rfl) (tw hw 11 rfl) (tw hw 82 rfl) (by decide) d13_53 rfl rfl (by decide) (by decide) (Nat.le_of_eq rfl) rfl rfl (by decide) (by decide) rfl (lenOf pd_4 rfl) O_q.1 (ct_request hw h0 n0 q (4 : Int32) sa la en sz (.null : Value) (sl3 s0 s1 s2) hz (by decide) rfl rfl O_q O_sa) (kp ?_)
            refine w_retA (t := (.object "tallygate/RequestQueue$Entry")) C rfl rfl rfl d13_56 (by decide) (by decide) ?_
            refine ⟨?_, rfl⟩
            by_cases A : f.toInt64 < ta <;> by_cases B : f.toInt64 < tb <;> by_cases D : f.toInt64 < tc <;> simp [fc, A, B, D, cmpJ_gt, lt_minJ, lt_emp] at q9_1 q40_2 q40_3 q40_7 q40_8 ⊢
          · skip
            refine w_iincE (pc' := 46) (z := (21 : Int32)) (Ls' := #[.val (.ref q), .val (.int f), .val (.int (16 : Int32)), .val (.int (21 : Int32))]) C d13_43 rfl (by decide) rfl rfl ?_
            refine w_goto (pc' := 22) C d13_46 (by decide) (by decide) ?_
            refine w_iloadN (pc' := 23) C d13_22 rfl rfl ?_
            refine w_iloadN (pc' := 24) C d13_23 rfl rfl ?_
            refine w_icmp_ge (pcT := 49) (pcF := 27) C d13_24 (by decide) (by decide) rfl (fun q24 => ?_) (fun q => absurd q (by decide))
            refine w_aloadN (pc' := 50) C d13_49 rfl rfl rfl ?_
            refine w_iloadN (pc' := 51) C d13_50 rfl rfl ?_
            refine w_iloadN (pc' := 52) C d13_51 rfl rfl ?_
            refine w_isub (pc' := 53) C d13_52 rfl ?_
            refine w_eqI (z := (5 : Int32)) (by decide) ?_
            refine w_callP (pc' := 56) (argsL := [.int (5 : Int32)]) (st := []) (W := 0) (ce' := 0) (sl' := 0) C (tw hw 79 rfl) (tw hw 80 rfl) (tw hw 10 rfl) (tw hw 81 rfl) (tw hw 11 rfl) (tw hw 82 rfl) (by decide) d13_53 rfl rfl (by decide) (by decide) (Nat.le_of_eq rfl) rfl rfl (by decide) (by decide) rfl (lenOf pd_4 rfl) O_q.1 (ct_request hw h0 n0 q (5 : Int32) sa la en sz (.null : Value) (sl3 s0 s1 s2) hz (by decide) rfl rfl O_q O_sa) (kp ?_)
            refine w_retA (t := (.object "tallygate/RequestQueue$Entry")) C rfl rfl rfl d13_56 (by decide) (by decide) ?_
            refine ⟨?_, rfl⟩
            by_cases A : f.toInt64 < ta <;> by_cases B : f.toInt64 < tb <;> by_cases D : f.toInt64 < tc <;> simp [fc, A, B, D, cmpJ_gt, lt_minJ, lt_emp] at q9_1 q40_2 q40_3 q40_7 q40_8 ⊢
        · skip
          refine w_iincE (pc' := 46) (z := (11 : Int32)) (Ls' := #[.val (.ref q), .val (.int f), .val (.int (16 : Int32)), .val (.int (11 : Int32))]) C d13_43 rfl (by decide) rfl rfl ?_
          refine w_goto (pc' := 22) C d13_46 (by decide) (by decide) ?_
          refine w_iloadN (pc' := 23) C d13_22 rfl rfl ?_
          refine w_iloadN (pc' := 24) C d13_23 rfl rfl ?_
          refine w_icmp_ge (pcT := 49) (pcF := 27) C d13_24 (by decide) (by decide) rfl (fun q => absurd q (by decide)) (fun q24 => ?_)
          refine w_iloadN (pc' := 28) C d13_27 rfl rfl ?_
          refine w_iconst (pc' := 29) (x := (2 : Int32)) C d13_28 rfl rfl ?_
          refine w_imul (pc' := 30) C d13_29 rfl ?_
          refine w_eqI (z := (22 : Int32)) (by decide) ?_
          refine w_istoreN (pc' := 31) (Ls' := #[.val (.ref q), .val (.int f), .val (.int (16 : Int32)), .val (.int (22 : Int32))]) C d13_30 rfl rfl ?_
          refine w_aloadN (pc' := 32) C d13_31 rfl rfl rfl ?_
          refine w_getF (pc' := 35) C (tw hw 31 rfl) d13_32 rfl (O_q.fld 1 rfl) ?_
          refine w_iloadN (pc' := 36) C d13_35 rfl rfl ?_
          refine wA_laload (pc' := 37) (v := .long EMP) C d13_36 rfl O_la (by decide) rfl ?_
          refine w_iloadN (pc' := 38) C d13_37 rfl rfl ?_
          refine w_i2l (pc' := 39) C d13_38 rfl ?_
          refine w_lcmp (pc' := 40) C d13_39 rfl ?_
          refine w_if_le (pcT := 22) (pcF := 43) C d13_40 (by decide) (by decide) rfl (fun q40_9 => ?_) (fun q40_9 => ?_)
          · skip
            refine w_iloadN (pc' := 23) C d13_22 rfl rfl ?_
            refine w_iloadN (pc' := 24) C d13_23 rfl rfl ?_
            refine w_icmp_ge (pcT := 49) (pcF := 27) C d13_24 (by decide) (by decide) rfl (fun q24 => ?_) (fun q => absurd q (by decide))
            refine w_aloadN (pc' := 50) C d13_49 rfl rfl rfl ?_
            refine w_iloadN (pc' := 51) C d13_50 rfl rfl ?_
            refine w_iloadN (pc' := 52) C d13_51 rfl rfl ?_
            refine w_isub (pc' := 53) C d13_52 rfl ?_
            refine w_eqI (z := (6 : Int32)) (by decide) ?_
            refine w_callP (pc' := 56) (argsL := [.int (6 : Int32)]) (st := []) (W := 0) (ce' := 0) (sl' := 0) C (tw hw 79 rfl) (tw hw 80 rfl) (tw hw 10 rfl) (tw hw 81 rfl) (tw hw 11 rfl) (tw hw 82 rfl) (by decide) d13_53 rfl rfl (by decide) (by decide) (Nat.le_of_eq rfl) rfl rfl (by decide) (by decide) rfl (lenOf pd_4 rfl) O_q.1 (ct_request hw h0 n0 q (6 : Int32) sa la en sz (.null : Value) (sl3 s0 s1 s2) hz (by decide) rfl rfl O_q O_sa) (kp ?_)
            refine w_retA (t := (.object "tallygate/RequestQueue$Entry")) C rfl rfl rfl d13_56 (by decide) (by decide) ?_
            refine ⟨?_, rfl⟩
            by_cases A : f.toInt64 < ta <;> by_cases B : f.toInt64 < tb <;> by_cases D : f.toInt64 < tc <;> simp [fc, A, B, D, cmpJ_gt, lt_minJ, lt_emp] at q9_1 q40_2 q40_3 q40_7 q40_9 ⊢
          · skip
            refine w_iincE (pc' := 46) (z := (23 : Int32)) (Ls' := #[.val (.ref q), .val (.int f), .val (.int (16 : Int32)), .val (.int (23 : Int32))]) C d13_43 rfl (by decide) rfl rfl ?_
            refine w_goto (pc' := 22) C d13_46 (by decide) (by decide) ?_
            refine w_iloadN (pc' := 23) C d13_22 rfl rfl ?_
            refine w_iloadN (pc' := 24) C d13_23 rfl rfl ?_
            refine w_icmp_ge (pcT := 49) (pcF := 27) C d13_24 (by decide) (by decide) rfl (fun q24 => ?_) (fun q => absurd q (by decide))
            refine w_aloadN (pc' := 50) C d13_49 rfl rfl rfl ?_
            refine w_iloadN (pc' := 51) C d13_50 rfl rfl ?_
            refine w_iloadN (pc' := 52) C d13_51 rfl rfl ?_
            refine w_isub (pc' := 53) C d13_52 rfl ?_
            refine w_eqI (z := (7 : Int32)) (by decide) ?_
            refine w_callP (pc' := 56) (argsL := [.int (7 : Int32)]) (st := []) (W := 0) (ce' := 0) (sl' := 0) C (tw hw 79 rfl) (tw hw 80 rfl) (tw hw 10 rfl) (tw hw 81 rfl) (tw hw 11 rfl) (tw hw 82 rfl) (by decide) d13_53 rfl rfl (by decide) (by decide) (Nat.le_of_eq rfl) rfl rfl (by decide) (by decide) rfl (lenOf pd_4 rfl) O_q.1 (ct_request hw h0 n0 q (7 : Int32) sa la en sz (.null : Value) (sl3 s0 s1 s2) hz (by decide) rfl rfl O_q O_sa) (kp ?_)
            refine w_retA (t := (.object "tallygate/RequestQueue$Entry")) C rfl rfl rfl d13_56 (by decide) (by decide) ?_
            refine ⟨?_, rfl⟩
            by_cases A : f.toInt64 < ta <;> by_cases B : f.toInt64 < tb <;> by_cases D : f.toInt64 < tc <;> simp [fc, A, B, D, cmpJ_gt, lt_minJ, lt_emp] at q9_1 q40_2 q40_3 q40_7 q40_9 ⊢
    · skip
      refine w_iincE (pc' := 46) (z := (3 : Int32)) (Ls' := #[.val (.ref q), .val (.int f), .val (.int (16 : Int32)), .val (.int (3 : Int32))]) C d13_43 rfl (by decide) rfl rfl ?_
      refine w_goto (pc' := 22) C d13_46 (by decide) (by decide) ?_
      refine w_iloadN (pc' := 23) C d13_22 rfl rfl ?_
      refine w_iloadN (pc' := 24) C d13_23 rfl rfl ?_
      refine w_icmp_ge (pcT := 49) (pcF := 27) C d13_24 (by decide) (by decide) rfl (fun q => absurd q (by decide)) (fun q24 => ?_)
      refine w_iloadN (pc' := 28) C d13_27 rfl rfl ?_
      refine w_iconst (pc' := 29) (x := (2 : Int32)) C d13_28 rfl rfl ?_
      refine w_imul (pc' := 30) C d13_29 rfl ?_
      refine w_eqI (z := (6 : Int32)) (by decide) ?_
      refine w_istoreN (pc' := 31) (Ls' := #[.val (.ref q), .val (.int f), .val (.int (16 : Int32)), .val (.int (6 : Int32))]) C d13_30 rfl rfl ?_
      refine w_aloadN (pc' := 32) C d13_31 rfl rfl rfl ?_
      refine w_getF (pc' := 35) C (tw hw 31 rfl) d13_32 rfl (O_q.fld 1 rfl) ?_
      refine w_iloadN (pc' := 36) C d13_35 rfl rfl ?_
      refine wA_laload (pc' := 37) (v := .long EMP) C d13_36 rfl O_la (by decide) rfl ?_
      refine w_iloadN (pc' := 38) C d13_37 rfl rfl ?_
      refine w_i2l (pc' := 39) C d13_38 rfl ?_
      refine w_lcmp (pc' := 40) C d13_39 rfl ?_
      refine w_if_le (pcT := 22) (pcF := 43) C d13_40 (by decide) (by decide) rfl (fun q40_10 => ?_) (fun q40_10 => ?_)
      · skip
        refine w_iloadN (pc' := 23) C d13_22 rfl rfl ?_
        refine w_iloadN (pc' := 24) C d13_23 rfl rfl ?_
        refine w_icmp_ge (pcT := 49) (pcF := 27) C d13_24 (by decide) (by decide) rfl (fun q => absurd q (by decide)) (fun q24 => ?_)
        refine w_iloadN (pc' := 28) C d13_27 rfl rfl ?_
        refine w_iconst (pc' := 29) (x := (2 : Int32)) C d13_28 rfl rfl ?_
        refine w_imul (pc' := 30) C d13_29 rfl ?_
        refine w_eqI (z := (12 : Int32)) (by decide) ?_
        refine w_istoreN (pc' := 31) (Ls' := #[.val (.ref q), .val (.int f), .val (.int (16 : Int32)), .val (.int (12 : Int32))]) C d13_30 rfl rfl ?_
        refine w_aloadN (pc' := 32) C d13_31 rfl rfl rfl ?_
        refine w_getF (pc' := 35) C (tw hw 31 rfl) d13_32 rfl (O_q.fld 1 rfl) ?_
        refine w_iloadN (pc' := 36) C d13_35 rfl rfl ?_
        refine wA_laload (pc' := 37) (v := .long EMP) C d13_36 rfl O_la (by decide) rfl ?_
        refine w_iloadN (pc' := 38) C d13_37 rfl rfl ?_
        refine w_i2l (pc' := 39) C d13_38 rfl ?_
        refine w_lcmp (pc' := 40) C d13_39 rfl ?_
        refine w_if_le (pcT := 22) (pcF := 43) C d13_40 (by decide) (by decide) rfl (fun q40_11 => ?_) (fun q40_11 => ?_)
        · skip
          refine w_iloadN (pc' := 23) C d13_22 rfl rfl ?_
          refine w_iloadN (pc' := 24) C d13_23 rfl rfl ?_
          refine w_icmp_ge (pcT := 49) (pcF := 27) C d13_24 (by decide) (by decide) rfl (fun q => absurd q (by decide)) (fun q24 => ?_)
          refine w_iloadN (pc' := 28) C d13_27 rfl rfl ?_
          refine w_iconst (pc' := 29) (x := (2 : Int32)) C d13_28 rfl rfl ?_
          refine w_imul (pc' := 30) C d13_29 rfl ?_
          refine w_eqI (z := (24 : Int32)) (by decide) ?_
          refine w_istoreN (pc' := 31) (Ls' := #[.val (.ref q), .val (.int f), .val (.int (16 : Int32)), .val (.int (24 : Int32))]) C d13_30 rfl rfl ?_
          refine w_aloadN (pc' := 32) C d13_31 rfl rfl rfl ?_
          refine w_getF (pc' := 35) C (tw hw 31 rfl) d13_32 rfl (O_q.fld 1 rfl) ?_
          refine w_iloadN (pc' := 36) C d13_35 rfl rfl ?_
          refine wA_laload (pc' := 37) (v := .long EMP) C d13_36 rfl O_la (by decide) rfl ?_
          refine w_iloadN (pc' := 38) C d13_37 rfl rfl ?_
          refine w_i2l (pc' := 39) C d13_38 rfl ?_
          refine w_lcmp (pc' := 40) C d13_39 rfl ?_
          refine w_if_le (pcT := 22) (pcF := 43) C d13_40 (by decide) (by decide) rfl (fun q40_12 => ?_) (fun q40_12 => ?_)
          · skip
            refine w_iloadN (pc' := 23) C d13_22 rfl rfl ?_
            refine w_iloadN (pc' := 24) C d13_23 rfl rfl ?_
            refine w_icmp_ge (pcT := 49) (pcF := 27) C d13_24 (by decide) (by decide) rfl (fun q24 => ?_) (fun q => absurd q (by decide))
            refine w_aloadN (pc' := 50) C d13_49 rfl rfl rfl ?_
            refine w_iloadN (pc' := 51) C d13_50 rfl rfl ?_
            refine w_iloadN (pc' := 52) C d13_51 rfl rfl ?_
            refine w_isub (pc' := 53) C d13_52 rfl ?_
            refine w_eqI (z := (8 : Int32)) (by decide) ?_
            refine w_callP (pc' := 56) (argsL := [.int (8 : Int32)]) (st := []) (W := 0) (ce' := 0) (sl' := 0) C (tw hw 79 rfl) (tw hw 80 rfl) (tw hw 10 rfl) (tw hw 81 rfl) (tw hw 11 rfl) (tw hw 82 rfl) (by decide) d13_53 rfl rfl (by decide) (by decide) (Nat.le_of_eq rfl) rfl rfl (by decide) (by decide) rfl (lenOf pd_4 rfl) O_q.1 (ct_request hw h0 n0 q (8 : Int32) sa la en sz (.null : Value) (sl3 s0 s1 s2) hz (by decide) rfl rfl O_q O_sa) (kp ?_)
            refine w_retA (t := (.object "tallygate/RequestQueue$Entry")) C rfl rfl rfl d13_56 (by decide) (by decide) ?_
            refine ⟨?_, rfl⟩
            by_cases A : f.toInt64 < ta <;> by_cases B : f.toInt64 < tb <;> by_cases D : f.toInt64 < tc <;> simp [fc, A, B, D, cmpJ_gt, lt_minJ, lt_emp] at q9_1 q40_2 q40_10 q40_11 q40_12 ⊢
          · skip
            refine w_iincE (pc' := 46) (z := (25 : Int32)) (Ls' := #[.val (.ref q), .val (.int f), .val (.int (16 : Int32)), .val (.int (25 : Int32))]) C d13_43 rfl (by decide) rfl rfl ?_
            refine w_goto (pc' := 22) C d13_46 (by decide) (by decide) ?_
            refine w_iloadN (pc' := 23) C d13_22 rfl rfl ?_
            refine w_iloadN (pc' := 24) C d13_23 rfl rfl ?_
            refine w_icmp_ge (pcT := 49) (pcF := 27) C d13_24 (by decide) (by decide) rfl (fun q24 => ?_) (fun q => absurd q (by decide))
            refine w_aloadN (pc' := 50) C d13_49 rfl rfl rfl ?_
            refine w_iloadN (pc' := 51) C d13_50 rfl rfl ?_
            refine w_iloadN (pc' := 52) C d13_51 rfl rfl ?_
            refine w_isub (pc' := 53) C d13_52 rfl ?_
            refine w_eqI (z := (9 : Int32)) (by decide) ?_
            refine w_callP (pc' := 56) (argsL := [.int (9 : Int32)]) (st := []) (W := 0) (ce' := 0) (sl' := 0) C (tw hw 79 rfl) (tw hw 80 rfl) (tw hw 10 rfl) (tw hw 81 rfl) (tw hw 11 rfl) (tw hw 82 rfl) (by decide) d13_53 rfl rfl (by decide) (by decide) (Nat.le_of_eq rfl) rfl rfl (by decide) (by decide) rfl (lenOf pd_4 rfl) O_q.1 (ct_request hw h0 n0 q (9 : Int32) sa la en sz (.null : Value) (sl3 s0 s1 s2) hz (by decide) rfl rfl O_q O_sa) (kp ?_)
            refine w_retA (t := (.object "tallygate/RequestQueue$Entry")) C rfl rfl rfl d13_56 (by decide) (by decide) ?_
            refine ⟨?_, rfl⟩
            by_cases A : f.toInt64 < ta <;> by_cases B : f.toInt64 < tb <;> by_cases D : f.toInt64 < tc <;> simp [fc, A, B, D, cmpJ_gt, lt_minJ, lt_emp] at q9_1 q40_2 q40_10 q40_11 q40_12 ⊢
        · skip
          refine w_iincE (pc' := 46) (z := (13 : Int32)) (Ls' := #[.val (.ref q), .val (.int f), .val (.int (16 : Int32)), .val (.int (13 : Int32))]) C d13_43 rfl (by decide) rfl rfl ?_
          refine w_goto (pc' := 22) C d13_46 (by decide) (by decide) ?_
          refine w_iloadN (pc' := 23) C d13_22 rfl rfl ?_
          refine w_iloadN (pc' := 24) C d13_23 rfl rfl ?_
          refine w_icmp_ge (pcT := 49) (pcF := 27) C d13_24 (by decide) (by decide) rfl (fun q => absurd q (by decide)) (fun q24 => ?_)
          refine w_iloadN (pc' := 28) C d13_27 rfl rfl ?_
          refine w_iconst (pc' := 29) (x := (2 : Int32)) C d13_28 rfl rfl ?_
          refine w_imul (pc' := 30) C d13_29 rfl ?_
          refine w_eqI (z := (26 : Int32)) (by decide) ?_
          refine w_istoreN (pc' := 31) (Ls' := #[.val (.ref q), .val (.int f), .val (.int (16 : Int32)), .val (.int (26 : Int32))]) C d13_30 rfl rfl ?_
          refine w_aloadN (pc' := 32) C d13_31 rfl rfl rfl ?_
          refine w_getF (pc' := 35) C (tw hw 31 rfl) d13_32 rfl (O_q.fld 1 rfl) ?_
          refine w_iloadN (pc' := 36) C d13_35 rfl rfl ?_
          refine wA_laload (pc' := 37) (v := .long EMP) C d13_36 rfl O_la (by decide) rfl ?_
          refine w_iloadN (pc' := 38) C d13_37 rfl rfl ?_
          refine w_i2l (pc' := 39) C d13_38 rfl ?_
          refine w_lcmp (pc' := 40) C d13_39 rfl ?_
          refine w_if_le (pcT := 22) (pcF := 43) C d13_40 (by decide) (by decide) rfl (fun q40_13 => ?_) (fun q40_13 => ?_)
          · skip
            refine w_iloadN (pc' := 23) C d13_22 rfl rfl ?_
            refine w_iloadN (pc' := 24) C d13_23 rfl rfl ?_
            refine w_icmp_ge (pcT := 49) (pcF := 27) C d13_24 (by decide) (by decide) rfl (fun q24 => ?_) (fun q => absurd q (by decide))
            refine w_aloadN (pc' := 50) C d13_49 rfl rfl rfl ?_
            refine w_iloadN (pc' := 51) C d13_50 rfl rfl ?_
            refine w_iloadN (pc' := 52) C d13_51 rfl rfl ?_
            refine w_isub (pc' := 53) C d13_52 rfl ?_
            refine w_eqI (z := (10 : Int32)) (by decide) ?_
            refine w_callP (pc' := 56) (argsL := [.int (10 : Int32)]) (st := []) (W := 0) (ce' := 0) (sl' := 0) C (tw hw 79 rfl) (tw hw 80 rfl) (tw hw 10 rfl) (tw hw 81 rfl) (tw hw 11 rfl) (tw hw 82 rfl) (by decide) d13_53 rfl rfl (by decide) (by decide) (Nat.le_of_eq rfl) rfl rfl (by decide) (by decide) rfl (lenOf pd_4 rfl) O_q.1 (ct_request hw h0 n0 q (10 : Int32) sa la en sz (.null : Value) (sl3 s0 s1 s2) hz (by decide) rfl rfl O_q O_sa) (kp ?_)
            refine w_retA (t := (.object "tallygate/RequestQueue$Entry")) C rfl rfl rfl d13_56 (by decide) (by decide) ?_
            refine ⟨?_, rfl⟩
            by_cases A : f.toInt64 < ta <;> by_cases B : f.toInt64 < tb <;> by_cases D : f.toInt64 < tc <;> simp [fc, A, B, D, cmpJ_gt, lt_minJ, lt_emp] at q9_1 q40_2 q40_10 q40_11 q40_13 ⊢
          · skip
            refine w_iincE (pc' := 46) (z := (27 : Int32)) (Ls' := #[.val (.ref q), .val (.int f), .val (.int (16 : Int32)), .val (.int (27 : Int32))]) C d13_43 rfl (by decide) rfl rfl ?_
            refine w_goto (pc' := 22) C d13_46 (by decide) (by decide) ?_
            refine w_iloadN (pc' := 23) C d13_22 rfl rfl ?_
            refine w_iloadN (pc' := 24) C d13_23 rfl rfl ?_
            refine w_icmp_ge (pcT := 49) (pcF := 27) C d13_24 (by decide) (by decide) rfl (fun q24 => ?_) (fun q => absurd q (by decide))
            refine w_aloadN (pc' := 50) C d13_49 rfl rfl rfl ?_
            refine w_iloadN (pc' := 51) C d13_50 rfl rfl ?_
            refine w_iloadN (pc' := 52) C d13_51 rfl rfl ?_
            refine w_isub (pc' := 53) C d13_52 rfl ?_
            refine w_eqI (z := (11 : Int32)) (by decide) ?_
            refine w_callP (pc' := 56) (argsL := [.int (11 : Int32)]) (st := []) (W := 0) (ce' := 0) (sl' := 0) C (tw hw 79 rfl) (tw hw 80 rfl) (tw hw 10 rfl) (tw hw 81 rfl) (tw hw 11 rfl) (tw hw 82 rfl) (by decide) d13_53 rfl rfl (by decide) (by decide) (Nat.le_of_eq rfl) rfl rfl (by decide) (by decide) rfl (lenOf pd_4 rfl) O_q.1 (ct_request hw h0 n0 q (11 : Int32) sa la en sz (.null : Value) (sl3 s0 s1 s2) hz (by decide) rfl rfl O_q O_sa) (kp ?_)
            refine w_retA (t := (.object "tallygate/RequestQueue$Entry")) C rfl rfl rfl d13_56 (by decide) (by decide) ?_
            refine ⟨?_, rfl⟩
            by_cases A : f.toInt64 < ta <;> by_cases B : f.toInt64 < tb <;> by_cases D : f.toInt64 < tc <;> simp [fc, A, B, D, cmpJ_gt, lt_minJ, lt_emp] at q9_1 q40_2 q40_10 q40_11 q40_13 ⊢
      · skip
        refine w_iincE (pc' := 46) (z := (7 : Int32)) (Ls' := #[.val (.ref q), .val (.int f), .val (.int (16 : Int32)), .val (.int (7 : Int32))]) C d13_43 rfl (by decide) rfl rfl ?_
        refine w_goto (pc' := 22) C d13_46 (by decide) (by decide) ?_
        refine w_iloadN (pc' := 23) C d13_22 rfl rfl ?_
        refine w_iloadN (pc' := 24) C d13_23 rfl rfl ?_
        refine w_icmp_ge (pcT := 49) (pcF := 27) C d13_24 (by decide) (by decide) rfl (fun q => absurd q (by decide)) (fun q24 => ?_)
        refine w_iloadN (pc' := 28) C d13_27 rfl rfl ?_
        refine w_iconst (pc' := 29) (x := (2 : Int32)) C d13_28 rfl rfl ?_
        refine w_imul (pc' := 30) C d13_29 rfl ?_
        refine w_eqI (z := (14 : Int32)) (by decide) ?_
        refine w_istoreN (pc' := 31) (Ls' := #[.val (.ref q), .val (.int f), .val (.int (16 : Int32)), .val (.int (14 : Int32))]) C d13_30 rfl rfl ?_
        refine w_aloadN (pc' := 32) C d13_31 rfl rfl rfl ?_
        refine w_getF (pc' := 35) C (tw hw 31 rfl) d13_32 rfl (O_q.fld 1 rfl) ?_
        refine w_iloadN (pc' := 36) C d13_35 rfl rfl ?_
        refine wA_laload (pc' := 37) (v := .long EMP) C d13_36 rfl O_la (by decide) rfl ?_
        refine w_iloadN (pc' := 38) C d13_37 rfl rfl ?_
        refine w_i2l (pc' := 39) C d13_38 rfl ?_
        refine w_lcmp (pc' := 40) C d13_39 rfl ?_
        refine w_if_le (pcT := 22) (pcF := 43) C d13_40 (by decide) (by decide) rfl (fun q40_14 => ?_) (fun q40_14 => ?_)
        · skip
          refine w_iloadN (pc' := 23) C d13_22 rfl rfl ?_
          refine w_iloadN (pc' := 24) C d13_23 rfl rfl ?_
          refine w_icmp_ge (pcT := 49) (pcF := 27) C d13_24 (by decide) (by decide) rfl (fun q => absurd q (by decide)) (fun q24 => ?_)
          refine w_iloadN (pc' := 28) C d13_27 rfl rfl ?_
          refine w_iconst (pc' := 29) (x := (2 : Int32)) C d13_28 rfl rfl ?_
          refine w_imul (pc' := 30) C d13_29 rfl ?_
          refine w_eqI (z := (28 : Int32)) (by decide) ?_
          refine w_istoreN (pc' := 31) (Ls' := #[.val (.ref q), .val (.int f), .val (.int (16 : Int32)), .val (.int (28 : Int32))]) C d13_30 rfl rfl ?_
          refine w_aloadN (pc' := 32) C d13_31 rfl rfl rfl ?_
          refine w_getF (pc' := 35) C (tw hw 31 rfl) d13_32 rfl (O_q.fld 1 rfl) ?_
          refine w_iloadN (pc' := 36) C d13_35 rfl rfl ?_
          refine wA_laload (pc' := 37) (v := .long EMP) C d13_36 rfl O_la (by decide) rfl ?_
          refine w_iloadN (pc' := 38) C d13_37 rfl rfl ?_
          refine w_i2l (pc' := 39) C d13_38 rfl ?_
          refine w_lcmp (pc' := 40) C d13_39 rfl ?_
          refine w_if_le (pcT := 22) (pcF := 43) C d13_40 (by decide) (by decide) rfl (fun q40_15 => ?_) (fun q40_15 => ?_)
          · skip
            refine w_iloadN (pc' := 23) C d13_22 rfl rfl ?_
            refine w_iloadN (pc' := 24) C d13_23 rfl rfl ?_
            refine w_icmp_ge (pcT := 49) (pcF := 27) C d13_24 (by decide) (by decide) rfl (fun q24 => ?_) (fun q => absurd q (by decide))
            refine w_aloadN (pc' := 50) C d13_49 rfl rfl rfl ?_
            refine w_iloadN (pc' := 51) C d13_50 rfl rfl ?_
            refine w_iloadN (pc' := 52) C d13_51 rfl rfl ?_
            refine w_isub (pc' := 53) C d13_52 rfl ?_
            refine w_eqI (z := (12 : Int32)) (by decide) ?_
            refine w_callP (pc' := 56) (argsL := [.int (12 : Int32)]) (st := []) (W := 0) (ce' := 0) (sl' := 0) C (tw hw 79 rfl) (tw hw 80 rfl) (tw hw 10 rfl) (tw hw 81 rfl) (tw hw 11 rfl) (tw hw 82 rfl) (by decide) d13_53 rfl rfl (by decide) (by decide) (Nat.le_of_eq rfl) rfl rfl (by decide) (by decide) rfl (lenOf pd_4 rfl) O_q.1 (ct_request hw h0 n0 q (12 : Int32) sa la en sz (.null : Value) (sl3 s0 s1 s2) hz (by decide) rfl rfl O_q O_sa) (kp ?_)
            refine w_retA (t := (.object "tallygate/RequestQueue$Entry")) C rfl rfl rfl d13_56 (by decide) (by decide) ?_
            refine ⟨?_, rfl⟩
            by_cases A : f.toInt64 < ta <;> by_cases B : f.toInt64 < tb <;> by_cases D : f.toInt64 < tc <;> simp [fc, A, B, D, cmpJ_gt, lt_minJ, lt_emp] at q9_1 q40_2 q40_10 q40_14 q40_15 ⊢
          · skip
            refine w_iincE (pc' := 46) (z := (29 : Int32)) (Ls' := #[.val (.ref q), .val (.int f), .val (.int (16 : Int32)), .val (.int (29 : Int32))]) C d13_43 rfl (by decide) rfl rfl ?_
            refine w_goto (pc' := 22) C d13_46 (by decide) (by decide) ?_
            refine w_iloadN (pc' := 23) C d13_22 rfl rfl ?_
            refine w_iloadN (pc' := 24) C d13_23 rfl rfl ?_
            refine w_icmp_ge (pcT := 49) (pcF := 27) C d13_24 (by decide) (by decide) rfl (fun q24 => ?_) (fun q => absurd q (by decide))
            refine w_aloadN (pc' := 50) C d13_49 rfl rfl rfl ?_
            refine w_iloadN (pc' := 51) C d13_50 rfl rfl ?_
            refine w_iloadN (pc' := 52) C d13_51 rfl rfl ?_
            refine w_isub (pc' := 53) C d13_52 rfl ?_
            refine w_eqI (z := (13 : Int32)) (by decide) ?_
            refine w_callP (pc' := 56) (argsL := [.int (13 : Int32)]) (st := []) (W := 0) (ce' := 0) (sl' := 0) C (tw hw 79 rfl) (tw hw 80 rfl) (tw hw 10 rfl) (tw hw 81 rfl) (tw hw 11 rfl) (tw hw 82 rfl) (by decide) d13_53 rfl rfl (by decide) (by decide) (Nat.le_of_eq rfl) rfl rfl (by decide) (by decide) rfl (lenOf pd_4 rfl) O_q.1 (ct_request hw h0 n0 q (13 : Int32) sa la en sz (.null : Value) (sl3 s0 s1 s2) hz (by decide) rfl rfl O_q O_sa) (kp ?_)
            refine w_retA (t := (.object "tallygate/RequestQueue$Entry")) C rfl rfl rfl d13_56 (by decide) (by decide) ?_
            refine ⟨?_, rfl⟩
            by_cases A : f.toInt64 < ta <;> by_cases B : f.toInt64 < tb <;> by_cases D : f.toInt64 < tc <;> simp [fc, A, B, D, cmpJ_gt, lt_minJ, lt_emp] at q9_1 q40_2 q40_10 q40_14 q40_15 ⊢
        · skip
          refine w_iincE (pc' := 46) (z := (15 : Int32)) (Ls' := #[.val (.ref q), .val (.int f), .val (.int (16 : Int32)), .val (.int (15 : Int32))]) C d13_43 rfl (by decide) rfl rfl ?_
          refine w_goto (pc' := 22) C d13_46 (by decide) (by decide) ?_
          refine w_iloadN (pc' := 23) C d13_22 rfl rfl ?_
          refine w_iloadN (pc' := 24) C d13_23 rfl rfl ?_
          refine w_icmp_ge (pcT := 49) (pcF := 27) C d13_24 (by decide) (by decide) rfl (fun q => absurd q (by decide)) (fun q24 => ?_)
          refine w_iloadN (pc' := 28) C d13_27 rfl rfl ?_
          refine w_iconst (pc' := 29) (x := (2 : Int32)) C d13_28 rfl rfl ?_
          refine w_imul (pc' := 30) C d13_29 rfl ?_
          refine w_eqI (z := (30 : Int32)) (by decide) ?_
          refine w_istoreN (pc' := 31) (Ls' := #[.val (.ref q), .val (.int f), .val (.int (16 : Int32)), .val (.int (30 : Int32))]) C d13_30 rfl rfl ?_
          refine w_aloadN (pc' := 32) C d13_31 rfl rfl rfl ?_
          refine w_getF (pc' := 35) C (tw hw 31 rfl) d13_32 rfl (O_q.fld 1 rfl) ?_
          refine w_iloadN (pc' := 36) C d13_35 rfl rfl ?_
          refine wA_laload (pc' := 37) (v := .long EMP) C d13_36 rfl O_la (by decide) rfl ?_
          refine w_iloadN (pc' := 38) C d13_37 rfl rfl ?_
          refine w_i2l (pc' := 39) C d13_38 rfl ?_
          refine w_lcmp (pc' := 40) C d13_39 rfl ?_
          refine w_if_le (pcT := 22) (pcF := 43) C d13_40 (by decide) (by decide) rfl (fun q40_16 => ?_) (fun q40_16 => ?_)
          · skip
            refine w_iloadN (pc' := 23) C d13_22 rfl rfl ?_
            refine w_iloadN (pc' := 24) C d13_23 rfl rfl ?_
            refine w_icmp_ge (pcT := 49) (pcF := 27) C d13_24 (by decide) (by decide) rfl (fun q24 => ?_) (fun q => absurd q (by decide))
            refine w_aloadN (pc' := 50) C d13_49 rfl rfl rfl ?_
            refine w_iloadN (pc' := 51) C d13_50 rfl rfl ?_
            refine w_iloadN (pc' := 52) C d13_51 rfl rfl ?_
            refine w_isub (pc' := 53) C d13_52 rfl ?_
            refine w_eqI (z := (14 : Int32)) (by decide) ?_
            refine w_callP (pc' := 56) (argsL := [.int (14 : Int32)]) (st := []) (W := 0) (ce' := 0) (sl' := 0) C (tw hw 79 rfl) (tw hw 80 rfl) (tw hw 10 rfl) (tw hw 81 rfl) (tw hw 11 rfl) (tw hw 82 rfl) (by decide) d13_53 rfl rfl (by decide) (by decide) (Nat.le_of_eq rfl) rfl rfl (by decide) (by decide) rfl (lenOf pd_4 rfl) O_q.1 (ct_request hw h0 n0 q (14 : Int32) sa la en sz (.null : Value) (sl3 s0 s1 s2) hz (by decide) rfl rfl O_q O_sa) (kp ?_)
            refine w_retA (t := (.object "tallygate/RequestQueue$Entry")) C rfl rfl rfl d13_56 (by decide) (by decide) ?_
            refine ⟨?_, rfl⟩
            by_cases A : f.toInt64 < ta <;> by_cases B : f.toInt64 < tb <;> by_cases D : f.toInt64 < tc <;> simp [fc, A, B, D, cmpJ_gt, lt_minJ, lt_emp] at q9_1 q40_2 q40_10 q40_14 q40_16 ⊢
          · skip
            refine w_iincE (pc' := 46) (z := (31 : Int32)) (Ls' := #[.val (.ref q), .val (.int f), .val (.int (16 : Int32)), .val (.int (31 : Int32))]) C d13_43 rfl (by decide) rfl rfl ?_
            refine w_goto (pc' := 22) C d13_46 (by decide) (by decide) ?_
            refine w_iloadN (pc' := 23) C d13_22 rfl rfl ?_
            refine w_iloadN (pc' := 24) C d13_23 rfl rfl ?_
            refine w_icmp_ge (pcT := 49) (pcF := 27) C d13_24 (by decide) (by decide) rfl (fun q24 => ?_) (fun q => absurd q (by decide))
            refine w_aloadN (pc' := 50) C d13_49 rfl rfl rfl ?_
            refine w_iloadN (pc' := 51) C d13_50 rfl rfl ?_
            refine w_iloadN (pc' := 52) C d13_51 rfl rfl ?_
            refine w_isub (pc' := 53) C d13_52 rfl ?_
            refine w_eqI (z := (15 : Int32)) (by decide) ?_
            refine w_callP (pc' := 56) (argsL := [.int (15 : Int32)]) (st := []) (W := 0) (ce' := 0) (sl' := 0) C (tw hw 79 rfl) (tw hw 80 rfl) (tw hw 10 rfl) (tw hw 81 rfl) (tw hw 11 rfl) (tw hw 82 rfl) (by decide) d13_53 rfl rfl (by decide) (by decide) (Nat.le_of_eq rfl) rfl rfl (by decide) (by decide) rfl (lenOf pd_4 rfl) O_q.1 (ct_request hw h0 n0 q (15 : Int32) sa la en sz (.null : Value) (sl3 s0 s1 s2) hz (by decide) rfl rfl O_q O_sa) (kp ?_)
            refine w_retA (t := (.object "tallygate/RequestQueue$Entry")) C rfl rfl rfl d13_56 (by decide) (by decide) ?_
            refine ⟨?_, rfl⟩
            by_cases A : f.toInt64 < ta <;> by_cases B : f.toInt64 < tb <;> by_cases D : f.toInt64 < tc <;> simp [fc, A, B, D, cmpJ_gt, lt_minJ, lt_emp] at q9_1 q40_2 q40_10 q40_14 q40_16 ⊢
  · skip
    refine w_aconstNull (pc' := 13) C d13_12 rfl ?_
    refine w_retA (t := (.object "tallygate/RequestQueue$Entry")) C rfl rfl rfl d13_13 (by decide) (by decide) ?_
    refine ⟨?_, rfl⟩
    by_cases A : f.toInt64 < ta <;> by_cases B : f.toInt64 < tb <;> by_cases D : f.toInt64 < tc <;> simp [fc, A, B, D, cmpJ_gt, lt_minJ, lt_emp] at q9_1 ⊢
theorem d1_0 : decode method_2_code 0 = .ok (.iconst 1, 1) := by decide +kernel
theorem d1_1 : decode method_2_code 1 = .ok (.iload_n 0, 1) := by decide +kernel
theorem d1_2 : decode method_2_code 2 = .ok (.ldc 7, 2) := by decide +kernel
theorem d1_4 : decode method_2_code 4 = .ok (.iand, 1) := by decide +kernel
theorem d1_5 : decode method_2_code 5 = .ok (.invokestatic 8, 3) := by decide +kernel
theorem d1_8 : decode method_2_code 8 = .ok (.ireturn, 1) := by decide +kernel
def perm (x0 : Int32) : Int32 := (maxI (1 : Int32) (x0 &&& (2147483647 : Int32)))
def rm_perm : Room := { frames := 1, cells := 0, slots := 0, locals := 13 }
def Q_perm (x0 : Int32) (h0 : Heap) (v : Option Value) (h : Heap) : Prop := v = some (.int (perm x0)) ∧ h = h0
theorem pf_perm : plainFor (⟨"tallygate/RequestQueueRemovePinLaw", "perm", "(I)I"⟩ : MethodName) = true := plainFor_of_name (by first | (simp [plainName, overriddenIn]; done) | decide +kernel)
set_option maxRecDepth 65536 in
set_option maxHeartbeats 40000000 in
theorem ct_perm {l : Launch} {Z : State} {a0 : Array Value} (hw : ∀ d ∈ tables_1, d.before a0 Z = true) (h0 : Heap) (n0 : Nat) (x0 : Int32)  :
    Ct l Z (⟨"tallygate/RequestQueueRemovePinLaw", "perm", "(I)I"⟩ : MethodName) method_2_code 1 (Option.some Jvm.ClassFile.FieldType.int) [] rm_perm #[.int x0] h0 n0 (Q_perm x0 h0) := by
  refine Ct.of (Ls := #[.val (.int x0)]) pf_perm (fun m => by first | (simp [entryFrame, mkF, argsToLocals, Value.category, maxLocals]; done) | rfl) ?_
  intro p e s m below meth c C
  have hr : perm x0 = (maxI (1 : Int32) (x0 &&& (2147483647 : Int32))) := rfl
  refine w_iconst (pc' := 1) (x := (1 : Int32)) C d1_0 rfl rfl ?_
  refine w_iloadN (pc' := 2) C d1_1 rfl rfl ?_
  refine w_ldcI (pc' := 4) C (tw hw 4 rfl) d1_2 rfl ?_
  refine w_iand (pc' := 5) C d1_4 rfl ?_
  refine w_callS (pc' := 8) (argsL := [.int (1 : Int32), .int (x0 &&& (2147483647 : Int32))]) (st := []) (W := 0) (ce' := 0) (sl' := 0) C (tw hw 5 rfl) (tw hw 6 rfl) (tw hw 7 rfl) (tw hw 8 rfl) (by decide) d1_5 rfl rfl (by decide) (by decide) (Nat.le_of_eq rfl) rfl rfl (by decide) (by decide) rfl (lenOf pd_5 rfl) (ct_maxI hw h0 n0 (1 : Int32) (x0 &&& (2147483647 : Int32))) (kp ?_)
  refine w_retI C rfl d1_8 (by decide) (by decide) ?_
  exact And.intro (congrArg (fun z => some (Value.int z)) hr.symm) rfl
theorem d11_0 : decode prog_14_method_4_code 0 = .ok (.aload_n 0, 1) := by decide +kernel
theorem d11_1 : decode prog_14_method_4_code 1 = .ok (.getfield 42, 3) := by decide +kernel
theorem d11_4 : decode prog_14_method_4_code 4 = .ok (.ifCond .ne 7, 3) := by decide +kernel
theorem d11_7 : decode prog_14_method_4_code 7 = .ok (.iconst 1, 1) := by decide +kernel
theorem d11_8 : decode prog_14_method_4_code 8 = .ok (.goto 4, 3) := by decide +kernel
theorem d11_11 : decode prog_14_method_4_code 11 = .ok (.iconst 0, 1) := by decide +kernel
theorem d11_12 : decode prog_14_method_4_code 12 = .ok (.ireturn, 1) := by decide +kernel
def isEmpty (en : Int32) (sz : Int32) : Int32 := (if sz = 0 then (1 : Int32) else (0 : Int32))
def rm_isEmpty : Room := { frames := 0, cells := 0, slots := 0, locals := 0 }
def Q_isEmpty (en : Int32) (sz : Int32) (h0 : Heap) (v : Option Value) (h : Heap) : Prop := v = some (.int (isEmpty en sz)) ∧ h = h0
theorem pf_isEmpty : plainFor (⟨"tallygate/RequestQueue", "isEmpty", "()Z"⟩ : MethodName) = true := plainFor_of_name (by first | (simp [plainName, overriddenIn]; done) | decide +kernel)
set_option maxRecDepth 65536 in
set_option maxHeartbeats 40000000 in
theorem ct_isEmpty {l : Launch} {Z : State} {a0 : Array Value} (hw : ∀ d ∈ tables_1, d.before a0 Z = true) (h0 : Heap) (n0 : Nat) (q : Addr) (sa : Addr) (la : Addr) (en : Int32) (sz : Int32) (O_q : Obj Z h0 q "tallygate/RequestQueue" [("slots", "[Ltallygate/RequestQueue$Entry;", .ref sa), ("least", "[J", .ref la), ("end", "I", .int en), ("size", "I", .int sz)]) :
    Ct l Z (⟨"tallygate/RequestQueue", "isEmpty", "()Z"⟩ : MethodName) prog_14_method_4_code 1 (Option.some Jvm.ClassFile.FieldType.boolean) [] rm_isEmpty #[.ref q] h0 n0 (Q_isEmpty en sz h0) := by
  refine Ct.of (Ls := #[.val (.ref q)]) pf_isEmpty (fun m => by first | (simp [entryFrame, mkF, argsToLocals, Value.category, maxLocals]; done) | rfl) ?_
  intro p e s m below meth c C
  have hr : isEmpty en sz = (if sz = 0 then (1 : Int32) else (0 : Int32)) := rfl
  refine w_aloadN (pc' := 1) C d11_0 rfl rfl rfl ?_
  refine w_getF (pc' := 4) C (tw hw 61 rfl) d11_1 rfl (O_q.fld 3 rfl) ?_
  refine w_if_ne (pcT := 11) (pcF := 7) C d11_4 (by decide) (by decide) rfl (fun q4 => ?_) (fun q4 => ?_)
  · have hr := hr.trans (if_neg q4)
    refine w_iconst (pc' := 12) (x := (0 : Int32)) C d11_11 rfl rfl ?_
    refine w_retN' (t := .boolean) (z' := (0 : Int32)) C rfl (by simp) d11_12 (by decide) (by decide) narB0 ?_
    exact And.intro (congrArg (fun z => some (Value.int z)) hr.symm) rfl
  · have hr := hr.trans (if_pos q4)
    refine w_iconst (pc' := 8) (x := (1 : Int32)) C d11_7 rfl rfl ?_
    refine w_goto (pc' := 12) C d11_8 (by decide) (by decide) ?_
    refine w_retN' (t := .boolean) (z' := (1 : Int32)) C rfl (by simp) d11_12 (by decide) (by decide) narB1 ?_
    exact And.intro (congrArg (fun z => some (Value.int z)) hr.symm) rfl
theorem d12_0 : decode prog_14_method_5_code 0 = .ok (.aload_n 0, 1) := by decide +kernel
theorem d12_1 : decode prog_14_method_5_code 1 = .ok (.ldc 49, 2) := by decide +kernel
theorem d12_3 : decode prog_14_method_5_code 3 = .ok (.invokevirtual 50, 3) := by decide +kernel
theorem d12_6 : decode prog_14_method_5_code 6 = .ok (.areturn, 1) := by decide +kernel
def rm_firstM : Room := { frames := 2, cells := 0, slots := 0, locals := 28 }
theorem pf_firstM : plainFor (⟨"tallygate/RequestQueue", "first", "()Ltallygate/RequestQueue$Entry;"⟩ : MethodName) = true := plainFor_of_name (by first | (simp [plainName, overriddenIn]; done) | decide +kernel)
set_option maxRecDepth 65536 in
set_option maxHeartbeats 40000000 in
theorem ct_firstM {l : Launch} {Z : State} {a0 : Array Value} (hw : ∀ d ∈ tables_1, d.before a0 Z = true) (h0 : Heap) (n0 : Nat) (q : Addr) (sa : Addr) (la : Addr) (en : Int32) (sz : Int32) (s0 : Value) (s1 : Value) (s2 : Value) (ta : Int64) (tb : Int64) (tc : Int64) (hz : n0 ≤ h0.size) (u0 : s0.isRef = true) (u1 : s1.isRef = true) (u2 : s2.isRef = true) (O_q : Obj Z h0 q "tallygate/RequestQueue" [("slots", "[Ltallygate/RequestQueue$Entry;", .ref sa), ("least", "[J", .ref la), ("end", "I", .int en), ("size", "I", .int sz)]) (O_sa : ArR Z h0 sa "tallygate/RequestQueue$Entry" (sl3 s0 s1 s2)) (O_la : Ar Z h0 la .long (tr3 ta tb tc)) :
    Ct l Z (⟨"tallygate/RequestQueue", "first", "()Ltallygate/RequestQueue$Entry;"⟩ : MethodName) prog_14_method_5_code 1 (Option.some (Jvm.ClassFile.FieldType.object "tallygate/RequestQueue$Entry")) [] rm_firstM #[.ref q] h0 n0 (fun v h => v = some (fc 2147483647 s0 s1 s2 ta tb tc) ∧ h = h0) := by
  refine Ct.of (Ls := #[.val (.ref q)]) pf_firstM (fun m => by first | (simp [entryFrame, mkF, argsToLocals, Value.category, maxLocals]; done) | rfl) ?_
  intro p e s m below meth c C
  have hk : Keep h0 h0 [] := Keep.refl _ _
  refine w_aloadN (pc' := 1) C d12_0 rfl rfl rfl ?_
  refine w_ldcI (pc' := 3) C (tw hw 73 rfl) d12_1 rfl ?_
  refine w_callV (Cl := "tallygate/RequestQueue") (pc' := 6) (argsL := [.int (2147483647 : Int32)]) (st := []) (W := 0) (ce' := 0) (sl' := 0) C (tw hw 74 rfl) (tw hw 75 rfl) (tw hw 77 rfl) (tw hw 76 rfl) (tw hw 11 rfl) (tw hw 78 rfl) (by decide) d12_3 rfl rfl (by decide) (by decide) (Nat.le_of_eq rfl) rfl rfl (by decide) (by decide) rfl (lenOf pd_4 rfl) O_q.1 (ct_first hw h0 n0 q (2147483647 : Int32) sa la en sz s0 s1 s2 ta tb tc hz (by assumption) (by assumption) (by assumption) O_q O_sa O_la) (kp ?_)
  have uf3 : ((fc (2147483647 : Int32) s0 s1 s2 ta tb tc)).isRef = true := fc_ref (by assumption) (by assumption) (by assumption)
  refine w_retA (t := (.object "tallygate/RequestQueue$Entry")) C rfl rfl (by first | assumption | rfl) d12_6 (by decide) (by decide) ?_
  exact ⟨rfl, rfl⟩
def law_379 (x0 : Int32) (x1 : Int32) (x2 : Int32) (x3 : Int32) (x4 : Int32) (a3 : Addr) (a5 : Addr) (a7 : Addr) (f139_a5_slot : Int32) (g153_sa2_2 : Value) (g153_sa2_3 : Value) (g153_la2_2 : Int64) (g153_la2_3 : Int64) (f153_a7_slot : Int32) (f168_a1_end : Int32) (f168_a1_size : Int32) (g168_sa2_1 : Value) (g168_la2_1 : Int64) (f168_a3_slot : Int32) (t186_0 : Int32) (t206_0 : Int32) (t226_0 : Int32) (v264_17 : Value) (v321_18 : Value) (t341_0 : Int32) : Int32 := (0 : Int32)
def law_341 (x0 : Int32) (x1 : Int32) (x2 : Int32) (x3 : Int32) (x4 : Int32) (a3 : Addr) (a5 : Addr) (a7 : Addr) (t341_0 : Int32) (f139_a5_slot : Int32) (g153_sa2_2 : Value) (g153_sa2_3 : Value) (g153_la2_2 : Int64) (g153_la2_3 : Int64) (f153_a7_slot : Int32) (f168_a1_end : Int32) (f168_a1_size : Int32) (g168_sa2_1 : Value) (g168_la2_1 : Int64) (f168_a3_slot : Int32) (t186_0 : Int32) (t206_0 : Int32) (t226_0 : Int32) (v264_17 : Value) (v321_18 : Value) : Int32 := (if (isEmpty f168_a1_end f168_a1_size) = t341_0 then (if ((fc (2147483647 : Int32) g168_sa2_1 g153_sa2_2 g153_sa2_3 g168_la2_1 g153_la2_2 g153_la2_3) : Value) = v264_17 then (if ((fc x4 g168_sa2_1 g153_sa2_2 g153_sa2_3 g168_la2_1 g153_la2_2 g153_la2_3) : Value) = v321_18 then (1 : Int32) else (law_379 x0 x1 x2 x3 x4 a3 a5 a7 f139_a5_slot g153_sa2_2 g153_sa2_3 g153_la2_2 g153_la2_3 f153_a7_slot f168_a1_end f168_a1_size g168_sa2_1 g168_la2_1 f168_a3_slot t186_0 t206_0 t226_0 v264_17 v321_18 t341_0)) else (law_379 x0 x1 x2 x3 x4 a3 a5 a7 f139_a5_slot g153_sa2_2 g153_sa2_3 g153_la2_2 g153_la2_3 f153_a7_slot f168_a1_end f168_a1_size g168_sa2_1 g168_la2_1 f168_a3_slot t186_0 t206_0 t226_0 v264_17 v321_18 t341_0)) else (law_379 x0 x1 x2 x3 x4 a3 a5 a7 f139_a5_slot g153_sa2_2 g153_sa2_3 g153_la2_2 g153_la2_3 f153_a7_slot f168_a1_end f168_a1_size g168_sa2_1 g168_la2_1 f168_a3_slot t186_0 t206_0 t226_0 v264_17 v321_18 t341_0))
def law_340 (x0 : Int32) (x1 : Int32) (x2 : Int32) (x3 : Int32) (x4 : Int32) (a3 : Addr) (a5 : Addr) (a7 : Addr) (f139_a5_slot : Int32) (g153_sa2_2 : Value) (g153_sa2_3 : Value) (g153_la2_2 : Int64) (g153_la2_3 : Int64) (f153_a7_slot : Int32) (f168_a1_end : Int32) (f168_a1_size : Int32) (g168_sa2_1 : Value) (g168_la2_1 : Int64) (f168_a3_slot : Int32) (t186_0 : Int32) (t206_0 : Int32) (t226_0 : Int32) (v264_17 : Value) (v321_18 : Value) : Int32 := (law_341 x0 x1 x2 x3 x4 a3 a5 a7 (0 : Int32) f139_a5_slot g153_sa2_2 g153_sa2_3 g153_la2_2 g153_la2_3 f153_a7_slot f168_a1_end f168_a1_size g168_sa2_1 g168_la2_1 f168_a3_slot t186_0 t206_0 t226_0 v264_17 v321_18)
def law_321 (x0 : Int32) (x1 : Int32) (x2 : Int32) (x3 : Int32) (x4 : Int32) (a3 : Addr) (a5 : Addr) (a7 : Addr) (v321_18 : Value) (f139_a5_slot : Int32) (g153_sa2_2 : Value) (g153_sa2_3 : Value) (g153_la2_2 : Int64) (g153_la2_3 : Int64) (f153_a7_slot : Int32) (f168_a1_end : Int32) (f168_a1_size : Int32) (g168_sa2_1 : Value) (g168_la2_1 : Int64) (f168_a3_slot : Int32) (t186_0 : Int32) (t206_0 : Int32) (t226_0 : Int32) (v264_17 : Value) : Int32 := (if t186_0 = 0 then (if t206_0 = 0 then (if t226_0 = 0 then (law_341 x0 x1 x2 x3 x4 a3 a5 a7 (1 : Int32) f139_a5_slot g153_sa2_2 g153_sa2_3 g153_la2_2 g153_la2_3 f153_a7_slot f168_a1_end f168_a1_size g168_sa2_1 g168_la2_1 f168_a3_slot t186_0 t206_0 t226_0 v264_17 v321_18) else (law_340 x0 x1 x2 x3 x4 a3 a5 a7 f139_a5_slot g153_sa2_2 g153_sa2_3 g153_la2_2 g153_la2_3 f153_a7_slot f168_a1_end f168_a1_size g168_sa2_1 g168_la2_1 f168_a3_slot t186_0 t206_0 t226_0 v264_17 v321_18)) else (law_340 x0 x1 x2 x3 x4 a3 a5 a7 f139_a5_slot g153_sa2_2 g153_sa2_3 g153_la2_2 g153_la2_3 f153_a7_slot f168_a1_end f168_a1_size g168_sa2_1 g168_la2_1 f168_a3_slot t186_0 t206_0 t226_0 v264_17 v321_18)) else (law_340 x0 x1 x2 x3 x4 a3 a5 a7 f139_a5_slot g153_sa2_2 g153_sa2_3 g153_la2_2 g153_la2_3 f153_a7_slot f168_a1_end f168_a1_size g168_sa2_1 g168_la2_1 f168_a3_slot t186_0 t206_0 t226_0 v264_17 v321_18))
def law_305 (x0 : Int32) (x1 : Int32) (x2 : Int32) (x3 : Int32) (x4 : Int32) (a3 : Addr) (a5 : Addr) (a7 : Addr) (f139_a5_slot : Int32) (g153_sa2_2 : Value) (g153_sa2_3 : Value) (g153_la2_2 : Int64) (g153_la2_3 : Int64) (f153_a7_slot : Int32) (f168_a1_end : Int32) (f168_a1_size : Int32) (g168_sa2_1 : Value) (g168_la2_1 : Int64) (f168_a3_slot : Int32) (t186_0 : Int32) (t206_0 : Int32) (t226_0 : Int32) (v264_17 : Value) : Int32 := (if t226_0 = 0 then (law_321 x0 x1 x2 x3 x4 a3 a5 a7 (.null : Value) f139_a5_slot g153_sa2_2 g153_sa2_3 g153_la2_2 g153_la2_3 f153_a7_slot f168_a1_end f168_a1_size g168_sa2_1 g168_la2_1 f168_a3_slot t186_0 t206_0 t226_0 v264_17) else (if x4 < (perm x2) then (law_321 x0 x1 x2 x3 x4 a3 a5 a7 (.null : Value) f139_a5_slot g153_sa2_2 g153_sa2_3 g153_la2_2 g153_la2_3 f153_a7_slot f168_a1_end f168_a1_size g168_sa2_1 g168_la2_1 f168_a3_slot t186_0 t206_0 t226_0 v264_17) else (law_321 x0 x1 x2 x3 x4 a3 a5 a7 (.ref a7 : Value) f139_a5_slot g153_sa2_2 g153_sa2_3 g153_la2_2 g153_la2_3 f153_a7_slot f168_a1_end f168_a1_size g168_sa2_1 g168_la2_1 f168_a3_slot t186_0 t206_0 t226_0 v264_17)))
def law_286 (x0 : Int32) (x1 : Int32) (x2 : Int32) (x3 : Int32) (x4 : Int32) (a3 : Addr) (a5 : Addr) (a7 : Addr) (f139_a5_slot : Int32) (g153_sa2_2 : Value) (g153_sa2_3 : Value) (g153_la2_2 : Int64) (g153_la2_3 : Int64) (f153_a7_slot : Int32) (f168_a1_end : Int32) (f168_a1_size : Int32) (g168_sa2_1 : Value) (g168_la2_1 : Int64) (f168_a3_slot : Int32) (t186_0 : Int32) (t206_0 : Int32) (t226_0 : Int32) (v264_17 : Value) : Int32 := (if t206_0 = 0 then (law_305 x0 x1 x2 x3 x4 a3 a5 a7 f139_a5_slot g153_sa2_2 g153_sa2_3 g153_la2_2 g153_la2_3 f153_a7_slot f168_a1_end f168_a1_size g168_sa2_1 g168_la2_1 f168_a3_slot t186_0 t206_0 t226_0 v264_17) else (if x4 < (perm x1) then (law_305 x0 x1 x2 x3 x4 a3 a5 a7 f139_a5_slot g153_sa2_2 g153_sa2_3 g153_la2_2 g153_la2_3 f153_a7_slot f168_a1_end f168_a1_size g168_sa2_1 g168_la2_1 f168_a3_slot t186_0 t206_0 t226_0 v264_17) else (law_321 x0 x1 x2 x3 x4 a3 a5 a7 (.ref a5 : Value) f139_a5_slot g153_sa2_2 g153_sa2_3 g153_la2_2 g153_la2_3 f153_a7_slot f168_a1_end f168_a1_size g168_sa2_1 g168_la2_1 f168_a3_slot t186_0 t206_0 t226_0 v264_17)))
def law_264 (x0 : Int32) (x1 : Int32) (x2 : Int32) (x3 : Int32) (x4 : Int32) (a3 : Addr) (a5 : Addr) (a7 : Addr) (v264_17 : Value) (f139_a5_slot : Int32) (g153_sa2_2 : Value) (g153_sa2_3 : Value) (g153_la2_2 : Int64) (g153_la2_3 : Int64) (f153_a7_slot : Int32) (f168_a1_end : Int32) (f168_a1_size : Int32) (g168_sa2_1 : Value) (g168_la2_1 : Int64) (f168_a3_slot : Int32) (t186_0 : Int32) (t206_0 : Int32) (t226_0 : Int32) : Int32 := (if t186_0 = 0 then (law_286 x0 x1 x2 x3 x4 a3 a5 a7 f139_a5_slot g153_sa2_2 g153_sa2_3 g153_la2_2 g153_la2_3 f153_a7_slot f168_a1_end f168_a1_size g168_sa2_1 g168_la2_1 f168_a3_slot t186_0 t206_0 t226_0 v264_17) else (if x4 < (perm x0) then (law_286 x0 x1 x2 x3 x4 a3 a5 a7 f139_a5_slot g153_sa2_2 g153_sa2_3 g153_la2_2 g153_la2_3 f153_a7_slot f168_a1_end f168_a1_size g168_sa2_1 g168_la2_1 f168_a3_slot t186_0 t206_0 t226_0 v264_17) else (law_321 x0 x1 x2 x3 x4 a3 a5 a7 (.ref a3 : Value) f139_a5_slot g153_sa2_2 g153_sa2_3 g153_la2_2 g153_la2_3 f153_a7_slot f168_a1_end f168_a1_size g168_sa2_1 g168_la2_1 f168_a3_slot t186_0 t206_0 t226_0 v264_17)))
def law_226 (x0 : Int32) (x1 : Int32) (x2 : Int32) (x3 : Int32) (x4 : Int32) (a3 : Addr) (a5 : Addr) (a7 : Addr) (t226_0 : Int32) (f139_a5_slot : Int32) (g153_sa2_2 : Value) (g153_sa2_3 : Value) (g153_la2_2 : Int64) (g153_la2_3 : Int64) (f153_a7_slot : Int32) (f168_a1_end : Int32) (f168_a1_size : Int32) (g168_sa2_1 : Value) (g168_la2_1 : Int64) (f168_a3_slot : Int32) (t186_0 : Int32) (t206_0 : Int32) : Int32 := (if t186_0 = 0 then (if t206_0 = 0 then (if t226_0 = 0 then (law_264 x0 x1 x2 x3 x4 a3 a5 a7 (.null : Value) f139_a5_slot g153_sa2_2 g153_sa2_3 g153_la2_2 g153_la2_3 f153_a7_slot f168_a1_end f168_a1_size g168_sa2_1 g168_la2_1 f168_a3_slot t186_0 t206_0 t226_0) else (law_264 x0 x1 x2 x3 x4 a3 a5 a7 (.ref a7 : Value) f139_a5_slot g153_sa2_2 g153_sa2_3 g153_la2_2 g153_la2_3 f153_a7_slot f168_a1_end f168_a1_size g168_sa2_1 g168_la2_1 f168_a3_slot t186_0 t206_0 t226_0)) else (law_264 x0 x1 x2 x3 x4 a3 a5 a7 (.ref a5 : Value) f139_a5_slot g153_sa2_2 g153_sa2_3 g153_la2_2 g153_la2_3 f153_a7_slot f168_a1_end f168_a1_size g168_sa2_1 g168_la2_1 f168_a3_slot t186_0 t206_0 t226_0)) else (law_264 x0 x1 x2 x3 x4 a3 a5 a7 (.ref a3 : Value) f139_a5_slot g153_sa2_2 g153_sa2_3 g153_la2_2 g153_la2_3 f153_a7_slot f168_a1_end f168_a1_size g168_sa2_1 g168_la2_1 f168_a3_slot t186_0 t206_0 t226_0))
def law_225 (x0 : Int32) (x1 : Int32) (x2 : Int32) (x3 : Int32) (x4 : Int32) (a3 : Addr) (a5 : Addr) (a7 : Addr) (f139_a5_slot : Int32) (g153_sa2_2 : Value) (g153_sa2_3 : Value) (g153_la2_2 : Int64) (g153_la2_3 : Int64) (f153_a7_slot : Int32) (f168_a1_end : Int32) (f168_a1_size : Int32) (g168_sa2_1 : Value) (g168_la2_1 : Int64) (f168_a3_slot : Int32) (t186_0 : Int32) (t206_0 : Int32) : Int32 := (law_226 x0 x1 x2 x3 x4 a3 a5 a7 (0 : Int32) f139_a5_slot g153_sa2_2 g153_sa2_3 g153_la2_2 g153_la2_3 f153_a7_slot f168_a1_end f168_a1_size g168_sa2_1 g168_la2_1 f168_a3_slot t186_0 t206_0)
def law_206 (x0 : Int32) (x1 : Int32) (x2 : Int32) (x3 : Int32) (x4 : Int32) (a3 : Addr) (a5 : Addr) (a7 : Addr) (t206_0 : Int32) (f139_a5_slot : Int32) (g153_sa2_2 : Value) (g153_sa2_3 : Value) (g153_la2_2 : Int64) (g153_la2_3 : Int64) (f153_a7_slot : Int32) (f168_a1_end : Int32) (f168_a1_size : Int32) (g168_sa2_1 : Value) (g168_la2_1 : Int64) (f168_a3_slot : Int32) (t186_0 : Int32) : Int32 := (if (2 : Int32) < (x3 &&& (3 : Int32)) then (if ((((x3.toUInt32 >>> ((2 : Int32) &&& 31).toUInt32).toInt32) &&& (15 : Int32)) &&& (4 : Int32)) = 0 then (law_226 x0 x1 x2 x3 x4 a3 a5 a7 (1 : Int32) f139_a5_slot g153_sa2_2 g153_sa2_3 g153_la2_2 g153_la2_3 f153_a7_slot f168_a1_end f168_a1_size g168_sa2_1 g168_la2_1 f168_a3_slot t186_0 t206_0) else (law_225 x0 x1 x2 x3 x4 a3 a5 a7 f139_a5_slot g153_sa2_2 g153_sa2_3 g153_la2_2 g153_la2_3 f153_a7_slot f168_a1_end f168_a1_size g168_sa2_1 g168_la2_1 f168_a3_slot t186_0 t206_0)) else (law_225 x0 x1 x2 x3 x4 a3 a5 a7 f139_a5_slot g153_sa2_2 g153_sa2_3 g153_la2_2 g153_la2_3 f153_a7_slot f168_a1_end f168_a1_size g168_sa2_1 g168_la2_1 f168_a3_slot t186_0 t206_0))
def law_205 (x0 : Int32) (x1 : Int32) (x2 : Int32) (x3 : Int32) (x4 : Int32) (a3 : Addr) (a5 : Addr) (a7 : Addr) (f139_a5_slot : Int32) (g153_sa2_2 : Value) (g153_sa2_3 : Value) (g153_la2_2 : Int64) (g153_la2_3 : Int64) (f153_a7_slot : Int32) (f168_a1_end : Int32) (f168_a1_size : Int32) (g168_sa2_1 : Value) (g168_la2_1 : Int64) (f168_a3_slot : Int32) (t186_0 : Int32) : Int32 := (law_206 x0 x1 x2 x3 x4 a3 a5 a7 (0 : Int32) f139_a5_slot g153_sa2_2 g153_sa2_3 g153_la2_2 g153_la2_3 f153_a7_slot f168_a1_end f168_a1_size g168_sa2_1 g168_la2_1 f168_a3_slot t186_0)
def law_186 (x0 : Int32) (x1 : Int32) (x2 : Int32) (x3 : Int32) (x4 : Int32) (a3 : Addr) (a5 : Addr) (a7 : Addr) (t186_0 : Int32) (f139_a5_slot : Int32) (g153_sa2_2 : Value) (g153_sa2_3 : Value) (g153_la2_2 : Int64) (g153_la2_3 : Int64) (f153_a7_slot : Int32) (f168_a1_end : Int32) (f168_a1_size : Int32) (g168_sa2_1 : Value) (g168_la2_1 : Int64) (f168_a3_slot : Int32) : Int32 := (if (1 : Int32) < (x3 &&& (3 : Int32)) then (if ((((x3.toUInt32 >>> ((2 : Int32) &&& 31).toUInt32).toInt32) &&& (15 : Int32)) &&& (2 : Int32)) = 0 then (law_206 x0 x1 x2 x3 x4 a3 a5 a7 (1 : Int32) f139_a5_slot g153_sa2_2 g153_sa2_3 g153_la2_2 g153_la2_3 f153_a7_slot f168_a1_end f168_a1_size g168_sa2_1 g168_la2_1 f168_a3_slot t186_0) else (law_205 x0 x1 x2 x3 x4 a3 a5 a7 f139_a5_slot g153_sa2_2 g153_sa2_3 g153_la2_2 g153_la2_3 f153_a7_slot f168_a1_end f168_a1_size g168_sa2_1 g168_la2_1 f168_a3_slot t186_0)) else (law_205 x0 x1 x2 x3 x4 a3 a5 a7 f139_a5_slot g153_sa2_2 g153_sa2_3 g153_la2_2 g153_la2_3 f153_a7_slot f168_a1_end f168_a1_size g168_sa2_1 g168_la2_1 f168_a3_slot t186_0))
def law_185 (x0 : Int32) (x1 : Int32) (x2 : Int32) (x3 : Int32) (x4 : Int32) (a3 : Addr) (a5 : Addr) (a7 : Addr) (f139_a5_slot : Int32) (g153_sa2_2 : Value) (g153_sa2_3 : Value) (g153_la2_2 : Int64) (g153_la2_3 : Int64) (f153_a7_slot : Int32) (f168_a1_end : Int32) (f168_a1_size : Int32) (g168_sa2_1 : Value) (g168_la2_1 : Int64) (f168_a3_slot : Int32) : Int32 := (law_186 x0 x1 x2 x3 x4 a3 a5 a7 (0 : Int32) f139_a5_slot g153_sa2_2 g153_sa2_3 g153_la2_2 g153_la2_3 f153_a7_slot f168_a1_end f168_a1_size g168_sa2_1 g168_la2_1 f168_a3_slot)
def law_168 (x0 : Int32) (x1 : Int32) (x2 : Int32) (x3 : Int32) (x4 : Int32) (a3 : Addr) (a5 : Addr) (a7 : Addr) (f168_a1_end : Int32) (f168_a1_size : Int32) (g168_sa2_1 : Value) (g168_la2_1 : Int64) (f168_a3_slot : Int32) (f139_a5_slot : Int32) (g153_sa2_2 : Value) (g153_sa2_3 : Value) (g153_la2_2 : Int64) (g153_la2_3 : Int64) (f153_a7_slot : Int32) : Int32 := (if 0 < (x3 &&& (3 : Int32)) then (if ((((x3.toUInt32 >>> ((2 : Int32) &&& 31).toUInt32).toInt32) &&& (15 : Int32)) &&& (9 : Int32)) = 0 then (law_186 x0 x1 x2 x3 x4 a3 a5 a7 (1 : Int32) f139_a5_slot g153_sa2_2 g153_sa2_3 g153_la2_2 g153_la2_3 f153_a7_slot f168_a1_end f168_a1_size g168_sa2_1 g168_la2_1 f168_a3_slot) else (law_185 x0 x1 x2 x3 x4 a3 a5 a7 f139_a5_slot g153_sa2_2 g153_sa2_3 g153_la2_2 g153_la2_3 f153_a7_slot f168_a1_end f168_a1_size g168_sa2_1 g168_la2_1 f168_a3_slot)) else (law_185 x0 x1 x2 x3 x4 a3 a5 a7 f139_a5_slot g153_sa2_2 g153_sa2_3 g153_la2_2 g153_la2_3 f153_a7_slot f168_a1_end f168_a1_size g168_sa2_1 g168_la2_1 f168_a3_slot))
def law_153 (x0 : Int32) (x1 : Int32) (x2 : Int32) (x3 : Int32) (x4 : Int32) (a3 : Addr) (a5 : Addr) (a7 : Addr) (f153_a1_end : Int32) (f153_a1_size : Int32) (g153_sa2_1 : Value) (g153_sa2_2 : Value) (g153_sa2_3 : Value) (g153_la2_1 : Int64) (g153_la2_2 : Int64) (g153_la2_3 : Int64) (f153_a7_slot : Int32) (f125_a3_slot : Int32) (f139_a5_slot : Int32) : Int32 := (if ((((x3.toUInt32 >>> ((2 : Int32) &&& 31).toUInt32).toInt32) &&& (15 : Int32)) &&& (8 : Int32)) = 0 then (law_168 x0 x1 x2 x3 x4 a3 a5 a7 f153_a1_end f153_a1_size g153_sa2_1 g153_la2_1 f125_a3_slot f139_a5_slot g153_sa2_2 g153_sa2_3 g153_la2_2 g153_la2_3 f153_a7_slot) else (if f125_a3_slot = (-1 : Int32) then (law_168 x0 x1 x2 x3 x4 a3 a5 a7 f153_a1_end f153_a1_size g153_sa2_1 g153_la2_1 (-1 : Int32) f139_a5_slot g153_sa2_2 g153_sa2_3 g153_la2_2 g153_la2_3 f153_a7_slot) else (law_168 x0 x1 x2 x3 x4 a3 a5 a7 (endF f153_a1_size f153_a1_end) (f153_a1_size - (1 : Int32)) .null EMP (-1 : Int32) f139_a5_slot g153_sa2_2 g153_sa2_3 g153_la2_2 g153_la2_3 f153_a7_slot)))
def law_139 (x0 : Int32) (x1 : Int32) (x2 : Int32) (x3 : Int32) (x4 : Int32) (a3 : Addr) (a5 : Addr) (a7 : Addr) (f139_a1_end : Int32) (f139_a1_size : Int32) (g139_sa2_1 : Value) (g139_sa2_2 : Value) (g139_la2_1 : Int64) (g139_la2_2 : Int64) (f139_a5_slot : Int32) (g111_sa2_3 : Value) (g111_la2_3 : Int64) (f111_a7_slot : Int32) (f125_a3_slot : Int32) : Int32 := (if ((((x3.toUInt32 >>> ((2 : Int32) &&& 31).toUInt32).toInt32) &&& (15 : Int32)) &&& (4 : Int32)) = 0 then (law_153 x0 x1 x2 x3 x4 a3 a5 a7 f139_a1_end f139_a1_size g139_sa2_1 g139_sa2_2 g111_sa2_3 g139_la2_1 g139_la2_2 g111_la2_3 f111_a7_slot f125_a3_slot f139_a5_slot) else (if f111_a7_slot = (-1 : Int32) then (law_153 x0 x1 x2 x3 x4 a3 a5 a7 f139_a1_end f139_a1_size g139_sa2_1 g139_sa2_2 g111_sa2_3 g139_la2_1 g139_la2_2 g111_la2_3 (-1 : Int32) f125_a3_slot f139_a5_slot) else (if f111_a7_slot = (0 : Int32) then (law_153 x0 x1 x2 x3 x4 a3 a5 a7 (endF f139_a1_size f139_a1_end) (f139_a1_size - (1 : Int32)) .null g139_sa2_2 g111_sa2_3 EMP g139_la2_2 g111_la2_3 (-1 : Int32) f125_a3_slot f139_a5_slot) else (if f111_a7_slot = (1 : Int32) then (law_153 x0 x1 x2 x3 x4 a3 a5 a7 (endF f139_a1_size f139_a1_end) (f139_a1_size - (1 : Int32)) g139_sa2_1 .null g111_sa2_3 g139_la2_1 EMP g111_la2_3 (-1 : Int32) f125_a3_slot f139_a5_slot) else (law_153 x0 x1 x2 x3 x4 a3 a5 a7 (endF f139_a1_size f139_a1_end) (f139_a1_size - (1 : Int32)) g139_sa2_1 g139_sa2_2 .null g139_la2_1 g139_la2_2 EMP (-1 : Int32) f125_a3_slot f139_a5_slot)))))
def law_125 (x0 : Int32) (x1 : Int32) (x2 : Int32) (x3 : Int32) (x4 : Int32) (a3 : Addr) (a5 : Addr) (a7 : Addr) (f125_a1_end : Int32) (f125_a1_size : Int32) (g125_sa2_1 : Value) (g125_la2_1 : Int64) (f125_a3_slot : Int32) (f98_a5_slot : Int32) (g111_sa2_2 : Value) (g111_sa2_3 : Value) (g111_la2_2 : Int64) (g111_la2_3 : Int64) (f111_a7_slot : Int32) : Int32 := (if ((((x3.toUInt32 >>> ((2 : Int32) &&& 31).toUInt32).toInt32) &&& (15 : Int32)) &&& (2 : Int32)) = 0 then (law_139 x0 x1 x2 x3 x4 a3 a5 a7 f125_a1_end f125_a1_size g125_sa2_1 g111_sa2_2 g125_la2_1 g111_la2_2 f98_a5_slot g111_sa2_3 g111_la2_3 f111_a7_slot f125_a3_slot) else (if f98_a5_slot = (-1 : Int32) then (law_139 x0 x1 x2 x3 x4 a3 a5 a7 f125_a1_end f125_a1_size g125_sa2_1 g111_sa2_2 g125_la2_1 g111_la2_2 (-1 : Int32) g111_sa2_3 g111_la2_3 f111_a7_slot f125_a3_slot) else (if f98_a5_slot = (0 : Int32) then (law_139 x0 x1 x2 x3 x4 a3 a5 a7 (endF f125_a1_size f125_a1_end) (f125_a1_size - (1 : Int32)) .null g111_sa2_2 EMP g111_la2_2 (-1 : Int32) g111_sa2_3 g111_la2_3 f111_a7_slot f125_a3_slot) else (law_139 x0 x1 x2 x3 x4 a3 a5 a7 (endF f125_a1_size f125_a1_end) (f125_a1_size - (1 : Int32)) g125_sa2_1 .null g125_la2_1 EMP (-1 : Int32) g111_sa2_3 g111_la2_3 f111_a7_slot f125_a3_slot))))
def law_111 (x0 : Int32) (x1 : Int32) (x2 : Int32) (x3 : Int32) (x4 : Int32) (a3 : Addr) (a5 : Addr) (a7 : Addr) (f111_a1_end : Int32) (f111_a1_size : Int32) (g111_sa2_1 : Value) (g111_sa2_2 : Value) (g111_sa2_3 : Value) (g111_la2_1 : Int64) (g111_la2_2 : Int64) (g111_la2_3 : Int64) (f111_a7_slot : Int32) (f85_a3_slot : Int32) (f98_a5_slot : Int32) : Int32 := (if ((((x3.toUInt32 >>> ((2 : Int32) &&& 31).toUInt32).toInt32) &&& (15 : Int32)) &&& (1 : Int32)) = 0 then (law_125 x0 x1 x2 x3 x4 a3 a5 a7 f111_a1_end f111_a1_size g111_sa2_1 g111_la2_1 f85_a3_slot f98_a5_slot g111_sa2_2 g111_sa2_3 g111_la2_2 g111_la2_3 f111_a7_slot) else (if f85_a3_slot = (-1 : Int32) then (law_125 x0 x1 x2 x3 x4 a3 a5 a7 f111_a1_end f111_a1_size g111_sa2_1 g111_la2_1 (-1 : Int32) f98_a5_slot g111_sa2_2 g111_sa2_3 g111_la2_2 g111_la2_3 f111_a7_slot) else (law_125 x0 x1 x2 x3 x4 a3 a5 a7 (endF f111_a1_size f111_a1_end) (f111_a1_size - (1 : Int32)) .null EMP (-1 : Int32) f98_a5_slot g111_sa2_2 g111_sa2_3 g111_la2_2 g111_la2_3 f111_a7_slot)))
def law_98 (x0 : Int32) (x1 : Int32) (x2 : Int32) (x3 : Int32) (x4 : Int32) (a3 : Addr) (a5 : Addr) (a7 : Addr) (f98_a1_end : Int32) (f98_a1_size : Int32) (g98_sa2_1 : Value) (g98_sa2_2 : Value) (g98_la2_1 : Int64) (g98_la2_2 : Int64) (f98_a5_slot : Int32) (f85_a3_slot : Int32) : Int32 := (if (2 : Int32) < (x3 &&& (3 : Int32)) then (if f98_a1_end = (0 : Int32) then (law_111 x0 x1 x2 x3 x4 a3 a5 a7 (1 : Int32) (f98_a1_size + (1 : Int32)) (.ref a7) g98_sa2_2 .null ((perm x2).toInt64) g98_la2_2 EMP (0 : Int32) f85_a3_slot f98_a5_slot) else (if f98_a1_end = (1 : Int32) then (law_111 x0 x1 x2 x3 x4 a3 a5 a7 (2 : Int32) (f98_a1_size + (1 : Int32)) g98_sa2_1 (.ref a7) .null g98_la2_1 ((perm x2).toInt64) EMP (1 : Int32) f85_a3_slot f98_a5_slot) else (law_111 x0 x1 x2 x3 x4 a3 a5 a7 (3 : Int32) (f98_a1_size + (1 : Int32)) g98_sa2_1 g98_sa2_2 (.ref a7) g98_la2_1 g98_la2_2 ((perm x2).toInt64) (2 : Int32) f85_a3_slot f98_a5_slot))) else (law_111 x0 x1 x2 x3 x4 a3 a5 a7 f98_a1_end f98_a1_size g98_sa2_1 g98_sa2_2 .null g98_la2_1 g98_la2_2 EMP (-1 : Int32) f85_a3_slot f98_a5_slot))
def law_85 (x0 : Int32) (x1 : Int32) (x2 : Int32) (x3 : Int32) (x4 : Int32) (a3 : Addr) (a5 : Addr) (a7 : Addr) (f85_a1_end : Int32) (f85_a1_size : Int32) (g85_sa2_1 : Value) (g85_la2_1 : Int64) (f85_a3_slot : Int32) : Int32 := (if (1 : Int32) < (x3 &&& (3 : Int32)) then (if f85_a1_end = (0 : Int32) then (law_98 x0 x1 x2 x3 x4 a3 a5 a7 (1 : Int32) (f85_a1_size + (1 : Int32)) (.ref a5) .null ((perm x1).toInt64) EMP (0 : Int32) f85_a3_slot) else (law_98 x0 x1 x2 x3 x4 a3 a5 a7 (2 : Int32) (f85_a1_size + (1 : Int32)) g85_sa2_1 (.ref a5) g85_la2_1 ((perm x1).toInt64) (1 : Int32) f85_a3_slot)) else (law_98 x0 x1 x2 x3 x4 a3 a5 a7 f85_a1_end f85_a1_size g85_sa2_1 .null g85_la2_1 EMP (-1 : Int32) f85_a3_slot))
def law (x0 : Int32) (x1 : Int32) (x2 : Int32) (x3 : Int32) (x4 : Int32) (a3 : Addr) (a5 : Addr) (a7 : Addr) : Int32 := (if 0 < (x3 &&& (3 : Int32)) then (law_85 x0 x1 x2 x3 x4 a3 a5 a7 (1 : Int32) ((0 : Int32) + (1 : Int32)) (.ref a3) ((perm x0).toInt64) (0 : Int32)) else (law_85 x0 x1 x2 x3 x4 a3 a5 a7 (0 : Int32) (0 : Int32) .null EMP (-1 : Int32)))
theorem nmax (y : Int32) : ¬ (2147483647 : Int32) < y := by
  rw [Int32.lt_iff_toInt_lt]
  have := rng32 y
  have e : (2147483647 : Int32).toInt = 2147483647 := by decide
  omega
set_option maxHeartbeats 8000000 in
theorem fin (x0 x1 x2 x3 x4 : Int32) (a b d : Addr) (t2 : Int32) (y_f139_a5_slot : Int32) (s1 : Value) (s2 : Value) (l1 : Int64) (l2 : Int64) (y_f153_a7_slot : Int32) (en : Int32) (sz : Int32) (s0 : Value) (l0 : Int64) (y_f168_a3_slot : Int32) (t0 : Int32) (t1 : Int32) (h0 : (t0 = 0 ∧ s0 = .null ∧ l0 = EMP) ∨ (t0 = 1 ∧ s0 = .ref a ∧ l0 = (perm x0).toInt64)) (h1 : (t1 = 0 ∧ s1 = .null ∧ l1 = EMP) ∨ (t1 = 1 ∧ s1 = .ref b ∧ l1 = (perm x1).toInt64)) (h2 : (t2 = 0 ∧ s2 = .null ∧ l2 = EMP) ∨ (t2 = 1 ∧ s2 = .ref d ∧ l2 = (perm x2).toInt64))
    (hz : isEmpty en sz = if t0 = 0 ∧ t1 = 0 ∧ t2 = 0 then 1 else 0) : law_226 x0 x1 x2 x3 x4 a b d t2 y_f139_a5_slot s1 s2 l1 l2 y_f153_a7_slot en sz s0 l0 y_f168_a3_slot t0 t1 = 1 := by
  have n10 : ¬ (1 : Int32) = 0 := by decide
  by_cases A : x4 < perm x0 <;> by_cases B : x4 < perm x1 <;> by_cases D : x4 < perm x2 <;> rcases h0 with ⟨rfl, rfl, rfl⟩ | ⟨rfl, rfl, rfl⟩ <;> rcases h1 with ⟨rfl, rfl, rfl⟩ | ⟨rfl, rfl, rfl⟩ <;> rcases h2 with ⟨rfl, rfl, rfl⟩ | ⟨rfl, rfl, rfl⟩ <;> simp only [n10, and_true, and_false, false_and, true_and, if_true, if_false] at hz <;> simp only [law_226, law_264, law_286, law_305, law_321, law_340, law_341, law_379, fc, lt64, lt_emp, nmax, A, B, D, n10, hz, if_true, if_false]
set_option maxHeartbeats 40000000 in
theorem law_one (x0 x1 x2 x3 x4 : Int32) (a b d : Addr) : law x0 x1 x2 x3 x4 a b d = 1 := by
  have hn : (¬ 0 < (x3 &&& 3) ∧ ¬ 1 < (x3 &&& 3) ∧ ¬ 2 < (x3 &&& 3)) ∨ (0 < (x3 &&& 3) ∧ ¬ 1 < (x3 &&& 3) ∧ ¬ 2 < (x3 &&& 3)) ∨ (0 < (x3 &&& 3) ∧ 1 < (x3 &&& 3) ∧ ¬ 2 < (x3 &&& 3)) ∨ (0 < (x3 &&& 3) ∧ 1 < (x3 &&& 3) ∧ 2 < (x3 &&& 3)) := by
    simp only [Int32.lt_iff_toInt_lt, Int32.reduceToInt]; omega
  have h9 : ∀ u : Int32, (((u &&& 15) &&& 9) = 0) = (((u &&& 15) &&& 1) = 0 ∧ ((u &&& 15) &&& 8) = 0) := fun u => by
    have hm := c_mask u 15 4 (by decide) (by decide)
    have hd : ∀ k : Fin 16, ((Int32.ofInt (k.1 : Int) &&& 9) = 0) = ((Int32.ofInt (k.1 : Int) &&& 1) = 0 ∧ (Int32.ofInt (k.1 : Int) &&& 8) = 0) := fun k => propext (by revert k; decide)
    obtain ⟨k, hk⟩ := small_int (n := 16) (x := u &&& 15) (by omega) (by omega)
    rw [hk]; exact hd k
  have h9' := h9 (x3.toUInt32 >>> (2 &&& 31 : Int32).toUInt32).toInt32
  generalize hm : ((x3.toUInt32 >>> (2 &&& 31 : Int32).toUInt32).toInt32 &&& 15) = m at h9'
  rcases hn with ⟨A0, A1, A2⟩ | ⟨A0, A1, A2⟩ | ⟨A0, A1, A2⟩ | ⟨A0, A1, A2⟩
  all_goals simp only [law, law_85, law_98, A0, A1, A2, if_true, if_false, show ¬ (-1 : Int32) = (0 : Int32) by decide, show ¬ (-1 : Int32) = (1 : Int32) by decide, show ¬ (-1 : Int32) = (2 : Int32) by decide, show ¬ (0 : Int32) = (-1 : Int32) by decide, show ¬ (0 : Int32) = (1 : Int32) by decide, show ¬ (0 : Int32) = (2 : Int32) by decide, show ¬ (1 : Int32) = (-1 : Int32) by decide, show ¬ (1 : Int32) = (0 : Int32) by decide, show ¬ (1 : Int32) = (2 : Int32) by decide, show ¬ (2 : Int32) = (-1 : Int32) by decide, show ¬ (2 : Int32) = (0 : Int32) by decide, show ¬ (2 : Int32) = (1 : Int32) by decide, show ¬ (3 : Int32) = (-1 : Int32) by decide, show ¬ (3 : Int32) = (0 : Int32) by decide, show ¬ (3 : Int32) = (1 : Int32) by decide, show ¬ (3 : Int32) = (2 : Int32) by decide]
  all_goals (by_cases M1 : (m &&& 1) = 0 <;> simp only [law_111, hm, M1, if_true, if_false, show ¬ (-1 : Int32) = (0 : Int32) by decide, show ¬ (-1 : Int32) = (1 : Int32) by decide, show ¬ (-1 : Int32) = (2 : Int32) by decide, show ¬ (0 : Int32) = (-1 : Int32) by decide, show ¬ (0 : Int32) = (1 : Int32) by decide, show ¬ (0 : Int32) = (2 : Int32) by decide, show ¬ (1 : Int32) = (-1 : Int32) by decide, show ¬ (1 : Int32) = (0 : Int32) by decide, show ¬ (1 : Int32) = (2 : Int32) by decide, show ¬ (2 : Int32) = (-1 : Int32) by decide, show ¬ (2 : Int32) = (0 : Int32) by decide, show ¬ (2 : Int32) = (1 : Int32) by decide, show ¬ (3 : Int32) = (-1 : Int32) by decide, show ¬ (3 : Int32) = (0 : Int32) by decide, show ¬ (3 : Int32) = (1 : Int32) by decide, show ¬ (3 : Int32) = (2 : Int32) by decide])
  all_goals (by_cases M2 : (m &&& 2) = 0 <;> simp only [law_125, hm, M2, if_true, if_false, show ¬ (-1 : Int32) = (0 : Int32) by decide, show ¬ (-1 : Int32) = (1 : Int32) by decide, show ¬ (-1 : Int32) = (2 : Int32) by decide, show ¬ (0 : Int32) = (-1 : Int32) by decide, show ¬ (0 : Int32) = (1 : Int32) by decide, show ¬ (0 : Int32) = (2 : Int32) by decide, show ¬ (1 : Int32) = (-1 : Int32) by decide, show ¬ (1 : Int32) = (0 : Int32) by decide, show ¬ (1 : Int32) = (2 : Int32) by decide, show ¬ (2 : Int32) = (-1 : Int32) by decide, show ¬ (2 : Int32) = (0 : Int32) by decide, show ¬ (2 : Int32) = (1 : Int32) by decide, show ¬ (3 : Int32) = (-1 : Int32) by decide, show ¬ (3 : Int32) = (0 : Int32) by decide, show ¬ (3 : Int32) = (1 : Int32) by decide, show ¬ (3 : Int32) = (2 : Int32) by decide])
  all_goals (by_cases M4 : (m &&& 4) = 0 <;> simp only [law_139, hm, M4, if_true, if_false, show ¬ (-1 : Int32) = (0 : Int32) by decide, show ¬ (-1 : Int32) = (1 : Int32) by decide, show ¬ (-1 : Int32) = (2 : Int32) by decide, show ¬ (0 : Int32) = (-1 : Int32) by decide, show ¬ (0 : Int32) = (1 : Int32) by decide, show ¬ (0 : Int32) = (2 : Int32) by decide, show ¬ (1 : Int32) = (-1 : Int32) by decide, show ¬ (1 : Int32) = (0 : Int32) by decide, show ¬ (1 : Int32) = (2 : Int32) by decide, show ¬ (2 : Int32) = (-1 : Int32) by decide, show ¬ (2 : Int32) = (0 : Int32) by decide, show ¬ (2 : Int32) = (1 : Int32) by decide, show ¬ (3 : Int32) = (-1 : Int32) by decide, show ¬ (3 : Int32) = (0 : Int32) by decide, show ¬ (3 : Int32) = (1 : Int32) by decide, show ¬ (3 : Int32) = (2 : Int32) by decide])
  all_goals (by_cases M8 : (m &&& 8) = 0 <;> simp only [law_153, hm, M8, if_true, if_false, show ¬ (-1 : Int32) = (0 : Int32) by decide, show ¬ (-1 : Int32) = (1 : Int32) by decide, show ¬ (-1 : Int32) = (2 : Int32) by decide, show ¬ (0 : Int32) = (-1 : Int32) by decide, show ¬ (0 : Int32) = (1 : Int32) by decide, show ¬ (0 : Int32) = (2 : Int32) by decide, show ¬ (1 : Int32) = (-1 : Int32) by decide, show ¬ (1 : Int32) = (0 : Int32) by decide, show ¬ (1 : Int32) = (2 : Int32) by decide, show ¬ (2 : Int32) = (-1 : Int32) by decide, show ¬ (2 : Int32) = (0 : Int32) by decide, show ¬ (2 : Int32) = (1 : Int32) by decide, show ¬ (3 : Int32) = (-1 : Int32) by decide, show ¬ (3 : Int32) = (0 : Int32) by decide, show ¬ (3 : Int32) = (1 : Int32) by decide, show ¬ (3 : Int32) = (2 : Int32) by decide])
  all_goals simp only [law_168, law_185, law_186, law_205, law_206, law_225, hm, h9', M1, M2, M4, M8, A0, A1, A2, and_true, and_false, and_self, if_true, if_false]
  all_goals exact fin _ _ _ _ _ _ _ _ _ _ _ _ _ _ _ _ _ _ _ _ _ _ (by first | exact Or.inl ⟨rfl, rfl, rfl⟩ | exact Or.inr ⟨rfl, rfl, rfl⟩) (by first | exact Or.inl ⟨rfl, rfl, rfl⟩ | exact Or.inr ⟨rfl, rfl, rfl⟩) (by first | exact Or.inl ⟨rfl, rfl, rfl⟩ | exact Or.inr ⟨rfl, rfl, rfl⟩) (by decide)
theorem pf_law : plainFor (⟨"tallygate/RequestQueueRemovePinLaw", "law", "(IIIII)Z"⟩ : MethodName) = true := plainFor_of_name (by first | (simp [plainName, overriddenIn]; done) | decide +kernel)
set_option maxRecDepth 65536 in
set_option maxHeartbeats 40000000 in
theorem ct_law {l : Launch} {Z : State} {a0 : Array Value} (hw : ∀ d ∈ tables_1, d.before a0 Z = true) (ws : List Jvm.Cond) (h0 : Heap) (n0 : Nat) (x0 : Int32) (x1 : Int32) (x2 : Int32) (x3 : Int32) (x4 : Int32) (hz : n0 ≤ h0.size) :
    Ct l Z x code maxLocals ret ws room_1 #[.int x0, .int x1, .int x2, .int x3, .int x4] h0 n0 (fun v h => v = some (.int 1)) := by
  refine Ct.of (Ls := #[.val (.int x0), .val (.int x1), .val (.int x2), .val (.int x3), .val (.int x4), .unset, .unset, .unset, .unset, .unset, .unset, .unset, .unset, .unset, .unset, .unset, .unset, .unset, .unset, .unset]) pf_law (fun m => by first | (simp [entryFrame, mkF, argsToLocals, Value.category, maxLocals]; done) | rfl) ?_
  intro p e s m below meth c C
  have hk : Keep h0 h0 [] := Keep.refl _ _
  refine w_iloadN (pc' := 1) C at_0 rfl rfl ?_
  refine w_callS (pc' := 4) (argsL := [.int x0]) (st := []) (W := 0) (ce' := 0) (sl' := 0) C (tw hw 0 rfl) (tw hw 1 rfl) (tw hw 2 rfl) (tw hw 3 rfl) (by decide) at_1 rfl rfl (by decide) (by decide) (Nat.le_of_eq rfl) rfl rfl (by decide) (by decide) rfl (lenOf pd_6 rfl) (ct_perm hw h0 n0 x0) (kp ?_)
  refine w_istore (pc' := 6) (Ls' := #[.val (.int x0), .val (.int x1), .val (.int x2), .val (.int x3), .val (.int x4), .val (.int (perm x0)), .unset, .unset, .unset, .unset, .unset, .unset, .unset, .unset, .unset, .unset, .unset, .unset, .unset, .unset]) C at_4 rfl rfl ?_
  refine w_iloadN (pc' := 7) C at_6 rfl rfl ?_
  refine w_callS (pc' := 10) (argsL := [.int x1]) (st := []) (W := 0) (ce' := 0) (sl' := 0) C (tw hw 0 rfl) (tw hw 1 rfl) (tw hw 2 rfl) (tw hw 3 rfl) (by decide) at_7 rfl rfl (by decide) (by decide) (Nat.le_of_eq rfl) rfl rfl (by decide) (by decide) rfl (lenOf pd_6 rfl) (ct_perm hw h0 n0 x1) (kp ?_)
  refine w_istore (pc' := 12) (Ls' := #[.val (.int x0), .val (.int x1), .val (.int x2), .val (.int x3), .val (.int x4), .val (.int (perm x0)), .val (.int (perm x1)), .unset, .unset, .unset, .unset, .unset, .unset, .unset, .unset, .unset, .unset, .unset, .unset, .unset]) C at_10 rfl rfl ?_
  refine w_iloadN (pc' := 13) C at_12 rfl rfl ?_
  refine w_callS (pc' := 16) (argsL := [.int x2]) (st := []) (W := 0) (ce' := 0) (sl' := 0) C (tw hw 0 rfl) (tw hw 1 rfl) (tw hw 2 rfl) (tw hw 3 rfl) (by decide) at_13 rfl rfl (by decide) (by decide) (Nat.le_of_eq rfl) rfl rfl (by decide) (by decide) rfl (lenOf pd_6 rfl) (ct_perm hw h0 n0 x2) (kp ?_)
  refine w_istore (pc' := 18) (Ls' := #[.val (.int x0), .val (.int x1), .val (.int x2), .val (.int x3), .val (.int x4), .val (.int (perm x0)), .val (.int (perm x1)), .val (.int (perm x2)), .unset, .unset, .unset, .unset, .unset, .unset, .unset, .unset, .unset, .unset, .unset, .unset]) C at_16 rfl rfl ?_
  refine w_iloadN (pc' := 19) C at_18 rfl rfl ?_
  refine w_iconst (pc' := 20) (x := (3 : Int32)) C at_19 rfl rfl ?_
  refine w_iand (pc' := 21) C at_20 rfl ?_
  refine w_istore (pc' := 23) (Ls' := #[.val (.int x0), .val (.int x1), .val (.int x2), .val (.int x3), .val (.int x4), .val (.int (perm x0)), .val (.int (perm x1)), .val (.int (perm x2)), .val (.int (x3 &&& (3 : Int32))), .unset, .unset, .unset, .unset, .unset, .unset, .unset, .unset, .unset, .unset, .unset]) C at_21 rfl rfl ?_
  refine w_iloadN (pc' := 24) C at_23 rfl rfl ?_
  refine w_iconst (pc' := 25) (x := (2 : Int32)) C at_24 rfl rfl ?_
  refine w_iushr (pc' := 26) C at_25 rfl ?_
  refine w_bipush (pc' := 28) (x := (15 : Int32)) C at_26 rfl rfl ?_
  refine w_iand (pc' := 29) C at_28 rfl ?_
  refine w_istore (pc' := 31) (Ls' := #[.val (.int x0), .val (.int x1), .val (.int x2), .val (.int x3), .val (.int x4), .val (.int (perm x0)), .val (.int (perm x1)), .val (.int (perm x2)), .val (.int (x3 &&& (3 : Int32))), .val (.int (((x3.toUInt32 >>> ((2 : Int32) &&& 31).toUInt32).toInt32) &&& (15 : Int32))), .unset, .unset, .unset, .unset, .unset, .unset, .unset, .unset, .unset, .unset]) C at_29 rfl rfl ?_
  refine w_new (pc' := 34) (ce' := 1) (sl' := 4) C (tw hw 9 rfl) (tw hw 10 rfl) (tw hw 11 rfl) at_31 rfl rfl rfl (by decide) (by decide) (fun h1 a1 e1 E1 A1 D1 => ?_)
  have g_a1 : n0 ≤ a1 := by rw [e1]; exact hz
  have fr_a1 : h0.size ≤ a1 := by rw [e1]; exact hk.1
  have hz : n0 ≤ h1.size := Nat.le_trans hz E1.1
  have hk := hk.ext E1
  have O_a1 : Obj Z h1 a1 "tallygate/RequestQueue" [("slots", "[Ltallygate/RequestQueue$Entry;", .null), ("least", "[J", .null), ("end", "I", .int (0 : Int32)), ("size", "I", .int (0 : Int32))] := obj_Q hw A1 D1
  refine w_dup (pc' := 35) C at_34 rfl rfl ?_
  refine w_callI (pc' := 38) (argsL := []) (st := [.ref a1]) (W := 1) (ce' := 3) (sl' := 52) C rfl (tw hw 12 rfl) (tw hw 13 rfl) (tw hw 11 rfl) (tw hw 14 rfl) (by decide) at_35 rfl rfl (by decide) (by decide) (Nat.le_of_eq rfl) rfl rfl (by decide) (by decide) rfl (lenOf pd_7 rfl) (ct_initQ hw h1 n0 a1 hz O_a1 g_a1) (k0 (fun h2 q2 => ?_))
  obtain ⟨sa2, la2, fb_sa2, fb_la2, ne_sa2_la2, P_q, P_s, P_l, K2⟩ := q2
  have g_sa2 : n0 ≤ sa2 := Nat.le_trans hz fb_sa2
  have fr_sa2 : h0.size ≤ sa2 := Nat.le_trans hk.1 fb_sa2
  have ne_a1_sa2 : a1 ≠ sa2 := Nat.ne_of_lt (Nat.lt_of_lt_of_le O_a1.lt fb_sa2)
  have g_la2 : n0 ≤ la2 := Nat.le_trans hz fb_la2
  have fr_la2 : h0.size ≤ la2 := Nat.le_trans hk.1 fb_la2
  have ne_a1_la2 : a1 ≠ la2 := Nat.ne_of_lt (Nat.lt_of_lt_of_le O_a1.lt fb_la2)
  have hz : n0 ≤ h2.size := Nat.le_trans hz K2.1
  have hk := Keep.app hk K2 (fun x hx => Or.inl hx) (allS (Or.inr fr_a1) all0)
  have O_a1 := P_q
  have O_sa2 := P_s
  have O_la2 := P_l
  refine w_astore (pc' := 40) (Ls' := #[.val (.int x0), .val (.int x1), .val (.int x2), .val (.int x3), .val (.int x4), .val (.int (perm x0)), .val (.int (perm x1)), .val (.int (perm x2)), .val (.int (x3 &&& (3 : Int32))), .val (.int (((x3.toUInt32 >>> ((2 : Int32) &&& 31).toUInt32).toInt32) &&& (15 : Int32))), .val (.ref a1), .unset, .unset, .unset, .unset, .unset, .unset, .unset, .unset, .unset]) C at_38 rfl rfl rfl ?_
  refine w_new (pc' := 43) (ce' := 4) (sl' := 54) C (tw hw 33 rfl) (tw hw 34 rfl) (tw hw 35 rfl) at_40 rfl rfl rfl (by decide) (by decide) (fun h3 a3 e3 E3 A3 D3 => ?_)
  have g_a3 : n0 ≤ a3 := by rw [e3]; exact hz
  have fr_a3 : h0.size ≤ a3 := by rw [e3]; exact hk.1
  have ne_a1_a3 : a1 ≠ a3 := by rw [e3]; exact Nat.ne_of_lt O_a1.lt
  have ne_sa2_a3 : sa2 ≠ a3 := by rw [e3]; exact Nat.ne_of_lt O_sa2.lt
  have ne_la2_a3 : la2 ≠ a3 := by rw [e3]; exact Nat.ne_of_lt O_la2.lt
  have O_a1 := O_a1.ext E3
  have O_sa2 := O_sa2.ext E3
  have O_la2 := O_la2.ext E3
  have hz : n0 ≤ h3.size := Nat.le_trans hz E3.1
  have hk := hk.ext E3
  have O_a3 : Obj Z h3 a3 "tallygate/RequestQueue$Entry" [("slot", "I", .int (0 : Int32)), ("permits", "I", .int (0 : Int32))] := obj_E hw A3 D3
  refine w_dup (pc' := 44) C at_43 rfl rfl ?_
  refine w_iload (pc' := 46) C at_44 rfl rfl ?_
  refine w_callI (pc' := 49) (argsL := [.int (perm x0)]) (st := [.ref a3]) (W := 1) (ce' := 4) (sl' := 54) C rfl (tw hw 36 rfl) (tw hw 37 rfl) (tw hw 35 rfl) (tw hw 38 rfl) (by decide) at_46 rfl rfl (by decide) (by decide) (Nat.le_of_eq rfl) rfl rfl (by decide) (by decide) rfl (lenOf pd_8 rfl) (ct_initE hw h3 n0 a3 (perm x0) hz O_a3 g_a3) (k0 (fun h4 q4 => ?_))
  obtain ⟨P_a3, K4⟩ := q4
  have O_a1 := O_a1.keep K4 (ninS ne_a1_a3 nin0)
  have O_sa2 := O_sa2.keep K4 (ninS ne_sa2_a3 nin0)
  have O_la2 := O_la2.keep K4 (ninS ne_la2_a3 nin0)
  have hz : n0 ≤ h4.size := Nat.le_trans hz K4.1
  have hk := Keep.app hk K4 (fun x hx => Or.inl hx) (allS (Or.inr fr_a3) all0)
  have O_a3 := P_a3
  refine w_astore (pc' := 51) (Ls' := #[.val (.int x0), .val (.int x1), .val (.int x2), .val (.int x3), .val (.int x4), .val (.int (perm x0)), .val (.int (perm x1)), .val (.int (perm x2)), .val (.int (x3 &&& (3 : Int32))), .val (.int (((x3.toUInt32 >>> ((2 : Int32) &&& 31).toUInt32).toInt32) &&& (15 : Int32))), .val (.ref a1), .val (.ref a3), .unset, .unset, .unset, .unset, .unset, .unset, .unset, .unset]) C at_49 rfl rfl rfl ?_
  refine w_new (pc' := 54) (ce' := 5) (sl' := 56) C (tw hw 33 rfl) (tw hw 34 rfl) (tw hw 35 rfl) at_51 rfl rfl rfl (by decide) (by decide) (fun h5 a5 e5 E5 A5 D5 => ?_)
  have g_a5 : n0 ≤ a5 := by rw [e5]; exact hz
  have fr_a5 : h0.size ≤ a5 := by rw [e5]; exact hk.1
  have ne_a1_a5 : a1 ≠ a5 := by rw [e5]; exact Nat.ne_of_lt O_a1.lt
  have ne_sa2_a5 : sa2 ≠ a5 := by rw [e5]; exact Nat.ne_of_lt O_sa2.lt
  have ne_la2_a5 : la2 ≠ a5 := by rw [e5]; exact Nat.ne_of_lt O_la2.lt
  have ne_a3_a5 : a3 ≠ a5 := by rw [e5]; exact Nat.ne_of_lt O_a3.lt
  have O_a1 := O_a1.ext E5
  have O_sa2 := O_sa2.ext E5
  have O_la2 := O_la2.ext E5
  have O_a3 := O_a3.ext E5
  have hz : n0 ≤ h5.size := Nat.le_trans hz E5.1
  have hk := hk.ext E5
  have O_a5 : Obj Z h5 a5 "tallygate/RequestQueue$Entry" [("slot", "I", .int (0 : Int32)), ("permits", "I", .int (0 : Int32))] := obj_E hw A5 D5
  refine w_dup (pc' := 55) C at_54 rfl rfl ?_
  refine w_iload (pc' := 57) C at_55 rfl rfl ?_
  refine w_callI (pc' := 60) (argsL := [.int (perm x1)]) (st := [.ref a5]) (W := 1) (ce' := 5) (sl' := 56) C rfl (tw hw 36 rfl) (tw hw 37 rfl) (tw hw 35 rfl) (tw hw 38 rfl) (by decide) at_57 rfl rfl (by decide) (by decide) (Nat.le_of_eq rfl) rfl rfl (by decide) (by decide) rfl (lenOf pd_8 rfl) (ct_initE hw h5 n0 a5 (perm x1) hz O_a5 g_a5) (k0 (fun h6 q6 => ?_))
  obtain ⟨P_a5, K6⟩ := q6
  have O_a1 := O_a1.keep K6 (ninS ne_a1_a5 nin0)
  have O_sa2 := O_sa2.keep K6 (ninS ne_sa2_a5 nin0)
  have O_la2 := O_la2.keep K6 (ninS ne_la2_a5 nin0)
  have O_a3 := O_a3.keep K6 (ninS ne_a3_a5 nin0)
  have hz : n0 ≤ h6.size := Nat.le_trans hz K6.1
  have hk := Keep.app hk K6 (fun x hx => Or.inl hx) (allS (Or.inr fr_a5) all0)
  have O_a5 := P_a5
  refine w_astore (pc' := 62) (Ls' := #[.val (.int x0), .val (.int x1), .val (.int x2), .val (.int x3), .val (.int x4), .val (.int (perm x0)), .val (.int (perm x1)), .val (.int (perm x2)), .val (.int (x3 &&& (3 : Int32))), .val (.int (((x3.toUInt32 >>> ((2 : Int32) &&& 31).toUInt32).toInt32) &&& (15 : Int32))), .val (.ref a1), .val (.ref a3), .val (.ref a5), .unset, .unset, .unset, .unset, .unset, .unset, .unset]) C at_60 rfl rfl rfl ?_
  refine w_new (pc' := 65) (ce' := 6) (sl' := 58) C (tw hw 33 rfl) (tw hw 34 rfl) (tw hw 35 rfl) at_62 rfl rfl rfl (by decide) (by decide) (fun h7 a7 e7 E7 A7 D7 => ?_)
  have g_a7 : n0 ≤ a7 := by rw [e7]; exact hz
  have fr_a7 : h0.size ≤ a7 := by rw [e7]; exact hk.1
  have ne_a1_a7 : a1 ≠ a7 := by rw [e7]; exact Nat.ne_of_lt O_a1.lt
  have ne_sa2_a7 : sa2 ≠ a7 := by rw [e7]; exact Nat.ne_of_lt O_sa2.lt
  have ne_la2_a7 : la2 ≠ a7 := by rw [e7]; exact Nat.ne_of_lt O_la2.lt
  have ne_a3_a7 : a3 ≠ a7 := by rw [e7]; exact Nat.ne_of_lt O_a3.lt
  have ne_a5_a7 : a5 ≠ a7 := by rw [e7]; exact Nat.ne_of_lt O_a5.lt
  have O_a1 := O_a1.ext E7
  have O_sa2 := O_sa2.ext E7
  have O_la2 := O_la2.ext E7
  have O_a3 := O_a3.ext E7
  have O_a5 := O_a5.ext E7
  have hz : n0 ≤ h7.size := Nat.le_trans hz E7.1
  have hk := hk.ext E7
  have O_a7 : Obj Z h7 a7 "tallygate/RequestQueue$Entry" [("slot", "I", .int (0 : Int32)), ("permits", "I", .int (0 : Int32))] := obj_E hw A7 D7
  refine w_dup (pc' := 66) C at_65 rfl rfl ?_
  refine w_iload (pc' := 68) C at_66 rfl rfl ?_
  refine w_callI (pc' := 71) (argsL := [.int (perm x2)]) (st := [.ref a7]) (W := 1) (ce' := 6) (sl' := 58) C rfl (tw hw 36 rfl) (tw hw 37 rfl) (tw hw 35 rfl) (tw hw 38 rfl) (by decide) at_68 rfl rfl (by decide) (by decide) (Nat.le_of_eq rfl) rfl rfl (by decide) (by decide) rfl (lenOf pd_8 rfl) (ct_initE hw h7 n0 a7 (perm x2) hz O_a7 g_a7) (k0 (fun h8 q8 => ?_))
  obtain ⟨P_a7, K8⟩ := q8
  have O_a1 := O_a1.keep K8 (ninS ne_a1_a7 nin0)
  have O_sa2 := O_sa2.keep K8 (ninS ne_sa2_a7 nin0)
  have O_la2 := O_la2.keep K8 (ninS ne_la2_a7 nin0)
  have O_a3 := O_a3.keep K8 (ninS ne_a3_a7 nin0)
  have O_a5 := O_a5.keep K8 (ninS ne_a5_a7 nin0)
  have hz : n0 ≤ h8.size := Nat.le_trans hz K8.1
  have hk := Keep.app hk K8 (fun x hx => Or.inl hx) (allS (Or.inr fr_a7) all0)
  have O_a7 := P_a7
  refine w_astore (pc' := 73) (Ls' := #[.val (.int x0), .val (.int x1), .val (.int x2), .val (.int x3), .val (.int x4), .val (.int (perm x0)), .val (.int (perm x1)), .val (.int (perm x2)), .val (.int (x3 &&& (3 : Int32))), .val (.int (((x3.toUInt32 >>> ((2 : Int32) &&& 31).toUInt32).toInt32) &&& (15 : Int32))), .val (.ref a1), .val (.ref a3), .val (.ref a5), .val (.ref a7), .unset, .unset, .unset, .unset, .unset, .unset]) C at_71 rfl rfl rfl ?_
  have K379 : ∀ (f139_a5_slot : Int32) (g153_sa2_2 : Value) (g153_sa2_3 : Value) (g153_la2_2 : Int64) (g153_la2_3 : Int64) (f153_a7_slot : Int32) (f168_a1_end : Int32) (f168_a1_size : Int32) (g168_sa2_1 : Value) (g168_la2_1 : Int64) (f168_a3_slot : Int32) (t186_0 : Int32) (t206_0 : Int32) (t226_0 : Int32) (v264_17 : Value) (v321_18 : Value) (t341_0 : Int32) (hm379 : Heap), n0 ≤ hm379.size → Keep h0 hm379 [] → f139_a5_slot = (-1 : Int32) ∨ f139_a5_slot = (0 : Int32) ∨ f139_a5_slot = (1 : Int32) → g153_sa2_2.isRef = true → g153_sa2_3.isRef = true → f153_a7_slot = (-1 : Int32) ∨ f153_a7_slot = (0 : Int32) ∨ f153_a7_slot = (1 : Int32) ∨ f153_a7_slot = (2 : Int32) → g168_sa2_1.isRef = true → f168_a3_slot = (-1 : Int32) ∨ f168_a3_slot = (0 : Int32) → t186_0 = (0 : Int32) ∨ t186_0 = (1 : Int32) → t206_0 = (0 : Int32) ∨ t206_0 = (1 : Int32) → t226_0 = (0 : Int32) ∨ t226_0 = (1 : Int32) → v264_17.isRef = true → v321_18.isRef = true → t341_0 = (0 : Int32) ∨ t341_0 = (1 : Int32) → Obj Z hm379 a1 "tallygate/RequestQueue" [("slots", "[Ltallygate/RequestQueue$Entry;", .ref sa2), ("least", "[J", .ref la2), ("end", "I", .int f168_a1_end), ("size", "I", .int f168_a1_size)] → ArR Z hm379 sa2 "tallygate/RequestQueue$Entry" (sl3 g168_sa2_1 g153_sa2_2 g153_sa2_3) → Ar Z hm379 la2 .long (tr3 g168_la2_1 g153_la2_2 g153_la2_3) → Obj Z hm379 a3 "tallygate/RequestQueue$Entry" [("slot", "I", .int f168_a3_slot), ("permits", "I", .int (perm x0))] → Obj Z hm379 a5 "tallygate/RequestQueue$Entry" [("slot", "I", .int f139_a5_slot), ("permits", "I", .int (perm x1))] → Obj Z hm379 a7 "tallygate/RequestQueue$Entry" [("slot", "I", .int f153_a7_slot), ("permits", "I", .int (perm x2))] → law x0 x1 x2 x3 x4 a3 a5 a7 = law_379 x0 x1 x2 x3 x4 a3 a5 a7 f139_a5_slot g153_sa2_2 g153_sa2_3 g153_la2_2 g153_la2_3 f153_a7_slot f168_a1_end f168_a1_size g168_sa2_1 g168_la2_1 f168_a3_slot t186_0 t206_0 t226_0 v264_17 v321_18 t341_0 → Wp p l e room_1 s m #[.int x0, .int x1, .int x2, .int x3, .int x4] below meth c n0 room_1.cells room_1.slots (fun v h => v = some (.int 1)) hm379 6 58 (mkF m 379 #[.val (.int x0), .val (.int x1), .val (.int x2), .val (.int x3), .val (.int x4), .val (.int (perm x0)), .val (.int (perm x1)), .val (.int (perm x2)), .val (.int (x3 &&& (3 : Int32))), .val (.int (((x3.toUInt32 >>> ((2 : Int32) &&& 31).toUInt32).toInt32) &&& (15 : Int32))), .val (.ref a1), .val (.ref a3), .val (.ref a5), .val (.ref a7), .val (.int t186_0), .val (.int t206_0), .val (.int t226_0), .val (v264_17), .val (v321_18), .val (.int t341_0)] []) := by
    intro f139_a5_slot g153_sa2_2 g153_sa2_3 g153_la2_2 g153_la2_3 f153_a7_slot f168_a1_end f168_a1_size g168_sa2_1 g168_la2_1 f168_a3_slot t186_0 t206_0 t226_0 v264_17 v321_18 t341_0 hm379 hz hk c_f139_a5_slot u_g153_sa2_2 u_g153_sa2_3 c_f153_a7_slot u_g168_sa2_1 c_f168_a3_slot c_t186_0 c_t206_0 c_t226_0 u_v264_17 u_v321_18 c_t341_0 O_a1 O_sa2 O_la2 O_a3 O_a5 O_a7 hr
    change _ = (0 : Int32) at hr
    refine w_iconst (pc' := 380) (x := (0 : Int32)) C at_379 rfl rfl ?_
    refine w_retN' (t := .boolean) (z' := (0 : Int32)) C rfl (by simp) at_380 (by decide) (by decide) narB0 ?_
    exact congrArg (fun z => some (Value.int z)) (hr.symm.trans (law_one x0 x1 x2 x3 x4 a3 a5 a7))
  have K341 : ∀ (t341_0 : Int32) (f139_a5_slot : Int32) (g153_sa2_2 : Value) (g153_sa2_3 : Value) (g153_la2_2 : Int64) (g153_la2_3 : Int64) (f153_a7_slot : Int32) (f168_a1_end : Int32) (f168_a1_size : Int32) (g168_sa2_1 : Value) (g168_la2_1 : Int64) (f168_a3_slot : Int32) (t186_0 : Int32) (t206_0 : Int32) (t226_0 : Int32) (v264_17 : Value) (v321_18 : Value) (hm341 : Heap), n0 ≤ hm341.size → Keep h0 hm341 [] → t341_0 = (0 : Int32) ∨ t341_0 = (1 : Int32) → f139_a5_slot = (-1 : Int32) ∨ f139_a5_slot = (0 : Int32) ∨ f139_a5_slot = (1 : Int32) → g153_sa2_2.isRef = true → g153_sa2_3.isRef = true → f153_a7_slot = (-1 : Int32) ∨ f153_a7_slot = (0 : Int32) ∨ f153_a7_slot = (1 : Int32) ∨ f153_a7_slot = (2 : Int32) → g168_sa2_1.isRef = true → f168_a3_slot = (-1 : Int32) ∨ f168_a3_slot = (0 : Int32) → t186_0 = (0 : Int32) ∨ t186_0 = (1 : Int32) → t206_0 = (0 : Int32) ∨ t206_0 = (1 : Int32) → t226_0 = (0 : Int32) ∨ t226_0 = (1 : Int32) → v264_17.isRef = true → v321_18.isRef = true → Obj Z hm341 a1 "tallygate/RequestQueue" [("slots", "[Ltallygate/RequestQueue$Entry;", .ref sa2), ("least", "[J", .ref la2), ("end", "I", .int f168_a1_end), ("size", "I", .int f168_a1_size)] → ArR Z hm341 sa2 "tallygate/RequestQueue$Entry" (sl3 g168_sa2_1 g153_sa2_2 g153_sa2_3) → Ar Z hm341 la2 .long (tr3 g168_la2_1 g153_la2_2 g153_la2_3) → Obj Z hm341 a3 "tallygate/RequestQueue$Entry" [("slot", "I", .int f168_a3_slot), ("permits", "I", .int (perm x0))] → Obj Z hm341 a5 "tallygate/RequestQueue$Entry" [("slot", "I", .int f139_a5_slot), ("permits", "I", .int (perm x1))] → Obj Z hm341 a7 "tallygate/RequestQueue$Entry" [("slot", "I", .int f153_a7_slot), ("permits", "I", .int (perm x2))] → law x0 x1 x2 x3 x4 a3 a5 a7 = law_341 x0 x1 x2 x3 x4 a3 a5 a7 t341_0 f139_a5_slot g153_sa2_2 g153_sa2_3 g153_la2_2 g153_la2_3 f153_a7_slot f168_a1_end f168_a1_size g168_sa2_1 g168_la2_1 f168_a3_slot t186_0 t206_0 t226_0 v264_17 v321_18 → Wp p l e room_1 s m #[.int x0, .int x1, .int x2, .int x3, .int x4] below meth c n0 room_1.cells room_1.slots (fun v h => v = some (.int 1)) hm341 6 58 (mkF m 341 #[.val (.int x0), .val (.int x1), .val (.int x2), .val (.int x3), .val (.int x4), .val (.int (perm x0)), .val (.int (perm x1)), .val (.int (perm x2)), .val (.int (x3 &&& (3 : Int32))), .val (.int (((x3.toUInt32 >>> ((2 : Int32) &&& 31).toUInt32).toInt32) &&& (15 : Int32))), .val (.ref a1), .val (.ref a3), .val (.ref a5), .val (.ref a7), .val (.int t186_0), .val (.int t206_0), .val (.int t226_0), .val (v264_17), .val (v321_18), .unset] [.int t341_0]) := by
    intro t341_0 f139_a5_slot g153_sa2_2 g153_sa2_3 g153_la2_2 g153_la2_3 f153_a7_slot f168_a1_end f168_a1_size g168_sa2_1 g168_la2_1 f168_a3_slot t186_0 t206_0 t226_0 v264_17 v321_18 hm341 hz hk c_t341_0 c_f139_a5_slot u_g153_sa2_2 u_g153_sa2_3 c_f153_a7_slot u_g168_sa2_1 c_f168_a3_slot c_t186_0 c_t206_0 c_t226_0 u_v264_17 u_v321_18 O_a1 O_sa2 O_la2 O_a3 O_a5 O_a7 hr
    change _ = (if (isEmpty f168_a1_end f168_a1_size) = t341_0 then (if ((fc (2147483647 : Int32) g168_sa2_1 g153_sa2_2 g153_sa2_3 g168_la2_1 g153_la2_2 g153_la2_3) : Value) = v264_17 then (if ((fc x4 g168_sa2_1 g153_sa2_2 g153_sa2_3 g168_la2_1 g153_la2_2 g153_la2_3) : Value) = v321_18 then (1 : Int32) else (law_379 x0 x1 x2 x3 x4 a3 a5 a7 f139_a5_slot g153_sa2_2 g153_sa2_3 g153_la2_2 g153_la2_3 f153_a7_slot f168_a1_end f168_a1_size g168_sa2_1 g168_la2_1 f168_a3_slot t186_0 t206_0 t226_0 v264_17 v321_18 t341_0)) else (law_379 x0 x1 x2 x3 x4 a3 a5 a7 f139_a5_slot g153_sa2_2 g153_sa2_3 g153_la2_2 g153_la2_3 f153_a7_slot f168_a1_end f168_a1_size g168_sa2_1 g168_la2_1 f168_a3_slot t186_0 t206_0 t226_0 v264_17 v321_18 t341_0)) else (law_379 x0 x1 x2 x3 x4 a3 a5 a7 f139_a5_slot g153_sa2_2 g153_sa2_3 g153_la2_2 g153_la2_3 f153_a7_slot f168_a1_end f168_a1_size g168_sa2_1 g168_la2_1 f168_a3_slot t186_0 t206_0 t226_0 v264_17 v321_18 t341_0)) at hr
    refine w_istore (pc' := 343) (Ls' := #[.val (.int x0), .val (.int x1), .val (.int x2), .val (.int x3), .val (.int x4), .val (.int (perm x0)), .val (.int (perm x1)), .val (.int (perm x2)), .val (.int (x3 &&& (3 : Int32))), .val (.int (((x3.toUInt32 >>> ((2 : Int32) &&& 31).toUInt32).toInt32) &&& (15 : Int32))), .val (.ref a1), .val (.ref a3), .val (.ref a5), .val (.ref a7), .val (.int t186_0), .val (.int t206_0), .val (.int t226_0), .val (v264_17), .val (v321_18), .val (.int t341_0)]) C at_341 rfl rfl ?_
    refine w_aload (pc' := 345) C at_343 rfl rfl rfl ?_
    refine w_callV (Cl := "tallygate/RequestQueue") (pc' := 348) (argsL := []) (st := []) (W := 0) (ce' := 6) (sl' := 58) C (tw hw 63 rfl) (tw hw 64 rfl) (tw hw 66 rfl) (tw hw 65 rfl) (tw hw 11 rfl) (tw hw 67 rfl) (by decide) at_345 rfl rfl (by decide) (by decide) (Nat.le_of_eq rfl) rfl rfl (by decide) (by decide) rfl (lenOf pd_10 rfl) O_a1.1 (ct_isEmpty hw hm341 n0 a1 sa2 la2 f168_a1_end f168_a1_size O_a1) (kp ?_)
    refine w_iload (pc' := 350) C at_348 rfl rfl ?_
    refine w_icmp_ne (pcT := 379) (pcF := 353) C at_350 (by decide) (by decide) rfl (fun q350 => ?_) (fun q350 => ?_)
    · have hr := hr.trans (if_neg q350)
      exact K379 f139_a5_slot g153_sa2_2 g153_sa2_3 g153_la2_2 g153_la2_3 f153_a7_slot f168_a1_end f168_a1_size g168_sa2_1 g168_la2_1 f168_a3_slot t186_0 t206_0 t226_0 v264_17 v321_18 t341_0 hm341 hz hk c_f139_a5_slot (by first | assumption | exact fc_ref (by first | assumption | rfl) (by first | assumption | rfl) (by first | assumption | rfl) | rfl) (by first | assumption | exact fc_ref (by first | assumption | rfl) (by first | assumption | rfl) (by first | assumption | rfl) | rfl) c_f153_a7_slot (by first | assumption | exact fc_ref (by first | assumption | rfl) (by first | assumption | rfl) (by first | assumption | rfl) | rfl) c_f168_a3_slot c_t186_0 c_t206_0 c_t226_0 (by first | assumption | exact fc_ref (by first | assumption | rfl) (by first | assumption | rfl) (by first | assumption | rfl) | rfl) (by first | assumption | exact fc_ref (by first | assumption | rfl) (by first | assumption | rfl) (by first | assumption | rfl) | rfl) c_t341_0 O_a1 O_sa2 O_la2 O_a3 O_a5 O_a7 hr
    · have hr := hr.trans (if_pos q350)
      refine w_aload (pc' := 355) C at_353 rfl rfl rfl ?_
      refine w_callV (Cl := "tallygate/RequestQueue") (pc' := 358) (argsL := []) (st := []) (W := 0) (ce' := 6) (sl' := 58) C (tw hw 68 rfl) (tw hw 69 rfl) (tw hw 71 rfl) (tw hw 70 rfl) (tw hw 11 rfl) (tw hw 72 rfl) (by decide) at_355 rfl rfl (by decide) (by decide) (Nat.le_of_eq rfl) rfl rfl (by decide) (by decide) rfl (lenOf pd_11 rfl) O_a1.1 (ct_firstM hw hm341 n0 a1 sa2 la2 f168_a1_end f168_a1_size g168_sa2_1 g153_sa2_2 g153_sa2_3 g168_la2_1 g153_la2_2 g153_la2_3 hz (by assumption) (by assumption) (by assumption) O_a1 O_sa2 O_la2) (kp ?_)
      refine w_aload (pc' := 360) C at_358 rfl (by first | assumption | exact fc_ref (by first | assumption | rfl) (by first | assumption | rfl) (by first | assumption | rfl) | rfl) rfl ?_
      refine w_acmp_ne (pcT := 379) (pcF := 363) C (by first | assumption | exact fc_ref (by first | assumption | rfl) (by first | assumption | rfl) (by first | assumption | rfl) | rfl) (by first | assumption | exact fc_ref (by first | assumption | rfl) (by first | assumption | rfl) (by first | assumption | rfl) | rfl) at_360 (by decide) (by decide) rfl (fun q360 => ?_) (fun q360 => ?_)
      · have hr := hr.trans (if_neg q360)
        exact K379 f139_a5_slot g153_sa2_2 g153_sa2_3 g153_la2_2 g153_la2_3 f153_a7_slot f168_a1_end f168_a1_size g168_sa2_1 g168_la2_1 f168_a3_slot t186_0 t206_0 t226_0 v264_17 v321_18 t341_0 hm341 hz hk c_f139_a5_slot (by first | assumption | exact fc_ref (by first | assumption | rfl) (by first | assumption | rfl) (by first | assumption | rfl) | rfl) (by first | assumption | exact fc_ref (by first | assumption | rfl) (by first | assumption | rfl) (by first | assumption | rfl) | rfl) c_f153_a7_slot (by first | assumption | exact fc_ref (by first | assumption | rfl) (by first | assumption | rfl) (by first | assumption | rfl) | rfl) c_f168_a3_slot c_t186_0 c_t206_0 c_t226_0 (by first | assumption | exact fc_ref (by first | assumption | rfl) (by first | assumption | rfl) (by first | assumption | rfl) | rfl) (by first | assumption | exact fc_ref (by first | assumption | rfl) (by first | assumption | rfl) (by first | assumption | rfl) | rfl) c_t341_0 O_a1 O_sa2 O_la2 O_a3 O_a5 O_a7 hr
      · have hr := hr.trans (if_pos q360)
        refine w_aload (pc' := 365) C at_363 rfl rfl rfl ?_
        refine w_iload (pc' := 367) C at_365 rfl rfl ?_
        refine w_callV (Cl := "tallygate/RequestQueue") (pc' := 370) (argsL := [.int x4]) (st := []) (W := 0) (ce' := 6) (sl' := 58) C (tw hw 83 rfl) (tw hw 75 rfl) (tw hw 77 rfl) (tw hw 76 rfl) (tw hw 11 rfl) (tw hw 78 rfl) (by decide) at_367 rfl rfl (by decide) (by decide) (Nat.le_of_eq rfl) rfl rfl (by decide) (by decide) rfl (lenOf pd_4 rfl) O_a1.1 (ct_first hw hm341 n0 a1 x4 sa2 la2 f168_a1_end f168_a1_size g168_sa2_1 g153_sa2_2 g153_sa2_3 g168_la2_1 g153_la2_2 g153_la2_3 hz (by assumption) (by assumption) (by assumption) O_a1 O_sa2 O_la2) (kp ?_)
        have uf367 : ((fc x4 g168_sa2_1 g153_sa2_2 g153_sa2_3 g168_la2_1 g153_la2_2 g153_la2_3)).isRef = true := fc_ref (by assumption) (by assumption) (by assumption)
        refine w_aload (pc' := 372) C at_370 rfl (by first | assumption | exact fc_ref (by first | assumption | rfl) (by first | assumption | rfl) (by first | assumption | rfl) | rfl) rfl ?_
        refine w_acmp_ne (pcT := 379) (pcF := 375) C (by first | assumption | exact fc_ref (by first | assumption | rfl) (by first | assumption | rfl) (by first | assumption | rfl) | rfl) (by first | assumption | exact fc_ref (by first | assumption | rfl) (by first | assumption | rfl) (by first | assumption | rfl) | rfl) at_372 (by decide) (by decide) rfl (fun q372 => ?_) (fun q372 => ?_)
        · have hr := hr.trans (if_neg q372)
          exact K379 f139_a5_slot g153_sa2_2 g153_sa2_3 g153_la2_2 g153_la2_3 f153_a7_slot f168_a1_end f168_a1_size g168_sa2_1 g168_la2_1 f168_a3_slot t186_0 t206_0 t226_0 v264_17 v321_18 t341_0 hm341 hz hk c_f139_a5_slot (by first | assumption | exact fc_ref (by first | assumption | rfl) (by first | assumption | rfl) (by first | assumption | rfl) | rfl) (by first | assumption | exact fc_ref (by first | assumption | rfl) (by first | assumption | rfl) (by first | assumption | rfl) | rfl) c_f153_a7_slot (by first | assumption | exact fc_ref (by first | assumption | rfl) (by first | assumption | rfl) (by first | assumption | rfl) | rfl) c_f168_a3_slot c_t186_0 c_t206_0 c_t226_0 (by first | assumption | exact fc_ref (by first | assumption | rfl) (by first | assumption | rfl) (by first | assumption | rfl) | rfl) (by first | assumption | exact fc_ref (by first | assumption | rfl) (by first | assumption | rfl) (by first | assumption | rfl) | rfl) c_t341_0 O_a1 O_sa2 O_la2 O_a3 O_a5 O_a7 hr
        · have hr := hr.trans (if_pos q372)
          refine w_iconst (pc' := 376) (x := (1 : Int32)) C at_375 rfl rfl ?_
          refine w_goto (pc' := 380) C at_376 (by decide) (by decide) ?_
          refine w_retN' (t := .boolean) (z' := (1 : Int32)) C rfl (by simp) at_380 (by decide) (by decide) narB1 ?_
          exact congrArg (fun z => some (Value.int z)) (hr.symm.trans (law_one x0 x1 x2 x3 x4 a3 a5 a7))
  have K340 : ∀ (f139_a5_slot : Int32) (g153_sa2_2 : Value) (g153_sa2_3 : Value) (g153_la2_2 : Int64) (g153_la2_3 : Int64) (f153_a7_slot : Int32) (f168_a1_end : Int32) (f168_a1_size : Int32) (g168_sa2_1 : Value) (g168_la2_1 : Int64) (f168_a3_slot : Int32) (t186_0 : Int32) (t206_0 : Int32) (t226_0 : Int32) (v264_17 : Value) (v321_18 : Value) (hm340 : Heap), n0 ≤ hm340.size → Keep h0 hm340 [] → f139_a5_slot = (-1 : Int32) ∨ f139_a5_slot = (0 : Int32) ∨ f139_a5_slot = (1 : Int32) → g153_sa2_2.isRef = true → g153_sa2_3.isRef = true → f153_a7_slot = (-1 : Int32) ∨ f153_a7_slot = (0 : Int32) ∨ f153_a7_slot = (1 : Int32) ∨ f153_a7_slot = (2 : Int32) → g168_sa2_1.isRef = true → f168_a3_slot = (-1 : Int32) ∨ f168_a3_slot = (0 : Int32) → t186_0 = (0 : Int32) ∨ t186_0 = (1 : Int32) → t206_0 = (0 : Int32) ∨ t206_0 = (1 : Int32) → t226_0 = (0 : Int32) ∨ t226_0 = (1 : Int32) → v264_17.isRef = true → v321_18.isRef = true → Obj Z hm340 a1 "tallygate/RequestQueue" [("slots", "[Ltallygate/RequestQueue$Entry;", .ref sa2), ("least", "[J", .ref la2), ("end", "I", .int f168_a1_end), ("size", "I", .int f168_a1_size)] → ArR Z hm340 sa2 "tallygate/RequestQueue$Entry" (sl3 g168_sa2_1 g153_sa2_2 g153_sa2_3) → Ar Z hm340 la2 .long (tr3 g168_la2_1 g153_la2_2 g153_la2_3) → Obj Z hm340 a3 "tallygate/RequestQueue$Entry" [("slot", "I", .int f168_a3_slot), ("permits", "I", .int (perm x0))] → Obj Z hm340 a5 "tallygate/RequestQueue$Entry" [("slot", "I", .int f139_a5_slot), ("permits", "I", .int (perm x1))] → Obj Z hm340 a7 "tallygate/RequestQueue$Entry" [("slot", "I", .int f153_a7_slot), ("permits", "I", .int (perm x2))] → law x0 x1 x2 x3 x4 a3 a5 a7 = law_340 x0 x1 x2 x3 x4 a3 a5 a7 f139_a5_slot g153_sa2_2 g153_sa2_3 g153_la2_2 g153_la2_3 f153_a7_slot f168_a1_end f168_a1_size g168_sa2_1 g168_la2_1 f168_a3_slot t186_0 t206_0 t226_0 v264_17 v321_18 → Wp p l e room_1 s m #[.int x0, .int x1, .int x2, .int x3, .int x4] below meth c n0 room_1.cells room_1.slots (fun v h => v = some (.int 1)) hm340 6 58 (mkF m 340 #[.val (.int x0), .val (.int x1), .val (.int x2), .val (.int x3), .val (.int x4), .val (.int (perm x0)), .val (.int (perm x1)), .val (.int (perm x2)), .val (.int (x3 &&& (3 : Int32))), .val (.int (((x3.toUInt32 >>> ((2 : Int32) &&& 31).toUInt32).toInt32) &&& (15 : Int32))), .val (.ref a1), .val (.ref a3), .val (.ref a5), .val (.ref a7), .val (.int t186_0), .val (.int t206_0), .val (.int t226_0), .val (v264_17), .val (v321_18), .unset] []) := by
    intro f139_a5_slot g153_sa2_2 g153_sa2_3 g153_la2_2 g153_la2_3 f153_a7_slot f168_a1_end f168_a1_size g168_sa2_1 g168_la2_1 f168_a3_slot t186_0 t206_0 t226_0 v264_17 v321_18 hm340 hz hk c_f139_a5_slot u_g153_sa2_2 u_g153_sa2_3 c_f153_a7_slot u_g168_sa2_1 c_f168_a3_slot c_t186_0 c_t206_0 c_t226_0 u_v264_17 u_v321_18 O_a1 O_sa2 O_la2 O_a3 O_a5 O_a7 hr
    change _ = (law_341 x0 x1 x2 x3 x4 a3 a5 a7 (0 : Int32) f139_a5_slot g153_sa2_2 g153_sa2_3 g153_la2_2 g153_la2_3 f153_a7_slot f168_a1_end f168_a1_size g168_sa2_1 g168_la2_1 f168_a3_slot t186_0 t206_0 t226_0 v264_17 v321_18) at hr
    refine w_iconst (pc' := 341) (x := (0 : Int32)) C at_340 rfl rfl ?_
    exact K341 (0 : Int32) f139_a5_slot g153_sa2_2 g153_sa2_3 g153_la2_2 g153_la2_3 f153_a7_slot f168_a1_end f168_a1_size g168_sa2_1 g168_la2_1 f168_a3_slot t186_0 t206_0 t226_0 v264_17 v321_18 hm340 hz hk (Or.inl rfl) c_f139_a5_slot (by first | assumption | exact fc_ref (by first | assumption | rfl) (by first | assumption | rfl) (by first | assumption | rfl) | rfl) (by first | assumption | exact fc_ref (by first | assumption | rfl) (by first | assumption | rfl) (by first | assumption | rfl) | rfl) c_f153_a7_slot (by first | assumption | exact fc_ref (by first | assumption | rfl) (by first | assumption | rfl) (by first | assumption | rfl) | rfl) c_f168_a3_slot c_t186_0 c_t206_0 c_t226_0 (by first | assumption | exact fc_ref (by first | assumption | rfl) (by first | assumption | rfl) (by first | assumption | rfl) | rfl) (by first | assumption | exact fc_ref (by first | assumption | rfl) (by first | assumption | rfl) (by first | assumption | rfl) | rfl) O_a1 O_sa2 O_la2 O_a3 O_a5 O_a7 hr
  have K321 : ∀ (v321_18 : Value) (f139_a5_slot : Int32) (g153_sa2_2 : Value) (g153_sa2_3 : Value) (g153_la2_2 : Int64) (g153_la2_3 : Int64) (f153_a7_slot : Int32) (f168_a1_end : Int32) (f168_a1_size : Int32) (g168_sa2_1 : Value) (g168_la2_1 : Int64) (f168_a3_slot : Int32) (t186_0 : Int32) (t206_0 : Int32) (t226_0 : Int32) (v264_17 : Value) (hm321 : Heap), n0 ≤ hm321.size → Keep h0 hm321 [] → v321_18.isRef = true → f139_a5_slot = (-1 : Int32) ∨ f139_a5_slot = (0 : Int32) ∨ f139_a5_slot = (1 : Int32) → g153_sa2_2.isRef = true → g153_sa2_3.isRef = true → f153_a7_slot = (-1 : Int32) ∨ f153_a7_slot = (0 : Int32) ∨ f153_a7_slot = (1 : Int32) ∨ f153_a7_slot = (2 : Int32) → g168_sa2_1.isRef = true → f168_a3_slot = (-1 : Int32) ∨ f168_a3_slot = (0 : Int32) → t186_0 = (0 : Int32) ∨ t186_0 = (1 : Int32) → t206_0 = (0 : Int32) ∨ t206_0 = (1 : Int32) → t226_0 = (0 : Int32) ∨ t226_0 = (1 : Int32) → v264_17.isRef = true → Obj Z hm321 a1 "tallygate/RequestQueue" [("slots", "[Ltallygate/RequestQueue$Entry;", .ref sa2), ("least", "[J", .ref la2), ("end", "I", .int f168_a1_end), ("size", "I", .int f168_a1_size)] → ArR Z hm321 sa2 "tallygate/RequestQueue$Entry" (sl3 g168_sa2_1 g153_sa2_2 g153_sa2_3) → Ar Z hm321 la2 .long (tr3 g168_la2_1 g153_la2_2 g153_la2_3) → Obj Z hm321 a3 "tallygate/RequestQueue$Entry" [("slot", "I", .int f168_a3_slot), ("permits", "I", .int (perm x0))] → Obj Z hm321 a5 "tallygate/RequestQueue$Entry" [("slot", "I", .int f139_a5_slot), ("permits", "I", .int (perm x1))] → Obj Z hm321 a7 "tallygate/RequestQueue$Entry" [("slot", "I", .int f153_a7_slot), ("permits", "I", .int (perm x2))] → law x0 x1 x2 x3 x4 a3 a5 a7 = law_321 x0 x1 x2 x3 x4 a3 a5 a7 v321_18 f139_a5_slot g153_sa2_2 g153_sa2_3 g153_la2_2 g153_la2_3 f153_a7_slot f168_a1_end f168_a1_size g168_sa2_1 g168_la2_1 f168_a3_slot t186_0 t206_0 t226_0 v264_17 → Wp p l e room_1 s m #[.int x0, .int x1, .int x2, .int x3, .int x4] below meth c n0 room_1.cells room_1.slots (fun v h => v = some (.int 1)) hm321 6 58 (mkF m 321 #[.val (.int x0), .val (.int x1), .val (.int x2), .val (.int x3), .val (.int x4), .val (.int (perm x0)), .val (.int (perm x1)), .val (.int (perm x2)), .val (.int (x3 &&& (3 : Int32))), .val (.int (((x3.toUInt32 >>> ((2 : Int32) &&& 31).toUInt32).toInt32) &&& (15 : Int32))), .val (.ref a1), .val (.ref a3), .val (.ref a5), .val (.ref a7), .val (.int t186_0), .val (.int t206_0), .val (.int t226_0), .val (v264_17), .val (v321_18), .unset] []) := by
    intro v321_18 f139_a5_slot g153_sa2_2 g153_sa2_3 g153_la2_2 g153_la2_3 f153_a7_slot f168_a1_end f168_a1_size g168_sa2_1 g168_la2_1 f168_a3_slot t186_0 t206_0 t226_0 v264_17 hm321 hz hk u_v321_18 c_f139_a5_slot u_g153_sa2_2 u_g153_sa2_3 c_f153_a7_slot u_g168_sa2_1 c_f168_a3_slot c_t186_0 c_t206_0 c_t226_0 u_v264_17 O_a1 O_sa2 O_la2 O_a3 O_a5 O_a7 hr
    change _ = (if t186_0 = 0 then (if t206_0 = 0 then (if t226_0 = 0 then (law_341 x0 x1 x2 x3 x4 a3 a5 a7 (1 : Int32) f139_a5_slot g153_sa2_2 g153_sa2_3 g153_la2_2 g153_la2_3 f153_a7_slot f168_a1_end f168_a1_size g168_sa2_1 g168_la2_1 f168_a3_slot t186_0 t206_0 t226_0 v264_17 v321_18) else (law_340 x0 x1 x2 x3 x4 a3 a5 a7 f139_a5_slot g153_sa2_2 g153_sa2_3 g153_la2_2 g153_la2_3 f153_a7_slot f168_a1_end f168_a1_size g168_sa2_1 g168_la2_1 f168_a3_slot t186_0 t206_0 t226_0 v264_17 v321_18)) else (law_340 x0 x1 x2 x3 x4 a3 a5 a7 f139_a5_slot g153_sa2_2 g153_sa2_3 g153_la2_2 g153_la2_3 f153_a7_slot f168_a1_end f168_a1_size g168_sa2_1 g168_la2_1 f168_a3_slot t186_0 t206_0 t226_0 v264_17 v321_18)) else (law_340 x0 x1 x2 x3 x4 a3 a5 a7 f139_a5_slot g153_sa2_2 g153_sa2_3 g153_la2_2 g153_la2_3 f153_a7_slot f168_a1_end f168_a1_size g168_sa2_1 g168_la2_1 f168_a3_slot t186_0 t206_0 t226_0 v264_17 v321_18)) at hr
    refine w_iload (pc' := 323) C at_321 rfl rfl ?_
    refine w_if_ne (pcT := 340) (pcF := 326) C at_323 (by decide) (by decide) rfl (fun q323 => ?_) (fun q323 => ?_)
    · have hr := hr.trans (if_neg q323)
      exact K340 f139_a5_slot g153_sa2_2 g153_sa2_3 g153_la2_2 g153_la2_3 f153_a7_slot f168_a1_end f168_a1_size g168_sa2_1 g168_la2_1 f168_a3_slot t186_0 t206_0 t226_0 v264_17 v321_18 hm321 hz hk c_f139_a5_slot (by first | assumption | exact fc_ref (by first | assumption | rfl) (by first | assumption | rfl) (by first | assumption | rfl) | rfl) (by first | assumption | exact fc_ref (by first | assumption | rfl) (by first | assumption | rfl) (by first | assumption | rfl) | rfl) c_f153_a7_slot (by first | assumption | exact fc_ref (by first | assumption | rfl) (by first | assumption | rfl) (by first | assumption | rfl) | rfl) c_f168_a3_slot c_t186_0 c_t206_0 c_t226_0 (by first | assumption | exact fc_ref (by first | assumption | rfl) (by first | assumption | rfl) (by first | assumption | rfl) | rfl) (by first | assumption | exact fc_ref (by first | assumption | rfl) (by first | assumption | rfl) (by first | assumption | rfl) | rfl) O_a1 O_sa2 O_la2 O_a3 O_a5 O_a7 hr
    · have hr := hr.trans (if_pos q323)
      refine w_iload (pc' := 328) C at_326 rfl rfl ?_
      refine w_if_ne (pcT := 340) (pcF := 331) C at_328 (by decide) (by decide) rfl (fun q328 => ?_) (fun q328 => ?_)
      · have hr := hr.trans (if_neg q328)
        exact K340 f139_a5_slot g153_sa2_2 g153_sa2_3 g153_la2_2 g153_la2_3 f153_a7_slot f168_a1_end f168_a1_size g168_sa2_1 g168_la2_1 f168_a3_slot t186_0 t206_0 t226_0 v264_17 v321_18 hm321 hz hk c_f139_a5_slot (by first | assumption | exact fc_ref (by first | assumption | rfl) (by first | assumption | rfl) (by first | assumption | rfl) | rfl) (by first | assumption | exact fc_ref (by first | assumption | rfl) (by first | assumption | rfl) (by first | assumption | rfl) | rfl) c_f153_a7_slot (by first | assumption | exact fc_ref (by first | assumption | rfl) (by first | assumption | rfl) (by first | assumption | rfl) | rfl) c_f168_a3_slot c_t186_0 c_t206_0 c_t226_0 (by first | assumption | exact fc_ref (by first | assumption | rfl) (by first | assumption | rfl) (by first | assumption | rfl) | rfl) (by first | assumption | exact fc_ref (by first | assumption | rfl) (by first | assumption | rfl) (by first | assumption | rfl) | rfl) O_a1 O_sa2 O_la2 O_a3 O_a5 O_a7 hr
      · have hr := hr.trans (if_pos q328)
        refine w_iload (pc' := 333) C at_331 rfl rfl ?_
        refine w_if_ne (pcT := 340) (pcF := 336) C at_333 (by decide) (by decide) rfl (fun q333 => ?_) (fun q333 => ?_)
        · have hr := hr.trans (if_neg q333)
          exact K340 f139_a5_slot g153_sa2_2 g153_sa2_3 g153_la2_2 g153_la2_3 f153_a7_slot f168_a1_end f168_a1_size g168_sa2_1 g168_la2_1 f168_a3_slot t186_0 t206_0 t226_0 v264_17 v321_18 hm321 hz hk c_f139_a5_slot (by first | assumption | exact fc_ref (by first | assumption | rfl) (by first | assumption | rfl) (by first | assumption | rfl) | rfl) (by first | assumption | exact fc_ref (by first | assumption | rfl) (by first | assumption | rfl) (by first | assumption | rfl) | rfl) c_f153_a7_slot (by first | assumption | exact fc_ref (by first | assumption | rfl) (by first | assumption | rfl) (by first | assumption | rfl) | rfl) c_f168_a3_slot c_t186_0 c_t206_0 c_t226_0 (by first | assumption | exact fc_ref (by first | assumption | rfl) (by first | assumption | rfl) (by first | assumption | rfl) | rfl) (by first | assumption | exact fc_ref (by first | assumption | rfl) (by first | assumption | rfl) (by first | assumption | rfl) | rfl) O_a1 O_sa2 O_la2 O_a3 O_a5 O_a7 hr
        · have hr := hr.trans (if_pos q333)
          refine w_iconst (pc' := 337) (x := (1 : Int32)) C at_336 rfl rfl ?_
          refine w_goto (pc' := 341) C at_337 (by decide) (by decide) ?_
          exact K341 (1 : Int32) f139_a5_slot g153_sa2_2 g153_sa2_3 g153_la2_2 g153_la2_3 f153_a7_slot f168_a1_end f168_a1_size g168_sa2_1 g168_la2_1 f168_a3_slot t186_0 t206_0 t226_0 v264_17 v321_18 hm321 hz hk (Or.inr rfl) c_f139_a5_slot (by first | assumption | exact fc_ref (by first | assumption | rfl) (by first | assumption | rfl) (by first | assumption | rfl) | rfl) (by first | assumption | exact fc_ref (by first | assumption | rfl) (by first | assumption | rfl) (by first | assumption | rfl) | rfl) c_f153_a7_slot (by first | assumption | exact fc_ref (by first | assumption | rfl) (by first | assumption | rfl) (by first | assumption | rfl) | rfl) c_f168_a3_slot c_t186_0 c_t206_0 c_t226_0 (by first | assumption | exact fc_ref (by first | assumption | rfl) (by first | assumption | rfl) (by first | assumption | rfl) | rfl) (by first | assumption | exact fc_ref (by first | assumption | rfl) (by first | assumption | rfl) (by first | assumption | rfl) | rfl) O_a1 O_sa2 O_la2 O_a3 O_a5 O_a7 hr
  have K305 : ∀ (f139_a5_slot : Int32) (g153_sa2_2 : Value) (g153_sa2_3 : Value) (g153_la2_2 : Int64) (g153_la2_3 : Int64) (f153_a7_slot : Int32) (f168_a1_end : Int32) (f168_a1_size : Int32) (g168_sa2_1 : Value) (g168_la2_1 : Int64) (f168_a3_slot : Int32) (t186_0 : Int32) (t206_0 : Int32) (t226_0 : Int32) (v264_17 : Value) (hm305 : Heap), n0 ≤ hm305.size → Keep h0 hm305 [] → f139_a5_slot = (-1 : Int32) ∨ f139_a5_slot = (0 : Int32) ∨ f139_a5_slot = (1 : Int32) → g153_sa2_2.isRef = true → g153_sa2_3.isRef = true → f153_a7_slot = (-1 : Int32) ∨ f153_a7_slot = (0 : Int32) ∨ f153_a7_slot = (1 : Int32) ∨ f153_a7_slot = (2 : Int32) → g168_sa2_1.isRef = true → f168_a3_slot = (-1 : Int32) ∨ f168_a3_slot = (0 : Int32) → t186_0 = (0 : Int32) ∨ t186_0 = (1 : Int32) → t206_0 = (0 : Int32) ∨ t206_0 = (1 : Int32) → t226_0 = (0 : Int32) ∨ t226_0 = (1 : Int32) → v264_17.isRef = true → Obj Z hm305 a1 "tallygate/RequestQueue" [("slots", "[Ltallygate/RequestQueue$Entry;", .ref sa2), ("least", "[J", .ref la2), ("end", "I", .int f168_a1_end), ("size", "I", .int f168_a1_size)] → ArR Z hm305 sa2 "tallygate/RequestQueue$Entry" (sl3 g168_sa2_1 g153_sa2_2 g153_sa2_3) → Ar Z hm305 la2 .long (tr3 g168_la2_1 g153_la2_2 g153_la2_3) → Obj Z hm305 a3 "tallygate/RequestQueue$Entry" [("slot", "I", .int f168_a3_slot), ("permits", "I", .int (perm x0))] → Obj Z hm305 a5 "tallygate/RequestQueue$Entry" [("slot", "I", .int f139_a5_slot), ("permits", "I", .int (perm x1))] → Obj Z hm305 a7 "tallygate/RequestQueue$Entry" [("slot", "I", .int f153_a7_slot), ("permits", "I", .int (perm x2))] → law x0 x1 x2 x3 x4 a3 a5 a7 = law_305 x0 x1 x2 x3 x4 a3 a5 a7 f139_a5_slot g153_sa2_2 g153_sa2_3 g153_la2_2 g153_la2_3 f153_a7_slot f168_a1_end f168_a1_size g168_sa2_1 g168_la2_1 f168_a3_slot t186_0 t206_0 t226_0 v264_17 → Wp p l e room_1 s m #[.int x0, .int x1, .int x2, .int x3, .int x4] below meth c n0 room_1.cells room_1.slots (fun v h => v = some (.int 1)) hm305 6 58 (mkF m 305 #[.val (.int x0), .val (.int x1), .val (.int x2), .val (.int x3), .val (.int x4), .val (.int (perm x0)), .val (.int (perm x1)), .val (.int (perm x2)), .val (.int (x3 &&& (3 : Int32))), .val (.int (((x3.toUInt32 >>> ((2 : Int32) &&& 31).toUInt32).toInt32) &&& (15 : Int32))), .val (.ref a1), .val (.ref a3), .val (.ref a5), .val (.ref a7), .val (.int t186_0), .val (.int t206_0), .val (.int t226_0), .val (v264_17), .val .null, .unset] []) := by
    intro f139_a5_slot g153_sa2_2 g153_sa2_3 g153_la2_2 g153_la2_3 f153_a7_slot f168_a1_end f168_a1_size g168_sa2_1 g168_la2_1 f168_a3_slot t186_0 t206_0 t226_0 v264_17 hm305 hz hk c_f139_a5_slot u_g153_sa2_2 u_g153_sa2_3 c_f153_a7_slot u_g168_sa2_1 c_f168_a3_slot c_t186_0 c_t206_0 c_t226_0 u_v264_17 O_a1 O_sa2 O_la2 O_a3 O_a5 O_a7 hr
    change _ = (if t226_0 = 0 then (law_321 x0 x1 x2 x3 x4 a3 a5 a7 (.null : Value) f139_a5_slot g153_sa2_2 g153_sa2_3 g153_la2_2 g153_la2_3 f153_a7_slot f168_a1_end f168_a1_size g168_sa2_1 g168_la2_1 f168_a3_slot t186_0 t206_0 t226_0 v264_17) else (if x4 < (perm x2) then (law_321 x0 x1 x2 x3 x4 a3 a5 a7 (.null : Value) f139_a5_slot g153_sa2_2 g153_sa2_3 g153_la2_2 g153_la2_3 f153_a7_slot f168_a1_end f168_a1_size g168_sa2_1 g168_la2_1 f168_a3_slot t186_0 t206_0 t226_0 v264_17) else (law_321 x0 x1 x2 x3 x4 a3 a5 a7 (.ref a7 : Value) f139_a5_slot g153_sa2_2 g153_sa2_3 g153_la2_2 g153_la2_3 f153_a7_slot f168_a1_end f168_a1_size g168_sa2_1 g168_la2_1 f168_a3_slot t186_0 t206_0 t226_0 v264_17))) at hr
    refine w_iload (pc' := 307) C at_305 rfl rfl ?_
    refine w_if_eq (pcT := 321) (pcF := 310) C at_307 (by decide) (by decide) rfl (fun q307 => ?_) (fun q307 => ?_)
    · have hr := hr.trans (if_pos q307)
      exact K321 (.null : Value) f139_a5_slot g153_sa2_2 g153_sa2_3 g153_la2_2 g153_la2_3 f153_a7_slot f168_a1_end f168_a1_size g168_sa2_1 g168_la2_1 f168_a3_slot t186_0 t206_0 t226_0 v264_17 hm305 hz hk rfl c_f139_a5_slot (by first | assumption | exact fc_ref (by first | assumption | rfl) (by first | assumption | rfl) (by first | assumption | rfl) | rfl) (by first | assumption | exact fc_ref (by first | assumption | rfl) (by first | assumption | rfl) (by first | assumption | rfl) | rfl) c_f153_a7_slot (by first | assumption | exact fc_ref (by first | assumption | rfl) (by first | assumption | rfl) (by first | assumption | rfl) | rfl) c_f168_a3_slot c_t186_0 c_t206_0 c_t226_0 (by first | assumption | exact fc_ref (by first | assumption | rfl) (by first | assumption | rfl) (by first | assumption | rfl) | rfl) O_a1 O_sa2 O_la2 O_a3 O_a5 O_a7 hr
    · have hr := hr.trans (if_neg q307)
      refine w_iload (pc' := 312) C at_310 rfl rfl ?_
      refine w_iload (pc' := 314) C at_312 rfl rfl ?_
      refine w_icmp_gt (pcT := 321) (pcF := 317) C at_314 (by decide) (by decide) rfl (fun q314 => ?_) (fun q314 => ?_)
      · have hr := hr.trans (if_pos q314)
        exact K321 (.null : Value) f139_a5_slot g153_sa2_2 g153_sa2_3 g153_la2_2 g153_la2_3 f153_a7_slot f168_a1_end f168_a1_size g168_sa2_1 g168_la2_1 f168_a3_slot t186_0 t206_0 t226_0 v264_17 hm305 hz hk rfl c_f139_a5_slot (by first | assumption | exact fc_ref (by first | assumption | rfl) (by first | assumption | rfl) (by first | assumption | rfl) | rfl) (by first | assumption | exact fc_ref (by first | assumption | rfl) (by first | assumption | rfl) (by first | assumption | rfl) | rfl) c_f153_a7_slot (by first | assumption | exact fc_ref (by first | assumption | rfl) (by first | assumption | rfl) (by first | assumption | rfl) | rfl) c_f168_a3_slot c_t186_0 c_t206_0 c_t226_0 (by first | assumption | exact fc_ref (by first | assumption | rfl) (by first | assumption | rfl) (by first | assumption | rfl) | rfl) O_a1 O_sa2 O_la2 O_a3 O_a5 O_a7 hr
      · have hr := hr.trans (if_neg q314)
        refine w_aload (pc' := 319) C at_317 rfl rfl rfl ?_
        refine w_astore (pc' := 321) (Ls' := #[.val (.int x0), .val (.int x1), .val (.int x2), .val (.int x3), .val (.int x4), .val (.int (perm x0)), .val (.int (perm x1)), .val (.int (perm x2)), .val (.int (x3 &&& (3 : Int32))), .val (.int (((x3.toUInt32 >>> ((2 : Int32) &&& 31).toUInt32).toInt32) &&& (15 : Int32))), .val (.ref a1), .val (.ref a3), .val (.ref a5), .val (.ref a7), .val (.int t186_0), .val (.int t206_0), .val (.int t226_0), .val (v264_17), .val (.ref a7), .unset]) C at_319 rfl rfl rfl ?_
        exact K321 (.ref a7 : Value) f139_a5_slot g153_sa2_2 g153_sa2_3 g153_la2_2 g153_la2_3 f153_a7_slot f168_a1_end f168_a1_size g168_sa2_1 g168_la2_1 f168_a3_slot t186_0 t206_0 t226_0 v264_17 hm305 hz hk rfl c_f139_a5_slot (by first | assumption | exact fc_ref (by first | assumption | rfl) (by first | assumption | rfl) (by first | assumption | rfl) | rfl) (by first | assumption | exact fc_ref (by first | assumption | rfl) (by first | assumption | rfl) (by first | assumption | rfl) | rfl) c_f153_a7_slot (by first | assumption | exact fc_ref (by first | assumption | rfl) (by first | assumption | rfl) (by first | assumption | rfl) | rfl) c_f168_a3_slot c_t186_0 c_t206_0 c_t226_0 (by first | assumption | exact fc_ref (by first | assumption | rfl) (by first | assumption | rfl) (by first | assumption | rfl) | rfl) O_a1 O_sa2 O_la2 O_a3 O_a5 O_a7 hr
  have K286 : ∀ (f139_a5_slot : Int32) (g153_sa2_2 : Value) (g153_sa2_3 : Value) (g153_la2_2 : Int64) (g153_la2_3 : Int64) (f153_a7_slot : Int32) (f168_a1_end : Int32) (f168_a1_size : Int32) (g168_sa2_1 : Value) (g168_la2_1 : Int64) (f168_a3_slot : Int32) (t186_0 : Int32) (t206_0 : Int32) (t226_0 : Int32) (v264_17 : Value) (hm286 : Heap), n0 ≤ hm286.size → Keep h0 hm286 [] → f139_a5_slot = (-1 : Int32) ∨ f139_a5_slot = (0 : Int32) ∨ f139_a5_slot = (1 : Int32) → g153_sa2_2.isRef = true → g153_sa2_3.isRef = true → f153_a7_slot = (-1 : Int32) ∨ f153_a7_slot = (0 : Int32) ∨ f153_a7_slot = (1 : Int32) ∨ f153_a7_slot = (2 : Int32) → g168_sa2_1.isRef = true → f168_a3_slot = (-1 : Int32) ∨ f168_a3_slot = (0 : Int32) → t186_0 = (0 : Int32) ∨ t186_0 = (1 : Int32) → t206_0 = (0 : Int32) ∨ t206_0 = (1 : Int32) → t226_0 = (0 : Int32) ∨ t226_0 = (1 : Int32) → v264_17.isRef = true → Obj Z hm286 a1 "tallygate/RequestQueue" [("slots", "[Ltallygate/RequestQueue$Entry;", .ref sa2), ("least", "[J", .ref la2), ("end", "I", .int f168_a1_end), ("size", "I", .int f168_a1_size)] → ArR Z hm286 sa2 "tallygate/RequestQueue$Entry" (sl3 g168_sa2_1 g153_sa2_2 g153_sa2_3) → Ar Z hm286 la2 .long (tr3 g168_la2_1 g153_la2_2 g153_la2_3) → Obj Z hm286 a3 "tallygate/RequestQueue$Entry" [("slot", "I", .int f168_a3_slot), ("permits", "I", .int (perm x0))] → Obj Z hm286 a5 "tallygate/RequestQueue$Entry" [("slot", "I", .int f139_a5_slot), ("permits", "I", .int (perm x1))] → Obj Z hm286 a7 "tallygate/RequestQueue$Entry" [("slot", "I", .int f153_a7_slot), ("permits", "I", .int (perm x2))] → law x0 x1 x2 x3 x4 a3 a5 a7 = law_286 x0 x1 x2 x3 x4 a3 a5 a7 f139_a5_slot g153_sa2_2 g153_sa2_3 g153_la2_2 g153_la2_3 f153_a7_slot f168_a1_end f168_a1_size g168_sa2_1 g168_la2_1 f168_a3_slot t186_0 t206_0 t226_0 v264_17 → Wp p l e room_1 s m #[.int x0, .int x1, .int x2, .int x3, .int x4] below meth c n0 room_1.cells room_1.slots (fun v h => v = some (.int 1)) hm286 6 58 (mkF m 286 #[.val (.int x0), .val (.int x1), .val (.int x2), .val (.int x3), .val (.int x4), .val (.int (perm x0)), .val (.int (perm x1)), .val (.int (perm x2)), .val (.int (x3 &&& (3 : Int32))), .val (.int (((x3.toUInt32 >>> ((2 : Int32) &&& 31).toUInt32).toInt32) &&& (15 : Int32))), .val (.ref a1), .val (.ref a3), .val (.ref a5), .val (.ref a7), .val (.int t186_0), .val (.int t206_0), .val (.int t226_0), .val (v264_17), .val .null, .unset] []) := by
    intro f139_a5_slot g153_sa2_2 g153_sa2_3 g153_la2_2 g153_la2_3 f153_a7_slot f168_a1_end f168_a1_size g168_sa2_1 g168_la2_1 f168_a3_slot t186_0 t206_0 t226_0 v264_17 hm286 hz hk c_f139_a5_slot u_g153_sa2_2 u_g153_sa2_3 c_f153_a7_slot u_g168_sa2_1 c_f168_a3_slot c_t186_0 c_t206_0 c_t226_0 u_v264_17 O_a1 O_sa2 O_la2 O_a3 O_a5 O_a7 hr
    change _ = (if t206_0 = 0 then (law_305 x0 x1 x2 x3 x4 a3 a5 a7 f139_a5_slot g153_sa2_2 g153_sa2_3 g153_la2_2 g153_la2_3 f153_a7_slot f168_a1_end f168_a1_size g168_sa2_1 g168_la2_1 f168_a3_slot t186_0 t206_0 t226_0 v264_17) else (if x4 < (perm x1) then (law_305 x0 x1 x2 x3 x4 a3 a5 a7 f139_a5_slot g153_sa2_2 g153_sa2_3 g153_la2_2 g153_la2_3 f153_a7_slot f168_a1_end f168_a1_size g168_sa2_1 g168_la2_1 f168_a3_slot t186_0 t206_0 t226_0 v264_17) else (law_321 x0 x1 x2 x3 x4 a3 a5 a7 (.ref a5 : Value) f139_a5_slot g153_sa2_2 g153_sa2_3 g153_la2_2 g153_la2_3 f153_a7_slot f168_a1_end f168_a1_size g168_sa2_1 g168_la2_1 f168_a3_slot t186_0 t206_0 t226_0 v264_17))) at hr
    refine w_iload (pc' := 288) C at_286 rfl rfl ?_
    refine w_if_eq (pcT := 305) (pcF := 291) C at_288 (by decide) (by decide) rfl (fun q288 => ?_) (fun q288 => ?_)
    · have hr := hr.trans (if_pos q288)
      exact K305 f139_a5_slot g153_sa2_2 g153_sa2_3 g153_la2_2 g153_la2_3 f153_a7_slot f168_a1_end f168_a1_size g168_sa2_1 g168_la2_1 f168_a3_slot t186_0 t206_0 t226_0 v264_17 hm286 hz hk c_f139_a5_slot (by first | assumption | exact fc_ref (by first | assumption | rfl) (by first | assumption | rfl) (by first | assumption | rfl) | rfl) (by first | assumption | exact fc_ref (by first | assumption | rfl) (by first | assumption | rfl) (by first | assumption | rfl) | rfl) c_f153_a7_slot (by first | assumption | exact fc_ref (by first | assumption | rfl) (by first | assumption | rfl) (by first | assumption | rfl) | rfl) c_f168_a3_slot c_t186_0 c_t206_0 c_t226_0 (by first | assumption | exact fc_ref (by first | assumption | rfl) (by first | assumption | rfl) (by first | assumption | rfl) | rfl) O_a1 O_sa2 O_la2 O_a3 O_a5 O_a7 hr
    · have hr := hr.trans (if_neg q288)
      refine w_iload (pc' := 293) C at_291 rfl rfl ?_
      refine w_iload (pc' := 295) C at_293 rfl rfl ?_
      refine w_icmp_gt (pcT := 305) (pcF := 298) C at_295 (by decide) (by decide) rfl (fun q295 => ?_) (fun q295 => ?_)
      · have hr := hr.trans (if_pos q295)
        exact K305 f139_a5_slot g153_sa2_2 g153_sa2_3 g153_la2_2 g153_la2_3 f153_a7_slot f168_a1_end f168_a1_size g168_sa2_1 g168_la2_1 f168_a3_slot t186_0 t206_0 t226_0 v264_17 hm286 hz hk c_f139_a5_slot (by first | assumption | exact fc_ref (by first | assumption | rfl) (by first | assumption | rfl) (by first | assumption | rfl) | rfl) (by first | assumption | exact fc_ref (by first | assumption | rfl) (by first | assumption | rfl) (by first | assumption | rfl) | rfl) c_f153_a7_slot (by first | assumption | exact fc_ref (by first | assumption | rfl) (by first | assumption | rfl) (by first | assumption | rfl) | rfl) c_f168_a3_slot c_t186_0 c_t206_0 c_t226_0 (by first | assumption | exact fc_ref (by first | assumption | rfl) (by first | assumption | rfl) (by first | assumption | rfl) | rfl) O_a1 O_sa2 O_la2 O_a3 O_a5 O_a7 hr
      · have hr := hr.trans (if_neg q295)
        refine w_aload (pc' := 300) C at_298 rfl rfl rfl ?_
        refine w_astore (pc' := 302) (Ls' := #[.val (.int x0), .val (.int x1), .val (.int x2), .val (.int x3), .val (.int x4), .val (.int (perm x0)), .val (.int (perm x1)), .val (.int (perm x2)), .val (.int (x3 &&& (3 : Int32))), .val (.int (((x3.toUInt32 >>> ((2 : Int32) &&& 31).toUInt32).toInt32) &&& (15 : Int32))), .val (.ref a1), .val (.ref a3), .val (.ref a5), .val (.ref a7), .val (.int t186_0), .val (.int t206_0), .val (.int t226_0), .val (v264_17), .val (.ref a5), .unset]) C at_300 rfl rfl rfl ?_
        refine w_goto (pc' := 321) C at_302 (by decide) (by decide) ?_
        exact K321 (.ref a5 : Value) f139_a5_slot g153_sa2_2 g153_sa2_3 g153_la2_2 g153_la2_3 f153_a7_slot f168_a1_end f168_a1_size g168_sa2_1 g168_la2_1 f168_a3_slot t186_0 t206_0 t226_0 v264_17 hm286 hz hk rfl c_f139_a5_slot (by first | assumption | exact fc_ref (by first | assumption | rfl) (by first | assumption | rfl) (by first | assumption | rfl) | rfl) (by first | assumption | exact fc_ref (by first | assumption | rfl) (by first | assumption | rfl) (by first | assumption | rfl) | rfl) c_f153_a7_slot (by first | assumption | exact fc_ref (by first | assumption | rfl) (by first | assumption | rfl) (by first | assumption | rfl) | rfl) c_f168_a3_slot c_t186_0 c_t206_0 c_t226_0 (by first | assumption | exact fc_ref (by first | assumption | rfl) (by first | assumption | rfl) (by first | assumption | rfl) | rfl) O_a1 O_sa2 O_la2 O_a3 O_a5 O_a7 hr
  have K264 : ∀ (v264_17 : Value) (f139_a5_slot : Int32) (g153_sa2_2 : Value) (g153_sa2_3 : Value) (g153_la2_2 : Int64) (g153_la2_3 : Int64) (f153_a7_slot : Int32) (f168_a1_end : Int32) (f168_a1_size : Int32) (g168_sa2_1 : Value) (g168_la2_1 : Int64) (f168_a3_slot : Int32) (t186_0 : Int32) (t206_0 : Int32) (t226_0 : Int32) (hm264 : Heap), n0 ≤ hm264.size → Keep h0 hm264 [] → v264_17.isRef = true → f139_a5_slot = (-1 : Int32) ∨ f139_a5_slot = (0 : Int32) ∨ f139_a5_slot = (1 : Int32) → g153_sa2_2.isRef = true → g153_sa2_3.isRef = true → f153_a7_slot = (-1 : Int32) ∨ f153_a7_slot = (0 : Int32) ∨ f153_a7_slot = (1 : Int32) ∨ f153_a7_slot = (2 : Int32) → g168_sa2_1.isRef = true → f168_a3_slot = (-1 : Int32) ∨ f168_a3_slot = (0 : Int32) → t186_0 = (0 : Int32) ∨ t186_0 = (1 : Int32) → t206_0 = (0 : Int32) ∨ t206_0 = (1 : Int32) → t226_0 = (0 : Int32) ∨ t226_0 = (1 : Int32) → Obj Z hm264 a1 "tallygate/RequestQueue" [("slots", "[Ltallygate/RequestQueue$Entry;", .ref sa2), ("least", "[J", .ref la2), ("end", "I", .int f168_a1_end), ("size", "I", .int f168_a1_size)] → ArR Z hm264 sa2 "tallygate/RequestQueue$Entry" (sl3 g168_sa2_1 g153_sa2_2 g153_sa2_3) → Ar Z hm264 la2 .long (tr3 g168_la2_1 g153_la2_2 g153_la2_3) → Obj Z hm264 a3 "tallygate/RequestQueue$Entry" [("slot", "I", .int f168_a3_slot), ("permits", "I", .int (perm x0))] → Obj Z hm264 a5 "tallygate/RequestQueue$Entry" [("slot", "I", .int f139_a5_slot), ("permits", "I", .int (perm x1))] → Obj Z hm264 a7 "tallygate/RequestQueue$Entry" [("slot", "I", .int f153_a7_slot), ("permits", "I", .int (perm x2))] → law x0 x1 x2 x3 x4 a3 a5 a7 = law_264 x0 x1 x2 x3 x4 a3 a5 a7 v264_17 f139_a5_slot g153_sa2_2 g153_sa2_3 g153_la2_2 g153_la2_3 f153_a7_slot f168_a1_end f168_a1_size g168_sa2_1 g168_la2_1 f168_a3_slot t186_0 t206_0 t226_0 → Wp p l e room_1 s m #[.int x0, .int x1, .int x2, .int x3, .int x4] below meth c n0 room_1.cells room_1.slots (fun v h => v = some (.int 1)) hm264 6 58 (mkF m 264 #[.val (.int x0), .val (.int x1), .val (.int x2), .val (.int x3), .val (.int x4), .val (.int (perm x0)), .val (.int (perm x1)), .val (.int (perm x2)), .val (.int (x3 &&& (3 : Int32))), .val (.int (((x3.toUInt32 >>> ((2 : Int32) &&& 31).toUInt32).toInt32) &&& (15 : Int32))), .val (.ref a1), .val (.ref a3), .val (.ref a5), .val (.ref a7), .val (.int t186_0), .val (.int t206_0), .val (.int t226_0), .val (v264_17), .unset, .unset] []) := by
    intro v264_17 f139_a5_slot g153_sa2_2 g153_sa2_3 g153_la2_2 g153_la2_3 f153_a7_slot f168_a1_end f168_a1_size g168_sa2_1 g168_la2_1 f168_a3_slot t186_0 t206_0 t226_0 hm264 hz hk u_v264_17 c_f139_a5_slot u_g153_sa2_2 u_g153_sa2_3 c_f153_a7_slot u_g168_sa2_1 c_f168_a3_slot c_t186_0 c_t206_0 c_t226_0 O_a1 O_sa2 O_la2 O_a3 O_a5 O_a7 hr
    change _ = (if t186_0 = 0 then (law_286 x0 x1 x2 x3 x4 a3 a5 a7 f139_a5_slot g153_sa2_2 g153_sa2_3 g153_la2_2 g153_la2_3 f153_a7_slot f168_a1_end f168_a1_size g168_sa2_1 g168_la2_1 f168_a3_slot t186_0 t206_0 t226_0 v264_17) else (if x4 < (perm x0) then (law_286 x0 x1 x2 x3 x4 a3 a5 a7 f139_a5_slot g153_sa2_2 g153_sa2_3 g153_la2_2 g153_la2_3 f153_a7_slot f168_a1_end f168_a1_size g168_sa2_1 g168_la2_1 f168_a3_slot t186_0 t206_0 t226_0 v264_17) else (law_321 x0 x1 x2 x3 x4 a3 a5 a7 (.ref a3 : Value) f139_a5_slot g153_sa2_2 g153_sa2_3 g153_la2_2 g153_la2_3 f153_a7_slot f168_a1_end f168_a1_size g168_sa2_1 g168_la2_1 f168_a3_slot t186_0 t206_0 t226_0 v264_17))) at hr
    refine w_aconstNull (pc' := 265) C at_264 rfl ?_
    refine w_astore (pc' := 267) (Ls' := #[.val (.int x0), .val (.int x1), .val (.int x2), .val (.int x3), .val (.int x4), .val (.int (perm x0)), .val (.int (perm x1)), .val (.int (perm x2)), .val (.int (x3 &&& (3 : Int32))), .val (.int (((x3.toUInt32 >>> ((2 : Int32) &&& 31).toUInt32).toInt32) &&& (15 : Int32))), .val (.ref a1), .val (.ref a3), .val (.ref a5), .val (.ref a7), .val (.int t186_0), .val (.int t206_0), .val (.int t226_0), .val (v264_17), .val .null, .unset]) C at_265 rfl rfl rfl ?_
    refine w_iload (pc' := 269) C at_267 rfl rfl ?_
    refine w_if_eq (pcT := 286) (pcF := 272) C at_269 (by decide) (by decide) rfl (fun q269 => ?_) (fun q269 => ?_)
    · have hr := hr.trans (if_pos q269)
      exact K286 f139_a5_slot g153_sa2_2 g153_sa2_3 g153_la2_2 g153_la2_3 f153_a7_slot f168_a1_end f168_a1_size g168_sa2_1 g168_la2_1 f168_a3_slot t186_0 t206_0 t226_0 v264_17 hm264 hz hk c_f139_a5_slot (by first | assumption | exact fc_ref (by first | assumption | rfl) (by first | assumption | rfl) (by first | assumption | rfl) | rfl) (by first | assumption | exact fc_ref (by first | assumption | rfl) (by first | assumption | rfl) (by first | assumption | rfl) | rfl) c_f153_a7_slot (by first | assumption | exact fc_ref (by first | assumption | rfl) (by first | assumption | rfl) (by first | assumption | rfl) | rfl) c_f168_a3_slot c_t186_0 c_t206_0 c_t226_0 (by first | assumption | exact fc_ref (by first | assumption | rfl) (by first | assumption | rfl) (by first | assumption | rfl) | rfl) O_a1 O_sa2 O_la2 O_a3 O_a5 O_a7 hr
    · have hr := hr.trans (if_neg q269)
      refine w_iload (pc' := 274) C at_272 rfl rfl ?_
      refine w_iload (pc' := 276) C at_274 rfl rfl ?_
      refine w_icmp_gt (pcT := 286) (pcF := 279) C at_276 (by decide) (by decide) rfl (fun q276 => ?_) (fun q276 => ?_)
      · have hr := hr.trans (if_pos q276)
        exact K286 f139_a5_slot g153_sa2_2 g153_sa2_3 g153_la2_2 g153_la2_3 f153_a7_slot f168_a1_end f168_a1_size g168_sa2_1 g168_la2_1 f168_a3_slot t186_0 t206_0 t226_0 v264_17 hm264 hz hk c_f139_a5_slot (by first | assumption | exact fc_ref (by first | assumption | rfl) (by first | assumption | rfl) (by first | assumption | rfl) | rfl) (by first | assumption | exact fc_ref (by first | assumption | rfl) (by first | assumption | rfl) (by first | assumption | rfl) | rfl) c_f153_a7_slot (by first | assumption | exact fc_ref (by first | assumption | rfl) (by first | assumption | rfl) (by first | assumption | rfl) | rfl) c_f168_a3_slot c_t186_0 c_t206_0 c_t226_0 (by first | assumption | exact fc_ref (by first | assumption | rfl) (by first | assumption | rfl) (by first | assumption | rfl) | rfl) O_a1 O_sa2 O_la2 O_a3 O_a5 O_a7 hr
      · have hr := hr.trans (if_neg q276)
        refine w_aload (pc' := 281) C at_279 rfl rfl rfl ?_
        refine w_astore (pc' := 283) (Ls' := #[.val (.int x0), .val (.int x1), .val (.int x2), .val (.int x3), .val (.int x4), .val (.int (perm x0)), .val (.int (perm x1)), .val (.int (perm x2)), .val (.int (x3 &&& (3 : Int32))), .val (.int (((x3.toUInt32 >>> ((2 : Int32) &&& 31).toUInt32).toInt32) &&& (15 : Int32))), .val (.ref a1), .val (.ref a3), .val (.ref a5), .val (.ref a7), .val (.int t186_0), .val (.int t206_0), .val (.int t226_0), .val (v264_17), .val (.ref a3), .unset]) C at_281 rfl rfl rfl ?_
        refine w_goto (pc' := 321) C at_283 (by decide) (by decide) ?_
        exact K321 (.ref a3 : Value) f139_a5_slot g153_sa2_2 g153_sa2_3 g153_la2_2 g153_la2_3 f153_a7_slot f168_a1_end f168_a1_size g168_sa2_1 g168_la2_1 f168_a3_slot t186_0 t206_0 t226_0 v264_17 hm264 hz hk rfl c_f139_a5_slot (by first | assumption | exact fc_ref (by first | assumption | rfl) (by first | assumption | rfl) (by first | assumption | rfl) | rfl) (by first | assumption | exact fc_ref (by first | assumption | rfl) (by first | assumption | rfl) (by first | assumption | rfl) | rfl) c_f153_a7_slot (by first | assumption | exact fc_ref (by first | assumption | rfl) (by first | assumption | rfl) (by first | assumption | rfl) | rfl) c_f168_a3_slot c_t186_0 c_t206_0 c_t226_0 (by first | assumption | exact fc_ref (by first | assumption | rfl) (by first | assumption | rfl) (by first | assumption | rfl) | rfl) O_a1 O_sa2 O_la2 O_a3 O_a5 O_a7 hr
  have K226 : ∀ (t226_0 : Int32) (f139_a5_slot : Int32) (g153_sa2_2 : Value) (g153_sa2_3 : Value) (g153_la2_2 : Int64) (g153_la2_3 : Int64) (f153_a7_slot : Int32) (f168_a1_end : Int32) (f168_a1_size : Int32) (g168_sa2_1 : Value) (g168_la2_1 : Int64) (f168_a3_slot : Int32) (t186_0 : Int32) (t206_0 : Int32) (hm226 : Heap), n0 ≤ hm226.size → Keep h0 hm226 [] → t226_0 = (0 : Int32) ∨ t226_0 = (1 : Int32) → f139_a5_slot = (-1 : Int32) ∨ f139_a5_slot = (0 : Int32) ∨ f139_a5_slot = (1 : Int32) → g153_sa2_2.isRef = true → g153_sa2_3.isRef = true → f153_a7_slot = (-1 : Int32) ∨ f153_a7_slot = (0 : Int32) ∨ f153_a7_slot = (1 : Int32) ∨ f153_a7_slot = (2 : Int32) → g168_sa2_1.isRef = true → f168_a3_slot = (-1 : Int32) ∨ f168_a3_slot = (0 : Int32) → t186_0 = (0 : Int32) ∨ t186_0 = (1 : Int32) → t206_0 = (0 : Int32) ∨ t206_0 = (1 : Int32) → Obj Z hm226 a1 "tallygate/RequestQueue" [("slots", "[Ltallygate/RequestQueue$Entry;", .ref sa2), ("least", "[J", .ref la2), ("end", "I", .int f168_a1_end), ("size", "I", .int f168_a1_size)] → ArR Z hm226 sa2 "tallygate/RequestQueue$Entry" (sl3 g168_sa2_1 g153_sa2_2 g153_sa2_3) → Ar Z hm226 la2 .long (tr3 g168_la2_1 g153_la2_2 g153_la2_3) → Obj Z hm226 a3 "tallygate/RequestQueue$Entry" [("slot", "I", .int f168_a3_slot), ("permits", "I", .int (perm x0))] → Obj Z hm226 a5 "tallygate/RequestQueue$Entry" [("slot", "I", .int f139_a5_slot), ("permits", "I", .int (perm x1))] → Obj Z hm226 a7 "tallygate/RequestQueue$Entry" [("slot", "I", .int f153_a7_slot), ("permits", "I", .int (perm x2))] → law x0 x1 x2 x3 x4 a3 a5 a7 = law_226 x0 x1 x2 x3 x4 a3 a5 a7 t226_0 f139_a5_slot g153_sa2_2 g153_sa2_3 g153_la2_2 g153_la2_3 f153_a7_slot f168_a1_end f168_a1_size g168_sa2_1 g168_la2_1 f168_a3_slot t186_0 t206_0 → Wp p l e room_1 s m #[.int x0, .int x1, .int x2, .int x3, .int x4] below meth c n0 room_1.cells room_1.slots (fun v h => v = some (.int 1)) hm226 6 58 (mkF m 226 #[.val (.int x0), .val (.int x1), .val (.int x2), .val (.int x3), .val (.int x4), .val (.int (perm x0)), .val (.int (perm x1)), .val (.int (perm x2)), .val (.int (x3 &&& (3 : Int32))), .val (.int (((x3.toUInt32 >>> ((2 : Int32) &&& 31).toUInt32).toInt32) &&& (15 : Int32))), .val (.ref a1), .val (.ref a3), .val (.ref a5), .val (.ref a7), .val (.int t186_0), .val (.int t206_0), .unset, .unset, .unset, .unset] [.int t226_0]) := by
    intro t226_0 f139_a5_slot g153_sa2_2 g153_sa2_3 g153_la2_2 g153_la2_3 f153_a7_slot f168_a1_end f168_a1_size g168_sa2_1 g168_la2_1 f168_a3_slot t186_0 t206_0 hm226 hz hk c_t226_0 c_f139_a5_slot u_g153_sa2_2 u_g153_sa2_3 c_f153_a7_slot u_g168_sa2_1 c_f168_a3_slot c_t186_0 c_t206_0 O_a1 O_sa2 O_la2 O_a3 O_a5 O_a7 hr
    change _ = (if t186_0 = 0 then (if t206_0 = 0 then (if t226_0 = 0 then (law_264 x0 x1 x2 x3 x4 a3 a5 a7 (.null : Value) f139_a5_slot g153_sa2_2 g153_sa2_3 g153_la2_2 g153_la2_3 f153_a7_slot f168_a1_end f168_a1_size g168_sa2_1 g168_la2_1 f168_a3_slot t186_0 t206_0 t226_0) else (law_264 x0 x1 x2 x3 x4 a3 a5 a7 (.ref a7 : Value) f139_a5_slot g153_sa2_2 g153_sa2_3 g153_la2_2 g153_la2_3 f153_a7_slot f168_a1_end f168_a1_size g168_sa2_1 g168_la2_1 f168_a3_slot t186_0 t206_0 t226_0)) else (law_264 x0 x1 x2 x3 x4 a3 a5 a7 (.ref a5 : Value) f139_a5_slot g153_sa2_2 g153_sa2_3 g153_la2_2 g153_la2_3 f153_a7_slot f168_a1_end f168_a1_size g168_sa2_1 g168_la2_1 f168_a3_slot t186_0 t206_0 t226_0)) else (law_264 x0 x1 x2 x3 x4 a3 a5 a7 (.ref a3 : Value) f139_a5_slot g153_sa2_2 g153_sa2_3 g153_la2_2 g153_la2_3 f153_a7_slot f168_a1_end f168_a1_size g168_sa2_1 g168_la2_1 f168_a3_slot t186_0 t206_0 t226_0)) at hr
    refine w_istore (pc' := 228) (Ls' := #[.val (.int x0), .val (.int x1), .val (.int x2), .val (.int x3), .val (.int x4), .val (.int (perm x0)), .val (.int (perm x1)), .val (.int (perm x2)), .val (.int (x3 &&& (3 : Int32))), .val (.int (((x3.toUInt32 >>> ((2 : Int32) &&& 31).toUInt32).toInt32) &&& (15 : Int32))), .val (.ref a1), .val (.ref a3), .val (.ref a5), .val (.ref a7), .val (.int t186_0), .val (.int t206_0), .val (.int t226_0), .unset, .unset, .unset]) C at_226 rfl rfl ?_
    refine w_aconstNull (pc' := 229) C at_228 rfl ?_
    refine w_astore (pc' := 231) (Ls' := #[.val (.int x0), .val (.int x1), .val (.int x2), .val (.int x3), .val (.int x4), .val (.int (perm x0)), .val (.int (perm x1)), .val (.int (perm x2)), .val (.int (x3 &&& (3 : Int32))), .val (.int (((x3.toUInt32 >>> ((2 : Int32) &&& 31).toUInt32).toInt32) &&& (15 : Int32))), .val (.ref a1), .val (.ref a3), .val (.ref a5), .val (.ref a7), .val (.int t186_0), .val (.int t206_0), .val (.int t226_0), .val .null, .unset, .unset]) C at_229 rfl rfl rfl ?_
    refine w_iload (pc' := 233) C at_231 rfl rfl ?_
    refine w_if_eq (pcT := 243) (pcF := 236) C at_233 (by decide) (by decide) rfl (fun q233 => ?_) (fun q233 => ?_)
    · have hr := hr.trans (if_pos q233)
      refine w_iload (pc' := 245) C at_243 rfl rfl ?_
      refine w_if_eq (pcT := 255) (pcF := 248) C at_245 (by decide) (by decide) rfl (fun q245 => ?_) (fun q245 => ?_)
      · have hr := hr.trans (if_pos q245)
        refine w_iload (pc' := 257) C at_255 rfl rfl ?_
        refine w_if_eq (pcT := 264) (pcF := 260) C at_257 (by decide) (by decide) rfl (fun q257 => ?_) (fun q257 => ?_)
        · have hr := hr.trans (if_pos q257)
          exact K264 (.null : Value) f139_a5_slot g153_sa2_2 g153_sa2_3 g153_la2_2 g153_la2_3 f153_a7_slot f168_a1_end f168_a1_size g168_sa2_1 g168_la2_1 f168_a3_slot t186_0 t206_0 t226_0 hm226 hz hk rfl c_f139_a5_slot (by first | assumption | exact fc_ref (by first | assumption | rfl) (by first | assumption | rfl) (by first | assumption | rfl) | rfl) (by first | assumption | exact fc_ref (by first | assumption | rfl) (by first | assumption | rfl) (by first | assumption | rfl) | rfl) c_f153_a7_slot (by first | assumption | exact fc_ref (by first | assumption | rfl) (by first | assumption | rfl) (by first | assumption | rfl) | rfl) c_f168_a3_slot c_t186_0 c_t206_0 c_t226_0 O_a1 O_sa2 O_la2 O_a3 O_a5 O_a7 hr
        · have hr := hr.trans (if_neg q257)
          refine w_aload (pc' := 262) C at_260 rfl rfl rfl ?_
          refine w_astore (pc' := 264) (Ls' := #[.val (.int x0), .val (.int x1), .val (.int x2), .val (.int x3), .val (.int x4), .val (.int (perm x0)), .val (.int (perm x1)), .val (.int (perm x2)), .val (.int (x3 &&& (3 : Int32))), .val (.int (((x3.toUInt32 >>> ((2 : Int32) &&& 31).toUInt32).toInt32) &&& (15 : Int32))), .val (.ref a1), .val (.ref a3), .val (.ref a5), .val (.ref a7), .val (.int t186_0), .val (.int t206_0), .val (.int t226_0), .val (.ref a7), .unset, .unset]) C at_262 rfl rfl rfl ?_
          exact K264 (.ref a7 : Value) f139_a5_slot g153_sa2_2 g153_sa2_3 g153_la2_2 g153_la2_3 f153_a7_slot f168_a1_end f168_a1_size g168_sa2_1 g168_la2_1 f168_a3_slot t186_0 t206_0 t226_0 hm226 hz hk rfl c_f139_a5_slot (by first | assumption | exact fc_ref (by first | assumption | rfl) (by first | assumption | rfl) (by first | assumption | rfl) | rfl) (by first | assumption | exact fc_ref (by first | assumption | rfl) (by first | assumption | rfl) (by first | assumption | rfl) | rfl) c_f153_a7_slot (by first | assumption | exact fc_ref (by first | assumption | rfl) (by first | assumption | rfl) (by first | assumption | rfl) | rfl) c_f168_a3_slot c_t186_0 c_t206_0 c_t226_0 O_a1 O_sa2 O_la2 O_a3 O_a5 O_a7 hr
      · have hr := hr.trans (if_neg q245)
        refine w_aload (pc' := 250) C at_248 rfl rfl rfl ?_
        refine w_astore (pc' := 252) (Ls' := #[.val (.int x0), .val (.int x1), .val (.int x2), .val (.int x3), .val (.int x4), .val (.int (perm x0)), .val (.int (perm x1)), .val (.int (perm x2)), .val (.int (x3 &&& (3 : Int32))), .val (.int (((x3.toUInt32 >>> ((2 : Int32) &&& 31).toUInt32).toInt32) &&& (15 : Int32))), .val (.ref a1), .val (.ref a3), .val (.ref a5), .val (.ref a7), .val (.int t186_0), .val (.int t206_0), .val (.int t226_0), .val (.ref a5), .unset, .unset]) C at_250 rfl rfl rfl ?_
        refine w_goto (pc' := 264) C at_252 (by decide) (by decide) ?_
        exact K264 (.ref a5 : Value) f139_a5_slot g153_sa2_2 g153_sa2_3 g153_la2_2 g153_la2_3 f153_a7_slot f168_a1_end f168_a1_size g168_sa2_1 g168_la2_1 f168_a3_slot t186_0 t206_0 t226_0 hm226 hz hk rfl c_f139_a5_slot (by first | assumption | exact fc_ref (by first | assumption | rfl) (by first | assumption | rfl) (by first | assumption | rfl) | rfl) (by first | assumption | exact fc_ref (by first | assumption | rfl) (by first | assumption | rfl) (by first | assumption | rfl) | rfl) c_f153_a7_slot (by first | assumption | exact fc_ref (by first | assumption | rfl) (by first | assumption | rfl) (by first | assumption | rfl) | rfl) c_f168_a3_slot c_t186_0 c_t206_0 c_t226_0 O_a1 O_sa2 O_la2 O_a3 O_a5 O_a7 hr
    · have hr := hr.trans (if_neg q233)
      refine w_aload (pc' := 238) C at_236 rfl rfl rfl ?_
      refine w_astore (pc' := 240) (Ls' := #[.val (.int x0), .val (.int x1), .val (.int x2), .val (.int x3), .val (.int x4), .val (.int (perm x0)), .val (.int (perm x1)), .val (.int (perm x2)), .val (.int (x3 &&& (3 : Int32))), .val (.int (((x3.toUInt32 >>> ((2 : Int32) &&& 31).toUInt32).toInt32) &&& (15 : Int32))), .val (.ref a1), .val (.ref a3), .val (.ref a5), .val (.ref a7), .val (.int t186_0), .val (.int t206_0), .val (.int t226_0), .val (.ref a3), .unset, .unset]) C at_238 rfl rfl rfl ?_
      refine w_goto (pc' := 264) C at_240 (by decide) (by decide) ?_
      exact K264 (.ref a3 : Value) f139_a5_slot g153_sa2_2 g153_sa2_3 g153_la2_2 g153_la2_3 f153_a7_slot f168_a1_end f168_a1_size g168_sa2_1 g168_la2_1 f168_a3_slot t186_0 t206_0 t226_0 hm226 hz hk rfl c_f139_a5_slot (by first | assumption | exact fc_ref (by first | assumption | rfl) (by first | assumption | rfl) (by first | assumption | rfl) | rfl) (by first | assumption | exact fc_ref (by first | assumption | rfl) (by first | assumption | rfl) (by first | assumption | rfl) | rfl) c_f153_a7_slot (by first | assumption | exact fc_ref (by first | assumption | rfl) (by first | assumption | rfl) (by first | assumption | rfl) | rfl) c_f168_a3_slot c_t186_0 c_t206_0 c_t226_0 O_a1 O_sa2 O_la2 O_a3 O_a5 O_a7 hr
  have K225 : ∀ (f139_a5_slot : Int32) (g153_sa2_2 : Value) (g153_sa2_3 : Value) (g153_la2_2 : Int64) (g153_la2_3 : Int64) (f153_a7_slot : Int32) (f168_a1_end : Int32) (f168_a1_size : Int32) (g168_sa2_1 : Value) (g168_la2_1 : Int64) (f168_a3_slot : Int32) (t186_0 : Int32) (t206_0 : Int32) (hm225 : Heap), n0 ≤ hm225.size → Keep h0 hm225 [] → f139_a5_slot = (-1 : Int32) ∨ f139_a5_slot = (0 : Int32) ∨ f139_a5_slot = (1 : Int32) → g153_sa2_2.isRef = true → g153_sa2_3.isRef = true → f153_a7_slot = (-1 : Int32) ∨ f153_a7_slot = (0 : Int32) ∨ f153_a7_slot = (1 : Int32) ∨ f153_a7_slot = (2 : Int32) → g168_sa2_1.isRef = true → f168_a3_slot = (-1 : Int32) ∨ f168_a3_slot = (0 : Int32) → t186_0 = (0 : Int32) ∨ t186_0 = (1 : Int32) → t206_0 = (0 : Int32) ∨ t206_0 = (1 : Int32) → Obj Z hm225 a1 "tallygate/RequestQueue" [("slots", "[Ltallygate/RequestQueue$Entry;", .ref sa2), ("least", "[J", .ref la2), ("end", "I", .int f168_a1_end), ("size", "I", .int f168_a1_size)] → ArR Z hm225 sa2 "tallygate/RequestQueue$Entry" (sl3 g168_sa2_1 g153_sa2_2 g153_sa2_3) → Ar Z hm225 la2 .long (tr3 g168_la2_1 g153_la2_2 g153_la2_3) → Obj Z hm225 a3 "tallygate/RequestQueue$Entry" [("slot", "I", .int f168_a3_slot), ("permits", "I", .int (perm x0))] → Obj Z hm225 a5 "tallygate/RequestQueue$Entry" [("slot", "I", .int f139_a5_slot), ("permits", "I", .int (perm x1))] → Obj Z hm225 a7 "tallygate/RequestQueue$Entry" [("slot", "I", .int f153_a7_slot), ("permits", "I", .int (perm x2))] → law x0 x1 x2 x3 x4 a3 a5 a7 = law_225 x0 x1 x2 x3 x4 a3 a5 a7 f139_a5_slot g153_sa2_2 g153_sa2_3 g153_la2_2 g153_la2_3 f153_a7_slot f168_a1_end f168_a1_size g168_sa2_1 g168_la2_1 f168_a3_slot t186_0 t206_0 → Wp p l e room_1 s m #[.int x0, .int x1, .int x2, .int x3, .int x4] below meth c n0 room_1.cells room_1.slots (fun v h => v = some (.int 1)) hm225 6 58 (mkF m 225 #[.val (.int x0), .val (.int x1), .val (.int x2), .val (.int x3), .val (.int x4), .val (.int (perm x0)), .val (.int (perm x1)), .val (.int (perm x2)), .val (.int (x3 &&& (3 : Int32))), .val (.int (((x3.toUInt32 >>> ((2 : Int32) &&& 31).toUInt32).toInt32) &&& (15 : Int32))), .val (.ref a1), .val (.ref a3), .val (.ref a5), .val (.ref a7), .val (.int t186_0), .val (.int t206_0), .unset, .unset, .unset, .unset] []) := by
    intro f139_a5_slot g153_sa2_2 g153_sa2_3 g153_la2_2 g153_la2_3 f153_a7_slot f168_a1_end f168_a1_size g168_sa2_1 g168_la2_1 f168_a3_slot t186_0 t206_0 hm225 hz hk c_f139_a5_slot u_g153_sa2_2 u_g153_sa2_3 c_f153_a7_slot u_g168_sa2_1 c_f168_a3_slot c_t186_0 c_t206_0 O_a1 O_sa2 O_la2 O_a3 O_a5 O_a7 hr
    change _ = (law_226 x0 x1 x2 x3 x4 a3 a5 a7 (0 : Int32) f139_a5_slot g153_sa2_2 g153_sa2_3 g153_la2_2 g153_la2_3 f153_a7_slot f168_a1_end f168_a1_size g168_sa2_1 g168_la2_1 f168_a3_slot t186_0 t206_0) at hr
    refine w_iconst (pc' := 226) (x := (0 : Int32)) C at_225 rfl rfl ?_
    exact K226 (0 : Int32) f139_a5_slot g153_sa2_2 g153_sa2_3 g153_la2_2 g153_la2_3 f153_a7_slot f168_a1_end f168_a1_size g168_sa2_1 g168_la2_1 f168_a3_slot t186_0 t206_0 hm225 hz hk (Or.inl rfl) c_f139_a5_slot (by first | assumption | exact fc_ref (by first | assumption | rfl) (by first | assumption | rfl) (by first | assumption | rfl) | rfl) (by first | assumption | exact fc_ref (by first | assumption | rfl) (by first | assumption | rfl) (by first | assumption | rfl) | rfl) c_f153_a7_slot (by first | assumption | exact fc_ref (by first | assumption | rfl) (by first | assumption | rfl) (by first | assumption | rfl) | rfl) c_f168_a3_slot c_t186_0 c_t206_0 O_a1 O_sa2 O_la2 O_a3 O_a5 O_a7 hr
  have K206 : ∀ (t206_0 : Int32) (f139_a5_slot : Int32) (g153_sa2_2 : Value) (g153_sa2_3 : Value) (g153_la2_2 : Int64) (g153_la2_3 : Int64) (f153_a7_slot : Int32) (f168_a1_end : Int32) (f168_a1_size : Int32) (g168_sa2_1 : Value) (g168_la2_1 : Int64) (f168_a3_slot : Int32) (t186_0 : Int32) (hm206 : Heap), n0 ≤ hm206.size → Keep h0 hm206 [] → t206_0 = (0 : Int32) ∨ t206_0 = (1 : Int32) → f139_a5_slot = (-1 : Int32) ∨ f139_a5_slot = (0 : Int32) ∨ f139_a5_slot = (1 : Int32) → g153_sa2_2.isRef = true → g153_sa2_3.isRef = true → f153_a7_slot = (-1 : Int32) ∨ f153_a7_slot = (0 : Int32) ∨ f153_a7_slot = (1 : Int32) ∨ f153_a7_slot = (2 : Int32) → g168_sa2_1.isRef = true → f168_a3_slot = (-1 : Int32) ∨ f168_a3_slot = (0 : Int32) → t186_0 = (0 : Int32) ∨ t186_0 = (1 : Int32) → Obj Z hm206 a1 "tallygate/RequestQueue" [("slots", "[Ltallygate/RequestQueue$Entry;", .ref sa2), ("least", "[J", .ref la2), ("end", "I", .int f168_a1_end), ("size", "I", .int f168_a1_size)] → ArR Z hm206 sa2 "tallygate/RequestQueue$Entry" (sl3 g168_sa2_1 g153_sa2_2 g153_sa2_3) → Ar Z hm206 la2 .long (tr3 g168_la2_1 g153_la2_2 g153_la2_3) → Obj Z hm206 a3 "tallygate/RequestQueue$Entry" [("slot", "I", .int f168_a3_slot), ("permits", "I", .int (perm x0))] → Obj Z hm206 a5 "tallygate/RequestQueue$Entry" [("slot", "I", .int f139_a5_slot), ("permits", "I", .int (perm x1))] → Obj Z hm206 a7 "tallygate/RequestQueue$Entry" [("slot", "I", .int f153_a7_slot), ("permits", "I", .int (perm x2))] → law x0 x1 x2 x3 x4 a3 a5 a7 = law_206 x0 x1 x2 x3 x4 a3 a5 a7 t206_0 f139_a5_slot g153_sa2_2 g153_sa2_3 g153_la2_2 g153_la2_3 f153_a7_slot f168_a1_end f168_a1_size g168_sa2_1 g168_la2_1 f168_a3_slot t186_0 → Wp p l e room_1 s m #[.int x0, .int x1, .int x2, .int x3, .int x4] below meth c n0 room_1.cells room_1.slots (fun v h => v = some (.int 1)) hm206 6 58 (mkF m 206 #[.val (.int x0), .val (.int x1), .val (.int x2), .val (.int x3), .val (.int x4), .val (.int (perm x0)), .val (.int (perm x1)), .val (.int (perm x2)), .val (.int (x3 &&& (3 : Int32))), .val (.int (((x3.toUInt32 >>> ((2 : Int32) &&& 31).toUInt32).toInt32) &&& (15 : Int32))), .val (.ref a1), .val (.ref a3), .val (.ref a5), .val (.ref a7), .val (.int t186_0), .unset, .unset, .unset, .unset, .unset] [.int t206_0]) := by
    intro t206_0 f139_a5_slot g153_sa2_2 g153_sa2_3 g153_la2_2 g153_la2_3 f153_a7_slot f168_a1_end f168_a1_size g168_sa2_1 g168_la2_1 f168_a3_slot t186_0 hm206 hz hk c_t206_0 c_f139_a5_slot u_g153_sa2_2 u_g153_sa2_3 c_f153_a7_slot u_g168_sa2_1 c_f168_a3_slot c_t186_0 O_a1 O_sa2 O_la2 O_a3 O_a5 O_a7 hr
    change _ = (if (2 : Int32) < (x3 &&& (3 : Int32)) then (if ((((x3.toUInt32 >>> ((2 : Int32) &&& 31).toUInt32).toInt32) &&& (15 : Int32)) &&& (4 : Int32)) = 0 then (law_226 x0 x1 x2 x3 x4 a3 a5 a7 (1 : Int32) f139_a5_slot g153_sa2_2 g153_sa2_3 g153_la2_2 g153_la2_3 f153_a7_slot f168_a1_end f168_a1_size g168_sa2_1 g168_la2_1 f168_a3_slot t186_0 t206_0) else (law_225 x0 x1 x2 x3 x4 a3 a5 a7 f139_a5_slot g153_sa2_2 g153_sa2_3 g153_la2_2 g153_la2_3 f153_a7_slot f168_a1_end f168_a1_size g168_sa2_1 g168_la2_1 f168_a3_slot t186_0 t206_0)) else (law_225 x0 x1 x2 x3 x4 a3 a5 a7 f139_a5_slot g153_sa2_2 g153_sa2_3 g153_la2_2 g153_la2_3 f153_a7_slot f168_a1_end f168_a1_size g168_sa2_1 g168_la2_1 f168_a3_slot t186_0 t206_0)) at hr
    refine w_istore (pc' := 208) (Ls' := #[.val (.int x0), .val (.int x1), .val (.int x2), .val (.int x3), .val (.int x4), .val (.int (perm x0)), .val (.int (perm x1)), .val (.int (perm x2)), .val (.int (x3 &&& (3 : Int32))), .val (.int (((x3.toUInt32 >>> ((2 : Int32) &&& 31).toUInt32).toInt32) &&& (15 : Int32))), .val (.ref a1), .val (.ref a3), .val (.ref a5), .val (.ref a7), .val (.int t186_0), .val (.int t206_0), .unset, .unset, .unset, .unset]) C at_206 rfl rfl ?_
    refine w_iload (pc' := 210) C at_208 rfl rfl ?_
    refine w_iconst (pc' := 211) (x := (2 : Int32)) C at_210 rfl rfl ?_
    refine w_icmp_le (pcT := 225) (pcF := 214) C at_211 (by decide) (by decide) rfl (fun q211 => ?_) (fun q211 => ?_)
    · have hr := hr.trans (if_neg q211)
      exact K225 f139_a5_slot g153_sa2_2 g153_sa2_3 g153_la2_2 g153_la2_3 f153_a7_slot f168_a1_end f168_a1_size g168_sa2_1 g168_la2_1 f168_a3_slot t186_0 t206_0 hm206 hz hk c_f139_a5_slot (by first | assumption | exact fc_ref (by first | assumption | rfl) (by first | assumption | rfl) (by first | assumption | rfl) | rfl) (by first | assumption | exact fc_ref (by first | assumption | rfl) (by first | assumption | rfl) (by first | assumption | rfl) | rfl) c_f153_a7_slot (by first | assumption | exact fc_ref (by first | assumption | rfl) (by first | assumption | rfl) (by first | assumption | rfl) | rfl) c_f168_a3_slot c_t186_0 c_t206_0 O_a1 O_sa2 O_la2 O_a3 O_a5 O_a7 hr
    · have hr := hr.trans (if_pos q211)
      refine w_iload (pc' := 216) C at_214 rfl rfl ?_
      refine w_iconst (pc' := 217) (x := (4 : Int32)) C at_216 rfl rfl ?_
      refine w_iand (pc' := 218) C at_217 rfl ?_
      refine w_if_ne (pcT := 225) (pcF := 221) C at_218 (by decide) (by decide) rfl (fun q218 => ?_) (fun q218 => ?_)
      · have hr := hr.trans (if_neg q218)
        exact K225 f139_a5_slot g153_sa2_2 g153_sa2_3 g153_la2_2 g153_la2_3 f153_a7_slot f168_a1_end f168_a1_size g168_sa2_1 g168_la2_1 f168_a3_slot t186_0 t206_0 hm206 hz hk c_f139_a5_slot (by first | assumption | exact fc_ref (by first | assumption | rfl) (by first | assumption | rfl) (by first | assumption | rfl) | rfl) (by first | assumption | exact fc_ref (by first | assumption | rfl) (by first | assumption | rfl) (by first | assumption | rfl) | rfl) c_f153_a7_slot (by first | assumption | exact fc_ref (by first | assumption | rfl) (by first | assumption | rfl) (by first | assumption | rfl) | rfl) c_f168_a3_slot c_t186_0 c_t206_0 O_a1 O_sa2 O_la2 O_a3 O_a5 O_a7 hr
      · have hr := hr.trans (if_pos q218)
        refine w_iconst (pc' := 222) (x := (1 : Int32)) C at_221 rfl rfl ?_
        refine w_goto (pc' := 226) C at_222 (by decide) (by decide) ?_
        exact K226 (1 : Int32) f139_a5_slot g153_sa2_2 g153_sa2_3 g153_la2_2 g153_la2_3 f153_a7_slot f168_a1_end f168_a1_size g168_sa2_1 g168_la2_1 f168_a3_slot t186_0 t206_0 hm206 hz hk (Or.inr rfl) c_f139_a5_slot (by first | assumption | exact fc_ref (by first | assumption | rfl) (by first | assumption | rfl) (by first | assumption | rfl) | rfl) (by first | assumption | exact fc_ref (by first | assumption | rfl) (by first | assumption | rfl) (by first | assumption | rfl) | rfl) c_f153_a7_slot (by first | assumption | exact fc_ref (by first | assumption | rfl) (by first | assumption | rfl) (by first | assumption | rfl) | rfl) c_f168_a3_slot c_t186_0 c_t206_0 O_a1 O_sa2 O_la2 O_a3 O_a5 O_a7 hr
  have K205 : ∀ (f139_a5_slot : Int32) (g153_sa2_2 : Value) (g153_sa2_3 : Value) (g153_la2_2 : Int64) (g153_la2_3 : Int64) (f153_a7_slot : Int32) (f168_a1_end : Int32) (f168_a1_size : Int32) (g168_sa2_1 : Value) (g168_la2_1 : Int64) (f168_a3_slot : Int32) (t186_0 : Int32) (hm205 : Heap), n0 ≤ hm205.size → Keep h0 hm205 [] → f139_a5_slot = (-1 : Int32) ∨ f139_a5_slot = (0 : Int32) ∨ f139_a5_slot = (1 : Int32) → g153_sa2_2.isRef = true → g153_sa2_3.isRef = true → f153_a7_slot = (-1 : Int32) ∨ f153_a7_slot = (0 : Int32) ∨ f153_a7_slot = (1 : Int32) ∨ f153_a7_slot = (2 : Int32) → g168_sa2_1.isRef = true → f168_a3_slot = (-1 : Int32) ∨ f168_a3_slot = (0 : Int32) → t186_0 = (0 : Int32) ∨ t186_0 = (1 : Int32) → Obj Z hm205 a1 "tallygate/RequestQueue" [("slots", "[Ltallygate/RequestQueue$Entry;", .ref sa2), ("least", "[J", .ref la2), ("end", "I", .int f168_a1_end), ("size", "I", .int f168_a1_size)] → ArR Z hm205 sa2 "tallygate/RequestQueue$Entry" (sl3 g168_sa2_1 g153_sa2_2 g153_sa2_3) → Ar Z hm205 la2 .long (tr3 g168_la2_1 g153_la2_2 g153_la2_3) → Obj Z hm205 a3 "tallygate/RequestQueue$Entry" [("slot", "I", .int f168_a3_slot), ("permits", "I", .int (perm x0))] → Obj Z hm205 a5 "tallygate/RequestQueue$Entry" [("slot", "I", .int f139_a5_slot), ("permits", "I", .int (perm x1))] → Obj Z hm205 a7 "tallygate/RequestQueue$Entry" [("slot", "I", .int f153_a7_slot), ("permits", "I", .int (perm x2))] → law x0 x1 x2 x3 x4 a3 a5 a7 = law_205 x0 x1 x2 x3 x4 a3 a5 a7 f139_a5_slot g153_sa2_2 g153_sa2_3 g153_la2_2 g153_la2_3 f153_a7_slot f168_a1_end f168_a1_size g168_sa2_1 g168_la2_1 f168_a3_slot t186_0 → Wp p l e room_1 s m #[.int x0, .int x1, .int x2, .int x3, .int x4] below meth c n0 room_1.cells room_1.slots (fun v h => v = some (.int 1)) hm205 6 58 (mkF m 205 #[.val (.int x0), .val (.int x1), .val (.int x2), .val (.int x3), .val (.int x4), .val (.int (perm x0)), .val (.int (perm x1)), .val (.int (perm x2)), .val (.int (x3 &&& (3 : Int32))), .val (.int (((x3.toUInt32 >>> ((2 : Int32) &&& 31).toUInt32).toInt32) &&& (15 : Int32))), .val (.ref a1), .val (.ref a3), .val (.ref a5), .val (.ref a7), .val (.int t186_0), .unset, .unset, .unset, .unset, .unset] []) := by
    intro f139_a5_slot g153_sa2_2 g153_sa2_3 g153_la2_2 g153_la2_3 f153_a7_slot f168_a1_end f168_a1_size g168_sa2_1 g168_la2_1 f168_a3_slot t186_0 hm205 hz hk c_f139_a5_slot u_g153_sa2_2 u_g153_sa2_3 c_f153_a7_slot u_g168_sa2_1 c_f168_a3_slot c_t186_0 O_a1 O_sa2 O_la2 O_a3 O_a5 O_a7 hr
    change _ = (law_206 x0 x1 x2 x3 x4 a3 a5 a7 (0 : Int32) f139_a5_slot g153_sa2_2 g153_sa2_3 g153_la2_2 g153_la2_3 f153_a7_slot f168_a1_end f168_a1_size g168_sa2_1 g168_la2_1 f168_a3_slot t186_0) at hr
    refine w_iconst (pc' := 206) (x := (0 : Int32)) C at_205 rfl rfl ?_
    exact K206 (0 : Int32) f139_a5_slot g153_sa2_2 g153_sa2_3 g153_la2_2 g153_la2_3 f153_a7_slot f168_a1_end f168_a1_size g168_sa2_1 g168_la2_1 f168_a3_slot t186_0 hm205 hz hk (Or.inl rfl) c_f139_a5_slot (by first | assumption | exact fc_ref (by first | assumption | rfl) (by first | assumption | rfl) (by first | assumption | rfl) | rfl) (by first | assumption | exact fc_ref (by first | assumption | rfl) (by first | assumption | rfl) (by first | assumption | rfl) | rfl) c_f153_a7_slot (by first | assumption | exact fc_ref (by first | assumption | rfl) (by first | assumption | rfl) (by first | assumption | rfl) | rfl) c_f168_a3_slot c_t186_0 O_a1 O_sa2 O_la2 O_a3 O_a5 O_a7 hr
  have K186 : ∀ (t186_0 : Int32) (f139_a5_slot : Int32) (g153_sa2_2 : Value) (g153_sa2_3 : Value) (g153_la2_2 : Int64) (g153_la2_3 : Int64) (f153_a7_slot : Int32) (f168_a1_end : Int32) (f168_a1_size : Int32) (g168_sa2_1 : Value) (g168_la2_1 : Int64) (f168_a3_slot : Int32) (hm186 : Heap), n0 ≤ hm186.size → Keep h0 hm186 [] → t186_0 = (0 : Int32) ∨ t186_0 = (1 : Int32) → f139_a5_slot = (-1 : Int32) ∨ f139_a5_slot = (0 : Int32) ∨ f139_a5_slot = (1 : Int32) → g153_sa2_2.isRef = true → g153_sa2_3.isRef = true → f153_a7_slot = (-1 : Int32) ∨ f153_a7_slot = (0 : Int32) ∨ f153_a7_slot = (1 : Int32) ∨ f153_a7_slot = (2 : Int32) → g168_sa2_1.isRef = true → f168_a3_slot = (-1 : Int32) ∨ f168_a3_slot = (0 : Int32) → Obj Z hm186 a1 "tallygate/RequestQueue" [("slots", "[Ltallygate/RequestQueue$Entry;", .ref sa2), ("least", "[J", .ref la2), ("end", "I", .int f168_a1_end), ("size", "I", .int f168_a1_size)] → ArR Z hm186 sa2 "tallygate/RequestQueue$Entry" (sl3 g168_sa2_1 g153_sa2_2 g153_sa2_3) → Ar Z hm186 la2 .long (tr3 g168_la2_1 g153_la2_2 g153_la2_3) → Obj Z hm186 a3 "tallygate/RequestQueue$Entry" [("slot", "I", .int f168_a3_slot), ("permits", "I", .int (perm x0))] → Obj Z hm186 a5 "tallygate/RequestQueue$Entry" [("slot", "I", .int f139_a5_slot), ("permits", "I", .int (perm x1))] → Obj Z hm186 a7 "tallygate/RequestQueue$Entry" [("slot", "I", .int f153_a7_slot), ("permits", "I", .int (perm x2))] → law x0 x1 x2 x3 x4 a3 a5 a7 = law_186 x0 x1 x2 x3 x4 a3 a5 a7 t186_0 f139_a5_slot g153_sa2_2 g153_sa2_3 g153_la2_2 g153_la2_3 f153_a7_slot f168_a1_end f168_a1_size g168_sa2_1 g168_la2_1 f168_a3_slot → Wp p l e room_1 s m #[.int x0, .int x1, .int x2, .int x3, .int x4] below meth c n0 room_1.cells room_1.slots (fun v h => v = some (.int 1)) hm186 6 58 (mkF m 186 #[.val (.int x0), .val (.int x1), .val (.int x2), .val (.int x3), .val (.int x4), .val (.int (perm x0)), .val (.int (perm x1)), .val (.int (perm x2)), .val (.int (x3 &&& (3 : Int32))), .val (.int (((x3.toUInt32 >>> ((2 : Int32) &&& 31).toUInt32).toInt32) &&& (15 : Int32))), .val (.ref a1), .val (.ref a3), .val (.ref a5), .val (.ref a7), .unset, .unset, .unset, .unset, .unset, .unset] [.int t186_0]) := by
    intro t186_0 f139_a5_slot g153_sa2_2 g153_sa2_3 g153_la2_2 g153_la2_3 f153_a7_slot f168_a1_end f168_a1_size g168_sa2_1 g168_la2_1 f168_a3_slot hm186 hz hk c_t186_0 c_f139_a5_slot u_g153_sa2_2 u_g153_sa2_3 c_f153_a7_slot u_g168_sa2_1 c_f168_a3_slot O_a1 O_sa2 O_la2 O_a3 O_a5 O_a7 hr
    change _ = (if (1 : Int32) < (x3 &&& (3 : Int32)) then (if ((((x3.toUInt32 >>> ((2 : Int32) &&& 31).toUInt32).toInt32) &&& (15 : Int32)) &&& (2 : Int32)) = 0 then (law_206 x0 x1 x2 x3 x4 a3 a5 a7 (1 : Int32) f139_a5_slot g153_sa2_2 g153_sa2_3 g153_la2_2 g153_la2_3 f153_a7_slot f168_a1_end f168_a1_size g168_sa2_1 g168_la2_1 f168_a3_slot t186_0) else (law_205 x0 x1 x2 x3 x4 a3 a5 a7 f139_a5_slot g153_sa2_2 g153_sa2_3 g153_la2_2 g153_la2_3 f153_a7_slot f168_a1_end f168_a1_size g168_sa2_1 g168_la2_1 f168_a3_slot t186_0)) else (law_205 x0 x1 x2 x3 x4 a3 a5 a7 f139_a5_slot g153_sa2_2 g153_sa2_3 g153_la2_2 g153_la2_3 f153_a7_slot f168_a1_end f168_a1_size g168_sa2_1 g168_la2_1 f168_a3_slot t186_0)) at hr
    refine w_istore (pc' := 188) (Ls' := #[.val (.int x0), .val (.int x1), .val (.int x2), .val (.int x3), .val (.int x4), .val (.int (perm x0)), .val (.int (perm x1)), .val (.int (perm x2)), .val (.int (x3 &&& (3 : Int32))), .val (.int (((x3.toUInt32 >>> ((2 : Int32) &&& 31).toUInt32).toInt32) &&& (15 : Int32))), .val (.ref a1), .val (.ref a3), .val (.ref a5), .val (.ref a7), .val (.int t186_0), .unset, .unset, .unset, .unset, .unset]) C at_186 rfl rfl ?_
    refine w_iload (pc' := 190) C at_188 rfl rfl ?_
    refine w_iconst (pc' := 191) (x := (1 : Int32)) C at_190 rfl rfl ?_
    refine w_icmp_le (pcT := 205) (pcF := 194) C at_191 (by decide) (by decide) rfl (fun q191 => ?_) (fun q191 => ?_)
    · have hr := hr.trans (if_neg q191)
      exact K205 f139_a5_slot g153_sa2_2 g153_sa2_3 g153_la2_2 g153_la2_3 f153_a7_slot f168_a1_end f168_a1_size g168_sa2_1 g168_la2_1 f168_a3_slot t186_0 hm186 hz hk c_f139_a5_slot (by first | assumption | exact fc_ref (by first | assumption | rfl) (by first | assumption | rfl) (by first | assumption | rfl) | rfl) (by first | assumption | exact fc_ref (by first | assumption | rfl) (by first | assumption | rfl) (by first | assumption | rfl) | rfl) c_f153_a7_slot (by first | assumption | exact fc_ref (by first | assumption | rfl) (by first | assumption | rfl) (by first | assumption | rfl) | rfl) c_f168_a3_slot c_t186_0 O_a1 O_sa2 O_la2 O_a3 O_a5 O_a7 hr
    · have hr := hr.trans (if_pos q191)
      refine w_iload (pc' := 196) C at_194 rfl rfl ?_
      refine w_iconst (pc' := 197) (x := (2 : Int32)) C at_196 rfl rfl ?_
      refine w_iand (pc' := 198) C at_197 rfl ?_
      refine w_if_ne (pcT := 205) (pcF := 201) C at_198 (by decide) (by decide) rfl (fun q198 => ?_) (fun q198 => ?_)
      · have hr := hr.trans (if_neg q198)
        exact K205 f139_a5_slot g153_sa2_2 g153_sa2_3 g153_la2_2 g153_la2_3 f153_a7_slot f168_a1_end f168_a1_size g168_sa2_1 g168_la2_1 f168_a3_slot t186_0 hm186 hz hk c_f139_a5_slot (by first | assumption | exact fc_ref (by first | assumption | rfl) (by first | assumption | rfl) (by first | assumption | rfl) | rfl) (by first | assumption | exact fc_ref (by first | assumption | rfl) (by first | assumption | rfl) (by first | assumption | rfl) | rfl) c_f153_a7_slot (by first | assumption | exact fc_ref (by first | assumption | rfl) (by first | assumption | rfl) (by first | assumption | rfl) | rfl) c_f168_a3_slot c_t186_0 O_a1 O_sa2 O_la2 O_a3 O_a5 O_a7 hr
      · have hr := hr.trans (if_pos q198)
        refine w_iconst (pc' := 202) (x := (1 : Int32)) C at_201 rfl rfl ?_
        refine w_goto (pc' := 206) C at_202 (by decide) (by decide) ?_
        exact K206 (1 : Int32) f139_a5_slot g153_sa2_2 g153_sa2_3 g153_la2_2 g153_la2_3 f153_a7_slot f168_a1_end f168_a1_size g168_sa2_1 g168_la2_1 f168_a3_slot t186_0 hm186 hz hk (Or.inr rfl) c_f139_a5_slot (by first | assumption | exact fc_ref (by first | assumption | rfl) (by first | assumption | rfl) (by first | assumption | rfl) | rfl) (by first | assumption | exact fc_ref (by first | assumption | rfl) (by first | assumption | rfl) (by first | assumption | rfl) | rfl) c_f153_a7_slot (by first | assumption | exact fc_ref (by first | assumption | rfl) (by first | assumption | rfl) (by first | assumption | rfl) | rfl) c_f168_a3_slot c_t186_0 O_a1 O_sa2 O_la2 O_a3 O_a5 O_a7 hr
  have K185 : ∀ (f139_a5_slot : Int32) (g153_sa2_2 : Value) (g153_sa2_3 : Value) (g153_la2_2 : Int64) (g153_la2_3 : Int64) (f153_a7_slot : Int32) (f168_a1_end : Int32) (f168_a1_size : Int32) (g168_sa2_1 : Value) (g168_la2_1 : Int64) (f168_a3_slot : Int32) (hm185 : Heap), n0 ≤ hm185.size → Keep h0 hm185 [] → f139_a5_slot = (-1 : Int32) ∨ f139_a5_slot = (0 : Int32) ∨ f139_a5_slot = (1 : Int32) → g153_sa2_2.isRef = true → g153_sa2_3.isRef = true → f153_a7_slot = (-1 : Int32) ∨ f153_a7_slot = (0 : Int32) ∨ f153_a7_slot = (1 : Int32) ∨ f153_a7_slot = (2 : Int32) → g168_sa2_1.isRef = true → f168_a3_slot = (-1 : Int32) ∨ f168_a3_slot = (0 : Int32) → Obj Z hm185 a1 "tallygate/RequestQueue" [("slots", "[Ltallygate/RequestQueue$Entry;", .ref sa2), ("least", "[J", .ref la2), ("end", "I", .int f168_a1_end), ("size", "I", .int f168_a1_size)] → ArR Z hm185 sa2 "tallygate/RequestQueue$Entry" (sl3 g168_sa2_1 g153_sa2_2 g153_sa2_3) → Ar Z hm185 la2 .long (tr3 g168_la2_1 g153_la2_2 g153_la2_3) → Obj Z hm185 a3 "tallygate/RequestQueue$Entry" [("slot", "I", .int f168_a3_slot), ("permits", "I", .int (perm x0))] → Obj Z hm185 a5 "tallygate/RequestQueue$Entry" [("slot", "I", .int f139_a5_slot), ("permits", "I", .int (perm x1))] → Obj Z hm185 a7 "tallygate/RequestQueue$Entry" [("slot", "I", .int f153_a7_slot), ("permits", "I", .int (perm x2))] → law x0 x1 x2 x3 x4 a3 a5 a7 = law_185 x0 x1 x2 x3 x4 a3 a5 a7 f139_a5_slot g153_sa2_2 g153_sa2_3 g153_la2_2 g153_la2_3 f153_a7_slot f168_a1_end f168_a1_size g168_sa2_1 g168_la2_1 f168_a3_slot → Wp p l e room_1 s m #[.int x0, .int x1, .int x2, .int x3, .int x4] below meth c n0 room_1.cells room_1.slots (fun v h => v = some (.int 1)) hm185 6 58 (mkF m 185 #[.val (.int x0), .val (.int x1), .val (.int x2), .val (.int x3), .val (.int x4), .val (.int (perm x0)), .val (.int (perm x1)), .val (.int (perm x2)), .val (.int (x3 &&& (3 : Int32))), .val (.int (((x3.toUInt32 >>> ((2 : Int32) &&& 31).toUInt32).toInt32) &&& (15 : Int32))), .val (.ref a1), .val (.ref a3), .val (.ref a5), .val (.ref a7), .unset, .unset, .unset, .unset, .unset, .unset] []) := by
    intro f139_a5_slot g153_sa2_2 g153_sa2_3 g153_la2_2 g153_la2_3 f153_a7_slot f168_a1_end f168_a1_size g168_sa2_1 g168_la2_1 f168_a3_slot hm185 hz hk c_f139_a5_slot u_g153_sa2_2 u_g153_sa2_3 c_f153_a7_slot u_g168_sa2_1 c_f168_a3_slot O_a1 O_sa2 O_la2 O_a3 O_a5 O_a7 hr
    change _ = (law_186 x0 x1 x2 x3 x4 a3 a5 a7 (0 : Int32) f139_a5_slot g153_sa2_2 g153_sa2_3 g153_la2_2 g153_la2_3 f153_a7_slot f168_a1_end f168_a1_size g168_sa2_1 g168_la2_1 f168_a3_slot) at hr
    refine w_iconst (pc' := 186) (x := (0 : Int32)) C at_185 rfl rfl ?_
    exact K186 (0 : Int32) f139_a5_slot g153_sa2_2 g153_sa2_3 g153_la2_2 g153_la2_3 f153_a7_slot f168_a1_end f168_a1_size g168_sa2_1 g168_la2_1 f168_a3_slot hm185 hz hk (Or.inl rfl) c_f139_a5_slot (by first | assumption | exact fc_ref (by first | assumption | rfl) (by first | assumption | rfl) (by first | assumption | rfl) | rfl) (by first | assumption | exact fc_ref (by first | assumption | rfl) (by first | assumption | rfl) (by first | assumption | rfl) | rfl) c_f153_a7_slot (by first | assumption | exact fc_ref (by first | assumption | rfl) (by first | assumption | rfl) (by first | assumption | rfl) | rfl) c_f168_a3_slot O_a1 O_sa2 O_la2 O_a3 O_a5 O_a7 hr
  have K168 : ∀ (f168_a1_end : Int32) (f168_a1_size : Int32) (g168_sa2_1 : Value) (g168_la2_1 : Int64) (f168_a3_slot : Int32) (f139_a5_slot : Int32) (g153_sa2_2 : Value) (g153_sa2_3 : Value) (g153_la2_2 : Int64) (g153_la2_3 : Int64) (f153_a7_slot : Int32) (hm168 : Heap), n0 ≤ hm168.size → Keep h0 hm168 [] → g168_sa2_1.isRef = true → f168_a3_slot = (-1 : Int32) ∨ f168_a3_slot = (0 : Int32) → f139_a5_slot = (-1 : Int32) ∨ f139_a5_slot = (0 : Int32) ∨ f139_a5_slot = (1 : Int32) → g153_sa2_2.isRef = true → g153_sa2_3.isRef = true → f153_a7_slot = (-1 : Int32) ∨ f153_a7_slot = (0 : Int32) ∨ f153_a7_slot = (1 : Int32) ∨ f153_a7_slot = (2 : Int32) → Obj Z hm168 a1 "tallygate/RequestQueue" [("slots", "[Ltallygate/RequestQueue$Entry;", .ref sa2), ("least", "[J", .ref la2), ("end", "I", .int f168_a1_end), ("size", "I", .int f168_a1_size)] → ArR Z hm168 sa2 "tallygate/RequestQueue$Entry" (sl3 g168_sa2_1 g153_sa2_2 g153_sa2_3) → Ar Z hm168 la2 .long (tr3 g168_la2_1 g153_la2_2 g153_la2_3) → Obj Z hm168 a3 "tallygate/RequestQueue$Entry" [("slot", "I", .int f168_a3_slot), ("permits", "I", .int (perm x0))] → Obj Z hm168 a5 "tallygate/RequestQueue$Entry" [("slot", "I", .int f139_a5_slot), ("permits", "I", .int (perm x1))] → Obj Z hm168 a7 "tallygate/RequestQueue$Entry" [("slot", "I", .int f153_a7_slot), ("permits", "I", .int (perm x2))] → law x0 x1 x2 x3 x4 a3 a5 a7 = law_168 x0 x1 x2 x3 x4 a3 a5 a7 f168_a1_end f168_a1_size g168_sa2_1 g168_la2_1 f168_a3_slot f139_a5_slot g153_sa2_2 g153_sa2_3 g153_la2_2 g153_la2_3 f153_a7_slot → Wp p l e room_1 s m #[.int x0, .int x1, .int x2, .int x3, .int x4] below meth c n0 room_1.cells room_1.slots (fun v h => v = some (.int 1)) hm168 6 58 (mkF m 168 #[.val (.int x0), .val (.int x1), .val (.int x2), .val (.int x3), .val (.int x4), .val (.int (perm x0)), .val (.int (perm x1)), .val (.int (perm x2)), .val (.int (x3 &&& (3 : Int32))), .val (.int (((x3.toUInt32 >>> ((2 : Int32) &&& 31).toUInt32).toInt32) &&& (15 : Int32))), .val (.ref a1), .val (.ref a3), .val (.ref a5), .val (.ref a7), .unset, .unset, .unset, .unset, .unset, .unset] []) := by
    intro f168_a1_end f168_a1_size g168_sa2_1 g168_la2_1 f168_a3_slot f139_a5_slot g153_sa2_2 g153_sa2_3 g153_la2_2 g153_la2_3 f153_a7_slot hm168 hz hk u_g168_sa2_1 c_f168_a3_slot c_f139_a5_slot u_g153_sa2_2 u_g153_sa2_3 c_f153_a7_slot O_a1 O_sa2 O_la2 O_a3 O_a5 O_a7 hr
    change _ = (if 0 < (x3 &&& (3 : Int32)) then (if ((((x3.toUInt32 >>> ((2 : Int32) &&& 31).toUInt32).toInt32) &&& (15 : Int32)) &&& (9 : Int32)) = 0 then (law_186 x0 x1 x2 x3 x4 a3 a5 a7 (1 : Int32) f139_a5_slot g153_sa2_2 g153_sa2_3 g153_la2_2 g153_la2_3 f153_a7_slot f168_a1_end f168_a1_size g168_sa2_1 g168_la2_1 f168_a3_slot) else (law_185 x0 x1 x2 x3 x4 a3 a5 a7 f139_a5_slot g153_sa2_2 g153_sa2_3 g153_la2_2 g153_la2_3 f153_a7_slot f168_a1_end f168_a1_size g168_sa2_1 g168_la2_1 f168_a3_slot)) else (law_185 x0 x1 x2 x3 x4 a3 a5 a7 f139_a5_slot g153_sa2_2 g153_sa2_3 g153_la2_2 g153_la2_3 f153_a7_slot f168_a1_end f168_a1_size g168_sa2_1 g168_la2_1 f168_a3_slot)) at hr
    refine w_iload (pc' := 170) C at_168 rfl rfl ?_
    refine w_if_le (pcT := 185) (pcF := 173) C at_170 (by decide) (by decide) rfl (fun q170 => ?_) (fun q170 => ?_)
    · have hr := hr.trans (if_neg q170)
      exact K185 f139_a5_slot g153_sa2_2 g153_sa2_3 g153_la2_2 g153_la2_3 f153_a7_slot f168_a1_end f168_a1_size g168_sa2_1 g168_la2_1 f168_a3_slot hm168 hz hk c_f139_a5_slot (by first | assumption | exact fc_ref (by first | assumption | rfl) (by first | assumption | rfl) (by first | assumption | rfl) | rfl) (by first | assumption | exact fc_ref (by first | assumption | rfl) (by first | assumption | rfl) (by first | assumption | rfl) | rfl) c_f153_a7_slot (by first | assumption | exact fc_ref (by first | assumption | rfl) (by first | assumption | rfl) (by first | assumption | rfl) | rfl) c_f168_a3_slot O_a1 O_sa2 O_la2 O_a3 O_a5 O_a7 hr
    · have hr := hr.trans (if_pos q170)
      refine w_iload (pc' := 175) C at_173 rfl rfl ?_
      refine w_bipush (pc' := 177) (x := (9 : Int32)) C at_175 rfl rfl ?_
      refine w_iand (pc' := 178) C at_177 rfl ?_
      refine w_if_ne (pcT := 185) (pcF := 181) C at_178 (by decide) (by decide) rfl (fun q178 => ?_) (fun q178 => ?_)
      · have hr := hr.trans (if_neg q178)
        exact K185 f139_a5_slot g153_sa2_2 g153_sa2_3 g153_la2_2 g153_la2_3 f153_a7_slot f168_a1_end f168_a1_size g168_sa2_1 g168_la2_1 f168_a3_slot hm168 hz hk c_f139_a5_slot (by first | assumption | exact fc_ref (by first | assumption | rfl) (by first | assumption | rfl) (by first | assumption | rfl) | rfl) (by first | assumption | exact fc_ref (by first | assumption | rfl) (by first | assumption | rfl) (by first | assumption | rfl) | rfl) c_f153_a7_slot (by first | assumption | exact fc_ref (by first | assumption | rfl) (by first | assumption | rfl) (by first | assumption | rfl) | rfl) c_f168_a3_slot O_a1 O_sa2 O_la2 O_a3 O_a5 O_a7 hr
      · have hr := hr.trans (if_pos q178)
        refine w_iconst (pc' := 182) (x := (1 : Int32)) C at_181 rfl rfl ?_
        refine w_goto (pc' := 186) C at_182 (by decide) (by decide) ?_
        exact K186 (1 : Int32) f139_a5_slot g153_sa2_2 g153_sa2_3 g153_la2_2 g153_la2_3 f153_a7_slot f168_a1_end f168_a1_size g168_sa2_1 g168_la2_1 f168_a3_slot hm168 hz hk (Or.inr rfl) c_f139_a5_slot (by first | assumption | exact fc_ref (by first | assumption | rfl) (by first | assumption | rfl) (by first | assumption | rfl) | rfl) (by first | assumption | exact fc_ref (by first | assumption | rfl) (by first | assumption | rfl) (by first | assumption | rfl) | rfl) c_f153_a7_slot (by first | assumption | exact fc_ref (by first | assumption | rfl) (by first | assumption | rfl) (by first | assumption | rfl) | rfl) c_f168_a3_slot O_a1 O_sa2 O_la2 O_a3 O_a5 O_a7 hr
  have K153 : ∀ (f153_a1_end : Int32) (f153_a1_size : Int32) (g153_sa2_1 : Value) (g153_sa2_2 : Value) (g153_sa2_3 : Value) (g153_la2_1 : Int64) (g153_la2_2 : Int64) (g153_la2_3 : Int64) (f153_a7_slot : Int32) (f125_a3_slot : Int32) (f139_a5_slot : Int32) (hm153 : Heap), n0 ≤ hm153.size → Keep h0 hm153 [] → g153_sa2_1.isRef = true → g153_sa2_2.isRef = true → g153_sa2_3.isRef = true → f153_a7_slot = (-1 : Int32) ∨ f153_a7_slot = (0 : Int32) ∨ f153_a7_slot = (1 : Int32) ∨ f153_a7_slot = (2 : Int32) → f125_a3_slot = (-1 : Int32) ∨ f125_a3_slot = (0 : Int32) → f139_a5_slot = (-1 : Int32) ∨ f139_a5_slot = (0 : Int32) ∨ f139_a5_slot = (1 : Int32) → Obj Z hm153 a1 "tallygate/RequestQueue" [("slots", "[Ltallygate/RequestQueue$Entry;", .ref sa2), ("least", "[J", .ref la2), ("end", "I", .int f153_a1_end), ("size", "I", .int f153_a1_size)] → ArR Z hm153 sa2 "tallygate/RequestQueue$Entry" (sl3 g153_sa2_1 g153_sa2_2 g153_sa2_3) → Ar Z hm153 la2 .long (tr3 g153_la2_1 g153_la2_2 g153_la2_3) → Obj Z hm153 a3 "tallygate/RequestQueue$Entry" [("slot", "I", .int f125_a3_slot), ("permits", "I", .int (perm x0))] → Obj Z hm153 a5 "tallygate/RequestQueue$Entry" [("slot", "I", .int f139_a5_slot), ("permits", "I", .int (perm x1))] → Obj Z hm153 a7 "tallygate/RequestQueue$Entry" [("slot", "I", .int f153_a7_slot), ("permits", "I", .int (perm x2))] → law x0 x1 x2 x3 x4 a3 a5 a7 = law_153 x0 x1 x2 x3 x4 a3 a5 a7 f153_a1_end f153_a1_size g153_sa2_1 g153_sa2_2 g153_sa2_3 g153_la2_1 g153_la2_2 g153_la2_3 f153_a7_slot f125_a3_slot f139_a5_slot → Wp p l e room_1 s m #[.int x0, .int x1, .int x2, .int x3, .int x4] below meth c n0 room_1.cells room_1.slots (fun v h => v = some (.int 1)) hm153 6 58 (mkF m 153 #[.val (.int x0), .val (.int x1), .val (.int x2), .val (.int x3), .val (.int x4), .val (.int (perm x0)), .val (.int (perm x1)), .val (.int (perm x2)), .val (.int (x3 &&& (3 : Int32))), .val (.int (((x3.toUInt32 >>> ((2 : Int32) &&& 31).toUInt32).toInt32) &&& (15 : Int32))), .val (.ref a1), .val (.ref a3), .val (.ref a5), .val (.ref a7), .unset, .unset, .unset, .unset, .unset, .unset] []) := by
    intro f153_a1_end f153_a1_size g153_sa2_1 g153_sa2_2 g153_sa2_3 g153_la2_1 g153_la2_2 g153_la2_3 f153_a7_slot f125_a3_slot f139_a5_slot hm153 hz hk u_g153_sa2_1 u_g153_sa2_2 u_g153_sa2_3 c_f153_a7_slot c_f125_a3_slot c_f139_a5_slot O_a1 O_sa2 O_la2 O_a3 O_a5 O_a7 hr
    change _ = (if ((((x3.toUInt32 >>> ((2 : Int32) &&& 31).toUInt32).toInt32) &&& (15 : Int32)) &&& (8 : Int32)) = 0 then (law_168 x0 x1 x2 x3 x4 a3 a5 a7 f153_a1_end f153_a1_size g153_sa2_1 g153_la2_1 f125_a3_slot f139_a5_slot g153_sa2_2 g153_sa2_3 g153_la2_2 g153_la2_3 f153_a7_slot) else (if f125_a3_slot = (-1 : Int32) then (law_168 x0 x1 x2 x3 x4 a3 a5 a7 f153_a1_end f153_a1_size g153_sa2_1 g153_la2_1 (-1 : Int32) f139_a5_slot g153_sa2_2 g153_sa2_3 g153_la2_2 g153_la2_3 f153_a7_slot) else (law_168 x0 x1 x2 x3 x4 a3 a5 a7 (endF f153_a1_size f153_a1_end) (f153_a1_size - (1 : Int32)) .null EMP (-1 : Int32) f139_a5_slot g153_sa2_2 g153_sa2_3 g153_la2_2 g153_la2_3 f153_a7_slot))) at hr
    refine w_iload (pc' := 155) C at_153 rfl rfl ?_
    refine w_bipush (pc' := 157) (x := (8 : Int32)) C at_155 rfl rfl ?_
    refine w_iand (pc' := 158) C at_157 rfl ?_
    refine w_if_eq (pcT := 168) (pcF := 161) C at_158 (by decide) (by decide) rfl (fun q158 => ?_) (fun q158 => ?_)
    · have hr := hr.trans (if_pos q158)
      exact K168 f153_a1_end f153_a1_size g153_sa2_1 g153_la2_1 f125_a3_slot f139_a5_slot g153_sa2_2 g153_sa2_3 g153_la2_2 g153_la2_3 f153_a7_slot hm153 hz hk (by first | assumption | exact fc_ref (by first | assumption | rfl) (by first | assumption | rfl) (by first | assumption | rfl) | rfl) c_f125_a3_slot c_f139_a5_slot (by first | assumption | exact fc_ref (by first | assumption | rfl) (by first | assumption | rfl) (by first | assumption | rfl) | rfl) (by first | assumption | exact fc_ref (by first | assumption | rfl) (by first | assumption | rfl) (by first | assumption | rfl) | rfl) c_f153_a7_slot O_a1 O_sa2 O_la2 O_a3 O_a5 O_a7 hr
    · have hr := hr.trans (if_neg q158)
      refine w_aload (pc' := 163) C at_161 rfl rfl rfl ?_
      refine w_aload (pc' := 165) C at_163 rfl rfl rfl ?_
      rcases c_f125_a3_slot with rfl | rfl
      · skip
        have hr := hr.trans (if_pos rfl)
        refine w_callV (Cl := "tallygate/RequestQueue") (pc' := 168) (argsL := [.ref a3]) (st := []) (W := 0) (ce' := 6) (sl' := 58) C (tw hw 84 rfl) (tw hw 85 rfl) (tw hw 87 rfl) (tw hw 86 rfl) (tw hw 11 rfl) (tw hw 88 rfl) (by decide) at_165 rfl rfl (by decide) (by decide) (Nat.le_of_eq rfl) rfl rfl (by decide) (by decide) rfl (lenOf pd_9 rfl) O_a1.1 (ct_remN hw hm153 n0 a1 a3 sa2 la2 f153_a1_end f153_a1_size (perm x0) g153_sa2_1 g153_sa2_2 g153_sa2_3 g153_la2_1 g153_la2_2 g153_la2_3 hz O_a1 O_sa2 O_la2 O_a3 g_a1 g_sa2 g_la2 g_a3 ne_a1_sa2 ne_a1_la2 ne_sa2_la2 (Ne.symm ne_a1_a3) (Ne.symm ne_sa2_a3) (Ne.symm ne_la2_a3)) (k0 (fun h41 q41 => ?_))
        obtain ⟨P_a1, P_sa2, P_la2, P_a3, K41⟩ := q41
        have O_a5 := O_a5.keep K41 (ninS (Ne.symm ne_a1_a5) (ninS (Ne.symm ne_sa2_a5) (ninS (Ne.symm ne_la2_a5) (ninS (Ne.symm ne_a3_a5) nin0))))
        have O_a7 := O_a7.keep K41 (ninS (Ne.symm ne_a1_a7) (ninS (Ne.symm ne_sa2_a7) (ninS (Ne.symm ne_la2_a7) (ninS (Ne.symm ne_a3_a7) nin0))))
        have hz : n0 ≤ h41.size := Nat.le_trans hz K41.1
        have hk := Keep.app hk K41 (fun x hx => Or.inl hx) (allS (Or.inr fr_a1) (allS (Or.inr fr_sa2) (allS (Or.inr fr_la2) (allS (Or.inr fr_a3) all0))))
        have O_a1 := P_a1
        have O_sa2 := P_sa2
        have O_la2 := P_la2
        have O_a3 := P_a3
        exact K168 f153_a1_end f153_a1_size g153_sa2_1 g153_la2_1 (-1 : Int32) f139_a5_slot g153_sa2_2 g153_sa2_3 g153_la2_2 g153_la2_3 f153_a7_slot h41 hz hk (by first | assumption | exact fc_ref (by first | assumption | rfl) (by first | assumption | rfl) (by first | assumption | rfl) | rfl) (Or.inl rfl) c_f139_a5_slot (by first | assumption | exact fc_ref (by first | assumption | rfl) (by first | assumption | rfl) (by first | assumption | rfl) | rfl) (by first | assumption | exact fc_ref (by first | assumption | rfl) (by first | assumption | rfl) (by first | assumption | rfl) | rfl) c_f153_a7_slot O_a1 O_sa2 O_la2 O_a3 O_a5 O_a7 hr
      · skip
        have hr := hr.trans (if_neg (by decide))
        refine w_callV (Cl := "tallygate/RequestQueue") (pc' := 168) (argsL := [.ref a3]) (st := []) (W := 0) (ce' := 6) (sl' := 58) C (tw hw 84 rfl) (tw hw 85 rfl) (tw hw 87 rfl) (tw hw 86 rfl) (tw hw 11 rfl) (tw hw 88 rfl) (by decide) at_165 rfl rfl (by decide) (by decide) (Nat.le_of_eq rfl) rfl rfl (by decide) (by decide) rfl (lenOf pd_9 rfl) O_a1.1 (ct_rem0 hw hm153 n0 a1 a3 sa2 la2 f153_a1_end f153_a1_size (perm x0) g153_sa2_1 g153_sa2_2 g153_sa2_3 g153_la2_1 g153_la2_2 g153_la2_3 hz O_a1 O_sa2 O_la2 O_a3 g_a1 g_sa2 g_la2 g_a3 ne_a1_sa2 ne_a1_la2 ne_sa2_la2 (Ne.symm ne_a1_a3) (Ne.symm ne_sa2_a3) (Ne.symm ne_la2_a3)) (k0 (fun h42 q42 => ?_))
        obtain ⟨P_a1, P_sa2, P_la2, P_a3, K42⟩ := q42
        have O_a5 := O_a5.keep K42 (ninS (Ne.symm ne_a1_a5) (ninS (Ne.symm ne_sa2_a5) (ninS (Ne.symm ne_la2_a5) (ninS (Ne.symm ne_a3_a5) nin0))))
        have O_a7 := O_a7.keep K42 (ninS (Ne.symm ne_a1_a7) (ninS (Ne.symm ne_sa2_a7) (ninS (Ne.symm ne_la2_a7) (ninS (Ne.symm ne_a3_a7) nin0))))
        have hz : n0 ≤ h42.size := Nat.le_trans hz K42.1
        have hk := Keep.app hk K42 (fun x hx => Or.inl hx) (allS (Or.inr fr_a1) (allS (Or.inr fr_sa2) (allS (Or.inr fr_la2) (allS (Or.inr fr_a3) all0))))
        have O_a1 := P_a1
        have O_sa2 := P_sa2
        have O_la2 := P_la2
        have O_a3 := P_a3
        exact K168 (endF f153_a1_size f153_a1_end) (f153_a1_size - (1 : Int32)) .null EMP (-1 : Int32) f139_a5_slot g153_sa2_2 g153_sa2_3 g153_la2_2 g153_la2_3 f153_a7_slot h42 hz hk rfl (Or.inl rfl) c_f139_a5_slot (by first | assumption | exact fc_ref (by first | assumption | rfl) (by first | assumption | rfl) (by first | assumption | rfl) | rfl) (by first | assumption | exact fc_ref (by first | assumption | rfl) (by first | assumption | rfl) (by first | assumption | rfl) | rfl) c_f153_a7_slot O_a1 O_sa2 O_la2 O_a3 O_a5 O_a7 hr
  have K139 : ∀ (f139_a1_end : Int32) (f139_a1_size : Int32) (g139_sa2_1 : Value) (g139_sa2_2 : Value) (g139_la2_1 : Int64) (g139_la2_2 : Int64) (f139_a5_slot : Int32) (g111_sa2_3 : Value) (g111_la2_3 : Int64) (f111_a7_slot : Int32) (f125_a3_slot : Int32) (hm139 : Heap), n0 ≤ hm139.size → Keep h0 hm139 [] → g139_sa2_1.isRef = true → g139_sa2_2.isRef = true → f139_a5_slot = (-1 : Int32) ∨ f139_a5_slot = (0 : Int32) ∨ f139_a5_slot = (1 : Int32) → g111_sa2_3.isRef = true → f111_a7_slot = (-1 : Int32) ∨ f111_a7_slot = (0 : Int32) ∨ f111_a7_slot = (1 : Int32) ∨ f111_a7_slot = (2 : Int32) → f125_a3_slot = (-1 : Int32) ∨ f125_a3_slot = (0 : Int32) → Obj Z hm139 a1 "tallygate/RequestQueue" [("slots", "[Ltallygate/RequestQueue$Entry;", .ref sa2), ("least", "[J", .ref la2), ("end", "I", .int f139_a1_end), ("size", "I", .int f139_a1_size)] → ArR Z hm139 sa2 "tallygate/RequestQueue$Entry" (sl3 g139_sa2_1 g139_sa2_2 g111_sa2_3) → Ar Z hm139 la2 .long (tr3 g139_la2_1 g139_la2_2 g111_la2_3) → Obj Z hm139 a3 "tallygate/RequestQueue$Entry" [("slot", "I", .int f125_a3_slot), ("permits", "I", .int (perm x0))] → Obj Z hm139 a5 "tallygate/RequestQueue$Entry" [("slot", "I", .int f139_a5_slot), ("permits", "I", .int (perm x1))] → Obj Z hm139 a7 "tallygate/RequestQueue$Entry" [("slot", "I", .int f111_a7_slot), ("permits", "I", .int (perm x2))] → law x0 x1 x2 x3 x4 a3 a5 a7 = law_139 x0 x1 x2 x3 x4 a3 a5 a7 f139_a1_end f139_a1_size g139_sa2_1 g139_sa2_2 g139_la2_1 g139_la2_2 f139_a5_slot g111_sa2_3 g111_la2_3 f111_a7_slot f125_a3_slot → Wp p l e room_1 s m #[.int x0, .int x1, .int x2, .int x3, .int x4] below meth c n0 room_1.cells room_1.slots (fun v h => v = some (.int 1)) hm139 6 58 (mkF m 139 #[.val (.int x0), .val (.int x1), .val (.int x2), .val (.int x3), .val (.int x4), .val (.int (perm x0)), .val (.int (perm x1)), .val (.int (perm x2)), .val (.int (x3 &&& (3 : Int32))), .val (.int (((x3.toUInt32 >>> ((2 : Int32) &&& 31).toUInt32).toInt32) &&& (15 : Int32))), .val (.ref a1), .val (.ref a3), .val (.ref a5), .val (.ref a7), .unset, .unset, .unset, .unset, .unset, .unset] []) := by
    intro f139_a1_end f139_a1_size g139_sa2_1 g139_sa2_2 g139_la2_1 g139_la2_2 f139_a5_slot g111_sa2_3 g111_la2_3 f111_a7_slot f125_a3_slot hm139 hz hk u_g139_sa2_1 u_g139_sa2_2 c_f139_a5_slot u_g111_sa2_3 c_f111_a7_slot c_f125_a3_slot O_a1 O_sa2 O_la2 O_a3 O_a5 O_a7 hr
    change _ = (if ((((x3.toUInt32 >>> ((2 : Int32) &&& 31).toUInt32).toInt32) &&& (15 : Int32)) &&& (4 : Int32)) = 0 then (law_153 x0 x1 x2 x3 x4 a3 a5 a7 f139_a1_end f139_a1_size g139_sa2_1 g139_sa2_2 g111_sa2_3 g139_la2_1 g139_la2_2 g111_la2_3 f111_a7_slot f125_a3_slot f139_a5_slot) else (if f111_a7_slot = (-1 : Int32) then (law_153 x0 x1 x2 x3 x4 a3 a5 a7 f139_a1_end f139_a1_size g139_sa2_1 g139_sa2_2 g111_sa2_3 g139_la2_1 g139_la2_2 g111_la2_3 (-1 : Int32) f125_a3_slot f139_a5_slot) else (if f111_a7_slot = (0 : Int32) then (law_153 x0 x1 x2 x3 x4 a3 a5 a7 (endF f139_a1_size f139_a1_end) (f139_a1_size - (1 : Int32)) .null g139_sa2_2 g111_sa2_3 EMP g139_la2_2 g111_la2_3 (-1 : Int32) f125_a3_slot f139_a5_slot) else (if f111_a7_slot = (1 : Int32) then (law_153 x0 x1 x2 x3 x4 a3 a5 a7 (endF f139_a1_size f139_a1_end) (f139_a1_size - (1 : Int32)) g139_sa2_1 .null g111_sa2_3 g139_la2_1 EMP g111_la2_3 (-1 : Int32) f125_a3_slot f139_a5_slot) else (law_153 x0 x1 x2 x3 x4 a3 a5 a7 (endF f139_a1_size f139_a1_end) (f139_a1_size - (1 : Int32)) g139_sa2_1 g139_sa2_2 .null g139_la2_1 g139_la2_2 EMP (-1 : Int32) f125_a3_slot f139_a5_slot))))) at hr
    refine w_iload (pc' := 141) C at_139 rfl rfl ?_
    refine w_iconst (pc' := 142) (x := (4 : Int32)) C at_141 rfl rfl ?_
    refine w_iand (pc' := 143) C at_142 rfl ?_
    refine w_if_eq (pcT := 153) (pcF := 146) C at_143 (by decide) (by decide) rfl (fun q143 => ?_) (fun q143 => ?_)
    · have hr := hr.trans (if_pos q143)
      exact K153 f139_a1_end f139_a1_size g139_sa2_1 g139_sa2_2 g111_sa2_3 g139_la2_1 g139_la2_2 g111_la2_3 f111_a7_slot f125_a3_slot f139_a5_slot hm139 hz hk (by first | assumption | exact fc_ref (by first | assumption | rfl) (by first | assumption | rfl) (by first | assumption | rfl) | rfl) (by first | assumption | exact fc_ref (by first | assumption | rfl) (by first | assumption | rfl) (by first | assumption | rfl) | rfl) (by first | assumption | exact fc_ref (by first | assumption | rfl) (by first | assumption | rfl) (by first | assumption | rfl) | rfl) c_f111_a7_slot c_f125_a3_slot c_f139_a5_slot O_a1 O_sa2 O_la2 O_a3 O_a5 O_a7 hr
    · have hr := hr.trans (if_neg q143)
      refine w_aload (pc' := 148) C at_146 rfl rfl rfl ?_
      refine w_aload (pc' := 150) C at_148 rfl rfl rfl ?_
      rcases c_f111_a7_slot with rfl | rfl | rfl | rfl
      · skip
        have hr := hr.trans (if_pos rfl)
        refine w_callV (Cl := "tallygate/RequestQueue") (pc' := 153) (argsL := [.ref a7]) (st := []) (W := 0) (ce' := 6) (sl' := 58) C (tw hw 84 rfl) (tw hw 85 rfl) (tw hw 87 rfl) (tw hw 86 rfl) (tw hw 11 rfl) (tw hw 88 rfl) (by decide) at_150 rfl rfl (by decide) (by decide) (Nat.le_of_eq rfl) rfl rfl (by decide) (by decide) rfl (lenOf pd_9 rfl) O_a1.1 (ct_remN hw hm139 n0 a1 a7 sa2 la2 f139_a1_end f139_a1_size (perm x2) g139_sa2_1 g139_sa2_2 g111_sa2_3 g139_la2_1 g139_la2_2 g111_la2_3 hz O_a1 O_sa2 O_la2 O_a7 g_a1 g_sa2 g_la2 g_a7 ne_a1_sa2 ne_a1_la2 ne_sa2_la2 (Ne.symm ne_a1_a7) (Ne.symm ne_sa2_a7) (Ne.symm ne_la2_a7)) (k0 (fun h37 q37 => ?_))
        obtain ⟨P_a1, P_sa2, P_la2, P_a7, K37⟩ := q37
        have O_a3 := O_a3.keep K37 (ninS (Ne.symm ne_a1_a3) (ninS (Ne.symm ne_sa2_a3) (ninS (Ne.symm ne_la2_a3) (ninS ne_a3_a7 nin0))))
        have O_a5 := O_a5.keep K37 (ninS (Ne.symm ne_a1_a5) (ninS (Ne.symm ne_sa2_a5) (ninS (Ne.symm ne_la2_a5) (ninS ne_a5_a7 nin0))))
        have hz : n0 ≤ h37.size := Nat.le_trans hz K37.1
        have hk := Keep.app hk K37 (fun x hx => Or.inl hx) (allS (Or.inr fr_a1) (allS (Or.inr fr_sa2) (allS (Or.inr fr_la2) (allS (Or.inr fr_a7) all0))))
        have O_a1 := P_a1
        have O_sa2 := P_sa2
        have O_la2 := P_la2
        have O_a7 := P_a7
        exact K153 f139_a1_end f139_a1_size g139_sa2_1 g139_sa2_2 g111_sa2_3 g139_la2_1 g139_la2_2 g111_la2_3 (-1 : Int32) f125_a3_slot f139_a5_slot h37 hz hk (by first | assumption | exact fc_ref (by first | assumption | rfl) (by first | assumption | rfl) (by first | assumption | rfl) | rfl) (by first | assumption | exact fc_ref (by first | assumption | rfl) (by first | assumption | rfl) (by first | assumption | rfl) | rfl) (by first | assumption | exact fc_ref (by first | assumption | rfl) (by first | assumption | rfl) (by first | assumption | rfl) | rfl) (Or.inl rfl) c_f125_a3_slot c_f139_a5_slot O_a1 O_sa2 O_la2 O_a3 O_a5 O_a7 hr
      · skip
        have hr := hr.trans (if_neg (by decide))
        have hr := hr.trans (if_pos rfl)
        refine w_callV (Cl := "tallygate/RequestQueue") (pc' := 153) (argsL := [.ref a7]) (st := []) (W := 0) (ce' := 6) (sl' := 58) C (tw hw 84 rfl) (tw hw 85 rfl) (tw hw 87 rfl) (tw hw 86 rfl) (tw hw 11 rfl) (tw hw 88 rfl) (by decide) at_150 rfl rfl (by decide) (by decide) (Nat.le_of_eq rfl) rfl rfl (by decide) (by decide) rfl (lenOf pd_9 rfl) O_a1.1 (ct_rem0 hw hm139 n0 a1 a7 sa2 la2 f139_a1_end f139_a1_size (perm x2) g139_sa2_1 g139_sa2_2 g111_sa2_3 g139_la2_1 g139_la2_2 g111_la2_3 hz O_a1 O_sa2 O_la2 O_a7 g_a1 g_sa2 g_la2 g_a7 ne_a1_sa2 ne_a1_la2 ne_sa2_la2 (Ne.symm ne_a1_a7) (Ne.symm ne_sa2_a7) (Ne.symm ne_la2_a7)) (k0 (fun h38 q38 => ?_))
        obtain ⟨P_a1, P_sa2, P_la2, P_a7, K38⟩ := q38
        have O_a3 := O_a3.keep K38 (ninS (Ne.symm ne_a1_a3) (ninS (Ne.symm ne_sa2_a3) (ninS (Ne.symm ne_la2_a3) (ninS ne_a3_a7 nin0))))
        have O_a5 := O_a5.keep K38 (ninS (Ne.symm ne_a1_a5) (ninS (Ne.symm ne_sa2_a5) (ninS (Ne.symm ne_la2_a5) (ninS ne_a5_a7 nin0))))
        have hz : n0 ≤ h38.size := Nat.le_trans hz K38.1
        have hk := Keep.app hk K38 (fun x hx => Or.inl hx) (allS (Or.inr fr_a1) (allS (Or.inr fr_sa2) (allS (Or.inr fr_la2) (allS (Or.inr fr_a7) all0))))
        have O_a1 := P_a1
        have O_sa2 := P_sa2
        have O_la2 := P_la2
        have O_a7 := P_a7
        exact K153 (endF f139_a1_size f139_a1_end) (f139_a1_size - (1 : Int32)) .null g139_sa2_2 g111_sa2_3 EMP g139_la2_2 g111_la2_3 (-1 : Int32) f125_a3_slot f139_a5_slot h38 hz hk rfl (by first | assumption | exact fc_ref (by first | assumption | rfl) (by first | assumption | rfl) (by first | assumption | rfl) | rfl) (by first | assumption | exact fc_ref (by first | assumption | rfl) (by first | assumption | rfl) (by first | assumption | rfl) | rfl) (Or.inl rfl) c_f125_a3_slot c_f139_a5_slot O_a1 O_sa2 O_la2 O_a3 O_a5 O_a7 hr
      · skip
        have hr := hr.trans (if_neg (by decide))
        have hr := hr.trans (if_neg (by decide))
        have hr := hr.trans (if_pos rfl)
        refine w_callV (Cl := "tallygate/RequestQueue") (pc' := 153) (argsL := [.ref a7]) (st := []) (W := 0) (ce' := 6) (sl' := 58) C (tw hw 84 rfl) (tw hw 85 rfl) (tw hw 87 rfl) (tw hw 86 rfl) (tw hw 11 rfl) (tw hw 88 rfl) (by decide) at_150 rfl rfl (by decide) (by decide) (Nat.le_of_eq rfl) rfl rfl (by decide) (by decide) rfl (lenOf pd_9 rfl) O_a1.1 (ct_rem1 hw hm139 n0 a1 a7 sa2 la2 f139_a1_end f139_a1_size (perm x2) g139_sa2_1 g139_sa2_2 g111_sa2_3 g139_la2_1 g139_la2_2 g111_la2_3 hz O_a1 O_sa2 O_la2 O_a7 g_a1 g_sa2 g_la2 g_a7 ne_a1_sa2 ne_a1_la2 ne_sa2_la2 (Ne.symm ne_a1_a7) (Ne.symm ne_sa2_a7) (Ne.symm ne_la2_a7)) (k0 (fun h39 q39 => ?_))
        obtain ⟨P_a1, P_sa2, P_la2, P_a7, K39⟩ := q39
        have O_a3 := O_a3.keep K39 (ninS (Ne.symm ne_a1_a3) (ninS (Ne.symm ne_sa2_a3) (ninS (Ne.symm ne_la2_a3) (ninS ne_a3_a7 nin0))))
        have O_a5 := O_a5.keep K39 (ninS (Ne.symm ne_a1_a5) (ninS (Ne.symm ne_sa2_a5) (ninS (Ne.symm ne_la2_a5) (ninS ne_a5_a7 nin0))))
        have hz : n0 ≤ h39.size := Nat.le_trans hz K39.1
        have hk := Keep.app hk K39 (fun x hx => Or.inl hx) (allS (Or.inr fr_a1) (allS (Or.inr fr_sa2) (allS (Or.inr fr_la2) (allS (Or.inr fr_a7) all0))))
        have O_a1 := P_a1
        have O_sa2 := P_sa2
        have O_la2 := P_la2
        have O_a7 := P_a7
        exact K153 (endF f139_a1_size f139_a1_end) (f139_a1_size - (1 : Int32)) g139_sa2_1 .null g111_sa2_3 g139_la2_1 EMP g111_la2_3 (-1 : Int32) f125_a3_slot f139_a5_slot h39 hz hk (by first | assumption | exact fc_ref (by first | assumption | rfl) (by first | assumption | rfl) (by first | assumption | rfl) | rfl) rfl (by first | assumption | exact fc_ref (by first | assumption | rfl) (by first | assumption | rfl) (by first | assumption | rfl) | rfl) (Or.inl rfl) c_f125_a3_slot c_f139_a5_slot O_a1 O_sa2 O_la2 O_a3 O_a5 O_a7 hr
      · skip
        have hr := hr.trans (if_neg (by decide))
        have hr := hr.trans (if_neg (by decide))
        have hr := hr.trans (if_neg (by decide))
        refine w_callV (Cl := "tallygate/RequestQueue") (pc' := 153) (argsL := [.ref a7]) (st := []) (W := 0) (ce' := 6) (sl' := 58) C (tw hw 84 rfl) (tw hw 85 rfl) (tw hw 87 rfl) (tw hw 86 rfl) (tw hw 11 rfl) (tw hw 88 rfl) (by decide) at_150 rfl rfl (by decide) (by decide) (Nat.le_of_eq rfl) rfl rfl (by decide) (by decide) rfl (lenOf pd_9 rfl) O_a1.1 (ct_rem2 hw hm139 n0 a1 a7 sa2 la2 f139_a1_end f139_a1_size (perm x2) g139_sa2_1 g139_sa2_2 g111_sa2_3 g139_la2_1 g139_la2_2 g111_la2_3 hz O_a1 O_sa2 O_la2 O_a7 g_a1 g_sa2 g_la2 g_a7 ne_a1_sa2 ne_a1_la2 ne_sa2_la2 (Ne.symm ne_a1_a7) (Ne.symm ne_sa2_a7) (Ne.symm ne_la2_a7)) (k0 (fun h40 q40 => ?_))
        obtain ⟨P_a1, P_sa2, P_la2, P_a7, K40⟩ := q40
        have O_a3 := O_a3.keep K40 (ninS (Ne.symm ne_a1_a3) (ninS (Ne.symm ne_sa2_a3) (ninS (Ne.symm ne_la2_a3) (ninS ne_a3_a7 nin0))))
        have O_a5 := O_a5.keep K40 (ninS (Ne.symm ne_a1_a5) (ninS (Ne.symm ne_sa2_a5) (ninS (Ne.symm ne_la2_a5) (ninS ne_a5_a7 nin0))))
        have hz : n0 ≤ h40.size := Nat.le_trans hz K40.1
        have hk := Keep.app hk K40 (fun x hx => Or.inl hx) (allS (Or.inr fr_a1) (allS (Or.inr fr_sa2) (allS (Or.inr fr_la2) (allS (Or.inr fr_a7) all0))))
        have O_a1 := P_a1
        have O_sa2 := P_sa2
        have O_la2 := P_la2
        have O_a7 := P_a7
        exact K153 (endF f139_a1_size f139_a1_end) (f139_a1_size - (1 : Int32)) g139_sa2_1 g139_sa2_2 .null g139_la2_1 g139_la2_2 EMP (-1 : Int32) f125_a3_slot f139_a5_slot h40 hz hk (by first | assumption | exact fc_ref (by first | assumption | rfl) (by first | assumption | rfl) (by first | assumption | rfl) | rfl) (by first | assumption | exact fc_ref (by first | assumption | rfl) (by first | assumption | rfl) (by first | assumption | rfl) | rfl) rfl (Or.inl rfl) c_f125_a3_slot c_f139_a5_slot O_a1 O_sa2 O_la2 O_a3 O_a5 O_a7 hr
  have K125 : ∀ (f125_a1_end : Int32) (f125_a1_size : Int32) (g125_sa2_1 : Value) (g125_la2_1 : Int64) (f125_a3_slot : Int32) (f98_a5_slot : Int32) (g111_sa2_2 : Value) (g111_sa2_3 : Value) (g111_la2_2 : Int64) (g111_la2_3 : Int64) (f111_a7_slot : Int32) (hm125 : Heap), n0 ≤ hm125.size → Keep h0 hm125 [] → g125_sa2_1.isRef = true → f125_a3_slot = (-1 : Int32) ∨ f125_a3_slot = (0 : Int32) → f98_a5_slot = (-1 : Int32) ∨ f98_a5_slot = (0 : Int32) ∨ f98_a5_slot = (1 : Int32) → g111_sa2_2.isRef = true → g111_sa2_3.isRef = true → f111_a7_slot = (-1 : Int32) ∨ f111_a7_slot = (0 : Int32) ∨ f111_a7_slot = (1 : Int32) ∨ f111_a7_slot = (2 : Int32) → Obj Z hm125 a1 "tallygate/RequestQueue" [("slots", "[Ltallygate/RequestQueue$Entry;", .ref sa2), ("least", "[J", .ref la2), ("end", "I", .int f125_a1_end), ("size", "I", .int f125_a1_size)] → ArR Z hm125 sa2 "tallygate/RequestQueue$Entry" (sl3 g125_sa2_1 g111_sa2_2 g111_sa2_3) → Ar Z hm125 la2 .long (tr3 g125_la2_1 g111_la2_2 g111_la2_3) → Obj Z hm125 a3 "tallygate/RequestQueue$Entry" [("slot", "I", .int f125_a3_slot), ("permits", "I", .int (perm x0))] → Obj Z hm125 a5 "tallygate/RequestQueue$Entry" [("slot", "I", .int f98_a5_slot), ("permits", "I", .int (perm x1))] → Obj Z hm125 a7 "tallygate/RequestQueue$Entry" [("slot", "I", .int f111_a7_slot), ("permits", "I", .int (perm x2))] → law x0 x1 x2 x3 x4 a3 a5 a7 = law_125 x0 x1 x2 x3 x4 a3 a5 a7 f125_a1_end f125_a1_size g125_sa2_1 g125_la2_1 f125_a3_slot f98_a5_slot g111_sa2_2 g111_sa2_3 g111_la2_2 g111_la2_3 f111_a7_slot → Wp p l e room_1 s m #[.int x0, .int x1, .int x2, .int x3, .int x4] below meth c n0 room_1.cells room_1.slots (fun v h => v = some (.int 1)) hm125 6 58 (mkF m 125 #[.val (.int x0), .val (.int x1), .val (.int x2), .val (.int x3), .val (.int x4), .val (.int (perm x0)), .val (.int (perm x1)), .val (.int (perm x2)), .val (.int (x3 &&& (3 : Int32))), .val (.int (((x3.toUInt32 >>> ((2 : Int32) &&& 31).toUInt32).toInt32) &&& (15 : Int32))), .val (.ref a1), .val (.ref a3), .val (.ref a5), .val (.ref a7), .unset, .unset, .unset, .unset, .unset, .unset] []) := by
    intro f125_a1_end f125_a1_size g125_sa2_1 g125_la2_1 f125_a3_slot f98_a5_slot g111_sa2_2 g111_sa2_3 g111_la2_2 g111_la2_3 f111_a7_slot hm125 hz hk u_g125_sa2_1 c_f125_a3_slot c_f98_a5_slot u_g111_sa2_2 u_g111_sa2_3 c_f111_a7_slot O_a1 O_sa2 O_la2 O_a3 O_a5 O_a7 hr
    change _ = (if ((((x3.toUInt32 >>> ((2 : Int32) &&& 31).toUInt32).toInt32) &&& (15 : Int32)) &&& (2 : Int32)) = 0 then (law_139 x0 x1 x2 x3 x4 a3 a5 a7 f125_a1_end f125_a1_size g125_sa2_1 g111_sa2_2 g125_la2_1 g111_la2_2 f98_a5_slot g111_sa2_3 g111_la2_3 f111_a7_slot f125_a3_slot) else (if f98_a5_slot = (-1 : Int32) then (law_139 x0 x1 x2 x3 x4 a3 a5 a7 f125_a1_end f125_a1_size g125_sa2_1 g111_sa2_2 g125_la2_1 g111_la2_2 (-1 : Int32) g111_sa2_3 g111_la2_3 f111_a7_slot f125_a3_slot) else (if f98_a5_slot = (0 : Int32) then (law_139 x0 x1 x2 x3 x4 a3 a5 a7 (endF f125_a1_size f125_a1_end) (f125_a1_size - (1 : Int32)) .null g111_sa2_2 EMP g111_la2_2 (-1 : Int32) g111_sa2_3 g111_la2_3 f111_a7_slot f125_a3_slot) else (law_139 x0 x1 x2 x3 x4 a3 a5 a7 (endF f125_a1_size f125_a1_end) (f125_a1_size - (1 : Int32)) g125_sa2_1 .null g125_la2_1 EMP (-1 : Int32) g111_sa2_3 g111_la2_3 f111_a7_slot f125_a3_slot)))) at hr
    refine w_iload (pc' := 127) C at_125 rfl rfl ?_
    refine w_iconst (pc' := 128) (x := (2 : Int32)) C at_127 rfl rfl ?_
    refine w_iand (pc' := 129) C at_128 rfl ?_
    refine w_if_eq (pcT := 139) (pcF := 132) C at_129 (by decide) (by decide) rfl (fun q129 => ?_) (fun q129 => ?_)
    · have hr := hr.trans (if_pos q129)
      exact K139 f125_a1_end f125_a1_size g125_sa2_1 g111_sa2_2 g125_la2_1 g111_la2_2 f98_a5_slot g111_sa2_3 g111_la2_3 f111_a7_slot f125_a3_slot hm125 hz hk (by first | assumption | exact fc_ref (by first | assumption | rfl) (by first | assumption | rfl) (by first | assumption | rfl) | rfl) (by first | assumption | exact fc_ref (by first | assumption | rfl) (by first | assumption | rfl) (by first | assumption | rfl) | rfl) c_f98_a5_slot (by first | assumption | exact fc_ref (by first | assumption | rfl) (by first | assumption | rfl) (by first | assumption | rfl) | rfl) c_f111_a7_slot c_f125_a3_slot O_a1 O_sa2 O_la2 O_a3 O_a5 O_a7 hr
    · have hr := hr.trans (if_neg q129)
      refine w_aload (pc' := 134) C at_132 rfl rfl rfl ?_
      refine w_aload (pc' := 136) C at_134 rfl rfl rfl ?_
      rcases c_f98_a5_slot with rfl | rfl | rfl
      · skip
        have hr := hr.trans (if_pos rfl)
        refine w_callV (Cl := "tallygate/RequestQueue") (pc' := 139) (argsL := [.ref a5]) (st := []) (W := 0) (ce' := 6) (sl' := 58) C (tw hw 84 rfl) (tw hw 85 rfl) (tw hw 87 rfl) (tw hw 86 rfl) (tw hw 11 rfl) (tw hw 88 rfl) (by decide) at_136 rfl rfl (by decide) (by decide) (Nat.le_of_eq rfl) rfl rfl (by decide) (by decide) rfl (lenOf pd_9 rfl) O_a1.1 (ct_remN hw hm125 n0 a1 a5 sa2 la2 f125_a1_end f125_a1_size (perm x1) g125_sa2_1 g111_sa2_2 g111_sa2_3 g125_la2_1 g111_la2_2 g111_la2_3 hz O_a1 O_sa2 O_la2 O_a5 g_a1 g_sa2 g_la2 g_a5 ne_a1_sa2 ne_a1_la2 ne_sa2_la2 (Ne.symm ne_a1_a5) (Ne.symm ne_sa2_a5) (Ne.symm ne_la2_a5)) (k0 (fun h34 q34 => ?_))
        obtain ⟨P_a1, P_sa2, P_la2, P_a5, K34⟩ := q34
        have O_a3 := O_a3.keep K34 (ninS (Ne.symm ne_a1_a3) (ninS (Ne.symm ne_sa2_a3) (ninS (Ne.symm ne_la2_a3) (ninS ne_a3_a5 nin0))))
        have O_a7 := O_a7.keep K34 (ninS (Ne.symm ne_a1_a7) (ninS (Ne.symm ne_sa2_a7) (ninS (Ne.symm ne_la2_a7) (ninS (Ne.symm ne_a5_a7) nin0))))
        have hz : n0 ≤ h34.size := Nat.le_trans hz K34.1
        have hk := Keep.app hk K34 (fun x hx => Or.inl hx) (allS (Or.inr fr_a1) (allS (Or.inr fr_sa2) (allS (Or.inr fr_la2) (allS (Or.inr fr_a5) all0))))
        have O_a1 := P_a1
        have O_sa2 := P_sa2
        have O_la2 := P_la2
        have O_a5 := P_a5
        exact K139 f125_a1_end f125_a1_size g125_sa2_1 g111_sa2_2 g125_la2_1 g111_la2_2 (-1 : Int32) g111_sa2_3 g111_la2_3 f111_a7_slot f125_a3_slot h34 hz hk (by first | assumption | exact fc_ref (by first | assumption | rfl) (by first | assumption | rfl) (by first | assumption | rfl) | rfl) (by first | assumption | exact fc_ref (by first | assumption | rfl) (by first | assumption | rfl) (by first | assumption | rfl) | rfl) (Or.inl rfl) (by first | assumption | exact fc_ref (by first | assumption | rfl) (by first | assumption | rfl) (by first | assumption | rfl) | rfl) c_f111_a7_slot c_f125_a3_slot O_a1 O_sa2 O_la2 O_a3 O_a5 O_a7 hr
      · skip
        have hr := hr.trans (if_neg (by decide))
        have hr := hr.trans (if_pos rfl)
        refine w_callV (Cl := "tallygate/RequestQueue") (pc' := 139) (argsL := [.ref a5]) (st := []) (W := 0) (ce' := 6) (sl' := 58) C (tw hw 84 rfl) (tw hw 85 rfl) (tw hw 87 rfl) (tw hw 86 rfl) (tw hw 11 rfl) (tw hw 88 rfl) (by decide) at_136 rfl rfl (by decide) (by decide) (Nat.le_of_eq rfl) rfl rfl (by decide) (by decide) rfl (lenOf pd_9 rfl) O_a1.1 (ct_rem0 hw hm125 n0 a1 a5 sa2 la2 f125_a1_end f125_a1_size (perm x1) g125_sa2_1 g111_sa2_2 g111_sa2_3 g125_la2_1 g111_la2_2 g111_la2_3 hz O_a1 O_sa2 O_la2 O_a5 g_a1 g_sa2 g_la2 g_a5 ne_a1_sa2 ne_a1_la2 ne_sa2_la2 (Ne.symm ne_a1_a5) (Ne.symm ne_sa2_a5) (Ne.symm ne_la2_a5)) (k0 (fun h35 q35 => ?_))
        obtain ⟨P_a1, P_sa2, P_la2, P_a5, K35⟩ := q35
        have O_a3 := O_a3.keep K35 (ninS (Ne.symm ne_a1_a3) (ninS (Ne.symm ne_sa2_a3) (ninS (Ne.symm ne_la2_a3) (ninS ne_a3_a5 nin0))))
        have O_a7 := O_a7.keep K35 (ninS (Ne.symm ne_a1_a7) (ninS (Ne.symm ne_sa2_a7) (ninS (Ne.symm ne_la2_a7) (ninS (Ne.symm ne_a5_a7) nin0))))
        have hz : n0 ≤ h35.size := Nat.le_trans hz K35.1
        have hk := Keep.app hk K35 (fun x hx => Or.inl hx) (allS (Or.inr fr_a1) (allS (Or.inr fr_sa2) (allS (Or.inr fr_la2) (allS (Or.inr fr_a5) all0))))
        have O_a1 := P_a1
        have O_sa2 := P_sa2
        have O_la2 := P_la2
        have O_a5 := P_a5
        exact K139 (endF f125_a1_size f125_a1_end) (f125_a1_size - (1 : Int32)) .null g111_sa2_2 EMP g111_la2_2 (-1 : Int32) g111_sa2_3 g111_la2_3 f111_a7_slot f125_a3_slot h35 hz hk rfl (by first | assumption | exact fc_ref (by first | assumption | rfl) (by first | assumption | rfl) (by first | assumption | rfl) | rfl) (Or.inl rfl) (by first | assumption | exact fc_ref (by first | assumption | rfl) (by first | assumption | rfl) (by first | assumption | rfl) | rfl) c_f111_a7_slot c_f125_a3_slot O_a1 O_sa2 O_la2 O_a3 O_a5 O_a7 hr
      · skip
        have hr := hr.trans (if_neg (by decide))
        have hr := hr.trans (if_neg (by decide))
        refine w_callV (Cl := "tallygate/RequestQueue") (pc' := 139) (argsL := [.ref a5]) (st := []) (W := 0) (ce' := 6) (sl' := 58) C (tw hw 84 rfl) (tw hw 85 rfl) (tw hw 87 rfl) (tw hw 86 rfl) (tw hw 11 rfl) (tw hw 88 rfl) (by decide) at_136 rfl rfl (by decide) (by decide) (Nat.le_of_eq rfl) rfl rfl (by decide) (by decide) rfl (lenOf pd_9 rfl) O_a1.1 (ct_rem1 hw hm125 n0 a1 a5 sa2 la2 f125_a1_end f125_a1_size (perm x1) g125_sa2_1 g111_sa2_2 g111_sa2_3 g125_la2_1 g111_la2_2 g111_la2_3 hz O_a1 O_sa2 O_la2 O_a5 g_a1 g_sa2 g_la2 g_a5 ne_a1_sa2 ne_a1_la2 ne_sa2_la2 (Ne.symm ne_a1_a5) (Ne.symm ne_sa2_a5) (Ne.symm ne_la2_a5)) (k0 (fun h36 q36 => ?_))
        obtain ⟨P_a1, P_sa2, P_la2, P_a5, K36⟩ := q36
        have O_a3 := O_a3.keep K36 (ninS (Ne.symm ne_a1_a3) (ninS (Ne.symm ne_sa2_a3) (ninS (Ne.symm ne_la2_a3) (ninS ne_a3_a5 nin0))))
        have O_a7 := O_a7.keep K36 (ninS (Ne.symm ne_a1_a7) (ninS (Ne.symm ne_sa2_a7) (ninS (Ne.symm ne_la2_a7) (ninS (Ne.symm ne_a5_a7) nin0))))
        have hz : n0 ≤ h36.size := Nat.le_trans hz K36.1
        have hk := Keep.app hk K36 (fun x hx => Or.inl hx) (allS (Or.inr fr_a1) (allS (Or.inr fr_sa2) (allS (Or.inr fr_la2) (allS (Or.inr fr_a5) all0))))
        have O_a1 := P_a1
        have O_sa2 := P_sa2
        have O_la2 := P_la2
        have O_a5 := P_a5
        exact K139 (endF f125_a1_size f125_a1_end) (f125_a1_size - (1 : Int32)) g125_sa2_1 .null g125_la2_1 EMP (-1 : Int32) g111_sa2_3 g111_la2_3 f111_a7_slot f125_a3_slot h36 hz hk (by first | assumption | exact fc_ref (by first | assumption | rfl) (by first | assumption | rfl) (by first | assumption | rfl) | rfl) rfl (Or.inl rfl) (by first | assumption | exact fc_ref (by first | assumption | rfl) (by first | assumption | rfl) (by first | assumption | rfl) | rfl) c_f111_a7_slot c_f125_a3_slot O_a1 O_sa2 O_la2 O_a3 O_a5 O_a7 hr
  have K111 : ∀ (f111_a1_end : Int32) (f111_a1_size : Int32) (g111_sa2_1 : Value) (g111_sa2_2 : Value) (g111_sa2_3 : Value) (g111_la2_1 : Int64) (g111_la2_2 : Int64) (g111_la2_3 : Int64) (f111_a7_slot : Int32) (f85_a3_slot : Int32) (f98_a5_slot : Int32) (hm111 : Heap), n0 ≤ hm111.size → Keep h0 hm111 [] → f111_a1_end = (0 : Int32) ∨ f111_a1_end = (1 : Int32) ∨ f111_a1_end = (2 : Int32) ∨ f111_a1_end = (3 : Int32) → g111_sa2_1.isRef = true → g111_sa2_2.isRef = true → g111_sa2_3.isRef = true → f111_a7_slot = (-1 : Int32) ∨ f111_a7_slot = (0 : Int32) ∨ f111_a7_slot = (1 : Int32) ∨ f111_a7_slot = (2 : Int32) → f85_a3_slot = (-1 : Int32) ∨ f85_a3_slot = (0 : Int32) → f98_a5_slot = (-1 : Int32) ∨ f98_a5_slot = (0 : Int32) ∨ f98_a5_slot = (1 : Int32) → Obj Z hm111 a1 "tallygate/RequestQueue" [("slots", "[Ltallygate/RequestQueue$Entry;", .ref sa2), ("least", "[J", .ref la2), ("end", "I", .int f111_a1_end), ("size", "I", .int f111_a1_size)] → ArR Z hm111 sa2 "tallygate/RequestQueue$Entry" (sl3 g111_sa2_1 g111_sa2_2 g111_sa2_3) → Ar Z hm111 la2 .long (tr3 g111_la2_1 g111_la2_2 g111_la2_3) → Obj Z hm111 a3 "tallygate/RequestQueue$Entry" [("slot", "I", .int f85_a3_slot), ("permits", "I", .int (perm x0))] → Obj Z hm111 a5 "tallygate/RequestQueue$Entry" [("slot", "I", .int f98_a5_slot), ("permits", "I", .int (perm x1))] → Obj Z hm111 a7 "tallygate/RequestQueue$Entry" [("slot", "I", .int f111_a7_slot), ("permits", "I", .int (perm x2))] → law x0 x1 x2 x3 x4 a3 a5 a7 = law_111 x0 x1 x2 x3 x4 a3 a5 a7 f111_a1_end f111_a1_size g111_sa2_1 g111_sa2_2 g111_sa2_3 g111_la2_1 g111_la2_2 g111_la2_3 f111_a7_slot f85_a3_slot f98_a5_slot → Wp p l e room_1 s m #[.int x0, .int x1, .int x2, .int x3, .int x4] below meth c n0 room_1.cells room_1.slots (fun v h => v = some (.int 1)) hm111 6 58 (mkF m 111 #[.val (.int x0), .val (.int x1), .val (.int x2), .val (.int x3), .val (.int x4), .val (.int (perm x0)), .val (.int (perm x1)), .val (.int (perm x2)), .val (.int (x3 &&& (3 : Int32))), .val (.int (((x3.toUInt32 >>> ((2 : Int32) &&& 31).toUInt32).toInt32) &&& (15 : Int32))), .val (.ref a1), .val (.ref a3), .val (.ref a5), .val (.ref a7), .unset, .unset, .unset, .unset, .unset, .unset] []) := by
    intro f111_a1_end f111_a1_size g111_sa2_1 g111_sa2_2 g111_sa2_3 g111_la2_1 g111_la2_2 g111_la2_3 f111_a7_slot f85_a3_slot f98_a5_slot hm111 hz hk c_f111_a1_end u_g111_sa2_1 u_g111_sa2_2 u_g111_sa2_3 c_f111_a7_slot c_f85_a3_slot c_f98_a5_slot O_a1 O_sa2 O_la2 O_a3 O_a5 O_a7 hr
    change _ = (if ((((x3.toUInt32 >>> ((2 : Int32) &&& 31).toUInt32).toInt32) &&& (15 : Int32)) &&& (1 : Int32)) = 0 then (law_125 x0 x1 x2 x3 x4 a3 a5 a7 f111_a1_end f111_a1_size g111_sa2_1 g111_la2_1 f85_a3_slot f98_a5_slot g111_sa2_2 g111_sa2_3 g111_la2_2 g111_la2_3 f111_a7_slot) else (if f85_a3_slot = (-1 : Int32) then (law_125 x0 x1 x2 x3 x4 a3 a5 a7 f111_a1_end f111_a1_size g111_sa2_1 g111_la2_1 (-1 : Int32) f98_a5_slot g111_sa2_2 g111_sa2_3 g111_la2_2 g111_la2_3 f111_a7_slot) else (law_125 x0 x1 x2 x3 x4 a3 a5 a7 (endF f111_a1_size f111_a1_end) (f111_a1_size - (1 : Int32)) .null EMP (-1 : Int32) f98_a5_slot g111_sa2_2 g111_sa2_3 g111_la2_2 g111_la2_3 f111_a7_slot))) at hr
    refine w_iload (pc' := 113) C at_111 rfl rfl ?_
    refine w_iconst (pc' := 114) (x := (1 : Int32)) C at_113 rfl rfl ?_
    refine w_iand (pc' := 115) C at_114 rfl ?_
    refine w_if_eq (pcT := 125) (pcF := 118) C at_115 (by decide) (by decide) rfl (fun q115 => ?_) (fun q115 => ?_)
    · have hr := hr.trans (if_pos q115)
      exact K125 f111_a1_end f111_a1_size g111_sa2_1 g111_la2_1 f85_a3_slot f98_a5_slot g111_sa2_2 g111_sa2_3 g111_la2_2 g111_la2_3 f111_a7_slot hm111 hz hk (by first | assumption | exact fc_ref (by first | assumption | rfl) (by first | assumption | rfl) (by first | assumption | rfl) | rfl) c_f85_a3_slot c_f98_a5_slot (by first | assumption | exact fc_ref (by first | assumption | rfl) (by first | assumption | rfl) (by first | assumption | rfl) | rfl) (by first | assumption | exact fc_ref (by first | assumption | rfl) (by first | assumption | rfl) (by first | assumption | rfl) | rfl) c_f111_a7_slot O_a1 O_sa2 O_la2 O_a3 O_a5 O_a7 hr
    · have hr := hr.trans (if_neg q115)
      refine w_aload (pc' := 120) C at_118 rfl rfl rfl ?_
      refine w_aload (pc' := 122) C at_120 rfl rfl rfl ?_
      rcases c_f85_a3_slot with rfl | rfl
      · skip
        have hr := hr.trans (if_pos rfl)
        refine w_callV (Cl := "tallygate/RequestQueue") (pc' := 125) (argsL := [.ref a3]) (st := []) (W := 0) (ce' := 6) (sl' := 58) C (tw hw 84 rfl) (tw hw 85 rfl) (tw hw 87 rfl) (tw hw 86 rfl) (tw hw 11 rfl) (tw hw 88 rfl) (by decide) at_122 rfl rfl (by decide) (by decide) (Nat.le_of_eq rfl) rfl rfl (by decide) (by decide) rfl (lenOf pd_9 rfl) O_a1.1 (ct_remN hw hm111 n0 a1 a3 sa2 la2 f111_a1_end f111_a1_size (perm x0) g111_sa2_1 g111_sa2_2 g111_sa2_3 g111_la2_1 g111_la2_2 g111_la2_3 hz O_a1 O_sa2 O_la2 O_a3 g_a1 g_sa2 g_la2 g_a3 ne_a1_sa2 ne_a1_la2 ne_sa2_la2 (Ne.symm ne_a1_a3) (Ne.symm ne_sa2_a3) (Ne.symm ne_la2_a3)) (k0 (fun h32 q32 => ?_))
        obtain ⟨P_a1, P_sa2, P_la2, P_a3, K32⟩ := q32
        have O_a5 := O_a5.keep K32 (ninS (Ne.symm ne_a1_a5) (ninS (Ne.symm ne_sa2_a5) (ninS (Ne.symm ne_la2_a5) (ninS (Ne.symm ne_a3_a5) nin0))))
        have O_a7 := O_a7.keep K32 (ninS (Ne.symm ne_a1_a7) (ninS (Ne.symm ne_sa2_a7) (ninS (Ne.symm ne_la2_a7) (ninS (Ne.symm ne_a3_a7) nin0))))
        have hz : n0 ≤ h32.size := Nat.le_trans hz K32.1
        have hk := Keep.app hk K32 (fun x hx => Or.inl hx) (allS (Or.inr fr_a1) (allS (Or.inr fr_sa2) (allS (Or.inr fr_la2) (allS (Or.inr fr_a3) all0))))
        have O_a1 := P_a1
        have O_sa2 := P_sa2
        have O_la2 := P_la2
        have O_a3 := P_a3
        exact K125 f111_a1_end f111_a1_size g111_sa2_1 g111_la2_1 (-1 : Int32) f98_a5_slot g111_sa2_2 g111_sa2_3 g111_la2_2 g111_la2_3 f111_a7_slot h32 hz hk (by first | assumption | exact fc_ref (by first | assumption | rfl) (by first | assumption | rfl) (by first | assumption | rfl) | rfl) (Or.inl rfl) c_f98_a5_slot (by first | assumption | exact fc_ref (by first | assumption | rfl) (by first | assumption | rfl) (by first | assumption | rfl) | rfl) (by first | assumption | exact fc_ref (by first | assumption | rfl) (by first | assumption | rfl) (by first | assumption | rfl) | rfl) c_f111_a7_slot O_a1 O_sa2 O_la2 O_a3 O_a5 O_a7 hr
      · skip
        have hr := hr.trans (if_neg (by decide))
        refine w_callV (Cl := "tallygate/RequestQueue") (pc' := 125) (argsL := [.ref a3]) (st := []) (W := 0) (ce' := 6) (sl' := 58) C (tw hw 84 rfl) (tw hw 85 rfl) (tw hw 87 rfl) (tw hw 86 rfl) (tw hw 11 rfl) (tw hw 88 rfl) (by decide) at_122 rfl rfl (by decide) (by decide) (Nat.le_of_eq rfl) rfl rfl (by decide) (by decide) rfl (lenOf pd_9 rfl) O_a1.1 (ct_rem0 hw hm111 n0 a1 a3 sa2 la2 f111_a1_end f111_a1_size (perm x0) g111_sa2_1 g111_sa2_2 g111_sa2_3 g111_la2_1 g111_la2_2 g111_la2_3 hz O_a1 O_sa2 O_la2 O_a3 g_a1 g_sa2 g_la2 g_a3 ne_a1_sa2 ne_a1_la2 ne_sa2_la2 (Ne.symm ne_a1_a3) (Ne.symm ne_sa2_a3) (Ne.symm ne_la2_a3)) (k0 (fun h33 q33 => ?_))
        obtain ⟨P_a1, P_sa2, P_la2, P_a3, K33⟩ := q33
        have O_a5 := O_a5.keep K33 (ninS (Ne.symm ne_a1_a5) (ninS (Ne.symm ne_sa2_a5) (ninS (Ne.symm ne_la2_a5) (ninS (Ne.symm ne_a3_a5) nin0))))
        have O_a7 := O_a7.keep K33 (ninS (Ne.symm ne_a1_a7) (ninS (Ne.symm ne_sa2_a7) (ninS (Ne.symm ne_la2_a7) (ninS (Ne.symm ne_a3_a7) nin0))))
        have hz : n0 ≤ h33.size := Nat.le_trans hz K33.1
        have hk := Keep.app hk K33 (fun x hx => Or.inl hx) (allS (Or.inr fr_a1) (allS (Or.inr fr_sa2) (allS (Or.inr fr_la2) (allS (Or.inr fr_a3) all0))))
        have O_a1 := P_a1
        have O_sa2 := P_sa2
        have O_la2 := P_la2
        have O_a3 := P_a3
        exact K125 (endF f111_a1_size f111_a1_end) (f111_a1_size - (1 : Int32)) .null EMP (-1 : Int32) f98_a5_slot g111_sa2_2 g111_sa2_3 g111_la2_2 g111_la2_3 f111_a7_slot h33 hz hk rfl (Or.inl rfl) c_f98_a5_slot (by first | assumption | exact fc_ref (by first | assumption | rfl) (by first | assumption | rfl) (by first | assumption | rfl) | rfl) (by first | assumption | exact fc_ref (by first | assumption | rfl) (by first | assumption | rfl) (by first | assumption | rfl) | rfl) c_f111_a7_slot O_a1 O_sa2 O_la2 O_a3 O_a5 O_a7 hr
  have K98 : ∀ (f98_a1_end : Int32) (f98_a1_size : Int32) (g98_sa2_1 : Value) (g98_sa2_2 : Value) (g98_la2_1 : Int64) (g98_la2_2 : Int64) (f98_a5_slot : Int32) (f85_a3_slot : Int32) (hm98 : Heap), n0 ≤ hm98.size → Keep h0 hm98 [] → f98_a1_end = (0 : Int32) ∨ f98_a1_end = (1 : Int32) ∨ f98_a1_end = (2 : Int32) → g98_sa2_1.isRef = true → g98_sa2_2.isRef = true → f98_a5_slot = (-1 : Int32) ∨ f98_a5_slot = (0 : Int32) ∨ f98_a5_slot = (1 : Int32) → f85_a3_slot = (-1 : Int32) ∨ f85_a3_slot = (0 : Int32) → Obj Z hm98 a1 "tallygate/RequestQueue" [("slots", "[Ltallygate/RequestQueue$Entry;", .ref sa2), ("least", "[J", .ref la2), ("end", "I", .int f98_a1_end), ("size", "I", .int f98_a1_size)] → ArR Z hm98 sa2 "tallygate/RequestQueue$Entry" (sl3 g98_sa2_1 g98_sa2_2 .null) → Ar Z hm98 la2 .long (tr3 g98_la2_1 g98_la2_2 EMP) → Obj Z hm98 a3 "tallygate/RequestQueue$Entry" [("slot", "I", .int f85_a3_slot), ("permits", "I", .int (perm x0))] → Obj Z hm98 a5 "tallygate/RequestQueue$Entry" [("slot", "I", .int f98_a5_slot), ("permits", "I", .int (perm x1))] → Obj Z hm98 a7 "tallygate/RequestQueue$Entry" [("slot", "I", .int (-1 : Int32)), ("permits", "I", .int (perm x2))] → law x0 x1 x2 x3 x4 a3 a5 a7 = law_98 x0 x1 x2 x3 x4 a3 a5 a7 f98_a1_end f98_a1_size g98_sa2_1 g98_sa2_2 g98_la2_1 g98_la2_2 f98_a5_slot f85_a3_slot → Wp p l e room_1 s m #[.int x0, .int x1, .int x2, .int x3, .int x4] below meth c n0 room_1.cells room_1.slots (fun v h => v = some (.int 1)) hm98 6 58 (mkF m 98 #[.val (.int x0), .val (.int x1), .val (.int x2), .val (.int x3), .val (.int x4), .val (.int (perm x0)), .val (.int (perm x1)), .val (.int (perm x2)), .val (.int (x3 &&& (3 : Int32))), .val (.int (((x3.toUInt32 >>> ((2 : Int32) &&& 31).toUInt32).toInt32) &&& (15 : Int32))), .val (.ref a1), .val (.ref a3), .val (.ref a5), .val (.ref a7), .unset, .unset, .unset, .unset, .unset, .unset] []) := by
    intro f98_a1_end f98_a1_size g98_sa2_1 g98_sa2_2 g98_la2_1 g98_la2_2 f98_a5_slot f85_a3_slot hm98 hz hk c_f98_a1_end u_g98_sa2_1 u_g98_sa2_2 c_f98_a5_slot c_f85_a3_slot O_a1 O_sa2 O_la2 O_a3 O_a5 O_a7 hr
    change _ = (if (2 : Int32) < (x3 &&& (3 : Int32)) then (if f98_a1_end = (0 : Int32) then (law_111 x0 x1 x2 x3 x4 a3 a5 a7 (1 : Int32) (f98_a1_size + (1 : Int32)) (.ref a7) g98_sa2_2 .null ((perm x2).toInt64) g98_la2_2 EMP (0 : Int32) f85_a3_slot f98_a5_slot) else (if f98_a1_end = (1 : Int32) then (law_111 x0 x1 x2 x3 x4 a3 a5 a7 (2 : Int32) (f98_a1_size + (1 : Int32)) g98_sa2_1 (.ref a7) .null g98_la2_1 ((perm x2).toInt64) EMP (1 : Int32) f85_a3_slot f98_a5_slot) else (law_111 x0 x1 x2 x3 x4 a3 a5 a7 (3 : Int32) (f98_a1_size + (1 : Int32)) g98_sa2_1 g98_sa2_2 (.ref a7) g98_la2_1 g98_la2_2 ((perm x2).toInt64) (2 : Int32) f85_a3_slot f98_a5_slot))) else (law_111 x0 x1 x2 x3 x4 a3 a5 a7 f98_a1_end f98_a1_size g98_sa2_1 g98_sa2_2 .null g98_la2_1 g98_la2_2 EMP (-1 : Int32) f85_a3_slot f98_a5_slot)) at hr
    refine w_iload (pc' := 100) C at_98 rfl rfl ?_
    refine w_iconst (pc' := 101) (x := (2 : Int32)) C at_100 rfl rfl ?_
    refine w_icmp_le (pcT := 111) (pcF := 104) C at_101 (by decide) (by decide) rfl (fun q101 => ?_) (fun q101 => ?_)
    · have hr := hr.trans (if_neg q101)
      exact K111 f98_a1_end f98_a1_size g98_sa2_1 g98_sa2_2 .null g98_la2_1 g98_la2_2 EMP (-1 : Int32) f85_a3_slot f98_a5_slot hm98 hz hk (by rcases c_f98_a1_end with h | h | h <;> simp [h]) (by first | assumption | exact fc_ref (by first | assumption | rfl) (by first | assumption | rfl) (by first | assumption | rfl) | rfl) (by first | assumption | exact fc_ref (by first | assumption | rfl) (by first | assumption | rfl) (by first | assumption | rfl) | rfl) rfl (Or.inl rfl) c_f85_a3_slot c_f98_a5_slot O_a1 O_sa2 O_la2 O_a3 O_a5 O_a7 hr
    · have hr := hr.trans (if_pos q101)
      refine w_aload (pc' := 106) C at_104 rfl rfl rfl ?_
      refine w_aload (pc' := 108) C at_106 rfl rfl rfl ?_
      rcases c_f98_a1_end with rfl | rfl | rfl
      · skip
        have hr := hr.trans (if_pos rfl)
        refine w_callV (Cl := "tallygate/RequestQueue") (pc' := 111) (argsL := [.ref a7]) (st := []) (W := 0) (ce' := 6) (sl' := 58) C (tw hw 44 rfl) (tw hw 45 rfl) (tw hw 47 rfl) (tw hw 46 rfl) (tw hw 11 rfl) (tw hw 48 rfl) (by decide) at_108 rfl rfl (by decide) (by decide) (Nat.le_of_eq rfl) rfl rfl (by decide) (by decide) rfl (lenOf pd_9 rfl) O_a1.1 (ct_add0 hw hm98 n0 a1 a7 sa2 la2 f98_a1_size (perm x2) (-1 : Int32) g98_sa2_1 g98_sa2_2 .null g98_la2_1 g98_la2_2 EMP hz O_a1 O_sa2 O_la2 O_a7 g_a1 g_sa2 g_la2 g_a7 ne_a1_sa2 ne_a1_la2 ne_sa2_la2 (Ne.symm ne_a1_a7) (Ne.symm ne_sa2_a7) (Ne.symm ne_la2_a7)) (k0 (fun h29 q29 => ?_))
        obtain ⟨P_a1, P_sa2, P_la2, P_a7, K29⟩ := q29
        have O_a3 := O_a3.keep K29 (ninS (Ne.symm ne_a1_a3) (ninS (Ne.symm ne_sa2_a3) (ninS (Ne.symm ne_la2_a3) (ninS ne_a3_a7 nin0))))
        have O_a5 := O_a5.keep K29 (ninS (Ne.symm ne_a1_a5) (ninS (Ne.symm ne_sa2_a5) (ninS (Ne.symm ne_la2_a5) (ninS ne_a5_a7 nin0))))
        have hz : n0 ≤ h29.size := Nat.le_trans hz K29.1
        have hk := Keep.app hk K29 (fun x hx => Or.inl hx) (allS (Or.inr fr_a1) (allS (Or.inr fr_sa2) (allS (Or.inr fr_la2) (allS (Or.inr fr_a7) all0))))
        have O_a1 := P_a1
        have O_sa2 := P_sa2
        have O_la2 := P_la2
        have O_a7 := P_a7
        exact K111 (1 : Int32) (f98_a1_size + (1 : Int32)) (.ref a7) g98_sa2_2 .null ((perm x2).toInt64) g98_la2_2 EMP (0 : Int32) f85_a3_slot f98_a5_slot h29 hz hk (Or.inr (Or.inl rfl)) rfl (by first | assumption | exact fc_ref (by first | assumption | rfl) (by first | assumption | rfl) (by first | assumption | rfl) | rfl) rfl (Or.inr (Or.inl rfl)) c_f85_a3_slot c_f98_a5_slot O_a1 O_sa2 O_la2 O_a3 O_a5 O_a7 hr
      · skip
        have hr := hr.trans (if_neg (by decide))
        have hr := hr.trans (if_pos rfl)
        refine w_callV (Cl := "tallygate/RequestQueue") (pc' := 111) (argsL := [.ref a7]) (st := []) (W := 0) (ce' := 6) (sl' := 58) C (tw hw 44 rfl) (tw hw 45 rfl) (tw hw 47 rfl) (tw hw 46 rfl) (tw hw 11 rfl) (tw hw 48 rfl) (by decide) at_108 rfl rfl (by decide) (by decide) (Nat.le_of_eq rfl) rfl rfl (by decide) (by decide) rfl (lenOf pd_9 rfl) O_a1.1 (ct_add1 hw hm98 n0 a1 a7 sa2 la2 f98_a1_size (perm x2) (-1 : Int32) g98_sa2_1 g98_sa2_2 .null g98_la2_1 g98_la2_2 EMP hz O_a1 O_sa2 O_la2 O_a7 g_a1 g_sa2 g_la2 g_a7 ne_a1_sa2 ne_a1_la2 ne_sa2_la2 (Ne.symm ne_a1_a7) (Ne.symm ne_sa2_a7) (Ne.symm ne_la2_a7)) (k0 (fun h30 q30 => ?_))
        obtain ⟨P_a1, P_sa2, P_la2, P_a7, K30⟩ := q30
        have O_a3 := O_a3.keep K30 (ninS (Ne.symm ne_a1_a3) (ninS (Ne.symm ne_sa2_a3) (ninS (Ne.symm ne_la2_a3) (ninS ne_a3_a7 nin0))))
        have O_a5 := O_a5.keep K30 (ninS (Ne.symm ne_a1_a5) (ninS (Ne.symm ne_sa2_a5) (ninS (Ne.symm ne_la2_a5) (ninS ne_a5_a7 nin0))))
        have hz : n0 ≤ h30.size := Nat.le_trans hz K30.1
        have hk := Keep.app hk K30 (fun x hx => Or.inl hx) (allS (Or.inr fr_a1) (allS (Or.inr fr_sa2) (allS (Or.inr fr_la2) (allS (Or.inr fr_a7) all0))))
        have O_a1 := P_a1
        have O_sa2 := P_sa2
        have O_la2 := P_la2
        have O_a7 := P_a7
        exact K111 (2 : Int32) (f98_a1_size + (1 : Int32)) g98_sa2_1 (.ref a7) .null g98_la2_1 ((perm x2).toInt64) EMP (1 : Int32) f85_a3_slot f98_a5_slot h30 hz hk (Or.inr (Or.inr (Or.inl rfl))) (by first | assumption | exact fc_ref (by first | assumption | rfl) (by first | assumption | rfl) (by first | assumption | rfl) | rfl) rfl rfl (Or.inr (Or.inr (Or.inl rfl))) c_f85_a3_slot c_f98_a5_slot O_a1 O_sa2 O_la2 O_a3 O_a5 O_a7 hr
      · skip
        have hr := hr.trans (if_neg (by decide))
        have hr := hr.trans (if_neg (by decide))
        refine w_callV (Cl := "tallygate/RequestQueue") (pc' := 111) (argsL := [.ref a7]) (st := []) (W := 0) (ce' := 6) (sl' := 58) C (tw hw 44 rfl) (tw hw 45 rfl) (tw hw 47 rfl) (tw hw 46 rfl) (tw hw 11 rfl) (tw hw 48 rfl) (by decide) at_108 rfl rfl (by decide) (by decide) (Nat.le_of_eq rfl) rfl rfl (by decide) (by decide) rfl (lenOf pd_9 rfl) O_a1.1 (ct_add2 hw hm98 n0 a1 a7 sa2 la2 f98_a1_size (perm x2) (-1 : Int32) g98_sa2_1 g98_sa2_2 .null g98_la2_1 g98_la2_2 EMP hz O_a1 O_sa2 O_la2 O_a7 g_a1 g_sa2 g_la2 g_a7 ne_a1_sa2 ne_a1_la2 ne_sa2_la2 (Ne.symm ne_a1_a7) (Ne.symm ne_sa2_a7) (Ne.symm ne_la2_a7)) (k0 (fun h31 q31 => ?_))
        obtain ⟨P_a1, P_sa2, P_la2, P_a7, K31⟩ := q31
        have O_a3 := O_a3.keep K31 (ninS (Ne.symm ne_a1_a3) (ninS (Ne.symm ne_sa2_a3) (ninS (Ne.symm ne_la2_a3) (ninS ne_a3_a7 nin0))))
        have O_a5 := O_a5.keep K31 (ninS (Ne.symm ne_a1_a5) (ninS (Ne.symm ne_sa2_a5) (ninS (Ne.symm ne_la2_a5) (ninS ne_a5_a7 nin0))))
        have hz : n0 ≤ h31.size := Nat.le_trans hz K31.1
        have hk := Keep.app hk K31 (fun x hx => Or.inl hx) (allS (Or.inr fr_a1) (allS (Or.inr fr_sa2) (allS (Or.inr fr_la2) (allS (Or.inr fr_a7) all0))))
        have O_a1 := P_a1
        have O_sa2 := P_sa2
        have O_la2 := P_la2
        have O_a7 := P_a7
        exact K111 (3 : Int32) (f98_a1_size + (1 : Int32)) g98_sa2_1 g98_sa2_2 (.ref a7) g98_la2_1 g98_la2_2 ((perm x2).toInt64) (2 : Int32) f85_a3_slot f98_a5_slot h31 hz hk (Or.inr (Or.inr (Or.inr rfl))) (by first | assumption | exact fc_ref (by first | assumption | rfl) (by first | assumption | rfl) (by first | assumption | rfl) | rfl) (by first | assumption | exact fc_ref (by first | assumption | rfl) (by first | assumption | rfl) (by first | assumption | rfl) | rfl) rfl (Or.inr (Or.inr (Or.inr rfl))) c_f85_a3_slot c_f98_a5_slot O_a1 O_sa2 O_la2 O_a3 O_a5 O_a7 hr
  have K85 : ∀ (f85_a1_end : Int32) (f85_a1_size : Int32) (g85_sa2_1 : Value) (g85_la2_1 : Int64) (f85_a3_slot : Int32) (hm85 : Heap), n0 ≤ hm85.size → Keep h0 hm85 [] → f85_a1_end = (0 : Int32) ∨ f85_a1_end = (1 : Int32) → g85_sa2_1.isRef = true → f85_a3_slot = (-1 : Int32) ∨ f85_a3_slot = (0 : Int32) → Obj Z hm85 a1 "tallygate/RequestQueue" [("slots", "[Ltallygate/RequestQueue$Entry;", .ref sa2), ("least", "[J", .ref la2), ("end", "I", .int f85_a1_end), ("size", "I", .int f85_a1_size)] → ArR Z hm85 sa2 "tallygate/RequestQueue$Entry" (sl3 g85_sa2_1 .null .null) → Ar Z hm85 la2 .long (tr3 g85_la2_1 EMP EMP) → Obj Z hm85 a3 "tallygate/RequestQueue$Entry" [("slot", "I", .int f85_a3_slot), ("permits", "I", .int (perm x0))] → Obj Z hm85 a5 "tallygate/RequestQueue$Entry" [("slot", "I", .int (-1 : Int32)), ("permits", "I", .int (perm x1))] → Obj Z hm85 a7 "tallygate/RequestQueue$Entry" [("slot", "I", .int (-1 : Int32)), ("permits", "I", .int (perm x2))] → law x0 x1 x2 x3 x4 a3 a5 a7 = law_85 x0 x1 x2 x3 x4 a3 a5 a7 f85_a1_end f85_a1_size g85_sa2_1 g85_la2_1 f85_a3_slot → Wp p l e room_1 s m #[.int x0, .int x1, .int x2, .int x3, .int x4] below meth c n0 room_1.cells room_1.slots (fun v h => v = some (.int 1)) hm85 6 58 (mkF m 85 #[.val (.int x0), .val (.int x1), .val (.int x2), .val (.int x3), .val (.int x4), .val (.int (perm x0)), .val (.int (perm x1)), .val (.int (perm x2)), .val (.int (x3 &&& (3 : Int32))), .val (.int (((x3.toUInt32 >>> ((2 : Int32) &&& 31).toUInt32).toInt32) &&& (15 : Int32))), .val (.ref a1), .val (.ref a3), .val (.ref a5), .val (.ref a7), .unset, .unset, .unset, .unset, .unset, .unset] []) := by
    intro f85_a1_end f85_a1_size g85_sa2_1 g85_la2_1 f85_a3_slot hm85 hz hk c_f85_a1_end u_g85_sa2_1 c_f85_a3_slot O_a1 O_sa2 O_la2 O_a3 O_a5 O_a7 hr
    change _ = (if (1 : Int32) < (x3 &&& (3 : Int32)) then (if f85_a1_end = (0 : Int32) then (law_98 x0 x1 x2 x3 x4 a3 a5 a7 (1 : Int32) (f85_a1_size + (1 : Int32)) (.ref a5) .null ((perm x1).toInt64) EMP (0 : Int32) f85_a3_slot) else (law_98 x0 x1 x2 x3 x4 a3 a5 a7 (2 : Int32) (f85_a1_size + (1 : Int32)) g85_sa2_1 (.ref a5) g85_la2_1 ((perm x1).toInt64) (1 : Int32) f85_a3_slot)) else (law_98 x0 x1 x2 x3 x4 a3 a5 a7 f85_a1_end f85_a1_size g85_sa2_1 .null g85_la2_1 EMP (-1 : Int32) f85_a3_slot)) at hr
    refine w_iload (pc' := 87) C at_85 rfl rfl ?_
    refine w_iconst (pc' := 88) (x := (1 : Int32)) C at_87 rfl rfl ?_
    refine w_icmp_le (pcT := 98) (pcF := 91) C at_88 (by decide) (by decide) rfl (fun q88 => ?_) (fun q88 => ?_)
    · have hr := hr.trans (if_neg q88)
      exact K98 f85_a1_end f85_a1_size g85_sa2_1 .null g85_la2_1 EMP (-1 : Int32) f85_a3_slot hm85 hz hk (by rcases c_f85_a1_end with h | h <;> simp [h]) (by first | assumption | exact fc_ref (by first | assumption | rfl) (by first | assumption | rfl) (by first | assumption | rfl) | rfl) rfl (Or.inl rfl) c_f85_a3_slot O_a1 O_sa2 O_la2 O_a3 O_a5 O_a7 hr
    · have hr := hr.trans (if_pos q88)
      refine w_aload (pc' := 93) C at_91 rfl rfl rfl ?_
      refine w_aload (pc' := 95) C at_93 rfl rfl rfl ?_
      rcases c_f85_a1_end with rfl | rfl
      · skip
        have hr := hr.trans (if_pos rfl)
        refine w_callV (Cl := "tallygate/RequestQueue") (pc' := 98) (argsL := [.ref a5]) (st := []) (W := 0) (ce' := 6) (sl' := 58) C (tw hw 44 rfl) (tw hw 45 rfl) (tw hw 47 rfl) (tw hw 46 rfl) (tw hw 11 rfl) (tw hw 48 rfl) (by decide) at_95 rfl rfl (by decide) (by decide) (Nat.le_of_eq rfl) rfl rfl (by decide) (by decide) rfl (lenOf pd_9 rfl) O_a1.1 (ct_add0 hw hm85 n0 a1 a5 sa2 la2 f85_a1_size (perm x1) (-1 : Int32) g85_sa2_1 .null .null g85_la2_1 EMP EMP hz O_a1 O_sa2 O_la2 O_a5 g_a1 g_sa2 g_la2 g_a5 ne_a1_sa2 ne_a1_la2 ne_sa2_la2 (Ne.symm ne_a1_a5) (Ne.symm ne_sa2_a5) (Ne.symm ne_la2_a5)) (k0 (fun h27 q27 => ?_))
        obtain ⟨P_a1, P_sa2, P_la2, P_a5, K27⟩ := q27
        have O_a3 := O_a3.keep K27 (ninS (Ne.symm ne_a1_a3) (ninS (Ne.symm ne_sa2_a3) (ninS (Ne.symm ne_la2_a3) (ninS ne_a3_a5 nin0))))
        have O_a7 := O_a7.keep K27 (ninS (Ne.symm ne_a1_a7) (ninS (Ne.symm ne_sa2_a7) (ninS (Ne.symm ne_la2_a7) (ninS (Ne.symm ne_a5_a7) nin0))))
        have hz : n0 ≤ h27.size := Nat.le_trans hz K27.1
        have hk := Keep.app hk K27 (fun x hx => Or.inl hx) (allS (Or.inr fr_a1) (allS (Or.inr fr_sa2) (allS (Or.inr fr_la2) (allS (Or.inr fr_a5) all0))))
        have O_a1 := P_a1
        have O_sa2 := P_sa2
        have O_la2 := P_la2
        have O_a5 := P_a5
        exact K98 (1 : Int32) (f85_a1_size + (1 : Int32)) (.ref a5) .null ((perm x1).toInt64) EMP (0 : Int32) f85_a3_slot h27 hz hk (Or.inr (Or.inl rfl)) rfl rfl (Or.inr (Or.inl rfl)) c_f85_a3_slot O_a1 O_sa2 O_la2 O_a3 O_a5 O_a7 hr
      · skip
        have hr := hr.trans (if_neg (by decide))
        refine w_callV (Cl := "tallygate/RequestQueue") (pc' := 98) (argsL := [.ref a5]) (st := []) (W := 0) (ce' := 6) (sl' := 58) C (tw hw 44 rfl) (tw hw 45 rfl) (tw hw 47 rfl) (tw hw 46 rfl) (tw hw 11 rfl) (tw hw 48 rfl) (by decide) at_95 rfl rfl (by decide) (by decide) (Nat.le_of_eq rfl) rfl rfl (by decide) (by decide) rfl (lenOf pd_9 rfl) O_a1.1 (ct_add1 hw hm85 n0 a1 a5 sa2 la2 f85_a1_size (perm x1) (-1 : Int32) g85_sa2_1 .null .null g85_la2_1 EMP EMP hz O_a1 O_sa2 O_la2 O_a5 g_a1 g_sa2 g_la2 g_a5 ne_a1_sa2 ne_a1_la2 ne_sa2_la2 (Ne.symm ne_a1_a5) (Ne.symm ne_sa2_a5) (Ne.symm ne_la2_a5)) (k0 (fun h28 q28 => ?_))
        obtain ⟨P_a1, P_sa2, P_la2, P_a5, K28⟩ := q28
        have O_a3 := O_a3.keep K28 (ninS (Ne.symm ne_a1_a3) (ninS (Ne.symm ne_sa2_a3) (ninS (Ne.symm ne_la2_a3) (ninS ne_a3_a5 nin0))))
        have O_a7 := O_a7.keep K28 (ninS (Ne.symm ne_a1_a7) (ninS (Ne.symm ne_sa2_a7) (ninS (Ne.symm ne_la2_a7) (ninS (Ne.symm ne_a5_a7) nin0))))
        have hz : n0 ≤ h28.size := Nat.le_trans hz K28.1
        have hk := Keep.app hk K28 (fun x hx => Or.inl hx) (allS (Or.inr fr_a1) (allS (Or.inr fr_sa2) (allS (Or.inr fr_la2) (allS (Or.inr fr_a5) all0))))
        have O_a1 := P_a1
        have O_sa2 := P_sa2
        have O_la2 := P_la2
        have O_a5 := P_a5
        exact K98 (2 : Int32) (f85_a1_size + (1 : Int32)) g85_sa2_1 (.ref a5) g85_la2_1 ((perm x1).toInt64) (1 : Int32) f85_a3_slot h28 hz hk (Or.inr (Or.inr rfl)) (by first | assumption | exact fc_ref (by first | assumption | rfl) (by first | assumption | rfl) (by first | assumption | rfl) | rfl) rfl (Or.inr (Or.inr rfl)) c_f85_a3_slot O_a1 O_sa2 O_la2 O_a3 O_a5 O_a7 hr
  have hr : law x0 x1 x2 x3 x4 a3 a5 a7 = (if 0 < (x3 &&& (3 : Int32)) then (law_85 x0 x1 x2 x3 x4 a3 a5 a7 (1 : Int32) ((0 : Int32) + (1 : Int32)) (.ref a3) ((perm x0).toInt64) (0 : Int32)) else (law_85 x0 x1 x2 x3 x4 a3 a5 a7 (0 : Int32) (0 : Int32) .null EMP (-1 : Int32))) := rfl
  refine w_iload (pc' := 75) C at_73 rfl rfl ?_
  refine w_if_le (pcT := 85) (pcF := 78) C at_75 (by decide) (by decide) rfl (fun q75 => ?_) (fun q75 => ?_)
  · have hr := hr.trans (if_neg q75)
    exact K85 (0 : Int32) (0 : Int32) .null EMP (-1 : Int32) h8 hz hk (Or.inl rfl) rfl (Or.inl rfl) O_a1 O_sa2 O_la2 O_a3 O_a5 O_a7 hr
  · have hr := hr.trans (if_pos q75)
    refine w_aload (pc' := 80) C at_78 rfl rfl rfl ?_
    refine w_aload (pc' := 82) C at_80 rfl rfl rfl ?_
    refine w_callV (Cl := "tallygate/RequestQueue") (pc' := 85) (argsL := [.ref a3]) (st := []) (W := 0) (ce' := 6) (sl' := 58) C (tw hw 44 rfl) (tw hw 45 rfl) (tw hw 47 rfl) (tw hw 46 rfl) (tw hw 11 rfl) (tw hw 48 rfl) (by decide) at_82 rfl rfl (by decide) (by decide) (Nat.le_of_eq rfl) rfl rfl (by decide) (by decide) rfl (lenOf pd_9 rfl) O_a1.1 (ct_add0 hw h8 n0 a1 a3 sa2 la2 (0 : Int32) (perm x0) (-1 : Int32) .null .null .null EMP EMP EMP hz O_a1 O_sa2 O_la2 O_a3 g_a1 g_sa2 g_la2 g_a3 ne_a1_sa2 ne_a1_la2 ne_sa2_la2 (Ne.symm ne_a1_a3) (Ne.symm ne_sa2_a3) (Ne.symm ne_la2_a3)) (k0 (fun h26 q26 => ?_))
    obtain ⟨P_a1, P_sa2, P_la2, P_a3, K26⟩ := q26
    have O_a5 := O_a5.keep K26 (ninS (Ne.symm ne_a1_a5) (ninS (Ne.symm ne_sa2_a5) (ninS (Ne.symm ne_la2_a5) (ninS (Ne.symm ne_a3_a5) nin0))))
    have O_a7 := O_a7.keep K26 (ninS (Ne.symm ne_a1_a7) (ninS (Ne.symm ne_sa2_a7) (ninS (Ne.symm ne_la2_a7) (ninS (Ne.symm ne_a3_a7) nin0))))
    have hz : n0 ≤ h26.size := Nat.le_trans hz K26.1
    have hk := Keep.app hk K26 (fun x hx => Or.inl hx) (allS (Or.inr fr_a1) (allS (Or.inr fr_sa2) (allS (Or.inr fr_la2) (allS (Or.inr fr_a3) all0))))
    have O_a1 := P_a1
    have O_sa2 := P_sa2
    have O_la2 := P_la2
    have O_a3 := P_a3
    exact K85 (1 : Int32) ((0 : Int32) + (1 : Int32)) (.ref a3) ((perm x0).toInt64) (0 : Int32) h26 hz hk (Or.inr rfl) rfl (Or.inr rfl) O_a1 O_sa2 O_la2 O_a3 O_a5 O_a7 hr
theorem q_law {v : Option Value} (q : v = some (.int 1)) : v = some (.int 1) := q
set_option maxRecDepth 65536 in
set_option maxHeartbeats 40000000 in
theorem comes_1 {Post : Tables → Env → Array Value → State → Outcome → State → Prop} (hpost : ∀ tb e args s v u, (limb_1_1.after args s (.returned v) u = true ∧ limb_1_2.after args s (.returned v) u = true ∧ True) → FrameEnd s (.returned v) u (Jvm.fieldLocs frame_1_writes args s ++ Jvm.arrayLocs frame_1_arrays args s ++ Jvm.staticLocs frame_1_statics s) 24 192 → Post tb e args s (.returned v) u) :
    ArmFor flags0 classFile x code maxLocals ret World_1 tables_1 room_1 Calls_1 rest_1 Pre_1 Post := by
  intro l hfl _ _ p e ha hc hk s m args below hf hA hF happ hP
  obtain ⟨hcalls, hrest, hpre⟩ := hP
  obtain ⟨-, -, -, hnamed, -, -, -, hat⟩ := (Spec.applies_iff hf).mp happ
  obtain ⟨hg, hn⟩ := and_e (Cond.before_iff.mp (show (Jvm.Cond.and given_1 narrow_1).before args s = true from hpre))
  obtain ⟨h1, hr0⟩ := and_e hg
  obtain ⟨w0, w1, w2, w3, w4, rfl⟩ : ∃ w0 w1 w2 w3 w4 : Value, args = #[w0, w1, w2, w3, w4] := by
    have hs : args.size = 5 := by simpa [Cond.value, given_1] using h1
    obtain ⟨L⟩ := args
    match L, hs with
    | [w0, w1, w2, w3, w4], _ => exact ⟨w0, w1, w2, w3, w4, rfl⟩
  have hw := fun d (hd : d ∈ tables_1) => atoms_spec (ws := Jvm.Cond.code x code maxLocals ret :: tables_1) hat d (List.mem_cons_of_mem _ hd)
  obtain ⟨hi0, hr1⟩ := and_e hr0
  obtain ⟨i0, e0⟩ := is_v hi0
  obtain rfl : w0 = (.int i0) := Option.some.inj e0
  obtain ⟨hi1, hr2⟩ := and_e hr1
  obtain ⟨i1, e1⟩ := is_v hi1
  obtain rfl : w1 = (.int i1) := Option.some.inj e1
  obtain ⟨hi2, hr3⟩ := and_e hr2
  obtain ⟨i2, e2⟩ := is_v hi2
  obtain rfl : w2 = (.int i2) := Option.some.inj e2
  obtain ⟨hi3, hr4⟩ := and_e hr3
  obtain ⟨i3, e3⟩ := is_v hi3
  obtain rfl : w3 = (.int i3) := Option.some.inj e3
  have hi4 := hr4
  obtain ⟨i4, e4⟩ := is_v hi4
  obtain rfl : w4 = (.int i4) := Option.some.inj e4
  obtain ⟨n, o, h1, h2, h3, _, L, rfl, ⟨q, N⟩, hq⟩ := ct_law (l := l) (Z := s) (a0 := _) hw tables_1 s.heap s.heap.size i0 i1 i2 i3 i4 (Nat.le_refl _) p e ha hc hk s m _ below hf ((Spec.applies_iff_loose hf).mp happ).1 ⟨rfl, State.Warmed39.refl s, rfl⟩ trivial
  have q1 := q_law q
  subst q1
  refine ⟨n, _, h1, h2, h3, hpost _ _ _ _ _ _ ⟨Cond.after_iff.mpr rfl, Cond.after_iff.mpr (eq_i res_at (Term.int_eval (1)) rfl), trivial⟩ ⟨hq.1, hq.2.1, (hq.2.2.sift fun y hy => Or.inr (N y hy)).mono (by decide) (by decide)⟩⟩
theorem main_1_1 : Claimed_1_1 := comes_1 fun _ _ _ _ _ _ h hF => ⟨h.1, hF⟩
theorem main_1_2 : Claimed_1_2 := comes_1 fun _ _ _ _ _ _ h hF => ⟨h.2.1, hF⟩
end Jvm.Pilot.@@N@@
namespace Jvm.Pilot.@@N@@
open Jvm Jvm.ClassFile Sem Op Lib Jvm.Free Jvm.Stand Jvm.Pilot.@@N@@.Jvm.D
/-! MADE BY PROGRAM (witnessworld.py) out of the Statement's table words and the real class files: 15 classes; the members and pool entries that the words name. The judged class is class 1, her method 2. -/
namespace start1
open Jvm.ClassFile
def u (s : String) : CpInfo := .utf8 (stringToUtf16 s)
/-- a pool by its gaps: so many unusable entries, then the entry; so many at the end -/
def gap : Nat → List CpInfo → List CpInfo
  | 0, r => r
  | n + 1, r => .unusable :: gap n r
def poolList (es : List (Nat × CpInfo)) (last : Nat) : List CpInfo := es.foldr (fun e r => gap e.1 (e.2 :: r)) (gap last [])
def pool (es : List (Nat × CpInfo)) (last : Nat) : Array CpInfo := ⟨poolList es last⟩
def fileOf (pool : Array CpInfo) (this : Nat) (attrs : Array Attribute := #[]) (ms : Array MethodInfo := #[]) (fl : Nat := 33) (sup : Nat := 0) (ifs : Array Nat := #[]) (fds : Array FieldInfo := #[]) : ClassFile where
  minorVersion := 0
  majorVersion := 65
  constantPool := pool
  accessFlags := fl
  thisClass := this
  superClass := sup
  interfaces := ifs
  fields := fds
  methods := ms
  attributes := attrs
def plain (name : String) (sup : Option ClassId) : Class where
  name := name
  kind := .ordinary
  loader := none
  accessFlags := 33
  super := sup
  interfaces := #[]
  cf := none
  fields := #[]
  methods := #[]
  instanceTypes := #[]
  staticTypes := #[]
  resolved := #[]
  callSites := []
  init := .initialized
  statics := none
  mirror := none

def pool0 : Array CpInfo := pool [(5, u "<init>"), (0, u "()V"), (1, .class_ 10), (1, u "java/lang/Object")] 113

def k0c0 : Code := { maxStack := 0, maxLocals := 1, code := object_method_1_code, exceptionTable := #[], attributes := #[] }
def k0m0 : Method := { name := "<init>", desc := "()V", sig := { parameters := [], returnType := none }, accessFlags := 1, code := some k0c0 }
/-- java/lang/Object -/
def k0 : Class := { plain "java/lang/Object" none with
  accessFlags := 33
  interfaces := #[]
  cf := some (fileOf pool0 8 #[] #[{ accessFlags := 1, nameIndex := 5, descriptorIndex := 6, attributes := #[] }] 33 0 #[] #[])
  fields := #[]
  methods := #[k0m0]
  instanceTypes := #[]
  staticTypes := #[]
  resolved := Array.replicate 124 none
  statics := none }

def pool1 : Array CpInfo := pool [(2, .class_ 4), (0, .nameAndType 5 6), (0, u "java/lang/Object"), (0, u "<init>"), (0, u "()V"), (0, .integer 2147483647), (0, .methodref 9 10), (0, .class_ 11), (0, .nameAndType 12 13), (0, u "java/lang/Math"), (0, u "max"), (0, u "(II)I"), (0, .methodref 15 16), (0, .class_ 17), (0, .nameAndType 18 19), (0, u "tallygate/RequestQueueRemovePinLaw"), (0, u "perm"), (0, u "(I)I"), (0, .class_ 21), (0, u "tallygate/RequestQueue"), (0, .methodref 20 3), (0, .class_ 24), (0, u "tallygate/RequestQueue$Entry"), (0, .methodref 23 26), (0, .nameAndType 5 27), (0, u "(I)V"), (0, .methodref 20 29), (0, .nameAndType 30 31), (0, u "add"), (0, u "(Ltallygate/RequestQueue$Entry;)V"), (0, .methodref 20 33), (0, .nameAndType 34 31), (0, u "remove"), (0, .methodref 20 36), (0, .nameAndType 37 38), (0, u "isEmpty"), (0, u "()Z"), (0, .methodref 20 40), (0, .nameAndType 41 42), (0, u "first"), (0, u "()Ltallygate/RequestQueue$Entry;"), (0, .methodref 20 44), (0, .nameAndType 45 46), (0, u "firstCovered"), (0, u "(I)Ltallygate/RequestQueue$Entry;"), (2, u "law"), (0, u "(IIIII)Z")] 5

def k1m0 : Method := { name := "<init>", desc := "()V", sig := { parameters := [], returnType := none }, accessFlags := 1, code := none }
def k1c1 : Code := { maxStack := 3, maxLocals := 1, code := method_2_code, exceptionTable := #[], attributes := #[] }
def k1m1 : Method := { name := "perm", desc := "(I)I", sig := { parameters := [.int], returnType := some .int }, accessFlags := 10, code := some k1c1 }
def k1c2 : Code := { maxStack := 3, maxLocals := 20, code := code, exceptionTable := #[], attributes := #[] }
def k1m2 : Method := { name := "law", desc := "(IIIII)Z", sig := { parameters := [.int, .int, .int, .int, .int], returnType := some .boolean }, accessFlags := 9, code := some k1c2 }
/-- tallygate/RequestQueueRemovePinLaw -/
def k1 : Class := { plain "tallygate/RequestQueueRemovePinLaw" (some 0) with
  accessFlags := 49
  interfaces := #[]
  cf := some (fileOf pool1 15 #[] #[{ accessFlags := 1, nameIndex := 5, descriptorIndex := 6, attributes := #[] }, { accessFlags := 10, nameIndex := 18, descriptorIndex := 19, attributes := #[] }, { accessFlags := 9, nameIndex := 49, descriptorIndex := 50, attributes := #[] }] 49 2 #[] #[])
  fields := #[]
  methods := #[k1m0, k1m1, k1m2]
  instanceTypes := #[]
  staticTypes := #[]
  resolved := Array.replicate 56 none
  statics := none }

def pool2 : Array CpInfo := pool [(1, .class_ 2), (0, u "java/lang/Math"), (1, .class_ 6), (1, u "java/lang/Object"), (0, u "<init>"), (0, u "()V"), (89, .class_ 100), (1, u "java/lang/Math$RandomNumberGeneratorHolder"), (20, u "(JJ)J"), (50, u "negativeZeroFloatBits"), (0, u "J"), (2, u "negativeZeroDoubleBits"), (21, u "max"), (2, u "min"), (43, u "$assertionsDisabled"), (0, u "Z"), (88, u "(II)I"), (2, u "twoToTheDoubleScaleDown"), (0, u "D"), (4, u "twoToTheDoubleScaleUp"), (9, u "E"), (3, u "PI"), (2, u "TAU"), (2, u "DEGREES_TO_RADIANS"), (0, u "RADIANS_TO_DEGREES")] 94

def k2m0 : Method := { name := "<init>", desc := "()V", sig := { parameters := [], returnType := none }, accessFlags := 2, code := none }
def k2c1 : Code := { maxStack := 2, maxLocals := 2, code := jdk_29_method_65_code, exceptionTable := #[], attributes := #[] }
def k2m1 : Method := { name := "max", desc := "(II)I", sig := { parameters := [.int, .int], returnType := some .int }, accessFlags := 9, code := some k2c1 }
def k2c2 : Code := { maxStack := 4, maxLocals := 4, code := jdk_29_method_70_code, exceptionTable := #[], attributes := #[] }
def k2m2 : Method := { name := "min", desc := "(JJ)J", sig := { parameters := [.long, .long], returnType := some .long }, accessFlags := 9, code := some k2c2 }
/-- java/lang/Math -/
def k2 : Class := { plain "java/lang/Math" (some 0) with
  accessFlags := 49
  interfaces := #[]
  cf := some (fileOf pool2 1 #[.nestMembers #[98]] #[{ accessFlags := 2, nameIndex := 7, descriptorIndex := 8, attributes := #[] }, { accessFlags := 9, nameIndex := 198, descriptorIndex := 335, attributes := #[] }, { accessFlags := 9, nameIndex := 201, descriptorIndex := 121, attributes := #[] }] 49 4 #[] #[{ accessFlags := 25, nameIndex := 354, descriptorIndex := 339, attributes := #[] }, { accessFlags := 25, nameIndex := 358, descriptorIndex := 339, attributes := #[] }, { accessFlags := 25, nameIndex := 361, descriptorIndex := 339, attributes := #[] }, { accessFlags := 26, nameIndex := 364, descriptorIndex := 339, attributes := #[] }, { accessFlags := 26, nameIndex := 365, descriptorIndex := 339, attributes := #[] }, { accessFlags := 26, nameIndex := 172, descriptorIndex := 173, attributes := #[] }, { accessFlags := 26, nameIndex := 176, descriptorIndex := 173, attributes := #[] }, { accessFlags := 8, nameIndex := 344, descriptorIndex := 339, attributes := #[] }, { accessFlags := 8, nameIndex := 338, descriptorIndex := 339, attributes := #[] }, { accessFlags := 4120, nameIndex := 245, descriptorIndex := 246, attributes := #[] }])
  fields := #[{ name := "E", type := .double, accessFlags := 25, slot := 0, constantValue := 0 }, { name := "PI", type := .double, accessFlags := 25, slot := 1, constantValue := 0 }, { name := "TAU", type := .double, accessFlags := 25, slot := 2, constantValue := 0 }, { name := "DEGREES_TO_RADIANS", type := .double, accessFlags := 26, slot := 3, constantValue := 0 }, { name := "RADIANS_TO_DEGREES", type := .double, accessFlags := 26, slot := 4, constantValue := 0 }, { name := "negativeZeroFloatBits", type := .long, accessFlags := 26, slot := 5, constantValue := 0 }, { name := "negativeZeroDoubleBits", type := .long, accessFlags := 26, slot := 6, constantValue := 0 }, { name := "twoToTheDoubleScaleUp", type := .double, accessFlags := 8, slot := 7, constantValue := 0 }, { name := "twoToTheDoubleScaleDown", type := .double, accessFlags := 8, slot := 8, constantValue := 0 }, { name := "$assertionsDisabled", type := .boolean, accessFlags := 4120, slot := 9, constantValue := 0 }]
  methods := #[k2m0, k2m1, k2m2]
  instanceTypes := #[]
  staticTypes := #[.double, .double, .double, .double, .double, .long, .long, .double, .double, .boolean]
  resolved := Array.replicate 460 none
  statics := none }

def pool3 : Array CpInfo := pool [(3, .methodref 4 5), (0, .class_ 6), (0, .nameAndType 7 8), (0, u "java/lang/Object"), (0, u "<init>"), (0, u "()V"), (0, .class_ 10), (0, u "tallygate/RequestQueue"), (0, .class_ 12), (0, u "tallygate/RequestQueue$Entry"), (0, .fieldref 9 14), (0, .nameAndType 15 16), (0, u "slots"), (0, u "[Ltallygate/RequestQueue$Entry;"), (0, .methodref 9 18), (0, .nameAndType 19 20), (0, u "emptyTree"), (0, u "(I)[J"), (0, .fieldref 9 22), (0, .nameAndType 23 24), (0, u "least"), (0, u "[J"), (0, .fieldref 9 26), (0, .nameAndType 27 28), (0, u "end"), (0, u "I"), (3, .fieldref 11 33), (0, .nameAndType 34 28), (0, u "slot"), (0, .fieldref 11 36), (0, .nameAndType 37 28), (0, u "permits"), (0, .methodref 9 39), (0, .nameAndType 40 41), (0, u "setLeaf"), (0, u "(IJ)V"), (0, .fieldref 9 43), (0, .nameAndType 44 28), (0, u "size"), (0, .long 9223372036854775807), (3, .integer 2147483647), (0, .methodref 9 51), (0, .nameAndType 52 53), (0, u "firstCovered"), (0, u "(I)Ltallygate/RequestQueue$Entry;"), (0, .methodref 9 55), (0, .nameAndType 56 53), (0, u "request"), (0, .methodref 58 59), (0, .class_ 60), (0, .nameAndType 61 62), (0, u "java/lang/Math"), (0, u "min"), (0, u "(JJ)J"), (8, .methodref 72 73), (0, .class_ 74), (0, .nameAndType 75 76), (0, u "java/util/Arrays"), (0, u "fill"), (0, u "([JJ)V"), (0, u "FIRST_CAPACITY"), (2, u "EMPTY"), (0, u "J"), (0, u "NOT_QUEUED"), (3, u "add"), (0, u "(Ltallygate/RequestQueue$Entry;)V"), (3, u "remove"), (0, u "isEmpty"), (0, u "()Z"), (0, u "first"), (0, u "()Ltallygate/RequestQueue$Entry;")] 9

def k3c0 : Code := { maxStack := 2, maxLocals := 1, code := prog_14_method_1_code, exceptionTable := #[], attributes := #[] }
def k3m0 : Method := { name := "<init>", desc := "()V", sig := { parameters := [], returnType := none }, accessFlags := 0, code := some k3c0 }
def k3c1 : Code := { maxStack := 4, maxLocals := 3, code := prog_14_method_2_code, exceptionTable := #[], attributes := #[] }
def k3m1 : Method := { name := "add", desc := "(Ltallygate/RequestQueue$Entry;)V", sig := { parameters := [(.object "tallygate/RequestQueue$Entry")], returnType := none }, accessFlags := 0, code := some k3c1 }
def k3c2 : Code := { maxStack := 4, maxLocals := 4, code := prog_14_method_3_code, exceptionTable := #[], attributes := #[] }
def k3m2 : Method := { name := "remove", desc := "(Ltallygate/RequestQueue$Entry;)V", sig := { parameters := [(.object "tallygate/RequestQueue$Entry")], returnType := none }, accessFlags := 0, code := some k3c2 }
def k3c3 : Code := { maxStack := 1, maxLocals := 1, code := prog_14_method_4_code, exceptionTable := #[], attributes := #[] }
def k3m3 : Method := { name := "isEmpty", desc := "()Z", sig := { parameters := [], returnType := some .boolean }, accessFlags := 0, code := some k3c3 }
def k3c4 : Code := { maxStack := 2, maxLocals := 1, code := prog_14_method_5_code, exceptionTable := #[], attributes := #[] }
def k3m4 : Method := { name := "first", desc := "()Ltallygate/RequestQueue$Entry;", sig := { parameters := [], returnType := some (.object "tallygate/RequestQueue$Entry") }, accessFlags := 0, code := some k3c4 }
def k3c5 : Code := { maxStack := 4, maxLocals := 4, code := prog_14_method_6_code, exceptionTable := #[], attributes := #[] }
def k3m5 : Method := { name := "firstCovered", desc := "(I)Ltallygate/RequestQueue$Entry;", sig := { parameters := [.int], returnType := some (.object "tallygate/RequestQueue$Entry") }, accessFlags := 0, code := some k3c5 }
def k3c6 : Code := { maxStack := 2, maxLocals := 2, code := prog_14_method_7_code, exceptionTable := #[], attributes := #[] }
def k3m6 : Method := { name := "request", desc := "(I)Ltallygate/RequestQueue$Entry;", sig := { parameters := [.int], returnType := some (.object "tallygate/RequestQueue$Entry") }, accessFlags := 2, code := some k3c6 }
def k3c7 : Code := { maxStack := 5, maxLocals := 7, code := prog_14_method_8_code, exceptionTable := #[], attributes := #[] }
def k3m7 : Method := { name := "setLeaf", desc := "(IJ)V", sig := { parameters := [.int, .long], returnType := none }, accessFlags := 2, code := some k3c7 }
def k3c8 : Code := { maxStack := 3, maxLocals := 2, code := prog_14_method_10_code, exceptionTable := #[], attributes := #[] }
def k3m8 : Method := { name := "emptyTree", desc := "(I)[J", sig := { parameters := [.int], returnType := some (.array .long) }, accessFlags := 10, code := some k3c8 }
/-- tallygate/RequestQueue -/
def k3 : Class := { plain "tallygate/RequestQueue" (some 0) with
  accessFlags := 48
  interfaces := #[]
  cf := some (fileOf pool3 9 #[.nestMembers #[11]] #[{ accessFlags := 0, nameIndex := 7, descriptorIndex := 8, attributes := #[] }, { accessFlags := 0, nameIndex := 86, descriptorIndex := 87, attributes := #[] }, { accessFlags := 0, nameIndex := 91, descriptorIndex := 87, attributes := #[] }, { accessFlags := 0, nameIndex := 92, descriptorIndex := 93, attributes := #[] }, { accessFlags := 0, nameIndex := 94, descriptorIndex := 95, attributes := #[] }, { accessFlags := 0, nameIndex := 52, descriptorIndex := 53, attributes := #[] }, { accessFlags := 2, nameIndex := 56, descriptorIndex := 53, attributes := #[] }, { accessFlags := 2, nameIndex := 40, descriptorIndex := 41, attributes := #[] }, { accessFlags := 10, nameIndex := 19, descriptorIndex := 20, attributes := #[] }] 48 4 #[] #[{ accessFlags := 26, nameIndex := 77, descriptorIndex := 28, attributes := #[] }, { accessFlags := 26, nameIndex := 80, descriptorIndex := 81, attributes := #[] }, { accessFlags := 26, nameIndex := 82, descriptorIndex := 28, attributes := #[] }, { accessFlags := 2, nameIndex := 15, descriptorIndex := 16, attributes := #[] }, { accessFlags := 2, nameIndex := 23, descriptorIndex := 24, attributes := #[] }, { accessFlags := 2, nameIndex := 27, descriptorIndex := 28, attributes := #[] }, { accessFlags := 2, nameIndex := 44, descriptorIndex := 28, attributes := #[] }])
  fields := #[{ name := "FIRST_CAPACITY", type := .int, accessFlags := 26, slot := 0, constantValue := 0 }, { name := "EMPTY", type := .long, accessFlags := 26, slot := 1, constantValue := 0 }, { name := "NOT_QUEUED", type := .int, accessFlags := 26, slot := 2, constantValue := 0 }, { name := "slots", type := (.array (.object "tallygate/RequestQueue$Entry")), accessFlags := 2, slot := 0, constantValue := 0 }, { name := "least", type := (.array .long), accessFlags := 2, slot := 1, constantValue := 0 }, { name := "end", type := .int, accessFlags := 2, slot := 2, constantValue := 0 }, { name := "size", type := .int, accessFlags := 2, slot := 3, constantValue := 0 }]
  methods := #[k3m0, k3m1, k3m2, k3m3, k3m4, k3m5, k3m6, k3m7, k3m8]
  instanceTypes := #[(.array (.object "tallygate/RequestQueue$Entry")), (.array .long), .int, .int]
  staticTypes := #[.int, .long, .int]
  resolved := (Array.replicate 105 none).setIfInBounds 32 (some (.field 4 1))
  statics := none }

def pool4 : Array CpInfo := pool [(1, .class_ 2), (0, u "tallygate/RequestQueue"), (0, .methodref 4 5), (0, .class_ 6), (0, .nameAndType 7 8), (0, u "java/lang/Object"), (0, u "<init>"), (0, u "()V"), (0, .fieldref 10 11), (0, .class_ 12), (0, .nameAndType 13 14), (0, u "tallygate/RequestQueue$Entry"), (0, u "slot"), (0, u "I"), (0, .fieldref 10 16), (0, .nameAndType 17 14), (0, u "permits"), (0, u "(I)V")] 7

def k4c0 : Code := { maxStack := 2, maxLocals := 2, code := prog_15_method_1_code, exceptionTable := #[], attributes := #[] }
def k4m0 : Method := { name := "<init>", desc := "(I)V", sig := { parameters := [.int], returnType := none }, accessFlags := 0, code := some k4c0 }
/-- tallygate/RequestQueue$Entry -/
def k4 : Class := { plain "tallygate/RequestQueue$Entry" (some 0) with
  accessFlags := 32
  interfaces := #[]
  cf := some (fileOf pool4 10 #[.nestHost 1] #[{ accessFlags := 0, nameIndex := 7, descriptorIndex := 18, attributes := #[] }] 32 4 #[] #[{ accessFlags := 16, nameIndex := 17, descriptorIndex := 14, attributes := #[] }, { accessFlags := 2, nameIndex := 13, descriptorIndex := 14, attributes := #[] }])
  fields := #[{ name := "permits", type := .int, accessFlags := 16, slot := 0, constantValue := 0 }, { name := "slot", type := .int, accessFlags := 2, slot := 1, constantValue := 0 }]
  methods := #[k4m0]
  instanceTypes := #[.int, .int]
  staticTypes := #[]
  resolved := Array.replicate 26 none
  statics := none }

def pool5 : Array CpInfo := pool [(2, .class_ 4), (1, u "java/lang/Object"), (0, u "<init>"), (0, u "()V"), (7, .class_ 16), (1, u "java/util/Arrays"), (57, .class_ 76), (1, u "java/util/Arrays$NaturalOrder"), (36, .class_ 115), (1, u "java/util/Arrays$LegacyMergeSort"), (1, u "Z"), (257, .class_ 376), (0, u "java/util/Arrays$ArrayList"), (68, u "$assertionsDisabled"), (269, u "MIN_ARRAY_SORT_GRAN"), (0, u "I"), (2, u "INSERTIONSORT_THRESHOLD"), (120, u "fill"), (0, u "([JJ)V"), (133, .class_ 976), (0, u "java/util/Arrays$ArrayItr")] 52

def k5m0 : Method := { name := "<init>", desc := "()V", sig := { parameters := [], returnType := none }, accessFlags := 2, code := none }
def k5c1 : Code := { maxStack := 4, maxLocals := 5, code := jdk_65_method_101_code, exceptionTable := #[], attributes := #[] }
def k5m1 : Method := { name := "fill", desc := "([JJ)V", sig := { parameters := [(.array .long), .long], returnType := none }, accessFlags := 9, code := some k5c1 }
/-- java/util/Arrays -/
def k5 : Class := { plain "java/util/Arrays" (some 0) with
  accessFlags := 49
  interfaces := #[]
  cf := some (fileOf pool5 14 #[.nestMembers #[975, 375, 113, 74]] #[{ accessFlags := 2, nameIndex := 5, descriptorIndex := 6, attributes := #[] }, { accessFlags := 9, nameIndex := 840, descriptorIndex := 841, attributes := #[] }] 49 2 #[] #[{ accessFlags := 26, nameIndex := 715, descriptorIndex := 716, attributes := #[] }, { accessFlags := 26, nameIndex := 719, descriptorIndex := 716, attributes := #[] }, { accessFlags := 4120, nameIndex := 445, descriptorIndex := 117, attributes := #[] }])
  fields := #[{ name := "MIN_ARRAY_SORT_GRAN", type := .int, accessFlags := 26, slot := 0, constantValue := 0 }, { name := "INSERTIONSORT_THRESHOLD", type := .int, accessFlags := 26, slot := 1, constantValue := 0 }, { name := "$assertionsDisabled", type := .boolean, accessFlags := 4120, slot := 2, constantValue := 0 }]
  methods := #[k5m0, k5m1]
  instanceTypes := #[]
  staticTypes := #[.int, .int, .boolean]
  resolved := Array.replicate 1029 none
  statics := none }

def pool6 : Array CpInfo := pool [(1, u "java/lang/Cloneable"), (0, .class_ 1), (0, u "java/lang/Object"), (0, .class_ 3)] 3

/-- java/lang/Cloneable -/
def k6 : Class := { plain "java/lang/Cloneable" (some 0) with
  accessFlags := 1537
  interfaces := #[]
  cf := some (fileOf pool6 2 #[] #[] 1537 4 #[] #[])
  fields := #[]
  methods := #[]
  instanceTypes := #[]
  staticTypes := #[]
  resolved := Array.replicate 8 none
  statics := none }

def pool7 : Array CpInfo := pool [(1, u "java/io/Serializable"), (0, .class_ 1), (0, u "java/lang/Object"), (0, .class_ 3)] 3

/-- java/io/Serializable -/
def k7 : Class := { plain "java/io/Serializable" (some 0) with
  accessFlags := 1537
  interfaces := #[]
  cf := some (fileOf pool7 2 #[] #[] 1537 4 #[] #[])
  fields := #[]
  methods := #[]
  instanceTypes := #[]
  staticTypes := #[]
  resolved := Array.replicate 8 none
  statics := none }

/-- the primitive byte -/
def k8 : Class := { plain "byte" none with kind := .primitive 'B', accessFlags := 0x411 }
/-- [B -/
def k9 : Class := { plain "[B" (some 0) with kind := .array 8 .byte, interfaces := #[6, 7], accessFlags := 1041 }

/-- the primitive int -/
def k10 : Class := { plain "int" none with kind := .primitive 'I', accessFlags := 0x411 }
/-- [I -/
def k11 : Class := { plain "[I" (some 0) with kind := .array 10 .int, interfaces := #[6, 7], accessFlags := 1041 }

/-- the primitive long -/
def k12 : Class := { plain "long" none with kind := .primitive 'J', accessFlags := 0x411 }
/-- [J -/
def k13 : Class := { plain "[J" (some 0) with kind := .array 12 .long, interfaces := #[6, 7], accessFlags := 1041 }

/-- [Ltallygate/RequestQueue$Entry; -/
def k14 : Class := { plain "[Ltallygate/RequestQueue$Entry;" (some 0) with kind := .array 4 (.object "tallygate/RequestQueue$Entry"), interfaces := #[6, 7], accessFlags := 1041 }

def heap : Heap := #[]
def classes : Array Class := #[k0, k1, k2, k3, k4, k5, k6, k7, k8, k9, k10, k11, k12, k13, k14]
def interned : List (Array UInt16 × Addr) := []
def slotsUsed : Nat := 0
def theMethod : MethodId := ⟨1, 2⟩
def args0 : Array Value := #[.int 5, .int 6, .int 7, .int 8, .int 9]
def aboutOver (below : List Frame) : State where
  vm := { classes := classes, interned := interned.toArray }
  heap := heap
  slotsUsed := slotsUsed
  threads := #[{ frames := .invoking theMethod args0 :: below }]
def below0 : List Frame := [.native { method := ⟨0, 0⟩, args := #[] }]
def about1 : State := aboutOver below0
def p0 : Program := .bare "" "" ""
def e0 : Env := launch0.env 0 0 0
theorem w_frames : about1.frames = Frame.invoking theMethod args0 :: below0 := rfl
set_option maxRecDepth 65536 in
theorem w_args : argsFit about1.vm theMethod args0 = true := by decide +kernel
set_option maxRecDepth 65536 in
theorem w_heap : heapFits about1 = true := by decide +kernel
set_option maxRecDepth 65536 in
theorem w_runnable : about1.curStatus? = some .runnable := by decide +kernel
set_option maxRecDepth 65536 in
theorem w_alone : about1.alone = true := by decide +kernel
set_option maxRecDepth 65536 in
theorem w_named : about1.methodNamed? x = some theMethod := by decide +kernel
set_option maxRecDepth 65536 in
theorem w_hears : about1.hears theMethod below0 = true := by decide +kernel
set_option maxRecDepth 65536 in
theorem w_ripe : about1.ripe theMethod args0 below0 = true := by decide +kernel
theorem w_running : about1.status = .running := rfl
set_option maxRecDepth 65536 in
theorem w_room : about1.hasRoom e0.platform room_1 = true :=
  launch0.hasRoom_least _ room_1 (by decide +kernel) (by decide +kernel) (by decide +kernel) (by decide +kernel) (by decide +kernel) (by decide +kernel)
theorem allAtoms_all (ts : List Jvm.Cond) (a : Array Jvm.Value) (st : Jvm.State) : (allAtoms ts).before a st = ts.all (fun c => c.before a st) := by
  induction ts with
  | nil => rfl
  | cons c t ih =>
    show (Jvm.Cond.and c (allAtoms t)).before a st = _
    rw [Jvm.Cond.before_and, ih, List.all_cons]
def words1 : List Jvm.Cond := Jvm.Cond.code x code maxLocals ret :: tables_1
/-- a 'code' word, met by the world's own term for the bytes: nothing is compared byte by byte -/
theorem code_word {y : MethodName} {bytes : ByteArray} {mx : Nat} {rt : Option FieldType} {a : Array Value} {s : State} {m : MethodId} {meth : Method} {c : Code} (h1 : s.methodNamed? y = some m) (h2 : s.vm.method? m = some meth) (h3 : meth.code = some c) (h4 : c.code = bytes)
    (h5 : (c.maxLocals == mx && c.exceptionTable.isEmpty && decide (c.maxStack ≤ mostOperands) && decide (meth.sig.returnType = rt) && !meth.locks && decide (parseMethodDescriptor y.desc = some meth.sig)) = true) : (Jvm.Cond.code y bytes mx rt).before a s = true := by
  simp only [Bool.and_eq_true, beq_iff_eq, Bool.not_eq_true', decide_eq_true_eq] at h5
  obtain ⟨⟨⟨⟨⟨g1, g2⟩, g3⟩, g4⟩, g5⟩, g6⟩ := h5
  simp [Cond.before, Cond.holds, Cond.value, h1, h2, h3, h4, g1, g2, g3, g4, g5, g6]
def isCode : Jvm.Cond → Bool
  | .code _ _ _ _ => true
  | _ => false
theorem all_split {L : List Jvm.Cond} {P : Jvm.Cond → Bool} (h1 : L.all (fun c => isCode c || P c) = true) (h2 : ∀ c ∈ L.filter isCode, P c = true) : L.all P = true := by
  refine List.all_eq_true.mpr fun c hc => ?_
  have h := List.all_eq_true.mp h1 c hc
  rcases Bool.eq_false_or_eq_true (isCode c) with hi | hi
  · exact h2 c (List.mem_filter.mpr ⟨hc, hi⟩)
  · simpa [hi] using h
set_option maxRecDepth 65536 in
theorem w_c0 : (Jvm.Cond.code x code maxLocals ret).before args0 about1 = true := code_word (m := ⟨1, 2⟩) (meth := k1m2) (c := k1c2) (by decide +kernel) rfl rfl rfl (by decide +kernel)
set_option maxRecDepth 65536 in
theorem w_c1 : (Jvm.Cond.code ({ cls := "tallygate/RequestQueueRemovePinLaw", name := "perm", desc := "(I)I" } : Jvm.MethodName) method_2_code (1 : Nat) (Option.some Jvm.ClassFile.FieldType.int)).before args0 about1 = true := code_word (m := ⟨1, 1⟩) (meth := k1m1) (c := k1c1) (by decide +kernel) rfl rfl rfl (by decide +kernel)
set_option maxRecDepth 65536 in
theorem w_c2 : (Jvm.Cond.code ({ cls := "java/lang/Math", name := "max", desc := "(II)I" } : Jvm.MethodName) jdk_29_method_65_code (2 : Nat) (Option.some Jvm.ClassFile.FieldType.int)).before args0 about1 = true := code_word (m := ⟨2, 1⟩) (meth := k2m1) (c := k2c1) (by decide +kernel) rfl rfl rfl (by decide +kernel)
set_option maxRecDepth 65536 in
theorem w_c3 : (Jvm.Cond.code ({ cls := "tallygate/RequestQueue", name := "<init>", desc := "()V" } : Jvm.MethodName) prog_14_method_1_code (1 : Nat) (Option.none : Option Jvm.ClassFile.FieldType)).before args0 about1 = true := code_word (m := ⟨3, 0⟩) (meth := k3m0) (c := k3c0) (by decide +kernel) rfl rfl rfl (by decide +kernel)
set_option maxRecDepth 65536 in
theorem w_c4 : (Jvm.Cond.code ({ cls := "java/lang/Object", name := "<init>", desc := "()V" } : Jvm.MethodName) object_method_1_code (1 : Nat) (Option.none : Option Jvm.ClassFile.FieldType)).before args0 about1 = true := code_word (m := ⟨0, 0⟩) (meth := k0m0) (c := k0c0) (by decide +kernel) rfl rfl rfl (by decide +kernel)
set_option maxRecDepth 65536 in
theorem w_c5 : (Jvm.Cond.code ({ cls := "tallygate/RequestQueue", name := "emptyTree", desc := "(I)[J" } : Jvm.MethodName) prog_14_method_10_code (2 : Nat) (Option.some (Jvm.ClassFile.FieldType.array Jvm.ClassFile.FieldType.long))).before args0 about1 = true := code_word (m := ⟨3, 8⟩) (meth := k3m8) (c := k3c8) (by decide +kernel) rfl rfl rfl (by decide +kernel)
set_option maxRecDepth 65536 in
theorem w_c6 : (Jvm.Cond.code ({ cls := "java/util/Arrays", name := "fill", desc := "([JJ)V" } : Jvm.MethodName) jdk_65_method_101_code (5 : Nat) (Option.none : Option Jvm.ClassFile.FieldType)).before args0 about1 = true := code_word (m := ⟨5, 1⟩) (meth := k5m1) (c := k5c1) (by decide +kernel) rfl rfl rfl (by decide +kernel)
set_option maxRecDepth 65536 in
theorem w_c7 : (Jvm.Cond.code ({ cls := "tallygate/RequestQueue$Entry", name := "<init>", desc := "(I)V" } : Jvm.MethodName) prog_15_method_1_code (2 : Nat) (Option.none : Option Jvm.ClassFile.FieldType)).before args0 about1 = true := code_word (m := ⟨4, 0⟩) (meth := k4m0) (c := k4c0) (by decide +kernel) rfl rfl rfl (by decide +kernel)
set_option maxRecDepth 65536 in
theorem w_c8 : (Jvm.Cond.code ({ cls := "tallygate/RequestQueue", name := "add", desc := "(Ltallygate/RequestQueue$Entry;)V" } : Jvm.MethodName) prog_14_method_2_code (3 : Nat) (Option.none : Option Jvm.ClassFile.FieldType)).before args0 about1 = true := code_word (m := ⟨3, 1⟩) (meth := k3m1) (c := k3c1) (by decide +kernel) rfl rfl rfl (by decide +kernel)
set_option maxRecDepth 65536 in
theorem w_c9 : (Jvm.Cond.code ({ cls := "tallygate/RequestQueue", name := "setLeaf", desc := "(IJ)V" } : Jvm.MethodName) prog_14_method_8_code (7 : Nat) (Option.none : Option Jvm.ClassFile.FieldType)).before args0 about1 = true := code_word (m := ⟨3, 7⟩) (meth := k3m7) (c := k3c7) (by decide +kernel) rfl rfl rfl (by decide +kernel)
set_option maxRecDepth 65536 in
theorem w_c10 : (Jvm.Cond.code ({ cls := "java/lang/Math", name := "min", desc := "(JJ)J" } : Jvm.MethodName) jdk_29_method_70_code (4 : Nat) (Option.some Jvm.ClassFile.FieldType.long)).before args0 about1 = true := code_word (m := ⟨2, 2⟩) (meth := k2m2) (c := k2c2) (by decide +kernel) rfl rfl rfl (by decide +kernel)
set_option maxRecDepth 65536 in
theorem w_c11 : (Jvm.Cond.code ({ cls := "tallygate/RequestQueue", name := "isEmpty", desc := "()Z" } : Jvm.MethodName) prog_14_method_4_code (1 : Nat) (Option.some Jvm.ClassFile.FieldType.boolean)).before args0 about1 = true := code_word (m := ⟨3, 3⟩) (meth := k3m3) (c := k3c3) (by decide +kernel) rfl rfl rfl (by decide +kernel)
set_option maxRecDepth 65536 in
theorem w_c12 : (Jvm.Cond.code ({ cls := "tallygate/RequestQueue", name := "first", desc := "()Ltallygate/RequestQueue$Entry;" } : Jvm.MethodName) prog_14_method_5_code (1 : Nat) (Option.some (Jvm.ClassFile.FieldType.object "tallygate/RequestQueue$Entry"))).before args0 about1 = true := code_word (m := ⟨3, 4⟩) (meth := k3m4) (c := k3c4) (by decide +kernel) rfl rfl rfl (by decide +kernel)
set_option maxRecDepth 65536 in
theorem w_c13 : (Jvm.Cond.code ({ cls := "tallygate/RequestQueue", name := "firstCovered", desc := "(I)Ltallygate/RequestQueue$Entry;" } : Jvm.MethodName) prog_14_method_6_code (4 : Nat) (Option.some (Jvm.ClassFile.FieldType.object "tallygate/RequestQueue$Entry"))).before args0 about1 = true := code_word (m := ⟨3, 5⟩) (meth := k3m5) (c := k3c5) (by decide +kernel) rfl rfl rfl (by decide +kernel)
set_option maxRecDepth 65536 in
theorem w_c14 : (Jvm.Cond.code ({ cls := "tallygate/RequestQueue", name := "request", desc := "(I)Ltallygate/RequestQueue$Entry;" } : Jvm.MethodName) prog_14_method_7_code (2 : Nat) (Option.some (Jvm.ClassFile.FieldType.object "tallygate/RequestQueue$Entry"))).before args0 about1 = true := code_word (m := ⟨3, 6⟩) (meth := k3m6) (c := k3c6) (by decide +kernel) rfl rfl rfl (by decide +kernel)
set_option maxRecDepth 65536 in
theorem w_c15 : (Jvm.Cond.code ({ cls := "tallygate/RequestQueue", name := "remove", desc := "(Ltallygate/RequestQueue$Entry;)V" } : Jvm.MethodName) prog_14_method_3_code (4 : Nat) (Option.none : Option Jvm.ClassFile.FieldType)).before args0 about1 = true := code_word (m := ⟨3, 2⟩) (meth := k3m2) (c := k3c2) (by decide +kernel) rfl rfl rfl (by decide +kernel)
def codes1 : List Jvm.Cond := [Jvm.Cond.code x code maxLocals ret, Jvm.Cond.code ({ cls := "tallygate/RequestQueueRemovePinLaw", name := "perm", desc := "(I)I" } : Jvm.MethodName) method_2_code (1 : Nat) (Option.some Jvm.ClassFile.FieldType.int), Jvm.Cond.code ({ cls := "java/lang/Math", name := "max", desc := "(II)I" } : Jvm.MethodName) jdk_29_method_65_code (2 : Nat) (Option.some Jvm.ClassFile.FieldType.int), Jvm.Cond.code ({ cls := "tallygate/RequestQueue", name := "<init>", desc := "()V" } : Jvm.MethodName) prog_14_method_1_code (1 : Nat) (Option.none : Option Jvm.ClassFile.FieldType), Jvm.Cond.code ({ cls := "java/lang/Object", name := "<init>", desc := "()V" } : Jvm.MethodName) object_method_1_code (1 : Nat) (Option.none : Option Jvm.ClassFile.FieldType), Jvm.Cond.code ({ cls := "tallygate/RequestQueue", name := "emptyTree", desc := "(I)[J" } : Jvm.MethodName) prog_14_method_10_code (2 : Nat) (Option.some (Jvm.ClassFile.FieldType.array Jvm.ClassFile.FieldType.long)), Jvm.Cond.code ({ cls := "java/util/Arrays", name := "fill", desc := "([JJ)V" } : Jvm.MethodName) jdk_65_method_101_code (5 : Nat) (Option.none : Option Jvm.ClassFile.FieldType), Jvm.Cond.code ({ cls := "tallygate/RequestQueue$Entry", name := "<init>", desc := "(I)V" } : Jvm.MethodName) prog_15_method_1_code (2 : Nat) (Option.none : Option Jvm.ClassFile.FieldType), Jvm.Cond.code ({ cls := "tallygate/RequestQueue", name := "add", desc := "(Ltallygate/RequestQueue$Entry;)V" } : Jvm.MethodName) prog_14_method_2_code (3 : Nat) (Option.none : Option Jvm.ClassFile.FieldType), Jvm.Cond.code ({ cls := "tallygate/RequestQueue", name := "setLeaf", desc := "(IJ)V" } : Jvm.MethodName) prog_14_method_8_code (7 : Nat) (Option.none : Option Jvm.ClassFile.FieldType), Jvm.Cond.code ({ cls := "java/lang/Math", name := "min", desc := "(JJ)J" } : Jvm.MethodName) jdk_29_method_70_code (4 : Nat) (Option.some Jvm.ClassFile.FieldType.long), Jvm.Cond.code ({ cls := "tallygate/RequestQueue", name := "isEmpty", desc := "()Z" } : Jvm.MethodName) prog_14_method_4_code (1 : Nat) (Option.some Jvm.ClassFile.FieldType.boolean), Jvm.Cond.code ({ cls := "tallygate/RequestQueue", name := "first", desc := "()Ltallygate/RequestQueue$Entry;" } : Jvm.MethodName) prog_14_method_5_code (1 : Nat) (Option.some (Jvm.ClassFile.FieldType.object "tallygate/RequestQueue$Entry")), Jvm.Cond.code ({ cls := "tallygate/RequestQueue", name := "firstCovered", desc := "(I)Ltallygate/RequestQueue$Entry;" } : Jvm.MethodName) prog_14_method_6_code (4 : Nat) (Option.some (Jvm.ClassFile.FieldType.object "tallygate/RequestQueue$Entry")), Jvm.Cond.code ({ cls := "tallygate/RequestQueue", name := "request", desc := "(I)Ltallygate/RequestQueue$Entry;" } : Jvm.MethodName) prog_14_method_7_code (2 : Nat) (Option.some (Jvm.ClassFile.FieldType.object "tallygate/RequestQueue$Entry")), Jvm.Cond.code ({ cls := "tallygate/RequestQueue", name := "remove", desc := "(Ltallygate/RequestQueue$Entry;)V" } : Jvm.MethodName) prog_14_method_3_code (4 : Nat) (Option.none : Option Jvm.ClassFile.FieldType)]
set_option maxRecDepth 65536 in
theorem codes_eq : words1.filter isCode = codes1 := rfl
theorem w_codes : ∀ c ∈ words1.filter isCode, c.before args0 about1 = true := by
  rw [codes_eq]
  intro c hc
  simp only [codes1, List.mem_cons, List.not_mem_nil, or_false] at hc
  rcases hc with rfl | rfl | rfl | rfl | rfl | rfl | rfl | rfl | rfl | rfl | rfl | rfl | rfl | rfl | rfl | rfl
  · exact w_c0
  · exact w_c1
  · exact w_c2
  · exact w_c3
  · exact w_c4
  · exact w_c5
  · exact w_c6
  · exact w_c7
  · exact w_c8
  · exact w_c9
  · exact w_c10
  · exact w_c11
  · exact w_c12
  · exact w_c13
  · exact w_c14
  · exact w_c15
set_option maxRecDepth 65536 in
theorem w_t1 : (words1.take 24).all (fun c => isCode c || c.before args0 about1) = true := by decide +kernel
set_option maxRecDepth 65536 in
theorem w_t2 : ((words1.drop 24).take 24).all (fun c => isCode c || c.before args0 about1) = true := by decide +kernel
set_option maxRecDepth 65536 in
theorem w_t3 : (((words1.drop 24).drop 24).take 24).all (fun c => isCode c || c.before args0 about1) = true := by decide +kernel
set_option maxRecDepth 65536 in
theorem w_t4 : (((words1.drop 24).drop 24).drop 24).all (fun c => isCode c || c.before args0 about1) = true := by decide +kernel
theorem w_tables : (allAtoms (Jvm.Cond.code x code maxLocals ret :: tables_1)).before args0 about1 = true := by
  rw [allAtoms_all]
  show words1.all (fun c => c.before args0 about1) = true
  refine all_split ?_ w_codes
  rw [← List.take_append_drop 24 words1, List.all_append, w_t1, ← List.take_append_drop 24 (words1.drop 24), List.all_append, w_t2, ← List.take_append_drop 24 ((words1.drop 24).drop 24), List.all_append, w_t3, w_t4]
  rfl
set_option maxRecDepth 65536 in
theorem w_case : (Jvm.Cond.and given_1 narrow_1).before args0 about1 = true := by decide +kernel
theorem w_applies : (headSpec (Jvm.Cond.code x code maxLocals ret :: tables_1) room_1).applies x e0.platform about1 = true :=
  (Spec.applies_iff w_frames).mpr ⟨w_running, w_runnable, w_alone, w_named, w_hears, w_ripe, w_room, w_tables⟩
theorem atStart : AtStart classFile x code maxLocals ret World_1 tables_1 room_1 Calls_1 rest_1 Pre_1 launch0 p0 e0 about1 theMethod args0 below0 :=
  ⟨lists_1, trivial, launch0.admits_env _ _ _, launch0.least_env, fairChoices_fair.cas, fairChoices_fair.clock, w_frames, w_args, w_heap, w_applies, trivial, trivial, w_case⟩
end start1
theorem witness_1 : WitnessClaimed_1 := ⟨start1.p0, start1.e0, start1.about1, start1.theMethod, start1.args0, start1.below0, start1.atStart⟩
end Jvm.Pilot.@@N@@
