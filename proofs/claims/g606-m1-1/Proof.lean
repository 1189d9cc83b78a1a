import JvmDerived
import JvmDerived.Pilot.@@N@@Statement
import JvmDerived.Pilot.@@N@@Code
set_option linter.unusedVariables false
set_option linter.unusedSimpArgs false
namespace Jvm.Own
open Jvm Sem ClassFile Op Lib Jvm.Stand Jvm.Free Jvm.LawKit Jvm.RoadKit
/-- what is left to run: from any state that stands here with this heap, in this frame, the method comes back, and Q holds of what it returns and of the heap -/
def Wp (p : Program) (l : Launch) (e : Env) (R : Room) (s : State) (m : MethodId) (args : Array Value) (below : List Frame) (meth : Method) (c : Code)
    (n0 cM sM : Nat) (Q : Option Value → Heap → Prop) (h : Heap) (cells slots : Nat) (g : JFrame) : Prop :=
  ∀ (T : State) (locs : List Loc), Stand p l e R s m args below meth c T locs cells slots → T.heap = h → Fr n0 locs →
    ∃ s₂ v L, Steps p.tables e below (T.setTop g) s₂ ∧ s₂.status = .running ∧ Ended s₂ below (.returned v) ∧ (Q v s₂.heap ∧ Fr n0 L) ∧ FrameEnd s (.returned v) s₂ L cM sM
/-- what is known of the method that is walked -/
def Cx (p : Program) (s : State) (m : MethodId) (meth : Method) (c : Code) (Z : State) (own : String) (bytes : ByteArray) (ml : Nat) (rt : Option FieldType) (nm : String) : Prop :=
  p.tables.exec = Jvm.exec ∧ c.code = bytes ∧ Z.Warmed39 s.vm ∧ s.vm.findClass own = some m.cls ∧ c.maxLocals = ml ∧ meth.sig.returnType = rt ∧ meth.name = nm ∧ meth.locks = false
/-- a method's contract: called with these arguments at this heap -/
def Ct (l : Launch) (Z : State) (y : MethodName) (bytes : ByteArray) (maxL : Nat) (ret : Option FieldType) (ws : List Jvm.Cond) (rm : Room) (as' : Array Value) (h : Heap) (n0 : Nat) (Q : Option Value → Heap → Prop) : Prop :=
  MetFree l y (head1 (Jvm.Cond.code y bytes maxL ret :: ws) rm) (fun a U => a = as' ∧ Z.Warmed39 U.vm ∧ U.heap = h) (fun _ _ _ _ _ => True)
    (fun _ U o U' => ∃ v L, o = .returned v ∧ (Q v U'.heap ∧ Fr n0 L) ∧ FrameEnd U o U' L rm.cells rm.slots)
theorem Ct.of {l : Launch} {Z : State} {y : MethodName} {bytes : ByteArray} {maxL : Nat} {ret : Option FieldType} {ws : List Jvm.Cond} {rm : Room} {as' : Array Value} {h : Heap} {n0 : Nat} {Q : Option Value → Heap → Prop} {Ls : Array Slot}
    (hpl : plainFor y = true) (ef : ∀ m, entryFrame m as' maxL = mkF m 0 Ls [])
    (H : ∀ p e s m below meth c, Cx p s m meth c Z y.cls bytes maxL ret y.name → Wp p l e rm s m as' below meth c n0 rm.cells rm.slots Q h 0 0 (mkF m 0 Ls [])) :
    Ct l Z y bytes maxL ret ws rm as' h n0 Q := by
  refine MetFree.of_bodySF hpl hisR ?_
  intro p e s m args below meth c s₁ Bd hml0 hP hK
  obtain ⟨rfl, hZ, hh⟩ := hP
  have C : Cx p s m meth c Z y.cls bytes maxL ret y.name := ⟨Bd.exec, Bd.bytes, hZ, findClass_of_methodNamed Bd.named, hml0, Bd.returns, (name_of_methodNamed Bd.named Bd.method).1, Bd.notSynchronized⟩
  obtain ⟨s₂, v, L, a1, a2, a3, a4, a5⟩ := H p e s m below meth c C s₁ [] (Stand.of_body Bd) (by rw [← hh, Bd.state]; rfl) (Fr.nil n0)
  exact ⟨s₂, .returned v, castTop (ef m) a1, a2, a3, v, L, rfl, a4, a5⟩
theorem Ct.mono {l : Launch} {Z : State} {y : MethodName} {bytes : ByteArray} {maxL : Nat} {ret : Option FieldType} {ws : List Jvm.Cond} {rm : Room} {as' : Array Value} {h : Heap} {n0 : Nat} {Q Q' : Option Value → Heap → Prop}
    (H : Ct l Z y bytes maxL ret ws rm as' h n0 Q) (i : ∀ v h', Q v h' → Q' v h') : Ct l Z y bytes maxL ret ws rm as' h n0 Q' := by
  intro p e ha hc hk s m args below hf happ hP hK
  obtain ⟨n, o, h1, h2, h3, v, L, h4, h5, h6⟩ := H p e ha hc hk s m args below hf happ hP hK
  exact ⟨n, o, h1, h2, h3, v, L, h4, ⟨i _ _ h5.1, h5.2⟩, h6⟩
section Rules
variable {p : Program} {l : Launch} {e : Env} {R : Room} {s : State} {m : MethodId} {args : Array Value} {below : List Frame} {meth : Method} {c : Code} {n0 cM sM : Nat} {Q : Option Value → Heap → Prop} {h : Heap} {cells slots : Nat}
variable {Z : State} {own nm : String} {bytes : ByteArray} {ml : Nat} {rt : Option FieldType} {a0 : Array Value}
theorem Wp.pure {g g' : JFrame} (st : ∀ (T t : State), At T m c below → Steps p.tables e below (T.setTop g') t → Steps p.tables e below (T.setTop g) t) (k : Wp p l e R s m args below meth c n0 cM sM Q h cells slots g') :
    Wp p l e R s m args below meth c n0 cM sM Q h cells slots g := fun T locs X e0 N => by
  obtain ⟨s2, v, L, a, r⟩ := k T locs X e0 N
  exact ⟨s2, v, L, st T s2 X.here a, r⟩
theorem Wp.law {g g' : JFrame} (st : ∀ (T : State) (locs : List Loc), Stand p l e R s m args below meth c T locs cells slots → T.heap = h → ∃ T', Stand p l e R s m args below meth c T' locs cells slots ∧ T'.heap = h ∧ ∀ t, Steps p.tables e below (T'.setTop g') t → Steps p.tables e below (T.setTop g) t)
    (k : Wp p l e R s m args below meth c n0 cM sM Q h cells slots g') : Wp p l e R s m args below meth c n0 cM sM Q h cells slots g := fun T locs X e0 N => by
  obtain ⟨T', X', e', st'⟩ := st T locs X e0
  obtain ⟨s2, v, L, a, r⟩ := k T' locs X' e' N
  exact ⟨s2, v, L, st' s2 a, r⟩
theorem Wp.more {g : JFrame} {cells' slots' : Nat} (hc : cells ≤ cells') (hs : slots ≤ slots') (k : Wp p l e R s m args below meth c n0 cM sM Q h cells' slots' g) : Wp p l e R s m args below meth c n0 cM sM Q h cells slots g :=
  fun T locs X e0 N => k T locs (X.more hc hs) e0 N
theorem Wp.mono {g : JFrame} {Q' : Option Value → Heap → Prop} (i : ∀ v h', Q v h' → Q' v h') (k : Wp p l e R s m args below meth c n0 cM sM Q h cells slots g) : Wp p l e R s m args below meth c n0 cM sM Q' h cells slots g :=
  fun T locs X e0 N => by
    obtain ⟨s2, v, L, a, b, d, q, r⟩ := k T locs X e0 N
    exact ⟨s2, v, L, a, b, d, ⟨i _ _ q.1, q.2⟩, r⟩
theorem Wp.ret {g : JFrame} {v : Option Value} (C : Cx p s m meth c Z own bytes ml rt nm)
    (st : ∀ (T : State) (fs : List Frame) (locs : List Loc), Stand p l e R s m args below meth c T locs cells slots → (∀ (f : JFrame) (acts : List Action), f.method = m → f.locked = none → f.entered = [] → (doReturn e (T.setTop f) acts v).1 = T.setFrames fs) → Steps p.tables e below (T.setTop g) (T.setFrames fs))
    (hv : meth.sig.returnType = none → v = none) (hc : cells ≤ cM) (hs : slots ≤ sM) (q : Q v h) : Wp p l e R s m args below meth c n0 cM sM Q h cells slots g := by
  intro T locs X e0 N
  have hlk : meth.locks = false := C.2.2.2.2.2.2.2
  obtain ⟨fs, hr, hrun, hended, hW, hsame⟩ := X.leave (v := v) hv hlk
  exact ⟨_, v, locs, st T fs locs X hr, hrun, hended, ⟨by subst e0; exact q, N⟩, ⟨_, rfl⟩, hW, hsame.mono hc hs⟩
theorem w_iloadN (C : Cx p s m meth c Z own bytes ml rt nm) {pc pc' : Nat} {Ls : Array Slot} {st : List Value} {k : Fin 4} {x : Int32} (hd : decode bytes pc = .ok (.iload_n k, 1)) (hl : Ls[k.val]? = some (.val (.int x))) (hp : pc + 1 = pc') (K : Wp p l e R s m args below meth c n0 cM sM Q h cells slots (mkF m pc' Ls (.int x :: st))) :
    Wp p l e R s m args below meth c n0 cM sM Q h cells slots (mkF m pc Ls st) := by
  subst hp; exact Wp.pure (fun T t X hr => XS.iloadN X C.1 rfl (hb C.2.1 hd) hl hr) K
theorem w_iload (C : Cx p s m meth c Z own bytes ml rt nm) {pc pc' : Nat} {Ls : Array Slot} {st : List Value} {k : Nat} {x : Int32} (hd : decode bytes pc = .ok (.iload k, 2)) (hl : Ls[k]? = some (.val (.int x))) (hp : pc + 2 = pc') (K : Wp p l e R s m args below meth c n0 cM sM Q h cells slots (mkF m pc' Ls (.int x :: st))) :
    Wp p l e R s m args below meth c n0 cM sM Q h cells slots (mkF m pc Ls st) := by
  subst hp; exact Wp.pure (fun T t X hr => XS.iload X C.1 rfl (hb C.2.1 hd) hl hr) K
theorem w_lloadN (C : Cx p s m meth c Z own bytes ml rt nm) {pc pc' : Nat} {Ls : Array Slot} {st : List Value} {k : Fin 4} {x : Int64} (hd : decode bytes pc = .ok (.lload_n k, 1)) (hl : Ls[k.val]? = some (.val (.long x))) (hp : pc + 1 = pc') (K : Wp p l e R s m args below meth c n0 cM sM Q h cells slots (mkF m pc' Ls (.long x :: st))) :
    Wp p l e R s m args below meth c n0 cM sM Q h cells slots (mkF m pc Ls st) := by
  subst hp; exact Wp.pure (fun T t X hr => XS.lloadN X C.1 rfl (hb C.2.1 hd) hl hr) K
theorem w_lload (C : Cx p s m meth c Z own bytes ml rt nm) {pc pc' : Nat} {Ls : Array Slot} {st : List Value} {k : Nat} {x : Int64} (hd : decode bytes pc = .ok (.lload k, 2)) (hl : Ls[k]? = some (.val (.long x))) (hp : pc + 2 = pc') (K : Wp p l e R s m args below meth c n0 cM sM Q h cells slots (mkF m pc' Ls (.long x :: st))) :
    Wp p l e R s m args below meth c n0 cM sM Q h cells slots (mkF m pc Ls st) := by
  subst hp; exact Wp.pure (fun T t X hr => XS.lload X C.1 rfl (hb C.2.1 hd) hl hr) K
theorem w_aloadN (C : Cx p s m meth c Z own bytes ml rt nm) {pc pc' : Nat} {Ls : Array Slot} {st : List Value} {k : Fin 4} {v : Value} (hd : decode bytes pc = .ok (.aload_n k, 1)) (hl : Ls[k.val]? = some (.val v)) (hv : v.isRef = true) (hp : pc + 1 = pc') (K : Wp p l e R s m args below meth c n0 cM sM Q h cells slots (mkF m pc' Ls (v :: st))) :
    Wp p l e R s m args below meth c n0 cM sM Q h cells slots (mkF m pc Ls st) := by
  subst hp; exact Wp.pure (fun T t X hr => XS.aloadN X C.1 rfl (hb C.2.1 hd) hl hv hr) K
theorem w_aload (C : Cx p s m meth c Z own bytes ml rt nm) {pc pc' : Nat} {Ls : Array Slot} {st : List Value} {k : Nat} {v : Value} (hd : decode bytes pc = .ok (.aload k, 2)) (hl : Ls[k]? = some (.val v)) (hv : v.isRef = true) (hp : pc + 2 = pc') (K : Wp p l e R s m args below meth c n0 cM sM Q h cells slots (mkF m pc' Ls (v :: st))) :
    Wp p l e R s m args below meth c n0 cM sM Q h cells slots (mkF m pc Ls st) := by
  subst hp; exact Wp.pure (fun T t X hr => XS.aload X C.1 rfl (hb C.2.1 hd) hl hv hr) K
theorem w_istoreN (C : Cx p s m meth c Z own bytes ml rt nm) {pc pc' : Nat} {Ls : Array Slot} {st : List Value} {k : Fin 4} {x : Int32} {Ls' : Array Slot} (hd : decode bytes pc = .ok (.istore_n k, 1)) (hl : storeLocals Ls k.val (.int x) = some Ls') (hp : pc + 1 = pc') (K : Wp p l e R s m args below meth c n0 cM sM Q h cells slots (mkF m pc' Ls' st)) :
    Wp p l e R s m args below meth c n0 cM sM Q h cells slots (mkF m pc Ls (.int x :: st)) := by
  subst hp; exact Wp.pure (fun T t X hr => XS.istoreN X C.1 rfl (hb C.2.1 hd) rfl hl hr) K
theorem w_istore (C : Cx p s m meth c Z own bytes ml rt nm) {pc pc' : Nat} {Ls : Array Slot} {st : List Value} {k : Nat} {x : Int32} {Ls' : Array Slot} (hd : decode bytes pc = .ok (.istore k, 2)) (hl : storeLocals Ls k (.int x) = some Ls') (hp : pc + 2 = pc') (K : Wp p l e R s m args below meth c n0 cM sM Q h cells slots (mkF m pc' Ls' st)) :
    Wp p l e R s m args below meth c n0 cM sM Q h cells slots (mkF m pc Ls (.int x :: st)) := by
  subst hp; exact Wp.pure (fun T t X hr => XS.istore X C.1 rfl (hb C.2.1 hd) rfl hl hr) K
theorem w_lstoreN (C : Cx p s m meth c Z own bytes ml rt nm) {pc pc' : Nat} {Ls : Array Slot} {st : List Value} {k : Fin 4} {x : Int64} {Ls' : Array Slot} (hd : decode bytes pc = .ok (.lstore_n k, 1)) (hl : storeLocals Ls k.val (.long x) = some Ls') (hp : pc + 1 = pc') (K : Wp p l e R s m args below meth c n0 cM sM Q h cells slots (mkF m pc' Ls' st)) :
    Wp p l e R s m args below meth c n0 cM sM Q h cells slots (mkF m pc Ls (.long x :: st)) := by
  subst hp; exact Wp.pure (fun T t X hr => XS.lstoreN X C.1 rfl (hb C.2.1 hd) rfl hl hr) K
theorem w_lstore (C : Cx p s m meth c Z own bytes ml rt nm) {pc pc' : Nat} {Ls : Array Slot} {st : List Value} {k : Nat} {x : Int64} {Ls' : Array Slot} (hd : decode bytes pc = .ok (.lstore k, 2)) (hl : storeLocals Ls k (.long x) = some Ls') (hp : pc + 2 = pc') (K : Wp p l e R s m args below meth c n0 cM sM Q h cells slots (mkF m pc' Ls' st)) :
    Wp p l e R s m args below meth c n0 cM sM Q h cells slots (mkF m pc Ls (.long x :: st)) := by
  subst hp; exact Wp.pure (fun T t X hr => XS.lstore X C.1 rfl (hb C.2.1 hd) rfl hl hr) K
theorem w_astoreN (C : Cx p s m meth c Z own bytes ml rt nm) {pc pc' : Nat} {Ls : Array Slot} {st : List Value} {k : Fin 4} {v : Value} {Ls' : Array Slot} (hd : decode bytes pc = .ok (.astore_n k, 1)) (hv : v.isRef = true) (hl : storeLocals Ls k.val v = some Ls') (hp : pc + 1 = pc') (K : Wp p l e R s m args below meth c n0 cM sM Q h cells slots (mkF m pc' Ls' st)) :
    Wp p l e R s m args below meth c n0 cM sM Q h cells slots (mkF m pc Ls (v :: st)) := by
  subst hp; exact Wp.pure (fun T t X hr => XS.astoreN X C.1 rfl (hb C.2.1 hd) rfl hv hl hr) K
theorem w_astore (C : Cx p s m meth c Z own bytes ml rt nm) {pc pc' : Nat} {Ls : Array Slot} {st : List Value} {k : Nat} {v : Value} {Ls' : Array Slot} (hd : decode bytes pc = .ok (.astore k, 2)) (hv : v.isRef = true) (hl : storeLocals Ls k v = some Ls') (hp : pc + 2 = pc') (K : Wp p l e R s m args below meth c n0 cM sM Q h cells slots (mkF m pc' Ls' st)) :
    Wp p l e R s m args below meth c n0 cM sM Q h cells slots (mkF m pc Ls (v :: st)) := by
  subst hp; exact Wp.pure (fun T t X hr => XS.astore X C.1 rfl (hb C.2.1 hd) rfl hv hl hr) K
theorem w_iinc (C : Cx p s m meth c Z own bytes ml rt nm) {pc pc' : Nat} {Ls : Array Slot} {st : List Value} {k : Nat} {cst : Int} {x : Int32} {Ls' : Array Slot} (hd : decode bytes pc = .ok (.iinc k cst, 3)) (hx : Ls[k]? = some (.val (.int x))) (hl : storeLocals Ls k (.int (x + Int32.ofInt cst)) = some Ls') (hp : pc + 3 = pc') (K : Wp p l e R s m args below meth c n0 cM sM Q h cells slots (mkF m pc' Ls' st)) :
    Wp p l e R s m args below meth c n0 cM sM Q h cells slots (mkF m pc Ls st) := by
  subst hp; exact Wp.pure (fun T t X hr => XS.iinc X C.1 rfl (hb C.2.1 hd) hx hl hr) K
theorem w_iconst (C : Cx p s m meth c Z own bytes ml rt nm) {pc pc' : Nat} {Ls : Array Slot} {st : List Value} {i : Int} {x : Int32} (hd : decode bytes pc = .ok (.iconst i, 1)) (hx : Int32.ofInt i = x) (hp : pc + 1 = pc') (K : Wp p l e R s m args below meth c n0 cM sM Q h cells slots (mkF m pc' Ls (.int x :: st))) :
    Wp p l e R s m args below meth c n0 cM sM Q h cells slots (mkF m pc Ls st) := by
  subst hp hx; exact Wp.pure (fun T t X hr => XS.iconst X C.1 rfl (hb C.2.1 hd) hr) K
theorem w_bipush (C : Cx p s m meth c Z own bytes ml rt nm) {pc pc' : Nat} {Ls : Array Slot} {st : List Value} {i : Int} {x : Int32} (hd : decode bytes pc = .ok (.bipush i, 2)) (hx : (Int8.ofInt i).toInt32 = x) (hp : pc + 2 = pc') (K : Wp p l e R s m args below meth c n0 cM sM Q h cells slots (mkF m pc' Ls (.int x :: st))) :
    Wp p l e R s m args below meth c n0 cM sM Q h cells slots (mkF m pc Ls st) := by
  subst hp hx; exact Wp.pure (fun T t X hr => XS.bipush X C.1 rfl (hb C.2.1 hd) hr) K
theorem w_sipush (C : Cx p s m meth c Z own bytes ml rt nm) {pc pc' : Nat} {Ls : Array Slot} {st : List Value} {i : Int} {x : Int32} (hd : decode bytes pc = .ok (.sipush i, 3)) (hx : (Int16.ofInt i).toInt32 = x) (hp : pc + 3 = pc') (K : Wp p l e R s m args below meth c n0 cM sM Q h cells slots (mkF m pc' Ls (.int x :: st))) :
    Wp p l e R s m args below meth c n0 cM sM Q h cells slots (mkF m pc Ls st) := by
  subst hp hx; exact Wp.pure (fun T t X hr => XS.sipush X C.1 rfl (hb C.2.1 hd) hr) K
theorem w_lconst (C : Cx p s m meth c Z own bytes ml rt nm) {pc pc' : Nat} {Ls : Array Slot} {st : List Value} {k : Fin 2} {x : Int64} (hd : decode bytes pc = .ok (.lconst k, 1)) (hx : Int64.ofNat k = x) (hp : pc + 1 = pc') (K : Wp p l e R s m args below meth c n0 cM sM Q h cells slots (mkF m pc' Ls (.long x :: st))) :
    Wp p l e R s m args below meth c n0 cM sM Q h cells slots (mkF m pc Ls st) := by
  subst hp hx; exact Wp.pure (fun T t X hr => XS.lconst X C.1 rfl (hb C.2.1 hd) hr) K
theorem w_aconstNull (C : Cx p s m meth c Z own bytes ml rt nm) {pc pc' : Nat} {Ls : Array Slot} {st : List Value}  (hd : decode bytes pc = .ok (.aconst_null, 1))  (hp : pc + 1 = pc') (K : Wp p l e R s m args below meth c n0 cM sM Q h cells slots (mkF m pc' Ls (.null :: st))) :
    Wp p l e R s m args below meth c n0 cM sM Q h cells slots (mkF m pc Ls st) := by
  subst hp; exact Wp.pure (fun T t X hr => XS.aconstNull X C.1 rfl (hb C.2.1 hd)  hr) K
theorem w_iadd (C : Cx p s m meth c Z own bytes ml rt nm) {pc pc' : Nat} {Ls : Array Slot} {st : List Value} {x y : Int32} (hd : decode bytes pc = .ok (.iadd, 1))  (hp : pc + 1 = pc') (K : Wp p l e R s m args below meth c n0 cM sM Q h cells slots (mkF m pc' Ls (.int (x + y) :: st))) :
    Wp p l e R s m args below meth c n0 cM sM Q h cells slots (mkF m pc Ls (.int y :: .int x :: st)) := by
  subst hp; exact Wp.pure (fun T t X hr => XS.iadd X C.1 rfl (hb C.2.1 hd) rfl hr) K
theorem w_isub (C : Cx p s m meth c Z own bytes ml rt nm) {pc pc' : Nat} {Ls : Array Slot} {st : List Value} {x y : Int32} (hd : decode bytes pc = .ok (.isub, 1))  (hp : pc + 1 = pc') (K : Wp p l e R s m args below meth c n0 cM sM Q h cells slots (mkF m pc' Ls (.int (x - y) :: st))) :
    Wp p l e R s m args below meth c n0 cM sM Q h cells slots (mkF m pc Ls (.int y :: .int x :: st)) := by
  subst hp; exact Wp.pure (fun T t X hr => XS.isub X C.1 rfl (hb C.2.1 hd) rfl hr) K
theorem w_imul (C : Cx p s m meth c Z own bytes ml rt nm) {pc pc' : Nat} {Ls : Array Slot} {st : List Value} {x y : Int32} (hd : decode bytes pc = .ok (.imul, 1))  (hp : pc + 1 = pc') (K : Wp p l e R s m args below meth c n0 cM sM Q h cells slots (mkF m pc' Ls (.int (x * y) :: st))) :
    Wp p l e R s m args below meth c n0 cM sM Q h cells slots (mkF m pc Ls (.int y :: .int x :: st)) := by
  subst hp; exact Wp.pure (fun T t X hr => XS.imul X C.1 rfl (hb C.2.1 hd) rfl hr) K
theorem w_iand (C : Cx p s m meth c Z own bytes ml rt nm) {pc pc' : Nat} {Ls : Array Slot} {st : List Value} {x y : Int32} (hd : decode bytes pc = .ok (.iand, 1))  (hp : pc + 1 = pc') (K : Wp p l e R s m args below meth c n0 cM sM Q h cells slots (mkF m pc' Ls (.int (x &&& y) :: st))) :
    Wp p l e R s m args below meth c n0 cM sM Q h cells slots (mkF m pc Ls (.int y :: .int x :: st)) := by
  subst hp; exact Wp.pure (fun T t X hr => XS.iand X C.1 rfl (hb C.2.1 hd) rfl hr) K
theorem w_ior (C : Cx p s m meth c Z own bytes ml rt nm) {pc pc' : Nat} {Ls : Array Slot} {st : List Value} {x y : Int32} (hd : decode bytes pc = .ok (.ior, 1))  (hp : pc + 1 = pc') (K : Wp p l e R s m args below meth c n0 cM sM Q h cells slots (mkF m pc' Ls (.int (x ||| y) :: st))) :
    Wp p l e R s m args below meth c n0 cM sM Q h cells slots (mkF m pc Ls (.int y :: .int x :: st)) := by
  subst hp; exact Wp.pure (fun T t X hr => XS.ior X C.1 rfl (hb C.2.1 hd) rfl hr) K
theorem w_ixor (C : Cx p s m meth c Z own bytes ml rt nm) {pc pc' : Nat} {Ls : Array Slot} {st : List Value} {x y : Int32} (hd : decode bytes pc = .ok (.ixor, 1))  (hp : pc + 1 = pc') (K : Wp p l e R s m args below meth c n0 cM sM Q h cells slots (mkF m pc' Ls (.int (x ^^^ y) :: st))) :
    Wp p l e R s m args below meth c n0 cM sM Q h cells slots (mkF m pc Ls (.int y :: .int x :: st)) := by
  subst hp; exact Wp.pure (fun T t X hr => XS.ixor X C.1 rfl (hb C.2.1 hd) rfl hr) K
theorem w_ishl (C : Cx p s m meth c Z own bytes ml rt nm) {pc pc' : Nat} {Ls : Array Slot} {st : List Value} {x y : Int32} (hd : decode bytes pc = .ok (.ishl, 1))  (hp : pc + 1 = pc') (K : Wp p l e R s m args below meth c n0 cM sM Q h cells slots (mkF m pc' Ls (.int (x <<< (y &&& 31)) :: st))) :
    Wp p l e R s m args below meth c n0 cM sM Q h cells slots (mkF m pc Ls (.int y :: .int x :: st)) := by
  subst hp; exact Wp.pure (fun T t X hr => XS.ishl X C.1 rfl (hb C.2.1 hd) rfl hr) K
theorem w_ishr (C : Cx p s m meth c Z own bytes ml rt nm) {pc pc' : Nat} {Ls : Array Slot} {st : List Value} {x y : Int32} (hd : decode bytes pc = .ok (.ishr, 1))  (hp : pc + 1 = pc') (K : Wp p l e R s m args below meth c n0 cM sM Q h cells slots (mkF m pc' Ls (.int (x >>> (y &&& 31)) :: st))) :
    Wp p l e R s m args below meth c n0 cM sM Q h cells slots (mkF m pc Ls (.int y :: .int x :: st)) := by
  subst hp; exact Wp.pure (fun T t X hr => XS.ishr X C.1 rfl (hb C.2.1 hd) rfl hr) K
theorem w_iushr (C : Cx p s m meth c Z own bytes ml rt nm) {pc pc' : Nat} {Ls : Array Slot} {st : List Value} {x y : Int32} (hd : decode bytes pc = .ok (.iushr, 1))  (hp : pc + 1 = pc') (K : Wp p l e R s m args below meth c n0 cM sM Q h cells slots (mkF m pc' Ls (.int ((x.toUInt32 >>> (y &&& 31).toUInt32).toInt32) :: st))) :
    Wp p l e R s m args below meth c n0 cM sM Q h cells slots (mkF m pc Ls (.int y :: .int x :: st)) := by
  subst hp; exact Wp.pure (fun T t X hr => XS.iushr X C.1 rfl (hb C.2.1 hd) rfl hr) K
theorem w_ladd (C : Cx p s m meth c Z own bytes ml rt nm) {pc pc' : Nat} {Ls : Array Slot} {st : List Value} {x y : Int64} (hd : decode bytes pc = .ok (.ladd, 1))  (hp : pc + 1 = pc') (K : Wp p l e R s m args below meth c n0 cM sM Q h cells slots (mkF m pc' Ls (.long (x + y) :: st))) :
    Wp p l e R s m args below meth c n0 cM sM Q h cells slots (mkF m pc Ls (.long y :: .long x :: st)) := by
  subst hp; exact Wp.pure (fun T t X hr => XS.ladd X C.1 rfl (hb C.2.1 hd) rfl hr) K
theorem w_lsub (C : Cx p s m meth c Z own bytes ml rt nm) {pc pc' : Nat} {Ls : Array Slot} {st : List Value} {x y : Int64} (hd : decode bytes pc = .ok (.lsub, 1))  (hp : pc + 1 = pc') (K : Wp p l e R s m args below meth c n0 cM sM Q h cells slots (mkF m pc' Ls (.long (x - y) :: st))) :
    Wp p l e R s m args below meth c n0 cM sM Q h cells slots (mkF m pc Ls (.long y :: .long x :: st)) := by
  subst hp; exact Wp.pure (fun T t X hr => XS.lsub X C.1 rfl (hb C.2.1 hd) rfl hr) K
theorem w_lmul (C : Cx p s m meth c Z own bytes ml rt nm) {pc pc' : Nat} {Ls : Array Slot} {st : List Value} {x y : Int64} (hd : decode bytes pc = .ok (.lmul, 1))  (hp : pc + 1 = pc') (K : Wp p l e R s m args below meth c n0 cM sM Q h cells slots (mkF m pc' Ls (.long (x * y) :: st))) :
    Wp p l e R s m args below meth c n0 cM sM Q h cells slots (mkF m pc Ls (.long y :: .long x :: st)) := by
  subst hp; exact Wp.pure (fun T t X hr => XS.lmul X C.1 rfl (hb C.2.1 hd) rfl hr) K
theorem w_land (C : Cx p s m meth c Z own bytes ml rt nm) {pc pc' : Nat} {Ls : Array Slot} {st : List Value} {x y : Int64} (hd : decode bytes pc = .ok (.land, 1))  (hp : pc + 1 = pc') (K : Wp p l e R s m args below meth c n0 cM sM Q h cells slots (mkF m pc' Ls (.long (x &&& y) :: st))) :
    Wp p l e R s m args below meth c n0 cM sM Q h cells slots (mkF m pc Ls (.long y :: .long x :: st)) := by
  subst hp; exact Wp.pure (fun T t X hr => XS.land X C.1 rfl (hb C.2.1 hd) rfl hr) K
theorem w_lor (C : Cx p s m meth c Z own bytes ml rt nm) {pc pc' : Nat} {Ls : Array Slot} {st : List Value} {x y : Int64} (hd : decode bytes pc = .ok (.lor, 1))  (hp : pc + 1 = pc') (K : Wp p l e R s m args below meth c n0 cM sM Q h cells slots (mkF m pc' Ls (.long (x ||| y) :: st))) :
    Wp p l e R s m args below meth c n0 cM sM Q h cells slots (mkF m pc Ls (.long y :: .long x :: st)) := by
  subst hp; exact Wp.pure (fun T t X hr => XS.lor X C.1 rfl (hb C.2.1 hd) rfl hr) K
theorem w_lxor (C : Cx p s m meth c Z own bytes ml rt nm) {pc pc' : Nat} {Ls : Array Slot} {st : List Value} {x y : Int64} (hd : decode bytes pc = .ok (.lxor, 1))  (hp : pc + 1 = pc') (K : Wp p l e R s m args below meth c n0 cM sM Q h cells slots (mkF m pc' Ls (.long (x ^^^ y) :: st))) :
    Wp p l e R s m args below meth c n0 cM sM Q h cells slots (mkF m pc Ls (.long y :: .long x :: st)) := by
  subst hp; exact Wp.pure (fun T t X hr => XS.lxor X C.1 rfl (hb C.2.1 hd) rfl hr) K
theorem w_lshl (C : Cx p s m meth c Z own bytes ml rt nm) {pc pc' : Nat} {Ls : Array Slot} {st : List Value} {x : Int64} {y : Int32} (hd : decode bytes pc = .ok (.lshl, 1))  (hp : pc + 1 = pc') (K : Wp p l e R s m args below meth c n0 cM sM Q h cells slots (mkF m pc' Ls (.long (x <<< (y &&& 0x3f).toInt64) :: st))) :
    Wp p l e R s m args below meth c n0 cM sM Q h cells slots (mkF m pc Ls (.int y :: .long x :: st)) := by
  subst hp; exact Wp.pure (fun T t X hr => XS.lshl X C.1 rfl (hb C.2.1 hd) rfl hr) K
theorem w_lshr (C : Cx p s m meth c Z own bytes ml rt nm) {pc pc' : Nat} {Ls : Array Slot} {st : List Value} {x : Int64} {y : Int32} (hd : decode bytes pc = .ok (.lshr, 1))  (hp : pc + 1 = pc') (K : Wp p l e R s m args below meth c n0 cM sM Q h cells slots (mkF m pc' Ls (.long (x >>> (y &&& 0x3f).toInt64) :: st))) :
    Wp p l e R s m args below meth c n0 cM sM Q h cells slots (mkF m pc Ls (.int y :: .long x :: st)) := by
  subst hp; exact Wp.pure (fun T t X hr => XS.lshr X C.1 rfl (hb C.2.1 hd) rfl hr) K
theorem w_lushr (C : Cx p s m meth c Z own bytes ml rt nm) {pc pc' : Nat} {Ls : Array Slot} {st : List Value} {x : Int64} {y : Int32} (hd : decode bytes pc = .ok (.lushr, 1))  (hp : pc + 1 = pc') (K : Wp p l e R s m args below meth c n0 cM sM Q h cells slots (mkF m pc' Ls (.long ((x.toUInt64 >>> (y &&& 0x3f).toInt64.toUInt64).toInt64) :: st))) :
    Wp p l e R s m args below meth c n0 cM sM Q h cells slots (mkF m pc Ls (.int y :: .long x :: st)) := by
  subst hp; exact Wp.pure (fun T t X hr => XS.lushr X C.1 rfl (hb C.2.1 hd) rfl hr) K
theorem w_idiv (C : Cx p s m meth c Z own bytes ml rt nm) {pc pc' : Nat} {Ls : Array Slot} {st : List Value} {x y : Int32} (hd : decode bytes pc = .ok (.idiv, 1)) (hy : y ≠ 0) (hp : pc + 1 = pc') (K : Wp p l e R s m args below meth c n0 cM sM Q h cells slots (mkF m pc' Ls (.int (x / y) :: st))) :
    Wp p l e R s m args below meth c n0 cM sM Q h cells slots (mkF m pc Ls (.int y :: .int x :: st)) := by
  subst hp; exact Wp.pure (fun T t X hr => XS.idiv X C.1 rfl (hb C.2.1 hd) rfl hy hr) K
theorem w_ldiv (C : Cx p s m meth c Z own bytes ml rt nm) {pc pc' : Nat} {Ls : Array Slot} {st : List Value} {x y : Int64} (hd : decode bytes pc = .ok (.ldiv, 1)) (hy : y ≠ 0) (hp : pc + 1 = pc') (K : Wp p l e R s m args below meth c n0 cM sM Q h cells slots (mkF m pc' Ls (.long (x / y) :: st))) :
    Wp p l e R s m args below meth c n0 cM sM Q h cells slots (mkF m pc Ls (.long y :: .long x :: st)) := by
  subst hp; exact Wp.pure (fun T t X hr => XS.ldiv X C.1 rfl (hb C.2.1 hd) rfl hy hr) K
theorem w_irem (C : Cx p s m meth c Z own bytes ml rt nm) {pc pc' : Nat} {Ls : Array Slot} {st : List Value} {x y : Int32} (hd : decode bytes pc = .ok (.irem, 1)) (hy : y ≠ 0) (hp : pc + 1 = pc') (K : Wp p l e R s m args below meth c n0 cM sM Q h cells slots (mkF m pc' Ls (.int (x % y) :: st))) :
    Wp p l e R s m args below meth c n0 cM sM Q h cells slots (mkF m pc Ls (.int y :: .int x :: st)) := by
  subst hp; exact Wp.pure (fun T t X hr => XS.irem X C.1 rfl (hb C.2.1 hd) rfl hy (by rw [irem_eq_mod x y]; exact hr)) K
theorem w_lrem (C : Cx p s m meth c Z own bytes ml rt nm) {pc pc' : Nat} {Ls : Array Slot} {st : List Value} {x y : Int64} (hd : decode bytes pc = .ok (.lrem, 1)) (hy : y ≠ 0) (hp : pc + 1 = pc') (K : Wp p l e R s m args below meth c n0 cM sM Q h cells slots (mkF m pc' Ls (.long (x % y) :: st))) :
    Wp p l e R s m args below meth c n0 cM sM Q h cells slots (mkF m pc Ls (.long y :: .long x :: st)) := by
  subst hp; exact Wp.pure (fun T t X hr => XS.lrem X C.1 rfl (hb C.2.1 hd) rfl hy (by rw [lrem_mod x y]; exact hr)) K
theorem w_ineg (C : Cx p s m meth c Z own bytes ml rt nm) {pc pc' : Nat} {Ls : Array Slot} {st : List Value} {x : Int32} (hd : decode bytes pc = .ok (.ineg, 1))  (hp : pc + 1 = pc') (K : Wp p l e R s m args below meth c n0 cM sM Q h cells slots (mkF m pc' Ls (.int (-x) :: st))) :
    Wp p l e R s m args below meth c n0 cM sM Q h cells slots (mkF m pc Ls (.int x :: st)) := by
  subst hp; exact Wp.pure (fun T t X hr => XS.ineg X C.1 rfl (hb C.2.1 hd) rfl hr) K
theorem w_lneg (C : Cx p s m meth c Z own bytes ml rt nm) {pc pc' : Nat} {Ls : Array Slot} {st : List Value} {x : Int64} (hd : decode bytes pc = .ok (.lneg, 1))  (hp : pc + 1 = pc') (K : Wp p l e R s m args below meth c n0 cM sM Q h cells slots (mkF m pc' Ls (.long (-x) :: st))) :
    Wp p l e R s m args below meth c n0 cM sM Q h cells slots (mkF m pc Ls (.long x :: st)) := by
  subst hp; exact Wp.pure (fun T t X hr => XS.lneg X C.1 rfl (hb C.2.1 hd) rfl hr) K
theorem w_i2l (C : Cx p s m meth c Z own bytes ml rt nm) {pc pc' : Nat} {Ls : Array Slot} {st : List Value} {x : Int32} (hd : decode bytes pc = .ok (.i2l, 1))  (hp : pc + 1 = pc') (K : Wp p l e R s m args below meth c n0 cM sM Q h cells slots (mkF m pc' Ls (.long x.toInt64 :: st))) :
    Wp p l e R s m args below meth c n0 cM sM Q h cells slots (mkF m pc Ls (.int x :: st)) := by
  subst hp; exact Wp.pure (fun T t X hr => XS.i2l X C.1 rfl (hb C.2.1 hd) rfl hr) K
theorem w_l2i (C : Cx p s m meth c Z own bytes ml rt nm) {pc pc' : Nat} {Ls : Array Slot} {st : List Value} {x : Int64} (hd : decode bytes pc = .ok (.l2i, 1))  (hp : pc + 1 = pc') (K : Wp p l e R s m args below meth c n0 cM sM Q h cells slots (mkF m pc' Ls (.int x.toInt32 :: st))) :
    Wp p l e R s m args below meth c n0 cM sM Q h cells slots (mkF m pc Ls (.long x :: st)) := by
  subst hp; exact Wp.pure (fun T t X hr => XS.l2i X C.1 rfl (hb C.2.1 hd) rfl hr) K
theorem w_i2b (C : Cx p s m meth c Z own bytes ml rt nm) {pc pc' : Nat} {Ls : Array Slot} {st : List Value} {x : Int32} (hd : decode bytes pc = .ok (.i2b, 1))  (hp : pc + 1 = pc') (K : Wp p l e R s m args below meth c n0 cM sM Q h cells slots (mkF m pc' Ls (.int x.toInt8.toInt32 :: st))) :
    Wp p l e R s m args below meth c n0 cM sM Q h cells slots (mkF m pc Ls (.int x :: st)) := by
  subst hp; exact Wp.pure (fun T t X hr => XS.i2b X C.1 rfl (hb C.2.1 hd) rfl hr) K
theorem w_i2s (C : Cx p s m meth c Z own bytes ml rt nm) {pc pc' : Nat} {Ls : Array Slot} {st : List Value} {x : Int32} (hd : decode bytes pc = .ok (.i2s, 1))  (hp : pc + 1 = pc') (K : Wp p l e R s m args below meth c n0 cM sM Q h cells slots (mkF m pc' Ls (.int x.toInt16.toInt32 :: st))) :
    Wp p l e R s m args below meth c n0 cM sM Q h cells slots (mkF m pc Ls (.int x :: st)) := by
  subst hp; exact Wp.pure (fun T t X hr => XS.i2s X C.1 rfl (hb C.2.1 hd) rfl hr) K
/-- i2c -/
def toCh (x : Int32) : Int32 := x.toUInt32.toUInt16.toUInt32.toInt32
theorem w_i2c (C : Cx p s m meth c Z own bytes ml rt nm) {pc pc' : Nat} {Ls : Array Slot} {st : List Value} {x : Int32} (hd : decode bytes pc = .ok (.i2c, 1))  (hp : pc + 1 = pc') (K : Wp p l e R s m args below meth c n0 cM sM Q h cells slots (mkF m pc' Ls (.int (toCh x) :: st))) :
    Wp p l e R s m args below meth c n0 cM sM Q h cells slots (mkF m pc Ls (.int x :: st)) := by
  subst hp; exact Wp.pure (fun T t X hr => XS.i2c X C.1 rfl (hb C.2.1 hd) rfl hr) K
/-- lcmp -/
def cmpJ (x y : Int64) : Int32 := if x > y then 1 else if x = y then 0 else -1
theorem w_lcmp (C : Cx p s m meth c Z own bytes ml rt nm) {pc pc' : Nat} {Ls : Array Slot} {st : List Value} {x y : Int64} (hd : decode bytes pc = .ok (.lcmp, 1))  (hp : pc + 1 = pc') (K : Wp p l e R s m args below meth c n0 cM sM Q h cells slots (mkF m pc' Ls (.int (cmpJ x y) :: st))) :
    Wp p l e R s m args below meth c n0 cM sM Q h cells slots (mkF m pc Ls (.long y :: .long x :: st)) := by
  subst hp; exact Wp.pure (fun T t X hr => XS.lcmp X C.1 rfl (hb C.2.1 hd) rfl hr) K
theorem w_dup (C : Cx p s m meth c Z own bytes ml rt nm) {pc pc' : Nat} {Ls : Array Slot} {st : List Value} {v : Value} (hd : decode bytes pc = .ok (.dup, 1)) (hc : v.category = 1) (hp : pc + 1 = pc') (K : Wp p l e R s m args below meth c n0 cM sM Q h cells slots (mkF m pc' Ls (v :: v :: st))) :
    Wp p l e R s m args below meth c n0 cM sM Q h cells slots (mkF m pc Ls (v :: st)) := by
  subst hp; exact Wp.pure (fun T t X hr => XS.dup X C.1 rfl (hb C.2.1 hd) rfl hc hr) K
theorem w_pop (C : Cx p s m meth c Z own bytes ml rt nm) {pc pc' : Nat} {Ls : Array Slot} {st : List Value} {v : Value} (hd : decode bytes pc = .ok (.pop, 1)) (hc : v.category = 1) (hp : pc + 1 = pc') (K : Wp p l e R s m args below meth c n0 cM sM Q h cells slots (mkF m pc' Ls st)) :
    Wp p l e R s m args below meth c n0 cM sM Q h cells slots (mkF m pc Ls (v :: st)) := by
  subst hp; exact Wp.pure (fun T t X hr => XS.pop X C.1 rfl (hb C.2.1 hd) rfl hc hr) K
theorem w_dupX1 (C : Cx p s m meth c Z own bytes ml rt nm) {pc pc' : Nat} {Ls : Array Slot} {st : List Value} {v w : Value} (hd : decode bytes pc = .ok (.dup_x1, 1)) (hc : v.category = 1) (hc' : w.category = 1) (hp : pc + 1 = pc') (K : Wp p l e R s m args below meth c n0 cM sM Q h cells slots (mkF m pc' Ls (v :: w :: v :: st))) :
    Wp p l e R s m args below meth c n0 cM sM Q h cells slots (mkF m pc Ls (v :: w :: st)) := by
  subst hp; exact Wp.pure (fun T t X hr => XS.dupX1 X C.1 rfl (hb C.2.1 hd) rfl hc hc' hr) K
theorem w_dup2 (C : Cx p s m meth c Z own bytes ml rt nm) {pc pc' : Nat} {Ls : Array Slot} {st : List Value} {v w : Value} (hd : decode bytes pc = .ok (.dup2, 1)) (hc : v.category = 1) (hc' : w.category = 1) (hp : pc + 1 = pc') (K : Wp p l e R s m args below meth c n0 cM sM Q h cells slots (mkF m pc' Ls (v :: w :: v :: w :: st))) :
    Wp p l e R s m args below meth c n0 cM sM Q h cells slots (mkF m pc Ls (v :: w :: st)) := by
  subst hp; exact Wp.pure (fun T t X hr => XT.dup2 X C.1 rfl (hb C.2.1 hd) rfl hc hc' hr) K
theorem w_eqI {pc : Nat} {Ls : Array Slot} {st : List Value} {x z : Int32} (hz : x = z) (K : Wp p l e R s m args below meth c n0 cM sM Q h cells slots (mkF m pc Ls (.int z :: st))) :
    Wp p l e R s m args below meth c n0 cM sM Q h cells slots (mkF m pc Ls (.int x :: st)) := by
  subst hz; exact K
theorem w_eqJ {pc : Nat} {Ls : Array Slot} {st : List Value} {x z : Int64} (hz : x = z) (K : Wp p l e R s m args below meth c n0 cM sM Q h cells slots (mkF m pc Ls (.long z :: st))) :
    Wp p l e R s m args below meth c n0 cM sM Q h cells slots (mkF m pc Ls (.long x :: st)) := by
  subst hz; exact K
theorem w_iincE (C : Cx p s m meth c Z own bytes ml rt nm) {pc pc' : Nat} {Ls Ls' : Array Slot} {st : List Value} {k : Nat} {cst : Int} {x z : Int32} (hd : decode bytes pc = .ok (.iinc k cst, 3)) (hx : Ls[k]? = some (.val (.int x))) (hz : x + Int32.ofInt cst = z) (hl : storeLocals Ls k (.int z) = some Ls') (hp : pc + 3 = pc') (K : Wp p l e R s m args below meth c n0 cM sM Q h cells slots (mkF m pc' Ls' st)) :
    Wp p l e R s m args below meth c n0 cM sM Q h cells slots (mkF m pc Ls st) := by
  subst hz; exact w_iinc C hd hx hl hp K
theorem w_goto (C : Cx p s m meth c Z own bytes ml rt nm) {pc pc' : Nat} {Ls : Array Slot} {st : List Value} {o : Int} (hd : decode bytes pc = .ok (.goto o, 3)) (ho : 0 ≤ (pc : Int) + o) (hp : ((pc : Int) + o).toNat = pc') (K : Wp p l e R s m args below meth c n0 cM sM Q h cells slots (mkF m pc' Ls st)) :
    Wp p l e R s m args below meth c n0 cM sM Q h cells slots (mkF m pc Ls st) :=
  Wp.pure (fun T t X hr => XS.goto X C.1 rfl rfl (hb C.2.1 hd) ho hp hr) K
theorem w_icmp_lt (C : Cx p s m meth c Z own bytes ml rt nm) {pc pcT pcF : Nat} {Ls : Array Slot} {st : List Value} {x y : Int32} {o : Int} (hd : decode bytes pc = .ok (.if_icmp .lt o, 3)) (ho : 0 ≤ (pc : Int) + o) (hT : ((pc : Int) + o).toNat = pcT) (hF : pc + 3 = pcF)
    (KT : x < y → Wp p l e R s m args below meth c n0 cM sM Q h cells slots (mkF m pcT Ls st)) (KF : ¬ x < y → Wp p l e R s m args below meth c n0 cM sM Q h cells slots (mkF m pcF Ls st)) :
    Wp p l e R s m args below meth c n0 cM sM Q h cells slots (mkF m pc Ls (.int y :: .int x :: st)) := by
  subst hF
  by_cases q : x < y
  · exact Wp.pure (fun T t X hr => XS.icmpYes X C.1 rfl rfl (hb C.2.1 hd) rfl (tlt q).1 ho hT hr) (KT q)
  · exact Wp.pure (fun T t X hr => XS.icmpNo X C.1 rfl (hb C.2.1 hd) rfl (flt q).1 hr) (KF q)
theorem w_if_lt (C : Cx p s m meth c Z own bytes ml rt nm) {pc pcT pcF : Nat} {Ls : Array Slot} {st : List Value} {x : Int32} {o : Int} (hd : decode bytes pc = .ok (.ifCond .lt o, 3)) (ho : 0 ≤ (pc : Int) + o) (hT : ((pc : Int) + o).toNat = pcT) (hF : pc + 3 = pcF)
    (KT : x < 0 → Wp p l e R s m args below meth c n0 cM sM Q h cells slots (mkF m pcT Ls st)) (KF : ¬ x < 0 → Wp p l e R s m args below meth c n0 cM sM Q h cells slots (mkF m pcF Ls st)) :
    Wp p l e R s m args below meth c n0 cM sM Q h cells slots (mkF m pc Ls (.int x :: st)) := by
  subst hF
  by_cases q : x < 0
  · exact Wp.pure (fun T t X hr => XS.ifYes X C.1 rfl rfl (hb C.2.1 hd) rfl ((if0 _ _).trans (tlt q).1) ho hT hr) (KT q)
  · exact Wp.pure (fun T t X hr => XS.ifNo X C.1 rfl (hb C.2.1 hd) rfl ((if0 _ _).trans (flt q).1) hr) (KF q)
theorem w_icmp_ge (C : Cx p s m meth c Z own bytes ml rt nm) {pc pcT pcF : Nat} {Ls : Array Slot} {st : List Value} {x y : Int32} {o : Int} (hd : decode bytes pc = .ok (.if_icmp .ge o, 3)) (ho : 0 ≤ (pc : Int) + o) (hT : ((pc : Int) + o).toNat = pcT) (hF : pc + 3 = pcF)
    (KT : ¬ x < y → Wp p l e R s m args below meth c n0 cM sM Q h cells slots (mkF m pcT Ls st)) (KF : x < y → Wp p l e R s m args below meth c n0 cM sM Q h cells slots (mkF m pcF Ls st)) :
    Wp p l e R s m args below meth c n0 cM sM Q h cells slots (mkF m pc Ls (.int y :: .int x :: st)) := by
  subst hF
  by_cases q : ¬ x < y
  · exact Wp.pure (fun T t X hr => XS.icmpYes X C.1 rfl rfl (hb C.2.1 hd) rfl (flt q).2.1 ho hT hr) (KT q)
  · exact Wp.pure (fun T t X hr => XS.icmpNo X C.1 rfl (hb C.2.1 hd) rfl (tlt (Classical.not_not.mp q)).2.1 hr) (KF (Classical.not_not.mp q))
theorem w_if_ge (C : Cx p s m meth c Z own bytes ml rt nm) {pc pcT pcF : Nat} {Ls : Array Slot} {st : List Value} {x : Int32} {o : Int} (hd : decode bytes pc = .ok (.ifCond .ge o, 3)) (ho : 0 ≤ (pc : Int) + o) (hT : ((pc : Int) + o).toNat = pcT) (hF : pc + 3 = pcF)
    (KT : ¬ x < 0 → Wp p l e R s m args below meth c n0 cM sM Q h cells slots (mkF m pcT Ls st)) (KF : x < 0 → Wp p l e R s m args below meth c n0 cM sM Q h cells slots (mkF m pcF Ls st)) :
    Wp p l e R s m args below meth c n0 cM sM Q h cells slots (mkF m pc Ls (.int x :: st)) := by
  subst hF
  by_cases q : ¬ x < 0
  · exact Wp.pure (fun T t X hr => XS.ifYes X C.1 rfl rfl (hb C.2.1 hd) rfl ((if0 _ _).trans (flt q).2.1) ho hT hr) (KT q)
  · exact Wp.pure (fun T t X hr => XS.ifNo X C.1 rfl (hb C.2.1 hd) rfl ((if0 _ _).trans (tlt (Classical.not_not.mp q)).2.1) hr) (KF (Classical.not_not.mp q))
theorem w_icmp_gt (C : Cx p s m meth c Z own bytes ml rt nm) {pc pcT pcF : Nat} {Ls : Array Slot} {st : List Value} {x y : Int32} {o : Int} (hd : decode bytes pc = .ok (.if_icmp .gt o, 3)) (ho : 0 ≤ (pc : Int) + o) (hT : ((pc : Int) + o).toNat = pcT) (hF : pc + 3 = pcF)
    (KT : y < x → Wp p l e R s m args below meth c n0 cM sM Q h cells slots (mkF m pcT Ls st)) (KF : ¬ y < x → Wp p l e R s m args below meth c n0 cM sM Q h cells slots (mkF m pcF Ls st)) :
    Wp p l e R s m args below meth c n0 cM sM Q h cells slots (mkF m pc Ls (.int y :: .int x :: st)) := by
  subst hF
  by_cases q : y < x
  · exact Wp.pure (fun T t X hr => XS.icmpYes X C.1 rfl rfl (hb C.2.1 hd) rfl (tlt q).2.2.1 ho hT hr) (KT q)
  · exact Wp.pure (fun T t X hr => XS.icmpNo X C.1 rfl (hb C.2.1 hd) rfl (flt q).2.2.1 hr) (KF q)
theorem w_if_gt (C : Cx p s m meth c Z own bytes ml rt nm) {pc pcT pcF : Nat} {Ls : Array Slot} {st : List Value} {x : Int32} {o : Int} (hd : decode bytes pc = .ok (.ifCond .gt o, 3)) (ho : 0 ≤ (pc : Int) + o) (hT : ((pc : Int) + o).toNat = pcT) (hF : pc + 3 = pcF)
    (KT : 0 < x → Wp p l e R s m args below meth c n0 cM sM Q h cells slots (mkF m pcT Ls st)) (KF : ¬ 0 < x → Wp p l e R s m args below meth c n0 cM sM Q h cells slots (mkF m pcF Ls st)) :
    Wp p l e R s m args below meth c n0 cM sM Q h cells slots (mkF m pc Ls (.int x :: st)) := by
  subst hF
  by_cases q : 0 < x
  · exact Wp.pure (fun T t X hr => XS.ifYes X C.1 rfl rfl (hb C.2.1 hd) rfl ((if0 _ _).trans (tlt q).2.2.1) ho hT hr) (KT q)
  · exact Wp.pure (fun T t X hr => XS.ifNo X C.1 rfl (hb C.2.1 hd) rfl ((if0 _ _).trans (flt q).2.2.1) hr) (KF q)
theorem w_icmp_le (C : Cx p s m meth c Z own bytes ml rt nm) {pc pcT pcF : Nat} {Ls : Array Slot} {st : List Value} {x y : Int32} {o : Int} (hd : decode bytes pc = .ok (.if_icmp .le o, 3)) (ho : 0 ≤ (pc : Int) + o) (hT : ((pc : Int) + o).toNat = pcT) (hF : pc + 3 = pcF)
    (KT : ¬ y < x → Wp p l e R s m args below meth c n0 cM sM Q h cells slots (mkF m pcT Ls st)) (KF : y < x → Wp p l e R s m args below meth c n0 cM sM Q h cells slots (mkF m pcF Ls st)) :
    Wp p l e R s m args below meth c n0 cM sM Q h cells slots (mkF m pc Ls (.int y :: .int x :: st)) := by
  subst hF
  by_cases q : ¬ y < x
  · exact Wp.pure (fun T t X hr => XS.icmpYes X C.1 rfl rfl (hb C.2.1 hd) rfl (flt q).2.2.2 ho hT hr) (KT q)
  · exact Wp.pure (fun T t X hr => XS.icmpNo X C.1 rfl (hb C.2.1 hd) rfl (tlt (Classical.not_not.mp q)).2.2.2 hr) (KF (Classical.not_not.mp q))
theorem w_if_le (C : Cx p s m meth c Z own bytes ml rt nm) {pc pcT pcF : Nat} {Ls : Array Slot} {st : List Value} {x : Int32} {o : Int} (hd : decode bytes pc = .ok (.ifCond .le o, 3)) (ho : 0 ≤ (pc : Int) + o) (hT : ((pc : Int) + o).toNat = pcT) (hF : pc + 3 = pcF)
    (KT : ¬ 0 < x → Wp p l e R s m args below meth c n0 cM sM Q h cells slots (mkF m pcT Ls st)) (KF : 0 < x → Wp p l e R s m args below meth c n0 cM sM Q h cells slots (mkF m pcF Ls st)) :
    Wp p l e R s m args below meth c n0 cM sM Q h cells slots (mkF m pc Ls (.int x :: st)) := by
  subst hF
  by_cases q : ¬ 0 < x
  · exact Wp.pure (fun T t X hr => XS.ifYes X C.1 rfl rfl (hb C.2.1 hd) rfl ((if0 _ _).trans (flt q).2.2.2) ho hT hr) (KT q)
  · exact Wp.pure (fun T t X hr => XS.ifNo X C.1 rfl (hb C.2.1 hd) rfl ((if0 _ _).trans (tlt (Classical.not_not.mp q)).2.2.2) hr) (KF (Classical.not_not.mp q))
theorem w_icmp_eq (C : Cx p s m meth c Z own bytes ml rt nm) {pc pcT pcF : Nat} {Ls : Array Slot} {st : List Value} {x y : Int32} {o : Int} (hd : decode bytes pc = .ok (.if_icmp .eq o, 3)) (ho : 0 ≤ (pc : Int) + o) (hT : ((pc : Int) + o).toNat = pcT) (hF : pc + 3 = pcF)
    (KT : x = y → Wp p l e R s m args below meth c n0 cM sM Q h cells slots (mkF m pcT Ls st)) (KF : ¬ x = y → Wp p l e R s m args below meth c n0 cM sM Q h cells slots (mkF m pcF Ls st)) :
    Wp p l e R s m args below meth c n0 cM sM Q h cells slots (mkF m pc Ls (.int y :: .int x :: st)) := by
  subst hF
  by_cases q : x = y
  · exact Wp.pure (fun T t X hr => XS.icmpYes X C.1 rfl rfl (hb C.2.1 hd) rfl (teq q).1 ho hT hr) (KT q)
  · exact Wp.pure (fun T t X hr => XS.icmpNo X C.1 rfl (hb C.2.1 hd) rfl (feq q).1 hr) (KF q)
theorem w_if_eq (C : Cx p s m meth c Z own bytes ml rt nm) {pc pcT pcF : Nat} {Ls : Array Slot} {st : List Value} {x : Int32} {o : Int} (hd : decode bytes pc = .ok (.ifCond .eq o, 3)) (ho : 0 ≤ (pc : Int) + o) (hT : ((pc : Int) + o).toNat = pcT) (hF : pc + 3 = pcF)
    (KT : x = 0 → Wp p l e R s m args below meth c n0 cM sM Q h cells slots (mkF m pcT Ls st)) (KF : ¬ x = 0 → Wp p l e R s m args below meth c n0 cM sM Q h cells slots (mkF m pcF Ls st)) :
    Wp p l e R s m args below meth c n0 cM sM Q h cells slots (mkF m pc Ls (.int x :: st)) := by
  subst hF
  by_cases q : x = 0
  · exact Wp.pure (fun T t X hr => XS.ifYes X C.1 rfl rfl (hb C.2.1 hd) rfl ((if0 _ _).trans (teq q).1) ho hT hr) (KT q)
  · exact Wp.pure (fun T t X hr => XS.ifNo X C.1 rfl (hb C.2.1 hd) rfl ((if0 _ _).trans (feq q).1) hr) (KF q)
theorem w_icmp_ne (C : Cx p s m meth c Z own bytes ml rt nm) {pc pcT pcF : Nat} {Ls : Array Slot} {st : List Value} {x y : Int32} {o : Int} (hd : decode bytes pc = .ok (.if_icmp .ne o, 3)) (ho : 0 ≤ (pc : Int) + o) (hT : ((pc : Int) + o).toNat = pcT) (hF : pc + 3 = pcF)
    (KT : ¬ x = y → Wp p l e R s m args below meth c n0 cM sM Q h cells slots (mkF m pcT Ls st)) (KF : x = y → Wp p l e R s m args below meth c n0 cM sM Q h cells slots (mkF m pcF Ls st)) :
    Wp p l e R s m args below meth c n0 cM sM Q h cells slots (mkF m pc Ls (.int y :: .int x :: st)) := by
  subst hF
  by_cases q : ¬ x = y
  · exact Wp.pure (fun T t X hr => XS.icmpYes X C.1 rfl rfl (hb C.2.1 hd) rfl (feq q).2 ho hT hr) (KT q)
  · exact Wp.pure (fun T t X hr => XS.icmpNo X C.1 rfl (hb C.2.1 hd) rfl (teq (Classical.not_not.mp q)).2 hr) (KF (Classical.not_not.mp q))
theorem w_if_ne (C : Cx p s m meth c Z own bytes ml rt nm) {pc pcT pcF : Nat} {Ls : Array Slot} {st : List Value} {x : Int32} {o : Int} (hd : decode bytes pc = .ok (.ifCond .ne o, 3)) (ho : 0 ≤ (pc : Int) + o) (hT : ((pc : Int) + o).toNat = pcT) (hF : pc + 3 = pcF)
    (KT : ¬ x = 0 → Wp p l e R s m args below meth c n0 cM sM Q h cells slots (mkF m pcT Ls st)) (KF : x = 0 → Wp p l e R s m args below meth c n0 cM sM Q h cells slots (mkF m pcF Ls st)) :
    Wp p l e R s m args below meth c n0 cM sM Q h cells slots (mkF m pc Ls (.int x :: st)) := by
  subst hF
  by_cases q : ¬ x = 0
  · exact Wp.pure (fun T t X hr => XS.ifYes X C.1 rfl rfl (hb C.2.1 hd) rfl ((if0 _ _).trans (feq q).2) ho hT hr) (KT q)
  · exact Wp.pure (fun T t X hr => XS.ifNo X C.1 rfl (hb C.2.1 hd) rfl ((if0 _ _).trans (teq (Classical.not_not.mp q)).2) hr) (KF (Classical.not_not.mp q))
theorem w_ifnull_null (C : Cx p s m meth c Z own bytes ml rt nm) {pc pc' : Nat} {Ls : Array Slot} {st : List Value}  {o : Int} (hd : decode bytes pc = .ok (.ifnull o, 3)) (ho : 0 ≤ (pc : Int) + o) (hp : ((pc : Int) + o).toNat = pc') (K : Wp p l e R s m args below meth c n0 cM sM Q h cells slots (mkF m pc' Ls st)) :
    Wp p l e R s m args below meth c n0 cM sM Q h cells slots (mkF m pc Ls (.null :: st)) :=
  Wp.pure (fun T t X hr => XS.ifnullYes X C.1 rfl rfl (hb C.2.1 hd) rfl ho hp hr) K
theorem w_ifnull_ref (C : Cx p s m meth c Z own bytes ml rt nm) {pc pc' : Nat} {Ls : Array Slot} {st : List Value} {b : Addr} {o : Int} (hd : decode bytes pc = .ok (.ifnull o, 3)) (hp : pc + 3 = pc') (K : Wp p l e R s m args below meth c n0 cM sM Q h cells slots (mkF m pc' Ls st)) :
    Wp p l e R s m args below meth c n0 cM sM Q h cells slots (mkF m pc Ls (.ref b :: st)) := by
  subst hp; exact Wp.pure (fun T t X hr => XS.ifnullNo X C.1 rfl (hb C.2.1 hd) rfl hr) K
theorem w_ifnonnull_ref (C : Cx p s m meth c Z own bytes ml rt nm) {pc pc' : Nat} {Ls : Array Slot} {st : List Value} {b : Addr} {o : Int} (hd : decode bytes pc = .ok (.ifnonnull o, 3)) (ho : 0 ≤ (pc : Int) + o) (hp : ((pc : Int) + o).toNat = pc') (K : Wp p l e R s m args below meth c n0 cM sM Q h cells slots (mkF m pc' Ls st)) :
    Wp p l e R s m args below meth c n0 cM sM Q h cells slots (mkF m pc Ls (.ref b :: st)) :=
  Wp.pure (fun T t X hr => XS.ifnonnullYes X C.1 rfl rfl (hb C.2.1 hd) rfl ho hp hr) K
theorem w_ifnonnull_null (C : Cx p s m meth c Z own bytes ml rt nm) {pc pc' : Nat} {Ls : Array Slot} {st : List Value}  {o : Int} (hd : decode bytes pc = .ok (.ifnonnull o, 3)) (hp : pc + 3 = pc') (K : Wp p l e R s m args below meth c n0 cM sM Q h cells slots (mkF m pc' Ls st)) :
    Wp p l e R s m args below meth c n0 cM sM Q h cells slots (mkF m pc Ls (.null :: st)) := by
  subst hp; exact Wp.pure (fun T t X hr => XS.ifnonnullNo X C.1 rfl (hb C.2.1 hd) rfl hr) K
theorem w_acmp_eq (C : Cx p s m meth c Z own bytes ml rt nm) {pc pcT pcF : Nat} {Ls : Array Slot} {st : List Value} {v w : Value} {o : Int} (hv : v.isRef = true) (hw : w.isRef = true) (hd : decode bytes pc = .ok (.if_acmp .eq o, 3)) (ho : 0 ≤ (pc : Int) + o) (hT : ((pc : Int) + o).toNat = pcT) (hF : pc + 3 = pcF)
    (KT : v = w → Wp p l e R s m args below meth c n0 cM sM Q h cells slots (mkF m pcT Ls st)) (KF : ¬ v = w → Wp p l e R s m args below meth c n0 cM sM Q h cells slots (mkF m pcF Ls st)) :
    Wp p l e R s m args below meth c n0 cM sM Q h cells slots (mkF m pc Ls (w :: v :: st)) := by
  intro T locs X e0 N
  by_cases q : v = w
  · obtain ⟨s2, u, L, a, r⟩ := KT q T locs X e0 N
    exact ⟨s2, u, L, Jvm.RoadKit.acmp (g := mkF m pc Ls (w :: v :: st)) X C.1 rfl hv hw (pc0 := pc) (same := true) rfl (hb C.2.1 hd) rfl (decide_eq_true q) ho (by simp [acV, hT, hF]) a, r⟩
  · obtain ⟨s2, u, L, a, r⟩ := KF q T locs X e0 N
    exact ⟨s2, u, L, Jvm.RoadKit.acmp (g := mkF m pc Ls (w :: v :: st)) X C.1 rfl hv hw (pc0 := pc) (same := false) rfl (hb C.2.1 hd) rfl (decide_eq_false q) ho (by simp [acV, hT, hF]) a, r⟩
theorem w_acmp_ne (C : Cx p s m meth c Z own bytes ml rt nm) {pc pcT pcF : Nat} {Ls : Array Slot} {st : List Value} {v w : Value} {o : Int} (hv : v.isRef = true) (hw : w.isRef = true) (hd : decode bytes pc = .ok (.if_acmp .ne o, 3)) (ho : 0 ≤ (pc : Int) + o) (hT : ((pc : Int) + o).toNat = pcT) (hF : pc + 3 = pcF)
    (KT : ¬ v = w → Wp p l e R s m args below meth c n0 cM sM Q h cells slots (mkF m pcT Ls st)) (KF : v = w → Wp p l e R s m args below meth c n0 cM sM Q h cells slots (mkF m pcF Ls st)) :
    Wp p l e R s m args below meth c n0 cM sM Q h cells slots (mkF m pc Ls (w :: v :: st)) := by
  intro T locs X e0 N
  by_cases q : v = w
  · obtain ⟨s2, u, L, a, r⟩ := KF q T locs X e0 N
    exact ⟨s2, u, L, Jvm.RoadKit.acmp (g := mkF m pc Ls (w :: v :: st)) X C.1 rfl hv hw (pc0 := pc) (same := true) rfl (hb C.2.1 hd) rfl (decide_eq_true q) ho (by simp [acV, hT, hF]) a, r⟩
  · obtain ⟨s2, u, L, a, r⟩ := KT q T locs X e0 N
    exact ⟨s2, u, L, Jvm.RoadKit.acmp (g := mkF m pc Ls (w :: v :: st)) X C.1 rfl hv hw (pc0 := pc) (same := false) rfl (hb C.2.1 hd) rfl (decide_eq_false q) ho (by simp [acV, hT, hF]) a, r⟩
theorem w_ldcI (C : Cx p s m meth c Z own bytes ml rt nm) {pc pc' : Nat} {Ls : Array Slot} {st : List Value} {i : Nat} {x : Int32} (w : (Jvm.Cond.constant own i x).before a0 Z = true) (hd : decode bytes pc = .ok (.ldc i, 2)) (hp : pc + 2 = pc') (K : Wp p l e R s m args below meth c n0 cM sM Q h cells slots (mkF m pc' Ls (.int x :: st))) :
    Wp p l e R s m args below meth c n0 cM sM Q h cells slots (mkF m pc Ls st) := by
  subst hp; intro T locs X e0 N
  obtain ⟨s2, v, L, a, r⟩ := K T locs X e0 N
  exact ⟨s2, v, L, X.ldcInt C.1 C.2.2.2.1 (mvT C.2.2.1 w) (g := mkF m pc Ls st) rfl (hb C.2.1 hd) _ a, r⟩
theorem w_ldcwI (C : Cx p s m meth c Z own bytes ml rt nm) {pc pc' : Nat} {Ls : Array Slot} {st : List Value} {i : Nat} {x : Int32} (w : (Jvm.Cond.constant own i x).before a0 Z = true) (hd : decode bytes pc = .ok (.ldc_w i, 3)) (hp : pc + 3 = pc') (K : Wp p l e R s m args below meth c n0 cM sM Q h cells slots (mkF m pc' Ls (.int x :: st))) :
    Wp p l e R s m args below meth c n0 cM sM Q h cells slots (mkF m pc Ls st) := by
  subst hp; intro T locs X e0 N
  obtain ⟨s2, v, L, a, r⟩ := K T locs X e0 N
  exact ⟨s2, v, L, X.ldcwInt C.1 C.2.2.2.1 (mvT C.2.2.1 w) (g := mkF m pc Ls st) rfl (hb C.2.1 hd) _ a, r⟩
theorem w_ldc2J (C : Cx p s m meth c Z own bytes ml rt nm) {pc pc' : Nat} {Ls : Array Slot} {st : List Value} {i : Nat} {x : Int64} (w : (Jvm.Cond.constantLong own i x).before a0 Z = true) (hd : decode bytes pc = .ok (.ldc2_w i, 3)) (hp : pc + 3 = pc') (K : Wp p l e R s m args below meth c n0 cM sM Q h cells slots (mkF m pc' Ls (.long x :: st))) :
    Wp p l e R s m args below meth c n0 cM sM Q h cells slots (mkF m pc Ls st) := by
  subst hp; intro T locs X e0 N
  obtain ⟨s2, v, L, a, r⟩ := K T locs X e0 N
  exact ⟨s2, v, L, X.ldc2Long C.1 C.2.2.2.1 (mvT C.2.2.1 w) (g := mkF m pc Ls st) rfl (hb C.2.1 hd) _ a, r⟩
theorem w_retN (C : Cx p s m meth c Z own bytes ml rt nm) {pc : Nat} {Ls : Array Slot} {st : List Value} {z : Int32} {t : FieldType} (hrt : rt = some t) (ht : t = .boolean ∨ t = .byte ∨ t = .char ∨ t = .short) (hd : decode bytes pc = .ok (.ireturn, 1)) (hc : cells ≤ cM) (hs : slots ≤ sM) (q : Q (some (.int (nar t z))) h) :
    Wp p l e R s m args below meth c n0 cM sM Q h cells slots (mkF m pc Ls (.int z :: st)) :=
  have hr : meth.sig.returnType = some t := C.2.2.2.2.2.1.trans hrt
  Wp.ret C (fun T fs locs X hl => retN X C.1 hr ht (hb C.2.1 hd) hl) (fun q => by rw [hr] at q; cases q) hc hs q
theorem narB0 : nar .boolean 0 = 0 := by decide
theorem narB1 : nar .boolean 1 = 1 := by decide
theorem w_retN' (C : Cx p s m meth c Z own bytes ml rt nm) {pc : Nat} {Ls : Array Slot} {st : List Value} {z z' : Int32} {t : FieldType} (hrt : rt = some t) (ht : t = .boolean ∨ t = .byte ∨ t = .char ∨ t = .short) (hd : decode bytes pc = .ok (.ireturn, 1)) (hc : cells ≤ cM) (hs : slots ≤ sM) (hz : nar t z = z') (q : Q (some (.int z')) h) :
    Wp p l e R s m args below meth c n0 cM sM Q h cells slots (mkF m pc Ls (.int z :: st)) := by
  subst hz; exact w_retN C hrt ht hd hc hs q
theorem ireturn_step {T : State} {locs : List Loc} (X : Stand p l e R s m args below meth c T locs cells slots) (hx : p.tables.exec = Jvm.exec) {pc : Nat} {Ls : Array Slot} {z : Int32} {rest : List Value} (hret : meth.sig.returnType = some .int) (hd : decode c.code pc = .ok (.ireturn, 1)) {fs : List Frame}
    (hl : ∀ (f : JFrame) (acts : List Action), f.method = m → f.locked = none → f.entered = [] → (doReturn e (T.setTop f) acts (some (.int z))).1 = T.setFrames fs) : Steps p.tables e below (T.setTop (mkF m pc Ls (.int z :: rest))) (T.setFrames fs) :=
  retOut X hx (t := .int) (i := .ireturn) hret rfl (Or.inl ⟨rfl, Or.inl rfl, _, rfl⟩) hd hl
theorem w_retI (C : Cx p s m meth c Z own bytes ml rt nm) {pc : Nat} {Ls : Array Slot} {st : List Value} {z : Int32} (hrt : rt = some .int) (hd : decode bytes pc = .ok (.ireturn, 1)) (hc : cells ≤ cM) (hs : slots ≤ sM) (q : Q (some (.int z)) h) :
    Wp p l e R s m args below meth c n0 cM sM Q h cells slots (mkF m pc Ls (.int z :: st)) :=
  have hr : meth.sig.returnType = some .int := C.2.2.2.2.2.1.trans hrt
  Wp.ret C (fun T fs locs X hl => ireturn_step X C.1 hr (hb C.2.1 hd) hl) (fun q => by rw [hr] at q; cases q) hc hs q
theorem w_retJ (C : Cx p s m meth c Z own bytes ml rt nm) {pc : Nat} {Ls : Array Slot} {st : List Value} {z : Int64} (hrt : rt = some .long) (hd : decode bytes pc = .ok (.lreturn, 1)) (hc : cells ≤ cM) (hs : slots ≤ sM) (q : Q (some (.long z)) h) :
    Wp p l e R s m args below meth c n0 cM sM Q h cells slots (mkF m pc Ls (.long z :: st)) :=
  have hr : meth.sig.returnType = some .long := C.2.2.2.2.2.1.trans hrt
  Wp.ret C (fun T fs locs X hl => retOut X C.1 (t := .long) (i := .lreturn) hr rfl (Or.inr (Or.inl ⟨rfl, rfl, _, rfl⟩)) (hb C.2.1 hd) hl) (fun q => by rw [hr] at q; cases q) hc hs q
theorem w_retA (C : Cx p s m meth c Z own bytes ml rt nm) {pc : Nat} {Ls : Array Slot} {st : List Value} {v : Value} {t : FieldType} (hrt : rt = some t) (ht : t.isReference = true) (hv : v.isRef = true) (hd : decode bytes pc = .ok (.areturn, 1)) (hc : cells ≤ cM) (hs : slots ≤ sM) (q : Q (some v) h) :
    Wp p l e R s m args below meth c n0 cM sM Q h cells slots (mkF m pc Ls (v :: st)) :=
  have hr : meth.sig.returnType = some t := C.2.2.2.2.2.1.trans hrt
  Wp.ret C (fun T fs locs X hl => retOut X C.1 (t := t) (i := .areturn) hr (by cases v <;> simp [Value.isRef] at hv <;> cases t <;> first | rfl | (simp [FieldType.isReference] at ht)) (Or.inr (Or.inr (Or.inr (Or.inr ⟨rfl, ht, hv⟩)))) (hb C.2.1 hd) hl) (fun q => by rw [hr] at q; cases q) hc hs q
theorem w_ret0 (C : Cx p s m meth c Z own bytes ml rt nm) {pc : Nat} {Ls : Array Slot} (hrt : rt = none) (hd : decode bytes pc = .ok (.return_, 1)) (hc : cells ≤ cM) (hs : slots ≤ sM) (q : Q none h) :
    Wp p l e R s m args below meth c n0 cM sM Q h cells slots (mkF m pc Ls []) :=
  have hr : meth.sig.returnType = none := C.2.2.2.2.2.1.trans hrt
  Wp.ret C (fun T fs locs X hl => X.returnOut C.1 hr (hb C.2.1 hd) hl) (fun _ => rfl) hc hs q
theorem w_getF (C : Cx p s m meth c Z own bytes ml rt nm) {pc pc' : Nat} {Ls : Array Slot} {st : List Value} {O n d : String} {i : Nat} {a : Addr} {v : Value} (w : (Jvm.Cond.fieldLink own i O n d).before a0 Z = true) (hd : decode bytes pc = .ok (.getfield i, 3)) (hp : pc + 3 = pc') (F : Fld Z h a O n d v) (K : Wp p l e R s m args below meth c n0 cM sM Q h cells slots (mkF m pc' Ls (v :: st))) :
    Wp p l e R s m args below meth c n0 cM sM Q h cells slots (mkF m pc Ls (.ref a :: st)) := by
  subst hp
  exact Wp.law (fun T locs X e0 => getF X C.1 C.2.2.1 C.2.2.2.1 (host := "") (Or.inl w) Via.refl e0 F (g := mkF m pc Ls (.ref a :: st)) rfl rfl (hb C.2.1 hd)) K
theorem w_getFN (C : Cx p s m meth c Z own bytes ml rt nm) {pc pc' : Nat} {Ls : Array Slot} {st : List Value} {O n d host : String} {i : Nat} {a : Addr} {v : Value} (w : (Jvm.Cond.fieldLinkNest own i O n d host).before a0 Z = true) (hd : decode bytes pc = .ok (.getfield i, 3)) (hp : pc + 3 = pc') (F : Fld Z h a O n d v) (K : Wp p l e R s m args below meth c n0 cM sM Q h cells slots (mkF m pc' Ls (v :: st))) :
    Wp p l e R s m args below meth c n0 cM sM Q h cells slots (mkF m pc Ls (.ref a :: st)) := by
  subst hp
  exact Wp.law (fun T locs X e0 => getF X C.1 C.2.2.1 C.2.2.2.1 (Or.inr w) Via.refl e0 F (g := mkF m pc Ls (.ref a :: st)) rfl rfl (hb C.2.1 hd)) K
theorem w_getS (C : Cx p s m meth c Z own bytes ml rt nm) {pc pc' : Nat} {Ls : Array Slot} {st : List Value} {O n d : String} {i : Nat} {v : Value} (w : (Jvm.Cond.fieldLink own i O n d).before a0 Z = true) (hd : decode bytes pc = .ok (.getstatic i, 3)) (hp : pc + 3 = pc') (F : Sta Z h O n d v) (K : Wp p l e R s m args below meth c n0 cM sM Q h cells slots (mkF m pc' Ls (v :: st))) :
    Wp p l e R s m args below meth c n0 cM sM Q h cells slots (mkF m pc Ls st) := by
  subst hp
  exact Wp.law (fun T locs X e0 => getS X C.1 C.2.2.1 C.2.2.2.1 (host := "") w Via.refl e0 F (g := mkF m pc Ls st) rfl (hb C.2.1 hd)) K
theorem w_putF (C : Cx p s m meth c Z own bytes ml rt nm) {pc pc' : Nat} {Ls : Array Slot} {st : List Value} {O n d Cl : String} {i kk : Nat} {a : Addr} {v old : Value} {ty : FieldType} (w : (Jvm.Cond.fieldLink own i O n d).before a0 Z = true) (L : (Jvm.Cond.lays Cl O n d).before a0 Z = true ∨ ((Jvm.Cond.laysFinal Cl O n d).before a0 Z = true ∧ own = O ∧ nm = "<init>")) (wi : (Jvm.Cond.instantiable Cl kk).before a0 Z = true)
    (hty : parseFieldDescriptor d = some ty) (hn : narrow ty v = v) (hf : fits ty v = true) (hd : decode bytes pc = .ok (.putfield i, 3)) (hp : pc + 3 = pc') (g0 : n0 ≤ a) (F : Fld Z h a O n d old) (E : Exa Z h a Cl)
    (K : ∀ h', Wr h h' a (Jvm.RoadKit.slotOf Z O n d) v → Wp p l e R s m args below meth c n0 cM sM Q h' cells slots (mkF m pc' Ls st)) :
    Wp p l e R s m args below meth c n0 cM sM Q h cells slots (mkF m pc Ls (v :: .ref a :: st)) := by
  subst hp
  intro T locs X e0 N
  obtain ⟨T', h', X', e', W, st'⟩ := putF X C.1 C.2.2.1 C.2.2.2.1 (host := "") (Or.inl w) Via.refl e0 F E (L.imp id fun q => ⟨q.1, q.2.1, C.2.2.2.2.2.2.1.trans q.2.2⟩) wi hty hn hf (g := mkF m pc Ls (v :: .ref a :: st)) rfl rfl (hb C.2.1 hd)
  obtain ⟨s2, u, Lc, x, r⟩ := K h' W T' _ X' e' (Fr.snoc X' N g0)
  exact ⟨s2, u, Lc, st' _ x, r⟩
theorem w_putFN (C : Cx p s m meth c Z own bytes ml rt nm) {pc pc' : Nat} {Ls : Array Slot} {st : List Value} {O n d Cl : String} {i kk : Nat} {a : Addr} {v old : Value} {ty : FieldType} {host : String} (w : (Jvm.Cond.fieldLinkNest own i O n d host).before a0 Z = true) (L : (Jvm.Cond.lays Cl O n d).before a0 Z = true ∨ ((Jvm.Cond.laysFinal Cl O n d).before a0 Z = true ∧ own = O ∧ nm = "<init>")) (wi : (Jvm.Cond.instantiable Cl kk).before a0 Z = true)
    (hty : parseFieldDescriptor d = some ty) (hn : narrow ty v = v) (hf : fits ty v = true) (hd : decode bytes pc = .ok (.putfield i, 3)) (hp : pc + 3 = pc') (g0 : n0 ≤ a) (F : Fld Z h a O n d old) (E : Exa Z h a Cl)
    (K : ∀ h', Wr h h' a (Jvm.RoadKit.slotOf Z O n d) v → Wp p l e R s m args below meth c n0 cM sM Q h' cells slots (mkF m pc' Ls st)) :
    Wp p l e R s m args below meth c n0 cM sM Q h cells slots (mkF m pc Ls (v :: .ref a :: st)) := by
  subst hp
  intro T locs X e0 N
  obtain ⟨T', h', X', e', W, st'⟩ := putF X C.1 C.2.2.1 C.2.2.2.1 (Or.inr w) Via.refl e0 F E (L.imp id fun q => ⟨q.1, q.2.1, C.2.2.2.2.2.2.1.trans q.2.2⟩) wi hty hn hf (g := mkF m pc Ls (v :: .ref a :: st)) rfl rfl (hb C.2.1 hd)
  obtain ⟨s2, u, Lc, x, r⟩ := K h' W T' _ X' e' (Fr.snoc X' N g0)
  exact ⟨s2, u, Lc, st' _ x, r⟩
theorem w_putFZ (C : Cx p s m meth c Z own bytes ml rt nm) {pc pc' : Nat} {Ls : Array Slot} {st : List Value} {O n d Cl : String} {i kk : Nat} {a : Addr} {v v' old : Value} {ty : FieldType} (w : (Jvm.Cond.fieldLink own i O n d).before a0 Z = true) (L : (Jvm.Cond.lays Cl O n d).before a0 Z = true ∨ ((Jvm.Cond.laysFinal Cl O n d).before a0 Z = true ∧ own = O ∧ nm = "<init>")) (wi : (Jvm.Cond.instantiable Cl kk).before a0 Z = true)
    (hty : parseFieldDescriptor d = some ty) (hn : narrow ty v = v') (hf : fits ty v' = true) (hd : decode bytes pc = .ok (.putfield i, 3)) (hp : pc + 3 = pc') (g0 : n0 ≤ a) (F : Fld Z h a O n d old) (E : Exa Z h a Cl)
    (K : ∀ h', Wr h h' a (Jvm.RoadKit.slotOf Z O n d) v' → Wp p l e R s m args below meth c n0 cM sM Q h' cells slots (mkF m pc' Ls st)) :
    Wp p l e R s m args below meth c n0 cM sM Q h cells slots (mkF m pc Ls (v :: .ref a :: st)) := by
  subst hp
  intro T locs X e0 N
  obtain ⟨T', h', X', e', W, st'⟩ := putFN X C.1 C.2.2.1 C.2.2.2.1 w Via.refl e0 F E (L.imp id fun q => ⟨q.1, q.2.1, C.2.2.2.2.2.2.1.trans q.2.2⟩) wi hty hn hf (g := mkF m pc Ls (v :: .ref a :: st)) rfl rfl (hb C.2.1 hd)
  obtain ⟨s2, u, Lc, x, r⟩ := K h' W T' _ X' e' (Fr.snoc X' N g0)
  exact ⟨s2, u, Lc, st' _ x, r⟩
theorem ready39 {Z : State} {vm' : Vm} {cur i c : Nat} {f : Field} (h : Z.Warmed39 vm') (r : Z.vm.fieldReady cur i c f) : vm'.fieldReady cur i c f := by
  obtain ⟨k, j, kc, h1, h2, h3, h4⟩ := r
  obtain ⟨k', a1, a2, -, a4, -⟩ := h.2.2.2 cur k h1
  obtain ⟨kc', b1, b2, -⟩ := h.2.2.2 c kc h3
  refine ⟨k', j, kc', a1, ?_, b1, by rw [b2]; exact h4⟩
  rcases a4 i with q | ⟨q, -⟩
  · rw [q]; exact h2
  · rw [h2] at q; cases q
/-- a field whose entry is resolved already -/
theorem w_getFR (C : Cx p s m meth c Z own bytes ml rt nm) {pc pc' : Nat} {Ls : Array Slot} {st : List Value} {O n d : String} {i : Nat} {a : Addr} {v : Value} (w : (Jvm.Cond.fieldRef own i O n d).before a0 Z = true) (hd : decode bytes pc = .ok (.getfield i, 3)) (hp : pc + 3 = pc') (F : Fld Z h a O n d v) (K : Wp p l e R s m args below meth c n0 cM sM Q h cells slots (mkF m pc' Ls (v :: st))) :
    Wp p l e R s m args below meth c n0 cM sM Q h cells slots (mkF m pc Ls (.ref a :: st)) := by
  subst hp
  refine Wp.law (fun T locs X e0 => ⟨T, X, e0, fun t hr => ?_⟩) K
  obtain ⟨cell, cf, k, ix, f, h1, h2, h3, h4, h5, h6, h7⟩ := F
  have hown := C.2.2.2.1
  rw [C.2.2.1.alike.findClass] at hown
  obtain ⟨cf', k', ix', f', g1, g2⟩ := Cond.fieldRef_spec hown w
  cases h2.symm.trans g1
  have hready := ready39 (wtrans C.2.2.1 X.warmed) g2
  have hexec := C.1
  have hdg := hb C.2.1 hd
  have hcell : T.heap[a]? = some cell := by rw [e0]; exact h1
  show Steps p.tables e below (T.setTop (mkF m pc Ls (.ref a :: st))) t
  jvm_step X.here [hexec, hdg, getfield.wp_ready (e := e) (s := T) (f := mkF m pc Ls (.ref a :: st)) X.here.top hready h3 rfl hcell h4 h7]
  exact hr
theorem w_putFR (C : Cx p s m meth c Z own bytes ml rt nm) {pc pc' : Nat} {Ls : Array Slot} {st : List Value} {O n d Cl : String} {i kk : Nat} {a : Addr} {v old : Value} {ty : FieldType} (w : (Jvm.Cond.fieldRef own i O n d).before a0 Z = true) (L : (Jvm.Cond.lays Cl O n d).before a0 Z = true) (wi : (Jvm.Cond.instantiable Cl kk).before a0 Z = true)
    (hty : parseFieldDescriptor d = some ty) (hn : narrow ty v = v) (hf : fits ty v = true) (hd : decode bytes pc = .ok (.putfield i, 3)) (hp : pc + 3 = pc') (g0 : n0 ≤ a) (F : Fld Z h a O n d old) (E : Exa Z h a Cl)
    (K : ∀ h', Wr h h' a (Jvm.RoadKit.slotOf Z O n d) v → Wp p l e R s m args below meth c n0 cM sM Q h' cells slots (mkF m pc' Ls st)) :
    Wp p l e R s m args below meth c n0 cM sM Q h cells slots (mkF m pc Ls (v :: .ref a :: st)) := by
  subst hp
  intro T locs X e0 N
  obtain ⟨cell, cf, k, ix, f, h1, h2, h3, h4, h5, -, h7⟩ := F
  obtain ⟨cell', kc, e1, e2, e3, -⟩ := E
  cases h1.symm.trans e1
  obtain ⟨c1, k1, cf1, kf1, i1, f1, a1, a2, a3, -, -, a6, -⟩ := Laid.spec (a0 := a0) (Or.inl L)
  cases h2.symm.trans a3
  cases e2.symm.trans a1
  obtain ⟨c2, k2, j1, j2, j3, -⟩ := Cond.instantiable_spec wi
  cases e2.symm.trans j1
  cases a2.symm.trans j2
  have ht := (State.fieldFound?_type h2 hty).2
  have hfit : Z.fitsSlot cell.cls cell.vm f.slot v = true := by
    have q : Z.slotType? cell.cls cell.vm f.slot = some ty := by
      simp only [State.slotType?, a2, Option.bind_eq_bind, Option.bind_some, j3]
      cases hq : cell.vm <;> first | (rw [hq] at h5; exact Bool.noConfusion h5) | (rw [a6, ht])
    simp [State.fitsSlot, q, hf]
  have hU := wtrans C.2.2.1 X.warmed
  have hfit' : T.fitsSlot cell.cls cell.vm f.slot v = true := by rw [← State.fitsSlot_setVm hU.alike] at hfit; exact hfit
  obtain ⟨_, _, _, _, _, _, -, -, b3, -, b5, -⟩ := Cond.lays_spec L
  cases h2.symm.trans b3
  have hown := C.2.2.2.1
  rw [C.2.2.1.alike.findClass] at hown
  obtain ⟨cf', k', ix', f', g1, g2⟩ := Cond.fieldRef_spec hown w
  cases h2.symm.trans g1
  have hlt := (Array.getElem?_eq_some_iff.mp h7).1
  have es : Jvm.RoadKit.slotOf Z O n d = f.slot := by simp [Jvm.RoadKit.slotOf, h2]
  obtain ⟨X', st'⟩ := X.putfieldReady C.1 (ready39 hU g2) h3 (Or.inl b5) (by rw [e0]; exact h1) h4 hlt (by rw [ht]; exact hn) hfit' (g := mkF m pc Ls (v :: .ref a :: st)) rfl rfl (hb C.2.1 hd)
  obtain ⟨s2, u, Lc, x, r⟩ := K (h.setIfInBounds a (cell.setSlot f.slot v)) ⟨cell, h1, h5, by rw [es]; exact hlt, by rw [es]⟩ _ _ X' (by rw [← e0]; rfl) (Fr.snoc X' N g0)
  exact ⟨s2, u, Lc, st' _ x, r⟩
theorem w_new (C : Cx p s m meth c Z own bytes ml rt nm) {pc pc' ce' sl' : Nat} {Ls : Array Slot} {st : List Value} {Cl : String} {i n : Nat} (w : (Jvm.Cond.classLink own i Cl).before a0 Z = true) (wi : (Jvm.Cond.instantiable Cl n).before a0 Z = true) (wz : (Jvm.Cond.initialized Cl).before a0 Z = true) (hd : decode bytes pc = .ok (.new i, 3)) (hp : pc + 3 = pc') (hc1 : cells + 1 = ce') (hl1 : slots + n = sl') (hc : ce' ≤ R.cells) (hl : sl' ≤ R.slots)
    (K : ∀ h' a, a = h.size → Ext h h' → Exa Z h' a Cl → (∀ {O nm d : String} {ty : FieldType}, Laid Z a0 Cl O nm d → parseFieldDescriptor d = some ty → Fld Z h' a O nm d (defaultValue ty)) → Wp p l e R s m args below meth c n0 cM sM Q h' ce' sl' (mkF m pc' Ls (.ref a :: st))) :
    Wp p l e R s m args below meth c n0 cM sM Q h cells slots (mkF m pc Ls st) := by
  subst hp hc1 hl1
  intro T locs X e0 N
  obtain ⟨T', h', X', e', E, A, D, -, st'⟩ := newO X C.1 C.2.2.1 C.2.2.2.1 w wi wz e0 (g := mkF m pc Ls st) rfl (hb C.2.1 hd) hc hl
  obtain ⟨s2, u, Lc, x, r⟩ := K h' h.size rfl E A D T' _ X' e' N
  exact ⟨s2, u, Lc, st' _ x, r⟩
theorem w_newP (C : Cx p s m meth c Z own bytes ml rt nm) {pc pc' ce' sl' : Nat} {Ls : Array Slot} {st : List Value} {aty : ArrayType} {n : Int32} {cap : Nat} (w : (Jvm.Cond.arrayClass (newarray.typeOf aty)).before a0 Z = true) (hd : decode bytes pc = .ok (.newarray aty, 2)) (hp : pc + 2 = pc') (hn : ¬ n < 0) (hcap : n.toNatClampNeg ≤ cap) (hbig : cap * 8 ≤ 536870912) (hc1 : cells + 1 = ce') (hl1 : slots + cap = sl') (hc : ce' ≤ R.cells) (hl : sl' ≤ R.slots)
    (K : ∀ h' a cA, a = h.size → Ext h h' → Arr Z h' a (newA cA (newarray.typeOf aty) n) (newarray.typeOf aty) → Wp p l e R s m args below meth c n0 cM sM Q h' ce' sl' (mkF m pc' Ls (.ref a :: st))) :
    Wp p l e R s m args below meth c n0 cM sM Q h cells slots (mkF m pc Ls (.int n :: st)) := by
  subst hp hc1 hl1
  intro T locs X e0 N
  obtain ⟨T', h', cA, X', e', E, A, st'⟩ := newP X C.1 C.2.2.1 w e0 (g := mkF m pc Ls (.int n :: st)) rfl (hb C.2.1 hd) rfl hn hcap hbig hc hl
  obtain ⟨s2, u, Lc, x, r⟩ := K h' h.size cA rfl E A T' _ X' e' N
  exact ⟨s2, u, Lc, st' _ x, r⟩
theorem w_newR (C : Cx p s m meth c Z own bytes ml rt nm) {pc pc' ce' sl' : Nat} {Ls : Array Slot} {st : List Value} {Cl : String} {i : Nat} {n : Int32} {cap : Nat} (w1 : (Jvm.Cond.classLink own i Cl).before a0 Z = true) (w2 : (Jvm.Cond.arrayOver (.object Cl)).before a0 Z = true) (hd : decode bytes pc = .ok (.anewarray i, 3)) (hp : pc + 3 = pc') (hn : ¬ n < 0) (hcap : n.toNatClampNeg ≤ cap) (hbig : cap * 8 ≤ 536870912) (hc1 : cells + 1 = ce') (hl1 : slots + cap = sl') (hc : ce' ≤ R.cells) (hl : sl' ≤ R.slots)
    (K : ∀ h' a cA, a = h.size → Ext h h' → Arr Z h' a (newA cA (.object Cl) n) (.object Cl) → Ovr Z cA Cl → Wp p l e R s m args below meth c n0 cM sM Q h' ce' sl' (mkF m pc' Ls (.ref a :: st))) :
    Wp p l e R s m args below meth c n0 cM sM Q h cells slots (mkF m pc Ls (.int n :: st)) := by
  subst hp hc1 hl1
  intro T locs X e0 N
  obtain ⟨T', h', cA, X', e', E, A, O, st'⟩ := newR X C.1 C.2.2.1 C.2.2.2.1 w1 w2 e0 (g := mkF m pc Ls (.int n :: st)) rfl (hb C.2.1 hd) rfl hn hcap hbig hc hl
  obtain ⟨s2, u, Lc, x, r⟩ := K h' h.size cA rfl E A O T' _ X' e' N
  exact ⟨s2, u, Lc, st' _ x, r⟩
theorem w_iastore (C : Cx p s m meth c Z own bytes ml rt nm) {pc pc' : Nat} {Ls : Array Slot} {st : List Value} {a : Addr} {cl : Cell} {j : Int32} {x : Int32} (hd : decode bytes pc = .ok (.iastore, 1)) (hp : pc + 1 = pc') (g0 : n0 ≤ a) (A : Arr Z h a cl .int) (hj : ¬ (j < 0 ∨ cl.slots.size ≤ j.toNatClampNeg))
    (K : ∀ h', Wr h h' a j.toNatClampNeg (.int x) → Wp p l e R s m args below meth c n0 cM sM Q h' cells slots (mkF m pc' Ls st)) :
    Wp p l e R s m args below meth c n0 cM sM Q h cells slots (mkF m pc Ls (.int x :: .int j :: .ref a :: st)) := by
  subst hp
  intro T locs X e0 N
  obtain ⟨T', h', X', e', W, st'⟩ := stI X C.1 C.2.2.1 e0 A hj (g := mkF m pc Ls (.int x :: .int j :: .ref a :: st)) rfl rfl (hb C.2.1 hd)
  obtain ⟨s2, u, Lc, q, r⟩ := K h' W T' _ X' e' (Fr.snoc X' N g0)
  exact ⟨s2, u, Lc, st' _ q, r⟩
theorem w_lastore (C : Cx p s m meth c Z own bytes ml rt nm) {pc pc' : Nat} {Ls : Array Slot} {st : List Value} {a : Addr} {cl : Cell} {j : Int32} {x : Int64} (hd : decode bytes pc = .ok (.lastore, 1)) (hp : pc + 1 = pc') (g0 : n0 ≤ a) (A : Arr Z h a cl .long) (hj : ¬ (j < 0 ∨ cl.slots.size ≤ j.toNatClampNeg))
    (K : ∀ h', Wr h h' a j.toNatClampNeg (.long x) → Wp p l e R s m args below meth c n0 cM sM Q h' cells slots (mkF m pc' Ls st)) :
    Wp p l e R s m args below meth c n0 cM sM Q h cells slots (mkF m pc Ls (.long x :: .int j :: .ref a :: st)) := by
  subst hp
  intro T locs X e0 N
  obtain ⟨T', h', X', e', W, st'⟩ := stJ X C.1 C.2.2.1 e0 A hj (g := mkF m pc Ls (.long x :: .int j :: .ref a :: st)) rfl rfl (hb C.2.1 hd)
  obtain ⟨s2, u, Lc, q, r⟩ := K h' W T' _ X' e' (Fr.snoc X' N g0)
  exact ⟨s2, u, Lc, st' _ q, r⟩
theorem w_castore (C : Cx p s m meth c Z own bytes ml rt nm) {pc pc' : Nat} {Ls : Array Slot} {st : List Value} {a : Addr} {cl : Cell} {j : Int32} {x : Int32} (hd : decode bytes pc = .ok (.castore, 1)) (hp : pc + 1 = pc') (g0 : n0 ≤ a) (A : Arr Z h a cl .char) (hj : ¬ (j < 0 ∨ cl.slots.size ≤ j.toNatClampNeg))
    (K : ∀ h', Wr h h' a j.toNatClampNeg (.int (nar .char x)) → Wp p l e R s m args below meth c n0 cM sM Q h' cells slots (mkF m pc' Ls st)) :
    Wp p l e R s m args below meth c n0 cM sM Q h cells slots (mkF m pc Ls (.int x :: .int j :: .ref a :: st)) := by
  subst hp
  intro T locs X e0 N
  obtain ⟨T', h', X', e', W, st'⟩ := stC X C.1 C.2.2.1 e0 A hj (g := mkF m pc Ls (.int x :: .int j :: .ref a :: st)) rfl rfl (hb C.2.1 hd)
  obtain ⟨s2, u, Lc, q, r⟩ := K h' W T' _ X' e' (Fr.snoc X' N g0)
  exact ⟨s2, u, Lc, st' _ q, r⟩
theorem w_aastore (C : Cx p s m meth c Z own bytes ml rt nm) {pc pc' : Nat} {Ls : Array Slot} {st : List Value} {a : Addr} {cl : Cell} {j : Int32} {v : Value} {ty : FieldType} (hd : decode bytes pc = .ok (.aastore, 1)) (hp : pc + 1 = pc') (g0 : n0 ≤ a) (A : Arr Z h a cl ty) (hj : ¬ (j < 0 ∨ cl.slots.size ≤ j.toNatClampNeg)) (hty : ty.isReference = true) (F : Sto Z h a v)
    (K : ∀ h', Wr h h' a j.toNatClampNeg v → Wp p l e R s m args below meth c n0 cM sM Q h' cells slots (mkF m pc' Ls st)) :
    Wp p l e R s m args below meth c n0 cM sM Q h cells slots (mkF m pc Ls (v :: .int j :: .ref a :: st)) := by
  subst hp
  intro T locs X e0 N
  obtain ⟨T', h', X', e', W, st'⟩ := stR X C.1 C.2.2.1 e0 A hj hty F (g := mkF m pc Ls (v :: .int j :: .ref a :: st)) rfl rfl (hb C.2.1 hd)
  obtain ⟨s2, u, Lc, q, r⟩ := K h' W T' _ X' e' (Fr.snoc X' N g0)
  exact ⟨s2, u, Lc, st' _ q, r⟩
theorem w_iaload (C : Cx p s m meth c Z own bytes ml rt nm) {pc pc' : Nat} {Ls : Array Slot} {st : List Value} {a : Addr} {cl : Cell} {j : Int32} {v : Value} (hd : decode bytes pc = .ok (.iaload, 1)) (hp : pc + 1 = pc') (A : Arr Z h a cl .int) (hj : ¬ (j < 0 ∨ cl.slots.size ≤ j.toNatClampNeg)) (hv : cl.slots[j.toNatClampNeg]? = some v)
    (K : Wp p l e R s m args below meth c n0 cM sM Q h cells slots (mkF m pc' Ls (v :: st))) :
    Wp p l e R s m args below meth c n0 cM sM Q h cells slots (mkF m pc Ls (.int j :: .ref a :: st)) := by
  subst hp
  intro T locs X e0 N
  obtain ⟨s2, u, L, q, r⟩ := K T locs X e0 N
  exact ⟨s2, u, L, X.iaload C.1 (j := j) (v := v) (by rw [e0]; exact A.1) (State.isArrayOf_alike C.2.2.1.alike A.2.1) A.2.2 hj hv (g := mkF m pc Ls (.int j :: .ref a :: st)) rfl rfl (hb C.2.1 hd) _ q, r⟩
theorem w_laload (C : Cx p s m meth c Z own bytes ml rt nm) {pc pc' : Nat} {Ls : Array Slot} {st : List Value} {a : Addr} {cl : Cell} {j : Int32} {v : Value} (hd : decode bytes pc = .ok (.laload, 1)) (hp : pc + 1 = pc') (A : Arr Z h a cl .long) (hj : ¬ (j < 0 ∨ cl.slots.size ≤ j.toNatClampNeg)) (hv : cl.slots[j.toNatClampNeg]? = some v)
    (K : Wp p l e R s m args below meth c n0 cM sM Q h cells slots (mkF m pc' Ls (v :: st))) :
    Wp p l e R s m args below meth c n0 cM sM Q h cells slots (mkF m pc Ls (.int j :: .ref a :: st)) := by
  subst hp
  intro T locs X e0 N
  obtain ⟨s2, u, L, q, r⟩ := K T locs X e0 N
  exact ⟨s2, u, L, X.laload C.1 (j := j) (v := v) (by rw [e0]; exact A.1) (State.isArrayOf_alike C.2.2.1.alike A.2.1) A.2.2 hj hv (g := mkF m pc Ls (.int j :: .ref a :: st)) rfl rfl (hb C.2.1 hd) _ q, r⟩
theorem w_caload (C : Cx p s m meth c Z own bytes ml rt nm) {pc pc' : Nat} {Ls : Array Slot} {st : List Value} {a : Addr} {cl : Cell} {j : Int32} {v : Value} (hd : decode bytes pc = .ok (.caload, 1)) (hp : pc + 1 = pc') (A : Arr Z h a cl .char) (hj : ¬ (j < 0 ∨ cl.slots.size ≤ j.toNatClampNeg)) (hv : cl.slots[j.toNatClampNeg]? = some v)
    (K : Wp p l e R s m args below meth c n0 cM sM Q h cells slots (mkF m pc' Ls (v :: st))) :
    Wp p l e R s m args below meth c n0 cM sM Q h cells slots (mkF m pc Ls (.int j :: .ref a :: st)) := by
  subst hp
  intro T locs X e0 N
  obtain ⟨s2, u, L, q, r⟩ := K T locs X e0 N
  exact ⟨s2, u, L, X.caload C.1 (j := j) (v := v) (by rw [e0]; exact A.1) (State.isArrayOf_alike C.2.2.1.alike A.2.1) A.2.2 hj hv (g := mkF m pc Ls (.int j :: .ref a :: st)) rfl rfl (hb C.2.1 hd) _ q, r⟩
theorem w_baload (C : Cx p s m meth c Z own bytes ml rt nm) {pc pc' : Nat} {Ls : Array Slot} {st : List Value} {a : Addr} {cl : Cell} {j : Int32} {v : Value} (hd : decode bytes pc = .ok (.baload, 1)) (hp : pc + 1 = pc') (A : Arr Z h a cl .byte) (hj : ¬ (j < 0 ∨ cl.slots.size ≤ j.toNatClampNeg)) (hv : cl.slots[j.toNatClampNeg]? = some v)
    (K : Wp p l e R s m args below meth c n0 cM sM Q h cells slots (mkF m pc' Ls (v :: st))) :
    Wp p l e R s m args below meth c n0 cM sM Q h cells slots (mkF m pc Ls (.int j :: .ref a :: st)) := by
  subst hp
  intro T locs X e0 N
  obtain ⟨s2, u, L, q, r⟩ := K T locs X e0 N
  exact ⟨s2, u, L, X.baloadBytes C.1 (j := j) (v := v) (by rw [e0]; exact A.1) (State.isArrayOf_alike C.2.2.1.alike A.2.1) A.2.2 hj hv (g := mkF m pc Ls (.int j :: .ref a :: st)) rfl rfl (hb C.2.1 hd) _ q, r⟩
theorem w_aaload (C : Cx p s m meth c Z own bytes ml rt nm) {pc pc' : Nat} {Ls : Array Slot} {st : List Value} {a : Addr} {cl : Cell} {j : Int32} {v : Value} {ty : FieldType} (hd : decode bytes pc = .ok (.aaload, 1)) (hp : pc + 1 = pc') (A : Arr Z h a cl ty) (hty : ty.isReference = true) (hj : ¬ (j < 0 ∨ cl.slots.size ≤ j.toNatClampNeg)) (hv : cl.slots[j.toNatClampNeg]? = some v)
    (K : Wp p l e R s m args below meth c n0 cM sM Q h cells slots (mkF m pc' Ls (v :: st))) :
    Wp p l e R s m args below meth c n0 cM sM Q h cells slots (mkF m pc Ls (.int j :: .ref a :: st)) := by
  subst hp
  intro T locs X e0 N
  obtain ⟨s2, u, L, q, r⟩ := K T locs X e0 N
  exact ⟨s2, u, L, X.aaload C.1 (j := j) (v := v) (by rw [e0]; exact A.1) (State.isArrayOf_alike C.2.2.1.alike A.2.1) hty A.2.2 hj hv (g := mkF m pc Ls (.int j :: .ref a :: st)) rfl rfl (hb C.2.1 hd) _ q, r⟩
theorem w_alen (C : Cx p s m meth c Z own bytes ml rt nm) {pc pc' : Nat} {Ls : Array Slot} {st : List Value} {a : Addr} {cl : Cell} {ty : FieldType} {n : Int32} (hd : decode bytes pc = .ok (.arraylength, 1)) (hp : pc + 1 = pc') (A : Arr Z h a cl ty) (hn : cl.slots.size.toInt32 = n)
    (K : Wp p l e R s m args below meth c n0 cM sM Q h cells slots (mkF m pc' Ls (.int n :: st))) :
    Wp p l e R s m args below meth c n0 cM sM Q h cells slots (mkF m pc Ls (.ref a :: st)) := by
  subst hp hn
  intro T locs X e0 N
  obtain ⟨s2, u, L, q, r⟩ := K T locs X e0 N
  exact ⟨s2, u, L, X.arraylength C.1 (by rw [e0]; exact A.1) (State.isArrayOf_alike C.2.2.1.alike A.2.1) (g := mkF m pc Ls (.ref a :: st)) rfl rfl (hb C.2.1 hd) _ q, r⟩
theorem w_initO (C : Cx p s m meth c Z own bytes ml rt nm) {pc pc' : Nat} {Ls : Array Slot} {st : List Value} {i : Nat} {a : Addr} {W : Nat} (w1 : (Jvm.Cond.methodLink own i Lib.objectInit).before a0 Z = true) (w2 : (Jvm.Cond.instanceMethod Lib.objectInit).before a0 Z = true) (w3 : (Jvm.Cond.code Lib.objectInit ⟨#[0xb1]⟩ 1 none).before a0 Z = true) (hd : decode bytes pc = .ok (.invokespecial i, 3)) (hp : pc + 3 = pc')
    (hsz : Ls.size = ml) (hf : 1 ≤ R.frames) (hW : (st.map fun v => v.category).sum ≤ W) (hl : W + 12 ≤ R.locals) (K : Wp p l e R s m args below meth c n0 cM sM Q h cells slots (mkF m pc' Ls st)) :
    Wp p l e R s m args below meth c n0 cM sM Q h cells slots (mkF m pc Ls (.ref a :: st)) := by
  subst hp
  exact Wp.law (fun T locs X e0 => initO X C.1 C.2.2.1 C.2.2.2.1 w1 w2 w3 e0 (g := mkF m pc Ls (.ref a :: st)) rfl (hsz.trans C.2.2.2.2.1.symm) rfl (hb C.2.1 hd) hf (by show 2 * 0 + _ ≤ _; rw [Nat.mul_zero, Nat.zero_add]; exact hW) hl) K
theorem w_callS (C : Cx p s m meth c Z own bytes ml rt nm) {pc pc' : Nat} {Ls : Array Slot} {stk st : List Value} {i : Nat} {ce' sl' : Nat} {y : MethodName} {cb : ByteArray} {cml : Nat} {cret : Option FieldType} {crm : Room} {argsL : List Value} {Q' : Option Value → Heap → Prop} {W : Nat} (w1 : (Jvm.Cond.methodLink own i y).before a0 Z = true) (w2 : (Jvm.Cond.static y).before a0 Z = true) (w3 : (Jvm.Cond.initialized y.cls).before a0 Z = true) (w4 : (Jvm.Cond.code y cb cml cret).before a0 Z = true) (hy : y.cls ≠ "java/lang/invoke/MethodHandle" ∧ y.cls ≠ "java/lang/invoke/VarHandle")
    (hd : decode bytes pc = .ok (.invokestatic i, 3)) (hp : pc + 3 = pc') (hst : stk = argsL.reverse ++ st) (hfr : crm.frames + 1 ≤ R.frames) (hlo : W + (cml + 11) + crm.locals ≤ R.locals) (hW : (st.map fun v => v.category).sum ≤ W) (hce1 : cells + crm.cells = ce') (hsl1 : slots + crm.slots = sl') (hce : ce' ≤ R.cells) (hsl : sl' ≤ R.slots) (hsz : Ls.size = ml) (hlen : ∀ sig, parseMethodDescriptor y.desc = some sig → argsL.length = sig.parameters.length) (ct : Ct l Z y cb cml cret [] crm argsL.toArray h n0 Q')
    (K : ∀ v h', Q' v h' → Wp p l e R s m args below meth c n0 cM sM Q h' ce' sl' (mkF m pc' Ls (v.toList ++ st))) :
    Wp p l e R s m args below meth c n0 cM sM Q h cells slots (mkF m pc Ls stk) := by
  subst hp hce1 hsl1
  intro T locs X e0 N
  obtain ⟨v, _, ⟨T', L', k', n'⟩, -, X', ⟨Lc, hq, l1, l2, l3⟩, st'⟩ := Jvm.LawKit.callS X C.1 (y := y) C.2.2.2.1 (mvT C.2.2.1 w1) (mvT C.2.2.1 w2) (mvT C.2.2.1 w3) (mvT C.2.2.1 w4) hy (backOf (W := W) (Q := fun v hh L => Q' v hh ∧ Fr n0 L) ct C.2.2.1 w4 w3 hfr hlo) (g := mkF m pc Ls stk) rfl (hsz.trans C.2.2.2.2.1.symm) (argsL := argsL) (rest := st) hlen hst (by show 2 * 0 + _ ≤ _; rw [Nat.mul_zero, Nat.zero_add]; exact hW) (hb C.2.1 hd) (fun _ _ => ⟨rfl, e0, hce, hsl⟩)
  dsimp only [Pt.U, Pt.locs, Pt.cells, Pt.slots] at X' l1 l2 l3 st' hq
  subst l1 l2 l3
  obtain ⟨s2, u, L, q, r⟩ := K _ _ hq.1 _ _ X' rfl (Fr.app N hq.2)
  exact ⟨s2, u, L, st' _ q, r⟩
theorem w_callI (C : Cx p s m meth c Z own bytes ml rt nm) {pc pc' : Nat} {Ls : Array Slot} {stk st : List Value} {i : Nat} {a : Addr} {ce' sl' : Nat} {y : MethodName} {cb : ByteArray} {cml : Nat} {crm : Room} {argsL : List Value} {Q' : Option Value → Heap → Prop} {W : Nat} (hin : y.name = "<init>") (w1 : (Jvm.Cond.methodLink own i y).before a0 Z = true) (w2 : (Jvm.Cond.instanceMethod y).before a0 Z = true) (w3 : (Jvm.Cond.initialized y.cls).before a0 Z = true) (w4 : (Jvm.Cond.code y cb cml none).before a0 Z = true) (hy : y.cls ≠ "java/lang/invoke/MethodHandle" ∧ y.cls ≠ "java/lang/invoke/VarHandle")
    (hd : decode bytes pc = .ok (.invokespecial i, 3)) (hp : pc + 3 = pc') (hst : stk = argsL.reverse ++ .ref a :: st) (hfr : crm.frames + 1 ≤ R.frames) (hlo : W + (cml + 11) + crm.locals ≤ R.locals) (hW : (st.map fun v => v.category).sum ≤ W) (hce1 : cells + crm.cells = ce') (hsl1 : slots + crm.slots = sl') (hce : ce' ≤ R.cells) (hsl : sl' ≤ R.slots) (hsz : Ls.size = ml) (hlen : ∀ sig, parseMethodDescriptor y.desc = some sig → argsL.length = sig.parameters.length) (ct : Ct l Z y cb cml none [] crm (.ref a :: argsL).toArray h n0 Q')
    (K : ∀ v h', Q' v h' → Wp p l e R s m args below meth c n0 cM sM Q h' ce' sl' (mkF m pc' Ls (v.toList ++ st))) :
    Wp p l e R s m args below meth c n0 cM sM Q h cells slots (mkF m pc Ls stk) := by
  subst hp hce1 hsl1
  intro T locs X e0 N
  obtain ⟨v, _, ⟨T', L', k', n'⟩, -, X', ⟨Lc, hq, l1, l2, l3⟩, st'⟩ := X.specialBack C.1 (y := y) hin C.2.2.2.1 (mvT C.2.2.1 w1) (mvT C.2.2.1 w2) (mvT C.2.2.1 w4) hy (backOf (W := W) (Q := fun v hh L => Q' v hh ∧ Fr n0 L) ct C.2.2.1 w4 w3 hfr hlo) (g := mkF m pc Ls stk) rfl (hsz.trans C.2.2.2.2.1.symm) (Steps.refl _) (a := a) (argsL := argsL) (rest := st) hlen hst (by show 2 * 0 + _ ≤ _; rw [Nat.mul_zero, Nat.zero_add]; exact hW) (hb C.2.1 hd) (fun _ _ => ⟨rfl, e0, hce, hsl⟩)
  dsimp only [Pt.U, Pt.locs, Pt.cells, Pt.slots] at X' l1 l2 l3 st' hq
  subst l1 l2 l3
  obtain ⟨s2, u, L, q, r⟩ := K _ _ hq.1 _ _ X' rfl (Fr.app N hq.2)
  exact ⟨s2, u, L, st'.trans q, r⟩
theorem w_callV (C : Cx p s m meth c Z own bytes ml rt nm) {pc pc' : Nat} {Ls : Array Slot} {stk st : List Value} {i : Nat} {a : Addr} {Cl : String} {ce' sl' : Nat} {y : MethodName} {cb : ByteArray} {cml : Nat} {cret : Option FieldType} {crm : Room} {argsL : List Value} {Q' : Option Value → Heap → Prop} {W : Nat} (w1 : (Jvm.Cond.methodLink own i y).before a0 Z = true) (w2 : (Jvm.Cond.declares y).before a0 Z = true) (w5 : (Jvm.Cond.selects Cl y y).before a0 Z = true) (w6 : (Jvm.Cond.instanceMethod y).before a0 Z = true) (w3 : (Jvm.Cond.initialized y.cls).before a0 Z = true) (w4 : (Jvm.Cond.code y cb cml cret).before a0 Z = true) (hy : y.cls ≠ "java/lang/invoke/MethodHandle" ∧ y.cls ≠ "java/lang/invoke/VarHandle")
    (hd : decode bytes pc = .ok (.invokevirtual i, 3)) (hp : pc + 3 = pc') (hst : stk = argsL.reverse ++ .ref a :: st) (hfr : crm.frames + 1 ≤ R.frames) (hlo : W + (cml + 11) + crm.locals ≤ R.locals) (hW : (st.map fun v => v.category).sum ≤ W) (hce1 : cells + crm.cells = ce') (hsl1 : slots + crm.slots = sl') (hce : ce' ≤ R.cells) (hsl : sl' ≤ R.slots) (hsz : Ls.size = ml) (hlen : ∀ sig, parseMethodDescriptor y.desc = some sig → argsL.length = sig.parameters.length) (E : Exa Z h a Cl) (ct : Ct l Z y cb cml cret [] crm (.ref a :: argsL).toArray h n0 Q')
    (K : ∀ v h', Q' v h' → Wp p l e R s m args below meth c n0 cM sM Q h' ce' sl' (mkF m pc' Ls (v.toList ++ st))) :
    Wp p l e R s m args below meth c n0 cM sM Q h cells slots (mkF m pc Ls stk) := by
  subst hp hce1 hsl1
  intro T locs X e0 N
  obtain ⟨_, _, qa, qb, qc⟩ := isOf C.2.2.1 e0 E
  obtain ⟨v, _, ⟨T', L', k', n'⟩, -, X', ⟨Lc, hq, l1, l2, l3⟩, st'⟩ := X.virtualBack C.1 (y := y) (z := y) C.2.2.2.1 (mvT C.2.2.1 w1) (mvT C.2.2.1 w2) (notFace_of_selects (args := #[]) (mvT C.2.2.1 w5)) (mvT C.2.2.1 w5) (mvT C.2.2.1 w6) hy (backOf (W := W) (Q := fun v hh L => Q' v hh ∧ Fr n0 L) ct C.2.2.1 w4 w3 hfr hlo) qa qc (g := mkF m pc Ls stk) rfl (hsz.trans C.2.2.2.2.1.symm) (Steps.refl _) (argsL := argsL) (rest := st) hlen hst (by show 2 * 0 + _ ≤ _; rw [Nat.mul_zero, Nat.zero_add]; exact hW) (hb C.2.1 hd) (fun _ _ => ⟨rfl, e0, hce, hsl⟩)
  dsimp only [Pt.U, Pt.locs, Pt.cells, Pt.slots] at X' l1 l2 l3 st' hq
  subst l1 l2 l3
  obtain ⟨s2, u, L, q, r⟩ := K _ _ hq.1 _ _ X' rfl (Fr.app N hq.2)
  exact ⟨s2, u, L, st'.trans q, r⟩
theorem w_callP (C : Cx p s m meth c Z own bytes ml rt nm) {pc pc' : Nat} {Ls : Array Slot} {stk st : List Value} {i : Nat} {a : Addr} {Cl : String} {ce' sl' : Nat} {y : MethodName} {cb : ByteArray} {cml : Nat} {cret : Option FieldType} {crm : Room} {argsL : List Value} {Q' : Option Value → Heap → Prop} {W : Nat} (w1 : (Jvm.Cond.methodLink own i y).before a0 Z = true) (w6 : (Jvm.Cond.instanceMethod y).before a0 Z = true) {kk : Nat} (w5 : (Jvm.Cond.instantiable y.cls kk).before a0 Z = true) (w7 : (Jvm.Cond.privateMethod y).before a0 Z = true) (w3 : (Jvm.Cond.initialized y.cls).before a0 Z = true) (w4 : (Jvm.Cond.code y cb cml cret).before a0 Z = true) (hy : y.cls ≠ "java/lang/invoke/MethodHandle" ∧ y.cls ≠ "java/lang/invoke/VarHandle")
    (hd : decode bytes pc = .ok (.invokevirtual i, 3)) (hp : pc + 3 = pc') (hst : stk = argsL.reverse ++ .ref a :: st) (hfr : crm.frames + 1 ≤ R.frames) (hlo : W + (cml + 11) + crm.locals ≤ R.locals) (hW : (st.map fun v => v.category).sum ≤ W) (hce1 : cells + crm.cells = ce') (hsl1 : slots + crm.slots = sl') (hce : ce' ≤ R.cells) (hsl : sl' ≤ R.slots) (hsz : Ls.size = ml) (hlen : ∀ sig, parseMethodDescriptor y.desc = some sig → argsL.length = sig.parameters.length) (E : Exa Z h a Cl) (ct : Ct l Z y cb cml cret [] crm (.ref a :: argsL).toArray h n0 Q')
    (K : ∀ v h', Q' v h' → Wp p l e R s m args below meth c n0 cM sM Q h' ce' sl' (mkF m pc' Ls (v.toList ++ st))) :
    Wp p l e R s m args below meth c n0 cM sM Q h cells slots (mkF m pc Ls stk) := by
  subst hp hce1 hsl1
  intro T locs X e0 N
  obtain ⟨cq, q1, q2⟩ := E.cell
  have hpr : s.PrivateAt y := Cond.privateMethod_at (mvP C.2.2.1 w7 (args := #[]))
  obtain ⟨ci, ki, i1, i2, -, i4, -⟩ := Cond.instantiable_spec (show (Jvm.Cond.instantiable y.cls kk).before #[] s = true from mvT C.2.2.1 w5)
  have hsel := selects_self_of_private (args := args) i1 i2 (by simp only [Bool.or_eq_false_iff] at i4; exact i4.1) hpr (mvT C.2.2.1 w6) hy
  obtain ⟨v, _, ⟨T', L', k', n'⟩, -, X', ⟨Lc, hq, l1, l2, l3⟩, st'⟩ := X.privateBack C.1 (y := y) C.2.2.2.1 (mvT C.2.2.1 w1) (mvT C.2.2.1 w6) hsel hpr (mvT C.2.2.1 w4) hy (backOf (W := W) (Q := fun v hh L => Q' v hh ∧ Fr n0 L) ct C.2.2.1 w4 w3 hfr hlo) (g := mkF m pc Ls stk) rfl (hsz.trans C.2.2.2.2.1.symm) (Steps.refl _) (a := a) (by rw [e0]; exact q1) q2 (argsL := argsL) (rest := st) hlen hst (by show 2 * 0 + _ ≤ _; rw [Nat.mul_zero, Nat.zero_add]; exact hW) (hb C.2.1 hd) (fun _ _ => ⟨rfl, e0, hce, hsl⟩)
  dsimp only [Pt.U, Pt.locs, Pt.cells, Pt.slots] at X' l1 l2 l3 st' hq
  subst l1 l2 l3
  obtain ⟨s2, u, L, q, r⟩ := K _ _ hq.1 _ _ X' rfl (Fr.app N hq.2)
  exact ⟨s2, u, L, st'.trans q, r⟩
theorem k1 {pc' ce' sl' : Nat} {Ls : Array Slot} {st : List Value} {r : Value} {P : Heap → Prop} (K : ∀ h', P h' → Wp p l e R s m args below meth c n0 cM sM Q h' ce' sl' (mkF m pc' Ls (r :: st))) : ∀ v h', (v = some r ∧ P h') → Wp p l e R s m args below meth c n0 cM sM Q h' ce' sl' (mkF m pc' Ls (v.toList ++ st)) := fun v h' q => by
  obtain ⟨rfl, q⟩ := q; exact K h' q
theorem k0 {pc' ce' sl' : Nat} {Ls : Array Slot} {st : List Value} {P : Heap → Prop} (K : ∀ h', P h' → Wp p l e R s m args below meth c n0 cM sM Q h' ce' sl' (mkF m pc' Ls st)) : ∀ v h', (v = none ∧ P h') → Wp p l e R s m args below meth c n0 cM sM Q h' ce' sl' (mkF m pc' Ls (v.toList ++ st)) := fun v h' q => by
  obtain ⟨rfl, q⟩ := q; exact K h' q
theorem kp {pc' ce' sl' : Nat} {Ls : Array Slot} {st : List Value} {r : Value} (K : Wp p l e R s m args below meth c n0 cM sM Q h ce' sl' (mkF m pc' Ls (r :: st))) : ∀ v h', (v = some r ∧ h' = h) → Wp p l e R s m args below meth c n0 cM sM Q h' ce' sl' (mkF m pc' Ls (v.toList ++ st)) := fun v h' q => by
  obtain ⟨rfl, rfl⟩ := q; exact K
theorem kx {pc' ce' sl' : Nat} {Ls : Array Slot} {st : List Value} {P : Addr → Heap → Prop} (K : ∀ b h', P b h' → Wp p l e R s m args below meth c n0 cM sM Q h' ce' sl' (mkF m pc' Ls (.ref b :: st))) : ∀ v h', (∃ b, v = some (.ref b) ∧ P b h') → Wp p l e R s m args below meth c n0 cM sM Q h' ce' sl' (mkF m pc' Ls (v.toList ++ st)) := fun v h' q => by
  obtain ⟨b, rfl, q⟩ := q; exact K b h' q
theorem kz {pc' ce' sl' : Nat} {Ls : Array Slot} {st : List Value} {P : Int32 → Heap → Prop} (K : ∀ b h', P b h' → Wp p l e R s m args below meth c n0 cM sM Q h' ce' sl' (mkF m pc' Ls (.int b :: st))) : ∀ v h', (∃ b, v = some (.int b) ∧ P b h') → Wp p l e R s m args below meth c n0 cM sM Q h' ce' sl' (mkF m pc' Ls (v.toList ++ st)) := fun v h' q => by
  obtain ⟨b, rfl, q⟩ := q; exact K b h' q
theorem kq {pc' ce' sl' : Nat} {Ls : Array Slot} {st : List Value} {P : Int32 → Prop} (K : ∀ b, P b → Wp p l e R s m args below meth c n0 cM sM Q h ce' sl' (mkF m pc' Ls (.int b :: st))) : ∀ v h', (∃ b, v = some (.int b) ∧ P b ∧ h' = h) → Wp p l e R s m args below meth c n0 cM sM Q h' ce' sl' (mkF m pc' Ls (v.toList ++ st)) := fun v h' q => by
  obtain ⟨b, rfl, q, rfl⟩ := q; exact K b q
theorem kv {pc' ce' sl' : Nat} {Ls : Array Slot} {st : List Value} (K : Wp p l e R s m args below meth c n0 cM sM Q h ce' sl' (mkF m pc' Ls st)) : ∀ v h', (v = none ∧ h' = h) → Wp p l e R s m args below meth c n0 cM sM Q h' ce' sl' (mkF m pc' Ls (v.toList ++ st)) := fun v h' q => by
  obtain ⟨rfl, rfl⟩ := q; exact K
end Rules
theorem cat_ref {v : Value} (hv : v.isRef = true) : v.category = 1 := by cases v <;> simp [Value.isRef] at hv <;> rfl
theorem st_ref {Ls Ls' : Array Slot} {k : Nat} {v : Value} {o : Slot} (hv : v.isRef = true) (ho : Ls[k]? = some o) (hc : o = .unset ∨ ∃ w, o = .val w ∧ w.category = 1) (e : Ls.setIfInBounds k (.val v) = Ls') : storeLocals Ls k v = some Ls' := by
  rw [← e]; exact XS.store1 ho hc (cat_ref hv)
theorem st_int {Ls Ls' : Array Slot} {k : Nat} {x : Int32} {o : Slot} (ho : Ls[k]? = some o) (hc : o = .unset ∨ ∃ w, o = .val w ∧ w.category = 1) (e : Ls.setIfInBounds k (.val (.int x)) = Ls') : storeLocals Ls k (.int x) = some Ls' := by
  rw [← e]; exact XS.store1 ho hc rfl
/-! objects and arrays, each one fact -/
section Facts
variable {Z : State} {h h' : Heap} {a b : Addr} {Cl n d : String} {v v' w : Value} {fs fs' : List (String × String × Value)} {ws : List Addr} {sl : Nat} {ty : FieldType} {vs : List Value}
/-- an object of exactly the class Cl, and what its fields hold -/
def Obj (Z : State) (h : Heap) (a : Addr) (Cl : String) (fs : List (String × String × Value)) : Prop :=
  Exa Z h a Cl ∧ (∀ (i : Nat) (f : String × String × Value), fs[i]? = some f → Fld Z h a Cl f.1 f.2.1 f.2.2) ∧ ∀ (i j : Nat) (f g : String × String × Value), fs[i]? = some f → fs[j]? = some g → i ≠ j → Jvm.RoadKit.slotOf Z Cl f.1 f.2.1 ≠ Jvm.RoadKit.slotOf Z Cl g.1 g.2.1
theorem Obj.lt (O : Obj Z h a Cl fs) : a < h.size := O.1.lt
theorem Obj.fld (O : Obj Z h a Cl fs) (i : Nat) (e : fs[i]? = some (n, d, v)) : Fld Z h a Cl n d v := O.2.1 i _ e
theorem Obj.ext (O : Obj Z h a Cl fs) (E : Ext h h') : Obj Z h' a Cl fs := ⟨O.1.ext E, fun i f q => (O.2.1 i f q).ext E, O.2.2⟩
theorem Obj.keep (O : Obj Z h a Cl fs) (K : Keep h h' ws) (q : a ∉ ws) : Obj Z h' a Cl fs := ⟨O.1.keep K, fun i f r => (O.2.1 i f r).keep K q, O.2.2⟩
theorem Obj.other (O : Obj Z h a Cl fs) (W : Wr h h' b sl w) (q : a ≠ b) : Obj Z h' a Cl fs := ⟨O.1.wr W, fun i f r => (O.2.1 i f r).other W (Or.inl q), O.2.2⟩
theorem Obj.put (O : Obj Z h a Cl fs) (i : Nat) (e : fs[i]? = some (n, d, v)) (W : Wr h h' a (Jvm.RoadKit.slotOf Z Cl n d) v') (e' : fs.set i (n, d, v') = fs') : Obj Z h' a Cl fs' := by
  subst e'
  have key : ∀ j f, (fs.set i (n, d, v'))[j]? = some f → ∃ u, fs[j]? = some (f.1, f.2.1, u) ∧ (j = i → f = (n, d, v')) ∧ (j ≠ i → fs[j]? = some f) := fun j f q => by
    by_cases z : i = j
    · subst z
      have hl : i < fs.length := (List.getElem?_eq_some_iff.mp e).1
      rw [List.getElem?_set_self hl] at q
      cases q
      exact ⟨v, e, fun _ => rfl, fun r => absurd rfl r⟩
    · rw [List.getElem?_set_ne z] at q
      exact ⟨f.2.2, q, fun r => absurd r.symm z, fun _ => q⟩
  refine ⟨O.1.wr W, fun j f q => ?_, fun j k f g q r z => ?_⟩
  · obtain ⟨u, k1, k2, k3⟩ := key j f q
    by_cases z : j = i
    · cases k2 z; subst z
      exact (O.fld j e).same W
    · have ne : Jvm.RoadKit.slotOf Z Cl f.1 f.2.1 ≠ Jvm.RoadKit.slotOf Z Cl n d := O.2.2 j i f (n, d, v) (k3 z) e z
      exact Fld.other W (O.2.1 j f (k3 z)) (Or.inr ne)
  · obtain ⟨u, k1, -⟩ := key j f q
    obtain ⟨u', k2, -⟩ := key k g r
    exact O.2.2 j k (f.1, f.2.1, u) (g.1, g.2.1, u') k1 k2 z
theorem Obj.size (O : Obj Z h a Cl fs) (K : Keep h h' ws) : h.size ≤ h'.size := K.1
/-- an array of the component type ty, and what it holds -/
def Ar (Z : State) (h : Heap) (a : Addr) (ty : FieldType) (vs : List Value) : Prop := ∃ cl : Cell, Arr Z h a cl ty ∧ cl.slots = vs.toArray
theorem Ar.lt (A : Ar Z h a ty vs) : a < h.size := by obtain ⟨_, A, -⟩ := A; exact A.lt
theorem Ar.ext (A : Ar Z h a ty vs) (E : Ext h h') : Ar Z h' a ty vs := by obtain ⟨cl, A, q⟩ := A; exact ⟨cl, A.ext E, q⟩
theorem Ar.keep (A : Ar Z h a ty vs) (K : Keep h h' ws) (q : a ∉ ws) : Ar Z h' a ty vs := by obtain ⟨cl, A, r⟩ := A; exact ⟨cl, ⟨K.2.1 a cl A.1 q, A.2⟩, r⟩
theorem Ar.other (A : Ar Z h a ty vs) (W : Wr h h' b sl w) (q : a ≠ b) : Ar Z h' a ty vs := by obtain ⟨cl, A, r⟩ := A; exact ⟨cl, A.other W q, r⟩
theorem set_slots {cl : Cell} (r : cl.slots = vs.toArray) (j : Nat) (v : Value) : (cl.setSlot j v).slots = (vs.set j v).toArray := by
  show cl.slots.setIfInBounds j v = _
  rw [r]; simp
theorem Ar.set (A : Ar Z h a ty vs) (W : Wr h h' a sl w) : Ar Z h' a ty (vs.set sl w) := by
  obtain ⟨cl, A, r⟩ := A; exact ⟨_, A.same W, set_slots r _ _⟩
theorem Ar.new {cA : ClassId} {z : Int32} (A : Arr Z h a (newA cA ty z) ty) : Ar Z h a ty (List.replicate z.toNatClampNeg (defaultValue ty)) := ⟨_, A, by simp [newA]⟩
theorem Ar.nin {cl : Cell} {j : Int32} (r : cl.slots = vs.toArray) (hj : ¬ j < 0) (hl : j.toNatClampNeg < vs.length) : ¬ (j < 0 ∨ cl.slots.size ≤ j.toNatClampNeg) := by
  rw [r]; simp only [List.size_toArray]
  exact fun q => q.elim hj (fun q => Nat.not_le.mpr hl q)
theorem Ar.at {cl : Cell} {k : Nat} (r : cl.slots = vs.toArray) (hv : vs[k]? = some v) : cl.slots[k]? = some v := by rw [r]; simpa using hv
/-- an array of references to objects of the class Cl -/
def ArR (Z : State) (h : Heap) (a : Addr) (Cl : String) (vs : List Value) : Prop := ∃ cl : Cell, Arr Z h a cl (.object Cl) ∧ cl.slots = vs.toArray ∧ Ovr Z cl.cls Cl
theorem ArR.lt (A : ArR Z h a Cl vs) : a < h.size := by obtain ⟨_, A, -⟩ := A; exact A.lt
theorem ArR.ext (A : ArR Z h a Cl vs) (E : Ext h h') : ArR Z h' a Cl vs := by obtain ⟨cl, A, q⟩ := A; exact ⟨cl, A.ext E, q⟩
theorem ArR.keep (A : ArR Z h a Cl vs) (K : Keep h h' ws) (q : a ∉ ws) : ArR Z h' a Cl vs := by obtain ⟨cl, A, r⟩ := A; exact ⟨cl, ⟨K.2.1 a cl A.1 q, A.2⟩, r⟩
theorem ArR.other (A : ArR Z h a Cl vs) (W : Wr h h' b sl w) (q : a ≠ b) : ArR Z h' a Cl vs := by obtain ⟨cl, A, r⟩ := A; exact ⟨cl, A.other W q, r⟩
theorem ArR.set (A : ArR Z h a Cl vs) (W : Wr h h' a sl w) : ArR Z h' a Cl (vs.set sl w) := by
  obtain ⟨cl, A, r, q⟩ := A; exact ⟨_, A.same W, set_slots r _ _, q⟩
theorem ArR.new {cA : ClassId} {z : Int32} (A : Arr Z h a (newA cA (.object Cl) z) (.object Cl)) (O : Ovr Z cA Cl) : ArR Z h a Cl (List.replicate z.toNatClampNeg .null) := ⟨_, A, by simp [newA, defaultValue], O⟩
theorem ArR.sto (A : ArR Z h a Cl vs) {y : Addr} (E : Exa Z h y Cl) : Sto Z h a (.ref y) := by
  obtain ⟨cl, A, -, q⟩ := A; exact Sto.ofV A rfl q (Ins.self E)
theorem Keep.app (K : Keep h h' ws) {h2 : Heap} {ws2 ws3 : List Addr} (K' : Keep h' h2 ws2) (q1 : ∀ x ∈ ws, x ∈ ws3 ∨ h.size ≤ x) (q : ∀ x ∈ ws2, x ∈ ws3 ∨ h.size ≤ x) : Keep h h2 ws3 := by
  refine Keep.trans (ws := ws3) ⟨K.1, fun x c r z => ?_, K.2.2⟩ K' q
  refine K.2.1 x c r fun y => ?_
  rcases q1 x y with u | u
  · exact z u
  · exact absurd (Array.getElem?_eq_some_iff.mp r).1 (Nat.not_lt.mpr u)
end Facts
section Rules2
variable {p : Program} {l : Launch} {e : Env} {R : Room} {s : State} {m : MethodId} {args : Array Value} {below : List Frame} {meth : Method} {c : Code} {n0 cM sM : Nat} {Q : Option Value → Heap → Prop} {h : Heap} {cells slots : Nat}
variable {Z : State} {own nm : String} {bytes : ByteArray} {ml : Nat} {rt : Option FieldType} {a0 : Array Value}
theorem wA_iaload (C : Cx p s m meth c Z own bytes ml rt nm) {pc pc' : Nat} {Ls : Array Slot} {st : List Value} {a : Addr} {vs : List Value} {j : Int32} {v : Value} (hd : decode bytes pc = .ok (.iaload, 1)) (hp : pc + 1 = pc') (A : Ar Z h a .int vs) (hj : ¬ j < 0) (hv : vs[j.toNatClampNeg]? = some v)
    (K : Wp p l e R s m args below meth c n0 cM sM Q h cells slots (mkF m pc' Ls (v :: st))) : Wp p l e R s m args below meth c n0 cM sM Q h cells slots (mkF m pc Ls (.int j :: .ref a :: st)) := by
  obtain ⟨cl, A, r⟩ := A
  exact w_iaload C hd hp A (Ar.nin r hj (List.getElem?_eq_some_iff.mp hv).1) (Ar.at r hv) K
theorem wA_laload (C : Cx p s m meth c Z own bytes ml rt nm) {pc pc' : Nat} {Ls : Array Slot} {st : List Value} {a : Addr} {vs : List Value} {j : Int32} {v : Value} (hd : decode bytes pc = .ok (.laload, 1)) (hp : pc + 1 = pc') (A : Ar Z h a .long vs) (hj : ¬ j < 0) (hv : vs[j.toNatClampNeg]? = some v)
    (K : Wp p l e R s m args below meth c n0 cM sM Q h cells slots (mkF m pc' Ls (v :: st))) : Wp p l e R s m args below meth c n0 cM sM Q h cells slots (mkF m pc Ls (.int j :: .ref a :: st)) := by
  obtain ⟨cl, A, r⟩ := A
  exact w_laload C hd hp A (Ar.nin r hj (List.getElem?_eq_some_iff.mp hv).1) (Ar.at r hv) K
theorem wA_caload (C : Cx p s m meth c Z own bytes ml rt nm) {pc pc' : Nat} {Ls : Array Slot} {st : List Value} {a : Addr} {vs : List Value} {j : Int32} {v : Value} (hd : decode bytes pc = .ok (.caload, 1)) (hp : pc + 1 = pc') (A : Ar Z h a .char vs) (hj : ¬ j < 0) (hv : vs[j.toNatClampNeg]? = some v)
    (K : Wp p l e R s m args below meth c n0 cM sM Q h cells slots (mkF m pc' Ls (v :: st))) : Wp p l e R s m args below meth c n0 cM sM Q h cells slots (mkF m pc Ls (.int j :: .ref a :: st)) := by
  obtain ⟨cl, A, r⟩ := A
  exact w_caload C hd hp A (Ar.nin r hj (List.getElem?_eq_some_iff.mp hv).1) (Ar.at r hv) K
theorem wA_baload (C : Cx p s m meth c Z own bytes ml rt nm) {pc pc' : Nat} {Ls : Array Slot} {st : List Value} {a : Addr} {vs : List Value} {j : Int32} {v : Value} (hd : decode bytes pc = .ok (.baload, 1)) (hp : pc + 1 = pc') (A : Ar Z h a .byte vs) (hj : ¬ j < 0) (hv : vs[j.toNatClampNeg]? = some v)
    (K : Wp p l e R s m args below meth c n0 cM sM Q h cells slots (mkF m pc' Ls (v :: st))) : Wp p l e R s m args below meth c n0 cM sM Q h cells slots (mkF m pc Ls (.int j :: .ref a :: st)) := by
  obtain ⟨cl, A, r⟩ := A
  exact w_baload C hd hp A (Ar.nin r hj (List.getElem?_eq_some_iff.mp hv).1) (Ar.at r hv) K
theorem wA_aaload (C : Cx p s m meth c Z own bytes ml rt nm) {pc pc' : Nat} {Ls : Array Slot} {st : List Value} {a : Addr} {Cl : String} {vs : List Value} {j : Int32} {v : Value} (hd : decode bytes pc = .ok (.aaload, 1)) (hp : pc + 1 = pc') (A : ArR Z h a Cl vs) (hj : ¬ j < 0) (hv : vs[j.toNatClampNeg]? = some v)
    (K : Wp p l e R s m args below meth c n0 cM sM Q h cells slots (mkF m pc' Ls (v :: st))) : Wp p l e R s m args below meth c n0 cM sM Q h cells slots (mkF m pc Ls (.int j :: .ref a :: st)) := by
  obtain ⟨cl, A, r, -⟩ := A
  exact w_aaload C hd hp A rfl (Ar.nin r hj (List.getElem?_eq_some_iff.mp hv).1) (Ar.at r hv) K
theorem wA_iastore (C : Cx p s m meth c Z own bytes ml rt nm) {pc pc' : Nat} {Ls : Array Slot} {st : List Value} {a : Addr} {vs : List Value} {j : Int32} {x : Int32} (hd : decode bytes pc = .ok (.iastore, 1)) (hp : pc + 1 = pc') (g0 : n0 ≤ a) (A : Ar Z h a .int vs) (hj : ¬ j < 0) (hl : j.toNatClampNeg < vs.length)
    (K : ∀ h', Wr h h' a j.toNatClampNeg (.int x) → Ar Z h' a .int (vs.set j.toNatClampNeg (.int x)) → Wp p l e R s m args below meth c n0 cM sM Q h' cells slots (mkF m pc' Ls st)) : Wp p l e R s m args below meth c n0 cM sM Q h cells slots (mkF m pc Ls (.int x :: .int j :: .ref a :: st)) := by
  have A' := A
  obtain ⟨cl, A, r⟩ := A
  exact w_iastore C hd hp g0 A (Ar.nin r hj hl) (fun h' W => K h' W (A'.set W))
theorem wA_lastore (C : Cx p s m meth c Z own bytes ml rt nm) {pc pc' : Nat} {Ls : Array Slot} {st : List Value} {a : Addr} {vs : List Value} {j : Int32} {x : Int64} (hd : decode bytes pc = .ok (.lastore, 1)) (hp : pc + 1 = pc') (g0 : n0 ≤ a) (A : Ar Z h a .long vs) (hj : ¬ j < 0) (hl : j.toNatClampNeg < vs.length)
    (K : ∀ h', Wr h h' a j.toNatClampNeg (.long x) → Ar Z h' a .long (vs.set j.toNatClampNeg (.long x)) → Wp p l e R s m args below meth c n0 cM sM Q h' cells slots (mkF m pc' Ls st)) : Wp p l e R s m args below meth c n0 cM sM Q h cells slots (mkF m pc Ls (.long x :: .int j :: .ref a :: st)) := by
  have A' := A
  obtain ⟨cl, A, r⟩ := A
  exact w_lastore C hd hp g0 A (Ar.nin r hj hl) (fun h' W => K h' W (A'.set W))
theorem wA_castore (C : Cx p s m meth c Z own bytes ml rt nm) {pc pc' : Nat} {Ls : Array Slot} {st : List Value} {a : Addr} {vs : List Value} {j : Int32} {x : Int32} (hd : decode bytes pc = .ok (.castore, 1)) (hp : pc + 1 = pc') (g0 : n0 ≤ a) (A : Ar Z h a .char vs) (hj : ¬ j < 0) (hl : j.toNatClampNeg < vs.length)
    (K : ∀ h', Wr h h' a j.toNatClampNeg (.int (toCh x)) → Ar Z h' a .char (vs.set j.toNatClampNeg (.int (toCh x))) → Wp p l e R s m args below meth c n0 cM sM Q h' cells slots (mkF m pc' Ls st)) : Wp p l e R s m args below meth c n0 cM sM Q h cells slots (mkF m pc Ls (.int x :: .int j :: .ref a :: st)) := by
  have A' := A
  obtain ⟨cl, A, r⟩ := A
  exact w_castore C hd hp g0 A (Ar.nin r hj hl) (fun h' W => K h' W (A'.set W))
theorem wA_aastore (C : Cx p s m meth c Z own bytes ml rt nm) {pc pc' : Nat} {Ls : Array Slot} {st : List Value} {a : Addr} {Cl : String} {vs : List Value} {j : Int32} {v : Value} (hd : decode bytes pc = .ok (.aastore, 1)) (hp : pc + 1 = pc') (g0 : n0 ≤ a) (A : ArR Z h a Cl vs) (hj : ¬ j < 0) (hl : j.toNatClampNeg < vs.length) (F : Sto Z h a v)
    (K : ∀ h', Wr h h' a j.toNatClampNeg v → ArR Z h' a Cl (vs.set j.toNatClampNeg v) → Wp p l e R s m args below meth c n0 cM sM Q h' cells slots (mkF m pc' Ls st)) : Wp p l e R s m args below meth c n0 cM sM Q h cells slots (mkF m pc Ls (v :: .int j :: .ref a :: st)) := by
  have A' := A
  obtain ⟨cl, A, r, -⟩ := A
  exact w_aastore C hd hp g0 A (Ar.nin r hj hl) rfl F (fun h' W => K h' W (A'.set W))
theorem wA_alen (C : Cx p s m meth c Z own bytes ml rt nm) {pc pc' : Nat} {Ls : Array Slot} {st : List Value} {a : Addr} {ty : FieldType} {vs : List Value} {n : Int32} (hd : decode bytes pc = .ok (.arraylength, 1)) (hp : pc + 1 = pc') (A : Ar Z h a ty vs) (hn : vs.length.toInt32 = n)
    (K : Wp p l e R s m args below meth c n0 cM sM Q h cells slots (mkF m pc' Ls (.int n :: st))) : Wp p l e R s m args below meth c n0 cM sM Q h cells slots (mkF m pc Ls (.ref a :: st)) := by
  obtain ⟨cl, A, r⟩ := A
  exact w_alen C hd hp A (by rw [r]; simpa using hn) K
theorem wA_alenR (C : Cx p s m meth c Z own bytes ml rt nm) {pc pc' : Nat} {Ls : Array Slot} {st : List Value} {a : Addr} {Cl : String} {vs : List Value} {n : Int32} (hd : decode bytes pc = .ok (.arraylength, 1)) (hp : pc + 1 = pc') (A : ArR Z h a Cl vs) (hn : vs.length.toInt32 = n)
    (K : Wp p l e R s m args below meth c n0 cM sM Q h cells slots (mkF m pc' Ls (.int n :: st))) : Wp p l e R s m args below meth c n0 cM sM Q h cells slots (mkF m pc Ls (.ref a :: st)) := by
  obtain ⟨cl, A, r, -⟩ := A
  exact w_alen C hd hp A (by rw [r]; simpa using hn) K
theorem wA_newP (C : Cx p s m meth c Z own bytes ml rt nm) {pc pc' ce' sl' : Nat} {Ls : Array Slot} {st : List Value} {aty : ArrayType} {n : Int32} {cap : Nat} (w : (Jvm.Cond.arrayClass (newarray.typeOf aty)).before a0 Z = true) (hd : decode bytes pc = .ok (.newarray aty, 2)) (hp : pc + 2 = pc') (hn : ¬ n < 0) (hcap : n.toNatClampNeg ≤ cap) (hbig : cap * 8 ≤ 536870912) (hc1 : cells + 1 = ce') (hl1 : slots + cap = sl') (hc : ce' ≤ R.cells) (hl : sl' ≤ R.slots)
    (K : ∀ h' a, a = h.size → Ext h h' → Ar Z h' a (newarray.typeOf aty) (List.replicate n.toNatClampNeg (defaultValue (newarray.typeOf aty))) → Wp p l e R s m args below meth c n0 cM sM Q h' ce' sl' (mkF m pc' Ls (.ref a :: st))) : Wp p l e R s m args below meth c n0 cM sM Q h cells slots (mkF m pc Ls (.int n :: st)) :=
  w_newP C w hd hp hn hcap hbig hc1 hl1 hc hl (fun h' a cA e E A => K h' a e E (Ar.new A))
theorem wA_newR (C : Cx p s m meth c Z own bytes ml rt nm) {pc pc' ce' sl' : Nat} {Ls : Array Slot} {st : List Value} {Cl : String} {i : Nat} {n : Int32} {cap : Nat} (w1 : (Jvm.Cond.classLink own i Cl).before a0 Z = true) (w2 : (Jvm.Cond.arrayOver (.object Cl)).before a0 Z = true) (hd : decode bytes pc = .ok (.anewarray i, 3)) (hp : pc + 3 = pc') (hn : ¬ n < 0) (hcap : n.toNatClampNeg ≤ cap) (hbig : cap * 8 ≤ 536870912) (hc1 : cells + 1 = ce') (hl1 : slots + cap = sl') (hc : ce' ≤ R.cells) (hl : sl' ≤ R.slots)
    (K : ∀ h' a, a = h.size → Ext h h' → ArR Z h' a Cl (List.replicate n.toNatClampNeg .null) → Wp p l e R s m args below meth c n0 cM sM Q h' ce' sl' (mkF m pc' Ls (.ref a :: st))) : Wp p l e R s m args below meth c n0 cM sM Q h cells slots (mkF m pc Ls (.int n :: st)) :=
  w_newR C w1 w2 hd hp hn hcap hbig hc1 hl1 hc hl (fun h' a cA e E A O => K h' a e E (ArR.new A O))
end Rules2
theorem cmpJ_gt (x y : Int64) : (0 < cmpJ x y) = (y < x) := propext (lw_gt x y)
theorem cmpJ_lt (x y : Int64) : (cmpJ x y < 0) = (x < y) := propext (lw_lt x y)
theorem cmpJ_eq (x y : Int64) : (cmpJ x y = 0) = (x = y) := propext (lw_eq x y)
theorem toCh_rng (x : Int32) : 0 ≤ (toCh x).toInt ∧ (toCh x).toInt < 65536 := ⟨(c_i2c x).2.1, (c_i2c x).2.2⟩
theorem toCh_mod (x : Int32) : ((toCh x).toInt - x.toInt) % 65536 = 0 := (c_i2c x).1
theorem toCh_id {x : Int32} (h0 : 0 ≤ x.toInt) (h1 : x.toInt < 65536) : toCh x = x := by
  apply Int32.toInt_inj.mp
  have := toCh_rng x; have := toCh_mod x
  omega
/-- an int in 0 .. n-1 is one of the n numbers -/
theorem small_int {n : Nat} {x : Int32} (h0 : 0 ≤ x.toInt) (h1 : x.toInt < n) : ∃ k : Fin n, x = Int32.ofInt (k.1 : Int) := by
  refine ⟨⟨x.toInt.toNat, by omega⟩, ?_⟩
  show x = Int32.ofInt ((x.toInt.toNat : Nat) : Int)
  rw [Int.toNat_of_nonneg h0, Int32.ofInt_toInt]
end Jvm.Own
namespace Jvm.Pilot.@@N@@
open Jvm Jvm.ClassFile Sem Op Lib Jvm.Free Jvm.Stand Jvm.LawKit Jvm.RoadKit Jvm.Own Bundle Jvm.Pilot.@@N@@.Jvm.D
theorem tw {tabs : List Jvm.Cond} {a0 : Array Value} {Z : State} (hw : ∀ d ∈ tabs, d.before a0 Z = true) (i : Nat) {d : Jvm.Cond} (h : tabs[i]? = some d) : d.before a0 Z = true := hw _ (List.mem_of_getElem? h)
theorem pd_0 : parseMethodDescriptor "()I" = some ⟨[], some .int⟩ := by decide +kernel
theorem pd_1 : parseMethodDescriptor "(I)I" = some ⟨[.int], some .int⟩ := by decide +kernel
theorem pd_2 : parseMethodDescriptor "([II)V" = some ⟨[(.array .int), .int], none⟩ := by decide +kernel
theorem pd_3 : parseMethodDescriptor "(I)[I" = some ⟨[.int], some (.array .int)⟩ := by decide +kernel
theorem pd_4 : parseMethodDescriptor "()V" = some ⟨[], none⟩ := by decide +kernel
theorem pd_5 : parseMethodDescriptor "(I)Z" = some ⟨[.int], some .boolean⟩ := by decide +kernel
theorem pd_6 : parseMethodDescriptor "(J)I" = some ⟨[.long], some .int⟩ := by decide +kernel
theorem pd_7 : parseMethodDescriptor "(I)V" = some ⟨[.int], none⟩ := by decide +kernel
theorem pd_8 : parseMethodDescriptor "(IIIIZ)Z" = some ⟨[.int, .int, .int, .int, .boolean], some .boolean⟩ := by decide +kernel
theorem obj_Ent {Z : State} {a0 : Array Value} (hw : ∀ d ∈ tables_1, d.before a0 Z = true) {h : Heap} {a : Addr} (A : Exa Z h a "com/example/rowan/rowan/policy/EntitySet") (D : ∀ {O nm d : String} {ty : FieldType}, Laid Z a0 "com/example/rowan/rowan/policy/EntitySet" O nm d → parseFieldDescriptor d = some ty → Fld Z h a O nm d (defaultValue ty)) :
    Obj Z h a "com/example/rowan/rowan/policy/EntitySet" [("entities", "I", .int (0 : Int32)), ("slots", "[I", .null), ("words", "[J", .null), ("size", "I", .int (0 : Int32))] := by
  refine ⟨A, fun i f q => ?_, fun i j f g q r z => ?_⟩
  · match i, q with
    | 0, q => cases q; exact D (Or.inl (tw hw 11 rfl)) (ty := .int) (by decide)
    | 1, q => cases q; exact D (Or.inl (tw hw 29 rfl)) (ty := (.array .int)) (by decide)
    | 2, q => cases q; exact D (Or.inl (tw hw 36 rfl)) (ty := (.array .long)) (by decide)
    | 3, q => cases q; exact D (Or.inl (tw hw 52 rfl)) (ty := .int) (by decide)
    | (k + 4), q => simp at q
  · match i, j, q, r, z with
    | 0, 0, q, r, z => exact absurd rfl z
    | 0, 1, q, r, z => cases q; cases r; exact slot_ne (C := "com/example/rowan/rowan/policy/EntitySet") (Or.inl (tw hw 11 rfl)) (Or.inl (tw hw 29 rfl)) (by decide) (t := .int) (t' := (.array .int)) (by decide) (by decide)
    | 0, 2, q, r, z => cases q; cases r; exact slot_ne (C := "com/example/rowan/rowan/policy/EntitySet") (Or.inl (tw hw 11 rfl)) (Or.inl (tw hw 36 rfl)) (by decide) (t := .int) (t' := (.array .long)) (by decide) (by decide)
    | 0, 3, q, r, z => cases q; cases r; exact slot_ne (C := "com/example/rowan/rowan/policy/EntitySet") (Or.inl (tw hw 11 rfl)) (Or.inl (tw hw 52 rfl)) (by decide) (t := .int) (t' := .int) (by decide) (by decide)
    | 1, 0, q, r, z => cases q; cases r; exact slot_ne (C := "com/example/rowan/rowan/policy/EntitySet") (Or.inl (tw hw 29 rfl)) (Or.inl (tw hw 11 rfl)) (by decide) (t := (.array .int)) (t' := .int) (by decide) (by decide)
    | 1, 1, q, r, z => exact absurd rfl z
    | 1, 2, q, r, z => cases q; cases r; exact slot_ne (C := "com/example/rowan/rowan/policy/EntitySet") (Or.inl (tw hw 29 rfl)) (Or.inl (tw hw 36 rfl)) (by decide) (t := (.array .int)) (t' := (.array .long)) (by decide) (by decide)
    | 1, 3, q, r, z => cases q; cases r; exact slot_ne (C := "com/example/rowan/rowan/policy/EntitySet") (Or.inl (tw hw 29 rfl)) (Or.inl (tw hw 52 rfl)) (by decide) (t := (.array .int)) (t' := .int) (by decide) (by decide)
    | 2, 0, q, r, z => cases q; cases r; exact slot_ne (C := "com/example/rowan/rowan/policy/EntitySet") (Or.inl (tw hw 36 rfl)) (Or.inl (tw hw 11 rfl)) (by decide) (t := (.array .long)) (t' := .int) (by decide) (by decide)
    | 2, 1, q, r, z => cases q; cases r; exact slot_ne (C := "com/example/rowan/rowan/policy/EntitySet") (Or.inl (tw hw 36 rfl)) (Or.inl (tw hw 29 rfl)) (by decide) (t := (.array .long)) (t' := (.array .int)) (by decide) (by decide)
    | 2, 2, q, r, z => exact absurd rfl z
    | 2, 3, q, r, z => cases q; cases r; exact slot_ne (C := "com/example/rowan/rowan/policy/EntitySet") (Or.inl (tw hw 36 rfl)) (Or.inl (tw hw 52 rfl)) (by decide) (t := (.array .long)) (t' := .int) (by decide) (by decide)
    | 3, 0, q, r, z => cases q; cases r; exact slot_ne (C := "com/example/rowan/rowan/policy/EntitySet") (Or.inl (tw hw 52 rfl)) (Or.inl (tw hw 11 rfl)) (by decide) (t := .int) (t' := .int) (by decide) (by decide)
    | 3, 1, q, r, z => cases q; cases r; exact slot_ne (C := "com/example/rowan/rowan/policy/EntitySet") (Or.inl (tw hw 52 rfl)) (Or.inl (tw hw 29 rfl)) (by decide) (t := .int) (t' := (.array .int)) (by decide) (by decide)
    | 3, 2, q, r, z => cases q; cases r; exact slot_ne (C := "com/example/rowan/rowan/policy/EntitySet") (Or.inl (tw hw 52 rfl)) (Or.inl (tw hw 36 rfl)) (by decide) (t := .int) (t' := (.array .long)) (by decide) (by decide)
    | 3, 3, q, r, z => exact absurd rfl z
    | (k + 4), j, q, r, z => simp at q
    | 0, (k + 4), q, r, z => simp at r
    | 1, (k + 4), q, r, z => simp at r
    | 2, (k + 4), q, r, z => simp at r
    | 3, (k + 4), q, r, z => simp at r
theorem d4_0 : decode prog_51_method_21_code 0 = .ok (.aload_n 0, 1) := by decide +kernel
theorem d4_1 : decode prog_51_method_21_code 1 = .ok (.getfield 7, 3) := by decide +kernel
theorem d4_4 : decode prog_51_method_21_code 4 = .ok (.bipush 64, 2) := by decide +kernel
theorem d4_6 : decode prog_51_method_21_code 6 = .ok (.iadd, 1) := by decide +kernel
theorem d4_7 : decode prog_51_method_21_code 7 = .ok (.iconst 1, 1) := by decide +kernel
theorem d4_8 : decode prog_51_method_21_code 8 = .ok (.isub, 1) := by decide +kernel
theorem d4_9 : decode prog_51_method_21_code 9 = .ok (.bipush 64, 2) := by decide +kernel
theorem d4_11 : decode prog_51_method_21_code 11 = .ok (.idiv, 1) := by decide +kernel
theorem d4_12 : decode prog_51_method_21_code 12 = .ok (.ireturn, 1) := by decide +kernel
def wordCount (x : Int32) : Int32 := (((x + (64 : Int32)) - (1 : Int32)) / (64 : Int32))
def rm_wordCount : Room := { frames := 0, cells := 0, slots := 0, locals := 0 }
def Q_wordCount (x : Int32) (h0 : Heap) (v : Option Value) (h : Heap) : Prop := v = some (.int (wordCount x)) ∧ h = h0
theorem pf_wordCount : plainFor (⟨"com/example/rowan/rowan/policy/EntitySet", "wordCount", "()I"⟩ : MethodName) = true := plainFor_of_name (by first | (simp [plainName, overriddenIn]; done) | decide +kernel)
set_option maxRecDepth 65536 in
set_option maxHeartbeats 40000000 in
theorem ct_wordCount {l : Launch} {Z : State} {a0 : Array Value} (hw : ∀ d ∈ tables_1, d.before a0 Z = true) (h0 : Heap) (n0 : Nat) (b : Addr) (x : Int32) (w0 : Value) (s0 : Value) (sz : Int32) (O_b : Obj Z h0 b "com/example/rowan/rowan/policy/EntitySet" [("entities", "I", .int x), ("slots", "[I", s0), ("words", "[J", w0), ("size", "I", .int sz)]) :
    Ct l Z (⟨"com/example/rowan/rowan/policy/EntitySet", "wordCount", "()I"⟩ : MethodName) prog_51_method_21_code 1 (Option.some Jvm.ClassFile.FieldType.int) [] rm_wordCount #[.ref b] h0 n0 (Q_wordCount x h0) := by
  refine Ct.of (Ls := #[.val (.ref b)]) pf_wordCount (fun m => by first | (simp [entryFrame, mkF, argsToLocals, Value.category, maxLocals]; done) | rfl) ?_
  intro p e s m below meth c C
  have hr : wordCount x = (((x + (64 : Int32)) - (1 : Int32)) / (64 : Int32)) := rfl
  refine w_aloadN (pc' := 1) C d4_0 rfl rfl rfl ?_
  refine w_getF (pc' := 4) C (tw hw 10 rfl) d4_1 rfl (O_b.fld 0 rfl) ?_
  refine w_bipush (pc' := 6) (x := (64 : Int32)) C d4_4 rfl rfl ?_
  refine w_iadd (pc' := 7) C d4_6 rfl ?_
  refine w_iconst (pc' := 8) (x := (1 : Int32)) C d4_7 rfl rfl ?_
  refine w_isub (pc' := 9) C d4_8 rfl ?_
  refine w_bipush (pc' := 11) (x := (64 : Int32)) C d4_9 rfl rfl ?_
  refine w_idiv (pc' := 12) C d4_11 (by decide) rfl ?_
  refine w_retI C rfl d4_12 (by decide) (by decide) ?_
  exact And.intro (congrArg (fun z => some (Value.int z)) hr.symm) rfl
theorem d3_0 : decode prog_51_method_22_code 0 = .ok (.iconst 2, 1) := by decide +kernel
theorem d3_1 : decode prog_51_method_22_code 1 = .ok (.aload_n 0, 1) := by decide +kernel
theorem d3_2 : decode prog_51_method_22_code 2 = .ok (.invokevirtual 17, 3) := by decide +kernel
theorem d3_5 : decode prog_51_method_22_code 5 = .ok (.imul, 1) := by decide +kernel
theorem d3_6 : decode prog_51_method_22_code 6 = .ok (.ireturn, 1) := by decide +kernel
def mostSlots (x : Int32) : Int32 := ((2 : Int32) * (wordCount x))
def rm_mostSlots : Room := { frames := 1, cells := 0, slots := 0, locals := 13 }
def Q_mostSlots (x : Int32) (h0 : Heap) (v : Option Value) (h : Heap) : Prop := v = some (.int (mostSlots x)) ∧ h = h0
theorem pf_mostSlots : plainFor (⟨"com/example/rowan/rowan/policy/EntitySet", "mostSlots", "()I"⟩ : MethodName) = true := plainFor_of_name (by first | (simp [plainName, overriddenIn]; done) | decide +kernel)
set_option maxRecDepth 65536 in
set_option maxHeartbeats 40000000 in
theorem ct_mostSlots {l : Launch} {Z : State} {a0 : Array Value} (hw : ∀ d ∈ tables_1, d.before a0 Z = true) (h0 : Heap) (n0 : Nat) (b : Addr) (x : Int32) (w0 : Value) (s0 : Value) (sz : Int32) (O_b : Obj Z h0 b "com/example/rowan/rowan/policy/EntitySet" [("entities", "I", .int x), ("slots", "[I", s0), ("words", "[J", w0), ("size", "I", .int sz)]) :
    Ct l Z (⟨"com/example/rowan/rowan/policy/EntitySet", "mostSlots", "()I"⟩ : MethodName) prog_51_method_22_code 1 (Option.some Jvm.ClassFile.FieldType.int) [] rm_mostSlots #[.ref b] h0 n0 (Q_mostSlots x h0) := by
  refine Ct.of (Ls := #[.val (.ref b)]) pf_mostSlots (fun m => by first | (simp [entryFrame, mkF, argsToLocals, Value.category, maxLocals]; done) | rfl) ?_
  intro p e s m below meth c C
  have hr : mostSlots x = ((2 : Int32) * (wordCount x)) := rfl
  refine w_iconst (pc' := 1) (x := (2 : Int32)) C d3_0 rfl rfl ?_
  refine w_aloadN (pc' := 2) C d3_1 rfl rfl rfl ?_
  refine w_callP (pc' := 5) (argsL := []) (st := [.int (2 : Int32)]) (W := 1) (ce' := 0) (sl' := 0) C (tw hw 16 rfl) (tw hw 17 rfl) (tw hw 2 rfl) (tw hw 18 rfl) (tw hw 3 rfl) (tw hw 19 rfl) (by decide) d3_2 rfl rfl (by decide) (by decide) (Nat.le_of_eq rfl) rfl rfl (by decide) (by decide) rfl (lenOf pd_0 rfl) O_b.1 (ct_wordCount hw h0 n0 b x w0 s0 sz O_b) (kp ?_)
  refine w_imul (pc' := 6) C d3_5 rfl ?_
  refine w_retI C rfl d3_6 (by decide) (by decide) ?_
  exact And.intro (congrArg (fun z => some (Value.int z)) hr.symm) rfl
theorem d10_0 : decode jdk_33_method_47_code 0 = .ok (.iload_n 0, 1) := by decide +kernel
theorem d10_1 : decode jdk_33_method_47_code 1 = .ok (.ifCond .gt 14, 3) := by decide +kernel
theorem d10_4 : decode jdk_33_method_47_code 4 = .ok (.iload_n 0, 1) := by decide +kernel
theorem d10_5 : decode jdk_33_method_47_code 5 = .ok (.ifCond .ne 8, 3) := by decide +kernel
theorem d10_8 : decode jdk_33_method_47_code 8 = .ok (.bipush 32, 2) := by decide +kernel
theorem d10_10 : decode jdk_33_method_47_code 10 = .ok (.goto 4, 3) := by decide +kernel
theorem d10_13 : decode jdk_33_method_47_code 13 = .ok (.iconst 0, 1) := by decide +kernel
theorem d10_14 : decode jdk_33_method_47_code 14 = .ok (.ireturn, 1) := by decide +kernel
theorem d10_15 : decode jdk_33_method_47_code 15 = .ok (.bipush 31, 2) := by decide +kernel
theorem d10_17 : decode jdk_33_method_47_code 17 = .ok (.istore_n 1, 1) := by decide +kernel
theorem d10_18 : decode jdk_33_method_47_code 18 = .ok (.iload_n 0, 1) := by decide +kernel
theorem d10_19 : decode jdk_33_method_47_code 19 = .ok (.ldc_w 264, 3) := by decide +kernel
theorem d10_22 : decode jdk_33_method_47_code 22 = .ok (.if_icmp .lt 11, 3) := by decide +kernel
theorem d10_25 : decode jdk_33_method_47_code 25 = .ok (.iinc 1 (-16), 3) := by decide +kernel
theorem d10_28 : decode jdk_33_method_47_code 28 = .ok (.iload_n 0, 1) := by decide +kernel
theorem d10_29 : decode jdk_33_method_47_code 29 = .ok (.bipush 16, 2) := by decide +kernel
theorem d10_31 : decode jdk_33_method_47_code 31 = .ok (.iushr, 1) := by decide +kernel
theorem d10_32 : decode jdk_33_method_47_code 32 = .ok (.istore_n 0, 1) := by decide +kernel
theorem d10_33 : decode jdk_33_method_47_code 33 = .ok (.iload_n 0, 1) := by decide +kernel
theorem d10_34 : decode jdk_33_method_47_code 34 = .ok (.sipush 256, 3) := by decide +kernel
theorem d10_37 : decode jdk_33_method_47_code 37 = .ok (.if_icmp .lt 11, 3) := by decide +kernel
theorem d10_40 : decode jdk_33_method_47_code 40 = .ok (.iinc 1 (-8), 3) := by decide +kernel
theorem d10_43 : decode jdk_33_method_47_code 43 = .ok (.iload_n 0, 1) := by decide +kernel
theorem d10_44 : decode jdk_33_method_47_code 44 = .ok (.bipush 8, 2) := by decide +kernel
theorem d10_46 : decode jdk_33_method_47_code 46 = .ok (.iushr, 1) := by decide +kernel
theorem d10_47 : decode jdk_33_method_47_code 47 = .ok (.istore_n 0, 1) := by decide +kernel
theorem d10_48 : decode jdk_33_method_47_code 48 = .ok (.iload_n 0, 1) := by decide +kernel
theorem d10_49 : decode jdk_33_method_47_code 49 = .ok (.bipush 16, 2) := by decide +kernel
theorem d10_51 : decode jdk_33_method_47_code 51 = .ok (.if_icmp .lt 10, 3) := by decide +kernel
theorem d10_54 : decode jdk_33_method_47_code 54 = .ok (.iinc 1 (-4), 3) := by decide +kernel
theorem d10_57 : decode jdk_33_method_47_code 57 = .ok (.iload_n 0, 1) := by decide +kernel
theorem d10_58 : decode jdk_33_method_47_code 58 = .ok (.iconst 4, 1) := by decide +kernel
theorem d10_59 : decode jdk_33_method_47_code 59 = .ok (.iushr, 1) := by decide +kernel
theorem d10_60 : decode jdk_33_method_47_code 60 = .ok (.istore_n 0, 1) := by decide +kernel
theorem d10_61 : decode jdk_33_method_47_code 61 = .ok (.iload_n 0, 1) := by decide +kernel
theorem d10_62 : decode jdk_33_method_47_code 62 = .ok (.iconst 4, 1) := by decide +kernel
theorem d10_63 : decode jdk_33_method_47_code 63 = .ok (.if_icmp .lt 10, 3) := by decide +kernel
theorem d10_66 : decode jdk_33_method_47_code 66 = .ok (.iinc 1 (-2), 3) := by decide +kernel
theorem d10_69 : decode jdk_33_method_47_code 69 = .ok (.iload_n 0, 1) := by decide +kernel
theorem d10_70 : decode jdk_33_method_47_code 70 = .ok (.iconst 2, 1) := by decide +kernel
theorem d10_71 : decode jdk_33_method_47_code 71 = .ok (.iushr, 1) := by decide +kernel
theorem d10_72 : decode jdk_33_method_47_code 72 = .ok (.istore_n 0, 1) := by decide +kernel
theorem d10_73 : decode jdk_33_method_47_code 73 = .ok (.iload_n 1, 1) := by decide +kernel
theorem d10_74 : decode jdk_33_method_47_code 74 = .ok (.iload_n 0, 1) := by decide +kernel
theorem d10_75 : decode jdk_33_method_47_code 75 = .ok (.iconst 1, 1) := by decide +kernel
theorem d10_76 : decode jdk_33_method_47_code 76 = .ok (.iushr, 1) := by decide +kernel
theorem d10_77 : decode jdk_33_method_47_code 77 = .ok (.isub, 1) := by decide +kernel
theorem d10_78 : decode jdk_33_method_47_code 78 = .ok (.ireturn, 1) := by decide +kernel
def nlz_73 (x : Int32) (v73_0 : Int32) (v73_1 : Int32) : Int32 := (v73_1 - ((v73_0.toUInt32 >>> ((1 : Int32) &&& 31).toUInt32).toInt32))
def nlz_61 (x : Int32) (v61_0 : Int32) (v61_1 : Int32) : Int32 := (if v61_0 < (4 : Int32) then (nlz_73 x v61_0 v61_1) else (nlz_73 x ((v61_0.toUInt32 >>> ((2 : Int32) &&& 31).toUInt32).toInt32) (v61_1 + (-2 : Int32))))
def nlz_48 (x : Int32) (v48_0 : Int32) (v48_1 : Int32) : Int32 := (if v48_0 < (16 : Int32) then (nlz_61 x v48_0 v48_1) else (nlz_61 x ((v48_0.toUInt32 >>> ((4 : Int32) &&& 31).toUInt32).toInt32) (v48_1 + (-4 : Int32))))
def nlz_33 (x : Int32) (v33_0 : Int32) (v33_1 : Int32) : Int32 := (if v33_0 < (256 : Int32) then (nlz_48 x v33_0 v33_1) else (nlz_48 x ((v33_0.toUInt32 >>> ((8 : Int32) &&& 31).toUInt32).toInt32) (v33_1 + (-8 : Int32))))
def nlz (x : Int32) : Int32 := (if 0 < x then (if x < (65536 : Int32) then (nlz_33 x x (31 : Int32)) else (nlz_33 x ((x.toUInt32 >>> ((16 : Int32) &&& 31).toUInt32).toInt32) (15 : Int32))) else (if x = 0 then (32 : Int32) else (0 : Int32)))
def rm_nlz : Room := { frames := 0, cells := 0, slots := 0, locals := 0 }
def Q_nlz (x : Int32) (h0 : Heap) (v : Option Value) (h : Heap) : Prop := v = some (.int (nlz x)) ∧ h = h0
theorem pf_nlz : plainFor (⟨"java/lang/Integer", "numberOfLeadingZeros", "(I)I"⟩ : MethodName) = true := plainFor_of_name (by first | (simp [plainName, overriddenIn]; done) | decide +kernel)
set_option maxRecDepth 65536 in
set_option maxHeartbeats 40000000 in
theorem ct_nlz {l : Launch} {Z : State} {a0 : Array Value} (hw : ∀ d ∈ tables_1, d.before a0 Z = true) (h0 : Heap) (n0 : Nat) (x : Int32)  :
    Ct l Z (⟨"java/lang/Integer", "numberOfLeadingZeros", "(I)I"⟩ : MethodName) jdk_33_method_47_code 2 (Option.some Jvm.ClassFile.FieldType.int) [] rm_nlz #[.int x] h0 n0 (Q_nlz x h0) := by
  refine Ct.of (Ls := #[.val (.int x), .unset]) pf_nlz (fun m => by first | (simp [entryFrame, mkF, argsToLocals, Value.category, maxLocals]; done) | rfl) ?_
  intro p e s m below meth c C
  have K73 : ∀ (v73_0 : Int32) (v73_1 : Int32), nlz x = nlz_73 x v73_0 v73_1 → Wp p l e rm_nlz s m #[.int x] below meth c n0 rm_nlz.cells rm_nlz.slots (Q_nlz x h0) h0 0 0 (mkF m 73 #[.val (.int v73_0), .val (.int v73_1)] []) := by
    intro v73_0 v73_1 hr
    change _ = (v73_1 - ((v73_0.toUInt32 >>> ((1 : Int32) &&& 31).toUInt32).toInt32)) at hr
    refine w_iloadN (pc' := 74) C d10_73 rfl rfl ?_
    refine w_iloadN (pc' := 75) C d10_74 rfl rfl ?_
    refine w_iconst (pc' := 76) (x := (1 : Int32)) C d10_75 rfl rfl ?_
    refine w_iushr (pc' := 77) C d10_76 rfl ?_
    refine w_isub (pc' := 78) C d10_77 rfl ?_
    refine w_retI C rfl d10_78 (by decide) (by decide) ?_
    exact And.intro (congrArg (fun z => some (Value.int z)) hr.symm) rfl
  have K61 : ∀ (v61_0 : Int32) (v61_1 : Int32), nlz x = nlz_61 x v61_0 v61_1 → Wp p l e rm_nlz s m #[.int x] below meth c n0 rm_nlz.cells rm_nlz.slots (Q_nlz x h0) h0 0 0 (mkF m 61 #[.val (.int v61_0), .val (.int v61_1)] []) := by
    intro v61_0 v61_1 hr
    change _ = (if v61_0 < (4 : Int32) then (nlz_73 x v61_0 v61_1) else (nlz_73 x ((v61_0.toUInt32 >>> ((2 : Int32) &&& 31).toUInt32).toInt32) (v61_1 + (-2 : Int32)))) at hr
    refine w_iloadN (pc' := 62) C d10_61 rfl rfl ?_
    refine w_iconst (pc' := 63) (x := (4 : Int32)) C d10_62 rfl rfl ?_
    refine w_icmp_lt (pcT := 73) (pcF := 66) C d10_63 (by decide) (by decide) rfl (fun q63 => ?_) (fun q63 => ?_)
    · have hr := hr.trans (if_pos q63)
      exact K73 v61_0 v61_1 hr
    · have hr := hr.trans (if_neg q63)
      refine w_iinc (pc' := 69) (Ls' := #[.val (.int v61_0), .val (.int (v61_1 + (-2 : Int32)))]) C d10_66 rfl rfl rfl ?_
      refine w_iloadN (pc' := 70) C d10_69 rfl rfl ?_
      refine w_iconst (pc' := 71) (x := (2 : Int32)) C d10_70 rfl rfl ?_
      refine w_iushr (pc' := 72) C d10_71 rfl ?_
      refine w_istoreN (pc' := 73) (Ls' := #[.val (.int ((v61_0.toUInt32 >>> ((2 : Int32) &&& 31).toUInt32).toInt32)), .val (.int (v61_1 + (-2 : Int32)))]) C d10_72 rfl rfl ?_
      exact K73 ((v61_0.toUInt32 >>> ((2 : Int32) &&& 31).toUInt32).toInt32) (v61_1 + (-2 : Int32)) hr
  have K48 : ∀ (v48_0 : Int32) (v48_1 : Int32), nlz x = nlz_48 x v48_0 v48_1 → Wp p l e rm_nlz s m #[.int x] below meth c n0 rm_nlz.cells rm_nlz.slots (Q_nlz x h0) h0 0 0 (mkF m 48 #[.val (.int v48_0), .val (.int v48_1)] []) := by
    intro v48_0 v48_1 hr
    change _ = (if v48_0 < (16 : Int32) then (nlz_61 x v48_0 v48_1) else (nlz_61 x ((v48_0.toUInt32 >>> ((4 : Int32) &&& 31).toUInt32).toInt32) (v48_1 + (-4 : Int32)))) at hr
    refine w_iloadN (pc' := 49) C d10_48 rfl rfl ?_
    refine w_bipush (pc' := 51) (x := (16 : Int32)) C d10_49 rfl rfl ?_
    refine w_icmp_lt (pcT := 61) (pcF := 54) C d10_51 (by decide) (by decide) rfl (fun q51 => ?_) (fun q51 => ?_)
    · have hr := hr.trans (if_pos q51)
      exact K61 v48_0 v48_1 hr
    · have hr := hr.trans (if_neg q51)
      refine w_iinc (pc' := 57) (Ls' := #[.val (.int v48_0), .val (.int (v48_1 + (-4 : Int32)))]) C d10_54 rfl rfl rfl ?_
      refine w_iloadN (pc' := 58) C d10_57 rfl rfl ?_
      refine w_iconst (pc' := 59) (x := (4 : Int32)) C d10_58 rfl rfl ?_
      refine w_iushr (pc' := 60) C d10_59 rfl ?_
      refine w_istoreN (pc' := 61) (Ls' := #[.val (.int ((v48_0.toUInt32 >>> ((4 : Int32) &&& 31).toUInt32).toInt32)), .val (.int (v48_1 + (-4 : Int32)))]) C d10_60 rfl rfl ?_
      exact K61 ((v48_0.toUInt32 >>> ((4 : Int32) &&& 31).toUInt32).toInt32) (v48_1 + (-4 : Int32)) hr
  have K33 : ∀ (v33_0 : Int32) (v33_1 : Int32), nlz x = nlz_33 x v33_0 v33_1 → Wp p l e rm_nlz s m #[.int x] below meth c n0 rm_nlz.cells rm_nlz.slots (Q_nlz x h0) h0 0 0 (mkF m 33 #[.val (.int v33_0), .val (.int v33_1)] []) := by
    intro v33_0 v33_1 hr
    change _ = (if v33_0 < (256 : Int32) then (nlz_48 x v33_0 v33_1) else (nlz_48 x ((v33_0.toUInt32 >>> ((8 : Int32) &&& 31).toUInt32).toInt32) (v33_1 + (-8 : Int32)))) at hr
    refine w_iloadN (pc' := 34) C d10_33 rfl rfl ?_
    refine w_sipush (pc' := 37) (x := (256 : Int32)) C d10_34 rfl rfl ?_
    refine w_icmp_lt (pcT := 48) (pcF := 40) C d10_37 (by decide) (by decide) rfl (fun q37 => ?_) (fun q37 => ?_)
    · have hr := hr.trans (if_pos q37)
      exact K48 v33_0 v33_1 hr
    · have hr := hr.trans (if_neg q37)
      refine w_iinc (pc' := 43) (Ls' := #[.val (.int v33_0), .val (.int (v33_1 + (-8 : Int32)))]) C d10_40 rfl rfl rfl ?_
      refine w_iloadN (pc' := 44) C d10_43 rfl rfl ?_
      refine w_bipush (pc' := 46) (x := (8 : Int32)) C d10_44 rfl rfl ?_
      refine w_iushr (pc' := 47) C d10_46 rfl ?_
      refine w_istoreN (pc' := 48) (Ls' := #[.val (.int ((v33_0.toUInt32 >>> ((8 : Int32) &&& 31).toUInt32).toInt32)), .val (.int (v33_1 + (-8 : Int32)))]) C d10_47 rfl rfl ?_
      exact K48 ((v33_0.toUInt32 >>> ((8 : Int32) &&& 31).toUInt32).toInt32) (v33_1 + (-8 : Int32)) hr
  have hr : nlz x = (if 0 < x then (if x < (65536 : Int32) then (nlz_33 x x (31 : Int32)) else (nlz_33 x ((x.toUInt32 >>> ((16 : Int32) &&& 31).toUInt32).toInt32) (15 : Int32))) else (if x = 0 then (32 : Int32) else (0 : Int32))) := rfl
  refine w_iloadN (pc' := 1) C d10_0 rfl rfl ?_
  refine w_if_gt (pcT := 15) (pcF := 4) C d10_1 (by decide) (by decide) rfl (fun q1 => ?_) (fun q1 => ?_)
  · have hr := hr.trans (if_pos q1)
    refine w_bipush (pc' := 17) (x := (31 : Int32)) C d10_15 rfl rfl ?_
    refine w_istoreN (pc' := 18) (Ls' := #[.val (.int x), .val (.int (31 : Int32))]) C d10_17 rfl rfl ?_
    refine w_iloadN (pc' := 19) C d10_18 rfl rfl ?_
    refine w_ldcwI (pc' := 22) C (tw hw 50 rfl) d10_19 rfl ?_
    refine w_icmp_lt (pcT := 33) (pcF := 25) C d10_22 (by decide) (by decide) rfl (fun q22 => ?_) (fun q22 => ?_)
    · have hr := hr.trans (if_pos q22)
      exact K33 x (31 : Int32) hr
    · have hr := hr.trans (if_neg q22)
      refine w_iincE (pc' := 28) (z := (15 : Int32)) (Ls' := #[.val (.int x), .val (.int (15 : Int32))]) C d10_25 rfl (by decide) rfl rfl ?_
      refine w_iloadN (pc' := 29) C d10_28 rfl rfl ?_
      refine w_bipush (pc' := 31) (x := (16 : Int32)) C d10_29 rfl rfl ?_
      refine w_iushr (pc' := 32) C d10_31 rfl ?_
      refine w_istoreN (pc' := 33) (Ls' := #[.val (.int ((x.toUInt32 >>> ((16 : Int32) &&& 31).toUInt32).toInt32)), .val (.int (15 : Int32))]) C d10_32 rfl rfl ?_
      exact K33 ((x.toUInt32 >>> ((16 : Int32) &&& 31).toUInt32).toInt32) (15 : Int32) hr
  · have hr := hr.trans (if_neg q1)
    refine w_iloadN (pc' := 5) C d10_4 rfl rfl ?_
    refine w_if_ne (pcT := 13) (pcF := 8) C d10_5 (by decide) (by decide) rfl (fun q5 => ?_) (fun q5 => ?_)
    · have hr := hr.trans (if_neg q5)
      refine w_iconst (pc' := 14) (x := (0 : Int32)) C d10_13 rfl rfl ?_
      refine w_retI C rfl d10_14 (by decide) (by decide) ?_
      exact And.intro (congrArg (fun z => some (Value.int z)) hr.symm) rfl
    · have hr := hr.trans (if_pos q5)
      refine w_bipush (pc' := 10) (x := (32 : Int32)) C d10_8 rfl rfl ?_
      refine w_goto (pc' := 14) C d10_10 (by decide) (by decide) ?_
      refine w_retI C rfl d10_14 (by decide) (by decide) ?_
      exact And.intro (congrArg (fun z => some (Value.int z)) hr.symm) rfl
theorem d16_0 : decode jdk_33_method_48_code 0 = .ok (.iload_n 0, 1) := by decide +kernel
theorem d16_1 : decode jdk_33_method_48_code 1 = .ok (.iconst (-1), 1) := by decide +kernel
theorem d16_2 : decode jdk_33_method_48_code 2 = .ok (.ixor, 1) := by decide +kernel
theorem d16_3 : decode jdk_33_method_48_code 3 = .ok (.iload_n 0, 1) := by decide +kernel
theorem d16_4 : decode jdk_33_method_48_code 4 = .ok (.iconst 1, 1) := by decide +kernel
theorem d16_5 : decode jdk_33_method_48_code 5 = .ok (.isub, 1) := by decide +kernel
theorem d16_6 : decode jdk_33_method_48_code 6 = .ok (.iand, 1) := by decide +kernel
theorem d16_7 : decode jdk_33_method_48_code 7 = .ok (.istore_n 0, 1) := by decide +kernel
theorem d16_8 : decode jdk_33_method_48_code 8 = .ok (.iload_n 0, 1) := by decide +kernel
theorem d16_9 : decode jdk_33_method_48_code 9 = .ok (.ifCond .gt 8, 3) := by decide +kernel
theorem d16_12 : decode jdk_33_method_48_code 12 = .ok (.iload_n 0, 1) := by decide +kernel
theorem d16_13 : decode jdk_33_method_48_code 13 = .ok (.bipush 32, 2) := by decide +kernel
theorem d16_15 : decode jdk_33_method_48_code 15 = .ok (.iand, 1) := by decide +kernel
theorem d16_16 : decode jdk_33_method_48_code 16 = .ok (.ireturn, 1) := by decide +kernel
theorem d16_17 : decode jdk_33_method_48_code 17 = .ok (.iconst 1, 1) := by decide +kernel
theorem d16_18 : decode jdk_33_method_48_code 18 = .ok (.istore_n 1, 1) := by decide +kernel
theorem d16_19 : decode jdk_33_method_48_code 19 = .ok (.iload_n 0, 1) := by decide +kernel
theorem d16_20 : decode jdk_33_method_48_code 20 = .ok (.ldc_w 264, 3) := by decide +kernel
theorem d16_23 : decode jdk_33_method_48_code 23 = .ok (.if_icmp .le 11, 3) := by decide +kernel
theorem d16_26 : decode jdk_33_method_48_code 26 = .ok (.iinc 1 16, 3) := by decide +kernel
theorem d16_29 : decode jdk_33_method_48_code 29 = .ok (.iload_n 0, 1) := by decide +kernel
theorem d16_30 : decode jdk_33_method_48_code 30 = .ok (.bipush 16, 2) := by decide +kernel
theorem d16_32 : decode jdk_33_method_48_code 32 = .ok (.iushr, 1) := by decide +kernel
theorem d16_33 : decode jdk_33_method_48_code 33 = .ok (.istore_n 0, 1) := by decide +kernel
theorem d16_34 : decode jdk_33_method_48_code 34 = .ok (.iload_n 0, 1) := by decide +kernel
theorem d16_35 : decode jdk_33_method_48_code 35 = .ok (.sipush 256, 3) := by decide +kernel
theorem d16_38 : decode jdk_33_method_48_code 38 = .ok (.if_icmp .le 11, 3) := by decide +kernel
theorem d16_41 : decode jdk_33_method_48_code 41 = .ok (.iinc 1 8, 3) := by decide +kernel
theorem d16_44 : decode jdk_33_method_48_code 44 = .ok (.iload_n 0, 1) := by decide +kernel
theorem d16_45 : decode jdk_33_method_48_code 45 = .ok (.bipush 8, 2) := by decide +kernel
theorem d16_47 : decode jdk_33_method_48_code 47 = .ok (.iushr, 1) := by decide +kernel
theorem d16_48 : decode jdk_33_method_48_code 48 = .ok (.istore_n 0, 1) := by decide +kernel
theorem d16_49 : decode jdk_33_method_48_code 49 = .ok (.iload_n 0, 1) := by decide +kernel
theorem d16_50 : decode jdk_33_method_48_code 50 = .ok (.bipush 16, 2) := by decide +kernel
theorem d16_52 : decode jdk_33_method_48_code 52 = .ok (.if_icmp .le 10, 3) := by decide +kernel
theorem d16_55 : decode jdk_33_method_48_code 55 = .ok (.iinc 1 4, 3) := by decide +kernel
theorem d16_58 : decode jdk_33_method_48_code 58 = .ok (.iload_n 0, 1) := by decide +kernel
theorem d16_59 : decode jdk_33_method_48_code 59 = .ok (.iconst 4, 1) := by decide +kernel
theorem d16_60 : decode jdk_33_method_48_code 60 = .ok (.iushr, 1) := by decide +kernel
theorem d16_61 : decode jdk_33_method_48_code 61 = .ok (.istore_n 0, 1) := by decide +kernel
theorem d16_62 : decode jdk_33_method_48_code 62 = .ok (.iload_n 0, 1) := by decide +kernel
theorem d16_63 : decode jdk_33_method_48_code 63 = .ok (.iconst 4, 1) := by decide +kernel
theorem d16_64 : decode jdk_33_method_48_code 64 = .ok (.if_icmp .le 10, 3) := by decide +kernel
theorem d16_67 : decode jdk_33_method_48_code 67 = .ok (.iinc 1 2, 3) := by decide +kernel
theorem d16_70 : decode jdk_33_method_48_code 70 = .ok (.iload_n 0, 1) := by decide +kernel
theorem d16_71 : decode jdk_33_method_48_code 71 = .ok (.iconst 2, 1) := by decide +kernel
theorem d16_72 : decode jdk_33_method_48_code 72 = .ok (.iushr, 1) := by decide +kernel
theorem d16_73 : decode jdk_33_method_48_code 73 = .ok (.istore_n 0, 1) := by decide +kernel
theorem d16_74 : decode jdk_33_method_48_code 74 = .ok (.iload_n 1, 1) := by decide +kernel
theorem d16_75 : decode jdk_33_method_48_code 75 = .ok (.iload_n 0, 1) := by decide +kernel
theorem d16_76 : decode jdk_33_method_48_code 76 = .ok (.iconst 1, 1) := by decide +kernel
theorem d16_77 : decode jdk_33_method_48_code 77 = .ok (.iushr, 1) := by decide +kernel
theorem d16_78 : decode jdk_33_method_48_code 78 = .ok (.iadd, 1) := by decide +kernel
theorem d16_79 : decode jdk_33_method_48_code 79 = .ok (.ireturn, 1) := by decide +kernel
def ntz32_74 (x : Int32) (v74_0 : Int32) (v74_1 : Int32) : Int32 := (v74_1 + ((v74_0.toUInt32 >>> ((1 : Int32) &&& 31).toUInt32).toInt32))
def ntz32_62 (x : Int32) (v62_0 : Int32) (v62_1 : Int32) : Int32 := (if (4 : Int32) < v62_0 then (ntz32_74 x ((v62_0.toUInt32 >>> ((2 : Int32) &&& 31).toUInt32).toInt32) (v62_1 + (2 : Int32))) else (ntz32_74 x v62_0 v62_1))
def ntz32_49 (x : Int32) (v49_0 : Int32) (v49_1 : Int32) : Int32 := (if (16 : Int32) < v49_0 then (ntz32_62 x ((v49_0.toUInt32 >>> ((4 : Int32) &&& 31).toUInt32).toInt32) (v49_1 + (4 : Int32))) else (ntz32_62 x v49_0 v49_1))
def ntz32_34 (x : Int32) (v34_0 : Int32) (v34_1 : Int32) : Int32 := (if (256 : Int32) < v34_0 then (ntz32_49 x ((v34_0.toUInt32 >>> ((8 : Int32) &&& 31).toUInt32).toInt32) (v34_1 + (8 : Int32))) else (ntz32_49 x v34_0 v34_1))
def ntz32 (x : Int32) : Int32 := (if 0 < ((x ^^^ (-1 : Int32)) &&& (x - (1 : Int32))) then (if (65536 : Int32) < ((x ^^^ (-1 : Int32)) &&& (x - (1 : Int32))) then (ntz32_34 x ((((x ^^^ (-1 : Int32)) &&& (x - (1 : Int32))).toUInt32 >>> ((16 : Int32) &&& 31).toUInt32).toInt32) (17 : Int32)) else (ntz32_34 x ((x ^^^ (-1 : Int32)) &&& (x - (1 : Int32))) (1 : Int32))) else (((x ^^^ (-1 : Int32)) &&& (x - (1 : Int32))) &&& (32 : Int32)))
def rm_ntz32 : Room := { frames := 0, cells := 0, slots := 0, locals := 0 }
def Q_ntz32 (x : Int32) (h0 : Heap) (v : Option Value) (h : Heap) : Prop := v = some (.int (ntz32 x)) ∧ h = h0
theorem pf_ntz32 : plainFor (⟨"java/lang/Integer", "numberOfTrailingZeros", "(I)I"⟩ : MethodName) = true := plainFor_of_name (by first | (simp [plainName, overriddenIn]; done) | decide +kernel)
set_option maxRecDepth 65536 in
set_option maxHeartbeats 40000000 in
theorem ct_ntz32 {l : Launch} {Z : State} {a0 : Array Value} (hw : ∀ d ∈ tables_1, d.before a0 Z = true) (h0 : Heap) (n0 : Nat) (x : Int32)  :
    Ct l Z (⟨"java/lang/Integer", "numberOfTrailingZeros", "(I)I"⟩ : MethodName) jdk_33_method_48_code 2 (Option.some Jvm.ClassFile.FieldType.int) [] rm_ntz32 #[.int x] h0 n0 (Q_ntz32 x h0) := by
  refine Ct.of (Ls := #[.val (.int x), .unset]) pf_ntz32 (fun m => by first | (simp [entryFrame, mkF, argsToLocals, Value.category, maxLocals]; done) | rfl) ?_
  intro p e s m below meth c C
  have K74 : ∀ (v74_0 : Int32) (v74_1 : Int32), ntz32 x = ntz32_74 x v74_0 v74_1 → Wp p l e rm_ntz32 s m #[.int x] below meth c n0 rm_ntz32.cells rm_ntz32.slots (Q_ntz32 x h0) h0 0 0 (mkF m 74 #[.val (.int v74_0), .val (.int v74_1)] []) := by
    intro v74_0 v74_1 hr
    change _ = (v74_1 + ((v74_0.toUInt32 >>> ((1 : Int32) &&& 31).toUInt32).toInt32)) at hr
    refine w_iloadN (pc' := 75) C d16_74 rfl rfl ?_
    refine w_iloadN (pc' := 76) C d16_75 rfl rfl ?_
    refine w_iconst (pc' := 77) (x := (1 : Int32)) C d16_76 rfl rfl ?_
    refine w_iushr (pc' := 78) C d16_77 rfl ?_
    refine w_iadd (pc' := 79) C d16_78 rfl ?_
    refine w_retI C rfl d16_79 (by decide) (by decide) ?_
    exact And.intro (congrArg (fun z => some (Value.int z)) hr.symm) rfl
  have K62 : ∀ (v62_0 : Int32) (v62_1 : Int32), ntz32 x = ntz32_62 x v62_0 v62_1 → Wp p l e rm_ntz32 s m #[.int x] below meth c n0 rm_ntz32.cells rm_ntz32.slots (Q_ntz32 x h0) h0 0 0 (mkF m 62 #[.val (.int v62_0), .val (.int v62_1)] []) := by
    intro v62_0 v62_1 hr
    change _ = (if (4 : Int32) < v62_0 then (ntz32_74 x ((v62_0.toUInt32 >>> ((2 : Int32) &&& 31).toUInt32).toInt32) (v62_1 + (2 : Int32))) else (ntz32_74 x v62_0 v62_1)) at hr
    refine w_iloadN (pc' := 63) C d16_62 rfl rfl ?_
    refine w_iconst (pc' := 64) (x := (4 : Int32)) C d16_63 rfl rfl ?_
    refine w_icmp_le (pcT := 74) (pcF := 67) C d16_64 (by decide) (by decide) rfl (fun q64 => ?_) (fun q64 => ?_)
    · have hr := hr.trans (if_neg q64)
      exact K74 v62_0 v62_1 hr
    · have hr := hr.trans (if_pos q64)
      refine w_iinc (pc' := 70) (Ls' := #[.val (.int v62_0), .val (.int (v62_1 + (2 : Int32)))]) C d16_67 rfl rfl rfl ?_
      refine w_iloadN (pc' := 71) C d16_70 rfl rfl ?_
      refine w_iconst (pc' := 72) (x := (2 : Int32)) C d16_71 rfl rfl ?_
      refine w_iushr (pc' := 73) C d16_72 rfl ?_
      refine w_istoreN (pc' := 74) (Ls' := #[.val (.int ((v62_0.toUInt32 >>> ((2 : Int32) &&& 31).toUInt32).toInt32)), .val (.int (v62_1 + (2 : Int32)))]) C d16_73 rfl rfl ?_
      exact K74 ((v62_0.toUInt32 >>> ((2 : Int32) &&& 31).toUInt32).toInt32) (v62_1 + (2 : Int32)) hr
  have K49 : ∀ (v49_0 : Int32) (v49_1 : Int32), ntz32 x = ntz32_49 x v49_0 v49_1 → Wp p l e rm_ntz32 s m #[.int x] below meth c n0 rm_ntz32.cells rm_ntz32.slots (Q_ntz32 x h0) h0 0 0 (mkF m 49 #[.val (.int v49_0), .val (.int v49_1)] []) := by
    intro v49_0 v49_1 hr
    change _ = (if (16 : Int32) < v49_0 then (ntz32_62 x ((v49_0.toUInt32 >>> ((4 : Int32) &&& 31).toUInt32).toInt32) (v49_1 + (4 : Int32))) else (ntz32_62 x v49_0 v49_1)) at hr
    refine w_iloadN (pc' := 50) C d16_49 rfl rfl ?_
    refine w_bipush (pc' := 52) (x := (16 : Int32)) C d16_50 rfl rfl ?_
    refine w_icmp_le (pcT := 62) (pcF := 55) C d16_52 (by decide) (by decide) rfl (fun q52 => ?_) (fun q52 => ?_)
    · have hr := hr.trans (if_neg q52)
      exact K62 v49_0 v49_1 hr
    · have hr := hr.trans (if_pos q52)
      refine w_iinc (pc' := 58) (Ls' := #[.val (.int v49_0), .val (.int (v49_1 + (4 : Int32)))]) C d16_55 rfl rfl rfl ?_
      refine w_iloadN (pc' := 59) C d16_58 rfl rfl ?_
      refine w_iconst (pc' := 60) (x := (4 : Int32)) C d16_59 rfl rfl ?_
      refine w_iushr (pc' := 61) C d16_60 rfl ?_
      refine w_istoreN (pc' := 62) (Ls' := #[.val (.int ((v49_0.toUInt32 >>> ((4 : Int32) &&& 31).toUInt32).toInt32)), .val (.int (v49_1 + (4 : Int32)))]) C d16_61 rfl rfl ?_
      exact K62 ((v49_0.toUInt32 >>> ((4 : Int32) &&& 31).toUInt32).toInt32) (v49_1 + (4 : Int32)) hr
  have K34 : ∀ (v34_0 : Int32) (v34_1 : Int32), ntz32 x = ntz32_34 x v34_0 v34_1 → Wp p l e rm_ntz32 s m #[.int x] below meth c n0 rm_ntz32.cells rm_ntz32.slots (Q_ntz32 x h0) h0 0 0 (mkF m 34 #[.val (.int v34_0), .val (.int v34_1)] []) := by
    intro v34_0 v34_1 hr
    change _ = (if (256 : Int32) < v34_0 then (ntz32_49 x ((v34_0.toUInt32 >>> ((8 : Int32) &&& 31).toUInt32).toInt32) (v34_1 + (8 : Int32))) else (ntz32_49 x v34_0 v34_1)) at hr
    refine w_iloadN (pc' := 35) C d16_34 rfl rfl ?_
    refine w_sipush (pc' := 38) (x := (256 : Int32)) C d16_35 rfl rfl ?_
    refine w_icmp_le (pcT := 49) (pcF := 41) C d16_38 (by decide) (by decide) rfl (fun q38 => ?_) (fun q38 => ?_)
    · have hr := hr.trans (if_neg q38)
      exact K49 v34_0 v34_1 hr
    · have hr := hr.trans (if_pos q38)
      refine w_iinc (pc' := 44) (Ls' := #[.val (.int v34_0), .val (.int (v34_1 + (8 : Int32)))]) C d16_41 rfl rfl rfl ?_
      refine w_iloadN (pc' := 45) C d16_44 rfl rfl ?_
      refine w_bipush (pc' := 47) (x := (8 : Int32)) C d16_45 rfl rfl ?_
      refine w_iushr (pc' := 48) C d16_47 rfl ?_
      refine w_istoreN (pc' := 49) (Ls' := #[.val (.int ((v34_0.toUInt32 >>> ((8 : Int32) &&& 31).toUInt32).toInt32)), .val (.int (v34_1 + (8 : Int32)))]) C d16_48 rfl rfl ?_
      exact K49 ((v34_0.toUInt32 >>> ((8 : Int32) &&& 31).toUInt32).toInt32) (v34_1 + (8 : Int32)) hr
  have hr : ntz32 x = (if 0 < ((x ^^^ (-1 : Int32)) &&& (x - (1 : Int32))) then (if (65536 : Int32) < ((x ^^^ (-1 : Int32)) &&& (x - (1 : Int32))) then (ntz32_34 x ((((x ^^^ (-1 : Int32)) &&& (x - (1 : Int32))).toUInt32 >>> ((16 : Int32) &&& 31).toUInt32).toInt32) (17 : Int32)) else (ntz32_34 x ((x ^^^ (-1 : Int32)) &&& (x - (1 : Int32))) (1 : Int32))) else (((x ^^^ (-1 : Int32)) &&& (x - (1 : Int32))) &&& (32 : Int32))) := rfl
  refine w_iloadN (pc' := 1) C d16_0 rfl rfl ?_
  refine w_iconst (pc' := 2) (x := (-1 : Int32)) C d16_1 rfl rfl ?_
  refine w_ixor (pc' := 3) C d16_2 rfl ?_
  refine w_iloadN (pc' := 4) C d16_3 rfl rfl ?_
  refine w_iconst (pc' := 5) (x := (1 : Int32)) C d16_4 rfl rfl ?_
  refine w_isub (pc' := 6) C d16_5 rfl ?_
  refine w_iand (pc' := 7) C d16_6 rfl ?_
  refine w_istoreN (pc' := 8) (Ls' := #[.val (.int ((x ^^^ (-1 : Int32)) &&& (x - (1 : Int32)))), .unset]) C d16_7 rfl rfl ?_
  refine w_iloadN (pc' := 9) C d16_8 rfl rfl ?_
  refine w_if_gt (pcT := 17) (pcF := 12) C d16_9 (by decide) (by decide) rfl (fun q9 => ?_) (fun q9 => ?_)
  · have hr := hr.trans (if_pos q9)
    refine w_iconst (pc' := 18) (x := (1 : Int32)) C d16_17 rfl rfl ?_
    refine w_istoreN (pc' := 19) (Ls' := #[.val (.int ((x ^^^ (-1 : Int32)) &&& (x - (1 : Int32)))), .val (.int (1 : Int32))]) C d16_18 rfl rfl ?_
    refine w_iloadN (pc' := 20) C d16_19 rfl rfl ?_
    refine w_ldcwI (pc' := 23) C (tw hw 50 rfl) d16_20 rfl ?_
    refine w_icmp_le (pcT := 34) (pcF := 26) C d16_23 (by decide) (by decide) rfl (fun q23 => ?_) (fun q23 => ?_)
    · have hr := hr.trans (if_neg q23)
      exact K34 ((x ^^^ (-1 : Int32)) &&& (x - (1 : Int32))) (1 : Int32) hr
    · have hr := hr.trans (if_pos q23)
      refine w_iincE (pc' := 29) (z := (17 : Int32)) (Ls' := #[.val (.int ((x ^^^ (-1 : Int32)) &&& (x - (1 : Int32)))), .val (.int (17 : Int32))]) C d16_26 rfl (by decide) rfl rfl ?_
      refine w_iloadN (pc' := 30) C d16_29 rfl rfl ?_
      refine w_bipush (pc' := 32) (x := (16 : Int32)) C d16_30 rfl rfl ?_
      refine w_iushr (pc' := 33) C d16_32 rfl ?_
      refine w_istoreN (pc' := 34) (Ls' := #[.val (.int ((((x ^^^ (-1 : Int32)) &&& (x - (1 : Int32))).toUInt32 >>> ((16 : Int32) &&& 31).toUInt32).toInt32)), .val (.int (17 : Int32))]) C d16_33 rfl rfl ?_
      exact K34 ((((x ^^^ (-1 : Int32)) &&& (x - (1 : Int32))).toUInt32 >>> ((16 : Int32) &&& 31).toUInt32).toInt32) (17 : Int32) hr
  · have hr := hr.trans (if_neg q9)
    refine w_iloadN (pc' := 13) C d16_12 rfl rfl ?_
    refine w_bipush (pc' := 15) (x := (32 : Int32)) C d16_13 rfl rfl ?_
    refine w_iand (pc' := 16) C d16_15 rfl ?_
    refine w_retI C rfl d16_16 (by decide) (by decide) ?_
    exact And.intro (congrArg (fun z => some (Value.int z)) hr.symm) rfl
theorem d15_0 : decode jdk_35_method_49_code 0 = .ok (.lload_n 0, 1) := by decide +kernel
theorem d15_1 : decode jdk_35_method_49_code 1 = .ok (.l2i, 1) := by decide +kernel
theorem d15_2 : decode jdk_35_method_49_code 2 = .ok (.istore_n 2, 1) := by decide +kernel
theorem d15_3 : decode jdk_35_method_49_code 3 = .ok (.iload_n 2, 1) := by decide +kernel
theorem d15_4 : decode jdk_35_method_49_code 4 = .ok (.ifCond .ne 17, 3) := by decide +kernel
theorem d15_7 : decode jdk_35_method_49_code 7 = .ok (.bipush 32, 2) := by decide +kernel
theorem d15_9 : decode jdk_35_method_49_code 9 = .ok (.lload_n 0, 1) := by decide +kernel
theorem d15_10 : decode jdk_35_method_49_code 10 = .ok (.bipush 32, 2) := by decide +kernel
theorem d15_12 : decode jdk_35_method_49_code 12 = .ok (.lushr, 1) := by decide +kernel
theorem d15_13 : decode jdk_35_method_49_code 13 = .ok (.l2i, 1) := by decide +kernel
theorem d15_14 : decode jdk_35_method_49_code 14 = .ok (.invokestatic 311, 3) := by decide +kernel
theorem d15_17 : decode jdk_35_method_49_code 17 = .ok (.iadd, 1) := by decide +kernel
theorem d15_18 : decode jdk_35_method_49_code 18 = .ok (.goto 7, 3) := by decide +kernel
theorem d15_21 : decode jdk_35_method_49_code 21 = .ok (.iload_n 2, 1) := by decide +kernel
theorem d15_22 : decode jdk_35_method_49_code 22 = .ok (.invokestatic 311, 3) := by decide +kernel
theorem d15_25 : decode jdk_35_method_49_code 25 = .ok (.ireturn, 1) := by decide +kernel
def ntz64 (x : Int64) : Int32 := (if (x.toInt32) = 0 then ((32 : Int32) + (ntz32 (((x.toUInt64 >>> ((32 : Int32) &&& 0x3f).toInt64.toUInt64).toInt64).toInt32))) else (ntz32 (x.toInt32)))
def rm_ntz64 : Room := { frames := 1, cells := 0, slots := 0, locals := 14 }
def Q_ntz64 (x : Int64) (h0 : Heap) (v : Option Value) (h : Heap) : Prop := v = some (.int (ntz64 x)) ∧ h = h0
theorem pf_ntz64 : plainFor (⟨"java/lang/Long", "numberOfTrailingZeros", "(J)I"⟩ : MethodName) = true := plainFor_of_name (by first | (simp [plainName, overriddenIn]; done) | decide +kernel)
set_option maxRecDepth 65536 in
set_option maxHeartbeats 40000000 in
theorem ct_ntz64 {l : Launch} {Z : State} {a0 : Array Value} (hw : ∀ d ∈ tables_1, d.before a0 Z = true) (h0 : Heap) (n0 : Nat) (x : Int64)  :
    Ct l Z (⟨"java/lang/Long", "numberOfTrailingZeros", "(J)I"⟩ : MethodName) jdk_35_method_49_code 3 (Option.some Jvm.ClassFile.FieldType.int) [] rm_ntz64 #[.long x] h0 n0 (Q_ntz64 x h0) := by
  refine Ct.of (Ls := #[.val (.long x), .second, .unset]) pf_ntz64 (fun m => by first | (simp [entryFrame, mkF, argsToLocals, Value.category, maxLocals]; done) | rfl) ?_
  intro p e s m below meth c C
  have hr : ntz64 x = (if (x.toInt32) = 0 then ((32 : Int32) + (ntz32 (((x.toUInt64 >>> ((32 : Int32) &&& 0x3f).toInt64.toUInt64).toInt64).toInt32))) else (ntz32 (x.toInt32))) := rfl
  refine w_lloadN (pc' := 1) C d15_0 rfl rfl ?_
  refine w_l2i (pc' := 2) C d15_1 rfl ?_
  refine w_istoreN (pc' := 3) (Ls' := #[.val (.long x), .second, .val (.int (x.toInt32))]) C d15_2 rfl rfl ?_
  refine w_iloadN (pc' := 4) C d15_3 rfl rfl ?_
  refine w_if_ne (pcT := 21) (pcF := 7) C d15_4 (by decide) (by decide) rfl (fun q4 => ?_) (fun q4 => ?_)
  · have hr := hr.trans (if_neg q4)
    refine w_iloadN (pc' := 22) C d15_21 rfl rfl ?_
    refine w_callS (pc' := 25) (argsL := [.int (x.toInt32)]) (st := []) (W := 0) (ce' := 0) (sl' := 0) C (tw hw 78 rfl) (tw hw 79 rfl) (tw hw 48 rfl) (tw hw 80 rfl) (by decide) d15_22 rfl rfl (by decide) (by decide) (Nat.le_of_eq rfl) rfl rfl (by decide) (by decide) rfl (lenOf pd_1 rfl) (ct_ntz32 hw h0 n0 (x.toInt32)) (kp ?_)
    refine w_retI C rfl d15_25 (by decide) (by decide) ?_
    exact And.intro (congrArg (fun z => some (Value.int z)) hr.symm) rfl
  · have hr := hr.trans (if_pos q4)
    refine w_bipush (pc' := 9) (x := (32 : Int32)) C d15_7 rfl rfl ?_
    refine w_lloadN (pc' := 10) C d15_9 rfl rfl ?_
    refine w_bipush (pc' := 12) (x := (32 : Int32)) C d15_10 rfl rfl ?_
    refine w_lushr (pc' := 13) C d15_12 rfl ?_
    refine w_l2i (pc' := 14) C d15_13 rfl ?_
    refine w_callS (pc' := 17) (argsL := [.int (((x.toUInt64 >>> ((32 : Int32) &&& 0x3f).toInt64.toUInt64).toInt64).toInt32)]) (st := [.int (32 : Int32)]) (W := 1) (ce' := 0) (sl' := 0) C (tw hw 78 rfl) (tw hw 79 rfl) (tw hw 48 rfl) (tw hw 80 rfl) (by decide) d15_14 rfl rfl (by decide) (by decide) (Nat.le_of_eq rfl) rfl rfl (by decide) (by decide) rfl (lenOf pd_1 rfl) (ct_ntz32 hw h0 n0 (((x.toUInt64 >>> ((32 : Int32) &&& 0x3f).toInt64.toUInt64).toInt64).toInt32)) (kp ?_)
    refine w_iadd (pc' := 18) C d15_17 rfl ?_
    refine w_goto (pc' := 25) C d15_18 (by decide) (by decide) ?_
    refine w_retI C rfl d15_25 (by decide) (by decide) ?_
    exact And.intro (congrArg (fun z => some (Value.int z)) hr.symm) rfl
theorem d13_0 : decode method_2_code 0 = .ok (.iload_n 0, 1) := by decide +kernel
theorem d13_1 : decode method_2_code 1 = .ok (.iload_n 1, 1) := by decide +kernel
theorem d13_2 : decode method_2_code 2 = .ok (.if_icmp .eq 18, 3) := by decide +kernel
theorem d13_5 : decode method_2_code 5 = .ok (.iload_n 0, 1) := by decide +kernel
theorem d13_6 : decode method_2_code 6 = .ok (.iload_n 2, 1) := by decide +kernel
theorem d13_7 : decode method_2_code 7 = .ok (.if_icmp .eq 13, 3) := by decide +kernel
theorem d13_10 : decode method_2_code 10 = .ok (.iload 4, 2) := by decide +kernel
theorem d13_12 : decode method_2_code 12 = .ok (.ifCond .eq 12, 3) := by decide +kernel
theorem d13_15 : decode method_2_code 15 = .ok (.iload_n 0, 1) := by decide +kernel
theorem d13_16 : decode method_2_code 16 = .ok (.iload_n 3, 1) := by decide +kernel
theorem d13_17 : decode method_2_code 17 = .ok (.if_icmp .ne 7, 3) := by decide +kernel
theorem d13_20 : decode method_2_code 20 = .ok (.iconst 1, 1) := by decide +kernel
theorem d13_21 : decode method_2_code 21 = .ok (.goto 4, 3) := by decide +kernel
theorem d13_24 : decode method_2_code 24 = .ok (.iconst 0, 1) := by decide +kernel
theorem d13_25 : decode method_2_code 25 = .ok (.ireturn, 1) := by decide +kernel
def inD_24 (z0 : Int32) (z1 : Int32) (z2 : Int32) (z3 : Int32) (z4 : Int32) : Int32 := (0 : Int32)
def inD_20 (z0 : Int32) (z1 : Int32) (z2 : Int32) (z3 : Int32) (z4 : Int32) : Int32 := (1 : Int32)
def inD (z0 : Int32) (z1 : Int32) (z2 : Int32) (z3 : Int32) (z4 : Int32) : Int32 := (if z0 = z1 then (inD_20 z0 z1 z2 z3 z4) else (if z0 = z2 then (inD_20 z0 z1 z2 z3 z4) else (if z4 = 0 then (inD_24 z0 z1 z2 z3 z4) else (if z0 = z3 then (inD_20 z0 z1 z2 z3 z4) else (inD_24 z0 z1 z2 z3 z4)))))
def rm_inD : Room := { frames := 0, cells := 0, slots := 0, locals := 0 }
def Q_inD (z0 : Int32) (z1 : Int32) (z2 : Int32) (z3 : Int32) (z4 : Int32) (h0 : Heap) (v : Option Value) (h : Heap) : Prop := v = some (.int (inD z0 z1 z2 z3 z4)) ∧ h = h0
theorem pf_inD : plainFor (⟨"com/example/rowan/rowan/policy/EntitySetEntityAtPinLaw", "inD", "(IIIIZ)Z"⟩ : MethodName) = true := plainFor_of_name (by first | (simp [plainName, overriddenIn]; done) | decide +kernel)
set_option maxRecDepth 65536 in
set_option maxHeartbeats 40000000 in
theorem ct_inD {l : Launch} {Z : State} {a0 : Array Value} (hw : ∀ d ∈ tables_1, d.before a0 Z = true) (h0 : Heap) (n0 : Nat) (z0 : Int32) (z1 : Int32) (z2 : Int32) (z3 : Int32) (z4 : Int32)  :
    Ct l Z (⟨"com/example/rowan/rowan/policy/EntitySetEntityAtPinLaw", "inD", "(IIIIZ)Z"⟩ : MethodName) method_2_code 5 (Option.some Jvm.ClassFile.FieldType.boolean) [] rm_inD #[.int z0, .int z1, .int z2, .int z3, .int z4] h0 n0 (Q_inD z0 z1 z2 z3 z4 h0) := by
  refine Ct.of (Ls := #[.val (.int z0), .val (.int z1), .val (.int z2), .val (.int z3), .val (.int z4)]) pf_inD (fun m => by first | (simp [entryFrame, mkF, argsToLocals, Value.category, maxLocals]; done) | rfl) ?_
  intro p e s m below meth c C
  have K24 : inD z0 z1 z2 z3 z4 = inD_24 z0 z1 z2 z3 z4 → Wp p l e rm_inD s m #[.int z0, .int z1, .int z2, .int z3, .int z4] below meth c n0 rm_inD.cells rm_inD.slots (Q_inD z0 z1 z2 z3 z4 h0) h0 0 0 (mkF m 24 #[.val (.int z0), .val (.int z1), .val (.int z2), .val (.int z3), .val (.int z4)] []) := by
    intro hr
    change _ = (0 : Int32) at hr
    refine w_iconst (pc' := 25) (x := (0 : Int32)) C d13_24 rfl rfl ?_
    refine w_retN' (t := .boolean) (z' := (0 : Int32)) C rfl (by simp) d13_25 (by decide) (by decide) narB0 ?_
    exact And.intro (congrArg (fun z => some (Value.int z)) hr.symm) rfl
  have K20 : inD z0 z1 z2 z3 z4 = inD_20 z0 z1 z2 z3 z4 → Wp p l e rm_inD s m #[.int z0, .int z1, .int z2, .int z3, .int z4] below meth c n0 rm_inD.cells rm_inD.slots (Q_inD z0 z1 z2 z3 z4 h0) h0 0 0 (mkF m 20 #[.val (.int z0), .val (.int z1), .val (.int z2), .val (.int z3), .val (.int z4)] []) := by
    intro hr
    change _ = (1 : Int32) at hr
    refine w_iconst (pc' := 21) (x := (1 : Int32)) C d13_20 rfl rfl ?_
    refine w_goto (pc' := 25) C d13_21 (by decide) (by decide) ?_
    refine w_retN' (t := .boolean) (z' := (1 : Int32)) C rfl (by simp) d13_25 (by decide) (by decide) narB1 ?_
    exact And.intro (congrArg (fun z => some (Value.int z)) hr.symm) rfl
  have hr : inD z0 z1 z2 z3 z4 = (if z0 = z1 then (inD_20 z0 z1 z2 z3 z4) else (if z0 = z2 then (inD_20 z0 z1 z2 z3 z4) else (if z4 = 0 then (inD_24 z0 z1 z2 z3 z4) else (if z0 = z3 then (inD_20 z0 z1 z2 z3 z4) else (inD_24 z0 z1 z2 z3 z4))))) := rfl
  refine w_iloadN (pc' := 1) C d13_0 rfl rfl ?_
  refine w_iloadN (pc' := 2) C d13_1 rfl rfl ?_
  refine w_icmp_eq (pcT := 20) (pcF := 5) C d13_2 (by decide) (by decide) rfl (fun q2 => ?_) (fun q2 => ?_)
  · have hr := hr.trans (if_pos q2)
    exact K20 hr
  · have hr := hr.trans (if_neg q2)
    refine w_iloadN (pc' := 6) C d13_5 rfl rfl ?_
    refine w_iloadN (pc' := 7) C d13_6 rfl rfl ?_
    refine w_icmp_eq (pcT := 20) (pcF := 10) C d13_7 (by decide) (by decide) rfl (fun q7 => ?_) (fun q7 => ?_)
    · have hr := hr.trans (if_pos q7)
      exact K20 hr
    · have hr := hr.trans (if_neg q7)
      refine w_iload (pc' := 12) C d13_10 rfl rfl ?_
      refine w_if_eq (pcT := 24) (pcF := 15) C d13_12 (by decide) (by decide) rfl (fun q12 => ?_) (fun q12 => ?_)
      · have hr := hr.trans (if_pos q12)
        exact K24 hr
      · have hr := hr.trans (if_neg q12)
        refine w_iloadN (pc' := 16) C d13_15 rfl rfl ?_
        refine w_iloadN (pc' := 17) C d13_16 rfl rfl ?_
        refine w_icmp_ne (pcT := 24) (pcF := 20) C d13_17 (by decide) (by decide) rfl (fun q17 => ?_) (fun q17 => ?_)
        · have hr := hr.trans (if_neg q17)
          exact K24 hr
        · have hr := hr.trans (if_pos q17)
          exact K20 hr
theorem bv64 {x y : Int64} (h : x.toBitVec = y.toBitVec) : x = y := Int64.toBitVec_inj.mp h
theorem bv32 {x y : Int32} (h : x.toBitVec = y.toBitVec) : x = y := Int32.toBitVec_inj.mp h
/-! the slots: ints, -1 is empty -/
def vat (V : List Int32) (j : Nat) : Int32 := V.getD j (-1)
theorem vat_get {V : List Int32} {j : Nat} (h : j < V.length) : V[j]? = some (vat V j) := by
  unfold vat; rw [List.getD_eq_getElem?_getD]; simp [h]
theorem vat_set_ne (V : List Int32) {i j : Nat} (x : Int32) (h : i ≠ j) : vat (V.set i x) j = vat V j := by
  unfold vat; rw [List.getD_eq_getElem?_getD, List.getD_eq_getElem?_getD, List.getElem?_set_ne h]
theorem vat_set_eq (V : List Int32) {i : Nat} (x : Int32) (h : i < V.length) : vat (V.set i x) i = x := by
  unfold vat; rw [List.getD_eq_getElem?_getD, List.getElem?_set_self h]; rfl
def ents (V : List Int32) : List Int32 := V.filter (fun x => decide (x ≠ -1))
theorem ents_nil : ents [] = [] := rfl
theorem ents_cons (x : Int32) (V : List Int32) : ents (x :: V) = if x = -1 then ents V else x :: ents V := by
  unfold ents; by_cases h : x = -1 <;> simp [h]
theorem ents_app (V U : List Int32) : ents (V ++ U) = ents V ++ ents U := by unfold ents; rw [List.filter_append]
theorem ents_zero {V : List Int32} (h : (ents V).length < V.length) : ∃ j, j < V.length ∧ vat V j = -1 := by
  induction V with
  | nil => exact absurd h (Nat.not_lt_zero _)
  | cons x V ih =>
    rw [ents_cons] at h
    by_cases hx : x = -1
    · exact ⟨0, by simp, by simp [vat, hx]⟩
    · simp [hx] at h
      obtain ⟨j, h1, h2⟩ := ih h
      exact ⟨j + 1, by simp; omega, by simpa [vat] using h2⟩
theorem ents_mem {V : List Int32} {r : Int32} : r ∈ ents V ↔ ∃ j, j < V.length ∧ vat V j = r ∧ r ≠ -1 := by
  unfold ents
  rw [List.mem_filter]
  constructor
  · rintro ⟨h1, h2⟩
    obtain ⟨j, h3, h4⟩ := List.mem_iff_getElem.mp h1
    exact ⟨j, h3, by have := vat_get h3; rw [List.getElem?_eq_getElem h3] at this; rw [← h4]; exact (Option.some.inj this).symm, by simpa using h2⟩
  · rintro ⟨j, h1, h2, h3⟩
    exact ⟨List.mem_of_getElem? (by rw [vat_get h1, h2]), by simpa using h3⟩
theorem ents_ins {V : List Int32} {j : Nat} {x : Int32} (h : j < V.length) (h0 : vat V j = -1) (hx : x ≠ -1) : (ents (V.set j x)).Perm (x :: ents V) := by
  induction V generalizing j with
  | nil => exact absurd h (Nat.not_lt_zero _)
  | cons y V ih =>
    cases j with
    | zero =>
      have hy : y = -1 := h0
      rw [List.set_cons_zero, ents_cons, ents_cons, if_neg hx, if_pos hy]
    | succ j =>
      have := ih (j := j) (by simpa using h) h0
      rw [List.set_cons_succ, ents_cons, ents_cons]
      by_cases hy : y = -1
      · rw [if_pos hy, if_pos hy]; exact this
      · rw [if_neg hy, if_neg hy]
        exact (List.Perm.cons _ this).trans (List.Perm.swap _ _ _)
theorem ents_inj {V : List Int32} (nd : (ents V).Nodup) {i j : Nat} (hi : i < V.length) (hj : j < V.length) (h0 : vat V i ≠ -1) (e : vat V i = vat V j) : i = j := by
  induction V generalizing i j with
  | nil => exact absurd hi (Nat.not_lt_zero _)
  | cons y V ih =>
    rw [ents_cons] at nd
    cases i with
    | zero =>
      cases j with
      | zero => rfl
      | succ j =>
        have hy : y ≠ -1 := h0
        have e' : y = vat V j := e
        rw [if_neg hy] at nd
        exact absurd (ents_mem.mpr ⟨j, by simpa using hj, e'.symm, hy⟩) (List.nodup_cons.mp nd).1
    | succ i =>
      cases j with
      | zero =>
        have e' : vat V i = y := e
        have hy : y ≠ -1 := by rw [← e']; exact h0
        rw [if_neg hy] at nd
        exact absurd (ents_mem.mpr ⟨i, by simpa using hi, e', hy⟩) (List.nodup_cons.mp nd).1
      | succ j =>
        have nd' : (ents V).Nodup := by
          by_cases hy : y = -1
          · rw [if_pos hy] at nd; exact nd
          · rw [if_neg hy] at nd; exact (List.nodup_cons.mp nd).2
        rw [ih nd' (by simpa using hi) (by simpa using hj) h0 e]
def hm (r sh : Int32) : Nat := ((r * (-1640531527 : Int32)).toUInt32 >>> (sh &&& 31).toUInt32).toNat
def Sz (N : Nat) (sh : Int32) : Prop := (N = 2 ∧ sh = 31) ∨ (N = 4 ∧ sh = 30) ∨ (N = 8 ∧ sh = 29)
theorem hm_lt {N : Nat} {sh : Int32} (r : Int32) (S : Sz N sh) : hm r sh < N := by
  have h := (r * (-1640531527 : Int32)).toUInt32.toNat_lt
  unfold hm
  rw [UInt32.toNat_shiftRight, Nat.shiftRight_eq_div_pow]
  rcases S with ⟨rfl, rfl⟩ | ⟨rfl, rfl⟩ | ⟨rfl, rfl⟩ <;>
    (generalize (r * (-1640531527 : Int32)).toUInt32.toNat = z at *; simp only [show ((31 &&& 31 : Int32).toUInt32.toNat % 32) = 31 from rfl, show ((30 &&& 31 : Int32).toUInt32.toNat % 32) = 30 from rfl, show ((29 &&& 31 : Int32).toUInt32.toNat % 32) = 29 from rfl]; omega)
theorem hm_int (r sh : Int32) : ((r * (-1640531527 : Int32)).toUInt32 >>> (sh &&& 31).toUInt32).toInt32 = Int32.ofNat (hm r sh) := by
  unfold hm
  generalize (r * (-1640531527 : Int32)).toUInt32 >>> (sh &&& 31).toUInt32 = z
  apply bv32
  show z.toBitVec = BitVec.ofNat 32 z.toNat
  simp
theorem Sz.pos {N : Nat} {sh : Int32} (S : Sz N sh) : 0 < N ∧ N ≤ 8 := by rcases S with ⟨rfl, -⟩ | ⟨rfl, -⟩ | ⟨rfl, -⟩ <;> decide
theorem st2 : ∀ k : Fin 2, (Int32.ofNat k.1 + (1 : Int32)) &&& (Int32.ofNat 2 - (1 : Int32)) = Int32.ofNat ((k.1 + 1) % 2) := by decide
theorem st4 : ∀ k : Fin 4, (Int32.ofNat k.1 + (1 : Int32)) &&& (Int32.ofNat 4 - (1 : Int32)) = Int32.ofNat ((k.1 + 1) % 4) := by decide
theorem st8 : ∀ k : Fin 8, (Int32.ofNat k.1 + (1 : Int32)) &&& (Int32.ofNat 8 - (1 : Int32)) = Int32.ofNat ((k.1 + 1) % 8) := by decide
theorem Sz.step {N k : Nat} {sh : Int32} (S : Sz N sh) (h : k < N) : (Int32.ofNat k + (1 : Int32)) &&& (Int32.ofNat N - (1 : Int32)) = Int32.ofNat ((k + 1) % N) := by
  rcases S with ⟨rfl, -⟩ | ⟨rfl, -⟩ | ⟨rfl, -⟩
  · exact st2 ⟨k, h⟩
  · exact st4 ⟨k, h⟩
  · exact st8 ⟨k, h⟩
def InvS (N : Nat) (sh : Int32) (V : List Int32) : Prop :=
  Sz N sh ∧ V.length = N ∧ (∀ r ∈ ents V, ∃ d, vat V ((hm r sh + d) % N) = r ∧ ∀ d' < d, vat V ((hm r sh + d') % N) ≠ -1) ∧ (ents V).Nodup
theorem InvS.sz {N : Nat} {sh : Int32} {V : List Int32} (I : InvS N sh V) : Sz N sh := I.1
theorem InvS.len {N : Nat} {sh : Int32} {V : List Int32} (I : InvS N sh V) : V.length = N := I.2.1
theorem InvS.has {N : Nat} {sh : Int32} {V : List Int32} (I : InvS N sh V) : ∀ r ∈ ents V, ∃ d, vat V ((hm r sh + d) % N) = r ∧ ∀ d' < d, vat V ((hm r sh + d') % N) ≠ -1 := I.2.2.1
theorem InvS.nd {N : Nat} {sh : Int32} {V : List Int32} (I : InvS N sh V) : (ents V).Nodup := I.2.2.2
/-- the probe stands at k -/
def Prb (N : Nat) (sh r : Int32) (V : List Int32) (n k : Nat) : Prop :=
  ∃ d, k = (hm r sh + d) % N ∧ vat V ((hm r sh + (d + n)) % N) = -1 ∧ ∀ d' < d, vat V ((hm r sh + d') % N) ≠ -1 ∧ vat V ((hm r sh + d') % N) ≠ r
theorem Prb.start {N : Nat} {sh r : Int32} {V : List Int32} (I : InvS N sh V) (h : (ents V).length < N) : ∃ n, Prb N sh r V n (hm r sh) := by
  obtain ⟨j, h1, h2⟩ := ents_zero (V := V) (by rw [I.len]; exact h)
  rw [I.len] at h1
  have hh := hm_lt r I.sz
  refine ⟨if hm r sh ≤ j then j - hm r sh else j + N - hm r sh, 0, (Nat.mod_eq_of_lt hh).symm, ?_, fun d q => absurd q (Nat.not_lt_zero _)⟩
  have e : (hm r sh + (0 + if hm r sh ≤ j then j - hm r sh else j + N - hm r sh)) % N = j := by
    split
    · rw [show hm r sh + (0 + (j - hm r sh)) = j by omega]; exact Nat.mod_eq_of_lt h1
    · rw [show hm r sh + (0 + (j + N - hm r sh)) = j + N by omega, Nat.add_mod_right]; exact Nat.mod_eq_of_lt h1
  rw [e]; exact h2
theorem Prb.lt {N n k : Nat} {sh r : Int32} {V : List Int32} (P : Prb N sh r V n k) (S : Sz N sh) : k < N := by
  obtain ⟨d, rfl, -⟩ := P; exact Nat.mod_lt _ S.pos.1
theorem Prb.next {N n k : Nat} {sh r : Int32} {V : List Int32} (P : Prb N sh r V n k) (h0 : vat V k ≠ -1) (h1 : vat V k ≠ r) : ∃ n', n = n' + 1 ∧ Prb N sh r V n' ((k + 1) % N) := by
  obtain ⟨d, rfl, h2, h3⟩ := P
  cases n with
  | zero => exact absurd h2 h0
  | succ n' =>
    refine ⟨n', rfl, d + 1, by rw [Nat.mod_add_mod, Nat.add_assoc], by rw [← h2]; congr 2; omega, fun d' q => ?_⟩
    by_cases z : d' = d
    · subst z; exact ⟨h0, h1⟩
    · exact h3 d' (by omega)
/-- where slotOf ends -/
def Fnd (N : Nat) (sh r : Int32) (V : List Int32) (k : Nat) : Prop := k < N ∧ (vat V k = r ∨ (vat V k = -1 ∧ ∃ n, Prb N sh r V n k))
theorem Fnd.mem {N k : Nat} {sh r : Int32} {V : List Int32} (I : InvS N sh V) (F : Fnd N sh r V k) (h : vat V k = r) (hr : r ≠ -1) : r ∈ ents V :=
  ents_mem.mpr ⟨k, by rw [I.len]; exact F.1, h, hr⟩
theorem Fnd.ins {N k : Nat} {sh r : Int32} {V : List Int32} (I : InvS N sh V) (F : Fnd N sh r V k) (h : vat V k ≠ r) (hr : r ≠ -1) :
    InvS N sh (V.set k r) ∧ r ∉ ents V ∧ (ents (V.set k r)).Perm (r :: ents V) := by
  obtain ⟨hk, F⟩ := F
  rcases F with F | ⟨h0, n, d, rfl, h2, h3⟩
  · exact absurd F h
  have hl : (hm r sh + d) % N < V.length := by rw [I.len]; exact hk
  have pm := ents_ins (x := r) hl h0 hr
  have ni : r ∉ ents V := fun q => by
    obtain ⟨d0, g1, g2⟩ := I.has r q
    rcases Nat.lt_trichotomy d d0 with y | y | y
    · exact g2 d y h0
    · subst y; rw [h0] at g1; exact hr g1.symm
    · exact (h3 d0 y).2 g1
  have z : ∀ j, vat V j ≠ -1 → vat (V.set ((hm r sh + d) % N) r) j = vat V j := fun j q => vat_set_ne _ _ (fun y => q (by rw [← y]; exact h0))
  refine ⟨⟨I.sz, by rw [List.length_set]; exact I.len, fun r' q => ?_, pm.nodup_iff.mpr (List.nodup_cons.mpr ⟨ni, I.nd⟩)⟩, ni, pm⟩
  rcases List.mem_cons.mp (pm.mem_iff.mp q) with rfl | q
  · refine ⟨d, vat_set_eq _ _ hl, fun d' g => ?_⟩
    rw [z _ (h3 d' g).1]; exact (h3 d' g).1
  · obtain ⟨d0, g1, g2⟩ := I.has r' q
    have hr' : vat V ((hm r' sh + d0) % N) ≠ -1 := fun y => by
      rw [y] at g1
      obtain ⟨j, j1, j2, j3⟩ := ents_mem.mp q
      exact j3 g1.symm
    refine ⟨d0, by rw [z _ hr']; exact g1, fun d' g => ?_⟩
    rw [z _ (g2 d' g)]; exact g2 d' g
theorem ents_rep (N : Nat) : ents (List.replicate N (-1)) = [] := by
  induction N with
  | zero => rfl
  | succ N ih => rw [List.replicate_succ, ents_cons, if_pos rfl, ih]
theorem InvS.zero {N : Nat} {sh : Int32} (S : Sz N sh) : InvS N sh (List.replicate N (-1)) := by
  refine ⟨S, List.length_replicate, ?_, ?_⟩
  · rw [ents_rep]; intro r q; cases q
  · rw [ents_rep]; exact List.nodup_nil
theorem takeV {V : List Int32} {i : Nat} (h : i < V.length) : V.take (i + 1) = V.take i ++ [vat V i] := by
  rw [List.take_add_one, vat_get h]; rfl
theorem ents_take_zero {V : List Int32} {i : Nat} (h : i < V.length) (h0 : vat V i = -1) : ents (V.take (i + 1)) = ents (V.take i) := by
  rw [takeV h, ents_app, h0, ents_cons, if_pos rfl, ents_nil, List.append_nil]
theorem ents_take_ne {V : List Int32} {i : Nat} (h : i < V.length) (h0 : vat V i ≠ -1) : ents (V.take (i + 1)) = ents (V.take i) ++ [vat V i] := by
  rw [takeV h, ents_app, ents_cons, if_neg h0, ents_nil]
theorem ents_split (V : List Int32) (i : Nat) : ents V = ents (V.take i) ++ ents (V.drop i) := by rw [← ents_app, List.take_append_drop]
/-! the words -/
def wat (W : List Int64) (j : Nat) : Int64 := W.getD j 0
theorem wat_get {W : List Int64} {j : Nat} (h : j < W.length) : W[j]? = some (wat W j) := by
  unfold wat; rw [List.getD_eq_getElem?_getD]; simp [h]
theorem wat_set_ne (W : List Int64) {i j : Nat} (x : Int64) (h : i ≠ j) : wat (W.set i x) j = wat W j := by
  unfold wat; rw [List.getD_eq_getElem?_getD, List.getD_eq_getElem?_getD, List.getElem?_set_ne h]
theorem wat_set_eq (W : List Int64) {i : Nat} (x : Int64) (h : i < W.length) : wat (W.set i x) i = x := by
  unfold wat; rw [List.getD_eq_getElem?_getD, List.getElem?_set_self h]; rfl
def bitL (x : Int64) (i : Nat) : Bool := x.toBitVec.getLsbD i
def bit (W : List Int64) (q : Nat) : Bool := bitL (wat W (q / 64)) (q % 64)
def shN (e : Int32) : Int64 := (e &&& 0x3f).toInt64
def one (e : Nat) : Int64 := (1 : Int64) <<< ((Int32.ofNat e) &&& 0x3f).toInt64
def mone (e : Nat) : Int64 := (-1 : Int64) <<< ((Int32.ofNat e) &&& 0x3f).toInt64
theorem sh_mod : ∀ e : Fin 512, ((Int32.ofNat e.1) &&& 0x3f).toInt64 = Int64.ofNat (e.1 % 64) := by decide +kernel
theorem one_bv : ∀ k : Fin 64, ((1 : Int64) <<< Int64.ofNat k.1).toBitVec = 1#64 <<< k.1 := by decide +kernel
theorem mone_bv : ∀ k : Fin 64, ((-1 : Int64) <<< Int64.ofNat k.1).toBitVec = BitVec.allOnes 64 <<< k.1 := by decide +kernel
theorem one_bit {e : Nat} (h : e < 512) (i : Nat) : bitL (one e) i = decide (i = e % 64) := by
  unfold bitL one
  rw [sh_mod ⟨e, h⟩, one_bv ⟨e % 64, Nat.mod_lt _ (by decide)⟩, BitVec.getLsbD_shiftLeft]
  have : e % 64 < 64 := Nat.mod_lt _ (by decide)
  by_cases g : i = e % 64
  · subst g; simp [this]
  · simp only [g, decide_false]
    by_cases g2 : i < e % 64
    · simp [g2]
    · rw [BitVec.getLsbD_one]
      have : ¬ i - e % 64 = 0 := by omega
      simp [this]
theorem mone_bit {e : Nat} (h : e < 512) {i : Nat} (hi : i < 64) : bitL (mone e) i = decide (e % 64 ≤ i) := by
  unfold bitL mone
  rw [sh_mod ⟨e, h⟩, mone_bv ⟨e % 64, Nat.mod_lt _ (by decide)⟩, BitVec.getLsbD_shiftLeft, BitVec.getLsbD_allOnes]
  by_cases g : e % 64 ≤ i
  · have h1 : ¬ i < e % 64 := by omega
    have h2 : i - e % 64 < 64 := by omega
    simp [hi, g, h1, h2]
  · have h1 : i < e % 64 := by omega
    simp [hi, g, h1]
theorem bit_and (x y : Int64) (i : Nat) : bitL (x &&& y) i = (bitL x i && bitL y i) := by
  unfold bitL; show (x.toBitVec &&& y.toBitVec).getLsbD i = _; rw [BitVec.getLsbD_and]
theorem bit_or (x y : Int64) (i : Nat) : bitL (x ||| y) i = (bitL x i || bitL y i) := by
  unfold bitL; show (x.toBitVec ||| y.toBitVec).getLsbD i = _; rw [BitVec.getLsbD_or]
theorem bit_zero (i : Nat) : bitL 0 i = false := by unfold bitL; exact BitVec.getLsbD_zero
theorem zero_of_bits {x : Int64} (h : ∀ i, i < 64 → bitL x i = false) : x = 0 := by
  apply bv64; apply BitVec.eq_of_getLsbD_eq; intro i hi; rw [show x.toBitVec.getLsbD i = false from h i hi]; exact BitVec.getLsbD_zero.symm
def setb (W : List Int64) (e : Nat) : List Int64 := W.set (e / 64) (wat W (e / 64) ||| one e)
theorem bit_setb {W : List Int64} {e : Nat} (he : e < 512) (hl : e / 64 < W.length) (q : Nat) : bit (setb W e) q = (bit W q || decide (q = e)) := by
  unfold bit setb
  by_cases g : e / 64 = q / 64
  · rw [← g, wat_set_eq _ _ hl, bit_or, one_bit he]
    congr 1
    apply decide_eq_decide.mpr
    omega
  · rw [wat_set_ne _ _ g]
    have : q ≠ e := fun z => g (by rw [z])
    simp [this]
theorem bit_test {W : List Int64} {e : Nat} (he : e < 512) : (wat W (e / 64) &&& one e = 0) ↔ bit W e = false := by
  constructor
  · intro h
    have := bit_and (wat W (e / 64)) (one e) (e % 64)
    rw [h, bit_zero, one_bit he] at this
    simpa [bit] using this
  · intro h
    apply zero_of_bits
    intro i hi
    rw [bit_and, one_bit he]
    by_cases g : i = e % 64
    · subst g; simp only [bit] at h; rw [h]; rfl
    · simp [g]
def InvW (wc : Nat) (W : List Int64) (xs : List Int32) : Prop := W.length = wc ∧ ∀ q, q < 64 * wc → (bit W q = true ↔ Int32.ofNat q ∈ xs)
/-! the lowest set bit of an int -/
theorem low_bit {w : Nat} (x : BitVec w) (h : x ≠ 0#w) : ∃ t, t < w ∧ x.getLsbD t = true ∧ ∀ i, i < t → x.getLsbD i = false := by
  have ex : ∃ t, x.getLsbD t = true := by
    apply Classical.byContradiction
    intro q
    apply h
    apply BitVec.eq_of_getLsbD_eq
    intro i hi
    rw [BitVec.getLsbD_zero]
    cases g : x.getLsbD i
    · rfl
    · exact absurd ⟨i, g⟩ q
  obtain ⟨t, ht⟩ := ex
  induction t using Nat.strongRecOn with
  | _ t ih =>
    by_cases g : ∃ i, i < t ∧ x.getLsbD i = true
    · obtain ⟨i, g1, g2⟩ := g; exact ih i g1 g2
    · refine ⟨t, ?_, ht, fun i hi => ?_⟩
      · exact BitVec.lt_of_getLsbD ht
      · cases z : x.getLsbD i
        · rfl
        · exact absurd ⟨i, hi, z⟩ g
theorem low_form {w : Nat} {x : BitVec w} {t : Nat} (h1 : x.getLsbD t = true) (h2 : ∀ i, i < t → x.getLsbD i = false) : ∃ m, x.toNat = 2 ^ (t + 1) * m + 2 ^ t := by
  refine ⟨x.toNat / 2 ^ (t + 1), ?_⟩
  have e : x.toNat % 2 ^ (t + 1) = 2 ^ t := by
    apply Nat.eq_of_testBit_eq
    intro i
    rw [Nat.testBit_mod_two_pow, Nat.testBit_two_pow]
    by_cases g : i < t
    · have g2 : ¬ t = i := by omega
      rw [show x.toNat.testBit i = false from h2 i g]; simp [g2]
    · by_cases g2 : i = t
      · subst g2; rw [show x.toNat.testBit i = true from h1]; simp
      · have g3 : ¬ i < t + 1 := by omega
        have g4 : ¬ t = i := by omega
        simp [g3, g4]
  have := Nat.div_add_mod x.toNat (2 ^ (t + 1))
  omega
theorem low_mask {x : BitVec 32} {t : Nat} (ht : t < 32) (h1 : x.getLsbD t = true) (h2 : ∀ i, i < t → x.getLsbD i = false) : (x ^^^ BitVec.allOnes 32) &&& (x - 1#32) = BitVec.ofNat 32 (2 ^ t - 1) := by
  obtain ⟨m, hm⟩ := low_form h1 h2
  have p0 : 0 < 2 ^ t := Nat.pow_pos (by decide)
  have p1 : 2 ^ (t + 1) = 2 * 2 ^ t := by rw [Nat.pow_succ]; omega
  have hx : (x - 1#32).toNat = 2 ^ (t + 1) * m + (2 ^ t - 1) := by
    have := x.isLt
    rw [BitVec.toNat_sub]
    simp only [BitVec.toNat_ofNat]
    have : 2 ^ 32 - 1 % 2 ^ 32 + x.toNat = (2 ^ (t + 1) * m + (2 ^ t - 1)) + 2 ^ 32 := by omega
    rw [this, Nat.add_mod_right, Nat.mod_eq_of_lt (by omega)]
  apply BitVec.eq_of_getLsbD_eq
  intro i hi
  rw [BitVec.getLsbD_and, BitVec.getLsbD_xor, BitVec.getLsbD_allOnes]
  have a1 : x.getLsbD i = (if i < t + 1 then (2 ^ t).testBit i else m.testBit (i - (t + 1))) := by
    show x.toNat.testBit i = _
    rw [hm, Nat.testBit_two_pow_mul_add _ (by omega)]
  have a2 : (x - 1#32).getLsbD i = (if i < t + 1 then (2 ^ t - 1).testBit i else m.testBit (i - (t + 1))) := by
    show (x - 1#32).toNat.testBit i = _
    rw [hx, Nat.testBit_two_pow_mul_add _ (by omega)]
  have a3 : (BitVec.ofNat 32 (2 ^ t - 1)).getLsbD i = decide (i < t) := by
    show (BitVec.ofNat 32 (2 ^ t - 1)).toNat.testBit i = _
    rw [BitVec.toNat_ofNat, Nat.mod_eq_of_lt (Nat.lt_of_le_of_lt (Nat.sub_le _ _) (Nat.pow_lt_pow_right (by decide) ht)), Nat.testBit_two_pow_sub_one]
  rw [a1, a2, a3, Nat.testBit_two_pow, Nat.testBit_two_pow_sub_one]
  by_cases g : i < t
  · have g1 : i < t + 1 := by omega
    have g2 : ¬ t = i := by omega
    simp [g, g1, g2, hi]
  · by_cases g2 : i = t
    · subst g2; simp
    · have g1 : ¬ i < t + 1 := by omega
      have g3 : ¬ t = i := by omega
      simp [g, g1, hi]
theorem low_mask32 {x : Int32} {t : Nat} (ht : t < 32) (h1 : x.toBitVec.getLsbD t = true) (h2 : ∀ i, i < t → x.toBitVec.getLsbD i = false) : ((x ^^^ (-1 : Int32)) &&& (x - (1 : Int32))) = Int32.ofNat (2 ^ t - 1) :=
  bv32 (low_mask ht h1 h2)
def wcN (n : Nat) : Nat := (n + 63) / 64
theorem wc_q : ∀ n : Fin 257, wordCount (Int32.ofNat n.1) = Int32.ofNat (wcN n.1) ∧ mostSlots (Int32.ofNat n.1) = Int32.ofNat (2 * wcN n.1) := by decide +kernel
theorem wc_eq {n : Nat} (h : n ≤ 256) : wordCount (Int32.ofNat n) = Int32.ofNat (wcN n) := (wc_q ⟨n, by omega⟩).1
theorem ms_eq {n : Nat} (h : n ≤ 256) : mostSlots (Int32.ofNat n) = Int32.ofNat (2 * wcN n) := (wc_q ⟨n, by omega⟩).2
theorem toI {k : Nat} (h : k ≤ 600) : (Int32.ofNat k).toInt = k := Int32.toInt_ofNat_of_lt (by omega)
theorem ix_nat {k : Nat} (h : k ≤ 300) : (Int32.ofNat k).toNatClampNeg = k := by
  show (Int32.ofNat k).toInt.toNat = k; rw [toI (by omega)]; rfl
theorem ix_nn {k : Nat} (h : k ≤ 300) : ¬ Int32.ofNat k < 0 := by
  rw [Int32.lt_iff_toInt_lt, toI (by omega), show (0 : Int32).toInt = 0 from rfl]; omega
theorem lt_ix {a b : Nat} (h : a ≤ 600) (h' : b ≤ 600) : (Int32.ofNat a < Int32.ofNat b) = (a < b) := by
  apply propext; rw [Int32.lt_iff_toInt_lt, toI h, toI h']; omega
theorem ofNat_inj {a b : Nat} (h : a ≤ 600) (h' : b ≤ 600) (e : Int32.ofNat a = Int32.ofNat b) : a = b := by
  have := congrArg Int32.toInt e; rw [toI h, toI h'] at this; omega
theorem ofNat_ne {a : Nat} (h : a ≤ 600) : Int32.ofNat a ≠ -1 := fun e => by
  have := congrArg Int32.toInt e; rw [toI h, show (-1 : Int32).toInt = -1 from rfl] at this; omega
theorem ofNat_succ (n : Nat) : Int32.ofNat n + (1 : Int32) = Int32.ofNat (n + 1) := by rw [Int32.ofNat_add]; rfl
theorem mapI_get {T : List Int32} {k : Nat} (hl : k < T.length) (h : k ≤ 300) : (T.map Value.int)[(Int32.ofNat k).toNatClampNeg]? = some (.int (vat T k)) := by
  rw [ix_nat h, List.getElem?_map, vat_get hl]; rfl
theorem mapL_get {T : List Int64} {k : Nat} (hl : k < T.length) (h : k ≤ 300) : (T.map Value.long)[(Int32.ofNat k).toNatClampNeg]? = some (.long (wat T k)) := by
  rw [ix_nat h, List.getElem?_map, wat_get hl]; rfl
theorem mapI_len {T : List Int32} {k : Nat} (hl : k < T.length) (h : k ≤ 300) : (Int32.ofNat k).toNatClampNeg < (T.map Value.int).length := by rw [ix_nat h, List.length_map]; exact hl
theorem mapL_len {T : List Int64} {k : Nat} (hl : k < T.length) (h : k ≤ 300) : (Int32.ofNat k).toNatClampNeg < (T.map Value.long).length := by rw [ix_nat h, List.length_map]; exact hl
theorem arI_set {Z : State} {h : Heap} {a : Addr} {T : List Int32} {k : Nat} {x : Int32} (h6 : k ≤ 300) (A : Ar Z h a .int ((T.map Value.int).set (Int32.ofNat k).toNatClampNeg (.int x))) : Ar Z h a .int ((T.set k x).map Value.int) := by
  rw [ix_nat h6] at A; rw [List.map_set]; exact A
theorem arL_set {Z : State} {h : Heap} {a : Addr} {T : List Int64} {k : Nat} {x : Int64} (h6 : k ≤ 300) (A : Ar Z h a .long ((T.map Value.long).set (Int32.ofNat k).toNatClampNeg (.long x))) : Ar Z h a .long ((T.set k x).map Value.long) := by
  rw [ix_nat h6] at A; rw [List.map_set]; exact A
theorem len_I {T : List Int32} {N : Nat} (h : T.length = N) : (T.map Value.int).length.toInt32 = Int32.ofNat N := by rw [List.length_map, h]
theorem len_L {T : List Int64} {N : Nat} (h : T.length = N) : (T.map Value.long).length.toInt32 = Int32.ofNat N := by rw [List.length_map, h]
theorem fill_step {x : Int32} {V V0 : List Int32} {ii : Nat} (hV : V = List.replicate ii x ++ V0.drop ii) (h : ii < V.length) : V.set ii x = List.replicate (ii + 1) x ++ V0.drop (ii + 1) := by
  have hd : ii < V0.length := by
    rw [hV, List.length_append, List.length_replicate, List.length_drop] at h; omega
  rw [hV, List.set_append_right _ _ (by rw [List.length_replicate]; exact Nat.le_refl _), List.length_replicate, Nat.sub_self, List.drop_eq_getElem_cons hd, List.set_cons_zero, List.replicate_succ', List.append_assoc]
  rfl
theorem fill_end {x : Int32} {V V0 : List Int32} {ii N : Nat} (hV : V = List.replicate ii x ++ V0.drop ii) (e : ii = N) (hl : V0.length = N) : V = List.replicate N x := by
  subst e; rw [hV, ← hl, List.drop_length, List.append_nil]
theorem d6_0 : decode jdk_65_method_103_code 0 = .ok (.iconst 0, 1) := by decide +kernel
theorem d6_1 : decode jdk_65_method_103_code 1 = .ok (.istore_n 2, 1) := by decide +kernel
theorem d6_2 : decode jdk_65_method_103_code 2 = .ok (.aload_n 0, 1) := by decide +kernel
theorem d6_3 : decode jdk_65_method_103_code 3 = .ok (.arraylength, 1) := by decide +kernel
theorem d6_4 : decode jdk_65_method_103_code 4 = .ok (.istore_n 3, 1) := by decide +kernel
theorem d6_5 : decode jdk_65_method_103_code 5 = .ok (.iload_n 2, 1) := by decide +kernel
theorem d6_6 : decode jdk_65_method_103_code 6 = .ok (.iload_n 3, 1) := by decide +kernel
theorem d6_7 : decode jdk_65_method_103_code 7 = .ok (.if_icmp .ge 13, 3) := by decide +kernel
theorem d6_10 : decode jdk_65_method_103_code 10 = .ok (.aload_n 0, 1) := by decide +kernel
theorem d6_11 : decode jdk_65_method_103_code 11 = .ok (.iload_n 2, 1) := by decide +kernel
theorem d6_12 : decode jdk_65_method_103_code 12 = .ok (.iload_n 1, 1) := by decide +kernel
theorem d6_13 : decode jdk_65_method_103_code 13 = .ok (.iastore, 1) := by decide +kernel
theorem d6_14 : decode jdk_65_method_103_code 14 = .ok (.iinc 2 1, 3) := by decide +kernel
theorem d6_17 : decode jdk_65_method_103_code 17 = .ok (.goto (-12), 3) := by decide +kernel
theorem d6_20 : decode jdk_65_method_103_code 20 = .ok (.return_, 1) := by decide +kernel
def rm_fill : Room := { frames := 0, cells := 0, slots := 0, locals := 0 }
theorem pf_fill : plainFor (⟨"java/util/Arrays", "fill", "([II)V"⟩ : MethodName) = true := plainFor_of_name (by first | (simp [plainName, overriddenIn]; done) | decide +kernel)
set_option maxRecDepth 65536 in
set_option maxHeartbeats 40000000 in
theorem ct_fill {l : Launch} {Z : State} {a0 : Array Value} (hw : ∀ d ∈ tables_1, d.before a0 Z = true) (h0 : Heap) (n0 : Nat) (sa : Addr) (x : Int32) (V0 : List Int32) (N : Nat) (hz : n0 ≤ h0.size) (hN : N ≤ 8) (hl0 : V0.length = N) (O_sa : Ar Z h0 sa .int (V0.map Value.int)) (g_sa : n0 ≤ sa) :
    Ct l Z (⟨"java/util/Arrays", "fill", "([II)V"⟩ : MethodName) jdk_65_method_103_code 4 (Option.none : Option Jvm.ClassFile.FieldType) [] rm_fill #[.ref sa, .int x] h0 n0 (fun v h => v = none ∧ Ar Z h sa .int ((List.replicate N x).map Value.int) ∧ Keep h0 h [sa]) := by
  refine Ct.of (Ls := #[.val (.ref sa), .val (.int x), .unset, .unset]) pf_fill (fun m => by first | (simp [entryFrame, mkF, argsToLocals, Value.category, maxLocals]; done) | rfl) ?_
  intro p e s m below meth c C
  have L5 : ∀ (n ii : Nat) (V : List Int32) (h : Heap), ii + n = N → V = List.replicate ii x ++ V0.drop ii → V.length = N → n0 ≤ h.size → Ar Z h sa .int (V.map Value.int) → Keep h0 h [sa] → Wp p l e rm_fill s m #[.ref sa, .int x] below meth c n0 rm_fill.cells rm_fill.slots (fun v h => v = none ∧ Ar Z h sa .int ((List.replicate N x).map Value.int) ∧ Keep h0 h [sa]) h 0 0 (mkF m 5 #[.val (.ref sa), .val (.int x), .val (.int (Int32.ofNat ii)), .val (.int (Int32.ofNat N))] []) := by
    intro n
    induction n using Nat.strongRecOn with
    | _ n ih =>
      intro ii V h hin hV hlv hz O_sa hk
      refine w_iloadN (pc' := 6) C d6_5 rfl rfl ?_
      refine w_iloadN (pc' := 7) C d6_6 rfl rfl ?_
      refine w_icmp_ge (pcT := 20) (pcF := 10) C d6_7 (by decide) (by decide) rfl (fun q7_1 => ?_) (fun q7_1 => ?_)
      · skip
        have iN : ii = N := by have := q7_1; rw [lt_ix (by omega) (by omega)] at this; omega
        refine w_ret0 C rfl d6_20 (by decide) (by decide) ?_
        exact ⟨rfl, by rw [← fill_end hV iN hl0]; exact O_sa, hk⟩
      · skip
        have il : ii < N := by rw [← lt_ix (by omega) (by omega)]; exact q7_1
        refine w_aloadN (pc' := 11) C d6_10 rfl rfl rfl ?_
        refine w_iloadN (pc' := 12) C d6_11 rfl rfl ?_
        refine w_iloadN (pc' := 13) C d6_12 rfl rfl ?_
        refine wA_iastore (pc' := 14) C d6_13 rfl g_sa O_sa (ix_nn (by omega)) (mapI_len (by rw [hlv]; exact il) (by omega)) (fun h1 W1 A1 => ?_)
        have O_sa : Ar Z h1 sa .int ((V.set ii x).map Value.int) := (arI_set (by omega) A1)
        have hz : n0 ≤ h1.size := by rw [W1.size]; exact hz
        have hk := hk.wr W1 (Or.inl (by simp))
        refine w_iinc (pc' := 17) (Ls' := #[.val (.ref sa), .val (.int x), .val (.int ((Int32.ofNat ii) + (1 : Int32))), .val (.int (Int32.ofNat N))]) C d6_14 rfl rfl rfl ?_
        refine w_goto (pc' := 5) C d6_17 (by decide) (by decide) ?_
        rw [ofNat_succ ii]
        exact ih (n - 1) (by omega) (ii + 1) _ h1 (by omega) (fill_step hV (by omega)) ((List.length_set ..).trans hlv) hz O_sa hk
  refine w_iconst (pc' := 1) (x := (0 : Int32)) C d6_0 rfl rfl ?_
  refine w_istoreN (pc' := 2) (Ls' := #[.val (.ref sa), .val (.int x), .val (.int (0 : Int32)), .unset]) C d6_1 rfl rfl ?_
  refine w_aloadN (pc' := 3) C d6_2 rfl rfl rfl ?_
  refine wA_alen (pc' := 4) (n := (Int32.ofNat N)) C d6_3 rfl O_sa (len_I hl0) ?_
  refine w_istoreN (pc' := 5) (Ls' := #[.val (.ref sa), .val (.int x), .val (.int (0 : Int32)), .val (.int (Int32.ofNat N))]) C d6_4 rfl rfl ?_
  exact L5 N 0 V0 h0 (by omega) rfl hl0 hz O_sa (Keep.refl _ _)
theorem d5_0 : decode prog_51_method_23_code 0 = .ok (.iload_n 0, 1) := by decide +kernel
theorem d5_1 : decode prog_51_method_23_code 1 = .ok (.newarray .int, 2) := by decide +kernel
theorem d5_3 : decode prog_51_method_23_code 3 = .ok (.astore_n 1, 1) := by decide +kernel
theorem d5_4 : decode prog_51_method_23_code 4 = .ok (.aload_n 1, 1) := by decide +kernel
theorem d5_5 : decode prog_51_method_23_code 5 = .ok (.iconst (-1), 1) := by decide +kernel
theorem d5_6 : decode prog_51_method_23_code 6 = .ok (.invokestatic 101, 3) := by decide +kernel
theorem d5_9 : decode prog_51_method_23_code 9 = .ok (.aload_n 1, 1) := by decide +kernel
theorem d5_10 : decode prog_51_method_23_code 10 = .ok (.areturn, 1) := by decide +kernel
def rm_free : Room := { frames := 1, cells := 1, slots := 8, locals := 15 }
theorem pf_free : plainFor (⟨"com/example/rowan/rowan/policy/EntitySet", "freeSlots", "(I)[I"⟩ : MethodName) = true := plainFor_of_name (by first | (simp [plainName, overriddenIn]; done) | decide +kernel)
set_option maxRecDepth 65536 in
set_option maxHeartbeats 40000000 in
theorem ct_free {l : Launch} {Z : State} {a0 : Array Value} (hw : ∀ d ∈ tables_1, d.before a0 Z = true) (h0 : Heap) (n0 : Nat) (N : Nat) (hz : n0 ≤ h0.size) (hN : N ≤ 8) :
    Ct l Z (⟨"com/example/rowan/rowan/policy/EntitySet", "freeSlots", "(I)[I"⟩ : MethodName) prog_51_method_23_code 2 (Option.some (Jvm.ClassFile.FieldType.array Jvm.ClassFile.FieldType.int)) [] rm_free #[.int (Int32.ofNat N)] h0 n0 (fun v h => ∃ sa, v = some (.ref sa) ∧ h0.size ≤ sa ∧ Ar Z h sa .int ((List.replicate N (-1 : Int32)).map Value.int) ∧ Keep h0 h []) := by
  refine Ct.of (Ls := #[.val (.int (Int32.ofNat N)), .unset]) pf_free (fun m => by first | (simp [entryFrame, mkF, argsToLocals, Value.category, maxLocals]; done) | rfl) ?_
  intro p e s m below meth c C
  have hk : Keep h0 h0 [] := Keep.refl _ _
  refine w_iloadN (pc' := 1) C d5_0 rfl rfl ?_
  refine wA_newP (pc' := 3) (cap := 8) (ce' := 1) (sl' := 8) C (tw hw 23 rfl) d5_1 rfl (ix_nn (by omega)) (by rw [ix_nat (by omega)]; exact hN) (by decide) rfl rfl (by decide) (by decide) (fun h1 a1 e1 E1 A1 => ?_)
  have g_a1 : n0 ≤ a1 := by rw [e1]; exact hz
  have fr_a1 : h0.size ≤ a1 := by rw [e1]; exact hk.1
  have hz : n0 ≤ h1.size := Nat.le_trans hz E1.1
  have hk := hk.ext E1
  have O_a1 : Ar Z h1 a1 .int (List.replicate (Int32.ofNat N).toNatClampNeg (.int (0 : Int32))) := A1
  have O_a1 : Ar Z h1 a1 .int ((List.replicate N (0 : Int32)).map Value.int) := by rw [List.map_replicate, ← ix_nat (show N ≤ 300 by omega)]; exact O_a1
  refine w_astoreN (pc' := 4) (Ls' := #[.val (.int (Int32.ofNat N)), .val (.ref a1)]) C d5_3 rfl rfl rfl ?_
  refine w_aloadN (pc' := 5) C d5_4 rfl rfl rfl ?_
  refine w_iconst (pc' := 6) (x := (-1 : Int32)) C d5_5 rfl rfl ?_
  refine w_callS (pc' := 9) (argsL := [.ref a1, .int (-1 : Int32)]) (st := []) (W := 0) (ce' := 1) (sl' := 8) C (tw hw 24 rfl) (tw hw 25 rfl) (tw hw 26 rfl) (tw hw 27 rfl) (by decide) d5_6 rfl rfl (by decide) (by decide) (Nat.le_of_eq rfl) rfl rfl (by decide) (by decide) rfl (lenOf pd_2 rfl) (ct_fill hw h1 n0 a1 (-1 : Int32) (List.replicate N (0 : Int32)) N hz hN List.length_replicate O_a1 g_a1) (k0 (fun h2 q2 => ?_))
  obtain ⟨P2, K2⟩ := q2
  have hz : n0 ≤ h2.size := Nat.le_trans hz K2.1
  have hk := Keep.app hk K2 (fun x hx => Or.inl hx) (allS (Or.inr fr_a1) all0)
  have O_a1 := P2
  refine w_aloadN (pc' := 10) C d5_9 rfl rfl rfl ?_
  refine w_retA (t := (.array .int)) C rfl rfl rfl d5_10 (by decide) (by decide) ?_
  exact ⟨a1, rfl, fr_a1, O_a1, hk⟩
theorem d9_0 : decode prog_51_method_18_code 0 = .ok (.iload_n 1, 1) := by decide +kernel
theorem d9_1 : decode prog_51_method_18_code 1 = .ok (.ldc 92, 2) := by decide +kernel
theorem d9_3 : decode prog_51_method_18_code 3 = .ok (.imul, 1) := by decide +kernel
theorem d9_4 : decode prog_51_method_18_code 4 = .ok (.aload_n 0, 1) := by decide +kernel
theorem d9_5 : decode prog_51_method_18_code 5 = .ok (.getfield 28, 3) := by decide +kernel
theorem d9_8 : decode prog_51_method_18_code 8 = .ok (.arraylength, 1) := by decide +kernel
theorem d9_9 : decode prog_51_method_18_code 9 = .ok (.iconst 1, 1) := by decide +kernel
theorem d9_10 : decode prog_51_method_18_code 10 = .ok (.isub, 1) := by decide +kernel
theorem d9_11 : decode prog_51_method_18_code 11 = .ok (.invokestatic 93, 3) := by decide +kernel
theorem d9_14 : decode prog_51_method_18_code 14 = .ok (.iushr, 1) := by decide +kernel
theorem d9_15 : decode prog_51_method_18_code 15 = .ok (.ireturn, 1) := by decide +kernel
def homeF (r : Int32) (N : Nat) : Int32 := (((r * (-1640531527 : Int32)).toUInt32 >>> ((nlz ((Int32.ofNat N) - (1 : Int32))) &&& 31).toUInt32).toInt32)
def rm_homeF : Room := { frames := 1, cells := 0, slots := 0, locals := 14 }
def Q_homeF (r : Int32) (N : Nat) (h0 : Heap) (v : Option Value) (h : Heap) : Prop := v = some (.int (homeF r N)) ∧ h = h0
theorem pf_homeF : plainFor (⟨"com/example/rowan/rowan/policy/EntitySet", "home", "(I)I"⟩ : MethodName) = true := plainFor_of_name (by first | (simp [plainName, overriddenIn]; done) | decide +kernel)
set_option maxRecDepth 65536 in
set_option maxHeartbeats 40000000 in
theorem ct_homeF {l : Launch} {Z : State} {a0 : Array Value} (hw : ∀ d ∈ tables_1, d.before a0 Z = true) (h0 : Heap) (n0 : Nat) (b : Addr) (r : Int32) (sa : Addr) (nn : Nat) (sz : Int32) (V : List Int32) (N : Nat) (hL : V.length = N) (O_b : Obj Z h0 b "com/example/rowan/rowan/policy/EntitySet" [("entities", "I", .int (Int32.ofNat nn)), ("slots", "[I", .ref sa), ("words", "[J", .null), ("size", "I", .int sz)]) (O_sa : Ar Z h0 sa .int (V.map Value.int)) :
    Ct l Z (⟨"com/example/rowan/rowan/policy/EntitySet", "home", "(I)I"⟩ : MethodName) prog_51_method_18_code 2 (Option.some Jvm.ClassFile.FieldType.int) [] rm_homeF #[.ref b, .int r] h0 n0 (Q_homeF r N h0) := by
  refine Ct.of (Ls := #[.val (.ref b), .val (.int r)]) pf_homeF (fun m => by first | (simp [entryFrame, mkF, argsToLocals, Value.category, maxLocals]; done) | rfl) ?_
  intro p e s m below meth c C
  have hr : homeF r N = (((r * (-1640531527 : Int32)).toUInt32 >>> ((nlz ((Int32.ofNat N) - (1 : Int32))) &&& 31).toUInt32).toInt32) := rfl
  refine w_iloadN (pc' := 1) C d9_0 rfl rfl ?_
  refine w_ldcI (pc' := 3) C (tw hw 45 rfl) d9_1 rfl ?_
  refine w_imul (pc' := 4) C d9_3 rfl ?_
  refine w_aloadN (pc' := 5) C d9_4 rfl rfl rfl ?_
  refine w_getF (pc' := 8) C (tw hw 28 rfl) d9_5 rfl (O_b.fld 1 rfl) ?_
  refine wA_alen (pc' := 9) (n := (Int32.ofNat N)) C d9_8 rfl O_sa (len_I hL) ?_
  refine w_iconst (pc' := 10) (x := (1 : Int32)) C d9_9 rfl rfl ?_
  refine w_isub (pc' := 11) C d9_10 rfl ?_
  refine w_callS (pc' := 14) (argsL := [.int ((Int32.ofNat N) - (1 : Int32))]) (st := [.int (r * (-1640531527 : Int32))]) (W := 1) (ce' := 0) (sl' := 0) C (tw hw 46 rfl) (tw hw 47 rfl) (tw hw 48 rfl) (tw hw 49 rfl) (by decide) d9_11 rfl rfl (by decide) (by decide) (Nat.le_of_eq rfl) rfl rfl (by decide) (by decide) rfl (lenOf pd_1 rfl) (ct_nlz hw h0 n0 ((Int32.ofNat N) - (1 : Int32))) (kp ?_)
  refine w_iushr (pc' := 15) C d9_14 rfl ?_
  refine w_retI C rfl d9_15 (by decide) (by decide) ?_
  exact And.intro (congrArg (fun z => some (Value.int z)) hr.symm) rfl
theorem home_eq {N : Nat} {sh : Int32} (r : Int32) (S : Sz N sh) : homeF r N = Int32.ofNat (hm r sh) := by
  rw [← hm_int]
  rcases S with ⟨rfl, rfl⟩ | ⟨rfl, rfl⟩ | ⟨rfl, rfl⟩
  · unfold homeF; rw [show nlz (Int32.ofNat 2 - 1) = 31 by decide]
  · unfold homeF; rw [show nlz (Int32.ofNat 4 - 1) = 30 by decide]
  · unfold homeF; rw [show nlz (Int32.ofNat 8 - 1) = 29 by decide]
theorem d8_0 : decode prog_51_method_17_code 0 = .ok (.aload_n 0, 1) := by decide +kernel
theorem d8_1 : decode prog_51_method_17_code 1 = .ok (.getfield 28, 3) := by decide +kernel
theorem d8_4 : decode prog_51_method_17_code 4 = .ok (.arraylength, 1) := by decide +kernel
theorem d8_5 : decode prog_51_method_17_code 5 = .ok (.iconst 1, 1) := by decide +kernel
theorem d8_6 : decode prog_51_method_17_code 6 = .ok (.isub, 1) := by decide +kernel
theorem d8_7 : decode prog_51_method_17_code 7 = .ok (.istore_n 2, 1) := by decide +kernel
theorem d8_8 : decode prog_51_method_17_code 8 = .ok (.aload_n 0, 1) := by decide +kernel
theorem d8_9 : decode prog_51_method_17_code 9 = .ok (.iload_n 1, 1) := by decide +kernel
theorem d8_10 : decode prog_51_method_17_code 10 = .ok (.invokevirtual 63, 3) := by decide +kernel
theorem d8_13 : decode prog_51_method_17_code 13 = .ok (.istore_n 3, 1) := by decide +kernel
theorem d8_14 : decode prog_51_method_17_code 14 = .ok (.aload_n 0, 1) := by decide +kernel
theorem d8_15 : decode prog_51_method_17_code 15 = .ok (.getfield 28, 3) := by decide +kernel
theorem d8_18 : decode prog_51_method_17_code 18 = .ok (.iload_n 3, 1) := by decide +kernel
theorem d8_19 : decode prog_51_method_17_code 19 = .ok (.iaload, 1) := by decide +kernel
theorem d8_20 : decode prog_51_method_17_code 20 = .ok (.iload_n 1, 1) := by decide +kernel
theorem d8_21 : decode prog_51_method_17_code 21 = .ok (.if_icmp .eq 22, 3) := by decide +kernel
theorem d8_24 : decode prog_51_method_17_code 24 = .ok (.aload_n 0, 1) := by decide +kernel
theorem d8_25 : decode prog_51_method_17_code 25 = .ok (.getfield 28, 3) := by decide +kernel
theorem d8_28 : decode prog_51_method_17_code 28 = .ok (.iload_n 3, 1) := by decide +kernel
theorem d8_29 : decode prog_51_method_17_code 29 = .ok (.iaload, 1) := by decide +kernel
theorem d8_30 : decode prog_51_method_17_code 30 = .ok (.iconst (-1), 1) := by decide +kernel
theorem d8_31 : decode prog_51_method_17_code 31 = .ok (.if_icmp .eq 12, 3) := by decide +kernel
theorem d8_34 : decode prog_51_method_17_code 34 = .ok (.iload_n 3, 1) := by decide +kernel
theorem d8_35 : decode prog_51_method_17_code 35 = .ok (.iconst 1, 1) := by decide +kernel
theorem d8_36 : decode prog_51_method_17_code 36 = .ok (.iadd, 1) := by decide +kernel
theorem d8_37 : decode prog_51_method_17_code 37 = .ok (.iload_n 2, 1) := by decide +kernel
theorem d8_38 : decode prog_51_method_17_code 38 = .ok (.iand, 1) := by decide +kernel
theorem d8_39 : decode prog_51_method_17_code 39 = .ok (.istore_n 3, 1) := by decide +kernel
theorem d8_40 : decode prog_51_method_17_code 40 = .ok (.goto (-26), 3) := by decide +kernel
theorem d8_43 : decode prog_51_method_17_code 43 = .ok (.iload_n 3, 1) := by decide +kernel
theorem d8_44 : decode prog_51_method_17_code 44 = .ok (.ireturn, 1) := by decide +kernel
def rm_slotOf : Room := { frames := 2, cells := 0, slots := 0, locals := 27 }
theorem pf_slotOf : plainFor (⟨"com/example/rowan/rowan/policy/EntitySet", "slotOf", "(I)I"⟩ : MethodName) = true := plainFor_of_name (by first | (simp [plainName, overriddenIn]; done) | decide +kernel)
set_option maxRecDepth 65536 in
set_option maxHeartbeats 40000000 in
theorem ct_slotOf {l : Launch} {Z : State} {a0 : Array Value} (hw : ∀ d ∈ tables_1, d.before a0 Z = true) (h0 : Heap) (n0 : Nat) (b : Addr) (r : Int32) (sa : Addr) (nn : Nat) (sz : Int32) (V : List Int32) (N : Nat) (sh : Int32) (I : InvS N sh V) (hlt : (ents V).length < N) (O_b : Obj Z h0 b "com/example/rowan/rowan/policy/EntitySet" [("entities", "I", .int (Int32.ofNat nn)), ("slots", "[I", .ref sa), ("words", "[J", .null), ("size", "I", .int sz)]) (O_sa : Ar Z h0 sa .int (V.map Value.int)) :
    Ct l Z (⟨"com/example/rowan/rowan/policy/EntitySet", "slotOf", "(I)I"⟩ : MethodName) prog_51_method_17_code 4 (Option.some Jvm.ClassFile.FieldType.int) [] rm_slotOf #[.ref b, .int r] h0 n0 (fun v h => ∃ z, v = some (.int z) ∧ (∃ k, z = Int32.ofNat k ∧ Fnd N sh r V k) ∧ h = h0) := by
  refine Ct.of (Ls := #[.val (.ref b), .val (.int r), .unset, .unset]) pf_slotOf (fun m => by first | (simp [entryFrame, mkF, argsToLocals, Value.category, maxLocals]; done) | rfl) ?_
  intro p e s m below meth c C
  have L14 : ∀ (n k : Nat), Prb N sh r V n k → Wp p l e rm_slotOf s m #[.ref b, .int r] below meth c n0 rm_slotOf.cells rm_slotOf.slots (fun v h => ∃ z, v = some (.int z) ∧ (∃ k, z = Int32.ofNat k ∧ Fnd N sh r V k) ∧ h = h0) h0 0 0 (mkF m 14 #[.val (.ref b), .val (.int r), .val (.int ((Int32.ofNat N) - (1 : Int32))), .val (.int (Int32.ofNat k))] []) := by
    intro n
    induction n using Nat.strongRecOn with
    | _ n ih =>
      intro k P
      have kl : k < V.length := by rw [I.len]; exact P.lt I.sz
      have k16 : k ≤ 300 := Nat.le_trans (Nat.le_trans (Nat.le_of_lt (P.lt I.sz)) I.sz.pos.2) (by decide)
      refine w_aloadN (pc' := 15) C d8_14 rfl rfl rfl ?_
      refine w_getF (pc' := 18) C (tw hw 28 rfl) d8_15 rfl (O_b.fld 1 rfl) ?_
      refine w_iloadN (pc' := 19) C d8_18 rfl rfl ?_
      refine wA_iaload (pc' := 20) (v := .int (vat V k)) C d8_19 rfl O_sa (ix_nn k16) (mapI_get kl k16) ?_
      refine w_iloadN (pc' := 21) C d8_20 rfl rfl ?_
      refine w_icmp_eq (pcT := 43) (pcF := 24) C d8_21 (by decide) (by decide) rfl (fun q21_1 => ?_) (fun q21_1 => ?_)
      · skip
        refine w_iloadN (pc' := 44) C d8_43 rfl rfl ?_
        refine w_retI C rfl d8_44 (by decide) (by decide) ?_
        exact ⟨_, rfl, ⟨k, rfl, P.lt I.sz, Or.inl q21_1⟩, rfl⟩
      · skip
        refine w_aloadN (pc' := 25) C d8_24 rfl rfl rfl ?_
        refine w_getF (pc' := 28) C (tw hw 28 rfl) d8_25 rfl (O_b.fld 1 rfl) ?_
        refine w_iloadN (pc' := 29) C d8_28 rfl rfl ?_
        refine wA_iaload (pc' := 30) (v := .int (vat V k)) C d8_29 rfl O_sa (ix_nn k16) (mapI_get kl k16) ?_
        refine w_iconst (pc' := 31) (x := (-1 : Int32)) C d8_30 rfl rfl ?_
        refine w_icmp_eq (pcT := 43) (pcF := 34) C d8_31 (by decide) (by decide) rfl (fun q31_2 => ?_) (fun q31_2 => ?_)
        · skip
          refine w_iloadN (pc' := 44) C d8_43 rfl rfl ?_
          refine w_retI C rfl d8_44 (by decide) (by decide) ?_
          exact ⟨_, rfl, ⟨k, rfl, P.lt I.sz, Or.inr ⟨q31_2, n, P⟩⟩, rfl⟩
        · skip
          refine w_iloadN (pc' := 35) C d8_34 rfl rfl ?_
          refine w_iconst (pc' := 36) (x := (1 : Int32)) C d8_35 rfl rfl ?_
          refine w_iadd (pc' := 37) C d8_36 rfl ?_
          refine w_iloadN (pc' := 38) C d8_37 rfl rfl ?_
          refine w_iand (pc' := 39) C d8_38 rfl ?_
          refine w_istoreN (pc' := 40) (Ls' := #[.val (.ref b), .val (.int r), .val (.int ((Int32.ofNat N) - (1 : Int32))), .val (.int (((Int32.ofNat k) + (1 : Int32)) &&& ((Int32.ofNat N) - (1 : Int32))))]) C d8_39 rfl rfl ?_
          refine w_goto (pc' := 14) C d8_40 (by decide) (by decide) ?_
          obtain ⟨n', rfl, P'⟩ := P.next q31_2 q21_1
          rw [I.sz.step (P.lt I.sz)]
          exact ih n' (Nat.lt_succ_self _) _ P'
  refine w_aloadN (pc' := 1) C d8_0 rfl rfl rfl ?_
  refine w_getF (pc' := 4) C (tw hw 28 rfl) d8_1 rfl (O_b.fld 1 rfl) ?_
  refine wA_alen (pc' := 5) (n := (Int32.ofNat N)) C d8_4 rfl O_sa (len_I I.len) ?_
  refine w_iconst (pc' := 6) (x := (1 : Int32)) C d8_5 rfl rfl ?_
  refine w_isub (pc' := 7) C d8_6 rfl ?_
  refine w_istoreN (pc' := 8) (Ls' := #[.val (.ref b), .val (.int r), .val (.int ((Int32.ofNat N) - (1 : Int32))), .unset]) C d8_7 rfl rfl ?_
  refine w_aloadN (pc' := 9) C d8_8 rfl rfl rfl ?_
  refine w_iloadN (pc' := 10) C d8_9 rfl rfl ?_
  refine w_callP (pc' := 13) (argsL := [.int r]) (st := []) (W := 0) (ce' := 0) (sl' := 0) C (tw hw 41 rfl) (tw hw 42 rfl) (tw hw 2 rfl) (tw hw 43 rfl) (tw hw 3 rfl) (tw hw 44 rfl) (by decide) d8_10 rfl rfl (by decide) (by decide) (Nat.le_of_eq rfl) rfl rfl (by decide) (by decide) rfl (lenOf pd_1 rfl) O_b.1 (ct_homeF hw h0 n0 b r sa nn sz V N I.len O_b O_sa) (kp ?_)
  refine w_istoreN (pc' := 14) (Ls' := #[.val (.ref b), .val (.int r), .val (.int ((Int32.ofNat N) - (1 : Int32))), .val (.int (homeF r N))]) C d8_13 rfl rfl ?_
  rw [home_eq r I.sz]
  obtain ⟨n1, P1⟩ := Prb.start (r := r) I hlt
  exact L14 n1 _ P1
def adds (r : Int32) (l : List Int32) : List Int32 := if r ∈ l then l else r :: l
theorem adds_in {r : Int32} {l : List Int32} (h : r ∈ l) : adds r l = l := if_pos h
theorem adds_out {r : Int32} {l : List Int32} (h : r ∉ l) : adds r l = r :: l := if_neg h
def RepS (Z : State) (n0 : Nat) (h : Heap) (b : Addr) (nn : Nat) (xs V : List Int32) : Prop :=
  ∃ sa sh, Obj Z h b "com/example/rowan/rowan/policy/EntitySet" [("entities", "I", .int (Int32.ofNat nn)), ("slots", "[I", .ref sa), ("words", "[J", .null), ("size", "I", .int (Int32.ofNat xs.length))] ∧ Ar Z h sa .int (V.map Value.int) ∧ n0 ≤ sa ∧ b ≠ sa ∧ InvS V.length sh V ∧ (ents V).Perm xs ∧ 2 * xs.length ≤ V.length
def RepW (Z : State) (n0 : Nat) (h : Heap) (b : Addr) (nn : Nat) (xs : List Int32) (W : List Int64) : Prop :=
  ∃ wa, Obj Z h b "com/example/rowan/rowan/policy/EntitySet" [("entities", "I", .int (Int32.ofNat nn)), ("slots", "[I", .null), ("words", "[J", .ref wa), ("size", "I", .int (Int32.ofNat xs.length))] ∧ Ar Z h wa .long (W.map Value.long) ∧ n0 ≤ wa ∧ b ≠ wa ∧ InvW (wcN nn) W xs
def RepM (Z : State) (n0 : Nat) (h : Heap) (b : Addr) (nn : Nat) (xs : List Int32) : List Int32 ⊕ List Int64 → Prop
  | .inl V => RepS Z n0 h b nn xs V
  | .inr W => RepW Z n0 h b nn xs W
def RepF (Z : State) (n0 : Nat) (h : Heap) (b : Addr) (nn : Nat) (xs : List Int32) : Prop :=
  (∃ V, RepS Z n0 h b nn xs V ∧ 2 * (xs.length + 1) ≤ V.length) ∨ ∃ W, RepW Z n0 h b nn xs W
def RepE (Z : State) (n0 : Nat) (h : Heap) (b : Addr) (nn : Nat) (xs : List Int32) : Prop := ∃ M, RepM Z n0 h b nn xs M
theorem RepM.exa {Z : State} {n0 : Nat} {h : Heap} {b : Addr} {nn : Nat} {xs : List Int32} {M : List Int32 ⊕ List Int64} (R : RepM Z n0 h b nn xs M) : Exa Z h b "com/example/rowan/rowan/policy/EntitySet" := by
  cases M with
  | inl V => obtain ⟨_, _, O, -⟩ := R; exact O.1
  | inr W => obtain ⟨_, O, -⟩ := R; exact O.1
theorem RepE.exa {Z : State} {n0 : Nat} {h : Heap} {b : Addr} {nn : Nat} {xs : List Int32} (R : RepE Z n0 h b nn xs) : Exa Z h b "com/example/rowan/rowan/policy/EntitySet" := by obtain ⟨M, R⟩ := R; exact R.exa
theorem RepF.exa {Z : State} {n0 : Nat} {h : Heap} {b : Addr} {nn : Nat} {xs : List Int32} (R : RepF Z n0 h b nn xs) : Exa Z h b "com/example/rowan/rowan/policy/EntitySet" := by
  rcases R with ⟨V, R, -⟩ | ⟨W, R⟩
  · exact RepM.exa (M := .inl V) R
  · exact RepM.exa (M := .inr W) R
def XsOk (nn : Nat) (xs : List Int32) : Prop := xs.Nodup ∧ ∀ x ∈ xs, ∃ e, e < nn ∧ x = Int32.ofNat e
theorem XsOk.nil (nn : Nat) : XsOk nn [] := ⟨List.nodup_nil, fun x q => by cases q⟩
theorem XsOk.adds {nn e : Nat} {xs : List Int32} (X : XsOk nn xs) (he : e < nn) : XsOk nn (adds (Int32.ofNat e) xs) := by
  by_cases g : Int32.ofNat e ∈ xs
  · rw [adds_in g]; exact X
  · rw [adds_out g]
    refine ⟨List.nodup_cons.mpr ⟨g, X.1⟩, fun x q => ?_⟩
    rcases List.mem_cons.mp q with rfl | q
    · exact ⟨e, he, rfl⟩
    · exact X.2 x q
theorem wc_le {nn : Nat} (h : nn ≤ 256) : wcN nn ≤ 4 ∧ nn ≤ 64 * wcN nn := by unfold wcN; omega
theorem wc_ge {nn : Nat} (h : 1 ≤ nn) : 1 ≤ wcN nn := by unfold wcN; omega
theorem div_q : ∀ k : Fin 512, Int32.ofNat k.1 / (64 : Int32) = Int32.ofNat (k.1 / 64) := by decide +kernel
theorem div64 {k : Nat} (h : k < 512) : Int32.ofNat k / (64 : Int32) = Int32.ofNat (k / 64) := div_q ⟨k, h⟩
theorem two_mul (n : Nat) : (2 : Int32) * Int32.ofNat n = Int32.ofNat (2 * n) := by rw [Int32.ofNat_mul]; rfl
theorem two_len (n : Nat) : (2 : Int32) * (Int32.ofNat n + (1 : Int32)) = Int32.ofNat (2 * (n + 1)) := by rw [ofNat_succ, two_mul]
theorem leafA {Z : State} {n0 : Nat} {h : Heap} {b : Addr} {nn : Nat} {xs V : List Int32} {r : Int32} (mm : r ∈ xs) (R : RepS Z n0 h b nn xs V) : RepE Z n0 h b nn (adds r xs) := by
  rw [adds_in mm]; exact ⟨.inl V, R⟩
theorem leafC {Z : State} {n0 : Nat} {h : Heap} {b : Addr} {nn : Nat} {xs : List Int32} {W : List Int64} {r : Int32} (mm : r ∈ xs) (R : RepW Z n0 h b nn xs W) : RepE Z n0 h b nn (adds r xs) := by
  rw [adds_in mm]; exact ⟨.inr W, R⟩
theorem cmp0 {x y : Int64} (h : cmpJ x y = 0) : x = y := (cmpJ_eq x y).mp h
theorem cmpn {x y : Int64} (h : ¬ cmpJ x y = 0) : x ≠ y := fun q => h ((cmpJ_eq x y).mpr q)
theorem inW {wc e : Nat} {W : List Int64} {xs : List Int32} (I : InvW wc W xs) (he : e < 64 * wc) (h5 : e < 512) (h : wat W (e / 64) &&& one e ≠ 0) : Int32.ofNat e ∈ xs := by
  apply (I.2 e he).mp
  cases g : bit W e
  · exact absurd ((bit_test h5).mpr g) h
  · rfl
theorem outW {wc e : Nat} {W : List Int64} {xs : List Int32} (I : InvW wc W xs) (he : e < 64 * wc) (h5 : e < 512) (h : wat W (e / 64) &&& one e = 0) : Int32.ofNat e ∉ xs := fun q => by
  have := (I.2 e he).mpr q
  rw [(bit_test h5).mp h] at this
  cases this
theorem setW {wc e : Nat} {W : List Int64} {xs : List Int32} (I : InvW wc W xs) (he : e < 64 * wc) (h5 : 64 * wc ≤ 512) : InvW wc (setb W e) (Int32.ofNat e :: xs) := by
  have hl : e / 64 < W.length := by rw [I.1]; omega
  refine ⟨by unfold setb; rw [List.length_set]; exact I.1, fun q hq => ?_⟩
  rw [bit_setb (by omega) hl, List.mem_cons, ← I.2 q hq]
  by_cases g : q = e
  · subst g; simp
  · have : ¬ Int32.ofNat q = Int32.ofNat e := fun z => g (ofNat_inj (by omega) (by omega) z)
    simp [g, this]
theorem InvW.perm {wc : Nat} {W : List Int64} {xs ys : List Int32} (I : InvW wc W xs) (p : xs.Perm ys) : InvW wc W ys := ⟨I.1, fun q hq => by rw [I.2 q hq]; exact p.mem_iff⟩
theorem wat_rep (n k : Nat) : wat (List.replicate n 0) k = 0 := by
  unfold wat; rw [List.getD_eq_getElem?_getD, List.getElem?_replicate]; split <;> rfl
theorem InvW.zero (wc : Nat) : InvW wc (List.replicate wc 0) [] := by
  refine ⟨List.length_replicate, fun q hq => ?_⟩
  unfold bit; rw [wat_rep, bit_zero]; simp
theorem stepW {wc e ii : Nat} {W : List Int64} {V : List Int32} (I : InvW wc W (ents (V.take ii))) (il : ii < V.length) (h0 : vat V ii ≠ -1) (ee : vat V ii = Int32.ofNat e) (he : e < 64 * wc) (h5 : 64 * wc ≤ 512) : InvW wc (setb W e) (ents (V.take (ii + 1))) := by
  rw [ents_take_ne il h0, ee]
  exact (setW I he h5).perm (List.perm_append_comm (l₁ := [Int32.ofNat e]))
theorem skipW {wc ii : Nat} {W : List Int64} {V : List Int32} (I : InvW wc W (ents (V.take ii))) (il : ii < V.length) (h0 : vat V ii = -1) : InvW wc W (ents (V.take (ii + 1))) := by
  rw [ents_take_zero il h0]; exact I
theorem elt {nn ii : Nat} {V xs : List Int32} (X : XsOk nn xs) (pm : (ents V).Perm xs) (il : ii < V.length) (h0 : vat V ii ≠ -1) : ∃ e, e < nn ∧ vat V ii = Int32.ofNat e :=
  X.2 _ (pm.mem_iff.mp (ents_mem.mpr ⟨ii, il, rfl, h0⟩))
theorem sz2 {N : Nat} {sh : Int32} (S : Sz N sh) (h : N ≤ 4) : ∃ sh2, Sz (2 * N) sh2 := by
  rcases S with ⟨rfl, -⟩ | ⟨rfl, -⟩ | ⟨rfl, -⟩
  · exact ⟨30, Or.inr (Or.inl ⟨rfl, rfl⟩)⟩
  · exact ⟨29, Or.inr (Or.inr ⟨rfl, rfl⟩)⟩
  · omega
theorem take_len (V : List Int32) (ii : Nat) : (ents (V.take ii)).length ≤ V.length := by
  have h1 : (ents V).length ≤ V.length := List.length_filter_le _ _
  have := congrArg List.length (ents_split V ii); rw [List.length_append] at this; omega
theorem nd_take {V : List Int32} {ii : Nat} (nd : (ents V).Nodup) (il : ii < V.length) (h0 : vat V ii ≠ -1) : vat V ii ∉ ents (V.take ii) := by
  intro q
  rw [ents_split V (ii + 1), ents_take_ne il h0] at nd
  have := (List.nodup_append.mp (List.nodup_append.mp nd).1).2.2
  exact this _ q _ (List.mem_singleton.mpr rfl) rfl
theorem stepS {N ii k : Nat} {sh : Int32} {V U : List Int32} (I : InvS N sh U) (p : (ents U).Perm (ents (V.take ii))) (nd : (ents V).Nodup) (il : ii < V.length) (h0 : vat V ii ≠ -1) (F : Fnd N sh (vat V ii) U k) :
    InvS N sh (U.set k (vat V ii)) ∧ (ents (U.set k (vat V ii))).Perm (ents (V.take (ii + 1))) := by
  have hne : vat U k ≠ vat V ii := fun q => nd_take nd il h0 (p.mem_iff.mp (F.mem I q h0))
  obtain ⟨h1, -, h3⟩ := F.ins I hne h0
  refine ⟨h1, h3.trans ?_⟩
  rw [ents_take_ne il h0]
  exact (List.Perm.cons _ p).trans (List.perm_append_comm (l₁ := [vat V ii]))
theorem skipS {ii : Nat} {V U : List Int32} (p : (ents U).Perm (ents (V.take ii))) (il : ii < V.length) (h0 : vat V ii = -1) : (ents U).Perm (ents (V.take (ii + 1))) := by
  rw [ents_take_zero il h0]; exact p
/-! the walk over the set -/
def pr : List Int32 ⊕ List Int64 → Nat → Prop
  | .inl V, q => q < V.length ∧ vat V q ≠ -1
  | .inr W, q => bit W q = true
def en : List Int32 ⊕ List Int64 → Nat → Int32
  | .inl V, q => vat V q
  | .inr _, q => Int32.ofNat q
def View (M : List Int32 ⊕ List Int64) (xs : List Int32) : Prop :=
  (∀ q, pr M q → q < 256 ∧ en M q ∈ xs) ∧ (∀ q q', pr M q → pr M q' → en M q = en M q' → q = q') ∧ ∀ x ∈ xs, ∃ q, pr M q ∧ en M q = x
theorem bit_lt {W : List Int64} {q : Nat} (h : bit W q = true) : q < 64 * W.length := by
  apply Classical.byContradiction
  intro g
  have : wat W (q / 64) = 0 := by
    unfold wat; rw [List.getD_eq_getElem?_getD, List.getElem?_eq_none (by omega)]; rfl
  unfold bit at h; rw [this, bit_zero] at h; cases h
theorem RepM.view {Z : State} {n0 : Nat} {h : Heap} {b : Addr} {nn : Nat} {xs : List Int32} {M : List Int32 ⊕ List Int64} (R : RepM Z n0 h b nn xs M) (X : XsOk nn xs) (hn : nn ≤ 256) : View M xs := by
  cases M with
  | inl V =>
    obtain ⟨_, sh, -, -, -, -, I, pm, -⟩ := R
    refine ⟨fun q g => ⟨by have := I.sz.pos.2; have := g.1; omega, pm.mem_iff.mp (ents_mem.mpr ⟨q, g.1, rfl, g.2⟩)⟩, fun q q' g g' e => ents_inj I.nd g.1 g'.1 g.2 e, fun x hx => ?_⟩
    obtain ⟨j, h1, h2, h3⟩ := ents_mem.mp (pm.mem_iff.mpr hx)
    exact ⟨j, ⟨h1, by rw [h2]; exact h3⟩, h2⟩
  | inr W =>
    obtain ⟨_, -, -, -, -, I⟩ := R
    have w4 := wc_le hn
    have b1 : ∀ q, bit W q = true → q < 64 * wcN nn := fun q g => by rw [← I.1]; exact bit_lt g
    refine ⟨fun q g => ⟨by have := b1 q g; omega, (I.2 q (b1 q g)).mp g⟩, fun q q' g g' e => ofNat_inj (by have := b1 q g; omega) (by have := b1 q' g'; omega) e, fun x hx => ?_⟩
    obtain ⟨e, he, rfl⟩ := X.2 x hx
    exact ⟨e, (I.2 e (by omega)).mpr hx, rfl⟩
def Aft (M : List Int32 ⊕ List Int64) (t : Nat) (z : Int32) : Prop :=
  (z = -1 ∧ ∀ x, t ≤ x → ¬ pr M x) ∨ ∃ y, z = Int32.ofNat y ∧ t ≤ y ∧ pr M y ∧ ∀ x, t ≤ x → x < y → ¬ pr M x
def Cov (M : List Int32 ⊕ List Int64) (ys : List Nat) (t : Nat) : Prop := ys.Nodup ∧ (∀ y ∈ ys, pr M y ∧ y < t) ∧ ∀ x, x < t → pr M x → x ∈ ys
theorem Cov.nil (M : List Int32 ⊕ List Int64) : Cov M [] 0 := ⟨List.nodup_nil, fun y q => (by cases q), fun x q => absurd q (Nat.not_lt_zero _)⟩
theorem Aft.ex {M : List Int32 ⊕ List Int64} {t : Nat} {z : Int32} (A : Aft M t z) (h : ¬ z = -1) : ∃ y, z = Int32.ofNat y ∧ t ≤ y ∧ pr M y ∧ ∀ x, t ≤ x → x < y → ¬ pr M x := A.resolve_left (fun q => h q.1)
theorem Cov.next {M : List Int32 ⊕ List Int64} {ys : List Nat} {t y : Nat} (K : Cov M ys t) (h1 : t ≤ y) (h2 : pr M y) (h3 : ∀ x, t ≤ x → x < y → ¬ pr M x) : Cov M (y :: ys) (y + 1) := by
  refine ⟨List.nodup_cons.mpr ⟨fun q => ?_, K.1⟩, fun x q => ?_, fun x hx px => ?_⟩
  · have := (K.2.1 y q).2; omega
  · rcases List.mem_cons.mp q with rfl | q
    · exact ⟨h2, Nat.lt_succ_self _⟩
    · exact ⟨(K.2.1 x q).1, by have := (K.2.1 x q).2; omega⟩
  · by_cases g : x < t
    · exact List.mem_cons_of_mem _ (K.2.2 x g px)
    · by_cases g2 : x < y
      · exact absurd px (h3 x (by omega) g2)
      · have : x = y := by omega
        rw [this]; exact List.mem_cons_self
theorem sub_len {xs ys : List Int32} (nd : xs.Nodup) (h : ∀ x ∈ xs, x ∈ ys) : xs.length ≤ ys.length := by
  induction xs generalizing ys with
  | nil => exact Nat.zero_le _
  | cons x xs ih =>
    have hx := h x List.mem_cons_self
    have := ih (ys := ys.erase x) (List.nodup_cons.mp nd).2 (fun z hz => (List.mem_erase_of_ne (fun q => (List.nodup_cons.mp nd).1 (by rw [← q]; exact hz))).mpr (h z (List.mem_cons_of_mem _ hz)))
    rw [List.length_erase_of_mem hx] at this
    have : 0 < ys.length := List.length_pos_of_mem hx
    rw [List.length_cons]; omega
theorem Cov.more {M : List Int32 ⊕ List Int64} {ys : List Nat} {t : Nat} {z : Int32} {nn : Nat} {xs : List Int32} (K : Cov M ys t) (Vw : View M xs) (X : XsOk nn xs) (h : ys.length < xs.length) (A : Aft M t z) : ¬ z = -1 := fun e => by
  rcases A with ⟨-, A⟩ | ⟨y, rfl, h1, h2, -⟩
  · have := sub_len (ys := ys.map (en M)) X.1 (fun x hx => by
      obtain ⟨q, q1, q2⟩ := Vw.2.2 x hx
      have : q < t := Nat.lt_of_not_le (fun g => A q g q1)
      exact List.mem_map.mpr ⟨q, K.2.2 q this q1, q2⟩)
    rw [List.length_map] at this; omega
  · exact ofNat_ne (by have := (Vw.1 y h2).1; omega) e
theorem en_nodup {M : List Int32 ⊕ List Int64} {xs : List Int32} {ys : List Nat} (Vw : View M xs) (nd : ys.Nodup) (h : ∀ y ∈ ys, pr M y) : (ys.map (en M)).Nodup := by
  induction ys with
  | nil => exact List.nodup_nil
  | cons y ys ih =>
    rw [List.map_cons]
    refine List.nodup_cons.mpr ⟨fun q => ?_, ih (List.nodup_cons.mp nd).2 (fun z hz => h z (List.mem_cons_of_mem _ hz))⟩
    obtain ⟨z, hz, e⟩ := List.mem_map.mp q
    have := Vw.2.1 z y (h z (List.mem_cons_of_mem _ hz)) (h y List.mem_cons_self) e
    exact (List.nodup_cons.mp nd).1 (by rw [← this]; exact hz)
theorem Cov.none {M : List Int32 ⊕ List Int64} {ys : List Nat} {t : Nat} {z : Int32} {xs : List Int32} (K : Cov M ys t) (Vw : View M xs) (h : ys.length = xs.length) (A : Aft M t z) : z = -1 := by
  apply Classical.byContradiction
  intro g
  obtain ⟨y, -, h1, h2, h3⟩ := A.ex g
  have K' := K.next h1 h2 h3
  have := sub_len (xs := (y :: ys).map (en M)) (ys := xs) (en_nodup Vw K'.1 (fun z hz => (K'.2.1 z hz).1)) (fun x hx => by
    obtain ⟨q, q1, q2⟩ := List.mem_map.mp hx
    rw [← q2]; exact (Vw.1 q (K'.2.1 q q1).1).2)
  rw [List.length_map, List.length_cons] at this; omega
theorem en_ne {M : List Int32 ⊕ List Int64} {xs : List Int32} {y y' : Nat} (Vw : View M xs) (h : pr M y) (h' : pr M y') (n : y < y') : ¬ en M y = en M y' := fun e => by have := Vw.2.1 y y' h h' e; omega
theorem inD_ok {z z1 z2 z3 u : Int32} (h : z = z1 ∨ z = z2 ∨ (u ≠ 0 ∧ z = z3)) : ¬ inD z z1 z2 z3 u = 0 := by
  unfold inD inD_20 inD_24
  have n10 : ¬ (1 : Int32) = 0 := by decide
  rcases h with rfl | rfl | ⟨hu, rfl⟩
  · simp
  · by_cases g : z = z1 <;> simp [g]
  · by_cases g : z = z1 <;> by_cases g2 : z = z2 <;> simp [g, g2, hu]
/-! numberOfTrailingZeros -/
theorem ntz_q : ∀ t : Fin 32, ∀ x : Fin 1, (fun y : Int32 => if 0 < y then (if (65536 : Int32) < y then ntz32_34 0 ((y.toUInt32 >>> ((16 : Int32) &&& 31).toUInt32).toInt32) (17 : Int32) else ntz32_34 0 y (1 : Int32)) else (y &&& (32 : Int32))) (Int32.ofNat (2 ^ t.1 - 1)) = Int32.ofNat t.1 := by decide +kernel
theorem ntz32_eq (x : Int32) : ntz32 x = (fun y : Int32 => if 0 < y then (if (65536 : Int32) < y then ntz32_34 0 ((y.toUInt32 >>> ((16 : Int32) &&& 31).toUInt32).toInt32) (17 : Int32) else ntz32_34 0 y (1 : Int32)) else (y &&& (32 : Int32))) ((x ^^^ (-1 : Int32)) &&& (x - (1 : Int32))) := rfl
theorem ntz32_ok {x : Int32} {t : Nat} (ht : t < 32) (h1 : x.toBitVec.getLsbD t = true) (h2 : ∀ i, i < t → x.toBitVec.getLsbD i = false) : ntz32 x = Int32.ofNat t := by
  rw [ntz32_eq, low_mask32 ht h1 h2]; exact ntz_q ⟨t, ht⟩ 0
theorem lo_bits (x : Int64) (i : Nat) (hi : i < 32) : x.toInt32.toBitVec.getLsbD i = bitL x i := by
  show (x.toBitVec.signExtend 32).getLsbD i = _
  rw [BitVec.signExtend_eq_setWidth_of_le _ (by decide), BitVec.getLsbD_setWidth]; simp [hi, bitL]
theorem hi_bits (x : Int64) (i : Nat) (hi : i < 32) : (((x.toUInt64 >>> ((32 : Int32) &&& 0x3f).toInt64.toUInt64).toInt64).toInt32).toBitVec.getLsbD i = bitL x (32 + i) := by
  show ((x.toBitVec >>> 32).signExtend 32).getLsbD i = _
  rw [BitVec.signExtend_eq_setWidth_of_le _ (by decide), BitVec.getLsbD_setWidth, BitVec.getLsbD_ushiftRight]; simp [hi, bitL]
theorem ntz64_ok {x : Int64} (h : x ≠ 0) : ∃ t, t < 64 ∧ ntz64 x = Int32.ofNat t ∧ bitL x t = true ∧ ∀ i, i < t → bitL x i = false := by
  obtain ⟨t, h1, h2, h3⟩ := low_bit x.toBitVec (fun q => h (bv64 q))
  refine ⟨t, h1, ?_, h2, h3⟩
  unfold ntz64
  by_cases g : t < 32
  · have e : ¬ x.toInt32 = 0 := fun q => by
      have := lo_bits x t g
      rw [q] at this
      rw [show bitL x t = true from h2] at this
      exact absurd this (by rw [show (0 : Int32).toBitVec = 0#32 from rfl, BitVec.getLsbD_zero]; decide)
    rw [if_neg e]
    exact ntz32_ok g ((lo_bits x t g).trans h2) (fun i hi => (lo_bits x i (by omega)).trans (h3 i hi))
  · have e : x.toInt32 = 0 := by
      apply bv32; apply BitVec.eq_of_getLsbD_eq; intro i hi
      rw [lo_bits x i hi, show bitL x i = false from h3 i (by omega)]
      exact BitVec.getLsbD_zero.symm
    rw [if_pos e, ntz32_ok (t := t - 32) (by omega) ((hi_bits x (t - 32) (by omega)).trans (by rw [show 32 + (t - 32) = t by omega]; exact h2)) (fun i hi => (hi_bits x i (by omega)).trans (h3 _ (by omega)))]
    rw [show (32 : Int32) = Int32.ofNat 32 from rfl, ← Int32.ofNat_add]; congr 1; omega
/-- the bits of the word w that are looked at -/
def BW (W : List Int64) (t w : Nat) (x : Int64) : Prop := ∀ i, i < 64 → bitL x i = (bit W (64 * w + i) && decide (t ≤ 64 * w + i))
theorem BW.first {W : List Int64} {t : Nat} (ht : t < 512) : BW W t (t / 64) (wat W (t / 64) &&& mone t) := fun i hi => by
  rw [bit_and, mone_bit ht hi]
  have e1 : (64 * (t / 64) + i) / 64 = t / 64 := by omega
  have e2 : (64 * (t / 64) + i) % 64 = i := by omega
  rw [bit, e1, e2]
  congr 1
  apply decide_eq_decide.mpr; omega
theorem BW.later {W : List Int64} {t w : Nat} (h : t ≤ 64 * w) : BW W t w (wat W w) := fun i hi => by
  have e1 : (64 * w + i) / 64 = w := by omega
  have e2 : (64 * w + i) % 64 = i := by omega
  have e3 : t ≤ 64 * w + i := by omega
  rw [bit, e1, e2]; simp [e3]
theorem BW.none {W : List Int64} {t w : Nat} (B : BW W t w 0) (h : ∀ x, t ≤ x → x < 64 * w → ¬ bit W x = true) : ∀ x, t ≤ x → x < 64 * (w + 1) → ¬ bit W x = true := fun x h1 h2 q => by
  by_cases g : x < 64 * w
  · exact h x h1 g q
  · have := B (x - 64 * w) (by omega)
    rw [bit_zero, show 64 * w + (x - 64 * w) = x by omega, q] at this
    simp [h1] at this
theorem BW.some {W : List Int64} {t w : Nat} {x : Int64} (B : BW W t w x) (hw : w ≤ 4) (h : ∀ y, t ≤ y → y < 64 * w → ¬ bit W y = true) (hx : x ≠ 0) : Aft (.inr W) t ((Int32.ofNat w * (64 : Int32)) + ntz64 x) := by
  obtain ⟨i, h1, h2, h3, h4⟩ := ntz64_ok hx
  have h5 := B i h1
  rw [h3] at h5
  have h6 : bit W (64 * w + i) = true ∧ t ≤ 64 * w + i := by simpa using h5.symm
  refine Or.inr ⟨64 * w + i, ?_, h6.2, h6.1, fun y y1 y2 => ?_⟩
  · rw [h2, show (64 : Int32) = Int32.ofNat 64 from rfl, ← Int32.ofNat_mul, ← Int32.ofNat_add, Nat.mul_comm]
  · by_cases g : y < 64 * w
    · exact h y y1 g
    · intro q
      have q' : bit W y = true := q
      have := B (y - 64 * w) (by omega)
      rw [h4 _ (by omega), show 64 * w + (y - 64 * w) = y by omega, q'] at this
      simp [y1] at this
theorem d7_0 : decode prog_51_method_5_code 0 = .ok (.aload_n 0, 1) := by decide +kernel
theorem d7_1 : decode prog_51_method_5_code 1 = .ok (.getfield 20, 3) := by decide +kernel
theorem d7_4 : decode prog_51_method_5_code 4 = .ok (.ifnull 49, 3) := by decide +kernel
theorem d7_7 : decode prog_51_method_5_code 7 = .ok (.iload_n 1, 1) := by decide +kernel
theorem d7_8 : decode prog_51_method_5_code 8 = .ok (.bipush 64, 2) := by decide +kernel
theorem d7_10 : decode prog_51_method_5_code 10 = .ok (.idiv, 1) := by decide +kernel
theorem d7_11 : decode prog_51_method_5_code 11 = .ok (.istore_n 2, 1) := by decide +kernel
theorem d7_12 : decode prog_51_method_5_code 12 = .ok (.lconst 1, 1) := by decide +kernel
theorem d7_13 : decode prog_51_method_5_code 13 = .ok (.iload_n 1, 1) := by decide +kernel
theorem d7_14 : decode prog_51_method_5_code 14 = .ok (.lshl, 1) := by decide +kernel
theorem d7_15 : decode prog_51_method_5_code 15 = .ok (.lstore_n 3, 1) := by decide +kernel
theorem d7_16 : decode prog_51_method_5_code 16 = .ok (.aload_n 0, 1) := by decide +kernel
theorem d7_17 : decode prog_51_method_5_code 17 = .ok (.getfield 20, 3) := by decide +kernel
theorem d7_20 : decode prog_51_method_5_code 20 = .ok (.iload_n 2, 1) := by decide +kernel
theorem d7_21 : decode prog_51_method_5_code 21 = .ok (.laload, 1) := by decide +kernel
theorem d7_22 : decode prog_51_method_5_code 22 = .ok (.lload_n 3, 1) := by decide +kernel
theorem d7_23 : decode prog_51_method_5_code 23 = .ok (.land, 1) := by decide +kernel
theorem d7_24 : decode prog_51_method_5_code 24 = .ok (.lconst 0, 1) := by decide +kernel
theorem d7_25 : decode prog_51_method_5_code 25 = .ok (.lcmp, 1) := by decide +kernel
theorem d7_26 : decode prog_51_method_5_code 26 = .ok (.ifCond .eq 5, 3) := by decide +kernel
theorem d7_29 : decode prog_51_method_5_code 29 = .ok (.iconst 0, 1) := by decide +kernel
theorem d7_30 : decode prog_51_method_5_code 30 = .ok (.ireturn, 1) := by decide +kernel
theorem d7_31 : decode prog_51_method_5_code 31 = .ok (.aload_n 0, 1) := by decide +kernel
theorem d7_32 : decode prog_51_method_5_code 32 = .ok (.getfield 20, 3) := by decide +kernel
theorem d7_35 : decode prog_51_method_5_code 35 = .ok (.iload_n 2, 1) := by decide +kernel
theorem d7_36 : decode prog_51_method_5_code 36 = .ok (.dup2, 1) := by decide +kernel
theorem d7_37 : decode prog_51_method_5_code 37 = .ok (.laload, 1) := by decide +kernel
theorem d7_38 : decode prog_51_method_5_code 38 = .ok (.lload_n 3, 1) := by decide +kernel
theorem d7_39 : decode prog_51_method_5_code 39 = .ok (.lor, 1) := by decide +kernel
theorem d7_40 : decode prog_51_method_5_code 40 = .ok (.lastore, 1) := by decide +kernel
theorem d7_41 : decode prog_51_method_5_code 41 = .ok (.aload_n 0, 1) := by decide +kernel
theorem d7_42 : decode prog_51_method_5_code 42 = .ok (.dup, 1) := by decide +kernel
theorem d7_43 : decode prog_51_method_5_code 43 = .ok (.getfield 39, 3) := by decide +kernel
theorem d7_46 : decode prog_51_method_5_code 46 = .ok (.iconst 1, 1) := by decide +kernel
theorem d7_47 : decode prog_51_method_5_code 47 = .ok (.iadd, 1) := by decide +kernel
theorem d7_48 : decode prog_51_method_5_code 48 = .ok (.putfield 39, 3) := by decide +kernel
theorem d7_51 : decode prog_51_method_5_code 51 = .ok (.iconst 1, 1) := by decide +kernel
theorem d7_52 : decode prog_51_method_5_code 52 = .ok (.ireturn, 1) := by decide +kernel
theorem d7_53 : decode prog_51_method_5_code 53 = .ok (.aload_n 0, 1) := by decide +kernel
theorem d7_54 : decode prog_51_method_5_code 54 = .ok (.iload_n 1, 1) := by decide +kernel
theorem d7_55 : decode prog_51_method_5_code 55 = .ok (.invokevirtual 50, 3) := by decide +kernel
theorem d7_58 : decode prog_51_method_5_code 58 = .ok (.istore_n 2, 1) := by decide +kernel
theorem d7_59 : decode prog_51_method_5_code 59 = .ok (.aload_n 0, 1) := by decide +kernel
theorem d7_60 : decode prog_51_method_5_code 60 = .ok (.getfield 28, 3) := by decide +kernel
theorem d7_63 : decode prog_51_method_5_code 63 = .ok (.iload_n 2, 1) := by decide +kernel
theorem d7_64 : decode prog_51_method_5_code 64 = .ok (.iaload, 1) := by decide +kernel
theorem d7_65 : decode prog_51_method_5_code 65 = .ok (.iload_n 1, 1) := by decide +kernel
theorem d7_66 : decode prog_51_method_5_code 66 = .ok (.if_icmp .ne 5, 3) := by decide +kernel
theorem d7_69 : decode prog_51_method_5_code 69 = .ok (.iconst 0, 1) := by decide +kernel
theorem d7_70 : decode prog_51_method_5_code 70 = .ok (.ireturn, 1) := by decide +kernel
theorem d7_71 : decode prog_51_method_5_code 71 = .ok (.iconst 2, 1) := by decide +kernel
theorem d7_72 : decode prog_51_method_5_code 72 = .ok (.aload_n 0, 1) := by decide +kernel
theorem d7_73 : decode prog_51_method_5_code 73 = .ok (.getfield 39, 3) := by decide +kernel
theorem d7_76 : decode prog_51_method_5_code 76 = .ok (.iconst 1, 1) := by decide +kernel
theorem d7_77 : decode prog_51_method_5_code 77 = .ok (.iadd, 1) := by decide +kernel
theorem d7_78 : decode prog_51_method_5_code 78 = .ok (.imul, 1) := by decide +kernel
theorem d7_79 : decode prog_51_method_5_code 79 = .ok (.aload_n 0, 1) := by decide +kernel
theorem d7_80 : decode prog_51_method_5_code 80 = .ok (.getfield 28, 3) := by decide +kernel
theorem d7_83 : decode prog_51_method_5_code 83 = .ok (.arraylength, 1) := by decide +kernel
theorem d7_84 : decode prog_51_method_5_code 84 = .ok (.if_icmp .le 13, 3) := by decide +kernel
theorem d7_97 : decode prog_51_method_5_code 97 = .ok (.aload_n 0, 1) := by decide +kernel
theorem d7_98 : decode prog_51_method_5_code 98 = .ok (.getfield 28, 3) := by decide +kernel
theorem d7_101 : decode prog_51_method_5_code 101 = .ok (.iload_n 2, 1) := by decide +kernel
theorem d7_102 : decode prog_51_method_5_code 102 = .ok (.iload_n 1, 1) := by decide +kernel
theorem d7_103 : decode prog_51_method_5_code 103 = .ok (.iastore, 1) := by decide +kernel
theorem d7_104 : decode prog_51_method_5_code 104 = .ok (.aload_n 0, 1) := by decide +kernel
theorem d7_105 : decode prog_51_method_5_code 105 = .ok (.dup, 1) := by decide +kernel
theorem d7_106 : decode prog_51_method_5_code 106 = .ok (.getfield 39, 3) := by decide +kernel
theorem d7_109 : decode prog_51_method_5_code 109 = .ok (.iconst 1, 1) := by decide +kernel
theorem d7_110 : decode prog_51_method_5_code 110 = .ok (.iadd, 1) := by decide +kernel
theorem d7_111 : decode prog_51_method_5_code 111 = .ok (.putfield 39, 3) := by decide +kernel
theorem d7_114 : decode prog_51_method_5_code 114 = .ok (.iconst 1, 1) := by decide +kernel
theorem d7_115 : decode prog_51_method_5_code 115 = .ok (.ireturn, 1) := by decide +kernel
def rm_add0 : Room := { frames := 3, cells := 0, slots := 0, locals := 42 }
theorem pf_add0 : plainFor (⟨"com/example/rowan/rowan/policy/EntitySet", "add", "(I)Z"⟩ : MethodName) = true := plainFor_of_name (by first | (simp [plainName, overriddenIn]; done) | decide +kernel)
set_option maxRecDepth 65536 in
set_option maxHeartbeats 40000000 in
theorem ct_add0 {l : Launch} {Z : State} {a0 : Array Value} (hw : ∀ d ∈ tables_1, d.before a0 Z = true) (h0 : Heap) (n0 : Nat) (b : Addr) (ev : Nat) (nn : Nat) (xs : List Int32) (hz : n0 ≤ h0.size) (hnn : nn ≤ 256) (he : ev < nn) (X : XsOk nn xs) (hx2 : xs.length ≤ 2) (R0 : RepF Z n0 h0 b nn xs) (g_b : n0 ≤ b) :
    Ct l Z (⟨"com/example/rowan/rowan/policy/EntitySet", "add", "(I)Z"⟩ : MethodName) prog_51_method_5_code 5 (Option.some Jvm.ClassFile.FieldType.boolean) [] rm_add0 #[.ref b, .int (Int32.ofNat ev)] h0 n0 (fun v h => ∃ z, v = some (.int z) ∧ (RepE Z n0 h b nn (adds (Int32.ofNat ev) xs) ∧ n0 ≤ h.size)) := by
  refine Ct.of (Ls := #[.val (.ref b), .val (.int (Int32.ofNat ev)), .unset, .unset, .unset]) pf_add0 (fun m => by first | (simp [entryFrame, mkF, argsToLocals, Value.category, maxLocals]; done) | rfl) ?_
  intro p e s m below meth c C
  rcases R0 with ⟨V, R, hfit⟩ | ⟨W, R⟩
  · skip
    obtain ⟨sa, sh, O_b, O_sa, g_sa, ne_b_sa, I, pm, hcap⟩ := R
    have hk : Keep h0 h0 [b, sa] := Keep.refl _ _
    have hlt : (ents V).length < V.length := by rw [pm.length_eq]; have := I.sz.pos.1; omega
    refine w_aloadN (pc' := 1) C d7_0 rfl rfl rfl ?_
    refine w_getF (pc' := 4) C (tw hw 35 rfl) d7_1 rfl (O_b.fld 2 rfl) ?_
    refine w_ifnull_null (pc' := 53) C d7_4 (by decide) (by decide) ?_
    refine w_aloadN (pc' := 54) C d7_53 rfl rfl rfl ?_
    refine w_iloadN (pc' := 55) C d7_54 rfl rfl ?_
    refine w_callP (pc' := 58) (argsL := [.int (Int32.ofNat ev)]) (st := []) (W := 0) (ce' := 0) (sl' := 0) C (tw hw 37 rfl) (tw hw 38 rfl) (tw hw 2 rfl) (tw hw 39 rfl) (tw hw 3 rfl) (tw hw 40 rfl) (by decide) d7_55 rfl rfl (by decide) (by decide) (Nat.le_of_eq rfl) rfl rfl (by decide) (by decide) rfl (lenOf pd_1 rfl) O_b.1 (ct_slotOf hw h0 n0 b (Int32.ofNat ev) sa nn (Int32.ofNat xs.length) V V.length sh I hlt O_b O_sa) (kq (fun z1 qz1 => ?_))
    obtain ⟨k1, rfl, Fk1⟩ := qz1
    refine w_istoreN (pc' := 59) (Ls' := #[.val (.ref b), .val (.int (Int32.ofNat ev)), .val (.int (Int32.ofNat k1)), .unset, .unset]) C d7_58 rfl rfl ?_
    refine w_aloadN (pc' := 60) C d7_59 rfl rfl rfl ?_
    refine w_getF (pc' := 63) C (tw hw 28 rfl) d7_60 rfl (O_b.fld 1 rfl) ?_
    refine w_iloadN (pc' := 64) C d7_63 rfl rfl ?_
    refine wA_iaload (pc' := 65) (v := .int (vat V k1)) C d7_64 rfl O_sa (ix_nn (Nat.le_trans (Nat.le_of_lt Fk1.1) (Nat.le_trans I.sz.pos.2 (by decide)))) (mapI_get Fk1.1 (Nat.le_trans (Nat.le_of_lt Fk1.1) (Nat.le_trans I.sz.pos.2 (by decide)))) ?_
    refine w_iloadN (pc' := 66) C d7_65 rfl rfl ?_
    refine w_icmp_ne (pcT := 71) (pcF := 69) C d7_66 (by decide) (by decide) rfl (fun q66_1 => ?_) (fun q66_1 => ?_)
    · skip
      refine w_iconst (pc' := 72) (x := (2 : Int32)) C d7_71 rfl rfl ?_
      refine w_aloadN (pc' := 73) C d7_72 rfl rfl rfl ?_
      refine w_getF (pc' := 76) C (tw hw 51 rfl) d7_73 rfl (O_b.fld 3 rfl) ?_
      refine w_iconst (pc' := 77) (x := (1 : Int32)) C d7_76 rfl rfl ?_
      refine w_iadd (pc' := 78) C d7_77 rfl ?_
      refine w_imul (pc' := 79) C d7_78 rfl ?_
      refine w_eqI (two_len xs.length) ?_
      refine w_aloadN (pc' := 80) C d7_79 rfl rfl rfl ?_
      refine w_getF (pc' := 83) C (tw hw 28 rfl) d7_80 rfl (O_b.fld 1 rfl) ?_
      refine wA_alen (pc' := 84) (n := (Int32.ofNat V.length)) C d7_83 rfl O_sa (len_I rfl) ?_
      refine w_icmp_le (pcT := 97) (pcF := 87) C d7_84 (by decide) (by decide) rfl (fun q84_2 => ?_) (fun q84_2 => ?_)
      · skip
        refine w_aloadN (pc' := 98) C d7_97 rfl rfl rfl ?_
        refine w_getF (pc' := 101) C (tw hw 28 rfl) d7_98 rfl (O_b.fld 1 rfl) ?_
        refine w_iloadN (pc' := 102) C d7_101 rfl rfl ?_
        refine w_iloadN (pc' := 103) C d7_102 rfl rfl ?_
        refine wA_iastore (pc' := 104) C d7_103 rfl g_sa O_sa (ix_nn (Nat.le_trans (Nat.le_of_lt Fk1.1) (Nat.le_trans I.sz.pos.2 (by decide)))) (mapI_len Fk1.1 (Nat.le_trans (Nat.le_of_lt Fk1.1) (Nat.le_trans I.sz.pos.2 (by decide)))) (fun h1 W1 A1 => ?_)
        have O_sa : Ar Z h1 sa .int ((V.set k1 (Int32.ofNat ev)).map Value.int) := (arI_set (Nat.le_trans (Nat.le_of_lt Fk1.1) (Nat.le_trans I.sz.pos.2 (by decide))) A1)
        have O_b := O_b.other W1 ne_b_sa
        have hz : n0 ≤ h1.size := by rw [W1.size]; exact hz
        have hk := hk.wr W1 (Or.inl (by simp))
        refine w_aloadN (pc' := 105) C d7_104 rfl rfl rfl ?_
        refine w_dup (pc' := 106) C d7_105 rfl rfl ?_
        refine w_getF (pc' := 109) C (tw hw 51 rfl) d7_106 rfl (O_b.fld 3 rfl) ?_
        refine w_iconst (pc' := 110) (x := (1 : Int32)) C d7_109 rfl rfl ?_
        refine w_iadd (pc' := 111) C d7_110 rfl ?_
        refine w_putF (pc' := 114) (ty := .int) C (tw hw 51 rfl) (Or.inl (tw hw 52 rfl)) (tw hw 2 rfl) (by decide) rfl rfl d7_111 rfl g_b (O_b.fld 3 rfl) O_b.1 (fun h2 W2 => ?_)
        have O_b : Obj Z h2 b "com/example/rowan/rowan/policy/EntitySet" [("entities", "I", .int (Int32.ofNat nn)), ("slots", "[I", .ref sa), ("words", "[J", .null), ("size", "I", .int ((Int32.ofNat xs.length) + (1 : Int32)))] := O_b.put 3 rfl W2 rfl
        have O_sa := O_sa.other W2 (Ne.symm ne_b_sa)
        have hz : n0 ≤ h2.size := by rw [W2.size]; exact hz
        have hk := hk.wr W2 (Or.inl (by simp))
        refine w_iconst (pc' := 115) (x := (1 : Int32)) C d7_114 rfl rfl ?_
        refine w_retN' (t := .boolean) (z' := (1 : Int32)) C rfl (by simp) d7_115 (by decide) (by decide) narB1 ?_
        obtain ⟨I', ni, pm'⟩ := Fk1.ins I q66_1 (ofNat_ne (by omega))
        have nx : Int32.ofNat ev ∉ xs := fun z => ni (pm.mem_iff.mpr z)
        have fit : 2 * (xs.length + 1) ≤ V.length := by have := q84_2; rw [lt_ix (Nat.le_trans I.sz.pos.2 (by decide)) (by omega)] at this; omega
        exact ⟨_, rfl, ⟨.inl (V.set k1 (Int32.ofNat ev)), sa, sh, by rw [adds_out nx, List.length_cons, ← ofNat_succ]; exact O_b, O_sa, g_sa, ne_b_sa, by rw [List.length_set]; exact I', by rw [adds_out nx]; exact pm'.trans (List.Perm.cons _ pm), by rw [adds_out nx, List.length_set, List.length_cons]; exact fit⟩, hz⟩
      · skip
        have big : V.length < 2 * (xs.length + 1) := by have := q84_2; rw [lt_ix (Nat.le_trans I.sz.pos.2 (by decide)) (by omega)] at this; exact this
        exact absurd hfit (by omega)
    · skip
      refine w_iconst (pc' := 70) (x := (0 : Int32)) C d7_69 rfl rfl ?_
      refine w_retN' (t := .boolean) (z' := (0 : Int32)) C rfl (by simp) d7_70 (by decide) (by decide) narB0 ?_
      exact ⟨_, rfl, leafA (pm.mem_iff.mp (Fk1.mem I q66_1 (ofNat_ne (by omega)))) ⟨sa, sh, O_b, O_sa, g_sa, ne_b_sa, I, pm, hcap⟩, hz⟩
  · skip
    obtain ⟨wa, O_b, O_wa, g_wa, ne_b_wa, J⟩ := R
    have hk : Keep h0 h0 [b, wa] := Keep.refl _ _
    have w4 := wc_le hnn
    have eb : ev < 64 * wcN nn := by omega
    have ew : ev / 64 < W.length := by rw [J.1]; omega
    refine w_aloadN (pc' := 1) C d7_0 rfl rfl rfl ?_
    refine w_getF (pc' := 4) C (tw hw 35 rfl) d7_1 rfl (O_b.fld 2 rfl) ?_
    refine w_ifnull_ref (pc' := 7) C d7_4 rfl ?_
    refine w_iloadN (pc' := 8) C d7_7 rfl rfl ?_
    refine w_bipush (pc' := 10) (x := (64 : Int32)) C d7_8 rfl rfl ?_
    refine w_idiv (pc' := 11) C d7_10 (by decide) rfl ?_
    refine w_eqI (div64 (by omega)) ?_
    refine w_istoreN (pc' := 12) (Ls' := #[.val (.ref b), .val (.int (Int32.ofNat ev)), .val (.int (Int32.ofNat (ev / 64))), .unset, .unset]) C d7_11 rfl rfl ?_
    refine w_lconst (pc' := 13) (x := (1 : Int64)) C d7_12 rfl rfl ?_
    refine w_iloadN (pc' := 14) C d7_13 rfl rfl ?_
    refine w_lshl (pc' := 15) C d7_14 rfl ?_
    refine w_lstoreN (pc' := 16) (Ls' := #[.val (.ref b), .val (.int (Int32.ofNat ev)), .val (.int (Int32.ofNat (ev / 64))), .val (.long ((1 : Int64) <<< ((Int32.ofNat ev) &&& 0x3f).toInt64)), .second]) C d7_15 rfl rfl ?_
    refine w_aloadN (pc' := 17) C d7_16 rfl rfl rfl ?_
    refine w_getF (pc' := 20) C (tw hw 35 rfl) d7_17 rfl (O_b.fld 2 rfl) ?_
    refine w_iloadN (pc' := 21) C d7_20 rfl rfl ?_
    refine wA_laload (pc' := 22) (v := .long (wat W (ev / 64))) C d7_21 rfl O_wa (ix_nn (by omega)) (mapL_get ew (by omega)) ?_
    refine w_lloadN (pc' := 23) C d7_22 rfl rfl ?_
    refine w_land (pc' := 24) C d7_23 rfl ?_
    refine w_lconst (pc' := 25) (x := (0 : Int64)) C d7_24 rfl rfl ?_
    refine w_lcmp (pc' := 26) C d7_25 rfl ?_
    refine w_if_eq (pcT := 31) (pcF := 29) C d7_26 (by decide) (by decide) rfl (fun q26_3 => ?_) (fun q26_3 => ?_)
    · skip
      refine w_aloadN (pc' := 32) C d7_31 rfl rfl rfl ?_
      refine w_getF (pc' := 35) C (tw hw 35 rfl) d7_32 rfl (O_b.fld 2 rfl) ?_
      refine w_iloadN (pc' := 36) C d7_35 rfl rfl ?_
      refine w_dup2 (pc' := 37) C d7_36 rfl rfl rfl ?_
      refine wA_laload (pc' := 38) (v := .long (wat W (ev / 64))) C d7_37 rfl O_wa (ix_nn (by omega)) (mapL_get ew (by omega)) ?_
      refine w_lloadN (pc' := 39) C d7_38 rfl rfl ?_
      refine w_lor (pc' := 40) C d7_39 rfl ?_
      refine wA_lastore (pc' := 41) C d7_40 rfl g_wa O_wa (ix_nn (by omega)) (mapL_len ew (by omega)) (fun h3 W3 A3 => ?_)
      have O_wa : Ar Z h3 wa .long ((setb W ev).map Value.long) := (arL_set (by omega) A3)
      have O_b := O_b.other W3 ne_b_wa
      have hz : n0 ≤ h3.size := by rw [W3.size]; exact hz
      have hk := hk.wr W3 (Or.inl (by simp))
      refine w_aloadN (pc' := 42) C d7_41 rfl rfl rfl ?_
      refine w_dup (pc' := 43) C d7_42 rfl rfl ?_
      refine w_getF (pc' := 46) C (tw hw 51 rfl) d7_43 rfl (O_b.fld 3 rfl) ?_
      refine w_iconst (pc' := 47) (x := (1 : Int32)) C d7_46 rfl rfl ?_
      refine w_iadd (pc' := 48) C d7_47 rfl ?_
      refine w_putF (pc' := 51) (ty := .int) C (tw hw 51 rfl) (Or.inl (tw hw 52 rfl)) (tw hw 2 rfl) (by decide) rfl rfl d7_48 rfl g_b (O_b.fld 3 rfl) O_b.1 (fun h4 W4 => ?_)
      have O_b : Obj Z h4 b "com/example/rowan/rowan/policy/EntitySet" [("entities", "I", .int (Int32.ofNat nn)), ("slots", "[I", .null), ("words", "[J", .ref wa), ("size", "I", .int ((Int32.ofNat xs.length) + (1 : Int32)))] := O_b.put 3 rfl W4 rfl
      have O_wa := O_wa.other W4 (Ne.symm ne_b_wa)
      have hz : n0 ≤ h4.size := by rw [W4.size]; exact hz
      have hk := hk.wr W4 (Or.inl (by simp))
      refine w_iconst (pc' := 52) (x := (1 : Int32)) C d7_51 rfl rfl ?_
      refine w_retN' (t := .boolean) (z' := (1 : Int32)) C rfl (by simp) d7_52 (by decide) (by decide) narB1 ?_
      have nx := outW J eb (by omega) (cmp0 q26_3)
      exact ⟨_, rfl, ⟨.inr (setb W ev), wa, by rw [adds_out nx, List.length_cons, ← ofNat_succ]; exact O_b, O_wa, g_wa, ne_b_wa, by rw [adds_out nx]; exact setW J eb (by omega)⟩, hz⟩
    · skip
      refine w_iconst (pc' := 30) (x := (0 : Int32)) C d7_29 rfl rfl ?_
      refine w_retN' (t := .boolean) (z' := (0 : Int32)) C rfl (by simp) d7_30 (by decide) (by decide) narB0 ?_
      exact ⟨_, rfl, leafC (inW J eb (by omega) (cmpn q26_3)) ⟨wa, O_b, O_wa, g_wa, ne_b_wa, J⟩, hz⟩
theorem d14_0 : decode prog_51_method_19_code 0 = .ok (.aload_n 0, 1) := by decide +kernel
theorem d14_1 : decode prog_51_method_19_code 1 = .ok (.getfield 28, 3) := by decide +kernel
theorem d14_4 : decode prog_51_method_19_code 4 = .ok (.astore_n 1, 1) := by decide +kernel
theorem d14_5 : decode prog_51_method_19_code 5 = .ok (.iconst 2, 1) := by decide +kernel
theorem d14_6 : decode prog_51_method_19_code 6 = .ok (.aload_n 1, 1) := by decide +kernel
theorem d14_7 : decode prog_51_method_19_code 7 = .ok (.arraylength, 1) := by decide +kernel
theorem d14_8 : decode prog_51_method_19_code 8 = .ok (.imul, 1) := by decide +kernel
theorem d14_9 : decode prog_51_method_19_code 9 = .ok (.aload_n 0, 1) := by decide +kernel
theorem d14_10 : decode prog_51_method_19_code 10 = .ok (.invokevirtual 13, 3) := by decide +kernel
theorem d14_13 : decode prog_51_method_19_code 13 = .ok (.if_icmp .le 68, 3) := by decide +kernel
theorem d14_16 : decode prog_51_method_19_code 16 = .ok (.aload_n 0, 1) := by decide +kernel
theorem d14_17 : decode prog_51_method_19_code 17 = .ok (.aload_n 0, 1) := by decide +kernel
theorem d14_18 : decode prog_51_method_19_code 18 = .ok (.invokevirtual 17, 3) := by decide +kernel
theorem d14_21 : decode prog_51_method_19_code 21 = .ok (.newarray .long, 2) := by decide +kernel
theorem d14_23 : decode prog_51_method_19_code 23 = .ok (.putfield 20, 3) := by decide +kernel
theorem d14_26 : decode prog_51_method_19_code 26 = .ok (.aload_n 0, 1) := by decide +kernel
theorem d14_27 : decode prog_51_method_19_code 27 = .ok (.aconst_null, 1) := by decide +kernel
theorem d14_28 : decode prog_51_method_19_code 28 = .ok (.putfield 28, 3) := by decide +kernel
theorem d14_31 : decode prog_51_method_19_code 31 = .ok (.aload_n 1, 1) := by decide +kernel
theorem d14_32 : decode prog_51_method_19_code 32 = .ok (.astore_n 2, 1) := by decide +kernel
theorem d14_33 : decode prog_51_method_19_code 33 = .ok (.aload_n 2, 1) := by decide +kernel
theorem d14_34 : decode prog_51_method_19_code 34 = .ok (.arraylength, 1) := by decide +kernel
theorem d14_35 : decode prog_51_method_19_code 35 = .ok (.istore_n 3, 1) := by decide +kernel
theorem d14_36 : decode prog_51_method_19_code 36 = .ok (.iconst 0, 1) := by decide +kernel
theorem d14_37 : decode prog_51_method_19_code 37 = .ok (.istore 4, 2) := by decide +kernel
theorem d14_39 : decode prog_51_method_19_code 39 = .ok (.iload 4, 2) := by decide +kernel
theorem d14_41 : decode prog_51_method_19_code 41 = .ok (.iload_n 3, 1) := by decide +kernel
theorem d14_42 : decode prog_51_method_19_code 42 = .ok (.if_icmp .ge 38, 3) := by decide +kernel
theorem d14_45 : decode prog_51_method_19_code 45 = .ok (.aload_n 2, 1) := by decide +kernel
theorem d14_46 : decode prog_51_method_19_code 46 = .ok (.iload 4, 2) := by decide +kernel
theorem d14_48 : decode prog_51_method_19_code 48 = .ok (.iaload, 1) := by decide +kernel
theorem d14_49 : decode prog_51_method_19_code 49 = .ok (.istore 5, 2) := by decide +kernel
theorem d14_51 : decode prog_51_method_19_code 51 = .ok (.iload 5, 2) := by decide +kernel
theorem d14_53 : decode prog_51_method_19_code 53 = .ok (.iconst (-1), 1) := by decide +kernel
theorem d14_54 : decode prog_51_method_19_code 54 = .ok (.if_icmp .eq 20, 3) := by decide +kernel
theorem d14_57 : decode prog_51_method_19_code 57 = .ok (.aload_n 0, 1) := by decide +kernel
theorem d14_58 : decode prog_51_method_19_code 58 = .ok (.getfield 20, 3) := by decide +kernel
theorem d14_61 : decode prog_51_method_19_code 61 = .ok (.iload 5, 2) := by decide +kernel
theorem d14_63 : decode prog_51_method_19_code 63 = .ok (.bipush 64, 2) := by decide +kernel
theorem d14_65 : decode prog_51_method_19_code 65 = .ok (.idiv, 1) := by decide +kernel
theorem d14_66 : decode prog_51_method_19_code 66 = .ok (.dup2, 1) := by decide +kernel
theorem d14_67 : decode prog_51_method_19_code 67 = .ok (.laload, 1) := by decide +kernel
theorem d14_68 : decode prog_51_method_19_code 68 = .ok (.lconst 1, 1) := by decide +kernel
theorem d14_69 : decode prog_51_method_19_code 69 = .ok (.iload 5, 2) := by decide +kernel
theorem d14_71 : decode prog_51_method_19_code 71 = .ok (.lshl, 1) := by decide +kernel
theorem d14_72 : decode prog_51_method_19_code 72 = .ok (.lor, 1) := by decide +kernel
theorem d14_73 : decode prog_51_method_19_code 73 = .ok (.lastore, 1) := by decide +kernel
theorem d14_74 : decode prog_51_method_19_code 74 = .ok (.iinc 4 1, 3) := by decide +kernel
theorem d14_77 : decode prog_51_method_19_code 77 = .ok (.goto (-38), 3) := by decide +kernel
theorem d14_80 : decode prog_51_method_19_code 80 = .ok (.return_, 1) := by decide +kernel
theorem d14_81 : decode prog_51_method_19_code 81 = .ok (.aload_n 0, 1) := by decide +kernel
theorem d14_82 : decode prog_51_method_19_code 82 = .ok (.iconst 2, 1) := by decide +kernel
theorem d14_83 : decode prog_51_method_19_code 83 = .ok (.aload_n 1, 1) := by decide +kernel
theorem d14_84 : decode prog_51_method_19_code 84 = .ok (.arraylength, 1) := by decide +kernel
theorem d14_85 : decode prog_51_method_19_code 85 = .ok (.imul, 1) := by decide +kernel
theorem d14_86 : decode prog_51_method_19_code 86 = .ok (.invokestatic 24, 3) := by decide +kernel
theorem d14_89 : decode prog_51_method_19_code 89 = .ok (.putfield 28, 3) := by decide +kernel
theorem d14_92 : decode prog_51_method_19_code 92 = .ok (.aload_n 1, 1) := by decide +kernel
theorem d14_93 : decode prog_51_method_19_code 93 = .ok (.astore_n 2, 1) := by decide +kernel
theorem d14_94 : decode prog_51_method_19_code 94 = .ok (.aload_n 2, 1) := by decide +kernel
theorem d14_95 : decode prog_51_method_19_code 95 = .ok (.arraylength, 1) := by decide +kernel
theorem d14_96 : decode prog_51_method_19_code 96 = .ok (.istore_n 3, 1) := by decide +kernel
theorem d14_97 : decode prog_51_method_19_code 97 = .ok (.iconst 0, 1) := by decide +kernel
theorem d14_98 : decode prog_51_method_19_code 98 = .ok (.istore 4, 2) := by decide +kernel
theorem d14_100 : decode prog_51_method_19_code 100 = .ok (.iload 4, 2) := by decide +kernel
theorem d14_102 : decode prog_51_method_19_code 102 = .ok (.iload_n 3, 1) := by decide +kernel
theorem d14_103 : decode prog_51_method_19_code 103 = .ok (.if_icmp .ge 34, 3) := by decide +kernel
theorem d14_106 : decode prog_51_method_19_code 106 = .ok (.aload_n 2, 1) := by decide +kernel
theorem d14_107 : decode prog_51_method_19_code 107 = .ok (.iload 4, 2) := by decide +kernel
theorem d14_109 : decode prog_51_method_19_code 109 = .ok (.iaload, 1) := by decide +kernel
theorem d14_110 : decode prog_51_method_19_code 110 = .ok (.istore 5, 2) := by decide +kernel
theorem d14_112 : decode prog_51_method_19_code 112 = .ok (.iload 5, 2) := by decide +kernel
theorem d14_114 : decode prog_51_method_19_code 114 = .ok (.iconst (-1), 1) := by decide +kernel
theorem d14_115 : decode prog_51_method_19_code 115 = .ok (.if_icmp .eq 16, 3) := by decide +kernel
theorem d14_118 : decode prog_51_method_19_code 118 = .ok (.aload_n 0, 1) := by decide +kernel
theorem d14_119 : decode prog_51_method_19_code 119 = .ok (.getfield 28, 3) := by decide +kernel
theorem d14_122 : decode prog_51_method_19_code 122 = .ok (.aload_n 0, 1) := by decide +kernel
theorem d14_123 : decode prog_51_method_19_code 123 = .ok (.iload 5, 2) := by decide +kernel
theorem d14_125 : decode prog_51_method_19_code 125 = .ok (.invokevirtual 50, 3) := by decide +kernel
theorem d14_128 : decode prog_51_method_19_code 128 = .ok (.iload 5, 2) := by decide +kernel
theorem d14_130 : decode prog_51_method_19_code 130 = .ok (.iastore, 1) := by decide +kernel
theorem d14_131 : decode prog_51_method_19_code 131 = .ok (.iinc 4 1, 3) := by decide +kernel
theorem d14_134 : decode prog_51_method_19_code 134 = .ok (.goto (-34), 3) := by decide +kernel
theorem d14_137 : decode prog_51_method_19_code 137 = .ok (.return_, 1) := by decide +kernel
def rm_grow : Room := { frames := 3, cells := 1, slots := 8, locals := 43 }
theorem pf_grow : plainFor (⟨"com/example/rowan/rowan/policy/EntitySet", "grow", "()V"⟩ : MethodName) = true := plainFor_of_name (by first | (simp [plainName, overriddenIn]; done) | decide +kernel)
set_option maxRecDepth 65536 in
set_option maxHeartbeats 40000000 in
theorem ct_grow {l : Launch} {Z : State} {a0 : Array Value} (hw : ∀ d ∈ tables_1, d.before a0 Z = true) (h0 : Heap) (n0 : Nat) (b : Addr) (nn : Nat) (xs : List Int32) (sa : Addr) (V : List Int32) (N : Nat) (sh : Int32) (hz : n0 ≤ h0.size) (hnn : nn ≤ 256) (X : XsOk nn xs) (I : InvS N sh V) (pm : (ents V).Perm xs) (full : (N = 2 ∧ xs.length = 1) ∨ (N = 4 ∧ xs.length = 2)) (O_b : Obj Z h0 b "com/example/rowan/rowan/policy/EntitySet" [("entities", "I", .int (Int32.ofNat nn)), ("slots", "[I", .ref sa), ("words", "[J", .null), ("size", "I", .int (Int32.ofNat xs.length))]) (O_sa : Ar Z h0 sa .int (V.map Value.int)) (g_b : n0 ≤ b) (ne_b_sa : b ≠ sa) :
    Ct l Z (⟨"com/example/rowan/rowan/policy/EntitySet", "grow", "()V"⟩ : MethodName) prog_51_method_19_code 6 (Option.none : Option Jvm.ClassFile.FieldType) [] rm_grow #[.ref b] h0 n0 (fun v h => v = none ∧ (RepF Z n0 h b nn xs ∧ n0 ≤ h.size)) := by
  refine Ct.of (Ls := #[.val (.ref b), .unset, .unset, .unset, .unset, .unset]) pf_grow (fun m => by first | (simp [entryFrame, mkF, argsToLocals, Value.category, maxLocals]; done) | rfl) ?_
  intro p e s m below meth c C
  have hk : Keep h0 h0 [b] := Keep.refl _ _
  have w4 := wc_le hnn
  have hN4 : N ≤ 4 := by omega
  refine w_aloadN (pc' := 1) C d14_0 rfl rfl rfl ?_
  refine w_getF (pc' := 4) C (tw hw 28 rfl) d14_1 rfl (O_b.fld 1 rfl) ?_
  refine w_astoreN (pc' := 5) (Ls' := #[.val (.ref b), .val (.ref sa), .unset, .unset, .unset, .unset]) C d14_4 rfl rfl rfl ?_
  refine w_iconst (pc' := 6) (x := (2 : Int32)) C d14_5 rfl rfl ?_
  refine w_aloadN (pc' := 7) C d14_6 rfl rfl rfl ?_
  refine wA_alen (pc' := 8) (n := (Int32.ofNat N)) C d14_7 rfl O_sa (len_I I.len) ?_
  refine w_imul (pc' := 9) C d14_8 rfl ?_
  refine w_eqI (two_mul N) ?_
  refine w_aloadN (pc' := 10) C d14_9 rfl rfl rfl ?_
  refine w_callP (pc' := 13) (argsL := []) (st := [.int (Int32.ofNat (2 * N))]) (W := 1) (ce' := 0) (sl' := 0) C (tw hw 12 rfl) (tw hw 13 rfl) (tw hw 2 rfl) (tw hw 14 rfl) (tw hw 3 rfl) (tw hw 15 rfl) (by decide) d14_10 rfl rfl (by decide) (by decide) (Nat.le_of_eq rfl) rfl rfl (by decide) (by decide) rfl (lenOf pd_0 rfl) O_b.1 (ct_mostSlots hw h0 n0 b (Int32.ofNat nn) (.null : Value) (.ref sa : Value) (Int32.ofNat xs.length) O_b) (kp ?_)
  refine w_eqI (ms_eq hnn) ?_
  refine w_icmp_le (pcT := 81) (pcF := 16) C d14_13 (by decide) (by decide) rfl (fun q13_3 => ?_) (fun q13_3 => ?_)
  · skip
    refine w_aloadN (pc' := 82) C d14_81 rfl rfl rfl ?_
    refine w_iconst (pc' := 83) (x := (2 : Int32)) C d14_82 rfl rfl ?_
    refine w_aloadN (pc' := 84) C d14_83 rfl rfl rfl ?_
    refine wA_alen (pc' := 85) (n := (Int32.ofNat N)) C d14_84 rfl O_sa (len_I I.len) ?_
    refine w_imul (pc' := 86) C d14_85 rfl ?_
    refine w_eqI (two_mul N) ?_
    refine w_callS (pc' := 89) (argsL := [.int (Int32.ofNat (2 * N))]) (st := [.ref b]) (W := 1) (ce' := 1) (sl' := 8) C (tw hw 20 rfl) (tw hw 21 rfl) (tw hw 3 rfl) (tw hw 22 rfl) (by decide) d14_86 rfl rfl (by decide) (by decide) (Nat.le_of_eq rfl) rfl rfl (by decide) (by decide) rfl (lenOf pd_3 rfl) (ct_free hw h0 n0 (2 * N) hz (by omega)) (kx (fun c2 h2 q2 => ?_))
    obtain ⟨fb_c2, P2, K2⟩ := q2
    have g_c2 : n0 ≤ c2 := Nat.le_trans hz fb_c2
    have fr_c2 : h0.size ≤ c2 := Nat.le_trans hk.1 fb_c2
    have ne_b_c2 : b ≠ c2 := Nat.ne_of_lt (Nat.lt_of_lt_of_le O_b.lt fb_c2)
    have ne_sa_c2 : sa ≠ c2 := Nat.ne_of_lt (Nat.lt_of_lt_of_le O_sa.lt fb_c2)
    have O_b := O_b.keep K2 nin0
    have O_sa := O_sa.keep K2 nin0
    have hz : n0 ≤ h2.size := Nat.le_trans hz K2.1
    have hk := Keep.app hk K2 (fun x hx => Or.inl hx) all0
    have O_c2 := P2
    refine w_putF (pc' := 92) (ty := (.array .int)) C (tw hw 28 rfl) (Or.inl (tw hw 29 rfl)) (tw hw 2 rfl) (by decide) rfl rfl d14_89 rfl g_b (O_b.fld 1 rfl) O_b.1 (fun h3 W3 => ?_)
    have O_b : Obj Z h3 b "com/example/rowan/rowan/policy/EntitySet" [("entities", "I", .int (Int32.ofNat nn)), ("slots", "[I", .ref c2), ("words", "[J", .null), ("size", "I", .int (Int32.ofNat xs.length))] := O_b.put 1 rfl W3 rfl
    have O_sa := O_sa.other W3 (Ne.symm ne_b_sa)
    have O_c2 := O_c2.other W3 (Ne.symm ne_b_c2)
    have hz : n0 ≤ h3.size := by rw [W3.size]; exact hz
    have hk := hk.wr W3 (Or.inl (by simp))
    refine w_aloadN (pc' := 93) C d14_92 rfl rfl rfl ?_
    refine w_astoreN (pc' := 94) (Ls' := #[.val (.ref b), .val (.ref sa), .val (.ref sa), .unset, .unset, .unset]) C d14_93 rfl rfl rfl ?_
    refine w_aloadN (pc' := 95) C d14_94 rfl rfl rfl ?_
    refine wA_alen (pc' := 96) (n := (Int32.ofNat N)) C d14_95 rfl O_sa (len_I I.len) ?_
    refine w_istoreN (pc' := 97) (Ls' := #[.val (.ref b), .val (.ref sa), .val (.ref sa), .val (.int (Int32.ofNat N)), .unset, .unset]) C d14_96 rfl rfl ?_
    refine w_iconst (pc' := 98) (x := (0 : Int32)) C d14_97 rfl rfl ?_
    refine w_istore (pc' := 100) (Ls' := #[.val (.ref b), .val (.ref sa), .val (.ref sa), .val (.int (Int32.ofNat N)), .val (.int (0 : Int32)), .unset]) C d14_98 rfl rfl ?_
    obtain ⟨sb, esb⟩ : ∃ sb, sb = c2 := ⟨_, rfl⟩
    rw [← esb] at O_b O_c2 g_c2 ne_b_c2 ne_sa_c2
    have g_sb := g_c2
    have ne_b_sb := ne_b_c2
    have ne_sa_sb := ne_sa_c2
    obtain ⟨sh2, S2⟩ := sz2 I.sz hN4
    have L100 : ∀ (n ii : Nat) (U : List Int32) (y5 : Slot) (h : Heap), ii + n = N → (y5 = .unset ∨ ∃ w, y5 = .val w ∧ w.category = 1) → InvS (2 * N) sh2 U → (ents U).Perm (ents (V.take ii)) → n0 ≤ h.size → Obj Z h b "com/example/rowan/rowan/policy/EntitySet" [("entities", "I", .int (Int32.ofNat nn)), ("slots", "[I", .ref sb), ("words", "[J", .null), ("size", "I", .int (Int32.ofNat xs.length))] → Ar Z h sa .int (V.map Value.int) → Ar Z h sb .int (U.map Value.int) → Wp p l e rm_grow s m #[.ref b] below meth c n0 rm_grow.cells rm_grow.slots (fun v h => v = none ∧ (RepF Z n0 h b nn xs ∧ n0 ≤ h.size)) h 1 8 (mkF m 100 #[.val (.ref b), .val (.ref sa), .val (.ref sa), .val (.int (Int32.ofNat N)), .val (.int (Int32.ofNat ii)), y5] []) := by
      intro n
      induction n using Nat.strongRecOn with
      | _ n ih =>
        intro ii U y5 h hin ok_y5 I2 pu hz O_b O_sa O_sb
        have hk : Keep h h [b, sb] := Keep.refl _ _
        have hlt2 : (ents U).length < 2 * N := by rw [pu.length_eq]; have := take_len V ii; have := I.len; have := I.sz.pos.1; omega
        refine w_iload (pc' := 102) C d14_100 rfl rfl ?_
        refine w_iloadN (pc' := 103) C d14_102 rfl rfl ?_
        refine w_icmp_ge (pcT := 137) (pcF := 106) C d14_103 (by decide) (by decide) rfl (fun q103_4 => ?_) (fun q103_4 => ?_)
        · skip
          have iN : ii = N := by have := q103_4; rw [lt_ix (by omega) (by omega)] at this; omega
          refine w_ret0 C rfl d14_137 (by decide) (by decide) ?_
          exact ⟨rfl, Or.inl ⟨U, ⟨sb, sh2, O_b, O_sb, g_sb, ne_b_sb, by rw [I2.len]; exact I2, pu.trans (by rw [iN, ← I.len, List.take_length]; exact pm), by rw [I2.len]; omega⟩, by rw [I2.len]; omega⟩, hz⟩
        · skip
          have il : ii < N := by rw [← lt_ix (by omega) (by omega)]; exact q103_4
          refine w_aloadN (pc' := 107) C d14_106 rfl rfl rfl ?_
          refine w_iload (pc' := 109) C d14_107 rfl rfl ?_
          refine wA_iaload (pc' := 110) (v := .int (vat V ii)) C d14_109 rfl O_sa (ix_nn (by omega)) (mapI_get (by rw [I.len]; exact il) (by omega)) ?_
          refine w_istore (pc' := 112) (Ls' := #[.val (.ref b), .val (.ref sa), .val (.ref sa), .val (.int (Int32.ofNat N)), .val (.int (Int32.ofNat ii)), .val (.int (vat V ii))]) C d14_110 (st_int rfl ok_y5 rfl) rfl ?_
          refine w_iload (pc' := 114) C d14_112 rfl rfl ?_
          refine w_iconst (pc' := 115) (x := (-1 : Int32)) C d14_114 rfl rfl ?_
          refine w_icmp_eq (pcT := 131) (pcF := 118) C d14_115 (by decide) (by decide) rfl (fun q115_5 => ?_) (fun q115_5 => ?_)
          · skip
            refine w_iinc (pc' := 134) (Ls' := #[.val (.ref b), .val (.ref sa), .val (.ref sa), .val (.int (Int32.ofNat N)), .val (.int ((Int32.ofNat ii) + (1 : Int32))), .val (.int (vat V ii))]) C d14_131 rfl rfl rfl ?_
            refine w_goto (pc' := 100) C d14_134 (by decide) (by decide) ?_
            rw [ofNat_succ ii]
            exact ih (n - 1) (by omega) (ii + 1) U _ h (by omega) (Or.inr ⟨_, rfl, rfl⟩) I2 (skipS pu (by rw [I.len]; exact il) q115_5) hz O_b O_sa O_sb
          · skip
            refine w_aloadN (pc' := 119) C d14_118 rfl rfl rfl ?_
            refine w_getF (pc' := 122) C (tw hw 28 rfl) d14_119 rfl (O_b.fld 1 rfl) ?_
            refine w_aloadN (pc' := 123) C d14_122 rfl rfl rfl ?_
            refine w_iload (pc' := 125) C d14_123 rfl rfl ?_
            refine w_callP (pc' := 128) (argsL := [.int (vat V ii)]) (st := [.ref sb]) (W := 1) (ce' := 1) (sl' := 8) C (tw hw 37 rfl) (tw hw 38 rfl) (tw hw 2 rfl) (tw hw 39 rfl) (tw hw 3 rfl) (tw hw 40 rfl) (by decide) d14_125 rfl rfl (by decide) (by decide) (Nat.le_of_eq rfl) rfl rfl (by decide) (by decide) rfl (lenOf pd_1 rfl) O_b.1 (ct_slotOf hw h n0 b (vat V ii) sb nn (Int32.ofNat xs.length) U (2 * N) sh2 I2 hlt2 O_b O_sb) (kq (fun z1 qz1 => ?_))
            obtain ⟨k1, rfl, Fk1⟩ := qz1
            refine w_iload (pc' := 130) C d14_128 rfl rfl ?_
            refine wA_iastore (pc' := 131) C d14_130 rfl g_sb O_sb (ix_nn (by have := Fk1.1; omega)) (mapI_len (by rw [I2.len]; exact Fk1.1) (by have := Fk1.1; omega)) (fun h4 W4 A4 => ?_)
            have O_sb : Ar Z h4 sb .int ((U.set k1 (vat V ii)).map Value.int) := (arI_set (by have := Fk1.1; omega) A4)
            have O_b := O_b.other W4 ne_b_sb
            have O_sa := O_sa.other W4 ne_sa_sb
            have hz : n0 ≤ h4.size := by rw [W4.size]; exact hz
            have hk := hk.wr W4 (Or.inl (by simp))
            refine w_iinc (pc' := 134) (Ls' := #[.val (.ref b), .val (.ref sa), .val (.ref sa), .val (.int (Int32.ofNat N)), .val (.int ((Int32.ofNat ii) + (1 : Int32))), .val (.int (vat V ii))]) C d14_131 rfl rfl rfl ?_
            refine w_goto (pc' := 100) C d14_134 (by decide) (by decide) ?_
            rw [ofNat_succ ii]
            have SS := stepS I2 pu I.nd (by rw [I.len]; exact il) q115_5 Fk1
            exact ih (n - 1) (by omega) (ii + 1) _ _ h4 (by omega) (Or.inr ⟨_, rfl, rfl⟩) SS.1 SS.2 hz O_b O_sa O_sb
    exact L100 N 0 _ .unset h3 (by omega) (Or.inl rfl) (InvS.zero S2) (by rw [ents_rep]; exact List.Perm.refl _) hz O_b O_sa O_c2
  · skip
    refine w_aloadN (pc' := 17) C d14_16 rfl rfl rfl ?_
    refine w_aloadN (pc' := 18) C d14_17 rfl rfl rfl ?_
    refine w_callP (pc' := 21) (argsL := []) (st := [.ref b]) (W := 1) (ce' := 0) (sl' := 0) C (tw hw 16 rfl) (tw hw 17 rfl) (tw hw 2 rfl) (tw hw 18 rfl) (tw hw 3 rfl) (tw hw 19 rfl) (by decide) d14_18 rfl rfl (by decide) (by decide) (Nat.le_of_eq rfl) rfl rfl (by decide) (by decide) rfl (lenOf pd_0 rfl) O_b.1 (ct_wordCount hw h0 n0 b (Int32.ofNat nn) (.null : Value) (.ref sa : Value) (Int32.ofNat xs.length) O_b) (kp ?_)
    refine w_eqI (wc_eq hnn) ?_
    refine wA_newP (pc' := 23) (cap := 4) (ce' := 1) (sl' := 4) C (tw hw 71 rfl) d14_21 rfl (ix_nn (by omega)) (by rw [ix_nat (by omega)]; exact w4.1) (by decide) rfl rfl (by decide) (by decide) (fun h5 a5 e5 E5 A5 => ?_)
    have g_a5 : n0 ≤ a5 := by rw [e5]; exact hz
    have fr_a5 : h0.size ≤ a5 := by rw [e5]; exact hk.1
    have ne_b_a5 : b ≠ a5 := by rw [e5]; exact Nat.ne_of_lt O_b.lt
    have ne_sa_a5 : sa ≠ a5 := by rw [e5]; exact Nat.ne_of_lt O_sa.lt
    have O_b := O_b.ext E5
    have O_sa := O_sa.ext E5
    have hz : n0 ≤ h5.size := Nat.le_trans hz E5.1
    have hk := hk.ext E5
    have O_a5 : Ar Z h5 a5 .long (List.replicate (Int32.ofNat (wcN nn)).toNatClampNeg (.long (0 : Int64))) := A5
    have O_a5 : Ar Z h5 a5 .long ((List.replicate (wcN nn) (0 : Int64)).map Value.long) := by rw [List.map_replicate, ← ix_nat (show wcN nn ≤ 300 by omega)]; exact O_a5
    refine w_putF (pc' := 26) (ty := (.array .long)) C (tw hw 35 rfl) (Or.inl (tw hw 36 rfl)) (tw hw 2 rfl) (by decide) rfl rfl d14_23 rfl g_b (O_b.fld 2 rfl) O_b.1 (fun h6 W6 => ?_)
    have O_b : Obj Z h6 b "com/example/rowan/rowan/policy/EntitySet" [("entities", "I", .int (Int32.ofNat nn)), ("slots", "[I", .ref sa), ("words", "[J", .ref a5), ("size", "I", .int (Int32.ofNat xs.length))] := O_b.put 2 rfl W6 rfl
    have O_sa := O_sa.other W6 (Ne.symm ne_b_sa)
    have O_a5 := O_a5.other W6 (Ne.symm ne_b_a5)
    have hz : n0 ≤ h6.size := by rw [W6.size]; exact hz
    have hk := hk.wr W6 (Or.inl (by simp))
    refine w_aloadN (pc' := 27) C d14_26 rfl rfl rfl ?_
    refine w_aconstNull (pc' := 28) C d14_27 rfl ?_
    refine w_putF (pc' := 31) (ty := (.array .int)) C (tw hw 28 rfl) (Or.inl (tw hw 29 rfl)) (tw hw 2 rfl) (by decide) rfl rfl d14_28 rfl g_b (O_b.fld 1 rfl) O_b.1 (fun h7 W7 => ?_)
    have O_b : Obj Z h7 b "com/example/rowan/rowan/policy/EntitySet" [("entities", "I", .int (Int32.ofNat nn)), ("slots", "[I", .null), ("words", "[J", .ref a5), ("size", "I", .int (Int32.ofNat xs.length))] := O_b.put 1 rfl W7 rfl
    have O_sa := O_sa.other W7 (Ne.symm ne_b_sa)
    have O_a5 := O_a5.other W7 (Ne.symm ne_b_a5)
    have hz : n0 ≤ h7.size := by rw [W7.size]; exact hz
    have hk := hk.wr W7 (Or.inl (by simp))
    refine w_aloadN (pc' := 32) C d14_31 rfl rfl rfl ?_
    refine w_astoreN (pc' := 33) (Ls' := #[.val (.ref b), .val (.ref sa), .val (.ref sa), .unset, .unset, .unset]) C d14_32 rfl rfl rfl ?_
    refine w_aloadN (pc' := 34) C d14_33 rfl rfl rfl ?_
    refine wA_alen (pc' := 35) (n := (Int32.ofNat N)) C d14_34 rfl O_sa (len_I I.len) ?_
    refine w_istoreN (pc' := 36) (Ls' := #[.val (.ref b), .val (.ref sa), .val (.ref sa), .val (.int (Int32.ofNat N)), .unset, .unset]) C d14_35 rfl rfl ?_
    refine w_iconst (pc' := 37) (x := (0 : Int32)) C d14_36 rfl rfl ?_
    refine w_istore (pc' := 39) (Ls' := #[.val (.ref b), .val (.ref sa), .val (.ref sa), .val (.int (Int32.ofNat N)), .val (.int (0 : Int32)), .unset]) C d14_37 rfl rfl ?_
    obtain ⟨wa, ewa⟩ : ∃ wa, wa = a5 := ⟨_, rfl⟩
    rw [← ewa] at O_b O_a5 g_a5 ne_b_a5 ne_sa_a5
    have g_wa := g_a5
    have ne_b_wa := ne_b_a5
    have ne_sa_wa := ne_sa_a5
    have L39 : ∀ (n ii : Nat) (W : List Int64) (y5 : Slot) (h : Heap), ii + n = N → (y5 = .unset ∨ ∃ w, y5 = .val w ∧ w.category = 1) → InvW (wcN nn) W (ents (V.take ii)) → n0 ≤ h.size → Obj Z h b "com/example/rowan/rowan/policy/EntitySet" [("entities", "I", .int (Int32.ofNat nn)), ("slots", "[I", .null), ("words", "[J", .ref wa), ("size", "I", .int (Int32.ofNat xs.length))] → Ar Z h sa .int (V.map Value.int) → Ar Z h wa .long (W.map Value.long) → Wp p l e rm_grow s m #[.ref b] below meth c n0 rm_grow.cells rm_grow.slots (fun v h => v = none ∧ (RepF Z n0 h b nn xs ∧ n0 ≤ h.size)) h 1 4 (mkF m 39 #[.val (.ref b), .val (.ref sa), .val (.ref sa), .val (.int (Int32.ofNat N)), .val (.int (Int32.ofNat ii)), y5] []) := by
      intro n
      induction n using Nat.strongRecOn with
      | _ n ih =>
        intro ii W y5 h hin ok_y5 J hz O_b O_sa O_wa
        have hk : Keep h h [b, wa] := Keep.refl _ _
        refine w_iload (pc' := 41) C d14_39 rfl rfl ?_
        refine w_iloadN (pc' := 42) C d14_41 rfl rfl ?_
        refine w_icmp_ge (pcT := 80) (pcF := 45) C d14_42 (by decide) (by decide) rfl (fun q42_6 => ?_) (fun q42_6 => ?_)
        · skip
          have iN : ii = N := by have := q42_6; rw [lt_ix (by omega) (by omega)] at this; omega
          refine w_ret0 C rfl d14_80 (by decide) (by decide) ?_
          exact ⟨rfl, Or.inr ⟨W, wa, O_b, O_wa, g_wa, ne_b_wa, J.perm (by rw [iN, ← I.len, List.take_length]; exact pm)⟩, hz⟩
        · skip
          have il : ii < N := by rw [← lt_ix (by omega) (by omega)]; exact q42_6
          refine w_aloadN (pc' := 46) C d14_45 rfl rfl rfl ?_
          refine w_iload (pc' := 48) C d14_46 rfl rfl ?_
          refine wA_iaload (pc' := 49) (v := .int (vat V ii)) C d14_48 rfl O_sa (ix_nn (by omega)) (mapI_get (by rw [I.len]; exact il) (by omega)) ?_
          refine w_istore (pc' := 51) (Ls' := #[.val (.ref b), .val (.ref sa), .val (.ref sa), .val (.int (Int32.ofNat N)), .val (.int (Int32.ofNat ii)), .val (.int (vat V ii))]) C d14_49 (st_int rfl ok_y5 rfl) rfl ?_
          refine w_iload (pc' := 53) C d14_51 rfl rfl ?_
          refine w_iconst (pc' := 54) (x := (-1 : Int32)) C d14_53 rfl rfl ?_
          refine w_icmp_eq (pcT := 74) (pcF := 57) C d14_54 (by decide) (by decide) rfl (fun q54_7 => ?_) (fun q54_7 => ?_)
          · skip
            refine w_iinc (pc' := 77) (Ls' := #[.val (.ref b), .val (.ref sa), .val (.ref sa), .val (.int (Int32.ofNat N)), .val (.int ((Int32.ofNat ii) + (1 : Int32))), .val (.int (vat V ii))]) C d14_74 rfl rfl rfl ?_
            refine w_goto (pc' := 39) C d14_77 (by decide) (by decide) ?_
            rw [ofNat_succ ii]
            exact ih (n - 1) (by omega) (ii + 1) W _ h (by omega) (Or.inr ⟨_, rfl, rfl⟩) (skipW J (by rw [I.len]; exact il) q54_7) hz O_b O_sa O_wa
          · skip
            obtain ⟨ev, he, ee⟩ := elt X pm (by rw [I.len]; exact il) q54_7
            rw [ee]
            refine w_aloadN (pc' := 58) C d14_57 rfl rfl rfl ?_
            refine w_getF (pc' := 61) C (tw hw 35 rfl) d14_58 rfl (O_b.fld 2 rfl) ?_
            refine w_iload (pc' := 63) C d14_61 rfl rfl ?_
            refine w_bipush (pc' := 65) (x := (64 : Int32)) C d14_63 rfl rfl ?_
            refine w_idiv (pc' := 66) C d14_65 (by decide) rfl ?_
            refine w_eqI (div64 (by omega)) ?_
            refine w_dup2 (pc' := 67) C d14_66 rfl rfl rfl ?_
            refine wA_laload (pc' := 68) (v := .long (wat W (ev / 64))) C d14_67 rfl O_wa (ix_nn (by omega)) (mapL_get (by rw [J.1]; omega) (by omega)) ?_
            refine w_lconst (pc' := 69) (x := (1 : Int64)) C d14_68 rfl rfl ?_
            refine w_iload (pc' := 71) C d14_69 rfl rfl ?_
            refine w_lshl (pc' := 72) C d14_71 rfl ?_
            refine w_lor (pc' := 73) C d14_72 rfl ?_
            refine wA_lastore (pc' := 74) C d14_73 rfl g_wa O_wa (ix_nn (by omega)) (mapL_len (by rw [J.1]; omega) (by omega)) (fun h8 W8 A8 => ?_)
            have O_wa : Ar Z h8 wa .long ((setb W ev).map Value.long) := (arL_set (by omega) A8)
            have O_b := O_b.other W8 ne_b_wa
            have O_sa := O_sa.other W8 ne_sa_wa
            have hz : n0 ≤ h8.size := by rw [W8.size]; exact hz
            have hk := hk.wr W8 (Or.inl (by simp))
            refine w_iinc (pc' := 77) (Ls' := #[.val (.ref b), .val (.ref sa), .val (.ref sa), .val (.int (Int32.ofNat N)), .val (.int ((Int32.ofNat ii) + (1 : Int32))), .val (.int (Int32.ofNat ev))]) C d14_74 rfl rfl rfl ?_
            refine w_goto (pc' := 39) C d14_77 (by decide) (by decide) ?_
            rw [ofNat_succ ii]
            exact ih (n - 1) (by omega) (ii + 1) (setb W ev) _ h8 (by omega) (Or.inr ⟨_, rfl, rfl⟩) (stepW J (by rw [I.len]; exact il) q54_7 ee (by omega) (by omega)) hz O_b O_sa O_wa
    exact L39 N 0 _ .unset h7 (by omega) (Or.inl rfl) (InvW.zero _) hz O_b O_sa O_a5
theorem d7_87 : decode prog_51_method_5_code 87 = .ok (.aload_n 0, 1) := by decide +kernel
theorem d7_88 : decode prog_51_method_5_code 88 = .ok (.invokevirtual 54, 3) := by decide +kernel
theorem d7_91 : decode prog_51_method_5_code 91 = .ok (.aload_n 0, 1) := by decide +kernel
theorem d7_92 : decode prog_51_method_5_code 92 = .ok (.iload_n 1, 1) := by decide +kernel
theorem d7_93 : decode prog_51_method_5_code 93 = .ok (.invokevirtual 57, 3) := by decide +kernel
theorem d7_96 : decode prog_51_method_5_code 96 = .ok (.ireturn, 1) := by decide +kernel
def rm_add : Room := { frames := 4, cells := 1, slots := 8, locals := 60 }
theorem pf_add : plainFor (⟨"com/example/rowan/rowan/policy/EntitySet", "add", "(I)Z"⟩ : MethodName) = true := plainFor_of_name (by first | (simp [plainName, overriddenIn]; done) | decide +kernel)
set_option maxRecDepth 65536 in
set_option maxHeartbeats 40000000 in
theorem ct_add {l : Launch} {Z : State} {a0 : Array Value} (hw : ∀ d ∈ tables_1, d.before a0 Z = true) (h0 : Heap) (n0 : Nat) (b : Addr) (ev : Nat) (nn : Nat) (xs : List Int32) (hz : n0 ≤ h0.size) (hnn : nn ≤ 256) (he : ev < nn) (X : XsOk nn xs) (hx2 : xs.length ≤ 2) (R0 : RepE Z n0 h0 b nn xs) (g_b : n0 ≤ b) :
    Ct l Z (⟨"com/example/rowan/rowan/policy/EntitySet", "add", "(I)Z"⟩ : MethodName) prog_51_method_5_code 5 (Option.some Jvm.ClassFile.FieldType.boolean) [] rm_add #[.ref b, .int (Int32.ofNat ev)] h0 n0 (fun v h => ∃ z, v = some (.int z) ∧ (RepE Z n0 h b nn (adds (Int32.ofNat ev) xs) ∧ n0 ≤ h.size)) := by
  refine Ct.of (Ls := #[.val (.ref b), .val (.int (Int32.ofNat ev)), .unset, .unset, .unset]) pf_add (fun m => by first | (simp [entryFrame, mkF, argsToLocals, Value.category, maxLocals]; done) | rfl) ?_
  intro p e s m below meth c C
  obtain ⟨M, R⟩ := R0
  cases M with
  | inl V =>
    obtain ⟨sa, sh, O_b, O_sa, g_sa, ne_b_sa, I, pm, hcap⟩ := R
    have hk : Keep h0 h0 [b, sa] := Keep.refl _ _
    have hlt : (ents V).length < V.length := by rw [pm.length_eq]; have := I.sz.pos.1; omega
    refine w_aloadN (pc' := 1) C d7_0 rfl rfl rfl ?_
    refine w_getF (pc' := 4) C (tw hw 35 rfl) d7_1 rfl (O_b.fld 2 rfl) ?_
    refine w_ifnull_null (pc' := 53) C d7_4 (by decide) (by decide) ?_
    refine w_aloadN (pc' := 54) C d7_53 rfl rfl rfl ?_
    refine w_iloadN (pc' := 55) C d7_54 rfl rfl ?_
    refine w_callP (pc' := 58) (argsL := [.int (Int32.ofNat ev)]) (st := []) (W := 0) (ce' := 0) (sl' := 0) C (tw hw 37 rfl) (tw hw 38 rfl) (tw hw 2 rfl) (tw hw 39 rfl) (tw hw 3 rfl) (tw hw 40 rfl) (by decide) d7_55 rfl rfl (by decide) (by decide) (Nat.le_of_eq rfl) rfl rfl (by decide) (by decide) rfl (lenOf pd_1 rfl) O_b.1 (ct_slotOf hw h0 n0 b (Int32.ofNat ev) sa nn (Int32.ofNat xs.length) V V.length sh I hlt O_b O_sa) (kq (fun z1 qz1 => ?_))
    obtain ⟨k1, rfl, Fk1⟩ := qz1
    refine w_istoreN (pc' := 59) (Ls' := #[.val (.ref b), .val (.int (Int32.ofNat ev)), .val (.int (Int32.ofNat k1)), .unset, .unset]) C d7_58 rfl rfl ?_
    refine w_aloadN (pc' := 60) C d7_59 rfl rfl rfl ?_
    refine w_getF (pc' := 63) C (tw hw 28 rfl) d7_60 rfl (O_b.fld 1 rfl) ?_
    refine w_iloadN (pc' := 64) C d7_63 rfl rfl ?_
    refine wA_iaload (pc' := 65) (v := .int (vat V k1)) C d7_64 rfl O_sa (ix_nn (Nat.le_trans (Nat.le_of_lt Fk1.1) (Nat.le_trans I.sz.pos.2 (by decide)))) (mapI_get Fk1.1 (Nat.le_trans (Nat.le_of_lt Fk1.1) (Nat.le_trans I.sz.pos.2 (by decide)))) ?_
    refine w_iloadN (pc' := 66) C d7_65 rfl rfl ?_
    refine w_icmp_ne (pcT := 71) (pcF := 69) C d7_66 (by decide) (by decide) rfl (fun q66_1 => ?_) (fun q66_1 => ?_)
    · skip
      refine w_iconst (pc' := 72) (x := (2 : Int32)) C d7_71 rfl rfl ?_
      refine w_aloadN (pc' := 73) C d7_72 rfl rfl rfl ?_
      refine w_getF (pc' := 76) C (tw hw 51 rfl) d7_73 rfl (O_b.fld 3 rfl) ?_
      refine w_iconst (pc' := 77) (x := (1 : Int32)) C d7_76 rfl rfl ?_
      refine w_iadd (pc' := 78) C d7_77 rfl ?_
      refine w_imul (pc' := 79) C d7_78 rfl ?_
      refine w_eqI (two_len xs.length) ?_
      refine w_aloadN (pc' := 80) C d7_79 rfl rfl rfl ?_
      refine w_getF (pc' := 83) C (tw hw 28 rfl) d7_80 rfl (O_b.fld 1 rfl) ?_
      refine wA_alen (pc' := 84) (n := (Int32.ofNat V.length)) C d7_83 rfl O_sa (len_I rfl) ?_
      refine w_icmp_le (pcT := 97) (pcF := 87) C d7_84 (by decide) (by decide) rfl (fun q84_2 => ?_) (fun q84_2 => ?_)
      · skip
        refine w_aloadN (pc' := 98) C d7_97 rfl rfl rfl ?_
        refine w_getF (pc' := 101) C (tw hw 28 rfl) d7_98 rfl (O_b.fld 1 rfl) ?_
        refine w_iloadN (pc' := 102) C d7_101 rfl rfl ?_
        refine w_iloadN (pc' := 103) C d7_102 rfl rfl ?_
        refine wA_iastore (pc' := 104) C d7_103 rfl g_sa O_sa (ix_nn (Nat.le_trans (Nat.le_of_lt Fk1.1) (Nat.le_trans I.sz.pos.2 (by decide)))) (mapI_len Fk1.1 (Nat.le_trans (Nat.le_of_lt Fk1.1) (Nat.le_trans I.sz.pos.2 (by decide)))) (fun h1 W1 A1 => ?_)
        have O_sa : Ar Z h1 sa .int ((V.set k1 (Int32.ofNat ev)).map Value.int) := (arI_set (Nat.le_trans (Nat.le_of_lt Fk1.1) (Nat.le_trans I.sz.pos.2 (by decide))) A1)
        have O_b := O_b.other W1 ne_b_sa
        have hz : n0 ≤ h1.size := by rw [W1.size]; exact hz
        have hk := hk.wr W1 (Or.inl (by simp))
        refine w_aloadN (pc' := 105) C d7_104 rfl rfl rfl ?_
        refine w_dup (pc' := 106) C d7_105 rfl rfl ?_
        refine w_getF (pc' := 109) C (tw hw 51 rfl) d7_106 rfl (O_b.fld 3 rfl) ?_
        refine w_iconst (pc' := 110) (x := (1 : Int32)) C d7_109 rfl rfl ?_
        refine w_iadd (pc' := 111) C d7_110 rfl ?_
        refine w_putF (pc' := 114) (ty := .int) C (tw hw 51 rfl) (Or.inl (tw hw 52 rfl)) (tw hw 2 rfl) (by decide) rfl rfl d7_111 rfl g_b (O_b.fld 3 rfl) O_b.1 (fun h2 W2 => ?_)
        have O_b : Obj Z h2 b "com/example/rowan/rowan/policy/EntitySet" [("entities", "I", .int (Int32.ofNat nn)), ("slots", "[I", .ref sa), ("words", "[J", .null), ("size", "I", .int ((Int32.ofNat xs.length) + (1 : Int32)))] := O_b.put 3 rfl W2 rfl
        have O_sa := O_sa.other W2 (Ne.symm ne_b_sa)
        have hz : n0 ≤ h2.size := by rw [W2.size]; exact hz
        have hk := hk.wr W2 (Or.inl (by simp))
        refine w_iconst (pc' := 115) (x := (1 : Int32)) C d7_114 rfl rfl ?_
        refine w_retN' (t := .boolean) (z' := (1 : Int32)) C rfl (by simp) d7_115 (by decide) (by decide) narB1 ?_
        obtain ⟨I', ni, pm'⟩ := Fk1.ins I q66_1 (ofNat_ne (by omega))
        have nx : Int32.ofNat ev ∉ xs := fun z => ni (pm.mem_iff.mpr z)
        have fit : 2 * (xs.length + 1) ≤ V.length := by have := q84_2; rw [lt_ix (Nat.le_trans I.sz.pos.2 (by decide)) (by omega)] at this; omega
        exact ⟨_, rfl, ⟨.inl (V.set k1 (Int32.ofNat ev)), sa, sh, by rw [adds_out nx, List.length_cons, ← ofNat_succ]; exact O_b, O_sa, g_sa, ne_b_sa, by rw [List.length_set]; exact I', by rw [adds_out nx]; exact pm'.trans (List.Perm.cons _ pm), by rw [adds_out nx, List.length_set, List.length_cons]; exact fit⟩, hz⟩
      · skip
        have big : V.length < 2 * (xs.length + 1) := by have := q84_2; rw [lt_ix (Nat.le_trans I.sz.pos.2 (by decide)) (by omega)] at this; exact this
        refine w_aloadN (pc' := 88) C d7_87 rfl rfl rfl ?_
        refine w_callP (pc' := 91) (argsL := []) (st := []) (W := 0) (ce' := 1) (sl' := 8) C (tw hw 67 rfl) (tw hw 68 rfl) (tw hw 2 rfl) (tw hw 69 rfl) (tw hw 3 rfl) (tw hw 70 rfl) (by decide) d7_88 rfl rfl (by decide) (by decide) (Nat.le_of_eq rfl) rfl rfl (by decide) (by decide) rfl (lenOf pd_4 rfl) O_b.1 (ct_grow hw h0 n0 b nn xs sa V V.length sh hz hnn X I pm (by have := I.sz; unfold Sz at this; omega) O_b O_sa g_b ne_b_sa) (k0 (fun h3 q3 => ?_))
        obtain ⟨RF, hz⟩ := q3
        have O_b : Exa Z h3 b "com/example/rowan/rowan/policy/EntitySet" ∧ True := ⟨RF.exa, trivial⟩
        refine w_aloadN (pc' := 92) C d7_91 rfl rfl rfl ?_
        refine w_iloadN (pc' := 93) C d7_92 rfl rfl ?_
        refine w_callV (Cl := "com/example/rowan/rowan/policy/EntitySet") (pc' := 96) (argsL := [.int (Int32.ofNat ev)]) (st := []) (W := 0) (ce' := 1) (sl' := 8) C (tw hw 72 rfl) (tw hw 31 rfl) (tw hw 33 rfl) (tw hw 32 rfl) (tw hw 3 rfl) (tw hw 34 rfl) (by decide) d7_93 rfl rfl (by decide) (by decide) (Nat.le_of_eq rfl) rfl rfl (by decide) (by decide) rfl (lenOf pd_5 rfl) O_b.1 (ct_add0 hw h3 n0 b ev nn xs hz hnn he X hx2 RF g_b) (kz (fun z4 h4 q4 => ?_))
        refine w_retN' (t := .boolean) (z' := (z4 &&& 1)) C rfl (by simp) d7_96 (by decide) (by decide) rfl ?_
        exact ⟨_, rfl, q4⟩
    · skip
      refine w_iconst (pc' := 70) (x := (0 : Int32)) C d7_69 rfl rfl ?_
      refine w_retN' (t := .boolean) (z' := (0 : Int32)) C rfl (by simp) d7_70 (by decide) (by decide) narB0 ?_
      exact ⟨_, rfl, leafA (pm.mem_iff.mp (Fk1.mem I q66_1 (ofNat_ne (by omega)))) ⟨sa, sh, O_b, O_sa, g_sa, ne_b_sa, I, pm, hcap⟩, hz⟩
  | inr W =>
    obtain ⟨wa, O_b, O_wa, g_wa, ne_b_wa, J⟩ := R
    have hk : Keep h0 h0 [b, wa] := Keep.refl _ _
    have w4 := wc_le hnn
    have eb : ev < 64 * wcN nn := by omega
    have ew : ev / 64 < W.length := by rw [J.1]; omega
    refine w_aloadN (pc' := 1) C d7_0 rfl rfl rfl ?_
    refine w_getF (pc' := 4) C (tw hw 35 rfl) d7_1 rfl (O_b.fld 2 rfl) ?_
    refine w_ifnull_ref (pc' := 7) C d7_4 rfl ?_
    refine w_iloadN (pc' := 8) C d7_7 rfl rfl ?_
    refine w_bipush (pc' := 10) (x := (64 : Int32)) C d7_8 rfl rfl ?_
    refine w_idiv (pc' := 11) C d7_10 (by decide) rfl ?_
    refine w_eqI (div64 (by omega)) ?_
    refine w_istoreN (pc' := 12) (Ls' := #[.val (.ref b), .val (.int (Int32.ofNat ev)), .val (.int (Int32.ofNat (ev / 64))), .unset, .unset]) C d7_11 rfl rfl ?_
    refine w_lconst (pc' := 13) (x := (1 : Int64)) C d7_12 rfl rfl ?_
    refine w_iloadN (pc' := 14) C d7_13 rfl rfl ?_
    refine w_lshl (pc' := 15) C d7_14 rfl ?_
    refine w_lstoreN (pc' := 16) (Ls' := #[.val (.ref b), .val (.int (Int32.ofNat ev)), .val (.int (Int32.ofNat (ev / 64))), .val (.long ((1 : Int64) <<< ((Int32.ofNat ev) &&& 0x3f).toInt64)), .second]) C d7_15 rfl rfl ?_
    refine w_aloadN (pc' := 17) C d7_16 rfl rfl rfl ?_
    refine w_getF (pc' := 20) C (tw hw 35 rfl) d7_17 rfl (O_b.fld 2 rfl) ?_
    refine w_iloadN (pc' := 21) C d7_20 rfl rfl ?_
    refine wA_laload (pc' := 22) (v := .long (wat W (ev / 64))) C d7_21 rfl O_wa (ix_nn (by omega)) (mapL_get ew (by omega)) ?_
    refine w_lloadN (pc' := 23) C d7_22 rfl rfl ?_
    refine w_land (pc' := 24) C d7_23 rfl ?_
    refine w_lconst (pc' := 25) (x := (0 : Int64)) C d7_24 rfl rfl ?_
    refine w_lcmp (pc' := 26) C d7_25 rfl ?_
    refine w_if_eq (pcT := 31) (pcF := 29) C d7_26 (by decide) (by decide) rfl (fun q26_3 => ?_) (fun q26_3 => ?_)
    · skip
      refine w_aloadN (pc' := 32) C d7_31 rfl rfl rfl ?_
      refine w_getF (pc' := 35) C (tw hw 35 rfl) d7_32 rfl (O_b.fld 2 rfl) ?_
      refine w_iloadN (pc' := 36) C d7_35 rfl rfl ?_
      refine w_dup2 (pc' := 37) C d7_36 rfl rfl rfl ?_
      refine wA_laload (pc' := 38) (v := .long (wat W (ev / 64))) C d7_37 rfl O_wa (ix_nn (by omega)) (mapL_get ew (by omega)) ?_
      refine w_lloadN (pc' := 39) C d7_38 rfl rfl ?_
      refine w_lor (pc' := 40) C d7_39 rfl ?_
      refine wA_lastore (pc' := 41) C d7_40 rfl g_wa O_wa (ix_nn (by omega)) (mapL_len ew (by omega)) (fun h5 W5 A5 => ?_)
      have O_wa : Ar Z h5 wa .long ((setb W ev).map Value.long) := (arL_set (by omega) A5)
      have O_b := O_b.other W5 ne_b_wa
      have hz : n0 ≤ h5.size := by rw [W5.size]; exact hz
      have hk := hk.wr W5 (Or.inl (by simp))
      refine w_aloadN (pc' := 42) C d7_41 rfl rfl rfl ?_
      refine w_dup (pc' := 43) C d7_42 rfl rfl ?_
      refine w_getF (pc' := 46) C (tw hw 51 rfl) d7_43 rfl (O_b.fld 3 rfl) ?_
      refine w_iconst (pc' := 47) (x := (1 : Int32)) C d7_46 rfl rfl ?_
      refine w_iadd (pc' := 48) C d7_47 rfl ?_
      refine w_putF (pc' := 51) (ty := .int) C (tw hw 51 rfl) (Or.inl (tw hw 52 rfl)) (tw hw 2 rfl) (by decide) rfl rfl d7_48 rfl g_b (O_b.fld 3 rfl) O_b.1 (fun h6 W6 => ?_)
      have O_b : Obj Z h6 b "com/example/rowan/rowan/policy/EntitySet" [("entities", "I", .int (Int32.ofNat nn)), ("slots", "[I", .null), ("words", "[J", .ref wa), ("size", "I", .int ((Int32.ofNat xs.length) + (1 : Int32)))] := O_b.put 3 rfl W6 rfl
      have O_wa := O_wa.other W6 (Ne.symm ne_b_wa)
      have hz : n0 ≤ h6.size := by rw [W6.size]; exact hz
      have hk := hk.wr W6 (Or.inl (by simp))
      refine w_iconst (pc' := 52) (x := (1 : Int32)) C d7_51 rfl rfl ?_
      refine w_retN' (t := .boolean) (z' := (1 : Int32)) C rfl (by simp) d7_52 (by decide) (by decide) narB1 ?_
      have nx := outW J eb (by omega) (cmp0 q26_3)
      exact ⟨_, rfl, ⟨.inr (setb W ev), wa, by rw [adds_out nx, List.length_cons, ← ofNat_succ]; exact O_b, O_wa, g_wa, ne_b_wa, by rw [adds_out nx]; exact setW J eb (by omega)⟩, hz⟩
    · skip
      refine w_iconst (pc' := 30) (x := (0 : Int32)) C d7_29 rfl rfl ?_
      refine w_retN' (t := .boolean) (z' := (0 : Int32)) C rfl (by simp) d7_30 (by decide) (by decide) narB0 ?_
      exact ⟨_, rfl, leafC (inW J eb (by omega) (cmpn q26_3)) ⟨wa, O_b, O_wa, g_wa, ne_b_wa, J⟩, hz⟩
theorem ms_ge {nn : Nat} (h : 1 ≤ nn) (h' : nn ≤ 256) : ¬ Int32.ofNat (2 * wcN nn) < (2 : Int32) := by
  rw [show (2 : Int32) = Int32.ofNat 2 from rfl, lt_ix (by have := (wc_le h').1; omega) (by decide)]
  have := wc_ge h; omega
theorem d1_0 : decode prog_51_method_1_code 0 = .ok (.aload_n 0, 1) := by decide +kernel
theorem d1_1 : decode prog_51_method_1_code 1 = .ok (.invokespecial 1, 3) := by decide +kernel
theorem d1_4 : decode prog_51_method_1_code 4 = .ok (.aload_n 0, 1) := by decide +kernel
theorem d1_5 : decode prog_51_method_1_code 5 = .ok (.iload_n 1, 1) := by decide +kernel
theorem d1_6 : decode prog_51_method_1_code 6 = .ok (.putfield 7, 3) := by decide +kernel
theorem d1_9 : decode prog_51_method_1_code 9 = .ok (.iconst 2, 1) := by decide +kernel
theorem d1_10 : decode prog_51_method_1_code 10 = .ok (.aload_n 0, 1) := by decide +kernel
theorem d1_11 : decode prog_51_method_1_code 11 = .ok (.invokevirtual 13, 3) := by decide +kernel
theorem d1_14 : decode prog_51_method_1_code 14 = .ok (.if_icmp .le 16, 3) := by decide +kernel
theorem d1_30 : decode prog_51_method_1_code 30 = .ok (.aload_n 0, 1) := by decide +kernel
theorem d1_31 : decode prog_51_method_1_code 31 = .ok (.iconst 2, 1) := by decide +kernel
theorem d1_32 : decode prog_51_method_1_code 32 = .ok (.invokestatic 24, 3) := by decide +kernel
theorem d1_35 : decode prog_51_method_1_code 35 = .ok (.putfield 28, 3) := by decide +kernel
theorem d1_38 : decode prog_51_method_1_code 38 = .ok (.return_, 1) := by decide +kernel
def rm_init : Room := { frames := 2, cells := 1, slots := 8, locals := 29 }
theorem pf_init : plainFor (⟨"com/example/rowan/rowan/policy/EntitySet", "<init>", "(I)V"⟩ : MethodName) = true := plainFor_of_name (by first | (simp [plainName, overriddenIn]; done) | decide +kernel)
set_option maxRecDepth 65536 in
set_option maxHeartbeats 40000000 in
theorem ct_init {l : Launch} {Z : State} {a0 : Array Value} (hw : ∀ d ∈ tables_1, d.before a0 Z = true) (h0 : Heap) (n0 : Nat) (b : Addr) (nn : Nat) (hz : n0 ≤ h0.size) (hn1 : 1 ≤ nn) (hnn : nn ≤ 256) (O_b : Obj Z h0 b "com/example/rowan/rowan/policy/EntitySet" [("entities", "I", .int (0 : Int32)), ("slots", "[I", .null), ("words", "[J", .null), ("size", "I", .int (0 : Int32))]) (g_b : n0 ≤ b) :
    Ct l Z (⟨"com/example/rowan/rowan/policy/EntitySet", "<init>", "(I)V"⟩ : MethodName) prog_51_method_1_code 2 (Option.none : Option Jvm.ClassFile.FieldType) [] rm_init #[.ref b, .int (Int32.ofNat nn)] h0 n0 (fun v h => v = none ∧ (RepE Z n0 h b nn [] ∧ n0 ≤ h.size)) := by
  refine Ct.of (Ls := #[.val (.ref b), .val (.int (Int32.ofNat nn))]) pf_init (fun m => by first | (simp [entryFrame, mkF, argsToLocals, Value.category, maxLocals]; done) | rfl) ?_
  intro p e s m below meth c C
  have hk : Keep h0 h0 [b] := Keep.refl _ _
  refine w_aloadN (pc' := 1) C d1_0 rfl rfl rfl ?_
  refine w_initO (pc' := 4) (W := 0) C (tw hw 7 rfl) (tw hw 8 rfl) (tw hw 9 rfl) d1_1 rfl rfl (by decide) (Nat.le_of_eq rfl) (by decide) ?_
  refine w_aloadN (pc' := 5) C d1_4 rfl rfl rfl ?_
  refine w_iloadN (pc' := 6) C d1_5 rfl rfl ?_
  refine w_putF (pc' := 9) (ty := .int) C (tw hw 10 rfl) (Or.inl (tw hw 11 rfl)) (tw hw 2 rfl) (by decide) rfl rfl d1_6 rfl g_b (O_b.fld 0 rfl) O_b.1 (fun h1 W1 => ?_)
  have O_b : Obj Z h1 b "com/example/rowan/rowan/policy/EntitySet" [("entities", "I", .int (Int32.ofNat nn)), ("slots", "[I", .null), ("words", "[J", .null), ("size", "I", .int (0 : Int32))] := O_b.put 0 rfl W1 rfl
  have hz : n0 ≤ h1.size := by rw [W1.size]; exact hz
  have hk := hk.wr W1 (Or.inl (by simp))
  refine w_iconst (pc' := 10) (x := (2 : Int32)) C d1_9 rfl rfl ?_
  refine w_aloadN (pc' := 11) C d1_10 rfl rfl rfl ?_
  refine w_callP (pc' := 14) (argsL := []) (st := [.int (2 : Int32)]) (W := 1) (ce' := 0) (sl' := 0) C (tw hw 12 rfl) (tw hw 13 rfl) (tw hw 2 rfl) (tw hw 14 rfl) (tw hw 3 rfl) (tw hw 15 rfl) (by decide) d1_11 rfl rfl (by decide) (by decide) (Nat.le_of_eq rfl) rfl rfl (by decide) (by decide) rfl (lenOf pd_0 rfl) O_b.1 (ct_mostSlots hw h1 n0 b (Int32.ofNat nn) (.null : Value) (.null : Value) (0 : Int32) O_b) (kp ?_)
  refine w_eqI (ms_eq hnn) ?_
  refine w_icmp_le (pcT := 30) (pcF := 17) C d1_14 (by decide) (by decide) rfl (fun q14_1 => ?_) (fun q14_1 => ?_)
  · skip
    refine w_aloadN (pc' := 31) C d1_30 rfl rfl rfl ?_
    refine w_iconst (pc' := 32) (x := (2 : Int32)) C d1_31 rfl rfl ?_
    refine w_eqI (show (2 : Int32) = Int32.ofNat 2 from rfl) ?_
    refine w_callS (pc' := 35) (argsL := [.int (Int32.ofNat 2)]) (st := [.ref b]) (W := 1) (ce' := 1) (sl' := 8) C (tw hw 20 rfl) (tw hw 21 rfl) (tw hw 3 rfl) (tw hw 22 rfl) (by decide) d1_32 rfl rfl (by decide) (by decide) (Nat.le_of_eq rfl) rfl rfl (by decide) (by decide) rfl (lenOf pd_3 rfl) (ct_free hw h1 n0 2 hz (by decide)) (kx (fun c2 h2 q2 => ?_))
    obtain ⟨fb_c2, P2, K2⟩ := q2
    have g_c2 : n0 ≤ c2 := Nat.le_trans hz fb_c2
    have fr_c2 : h0.size ≤ c2 := Nat.le_trans hk.1 fb_c2
    have ne_b_c2 : b ≠ c2 := Nat.ne_of_lt (Nat.lt_of_lt_of_le O_b.lt fb_c2)
    have O_b := O_b.keep K2 nin0
    have hz : n0 ≤ h2.size := Nat.le_trans hz K2.1
    have hk := Keep.app hk K2 (fun x hx => Or.inl hx) all0
    have O_c2 := P2
    refine w_putF (pc' := 38) (ty := (.array .int)) C (tw hw 28 rfl) (Or.inl (tw hw 29 rfl)) (tw hw 2 rfl) (by decide) rfl rfl d1_35 rfl g_b (O_b.fld 1 rfl) O_b.1 (fun h3 W3 => ?_)
    have O_b : Obj Z h3 b "com/example/rowan/rowan/policy/EntitySet" [("entities", "I", .int (Int32.ofNat nn)), ("slots", "[I", .ref c2), ("words", "[J", .null), ("size", "I", .int (0 : Int32))] := O_b.put 1 rfl W3 rfl
    have O_c2 := O_c2.other W3 (Ne.symm ne_b_c2)
    have hz : n0 ≤ h3.size := by rw [W3.size]; exact hz
    have hk := hk.wr W3 (Or.inl (by simp))
    refine w_ret0 C rfl d1_38 (by decide) (by decide) ?_
    exact ⟨rfl, ⟨.inl (List.replicate 2 (-1 : Int32)), c2, 31, O_b, O_c2, g_c2, ne_b_c2, InvS.zero (Or.inl ⟨rfl, rfl⟩), by rw [ents_rep], Nat.zero_le _⟩, hz⟩
  · skip
    exact absurd q14_1 (ms_ge hn1 hnn)
theorem aft_skip {V : List Int32} {t tt : Nat} (hb : ∀ x, t ≤ x → x < tt → ¬ pr (.inl V) x) (h : vat V tt = -1) : ∀ x, t ≤ x → x < tt + 1 → ¬ pr (.inl V) x := fun x h1 h2 q => by
  by_cases g : x < tt
  · exact hb x h1 g q
  · have : x = tt := by omega
    subst this; exact q.2 h
theorem aft_end {V : List Int32} {t tt : Nat} (hb : ∀ x, t ≤ x → x < tt → ¬ pr (.inl V) x) (h : V.length ≤ tt) : Aft (.inl V) t (-1) := by
  refine Or.inl ⟨rfl, fun x h1 q => ?_⟩
  exact hb x h1 (Nat.lt_of_lt_of_le q.1 h) q
theorem aft_endW {wc t w : Nat} {W : List Int64} {xs : List Int32} (J : InvW wc W xs) (e : w = wc) (h : ∀ x, t ≤ x → x < 64 * w → ¬ bit W x = true) : Aft (.inr W) t (-1) := by
  refine Or.inl ⟨rfl, fun x h1 q => ?_⟩
  have := bit_lt (W := W) q
  exact h x h1 (by rw [e, ← J.1]; exact this) q
theorem aft_big {wc t : Nat} {W : List Int64} {xs : List Int32} (J : InvW wc W xs) (h : wc ≤ t / 64) : Aft (.inr W) t (-1) := by
  refine Or.inl ⟨rfl, fun x h1 q => ?_⟩
  have := bit_lt (W := W) q
  rw [J.1] at this; omega
theorem d11_0 : decode prog_51_method_13_code 0 = .ok (.aload_n 0, 1) := by decide +kernel
theorem d11_1 : decode prog_51_method_13_code 1 = .ok (.getfield 20, 3) := by decide +kernel
theorem d11_4 : decode prog_51_method_13_code 4 = .ok (.ifnonnull 36, 3) := by decide +kernel
theorem d11_7 : decode prog_51_method_13_code 7 = .ok (.iload_n 1, 1) := by decide +kernel
theorem d11_8 : decode prog_51_method_13_code 8 = .ok (.iconst 1, 1) := by decide +kernel
theorem d11_9 : decode prog_51_method_13_code 9 = .ok (.iadd, 1) := by decide +kernel
theorem d11_10 : decode prog_51_method_13_code 10 = .ok (.istore_n 2, 1) := by decide +kernel
theorem d11_11 : decode prog_51_method_13_code 11 = .ok (.iload_n 2, 1) := by decide +kernel
theorem d11_12 : decode prog_51_method_13_code 12 = .ok (.aload_n 0, 1) := by decide +kernel
theorem d11_13 : decode prog_51_method_13_code 13 = .ok (.getfield 28, 3) := by decide +kernel
theorem d11_16 : decode prog_51_method_13_code 16 = .ok (.arraylength, 1) := by decide +kernel
theorem d11_17 : decode prog_51_method_13_code 17 = .ok (.if_icmp .ge 21, 3) := by decide +kernel
theorem d11_20 : decode prog_51_method_13_code 20 = .ok (.aload_n 0, 1) := by decide +kernel
theorem d11_21 : decode prog_51_method_13_code 21 = .ok (.getfield 28, 3) := by decide +kernel
theorem d11_24 : decode prog_51_method_13_code 24 = .ok (.iload_n 2, 1) := by decide +kernel
theorem d11_25 : decode prog_51_method_13_code 25 = .ok (.iaload, 1) := by decide +kernel
theorem d11_26 : decode prog_51_method_13_code 26 = .ok (.iconst (-1), 1) := by decide +kernel
theorem d11_27 : decode prog_51_method_13_code 27 = .ok (.if_icmp .eq 5, 3) := by decide +kernel
theorem d11_30 : decode prog_51_method_13_code 30 = .ok (.iload_n 2, 1) := by decide +kernel
theorem d11_31 : decode prog_51_method_13_code 31 = .ok (.ireturn, 1) := by decide +kernel
theorem d11_32 : decode prog_51_method_13_code 32 = .ok (.iinc 2 1, 3) := by decide +kernel
theorem d11_35 : decode prog_51_method_13_code 35 = .ok (.goto (-24), 3) := by decide +kernel
theorem d11_38 : decode prog_51_method_13_code 38 = .ok (.iconst (-1), 1) := by decide +kernel
theorem d11_39 : decode prog_51_method_13_code 39 = .ok (.ireturn, 1) := by decide +kernel
theorem d11_40 : decode prog_51_method_13_code 40 = .ok (.iload_n 1, 1) := by decide +kernel
theorem d11_41 : decode prog_51_method_13_code 41 = .ok (.iconst 1, 1) := by decide +kernel
theorem d11_42 : decode prog_51_method_13_code 42 = .ok (.iadd, 1) := by decide +kernel
theorem d11_43 : decode prog_51_method_13_code 43 = .ok (.istore_n 2, 1) := by decide +kernel
theorem d11_44 : decode prog_51_method_13_code 44 = .ok (.iload_n 2, 1) := by decide +kernel
theorem d11_45 : decode prog_51_method_13_code 45 = .ok (.bipush 64, 2) := by decide +kernel
theorem d11_47 : decode prog_51_method_13_code 47 = .ok (.idiv, 1) := by decide +kernel
theorem d11_48 : decode prog_51_method_13_code 48 = .ok (.istore_n 3, 1) := by decide +kernel
theorem d11_49 : decode prog_51_method_13_code 49 = .ok (.iload_n 3, 1) := by decide +kernel
theorem d11_50 : decode prog_51_method_13_code 50 = .ok (.aload_n 0, 1) := by decide +kernel
theorem d11_51 : decode prog_51_method_13_code 51 = .ok (.getfield 20, 3) := by decide +kernel
theorem d11_54 : decode prog_51_method_13_code 54 = .ok (.arraylength, 1) := by decide +kernel
theorem d11_55 : decode prog_51_method_13_code 55 = .ok (.if_icmp .lt 5, 3) := by decide +kernel
theorem d11_58 : decode prog_51_method_13_code 58 = .ok (.iconst (-1), 1) := by decide +kernel
theorem d11_59 : decode prog_51_method_13_code 59 = .ok (.ireturn, 1) := by decide +kernel
theorem d11_60 : decode prog_51_method_13_code 60 = .ok (.aload_n 0, 1) := by decide +kernel
theorem d11_61 : decode prog_51_method_13_code 61 = .ok (.getfield 20, 3) := by decide +kernel
theorem d11_64 : decode prog_51_method_13_code 64 = .ok (.iload_n 3, 1) := by decide +kernel
theorem d11_65 : decode prog_51_method_13_code 65 = .ok (.laload, 1) := by decide +kernel
theorem d11_66 : decode prog_51_method_13_code 66 = .ok (.ldc2_w 61, 3) := by decide +kernel
theorem d11_69 : decode prog_51_method_13_code 69 = .ok (.iload_n 2, 1) := by decide +kernel
theorem d11_70 : decode prog_51_method_13_code 70 = .ok (.lshl, 1) := by decide +kernel
theorem d11_71 : decode prog_51_method_13_code 71 = .ok (.land, 1) := by decide +kernel
theorem d11_72 : decode prog_51_method_13_code 72 = .ok (.lstore 4, 2) := by decide +kernel
theorem d11_74 : decode prog_51_method_13_code 74 = .ok (.lload 4, 2) := by decide +kernel
theorem d11_76 : decode prog_51_method_13_code 76 = .ok (.lconst 0, 1) := by decide +kernel
theorem d11_77 : decode prog_51_method_13_code 77 = .ok (.lcmp, 1) := by decide +kernel
theorem d11_78 : decode prog_51_method_13_code 78 = .ok (.ifCond .ne 28, 3) := by decide +kernel
theorem d11_81 : decode prog_51_method_13_code 81 = .ok (.iinc 3 1, 3) := by decide +kernel
theorem d11_84 : decode prog_51_method_13_code 84 = .ok (.iload_n 3, 1) := by decide +kernel
theorem d11_85 : decode prog_51_method_13_code 85 = .ok (.aload_n 0, 1) := by decide +kernel
theorem d11_86 : decode prog_51_method_13_code 86 = .ok (.getfield 20, 3) := by decide +kernel
theorem d11_89 : decode prog_51_method_13_code 89 = .ok (.arraylength, 1) := by decide +kernel
theorem d11_90 : decode prog_51_method_13_code 90 = .ok (.if_icmp .ne 5, 3) := by decide +kernel
theorem d11_93 : decode prog_51_method_13_code 93 = .ok (.iconst (-1), 1) := by decide +kernel
theorem d11_94 : decode prog_51_method_13_code 94 = .ok (.ireturn, 1) := by decide +kernel
theorem d11_95 : decode prog_51_method_13_code 95 = .ok (.aload_n 0, 1) := by decide +kernel
theorem d11_96 : decode prog_51_method_13_code 96 = .ok (.getfield 20, 3) := by decide +kernel
theorem d11_99 : decode prog_51_method_13_code 99 = .ok (.iload_n 3, 1) := by decide +kernel
theorem d11_100 : decode prog_51_method_13_code 100 = .ok (.laload, 1) := by decide +kernel
theorem d11_101 : decode prog_51_method_13_code 101 = .ok (.lstore 4, 2) := by decide +kernel
theorem d11_103 : decode prog_51_method_13_code 103 = .ok (.goto (-29), 3) := by decide +kernel
theorem d11_106 : decode prog_51_method_13_code 106 = .ok (.iload_n 3, 1) := by decide +kernel
theorem d11_107 : decode prog_51_method_13_code 107 = .ok (.bipush 64, 2) := by decide +kernel
theorem d11_109 : decode prog_51_method_13_code 109 = .ok (.imul, 1) := by decide +kernel
theorem d11_110 : decode prog_51_method_13_code 110 = .ok (.lload 4, 2) := by decide +kernel
theorem d11_112 : decode prog_51_method_13_code 112 = .ok (.invokestatic 85, 3) := by decide +kernel
theorem d11_115 : decode prog_51_method_13_code 115 = .ok (.iadd, 1) := by decide +kernel
theorem d11_116 : decode prog_51_method_13_code 116 = .ok (.ireturn, 1) := by decide +kernel
def rm_after : Room := { frames := 2, cells := 0, slots := 0, locals := 29 }
theorem pf_after : plainFor (⟨"com/example/rowan/rowan/policy/EntitySet", "after", "(I)I"⟩ : MethodName) = true := plainFor_of_name (by first | (simp [plainName, overriddenIn]; done) | decide +kernel)
set_option maxRecDepth 65536 in
set_option maxHeartbeats 40000000 in
theorem ct_after {l : Launch} {Z : State} {a0 : Array Value} (hw : ∀ d ∈ tables_1, d.before a0 Z = true) (h0 : Heap) (n0 : Nat) (b : Addr) (pp : Int32) (nn : Nat) (xs : List Int32) (M : List Int32 ⊕ List Int64) (t : Nat) (hnn : nn ≤ 256) (ht : t ≤ 256) (hp : pp + (1 : Int32) = Int32.ofNat t) (R : RepM Z n0 h0 b nn xs M) :
    Ct l Z (⟨"com/example/rowan/rowan/policy/EntitySet", "after", "(I)I"⟩ : MethodName) prog_51_method_13_code 6 (Option.some Jvm.ClassFile.FieldType.int) [] rm_after #[.ref b, .int pp] h0 n0 (fun v h => ∃ z, v = some (.int z) ∧ Aft M t z ∧ h = h0) := by
  refine Ct.of (Ls := #[.val (.ref b), .val (.int pp), .unset, .unset, .unset, .unset]) pf_after (fun m => by first | (simp [entryFrame, mkF, argsToLocals, Value.category, maxLocals]; done) | rfl) ?_
  intro p e s m below meth c C
  cases M with
  | inl V =>
    obtain ⟨sa, sh, O_b, O_sa, g_sa, ne_b_sa, I, pm, hcap⟩ := R
    have v8 := I.sz.pos.2
    have L11 : ∀ (n tt : Nat), tt + n = 300 → t ≤ tt → (∀ x, t ≤ x → x < tt → ¬ pr (.inl V) x) → Wp p l e rm_after s m #[.ref b, .int pp] below meth c n0 rm_after.cells rm_after.slots (fun v h => ∃ z, v = some (.int z) ∧ Aft (.inl V) t z ∧ h = h0) h0 0 0 (mkF m 11 #[.val (.ref b), .val (.int pp), .val (.int (Int32.ofNat tt)), .unset, .unset, .unset] []) := by
      intro n
      induction n using Nat.strongRecOn with
      | _ n ih =>
        intro tt hin htt hb
        refine w_iloadN (pc' := 12) C d11_11 rfl rfl ?_
        refine w_aloadN (pc' := 13) C d11_12 rfl rfl rfl ?_
        refine w_getF (pc' := 16) C (tw hw 28 rfl) d11_13 rfl (O_b.fld 1 rfl) ?_
        refine wA_alen (pc' := 17) (n := (Int32.ofNat V.length)) C d11_16 rfl O_sa (len_I rfl) ?_
        refine w_icmp_ge (pcT := 38) (pcF := 20) C d11_17 (by decide) (by decide) rfl (fun q17_1 => ?_) (fun q17_1 => ?_)
        · skip
          have iN : V.length ≤ tt := by have := q17_1; rw [lt_ix (by omega) (by omega)] at this; omega
          refine w_iconst (pc' := 39) (x := (-1 : Int32)) C d11_38 rfl rfl ?_
          refine w_retI C rfl d11_39 (by decide) (by decide) ?_
          exact ⟨_, rfl, aft_end hb iN, rfl⟩
        · skip
          have il : tt < V.length := by rw [← lt_ix (by omega) (by omega)]; exact q17_1
          refine w_aloadN (pc' := 21) C d11_20 rfl rfl rfl ?_
          refine w_getF (pc' := 24) C (tw hw 28 rfl) d11_21 rfl (O_b.fld 1 rfl) ?_
          refine w_iloadN (pc' := 25) C d11_24 rfl rfl ?_
          refine wA_iaload (pc' := 26) (v := .int (vat V tt)) C d11_25 rfl O_sa (ix_nn (by omega)) (mapI_get il (by omega)) ?_
          refine w_iconst (pc' := 27) (x := (-1 : Int32)) C d11_26 rfl rfl ?_
          refine w_icmp_eq (pcT := 32) (pcF := 30) C d11_27 (by decide) (by decide) rfl (fun q27_2 => ?_) (fun q27_2 => ?_)
          · skip
            refine w_iinc (pc' := 35) (Ls' := #[.val (.ref b), .val (.int pp), .val (.int ((Int32.ofNat tt) + (1 : Int32))), .unset, .unset, .unset]) C d11_32 rfl rfl rfl ?_
            refine w_goto (pc' := 11) C d11_35 (by decide) (by decide) ?_
            rw [ofNat_succ tt]
            exact ih (n - 1) (by omega) (tt + 1) (by omega) (by omega) (aft_skip hb q27_2)
          · skip
            refine w_iloadN (pc' := 31) C d11_30 rfl rfl ?_
            refine w_retI C rfl d11_31 (by decide) (by decide) ?_
            exact ⟨_, rfl, Or.inr ⟨tt, rfl, htt, ⟨il, q27_2⟩, hb⟩, rfl⟩
    refine w_aloadN (pc' := 1) C d11_0 rfl rfl rfl ?_
    refine w_getF (pc' := 4) C (tw hw 35 rfl) d11_1 rfl (O_b.fld 2 rfl) ?_
    refine w_ifnonnull_null (pc' := 7) C d11_4 rfl ?_
    refine w_iloadN (pc' := 8) C d11_7 rfl rfl ?_
    refine w_iconst (pc' := 9) (x := (1 : Int32)) C d11_8 rfl rfl ?_
    refine w_iadd (pc' := 10) C d11_9 rfl ?_
    refine w_eqI hp ?_
    refine w_istoreN (pc' := 11) (Ls' := #[.val (.ref b), .val (.int pp), .val (.int (Int32.ofNat t)), .unset, .unset, .unset]) C d11_10 rfl rfl ?_
    exact L11 (300 - t) t (by omega) (Nat.le_refl _) (fun x h1 h2 => absurd h2 (by omega))
  | inr W =>
    obtain ⟨wa, O_b, O_wa, g_wa, ne_b_wa, J⟩ := R
    have w4 := wc_le hnn
    have L74 : ∀ (n w1 : Nat) (bb : Int64), w1 + n = 10 → w1 < wcN nn → BW W t w1 bb → (∀ x, t ≤ x → x < 64 * w1 → ¬ bit W x = true) → t < 64 * (w1 + 1) → Wp p l e rm_after s m #[.ref b, .int pp] below meth c n0 rm_after.cells rm_after.slots (fun v h => ∃ z, v = some (.int z) ∧ Aft (.inr W) t z ∧ h = h0) h0 0 0 (mkF m 74 #[.val (.ref b), .val (.int pp), .val (.int (Int32.ofNat t)), .val (.int (Int32.ofNat w1)), .val (.long bb), .second] []) := by
      intro n
      induction n using Nat.strongRecOn with
      | _ n ih =>
        intro w1 bb hin wl B hb ht2
        refine w_lload (pc' := 76) C d11_74 rfl rfl ?_
        refine w_lconst (pc' := 77) (x := (0 : Int64)) C d11_76 rfl rfl ?_
        refine w_lcmp (pc' := 78) C d11_77 rfl ?_
        refine w_if_ne (pcT := 106) (pcF := 81) C d11_78 (by decide) (by decide) rfl (fun q78_3 => ?_) (fun q78_3 => ?_)
        · skip
          refine w_iloadN (pc' := 107) C d11_106 rfl rfl ?_
          refine w_bipush (pc' := 109) (x := (64 : Int32)) C d11_107 rfl rfl ?_
          refine w_imul (pc' := 110) C d11_109 rfl ?_
          refine w_lload (pc' := 112) C d11_110 rfl rfl ?_
          refine w_callS (pc' := 115) (argsL := [.long bb]) (st := [.int ((Int32.ofNat w1) * (64 : Int32))]) (W := 1) (ce' := 0) (sl' := 0) C (tw hw 74 rfl) (tw hw 75 rfl) (tw hw 76 rfl) (tw hw 77 rfl) (by decide) d11_112 rfl rfl (by decide) (by decide) (Nat.le_of_eq rfl) rfl rfl (by decide) (by decide) rfl (lenOf pd_6 rfl) (ct_ntz64 hw h0 n0 bb) (kp ?_)
          refine w_iadd (pc' := 116) C d11_115 rfl ?_
          refine w_retI C rfl d11_116 (by decide) (by decide) ?_
          exact ⟨_, rfl, B.some (by omega) hb (cmpn q78_3), rfl⟩
        · skip
          have b0 : bb = 0 := cmp0 q78_3
          refine w_iinc (pc' := 84) (Ls' := #[.val (.ref b), .val (.int pp), .val (.int (Int32.ofNat t)), .val (.int ((Int32.ofNat w1) + (1 : Int32))), .val (.long bb), .second]) C d11_81 rfl rfl rfl ?_
          rw [ofNat_succ w1]
          refine w_iloadN (pc' := 85) C d11_84 rfl rfl ?_
          refine w_aloadN (pc' := 86) C d11_85 rfl rfl rfl ?_
          refine w_getF (pc' := 89) C (tw hw 35 rfl) d11_86 rfl (O_b.fld 2 rfl) ?_
          refine wA_alen (pc' := 90) (n := (Int32.ofNat (wcN nn))) C d11_89 rfl O_wa (len_L J.1) ?_
          refine w_icmp_ne (pcT := 95) (pcF := 93) C d11_90 (by decide) (by decide) rfl (fun q90_4 => ?_) (fun q90_4 => ?_)
          · skip
            have wl2 : w1 + 1 < W.length := by rw [J.1]; exact Nat.lt_of_le_of_ne wl (fun z => q90_4 (by rw [z]))
            refine w_aloadN (pc' := 96) C d11_95 rfl rfl rfl ?_
            refine w_getF (pc' := 99) C (tw hw 35 rfl) d11_96 rfl (O_b.fld 2 rfl) ?_
            refine w_iloadN (pc' := 100) C d11_99 rfl rfl ?_
            refine wA_laload (pc' := 101) (v := .long (wat W (w1 + 1))) C d11_100 rfl O_wa (ix_nn (by omega)) (mapL_get wl2 (by omega)) ?_
            refine w_lstore (pc' := 103) (Ls' := #[.val (.ref b), .val (.int pp), .val (.int (Int32.ofNat t)), .val (.int (Int32.ofNat (w1 + 1))), .val (.long (wat W (w1 + 1))), .second]) C d11_101 rfl rfl ?_
            refine w_goto (pc' := 74) C d11_103 (by decide) (by decide) ?_
            exact ih (n - 1) (by omega) (w1 + 1) (wat W (w1 + 1)) (by omega) (by rw [← J.1]; exact wl2) (BW.later (by omega)) (BW.none (by rw [← b0]; exact B) hb) (by omega)
          · skip
            refine w_iconst (pc' := 94) (x := (-1 : Int32)) C d11_93 rfl rfl ?_
            refine w_retI C rfl d11_94 (by decide) (by decide) ?_
            exact ⟨_, rfl, aft_endW J (ofNat_inj (by omega) (by omega) q90_4) (BW.none (by rw [← b0]; exact B) hb), rfl⟩
    refine w_aloadN (pc' := 1) C d11_0 rfl rfl rfl ?_
    refine w_getF (pc' := 4) C (tw hw 35 rfl) d11_1 rfl (O_b.fld 2 rfl) ?_
    refine w_ifnonnull_ref (pc' := 40) C d11_4 (by decide) (by decide) ?_
    refine w_iloadN (pc' := 41) C d11_40 rfl rfl ?_
    refine w_iconst (pc' := 42) (x := (1 : Int32)) C d11_41 rfl rfl ?_
    refine w_iadd (pc' := 43) C d11_42 rfl ?_
    refine w_eqI hp ?_
    refine w_istoreN (pc' := 44) (Ls' := #[.val (.ref b), .val (.int pp), .val (.int (Int32.ofNat t)), .unset, .unset, .unset]) C d11_43 rfl rfl ?_
    refine w_iloadN (pc' := 45) C d11_44 rfl rfl ?_
    refine w_bipush (pc' := 47) (x := (64 : Int32)) C d11_45 rfl rfl ?_
    refine w_idiv (pc' := 48) C d11_47 (by decide) rfl ?_
    refine w_eqI (div64 (by omega)) ?_
    refine w_istoreN (pc' := 49) (Ls' := #[.val (.ref b), .val (.int pp), .val (.int (Int32.ofNat t)), .val (.int (Int32.ofNat (t / 64))), .unset, .unset]) C d11_48 rfl rfl ?_
    refine w_iloadN (pc' := 50) C d11_49 rfl rfl ?_
    refine w_aloadN (pc' := 51) C d11_50 rfl rfl rfl ?_
    refine w_getF (pc' := 54) C (tw hw 35 rfl) d11_51 rfl (O_b.fld 2 rfl) ?_
    refine wA_alen (pc' := 55) (n := (Int32.ofNat (wcN nn))) C d11_54 rfl O_wa (len_L J.1) ?_
    refine w_icmp_lt (pcT := 60) (pcF := 58) C d11_55 (by decide) (by decide) rfl (fun q55_5 => ?_) (fun q55_5 => ?_)
    · skip
      have wl0 : t / 64 < wcN nn := by rw [← lt_ix (by omega) (by omega)]; exact q55_5
      have wl : t / 64 < W.length := by rw [J.1]; exact wl0
      refine w_aloadN (pc' := 61) C d11_60 rfl rfl rfl ?_
      refine w_getF (pc' := 64) C (tw hw 35 rfl) d11_61 rfl (O_b.fld 2 rfl) ?_
      refine w_iloadN (pc' := 65) C d11_64 rfl rfl ?_
      refine wA_laload (pc' := 66) (v := .long (wat W (t / 64))) C d11_65 rfl O_wa (ix_nn (by omega)) (mapL_get wl (by omega)) ?_
      refine w_ldc2J (pc' := 69) C (tw hw 73 rfl) d11_66 rfl ?_
      refine w_iloadN (pc' := 70) C d11_69 rfl rfl ?_
      refine w_lshl (pc' := 71) C d11_70 rfl ?_
      refine w_land (pc' := 72) C d11_71 rfl ?_
      refine w_lstore (pc' := 74) (Ls' := #[.val (.ref b), .val (.int pp), .val (.int (Int32.ofNat t)), .val (.int (Int32.ofNat (t / 64))), .val (.long ((wat W (t / 64)) &&& ((-1 : Int64) <<< ((Int32.ofNat t) &&& 0x3f).toInt64))), .second]) C d11_72 rfl rfl ?_
      exact L74 (10 - t / 64) (t / 64) _ (by omega) wl0 (BW.first (by omega)) (fun x h1 h2 => absurd h2 (by omega)) (by omega)
    · skip
      refine w_iconst (pc' := 59) (x := (-1 : Int32)) C d11_58 rfl rfl ?_
      refine w_retI C rfl d11_59 (by decide) (by decide) ?_
      exact ⟨_, rfl, aft_big J (by have := q55_5; rw [lt_ix (by omega) (by omega)] at this; omega), rfl⟩
theorem d12_0 : decode prog_51_method_14_code 0 = .ok (.aload_n 0, 1) := by decide +kernel
theorem d12_1 : decode prog_51_method_14_code 1 = .ok (.getfield 20, 3) := by decide +kernel
theorem d12_4 : decode prog_51_method_14_code 4 = .ok (.ifnonnull 12, 3) := by decide +kernel
theorem d12_7 : decode prog_51_method_14_code 7 = .ok (.aload_n 0, 1) := by decide +kernel
theorem d12_8 : decode prog_51_method_14_code 8 = .ok (.getfield 28, 3) := by decide +kernel
theorem d12_11 : decode prog_51_method_14_code 11 = .ok (.iload_n 1, 1) := by decide +kernel
theorem d12_12 : decode prog_51_method_14_code 12 = .ok (.iaload, 1) := by decide +kernel
theorem d12_13 : decode prog_51_method_14_code 13 = .ok (.goto 4, 3) := by decide +kernel
theorem d12_16 : decode prog_51_method_14_code 16 = .ok (.iload_n 1, 1) := by decide +kernel
theorem d12_17 : decode prog_51_method_14_code 17 = .ok (.ireturn, 1) := by decide +kernel
def rm_entityAt : Room := { frames := 0, cells := 0, slots := 0, locals := 0 }
theorem pf_entityAt : plainFor (⟨"com/example/rowan/rowan/policy/EntitySet", "entityAt", "(I)I"⟩ : MethodName) = true := plainFor_of_name (by first | (simp [plainName, overriddenIn]; done) | decide +kernel)
set_option maxRecDepth 65536 in
set_option maxHeartbeats 40000000 in
theorem ct_entityAt {l : Launch} {Z : State} {a0 : Array Value} (hw : ∀ d ∈ tables_1, d.before a0 Z = true) (h0 : Heap) (n0 : Nat) (b : Addr) (nn : Nat) (xs : List Int32) (M : List Int32 ⊕ List Int64) (y : Nat) (hy2 : y < 256) (hy : pr M y) (R : RepM Z n0 h0 b nn xs M) :
    Ct l Z (⟨"com/example/rowan/rowan/policy/EntitySet", "entityAt", "(I)I"⟩ : MethodName) prog_51_method_14_code 2 (Option.some Jvm.ClassFile.FieldType.int) [] rm_entityAt #[.ref b, .int (Int32.ofNat y)] h0 n0 (fun v h => v = some (.int (en M y)) ∧ h = h0) := by
  refine Ct.of (Ls := #[.val (.ref b), .val (.int (Int32.ofNat y))]) pf_entityAt (fun m => by first | (simp [entryFrame, mkF, argsToLocals, Value.category, maxLocals]; done) | rfl) ?_
  intro p e s m below meth c C
  cases M with
  | inl V =>
    obtain ⟨sa, sh, O_b, O_sa, g_sa, ne_b_sa, I, pm, hcap⟩ := R
    refine w_aloadN (pc' := 1) C d12_0 rfl rfl rfl ?_
    refine w_getF (pc' := 4) C (tw hw 35 rfl) d12_1 rfl (O_b.fld 2 rfl) ?_
    refine w_ifnonnull_null (pc' := 7) C d12_4 rfl ?_
    refine w_aloadN (pc' := 8) C d12_7 rfl rfl rfl ?_
    refine w_getF (pc' := 11) C (tw hw 28 rfl) d12_8 rfl (O_b.fld 1 rfl) ?_
    refine w_iloadN (pc' := 12) C d12_11 rfl rfl ?_
    refine wA_iaload (pc' := 13) (v := .int (vat V y)) C d12_12 rfl O_sa (ix_nn (by omega)) (mapI_get hy.1 (by omega)) ?_
    refine w_goto (pc' := 17) C d12_13 (by decide) (by decide) ?_
    refine w_retI C rfl d12_17 (by decide) (by decide) ?_
    exact ⟨rfl, rfl⟩
  | inr W =>
    obtain ⟨wa, O_b, O_wa, g_wa, ne_b_wa, J⟩ := R
    refine w_aloadN (pc' := 1) C d12_0 rfl rfl rfl ?_
    refine w_getF (pc' := 4) C (tw hw 35 rfl) d12_1 rfl (O_b.fld 2 rfl) ?_
    refine w_ifnonnull_ref (pc' := 16) C d12_4 (by decide) (by decide) ?_
    refine w_iloadN (pc' := 17) C d12_16 rfl rfl ?_
    refine w_retI C rfl d12_17 (by decide) (by decide) ?_
    exact ⟨rfl, rfl⟩
theorem n256 (u : Int32) : ∃ nn, 1 ≤ nn ∧ nn ≤ 256 ∧ (1 : Int32) + (u &&& (255 : Int32)) = Int32.ofNat nn := by
  have h := c_mask u 255 8 (by decide) (by decide)
  obtain ⟨k, hk⟩ := small_int (n := 256) (x := u &&& 255) (by omega) (by omega)
  refine ⟨k.1 + 1, by omega, by omega, ?_⟩
  rw [hk, Int32.add_comm]
  exact ofNat_succ k.1
theorem nz_n {nn : Nat} (h : 1 ≤ nn) (h' : nn ≤ 256) : Int32.ofNat nn ≠ 0 := fun q => by
  have := ofNat_inj (b := 0) (by omega) (by decide) q; omega
theorem rem_n (u : Int32) {nn : Nat} (h : 1 ≤ nn) (h' : nn ≤ 256) : ∃ k, k < nn ∧ (u &&& (2147483647 : Int32)) % Int32.ofNat nn = Int32.ofNat k := by
  have h1 := c_mask u 2147483647 31 (by decide) (by decide)
  have h2 := c_irem (u &&& 2147483647) (Int32.ofNat nn) nn (by rw [toI (by omega)])
  have h4 := Int.emod_nonneg (u &&& 2147483647).toInt (b := (nn : Int)) (by omega)
  have h5 := Int.emod_lt_of_pos (u &&& 2147483647).toInt (b := (nn : Int)) (by omega)
  have h3 : 0 ≤ ((u &&& 2147483647) % Int32.ofNat nn).toInt ∧ ((u &&& 2147483647) % Int32.ofNat nn).toInt < nn := by omega
  obtain ⟨k, hk⟩ := small_int (n := nn) h3.1 h3.2
  exact ⟨k.1, k.2, hk⟩
theorem mem3 {z a b d : Int32} (h : z ∈ adds d (adds b (adds a []))) : z = a ∨ z = b ∨ ((1 : Int32) ≠ 0 ∧ z = d) := by
  unfold adds at h
  have n10 : (1 : Int32) ≠ 0 := by decide
  repeat' split at h
  all_goals simp_all
  all_goals rcases h with h | h | h <;> simp_all
theorem mem2 {z a b d u : Int32} (h : z ∈ adds b (adds a [])) : z = a ∨ z = b ∨ (u ≠ 0 ∧ z = d) := by
  unfold adds at h
  repeat' split at h
  all_goals simp_all
  all_goals rcases h with h | h <;> simp_all
theorem neg1 : (-1 : Int32) + (1 : Int32) = Int32.ofNat 0 := by decide
theorem al0 (r : Int32) (u : List Int32) : (adds r u).length ≤ u.length + 1 := by unfold adds; split <;> simp
theorem al1 (a : Int32) : (adds a []).length ≤ 2 := Nat.le_trans (al0 a []) (by decide)
theorem al2 (a b : Int32) : (adds b (adds a [])).length ≤ 2 := Nat.le_trans (al0 b _) (Nat.succ_le_succ (al0 a []))
theorem pf_law : plainFor (⟨"com/example/rowan/rowan/policy/EntitySetEntityAtPinLaw", "law", "(IIIII)Z"⟩ : MethodName) = true := plainFor_of_name (by first | (simp [plainName, overriddenIn]; done) | decide +kernel)
set_option maxRecDepth 65536 in
set_option maxHeartbeats 40000000 in
theorem ct_law {l : Launch} {Z : State} {a0 : Array Value} (hw : ∀ d ∈ tables_1, d.before a0 Z = true) (ws : List Jvm.Cond) (h0 : Heap) (n0 : Nat) (x0 : Int32) (x1 : Int32) (x2 : Int32) (x3 : Int32) (x4 : Int32) (hz : n0 ≤ h0.size) :
    Ct l Z x code maxLocals ret ws room_1 #[.int x0, .int x1, .int x2, .int x3, .int x4] h0 n0 (fun v h => v = some (.int 1)) := by
  refine Ct.of (Ls := #[.val (.int x0), .val (.int x1), .val (.int x2), .val (.int x3), .val (.int x4), .unset, .unset, .unset, .unset, .unset, .unset, .unset, .unset, .unset, .unset, .unset, .unset, .unset, .unset]) pf_law (fun m => by first | (simp [entryFrame, mkF, argsToLocals, Value.category, maxLocals]; done) | rfl) ?_
  intro p e s m below meth c C
  have hk : Keep h0 h0 [] := Keep.refl _ _
  refine w_iconst (pc' := 1) (x := (1 : Int32)) C at_0 rfl rfl ?_
  refine w_iloadN (pc' := 2) C at_1 rfl rfl ?_
  refine w_sipush (pc' := 5) (x := (255 : Int32)) C at_2 rfl rfl ?_
  refine w_iand (pc' := 6) C at_5 rfl ?_
  refine w_iadd (pc' := 7) C at_6 rfl ?_
  obtain ⟨nn, hn1, hnn, e7⟩ := n256 x0
  have nz := nz_n hn1 hnn
  refine w_eqI e7 ?_
  refine w_istore (pc' := 9) (Ls' := #[.val (.int x0), .val (.int x1), .val (.int x2), .val (.int x3), .val (.int x4), .val (.int (Int32.ofNat nn)), .unset, .unset, .unset, .unset, .unset, .unset, .unset, .unset, .unset, .unset, .unset, .unset, .unset]) C at_7 rfl rfl ?_
  refine w_iloadN (pc' := 10) C at_9 rfl rfl ?_
  refine w_ldcI (pc' := 12) C (tw hw 0 rfl) at_10 rfl ?_
  refine w_iand (pc' := 13) C at_12 rfl ?_
  refine w_iload (pc' := 15) C at_13 rfl rfl ?_
  refine w_irem (pc' := 16) C at_15 (by assumption) rfl ?_
  obtain ⟨ea, hea, e_ea⟩ := rem_n x1 hn1 hnn
  refine w_eqI e_ea ?_
  refine w_istore (pc' := 18) (Ls' := #[.val (.int x0), .val (.int x1), .val (.int x2), .val (.int x3), .val (.int x4), .val (.int (Int32.ofNat nn)), .val (.int (Int32.ofNat ea)), .unset, .unset, .unset, .unset, .unset, .unset, .unset, .unset, .unset, .unset, .unset, .unset]) C at_16 rfl rfl ?_
  refine w_iloadN (pc' := 19) C at_18 rfl rfl ?_
  refine w_ldcI (pc' := 21) C (tw hw 0 rfl) at_19 rfl ?_
  refine w_iand (pc' := 22) C at_21 rfl ?_
  refine w_iload (pc' := 24) C at_22 rfl rfl ?_
  refine w_irem (pc' := 25) C at_24 (by assumption) rfl ?_
  obtain ⟨eb, heb, e_eb⟩ := rem_n x2 hn1 hnn
  refine w_eqI e_eb ?_
  refine w_istore (pc' := 27) (Ls' := #[.val (.int x0), .val (.int x1), .val (.int x2), .val (.int x3), .val (.int x4), .val (.int (Int32.ofNat nn)), .val (.int (Int32.ofNat ea)), .val (.int (Int32.ofNat eb)), .unset, .unset, .unset, .unset, .unset, .unset, .unset, .unset, .unset, .unset, .unset]) C at_25 rfl rfl ?_
  refine w_iloadN (pc' := 28) C at_27 rfl rfl ?_
  refine w_ldcI (pc' := 30) C (tw hw 0 rfl) at_28 rfl ?_
  refine w_iand (pc' := 31) C at_30 rfl ?_
  refine w_iload (pc' := 33) C at_31 rfl rfl ?_
  refine w_irem (pc' := 34) C at_33 (by assumption) rfl ?_
  obtain ⟨ec, hec, e_ec⟩ := rem_n x3 hn1 hnn
  refine w_eqI e_ec ?_
  refine w_istore (pc' := 36) (Ls' := #[.val (.int x0), .val (.int x1), .val (.int x2), .val (.int x3), .val (.int x4), .val (.int (Int32.ofNat nn)), .val (.int (Int32.ofNat ea)), .val (.int (Int32.ofNat eb)), .val (.int (Int32.ofNat ec)), .unset, .unset, .unset, .unset, .unset, .unset, .unset, .unset, .unset, .unset]) C at_34 rfl rfl ?_
  refine w_iload (pc' := 38) C at_36 rfl rfl ?_
  refine w_iconst (pc' := 39) (x := (1 : Int32)) C at_38 rfl rfl ?_
  refine w_iand (pc' := 40) C at_39 rfl ?_
  refine w_if_eq (pcT := 47) (pcF := 43) C at_40 (by decide) (by decide) rfl (fun q40_1 => ?_) (fun q40_1 => ?_)
  · skip
    refine w_iconst (pc' := 48) (x := (0 : Int32)) C at_47 rfl rfl ?_
    refine w_istore (pc' := 50) (Ls' := #[.val (.int x0), .val (.int x1), .val (.int x2), .val (.int x3), .val (.int x4), .val (.int (Int32.ofNat nn)), .val (.int (Int32.ofNat ea)), .val (.int (Int32.ofNat eb)), .val (.int (Int32.ofNat ec)), .val (.int (0 : Int32)), .unset, .unset, .unset, .unset, .unset, .unset, .unset, .unset, .unset]) C at_48 rfl rfl ?_
    refine w_iconst (pc' := 51) (x := (1 : Int32)) C at_50 rfl rfl ?_
    refine w_istore (pc' := 53) (Ls' := #[.val (.int x0), .val (.int x1), .val (.int x2), .val (.int x3), .val (.int x4), .val (.int (Int32.ofNat nn)), .val (.int (Int32.ofNat ea)), .val (.int (Int32.ofNat eb)), .val (.int (Int32.ofNat ec)), .val (.int (0 : Int32)), .val (.int (1 : Int32)), .unset, .unset, .unset, .unset, .unset, .unset, .unset, .unset]) C at_51 rfl rfl ?_
    refine w_iload (pc' := 55) C at_53 rfl rfl ?_
    refine w_iload (pc' := 57) C at_55 rfl rfl ?_
    refine w_icmp_eq (pcT := 66) (pcF := 60) C at_57 (by decide) (by decide) rfl (fun q57_2 => ?_) (fun q57_2 => ?_)
    · skip
      refine w_iload (pc' := 68) C at_66 rfl rfl ?_
      refine w_if_eq (pcT := 91) (pcF := 71) C at_68 (by decide) (by decide) rfl (fun q68 => ?_) (fun q => absurd q (by decide))
      refine w_new (pc' := 94) (ce' := 1) (sl' := 4) C (tw hw 1 rfl) (tw hw 2 rfl) (tw hw 3 rfl) at_91 rfl rfl rfl (by decide) (by decide) (fun h1 a1 e1 E1 A1 D1 => ?_)
      have g_a1 : n0 ≤ a1 := by rw [e1]; exact hz
      have fr_a1 : h0.size ≤ a1 := by rw [e1]; exact hk.1
      have hz : n0 ≤ h1.size := Nat.le_trans hz E1.1
      have hk := hk.ext E1
      have O_a1 : Obj Z h1 a1 "com/example/rowan/rowan/policy/EntitySet" [("entities", "I", .int (0 : Int32)), ("slots", "[I", .null), ("words", "[J", .null), ("size", "I", .int (0 : Int32))] := obj_Ent hw A1 D1
      refine w_dup (pc' := 95) C at_94 rfl rfl ?_
      refine w_iload (pc' := 97) C at_95 rfl rfl ?_
      refine w_callI (pc' := 100) (argsL := [.int (Int32.ofNat nn)]) (st := [.ref a1]) (W := 1) (ce' := 2) (sl' := 12) C rfl (tw hw 4 rfl) (tw hw 5 rfl) (tw hw 3 rfl) (tw hw 6 rfl) (by decide) at_97 rfl rfl (by decide) (by decide) (Nat.le_of_eq rfl) rfl rfl (by decide) (by decide) rfl (lenOf pd_7 rfl) (ct_init hw h1 n0 a1 nn hz hn1 hnn O_a1 g_a1) (k0 (fun h2 q2 => ?_))
      obtain ⟨R2, hz⟩ := q2
      have O_a1 : Exa Z h2 a1 "com/example/rowan/rowan/policy/EntitySet" ∧ True := ⟨R2.exa, trivial⟩
      refine w_astore (pc' := 102) (Ls' := #[.val (.int x0), .val (.int x1), .val (.int x2), .val (.int x3), .val (.int x4), .val (.int (Int32.ofNat nn)), .val (.int (Int32.ofNat ea)), .val (.int (Int32.ofNat eb)), .val (.int (Int32.ofNat ec)), .val (.int (0 : Int32)), .val (.int (1 : Int32)), .val (.ref a1), .unset, .unset, .unset, .unset, .unset, .unset, .unset]) C at_100 rfl rfl rfl ?_
      refine w_aload (pc' := 104) C at_102 rfl rfl rfl ?_
      refine w_iload (pc' := 106) C at_104 rfl rfl ?_
      have len3 : ([] : List Int32).length ≤ 2 := Nat.zero_le _
      refine w_callV (Cl := "com/example/rowan/rowan/policy/EntitySet") (pc' := 109) (argsL := [.int (Int32.ofNat ea)]) (st := []) (W := 0) (ce' := 3) (sl' := 20) C (tw hw 30 rfl) (tw hw 31 rfl) (tw hw 33 rfl) (tw hw 32 rfl) (tw hw 3 rfl) (tw hw 34 rfl) (by decide) at_106 rfl rfl (by decide) (by decide) (Nat.le_of_eq rfl) rfl rfl (by decide) (by decide) rfl (lenOf pd_5 rfl) O_a1.1 (ct_add hw h2 n0 a1 ea nn ([] : List Int32) hz hnn hea (XsOk.nil nn) len3 R2 g_a1) (kz (fun z3 h3 q3 => ?_))
      obtain ⟨R3, hz⟩ := q3
      have O_a1 : Exa Z h3 a1 "com/example/rowan/rowan/policy/EntitySet" ∧ True := ⟨R3.exa, trivial⟩
      have X3 : XsOk nn (adds (Int32.ofNat ea) ([] : List Int32)) := XsOk.adds (XsOk.nil nn) hea
      refine w_pop (pc' := 110) C at_109 rfl rfl ?_
      refine w_aload (pc' := 112) C at_110 rfl rfl rfl ?_
      refine w_iload (pc' := 114) C at_112 rfl rfl ?_
      have len4 : (adds (Int32.ofNat ea) ([] : List Int32)).length ≤ 2 := al1 _
      refine w_callV (Cl := "com/example/rowan/rowan/policy/EntitySet") (pc' := 117) (argsL := [.int (Int32.ofNat eb)]) (st := []) (W := 0) (ce' := 4) (sl' := 28) C (tw hw 30 rfl) (tw hw 31 rfl) (tw hw 33 rfl) (tw hw 32 rfl) (tw hw 3 rfl) (tw hw 34 rfl) (by decide) at_114 rfl rfl (by decide) (by decide) (Nat.le_of_eq rfl) rfl rfl (by decide) (by decide) rfl (lenOf pd_5 rfl) O_a1.1 (ct_add hw h3 n0 a1 eb nn (adds (Int32.ofNat ea) ([] : List Int32)) hz hnn heb X3 len4 R3 g_a1) (kz (fun z4 h4 q4 => ?_))
      obtain ⟨R4, hz⟩ := q4
      have O_a1 : Exa Z h4 a1 "com/example/rowan/rowan/policy/EntitySet" ∧ True := ⟨R4.exa, trivial⟩
      have X4 : XsOk nn (adds (Int32.ofNat eb) (adds (Int32.ofNat ea) ([] : List Int32))) := XsOk.adds X3 heb
      refine w_pop (pc' := 118) C at_117 rfl rfl ?_
      refine w_iload (pc' := 120) C at_118 rfl rfl ?_
      refine w_if_eq (pcT := 131) (pcF := 123) C at_120 (by decide) (by decide) rfl (fun q120 => ?_) (fun q => absurd q (by decide))
      refine w_aload (pc' := 133) C at_131 rfl rfl rfl ?_
      refine w_iconst (pc' := 134) (x := (-1 : Int32)) C at_133 rfl rfl ?_
      obtain ⟨M, RM⟩ := R4
      have Vw := RM.view X4 hnn
      have K0 := Cov.nil M
      refine w_callV (Cl := "com/example/rowan/rowan/policy/EntitySet") (pc' := 137) (argsL := [.int (-1 : Int32)]) (st := []) (W := 0) (ce' := 4) (sl' := 28) C (tw hw 53 rfl) (tw hw 54 rfl) (tw hw 56 rfl) (tw hw 55 rfl) (tw hw 3 rfl) (tw hw 57 rfl) (by decide) at_134 rfl rfl (by decide) (by decide) (Nat.le_of_eq rfl) rfl rfl (by decide) (by decide) rfl (lenOf pd_1 rfl) O_a1.1 (ct_after hw h4 n0 a1 (-1 : Int32) nn (adds (Int32.ofNat eb) (adds (Int32.ofNat ea) ([] : List Int32))) M 0 hnn (by decide) neg1 RM) (kq (fun u1 A1 => ?_))
      refine w_istore (pc' := 139) (Ls' := #[.val (.int x0), .val (.int x1), .val (.int x2), .val (.int x3), .val (.int x4), .val (.int (Int32.ofNat nn)), .val (.int (Int32.ofNat ea)), .val (.int (Int32.ofNat eb)), .val (.int (Int32.ofNat ec)), .val (.int (0 : Int32)), .val (.int (1 : Int32)), .val (.ref a1), .val (.int u1), .unset, .unset, .unset, .unset, .unset, .unset]) C at_137 rfl rfl ?_
      refine w_iload (pc' := 141) C at_139 rfl rfl ?_
      refine w_iconst (pc' := 142) (x := (-1 : Int32)) C at_141 rfl rfl ?_
      refine w_icmp_ne (pcT := 147) (pcF := 145) C at_142 (by decide) (by decide) rfl (fun q142_3 => ?_) (fun q142_3 => ?_)
      · skip
        obtain ⟨y1, rfl, by1, py1, cy1⟩ := A1.ex q142_3
        have Ky1 := K0.next by1 py1 cy1
        refine w_aload (pc' := 149) C at_147 rfl rfl rfl ?_
        refine w_iload (pc' := 151) C at_149 rfl rfl ?_
        refine w_callV (Cl := "com/example/rowan/rowan/policy/EntitySet") (pc' := 154) (argsL := [.int (Int32.ofNat y1)]) (st := []) (W := 0) (ce' := 4) (sl' := 28) C (tw hw 58 rfl) (tw hw 59 rfl) (tw hw 61 rfl) (tw hw 60 rfl) (tw hw 3 rfl) (tw hw 62 rfl) (by decide) at_151 rfl rfl (by decide) (by decide) (Nat.le_of_eq rfl) rfl rfl (by decide) (by decide) rfl (lenOf pd_1 rfl) O_a1.1 (ct_entityAt hw h4 n0 a1 nn (adds (Int32.ofNat eb) (adds (Int32.ofNat ea) ([] : List Int32))) M y1 (Vw.1 y1 py1).1 py1 RM) (kp ?_)
        refine w_istore (pc' := 156) (Ls' := #[.val (.int x0), .val (.int x1), .val (.int x2), .val (.int x3), .val (.int x4), .val (.int (Int32.ofNat nn)), .val (.int (Int32.ofNat ea)), .val (.int (Int32.ofNat eb)), .val (.int (Int32.ofNat ec)), .val (.int (0 : Int32)), .val (.int (1 : Int32)), .val (.ref a1), .val (.int (Int32.ofNat y1)), .val (.int (en M y1)), .unset, .unset, .unset, .unset, .unset]) C at_154 rfl rfl ?_
        refine w_aload (pc' := 158) C at_156 rfl rfl rfl ?_
        refine w_iload (pc' := 160) C at_158 rfl rfl ?_
        refine w_callV (Cl := "com/example/rowan/rowan/policy/EntitySet") (pc' := 163) (argsL := [.int (Int32.ofNat y1)]) (st := []) (W := 0) (ce' := 4) (sl' := 28) C (tw hw 53 rfl) (tw hw 54 rfl) (tw hw 56 rfl) (tw hw 55 rfl) (tw hw 3 rfl) (tw hw 57 rfl) (by decide) at_160 rfl rfl (by decide) (by decide) (Nat.le_of_eq rfl) rfl rfl (by decide) (by decide) rfl (lenOf pd_1 rfl) O_a1.1 (ct_after hw h4 n0 a1 (Int32.ofNat y1) nn (adds (Int32.ofNat eb) (adds (Int32.ofNat ea) ([] : List Int32))) M (y1 + 1) hnn (Vw.1 y1 py1).1 (ofNat_succ y1) RM) (kq (fun u2 A2 => ?_))
        refine w_istore (pc' := 165) (Ls' := #[.val (.int x0), .val (.int x1), .val (.int x2), .val (.int x3), .val (.int x4), .val (.int (Int32.ofNat nn)), .val (.int (Int32.ofNat ea)), .val (.int (Int32.ofNat eb)), .val (.int (Int32.ofNat ec)), .val (.int (0 : Int32)), .val (.int (1 : Int32)), .val (.ref a1), .val (.int (Int32.ofNat y1)), .val (.int (en M y1)), .val (.int u2), .unset, .unset, .unset, .unset]) C at_163 rfl rfl ?_
        refine w_iload (pc' := 167) C at_165 rfl rfl ?_
        refine w_iconst (pc' := 168) (x := (1 : Int32)) C at_167 rfl rfl ?_
        refine w_icmp_ne (pcT := 199) (pcF := 171) C at_168 (by decide) (by decide) rfl (fun q => absurd q (by decide)) (fun q168 => ?_)
        refine w_iload (pc' := 173) C at_171 rfl rfl ?_
        refine w_iconst (pc' := 174) (x := (-1 : Int32)) C at_173 rfl rfl ?_
        refine w_icmp_ne (pcT := 197) (pcF := 177) C at_174 (by decide) (by decide) rfl (fun q174_4 => ?_) (fun q174_4 => ?_)
        · skip
          have lx : (adds (Int32.ofNat eb) (adds (Int32.ofNat ea) ([] : List Int32))).length = 1 := by simp [adds, q57_2]
          exact absurd (Ky1.none Vw (by rw [lx]; rfl) A2) q174_4
        · skip
          refine w_iload (pc' := 179) C at_177 rfl rfl ?_
          refine w_iload (pc' := 181) C at_179 rfl rfl ?_
          refine w_iload (pc' := 183) C at_181 rfl rfl ?_
          refine w_iload (pc' := 185) C at_183 rfl rfl ?_
          refine w_iload (pc' := 187) C at_185 rfl rfl ?_
          refine w_callS (pc' := 190) (argsL := [.int (en M y1), .int (Int32.ofNat ea), .int (Int32.ofNat eb), .int (Int32.ofNat ec), .int (0 : Int32)]) (st := []) (W := 0) (ce' := 4) (sl' := 28) C (tw hw 63 rfl) (tw hw 64 rfl) (tw hw 65 rfl) (tw hw 66 rfl) (by decide) at_187 rfl rfl (by decide) (by decide) (Nat.le_of_eq rfl) rfl rfl (by decide) (by decide) rfl (lenOf pd_8 rfl) (ct_inD hw h4 n0 (en M y1) (Int32.ofNat ea) (Int32.ofNat eb) (Int32.ofNat ec) (0 : Int32)) (kp ?_)
          refine w_if_eq (pcT := 197) (pcF := 193) C at_190 (by decide) (by decide) rfl (fun q190_5 => ?_) (fun q190_5 => ?_)
          · skip
            have lx : (adds (Int32.ofNat eb) (adds (Int32.ofNat ea) ([] : List Int32))).length = 1 := by simp [adds, q57_2]
            exact absurd q190_5 (inD_ok (mem2 (Vw.1 y1 py1).2))
          · skip
            refine w_iconst (pc' := 194) (x := (1 : Int32)) C at_193 rfl rfl ?_
            refine w_goto (pc' := 198) C at_194 (by decide) (by decide) ?_
            refine w_retN' (t := .boolean) (z' := (1 : Int32)) C rfl (by simp) at_198 (by decide) (by decide) narB1 ?_
            rfl
      · skip
        have lx : (adds (Int32.ofNat eb) (adds (Int32.ofNat ea) ([] : List Int32))).length = 1 := by simp [adds, q57_2]
        exact absurd q142_3 (K0.more Vw X4 (by rw [lx]; simp) A1)
    · skip
      refine w_iload (pc' := 62) C at_60 rfl rfl ?_
      refine w_iconst (pc' := 63) (x := (1 : Int32)) C at_62 rfl rfl ?_
      refine w_iadd (pc' := 64) C at_63 rfl ?_
      refine w_eqI (z := (2 : Int32)) (by decide) ?_
      refine w_istore (pc' := 66) (Ls' := #[.val (.int x0), .val (.int x1), .val (.int x2), .val (.int x3), .val (.int x4), .val (.int (Int32.ofNat nn)), .val (.int (Int32.ofNat ea)), .val (.int (Int32.ofNat eb)), .val (.int (Int32.ofNat ec)), .val (.int (0 : Int32)), .val (.int (2 : Int32)), .unset, .unset, .unset, .unset, .unset, .unset, .unset, .unset]) C at_64 rfl rfl ?_
      refine w_iload (pc' := 68) C at_66 rfl rfl ?_
      refine w_if_eq (pcT := 91) (pcF := 71) C at_68 (by decide) (by decide) rfl (fun q68 => ?_) (fun q => absurd q (by decide))
      refine w_new (pc' := 94) (ce' := 1) (sl' := 4) C (tw hw 1 rfl) (tw hw 2 rfl) (tw hw 3 rfl) at_91 rfl rfl rfl (by decide) (by decide) (fun h5 a5 e5 E5 A5 D5 => ?_)
      have g_a5 : n0 ≤ a5 := by rw [e5]; exact hz
      have fr_a5 : h0.size ≤ a5 := by rw [e5]; exact hk.1
      have hz : n0 ≤ h5.size := Nat.le_trans hz E5.1
      have hk := hk.ext E5
      have O_a5 : Obj Z h5 a5 "com/example/rowan/rowan/policy/EntitySet" [("entities", "I", .int (0 : Int32)), ("slots", "[I", .null), ("words", "[J", .null), ("size", "I", .int (0 : Int32))] := obj_Ent hw A5 D5
      refine w_dup (pc' := 95) C at_94 rfl rfl ?_
      refine w_iload (pc' := 97) C at_95 rfl rfl ?_
      refine w_callI (pc' := 100) (argsL := [.int (Int32.ofNat nn)]) (st := [.ref a5]) (W := 1) (ce' := 2) (sl' := 12) C rfl (tw hw 4 rfl) (tw hw 5 rfl) (tw hw 3 rfl) (tw hw 6 rfl) (by decide) at_97 rfl rfl (by decide) (by decide) (Nat.le_of_eq rfl) rfl rfl (by decide) (by decide) rfl (lenOf pd_7 rfl) (ct_init hw h5 n0 a5 nn hz hn1 hnn O_a5 g_a5) (k0 (fun h6 q6 => ?_))
      obtain ⟨R6, hz⟩ := q6
      have O_a5 : Exa Z h6 a5 "com/example/rowan/rowan/policy/EntitySet" ∧ True := ⟨R6.exa, trivial⟩
      refine w_astore (pc' := 102) (Ls' := #[.val (.int x0), .val (.int x1), .val (.int x2), .val (.int x3), .val (.int x4), .val (.int (Int32.ofNat nn)), .val (.int (Int32.ofNat ea)), .val (.int (Int32.ofNat eb)), .val (.int (Int32.ofNat ec)), .val (.int (0 : Int32)), .val (.int (2 : Int32)), .val (.ref a5), .unset, .unset, .unset, .unset, .unset, .unset, .unset]) C at_100 rfl rfl rfl ?_
      refine w_aload (pc' := 104) C at_102 rfl rfl rfl ?_
      refine w_iload (pc' := 106) C at_104 rfl rfl ?_
      have len7 : ([] : List Int32).length ≤ 2 := Nat.zero_le _
      refine w_callV (Cl := "com/example/rowan/rowan/policy/EntitySet") (pc' := 109) (argsL := [.int (Int32.ofNat ea)]) (st := []) (W := 0) (ce' := 3) (sl' := 20) C (tw hw 30 rfl) (tw hw 31 rfl) (tw hw 33 rfl) (tw hw 32 rfl) (tw hw 3 rfl) (tw hw 34 rfl) (by decide) at_106 rfl rfl (by decide) (by decide) (Nat.le_of_eq rfl) rfl rfl (by decide) (by decide) rfl (lenOf pd_5 rfl) O_a5.1 (ct_add hw h6 n0 a5 ea nn ([] : List Int32) hz hnn hea (XsOk.nil nn) len7 R6 g_a5) (kz (fun z7 h7 q7 => ?_))
      obtain ⟨R7, hz⟩ := q7
      have O_a5 : Exa Z h7 a5 "com/example/rowan/rowan/policy/EntitySet" ∧ True := ⟨R7.exa, trivial⟩
      have X7 : XsOk nn (adds (Int32.ofNat ea) ([] : List Int32)) := XsOk.adds (XsOk.nil nn) hea
      refine w_pop (pc' := 110) C at_109 rfl rfl ?_
      refine w_aload (pc' := 112) C at_110 rfl rfl rfl ?_
      refine w_iload (pc' := 114) C at_112 rfl rfl ?_
      have len8 : (adds (Int32.ofNat ea) ([] : List Int32)).length ≤ 2 := al1 _
      refine w_callV (Cl := "com/example/rowan/rowan/policy/EntitySet") (pc' := 117) (argsL := [.int (Int32.ofNat eb)]) (st := []) (W := 0) (ce' := 4) (sl' := 28) C (tw hw 30 rfl) (tw hw 31 rfl) (tw hw 33 rfl) (tw hw 32 rfl) (tw hw 3 rfl) (tw hw 34 rfl) (by decide) at_114 rfl rfl (by decide) (by decide) (Nat.le_of_eq rfl) rfl rfl (by decide) (by decide) rfl (lenOf pd_5 rfl) O_a5.1 (ct_add hw h7 n0 a5 eb nn (adds (Int32.ofNat ea) ([] : List Int32)) hz hnn heb X7 len8 R7 g_a5) (kz (fun z8 h8 q8 => ?_))
      obtain ⟨R8, hz⟩ := q8
      have O_a5 : Exa Z h8 a5 "com/example/rowan/rowan/policy/EntitySet" ∧ True := ⟨R8.exa, trivial⟩
      have X8 : XsOk nn (adds (Int32.ofNat eb) (adds (Int32.ofNat ea) ([] : List Int32))) := XsOk.adds X7 heb
      refine w_pop (pc' := 118) C at_117 rfl rfl ?_
      refine w_iload (pc' := 120) C at_118 rfl rfl ?_
      refine w_if_eq (pcT := 131) (pcF := 123) C at_120 (by decide) (by decide) rfl (fun q120 => ?_) (fun q => absurd q (by decide))
      refine w_aload (pc' := 133) C at_131 rfl rfl rfl ?_
      refine w_iconst (pc' := 134) (x := (-1 : Int32)) C at_133 rfl rfl ?_
      obtain ⟨M, RM⟩ := R8
      have Vw := RM.view X8 hnn
      have K0 := Cov.nil M
      refine w_callV (Cl := "com/example/rowan/rowan/policy/EntitySet") (pc' := 137) (argsL := [.int (-1 : Int32)]) (st := []) (W := 0) (ce' := 4) (sl' := 28) C (tw hw 53 rfl) (tw hw 54 rfl) (tw hw 56 rfl) (tw hw 55 rfl) (tw hw 3 rfl) (tw hw 57 rfl) (by decide) at_134 rfl rfl (by decide) (by decide) (Nat.le_of_eq rfl) rfl rfl (by decide) (by decide) rfl (lenOf pd_1 rfl) O_a5.1 (ct_after hw h8 n0 a5 (-1 : Int32) nn (adds (Int32.ofNat eb) (adds (Int32.ofNat ea) ([] : List Int32))) M 0 hnn (by decide) neg1 RM) (kq (fun u3 A3 => ?_))
      refine w_istore (pc' := 139) (Ls' := #[.val (.int x0), .val (.int x1), .val (.int x2), .val (.int x3), .val (.int x4), .val (.int (Int32.ofNat nn)), .val (.int (Int32.ofNat ea)), .val (.int (Int32.ofNat eb)), .val (.int (Int32.ofNat ec)), .val (.int (0 : Int32)), .val (.int (2 : Int32)), .val (.ref a5), .val (.int u3), .unset, .unset, .unset, .unset, .unset, .unset]) C at_137 rfl rfl ?_
      refine w_iload (pc' := 141) C at_139 rfl rfl ?_
      refine w_iconst (pc' := 142) (x := (-1 : Int32)) C at_141 rfl rfl ?_
      refine w_icmp_ne (pcT := 147) (pcF := 145) C at_142 (by decide) (by decide) rfl (fun q142_6 => ?_) (fun q142_6 => ?_)
      · skip
        obtain ⟨y3, rfl, by3, py3, cy3⟩ := A3.ex q142_6
        have Ky3 := K0.next by3 py3 cy3
        refine w_aload (pc' := 149) C at_147 rfl rfl rfl ?_
        refine w_iload (pc' := 151) C at_149 rfl rfl ?_
        refine w_callV (Cl := "com/example/rowan/rowan/policy/EntitySet") (pc' := 154) (argsL := [.int (Int32.ofNat y3)]) (st := []) (W := 0) (ce' := 4) (sl' := 28) C (tw hw 58 rfl) (tw hw 59 rfl) (tw hw 61 rfl) (tw hw 60 rfl) (tw hw 3 rfl) (tw hw 62 rfl) (by decide) at_151 rfl rfl (by decide) (by decide) (Nat.le_of_eq rfl) rfl rfl (by decide) (by decide) rfl (lenOf pd_1 rfl) O_a5.1 (ct_entityAt hw h8 n0 a5 nn (adds (Int32.ofNat eb) (adds (Int32.ofNat ea) ([] : List Int32))) M y3 (Vw.1 y3 py3).1 py3 RM) (kp ?_)
        refine w_istore (pc' := 156) (Ls' := #[.val (.int x0), .val (.int x1), .val (.int x2), .val (.int x3), .val (.int x4), .val (.int (Int32.ofNat nn)), .val (.int (Int32.ofNat ea)), .val (.int (Int32.ofNat eb)), .val (.int (Int32.ofNat ec)), .val (.int (0 : Int32)), .val (.int (2 : Int32)), .val (.ref a5), .val (.int (Int32.ofNat y3)), .val (.int (en M y3)), .unset, .unset, .unset, .unset, .unset]) C at_154 rfl rfl ?_
        refine w_aload (pc' := 158) C at_156 rfl rfl rfl ?_
        refine w_iload (pc' := 160) C at_158 rfl rfl ?_
        refine w_callV (Cl := "com/example/rowan/rowan/policy/EntitySet") (pc' := 163) (argsL := [.int (Int32.ofNat y3)]) (st := []) (W := 0) (ce' := 4) (sl' := 28) C (tw hw 53 rfl) (tw hw 54 rfl) (tw hw 56 rfl) (tw hw 55 rfl) (tw hw 3 rfl) (tw hw 57 rfl) (by decide) at_160 rfl rfl (by decide) (by decide) (Nat.le_of_eq rfl) rfl rfl (by decide) (by decide) rfl (lenOf pd_1 rfl) O_a5.1 (ct_after hw h8 n0 a5 (Int32.ofNat y3) nn (adds (Int32.ofNat eb) (adds (Int32.ofNat ea) ([] : List Int32))) M (y3 + 1) hnn (Vw.1 y3 py3).1 (ofNat_succ y3) RM) (kq (fun u4 A4 => ?_))
        refine w_istore (pc' := 165) (Ls' := #[.val (.int x0), .val (.int x1), .val (.int x2), .val (.int x3), .val (.int x4), .val (.int (Int32.ofNat nn)), .val (.int (Int32.ofNat ea)), .val (.int (Int32.ofNat eb)), .val (.int (Int32.ofNat ec)), .val (.int (0 : Int32)), .val (.int (2 : Int32)), .val (.ref a5), .val (.int (Int32.ofNat y3)), .val (.int (en M y3)), .val (.int u4), .unset, .unset, .unset, .unset]) C at_163 rfl rfl ?_
        refine w_iload (pc' := 167) C at_165 rfl rfl ?_
        refine w_iconst (pc' := 168) (x := (1 : Int32)) C at_167 rfl rfl ?_
        refine w_icmp_ne (pcT := 199) (pcF := 171) C at_168 (by decide) (by decide) rfl (fun q168 => ?_) (fun q => absurd q (by decide))
        refine w_iload (pc' := 201) C at_199 rfl rfl ?_
        refine w_iconst (pc' := 202) (x := (-1 : Int32)) C at_201 rfl rfl ?_
        refine w_icmp_ne (pcT := 207) (pcF := 205) C at_202 (by decide) (by decide) rfl (fun q202_7 => ?_) (fun q202_7 => ?_)
        · skip
          obtain ⟨y4, rfl, by4, py4, cy4⟩ := A4.ex q202_7
          have Ky4 := Ky3.next by4 py4 cy4
          refine w_aload (pc' := 209) C at_207 rfl rfl rfl ?_
          refine w_iload (pc' := 211) C at_209 rfl rfl ?_
          refine w_callV (Cl := "com/example/rowan/rowan/policy/EntitySet") (pc' := 214) (argsL := [.int (Int32.ofNat y4)]) (st := []) (W := 0) (ce' := 4) (sl' := 28) C (tw hw 58 rfl) (tw hw 59 rfl) (tw hw 61 rfl) (tw hw 60 rfl) (tw hw 3 rfl) (tw hw 62 rfl) (by decide) at_211 rfl rfl (by decide) (by decide) (Nat.le_of_eq rfl) rfl rfl (by decide) (by decide) rfl (lenOf pd_1 rfl) O_a5.1 (ct_entityAt hw h8 n0 a5 nn (adds (Int32.ofNat eb) (adds (Int32.ofNat ea) ([] : List Int32))) M y4 (Vw.1 y4 py4).1 py4 RM) (kp ?_)
          refine w_istore (pc' := 216) (Ls' := #[.val (.int x0), .val (.int x1), .val (.int x2), .val (.int x3), .val (.int x4), .val (.int (Int32.ofNat nn)), .val (.int (Int32.ofNat ea)), .val (.int (Int32.ofNat eb)), .val (.int (Int32.ofNat ec)), .val (.int (0 : Int32)), .val (.int (2 : Int32)), .val (.ref a5), .val (.int (Int32.ofNat y3)), .val (.int (en M y3)), .val (.int (Int32.ofNat y4)), .val (.int (en M y4)), .unset, .unset, .unset]) C at_214 rfl rfl ?_
          refine w_aload (pc' := 218) C at_216 rfl rfl rfl ?_
          refine w_iload (pc' := 220) C at_218 rfl rfl ?_
          refine w_callV (Cl := "com/example/rowan/rowan/policy/EntitySet") (pc' := 223) (argsL := [.int (Int32.ofNat y4)]) (st := []) (W := 0) (ce' := 4) (sl' := 28) C (tw hw 53 rfl) (tw hw 54 rfl) (tw hw 56 rfl) (tw hw 55 rfl) (tw hw 3 rfl) (tw hw 57 rfl) (by decide) at_220 rfl rfl (by decide) (by decide) (Nat.le_of_eq rfl) rfl rfl (by decide) (by decide) rfl (lenOf pd_1 rfl) O_a5.1 (ct_after hw h8 n0 a5 (Int32.ofNat y4) nn (adds (Int32.ofNat eb) (adds (Int32.ofNat ea) ([] : List Int32))) M (y4 + 1) hnn (Vw.1 y4 py4).1 (ofNat_succ y4) RM) (kq (fun u5 A5 => ?_))
          refine w_istore (pc' := 225) (Ls' := #[.val (.int x0), .val (.int x1), .val (.int x2), .val (.int x3), .val (.int x4), .val (.int (Int32.ofNat nn)), .val (.int (Int32.ofNat ea)), .val (.int (Int32.ofNat eb)), .val (.int (Int32.ofNat ec)), .val (.int (0 : Int32)), .val (.int (2 : Int32)), .val (.ref a5), .val (.int (Int32.ofNat y3)), .val (.int (en M y3)), .val (.int (Int32.ofNat y4)), .val (.int (en M y4)), .val (.int u5), .unset, .unset]) C at_223 rfl rfl ?_
          refine w_iload (pc' := 227) C at_225 rfl rfl ?_
          refine w_iconst (pc' := 228) (x := (2 : Int32)) C at_227 rfl rfl ?_
          refine w_icmp_ne (pcT := 282) (pcF := 231) C at_228 (by decide) (by decide) rfl (fun q => absurd q (by decide)) (fun q228 => ?_)
          refine w_iload (pc' := 233) C at_231 rfl rfl ?_
          refine w_iconst (pc' := 234) (x := (-1 : Int32)) C at_233 rfl rfl ?_
          refine w_icmp_ne (pcT := 280) (pcF := 237) C at_234 (by decide) (by decide) rfl (fun q234_8 => ?_) (fun q234_8 => ?_)
          · skip
            have lx : (adds (Int32.ofNat eb) (adds (Int32.ofNat ea) ([] : List Int32))).length = 2 := by simp [adds, q57_2]
            exact absurd (Ky4.none Vw (by rw [lx]; rfl) A5) q234_8
          · skip
            refine w_iload (pc' := 239) C at_237 rfl rfl ?_
            refine w_iload (pc' := 241) C at_239 rfl rfl ?_
            refine w_icmp_eq (pcT := 280) (pcF := 244) C at_241 (by decide) (by decide) rfl (fun q241_9 => ?_) (fun q241_9 => ?_)
            · skip
              have lx : (adds (Int32.ofNat eb) (adds (Int32.ofNat ea) ([] : List Int32))).length = 2 := by simp [adds, q57_2]
              exact absurd q241_9 (en_ne Vw py3 py4 by4)
            · skip
              refine w_iload (pc' := 246) C at_244 rfl rfl ?_
              refine w_iload (pc' := 248) C at_246 rfl rfl ?_
              refine w_iload (pc' := 250) C at_248 rfl rfl ?_
              refine w_iload (pc' := 252) C at_250 rfl rfl ?_
              refine w_iload (pc' := 254) C at_252 rfl rfl ?_
              refine w_callS (pc' := 257) (argsL := [.int (en M y3), .int (Int32.ofNat ea), .int (Int32.ofNat eb), .int (Int32.ofNat ec), .int (0 : Int32)]) (st := []) (W := 0) (ce' := 4) (sl' := 28) C (tw hw 63 rfl) (tw hw 64 rfl) (tw hw 65 rfl) (tw hw 66 rfl) (by decide) at_254 rfl rfl (by decide) (by decide) (Nat.le_of_eq rfl) rfl rfl (by decide) (by decide) rfl (lenOf pd_8 rfl) (ct_inD hw h8 n0 (en M y3) (Int32.ofNat ea) (Int32.ofNat eb) (Int32.ofNat ec) (0 : Int32)) (kp ?_)
              refine w_if_eq (pcT := 280) (pcF := 260) C at_257 (by decide) (by decide) rfl (fun q257_10 => ?_) (fun q257_10 => ?_)
              · skip
                have lx : (adds (Int32.ofNat eb) (adds (Int32.ofNat ea) ([] : List Int32))).length = 2 := by simp [adds, q57_2]
                exact absurd q257_10 (inD_ok (mem2 (Vw.1 y3 py3).2))
              · skip
                refine w_iload (pc' := 262) C at_260 rfl rfl ?_
                refine w_iload (pc' := 264) C at_262 rfl rfl ?_
                refine w_iload (pc' := 266) C at_264 rfl rfl ?_
                refine w_iload (pc' := 268) C at_266 rfl rfl ?_
                refine w_iload (pc' := 270) C at_268 rfl rfl ?_
                refine w_callS (pc' := 273) (argsL := [.int (en M y4), .int (Int32.ofNat ea), .int (Int32.ofNat eb), .int (Int32.ofNat ec), .int (0 : Int32)]) (st := []) (W := 0) (ce' := 4) (sl' := 28) C (tw hw 63 rfl) (tw hw 64 rfl) (tw hw 65 rfl) (tw hw 66 rfl) (by decide) at_270 rfl rfl (by decide) (by decide) (Nat.le_of_eq rfl) rfl rfl (by decide) (by decide) rfl (lenOf pd_8 rfl) (ct_inD hw h8 n0 (en M y4) (Int32.ofNat ea) (Int32.ofNat eb) (Int32.ofNat ec) (0 : Int32)) (kp ?_)
                refine w_if_eq (pcT := 280) (pcF := 276) C at_273 (by decide) (by decide) rfl (fun q273_11 => ?_) (fun q273_11 => ?_)
                · skip
                  have lx : (adds (Int32.ofNat eb) (adds (Int32.ofNat ea) ([] : List Int32))).length = 2 := by simp [adds, q57_2]
                  exact absurd q273_11 (inD_ok (mem2 (Vw.1 y4 py4).2))
                · skip
                  refine w_iconst (pc' := 277) (x := (1 : Int32)) C at_276 rfl rfl ?_
                  refine w_goto (pc' := 281) C at_277 (by decide) (by decide) ?_
                  refine w_retN' (t := .boolean) (z' := (1 : Int32)) C rfl (by simp) at_281 (by decide) (by decide) narB1 ?_
                  rfl
        · skip
          have lx : (adds (Int32.ofNat eb) (adds (Int32.ofNat ea) ([] : List Int32))).length = 2 := by simp [adds, q57_2]
          exact absurd q202_7 (Ky3.more Vw X8 (by rw [lx]; simp) A4)
      · skip
        have lx : (adds (Int32.ofNat eb) (adds (Int32.ofNat ea) ([] : List Int32))).length = 2 := by simp [adds, q57_2]
        exact absurd q142_6 (K0.more Vw X8 (by rw [lx]; simp) A3)
  · skip
    refine w_iconst (pc' := 44) (x := (1 : Int32)) C at_43 rfl rfl ?_
    refine w_goto (pc' := 48) C at_44 (by decide) (by decide) ?_
    refine w_istore (pc' := 50) (Ls' := #[.val (.int x0), .val (.int x1), .val (.int x2), .val (.int x3), .val (.int x4), .val (.int (Int32.ofNat nn)), .val (.int (Int32.ofNat ea)), .val (.int (Int32.ofNat eb)), .val (.int (Int32.ofNat ec)), .val (.int (1 : Int32)), .unset, .unset, .unset, .unset, .unset, .unset, .unset, .unset, .unset]) C at_48 rfl rfl ?_
    refine w_iconst (pc' := 51) (x := (1 : Int32)) C at_50 rfl rfl ?_
    refine w_istore (pc' := 53) (Ls' := #[.val (.int x0), .val (.int x1), .val (.int x2), .val (.int x3), .val (.int x4), .val (.int (Int32.ofNat nn)), .val (.int (Int32.ofNat ea)), .val (.int (Int32.ofNat eb)), .val (.int (Int32.ofNat ec)), .val (.int (1 : Int32)), .val (.int (1 : Int32)), .unset, .unset, .unset, .unset, .unset, .unset, .unset, .unset]) C at_51 rfl rfl ?_
    refine w_iload (pc' := 55) C at_53 rfl rfl ?_
    refine w_iload (pc' := 57) C at_55 rfl rfl ?_
    refine w_icmp_eq (pcT := 66) (pcF := 60) C at_57 (by decide) (by decide) rfl (fun q57_12 => ?_) (fun q57_12 => ?_)
    · skip
      refine w_iload (pc' := 68) C at_66 rfl rfl ?_
      refine w_if_eq (pcT := 91) (pcF := 71) C at_68 (by decide) (by decide) rfl (fun q => absurd q (by decide)) (fun q68 => ?_)
      refine w_iload (pc' := 73) C at_71 rfl rfl ?_
      refine w_iload (pc' := 75) C at_73 rfl rfl ?_
      refine w_icmp_eq (pcT := 91) (pcF := 78) C at_75 (by decide) (by decide) rfl (fun q75_13 => ?_) (fun q75_13 => ?_)
      · skip
        refine w_new (pc' := 94) (ce' := 1) (sl' := 4) C (tw hw 1 rfl) (tw hw 2 rfl) (tw hw 3 rfl) at_91 rfl rfl rfl (by decide) (by decide) (fun h9 a9 e9 E9 A9 D9 => ?_)
        have g_a9 : n0 ≤ a9 := by rw [e9]; exact hz
        have fr_a9 : h0.size ≤ a9 := by rw [e9]; exact hk.1
        have hz : n0 ≤ h9.size := Nat.le_trans hz E9.1
        have hk := hk.ext E9
        have O_a9 : Obj Z h9 a9 "com/example/rowan/rowan/policy/EntitySet" [("entities", "I", .int (0 : Int32)), ("slots", "[I", .null), ("words", "[J", .null), ("size", "I", .int (0 : Int32))] := obj_Ent hw A9 D9
        refine w_dup (pc' := 95) C at_94 rfl rfl ?_
        refine w_iload (pc' := 97) C at_95 rfl rfl ?_
        refine w_callI (pc' := 100) (argsL := [.int (Int32.ofNat nn)]) (st := [.ref a9]) (W := 1) (ce' := 2) (sl' := 12) C rfl (tw hw 4 rfl) (tw hw 5 rfl) (tw hw 3 rfl) (tw hw 6 rfl) (by decide) at_97 rfl rfl (by decide) (by decide) (Nat.le_of_eq rfl) rfl rfl (by decide) (by decide) rfl (lenOf pd_7 rfl) (ct_init hw h9 n0 a9 nn hz hn1 hnn O_a9 g_a9) (k0 (fun h10 q10 => ?_))
        obtain ⟨R10, hz⟩ := q10
        have O_a9 : Exa Z h10 a9 "com/example/rowan/rowan/policy/EntitySet" ∧ True := ⟨R10.exa, trivial⟩
        refine w_astore (pc' := 102) (Ls' := #[.val (.int x0), .val (.int x1), .val (.int x2), .val (.int x3), .val (.int x4), .val (.int (Int32.ofNat nn)), .val (.int (Int32.ofNat ea)), .val (.int (Int32.ofNat eb)), .val (.int (Int32.ofNat ec)), .val (.int (1 : Int32)), .val (.int (1 : Int32)), .val (.ref a9), .unset, .unset, .unset, .unset, .unset, .unset, .unset]) C at_100 rfl rfl rfl ?_
        refine w_aload (pc' := 104) C at_102 rfl rfl rfl ?_
        refine w_iload (pc' := 106) C at_104 rfl rfl ?_
        have len11 : ([] : List Int32).length ≤ 2 := Nat.zero_le _
        refine w_callV (Cl := "com/example/rowan/rowan/policy/EntitySet") (pc' := 109) (argsL := [.int (Int32.ofNat ea)]) (st := []) (W := 0) (ce' := 3) (sl' := 20) C (tw hw 30 rfl) (tw hw 31 rfl) (tw hw 33 rfl) (tw hw 32 rfl) (tw hw 3 rfl) (tw hw 34 rfl) (by decide) at_106 rfl rfl (by decide) (by decide) (Nat.le_of_eq rfl) rfl rfl (by decide) (by decide) rfl (lenOf pd_5 rfl) O_a9.1 (ct_add hw h10 n0 a9 ea nn ([] : List Int32) hz hnn hea (XsOk.nil nn) len11 R10 g_a9) (kz (fun z11 h11 q11 => ?_))
        obtain ⟨R11, hz⟩ := q11
        have O_a9 : Exa Z h11 a9 "com/example/rowan/rowan/policy/EntitySet" ∧ True := ⟨R11.exa, trivial⟩
        have X11 : XsOk nn (adds (Int32.ofNat ea) ([] : List Int32)) := XsOk.adds (XsOk.nil nn) hea
        refine w_pop (pc' := 110) C at_109 rfl rfl ?_
        refine w_aload (pc' := 112) C at_110 rfl rfl rfl ?_
        refine w_iload (pc' := 114) C at_112 rfl rfl ?_
        have len12 : (adds (Int32.ofNat ea) ([] : List Int32)).length ≤ 2 := al1 _
        refine w_callV (Cl := "com/example/rowan/rowan/policy/EntitySet") (pc' := 117) (argsL := [.int (Int32.ofNat eb)]) (st := []) (W := 0) (ce' := 4) (sl' := 28) C (tw hw 30 rfl) (tw hw 31 rfl) (tw hw 33 rfl) (tw hw 32 rfl) (tw hw 3 rfl) (tw hw 34 rfl) (by decide) at_114 rfl rfl (by decide) (by decide) (Nat.le_of_eq rfl) rfl rfl (by decide) (by decide) rfl (lenOf pd_5 rfl) O_a9.1 (ct_add hw h11 n0 a9 eb nn (adds (Int32.ofNat ea) ([] : List Int32)) hz hnn heb X11 len12 R11 g_a9) (kz (fun z12 h12 q12 => ?_))
        obtain ⟨R12, hz⟩ := q12
        have O_a9 : Exa Z h12 a9 "com/example/rowan/rowan/policy/EntitySet" ∧ True := ⟨R12.exa, trivial⟩
        have X12 : XsOk nn (adds (Int32.ofNat eb) (adds (Int32.ofNat ea) ([] : List Int32))) := XsOk.adds X11 heb
        refine w_pop (pc' := 118) C at_117 rfl rfl ?_
        refine w_iload (pc' := 120) C at_118 rfl rfl ?_
        refine w_if_eq (pcT := 131) (pcF := 123) C at_120 (by decide) (by decide) rfl (fun q => absurd q (by decide)) (fun q120 => ?_)
        refine w_aload (pc' := 125) C at_123 rfl rfl rfl ?_
        refine w_iload (pc' := 127) C at_125 rfl rfl ?_
        have len13 : (adds (Int32.ofNat eb) (adds (Int32.ofNat ea) ([] : List Int32))).length ≤ 2 := al2 _ _
        refine w_callV (Cl := "com/example/rowan/rowan/policy/EntitySet") (pc' := 130) (argsL := [.int (Int32.ofNat ec)]) (st := []) (W := 0) (ce' := 5) (sl' := 36) C (tw hw 30 rfl) (tw hw 31 rfl) (tw hw 33 rfl) (tw hw 32 rfl) (tw hw 3 rfl) (tw hw 34 rfl) (by decide) at_127 rfl rfl (by decide) (by decide) (Nat.le_of_eq rfl) rfl rfl (by decide) (by decide) rfl (lenOf pd_5 rfl) O_a9.1 (ct_add hw h12 n0 a9 ec nn (adds (Int32.ofNat eb) (adds (Int32.ofNat ea) ([] : List Int32))) hz hnn hec X12 len13 R12 g_a9) (kz (fun z13 h13 q13 => ?_))
        obtain ⟨R13, hz⟩ := q13
        have O_a9 : Exa Z h13 a9 "com/example/rowan/rowan/policy/EntitySet" ∧ True := ⟨R13.exa, trivial⟩
        have X13 : XsOk nn (adds (Int32.ofNat ec) (adds (Int32.ofNat eb) (adds (Int32.ofNat ea) ([] : List Int32)))) := XsOk.adds X12 hec
        refine w_pop (pc' := 131) C at_130 rfl rfl ?_
        refine w_aload (pc' := 133) C at_131 rfl rfl rfl ?_
        refine w_iconst (pc' := 134) (x := (-1 : Int32)) C at_133 rfl rfl ?_
        obtain ⟨M, RM⟩ := R13
        have Vw := RM.view X13 hnn
        have K0 := Cov.nil M
        refine w_callV (Cl := "com/example/rowan/rowan/policy/EntitySet") (pc' := 137) (argsL := [.int (-1 : Int32)]) (st := []) (W := 0) (ce' := 5) (sl' := 36) C (tw hw 53 rfl) (tw hw 54 rfl) (tw hw 56 rfl) (tw hw 55 rfl) (tw hw 3 rfl) (tw hw 57 rfl) (by decide) at_134 rfl rfl (by decide) (by decide) (Nat.le_of_eq rfl) rfl rfl (by decide) (by decide) rfl (lenOf pd_1 rfl) O_a9.1 (ct_after hw h13 n0 a9 (-1 : Int32) nn (adds (Int32.ofNat ec) (adds (Int32.ofNat eb) (adds (Int32.ofNat ea) ([] : List Int32)))) M 0 hnn (by decide) neg1 RM) (kq (fun u6 A6 => ?_))
        refine w_istore (pc' := 139) (Ls' := #[.val (.int x0), .val (.int x1), .val (.int x2), .val (.int x3), .val (.int x4), .val (.int (Int32.ofNat nn)), .val (.int (Int32.ofNat ea)), .val (.int (Int32.ofNat eb)), .val (.int (Int32.ofNat ec)), .val (.int (1 : Int32)), .val (.int (1 : Int32)), .val (.ref a9), .val (.int u6), .unset, .unset, .unset, .unset, .unset, .unset]) C at_137 rfl rfl ?_
        refine w_iload (pc' := 141) C at_139 rfl rfl ?_
        refine w_iconst (pc' := 142) (x := (-1 : Int32)) C at_141 rfl rfl ?_
        refine w_icmp_ne (pcT := 147) (pcF := 145) C at_142 (by decide) (by decide) rfl (fun q142_14 => ?_) (fun q142_14 => ?_)
        · skip
          obtain ⟨y6, rfl, by6, py6, cy6⟩ := A6.ex q142_14
          have Ky6 := K0.next by6 py6 cy6
          refine w_aload (pc' := 149) C at_147 rfl rfl rfl ?_
          refine w_iload (pc' := 151) C at_149 rfl rfl ?_
          refine w_callV (Cl := "com/example/rowan/rowan/policy/EntitySet") (pc' := 154) (argsL := [.int (Int32.ofNat y6)]) (st := []) (W := 0) (ce' := 5) (sl' := 36) C (tw hw 58 rfl) (tw hw 59 rfl) (tw hw 61 rfl) (tw hw 60 rfl) (tw hw 3 rfl) (tw hw 62 rfl) (by decide) at_151 rfl rfl (by decide) (by decide) (Nat.le_of_eq rfl) rfl rfl (by decide) (by decide) rfl (lenOf pd_1 rfl) O_a9.1 (ct_entityAt hw h13 n0 a9 nn (adds (Int32.ofNat ec) (adds (Int32.ofNat eb) (adds (Int32.ofNat ea) ([] : List Int32)))) M y6 (Vw.1 y6 py6).1 py6 RM) (kp ?_)
          refine w_istore (pc' := 156) (Ls' := #[.val (.int x0), .val (.int x1), .val (.int x2), .val (.int x3), .val (.int x4), .val (.int (Int32.ofNat nn)), .val (.int (Int32.ofNat ea)), .val (.int (Int32.ofNat eb)), .val (.int (Int32.ofNat ec)), .val (.int (1 : Int32)), .val (.int (1 : Int32)), .val (.ref a9), .val (.int (Int32.ofNat y6)), .val (.int (en M y6)), .unset, .unset, .unset, .unset, .unset]) C at_154 rfl rfl ?_
          refine w_aload (pc' := 158) C at_156 rfl rfl rfl ?_
          refine w_iload (pc' := 160) C at_158 rfl rfl ?_
          refine w_callV (Cl := "com/example/rowan/rowan/policy/EntitySet") (pc' := 163) (argsL := [.int (Int32.ofNat y6)]) (st := []) (W := 0) (ce' := 5) (sl' := 36) C (tw hw 53 rfl) (tw hw 54 rfl) (tw hw 56 rfl) (tw hw 55 rfl) (tw hw 3 rfl) (tw hw 57 rfl) (by decide) at_160 rfl rfl (by decide) (by decide) (Nat.le_of_eq rfl) rfl rfl (by decide) (by decide) rfl (lenOf pd_1 rfl) O_a9.1 (ct_after hw h13 n0 a9 (Int32.ofNat y6) nn (adds (Int32.ofNat ec) (adds (Int32.ofNat eb) (adds (Int32.ofNat ea) ([] : List Int32)))) M (y6 + 1) hnn (Vw.1 y6 py6).1 (ofNat_succ y6) RM) (kq (fun u7 A7 => ?_))
          refine w_istore (pc' := 165) (Ls' := #[.val (.int x0), .val (.int x1), .val (.int x2), .val (.int x3), .val (.int x4), .val (.int (Int32.ofNat nn)), .val (.int (Int32.ofNat ea)), .val (.int (Int32.ofNat eb)), .val (.int (Int32.ofNat ec)), .val (.int (1 : Int32)), .val (.int (1 : Int32)), .val (.ref a9), .val (.int (Int32.ofNat y6)), .val (.int (en M y6)), .val (.int u7), .unset, .unset, .unset, .unset]) C at_163 rfl rfl ?_
          refine w_iload (pc' := 167) C at_165 rfl rfl ?_
          refine w_iconst (pc' := 168) (x := (1 : Int32)) C at_167 rfl rfl ?_
          refine w_icmp_ne (pcT := 199) (pcF := 171) C at_168 (by decide) (by decide) rfl (fun q => absurd q (by decide)) (fun q168 => ?_)
          refine w_iload (pc' := 173) C at_171 rfl rfl ?_
          refine w_iconst (pc' := 174) (x := (-1 : Int32)) C at_173 rfl rfl ?_
          refine w_icmp_ne (pcT := 197) (pcF := 177) C at_174 (by decide) (by decide) rfl (fun q174_15 => ?_) (fun q174_15 => ?_)
          · skip
            have lx : (adds (Int32.ofNat ec) (adds (Int32.ofNat eb) (adds (Int32.ofNat ea) ([] : List Int32)))).length = 1 := by simp [adds, q57_12, q75_13]
            exact absurd (Ky6.none Vw (by rw [lx]; rfl) A7) q174_15
          · skip
            refine w_iload (pc' := 179) C at_177 rfl rfl ?_
            refine w_iload (pc' := 181) C at_179 rfl rfl ?_
            refine w_iload (pc' := 183) C at_181 rfl rfl ?_
            refine w_iload (pc' := 185) C at_183 rfl rfl ?_
            refine w_iload (pc' := 187) C at_185 rfl rfl ?_
            refine w_callS (pc' := 190) (argsL := [.int (en M y6), .int (Int32.ofNat ea), .int (Int32.ofNat eb), .int (Int32.ofNat ec), .int (1 : Int32)]) (st := []) (W := 0) (ce' := 5) (sl' := 36) C (tw hw 63 rfl) (tw hw 64 rfl) (tw hw 65 rfl) (tw hw 66 rfl) (by decide) at_187 rfl rfl (by decide) (by decide) (Nat.le_of_eq rfl) rfl rfl (by decide) (by decide) rfl (lenOf pd_8 rfl) (ct_inD hw h13 n0 (en M y6) (Int32.ofNat ea) (Int32.ofNat eb) (Int32.ofNat ec) (1 : Int32)) (kp ?_)
            refine w_if_eq (pcT := 197) (pcF := 193) C at_190 (by decide) (by decide) rfl (fun q190_16 => ?_) (fun q190_16 => ?_)
            · skip
              have lx : (adds (Int32.ofNat ec) (adds (Int32.ofNat eb) (adds (Int32.ofNat ea) ([] : List Int32)))).length = 1 := by simp [adds, q57_12, q75_13]
              exact absurd q190_16 (inD_ok (mem3 (Vw.1 y6 py6).2))
            · skip
              refine w_iconst (pc' := 194) (x := (1 : Int32)) C at_193 rfl rfl ?_
              refine w_goto (pc' := 198) C at_194 (by decide) (by decide) ?_
              refine w_retN' (t := .boolean) (z' := (1 : Int32)) C rfl (by simp) at_198 (by decide) (by decide) narB1 ?_
              rfl
        · skip
          have lx : (adds (Int32.ofNat ec) (adds (Int32.ofNat eb) (adds (Int32.ofNat ea) ([] : List Int32)))).length = 1 := by simp [adds, q57_12, q75_13]
          exact absurd q142_14 (K0.more Vw X13 (by rw [lx]; simp) A6)
      · skip
        refine w_iload (pc' := 80) C at_78 rfl rfl ?_
        refine w_iload (pc' := 82) C at_80 rfl rfl ?_
        refine w_icmp_eq (pcT := 91) (pcF := 85) C at_82 (by decide) (by decide) rfl (fun q82_17 => ?_) (fun q82_17 => ?_)
        · skip
          refine w_new (pc' := 94) (ce' := 1) (sl' := 4) C (tw hw 1 rfl) (tw hw 2 rfl) (tw hw 3 rfl) at_91 rfl rfl rfl (by decide) (by decide) (fun h14 a14 e14 E14 A14 D14 => ?_)
          have g_a14 : n0 ≤ a14 := by rw [e14]; exact hz
          have fr_a14 : h0.size ≤ a14 := by rw [e14]; exact hk.1
          have hz : n0 ≤ h14.size := Nat.le_trans hz E14.1
          have hk := hk.ext E14
          have O_a14 : Obj Z h14 a14 "com/example/rowan/rowan/policy/EntitySet" [("entities", "I", .int (0 : Int32)), ("slots", "[I", .null), ("words", "[J", .null), ("size", "I", .int (0 : Int32))] := obj_Ent hw A14 D14
          refine w_dup (pc' := 95) C at_94 rfl rfl ?_
          refine w_iload (pc' := 97) C at_95 rfl rfl ?_
          refine w_callI (pc' := 100) (argsL := [.int (Int32.ofNat nn)]) (st := [.ref a14]) (W := 1) (ce' := 2) (sl' := 12) C rfl (tw hw 4 rfl) (tw hw 5 rfl) (tw hw 3 rfl) (tw hw 6 rfl) (by decide) at_97 rfl rfl (by decide) (by decide) (Nat.le_of_eq rfl) rfl rfl (by decide) (by decide) rfl (lenOf pd_7 rfl) (ct_init hw h14 n0 a14 nn hz hn1 hnn O_a14 g_a14) (k0 (fun h15 q15 => ?_))
          obtain ⟨R15, hz⟩ := q15
          have O_a14 : Exa Z h15 a14 "com/example/rowan/rowan/policy/EntitySet" ∧ True := ⟨R15.exa, trivial⟩
          refine w_astore (pc' := 102) (Ls' := #[.val (.int x0), .val (.int x1), .val (.int x2), .val (.int x3), .val (.int x4), .val (.int (Int32.ofNat nn)), .val (.int (Int32.ofNat ea)), .val (.int (Int32.ofNat eb)), .val (.int (Int32.ofNat ec)), .val (.int (1 : Int32)), .val (.int (1 : Int32)), .val (.ref a14), .unset, .unset, .unset, .unset, .unset, .unset, .unset]) C at_100 rfl rfl rfl ?_
          refine w_aload (pc' := 104) C at_102 rfl rfl rfl ?_
          refine w_iload (pc' := 106) C at_104 rfl rfl ?_
          have len16 : ([] : List Int32).length ≤ 2 := Nat.zero_le _
          refine w_callV (Cl := "com/example/rowan/rowan/policy/EntitySet") (pc' := 109) (argsL := [.int (Int32.ofNat ea)]) (st := []) (W := 0) (ce' := 3) (sl' := 20) C (tw hw 30 rfl) (tw hw 31 rfl) (tw hw 33 rfl) (tw hw 32 rfl) (tw hw 3 rfl) (tw hw 34 rfl) (by decide) at_106 rfl rfl (by decide) (by decide) (Nat.le_of_eq rfl) rfl rfl (by decide) (by decide) rfl (lenOf pd_5 rfl) O_a14.1 (ct_add hw h15 n0 a14 ea nn ([] : List Int32) hz hnn hea (XsOk.nil nn) len16 R15 g_a14) (kz (fun z16 h16 q16 => ?_))
          obtain ⟨R16, hz⟩ := q16
          have O_a14 : Exa Z h16 a14 "com/example/rowan/rowan/policy/EntitySet" ∧ True := ⟨R16.exa, trivial⟩
          have X16 : XsOk nn (adds (Int32.ofNat ea) ([] : List Int32)) := XsOk.adds (XsOk.nil nn) hea
          refine w_pop (pc' := 110) C at_109 rfl rfl ?_
          refine w_aload (pc' := 112) C at_110 rfl rfl rfl ?_
          refine w_iload (pc' := 114) C at_112 rfl rfl ?_
          have len17 : (adds (Int32.ofNat ea) ([] : List Int32)).length ≤ 2 := al1 _
          refine w_callV (Cl := "com/example/rowan/rowan/policy/EntitySet") (pc' := 117) (argsL := [.int (Int32.ofNat eb)]) (st := []) (W := 0) (ce' := 4) (sl' := 28) C (tw hw 30 rfl) (tw hw 31 rfl) (tw hw 33 rfl) (tw hw 32 rfl) (tw hw 3 rfl) (tw hw 34 rfl) (by decide) at_114 rfl rfl (by decide) (by decide) (Nat.le_of_eq rfl) rfl rfl (by decide) (by decide) rfl (lenOf pd_5 rfl) O_a14.1 (ct_add hw h16 n0 a14 eb nn (adds (Int32.ofNat ea) ([] : List Int32)) hz hnn heb X16 len17 R16 g_a14) (kz (fun z17 h17 q17 => ?_))
          obtain ⟨R17, hz⟩ := q17
          have O_a14 : Exa Z h17 a14 "com/example/rowan/rowan/policy/EntitySet" ∧ True := ⟨R17.exa, trivial⟩
          have X17 : XsOk nn (adds (Int32.ofNat eb) (adds (Int32.ofNat ea) ([] : List Int32))) := XsOk.adds X16 heb
          refine w_pop (pc' := 118) C at_117 rfl rfl ?_
          refine w_iload (pc' := 120) C at_118 rfl rfl ?_
          refine w_if_eq (pcT := 131) (pcF := 123) C at_120 (by decide) (by decide) rfl (fun q => absurd q (by decide)) (fun q120 => ?_)
          refine w_aload (pc' := 125) C at_123 rfl rfl rfl ?_
          refine w_iload (pc' := 127) C at_125 rfl rfl ?_
          have len18 : (adds (Int32.ofNat eb) (adds (Int32.ofNat ea) ([] : List Int32))).length ≤ 2 := al2 _ _
          refine w_callV (Cl := "com/example/rowan/rowan/policy/EntitySet") (pc' := 130) (argsL := [.int (Int32.ofNat ec)]) (st := []) (W := 0) (ce' := 5) (sl' := 36) C (tw hw 30 rfl) (tw hw 31 rfl) (tw hw 33 rfl) (tw hw 32 rfl) (tw hw 3 rfl) (tw hw 34 rfl) (by decide) at_127 rfl rfl (by decide) (by decide) (Nat.le_of_eq rfl) rfl rfl (by decide) (by decide) rfl (lenOf pd_5 rfl) O_a14.1 (ct_add hw h17 n0 a14 ec nn (adds (Int32.ofNat eb) (adds (Int32.ofNat ea) ([] : List Int32))) hz hnn hec X17 len18 R17 g_a14) (kz (fun z18 h18 q18 => ?_))
          obtain ⟨R18, hz⟩ := q18
          have O_a14 : Exa Z h18 a14 "com/example/rowan/rowan/policy/EntitySet" ∧ True := ⟨R18.exa, trivial⟩
          have X18 : XsOk nn (adds (Int32.ofNat ec) (adds (Int32.ofNat eb) (adds (Int32.ofNat ea) ([] : List Int32)))) := XsOk.adds X17 hec
          refine w_pop (pc' := 131) C at_130 rfl rfl ?_
          refine w_aload (pc' := 133) C at_131 rfl rfl rfl ?_
          refine w_iconst (pc' := 134) (x := (-1 : Int32)) C at_133 rfl rfl ?_
          obtain ⟨M, RM⟩ := R18
          have Vw := RM.view X18 hnn
          have K0 := Cov.nil M
          refine w_callV (Cl := "com/example/rowan/rowan/policy/EntitySet") (pc' := 137) (argsL := [.int (-1 : Int32)]) (st := []) (W := 0) (ce' := 5) (sl' := 36) C (tw hw 53 rfl) (tw hw 54 rfl) (tw hw 56 rfl) (tw hw 55 rfl) (tw hw 3 rfl) (tw hw 57 rfl) (by decide) at_134 rfl rfl (by decide) (by decide) (Nat.le_of_eq rfl) rfl rfl (by decide) (by decide) rfl (lenOf pd_1 rfl) O_a14.1 (ct_after hw h18 n0 a14 (-1 : Int32) nn (adds (Int32.ofNat ec) (adds (Int32.ofNat eb) (adds (Int32.ofNat ea) ([] : List Int32)))) M 0 hnn (by decide) neg1 RM) (kq (fun u8 A8 => ?_))
          refine w_istore (pc' := 139) (Ls' := #[.val (.int x0), .val (.int x1), .val (.int x2), .val (.int x3), .val (.int x4), .val (.int (Int32.ofNat nn)), .val (.int (Int32.ofNat ea)), .val (.int (Int32.ofNat eb)), .val (.int (Int32.ofNat ec)), .val (.int (1 : Int32)), .val (.int (1 : Int32)), .val (.ref a14), .val (.int u8), .unset, .unset, .unset, .unset, .unset, .unset]) C at_137 rfl rfl ?_
          refine w_iload (pc' := 141) C at_139 rfl rfl ?_
          refine w_iconst (pc' := 142) (x := (-1 : Int32)) C at_141 rfl rfl ?_
          refine w_icmp_ne (pcT := 147) (pcF := 145) C at_142 (by decide) (by decide) rfl (fun q142_18 => ?_) (fun q142_18 => ?_)
          · skip
            obtain ⟨y8, rfl, by8, py8, cy8⟩ := A8.ex q142_18
            have Ky8 := K0.next by8 py8 cy8
            refine w_aload (pc' := 149) C at_147 rfl rfl rfl ?_
            refine w_iload (pc' := 151) C at_149 rfl rfl ?_
            refine w_callV (Cl := "com/example/rowan/rowan/policy/EntitySet") (pc' := 154) (argsL := [.int (Int32.ofNat y8)]) (st := []) (W := 0) (ce' := 5) (sl' := 36) C (tw hw 58 rfl) (tw hw 59 rfl) (tw hw 61 rfl) (tw hw 60 rfl) (tw hw 3 rfl) (tw hw 62 rfl) (by decide) at_151 rfl rfl (by decide) (by decide) (Nat.le_of_eq rfl) rfl rfl (by decide) (by decide) rfl (lenOf pd_1 rfl) O_a14.1 (ct_entityAt hw h18 n0 a14 nn (adds (Int32.ofNat ec) (adds (Int32.ofNat eb) (adds (Int32.ofNat ea) ([] : List Int32)))) M y8 (Vw.1 y8 py8).1 py8 RM) (kp ?_)
            refine w_istore (pc' := 156) (Ls' := #[.val (.int x0), .val (.int x1), .val (.int x2), .val (.int x3), .val (.int x4), .val (.int (Int32.ofNat nn)), .val (.int (Int32.ofNat ea)), .val (.int (Int32.ofNat eb)), .val (.int (Int32.ofNat ec)), .val (.int (1 : Int32)), .val (.int (1 : Int32)), .val (.ref a14), .val (.int (Int32.ofNat y8)), .val (.int (en M y8)), .unset, .unset, .unset, .unset, .unset]) C at_154 rfl rfl ?_
            refine w_aload (pc' := 158) C at_156 rfl rfl rfl ?_
            refine w_iload (pc' := 160) C at_158 rfl rfl ?_
            refine w_callV (Cl := "com/example/rowan/rowan/policy/EntitySet") (pc' := 163) (argsL := [.int (Int32.ofNat y8)]) (st := []) (W := 0) (ce' := 5) (sl' := 36) C (tw hw 53 rfl) (tw hw 54 rfl) (tw hw 56 rfl) (tw hw 55 rfl) (tw hw 3 rfl) (tw hw 57 rfl) (by decide) at_160 rfl rfl (by decide) (by decide) (Nat.le_of_eq rfl) rfl rfl (by decide) (by decide) rfl (lenOf pd_1 rfl) O_a14.1 (ct_after hw h18 n0 a14 (Int32.ofNat y8) nn (adds (Int32.ofNat ec) (adds (Int32.ofNat eb) (adds (Int32.ofNat ea) ([] : List Int32)))) M (y8 + 1) hnn (Vw.1 y8 py8).1 (ofNat_succ y8) RM) (kq (fun u9 A9 => ?_))
            refine w_istore (pc' := 165) (Ls' := #[.val (.int x0), .val (.int x1), .val (.int x2), .val (.int x3), .val (.int x4), .val (.int (Int32.ofNat nn)), .val (.int (Int32.ofNat ea)), .val (.int (Int32.ofNat eb)), .val (.int (Int32.ofNat ec)), .val (.int (1 : Int32)), .val (.int (1 : Int32)), .val (.ref a14), .val (.int (Int32.ofNat y8)), .val (.int (en M y8)), .val (.int u9), .unset, .unset, .unset, .unset]) C at_163 rfl rfl ?_
            refine w_iload (pc' := 167) C at_165 rfl rfl ?_
            refine w_iconst (pc' := 168) (x := (1 : Int32)) C at_167 rfl rfl ?_
            refine w_icmp_ne (pcT := 199) (pcF := 171) C at_168 (by decide) (by decide) rfl (fun q => absurd q (by decide)) (fun q168 => ?_)
            refine w_iload (pc' := 173) C at_171 rfl rfl ?_
            refine w_iconst (pc' := 174) (x := (-1 : Int32)) C at_173 rfl rfl ?_
            refine w_icmp_ne (pcT := 197) (pcF := 177) C at_174 (by decide) (by decide) rfl (fun q174_19 => ?_) (fun q174_19 => ?_)
            · skip
              have lx : (adds (Int32.ofNat ec) (adds (Int32.ofNat eb) (adds (Int32.ofNat ea) ([] : List Int32)))).length = 1 := by simp [adds, q57_12, q75_13, q82_17]
              exact absurd (Ky8.none Vw (by rw [lx]; rfl) A9) q174_19
            · skip
              refine w_iload (pc' := 179) C at_177 rfl rfl ?_
              refine w_iload (pc' := 181) C at_179 rfl rfl ?_
              refine w_iload (pc' := 183) C at_181 rfl rfl ?_
              refine w_iload (pc' := 185) C at_183 rfl rfl ?_
              refine w_iload (pc' := 187) C at_185 rfl rfl ?_
              refine w_callS (pc' := 190) (argsL := [.int (en M y8), .int (Int32.ofNat ea), .int (Int32.ofNat eb), .int (Int32.ofNat ec), .int (1 : Int32)]) (st := []) (W := 0) (ce' := 5) (sl' := 36) C (tw hw 63 rfl) (tw hw 64 rfl) (tw hw 65 rfl) (tw hw 66 rfl) (by decide) at_187 rfl rfl (by decide) (by decide) (Nat.le_of_eq rfl) rfl rfl (by decide) (by decide) rfl (lenOf pd_8 rfl) (ct_inD hw h18 n0 (en M y8) (Int32.ofNat ea) (Int32.ofNat eb) (Int32.ofNat ec) (1 : Int32)) (kp ?_)
              refine w_if_eq (pcT := 197) (pcF := 193) C at_190 (by decide) (by decide) rfl (fun q190_20 => ?_) (fun q190_20 => ?_)
              · skip
                have lx : (adds (Int32.ofNat ec) (adds (Int32.ofNat eb) (adds (Int32.ofNat ea) ([] : List Int32)))).length = 1 := by simp [adds, q57_12, q75_13, q82_17]
                exact absurd q190_20 (inD_ok (mem3 (Vw.1 y8 py8).2))
              · skip
                refine w_iconst (pc' := 194) (x := (1 : Int32)) C at_193 rfl rfl ?_
                refine w_goto (pc' := 198) C at_194 (by decide) (by decide) ?_
                refine w_retN' (t := .boolean) (z' := (1 : Int32)) C rfl (by simp) at_198 (by decide) (by decide) narB1 ?_
                rfl
          · skip
            have lx : (adds (Int32.ofNat ec) (adds (Int32.ofNat eb) (adds (Int32.ofNat ea) ([] : List Int32)))).length = 1 := by simp [adds, q57_12, q75_13, q82_17]
            exact absurd q142_18 (K0.more Vw X18 (by rw [lx]; simp) A8)
        · skip
          refine w_iload (pc' := 87) C at_85 rfl rfl ?_
          refine w_iconst (pc' := 88) (x := (1 : Int32)) C at_87 rfl rfl ?_
          refine w_iadd (pc' := 89) C at_88 rfl ?_
          refine w_eqI (z := (2 : Int32)) (by decide) ?_
          refine w_istore (pc' := 91) (Ls' := #[.val (.int x0), .val (.int x1), .val (.int x2), .val (.int x3), .val (.int x4), .val (.int (Int32.ofNat nn)), .val (.int (Int32.ofNat ea)), .val (.int (Int32.ofNat eb)), .val (.int (Int32.ofNat ec)), .val (.int (1 : Int32)), .val (.int (2 : Int32)), .unset, .unset, .unset, .unset, .unset, .unset, .unset, .unset]) C at_89 rfl rfl ?_
          refine w_new (pc' := 94) (ce' := 1) (sl' := 4) C (tw hw 1 rfl) (tw hw 2 rfl) (tw hw 3 rfl) at_91 rfl rfl rfl (by decide) (by decide) (fun h19 a19 e19 E19 A19 D19 => ?_)
          have g_a19 : n0 ≤ a19 := by rw [e19]; exact hz
          have fr_a19 : h0.size ≤ a19 := by rw [e19]; exact hk.1
          have hz : n0 ≤ h19.size := Nat.le_trans hz E19.1
          have hk := hk.ext E19
          have O_a19 : Obj Z h19 a19 "com/example/rowan/rowan/policy/EntitySet" [("entities", "I", .int (0 : Int32)), ("slots", "[I", .null), ("words", "[J", .null), ("size", "I", .int (0 : Int32))] := obj_Ent hw A19 D19
          refine w_dup (pc' := 95) C at_94 rfl rfl ?_
          refine w_iload (pc' := 97) C at_95 rfl rfl ?_
          refine w_callI (pc' := 100) (argsL := [.int (Int32.ofNat nn)]) (st := [.ref a19]) (W := 1) (ce' := 2) (sl' := 12) C rfl (tw hw 4 rfl) (tw hw 5 rfl) (tw hw 3 rfl) (tw hw 6 rfl) (by decide) at_97 rfl rfl (by decide) (by decide) (Nat.le_of_eq rfl) rfl rfl (by decide) (by decide) rfl (lenOf pd_7 rfl) (ct_init hw h19 n0 a19 nn hz hn1 hnn O_a19 g_a19) (k0 (fun h20 q20 => ?_))
          obtain ⟨R20, hz⟩ := q20
          have O_a19 : Exa Z h20 a19 "com/example/rowan/rowan/policy/EntitySet" ∧ True := ⟨R20.exa, trivial⟩
          refine w_astore (pc' := 102) (Ls' := #[.val (.int x0), .val (.int x1), .val (.int x2), .val (.int x3), .val (.int x4), .val (.int (Int32.ofNat nn)), .val (.int (Int32.ofNat ea)), .val (.int (Int32.ofNat eb)), .val (.int (Int32.ofNat ec)), .val (.int (1 : Int32)), .val (.int (2 : Int32)), .val (.ref a19), .unset, .unset, .unset, .unset, .unset, .unset, .unset]) C at_100 rfl rfl rfl ?_
          refine w_aload (pc' := 104) C at_102 rfl rfl rfl ?_
          refine w_iload (pc' := 106) C at_104 rfl rfl ?_
          have len21 : ([] : List Int32).length ≤ 2 := Nat.zero_le _
          refine w_callV (Cl := "com/example/rowan/rowan/policy/EntitySet") (pc' := 109) (argsL := [.int (Int32.ofNat ea)]) (st := []) (W := 0) (ce' := 3) (sl' := 20) C (tw hw 30 rfl) (tw hw 31 rfl) (tw hw 33 rfl) (tw hw 32 rfl) (tw hw 3 rfl) (tw hw 34 rfl) (by decide) at_106 rfl rfl (by decide) (by decide) (Nat.le_of_eq rfl) rfl rfl (by decide) (by decide) rfl (lenOf pd_5 rfl) O_a19.1 (ct_add hw h20 n0 a19 ea nn ([] : List Int32) hz hnn hea (XsOk.nil nn) len21 R20 g_a19) (kz (fun z21 h21 q21 => ?_))
          obtain ⟨R21, hz⟩ := q21
          have O_a19 : Exa Z h21 a19 "com/example/rowan/rowan/policy/EntitySet" ∧ True := ⟨R21.exa, trivial⟩
          have X21 : XsOk nn (adds (Int32.ofNat ea) ([] : List Int32)) := XsOk.adds (XsOk.nil nn) hea
          refine w_pop (pc' := 110) C at_109 rfl rfl ?_
          refine w_aload (pc' := 112) C at_110 rfl rfl rfl ?_
          refine w_iload (pc' := 114) C at_112 rfl rfl ?_
          have len22 : (adds (Int32.ofNat ea) ([] : List Int32)).length ≤ 2 := al1 _
          refine w_callV (Cl := "com/example/rowan/rowan/policy/EntitySet") (pc' := 117) (argsL := [.int (Int32.ofNat eb)]) (st := []) (W := 0) (ce' := 4) (sl' := 28) C (tw hw 30 rfl) (tw hw 31 rfl) (tw hw 33 rfl) (tw hw 32 rfl) (tw hw 3 rfl) (tw hw 34 rfl) (by decide) at_114 rfl rfl (by decide) (by decide) (Nat.le_of_eq rfl) rfl rfl (by decide) (by decide) rfl (lenOf pd_5 rfl) O_a19.1 (ct_add hw h21 n0 a19 eb nn (adds (Int32.ofNat ea) ([] : List Int32)) hz hnn heb X21 len22 R21 g_a19) (kz (fun z22 h22 q22 => ?_))
          obtain ⟨R22, hz⟩ := q22
          have O_a19 : Exa Z h22 a19 "com/example/rowan/rowan/policy/EntitySet" ∧ True := ⟨R22.exa, trivial⟩
          have X22 : XsOk nn (adds (Int32.ofNat eb) (adds (Int32.ofNat ea) ([] : List Int32))) := XsOk.adds X21 heb
          refine w_pop (pc' := 118) C at_117 rfl rfl ?_
          refine w_iload (pc' := 120) C at_118 rfl rfl ?_
          refine w_if_eq (pcT := 131) (pcF := 123) C at_120 (by decide) (by decide) rfl (fun q => absurd q (by decide)) (fun q120 => ?_)
          refine w_aload (pc' := 125) C at_123 rfl rfl rfl ?_
          refine w_iload (pc' := 127) C at_125 rfl rfl ?_
          have len23 : (adds (Int32.ofNat eb) (adds (Int32.ofNat ea) ([] : List Int32))).length ≤ 2 := al2 _ _
          refine w_callV (Cl := "com/example/rowan/rowan/policy/EntitySet") (pc' := 130) (argsL := [.int (Int32.ofNat ec)]) (st := []) (W := 0) (ce' := 5) (sl' := 36) C (tw hw 30 rfl) (tw hw 31 rfl) (tw hw 33 rfl) (tw hw 32 rfl) (tw hw 3 rfl) (tw hw 34 rfl) (by decide) at_127 rfl rfl (by decide) (by decide) (Nat.le_of_eq rfl) rfl rfl (by decide) (by decide) rfl (lenOf pd_5 rfl) O_a19.1 (ct_add hw h22 n0 a19 ec nn (adds (Int32.ofNat eb) (adds (Int32.ofNat ea) ([] : List Int32))) hz hnn hec X22 len23 R22 g_a19) (kz (fun z23 h23 q23 => ?_))
          obtain ⟨R23, hz⟩ := q23
          have O_a19 : Exa Z h23 a19 "com/example/rowan/rowan/policy/EntitySet" ∧ True := ⟨R23.exa, trivial⟩
          have X23 : XsOk nn (adds (Int32.ofNat ec) (adds (Int32.ofNat eb) (adds (Int32.ofNat ea) ([] : List Int32)))) := XsOk.adds X22 hec
          refine w_pop (pc' := 131) C at_130 rfl rfl ?_
          refine w_aload (pc' := 133) C at_131 rfl rfl rfl ?_
          refine w_iconst (pc' := 134) (x := (-1 : Int32)) C at_133 rfl rfl ?_
          obtain ⟨M, RM⟩ := R23
          have Vw := RM.view X23 hnn
          have K0 := Cov.nil M
          refine w_callV (Cl := "com/example/rowan/rowan/policy/EntitySet") (pc' := 137) (argsL := [.int (-1 : Int32)]) (st := []) (W := 0) (ce' := 5) (sl' := 36) C (tw hw 53 rfl) (tw hw 54 rfl) (tw hw 56 rfl) (tw hw 55 rfl) (tw hw 3 rfl) (tw hw 57 rfl) (by decide) at_134 rfl rfl (by decide) (by decide) (Nat.le_of_eq rfl) rfl rfl (by decide) (by decide) rfl (lenOf pd_1 rfl) O_a19.1 (ct_after hw h23 n0 a19 (-1 : Int32) nn (adds (Int32.ofNat ec) (adds (Int32.ofNat eb) (adds (Int32.ofNat ea) ([] : List Int32)))) M 0 hnn (by decide) neg1 RM) (kq (fun u10 A10 => ?_))
          refine w_istore (pc' := 139) (Ls' := #[.val (.int x0), .val (.int x1), .val (.int x2), .val (.int x3), .val (.int x4), .val (.int (Int32.ofNat nn)), .val (.int (Int32.ofNat ea)), .val (.int (Int32.ofNat eb)), .val (.int (Int32.ofNat ec)), .val (.int (1 : Int32)), .val (.int (2 : Int32)), .val (.ref a19), .val (.int u10), .unset, .unset, .unset, .unset, .unset, .unset]) C at_137 rfl rfl ?_
          refine w_iload (pc' := 141) C at_139 rfl rfl ?_
          refine w_iconst (pc' := 142) (x := (-1 : Int32)) C at_141 rfl rfl ?_
          refine w_icmp_ne (pcT := 147) (pcF := 145) C at_142 (by decide) (by decide) rfl (fun q142_21 => ?_) (fun q142_21 => ?_)
          · skip
            obtain ⟨y10, rfl, by10, py10, cy10⟩ := A10.ex q142_21
            have Ky10 := K0.next by10 py10 cy10
            refine w_aload (pc' := 149) C at_147 rfl rfl rfl ?_
            refine w_iload (pc' := 151) C at_149 rfl rfl ?_
            refine w_callV (Cl := "com/example/rowan/rowan/policy/EntitySet") (pc' := 154) (argsL := [.int (Int32.ofNat y10)]) (st := []) (W := 0) (ce' := 5) (sl' := 36) C (tw hw 58 rfl) (tw hw 59 rfl) (tw hw 61 rfl) (tw hw 60 rfl) (tw hw 3 rfl) (tw hw 62 rfl) (by decide) at_151 rfl rfl (by decide) (by decide) (Nat.le_of_eq rfl) rfl rfl (by decide) (by decide) rfl (lenOf pd_1 rfl) O_a19.1 (ct_entityAt hw h23 n0 a19 nn (adds (Int32.ofNat ec) (adds (Int32.ofNat eb) (adds (Int32.ofNat ea) ([] : List Int32)))) M y10 (Vw.1 y10 py10).1 py10 RM) (kp ?_)
            refine w_istore (pc' := 156) (Ls' := #[.val (.int x0), .val (.int x1), .val (.int x2), .val (.int x3), .val (.int x4), .val (.int (Int32.ofNat nn)), .val (.int (Int32.ofNat ea)), .val (.int (Int32.ofNat eb)), .val (.int (Int32.ofNat ec)), .val (.int (1 : Int32)), .val (.int (2 : Int32)), .val (.ref a19), .val (.int (Int32.ofNat y10)), .val (.int (en M y10)), .unset, .unset, .unset, .unset, .unset]) C at_154 rfl rfl ?_
            refine w_aload (pc' := 158) C at_156 rfl rfl rfl ?_
            refine w_iload (pc' := 160) C at_158 rfl rfl ?_
            refine w_callV (Cl := "com/example/rowan/rowan/policy/EntitySet") (pc' := 163) (argsL := [.int (Int32.ofNat y10)]) (st := []) (W := 0) (ce' := 5) (sl' := 36) C (tw hw 53 rfl) (tw hw 54 rfl) (tw hw 56 rfl) (tw hw 55 rfl) (tw hw 3 rfl) (tw hw 57 rfl) (by decide) at_160 rfl rfl (by decide) (by decide) (Nat.le_of_eq rfl) rfl rfl (by decide) (by decide) rfl (lenOf pd_1 rfl) O_a19.1 (ct_after hw h23 n0 a19 (Int32.ofNat y10) nn (adds (Int32.ofNat ec) (adds (Int32.ofNat eb) (adds (Int32.ofNat ea) ([] : List Int32)))) M (y10 + 1) hnn (Vw.1 y10 py10).1 (ofNat_succ y10) RM) (kq (fun u11 A11 => ?_))
            refine w_istore (pc' := 165) (Ls' := #[.val (.int x0), .val (.int x1), .val (.int x2), .val (.int x3), .val (.int x4), .val (.int (Int32.ofNat nn)), .val (.int (Int32.ofNat ea)), .val (.int (Int32.ofNat eb)), .val (.int (Int32.ofNat ec)), .val (.int (1 : Int32)), .val (.int (2 : Int32)), .val (.ref a19), .val (.int (Int32.ofNat y10)), .val (.int (en M y10)), .val (.int u11), .unset, .unset, .unset, .unset]) C at_163 rfl rfl ?_
            refine w_iload (pc' := 167) C at_165 rfl rfl ?_
            refine w_iconst (pc' := 168) (x := (1 : Int32)) C at_167 rfl rfl ?_
            refine w_icmp_ne (pcT := 199) (pcF := 171) C at_168 (by decide) (by decide) rfl (fun q168 => ?_) (fun q => absurd q (by decide))
            refine w_iload (pc' := 201) C at_199 rfl rfl ?_
            refine w_iconst (pc' := 202) (x := (-1 : Int32)) C at_201 rfl rfl ?_
            refine w_icmp_ne (pcT := 207) (pcF := 205) C at_202 (by decide) (by decide) rfl (fun q202_22 => ?_) (fun q202_22 => ?_)
            · skip
              obtain ⟨y11, rfl, by11, py11, cy11⟩ := A11.ex q202_22
              have Ky11 := Ky10.next by11 py11 cy11
              refine w_aload (pc' := 209) C at_207 rfl rfl rfl ?_
              refine w_iload (pc' := 211) C at_209 rfl rfl ?_
              refine w_callV (Cl := "com/example/rowan/rowan/policy/EntitySet") (pc' := 214) (argsL := [.int (Int32.ofNat y11)]) (st := []) (W := 0) (ce' := 5) (sl' := 36) C (tw hw 58 rfl) (tw hw 59 rfl) (tw hw 61 rfl) (tw hw 60 rfl) (tw hw 3 rfl) (tw hw 62 rfl) (by decide) at_211 rfl rfl (by decide) (by decide) (Nat.le_of_eq rfl) rfl rfl (by decide) (by decide) rfl (lenOf pd_1 rfl) O_a19.1 (ct_entityAt hw h23 n0 a19 nn (adds (Int32.ofNat ec) (adds (Int32.ofNat eb) (adds (Int32.ofNat ea) ([] : List Int32)))) M y11 (Vw.1 y11 py11).1 py11 RM) (kp ?_)
              refine w_istore (pc' := 216) (Ls' := #[.val (.int x0), .val (.int x1), .val (.int x2), .val (.int x3), .val (.int x4), .val (.int (Int32.ofNat nn)), .val (.int (Int32.ofNat ea)), .val (.int (Int32.ofNat eb)), .val (.int (Int32.ofNat ec)), .val (.int (1 : Int32)), .val (.int (2 : Int32)), .val (.ref a19), .val (.int (Int32.ofNat y10)), .val (.int (en M y10)), .val (.int (Int32.ofNat y11)), .val (.int (en M y11)), .unset, .unset, .unset]) C at_214 rfl rfl ?_
              refine w_aload (pc' := 218) C at_216 rfl rfl rfl ?_
              refine w_iload (pc' := 220) C at_218 rfl rfl ?_
              refine w_callV (Cl := "com/example/rowan/rowan/policy/EntitySet") (pc' := 223) (argsL := [.int (Int32.ofNat y11)]) (st := []) (W := 0) (ce' := 5) (sl' := 36) C (tw hw 53 rfl) (tw hw 54 rfl) (tw hw 56 rfl) (tw hw 55 rfl) (tw hw 3 rfl) (tw hw 57 rfl) (by decide) at_220 rfl rfl (by decide) (by decide) (Nat.le_of_eq rfl) rfl rfl (by decide) (by decide) rfl (lenOf pd_1 rfl) O_a19.1 (ct_after hw h23 n0 a19 (Int32.ofNat y11) nn (adds (Int32.ofNat ec) (adds (Int32.ofNat eb) (adds (Int32.ofNat ea) ([] : List Int32)))) M (y11 + 1) hnn (Vw.1 y11 py11).1 (ofNat_succ y11) RM) (kq (fun u12 A12 => ?_))
              refine w_istore (pc' := 225) (Ls' := #[.val (.int x0), .val (.int x1), .val (.int x2), .val (.int x3), .val (.int x4), .val (.int (Int32.ofNat nn)), .val (.int (Int32.ofNat ea)), .val (.int (Int32.ofNat eb)), .val (.int (Int32.ofNat ec)), .val (.int (1 : Int32)), .val (.int (2 : Int32)), .val (.ref a19), .val (.int (Int32.ofNat y10)), .val (.int (en M y10)), .val (.int (Int32.ofNat y11)), .val (.int (en M y11)), .val (.int u12), .unset, .unset]) C at_223 rfl rfl ?_
              refine w_iload (pc' := 227) C at_225 rfl rfl ?_
              refine w_iconst (pc' := 228) (x := (2 : Int32)) C at_227 rfl rfl ?_
              refine w_icmp_ne (pcT := 282) (pcF := 231) C at_228 (by decide) (by decide) rfl (fun q => absurd q (by decide)) (fun q228 => ?_)
              refine w_iload (pc' := 233) C at_231 rfl rfl ?_
              refine w_iconst (pc' := 234) (x := (-1 : Int32)) C at_233 rfl rfl ?_
              refine w_icmp_ne (pcT := 280) (pcF := 237) C at_234 (by decide) (by decide) rfl (fun q234_23 => ?_) (fun q234_23 => ?_)
              · skip
                have lx : (adds (Int32.ofNat ec) (adds (Int32.ofNat eb) (adds (Int32.ofNat ea) ([] : List Int32)))).length = 2 := by simp [adds, q57_12, q75_13, q82_17]
                exact absurd (Ky11.none Vw (by rw [lx]; rfl) A12) q234_23
              · skip
                refine w_iload (pc' := 239) C at_237 rfl rfl ?_
                refine w_iload (pc' := 241) C at_239 rfl rfl ?_
                refine w_icmp_eq (pcT := 280) (pcF := 244) C at_241 (by decide) (by decide) rfl (fun q241_24 => ?_) (fun q241_24 => ?_)
                · skip
                  have lx : (adds (Int32.ofNat ec) (adds (Int32.ofNat eb) (adds (Int32.ofNat ea) ([] : List Int32)))).length = 2 := by simp [adds, q57_12, q75_13, q82_17]
                  exact absurd q241_24 (en_ne Vw py10 py11 by11)
                · skip
                  refine w_iload (pc' := 246) C at_244 rfl rfl ?_
                  refine w_iload (pc' := 248) C at_246 rfl rfl ?_
                  refine w_iload (pc' := 250) C at_248 rfl rfl ?_
                  refine w_iload (pc' := 252) C at_250 rfl rfl ?_
                  refine w_iload (pc' := 254) C at_252 rfl rfl ?_
                  refine w_callS (pc' := 257) (argsL := [.int (en M y10), .int (Int32.ofNat ea), .int (Int32.ofNat eb), .int (Int32.ofNat ec), .int (1 : Int32)]) (st := []) (W := 0) (ce' := 5) (sl' := 36) C (tw hw 63 rfl) (tw hw 64 rfl) (tw hw 65 rfl) (tw hw 66 rfl) (by decide) at_254 rfl rfl (by decide) (by decide) (Nat.le_of_eq rfl) rfl rfl (by decide) (by decide) rfl (lenOf pd_8 rfl) (ct_inD hw h23 n0 (en M y10) (Int32.ofNat ea) (Int32.ofNat eb) (Int32.ofNat ec) (1 : Int32)) (kp ?_)
                  refine w_if_eq (pcT := 280) (pcF := 260) C at_257 (by decide) (by decide) rfl (fun q257_25 => ?_) (fun q257_25 => ?_)
                  · skip
                    have lx : (adds (Int32.ofNat ec) (adds (Int32.ofNat eb) (adds (Int32.ofNat ea) ([] : List Int32)))).length = 2 := by simp [adds, q57_12, q75_13, q82_17]
                    exact absurd q257_25 (inD_ok (mem3 (Vw.1 y10 py10).2))
                  · skip
                    refine w_iload (pc' := 262) C at_260 rfl rfl ?_
                    refine w_iload (pc' := 264) C at_262 rfl rfl ?_
                    refine w_iload (pc' := 266) C at_264 rfl rfl ?_
                    refine w_iload (pc' := 268) C at_266 rfl rfl ?_
                    refine w_iload (pc' := 270) C at_268 rfl rfl ?_
                    refine w_callS (pc' := 273) (argsL := [.int (en M y11), .int (Int32.ofNat ea), .int (Int32.ofNat eb), .int (Int32.ofNat ec), .int (1 : Int32)]) (st := []) (W := 0) (ce' := 5) (sl' := 36) C (tw hw 63 rfl) (tw hw 64 rfl) (tw hw 65 rfl) (tw hw 66 rfl) (by decide) at_270 rfl rfl (by decide) (by decide) (Nat.le_of_eq rfl) rfl rfl (by decide) (by decide) rfl (lenOf pd_8 rfl) (ct_inD hw h23 n0 (en M y11) (Int32.ofNat ea) (Int32.ofNat eb) (Int32.ofNat ec) (1 : Int32)) (kp ?_)
                    refine w_if_eq (pcT := 280) (pcF := 276) C at_273 (by decide) (by decide) rfl (fun q273_26 => ?_) (fun q273_26 => ?_)
                    · skip
                      have lx : (adds (Int32.ofNat ec) (adds (Int32.ofNat eb) (adds (Int32.ofNat ea) ([] : List Int32)))).length = 2 := by simp [adds, q57_12, q75_13, q82_17]
                      exact absurd q273_26 (inD_ok (mem3 (Vw.1 y11 py11).2))
                    · skip
                      refine w_iconst (pc' := 277) (x := (1 : Int32)) C at_276 rfl rfl ?_
                      refine w_goto (pc' := 281) C at_277 (by decide) (by decide) ?_
                      refine w_retN' (t := .boolean) (z' := (1 : Int32)) C rfl (by simp) at_281 (by decide) (by decide) narB1 ?_
                      rfl
            · skip
              have lx : (adds (Int32.ofNat ec) (adds (Int32.ofNat eb) (adds (Int32.ofNat ea) ([] : List Int32)))).length = 2 := by simp [adds, q57_12, q75_13, q82_17]
              exact absurd q202_22 (Ky10.more Vw X23 (by rw [lx]; simp) A11)
          · skip
            have lx : (adds (Int32.ofNat ec) (adds (Int32.ofNat eb) (adds (Int32.ofNat ea) ([] : List Int32)))).length = 2 := by simp [adds, q57_12, q75_13, q82_17]
            exact absurd q142_21 (K0.more Vw X23 (by rw [lx]; simp) A10)
    · skip
      refine w_iload (pc' := 62) C at_60 rfl rfl ?_
      refine w_iconst (pc' := 63) (x := (1 : Int32)) C at_62 rfl rfl ?_
      refine w_iadd (pc' := 64) C at_63 rfl ?_
      refine w_eqI (z := (2 : Int32)) (by decide) ?_
      refine w_istore (pc' := 66) (Ls' := #[.val (.int x0), .val (.int x1), .val (.int x2), .val (.int x3), .val (.int x4), .val (.int (Int32.ofNat nn)), .val (.int (Int32.ofNat ea)), .val (.int (Int32.ofNat eb)), .val (.int (Int32.ofNat ec)), .val (.int (1 : Int32)), .val (.int (2 : Int32)), .unset, .unset, .unset, .unset, .unset, .unset, .unset, .unset]) C at_64 rfl rfl ?_
      refine w_iload (pc' := 68) C at_66 rfl rfl ?_
      refine w_if_eq (pcT := 91) (pcF := 71) C at_68 (by decide) (by decide) rfl (fun q => absurd q (by decide)) (fun q68 => ?_)
      refine w_iload (pc' := 73) C at_71 rfl rfl ?_
      refine w_iload (pc' := 75) C at_73 rfl rfl ?_
      refine w_icmp_eq (pcT := 91) (pcF := 78) C at_75 (by decide) (by decide) rfl (fun q75_27 => ?_) (fun q75_27 => ?_)
      · skip
        refine w_new (pc' := 94) (ce' := 1) (sl' := 4) C (tw hw 1 rfl) (tw hw 2 rfl) (tw hw 3 rfl) at_91 rfl rfl rfl (by decide) (by decide) (fun h24 a24 e24 E24 A24 D24 => ?_)
        have g_a24 : n0 ≤ a24 := by rw [e24]; exact hz
        have fr_a24 : h0.size ≤ a24 := by rw [e24]; exact hk.1
        have hz : n0 ≤ h24.size := Nat.le_trans hz E24.1
        have hk := hk.ext E24
        have O_a24 : Obj Z h24 a24 "com/example/rowan/rowan/policy/EntitySet" [("entities", "I", .int (0 : Int32)), ("slots", "[I", .null), ("words", "[J", .null), ("size", "I", .int (0 : Int32))] := obj_Ent hw A24 D24
        refine w_dup (pc' := 95) C at_94 rfl rfl ?_
        refine w_iload (pc' := 97) C at_95 rfl rfl ?_
        refine w_callI (pc' := 100) (argsL := [.int (Int32.ofNat nn)]) (st := [.ref a24]) (W := 1) (ce' := 2) (sl' := 12) C rfl (tw hw 4 rfl) (tw hw 5 rfl) (tw hw 3 rfl) (tw hw 6 rfl) (by decide) at_97 rfl rfl (by decide) (by decide) (Nat.le_of_eq rfl) rfl rfl (by decide) (by decide) rfl (lenOf pd_7 rfl) (ct_init hw h24 n0 a24 nn hz hn1 hnn O_a24 g_a24) (k0 (fun h25 q25 => ?_))
        obtain ⟨R25, hz⟩ := q25
        have O_a24 : Exa Z h25 a24 "com/example/rowan/rowan/policy/EntitySet" ∧ True := ⟨R25.exa, trivial⟩
        refine w_astore (pc' := 102) (Ls' := #[.val (.int x0), .val (.int x1), .val (.int x2), .val (.int x3), .val (.int x4), .val (.int (Int32.ofNat nn)), .val (.int (Int32.ofNat ea)), .val (.int (Int32.ofNat eb)), .val (.int (Int32.ofNat ec)), .val (.int (1 : Int32)), .val (.int (2 : Int32)), .val (.ref a24), .unset, .unset, .unset, .unset, .unset, .unset, .unset]) C at_100 rfl rfl rfl ?_
        refine w_aload (pc' := 104) C at_102 rfl rfl rfl ?_
        refine w_iload (pc' := 106) C at_104 rfl rfl ?_
        have len26 : ([] : List Int32).length ≤ 2 := Nat.zero_le _
        refine w_callV (Cl := "com/example/rowan/rowan/policy/EntitySet") (pc' := 109) (argsL := [.int (Int32.ofNat ea)]) (st := []) (W := 0) (ce' := 3) (sl' := 20) C (tw hw 30 rfl) (tw hw 31 rfl) (tw hw 33 rfl) (tw hw 32 rfl) (tw hw 3 rfl) (tw hw 34 rfl) (by decide) at_106 rfl rfl (by decide) (by decide) (Nat.le_of_eq rfl) rfl rfl (by decide) (by decide) rfl (lenOf pd_5 rfl) O_a24.1 (ct_add hw h25 n0 a24 ea nn ([] : List Int32) hz hnn hea (XsOk.nil nn) len26 R25 g_a24) (kz (fun z26 h26 q26 => ?_))
        obtain ⟨R26, hz⟩ := q26
        have O_a24 : Exa Z h26 a24 "com/example/rowan/rowan/policy/EntitySet" ∧ True := ⟨R26.exa, trivial⟩
        have X26 : XsOk nn (adds (Int32.ofNat ea) ([] : List Int32)) := XsOk.adds (XsOk.nil nn) hea
        refine w_pop (pc' := 110) C at_109 rfl rfl ?_
        refine w_aload (pc' := 112) C at_110 rfl rfl rfl ?_
        refine w_iload (pc' := 114) C at_112 rfl rfl ?_
        have len27 : (adds (Int32.ofNat ea) ([] : List Int32)).length ≤ 2 := al1 _
        refine w_callV (Cl := "com/example/rowan/rowan/policy/EntitySet") (pc' := 117) (argsL := [.int (Int32.ofNat eb)]) (st := []) (W := 0) (ce' := 4) (sl' := 28) C (tw hw 30 rfl) (tw hw 31 rfl) (tw hw 33 rfl) (tw hw 32 rfl) (tw hw 3 rfl) (tw hw 34 rfl) (by decide) at_114 rfl rfl (by decide) (by decide) (Nat.le_of_eq rfl) rfl rfl (by decide) (by decide) rfl (lenOf pd_5 rfl) O_a24.1 (ct_add hw h26 n0 a24 eb nn (adds (Int32.ofNat ea) ([] : List Int32)) hz hnn heb X26 len27 R26 g_a24) (kz (fun z27 h27 q27 => ?_))
        obtain ⟨R27, hz⟩ := q27
        have O_a24 : Exa Z h27 a24 "com/example/rowan/rowan/policy/EntitySet" ∧ True := ⟨R27.exa, trivial⟩
        have X27 : XsOk nn (adds (Int32.ofNat eb) (adds (Int32.ofNat ea) ([] : List Int32))) := XsOk.adds X26 heb
        refine w_pop (pc' := 118) C at_117 rfl rfl ?_
        refine w_iload (pc' := 120) C at_118 rfl rfl ?_
        refine w_if_eq (pcT := 131) (pcF := 123) C at_120 (by decide) (by decide) rfl (fun q => absurd q (by decide)) (fun q120 => ?_)
        refine w_aload (pc' := 125) C at_123 rfl rfl rfl ?_
        refine w_iload (pc' := 127) C at_125 rfl rfl ?_
        have len28 : (adds (Int32.ofNat eb) (adds (Int32.ofNat ea) ([] : List Int32))).length ≤ 2 := al2 _ _
        refine w_callV (Cl := "com/example/rowan/rowan/policy/EntitySet") (pc' := 130) (argsL := [.int (Int32.ofNat ec)]) (st := []) (W := 0) (ce' := 5) (sl' := 36) C (tw hw 30 rfl) (tw hw 31 rfl) (tw hw 33 rfl) (tw hw 32 rfl) (tw hw 3 rfl) (tw hw 34 rfl) (by decide) at_127 rfl rfl (by decide) (by decide) (Nat.le_of_eq rfl) rfl rfl (by decide) (by decide) rfl (lenOf pd_5 rfl) O_a24.1 (ct_add hw h27 n0 a24 ec nn (adds (Int32.ofNat eb) (adds (Int32.ofNat ea) ([] : List Int32))) hz hnn hec X27 len28 R27 g_a24) (kz (fun z28 h28 q28 => ?_))
        obtain ⟨R28, hz⟩ := q28
        have O_a24 : Exa Z h28 a24 "com/example/rowan/rowan/policy/EntitySet" ∧ True := ⟨R28.exa, trivial⟩
        have X28 : XsOk nn (adds (Int32.ofNat ec) (adds (Int32.ofNat eb) (adds (Int32.ofNat ea) ([] : List Int32)))) := XsOk.adds X27 hec
        refine w_pop (pc' := 131) C at_130 rfl rfl ?_
        refine w_aload (pc' := 133) C at_131 rfl rfl rfl ?_
        refine w_iconst (pc' := 134) (x := (-1 : Int32)) C at_133 rfl rfl ?_
        obtain ⟨M, RM⟩ := R28
        have Vw := RM.view X28 hnn
        have K0 := Cov.nil M
        refine w_callV (Cl := "com/example/rowan/rowan/policy/EntitySet") (pc' := 137) (argsL := [.int (-1 : Int32)]) (st := []) (W := 0) (ce' := 5) (sl' := 36) C (tw hw 53 rfl) (tw hw 54 rfl) (tw hw 56 rfl) (tw hw 55 rfl) (tw hw 3 rfl) (tw hw 57 rfl) (by decide) at_134 rfl rfl (by decide) (by decide) (Nat.le_of_eq rfl) rfl rfl (by decide) (by decide) rfl (lenOf pd_1 rfl) O_a24.1 (ct_after hw h28 n0 a24 (-1 : Int32) nn (adds (Int32.ofNat ec) (adds (Int32.ofNat eb) (adds (Int32.ofNat ea) ([] : List Int32)))) M 0 hnn (by decide) neg1 RM) (kq (fun u13 A13 => ?_))
        refine w_istore (pc' := 139) (Ls' := #[.val (.int x0), .val (.int x1), .val (.int x2), .val (.int x3), .val (.int x4), .val (.int (Int32.ofNat nn)), .val (.int (Int32.ofNat ea)), .val (.int (Int32.ofNat eb)), .val (.int (Int32.ofNat ec)), .val (.int (1 : Int32)), .val (.int (2 : Int32)), .val (.ref a24), .val (.int u13), .unset, .unset, .unset, .unset, .unset, .unset]) C at_137 rfl rfl ?_
        refine w_iload (pc' := 141) C at_139 rfl rfl ?_
        refine w_iconst (pc' := 142) (x := (-1 : Int32)) C at_141 rfl rfl ?_
        refine w_icmp_ne (pcT := 147) (pcF := 145) C at_142 (by decide) (by decide) rfl (fun q142_28 => ?_) (fun q142_28 => ?_)
        · skip
          obtain ⟨y13, rfl, by13, py13, cy13⟩ := A13.ex q142_28
          have Ky13 := K0.next by13 py13 cy13
          refine w_aload (pc' := 149) C at_147 rfl rfl rfl ?_
          refine w_iload (pc' := 151) C at_149 rfl rfl ?_
          refine w_callV (Cl := "com/example/rowan/rowan/policy/EntitySet") (pc' := 154) (argsL := [.int (Int32.ofNat y13)]) (st := []) (W := 0) (ce' := 5) (sl' := 36) C (tw hw 58 rfl) (tw hw 59 rfl) (tw hw 61 rfl) (tw hw 60 rfl) (tw hw 3 rfl) (tw hw 62 rfl) (by decide) at_151 rfl rfl (by decide) (by decide) (Nat.le_of_eq rfl) rfl rfl (by decide) (by decide) rfl (lenOf pd_1 rfl) O_a24.1 (ct_entityAt hw h28 n0 a24 nn (adds (Int32.ofNat ec) (adds (Int32.ofNat eb) (adds (Int32.ofNat ea) ([] : List Int32)))) M y13 (Vw.1 y13 py13).1 py13 RM) (kp ?_)
          refine w_istore (pc' := 156) (Ls' := #[.val (.int x0), .val (.int x1), .val (.int x2), .val (.int x3), .val (.int x4), .val (.int (Int32.ofNat nn)), .val (.int (Int32.ofNat ea)), .val (.int (Int32.ofNat eb)), .val (.int (Int32.ofNat ec)), .val (.int (1 : Int32)), .val (.int (2 : Int32)), .val (.ref a24), .val (.int (Int32.ofNat y13)), .val (.int (en M y13)), .unset, .unset, .unset, .unset, .unset]) C at_154 rfl rfl ?_
          refine w_aload (pc' := 158) C at_156 rfl rfl rfl ?_
          refine w_iload (pc' := 160) C at_158 rfl rfl ?_
          refine w_callV (Cl := "com/example/rowan/rowan/policy/EntitySet") (pc' := 163) (argsL := [.int (Int32.ofNat y13)]) (st := []) (W := 0) (ce' := 5) (sl' := 36) C (tw hw 53 rfl) (tw hw 54 rfl) (tw hw 56 rfl) (tw hw 55 rfl) (tw hw 3 rfl) (tw hw 57 rfl) (by decide) at_160 rfl rfl (by decide) (by decide) (Nat.le_of_eq rfl) rfl rfl (by decide) (by decide) rfl (lenOf pd_1 rfl) O_a24.1 (ct_after hw h28 n0 a24 (Int32.ofNat y13) nn (adds (Int32.ofNat ec) (adds (Int32.ofNat eb) (adds (Int32.ofNat ea) ([] : List Int32)))) M (y13 + 1) hnn (Vw.1 y13 py13).1 (ofNat_succ y13) RM) (kq (fun u14 A14 => ?_))
          refine w_istore (pc' := 165) (Ls' := #[.val (.int x0), .val (.int x1), .val (.int x2), .val (.int x3), .val (.int x4), .val (.int (Int32.ofNat nn)), .val (.int (Int32.ofNat ea)), .val (.int (Int32.ofNat eb)), .val (.int (Int32.ofNat ec)), .val (.int (1 : Int32)), .val (.int (2 : Int32)), .val (.ref a24), .val (.int (Int32.ofNat y13)), .val (.int (en M y13)), .val (.int u14), .unset, .unset, .unset, .unset]) C at_163 rfl rfl ?_
          refine w_iload (pc' := 167) C at_165 rfl rfl ?_
          refine w_iconst (pc' := 168) (x := (1 : Int32)) C at_167 rfl rfl ?_
          refine w_icmp_ne (pcT := 199) (pcF := 171) C at_168 (by decide) (by decide) rfl (fun q168 => ?_) (fun q => absurd q (by decide))
          refine w_iload (pc' := 201) C at_199 rfl rfl ?_
          refine w_iconst (pc' := 202) (x := (-1 : Int32)) C at_201 rfl rfl ?_
          refine w_icmp_ne (pcT := 207) (pcF := 205) C at_202 (by decide) (by decide) rfl (fun q202_29 => ?_) (fun q202_29 => ?_)
          · skip
            obtain ⟨y14, rfl, by14, py14, cy14⟩ := A14.ex q202_29
            have Ky14 := Ky13.next by14 py14 cy14
            refine w_aload (pc' := 209) C at_207 rfl rfl rfl ?_
            refine w_iload (pc' := 211) C at_209 rfl rfl ?_
            refine w_callV (Cl := "com/example/rowan/rowan/policy/EntitySet") (pc' := 214) (argsL := [.int (Int32.ofNat y14)]) (st := []) (W := 0) (ce' := 5) (sl' := 36) C (tw hw 58 rfl) (tw hw 59 rfl) (tw hw 61 rfl) (tw hw 60 rfl) (tw hw 3 rfl) (tw hw 62 rfl) (by decide) at_211 rfl rfl (by decide) (by decide) (Nat.le_of_eq rfl) rfl rfl (by decide) (by decide) rfl (lenOf pd_1 rfl) O_a24.1 (ct_entityAt hw h28 n0 a24 nn (adds (Int32.ofNat ec) (adds (Int32.ofNat eb) (adds (Int32.ofNat ea) ([] : List Int32)))) M y14 (Vw.1 y14 py14).1 py14 RM) (kp ?_)
            refine w_istore (pc' := 216) (Ls' := #[.val (.int x0), .val (.int x1), .val (.int x2), .val (.int x3), .val (.int x4), .val (.int (Int32.ofNat nn)), .val (.int (Int32.ofNat ea)), .val (.int (Int32.ofNat eb)), .val (.int (Int32.ofNat ec)), .val (.int (1 : Int32)), .val (.int (2 : Int32)), .val (.ref a24), .val (.int (Int32.ofNat y13)), .val (.int (en M y13)), .val (.int (Int32.ofNat y14)), .val (.int (en M y14)), .unset, .unset, .unset]) C at_214 rfl rfl ?_
            refine w_aload (pc' := 218) C at_216 rfl rfl rfl ?_
            refine w_iload (pc' := 220) C at_218 rfl rfl ?_
            refine w_callV (Cl := "com/example/rowan/rowan/policy/EntitySet") (pc' := 223) (argsL := [.int (Int32.ofNat y14)]) (st := []) (W := 0) (ce' := 5) (sl' := 36) C (tw hw 53 rfl) (tw hw 54 rfl) (tw hw 56 rfl) (tw hw 55 rfl) (tw hw 3 rfl) (tw hw 57 rfl) (by decide) at_220 rfl rfl (by decide) (by decide) (Nat.le_of_eq rfl) rfl rfl (by decide) (by decide) rfl (lenOf pd_1 rfl) O_a24.1 (ct_after hw h28 n0 a24 (Int32.ofNat y14) nn (adds (Int32.ofNat ec) (adds (Int32.ofNat eb) (adds (Int32.ofNat ea) ([] : List Int32)))) M (y14 + 1) hnn (Vw.1 y14 py14).1 (ofNat_succ y14) RM) (kq (fun u15 A15 => ?_))
            refine w_istore (pc' := 225) (Ls' := #[.val (.int x0), .val (.int x1), .val (.int x2), .val (.int x3), .val (.int x4), .val (.int (Int32.ofNat nn)), .val (.int (Int32.ofNat ea)), .val (.int (Int32.ofNat eb)), .val (.int (Int32.ofNat ec)), .val (.int (1 : Int32)), .val (.int (2 : Int32)), .val (.ref a24), .val (.int (Int32.ofNat y13)), .val (.int (en M y13)), .val (.int (Int32.ofNat y14)), .val (.int (en M y14)), .val (.int u15), .unset, .unset]) C at_223 rfl rfl ?_
            refine w_iload (pc' := 227) C at_225 rfl rfl ?_
            refine w_iconst (pc' := 228) (x := (2 : Int32)) C at_227 rfl rfl ?_
            refine w_icmp_ne (pcT := 282) (pcF := 231) C at_228 (by decide) (by decide) rfl (fun q => absurd q (by decide)) (fun q228 => ?_)
            refine w_iload (pc' := 233) C at_231 rfl rfl ?_
            refine w_iconst (pc' := 234) (x := (-1 : Int32)) C at_233 rfl rfl ?_
            refine w_icmp_ne (pcT := 280) (pcF := 237) C at_234 (by decide) (by decide) rfl (fun q234_30 => ?_) (fun q234_30 => ?_)
            · skip
              have lx : (adds (Int32.ofNat ec) (adds (Int32.ofNat eb) (adds (Int32.ofNat ea) ([] : List Int32)))).length = 2 := by simp [adds, q57_12, q75_27]
              exact absurd (Ky14.none Vw (by rw [lx]; rfl) A15) q234_30
            · skip
              refine w_iload (pc' := 239) C at_237 rfl rfl ?_
              refine w_iload (pc' := 241) C at_239 rfl rfl ?_
              refine w_icmp_eq (pcT := 280) (pcF := 244) C at_241 (by decide) (by decide) rfl (fun q241_31 => ?_) (fun q241_31 => ?_)
              · skip
                have lx : (adds (Int32.ofNat ec) (adds (Int32.ofNat eb) (adds (Int32.ofNat ea) ([] : List Int32)))).length = 2 := by simp [adds, q57_12, q75_27]
                exact absurd q241_31 (en_ne Vw py13 py14 by14)
              · skip
                refine w_iload (pc' := 246) C at_244 rfl rfl ?_
                refine w_iload (pc' := 248) C at_246 rfl rfl ?_
                refine w_iload (pc' := 250) C at_248 rfl rfl ?_
                refine w_iload (pc' := 252) C at_250 rfl rfl ?_
                refine w_iload (pc' := 254) C at_252 rfl rfl ?_
                refine w_callS (pc' := 257) (argsL := [.int (en M y13), .int (Int32.ofNat ea), .int (Int32.ofNat eb), .int (Int32.ofNat ec), .int (1 : Int32)]) (st := []) (W := 0) (ce' := 5) (sl' := 36) C (tw hw 63 rfl) (tw hw 64 rfl) (tw hw 65 rfl) (tw hw 66 rfl) (by decide) at_254 rfl rfl (by decide) (by decide) (Nat.le_of_eq rfl) rfl rfl (by decide) (by decide) rfl (lenOf pd_8 rfl) (ct_inD hw h28 n0 (en M y13) (Int32.ofNat ea) (Int32.ofNat eb) (Int32.ofNat ec) (1 : Int32)) (kp ?_)
                refine w_if_eq (pcT := 280) (pcF := 260) C at_257 (by decide) (by decide) rfl (fun q257_32 => ?_) (fun q257_32 => ?_)
                · skip
                  have lx : (adds (Int32.ofNat ec) (adds (Int32.ofNat eb) (adds (Int32.ofNat ea) ([] : List Int32)))).length = 2 := by simp [adds, q57_12, q75_27]
                  exact absurd q257_32 (inD_ok (mem3 (Vw.1 y13 py13).2))
                · skip
                  refine w_iload (pc' := 262) C at_260 rfl rfl ?_
                  refine w_iload (pc' := 264) C at_262 rfl rfl ?_
                  refine w_iload (pc' := 266) C at_264 rfl rfl ?_
                  refine w_iload (pc' := 268) C at_266 rfl rfl ?_
                  refine w_iload (pc' := 270) C at_268 rfl rfl ?_
                  refine w_callS (pc' := 273) (argsL := [.int (en M y14), .int (Int32.ofNat ea), .int (Int32.ofNat eb), .int (Int32.ofNat ec), .int (1 : Int32)]) (st := []) (W := 0) (ce' := 5) (sl' := 36) C (tw hw 63 rfl) (tw hw 64 rfl) (tw hw 65 rfl) (tw hw 66 rfl) (by decide) at_270 rfl rfl (by decide) (by decide) (Nat.le_of_eq rfl) rfl rfl (by decide) (by decide) rfl (lenOf pd_8 rfl) (ct_inD hw h28 n0 (en M y14) (Int32.ofNat ea) (Int32.ofNat eb) (Int32.ofNat ec) (1 : Int32)) (kp ?_)
                  refine w_if_eq (pcT := 280) (pcF := 276) C at_273 (by decide) (by decide) rfl (fun q273_33 => ?_) (fun q273_33 => ?_)
                  · skip
                    have lx : (adds (Int32.ofNat ec) (adds (Int32.ofNat eb) (adds (Int32.ofNat ea) ([] : List Int32)))).length = 2 := by simp [adds, q57_12, q75_27]
                    exact absurd q273_33 (inD_ok (mem3 (Vw.1 y14 py14).2))
                  · skip
                    refine w_iconst (pc' := 277) (x := (1 : Int32)) C at_276 rfl rfl ?_
                    refine w_goto (pc' := 281) C at_277 (by decide) (by decide) ?_
                    refine w_retN' (t := .boolean) (z' := (1 : Int32)) C rfl (by simp) at_281 (by decide) (by decide) narB1 ?_
                    rfl
          · skip
            have lx : (adds (Int32.ofNat ec) (adds (Int32.ofNat eb) (adds (Int32.ofNat ea) ([] : List Int32)))).length = 2 := by simp [adds, q57_12, q75_27]
            exact absurd q202_29 (Ky13.more Vw X28 (by rw [lx]; simp) A14)
        · skip
          have lx : (adds (Int32.ofNat ec) (adds (Int32.ofNat eb) (adds (Int32.ofNat ea) ([] : List Int32)))).length = 2 := by simp [adds, q57_12, q75_27]
          exact absurd q142_28 (K0.more Vw X28 (by rw [lx]; simp) A13)
      · skip
        refine w_iload (pc' := 80) C at_78 rfl rfl ?_
        refine w_iload (pc' := 82) C at_80 rfl rfl ?_
        refine w_icmp_eq (pcT := 91) (pcF := 85) C at_82 (by decide) (by decide) rfl (fun q82_34 => ?_) (fun q82_34 => ?_)
        · skip
          refine w_new (pc' := 94) (ce' := 1) (sl' := 4) C (tw hw 1 rfl) (tw hw 2 rfl) (tw hw 3 rfl) at_91 rfl rfl rfl (by decide) (by decide) (fun h29 a29 e29 E29 A29 D29 => ?_)
          have g_a29 : n0 ≤ a29 := by rw [e29]; exact hz
          have fr_a29 : h0.size ≤ a29 := by rw [e29]; exact hk.1
          have hz : n0 ≤ h29.size := Nat.le_trans hz E29.1
          have hk := hk.ext E29
          have O_a29 : Obj Z h29 a29 "com/example/rowan/rowan/policy/EntitySet" [("entities", "I", .int (0 : Int32)), ("slots", "[I", .null), ("words", "[J", .null), ("size", "I", .int (0 : Int32))] := obj_Ent hw A29 D29
          refine w_dup (pc' := 95) C at_94 rfl rfl ?_
          refine w_iload (pc' := 97) C at_95 rfl rfl ?_
          refine w_callI (pc' := 100) (argsL := [.int (Int32.ofNat nn)]) (st := [.ref a29]) (W := 1) (ce' := 2) (sl' := 12) C rfl (tw hw 4 rfl) (tw hw 5 rfl) (tw hw 3 rfl) (tw hw 6 rfl) (by decide) at_97 rfl rfl (by decide) (by decide) (Nat.le_of_eq rfl) rfl rfl (by decide) (by decide) rfl (lenOf pd_7 rfl) (ct_init hw h29 n0 a29 nn hz hn1 hnn O_a29 g_a29) (k0 (fun h30 q30 => ?_))
          obtain ⟨R30, hz⟩ := q30
          have O_a29 : Exa Z h30 a29 "com/example/rowan/rowan/policy/EntitySet" ∧ True := ⟨R30.exa, trivial⟩
          refine w_astore (pc' := 102) (Ls' := #[.val (.int x0), .val (.int x1), .val (.int x2), .val (.int x3), .val (.int x4), .val (.int (Int32.ofNat nn)), .val (.int (Int32.ofNat ea)), .val (.int (Int32.ofNat eb)), .val (.int (Int32.ofNat ec)), .val (.int (1 : Int32)), .val (.int (2 : Int32)), .val (.ref a29), .unset, .unset, .unset, .unset, .unset, .unset, .unset]) C at_100 rfl rfl rfl ?_
          refine w_aload (pc' := 104) C at_102 rfl rfl rfl ?_
          refine w_iload (pc' := 106) C at_104 rfl rfl ?_
          have len31 : ([] : List Int32).length ≤ 2 := Nat.zero_le _
          refine w_callV (Cl := "com/example/rowan/rowan/policy/EntitySet") (pc' := 109) (argsL := [.int (Int32.ofNat ea)]) (st := []) (W := 0) (ce' := 3) (sl' := 20) C (tw hw 30 rfl) (tw hw 31 rfl) (tw hw 33 rfl) (tw hw 32 rfl) (tw hw 3 rfl) (tw hw 34 rfl) (by decide) at_106 rfl rfl (by decide) (by decide) (Nat.le_of_eq rfl) rfl rfl (by decide) (by decide) rfl (lenOf pd_5 rfl) O_a29.1 (ct_add hw h30 n0 a29 ea nn ([] : List Int32) hz hnn hea (XsOk.nil nn) len31 R30 g_a29) (kz (fun z31 h31 q31 => ?_))
          obtain ⟨R31, hz⟩ := q31
          have O_a29 : Exa Z h31 a29 "com/example/rowan/rowan/policy/EntitySet" ∧ True := ⟨R31.exa, trivial⟩
          have X31 : XsOk nn (adds (Int32.ofNat ea) ([] : List Int32)) := XsOk.adds (XsOk.nil nn) hea
          refine w_pop (pc' := 110) C at_109 rfl rfl ?_
          refine w_aload (pc' := 112) C at_110 rfl rfl rfl ?_
          refine w_iload (pc' := 114) C at_112 rfl rfl ?_
          have len32 : (adds (Int32.ofNat ea) ([] : List Int32)).length ≤ 2 := al1 _
          refine w_callV (Cl := "com/example/rowan/rowan/policy/EntitySet") (pc' := 117) (argsL := [.int (Int32.ofNat eb)]) (st := []) (W := 0) (ce' := 4) (sl' := 28) C (tw hw 30 rfl) (tw hw 31 rfl) (tw hw 33 rfl) (tw hw 32 rfl) (tw hw 3 rfl) (tw hw 34 rfl) (by decide) at_114 rfl rfl (by decide) (by decide) (Nat.le_of_eq rfl) rfl rfl (by decide) (by decide) rfl (lenOf pd_5 rfl) O_a29.1 (ct_add hw h31 n0 a29 eb nn (adds (Int32.ofNat ea) ([] : List Int32)) hz hnn heb X31 len32 R31 g_a29) (kz (fun z32 h32 q32 => ?_))
          obtain ⟨R32, hz⟩ := q32
          have O_a29 : Exa Z h32 a29 "com/example/rowan/rowan/policy/EntitySet" ∧ True := ⟨R32.exa, trivial⟩
          have X32 : XsOk nn (adds (Int32.ofNat eb) (adds (Int32.ofNat ea) ([] : List Int32))) := XsOk.adds X31 heb
          refine w_pop (pc' := 118) C at_117 rfl rfl ?_
          refine w_iload (pc' := 120) C at_118 rfl rfl ?_
          refine w_if_eq (pcT := 131) (pcF := 123) C at_120 (by decide) (by decide) rfl (fun q => absurd q (by decide)) (fun q120 => ?_)
          refine w_aload (pc' := 125) C at_123 rfl rfl rfl ?_
          refine w_iload (pc' := 127) C at_125 rfl rfl ?_
          have len33 : (adds (Int32.ofNat eb) (adds (Int32.ofNat ea) ([] : List Int32))).length ≤ 2 := al2 _ _
          refine w_callV (Cl := "com/example/rowan/rowan/policy/EntitySet") (pc' := 130) (argsL := [.int (Int32.ofNat ec)]) (st := []) (W := 0) (ce' := 5) (sl' := 36) C (tw hw 30 rfl) (tw hw 31 rfl) (tw hw 33 rfl) (tw hw 32 rfl) (tw hw 3 rfl) (tw hw 34 rfl) (by decide) at_127 rfl rfl (by decide) (by decide) (Nat.le_of_eq rfl) rfl rfl (by decide) (by decide) rfl (lenOf pd_5 rfl) O_a29.1 (ct_add hw h32 n0 a29 ec nn (adds (Int32.ofNat eb) (adds (Int32.ofNat ea) ([] : List Int32))) hz hnn hec X32 len33 R32 g_a29) (kz (fun z33 h33 q33 => ?_))
          obtain ⟨R33, hz⟩ := q33
          have O_a29 : Exa Z h33 a29 "com/example/rowan/rowan/policy/EntitySet" ∧ True := ⟨R33.exa, trivial⟩
          have X33 : XsOk nn (adds (Int32.ofNat ec) (adds (Int32.ofNat eb) (adds (Int32.ofNat ea) ([] : List Int32)))) := XsOk.adds X32 hec
          refine w_pop (pc' := 131) C at_130 rfl rfl ?_
          refine w_aload (pc' := 133) C at_131 rfl rfl rfl ?_
          refine w_iconst (pc' := 134) (x := (-1 : Int32)) C at_133 rfl rfl ?_
          obtain ⟨M, RM⟩ := R33
          have Vw := RM.view X33 hnn
          have K0 := Cov.nil M
          refine w_callV (Cl := "com/example/rowan/rowan/policy/EntitySet") (pc' := 137) (argsL := [.int (-1 : Int32)]) (st := []) (W := 0) (ce' := 5) (sl' := 36) C (tw hw 53 rfl) (tw hw 54 rfl) (tw hw 56 rfl) (tw hw 55 rfl) (tw hw 3 rfl) (tw hw 57 rfl) (by decide) at_134 rfl rfl (by decide) (by decide) (Nat.le_of_eq rfl) rfl rfl (by decide) (by decide) rfl (lenOf pd_1 rfl) O_a29.1 (ct_after hw h33 n0 a29 (-1 : Int32) nn (adds (Int32.ofNat ec) (adds (Int32.ofNat eb) (adds (Int32.ofNat ea) ([] : List Int32)))) M 0 hnn (by decide) neg1 RM) (kq (fun u16 A16 => ?_))
          refine w_istore (pc' := 139) (Ls' := #[.val (.int x0), .val (.int x1), .val (.int x2), .val (.int x3), .val (.int x4), .val (.int (Int32.ofNat nn)), .val (.int (Int32.ofNat ea)), .val (.int (Int32.ofNat eb)), .val (.int (Int32.ofNat ec)), .val (.int (1 : Int32)), .val (.int (2 : Int32)), .val (.ref a29), .val (.int u16), .unset, .unset, .unset, .unset, .unset, .unset]) C at_137 rfl rfl ?_
          refine w_iload (pc' := 141) C at_139 rfl rfl ?_
          refine w_iconst (pc' := 142) (x := (-1 : Int32)) C at_141 rfl rfl ?_
          refine w_icmp_ne (pcT := 147) (pcF := 145) C at_142 (by decide) (by decide) rfl (fun q142_35 => ?_) (fun q142_35 => ?_)
          · skip
            obtain ⟨y16, rfl, by16, py16, cy16⟩ := A16.ex q142_35
            have Ky16 := K0.next by16 py16 cy16
            refine w_aload (pc' := 149) C at_147 rfl rfl rfl ?_
            refine w_iload (pc' := 151) C at_149 rfl rfl ?_
            refine w_callV (Cl := "com/example/rowan/rowan/policy/EntitySet") (pc' := 154) (argsL := [.int (Int32.ofNat y16)]) (st := []) (W := 0) (ce' := 5) (sl' := 36) C (tw hw 58 rfl) (tw hw 59 rfl) (tw hw 61 rfl) (tw hw 60 rfl) (tw hw 3 rfl) (tw hw 62 rfl) (by decide) at_151 rfl rfl (by decide) (by decide) (Nat.le_of_eq rfl) rfl rfl (by decide) (by decide) rfl (lenOf pd_1 rfl) O_a29.1 (ct_entityAt hw h33 n0 a29 nn (adds (Int32.ofNat ec) (adds (Int32.ofNat eb) (adds (Int32.ofNat ea) ([] : List Int32)))) M y16 (Vw.1 y16 py16).1 py16 RM) (kp ?_)
            refine w_istore (pc' := 156) (Ls' := #[.val (.int x0), .val (.int x1), .val (.int x2), .val (.int x3), .val (.int x4), .val (.int (Int32.ofNat nn)), .val (.int (Int32.ofNat ea)), .val (.int (Int32.ofNat eb)), .val (.int (Int32.ofNat ec)), .val (.int (1 : Int32)), .val (.int (2 : Int32)), .val (.ref a29), .val (.int (Int32.ofNat y16)), .val (.int (en M y16)), .unset, .unset, .unset, .unset, .unset]) C at_154 rfl rfl ?_
            refine w_aload (pc' := 158) C at_156 rfl rfl rfl ?_
            refine w_iload (pc' := 160) C at_158 rfl rfl ?_
            refine w_callV (Cl := "com/example/rowan/rowan/policy/EntitySet") (pc' := 163) (argsL := [.int (Int32.ofNat y16)]) (st := []) (W := 0) (ce' := 5) (sl' := 36) C (tw hw 53 rfl) (tw hw 54 rfl) (tw hw 56 rfl) (tw hw 55 rfl) (tw hw 3 rfl) (tw hw 57 rfl) (by decide) at_160 rfl rfl (by decide) (by decide) (Nat.le_of_eq rfl) rfl rfl (by decide) (by decide) rfl (lenOf pd_1 rfl) O_a29.1 (ct_after hw h33 n0 a29 (Int32.ofNat y16) nn (adds (Int32.ofNat ec) (adds (Int32.ofNat eb) (adds (Int32.ofNat ea) ([] : List Int32)))) M (y16 + 1) hnn (Vw.1 y16 py16).1 (ofNat_succ y16) RM) (kq (fun u17 A17 => ?_))
            refine w_istore (pc' := 165) (Ls' := #[.val (.int x0), .val (.int x1), .val (.int x2), .val (.int x3), .val (.int x4), .val (.int (Int32.ofNat nn)), .val (.int (Int32.ofNat ea)), .val (.int (Int32.ofNat eb)), .val (.int (Int32.ofNat ec)), .val (.int (1 : Int32)), .val (.int (2 : Int32)), .val (.ref a29), .val (.int (Int32.ofNat y16)), .val (.int (en M y16)), .val (.int u17), .unset, .unset, .unset, .unset]) C at_163 rfl rfl ?_
            refine w_iload (pc' := 167) C at_165 rfl rfl ?_
            refine w_iconst (pc' := 168) (x := (1 : Int32)) C at_167 rfl rfl ?_
            refine w_icmp_ne (pcT := 199) (pcF := 171) C at_168 (by decide) (by decide) rfl (fun q168 => ?_) (fun q => absurd q (by decide))
            refine w_iload (pc' := 201) C at_199 rfl rfl ?_
            refine w_iconst (pc' := 202) (x := (-1 : Int32)) C at_201 rfl rfl ?_
            refine w_icmp_ne (pcT := 207) (pcF := 205) C at_202 (by decide) (by decide) rfl (fun q202_36 => ?_) (fun q202_36 => ?_)
            · skip
              obtain ⟨y17, rfl, by17, py17, cy17⟩ := A17.ex q202_36
              have Ky17 := Ky16.next by17 py17 cy17
              refine w_aload (pc' := 209) C at_207 rfl rfl rfl ?_
              refine w_iload (pc' := 211) C at_209 rfl rfl ?_
              refine w_callV (Cl := "com/example/rowan/rowan/policy/EntitySet") (pc' := 214) (argsL := [.int (Int32.ofNat y17)]) (st := []) (W := 0) (ce' := 5) (sl' := 36) C (tw hw 58 rfl) (tw hw 59 rfl) (tw hw 61 rfl) (tw hw 60 rfl) (tw hw 3 rfl) (tw hw 62 rfl) (by decide) at_211 rfl rfl (by decide) (by decide) (Nat.le_of_eq rfl) rfl rfl (by decide) (by decide) rfl (lenOf pd_1 rfl) O_a29.1 (ct_entityAt hw h33 n0 a29 nn (adds (Int32.ofNat ec) (adds (Int32.ofNat eb) (adds (Int32.ofNat ea) ([] : List Int32)))) M y17 (Vw.1 y17 py17).1 py17 RM) (kp ?_)
              refine w_istore (pc' := 216) (Ls' := #[.val (.int x0), .val (.int x1), .val (.int x2), .val (.int x3), .val (.int x4), .val (.int (Int32.ofNat nn)), .val (.int (Int32.ofNat ea)), .val (.int (Int32.ofNat eb)), .val (.int (Int32.ofNat ec)), .val (.int (1 : Int32)), .val (.int (2 : Int32)), .val (.ref a29), .val (.int (Int32.ofNat y16)), .val (.int (en M y16)), .val (.int (Int32.ofNat y17)), .val (.int (en M y17)), .unset, .unset, .unset]) C at_214 rfl rfl ?_
              refine w_aload (pc' := 218) C at_216 rfl rfl rfl ?_
              refine w_iload (pc' := 220) C at_218 rfl rfl ?_
              refine w_callV (Cl := "com/example/rowan/rowan/policy/EntitySet") (pc' := 223) (argsL := [.int (Int32.ofNat y17)]) (st := []) (W := 0) (ce' := 5) (sl' := 36) C (tw hw 53 rfl) (tw hw 54 rfl) (tw hw 56 rfl) (tw hw 55 rfl) (tw hw 3 rfl) (tw hw 57 rfl) (by decide) at_220 rfl rfl (by decide) (by decide) (Nat.le_of_eq rfl) rfl rfl (by decide) (by decide) rfl (lenOf pd_1 rfl) O_a29.1 (ct_after hw h33 n0 a29 (Int32.ofNat y17) nn (adds (Int32.ofNat ec) (adds (Int32.ofNat eb) (adds (Int32.ofNat ea) ([] : List Int32)))) M (y17 + 1) hnn (Vw.1 y17 py17).1 (ofNat_succ y17) RM) (kq (fun u18 A18 => ?_))
              refine w_istore (pc' := 225) (Ls' := #[.val (.int x0), .val (.int x1), .val (.int x2), .val (.int x3), .val (.int x4), .val (.int (Int32.ofNat nn)), .val (.int (Int32.ofNat ea)), .val (.int (Int32.ofNat eb)), .val (.int (Int32.ofNat ec)), .val (.int (1 : Int32)), .val (.int (2 : Int32)), .val (.ref a29), .val (.int (Int32.ofNat y16)), .val (.int (en M y16)), .val (.int (Int32.ofNat y17)), .val (.int (en M y17)), .val (.int u18), .unset, .unset]) C at_223 rfl rfl ?_
              refine w_iload (pc' := 227) C at_225 rfl rfl ?_
              refine w_iconst (pc' := 228) (x := (2 : Int32)) C at_227 rfl rfl ?_
              refine w_icmp_ne (pcT := 282) (pcF := 231) C at_228 (by decide) (by decide) rfl (fun q => absurd q (by decide)) (fun q228 => ?_)
              refine w_iload (pc' := 233) C at_231 rfl rfl ?_
              refine w_iconst (pc' := 234) (x := (-1 : Int32)) C at_233 rfl rfl ?_
              refine w_icmp_ne (pcT := 280) (pcF := 237) C at_234 (by decide) (by decide) rfl (fun q234_37 => ?_) (fun q234_37 => ?_)
              · skip
                have lx : (adds (Int32.ofNat ec) (adds (Int32.ofNat eb) (adds (Int32.ofNat ea) ([] : List Int32)))).length = 2 := by simp [adds, q57_12, q75_27, q82_34]
                exact absurd (Ky17.none Vw (by rw [lx]; rfl) A18) q234_37
              · skip
                refine w_iload (pc' := 239) C at_237 rfl rfl ?_
                refine w_iload (pc' := 241) C at_239 rfl rfl ?_
                refine w_icmp_eq (pcT := 280) (pcF := 244) C at_241 (by decide) (by decide) rfl (fun q241_38 => ?_) (fun q241_38 => ?_)
                · skip
                  have lx : (adds (Int32.ofNat ec) (adds (Int32.ofNat eb) (adds (Int32.ofNat ea) ([] : List Int32)))).length = 2 := by simp [adds, q57_12, q75_27, q82_34]
                  exact absurd q241_38 (en_ne Vw py16 py17 by17)
                · skip
                  refine w_iload (pc' := 246) C at_244 rfl rfl ?_
                  refine w_iload (pc' := 248) C at_246 rfl rfl ?_
                  refine w_iload (pc' := 250) C at_248 rfl rfl ?_
                  refine w_iload (pc' := 252) C at_250 rfl rfl ?_
                  refine w_iload (pc' := 254) C at_252 rfl rfl ?_
                  refine w_callS (pc' := 257) (argsL := [.int (en M y16), .int (Int32.ofNat ea), .int (Int32.ofNat eb), .int (Int32.ofNat ec), .int (1 : Int32)]) (st := []) (W := 0) (ce' := 5) (sl' := 36) C (tw hw 63 rfl) (tw hw 64 rfl) (tw hw 65 rfl) (tw hw 66 rfl) (by decide) at_254 rfl rfl (by decide) (by decide) (Nat.le_of_eq rfl) rfl rfl (by decide) (by decide) rfl (lenOf pd_8 rfl) (ct_inD hw h33 n0 (en M y16) (Int32.ofNat ea) (Int32.ofNat eb) (Int32.ofNat ec) (1 : Int32)) (kp ?_)
                  refine w_if_eq (pcT := 280) (pcF := 260) C at_257 (by decide) (by decide) rfl (fun q257_39 => ?_) (fun q257_39 => ?_)
                  · skip
                    have lx : (adds (Int32.ofNat ec) (adds (Int32.ofNat eb) (adds (Int32.ofNat ea) ([] : List Int32)))).length = 2 := by simp [adds, q57_12, q75_27, q82_34]
                    exact absurd q257_39 (inD_ok (mem3 (Vw.1 y16 py16).2))
                  · skip
                    refine w_iload (pc' := 262) C at_260 rfl rfl ?_
                    refine w_iload (pc' := 264) C at_262 rfl rfl ?_
                    refine w_iload (pc' := 266) C at_264 rfl rfl ?_
                    refine w_iload (pc' := 268) C at_266 rfl rfl ?_
                    refine w_iload (pc' := 270) C at_268 rfl rfl ?_
                    refine w_callS (pc' := 273) (argsL := [.int (en M y17), .int (Int32.ofNat ea), .int (Int32.ofNat eb), .int (Int32.ofNat ec), .int (1 : Int32)]) (st := []) (W := 0) (ce' := 5) (sl' := 36) C (tw hw 63 rfl) (tw hw 64 rfl) (tw hw 65 rfl) (tw hw 66 rfl) (by decide) at_270 rfl rfl (by decide) (by decide) (Nat.le_of_eq rfl) rfl rfl (by decide) (by decide) rfl (lenOf pd_8 rfl) (ct_inD hw h33 n0 (en M y17) (Int32.ofNat ea) (Int32.ofNat eb) (Int32.ofNat ec) (1 : Int32)) (kp ?_)
                    refine w_if_eq (pcT := 280) (pcF := 276) C at_273 (by decide) (by decide) rfl (fun q273_40 => ?_) (fun q273_40 => ?_)
                    · skip
                      have lx : (adds (Int32.ofNat ec) (adds (Int32.ofNat eb) (adds (Int32.ofNat ea) ([] : List Int32)))).length = 2 := by simp [adds, q57_12, q75_27, q82_34]
                      exact absurd q273_40 (inD_ok (mem3 (Vw.1 y17 py17).2))
                    · skip
                      refine w_iconst (pc' := 277) (x := (1 : Int32)) C at_276 rfl rfl ?_
                      refine w_goto (pc' := 281) C at_277 (by decide) (by decide) ?_
                      refine w_retN' (t := .boolean) (z' := (1 : Int32)) C rfl (by simp) at_281 (by decide) (by decide) narB1 ?_
                      rfl
            · skip
              have lx : (adds (Int32.ofNat ec) (adds (Int32.ofNat eb) (adds (Int32.ofNat ea) ([] : List Int32)))).length = 2 := by simp [adds, q57_12, q75_27, q82_34]
              exact absurd q202_36 (Ky16.more Vw X33 (by rw [lx]; simp) A17)
          · skip
            have lx : (adds (Int32.ofNat ec) (adds (Int32.ofNat eb) (adds (Int32.ofNat ea) ([] : List Int32)))).length = 2 := by simp [adds, q57_12, q75_27, q82_34]
            exact absurd q142_35 (K0.more Vw X33 (by rw [lx]; simp) A16)
        · skip
          refine w_iload (pc' := 87) C at_85 rfl rfl ?_
          refine w_iconst (pc' := 88) (x := (1 : Int32)) C at_87 rfl rfl ?_
          refine w_iadd (pc' := 89) C at_88 rfl ?_
          refine w_eqI (z := (3 : Int32)) (by decide) ?_
          refine w_istore (pc' := 91) (Ls' := #[.val (.int x0), .val (.int x1), .val (.int x2), .val (.int x3), .val (.int x4), .val (.int (Int32.ofNat nn)), .val (.int (Int32.ofNat ea)), .val (.int (Int32.ofNat eb)), .val (.int (Int32.ofNat ec)), .val (.int (1 : Int32)), .val (.int (3 : Int32)), .unset, .unset, .unset, .unset, .unset, .unset, .unset, .unset]) C at_89 rfl rfl ?_
          refine w_new (pc' := 94) (ce' := 1) (sl' := 4) C (tw hw 1 rfl) (tw hw 2 rfl) (tw hw 3 rfl) at_91 rfl rfl rfl (by decide) (by decide) (fun h34 a34 e34 E34 A34 D34 => ?_)
          have g_a34 : n0 ≤ a34 := by rw [e34]; exact hz
          have fr_a34 : h0.size ≤ a34 := by rw [e34]; exact hk.1
          have hz : n0 ≤ h34.size := Nat.le_trans hz E34.1
          have hk := hk.ext E34
          have O_a34 : Obj Z h34 a34 "com/example/rowan/rowan/policy/EntitySet" [("entities", "I", .int (0 : Int32)), ("slots", "[I", .null), ("words", "[J", .null), ("size", "I", .int (0 : Int32))] := obj_Ent hw A34 D34
          refine w_dup (pc' := 95) C at_94 rfl rfl ?_
          refine w_iload (pc' := 97) C at_95 rfl rfl ?_
          refine w_callI (pc' := 100) (argsL := [.int (Int32.ofNat nn)]) (st := [.ref a34]) (W := 1) (ce' := 2) (sl' := 12) C rfl (tw hw 4 rfl) (tw hw 5 rfl) (tw hw 3 rfl) (tw hw 6 rfl) (by decide) at_97 rfl rfl (by decide) (by decide) (Nat.le_of_eq rfl) rfl rfl (by decide) (by decide) rfl (lenOf pd_7 rfl) (ct_init hw h34 n0 a34 nn hz hn1 hnn O_a34 g_a34) (k0 (fun h35 q35 => ?_))
          obtain ⟨R35, hz⟩ := q35
          have O_a34 : Exa Z h35 a34 "com/example/rowan/rowan/policy/EntitySet" ∧ True := ⟨R35.exa, trivial⟩
          refine w_astore (pc' := 102) (Ls' := #[.val (.int x0), .val (.int x1), .val (.int x2), .val (.int x3), .val (.int x4), .val (.int (Int32.ofNat nn)), .val (.int (Int32.ofNat ea)), .val (.int (Int32.ofNat eb)), .val (.int (Int32.ofNat ec)), .val (.int (1 : Int32)), .val (.int (3 : Int32)), .val (.ref a34), .unset, .unset, .unset, .unset, .unset, .unset, .unset]) C at_100 rfl rfl rfl ?_
          refine w_aload (pc' := 104) C at_102 rfl rfl rfl ?_
          refine w_iload (pc' := 106) C at_104 rfl rfl ?_
          have len36 : ([] : List Int32).length ≤ 2 := Nat.zero_le _
          refine w_callV (Cl := "com/example/rowan/rowan/policy/EntitySet") (pc' := 109) (argsL := [.int (Int32.ofNat ea)]) (st := []) (W := 0) (ce' := 3) (sl' := 20) C (tw hw 30 rfl) (tw hw 31 rfl) (tw hw 33 rfl) (tw hw 32 rfl) (tw hw 3 rfl) (tw hw 34 rfl) (by decide) at_106 rfl rfl (by decide) (by decide) (Nat.le_of_eq rfl) rfl rfl (by decide) (by decide) rfl (lenOf pd_5 rfl) O_a34.1 (ct_add hw h35 n0 a34 ea nn ([] : List Int32) hz hnn hea (XsOk.nil nn) len36 R35 g_a34) (kz (fun z36 h36 q36 => ?_))
          obtain ⟨R36, hz⟩ := q36
          have O_a34 : Exa Z h36 a34 "com/example/rowan/rowan/policy/EntitySet" ∧ True := ⟨R36.exa, trivial⟩
          have X36 : XsOk nn (adds (Int32.ofNat ea) ([] : List Int32)) := XsOk.adds (XsOk.nil nn) hea
          refine w_pop (pc' := 110) C at_109 rfl rfl ?_
          refine w_aload (pc' := 112) C at_110 rfl rfl rfl ?_
          refine w_iload (pc' := 114) C at_112 rfl rfl ?_
          have len37 : (adds (Int32.ofNat ea) ([] : List Int32)).length ≤ 2 := al1 _
          refine w_callV (Cl := "com/example/rowan/rowan/policy/EntitySet") (pc' := 117) (argsL := [.int (Int32.ofNat eb)]) (st := []) (W := 0) (ce' := 4) (sl' := 28) C (tw hw 30 rfl) (tw hw 31 rfl) (tw hw 33 rfl) (tw hw 32 rfl) (tw hw 3 rfl) (tw hw 34 rfl) (by decide) at_114 rfl rfl (by decide) (by decide) (Nat.le_of_eq rfl) rfl rfl (by decide) (by decide) rfl (lenOf pd_5 rfl) O_a34.1 (ct_add hw h36 n0 a34 eb nn (adds (Int32.ofNat ea) ([] : List Int32)) hz hnn heb X36 len37 R36 g_a34) (kz (fun z37 h37 q37 => ?_))
          obtain ⟨R37, hz⟩ := q37
          have O_a34 : Exa Z h37 a34 "com/example/rowan/rowan/policy/EntitySet" ∧ True := ⟨R37.exa, trivial⟩
          have X37 : XsOk nn (adds (Int32.ofNat eb) (adds (Int32.ofNat ea) ([] : List Int32))) := XsOk.adds X36 heb
          refine w_pop (pc' := 118) C at_117 rfl rfl ?_
          refine w_iload (pc' := 120) C at_118 rfl rfl ?_
          refine w_if_eq (pcT := 131) (pcF := 123) C at_120 (by decide) (by decide) rfl (fun q => absurd q (by decide)) (fun q120 => ?_)
          refine w_aload (pc' := 125) C at_123 rfl rfl rfl ?_
          refine w_iload (pc' := 127) C at_125 rfl rfl ?_
          have len38 : (adds (Int32.ofNat eb) (adds (Int32.ofNat ea) ([] : List Int32))).length ≤ 2 := al2 _ _
          refine w_callV (Cl := "com/example/rowan/rowan/policy/EntitySet") (pc' := 130) (argsL := [.int (Int32.ofNat ec)]) (st := []) (W := 0) (ce' := 5) (sl' := 36) C (tw hw 30 rfl) (tw hw 31 rfl) (tw hw 33 rfl) (tw hw 32 rfl) (tw hw 3 rfl) (tw hw 34 rfl) (by decide) at_127 rfl rfl (by decide) (by decide) (Nat.le_of_eq rfl) rfl rfl (by decide) (by decide) rfl (lenOf pd_5 rfl) O_a34.1 (ct_add hw h37 n0 a34 ec nn (adds (Int32.ofNat eb) (adds (Int32.ofNat ea) ([] : List Int32))) hz hnn hec X37 len38 R37 g_a34) (kz (fun z38 h38 q38 => ?_))
          obtain ⟨R38, hz⟩ := q38
          have O_a34 : Exa Z h38 a34 "com/example/rowan/rowan/policy/EntitySet" ∧ True := ⟨R38.exa, trivial⟩
          have X38 : XsOk nn (adds (Int32.ofNat ec) (adds (Int32.ofNat eb) (adds (Int32.ofNat ea) ([] : List Int32)))) := XsOk.adds X37 hec
          refine w_pop (pc' := 131) C at_130 rfl rfl ?_
          refine w_aload (pc' := 133) C at_131 rfl rfl rfl ?_
          refine w_iconst (pc' := 134) (x := (-1 : Int32)) C at_133 rfl rfl ?_
          obtain ⟨M, RM⟩ := R38
          have Vw := RM.view X38 hnn
          have K0 := Cov.nil M
          refine w_callV (Cl := "com/example/rowan/rowan/policy/EntitySet") (pc' := 137) (argsL := [.int (-1 : Int32)]) (st := []) (W := 0) (ce' := 5) (sl' := 36) C (tw hw 53 rfl) (tw hw 54 rfl) (tw hw 56 rfl) (tw hw 55 rfl) (tw hw 3 rfl) (tw hw 57 rfl) (by decide) at_134 rfl rfl (by decide) (by decide) (Nat.le_of_eq rfl) rfl rfl (by decide) (by decide) rfl (lenOf pd_1 rfl) O_a34.1 (ct_after hw h38 n0 a34 (-1 : Int32) nn (adds (Int32.ofNat ec) (adds (Int32.ofNat eb) (adds (Int32.ofNat ea) ([] : List Int32)))) M 0 hnn (by decide) neg1 RM) (kq (fun u19 A19 => ?_))
          refine w_istore (pc' := 139) (Ls' := #[.val (.int x0), .val (.int x1), .val (.int x2), .val (.int x3), .val (.int x4), .val (.int (Int32.ofNat nn)), .val (.int (Int32.ofNat ea)), .val (.int (Int32.ofNat eb)), .val (.int (Int32.ofNat ec)), .val (.int (1 : Int32)), .val (.int (3 : Int32)), .val (.ref a34), .val (.int u19), .unset, .unset, .unset, .unset, .unset, .unset]) C at_137 rfl rfl ?_
          refine w_iload (pc' := 141) C at_139 rfl rfl ?_
          refine w_iconst (pc' := 142) (x := (-1 : Int32)) C at_141 rfl rfl ?_
          refine w_icmp_ne (pcT := 147) (pcF := 145) C at_142 (by decide) (by decide) rfl (fun q142_41 => ?_) (fun q142_41 => ?_)
          · skip
            obtain ⟨y19, rfl, by19, py19, cy19⟩ := A19.ex q142_41
            have Ky19 := K0.next by19 py19 cy19
            refine w_aload (pc' := 149) C at_147 rfl rfl rfl ?_
            refine w_iload (pc' := 151) C at_149 rfl rfl ?_
            refine w_callV (Cl := "com/example/rowan/rowan/policy/EntitySet") (pc' := 154) (argsL := [.int (Int32.ofNat y19)]) (st := []) (W := 0) (ce' := 5) (sl' := 36) C (tw hw 58 rfl) (tw hw 59 rfl) (tw hw 61 rfl) (tw hw 60 rfl) (tw hw 3 rfl) (tw hw 62 rfl) (by decide) at_151 rfl rfl (by decide) (by decide) (Nat.le_of_eq rfl) rfl rfl (by decide) (by decide) rfl (lenOf pd_1 rfl) O_a34.1 (ct_entityAt hw h38 n0 a34 nn (adds (Int32.ofNat ec) (adds (Int32.ofNat eb) (adds (Int32.ofNat ea) ([] : List Int32)))) M y19 (Vw.1 y19 py19).1 py19 RM) (kp ?_)
            refine w_istore (pc' := 156) (Ls' := #[.val (.int x0), .val (.int x1), .val (.int x2), .val (.int x3), .val (.int x4), .val (.int (Int32.ofNat nn)), .val (.int (Int32.ofNat ea)), .val (.int (Int32.ofNat eb)), .val (.int (Int32.ofNat ec)), .val (.int (1 : Int32)), .val (.int (3 : Int32)), .val (.ref a34), .val (.int (Int32.ofNat y19)), .val (.int (en M y19)), .unset, .unset, .unset, .unset, .unset]) C at_154 rfl rfl ?_
            refine w_aload (pc' := 158) C at_156 rfl rfl rfl ?_
            refine w_iload (pc' := 160) C at_158 rfl rfl ?_
            refine w_callV (Cl := "com/example/rowan/rowan/policy/EntitySet") (pc' := 163) (argsL := [.int (Int32.ofNat y19)]) (st := []) (W := 0) (ce' := 5) (sl' := 36) C (tw hw 53 rfl) (tw hw 54 rfl) (tw hw 56 rfl) (tw hw 55 rfl) (tw hw 3 rfl) (tw hw 57 rfl) (by decide) at_160 rfl rfl (by decide) (by decide) (Nat.le_of_eq rfl) rfl rfl (by decide) (by decide) rfl (lenOf pd_1 rfl) O_a34.1 (ct_after hw h38 n0 a34 (Int32.ofNat y19) nn (adds (Int32.ofNat ec) (adds (Int32.ofNat eb) (adds (Int32.ofNat ea) ([] : List Int32)))) M (y19 + 1) hnn (Vw.1 y19 py19).1 (ofNat_succ y19) RM) (kq (fun u20 A20 => ?_))
            refine w_istore (pc' := 165) (Ls' := #[.val (.int x0), .val (.int x1), .val (.int x2), .val (.int x3), .val (.int x4), .val (.int (Int32.ofNat nn)), .val (.int (Int32.ofNat ea)), .val (.int (Int32.ofNat eb)), .val (.int (Int32.ofNat ec)), .val (.int (1 : Int32)), .val (.int (3 : Int32)), .val (.ref a34), .val (.int (Int32.ofNat y19)), .val (.int (en M y19)), .val (.int u20), .unset, .unset, .unset, .unset]) C at_163 rfl rfl ?_
            refine w_iload (pc' := 167) C at_165 rfl rfl ?_
            refine w_iconst (pc' := 168) (x := (1 : Int32)) C at_167 rfl rfl ?_
            refine w_icmp_ne (pcT := 199) (pcF := 171) C at_168 (by decide) (by decide) rfl (fun q168 => ?_) (fun q => absurd q (by decide))
            refine w_iload (pc' := 201) C at_199 rfl rfl ?_
            refine w_iconst (pc' := 202) (x := (-1 : Int32)) C at_201 rfl rfl ?_
            refine w_icmp_ne (pcT := 207) (pcF := 205) C at_202 (by decide) (by decide) rfl (fun q202_42 => ?_) (fun q202_42 => ?_)
            · skip
              obtain ⟨y20, rfl, by20, py20, cy20⟩ := A20.ex q202_42
              have Ky20 := Ky19.next by20 py20 cy20
              refine w_aload (pc' := 209) C at_207 rfl rfl rfl ?_
              refine w_iload (pc' := 211) C at_209 rfl rfl ?_
              refine w_callV (Cl := "com/example/rowan/rowan/policy/EntitySet") (pc' := 214) (argsL := [.int (Int32.ofNat y20)]) (st := []) (W := 0) (ce' := 5) (sl' := 36) C (tw hw 58 rfl) (tw hw 59 rfl) (tw hw 61 rfl) (tw hw 60 rfl) (tw hw 3 rfl) (tw hw 62 rfl) (by decide) at_211 rfl rfl (by decide) (by decide) (Nat.le_of_eq rfl) rfl rfl (by decide) (by decide) rfl (lenOf pd_1 rfl) O_a34.1 (ct_entityAt hw h38 n0 a34 nn (adds (Int32.ofNat ec) (adds (Int32.ofNat eb) (adds (Int32.ofNat ea) ([] : List Int32)))) M y20 (Vw.1 y20 py20).1 py20 RM) (kp ?_)
              refine w_istore (pc' := 216) (Ls' := #[.val (.int x0), .val (.int x1), .val (.int x2), .val (.int x3), .val (.int x4), .val (.int (Int32.ofNat nn)), .val (.int (Int32.ofNat ea)), .val (.int (Int32.ofNat eb)), .val (.int (Int32.ofNat ec)), .val (.int (1 : Int32)), .val (.int (3 : Int32)), .val (.ref a34), .val (.int (Int32.ofNat y19)), .val (.int (en M y19)), .val (.int (Int32.ofNat y20)), .val (.int (en M y20)), .unset, .unset, .unset]) C at_214 rfl rfl ?_
              refine w_aload (pc' := 218) C at_216 rfl rfl rfl ?_
              refine w_iload (pc' := 220) C at_218 rfl rfl ?_
              refine w_callV (Cl := "com/example/rowan/rowan/policy/EntitySet") (pc' := 223) (argsL := [.int (Int32.ofNat y20)]) (st := []) (W := 0) (ce' := 5) (sl' := 36) C (tw hw 53 rfl) (tw hw 54 rfl) (tw hw 56 rfl) (tw hw 55 rfl) (tw hw 3 rfl) (tw hw 57 rfl) (by decide) at_220 rfl rfl (by decide) (by decide) (Nat.le_of_eq rfl) rfl rfl (by decide) (by decide) rfl (lenOf pd_1 rfl) O_a34.1 (ct_after hw h38 n0 a34 (Int32.ofNat y20) nn (adds (Int32.ofNat ec) (adds (Int32.ofNat eb) (adds (Int32.ofNat ea) ([] : List Int32)))) M (y20 + 1) hnn (Vw.1 y20 py20).1 (ofNat_succ y20) RM) (kq (fun u21 A21 => ?_))
              refine w_istore (pc' := 225) (Ls' := #[.val (.int x0), .val (.int x1), .val (.int x2), .val (.int x3), .val (.int x4), .val (.int (Int32.ofNat nn)), .val (.int (Int32.ofNat ea)), .val (.int (Int32.ofNat eb)), .val (.int (Int32.ofNat ec)), .val (.int (1 : Int32)), .val (.int (3 : Int32)), .val (.ref a34), .val (.int (Int32.ofNat y19)), .val (.int (en M y19)), .val (.int (Int32.ofNat y20)), .val (.int (en M y20)), .val (.int u21), .unset, .unset]) C at_223 rfl rfl ?_
              refine w_iload (pc' := 227) C at_225 rfl rfl ?_
              refine w_iconst (pc' := 228) (x := (2 : Int32)) C at_227 rfl rfl ?_
              refine w_icmp_ne (pcT := 282) (pcF := 231) C at_228 (by decide) (by decide) rfl (fun q228 => ?_) (fun q => absurd q (by decide))
              refine w_iload (pc' := 284) C at_282 rfl rfl ?_
              refine w_iconst (pc' := 285) (x := (-1 : Int32)) C at_284 rfl rfl ?_
              refine w_icmp_ne (pcT := 290) (pcF := 288) C at_285 (by decide) (by decide) rfl (fun q285_43 => ?_) (fun q285_43 => ?_)
              · skip
                obtain ⟨y21, rfl, by21, py21, cy21⟩ := A21.ex q285_43
                have Ky21 := Ky20.next by21 py21 cy21
                refine w_aload (pc' := 292) C at_290 rfl rfl rfl ?_
                refine w_iload (pc' := 294) C at_292 rfl rfl ?_
                refine w_callV (Cl := "com/example/rowan/rowan/policy/EntitySet") (pc' := 297) (argsL := [.int (Int32.ofNat y21)]) (st := []) (W := 0) (ce' := 5) (sl' := 36) C (tw hw 58 rfl) (tw hw 59 rfl) (tw hw 61 rfl) (tw hw 60 rfl) (tw hw 3 rfl) (tw hw 62 rfl) (by decide) at_294 rfl rfl (by decide) (by decide) (Nat.le_of_eq rfl) rfl rfl (by decide) (by decide) rfl (lenOf pd_1 rfl) O_a34.1 (ct_entityAt hw h38 n0 a34 nn (adds (Int32.ofNat ec) (adds (Int32.ofNat eb) (adds (Int32.ofNat ea) ([] : List Int32)))) M y21 (Vw.1 y21 py21).1 py21 RM) (kp ?_)
                refine w_istore (pc' := 299) (Ls' := #[.val (.int x0), .val (.int x1), .val (.int x2), .val (.int x3), .val (.int x4), .val (.int (Int32.ofNat nn)), .val (.int (Int32.ofNat ea)), .val (.int (Int32.ofNat eb)), .val (.int (Int32.ofNat ec)), .val (.int (1 : Int32)), .val (.int (3 : Int32)), .val (.ref a34), .val (.int (Int32.ofNat y19)), .val (.int (en M y19)), .val (.int (Int32.ofNat y20)), .val (.int (en M y20)), .val (.int (Int32.ofNat y21)), .val (.int (en M y21)), .unset]) C at_297 rfl rfl ?_
                refine w_aload (pc' := 301) C at_299 rfl rfl rfl ?_
                refine w_iload (pc' := 303) C at_301 rfl rfl ?_
                refine w_callV (Cl := "com/example/rowan/rowan/policy/EntitySet") (pc' := 306) (argsL := [.int (Int32.ofNat y21)]) (st := []) (W := 0) (ce' := 5) (sl' := 36) C (tw hw 53 rfl) (tw hw 54 rfl) (tw hw 56 rfl) (tw hw 55 rfl) (tw hw 3 rfl) (tw hw 57 rfl) (by decide) at_303 rfl rfl (by decide) (by decide) (Nat.le_of_eq rfl) rfl rfl (by decide) (by decide) rfl (lenOf pd_1 rfl) O_a34.1 (ct_after hw h38 n0 a34 (Int32.ofNat y21) nn (adds (Int32.ofNat ec) (adds (Int32.ofNat eb) (adds (Int32.ofNat ea) ([] : List Int32)))) M (y21 + 1) hnn (Vw.1 y21 py21).1 (ofNat_succ y21) RM) (kq (fun u22 A22 => ?_))
                refine w_istore (pc' := 308) (Ls' := #[.val (.int x0), .val (.int x1), .val (.int x2), .val (.int x3), .val (.int x4), .val (.int (Int32.ofNat nn)), .val (.int (Int32.ofNat ea)), .val (.int (Int32.ofNat eb)), .val (.int (Int32.ofNat ec)), .val (.int (1 : Int32)), .val (.int (3 : Int32)), .val (.ref a34), .val (.int (Int32.ofNat y19)), .val (.int (en M y19)), .val (.int (Int32.ofNat y20)), .val (.int (en M y20)), .val (.int (Int32.ofNat y21)), .val (.int (en M y21)), .val (.int u22)]) C at_306 rfl rfl ?_
                refine w_iload (pc' := 310) C at_308 rfl rfl ?_
                refine w_iconst (pc' := 311) (x := (-1 : Int32)) C at_310 rfl rfl ?_
                refine w_icmp_ne (pcT := 387) (pcF := 314) C at_311 (by decide) (by decide) rfl (fun q311_44 => ?_) (fun q311_44 => ?_)
                · skip
                  have lx : (adds (Int32.ofNat ec) (adds (Int32.ofNat eb) (adds (Int32.ofNat ea) ([] : List Int32)))).length = 3 := by simp [adds, q57_12, q75_27, q82_34]
                  exact absurd (Ky21.none Vw (by rw [lx]; rfl) A22) q311_44
                · skip
                  refine w_iload (pc' := 316) C at_314 rfl rfl ?_
                  refine w_iload (pc' := 318) C at_316 rfl rfl ?_
                  refine w_icmp_eq (pcT := 387) (pcF := 321) C at_318 (by decide) (by decide) rfl (fun q318_45 => ?_) (fun q318_45 => ?_)
                  · skip
                    have lx : (adds (Int32.ofNat ec) (adds (Int32.ofNat eb) (adds (Int32.ofNat ea) ([] : List Int32)))).length = 3 := by simp [adds, q57_12, q75_27, q82_34]
                    exact absurd q318_45 (en_ne Vw py19 py20 by20)
                  · skip
                    refine w_iload (pc' := 323) C at_321 rfl rfl ?_
                    refine w_iload (pc' := 325) C at_323 rfl rfl ?_
                    refine w_icmp_eq (pcT := 387) (pcF := 328) C at_325 (by decide) (by decide) rfl (fun q325_46 => ?_) (fun q325_46 => ?_)
                    · skip
                      have lx : (adds (Int32.ofNat ec) (adds (Int32.ofNat eb) (adds (Int32.ofNat ea) ([] : List Int32)))).length = 3 := by simp [adds, q57_12, q75_27, q82_34]
                      exact absurd q325_46 (en_ne Vw py19 py21 (by omega))
                    · skip
                      refine w_iload (pc' := 330) C at_328 rfl rfl ?_
                      refine w_iload (pc' := 332) C at_330 rfl rfl ?_
                      refine w_icmp_eq (pcT := 387) (pcF := 335) C at_332 (by decide) (by decide) rfl (fun q332_47 => ?_) (fun q332_47 => ?_)
                      · skip
                        have lx : (adds (Int32.ofNat ec) (adds (Int32.ofNat eb) (adds (Int32.ofNat ea) ([] : List Int32)))).length = 3 := by simp [adds, q57_12, q75_27, q82_34]
                        exact absurd q332_47 (en_ne Vw py20 py21 by21)
                      · skip
                        refine w_iload (pc' := 337) C at_335 rfl rfl ?_
                        refine w_iload (pc' := 339) C at_337 rfl rfl ?_
                        refine w_iload (pc' := 341) C at_339 rfl rfl ?_
                        refine w_iload (pc' := 343) C at_341 rfl rfl ?_
                        refine w_iload (pc' := 345) C at_343 rfl rfl ?_
                        refine w_callS (pc' := 348) (argsL := [.int (en M y19), .int (Int32.ofNat ea), .int (Int32.ofNat eb), .int (Int32.ofNat ec), .int (1 : Int32)]) (st := []) (W := 0) (ce' := 5) (sl' := 36) C (tw hw 63 rfl) (tw hw 64 rfl) (tw hw 65 rfl) (tw hw 66 rfl) (by decide) at_345 rfl rfl (by decide) (by decide) (Nat.le_of_eq rfl) rfl rfl (by decide) (by decide) rfl (lenOf pd_8 rfl) (ct_inD hw h38 n0 (en M y19) (Int32.ofNat ea) (Int32.ofNat eb) (Int32.ofNat ec) (1 : Int32)) (kp ?_)
                        refine w_if_eq (pcT := 387) (pcF := 351) C at_348 (by decide) (by decide) rfl (fun q348_48 => ?_) (fun q348_48 => ?_)
                        · skip
                          have lx : (adds (Int32.ofNat ec) (adds (Int32.ofNat eb) (adds (Int32.ofNat ea) ([] : List Int32)))).length = 3 := by simp [adds, q57_12, q75_27, q82_34]
                          exact absurd q348_48 (inD_ok (mem3 (Vw.1 y19 py19).2))
                        · skip
                          refine w_iload (pc' := 353) C at_351 rfl rfl ?_
                          refine w_iload (pc' := 355) C at_353 rfl rfl ?_
                          refine w_iload (pc' := 357) C at_355 rfl rfl ?_
                          refine w_iload (pc' := 359) C at_357 rfl rfl ?_
                          refine w_iload (pc' := 361) C at_359 rfl rfl ?_
                          refine w_callS (pc' := 364) (argsL := [.int (en M y20), .int (Int32.ofNat ea), .int (Int32.ofNat eb), .int (Int32.ofNat ec), .int (1 : Int32)]) (st := []) (W := 0) (ce' := 5) (sl' := 36) C (tw hw 63 rfl) (tw hw 64 rfl) (tw hw 65 rfl) (tw hw 66 rfl) (by decide) at_361 rfl rfl (by decide) (by decide) (Nat.le_of_eq rfl) rfl rfl (by decide) (by decide) rfl (lenOf pd_8 rfl) (ct_inD hw h38 n0 (en M y20) (Int32.ofNat ea) (Int32.ofNat eb) (Int32.ofNat ec) (1 : Int32)) (kp ?_)
                          refine w_if_eq (pcT := 387) (pcF := 367) C at_364 (by decide) (by decide) rfl (fun q364_49 => ?_) (fun q364_49 => ?_)
                          · skip
                            have lx : (adds (Int32.ofNat ec) (adds (Int32.ofNat eb) (adds (Int32.ofNat ea) ([] : List Int32)))).length = 3 := by simp [adds, q57_12, q75_27, q82_34]
                            exact absurd q364_49 (inD_ok (mem3 (Vw.1 y20 py20).2))
                          · skip
                            refine w_iload (pc' := 369) C at_367 rfl rfl ?_
                            refine w_iload (pc' := 371) C at_369 rfl rfl ?_
                            refine w_iload (pc' := 373) C at_371 rfl rfl ?_
                            refine w_iload (pc' := 375) C at_373 rfl rfl ?_
                            refine w_iload (pc' := 377) C at_375 rfl rfl ?_
                            refine w_callS (pc' := 380) (argsL := [.int (en M y21), .int (Int32.ofNat ea), .int (Int32.ofNat eb), .int (Int32.ofNat ec), .int (1 : Int32)]) (st := []) (W := 0) (ce' := 5) (sl' := 36) C (tw hw 63 rfl) (tw hw 64 rfl) (tw hw 65 rfl) (tw hw 66 rfl) (by decide) at_377 rfl rfl (by decide) (by decide) (Nat.le_of_eq rfl) rfl rfl (by decide) (by decide) rfl (lenOf pd_8 rfl) (ct_inD hw h38 n0 (en M y21) (Int32.ofNat ea) (Int32.ofNat eb) (Int32.ofNat ec) (1 : Int32)) (kp ?_)
                            refine w_if_eq (pcT := 387) (pcF := 383) C at_380 (by decide) (by decide) rfl (fun q380_50 => ?_) (fun q380_50 => ?_)
                            · skip
                              have lx : (adds (Int32.ofNat ec) (adds (Int32.ofNat eb) (adds (Int32.ofNat ea) ([] : List Int32)))).length = 3 := by simp [adds, q57_12, q75_27, q82_34]
                              exact absurd q380_50 (inD_ok (mem3 (Vw.1 y21 py21).2))
                            · skip
                              refine w_iconst (pc' := 384) (x := (1 : Int32)) C at_383 rfl rfl ?_
                              refine w_goto (pc' := 388) C at_384 (by decide) (by decide) ?_
                              refine w_retN' (t := .boolean) (z' := (1 : Int32)) C rfl (by simp) at_388 (by decide) (by decide) narB1 ?_
                              rfl
              · skip
                have lx : (adds (Int32.ofNat ec) (adds (Int32.ofNat eb) (adds (Int32.ofNat ea) ([] : List Int32)))).length = 3 := by simp [adds, q57_12, q75_27, q82_34]
                exact absurd q285_43 (Ky20.more Vw X38 (by rw [lx]; simp) A21)
            · skip
              have lx : (adds (Int32.ofNat ec) (adds (Int32.ofNat eb) (adds (Int32.ofNat ea) ([] : List Int32)))).length = 3 := by simp [adds, q57_12, q75_27, q82_34]
              exact absurd q202_42 (Ky19.more Vw X38 (by rw [lx]; simp) A20)
          · skip
            have lx : (adds (Int32.ofNat ec) (adds (Int32.ofNat eb) (adds (Int32.ofNat ea) ([] : List Int32)))).length = 3 := by simp [adds, q57_12, q75_27, q82_34]
            exact absurd q142_41 (K0.more Vw X38 (by rw [lx]; simp) A19)
theorem q_law {v : Option Value} (q : v = some (.int 1)) : v = some (.int 1) := q
set_option maxRecDepth 65536 in
set_option maxHeartbeats 40000000 in
theorem comes_1 {Post : Tables → Env → Array Value → State → Outcome → State → Prop} (hpost : ∀ tb e args s v u, (limb_1_1.after args s (.returned v) u = true ∧ limb_1_2.after args s (.returned v) u = true ∧ True) → FrameEnd s (.returned v) u (Jvm.fieldLocs frame_1_writes args s ++ Jvm.arrayLocs frame_1_arrays args s ++ Jvm.staticLocs frame_1_statics s) 16 128 → Post tb e args s (.returned v) u) :
    ArmFor flags0 classFile x code maxLocals ret World_1 tables_1 room_1 Calls_1 rest_1 Pre_1 Post := by
  intro l hfl _ _ p e ha hc hk s m args below hf hA hF happ hP
  obtain ⟨hcalls, hrest, hpre⟩ := hP
  obtain ⟨-, -, -, hnamed, -, -, -, hat⟩ := (Spec.applies_iff hf).mp happ
  obtain ⟨hg, hn⟩ := and_e (Cond.before_iff.mp (show (Jvm.Cond.and given_1 narrow_1).before args s = true from hpre))
  obtain ⟨h1, hr0⟩ := and_e hg
  obtain ⟨w0, w1, w2, w3, w4, rfl⟩ : ∃ w0 w1 w2 w3 w4 : Value, args = #[w0, w1, w2, w3, w4] := by
    have hs : args.size = 5 := by simpa [Cond.value, given_1] using h1
    obtain ⟨L⟩ := args
    match L, hs with
    | [w0, w1, w2, w3, w4], _ => exact ⟨w0, w1, w2, w3, w4, rfl⟩
  have hw := fun d (hd : d ∈ tables_1) => atoms_spec (ws := Jvm.Cond.code x code maxLocals ret :: tables_1) hat d (List.mem_cons_of_mem _ hd)
  obtain ⟨hi0, hr1⟩ := and_e hr0
  obtain ⟨i0, e0⟩ := is_v hi0
  obtain rfl : w0 = (.int i0) := Option.some.inj e0
  obtain ⟨hi1, hr2⟩ := and_e hr1
  obtain ⟨i1, e1⟩ := is_v hi1
  obtain rfl : w1 = (.int i1) := Option.some.inj e1
  obtain ⟨hi2, hr3⟩ := and_e hr2
  obtain ⟨i2, e2⟩ := is_v hi2
  obtain rfl : w2 = (.int i2) := Option.some.inj e2
  obtain ⟨hi3, hr4⟩ := and_e hr3
  obtain ⟨i3, e3⟩ := is_v hi3
  obtain rfl : w3 = (.int i3) := Option.some.inj e3
  have hi4 := hr4
  obtain ⟨i4, e4⟩ := is_v hi4
  obtain rfl : w4 = (.int i4) := Option.some.inj e4
  obtain ⟨n, o, h1, h2, h3, _, L, rfl, ⟨q, N⟩, hq⟩ := ct_law (l := l) (Z := s) (a0 := _) hw tables_1 s.heap s.heap.size i0 i1 i2 i3 i4 (Nat.le_refl _) p e ha hc hk s m _ below hf ((Spec.applies_iff_loose hf).mp happ).1 ⟨rfl, State.Warmed39.refl s, rfl⟩ trivial
  have q1 := q_law q
  subst q1
  refine ⟨n, _, h1, h2, h3, hpost _ _ _ _ _ _ ⟨Cond.after_iff.mpr rfl, Cond.after_iff.mpr (eq_i res_at (Term.int_eval (1)) rfl), trivial⟩ ⟨hq.1, hq.2.1, (hq.2.2.sift fun y hy => Or.inr (N y hy)).mono (by decide) (by decide)⟩⟩
theorem main_1_1 : Claimed_1_1 := comes_1 fun _ _ _ _ _ _ h hF => ⟨h.1, hF⟩
theorem main_1_2 : Claimed_1_2 := comes_1 fun _ _ _ _ _ _ h hF => ⟨h.2.1, hF⟩
end Jvm.Pilot.@@N@@
namespace Jvm.Pilot.@@N@@
open Jvm Jvm.ClassFile Sem Op Lib Jvm.Free Jvm.Stand Jvm.Pilot.@@N@@.Jvm.D
/-! MADE BY PROGRAM (witnessworld.py) out of the Statement's table words and the real class files: 18 classes; the members and pool entries that the words name. The judged class is class 1, her method 2. -/
namespace start1
open Jvm.ClassFile
def u (s : String) : CpInfo := .utf8 (stringToUtf16 s)
/-- a pool by its gaps: so many unusable entries, then the entry; so many at the end -/
def gap : Nat → List CpInfo → List CpInfo
  | 0, r => r
  | n + 1, r => .unusable :: gap n r
def poolList (es : List (Nat × CpInfo)) (last : Nat) : List CpInfo := es.foldr (fun e r => gap e.1 (e.2 :: r)) (gap last [])
def pool (es : List (Nat × CpInfo)) (last : Nat) : Array CpInfo := ⟨poolList es last⟩
def fileOf (pool : Array CpInfo) (this : Nat) (attrs : Array Attribute := #[]) (ms : Array MethodInfo := #[]) (fl : Nat := 33) (sup : Nat := 0) (ifs : Array Nat := #[]) (fds : Array FieldInfo := #[]) : ClassFile where
  minorVersion := 0
  majorVersion := 65
  constantPool := pool
  accessFlags := fl
  thisClass := this
  superClass := sup
  interfaces := ifs
  fields := fds
  methods := ms
  attributes := attrs
def plain (name : String) (sup : Option ClassId) : Class where
  name := name
  kind := .ordinary
  loader := none
  accessFlags := 33
  super := sup
  interfaces := #[]
  cf := none
  fields := #[]
  methods := #[]
  instanceTypes := #[]
  staticTypes := #[]
  resolved := #[]
  callSites := []
  init := .initialized
  statics := none
  mirror := none

def pool0 : Array CpInfo := pool [(5, u "<init>"), (0, u "()V"), (1, .class_ 10), (1, u "java/lang/Object")] 113

def k0c0 : Code := { maxStack := 0, maxLocals := 1, code := object_method_1_code, exceptionTable := #[], attributes := #[] }
def k0m0 : Method := { name := "<init>", desc := "()V", sig := { parameters := [], returnType := none }, accessFlags := 1, code := some k0c0 }
/-- java/lang/Object -/
def k0 : Class := { plain "java/lang/Object" none with
  accessFlags := 33
  interfaces := #[]
  cf := some (fileOf pool0 8 #[] #[{ accessFlags := 1, nameIndex := 5, descriptorIndex := 6, attributes := #[] }] 33 0 #[] #[])
  fields := #[]
  methods := #[k0m0]
  instanceTypes := #[]
  staticTypes := #[]
  resolved := Array.replicate 124 none
  statics := none }

def pool1 : Array CpInfo := pool [(2, .class_ 4), (1, u "java/lang/Object"), (0, u "<init>"), (0, u "()V"), (0, .integer 2147483647), (0, .class_ 9), (0, u "com/example/rowan/rowan/policy/EntitySet"), (0, .methodref 8 11), (0, .nameAndType 5 12), (0, u "(I)V"), (0, .methodref 8 14), (0, .nameAndType 15 16), (0, u "add"), (0, u "(I)Z"), (0, .methodref 8 18), (0, .nameAndType 19 20), (0, u "after"), (0, u "(I)I"), (0, .methodref 8 22), (0, .nameAndType 23 20), (0, u "entityAt"), (0, .methodref 25 26), (0, .class_ 27), (0, .nameAndType 28 29), (0, u "com/example/rowan/rowan/policy/EntitySetEntityAtPinLaw"), (0, u "inD"), (0, u "(IIIIZ)Z"), (3, u "law"), (0, u "(IIIII)Z")] 2

def k1m0 : Method := { name := "<init>", desc := "()V", sig := { parameters := [], returnType := none }, accessFlags := 1, code := none }
def k1c1 : Code := { maxStack := 2, maxLocals := 5, code := method_2_code, exceptionTable := #[], attributes := #[] }
def k1m1 : Method := { name := "inD", desc := "(IIIIZ)Z", sig := { parameters := [.int, .int, .int, .int, .boolean], returnType := some .boolean }, accessFlags := 10, code := some k1c1 }
def k1c2 : Code := { maxStack := 5, maxLocals := 19, code := code, exceptionTable := #[], attributes := #[] }
def k1m2 : Method := { name := "law", desc := "(IIIII)Z", sig := { parameters := [.int, .int, .int, .int, .int], returnType := some .boolean }, accessFlags := 9, code := some k1c2 }
/-- com/example/rowan/rowan/policy/EntitySetEntityAtPinLaw -/
def k1 : Class := { plain "com/example/rowan/rowan/policy/EntitySetEntityAtPinLaw" (some 0) with
  accessFlags := 49
  interfaces := #[]
  cf := some (fileOf pool1 25 #[] #[{ accessFlags := 1, nameIndex := 5, descriptorIndex := 6, attributes := #[] }, { accessFlags := 10, nameIndex := 28, descriptorIndex := 29, attributes := #[] }, { accessFlags := 9, nameIndex := 33, descriptorIndex := 34, attributes := #[] }] 49 2 #[] #[])
  fields := #[]
  methods := #[k1m0, k1m1, k1m2]
  instanceTypes := #[]
  staticTypes := #[]
  resolved := Array.replicate 37 none
  statics := none }

def pool2 : Array CpInfo := pool [(1, .methodref 2 3), (0, .class_ 4), (0, .nameAndType 5 6), (0, u "java/lang/Object"), (0, u "<init>"), (0, u "()V"), (0, .fieldref 8 9), (0, .class_ 10), (0, .nameAndType 11 12), (0, u "com/example/rowan/rowan/policy/EntitySet"), (0, u "entities"), (0, u "I"), (0, .methodref 8 14), (0, .nameAndType 15 16), (0, u "mostSlots"), (0, u "()I"), (0, .methodref 8 18), (0, .nameAndType 19 16), (0, u "wordCount"), (0, .fieldref 8 21), (0, .nameAndType 22 23), (0, u "words"), (0, u "[J"), (0, .methodref 8 25), (0, .nameAndType 26 27), (0, u "freeSlots"), (0, u "(I)[I"), (0, .fieldref 8 29), (0, .nameAndType 30 31), (0, u "slots"), (0, u "[I"), (7, .fieldref 8 40), (0, .nameAndType 41 12), (0, u "size"), (1, .class_ 45), (1, u "java/util/Arrays"), (2, .class_ 49), (0, u "java/lang/Long"), (0, .methodref 8 51), (0, .nameAndType 52 53), (0, u "slotOf"), (0, u "(I)I"), (0, .methodref 8 55), (0, .nameAndType 56 6), (0, u "grow"), (0, .methodref 8 58), (0, .nameAndType 59 60), (0, u "add"), (0, u "(I)Z"), (0, .long 18446744073709551615), (1, .methodref 8 64), (0, .nameAndType 65 53), (0, u "home"), (5, u "after"), (2, u "entityAt"), (10, .methodref 48 86), (0, .nameAndType 87 88), (0, u "numberOfTrailingZeros"), (0, u "(J)I"), (3, .integer 2654435769), (0, .methodref 94 95), (0, .class_ 96), (0, .nameAndType 97 53), (0, u "java/lang/Integer"), (0, u "numberOfLeadingZeros"), (3, .methodref 43 102), (0, .nameAndType 103 104), (0, u "fill"), (0, u "([II)V"), (0, u "FEWEST_SLOTS"), (2, u "FREE"), (1, u "SPREAD"), (0, u "END"), (0, u "(I)V")] 14

def k2c0 : Code := { maxStack := 2, maxLocals := 2, code := prog_51_method_1_code, exceptionTable := #[], attributes := #[] }
def k2m0 : Method := { name := "<init>", desc := "(I)V", sig := { parameters := [.int], returnType := none }, accessFlags := 0, code := some k2c0 }
def k2c1 : Code := { maxStack := 6, maxLocals := 5, code := prog_51_method_5_code, exceptionTable := #[], attributes := #[] }
def k2m1 : Method := { name := "add", desc := "(I)Z", sig := { parameters := [.int], returnType := some .boolean }, accessFlags := 0, code := some k2c1 }
def k2c2 : Code := { maxStack := 5, maxLocals := 6, code := prog_51_method_13_code, exceptionTable := #[], attributes := #[] }
def k2m2 : Method := { name := "after", desc := "(I)I", sig := { parameters := [.int], returnType := some .int }, accessFlags := 0, code := some k2c2 }
def k2c3 : Code := { maxStack := 2, maxLocals := 2, code := prog_51_method_14_code, exceptionTable := #[], attributes := #[] }
def k2m3 : Method := { name := "entityAt", desc := "(I)I", sig := { parameters := [.int], returnType := some .int }, accessFlags := 0, code := some k2c3 }
def k2c4 : Code := { maxStack := 2, maxLocals := 4, code := prog_51_method_17_code, exceptionTable := #[], attributes := #[] }
def k2m4 : Method := { name := "slotOf", desc := "(I)I", sig := { parameters := [.int], returnType := some .int }, accessFlags := 2, code := some k2c4 }
def k2c5 : Code := { maxStack := 3, maxLocals := 2, code := prog_51_method_18_code, exceptionTable := #[], attributes := #[] }
def k2m5 : Method := { name := "home", desc := "(I)I", sig := { parameters := [.int], returnType := some .int }, accessFlags := 2, code := some k2c5 }
def k2c6 : Code := { maxStack := 7, maxLocals := 6, code := prog_51_method_19_code, exceptionTable := #[], attributes := #[] }
def k2m6 : Method := { name := "grow", desc := "()V", sig := { parameters := [], returnType := none }, accessFlags := 2, code := some k2c6 }
def k2c7 : Code := { maxStack := 2, maxLocals := 1, code := prog_51_method_21_code, exceptionTable := #[], attributes := #[] }
def k2m7 : Method := { name := "wordCount", desc := "()I", sig := { parameters := [], returnType := some .int }, accessFlags := 2, code := some k2c7 }
def k2c8 : Code := { maxStack := 2, maxLocals := 1, code := prog_51_method_22_code, exceptionTable := #[], attributes := #[] }
def k2m8 : Method := { name := "mostSlots", desc := "()I", sig := { parameters := [], returnType := some .int }, accessFlags := 2, code := some k2c8 }
def k2c9 : Code := { maxStack := 2, maxLocals := 2, code := prog_51_method_23_code, exceptionTable := #[], attributes := #[] }
def k2m9 : Method := { name := "freeSlots", desc := "(I)[I", sig := { parameters := [.int], returnType := some (.array .int) }, accessFlags := 10, code := some k2c9 }
/-- com/example/rowan/rowan/policy/EntitySet -/
def k2 : Class := { plain "com/example/rowan/rowan/policy/EntitySet" (some 0) with
  accessFlags := 48
  interfaces := #[]
  cf := some (fileOf pool2 8 #[] #[{ accessFlags := 0, nameIndex := 5, descriptorIndex := 112, attributes := #[] }, { accessFlags := 0, nameIndex := 59, descriptorIndex := 60, attributes := #[] }, { accessFlags := 0, nameIndex := 71, descriptorIndex := 53, attributes := #[] }, { accessFlags := 0, nameIndex := 74, descriptorIndex := 53, attributes := #[] }, { accessFlags := 2, nameIndex := 52, descriptorIndex := 53, attributes := #[] }, { accessFlags := 2, nameIndex := 65, descriptorIndex := 53, attributes := #[] }, { accessFlags := 2, nameIndex := 56, descriptorIndex := 6, attributes := #[] }, { accessFlags := 2, nameIndex := 19, descriptorIndex := 16, attributes := #[] }, { accessFlags := 2, nameIndex := 15, descriptorIndex := 16, attributes := #[] }, { accessFlags := 10, nameIndex := 26, descriptorIndex := 27, attributes := #[] }] 48 2 #[] #[{ accessFlags := 26, nameIndex := 105, descriptorIndex := 12, attributes := #[] }, { accessFlags := 26, nameIndex := 108, descriptorIndex := 12, attributes := #[] }, { accessFlags := 26, nameIndex := 110, descriptorIndex := 12, attributes := #[] }, { accessFlags := 24, nameIndex := 111, descriptorIndex := 12, attributes := #[] }, { accessFlags := 2, nameIndex := 11, descriptorIndex := 12, attributes := #[] }, { accessFlags := 2, nameIndex := 30, descriptorIndex := 31, attributes := #[] }, { accessFlags := 2, nameIndex := 22, descriptorIndex := 23, attributes := #[] }, { accessFlags := 2, nameIndex := 41, descriptorIndex := 12, attributes := #[] }])
  fields := #[{ name := "FEWEST_SLOTS", type := .int, accessFlags := 26, slot := 0, constantValue := 0 }, { name := "FREE", type := .int, accessFlags := 26, slot := 1, constantValue := 0 }, { name := "SPREAD", type := .int, accessFlags := 26, slot := 2, constantValue := 0 }, { name := "END", type := .int, accessFlags := 24, slot := 3, constantValue := 0 }, { name := "entities", type := .int, accessFlags := 2, slot := 0, constantValue := 0 }, { name := "slots", type := (.array .int), accessFlags := 2, slot := 1, constantValue := 0 }, { name := "words", type := (.array .long), accessFlags := 2, slot := 2, constantValue := 0 }, { name := "size", type := .int, accessFlags := 2, slot := 3, constantValue := 0 }]
  methods := #[k2m0, k2m1, k2m2, k2m3, k2m4, k2m5, k2m6, k2m7, k2m8, k2m9]
  instanceTypes := #[.int, (.array .int), (.array .long), .int]
  staticTypes := #[.int, .int, .int, .int]
  resolved := Array.replicate 127 none
  statics := none }

def pool3 : Array CpInfo := pool [(2, .class_ 4), (1, u "java/lang/Object"), (0, u "<init>"), (0, u "()V"), (7, .class_ 16), (1, u "java/util/Arrays"), (57, .class_ 76), (1, u "java/util/Arrays$NaturalOrder"), (36, .class_ 115), (1, u "java/util/Arrays$LegacyMergeSort"), (1, u "Z"), (257, .class_ 376), (0, u "java/util/Arrays$ArrayList"), (68, u "$assertionsDisabled"), (269, u "MIN_ARRAY_SORT_GRAN"), (0, u "I"), (2, u "INSERTIONSORT_THRESHOLD"), (120, u "fill"), (4, u "([II)V"), (129, .class_ 976), (0, u "java/util/Arrays$ArrayItr")] 52

def k3m0 : Method := { name := "<init>", desc := "()V", sig := { parameters := [], returnType := none }, accessFlags := 2, code := none }
def k3c1 : Code := { maxStack := 3, maxLocals := 4, code := jdk_65_method_103_code, exceptionTable := #[], attributes := #[] }
def k3m1 : Method := { name := "fill", desc := "([II)V", sig := { parameters := [(.array .int), .int], returnType := none }, accessFlags := 9, code := some k3c1 }
/-- java/util/Arrays -/
def k3 : Class := { plain "java/util/Arrays" (some 0) with
  accessFlags := 49
  interfaces := #[]
  cf := some (fileOf pool3 14 #[.nestMembers #[975, 375, 113, 74]] #[{ accessFlags := 2, nameIndex := 5, descriptorIndex := 6, attributes := #[] }, { accessFlags := 9, nameIndex := 840, descriptorIndex := 845, attributes := #[] }] 49 2 #[] #[{ accessFlags := 26, nameIndex := 715, descriptorIndex := 716, attributes := #[] }, { accessFlags := 26, nameIndex := 719, descriptorIndex := 716, attributes := #[] }, { accessFlags := 4120, nameIndex := 445, descriptorIndex := 117, attributes := #[] }])
  fields := #[{ name := "MIN_ARRAY_SORT_GRAN", type := .int, accessFlags := 26, slot := 0, constantValue := 0 }, { name := "INSERTIONSORT_THRESHOLD", type := .int, accessFlags := 26, slot := 1, constantValue := 0 }, { name := "$assertionsDisabled", type := .boolean, accessFlags := 4120, slot := 2, constantValue := 0 }]
  methods := #[k3m0, k3m1]
  instanceTypes := #[]
  staticTypes := #[.int, .int, .boolean]
  resolved := Array.replicate 1029 none
  statics := none }

def pool4 : Array CpInfo := pool [(1, .class_ 2), (0, u "java/io/Serializable"), (0, .class_ 4), (0, u "java/lang/Object")] 2

/-- java/io/Serializable -/
def k4 : Class := { plain "java/io/Serializable" (some 0) with
  accessFlags := 1537
  interfaces := #[]
  cf := some (fileOf pool4 1 #[] #[] 1537 3 #[] #[])
  fields := #[]
  methods := #[]
  instanceTypes := #[]
  staticTypes := #[]
  resolved := Array.replicate 7 none
  statics := none }

def pool5 : Array CpInfo := pool [(2, .class_ 4), (1, u "java/lang/Object"), (0, u "<init>"), (0, u "()V"), (1, .class_ 10), (1, u "java/lang/Number"), (2, .class_ 14), (0, u "java/io/Serializable"), (0, u "serialVersionUID"), (0, u "J")] 20

def k5m0 : Method := { name := "<init>", desc := "()V", sig := { parameters := [], returnType := none }, accessFlags := 1, code := none }
/-- java/lang/Number -/
def k5 : Class := { plain "java/lang/Number" (some 0) with
  accessFlags := 1057
  interfaces := #[4]
  cf := some (fileOf pool5 8 #[] #[{ accessFlags := 1, nameIndex := 5, descriptorIndex := 6, attributes := #[] }] 1057 2 #[13] #[{ accessFlags := 26, nameIndex := 15, descriptorIndex := 16, attributes := #[] }])
  fields := #[{ name := "serialVersionUID", type := .long, accessFlags := 26, slot := 0, constantValue := 0 }]
  methods := #[k5m0]
  instanceTypes := #[]
  staticTypes := #[.long]
  resolved := Array.replicate 37 none
  statics := none }

def pool6 : Array CpInfo := pool [(1, .class_ 2), (0, u "java/lang/Comparable"), (0, .class_ 4), (0, u "java/lang/Object")] 7

/-- java/lang/Comparable -/
def k6 : Class := { plain "java/lang/Comparable" (some 0) with
  accessFlags := 1537
  interfaces := #[]
  cf := some (fileOf pool6 1 #[] #[] 1537 3 #[] #[])
  fields := #[]
  methods := #[]
  instanceTypes := #[]
  staticTypes := #[]
  resolved := Array.replicate 12 none
  statics := none }

def pool7 : Array CpInfo := pool [(1, .class_ 2), (0, u "java/lang/constant/Constable"), (0, .class_ 4), (0, u "java/lang/Object")] 6

/-- java/lang/constant/Constable -/
def k7 : Class := { plain "java/lang/constant/Constable" (some 0) with
  accessFlags := 1537
  interfaces := #[]
  cf := some (fileOf pool7 1 #[] #[] 1537 3 #[] #[])
  fields := #[]
  methods := #[]
  instanceTypes := #[]
  staticTypes := #[]
  resolved := Array.replicate 11 none
  statics := none }

def pool8 : Array CpInfo := pool [(1, .class_ 2), (0, u "java/lang/constant/ConstantDesc"), (0, .class_ 4), (0, u "java/lang/Object")] 32

/-- java/lang/constant/ConstantDesc -/
def k8 : Class := { plain "java/lang/constant/ConstantDesc" (some 0) with
  accessFlags := 1537
  interfaces := #[]
  cf := some (fileOf pool8 1 #[] #[] 1537 3 #[] #[])
  fields := #[]
  methods := #[]
  instanceTypes := #[]
  staticTypes := #[]
  resolved := Array.replicate 37 none
  statics := none }

def pool9 : Array CpInfo := pool [(1, .class_ 2), (0, u "java/lang/Integer"), (16, u "digits"), (0, u "[C"), (32, u "numberOfLeadingZeros"), (0, u "(I)I"), (30, u "DigitOnes"), (0, u "[B"), (2, u "DigitTens"), (99, .class_ 190), (0, u "java/lang/Integer$IntegerCache"), (3, u "I"), (8, .class_ 204), (0, u "java/lang/Number"), (2, u "value"), (56, .integer 65536), (37, u "TYPE"), (0, u "Ljava/lang/Class;"), (0, .class_ 305), (0, u "java/lang/Comparable"), (0, .class_ 307), (0, u "java/lang/constant/Constable"), (0, .class_ 309), (0, u "java/lang/constant/ConstantDesc"), (0, u "MIN_VALUE"), (1, u "MAX_VALUE"), (3, u "SIZE"), (1, u "BYTES"), (1, u "serialVersionUID"), (0, u "J"), (84, u "numberOfTrailingZeros")] 46

def k9c0 : Code := { maxStack := 3, maxLocals := 2, code := jdk_33_method_47_code, exceptionTable := #[], attributes := #[] }
def k9m0 : Method := { name := "numberOfLeadingZeros", desc := "(I)I", sig := { parameters := [.int], returnType := some .int }, accessFlags := 9, code := some k9c0 }
def k9c1 : Code := { maxStack := 3, maxLocals := 2, code := jdk_33_method_48_code, exceptionTable := #[], attributes := #[] }
def k9m1 : Method := { name := "numberOfTrailingZeros", desc := "(I)I", sig := { parameters := [.int], returnType := some .int }, accessFlags := 9, code := some k9c1 }
/-- java/lang/Integer -/
def k9 : Class := { plain "java/lang/Integer" (some 5) with
  accessFlags := 49
  interfaces := #[6, 7, 8]
  cf := some (fileOf pool9 1 #[.nestMembers #[189]] #[{ accessFlags := 9, nameIndex := 53, descriptorIndex := 54, attributes := #[] }, { accessFlags := 9, nameIndex := 406, descriptorIndex := 54, attributes := #[] }] 49 203 #[304, 306, 308] #[{ accessFlags := 25, nameIndex := 310, descriptorIndex := 194, attributes := #[] }, { accessFlags := 25, nameIndex := 312, descriptorIndex := 194, attributes := #[] }, { accessFlags := 25, nameIndex := 302, descriptorIndex := 303, attributes := #[] }, { accessFlags := 24, nameIndex := 19, descriptorIndex := 20, attributes := #[] }, { accessFlags := 24, nameIndex := 89, descriptorIndex := 86, attributes := #[] }, { accessFlags := 24, nameIndex := 85, descriptorIndex := 86, attributes := #[] }, { accessFlags := 18, nameIndex := 207, descriptorIndex := 194, attributes := #[] }, { accessFlags := 25, nameIndex := 316, descriptorIndex := 194, attributes := #[] }, { accessFlags := 25, nameIndex := 318, descriptorIndex := 194, attributes := #[] }, { accessFlags := 26, nameIndex := 320, descriptorIndex := 321, attributes := #[] }])
  fields := #[{ name := "MIN_VALUE", type := .int, accessFlags := 25, slot := 0, constantValue := 0 }, { name := "MAX_VALUE", type := .int, accessFlags := 25, slot := 1, constantValue := 0 }, { name := "TYPE", type := (.object "java/lang/Class"), accessFlags := 25, slot := 2, constantValue := 0 }, { name := "digits", type := (.array .char), accessFlags := 24, slot := 3, constantValue := 0 }, { name := "DigitTens", type := (.array .byte), accessFlags := 24, slot := 4, constantValue := 0 }, { name := "DigitOnes", type := (.array .byte), accessFlags := 24, slot := 5, constantValue := 0 }, { name := "value", type := .int, accessFlags := 18, slot := 0, constantValue := 0 }, { name := "SIZE", type := .int, accessFlags := 25, slot := 6, constantValue := 0 }, { name := "BYTES", type := .int, accessFlags := 25, slot := 7, constantValue := 0 }, { name := "serialVersionUID", type := .long, accessFlags := 26, slot := 8, constantValue := 0 }]
  methods := #[k9m0, k9m1]
  instanceTypes := #[.int]
  staticTypes := #[.int, .int, (.object "java/lang/Class"), (.array .char), (.array .byte), (.array .byte), .int, .int, .long]
  resolved := Array.replicate 453 none
  statics := none }

def pool10 : Array CpInfo := pool [(1, .class_ 2), (0, u "java/lang/Long"), (15, .class_ 20), (1, u "java/lang/Integer"), (80, u "(J)I"), (133, .class_ 237), (1, u "java/lang/Long$LongCache"), (33, .class_ 272), (0, u "java/lang/Number"), (2, u "value"), (0, u "J"), (33, u "(I)I"), (0, .methodref 18 312), (0, .nameAndType 313 310), (0, u "numberOfTrailingZeros"), (47, u "TYPE"), (0, u "Ljava/lang/Class;"), (0, .class_ 364), (0, u "java/lang/Comparable"), (0, .class_ 366), (0, u "java/lang/constant/Constable"), (0, .class_ 368), (0, u "java/lang/constant/ConstantDesc"), (0, u "MIN_VALUE"), (1, u "MAX_VALUE"), (4, u "SIZE"), (0, u "I"), (1, u "BYTES"), (1, u "serialVersionUID")] 142

def k10c0 : Code := { maxStack := 4, maxLocals := 3, code := jdk_35_method_49_code, exceptionTable := #[], attributes := #[] }
def k10m0 : Method := { name := "numberOfTrailingZeros", desc := "(J)I", sig := { parameters := [.long], returnType := some .int }, accessFlags := 9, code := some k10c0 }
/-- java/lang/Long -/
def k10 : Class := { plain "java/lang/Long" (some 5) with
  accessFlags := 49
  interfaces := #[6, 7, 8]
  cf := some (fileOf pool10 1 #[.nestMembers #[235]] #[{ accessFlags := 9, nameIndex := 313, descriptorIndex := 101, attributes := #[] }] 49 271 #[363, 365, 367] #[{ accessFlags := 25, nameIndex := 369, descriptorIndex := 276, attributes := #[] }, { accessFlags := 25, nameIndex := 371, descriptorIndex := 276, attributes := #[] }, { accessFlags := 25, nameIndex := 361, descriptorIndex := 362, attributes := #[] }, { accessFlags := 18, nameIndex := 275, descriptorIndex := 276, attributes := #[] }, { accessFlags := 25, nameIndex := 376, descriptorIndex := 377, attributes := #[] }, { accessFlags := 25, nameIndex := 379, descriptorIndex := 377, attributes := #[] }, { accessFlags := 26, nameIndex := 381, descriptorIndex := 276, attributes := #[] }])
  fields := #[{ name := "MIN_VALUE", type := .long, accessFlags := 25, slot := 0, constantValue := 0 }, { name := "MAX_VALUE", type := .long, accessFlags := 25, slot := 1, constantValue := 0 }, { name := "TYPE", type := (.object "java/lang/Class"), accessFlags := 25, slot := 2, constantValue := 0 }, { name := "value", type := .long, accessFlags := 18, slot := 0, constantValue := 0 }, { name := "SIZE", type := .int, accessFlags := 25, slot := 3, constantValue := 0 }, { name := "BYTES", type := .int, accessFlags := 25, slot := 4, constantValue := 0 }, { name := "serialVersionUID", type := .long, accessFlags := 26, slot := 5, constantValue := 0 }]
  methods := #[k10m0]
  instanceTypes := #[.long]
  staticTypes := #[.long, .long, (.object "java/lang/Class"), .int, .int, .long]
  resolved := Array.replicate 524 none
  statics := none }

def pool11 : Array CpInfo := pool [(1, u "java/lang/Cloneable"), (0, .class_ 1), (0, u "java/lang/Object"), (0, .class_ 3)] 3

/-- java/lang/Cloneable -/
def k11 : Class := { plain "java/lang/Cloneable" (some 0) with
  accessFlags := 1537
  interfaces := #[]
  cf := some (fileOf pool11 2 #[] #[] 1537 4 #[] #[])
  fields := #[]
  methods := #[]
  instanceTypes := #[]
  staticTypes := #[]
  resolved := Array.replicate 8 none
  statics := none }

/-- the primitive byte -/
def k12 : Class := { plain "byte" none with kind := .primitive 'B', accessFlags := 0x411 }
/-- [B -/
def k13 : Class := { plain "[B" (some 0) with kind := .array 12 .byte, interfaces := #[11, 4], accessFlags := 1041 }

/-- the primitive int -/
def k14 : Class := { plain "int" none with kind := .primitive 'I', accessFlags := 0x411 }
/-- [I -/
def k15 : Class := { plain "[I" (some 0) with kind := .array 14 .int, interfaces := #[11, 4], accessFlags := 1041 }

/-- the primitive long -/
def k16 : Class := { plain "long" none with kind := .primitive 'J', accessFlags := 0x411 }
/-- [J -/
def k17 : Class := { plain "[J" (some 0) with kind := .array 16 .long, interfaces := #[11, 4], accessFlags := 1041 }

def heap : Heap := #[]
def classes : Array Class := #[k0, k1, k2, k3, k4, k5, k6, k7, k8, k9, k10, k11, k12, k13, k14, k15, k16, k17]
def interned : List (Array UInt16 × Addr) := []
def slotsUsed : Nat := 0
def theMethod : MethodId := ⟨1, 2⟩
def args0 : Array Value := #[.int 5, .int 6, .int 7, .int 8, .int 9]
def aboutOver (below : List Frame) : State where
  vm := { classes := classes, interned := interned.toArray }
  heap := heap
  slotsUsed := slotsUsed
  threads := #[{ frames := .invoking theMethod args0 :: below }]
def below0 : List Frame := [.native { method := ⟨0, 0⟩, args := #[] }]
def about1 : State := aboutOver below0
def p0 : Program := .bare "" "" ""
def e0 : Env := launch0.env 0 0 0
theorem w_frames : about1.frames = Frame.invoking theMethod args0 :: below0 := rfl
set_option maxRecDepth 65536 in
theorem w_args : argsFit about1.vm theMethod args0 = true := by decide +kernel
set_option maxRecDepth 65536 in
theorem w_heap : heapFits about1 = true := by decide +kernel
set_option maxRecDepth 65536 in
theorem w_runnable : about1.curStatus? = some .runnable := by decide +kernel
set_option maxRecDepth 65536 in
theorem w_alone : about1.alone = true := by decide +kernel
set_option maxRecDepth 65536 in
theorem w_named : about1.methodNamed? x = some theMethod := by decide +kernel
set_option maxRecDepth 65536 in
theorem w_hears : about1.hears theMethod below0 = true := by decide +kernel
set_option maxRecDepth 65536 in
theorem w_ripe : about1.ripe theMethod args0 below0 = true := by decide +kernel
theorem w_running : about1.status = .running := rfl
set_option maxRecDepth 65536 in
theorem w_room : about1.hasRoom e0.platform room_1 = true :=
  launch0.hasRoom_least _ room_1 (by decide +kernel) (by decide +kernel) (by decide +kernel) (by decide +kernel) (by decide +kernel) (by decide +kernel)
theorem allAtoms_all (ts : List Jvm.Cond) (a : Array Jvm.Value) (st : Jvm.State) : (allAtoms ts).before a st = ts.all (fun c => c.before a st) := by
  induction ts with
  | nil => rfl
  | cons c t ih =>
    show (Jvm.Cond.and c (allAtoms t)).before a st = _
    rw [Jvm.Cond.before_and, ih, List.all_cons]
def words1 : List Jvm.Cond := Jvm.Cond.code x code maxLocals ret :: tables_1
/-- a 'code' word, met by the world's own term for the bytes: nothing is compared byte by byte -/
theorem code_word {y : MethodName} {bytes : ByteArray} {mx : Nat} {rt : Option FieldType} {a : Array Value} {s : State} {m : MethodId} {meth : Method} {c : Code} (h1 : s.methodNamed? y = some m) (h2 : s.vm.method? m = some meth) (h3 : meth.code = some c) (h4 : c.code = bytes)
    (h5 : (c.maxLocals == mx && c.exceptionTable.isEmpty && decide (c.maxStack ≤ mostOperands) && decide (meth.sig.returnType = rt) && !meth.locks && decide (parseMethodDescriptor y.desc = some meth.sig)) = true) : (Jvm.Cond.code y bytes mx rt).before a s = true := by
  simp only [Bool.and_eq_true, beq_iff_eq, Bool.not_eq_true', decide_eq_true_eq] at h5
  obtain ⟨⟨⟨⟨⟨g1, g2⟩, g3⟩, g4⟩, g5⟩, g6⟩ := h5
  simp [Cond.before, Cond.holds, Cond.value, h1, h2, h3, h4, g1, g2, g3, g4, g5, g6]
def isCode : Jvm.Cond → Bool
  | .code _ _ _ _ => true
  | _ => false
theorem all_split {L : List Jvm.Cond} {P : Jvm.Cond → Bool} (h1 : L.all (fun c => isCode c || P c) = true) (h2 : ∀ c ∈ L.filter isCode, P c = true) : L.all P = true := by
  refine List.all_eq_true.mpr fun c hc => ?_
  have h := List.all_eq_true.mp h1 c hc
  rcases Bool.eq_false_or_eq_true (isCode c) with hi | hi
  · exact h2 c (List.mem_filter.mpr ⟨hc, hi⟩)
  · simpa [hi] using h
set_option maxRecDepth 65536 in
theorem w_c0 : (Jvm.Cond.code x code maxLocals ret).before args0 about1 = true := code_word (m := ⟨1, 2⟩) (meth := k1m2) (c := k1c2) (by decide +kernel) rfl rfl rfl (by decide +kernel)
set_option maxRecDepth 65536 in
theorem w_c1 : (Jvm.Cond.code ({ cls := "com/example/rowan/rowan/policy/EntitySet", name := "<init>", desc := "(I)V" } : Jvm.MethodName) prog_51_method_1_code (2 : Nat) (Option.none : Option Jvm.ClassFile.FieldType)).before args0 about1 = true := code_word (m := ⟨2, 0⟩) (meth := k2m0) (c := k2c0) (by decide +kernel) rfl rfl rfl (by decide +kernel)
set_option maxRecDepth 65536 in
theorem w_c2 : (Jvm.Cond.code ({ cls := "java/lang/Object", name := "<init>", desc := "()V" } : Jvm.MethodName) object_method_1_code (1 : Nat) (Option.none : Option Jvm.ClassFile.FieldType)).before args0 about1 = true := code_word (m := ⟨0, 0⟩) (meth := k0m0) (c := k0c0) (by decide +kernel) rfl rfl rfl (by decide +kernel)
set_option maxRecDepth 65536 in
theorem w_c3 : (Jvm.Cond.code ({ cls := "com/example/rowan/rowan/policy/EntitySet", name := "mostSlots", desc := "()I" } : Jvm.MethodName) prog_51_method_22_code (1 : Nat) (Option.some Jvm.ClassFile.FieldType.int)).before args0 about1 = true := code_word (m := ⟨2, 8⟩) (meth := k2m8) (c := k2c8) (by decide +kernel) rfl rfl rfl (by decide +kernel)
set_option maxRecDepth 65536 in
theorem w_c4 : (Jvm.Cond.code ({ cls := "com/example/rowan/rowan/policy/EntitySet", name := "wordCount", desc := "()I" } : Jvm.MethodName) prog_51_method_21_code (1 : Nat) (Option.some Jvm.ClassFile.FieldType.int)).before args0 about1 = true := code_word (m := ⟨2, 7⟩) (meth := k2m7) (c := k2c7) (by decide +kernel) rfl rfl rfl (by decide +kernel)
set_option maxRecDepth 65536 in
theorem w_c5 : (Jvm.Cond.code ({ cls := "com/example/rowan/rowan/policy/EntitySet", name := "freeSlots", desc := "(I)[I" } : Jvm.MethodName) prog_51_method_23_code (2 : Nat) (Option.some (Jvm.ClassFile.FieldType.array Jvm.ClassFile.FieldType.int))).before args0 about1 = true := code_word (m := ⟨2, 9⟩) (meth := k2m9) (c := k2c9) (by decide +kernel) rfl rfl rfl (by decide +kernel)
set_option maxRecDepth 65536 in
theorem w_c6 : (Jvm.Cond.code ({ cls := "java/util/Arrays", name := "fill", desc := "([II)V" } : Jvm.MethodName) jdk_65_method_103_code (4 : Nat) (Option.none : Option Jvm.ClassFile.FieldType)).before args0 about1 = true := code_word (m := ⟨3, 1⟩) (meth := k3m1) (c := k3c1) (by decide +kernel) rfl rfl rfl (by decide +kernel)
set_option maxRecDepth 65536 in
theorem w_c7 : (Jvm.Cond.code ({ cls := "com/example/rowan/rowan/policy/EntitySet", name := "add", desc := "(I)Z" } : Jvm.MethodName) prog_51_method_5_code (5 : Nat) (Option.some Jvm.ClassFile.FieldType.boolean)).before args0 about1 = true := code_word (m := ⟨2, 1⟩) (meth := k2m1) (c := k2c1) (by decide +kernel) rfl rfl rfl (by decide +kernel)
set_option maxRecDepth 65536 in
theorem w_c8 : (Jvm.Cond.code ({ cls := "com/example/rowan/rowan/policy/EntitySet", name := "slotOf", desc := "(I)I" } : Jvm.MethodName) prog_51_method_17_code (4 : Nat) (Option.some Jvm.ClassFile.FieldType.int)).before args0 about1 = true := code_word (m := ⟨2, 4⟩) (meth := k2m4) (c := k2c4) (by decide +kernel) rfl rfl rfl (by decide +kernel)
set_option maxRecDepth 65536 in
theorem w_c9 : (Jvm.Cond.code ({ cls := "com/example/rowan/rowan/policy/EntitySet", name := "home", desc := "(I)I" } : Jvm.MethodName) prog_51_method_18_code (2 : Nat) (Option.some Jvm.ClassFile.FieldType.int)).before args0 about1 = true := code_word (m := ⟨2, 5⟩) (meth := k2m5) (c := k2c5) (by decide +kernel) rfl rfl rfl (by decide +kernel)
set_option maxRecDepth 65536 in
theorem w_c10 : (Jvm.Cond.code ({ cls := "java/lang/Integer", name := "numberOfLeadingZeros", desc := "(I)I" } : Jvm.MethodName) jdk_33_method_47_code (2 : Nat) (Option.some Jvm.ClassFile.FieldType.int)).before args0 about1 = true := code_word (m := ⟨9, 0⟩) (meth := k9m0) (c := k9c0) (by decide +kernel) rfl rfl rfl (by decide +kernel)
set_option maxRecDepth 65536 in
theorem w_c11 : (Jvm.Cond.code ({ cls := "com/example/rowan/rowan/policy/EntitySet", name := "after", desc := "(I)I" } : Jvm.MethodName) prog_51_method_13_code (6 : Nat) (Option.some Jvm.ClassFile.FieldType.int)).before args0 about1 = true := code_word (m := ⟨2, 2⟩) (meth := k2m2) (c := k2c2) (by decide +kernel) rfl rfl rfl (by decide +kernel)
set_option maxRecDepth 65536 in
theorem w_c12 : (Jvm.Cond.code ({ cls := "com/example/rowan/rowan/policy/EntitySet", name := "entityAt", desc := "(I)I" } : Jvm.MethodName) prog_51_method_14_code (2 : Nat) (Option.some Jvm.ClassFile.FieldType.int)).before args0 about1 = true := code_word (m := ⟨2, 3⟩) (meth := k2m3) (c := k2c3) (by decide +kernel) rfl rfl rfl (by decide +kernel)
set_option maxRecDepth 65536 in
theorem w_c13 : (Jvm.Cond.code ({ cls := "com/example/rowan/rowan/policy/EntitySetEntityAtPinLaw", name := "inD", desc := "(IIIIZ)Z" } : Jvm.MethodName) method_2_code (5 : Nat) (Option.some Jvm.ClassFile.FieldType.boolean)).before args0 about1 = true := code_word (m := ⟨1, 1⟩) (meth := k1m1) (c := k1c1) (by decide +kernel) rfl rfl rfl (by decide +kernel)
set_option maxRecDepth 65536 in
theorem w_c14 : (Jvm.Cond.code ({ cls := "com/example/rowan/rowan/policy/EntitySet", name := "grow", desc := "()V" } : Jvm.MethodName) prog_51_method_19_code (6 : Nat) (Option.none : Option Jvm.ClassFile.FieldType)).before args0 about1 = true := code_word (m := ⟨2, 6⟩) (meth := k2m6) (c := k2c6) (by decide +kernel) rfl rfl rfl (by decide +kernel)
set_option maxRecDepth 65536 in
theorem w_c15 : (Jvm.Cond.code ({ cls := "java/lang/Long", name := "numberOfTrailingZeros", desc := "(J)I" } : Jvm.MethodName) jdk_35_method_49_code (3 : Nat) (Option.some Jvm.ClassFile.FieldType.int)).before args0 about1 = true := code_word (m := ⟨10, 0⟩) (meth := k10m0) (c := k10c0) (by decide +kernel) rfl rfl rfl (by decide +kernel)
set_option maxRecDepth 65536 in
theorem w_c16 : (Jvm.Cond.code ({ cls := "java/lang/Integer", name := "numberOfTrailingZeros", desc := "(I)I" } : Jvm.MethodName) jdk_33_method_48_code (2 : Nat) (Option.some Jvm.ClassFile.FieldType.int)).before args0 about1 = true := code_word (m := ⟨9, 1⟩) (meth := k9m1) (c := k9c1) (by decide +kernel) rfl rfl rfl (by decide +kernel)
def codes1 : List Jvm.Cond := [Jvm.Cond.code x code maxLocals ret, Jvm.Cond.code ({ cls := "com/example/rowan/rowan/policy/EntitySet", name := "<init>", desc := "(I)V" } : Jvm.MethodName) prog_51_method_1_code (2 : Nat) (Option.none : Option Jvm.ClassFile.FieldType), Jvm.Cond.code ({ cls := "java/lang/Object", name := "<init>", desc := "()V" } : Jvm.MethodName) object_method_1_code (1 : Nat) (Option.none : Option Jvm.ClassFile.FieldType), Jvm.Cond.code ({ cls := "com/example/rowan/rowan/policy/EntitySet", name := "mostSlots", desc := "()I" } : Jvm.MethodName) prog_51_method_22_code (1 : Nat) (Option.some Jvm.ClassFile.FieldType.int), Jvm.Cond.code ({ cls := "com/example/rowan/rowan/policy/EntitySet", name := "wordCount", desc := "()I" } : Jvm.MethodName) prog_51_method_21_code (1 : Nat) (Option.some Jvm.ClassFile.FieldType.int), Jvm.Cond.code ({ cls := "com/example/rowan/rowan/policy/EntitySet", name := "freeSlots", desc := "(I)[I" } : Jvm.MethodName) prog_51_method_23_code (2 : Nat) (Option.some (Jvm.ClassFile.FieldType.array Jvm.ClassFile.FieldType.int)), Jvm.Cond.code ({ cls := "java/util/Arrays", name := "fill", desc := "([II)V" } : Jvm.MethodName) jdk_65_method_103_code (4 : Nat) (Option.none : Option Jvm.ClassFile.FieldType), Jvm.Cond.code ({ cls := "com/example/rowan/rowan/policy/EntitySet", name := "add", desc := "(I)Z" } : Jvm.MethodName) prog_51_method_5_code (5 : Nat) (Option.some Jvm.ClassFile.FieldType.boolean), Jvm.Cond.code ({ cls := "com/example/rowan/rowan/policy/EntitySet", name := "slotOf", desc := "(I)I" } : Jvm.MethodName) prog_51_method_17_code (4 : Nat) (Option.some Jvm.ClassFile.FieldType.int), Jvm.Cond.code ({ cls := "com/example/rowan/rowan/policy/EntitySet", name := "home", desc := "(I)I" } : Jvm.MethodName) prog_51_method_18_code (2 : Nat) (Option.some Jvm.ClassFile.FieldType.int), Jvm.Cond.code ({ cls := "java/lang/Integer", name := "numberOfLeadingZeros", desc := "(I)I" } : Jvm.MethodName) jdk_33_method_47_code (2 : Nat) (Option.some Jvm.ClassFile.FieldType.int), Jvm.Cond.code ({ cls := "com/example/rowan/rowan/policy/EntitySet", name := "after", desc := "(I)I" } : Jvm.MethodName) prog_51_method_13_code (6 : Nat) (Option.some Jvm.ClassFile.FieldType.int), Jvm.Cond.code ({ cls := "com/example/rowan/rowan/policy/EntitySet", name := "entityAt", desc := "(I)I" } : Jvm.MethodName) prog_51_method_14_code (2 : Nat) (Option.some Jvm.ClassFile.FieldType.int), Jvm.Cond.code ({ cls := "com/example/rowan/rowan/policy/EntitySetEntityAtPinLaw", name := "inD", desc := "(IIIIZ)Z" } : Jvm.MethodName) method_2_code (5 : Nat) (Option.some Jvm.ClassFile.FieldType.boolean), Jvm.Cond.code ({ cls := "com/example/rowan/rowan/policy/EntitySet", name := "grow", desc := "()V" } : Jvm.MethodName) prog_51_method_19_code (6 : Nat) (Option.none : Option Jvm.ClassFile.FieldType), Jvm.Cond.code ({ cls := "java/lang/Long", name := "numberOfTrailingZeros", desc := "(J)I" } : Jvm.MethodName) jdk_35_method_49_code (3 : Nat) (Option.some Jvm.ClassFile.FieldType.int), Jvm.Cond.code ({ cls := "java/lang/Integer", name := "numberOfTrailingZeros", desc := "(I)I" } : Jvm.MethodName) jdk_33_method_48_code (2 : Nat) (Option.some Jvm.ClassFile.FieldType.int)]
set_option maxRecDepth 65536 in
theorem codes_eq : words1.filter isCode = codes1 := rfl
theorem w_codes : ∀ c ∈ words1.filter isCode, c.before args0 about1 = true := by
  rw [codes_eq]
  intro c hc
  simp only [codes1, List.mem_cons, List.not_mem_nil, or_false] at hc
  rcases hc with rfl | rfl | rfl | rfl | rfl | rfl | rfl | rfl | rfl | rfl | rfl | rfl | rfl | rfl | rfl | rfl | rfl
  · exact w_c0
  · exact w_c1
  · exact w_c2
  · exact w_c3
  · exact w_c4
  · exact w_c5
  · exact w_c6
  · exact w_c7
  · exact w_c8
  · exact w_c9
  · exact w_c10
  · exact w_c11
  · exact w_c12
  · exact w_c13
  · exact w_c14
  · exact w_c15
  · exact w_c16
set_option maxRecDepth 65536 in
theorem w_t1 : (words1.take 24).all (fun c => isCode c || c.before args0 about1) = true := by decide +kernel
set_option maxRecDepth 65536 in
theorem w_t2 : ((words1.drop 24).take 24).all (fun c => isCode c || c.before args0 about1) = true := by decide +kernel
set_option maxRecDepth 65536 in
theorem w_t3 : (((words1.drop 24).drop 24).take 24).all (fun c => isCode c || c.before args0 about1) = true := by decide +kernel
set_option maxRecDepth 65536 in
theorem w_t4 : (((words1.drop 24).drop 24).drop 24).all (fun c => isCode c || c.before args0 about1) = true := by decide +kernel
theorem w_tables : (allAtoms (Jvm.Cond.code x code maxLocals ret :: tables_1)).before args0 about1 = true := by
  rw [allAtoms_all]
  show words1.all (fun c => c.before args0 about1) = true
  refine all_split ?_ w_codes
  rw [← List.take_append_drop 24 words1, List.all_append, w_t1, ← List.take_append_drop 24 (words1.drop 24), List.all_append, w_t2, ← List.take_append_drop 24 ((words1.drop 24).drop 24), List.all_append, w_t3, w_t4]
  rfl
set_option maxRecDepth 65536 in
theorem w_case : (Jvm.Cond.and given_1 narrow_1).before args0 about1 = true := by decide +kernel
theorem w_applies : (headSpec (Jvm.Cond.code x code maxLocals ret :: tables_1) room_1).applies x e0.platform about1 = true :=
  (Spec.applies_iff w_frames).mpr ⟨w_running, w_runnable, w_alone, w_named, w_hears, w_ripe, w_room, w_tables⟩
theorem atStart : AtStart classFile x code maxLocals ret World_1 tables_1 room_1 Calls_1 rest_1 Pre_1 launch0 p0 e0 about1 theMethod args0 below0 :=
  ⟨lists_1, trivial, launch0.admits_env _ _ _, launch0.least_env, fairChoices_fair.cas, fairChoices_fair.clock, w_frames, w_args, w_heap, w_applies, trivial, trivial, w_case⟩
end start1
theorem witness_1 : WitnessClaimed_1 := ⟨start1.p0, start1.e0, start1.about1, start1.theMethod, start1.args0, start1.below0, start1.atStart⟩
end Jvm.Pilot.@@N@@
