import JvmDerived
import JvmDerived.Pilot.@@N@@Statement
import JvmDerived.Pilot.@@N@@Code
set_option linter.unusedVariables false
set_option linter.unusedSimpArgs false
namespace Jvm.Own
open Jvm Sem ClassFile Op Lib Jvm.Stand Jvm.Free Jvm.LawKit Jvm.RoadKit
/-- what is left to run: from any state that stands here with this heap, in this frame, the method comes back, and Q holds of what it returns and of the heap -/
def Wp (p : Program) (l : Launch) (e : Env) (R : Room) (s : State) (m : MethodId) (args : Array Value) (below : List Frame) (meth : Method) (c : Code)
    (n0 cM sM : Nat) (Q : Option Value → Heap → Prop) (h : Heap) (cells slots : Nat) (g : JFrame) : Prop :=
  ∀ (T : State) (locs : List Loc), Stand p l e R s m args below meth c T locs cells slots → T.heap = h → Fr n0 locs →
    ∃ s₂ v L, Steps p.tables e below (T.setTop g) s₂ ∧ s₂.status = .running ∧ Ended s₂ below (.returned v) ∧ (Q v s₂.heap ∧ Fr n0 L) ∧ FrameEnd s (.returned v) s₂ L cM sM
/-- what is known of the method that is walked -/
def Cx (p : Program) (s : State) (m : MethodId) (meth : Method) (c : Code) (Z : State) (own : String) (bytes : ByteArray) (ml : Nat) (rt : Option FieldType) (nm : String) : Prop :=
  p.tables.exec = Jvm.exec ∧ c.code = bytes ∧ Z.Warmed39 s.vm ∧ s.vm.findClass own = some m.cls ∧ c.maxLocals = ml ∧ meth.sig.returnType = rt ∧ meth.name = nm ∧ meth.locks = false
/-- a method's contract: called with these arguments at this heap -/
def Ct (l : Launch) (Z : State) (y : MethodName) (bytes : ByteArray) (maxL : Nat) (ret : Option FieldType) (ws : List Jvm.Cond) (rm : Room) (as' : Array Value) (h : Heap) (n0 : Nat) (Q : Option Value → Heap → Prop) : Prop :=
  MetFree l y (head1 (Jvm.Cond.code y bytes maxL ret :: ws) rm) (fun a U => a = as' ∧ Z.Warmed39 U.vm ∧ U.heap = h) (fun _ _ _ _ _ => True)
    (fun _ U o U' => ∃ v L, o = .returned v ∧ (Q v U'.heap ∧ Fr n0 L) ∧ FrameEnd U o U' L rm.cells rm.slots)
theorem Ct.of {l : Launch} {Z : State} {y : MethodName} {bytes : ByteArray} {maxL : Nat} {ret : Option FieldType} {ws : List Jvm.Cond} {rm : Room} {as' : Array Value} {h : Heap} {n0 : Nat} {Q : Option Value → Heap → Prop} {Ls : Array Slot}
    (hpl : plainFor y = true) (ef : ∀ m, entryFrame m as' maxL = mkF m 0 Ls [])
    (H : ∀ p e s m below meth c, Cx p s m meth c Z y.cls bytes maxL ret y.name → Wp p l e rm s m as' below meth c n0 rm.cells rm.slots Q h 0 0 (mkF m 0 Ls [])) :
    Ct l Z y bytes maxL ret ws rm as' h n0 Q := by
  refine MetFree.of_bodySF hpl hisR ?_
  intro p e s m args below meth c s₁ Bd hml0 hP hK
  obtain ⟨rfl, hZ, hh⟩ := hP
  have C : Cx p s m meth c Z y.cls bytes maxL ret y.name := ⟨Bd.exec, Bd.bytes, hZ, findClass_of_methodNamed Bd.named, hml0, Bd.returns, (name_of_methodNamed Bd.named Bd.method).1, Bd.notSynchronized⟩
  obtain ⟨s₂, v, L, a1, a2, a3, a4, a5⟩ := H p e s m below meth c C s₁ [] (Stand.of_body Bd) (by rw [← hh, Bd.state]; rfl) (Fr.nil n0)
  exact ⟨s₂, .returned v, castTop (ef m) a1, a2, a3, v, L, rfl, a4, a5⟩
theorem Ct.mono {l : Launch} {Z : State} {y : MethodName} {bytes : ByteArray} {maxL : Nat} {ret : Option FieldType} {ws : List Jvm.Cond} {rm : Room} {as' : Array Value} {h : Heap} {n0 : Nat} {Q Q' : Option Value → Heap → Prop}
    (H : Ct l Z y bytes maxL ret ws rm as' h n0 Q) (i : ∀ v h', Q v h' → Q' v h') : Ct l Z y bytes maxL ret ws rm as' h n0 Q' := by
  intro p e ha hc hk s m args below hf happ hP hK
  obtain ⟨n, o, h1, h2, h3, v, L, h4, h5, h6⟩ := H p e ha hc hk s m args below hf happ hP hK
  exact ⟨n, o, h1, h2, h3, v, L, h4, ⟨i _ _ h5.1, h5.2⟩, h6⟩
section Rules
variable {p : Program} {l : Launch} {e : Env} {R : Room} {s : State} {m : MethodId} {args : Array Value} {below : List Frame} {meth : Method} {c : Code} {n0 cM sM : Nat} {Q : Option Value → Heap → Prop} {h : Heap} {cells slots : Nat}
variable {Z : State} {own nm : String} {bytes : ByteArray} {ml : Nat} {rt : Option FieldType} {a0 : Array Value}
theorem Wp.pure {g g' : JFrame} (st : ∀ (T t : State), At T m c below → Steps p.tables e below (T.setTop g') t → Steps p.tables e below (T.setTop g) t) (k : Wp p l e R s m args below meth c n0 cM sM Q h cells slots g') :
    Wp p l e R s m args below meth c n0 cM sM Q h cells slots g := fun T locs X e0 N => by
  obtain ⟨s2, v, L, a, r⟩ := k T locs X e0 N
  exact ⟨s2, v, L, st T s2 X.here a, r⟩
theorem Wp.law {g g' : JFrame} (st : ∀ (T : State) (locs : List Loc), Stand p l e R s m args below meth c T locs cells slots → T.heap = h → ∃ T', Stand p l e R s m args below meth c T' locs cells slots ∧ T'.heap = h ∧ ∀ t, Steps p.tables e below (T'.setTop g') t → Steps p.tables e below (T.setTop g) t)
    (k : Wp p l e R s m args below meth c n0 cM sM Q h cells slots g') : Wp p l e R s m args below meth c n0 cM sM Q h cells slots g := fun T locs X e0 N => by
  obtain ⟨T', X', e', st'⟩ := st T locs X e0
  obtain ⟨s2, v, L, a, r⟩ := k T' locs X' e' N
  exact ⟨s2, v, L, st' s2 a, r⟩
theorem Wp.more {g : JFrame} {cells' slots' : Nat} (hc : cells ≤ cells') (hs : slots ≤ slots') (k : Wp p l e R s m args below meth c n0 cM sM Q h cells' slots' g) : Wp p l e R s m args below meth c n0 cM sM Q h cells slots g :=
  fun T locs X e0 N => k T locs (X.more hc hs) e0 N
theorem Wp.mono {g : JFrame} {Q' : Option Value → Heap → Prop} (i : ∀ v h', Q v h' → Q' v h') (k : Wp p l e R s m args below meth c n0 cM sM Q h cells slots g) : Wp p l e R s m args below meth c n0 cM sM Q' h cells slots g :=
  fun T locs X e0 N => by
    obtain ⟨s2, v, L, a, b, d, q, r⟩ := k T locs X e0 N
    exact ⟨s2, v, L, a, b, d, ⟨i _ _ q.1, q.2⟩, r⟩
theorem Wp.ret {g : JFrame} {v : Option Value} (C : Cx p s m meth c Z own bytes ml rt nm)
    (st : ∀ (T : State) (fs : List Frame) (locs : List Loc), Stand p l e R s m args below meth c T locs cells slots → (∀ (f : JFrame) (acts : List Action), f.method = m → f.locked = none → f.entered = [] → (doReturn e (T.setTop f) acts v).1 = T.setFrames fs) → Steps p.tables e below (T.setTop g) (T.setFrames fs))
    (hv : meth.sig.returnType = none → v = none) (hc : cells ≤ cM) (hs : slots ≤ sM) (q : Q v h) : Wp p l e R s m args below meth c n0 cM sM Q h cells slots g := by
  intro T locs X e0 N
  have hlk : meth.locks = false := C.2.2.2.2.2.2.2
  obtain ⟨fs, hr, hrun, hended, hW, hsame⟩ := X.leave (v := v) hv hlk
  exact ⟨_, v, locs, st T fs locs X hr, hrun, hended, ⟨by subst e0; exact q, N⟩, ⟨_, rfl⟩, hW, hsame.mono hc hs⟩
theorem w_iloadN (C : Cx p s m meth c Z own bytes ml rt nm) {pc pc' : Nat} {Ls : Array Slot} {st : List Value} {k : Fin 4} {x : Int32} (hd : decode bytes pc = .ok (.iload_n k, 1)) (hl : Ls[k.val]? = some (.val (.int x))) (hp : pc + 1 = pc') (K : Wp p l e R s m args below meth c n0 cM sM Q h cells slots (mkF m pc' Ls (.int x :: st))) :
    Wp p l e R s m args below meth c n0 cM sM Q h cells slots (mkF m pc Ls st) := by
  subst hp; exact Wp.pure (fun T t X hr => XS.iloadN X C.1 rfl (hb C.2.1 hd) hl hr) K
theorem w_iload (C : Cx p s m meth c Z own bytes ml rt nm) {pc pc' : Nat} {Ls : Array Slot} {st : List Value} {k : Nat} {x : Int32} (hd : decode bytes pc = .ok (.iload k, 2)) (hl : Ls[k]? = some (.val (.int x))) (hp : pc + 2 = pc') (K : Wp p l e R s m args below meth c n0 cM sM Q h cells slots (mkF m pc' Ls (.int x :: st))) :
    Wp p l e R s m args below meth c n0 cM sM Q h cells slots (mkF m pc Ls st) := by
  subst hp; exact Wp.pure (fun T t X hr => XS.iload X C.1 rfl (hb C.2.1 hd) hl hr) K
theorem w_lloadN (C : Cx p s m meth c Z own bytes ml rt nm) {pc pc' : Nat} {Ls : Array Slot} {st : List Value} {k : Fin 4} {x : Int64} (hd : decode bytes pc = .ok (.lload_n k, 1)) (hl : Ls[k.val]? = some (.val (.long x))) (hp : pc + 1 = pc') (K : Wp p l e R s m args below meth c n0 cM sM Q h cells slots (mkF m pc' Ls (.long x :: st))) :
    Wp p l e R s m args below meth c n0 cM sM Q h cells slots (mkF m pc Ls st) := by
  subst hp; exact Wp.pure (fun T t X hr => XS.lloadN X C.1 rfl (hb C.2.1 hd) hl hr) K
theorem w_lload (C : Cx p s m meth c Z own bytes ml rt nm) {pc pc' : Nat} {Ls : Array Slot} {st : List Value} {k : Nat} {x : Int64} (hd : decode bytes pc = .ok (.lload k, 2)) (hl : Ls[k]? = some (.val (.long x))) (hp : pc + 2 = pc') (K : Wp p l e R s m args below meth c n0 cM sM Q h cells slots (mkF m pc' Ls (.long x :: st))) :
    Wp p l e R s m args below meth c n0 cM sM Q h cells slots (mkF m pc Ls st) := by
  subst hp; exact Wp.pure (fun T t X hr => XS.lload X C.1 rfl (hb C.2.1 hd) hl hr) K
theorem w_aloadN (C : Cx p s m meth c Z own bytes ml rt nm) {pc pc' : Nat} {Ls : Array Slot} {st : List Value} {k : Fin 4} {v : Value} (hd : decode bytes pc = .ok (.aload_n k, 1)) (hl : Ls[k.val]? = some (.val v)) (hv : v.isRef = true) (hp : pc + 1 = pc') (K : Wp p l e R s m args below meth c n0 cM sM Q h cells slots (mkF m pc' Ls (v :: st))) :
    Wp p l e R s m args below meth c n0 cM sM Q h cells slots (mkF m pc Ls st) := by
  subst hp; exact Wp.pure (fun T t X hr => XS.aloadN X C.1 rfl (hb C.2.1 hd) hl hv hr) K
theorem w_aload (C : Cx p s m meth c Z own bytes ml rt nm) {pc pc' : Nat} {Ls : Array Slot} {st : List Value} {k : Nat} {v : Value} (hd : decode bytes pc = .ok (.aload k, 2)) (hl : Ls[k]? = some (.val v)) (hv : v.isRef = true) (hp : pc + 2 = pc') (K : Wp p l e R s m args below meth c n0 cM sM Q h cells slots (mkF m pc' Ls (v :: st))) :
    Wp p l e R s m args below meth c n0 cM sM Q h cells slots (mkF m pc Ls st) := by
  subst hp; exact Wp.pure (fun T t X hr => XS.aload X C.1 rfl (hb C.2.1 hd) hl hv hr) K
theorem w_istoreN (C : Cx p s m meth c Z own bytes ml rt nm) {pc pc' : Nat} {Ls : Array Slot} {st : List Value} {k : Fin 4} {x : Int32} {Ls' : Array Slot} (hd : decode bytes pc = .ok (.istore_n k, 1)) (hl : storeLocals Ls k.val (.int x) = some Ls') (hp : pc + 1 = pc') (K : Wp p l e R s m args below meth c n0 cM sM Q h cells slots (mkF m pc' Ls' st)) :
    Wp p l e R s m args below meth c n0 cM sM Q h cells slots (mkF m pc Ls (.int x :: st)) := by
  subst hp; exact Wp.pure (fun T t X hr => XS.istoreN X C.1 rfl (hb C.2.1 hd) rfl hl hr) K
theorem w_istore (C : Cx p s m meth c Z own bytes ml rt nm) {pc pc' : Nat} {Ls : Array Slot} {st : List Value} {k : Nat} {x : Int32} {Ls' : Array Slot} (hd : decode bytes pc = .ok (.istore k, 2)) (hl : storeLocals Ls k (.int x) = some Ls') (hp : pc + 2 = pc') (K : Wp p l e R s m args below meth c n0 cM sM Q h cells slots (mkF m pc' Ls' st)) :
    Wp p l e R s m args below meth c n0 cM sM Q h cells slots (mkF m pc Ls (.int x :: st)) := by
  subst hp; exact Wp.pure (fun T t X hr => XS.istore X C.1 rfl (hb C.2.1 hd) rfl hl hr) K
theorem w_lstoreN (C : Cx p s m meth c Z own bytes ml rt nm) {pc pc' : Nat} {Ls : Array Slot} {st : List Value} {k : Fin 4} {x : Int64} {Ls' : Array Slot} (hd : decode bytes pc = .ok (.lstore_n k, 1)) (hl : storeLocals Ls k.val (.long x) = some Ls') (hp : pc + 1 = pc') (K : Wp p l e R s m args below meth c n0 cM sM Q h cells slots (mkF m pc' Ls' st)) :
    Wp p l e R s m args below meth c n0 cM sM Q h cells slots (mkF m pc Ls (.long x :: st)) := by
  subst hp; exact Wp.pure (fun T t X hr => XS.lstoreN X C.1 rfl (hb C.2.1 hd) rfl hl hr) K
theorem w_lstore (C : Cx p s m meth c Z own bytes ml rt nm) {pc pc' : Nat} {Ls : Array Slot} {st : List Value} {k : Nat} {x : Int64} {Ls' : Array Slot} (hd : decode bytes pc = .ok (.lstore k, 2)) (hl : storeLocals Ls k (.long x) = some Ls') (hp : pc + 2 = pc') (K : Wp p l e R s m args below meth c n0 cM sM Q h cells slots (mkF m pc' Ls' st)) :
    Wp p l e R s m args below meth c n0 cM sM Q h cells slots (mkF m pc Ls (.long x :: st)) := by
  subst hp; exact Wp.pure (fun T t X hr => XS.lstore X C.1 rfl (hb C.2.1 hd) rfl hl hr) K
theorem w_astoreN (C : Cx p s m meth c Z own bytes ml rt nm) {pc pc' : Nat} {Ls : Array Slot} {st : List Value} {k : Fin 4} {v : Value} {Ls' : Array Slot} (hd : decode bytes pc = .ok (.astore_n k, 1)) (hv : v.isRef = true) (hl : storeLocals Ls k.val v = some Ls') (hp : pc + 1 = pc') (K : Wp p l e R s m args below meth c n0 cM sM Q h cells slots (mkF m pc' Ls' st)) :
    Wp p l e R s m args below meth c n0 cM sM Q h cells slots (mkF m pc Ls (v :: st)) := by
  subst hp; exact Wp.pure (fun T t X hr => XS.astoreN X C.1 rfl (hb C.2.1 hd) rfl hv hl hr) K
theorem w_astore (C : Cx p s m meth c Z own bytes ml rt nm) {pc pc' : Nat} {Ls : Array Slot} {st : List Value} {k : Nat} {v : Value} {Ls' : Array Slot} (hd : decode bytes pc = .ok (.astore k, 2)) (hv : v.isRef = true) (hl : storeLocals Ls k v = some Ls') (hp : pc + 2 = pc') (K : Wp p l e R s m args below meth c n0 cM sM Q h cells slots (mkF m pc' Ls' st)) :
    Wp p l e R s m args below meth c n0 cM sM Q h cells slots (mkF m pc Ls (v :: st)) := by
  subst hp; exact Wp.pure (fun T t X hr => XS.astore X C.1 rfl (hb C.2.1 hd) rfl hv hl hr) K
theorem w_iinc (C : Cx p s m meth c Z own bytes ml rt nm) {pc pc' : Nat} {Ls : Array Slot} {st : List Value} {k : Nat} {cst : Int} {x : Int32} {Ls' : Array Slot} (hd : decode bytes pc = .ok (.iinc k cst, 3)) (hx : Ls[k]? = some (.val (.int x))) (hl : storeLocals Ls k (.int (x + Int32.ofInt cst)) = some Ls') (hp : pc + 3 = pc') (K : Wp p l e R s m args below meth c n0 cM sM Q h cells slots (mkF m pc' Ls' st)) :
    Wp p l e R s m args below meth c n0 cM sM Q h cells slots (mkF m pc Ls st) := by
  subst hp; exact Wp.pure (fun T t X hr => XS.iinc X C.1 rfl (hb C.2.1 hd) hx hl hr) K
theorem w_iconst (C : Cx p s m meth c Z own bytes ml rt nm) {pc pc' : Nat} {Ls : Array Slot} {st : List Value} {i : Int} {x : Int32} (hd : decode bytes pc = .ok (.iconst i, 1)) (hx : Int32.ofInt i = x) (hp : pc + 1 = pc') (K : Wp p l e R s m args below meth c n0 cM sM Q h cells slots (mkF m pc' Ls (.int x :: st))) :
    Wp p l e R s m args below meth c n0 cM sM Q h cells slots (mkF m pc Ls st) := by
  subst hp hx; exact Wp.pure (fun T t X hr => XS.iconst X C.1 rfl (hb C.2.1 hd) hr) K
theorem w_bipush (C : Cx p s m meth c Z own bytes ml rt nm) {pc pc' : Nat} {Ls : Array Slot} {st : List Value} {i : Int} {x : Int32} (hd : decode bytes pc = .ok (.bipush i, 2)) (hx : (Int8.ofInt i).toInt32 = x) (hp : pc + 2 = pc') (K : Wp p l e R s m args below meth c n0 cM sM Q h cells slots (mkF m pc' Ls (.int x :: st))) :
    Wp p l e R s m args below meth c n0 cM sM Q h cells slots (mkF m pc Ls st) := by
  subst hp hx; exact Wp.pure (fun T t X hr => XS.bipush X C.1 rfl (hb C.2.1 hd) hr) K
theorem w_sipush (C : Cx p s m meth c Z own bytes ml rt nm) {pc pc' : Nat} {Ls : Array Slot} {st : List Value} {i : Int} {x : Int32} (hd : decode bytes pc = .ok (.sipush i, 3)) (hx : (Int16.ofInt i).toInt32 = x) (hp : pc + 3 = pc') (K : Wp p l e R s m args below meth c n0 cM sM Q h cells slots (mkF m pc' Ls (.int x :: st))) :
    Wp p l e R s m args below meth c n0 cM sM Q h cells slots (mkF m pc Ls st) := by
  subst hp hx; exact Wp.pure (fun T t X hr => XS.sipush X C.1 rfl (hb C.2.1 hd) hr) K
theorem w_lconst (C : Cx p s m meth c Z own bytes ml rt nm) {pc pc' : Nat} {Ls : Array Slot} {st : List Value} {k : Fin 2} {x : Int64} (hd : decode bytes pc = .ok (.lconst k, 1)) (hx : Int64.ofNat k = x) (hp : pc + 1 = pc') (K : Wp p l e R s m args below meth c n0 cM sM Q h cells slots (mkF m pc' Ls (.long x :: st))) :
    Wp p l e R s m args below meth c n0 cM sM Q h cells slots (mkF m pc Ls st) := by
  subst hp hx; exact Wp.pure (fun T t X hr => XS.lconst X C.1 rfl (hb C.2.1 hd) hr) K
theorem w_aconstNull (C : Cx p s m meth c Z own bytes ml rt nm) {pc pc' : Nat} {Ls : Array Slot} {st : List Value}  (hd : decode bytes pc = .ok (.aconst_null, 1))  (hp : pc + 1 = pc') (K : Wp p l e R s m args below meth c n0 cM sM Q h cells slots (mkF m pc' Ls (.null :: st))) :
    Wp p l e R s m args below meth c n0 cM sM Q h cells slots (mkF m pc Ls st) := by
  subst hp; exact Wp.pure (fun T t X hr => XS.aconstNull X C.1 rfl (hb C.2.1 hd)  hr) K
theorem w_iadd (C : Cx p s m meth c Z own bytes ml rt nm) {pc pc' : Nat} {Ls : Array Slot} {st : List Value} {x y : Int32} (hd : decode bytes pc = .ok (.iadd, 1))  (hp : pc + 1 = pc') (K : Wp p l e R s m args below meth c n0 cM sM Q h cells slots (mkF m pc' Ls (.int (x + y) :: st))) :
    Wp p l e R s m args below meth c n0 cM sM Q h cells slots (mkF m pc Ls (.int y :: .int x :: st)) := by
  subst hp; exact Wp.pure (fun T t X hr => XS.iadd X C.1 rfl (hb C.2.1 hd) rfl hr) K
theorem w_isub (C : Cx p s m meth c Z own bytes ml rt nm) {pc pc' : Nat} {Ls : Array Slot} {st : List Value} {x y : Int32} (hd : decode bytes pc = .ok (.isub, 1))  (hp : pc + 1 = pc') (K : Wp p l e R s m args below meth c n0 cM sM Q h cells slots (mkF m pc' Ls (.int (x - y) :: st))) :
    Wp p l e R s m args below meth c n0 cM sM Q h cells slots (mkF m pc Ls (.int y :: .int x :: st)) := by
  subst hp; exact Wp.pure (fun T t X hr => XS.isub X C.1 rfl (hb C.2.1 hd) rfl hr) K
theorem w_imul (C : Cx p s m meth c Z own bytes ml rt nm) {pc pc' : Nat} {Ls : Array Slot} {st : List Value} {x y : Int32} (hd : decode bytes pc = .ok (.imul, 1))  (hp : pc + 1 = pc') (K : Wp p l e R s m args below meth c n0 cM sM Q h cells slots (mkF m pc' Ls (.int (x * y) :: st))) :
    Wp p l e R s m args below meth c n0 cM sM Q h cells slots (mkF m pc Ls (.int y :: .int x :: st)) := by
  subst hp; exact Wp.pure (fun T t X hr => XS.imul X C.1 rfl (hb C.2.1 hd) rfl hr) K
theorem w_iand (C : Cx p s m meth c Z own bytes ml rt nm) {pc pc' : Nat} {Ls : Array Slot} {st : List Value} {x y : Int32} (hd : decode bytes pc = .ok (.iand, 1))  (hp : pc + 1 = pc') (K : Wp p l e R s m args below meth c n0 cM sM Q h cells slots (mkF m pc' Ls (.int (x &&& y) :: st))) :
    Wp p l e R s m args below meth c n0 cM sM Q h cells slots (mkF m pc Ls (.int y :: .int x :: st)) := by
  subst hp; exact Wp.pure (fun T t X hr => XS.iand X C.1 rfl (hb C.2.1 hd) rfl hr) K
theorem w_ior (C : Cx p s m meth c Z own bytes ml rt nm) {pc pc' : Nat} {Ls : Array Slot} {st : List Value} {x y : Int32} (hd : decode bytes pc = .ok (.ior, 1))  (hp : pc + 1 = pc') (K : Wp p l e R s m args below meth c n0 cM sM Q h cells slots (mkF m pc' Ls (.int (x ||| y) :: st))) :
    Wp p l e R s m args below meth c n0 cM sM Q h cells slots (mkF m pc Ls (.int y :: .int x :: st)) := by
  subst hp; exact Wp.pure (fun T t X hr => XS.ior X C.1 rfl (hb C.2.1 hd) rfl hr) K
theorem w_ixor (C : Cx p s m meth c Z own bytes ml rt nm) {pc pc' : Nat} {Ls : Array Slot} {st : List Value} {x y : Int32} (hd : decode bytes pc = .ok (.ixor, 1))  (hp : pc + 1 = pc') (K : Wp p l e R s m args below meth c n0 cM sM Q h cells slots (mkF m pc' Ls (.int (x ^^^ y) :: st))) :
    Wp p l e R s m args below meth c n0 cM sM Q h cells slots (mkF m pc Ls (.int y :: .int x :: st)) := by
  subst hp; exact Wp.pure (fun T t X hr => XS.ixor X C.1 rfl (hb C.2.1 hd) rfl hr) K
theorem w_ishl (C : Cx p s m meth c Z own bytes ml rt nm) {pc pc' : Nat} {Ls : Array Slot} {st : List Value} {x y : Int32} (hd : decode bytes pc = .ok (.ishl, 1))  (hp : pc + 1 = pc') (K : Wp p l e R s m args below meth c n0 cM sM Q h cells slots (mkF m pc' Ls (.int (x <<< (y &&& 31)) :: st))) :
    Wp p l e R s m args below meth c n0 cM sM Q h cells slots (mkF m pc Ls (.int y :: .int x :: st)) := by
  subst hp; exact Wp.pure (fun T t X hr => XS.ishl X C.1 rfl (hb C.2.1 hd) rfl hr) K
theorem w_ishr (C : Cx p s m meth c Z own bytes ml rt nm) {pc pc' : Nat} {Ls : Array Slot} {st : List Value} {x y : Int32} (hd : decode bytes pc = .ok (.ishr, 1))  (hp : pc + 1 = pc') (K : Wp p l e R s m args below meth c n0 cM sM Q h cells slots (mkF m pc' Ls (.int (x >>> (y &&& 31)) :: st))) :
    Wp p l e R s m args below meth c n0 cM sM Q h cells slots (mkF m pc Ls (.int y :: .int x :: st)) := by
  subst hp; exact Wp.pure (fun T t X hr => XS.ishr X C.1 rfl (hb C.2.1 hd) rfl hr) K
theorem w_iushr (C : Cx p s m meth c Z own bytes ml rt nm) {pc pc' : Nat} {Ls : Array Slot} {st : List Value} {x y : Int32} (hd : decode bytes pc = .ok (.iushr, 1))  (hp : pc + 1 = pc') (K : Wp p l e R s m args below meth c n0 cM sM Q h cells slots (mkF m pc' Ls (.int ((x.toUInt32 >>> (y &&& 31).toUInt32).toInt32) :: st))) :
    Wp p l e R s m args below meth c n0 cM sM Q h cells slots (mkF m pc Ls (.int y :: .int x :: st)) := by
  subst hp; exact Wp.pure (fun T t X hr => XS.iushr X C.1 rfl (hb C.2.1 hd) rfl hr) K
theorem w_ladd (C : Cx p s m meth c Z own bytes ml rt nm) {pc pc' : Nat} {Ls : Array Slot} {st : List Value} {x y : Int64} (hd : decode bytes pc = .ok (.ladd, 1))  (hp : pc + 1 = pc') (K : Wp p l e R s m args below meth c n0 cM sM Q h cells slots (mkF m pc' Ls (.long (x + y) :: st))) :
    Wp p l e R s m args below meth c n0 cM sM Q h cells slots (mkF m pc Ls (.long y :: .long x :: st)) := by
  subst hp; exact Wp.pure (fun T t X hr => XS.ladd X C.1 rfl (hb C.2.1 hd) rfl hr) K
theorem w_lsub (C : Cx p s m meth c Z own bytes ml rt nm) {pc pc' : Nat} {Ls : Array Slot} {st : List Value} {x y : Int64} (hd : decode bytes pc = .ok (.lsub, 1))  (hp : pc + 1 = pc') (K : Wp p l e R s m args below meth c n0 cM sM Q h cells slots (mkF m pc' Ls (.long (x - y) :: st))) :
    Wp p l e R s m args below meth c n0 cM sM Q h cells slots (mkF m pc Ls (.long y :: .long x :: st)) := by
  subst hp; exact Wp.pure (fun T t X hr => XS.lsub X C.1 rfl (hb C.2.1 hd) rfl hr) K
theorem w_lmul (C : Cx p s m meth c Z own bytes ml rt nm) {pc pc' : Nat} {Ls : Array Slot} {st : List Value} {x y : Int64} (hd : decode bytes pc = .ok (.lmul, 1))  (hp : pc + 1 = pc') (K : Wp p l e R s m args below meth c n0 cM sM Q h cells slots (mkF m pc' Ls (.long (x * y) :: st))) :
    Wp p l e R s m args below meth c n0 cM sM Q h cells slots (mkF m pc Ls (.long y :: .long x :: st)) := by
  subst hp; exact Wp.pure (fun T t X hr => XS.lmul X C.1 rfl (hb C.2.1 hd) rfl hr) K
theorem w_land (C : Cx p s m meth c Z own bytes ml rt nm) {pc pc' : Nat} {Ls : Array Slot} {st : List Value} {x y : Int64} (hd : decode bytes pc = .ok (.land, 1))  (hp : pc + 1 = pc') (K : Wp p l e R s m args below meth c n0 cM sM Q h cells slots (mkF m pc' Ls (.long (x &&& y) :: st))) :
    Wp p l e R s m args below meth c n0 cM sM Q h cells slots (mkF m pc Ls (.long y :: .long x :: st)) := by
  subst hp; exact Wp.pure (fun T t X hr => XS.land X C.1 rfl (hb C.2.1 hd) rfl hr) K
theorem w_lor (C : Cx p s m meth c Z own bytes ml rt nm) {pc pc' : Nat} {Ls : Array Slot} {st : List Value} {x y : Int64} (hd : decode bytes pc = .ok (.lor, 1))  (hp : pc + 1 = pc') (K : Wp p l e R s m args below meth c n0 cM sM Q h cells slots (mkF m pc' Ls (.long (x ||| y) :: st))) :
    Wp p l e R s m args below meth c n0 cM sM Q h cells slots (mkF m pc Ls (.long y :: .long x :: st)) := by
  subst hp; exact Wp.pure (fun T t X hr => XS.lor X C.1 rfl (hb C.2.1 hd) rfl hr) K
theorem w_lxor (C : Cx p s m meth c Z own bytes ml rt nm) {pc pc' : Nat} {Ls : Array Slot} {st : List Value} {x y : Int64} (hd : decode bytes pc = .ok (.lxor, 1))  (hp : pc + 1 = pc') (K : Wp p l e R s m args below meth c n0 cM sM Q h cells slots (mkF m pc' Ls (.long (x ^^^ y) :: st))) :
    Wp p l e R s m args below meth c n0 cM sM Q h cells slots (mkF m pc Ls (.long y :: .long x :: st)) := by
  subst hp; exact Wp.pure (fun T t X hr => XS.lxor X C.1 rfl (hb C.2.1 hd) rfl hr) K
theorem w_lshl (C : Cx p s m meth c Z own bytes ml rt nm) {pc pc' : Nat} {Ls : Array Slot} {st : List Value} {x : Int64} {y : Int32} (hd : decode bytes pc = .ok (.lshl, 1))  (hp : pc + 1 = pc') (K : Wp p l e R s m args below meth c n0 cM sM Q h cells slots (mkF m pc' Ls (.long (x <<< (y &&& 0x3f).toInt64) :: st))) :
    Wp p l e R s m args below meth c n0 cM sM Q h cells slots (mkF m pc Ls (.int y :: .long x :: st)) := by
  subst hp; exact Wp.pure (fun T t X hr => XS.lshl X C.1 rfl (hb C.2.1 hd) rfl hr) K
theorem w_lshr (C : Cx p s m meth c Z own bytes ml rt nm) {pc pc' : Nat} {Ls : Array Slot} {st : List Value} {x : Int64} {y : Int32} (hd : decode bytes pc = .ok (.lshr, 1))  (hp : pc + 1 = pc') (K : Wp p l e R s m args below meth c n0 cM sM Q h cells slots (mkF m pc' Ls (.long (x >>> (y &&& 0x3f).toInt64) :: st))) :
    Wp p l e R s m args below meth c n0 cM sM Q h cells slots (mkF m pc Ls (.int y :: .long x :: st)) := by
  subst hp; exact Wp.pure (fun T t X hr => XS.lshr X C.1 rfl (hb C.2.1 hd) rfl hr) K
theorem w_lushr (C : Cx p s m meth c Z own bytes ml rt nm) {pc pc' : Nat} {Ls : Array Slot} {st : List Value} {x : Int64} {y : Int32} (hd : decode bytes pc = .ok (.lushr, 1))  (hp : pc + 1 = pc') (K : Wp p l e R s m args below meth c n0 cM sM Q h cells slots (mkF m pc' Ls (.long ((x.toUInt64 >>> (y &&& 0x3f).toInt64.toUInt64).toInt64) :: st))) :
    Wp p l e R s m args below meth c n0 cM sM Q h cells slots (mkF m pc Ls (.int y :: .long x :: st)) := by
  subst hp; exact Wp.pure (fun T t X hr => XS.lushr X C.1 rfl (hb C.2.1 hd) rfl hr) K
theorem w_idiv (C : Cx p s m meth c Z own bytes ml rt nm) {pc pc' : Nat} {Ls : Array Slot} {st : List Value} {x y : Int32} (hd : decode bytes pc = .ok (.idiv, 1)) (hy : y ≠ 0) (hp : pc + 1 = pc') (K : Wp p l e R s m args below meth c n0 cM sM Q h cells slots (mkF m pc' Ls (.int (x / y) :: st))) :
    Wp p l e R s m args below meth c n0 cM sM Q h cells slots (mkF m pc Ls (.int y :: .int x :: st)) := by
  subst hp; exact Wp.pure (fun T t X hr => XS.idiv X C.1 rfl (hb C.2.1 hd) rfl hy hr) K
theorem w_ldiv (C : Cx p s m meth c Z own bytes ml rt nm) {pc pc' : Nat} {Ls : Array Slot} {st : List Value} {x y : Int64} (hd : decode bytes pc = .ok (.ldiv, 1)) (hy : y ≠ 0) (hp : pc + 1 = pc') (K : Wp p l e R s m args below meth c n0 cM sM Q h cells slots (mkF m pc' Ls (.long (x / y) :: st))) :
    Wp p l e R s m args below meth c n0 cM sM Q h cells slots (mkF m pc Ls (.long y :: .long x :: st)) := by
  subst hp; exact Wp.pure (fun T t X hr => XS.ldiv X C.1 rfl (hb C.2.1 hd) rfl hy hr) K
theorem w_irem (C : Cx p s m meth c Z own bytes ml rt nm) {pc pc' : Nat} {Ls : Array Slot} {st : List Value} {x y : Int32} (hd : decode bytes pc = .ok (.irem, 1)) (hy : y ≠ 0) (hp : pc + 1 = pc') (K : Wp p l e R s m args below meth c n0 cM sM Q h cells slots (mkF m pc' Ls (.int (x % y) :: st))) :
    Wp p l e R s m args below meth c n0 cM sM Q h cells slots (mkF m pc Ls (.int y :: .int x :: st)) := by
  subst hp; exact Wp.pure (fun T t X hr => XS.irem X C.1 rfl (hb C.2.1 hd) rfl hy (by rw [irem_eq_mod x y]; exact hr)) K
theorem w_lrem (C : Cx p s m meth c Z own bytes ml rt nm) {pc pc' : Nat} {Ls : Array Slot} {st : List Value} {x y : Int64} (hd : decode bytes pc = .ok (.lrem, 1)) (hy : y ≠ 0) (hp : pc + 1 = pc') (K : Wp p l e R s m args below meth c n0 cM sM Q h cells slots (mkF m pc' Ls (.long (x % y) :: st))) :
    Wp p l e R s m args below meth c n0 cM sM Q h cells slots (mkF m pc Ls (.long y :: .long x :: st)) := by
  subst hp; exact Wp.pure (fun T t X hr => XS.lrem X C.1 rfl (hb C.2.1 hd) rfl hy (by rw [lrem_mod x y]; exact hr)) K
theorem w_ineg (C : Cx p s m meth c Z own bytes ml rt nm) {pc pc' : Nat} {Ls : Array Slot} {st : List Value} {x : Int32} (hd : decode bytes pc = .ok (.ineg, 1))  (hp : pc + 1 = pc') (K : Wp p l e R s m args below meth c n0 cM sM Q h cells slots (mkF m pc' Ls (.int (-x) :: st))) :
    Wp p l e R s m args below meth c n0 cM sM Q h cells slots (mkF m pc Ls (.int x :: st)) := by
  subst hp; exact Wp.pure (fun T t X hr => XS.ineg X C.1 rfl (hb C.2.1 hd) rfl hr) K
theorem w_lneg (C : Cx p s m meth c Z own bytes ml rt nm) {pc pc' : Nat} {Ls : Array Slot} {st : List Value} {x : Int64} (hd : decode bytes pc = .ok (.lneg, 1))  (hp : pc + 1 = pc') (K : Wp p l e R s m args below meth c n0 cM sM Q h cells slots (mkF m pc' Ls (.long (-x) :: st))) :
    Wp p l e R s m args below meth c n0 cM sM Q h cells slots (mkF m pc Ls (.long x :: st)) := by
  subst hp; exact Wp.pure (fun T t X hr => XS.lneg X C.1 rfl (hb C.2.1 hd) rfl hr) K
theorem w_i2l (C : Cx p s m meth c Z own bytes ml rt nm) {pc pc' : Nat} {Ls : Array Slot} {st : List Value} {x : Int32} (hd : decode bytes pc = .ok (.i2l, 1))  (hp : pc + 1 = pc') (K : Wp p l e R s m args below meth c n0 cM sM Q h cells slots (mkF m pc' Ls (.long x.toInt64 :: st))) :
    Wp p l e R s m args below meth c n0 cM sM Q h cells slots (mkF m pc Ls (.int x :: st)) := by
  subst hp; exact Wp.pure (fun T t X hr => XS.i2l X C.1 rfl (hb C.2.1 hd) rfl hr) K
theorem w_l2i (C : Cx p s m meth c Z own bytes ml rt nm) {pc pc' : Nat} {Ls : Array Slot} {st : List Value} {x : Int64} (hd : decode bytes pc = .ok (.l2i, 1))  (hp : pc + 1 = pc') (K : Wp p l e R s m args below meth c n0 cM sM Q h cells slots (mkF m pc' Ls (.int x.toInt32 :: st))) :
    Wp p l e R s m args below meth c n0 cM sM Q h cells slots (mkF m pc Ls (.long x :: st)) := by
  subst hp; exact Wp.pure (fun T t X hr => XS.l2i X C.1 rfl (hb C.2.1 hd) rfl hr) K
theorem w_i2b (C : Cx p s m meth c Z own bytes ml rt nm) {pc pc' : Nat} {Ls : Array Slot} {st : List Value} {x : Int32} (hd : decode bytes pc = .ok (.i2b, 1))  (hp : pc + 1 = pc') (K : Wp p l e R s m args below meth c n0 cM sM Q h cells slots (mkF m pc' Ls (.int x.toInt8.toInt32 :: st))) :
    Wp p l e R s m args below meth c n0 cM sM Q h cells slots (mkF m pc Ls (.int x :: st)) := by
  subst hp; exact Wp.pure (fun T t X hr => XS.i2b X C.1 rfl (hb C.2.1 hd) rfl hr) K
theorem w_i2s (C : Cx p s m meth c Z own bytes ml rt nm) {pc pc' : Nat} {Ls : Array Slot} {st : List Value} {x : Int32} (hd : decode bytes pc = .ok (.i2s, 1))  (hp : pc + 1 = pc') (K : Wp p l e R s m args below meth c n0 cM sM Q h cells slots (mkF m pc' Ls (.int x.toInt16.toInt32 :: st))) :
    Wp p l e R s m args below meth c n0 cM sM Q h cells slots (mkF m pc Ls (.int x :: st)) := by
  subst hp; exact Wp.pure (fun T t X hr => XS.i2s X C.1 rfl (hb C.2.1 hd) rfl hr) K
/-- i2c -/
def toCh (x : Int32) : Int32 := x.toUInt32.toUInt16.toUInt32.toInt32
theorem w_i2c (C : Cx p s m meth c Z own bytes ml rt nm) {pc pc' : Nat} {Ls : Array Slot} {st : List Value} {x : Int32} (hd : decode bytes pc = .ok (.i2c, 1))  (hp : pc + 1 = pc') (K : Wp p l e R s m args below meth c n0 cM sM Q h cells slots (mkF m pc' Ls (.int (toCh x) :: st))) :
    Wp p l e R s m args below meth c n0 cM sM Q h cells slots (mkF m pc Ls (.int x :: st)) := by
  subst hp; exact Wp.pure (fun T t X hr => XS.i2c X C.1 rfl (hb C.2.1 hd) rfl hr) K
/-- lcmp -/
def cmpJ (x y : Int64) : Int32 := if x > y then 1 else if x = y then 0 else -1
theorem w_lcmp (C : Cx p s m meth c Z own bytes ml rt nm) {pc pc' : Nat} {Ls : Array Slot} {st : List Value} {x y : Int64} (hd : decode bytes pc = .ok (.lcmp, 1))  (hp : pc + 1 = pc') (K : Wp p l e R s m args below meth c n0 cM sM Q h cells slots (mkF m pc' Ls (.int (cmpJ x y) :: st))) :
    Wp p l e R s m args below meth c n0 cM sM Q h cells slots (mkF m pc Ls (.long y :: .long x :: st)) := by
  subst hp; exact Wp.pure (fun T t X hr => XS.lcmp X C.1 rfl (hb C.2.1 hd) rfl hr) K
theorem w_dup (C : Cx p s m meth c Z own bytes ml rt nm) {pc pc' : Nat} {Ls : Array Slot} {st : List Value} {v : Value} (hd : decode bytes pc = .ok (.dup, 1)) (hc : v.category = 1) (hp : pc + 1 = pc') (K : Wp p l e R s m args below meth c n0 cM sM Q h cells slots (mkF m pc' Ls (v :: v :: st))) :
    Wp p l e R s m args below meth c n0 cM sM Q h cells slots (mkF m pc Ls (v :: st)) := by
  subst hp; exact Wp.pure (fun T t X hr => XS.dup X C.1 rfl (hb C.2.1 hd) rfl hc hr) K
theorem w_pop (C : Cx p s m meth c Z own bytes ml rt nm) {pc pc' : Nat} {Ls : Array Slot} {st : List Value} {v : Value} (hd : decode bytes pc = .ok (.pop, 1)) (hc : v.category = 1) (hp : pc + 1 = pc') (K : Wp p l e R s m args below meth c n0 cM sM Q h cells slots (mkF m pc' Ls st)) :
    Wp p l e R s m args below meth c n0 cM sM Q h cells slots (mkF m pc Ls (v :: st)) := by
  subst hp; exact Wp.pure (fun T t X hr => XS.pop X C.1 rfl (hb C.2.1 hd) rfl hc hr) K
theorem w_dupX1 (C : Cx p s m meth c Z own bytes ml rt nm) {pc pc' : Nat} {Ls : Array Slot} {st : List Value} {v w : Value} (hd : decode bytes pc = .ok (.dup_x1, 1)) (hc : v.category = 1) (hc' : w.category = 1) (hp : pc + 1 = pc') (K : Wp p l e R s m args below meth c n0 cM sM Q h cells slots (mkF m pc' Ls (v :: w :: v :: st))) :
    Wp p l e R s m args below meth c n0 cM sM Q h cells slots (mkF m pc Ls (v :: w :: st)) := by
  subst hp; exact Wp.pure (fun T t X hr => XS.dupX1 X C.1 rfl (hb C.2.1 hd) rfl hc hc' hr) K
theorem w_dup2 (C : Cx p s m meth c Z own bytes ml rt nm) {pc pc' : Nat} {Ls : Array Slot} {st : List Value} {v w : Value} (hd : decode bytes pc = .ok (.dup2, 1)) (hc : v.category = 1) (hc' : w.category = 1) (hp : pc + 1 = pc') (K : Wp p l e R s m args below meth c n0 cM sM Q h cells slots (mkF m pc' Ls (v :: w :: v :: w :: st))) :
    Wp p l e R s m args below meth c n0 cM sM Q h cells slots (mkF m pc Ls (v :: w :: st)) := by
  subst hp; exact Wp.pure (fun T t X hr => XT.dup2 X C.1 rfl (hb C.2.1 hd) rfl hc hc' hr) K
theorem w_eqI {pc : Nat} {Ls : Array Slot} {st : List Value} {x z : Int32} (hz : x = z) (K : Wp p l e R s m args below meth c n0 cM sM Q h cells slots (mkF m pc Ls (.int z :: st))) :
    Wp p l e R s m args below meth c n0 cM sM Q h cells slots (mkF m pc Ls (.int x :: st)) := by
  subst hz; exact K
theorem w_eqJ {pc : Nat} {Ls : Array Slot} {st : List Value} {x z : Int64} (hz : x = z) (K : Wp p l e R s m args below meth c n0 cM sM Q h cells slots (mkF m pc Ls (.long z :: st))) :
    Wp p l e R s m args below meth c n0 cM sM Q h cells slots (mkF m pc Ls (.long x :: st)) := by
  subst hz; exact K
theorem w_iincE (C : Cx p s m meth c Z own bytes ml rt nm) {pc pc' : Nat} {Ls Ls' : Array Slot} {st : List Value} {k : Nat} {cst : Int} {x z : Int32} (hd : decode bytes pc = .ok (.iinc k cst, 3)) (hx : Ls[k]? = some (.val (.int x))) (hz : x + Int32.ofInt cst = z) (hl : storeLocals Ls k (.int z) = some Ls') (hp : pc + 3 = pc') (K : Wp p l e R s m args below meth c n0 cM sM Q h cells slots (mkF m pc' Ls' st)) :
    Wp p l e R s m args below meth c n0 cM sM Q h cells slots (mkF m pc Ls st) := by
  subst hz; exact w_iinc C hd hx hl hp K
theorem w_goto (C : Cx p s m meth c Z own bytes ml rt nm) {pc pc' : Nat} {Ls : Array Slot} {st : List Value} {o : Int} (hd : decode bytes pc = .ok (.goto o, 3)) (ho : 0 ≤ (pc : Int) + o) (hp : ((pc : Int) + o).toNat = pc') (K : Wp p l e R s m args below meth c n0 cM sM Q h cells slots (mkF m pc' Ls st)) :
    Wp p l e R s m args below meth c n0 cM sM Q h cells slots (mkF m pc Ls st) :=
  Wp.pure (fun T t X hr => XS.goto X C.1 rfl rfl (hb C.2.1 hd) ho hp hr) K
theorem w_icmp_lt (C : Cx p s m meth c Z own bytes ml rt nm) {pc pcT pcF : Nat} {Ls : Array Slot} {st : List Value} {x y : Int32} {o : Int} (hd : decode bytes pc = .ok (.if_icmp .lt o, 3)) (ho : 0 ≤ (pc : Int) + o) (hT : ((pc : Int) + o).toNat = pcT) (hF : pc + 3 = pcF)
    (KT : x < y → Wp p l e R s m args below meth c n0 cM sM Q h cells slots (mkF m pcT Ls st)) (KF : ¬ x < y → Wp p l e R s m args below meth c n0 cM sM Q h cells slots (mkF m pcF Ls st)) :
    Wp p l e R s m args below meth c n0 cM sM Q h cells slots (mkF m pc Ls (.int y :: .int x :: st)) := by
  subst hF
  by_cases q : x < y
  · exact Wp.pure (fun T t X hr => XS.icmpYes X C.1 rfl rfl (hb C.2.1 hd) rfl (tlt q).1 ho hT hr) (KT q)
  · exact Wp.pure (fun T t X hr => XS.icmpNo X C.1 rfl (hb C.2.1 hd) rfl (flt q).1 hr) (KF q)
theorem w_if_lt (C : Cx p s m meth c Z own bytes ml rt nm) {pc pcT pcF : Nat} {Ls : Array Slot} {st : List Value} {x : Int32} {o : Int} (hd : decode bytes pc = .ok (.ifCond .lt o, 3)) (ho : 0 ≤ (pc : Int) + o) (hT : ((pc : Int) + o).toNat = pcT) (hF : pc + 3 = pcF)
    (KT : x < 0 → Wp p l e R s m args below meth c n0 cM sM Q h cells slots (mkF m pcT Ls st)) (KF : ¬ x < 0 → Wp p l e R s m args below meth c n0 cM sM Q h cells slots (mkF m pcF Ls st)) :
    Wp p l e R s m args below meth c n0 cM sM Q h cells slots (mkF m pc Ls (.int x :: st)) := by
  subst hF
  by_cases q : x < 0
  · exact Wp.pure (fun T t X hr => XS.ifYes X C.1 rfl rfl (hb C.2.1 hd) rfl ((if0 _ _).trans (tlt q).1) ho hT hr) (KT q)
  · exact Wp.pure (fun T t X hr => XS.ifNo X C.1 rfl (hb C.2.1 hd) rfl ((if0 _ _).trans (flt q).1) hr) (KF q)
theorem w_icmp_ge (C : Cx p s m meth c Z own bytes ml rt nm) {pc pcT pcF : Nat} {Ls : Array Slot} {st : List Value} {x y : Int32} {o : Int} (hd : decode bytes pc = .ok (.if_icmp .ge o, 3)) (ho : 0 ≤ (pc : Int) + o) (hT : ((pc : Int) + o).toNat = pcT) (hF : pc + 3 = pcF)
    (KT : ¬ x < y → Wp p l e R s m args below meth c n0 cM sM Q h cells slots (mkF m pcT Ls st)) (KF : x < y → Wp p l e R s m args below meth c n0 cM sM Q h cells slots (mkF m pcF Ls st)) :
    Wp p l e R s m args below meth c n0 cM sM Q h cells slots (mkF m pc Ls (.int y :: .int x :: st)) := by
  subst hF
  by_cases q : ¬ x < y
  · exact Wp.pure (fun T t X hr => XS.icmpYes X C.1 rfl rfl (hb C.2.1 hd) rfl (flt q).2.1 ho hT hr) (KT q)
  · exact Wp.pure (fun T t X hr => XS.icmpNo X C.1 rfl (hb C.2.1 hd) rfl (tlt (Classical.not_not.mp q)).2.1 hr) (KF (Classical.not_not.mp q))
theorem w_if_ge (C : Cx p s m meth c Z own bytes ml rt nm) {pc pcT pcF : Nat} {Ls : Array Slot} {st : List Value} {x : Int32} {o : Int} (hd : decode bytes pc = .ok (.ifCond .ge o, 3)) (ho : 0 ≤ (pc : Int) + o) (hT : ((pc : Int) + o).toNat = pcT) (hF : pc + 3 = pcF)
    (KT : ¬ x < 0 → Wp p l e R s m args below meth c n0 cM sM Q h cells slots (mkF m pcT Ls st)) (KF : x < 0 → Wp p l e R s m args below meth c n0 cM sM Q h cells slots (mkF m pcF Ls st)) :
    Wp p l e R s m args below meth c n0 cM sM Q h cells slots (mkF m pc Ls (.int x :: st)) := by
  subst hF
  by_cases q : ¬ x < 0
  · exact Wp.pure (fun T t X hr => XS.ifYes X C.1 rfl rfl (hb C.2.1 hd) rfl ((if0 _ _).trans (flt q).2.1) ho hT hr) (KT q)
  · exact Wp.pure (fun T t X hr => XS.ifNo X C.1 rfl (hb C.2.1 hd) rfl ((if0 _ _).trans (tlt (Classical.not_not.mp q)).2.1) hr) (KF (Classical.not_not.mp q))
theorem w_icmp_gt (C : Cx p s m meth c Z own bytes ml rt nm) {pc pcT pcF : Nat} {Ls : Array Slot} {st : List Value} {x y : Int32} {o : Int} (hd : decode bytes pc = .ok (.if_icmp .gt o, 3)) (ho : 0 ≤ (pc : Int) + o) (hT : ((pc : Int) + o).toNat = pcT) (hF : pc + 3 = pcF)
    (KT : y < x → Wp p l e R s m args below meth c n0 cM sM Q h cells slots (mkF m pcT Ls st)) (KF : ¬ y < x → Wp p l e R s m args below meth c n0 cM sM Q h cells slots (mkF m pcF Ls st)) :
    Wp p l e R s m args below meth c n0 cM sM Q h cells slots (mkF m pc Ls (.int y :: .int x :: st)) := by
  subst hF
  by_cases q : y < x
  · exact Wp.pure (fun T t X hr => XS.icmpYes X C.1 rfl rfl (hb C.2.1 hd) rfl (tlt q).2.2.1 ho hT hr) (KT q)
  · exact Wp.pure (fun T t X hr => XS.icmpNo X C.1 rfl (hb C.2.1 hd) rfl (flt q).2.2.1 hr) (KF q)
theorem w_if_gt (C : Cx p s m meth c Z own bytes ml rt nm) {pc pcT pcF : Nat} {Ls : Array Slot} {st : List Value} {x : Int32} {o : Int} (hd : decode bytes pc = .ok (.ifCond .gt o, 3)) (ho : 0 ≤ (pc : Int) + o) (hT : ((pc : Int) + o).toNat = pcT) (hF : pc + 3 = pcF)
    (KT : 0 < x → Wp p l e R s m args below meth c n0 cM sM Q h cells slots (mkF m pcT Ls st)) (KF : ¬ 0 < x → Wp p l e R s m args below meth c n0 cM sM Q h cells slots (mkF m pcF Ls st)) :
    Wp p l e R s m args below meth c n0 cM sM Q h cells slots (mkF m pc Ls (.int x :: st)) := by
  subst hF
  by_cases q : 0 < x
  · exact Wp.pure (fun T t X hr => XS.ifYes X C.1 rfl rfl (hb C.2.1 hd) rfl ((if0 _ _).trans (tlt q).2.2.1) ho hT hr) (KT q)
  · exact Wp.pure (fun T t X hr => XS.ifNo X C.1 rfl (hb C.2.1 hd) rfl ((if0 _ _).trans (flt q).2.2.1) hr) (KF q)
theorem w_icmp_le (C : Cx p s m meth c Z own bytes ml rt nm) {pc pcT pcF : Nat} {Ls : Array Slot} {st : List Value} {x y : Int32} {o : Int} (hd : decode bytes pc = .ok (.if_icmp .le o, 3)) (ho : 0 ≤ (pc : Int) + o) (hT : ((pc : Int) + o).toNat = pcT) (hF : pc + 3 = pcF)
    (KT : ¬ y < x → Wp p l e R s m args below meth c n0 cM sM Q h cells slots (mkF m pcT Ls st)) (KF : y < x → Wp p l e R s m args below meth c n0 cM sM Q h cells slots (mkF m pcF Ls st)) :
    Wp p l e R s m args below meth c n0 cM sM Q h cells slots (mkF m pc Ls (.int y :: .int x :: st)) := by
  subst hF
  by_cases q : ¬ y < x
  · exact Wp.pure (fun T t X hr => XS.icmpYes X C.1 rfl rfl (hb C.2.1 hd) rfl (flt q).2.2.2 ho hT hr) (KT q)
  · exact Wp.pure (fun T t X hr => XS.icmpNo X C.1 rfl (hb C.2.1 hd) rfl (tlt (Classical.not_not.mp q)).2.2.2 hr) (KF (Classical.not_not.mp q))
theorem w_if_le (C : Cx p s m meth c Z own bytes ml rt nm) {pc pcT pcF : Nat} {Ls : Array Slot} {st : List Value} {x : Int32} {o : Int} (hd : decode bytes pc = .ok (.ifCond .le o, 3)) (ho : 0 ≤ (pc : Int) + o) (hT : ((pc : Int) + o).toNat = pcT) (hF : pc + 3 = pcF)
    (KT : ¬ 0 < x → Wp p l e R s m args below meth c n0 cM sM Q h cells slots (mkF m pcT Ls st)) (KF : 0 < x → Wp p l e R s m args below meth c n0 cM sM Q h cells slots (mkF m pcF Ls st)) :
    Wp p l e R s m args below meth c n0 cM sM Q h cells slots (mkF m pc Ls (.int x :: st)) := by
  subst hF
  by_cases q : ¬ 0 < x
  · exact Wp.pure (fun T t X hr => XS.ifYes X C.1 rfl rfl (hb C.2.1 hd) rfl ((if0 _ _).trans (flt q).2.2.2) ho hT hr) (KT q)
  · exact Wp.pure (fun T t X hr => XS.ifNo X C.1 rfl (hb C.2.1 hd) rfl ((if0 _ _).trans (tlt (Classical.not_not.mp q)).2.2.2) hr) (KF (Classical.not_not.mp q))
theorem w_icmp_eq (C : Cx p s m meth c Z own bytes ml rt nm) {pc pcT pcF : Nat} {Ls : Array Slot} {st : List Value} {x y : Int32} {o : Int} (hd : decode bytes pc = .ok (.if_icmp .eq o, 3)) (ho : 0 ≤ (pc : Int) + o) (hT : ((pc : Int) + o).toNat = pcT) (hF : pc + 3 = pcF)
    (KT : x = y → Wp p l e R s m args below meth c n0 cM sM Q h cells slots (mkF m pcT Ls st)) (KF : ¬ x = y → Wp p l e R s m args below meth c n0 cM sM Q h cells slots (mkF m pcF Ls st)) :
    Wp p l e R s m args below meth c n0 cM sM Q h cells slots (mkF m pc Ls (.int y :: .int x :: st)) := by
  subst hF
  by_cases q : x = y
  · exact Wp.pure (fun T t X hr => XS.icmpYes X C.1 rfl rfl (hb C.2.1 hd) rfl (teq q).1 ho hT hr) (KT q)
  · exact Wp.pure (fun T t X hr => XS.icmpNo X C.1 rfl (hb C.2.1 hd) rfl (feq q).1 hr) (KF q)
theorem w_if_eq (C : Cx p s m meth c Z own bytes ml rt nm) {pc pcT pcF : Nat} {Ls : Array Slot} {st : List Value} {x : Int32} {o : Int} (hd : decode bytes pc = .ok (.ifCond .eq o, 3)) (ho : 0 ≤ (pc : Int) + o) (hT : ((pc : Int) + o).toNat = pcT) (hF : pc + 3 = pcF)
    (KT : x = 0 → Wp p l e R s m args below meth c n0 cM sM Q h cells slots (mkF m pcT Ls st)) (KF : ¬ x = 0 → Wp p l e R s m args below meth c n0 cM sM Q h cells slots (mkF m pcF Ls st)) :
    Wp p l e R s m args below meth c n0 cM sM Q h cells slots (mkF m pc Ls (.int x :: st)) := by
  subst hF
  by_cases q : x = 0
  · exact Wp.pure (fun T t X hr => XS.ifYes X C.1 rfl rfl (hb C.2.1 hd) rfl ((if0 _ _).trans (teq q).1) ho hT hr) (KT q)
  · exact Wp.pure (fun T t X hr => XS.ifNo X C.1 rfl (hb C.2.1 hd) rfl ((if0 _ _).trans (feq q).1) hr) (KF q)
theorem w_icmp_ne (C : Cx p s m meth c Z own bytes ml rt nm) {pc pcT pcF : Nat} {Ls : Array Slot} {st : List Value} {x y : Int32} {o : Int} (hd : decode bytes pc = .ok (.if_icmp .ne o, 3)) (ho : 0 ≤ (pc : Int) + o) (hT : ((pc : Int) + o).toNat = pcT) (hF : pc + 3 = pcF)
    (KT : ¬ x = y → Wp p l e R s m args below meth c n0 cM sM Q h cells slots (mkF m pcT Ls st)) (KF : x = y → Wp p l e R s m args below meth c n0 cM sM Q h cells slots (mkF m pcF Ls st)) :
    Wp p l e R s m args below meth c n0 cM sM Q h cells slots (mkF m pc Ls (.int y :: .int x :: st)) := by
  subst hF
  by_cases q : ¬ x = y
  · exact Wp.pure (fun T t X hr => XS.icmpYes X C.1 rfl rfl (hb C.2.1 hd) rfl (feq q).2 ho hT hr) (KT q)
  · exact Wp.pure (fun T t X hr => XS.icmpNo X C.1 rfl (hb C.2.1 hd) rfl (teq (Classical.not_not.mp q)).2 hr) (KF (Classical.not_not.mp q))
theorem w_if_ne (C : Cx p s m meth c Z own bytes ml rt nm) {pc pcT pcF : Nat} {Ls : Array Slot} {st : List Value} {x : Int32} {o : Int} (hd : decode bytes pc = .ok (.ifCond .ne o, 3)) (ho : 0 ≤ (pc : Int) + o) (hT : ((pc : Int) + o).toNat = pcT) (hF : pc + 3 = pcF)
    (KT : ¬ x = 0 → Wp p l e R s m args below meth c n0 cM sM Q h cells slots (mkF m pcT Ls st)) (KF : x = 0 → Wp p l e R s m args below meth c n0 cM sM Q h cells slots (mkF m pcF Ls st)) :
    Wp p l e R s m args below meth c n0 cM sM Q h cells slots (mkF m pc Ls (.int x :: st)) := by
  subst hF
  by_cases q : ¬ x = 0
  · exact Wp.pure (fun T t X hr => XS.ifYes X C.1 rfl rfl (hb C.2.1 hd) rfl ((if0 _ _).trans (feq q).2) ho hT hr) (KT q)
  · exact Wp.pure (fun T t X hr => XS.ifNo X C.1 rfl (hb C.2.1 hd) rfl ((if0 _ _).trans (teq (Classical.not_not.mp q)).2) hr) (KF (Classical.not_not.mp q))
theorem w_ifnull_null (C : Cx p s m meth c Z own bytes ml rt nm) {pc pc' : Nat} {Ls : Array Slot} {st : List Value}  {o : Int} (hd : decode bytes pc = .ok (.ifnull o, 3)) (ho : 0 ≤ (pc : Int) + o) (hp : ((pc : Int) + o).toNat = pc') (K : Wp p l e R s m args below meth c n0 cM sM Q h cells slots (mkF m pc' Ls st)) :
    Wp p l e R s m args below meth c n0 cM sM Q h cells slots (mkF m pc Ls (.null :: st)) :=
  Wp.pure (fun T t X hr => XS.ifnullYes X C.1 rfl rfl (hb C.2.1 hd) rfl ho hp hr) K
theorem w_ifnull_ref (C : Cx p s m meth c Z own bytes ml rt nm) {pc pc' : Nat} {Ls : Array Slot} {st : List Value} {b : Addr} {o : Int} (hd : decode bytes pc = .ok (.ifnull o, 3)) (hp : pc + 3 = pc') (K : Wp p l e R s m args below meth c n0 cM sM Q h cells slots (mkF m pc' Ls st)) :
    Wp p l e R s m args below meth c n0 cM sM Q h cells slots (mkF m pc Ls (.ref b :: st)) := by
  subst hp; exact Wp.pure (fun T t X hr => XS.ifnullNo X C.1 rfl (hb C.2.1 hd) rfl hr) K
theorem w_ifnonnull_ref (C : Cx p s m meth c Z own bytes ml rt nm) {pc pc' : Nat} {Ls : Array Slot} {st : List Value} {b : Addr} {o : Int} (hd : decode bytes pc = .ok (.ifnonnull o, 3)) (ho : 0 ≤ (pc : Int) + o) (hp : ((pc : Int) + o).toNat = pc') (K : Wp p l e R s m args below meth c n0 cM sM Q h cells slots (mkF m pc' Ls st)) :
    Wp p l e R s m args below meth c n0 cM sM Q h cells slots (mkF m pc Ls (.ref b :: st)) :=
  Wp.pure (fun T t X hr => XS.ifnonnullYes X C.1 rfl rfl (hb C.2.1 hd) rfl ho hp hr) K
theorem w_ifnonnull_null (C : Cx p s m meth c Z own bytes ml rt nm) {pc pc' : Nat} {Ls : Array Slot} {st : List Value}  {o : Int} (hd : decode bytes pc = .ok (.ifnonnull o, 3)) (hp : pc + 3 = pc') (K : Wp p l e R s m args below meth c n0 cM sM Q h cells slots (mkF m pc' Ls st)) :
    Wp p l e R s m args below meth c n0 cM sM Q h cells slots (mkF m pc Ls (.null :: st)) := by
  subst hp; exact Wp.pure (fun T t X hr => XS.ifnonnullNo X C.1 rfl (hb C.2.1 hd) rfl hr) K
theorem w_acmp_eq (C : Cx p s m meth c Z own bytes ml rt nm) {pc pcT pcF : Nat} {Ls : Array Slot} {st : List Value} {v w : Value} {o : Int} (hv : v.isRef = true) (hw : w.isRef = true) (hd : decode bytes pc = .ok (.if_acmp .eq o, 3)) (ho : 0 ≤ (pc : Int) + o) (hT : ((pc : Int) + o).toNat = pcT) (hF : pc + 3 = pcF)
    (KT : v = w → Wp p l e R s m args below meth c n0 cM sM Q h cells slots (mkF m pcT Ls st)) (KF : ¬ v = w → Wp p l e R s m args below meth c n0 cM sM Q h cells slots (mkF m pcF Ls st)) :
    Wp p l e R s m args below meth c n0 cM sM Q h cells slots (mkF m pc Ls (w :: v :: st)) := by
  intro T locs X e0 N
  by_cases q : v = w
  · obtain ⟨s2, u, L, a, r⟩ := KT q T locs X e0 N
    exact ⟨s2, u, L, Jvm.RoadKit.acmp (g := mkF m pc Ls (w :: v :: st)) X C.1 rfl hv hw (pc0 := pc) (same := true) rfl (hb C.2.1 hd) rfl (decide_eq_true q) ho (by simp [acV, hT, hF]) a, r⟩
  · obtain ⟨s2, u, L, a, r⟩ := KF q T locs X e0 N
    exact ⟨s2, u, L, Jvm.RoadKit.acmp (g := mkF m pc Ls (w :: v :: st)) X C.1 rfl hv hw (pc0 := pc) (same := false) rfl (hb C.2.1 hd) rfl (decide_eq_false q) ho (by simp [acV, hT, hF]) a, r⟩
theorem w_acmp_ne (C : Cx p s m meth c Z own bytes ml rt nm) {pc pcT pcF : Nat} {Ls : Array Slot} {st : List Value} {v w : Value} {o : Int} (hv : v.isRef = true) (hw : w.isRef = true) (hd : decode bytes pc = .ok (.if_acmp .ne o, 3)) (ho : 0 ≤ (pc : Int) + o) (hT : ((pc : Int) + o).toNat = pcT) (hF : pc + 3 = pcF)
    (KT : ¬ v = w → Wp p l e R s m args below meth c n0 cM sM Q h cells slots (mkF m pcT Ls st)) (KF : v = w → Wp p l e R s m args below meth c n0 cM sM Q h cells slots (mkF m pcF Ls st)) :
    Wp p l e R s m args below meth c n0 cM sM Q h cells slots (mkF m pc Ls (w :: v :: st)) := by
  intro T locs X e0 N
  by_cases q : v = w
  · obtain ⟨s2, u, L, a, r⟩ := KF q T locs X e0 N
    exact ⟨s2, u, L, Jvm.RoadKit.acmp (g := mkF m pc Ls (w :: v :: st)) X C.1 rfl hv hw (pc0 := pc) (same := true) rfl (hb C.2.1 hd) rfl (decide_eq_true q) ho (by simp [acV, hT, hF]) a, r⟩
  · obtain ⟨s2, u, L, a, r⟩ := KT q T locs X e0 N
    exact ⟨s2, u, L, Jvm.RoadKit.acmp (g := mkF m pc Ls (w :: v :: st)) X C.1 rfl hv hw (pc0 := pc) (same := false) rfl (hb C.2.1 hd) rfl (decide_eq_false q) ho (by simp [acV, hT, hF]) a, r⟩
theorem w_ldcI (C : Cx p s m meth c Z own bytes ml rt nm) {pc pc' : Nat} {Ls : Array Slot} {st : List Value} {i : Nat} {x : Int32} (w : (Jvm.Cond.constant own i x).before a0 Z = true) (hd : decode bytes pc = .ok (.ldc i, 2)) (hp : pc + 2 = pc') (K : Wp p l e R s m args below meth c n0 cM sM Q h cells slots (mkF m pc' Ls (.int x :: st))) :
    Wp p l e R s m args below meth c n0 cM sM Q h cells slots (mkF m pc Ls st) := by
  subst hp; intro T locs X e0 N
  obtain ⟨s2, v, L, a, r⟩ := K T locs X e0 N
  exact ⟨s2, v, L, X.ldcInt C.1 C.2.2.2.1 (mvT C.2.2.1 w) (g := mkF m pc Ls st) rfl (hb C.2.1 hd) _ a, r⟩
theorem w_ldcwI (C : Cx p s m meth c Z own bytes ml rt nm) {pc pc' : Nat} {Ls : Array Slot} {st : List Value} {i : Nat} {x : Int32} (w : (Jvm.Cond.constant own i x).before a0 Z = true) (hd : decode bytes pc = .ok (.ldc_w i, 3)) (hp : pc + 3 = pc') (K : Wp p l e R s m args below meth c n0 cM sM Q h cells slots (mkF m pc' Ls (.int x :: st))) :
    Wp p l e R s m args below meth c n0 cM sM Q h cells slots (mkF m pc Ls st) := by
  subst hp; intro T locs X e0 N
  obtain ⟨s2, v, L, a, r⟩ := K T locs X e0 N
  exact ⟨s2, v, L, X.ldcwInt C.1 C.2.2.2.1 (mvT C.2.2.1 w) (g := mkF m pc Ls st) rfl (hb C.2.1 hd) _ a, r⟩
theorem w_ldc2J (C : Cx p s m meth c Z own bytes ml rt nm) {pc pc' : Nat} {Ls : Array Slot} {st : List Value} {i : Nat} {x : Int64} (w : (Jvm.Cond.constantLong own i x).before a0 Z = true) (hd : decode bytes pc = .ok (.ldc2_w i, 3)) (hp : pc + 3 = pc') (K : Wp p l e R s m args below meth c n0 cM sM Q h cells slots (mkF m pc' Ls (.long x :: st))) :
    Wp p l e R s m args below meth c n0 cM sM Q h cells slots (mkF m pc Ls st) := by
  subst hp; intro T locs X e0 N
  obtain ⟨s2, v, L, a, r⟩ := K T locs X e0 N
  exact ⟨s2, v, L, X.ldc2Long C.1 C.2.2.2.1 (mvT C.2.2.1 w) (g := mkF m pc Ls st) rfl (hb C.2.1 hd) _ a, r⟩
theorem w_retN (C : Cx p s m meth c Z own bytes ml rt nm) {pc : Nat} {Ls : Array Slot} {st : List Value} {z : Int32} {t : FieldType} (hrt : rt = some t) (ht : t = .boolean ∨ t = .byte ∨ t = .char ∨ t = .short) (hd : decode bytes pc = .ok (.ireturn, 1)) (hc : cells ≤ cM) (hs : slots ≤ sM) (q : Q (some (.int (nar t z))) h) :
    Wp p l e R s m args below meth c n0 cM sM Q h cells slots (mkF m pc Ls (.int z :: st)) :=
  have hr : meth.sig.returnType = some t := C.2.2.2.2.2.1.trans hrt
  Wp.ret C (fun T fs locs X hl => retN X C.1 hr ht (hb C.2.1 hd) hl) (fun q => by rw [hr] at q; cases q) hc hs q
theorem narB0 : nar .boolean 0 = 0 := by decide
theorem narB1 : nar .boolean 1 = 1 := by decide
theorem w_retN' (C : Cx p s m meth c Z own bytes ml rt nm) {pc : Nat} {Ls : Array Slot} {st : List Value} {z z' : Int32} {t : FieldType} (hrt : rt = some t) (ht : t = .boolean ∨ t = .byte ∨ t = .char ∨ t = .short) (hd : decode bytes pc = .ok (.ireturn, 1)) (hc : cells ≤ cM) (hs : slots ≤ sM) (hz : nar t z = z') (q : Q (some (.int z')) h) :
    Wp p l e R s m args below meth c n0 cM sM Q h cells slots (mkF m pc Ls (.int z :: st)) := by
  subst hz; exact w_retN C hrt ht hd hc hs q
theorem ireturn_step {T : State} {locs : List Loc} (X : Stand p l e R s m args below meth c T locs cells slots) (hx : p.tables.exec = Jvm.exec) {pc : Nat} {Ls : Array Slot} {z : Int32} {rest : List Value} (hret : meth.sig.returnType = some .int) (hd : decode c.code pc = .ok (.ireturn, 1)) {fs : List Frame}
    (hl : ∀ (f : JFrame) (acts : List Action), f.method = m → f.locked = none → f.entered = [] → (doReturn e (T.setTop f) acts (some (.int z))).1 = T.setFrames fs) : Steps p.tables e below (T.setTop (mkF m pc Ls (.int z :: rest))) (T.setFrames fs) :=
  retOut X hx (t := .int) (i := .ireturn) hret rfl (Or.inl ⟨rfl, Or.inl rfl, _, rfl⟩) hd hl
theorem w_retI (C : Cx p s m meth c Z own bytes ml rt nm) {pc : Nat} {Ls : Array Slot} {st : List Value} {z : Int32} (hrt : rt = some .int) (hd : decode bytes pc = .ok (.ireturn, 1)) (hc : cells ≤ cM) (hs : slots ≤ sM) (q : Q (some (.int z)) h) :
    Wp p l e R s m args below meth c n0 cM sM Q h cells slots (mkF m pc Ls (.int z :: st)) :=
  have hr : meth.sig.returnType = some .int := C.2.2.2.2.2.1.trans hrt
  Wp.ret C (fun T fs locs X hl => ireturn_step X C.1 hr (hb C.2.1 hd) hl) (fun q => by rw [hr] at q; cases q) hc hs q
theorem w_retJ (C : Cx p s m meth c Z own bytes ml rt nm) {pc : Nat} {Ls : Array Slot} {st : List Value} {z : Int64} (hrt : rt = some .long) (hd : decode bytes pc = .ok (.lreturn, 1)) (hc : cells ≤ cM) (hs : slots ≤ sM) (q : Q (some (.long z)) h) :
    Wp p l e R s m args below meth c n0 cM sM Q h cells slots (mkF m pc Ls (.long z :: st)) :=
  have hr : meth.sig.returnType = some .long := C.2.2.2.2.2.1.trans hrt
  Wp.ret C (fun T fs locs X hl => retOut X C.1 (t := .long) (i := .lreturn) hr rfl (Or.inr (Or.inl ⟨rfl, rfl, _, rfl⟩)) (hb C.2.1 hd) hl) (fun q => by rw [hr] at q; cases q) hc hs q
theorem w_retA (C : Cx p s m meth c Z own bytes ml rt nm) {pc : Nat} {Ls : Array Slot} {st : List Value} {v : Value} {t : FieldType} (hrt : rt = some t) (ht : t.isReference = true) (hv : v.isRef = true) (hd : decode bytes pc = .ok (.areturn, 1)) (hc : cells ≤ cM) (hs : slots ≤ sM) (q : Q (some v) h) :
    Wp p l e R s m args below meth c n0 cM sM Q h cells slots (mkF m pc Ls (v :: st)) :=
  have hr : meth.sig.returnType = some t := C.2.2.2.2.2.1.trans hrt
  Wp.ret C (fun T fs locs X hl => retOut X C.1 (t := t) (i := .areturn) hr (by cases v <;> simp [Value.isRef] at hv <;> cases t <;> first | rfl | (simp [FieldType.isReference] at ht)) (Or.inr (Or.inr (Or.inr (Or.inr ⟨rfl, ht, hv⟩)))) (hb C.2.1 hd) hl) (fun q => by rw [hr] at q; cases q) hc hs q
theorem w_ret0 (C : Cx p s m meth c Z own bytes ml rt nm) {pc : Nat} {Ls : Array Slot} (hrt : rt = none) (hd : decode bytes pc = .ok (.return_, 1)) (hc : cells ≤ cM) (hs : slots ≤ sM) (q : Q none h) :
    Wp p l e R s m args below meth c n0 cM sM Q h cells slots (mkF m pc Ls []) :=
  have hr : meth.sig.returnType = none := C.2.2.2.2.2.1.trans hrt
  Wp.ret C (fun T fs locs X hl => X.returnOut C.1 hr (hb C.2.1 hd) hl) (fun _ => rfl) hc hs q
theorem w_getF (C : Cx p s m meth c Z own bytes ml rt nm) {pc pc' : Nat} {Ls : Array Slot} {st : List Value} {O n d : String} {i : Nat} {a : Addr} {v : Value} (w : (Jvm.Cond.fieldLink own i O n d).before a0 Z = true) (hd : decode bytes pc = .ok (.getfield i, 3)) (hp : pc + 3 = pc') (F : Fld Z h a O n d v) (K : Wp p l e R s m args below meth c n0 cM sM Q h cells slots (mkF m pc' Ls (v :: st))) :
    Wp p l e R s m args below meth c n0 cM sM Q h cells slots (mkF m pc Ls (.ref a :: st)) := by
  subst hp
  exact Wp.law (fun T locs X e0 => getF X C.1 C.2.2.1 C.2.2.2.1 (host := "") (Or.inl w) Via.refl e0 F (g := mkF m pc Ls (.ref a :: st)) rfl rfl (hb C.2.1 hd)) K
theorem w_getFN (C : Cx p s m meth c Z own bytes ml rt nm) {pc pc' : Nat} {Ls : Array Slot} {st : List Value} {O n d host : String} {i : Nat} {a : Addr} {v : Value} (w : (Jvm.Cond.fieldLinkNest own i O n d host).before a0 Z = true) (hd : decode bytes pc = .ok (.getfield i, 3)) (hp : pc + 3 = pc') (F : Fld Z h a O n d v) (K : Wp p l e R s m args below meth c n0 cM sM Q h cells slots (mkF m pc' Ls (v :: st))) :
    Wp p l e R s m args below meth c n0 cM sM Q h cells slots (mkF m pc Ls (.ref a :: st)) := by
  subst hp
  exact Wp.law (fun T locs X e0 => getF X C.1 C.2.2.1 C.2.2.2.1 (Or.inr w) Via.refl e0 F (g := mkF m pc Ls (.ref a :: st)) rfl rfl (hb C.2.1 hd)) K
theorem w_getS (C : Cx p s m meth c Z own bytes ml rt nm) {pc pc' : Nat} {Ls : Array Slot} {st : List Value} {O n d : String} {i : Nat} {v : Value} (w : (Jvm.Cond.fieldLink own i O n d).before a0 Z = true) (hd : decode bytes pc = .ok (.getstatic i, 3)) (hp : pc + 3 = pc') (F : Sta Z h O n d v) (K : Wp p l e R s m args below meth c n0 cM sM Q h cells slots (mkF m pc' Ls (v :: st))) :
    Wp p l e R s m args below meth c n0 cM sM Q h cells slots (mkF m pc Ls st) := by
  subst hp
  exact Wp.law (fun T locs X e0 => getS X C.1 C.2.2.1 C.2.2.2.1 (host := "") w Via.refl e0 F (g := mkF m pc Ls st) rfl (hb C.2.1 hd)) K
theorem w_putF (C : Cx p s m meth c Z own bytes ml rt nm) {pc pc' : Nat} {Ls : Array Slot} {st : List Value} {O n d Cl : String} {i kk : Nat} {a : Addr} {v old : Value} {ty : FieldType} (w : (Jvm.Cond.fieldLink own i O n d).before a0 Z = true) (L : (Jvm.Cond.lays Cl O n d).before a0 Z = true ∨ ((Jvm.Cond.laysFinal Cl O n d).before a0 Z = true ∧ own = O ∧ nm = "<init>")) (wi : (Jvm.Cond.instantiable Cl kk).before a0 Z = true)
    (hty : parseFieldDescriptor d = some ty) (hn : narrow ty v = v) (hf : fits ty v = true) (hd : decode bytes pc = .ok (.putfield i, 3)) (hp : pc + 3 = pc') (g0 : n0 ≤ a) (F : Fld Z h a O n d old) (E : Exa Z h a Cl)
    (K : ∀ h', Wr h h' a (Jvm.RoadKit.slotOf Z O n d) v → Wp p l e R s m args below meth c n0 cM sM Q h' cells slots (mkF m pc' Ls st)) :
    Wp p l e R s m args below meth c n0 cM sM Q h cells slots (mkF m pc Ls (v :: .ref a :: st)) := by
  subst hp
  intro T locs X e0 N
  obtain ⟨T', h', X', e', W, st'⟩ := putF X C.1 C.2.2.1 C.2.2.2.1 (host := "") (Or.inl w) Via.refl e0 F E (L.imp id fun q => ⟨q.1, q.2.1, C.2.2.2.2.2.2.1.trans q.2.2⟩) wi hty hn hf (g := mkF m pc Ls (v :: .ref a :: st)) rfl rfl (hb C.2.1 hd)
  obtain ⟨s2, u, Lc, x, r⟩ := K h' W T' _ X' e' (Fr.snoc X' N g0)
  exact ⟨s2, u, Lc, st' _ x, r⟩
theorem w_putFN (C : Cx p s m meth c Z own bytes ml rt nm) {pc pc' : Nat} {Ls : Array Slot} {st : List Value} {O n d Cl : String} {i kk : Nat} {a : Addr} {v old : Value} {ty : FieldType} {host : String} (w : (Jvm.Cond.fieldLinkNest own i O n d host).before a0 Z = true) (L : (Jvm.Cond.lays Cl O n d).before a0 Z = true ∨ ((Jvm.Cond.laysFinal Cl O n d).before a0 Z = true ∧ own = O ∧ nm = "<init>")) (wi : (Jvm.Cond.instantiable Cl kk).before a0 Z = true)
    (hty : parseFieldDescriptor d = some ty) (hn : narrow ty v = v) (hf : fits ty v = true) (hd : decode bytes pc = .ok (.putfield i, 3)) (hp : pc + 3 = pc') (g0 : n0 ≤ a) (F : Fld Z h a O n d old) (E : Exa Z h a Cl)
    (K : ∀ h', Wr h h' a (Jvm.RoadKit.slotOf Z O n d) v → Wp p l e R s m args below meth c n0 cM sM Q h' cells slots (mkF m pc' Ls st)) :
    Wp p l e R s m args below meth c n0 cM sM Q h cells slots (mkF m pc Ls (v :: .ref a :: st)) := by
  subst hp
  intro T locs X e0 N
  obtain ⟨T', h', X', e', W, st'⟩ := putF X C.1 C.2.2.1 C.2.2.2.1 (Or.inr w) Via.refl e0 F E (L.imp id fun q => ⟨q.1, q.2.1, C.2.2.2.2.2.2.1.trans q.2.2⟩) wi hty hn hf (g := mkF m pc Ls (v :: .ref a :: st)) rfl rfl (hb C.2.1 hd)
  obtain ⟨s2, u, Lc, x, r⟩ := K h' W T' _ X' e' (Fr.snoc X' N g0)
  exact ⟨s2, u, Lc, st' _ x, r⟩
theorem w_putFZ (C : Cx p s m meth c Z own bytes ml rt nm) {pc pc' : Nat} {Ls : Array Slot} {st : List Value} {O n d Cl : String} {i kk : Nat} {a : Addr} {v v' old : Value} {ty : FieldType} (w : (Jvm.Cond.fieldLink own i O n d).before a0 Z = true) (L : (Jvm.Cond.lays Cl O n d).before a0 Z = true ∨ ((Jvm.Cond.laysFinal Cl O n d).before a0 Z = true ∧ own = O ∧ nm = "<init>")) (wi : (Jvm.Cond.instantiable Cl kk).before a0 Z = true)
    (hty : parseFieldDescriptor d = some ty) (hn : narrow ty v = v') (hf : fits ty v' = true) (hd : decode bytes pc = .ok (.putfield i, 3)) (hp : pc + 3 = pc') (g0 : n0 ≤ a) (F : Fld Z h a O n d old) (E : Exa Z h a Cl)
    (K : ∀ h', Wr h h' a (Jvm.RoadKit.slotOf Z O n d) v' → Wp p l e R s m args below meth c n0 cM sM Q h' cells slots (mkF m pc' Ls st)) :
    Wp p l e R s m args below meth c n0 cM sM Q h cells slots (mkF m pc Ls (v :: .ref a :: st)) := by
  subst hp
  intro T locs X e0 N
  obtain ⟨T', h', X', e', W, st'⟩ := putFN X C.1 C.2.2.1 C.2.2.2.1 w Via.refl e0 F E (L.imp id fun q => ⟨q.1, q.2.1, C.2.2.2.2.2.2.1.trans q.2.2⟩) wi hty hn hf (g := mkF m pc Ls (v :: .ref a :: st)) rfl rfl (hb C.2.1 hd)
  obtain ⟨s2, u, Lc, x, r⟩ := K h' W T' _ X' e' (Fr.snoc X' N g0)
  exact ⟨s2, u, Lc, st' _ x, r⟩
theorem ready39 {Z : State} {vm' : Vm} {cur i c : Nat} {f : Field} (h : Z.Warmed39 vm') (r : Z.vm.fieldReady cur i c f) : vm'.fieldReady cur i c f := by
  obtain ⟨k, j, kc, h1, h2, h3, h4⟩ := r
  obtain ⟨k', a1, a2, -, a4, -⟩ := h.2.2.2 cur k h1
  obtain ⟨kc', b1, b2, -⟩ := h.2.2.2 c kc h3
  refine ⟨k', j, kc', a1, ?_, b1, by rw [b2]; exact h4⟩
  rcases a4 i with q | ⟨q, -⟩
  · rw [q]; exact h2
  · rw [h2] at q; cases q
/-- a field whose entry is resolved already -/
theorem w_getFR (C : Cx p s m meth c Z own bytes ml rt nm) {pc pc' : Nat} {Ls : Array Slot} {st : List Value} {O n d : String} {i : Nat} {a : Addr} {v : Value} (w : (Jvm.Cond.fieldRef own i O n d).before a0 Z = true) (hd : decode bytes pc = .ok (.getfield i, 3)) (hp : pc + 3 = pc') (F : Fld Z h a O n d v) (K : Wp p l e R s m args below meth c n0 cM sM Q h cells slots (mkF m pc' Ls (v :: st))) :
    Wp p l e R s m args below meth c n0 cM sM Q h cells slots (mkF m pc Ls (.ref a :: st)) := by
  subst hp
  refine Wp.law (fun T locs X e0 => ⟨T, X, e0, fun t hr => ?_⟩) K
  obtain ⟨cell, cf, k, ix, f, h1, h2, h3, h4, h5, h6, h7⟩ := F
  have hown := C.2.2.2.1
  rw [C.2.2.1.alike.findClass] at hown
  obtain ⟨cf', k', ix', f', g1, g2⟩ := Cond.fieldRef_spec hown w
  cases h2.symm.trans g1
  have hready := ready39 (wtrans C.2.2.1 X.warmed) g2
  have hexec := C.1
  have hdg := hb C.2.1 hd
  have hcell : T.heap[a]? = some cell := by rw [e0]; exact h1
  show Steps p.tables e below (T.setTop (mkF m pc Ls (.ref a :: st))) t
  jvm_step X.here [hexec, hdg, getfield.wp_ready (e := e) (s := T) (f := mkF m pc Ls (.ref a :: st)) X.here.top hready h3 rfl hcell h4 h7]
  exact hr
theorem w_putFR (C : Cx p s m meth c Z own bytes ml rt nm) {pc pc' : Nat} {Ls : Array Slot} {st : List Value} {O n d Cl : String} {i kk : Nat} {a : Addr} {v old : Value} {ty : FieldType} (w : (Jvm.Cond.fieldRef own i O n d).before a0 Z = true) (L : (Jvm.Cond.lays Cl O n d).before a0 Z = true) (wi : (Jvm.Cond.instantiable Cl kk).before a0 Z = true)
    (hty : parseFieldDescriptor d = some ty) (hn : narrow ty v = v) (hf : fits ty v = true) (hd : decode bytes pc = .ok (.putfield i, 3)) (hp : pc + 3 = pc') (g0 : n0 ≤ a) (F : Fld Z h a O n d old) (E : Exa Z h a Cl)
    (K : ∀ h', Wr h h' a (Jvm.RoadKit.slotOf Z O n d) v → Wp p l e R s m args below meth c n0 cM sM Q h' cells slots (mkF m pc' Ls st)) :
    Wp p l e R s m args below meth c n0 cM sM Q h cells slots (mkF m pc Ls (v :: .ref a :: st)) := by
  subst hp
  intro T locs X e0 N
  obtain ⟨cell, cf, k, ix, f, h1, h2, h3, h4, h5, -, h7⟩ := F
  obtain ⟨cell', kc, e1, e2, e3, -⟩ := E
  cases h1.symm.trans e1
  obtain ⟨c1, k1, cf1, kf1, i1, f1, a1, a2, a3, -, -, a6, -⟩ := Laid.spec (a0 := a0) (Or.inl L)
  cases h2.symm.trans a3
  cases e2.symm.trans a1
  obtain ⟨c2, k2, j1, j2, j3, -⟩ := Cond.instantiable_spec wi
  cases e2.symm.trans j1
  cases a2.symm.trans j2
  have ht := (State.fieldFound?_type h2 hty).2
  have hfit : Z.fitsSlot cell.cls cell.vm f.slot v = true := by
    have q : Z.slotType? cell.cls cell.vm f.slot = some ty := by
      simp only [State.slotType?, a2, Option.bind_eq_bind, Option.bind_some, j3]
      cases hq : cell.vm <;> first | (rw [hq] at h5; exact Bool.noConfusion h5) | (rw [a6, ht])
    simp [State.fitsSlot, q, hf]
  have hU := wtrans C.2.2.1 X.warmed
  have hfit' : T.fitsSlot cell.cls cell.vm f.slot v = true := by rw [← State.fitsSlot_setVm hU.alike] at hfit; exact hfit
  obtain ⟨_, _, _, _, _, _, -, -, b3, -, b5, -⟩ := Cond.lays_spec L
  cases h2.symm.trans b3
  have hown := C.2.2.2.1
  rw [C.2.2.1.alike.findClass] at hown
  obtain ⟨cf', k', ix', f', g1, g2⟩ := Cond.fieldRef_spec hown w
  cases h2.symm.trans g1
  have hlt := (Array.getElem?_eq_some_iff.mp h7).1
  have es : Jvm.RoadKit.slotOf Z O n d = f.slot := by simp [Jvm.RoadKit.slotOf, h2]
  obtain ⟨X', st'⟩ := X.putfieldReady C.1 (ready39 hU g2) h3 (Or.inl b5) (by rw [e0]; exact h1) h4 hlt (by rw [ht]; exact hn) hfit' (g := mkF m pc Ls (v :: .ref a :: st)) rfl rfl (hb C.2.1 hd)
  obtain ⟨s2, u, Lc, x, r⟩ := K (h.setIfInBounds a (cell.setSlot f.slot v)) ⟨cell, h1, h5, by rw [es]; exact hlt, by rw [es]⟩ _ _ X' (by rw [← e0]; rfl) (Fr.snoc X' N g0)
  exact ⟨s2, u, Lc, st' _ x, r⟩
theorem w_new (C : Cx p s m meth c Z own bytes ml rt nm) {pc pc' ce' sl' : Nat} {Ls : Array Slot} {st : List Value} {Cl : String} {i n : Nat} (w : (Jvm.Cond.classLink own i Cl).before a0 Z = true) (wi : (Jvm.Cond.instantiable Cl n).before a0 Z = true) (wz : (Jvm.Cond.initialized Cl).before a0 Z = true) (hd : decode bytes pc = .ok (.new i, 3)) (hp : pc + 3 = pc') (hc1 : cells + 1 = ce') (hl1 : slots + n = sl') (hc : ce' ≤ R.cells) (hl : sl' ≤ R.slots)
    (K : ∀ h' a, a = h.size → Ext h h' → Exa Z h' a Cl → (∀ {O nm d : String} {ty : FieldType}, Laid Z a0 Cl O nm d → parseFieldDescriptor d = some ty → Fld Z h' a O nm d (defaultValue ty)) → Wp p l e R s m args below meth c n0 cM sM Q h' ce' sl' (mkF m pc' Ls (.ref a :: st))) :
    Wp p l e R s m args below meth c n0 cM sM Q h cells slots (mkF m pc Ls st) := by
  subst hp hc1 hl1
  intro T locs X e0 N
  obtain ⟨T', h', X', e', E, A, D, -, st'⟩ := newO X C.1 C.2.2.1 C.2.2.2.1 w wi wz e0 (g := mkF m pc Ls st) rfl (hb C.2.1 hd) hc hl
  obtain ⟨s2, u, Lc, x, r⟩ := K h' h.size rfl E A D T' _ X' e' N
  exact ⟨s2, u, Lc, st' _ x, r⟩
theorem w_newP (C : Cx p s m meth c Z own bytes ml rt nm) {pc pc' ce' sl' : Nat} {Ls : Array Slot} {st : List Value} {aty : ArrayType} {n : Int32} {cap : Nat} (w : (Jvm.Cond.arrayClass (newarray.typeOf aty)).before a0 Z = true) (hd : decode bytes pc = .ok (.newarray aty, 2)) (hp : pc + 2 = pc') (hn : ¬ n < 0) (hcap : n.toNatClampNeg ≤ cap) (hbig : cap * 8 ≤ 536870912) (hc1 : cells + 1 = ce') (hl1 : slots + cap = sl') (hc : ce' ≤ R.cells) (hl : sl' ≤ R.slots)
    (K : ∀ h' a cA, a = h.size → Ext h h' → Arr Z h' a (newA cA (newarray.typeOf aty) n) (newarray.typeOf aty) → Wp p l e R s m args below meth c n0 cM sM Q h' ce' sl' (mkF m pc' Ls (.ref a :: st))) :
    Wp p l e R s m args below meth c n0 cM sM Q h cells slots (mkF m pc Ls (.int n :: st)) := by
  subst hp hc1 hl1
  intro T locs X e0 N
  obtain ⟨T', h', cA, X', e', E, A, st'⟩ := newP X C.1 C.2.2.1 w e0 (g := mkF m pc Ls (.int n :: st)) rfl (hb C.2.1 hd) rfl hn hcap hbig hc hl
  obtain ⟨s2, u, Lc, x, r⟩ := K h' h.size cA rfl E A T' _ X' e' N
  exact ⟨s2, u, Lc, st' _ x, r⟩
theorem w_newR (C : Cx p s m meth c Z own bytes ml rt nm) {pc pc' ce' sl' : Nat} {Ls : Array Slot} {st : List Value} {Cl : String} {i : Nat} {n : Int32} {cap : Nat} (w1 : (Jvm.Cond.classLink own i Cl).before a0 Z = true) (w2 : (Jvm.Cond.arrayOver (.object Cl)).before a0 Z = true) (hd : decode bytes pc = .ok (.anewarray i, 3)) (hp : pc + 3 = pc') (hn : ¬ n < 0) (hcap : n.toNatClampNeg ≤ cap) (hbig : cap * 8 ≤ 536870912) (hc1 : cells + 1 = ce') (hl1 : slots + cap = sl') (hc : ce' ≤ R.cells) (hl : sl' ≤ R.slots)
    (K : ∀ h' a cA, a = h.size → Ext h h' → Arr Z h' a (newA cA (.object Cl) n) (.object Cl) → Ovr Z cA Cl → Wp p l e R s m args below meth c n0 cM sM Q h' ce' sl' (mkF m pc' Ls (.ref a :: st))) :
    Wp p l e R s m args below meth c n0 cM sM Q h cells slots (mkF m pc Ls (.int n :: st)) := by
  subst hp hc1 hl1
  intro T locs X e0 N
  obtain ⟨T', h', cA, X', e', E, A, O, st'⟩ := newR X C.1 C.2.2.1 C.2.2.2.1 w1 w2 e0 (g := mkF m pc Ls (.int n :: st)) rfl (hb C.2.1 hd) rfl hn hcap hbig hc hl
  obtain ⟨s2, u, Lc, x, r⟩ := K h' h.size cA rfl E A O T' _ X' e' N
  exact ⟨s2, u, Lc, st' _ x, r⟩
theorem w_iastore (C : Cx p s m meth c Z own bytes ml rt nm) {pc pc' : Nat} {Ls : Array Slot} {st : List Value} {a : Addr} {cl : Cell} {j : Int32} {x : Int32} (hd : decode bytes pc = .ok (.iastore, 1)) (hp : pc + 1 = pc') (g0 : n0 ≤ a) (A : Arr Z h a cl .int) (hj : ¬ (j < 0 ∨ cl.slots.size ≤ j.toNatClampNeg))
    (K : ∀ h', Wr h h' a j.toNatClampNeg (.int x) → Wp p l e R s m args below meth c n0 cM sM Q h' cells slots (mkF m pc' Ls st)) :
    Wp p l e R s m args below meth c n0 cM sM Q h cells slots (mkF m pc Ls (.int x :: .int j :: .ref a :: st)) := by
  subst hp
  intro T locs X e0 N
  obtain ⟨T', h', X', e', W, st'⟩ := stI X C.1 C.2.2.1 e0 A hj (g := mkF m pc Ls (.int x :: .int j :: .ref a :: st)) rfl rfl (hb C.2.1 hd)
  obtain ⟨s2, u, Lc, q, r⟩ := K h' W T' _ X' e' (Fr.snoc X' N g0)
  exact ⟨s2, u, Lc, st' _ q, r⟩
theorem w_lastore (C : Cx p s m meth c Z own bytes ml rt nm) {pc pc' : Nat} {Ls : Array Slot} {st : List Value} {a : Addr} {cl : Cell} {j : Int32} {x : Int64} (hd : decode bytes pc = .ok (.lastore, 1)) (hp : pc + 1 = pc') (g0 : n0 ≤ a) (A : Arr Z h a cl .long) (hj : ¬ (j < 0 ∨ cl.slots.size ≤ j.toNatClampNeg))
    (K : ∀ h', Wr h h' a j.toNatClampNeg (.long x) → Wp p l e R s m args below meth c n0 cM sM Q h' cells slots (mkF m pc' Ls st)) :
    Wp p l e R s m args below meth c n0 cM sM Q h cells slots (mkF m pc Ls (.long x :: .int j :: .ref a :: st)) := by
  subst hp
  intro T locs X e0 N
  obtain ⟨T', h', X', e', W, st'⟩ := stJ X C.1 C.2.2.1 e0 A hj (g := mkF m pc Ls (.long x :: .int j :: .ref a :: st)) rfl rfl (hb C.2.1 hd)
  obtain ⟨s2, u, Lc, q, r⟩ := K h' W T' _ X' e' (Fr.snoc X' N g0)
  exact ⟨s2, u, Lc, st' _ q, r⟩
theorem w_castore (C : Cx p s m meth c Z own bytes ml rt nm) {pc pc' : Nat} {Ls : Array Slot} {st : List Value} {a : Addr} {cl : Cell} {j : Int32} {x : Int32} (hd : decode bytes pc = .ok (.castore, 1)) (hp : pc + 1 = pc') (g0 : n0 ≤ a) (A : Arr Z h a cl .char) (hj : ¬ (j < 0 ∨ cl.slots.size ≤ j.toNatClampNeg))
    (K : ∀ h', Wr h h' a j.toNatClampNeg (.int (nar .char x)) → Wp p l e R s m args below meth c n0 cM sM Q h' cells slots (mkF m pc' Ls st)) :
    Wp p l e R s m args below meth c n0 cM sM Q h cells slots (mkF m pc Ls (.int x :: .int j :: .ref a :: st)) := by
  subst hp
  intro T locs X e0 N
  obtain ⟨T', h', X', e', W, st'⟩ := stC X C.1 C.2.2.1 e0 A hj (g := mkF m pc Ls (.int x :: .int j :: .ref a :: st)) rfl rfl (hb C.2.1 hd)
  obtain ⟨s2, u, Lc, q, r⟩ := K h' W T' _ X' e' (Fr.snoc X' N g0)
  exact ⟨s2, u, Lc, st' _ q, r⟩
theorem w_aastore (C : Cx p s m meth c Z own bytes ml rt nm) {pc pc' : Nat} {Ls : Array Slot} {st : List Value} {a : Addr} {cl : Cell} {j : Int32} {v : Value} {ty : FieldType} (hd : decode bytes pc = .ok (.aastore, 1)) (hp : pc + 1 = pc') (g0 : n0 ≤ a) (A : Arr Z h a cl ty) (hj : ¬ (j < 0 ∨ cl.slots.size ≤ j.toNatClampNeg)) (hty : ty.isReference = true) (F : Sto Z h a v)
    (K : ∀ h', Wr h h' a j.toNatClampNeg v → Wp p l e R s m args below meth c n0 cM sM Q h' cells slots (mkF m pc' Ls st)) :
    Wp p l e R s m args below meth c n0 cM sM Q h cells slots (mkF m pc Ls (v :: .int j :: .ref a :: st)) := by
  subst hp
  intro T locs X e0 N
  obtain ⟨T', h', X', e', W, st'⟩ := stR X C.1 C.2.2.1 e0 A hj hty F (g := mkF m pc Ls (v :: .int j :: .ref a :: st)) rfl rfl (hb C.2.1 hd)
  obtain ⟨s2, u, Lc, q, r⟩ := K h' W T' _ X' e' (Fr.snoc X' N g0)
  exact ⟨s2, u, Lc, st' _ q, r⟩
theorem w_iaload (C : Cx p s m meth c Z own bytes ml rt nm) {pc pc' : Nat} {Ls : Array Slot} {st : List Value} {a : Addr} {cl : Cell} {j : Int32} {v : Value} (hd : decode bytes pc = .ok (.iaload, 1)) (hp : pc + 1 = pc') (A : Arr Z h a cl .int) (hj : ¬ (j < 0 ∨ cl.slots.size ≤ j.toNatClampNeg)) (hv : cl.slots[j.toNatClampNeg]? = some v)
    (K : Wp p l e R s m args below meth c n0 cM sM Q h cells slots (mkF m pc' Ls (v :: st))) :
    Wp p l e R s m args below meth c n0 cM sM Q h cells slots (mkF m pc Ls (.int j :: .ref a :: st)) := by
  subst hp
  intro T locs X e0 N
  obtain ⟨s2, u, L, q, r⟩ := K T locs X e0 N
  exact ⟨s2, u, L, X.iaload C.1 (j := j) (v := v) (by rw [e0]; exact A.1) (State.isArrayOf_alike C.2.2.1.alike A.2.1) A.2.2 hj hv (g := mkF m pc Ls (.int j :: .ref a :: st)) rfl rfl (hb C.2.1 hd) _ q, r⟩
theorem w_laload (C : Cx p s m meth c Z own bytes ml rt nm) {pc pc' : Nat} {Ls : Array Slot} {st : List Value} {a : Addr} {cl : Cell} {j : Int32} {v : Value} (hd : decode bytes pc = .ok (.laload, 1)) (hp : pc + 1 = pc') (A : Arr Z h a cl .long) (hj : ¬ (j < 0 ∨ cl.slots.size ≤ j.toNatClampNeg)) (hv : cl.slots[j.toNatClampNeg]? = some v)
    (K : Wp p l e R s m args below meth c n0 cM sM Q h cells slots (mkF m pc' Ls (v :: st))) :
    Wp p l e R s m args below meth c n0 cM sM Q h cells slots (mkF m pc Ls (.int j :: .ref a :: st)) := by
  subst hp
  intro T locs X e0 N
  obtain ⟨s2, u, L, q, r⟩ := K T locs X e0 N
  exact ⟨s2, u, L, X.laload C.1 (j := j) (v := v) (by rw [e0]; exact A.1) (State.isArrayOf_alike C.2.2.1.alike A.2.1) A.2.2 hj hv (g := mkF m pc Ls (.int j :: .ref a :: st)) rfl rfl (hb C.2.1 hd) _ q, r⟩
theorem w_caload (C : Cx p s m meth c Z own bytes ml rt nm) {pc pc' : Nat} {Ls : Array Slot} {st : List Value} {a : Addr} {cl : Cell} {j : Int32} {v : Value} (hd : decode bytes pc = .ok (.caload, 1)) (hp : pc + 1 = pc') (A : Arr Z h a cl .char) (hj : ¬ (j < 0 ∨ cl.slots.size ≤ j.toNatClampNeg)) (hv : cl.slots[j.toNatClampNeg]? = some v)
    (K : Wp p l e R s m args below meth c n0 cM sM Q h cells slots (mkF m pc' Ls (v :: st))) :
    Wp p l e R s m args below meth c n0 cM sM Q h cells slots (mkF m pc Ls (.int j :: .ref a :: st)) := by
  subst hp
  intro T locs X e0 N
  obtain ⟨s2, u, L, q, r⟩ := K T locs X e0 N
  exact ⟨s2, u, L, X.caload C.1 (j := j) (v := v) (by rw [e0]; exact A.1) (State.isArrayOf_alike C.2.2.1.alike A.2.1) A.2.2 hj hv (g := mkF m pc Ls (.int j :: .ref a :: st)) rfl rfl (hb C.2.1 hd) _ q, r⟩
theorem w_baload (C : Cx p s m meth c Z own bytes ml rt nm) {pc pc' : Nat} {Ls : Array Slot} {st : List Value} {a : Addr} {cl : Cell} {j : Int32} {v : Value} (hd : decode bytes pc = .ok (.baload, 1)) (hp : pc + 1 = pc') (A : Arr Z h a cl .byte) (hj : ¬ (j < 0 ∨ cl.slots.size ≤ j.toNatClampNeg)) (hv : cl.slots[j.toNatClampNeg]? = some v)
    (K : Wp p l e R s m args below meth c n0 cM sM Q h cells slots (mkF m pc' Ls (v :: st))) :
    Wp p l e R s m args below meth c n0 cM sM Q h cells slots (mkF m pc Ls (.int j :: .ref a :: st)) := by
  subst hp
  intro T locs X e0 N
  obtain ⟨s2, u, L, q, r⟩ := K T locs X e0 N
  exact ⟨s2, u, L, X.baloadBytes C.1 (j := j) (v := v) (by rw [e0]; exact A.1) (State.isArrayOf_alike C.2.2.1.alike A.2.1) A.2.2 hj hv (g := mkF m pc Ls (.int j :: .ref a :: st)) rfl rfl (hb C.2.1 hd) _ q, r⟩
theorem w_aaload (C : Cx p s m meth c Z own bytes ml rt nm) {pc pc' : Nat} {Ls : Array Slot} {st : List Value} {a : Addr} {cl : Cell} {j : Int32} {v : Value} {ty : FieldType} (hd : decode bytes pc = .ok (.aaload, 1)) (hp : pc + 1 = pc') (A : Arr Z h a cl ty) (hty : ty.isReference = true) (hj : ¬ (j < 0 ∨ cl.slots.size ≤ j.toNatClampNeg)) (hv : cl.slots[j.toNatClampNeg]? = some v)
    (K : Wp p l e R s m args below meth c n0 cM sM Q h cells slots (mkF m pc' Ls (v :: st))) :
    Wp p l e R s m args below meth c n0 cM sM Q h cells slots (mkF m pc Ls (.int j :: .ref a :: st)) := by
  subst hp
  intro T locs X e0 N
  obtain ⟨s2, u, L, q, r⟩ := K T locs X e0 N
  exact ⟨s2, u, L, X.aaload C.1 (j := j) (v := v) (by rw [e0]; exact A.1) (State.isArrayOf_alike C.2.2.1.alike A.2.1) hty A.2.2 hj hv (g := mkF m pc Ls (.int j :: .ref a :: st)) rfl rfl (hb C.2.1 hd) _ q, r⟩
theorem w_alen (C : Cx p s m meth c Z own bytes ml rt nm) {pc pc' : Nat} {Ls : Array Slot} {st : List Value} {a : Addr} {cl : Cell} {ty : FieldType} {n : Int32} (hd : decode bytes pc = .ok (.arraylength, 1)) (hp : pc + 1 = pc') (A : Arr Z h a cl ty) (hn : cl.slots.size.toInt32 = n)
    (K : Wp p l e R s m args below meth c n0 cM sM Q h cells slots (mkF m pc' Ls (.int n :: st))) :
    Wp p l e R s m args below meth c n0 cM sM Q h cells slots (mkF m pc Ls (.ref a :: st)) := by
  subst hp hn
  intro T locs X e0 N
  obtain ⟨s2, u, L, q, r⟩ := K T locs X e0 N
  exact ⟨s2, u, L, X.arraylength C.1 (by rw [e0]; exact A.1) (State.isArrayOf_alike C.2.2.1.alike A.2.1) (g := mkF m pc Ls (.ref a :: st)) rfl rfl (hb C.2.1 hd) _ q, r⟩
theorem w_initO (C : Cx p s m meth c Z own bytes ml rt nm) {pc pc' : Nat} {Ls : Array Slot} {st : List Value} {i : Nat} {a : Addr} {W : Nat} (w1 : (Jvm.Cond.methodLink own i Lib.objectInit).before a0 Z = true) (w2 : (Jvm.Cond.instanceMethod Lib.objectInit).before a0 Z = true) (w3 : (Jvm.Cond.code Lib.objectInit ⟨#[0xb1]⟩ 1 none).before a0 Z = true) (hd : decode bytes pc = .ok (.invokespecial i, 3)) (hp : pc + 3 = pc')
    (hsz : Ls.size = ml) (hf : 1 ≤ R.frames) (hW : (st.map fun v => v.category).sum ≤ W) (hl : W + 12 ≤ R.locals) (K : Wp p l e R s m args below meth c n0 cM sM Q h cells slots (mkF m pc' Ls st)) :
    Wp p l e R s m args below meth c n0 cM sM Q h cells slots (mkF m pc Ls (.ref a :: st)) := by
  subst hp
  exact Wp.law (fun T locs X e0 => initO X C.1 C.2.2.1 C.2.2.2.1 w1 w2 w3 e0 (g := mkF m pc Ls (.ref a :: st)) rfl (hsz.trans C.2.2.2.2.1.symm) rfl (hb C.2.1 hd) hf (by show 2 * 0 + _ ≤ _; rw [Nat.mul_zero, Nat.zero_add]; exact hW) hl) K
theorem w_callS (C : Cx p s m meth c Z own bytes ml rt nm) {pc pc' : Nat} {Ls : Array Slot} {stk st : List Value} {i : Nat} {ce' sl' : Nat} {y : MethodName} {cb : ByteArray} {cml : Nat} {cret : Option FieldType} {crm : Room} {argsL : List Value} {Q' : Option Value → Heap → Prop} {W : Nat} (w1 : (Jvm.Cond.methodLink own i y).before a0 Z = true) (w2 : (Jvm.Cond.static y).before a0 Z = true) (w3 : (Jvm.Cond.initialized y.cls).before a0 Z = true) (w4 : (Jvm.Cond.code y cb cml cret).before a0 Z = true) (hy : y.cls ≠ "java/lang/invoke/MethodHandle" ∧ y.cls ≠ "java/lang/invoke/VarHandle")
    (hd : decode bytes pc = .ok (.invokestatic i, 3)) (hp : pc + 3 = pc') (hst : stk = argsL.reverse ++ st) (hfr : crm.frames + 1 ≤ R.frames) (hlo : W + (cml + 11) + crm.locals ≤ R.locals) (hW : (st.map fun v => v.category).sum ≤ W) (hce1 : cells + crm.cells = ce') (hsl1 : slots + crm.slots = sl') (hce : ce' ≤ R.cells) (hsl : sl' ≤ R.slots) (hsz : Ls.size = ml) (hlen : ∀ sig, parseMethodDescriptor y.desc = some sig → argsL.length = sig.parameters.length) (ct : Ct l Z y cb cml cret [] crm argsL.toArray h n0 Q')
    (K : ∀ v h', Q' v h' → Wp p l e R s m args below meth c n0 cM sM Q h' ce' sl' (mkF m pc' Ls (v.toList ++ st))) :
    Wp p l e R s m args below meth c n0 cM sM Q h cells slots (mkF m pc Ls stk) := by
  subst hp hce1 hsl1
  intro T locs X e0 N
  obtain ⟨v, _, ⟨T', L', k', n'⟩, -, X', ⟨Lc, hq, l1, l2, l3⟩, st'⟩ := Jvm.LawKit.callS X C.1 (y := y) C.2.2.2.1 (mvT C.2.2.1 w1) (mvT C.2.2.1 w2) (mvT C.2.2.1 w3) (mvT C.2.2.1 w4) hy (backOf (W := W) (Q := fun v hh L => Q' v hh ∧ Fr n0 L) ct C.2.2.1 w4 w3 hfr hlo) (g := mkF m pc Ls stk) rfl (hsz.trans C.2.2.2.2.1.symm) (argsL := argsL) (rest := st) hlen hst (by show 2 * 0 + _ ≤ _; rw [Nat.mul_zero, Nat.zero_add]; exact hW) (hb C.2.1 hd) (fun _ _ => ⟨rfl, e0, hce, hsl⟩)
  dsimp only [Pt.U, Pt.locs, Pt.cells, Pt.slots] at X' l1 l2 l3 st' hq
  subst l1 l2 l3
  obtain ⟨s2, u, L, q, r⟩ := K _ _ hq.1 _ _ X' rfl (Fr.app N hq.2)
  exact ⟨s2, u, L, st' _ q, r⟩
theorem w_callI (C : Cx p s m meth c Z own bytes ml rt nm) {pc pc' : Nat} {Ls : Array Slot} {stk st : List Value} {i : Nat} {a : Addr} {ce' sl' : Nat} {y : MethodName} {cb : ByteArray} {cml : Nat} {crm : Room} {argsL : List Value} {Q' : Option Value → Heap → Prop} {W : Nat} (hin : y.name = "<init>") (w1 : (Jvm.Cond.methodLink own i y).before a0 Z = true) (w2 : (Jvm.Cond.instanceMethod y).before a0 Z = true) (w3 : (Jvm.Cond.initialized y.cls).before a0 Z = true) (w4 : (Jvm.Cond.code y cb cml none).before a0 Z = true) (hy : y.cls ≠ "java/lang/invoke/MethodHandle" ∧ y.cls ≠ "java/lang/invoke/VarHandle")
    (hd : decode bytes pc = .ok (.invokespecial i, 3)) (hp : pc + 3 = pc') (hst : stk = argsL.reverse ++ .ref a :: st) (hfr : crm.frames + 1 ≤ R.frames) (hlo : W + (cml + 11) + crm.locals ≤ R.locals) (hW : (st.map fun v => v.category).sum ≤ W) (hce1 : cells + crm.cells = ce') (hsl1 : slots + crm.slots = sl') (hce : ce' ≤ R.cells) (hsl : sl' ≤ R.slots) (hsz : Ls.size = ml) (hlen : ∀ sig, parseMethodDescriptor y.desc = some sig → argsL.length = sig.parameters.length) (ct : Ct l Z y cb cml none [] crm (.ref a :: argsL).toArray h n0 Q')
    (K : ∀ v h', Q' v h' → Wp p l e R s m args below meth c n0 cM sM Q h' ce' sl' (mkF m pc' Ls (v.toList ++ st))) :
    Wp p l e R s m args below meth c n0 cM sM Q h cells slots (mkF m pc Ls stk) := by
  subst hp hce1 hsl1
  intro T locs X e0 N
  obtain ⟨v, _, ⟨T', L', k', n'⟩, -, X', ⟨Lc, hq, l1, l2, l3⟩, st'⟩ := X.specialBack C.1 (y := y) hin C.2.2.2.1 (mvT C.2.2.1 w1) (mvT C.2.2.1 w2) (mvT C.2.2.1 w4) hy (backOf (W := W) (Q := fun v hh L => Q' v hh ∧ Fr n0 L) ct C.2.2.1 w4 w3 hfr hlo) (g := mkF m pc Ls stk) rfl (hsz.trans C.2.2.2.2.1.symm) (Steps.refl _) (a := a) (argsL := argsL) (rest := st) hlen hst (by show 2 * 0 + _ ≤ _; rw [Nat.mul_zero, Nat.zero_add]; exact hW) (hb C.2.1 hd) (fun _ _ => ⟨rfl, e0, hce, hsl⟩)
  dsimp only [Pt.U, Pt.locs, Pt.cells, Pt.slots] at X' l1 l2 l3 st' hq
  subst l1 l2 l3
  obtain ⟨s2, u, L, q, r⟩ := K _ _ hq.1 _ _ X' rfl (Fr.app N hq.2)
  exact ⟨s2, u, L, st'.trans q, r⟩
theorem w_callV (C : Cx p s m meth c Z own bytes ml rt nm) {pc pc' : Nat} {Ls : Array Slot} {stk st : List Value} {i : Nat} {a : Addr} {Cl : String} {ce' sl' : Nat} {y : MethodName} {cb : ByteArray} {cml : Nat} {cret : Option FieldType} {crm : Room} {argsL : List Value} {Q' : Option Value → Heap → Prop} {W : Nat} (w1 : (Jvm.Cond.methodLink own i y).before a0 Z = true) (w2 : (Jvm.Cond.declares y).before a0 Z = true) (w5 : (Jvm.Cond.selects Cl y y).before a0 Z = true) (w6 : (Jvm.Cond.instanceMethod y).before a0 Z = true) (w3 : (Jvm.Cond.initialized y.cls).before a0 Z = true) (w4 : (Jvm.Cond.code y cb cml cret).before a0 Z = true) (hy : y.cls ≠ "java/lang/invoke/MethodHandle" ∧ y.cls ≠ "java/lang/invoke/VarHandle")
    (hd : decode bytes pc = .ok (.invokevirtual i, 3)) (hp : pc + 3 = pc') (hst : stk = argsL.reverse ++ .ref a :: st) (hfr : crm.frames + 1 ≤ R.frames) (hlo : W + (cml + 11) + crm.locals ≤ R.locals) (hW : (st.map fun v => v.category).sum ≤ W) (hce1 : cells + crm.cells = ce') (hsl1 : slots + crm.slots = sl') (hce : ce' ≤ R.cells) (hsl : sl' ≤ R.slots) (hsz : Ls.size = ml) (hlen : ∀ sig, parseMethodDescriptor y.desc = some sig → argsL.length = sig.parameters.length) (E : Exa Z h a Cl) (ct : Ct l Z y cb cml cret [] crm (.ref a :: argsL).toArray h n0 Q')
    (K : ∀ v h', Q' v h' → Wp p l e R s m args below meth c n0 cM sM Q h' ce' sl' (mkF m pc' Ls (v.toList ++ st))) :
    Wp p l e R s m args below meth c n0 cM sM Q h cells slots (mkF m pc Ls stk) := by
  subst hp hce1 hsl1
  intro T locs X e0 N
  obtain ⟨_, _, qa, qb, qc⟩ := isOf C.2.2.1 e0 E
  obtain ⟨v, _, ⟨T', L', k', n'⟩, -, X', ⟨Lc, hq, l1, l2, l3⟩, st'⟩ := X.virtualBack C.1 (y := y) (z := y) C.2.2.2.1 (mvT C.2.2.1 w1) (mvT C.2.2.1 w2) (notFace_of_selects (args := #[]) (mvT C.2.2.1 w5)) (mvT C.2.2.1 w5) (mvT C.2.2.1 w6) hy (backOf (W := W) (Q := fun v hh L => Q' v hh ∧ Fr n0 L) ct C.2.2.1 w4 w3 hfr hlo) qa qc (g := mkF m pc Ls stk) rfl (hsz.trans C.2.2.2.2.1.symm) (Steps.refl _) (argsL := argsL) (rest := st) hlen hst (by show 2 * 0 + _ ≤ _; rw [Nat.mul_zero, Nat.zero_add]; exact hW) (hb C.2.1 hd) (fun _ _ => ⟨rfl, e0, hce, hsl⟩)
  dsimp only [Pt.U, Pt.locs, Pt.cells, Pt.slots] at X' l1 l2 l3 st' hq
  subst l1 l2 l3
  obtain ⟨s2, u, L, q, r⟩ := K _ _ hq.1 _ _ X' rfl (Fr.app N hq.2)
  exact ⟨s2, u, L, st'.trans q, r⟩
theorem w_callP (C : Cx p s m meth c Z own bytes ml rt nm) {pc pc' : Nat} {Ls : Array Slot} {stk st : List Value} {i : Nat} {a : Addr} {Cl : String} {ce' sl' : Nat} {y : MethodName} {cb : ByteArray} {cml : Nat} {cret : Option FieldType} {crm : Room} {argsL : List Value} {Q' : Option Value → Heap → Prop} {W : Nat} (w1 : (Jvm.Cond.methodLink own i y).before a0 Z = true) (w6 : (Jvm.Cond.instanceMethod y).before a0 Z = true) {kk : Nat} (w5 : (Jvm.Cond.instantiable y.cls kk).before a0 Z = true) (w7 : (Jvm.Cond.privateMethod y).before a0 Z = true) (w3 : (Jvm.Cond.initialized y.cls).before a0 Z = true) (w4 : (Jvm.Cond.code y cb cml cret).before a0 Z = true) (hy : y.cls ≠ "java/lang/invoke/MethodHandle" ∧ y.cls ≠ "java/lang/invoke/VarHandle")
    (hd : decode bytes pc = .ok (.invokevirtual i, 3)) (hp : pc + 3 = pc') (hst : stk = argsL.reverse ++ .ref a :: st) (hfr : crm.frames + 1 ≤ R.frames) (hlo : W + (cml + 11) + crm.locals ≤ R.locals) (hW : (st.map fun v => v.category).sum ≤ W) (hce1 : cells + crm.cells = ce') (hsl1 : slots + crm.slots = sl') (hce : ce' ≤ R.cells) (hsl : sl' ≤ R.slots) (hsz : Ls.size = ml) (hlen : ∀ sig, parseMethodDescriptor y.desc = some sig → argsL.length = sig.parameters.length) (E : Exa Z h a Cl) (ct : Ct l Z y cb cml cret [] crm (.ref a :: argsL).toArray h n0 Q')
    (K : ∀ v h', Q' v h' → Wp p l e R s m args below meth c n0 cM sM Q h' ce' sl' (mkF m pc' Ls (v.toList ++ st))) :
    Wp p l e R s m args below meth c n0 cM sM Q h cells slots (mkF m pc Ls stk) := by
  subst hp hce1 hsl1
  intro T locs X e0 N
  obtain ⟨cq, q1, q2⟩ := E.cell
  have hpr : s.PrivateAt y := Cond.privateMethod_at (mvP C.2.2.1 w7 (args := #[]))
  obtain ⟨ci, ki, i1, i2, -, i4, -⟩ := Cond.instantiable_spec (show (Jvm.Cond.instantiable y.cls kk).before #[] s = true from mvT C.2.2.1 w5)
  have hsel := selects_self_of_private (args := args) i1 i2 (by simp only [Bool.or_eq_false_iff] at i4; exact i4.1) hpr (mvT C.2.2.1 w6) hy
  obtain ⟨v, _, ⟨T', L', k', n'⟩, -, X', ⟨Lc, hq, l1, l2, l3⟩, st'⟩ := X.privateBack C.1 (y := y) C.2.2.2.1 (mvT C.2.2.1 w1) (mvT C.2.2.1 w6) hsel hpr (mvT C.2.2.1 w4) hy (backOf (W := W) (Q := fun v hh L => Q' v hh ∧ Fr n0 L) ct C.2.2.1 w4 w3 hfr hlo) (g := mkF m pc Ls stk) rfl (hsz.trans C.2.2.2.2.1.symm) (Steps.refl _) (a := a) (by rw [e0]; exact q1) q2 (argsL := argsL) (rest := st) hlen hst (by show 2 * 0 + _ ≤ _; rw [Nat.mul_zero, Nat.zero_add]; exact hW) (hb C.2.1 hd) (fun _ _ => ⟨rfl, e0, hce, hsl⟩)
  dsimp only [Pt.U, Pt.locs, Pt.cells, Pt.slots] at X' l1 l2 l3 st' hq
  subst l1 l2 l3
  obtain ⟨s2, u, L, q, r⟩ := K _ _ hq.1 _ _ X' rfl (Fr.app N hq.2)
  exact ⟨s2, u, L, st'.trans q, r⟩
theorem k1 {pc' ce' sl' : Nat} {Ls : Array Slot} {st : List Value} {r : Value} {P : Heap → Prop} (K : ∀ h', P h' → Wp p l e R s m args below meth c n0 cM sM Q h' ce' sl' (mkF m pc' Ls (r :: st))) : ∀ v h', (v = some r ∧ P h') → Wp p l e R s m args below meth c n0 cM sM Q h' ce' sl' (mkF m pc' Ls (v.toList ++ st)) := fun v h' q => by
  obtain ⟨rfl, q⟩ := q; exact K h' q
theorem k0 {pc' ce' sl' : Nat} {Ls : Array Slot} {st : List Value} {P : Heap → Prop} (K : ∀ h', P h' → Wp p l e R s m args below meth c n0 cM sM Q h' ce' sl' (mkF m pc' Ls st)) : ∀ v h', (v = none ∧ P h') → Wp p l e R s m args below meth c n0 cM sM Q h' ce' sl' (mkF m pc' Ls (v.toList ++ st)) := fun v h' q => by
  obtain ⟨rfl, q⟩ := q; exact K h' q
theorem kp {pc' ce' sl' : Nat} {Ls : Array Slot} {st : List Value} {r : Value} (K : Wp p l e R s m args below meth c n0 cM sM Q h ce' sl' (mkF m pc' Ls (r :: st))) : ∀ v h', (v = some r ∧ h' = h) → Wp p l e R s m args below meth c n0 cM sM Q h' ce' sl' (mkF m pc' Ls (v.toList ++ st)) := fun v h' q => by
  obtain ⟨rfl, rfl⟩ := q; exact K
theorem kx {pc' ce' sl' : Nat} {Ls : Array Slot} {st : List Value} {P : Addr → Heap → Prop} (K : ∀ b h', P b h' → Wp p l e R s m args below meth c n0 cM sM Q h' ce' sl' (mkF m pc' Ls (.ref b :: st))) : ∀ v h', (∃ b, v = some (.ref b) ∧ P b h') → Wp p l e R s m args below meth c n0 cM sM Q h' ce' sl' (mkF m pc' Ls (v.toList ++ st)) := fun v h' q => by
  obtain ⟨b, rfl, q⟩ := q; exact K b h' q
theorem kz {pc' ce' sl' : Nat} {Ls : Array Slot} {st : List Value} {P : Int32 → Heap → Prop} (K : ∀ b h', P b h' → Wp p l e R s m args below meth c n0 cM sM Q h' ce' sl' (mkF m pc' Ls (.int b :: st))) : ∀ v h', (∃ b, v = some (.int b) ∧ P b h') → Wp p l e R s m args below meth c n0 cM sM Q h' ce' sl' (mkF m pc' Ls (v.toList ++ st)) := fun v h' q => by
  obtain ⟨b, rfl, q⟩ := q; exact K b h' q
theorem kv {pc' ce' sl' : Nat} {Ls : Array Slot} {st : List Value} (K : Wp p l e R s m args below meth c n0 cM sM Q h ce' sl' (mkF m pc' Ls st)) : ∀ v h', (v = none ∧ h' = h) → Wp p l e R s m args below meth c n0 cM sM Q h' ce' sl' (mkF m pc' Ls (v.toList ++ st)) := fun v h' q => by
  obtain ⟨rfl, rfl⟩ := q; exact K
end Rules
theorem cat_ref {v : Value} (hv : v.isRef = true) : v.category = 1 := by cases v <;> simp [Value.isRef] at hv <;> rfl
theorem st_ref {Ls Ls' : Array Slot} {k : Nat} {v : Value} {o : Slot} (hv : v.isRef = true) (ho : Ls[k]? = some o) (hc : o = .unset ∨ ∃ w, o = .val w ∧ w.category = 1) (e : Ls.setIfInBounds k (.val v) = Ls') : storeLocals Ls k v = some Ls' := by
  rw [← e]; exact XS.store1 ho hc (cat_ref hv)
/-! objects and arrays, each one fact -/
section Facts
variable {Z : State} {h h' : Heap} {a b : Addr} {Cl n d : String} {v v' w : Value} {fs fs' : List (String × String × Value)} {ws : List Addr} {sl : Nat} {ty : FieldType} {vs : List Value}
/-- an object of exactly the class Cl, and what its fields hold -/
def Obj (Z : State) (h : Heap) (a : Addr) (Cl : String) (fs : List (String × String × Value)) : Prop :=
  Exa Z h a Cl ∧ (∀ (i : Nat) (f : String × String × Value), fs[i]? = some f → Fld Z h a Cl f.1 f.2.1 f.2.2) ∧ ∀ (i j : Nat) (f g : String × String × Value), fs[i]? = some f → fs[j]? = some g → i ≠ j → Jvm.RoadKit.slotOf Z Cl f.1 f.2.1 ≠ Jvm.RoadKit.slotOf Z Cl g.1 g.2.1
theorem Obj.lt (O : Obj Z h a Cl fs) : a < h.size := O.1.lt
theorem Obj.fld (O : Obj Z h a Cl fs) (i : Nat) (e : fs[i]? = some (n, d, v)) : Fld Z h a Cl n d v := O.2.1 i _ e
theorem Obj.ext (O : Obj Z h a Cl fs) (E : Ext h h') : Obj Z h' a Cl fs := ⟨O.1.ext E, fun i f q => (O.2.1 i f q).ext E, O.2.2⟩
theorem Obj.keep (O : Obj Z h a Cl fs) (K : Keep h h' ws) (q : a ∉ ws) : Obj Z h' a Cl fs := ⟨O.1.keep K, fun i f r => (O.2.1 i f r).keep K q, O.2.2⟩
theorem Obj.other (O : Obj Z h a Cl fs) (W : Wr h h' b sl w) (q : a ≠ b) : Obj Z h' a Cl fs := ⟨O.1.wr W, fun i f r => (O.2.1 i f r).other W (Or.inl q), O.2.2⟩
theorem Obj.put (O : Obj Z h a Cl fs) (i : Nat) (e : fs[i]? = some (n, d, v)) (W : Wr h h' a (Jvm.RoadKit.slotOf Z Cl n d) v') (e' : fs.set i (n, d, v') = fs') : Obj Z h' a Cl fs' := by
  subst e'
  have key : ∀ j f, (fs.set i (n, d, v'))[j]? = some f → ∃ u, fs[j]? = some (f.1, f.2.1, u) ∧ (j = i → f = (n, d, v')) ∧ (j ≠ i → fs[j]? = some f) := fun j f q => by
    by_cases z : i = j
    · subst z
      have hl : i < fs.length := (List.getElem?_eq_some_iff.mp e).1
      rw [List.getElem?_set_self hl] at q
      cases q
      exact ⟨v, e, fun _ => rfl, fun r => absurd rfl r⟩
    · rw [List.getElem?_set_ne z] at q
      exact ⟨f.2.2, q, fun r => absurd r.symm z, fun _ => q⟩
  refine ⟨O.1.wr W, fun j f q => ?_, fun j k f g q r z => ?_⟩
  · obtain ⟨u, k1, k2, k3⟩ := key j f q
    by_cases z : j = i
    · cases k2 z; subst z
      exact (O.fld j e).same W
    · have ne : Jvm.RoadKit.slotOf Z Cl f.1 f.2.1 ≠ Jvm.RoadKit.slotOf Z Cl n d := O.2.2 j i f (n, d, v) (k3 z) e z
      exact Fld.other W (O.2.1 j f (k3 z)) (Or.inr ne)
  · obtain ⟨u, k1, -⟩ := key j f q
    obtain ⟨u', k2, -⟩ := key k g r
    exact O.2.2 j k (f.1, f.2.1, u) (g.1, g.2.1, u') k1 k2 z
theorem Obj.size (O : Obj Z h a Cl fs) (K : Keep h h' ws) : h.size ≤ h'.size := K.1
/-- an array of the component type ty, and what it holds -/
def Ar (Z : State) (h : Heap) (a : Addr) (ty : FieldType) (vs : List Value) : Prop := ∃ cl : Cell, Arr Z h a cl ty ∧ cl.slots = vs.toArray
theorem Ar.lt (A : Ar Z h a ty vs) : a < h.size := by obtain ⟨_, A, -⟩ := A; exact A.lt
theorem Ar.ext (A : Ar Z h a ty vs) (E : Ext h h') : Ar Z h' a ty vs := by obtain ⟨cl, A, q⟩ := A; exact ⟨cl, A.ext E, q⟩
theorem Ar.keep (A : Ar Z h a ty vs) (K : Keep h h' ws) (q : a ∉ ws) : Ar Z h' a ty vs := by obtain ⟨cl, A, r⟩ := A; exact ⟨cl, ⟨K.2.1 a cl A.1 q, A.2⟩, r⟩
theorem Ar.other (A : Ar Z h a ty vs) (W : Wr h h' b sl w) (q : a ≠ b) : Ar Z h' a ty vs := by obtain ⟨cl, A, r⟩ := A; exact ⟨cl, A.other W q, r⟩
theorem set_slots {cl : Cell} (r : cl.slots = vs.toArray) (j : Nat) (v : Value) : (cl.setSlot j v).slots = (vs.set j v).toArray := by
  show cl.slots.setIfInBounds j v = _
  rw [r]; simp
theorem Ar.set (A : Ar Z h a ty vs) (W : Wr h h' a sl w) : Ar Z h' a ty (vs.set sl w) := by
  obtain ⟨cl, A, r⟩ := A; exact ⟨_, A.same W, set_slots r _ _⟩
theorem Ar.new {cA : ClassId} {z : Int32} (A : Arr Z h a (newA cA ty z) ty) : Ar Z h a ty (List.replicate z.toNatClampNeg (defaultValue ty)) := ⟨_, A, by simp [newA]⟩
theorem Ar.nin {cl : Cell} {j : Int32} (r : cl.slots = vs.toArray) (hj : ¬ j < 0) (hl : j.toNatClampNeg < vs.length) : ¬ (j < 0 ∨ cl.slots.size ≤ j.toNatClampNeg) := by
  rw [r]; simp only [List.size_toArray]
  exact fun q => q.elim hj (fun q => Nat.not_le.mpr hl q)
theorem Ar.at {cl : Cell} {k : Nat} (r : cl.slots = vs.toArray) (hv : vs[k]? = some v) : cl.slots[k]? = some v := by rw [r]; simpa using hv
/-- an array of references to objects of the class Cl -/
def ArR (Z : State) (h : Heap) (a : Addr) (Cl : String) (vs : List Value) : Prop := ∃ cl : Cell, Arr Z h a cl (.object Cl) ∧ cl.slots = vs.toArray ∧ Ovr Z cl.cls Cl
theorem ArR.lt (A : ArR Z h a Cl vs) : a < h.size := by obtain ⟨_, A, -⟩ := A; exact A.lt
theorem ArR.ext (A : ArR Z h a Cl vs) (E : Ext h h') : ArR Z h' a Cl vs := by obtain ⟨cl, A, q⟩ := A; exact ⟨cl, A.ext E, q⟩
theorem ArR.keep (A : ArR Z h a Cl vs) (K : Keep h h' ws) (q : a ∉ ws) : ArR Z h' a Cl vs := by obtain ⟨cl, A, r⟩ := A; exact ⟨cl, ⟨K.2.1 a cl A.1 q, A.2⟩, r⟩
theorem ArR.other (A : ArR Z h a Cl vs) (W : Wr h h' b sl w) (q : a ≠ b) : ArR Z h' a Cl vs := by obtain ⟨cl, A, r⟩ := A; exact ⟨cl, A.other W q, r⟩
theorem ArR.set (A : ArR Z h a Cl vs) (W : Wr h h' a sl w) : ArR Z h' a Cl (vs.set sl w) := by
  obtain ⟨cl, A, r, q⟩ := A; exact ⟨_, A.same W, set_slots r _ _, q⟩
theorem ArR.new {cA : ClassId} {z : Int32} (A : Arr Z h a (newA cA (.object Cl) z) (.object Cl)) (O : Ovr Z cA Cl) : ArR Z h a Cl (List.replicate z.toNatClampNeg .null) := ⟨_, A, by simp [newA, defaultValue], O⟩
theorem ArR.sto (A : ArR Z h a Cl vs) {y : Addr} (E : Exa Z h y Cl) : Sto Z h a (.ref y) := by
  obtain ⟨cl, A, -, q⟩ := A; exact Sto.ofV A rfl q (Ins.self E)
theorem Keep.app (K : Keep h h' ws) {h2 : Heap} {ws2 ws3 : List Addr} (K' : Keep h' h2 ws2) (q1 : ∀ x ∈ ws, x ∈ ws3 ∨ h.size ≤ x) (q : ∀ x ∈ ws2, x ∈ ws3 ∨ h.size ≤ x) : Keep h h2 ws3 := by
  refine Keep.trans (ws := ws3) ⟨K.1, fun x c r z => ?_, K.2.2⟩ K' q
  refine K.2.1 x c r fun y => ?_
  rcases q1 x y with u | u
  · exact z u
  · exact absurd (Array.getElem?_eq_some_iff.mp r).1 (Nat.not_lt.mpr u)
end Facts
section Rules2
variable {p : Program} {l : Launch} {e : Env} {R : Room} {s : State} {m : MethodId} {args : Array Value} {below : List Frame} {meth : Method} {c : Code} {n0 cM sM : Nat} {Q : Option Value → Heap → Prop} {h : Heap} {cells slots : Nat}
variable {Z : State} {own nm : String} {bytes : ByteArray} {ml : Nat} {rt : Option FieldType} {a0 : Array Value}
theorem wA_iaload (C : Cx p s m meth c Z own bytes ml rt nm) {pc pc' : Nat} {Ls : Array Slot} {st : List Value} {a : Addr} {vs : List Value} {j : Int32} {v : Value} (hd : decode bytes pc = .ok (.iaload, 1)) (hp : pc + 1 = pc') (A : Ar Z h a .int vs) (hj : ¬ j < 0) (hv : vs[j.toNatClampNeg]? = some v)
    (K : Wp p l e R s m args below meth c n0 cM sM Q h cells slots (mkF m pc' Ls (v :: st))) : Wp p l e R s m args below meth c n0 cM sM Q h cells slots (mkF m pc Ls (.int j :: .ref a :: st)) := by
  obtain ⟨cl, A, r⟩ := A
  exact w_iaload C hd hp A (Ar.nin r hj (List.getElem?_eq_some_iff.mp hv).1) (Ar.at r hv) K
theorem wA_laload (C : Cx p s m meth c Z own bytes ml rt nm) {pc pc' : Nat} {Ls : Array Slot} {st : List Value} {a : Addr} {vs : List Value} {j : Int32} {v : Value} (hd : decode bytes pc = .ok (.laload, 1)) (hp : pc + 1 = pc') (A : Ar Z h a .long vs) (hj : ¬ j < 0) (hv : vs[j.toNatClampNeg]? = some v)
    (K : Wp p l e R s m args below meth c n0 cM sM Q h cells slots (mkF m pc' Ls (v :: st))) : Wp p l e R s m args below meth c n0 cM sM Q h cells slots (mkF m pc Ls (.int j :: .ref a :: st)) := by
  obtain ⟨cl, A, r⟩ := A
  exact w_laload C hd hp A (Ar.nin r hj (List.getElem?_eq_some_iff.mp hv).1) (Ar.at r hv) K
theorem wA_caload (C : Cx p s m meth c Z own bytes ml rt nm) {pc pc' : Nat} {Ls : Array Slot} {st : List Value} {a : Addr} {vs : List Value} {j : Int32} {v : Value} (hd : decode bytes pc = .ok (.caload, 1)) (hp : pc + 1 = pc') (A : Ar Z h a .char vs) (hj : ¬ j < 0) (hv : vs[j.toNatClampNeg]? = some v)
    (K : Wp p l e R s m args below meth c n0 cM sM Q h cells slots (mkF m pc' Ls (v :: st))) : Wp p l e R s m args below meth c n0 cM sM Q h cells slots (mkF m pc Ls (.int j :: .ref a :: st)) := by
  obtain ⟨cl, A, r⟩ := A
  exact w_caload C hd hp A (Ar.nin r hj (List.getElem?_eq_some_iff.mp hv).1) (Ar.at r hv) K
theorem wA_baload (C : Cx p s m meth c Z own bytes ml rt nm) {pc pc' : Nat} {Ls : Array Slot} {st : List Value} {a : Addr} {vs : List Value} {j : Int32} {v : Value} (hd : decode bytes pc = .ok (.baload, 1)) (hp : pc + 1 = pc') (A : Ar Z h a .byte vs) (hj : ¬ j < 0) (hv : vs[j.toNatClampNeg]? = some v)
    (K : Wp p l e R s m args below meth c n0 cM sM Q h cells slots (mkF m pc' Ls (v :: st))) : Wp p l e R s m args below meth c n0 cM sM Q h cells slots (mkF m pc Ls (.int j :: .ref a :: st)) := by
  obtain ⟨cl, A, r⟩ := A
  exact w_baload C hd hp A (Ar.nin r hj (List.getElem?_eq_some_iff.mp hv).1) (Ar.at r hv) K
theorem wA_aaload (C : Cx p s m meth c Z own bytes ml rt nm) {pc pc' : Nat} {Ls : Array Slot} {st : List Value} {a : Addr} {Cl : String} {vs : List Value} {j : Int32} {v : Value} (hd : decode bytes pc = .ok (.aaload, 1)) (hp : pc + 1 = pc') (A : ArR Z h a Cl vs) (hj : ¬ j < 0) (hv : vs[j.toNatClampNeg]? = some v)
    (K : Wp p l e R s m args below meth c n0 cM sM Q h cells slots (mkF m pc' Ls (v :: st))) : Wp p l e R s m args below meth c n0 cM sM Q h cells slots (mkF m pc Ls (.int j :: .ref a :: st)) := by
  obtain ⟨cl, A, r, -⟩ := A
  exact w_aaload C hd hp A rfl (Ar.nin r hj (List.getElem?_eq_some_iff.mp hv).1) (Ar.at r hv) K
theorem wA_iastore (C : Cx p s m meth c Z own bytes ml rt nm) {pc pc' : Nat} {Ls : Array Slot} {st : List Value} {a : Addr} {vs : List Value} {j : Int32} {x : Int32} (hd : decode bytes pc = .ok (.iastore, 1)) (hp : pc + 1 = pc') (g0 : n0 ≤ a) (A : Ar Z h a .int vs) (hj : ¬ j < 0) (hl : j.toNatClampNeg < vs.length)
    (K : ∀ h', Wr h h' a j.toNatClampNeg (.int x) → Ar Z h' a .int (vs.set j.toNatClampNeg (.int x)) → Wp p l e R s m args below meth c n0 cM sM Q h' cells slots (mkF m pc' Ls st)) : Wp p l e R s m args below meth c n0 cM sM Q h cells slots (mkF m pc Ls (.int x :: .int j :: .ref a :: st)) := by
  have A' := A
  obtain ⟨cl, A, r⟩ := A
  exact w_iastore C hd hp g0 A (Ar.nin r hj hl) (fun h' W => K h' W (A'.set W))
theorem wA_lastore (C : Cx p s m meth c Z own bytes ml rt nm) {pc pc' : Nat} {Ls : Array Slot} {st : List Value} {a : Addr} {vs : List Value} {j : Int32} {x : Int64} (hd : decode bytes pc = .ok (.lastore, 1)) (hp : pc + 1 = pc') (g0 : n0 ≤ a) (A : Ar Z h a .long vs) (hj : ¬ j < 0) (hl : j.toNatClampNeg < vs.length)
    (K : ∀ h', Wr h h' a j.toNatClampNeg (.long x) → Ar Z h' a .long (vs.set j.toNatClampNeg (.long x)) → Wp p l e R s m args below meth c n0 cM sM Q h' cells slots (mkF m pc' Ls st)) : Wp p l e R s m args below meth c n0 cM sM Q h cells slots (mkF m pc Ls (.long x :: .int j :: .ref a :: st)) := by
  have A' := A
  obtain ⟨cl, A, r⟩ := A
  exact w_lastore C hd hp g0 A (Ar.nin r hj hl) (fun h' W => K h' W (A'.set W))
theorem wA_castore (C : Cx p s m meth c Z own bytes ml rt nm) {pc pc' : Nat} {Ls : Array Slot} {st : List Value} {a : Addr} {vs : List Value} {j : Int32} {x : Int32} (hd : decode bytes pc = .ok (.castore, 1)) (hp : pc + 1 = pc') (g0 : n0 ≤ a) (A : Ar Z h a .char vs) (hj : ¬ j < 0) (hl : j.toNatClampNeg < vs.length)
    (K : ∀ h', Wr h h' a j.toNatClampNeg (.int (toCh x)) → Ar Z h' a .char (vs.set j.toNatClampNeg (.int (toCh x))) → Wp p l e R s m args below meth c n0 cM sM Q h' cells slots (mkF m pc' Ls st)) : Wp p l e R s m args below meth c n0 cM sM Q h cells slots (mkF m pc Ls (.int x :: .int j :: .ref a :: st)) := by
  have A' := A
  obtain ⟨cl, A, r⟩ := A
  exact w_castore C hd hp g0 A (Ar.nin r hj hl) (fun h' W => K h' W (A'.set W))
theorem wA_aastore (C : Cx p s m meth c Z own bytes ml rt nm) {pc pc' : Nat} {Ls : Array Slot} {st : List Value} {a : Addr} {Cl : String} {vs : List Value} {j : Int32} {v : Value} (hd : decode bytes pc = .ok (.aastore, 1)) (hp : pc + 1 = pc') (g0 : n0 ≤ a) (A : ArR Z h a Cl vs) (hj : ¬ j < 0) (hl : j.toNatClampNeg < vs.length) (F : Sto Z h a v)
    (K : ∀ h', Wr h h' a j.toNatClampNeg v → ArR Z h' a Cl (vs.set j.toNatClampNeg v) → Wp p l e R s m args below meth c n0 cM sM Q h' cells slots (mkF m pc' Ls st)) : Wp p l e R s m args below meth c n0 cM sM Q h cells slots (mkF m pc Ls (v :: .int j :: .ref a :: st)) := by
  have A' := A
  obtain ⟨cl, A, r, -⟩ := A
  exact w_aastore C hd hp g0 A (Ar.nin r hj hl) rfl F (fun h' W => K h' W (A'.set W))
theorem wA_alen (C : Cx p s m meth c Z own bytes ml rt nm) {pc pc' : Nat} {Ls : Array Slot} {st : List Value} {a : Addr} {ty : FieldType} {vs : List Value} {n : Int32} (hd : decode bytes pc = .ok (.arraylength, 1)) (hp : pc + 1 = pc') (A : Ar Z h a ty vs) (hn : vs.length.toInt32 = n)
    (K : Wp p l e R s m args below meth c n0 cM sM Q h cells slots (mkF m pc' Ls (.int n :: st))) : Wp p l e R s m args below meth c n0 cM sM Q h cells slots (mkF m pc Ls (.ref a :: st)) := by
  obtain ⟨cl, A, r⟩ := A
  exact w_alen C hd hp A (by rw [r]; simpa using hn) K
theorem wA_alenR (C : Cx p s m meth c Z own bytes ml rt nm) {pc pc' : Nat} {Ls : Array Slot} {st : List Value} {a : Addr} {Cl : String} {vs : List Value} {n : Int32} (hd : decode bytes pc = .ok (.arraylength, 1)) (hp : pc + 1 = pc') (A : ArR Z h a Cl vs) (hn : vs.length.toInt32 = n)
    (K : Wp p l e R s m args below meth c n0 cM sM Q h cells slots (mkF m pc' Ls (.int n :: st))) : Wp p l e R s m args below meth c n0 cM sM Q h cells slots (mkF m pc Ls (.ref a :: st)) := by
  obtain ⟨cl, A, r, -⟩ := A
  exact w_alen C hd hp A (by rw [r]; simpa using hn) K
theorem wA_newP (C : Cx p s m meth c Z own bytes ml rt nm) {pc pc' ce' sl' : Nat} {Ls : Array Slot} {st : List Value} {aty : ArrayType} {n : Int32} {cap : Nat} (w : (Jvm.Cond.arrayClass (newarray.typeOf aty)).before a0 Z = true) (hd : decode bytes pc = .ok (.newarray aty, 2)) (hp : pc + 2 = pc') (hn : ¬ n < 0) (hcap : n.toNatClampNeg ≤ cap) (hbig : cap * 8 ≤ 536870912) (hc1 : cells + 1 = ce') (hl1 : slots + cap = sl') (hc : ce' ≤ R.cells) (hl : sl' ≤ R.slots)
    (K : ∀ h' a, a = h.size → Ext h h' → Ar Z h' a (newarray.typeOf aty) (List.replicate n.toNatClampNeg (defaultValue (newarray.typeOf aty))) → Wp p l e R s m args below meth c n0 cM sM Q h' ce' sl' (mkF m pc' Ls (.ref a :: st))) : Wp p l e R s m args below meth c n0 cM sM Q h cells slots (mkF m pc Ls (.int n :: st)) :=
  w_newP C w hd hp hn hcap hbig hc1 hl1 hc hl (fun h' a cA e E A => K h' a e E (Ar.new A))
theorem wA_newR (C : Cx p s m meth c Z own bytes ml rt nm) {pc pc' ce' sl' : Nat} {Ls : Array Slot} {st : List Value} {Cl : String} {i : Nat} {n : Int32} {cap : Nat} (w1 : (Jvm.Cond.classLink own i Cl).before a0 Z = true) (w2 : (Jvm.Cond.arrayOver (.object Cl)).before a0 Z = true) (hd : decode bytes pc = .ok (.anewarray i, 3)) (hp : pc + 3 = pc') (hn : ¬ n < 0) (hcap : n.toNatClampNeg ≤ cap) (hbig : cap * 8 ≤ 536870912) (hc1 : cells + 1 = ce') (hl1 : slots + cap = sl') (hc : ce' ≤ R.cells) (hl : sl' ≤ R.slots)
    (K : ∀ h' a, a = h.size → Ext h h' → ArR Z h' a Cl (List.replicate n.toNatClampNeg .null) → Wp p l e R s m args below meth c n0 cM sM Q h' ce' sl' (mkF m pc' Ls (.ref a :: st))) : Wp p l e R s m args below meth c n0 cM sM Q h cells slots (mkF m pc Ls (.int n :: st)) :=
  w_newR C w1 w2 hd hp hn hcap hbig hc1 hl1 hc hl (fun h' a cA e E A O => K h' a e E (ArR.new A O))
end Rules2
theorem cmpJ_gt (x y : Int64) : (0 < cmpJ x y) = (y < x) := propext (lw_gt x y)
theorem cmpJ_lt (x y : Int64) : (cmpJ x y < 0) = (x < y) := propext (lw_lt x y)
theorem cmpJ_eq (x y : Int64) : (cmpJ x y = 0) = (x = y) := propext (lw_eq x y)
theorem toCh_rng (x : Int32) : 0 ≤ (toCh x).toInt ∧ (toCh x).toInt < 65536 := ⟨(c_i2c x).2.1, (c_i2c x).2.2⟩
theorem toCh_mod (x : Int32) : ((toCh x).toInt - x.toInt) % 65536 = 0 := (c_i2c x).1
theorem toCh_id {x : Int32} (h0 : 0 ≤ x.toInt) (h1 : x.toInt < 65536) : toCh x = x := by
  apply Int32.toInt_inj.mp
  have := toCh_rng x; have := toCh_mod x
  omega
/-- an int in 0 .. n-1 is one of the n numbers -/
theorem small_int {n : Nat} {x : Int32} (h0 : 0 ≤ x.toInt) (h1 : x.toInt < n) : ∃ k : Fin n, x = Int32.ofInt (k.1 : Int) := by
  refine ⟨⟨x.toInt.toNat, by omega⟩, ?_⟩
  show x = Int32.ofInt ((x.toInt.toNat : Nat) : Int)
  rw [Int.toNat_of_nonneg h0, Int32.ofInt_toInt]
end Jvm.Own
namespace Jvm.Pilot.@@N@@
open Jvm Jvm.ClassFile Sem Op Lib Jvm.Free Jvm.Stand Jvm.LawKit Jvm.RoadKit Jvm.Own Bundle Jvm.Pilot.@@N@@.Jvm.D
theorem tw {tabs : List Jvm.Cond} {a0 : Array Value} {Z : State} (hw : ∀ d ∈ tabs, d.before a0 Z = true) (i : Nat) {d : Jvm.Cond} (h : tabs[i]? = some d) : d.before a0 Z = true := hw _ (List.mem_of_getElem? h)
theorem pd_0 : parseMethodDescriptor "(I)I" = some ⟨[.int], some .int⟩ := by decide +kernel
theorem pd_1 : parseMethodDescriptor "(I)V" = some ⟨[.int], none⟩ := by decide +kernel
theorem pd_2 : parseMethodDescriptor "(I)J" = some ⟨[.int], some .long⟩ := by decide +kernel
theorem pd_3 : parseMethodDescriptor "(II)V" = some ⟨[.int, .int], none⟩ := by decide +kernel
theorem pd_4 : parseMethodDescriptor "()V" = some ⟨[], none⟩ := by decide +kernel
theorem pd_5 : parseMethodDescriptor "([II)I" = some ⟨[(.array .int), .int], some .int⟩ := by decide +kernel
theorem pd_6 : parseMethodDescriptor "([IIII)Z" = some ⟨[(.array .int), .int, .int, .int], some .boolean⟩ := by decide +kernel
theorem obj_Nst {Z : State} {a0 : Array Value} (hw : ∀ d ∈ tables_1, d.before a0 Z = true) {h : Heap} {a : Addr} (A : Exa Z h a "com/example/gatewright/gatewright/NearestStatements") (D : ∀ {O nm d : String} {ty : FieldType}, Laid Z a0 "com/example/gatewright/gatewright/NearestStatements" O nm d → parseFieldDescriptor d = some ty → Fld Z h a O nm d (defaultValue ty)) :
    Obj Z h a "com/example/gatewright/gatewright/NearestStatements" [("slots", "[J", .null), ("shift", "I", .int (0 : Int32)), ("size", "I", .int (0 : Int32))] := by
  refine ⟨A, fun i f q => ?_, fun i j f g q r z => ?_⟩
  · match i, q with
    | 0, q => cases q; exact D (Or.inl (tw hw 17 rfl)) (ty := (.array .long)) (by decide)
    | 1, q => cases q; exact D (Or.inl (tw hw 24 rfl)) (ty := .int) (by decide)
    | 2, q => cases q; exact D (Or.inl (tw hw 26 rfl)) (ty := .int) (by decide)
    | (k + 3), q => simp at q
  · match i, j, q, r, z with
    | 0, 0, q, r, z => exact absurd rfl z
    | 0, 1, q, r, z => cases q; cases r; exact slot_ne (C := "com/example/gatewright/gatewright/NearestStatements") (Or.inl (tw hw 17 rfl)) (Or.inl (tw hw 24 rfl)) (by decide) (t := (.array .long)) (t' := .int) (by decide) (by decide)
    | 0, 2, q, r, z => cases q; cases r; exact slot_ne (C := "com/example/gatewright/gatewright/NearestStatements") (Or.inl (tw hw 17 rfl)) (Or.inl (tw hw 26 rfl)) (by decide) (t := (.array .long)) (t' := .int) (by decide) (by decide)
    | 1, 0, q, r, z => cases q; cases r; exact slot_ne (C := "com/example/gatewright/gatewright/NearestStatements") (Or.inl (tw hw 24 rfl)) (Or.inl (tw hw 17 rfl)) (by decide) (t := .int) (t' := (.array .long)) (by decide) (by decide)
    | 1, 1, q, r, z => exact absurd rfl z
    | 1, 2, q, r, z => cases q; cases r; exact slot_ne (C := "com/example/gatewright/gatewright/NearestStatements") (Or.inl (tw hw 24 rfl)) (Or.inl (tw hw 26 rfl)) (by decide) (t := .int) (t' := .int) (by decide) (by decide)
    | 2, 0, q, r, z => cases q; cases r; exact slot_ne (C := "com/example/gatewright/gatewright/NearestStatements") (Or.inl (tw hw 26 rfl)) (Or.inl (tw hw 17 rfl)) (by decide) (t := .int) (t' := (.array .long)) (by decide) (by decide)
    | 2, 1, q, r, z => cases q; cases r; exact slot_ne (C := "com/example/gatewright/gatewright/NearestStatements") (Or.inl (tw hw 26 rfl)) (Or.inl (tw hw 24 rfl)) (by decide) (t := .int) (t' := .int) (by decide) (by decide)
    | 2, 2, q, r, z => exact absurd rfl z
    | (k + 3), j, q, r, z => simp at q
    | 0, (k + 3), q, r, z => simp at r
    | 1, (k + 3), q, r, z => simp at r
    | 2, (k + 3), q, r, z => simp at r
theorem d8_0 : decode prog_2_method_9_code 0 = .ok (.iload_n 0, 1) := by decide +kernel
theorem d8_1 : decode prog_2_method_9_code 1 = .ok (.iconst 1, 1) := by decide +kernel
theorem d8_2 : decode prog_2_method_9_code 2 = .ok (.iadd, 1) := by decide +kernel
theorem d8_3 : decode prog_2_method_9_code 3 = .ok (.i2l, 1) := by decide +kernel
theorem d8_4 : decode prog_2_method_9_code 4 = .ok (.bipush 32, 2) := by decide +kernel
theorem d8_6 : decode prog_2_method_9_code 6 = .ok (.lshl, 1) := by decide +kernel
theorem d8_7 : decode prog_2_method_9_code 7 = .ok (.lreturn, 1) := by decide +kernel
def keyJ (r : Int32) : Int64 := (((r + (1 : Int32)).toInt64) <<< ((32 : Int32) &&& 0x3f).toInt64)
def rm_keyJ : Room := { frames := 0, cells := 0, slots := 0, locals := 0 }
def Q_keyJ (r : Int32) (h0 : Heap) (v : Option Value) (h : Heap) : Prop := v = some (.long (keyJ r)) ∧ h = h0
theorem pf_keyJ : plainFor (⟨"com/example/gatewright/gatewright/NearestStatements", "key", "(I)J"⟩ : MethodName) = true := plainFor_of_name (by first | (simp [plainName, overriddenIn]; done) | decide +kernel)
set_option maxRecDepth 65536 in
set_option maxHeartbeats 40000000 in
theorem ct_keyJ {l : Launch} {Z : State} {a0 : Array Value} (hw : ∀ d ∈ tables_1, d.before a0 Z = true) (h0 : Heap) (n0 : Nat) (r : Int32)  :
    Ct l Z (⟨"com/example/gatewright/gatewright/NearestStatements", "key", "(I)J"⟩ : MethodName) prog_2_method_9_code 1 (Option.some Jvm.ClassFile.FieldType.long) [] rm_keyJ #[.int r] h0 n0 (Q_keyJ r h0) := by
  refine Ct.of (Ls := #[.val (.int r)]) pf_keyJ (fun m => by first | (simp [entryFrame, mkF, argsToLocals, Value.category, maxLocals]; done) | rfl) ?_
  intro p e s m below meth c C
  have hr : keyJ r = (((r + (1 : Int32)).toInt64) <<< ((32 : Int32) &&& 0x3f).toInt64) := rfl
  refine w_iloadN (pc' := 1) C d8_0 rfl rfl ?_
  refine w_iconst (pc' := 2) (x := (1 : Int32)) C d8_1 rfl rfl ?_
  refine w_iadd (pc' := 3) C d8_2 rfl ?_
  refine w_i2l (pc' := 4) C d8_3 rfl ?_
  refine w_bipush (pc' := 6) (x := (32 : Int32)) C d8_4 rfl rfl ?_
  refine w_lshl (pc' := 7) C d8_6 rfl ?_
  refine w_retJ C rfl d8_7 (by decide) (by decide) ?_
  exact And.intro (congrArg (fun z => some (Value.long z)) hr.symm) rfl
theorem d9_0 : decode prog_2_method_10_code 0 = .ok (.iload_n 1, 1) := by decide +kernel
theorem d9_1 : decode prog_2_method_10_code 1 = .ok (.ldc 45, 2) := by decide +kernel
theorem d9_3 : decode prog_2_method_10_code 3 = .ok (.imul, 1) := by decide +kernel
theorem d9_4 : decode prog_2_method_10_code 4 = .ok (.aload_n 0, 1) := by decide +kernel
theorem d9_5 : decode prog_2_method_10_code 5 = .ok (.getfield 46, 3) := by decide +kernel
theorem d9_8 : decode prog_2_method_10_code 8 = .ok (.iushr, 1) := by decide +kernel
theorem d9_9 : decode prog_2_method_10_code 9 = .ok (.ireturn, 1) := by decide +kernel
def slotF (r : Int32) (sh : Int32) (sz : Int32) : Int32 := (((r * (-1640531527 : Int32)).toUInt32 >>> (sh &&& 31).toUInt32).toInt32)
def rm_slotF : Room := { frames := 0, cells := 0, slots := 0, locals := 0 }
def Q_slotF (r : Int32) (sh : Int32) (sz : Int32) (h0 : Heap) (v : Option Value) (h : Heap) : Prop := v = some (.int (slotF r sh sz)) ∧ h = h0
theorem pf_slotF : plainFor (⟨"com/example/gatewright/gatewright/NearestStatements", "slot", "(I)I"⟩ : MethodName) = true := plainFor_of_name (by first | (simp [plainName, overriddenIn]; done) | decide +kernel)
set_option maxRecDepth 65536 in
set_option maxHeartbeats 40000000 in
theorem ct_slotF {l : Launch} {Z : State} {a0 : Array Value} (hw : ∀ d ∈ tables_1, d.before a0 Z = true) (h0 : Heap) (n0 : Nat) (b : Addr) (r : Int32) (pa : Addr) (sh : Int32) (sz : Int32) (O_b : Obj Z h0 b "com/example/gatewright/gatewright/NearestStatements" [("slots", "[J", .ref pa), ("shift", "I", .int sh), ("size", "I", .int sz)]) :
    Ct l Z (⟨"com/example/gatewright/gatewright/NearestStatements", "slot", "(I)I"⟩ : MethodName) prog_2_method_10_code 2 (Option.some Jvm.ClassFile.FieldType.int) [] rm_slotF #[.ref b, .int r] h0 n0 (Q_slotF r sh sz h0) := by
  refine Ct.of (Ls := #[.val (.ref b), .val (.int r)]) pf_slotF (fun m => by first | (simp [entryFrame, mkF, argsToLocals, Value.category, maxLocals]; done) | rfl) ?_
  intro p e s m below meth c C
  have hr : slotF r sh sz = (((r * (-1640531527 : Int32)).toUInt32 >>> (sh &&& 31).toUInt32).toInt32) := rfl
  refine w_iloadN (pc' := 1) C d9_0 rfl rfl ?_
  refine w_ldcI (pc' := 3) C (tw hw 49 rfl) d9_1 rfl ?_
  refine w_imul (pc' := 4) C d9_3 rfl ?_
  refine w_aloadN (pc' := 5) C d9_4 rfl rfl rfl ?_
  refine w_getF (pc' := 8) C (tw hw 23 rfl) d9_5 rfl (O_b.fld 1 rfl) ?_
  refine w_iushr (pc' := 9) C d9_8 rfl ?_
  refine w_retI C rfl d9_9 (by decide) (by decide) ?_
  exact And.intro (congrArg (fun z => some (Value.int z)) hr.symm) rfl
theorem d4_0 : decode jdk_33_method_47_code 0 = .ok (.iload_n 0, 1) := by decide +kernel
theorem d4_1 : decode jdk_33_method_47_code 1 = .ok (.ifCond .gt 14, 3) := by decide +kernel
theorem d4_4 : decode jdk_33_method_47_code 4 = .ok (.iload_n 0, 1) := by decide +kernel
theorem d4_5 : decode jdk_33_method_47_code 5 = .ok (.ifCond .ne 8, 3) := by decide +kernel
theorem d4_8 : decode jdk_33_method_47_code 8 = .ok (.bipush 32, 2) := by decide +kernel
theorem d4_10 : decode jdk_33_method_47_code 10 = .ok (.goto 4, 3) := by decide +kernel
theorem d4_13 : decode jdk_33_method_47_code 13 = .ok (.iconst 0, 1) := by decide +kernel
theorem d4_14 : decode jdk_33_method_47_code 14 = .ok (.ireturn, 1) := by decide +kernel
theorem d4_15 : decode jdk_33_method_47_code 15 = .ok (.bipush 31, 2) := by decide +kernel
theorem d4_17 : decode jdk_33_method_47_code 17 = .ok (.istore_n 1, 1) := by decide +kernel
theorem d4_18 : decode jdk_33_method_47_code 18 = .ok (.iload_n 0, 1) := by decide +kernel
theorem d4_19 : decode jdk_33_method_47_code 19 = .ok (.ldc_w 264, 3) := by decide +kernel
theorem d4_22 : decode jdk_33_method_47_code 22 = .ok (.if_icmp .lt 11, 3) := by decide +kernel
theorem d4_25 : decode jdk_33_method_47_code 25 = .ok (.iinc 1 (-16), 3) := by decide +kernel
theorem d4_28 : decode jdk_33_method_47_code 28 = .ok (.iload_n 0, 1) := by decide +kernel
theorem d4_29 : decode jdk_33_method_47_code 29 = .ok (.bipush 16, 2) := by decide +kernel
theorem d4_31 : decode jdk_33_method_47_code 31 = .ok (.iushr, 1) := by decide +kernel
theorem d4_32 : decode jdk_33_method_47_code 32 = .ok (.istore_n 0, 1) := by decide +kernel
theorem d4_33 : decode jdk_33_method_47_code 33 = .ok (.iload_n 0, 1) := by decide +kernel
theorem d4_34 : decode jdk_33_method_47_code 34 = .ok (.sipush 256, 3) := by decide +kernel
theorem d4_37 : decode jdk_33_method_47_code 37 = .ok (.if_icmp .lt 11, 3) := by decide +kernel
theorem d4_40 : decode jdk_33_method_47_code 40 = .ok (.iinc 1 (-8), 3) := by decide +kernel
theorem d4_43 : decode jdk_33_method_47_code 43 = .ok (.iload_n 0, 1) := by decide +kernel
theorem d4_44 : decode jdk_33_method_47_code 44 = .ok (.bipush 8, 2) := by decide +kernel
theorem d4_46 : decode jdk_33_method_47_code 46 = .ok (.iushr, 1) := by decide +kernel
theorem d4_47 : decode jdk_33_method_47_code 47 = .ok (.istore_n 0, 1) := by decide +kernel
theorem d4_48 : decode jdk_33_method_47_code 48 = .ok (.iload_n 0, 1) := by decide +kernel
theorem d4_49 : decode jdk_33_method_47_code 49 = .ok (.bipush 16, 2) := by decide +kernel
theorem d4_51 : decode jdk_33_method_47_code 51 = .ok (.if_icmp .lt 10, 3) := by decide +kernel
theorem d4_54 : decode jdk_33_method_47_code 54 = .ok (.iinc 1 (-4), 3) := by decide +kernel
theorem d4_57 : decode jdk_33_method_47_code 57 = .ok (.iload_n 0, 1) := by decide +kernel
theorem d4_58 : decode jdk_33_method_47_code 58 = .ok (.iconst 4, 1) := by decide +kernel
theorem d4_59 : decode jdk_33_method_47_code 59 = .ok (.iushr, 1) := by decide +kernel
theorem d4_60 : decode jdk_33_method_47_code 60 = .ok (.istore_n 0, 1) := by decide +kernel
theorem d4_61 : decode jdk_33_method_47_code 61 = .ok (.iload_n 0, 1) := by decide +kernel
theorem d4_62 : decode jdk_33_method_47_code 62 = .ok (.iconst 4, 1) := by decide +kernel
theorem d4_63 : decode jdk_33_method_47_code 63 = .ok (.if_icmp .lt 10, 3) := by decide +kernel
theorem d4_66 : decode jdk_33_method_47_code 66 = .ok (.iinc 1 (-2), 3) := by decide +kernel
theorem d4_69 : decode jdk_33_method_47_code 69 = .ok (.iload_n 0, 1) := by decide +kernel
theorem d4_70 : decode jdk_33_method_47_code 70 = .ok (.iconst 2, 1) := by decide +kernel
theorem d4_71 : decode jdk_33_method_47_code 71 = .ok (.iushr, 1) := by decide +kernel
theorem d4_72 : decode jdk_33_method_47_code 72 = .ok (.istore_n 0, 1) := by decide +kernel
theorem d4_73 : decode jdk_33_method_47_code 73 = .ok (.iload_n 1, 1) := by decide +kernel
theorem d4_74 : decode jdk_33_method_47_code 74 = .ok (.iload_n 0, 1) := by decide +kernel
theorem d4_75 : decode jdk_33_method_47_code 75 = .ok (.iconst 1, 1) := by decide +kernel
theorem d4_76 : decode jdk_33_method_47_code 76 = .ok (.iushr, 1) := by decide +kernel
theorem d4_77 : decode jdk_33_method_47_code 77 = .ok (.isub, 1) := by decide +kernel
theorem d4_78 : decode jdk_33_method_47_code 78 = .ok (.ireturn, 1) := by decide +kernel
def nlz_73 (x : Int32) (v73_0 : Int32) (v73_1 : Int32) : Int32 := (v73_1 - ((v73_0.toUInt32 >>> ((1 : Int32) &&& 31).toUInt32).toInt32))
def nlz_61 (x : Int32) (v61_0 : Int32) (v61_1 : Int32) : Int32 := (if v61_0 < (4 : Int32) then (nlz_73 x v61_0 v61_1) else (nlz_73 x ((v61_0.toUInt32 >>> ((2 : Int32) &&& 31).toUInt32).toInt32) (v61_1 + (-2 : Int32))))
def nlz_48 (x : Int32) (v48_0 : Int32) (v48_1 : Int32) : Int32 := (if v48_0 < (16 : Int32) then (nlz_61 x v48_0 v48_1) else (nlz_61 x ((v48_0.toUInt32 >>> ((4 : Int32) &&& 31).toUInt32).toInt32) (v48_1 + (-4 : Int32))))
def nlz_33 (x : Int32) (v33_0 : Int32) (v33_1 : Int32) : Int32 := (if v33_0 < (256 : Int32) then (nlz_48 x v33_0 v33_1) else (nlz_48 x ((v33_0.toUInt32 >>> ((8 : Int32) &&& 31).toUInt32).toInt32) (v33_1 + (-8 : Int32))))
def nlz (x : Int32) : Int32 := (if 0 < x then (if x < (65536 : Int32) then (nlz_33 x x (31 : Int32)) else (nlz_33 x ((x.toUInt32 >>> ((16 : Int32) &&& 31).toUInt32).toInt32) (15 : Int32))) else (if x = 0 then (32 : Int32) else (0 : Int32)))
def rm_nlz : Room := { frames := 0, cells := 0, slots := 0, locals := 0 }
def Q_nlz (x : Int32) (h0 : Heap) (v : Option Value) (h : Heap) : Prop := v = some (.int (nlz x)) ∧ h = h0
theorem pf_nlz : plainFor (⟨"java/lang/Integer", "numberOfLeadingZeros", "(I)I"⟩ : MethodName) = true := plainFor_of_name (by first | (simp [plainName, overriddenIn]; done) | decide +kernel)
set_option maxRecDepth 65536 in
set_option maxHeartbeats 40000000 in
theorem ct_nlz {l : Launch} {Z : State} {a0 : Array Value} (hw : ∀ d ∈ tables_1, d.before a0 Z = true) (h0 : Heap) (n0 : Nat) (x : Int32)  :
    Ct l Z (⟨"java/lang/Integer", "numberOfLeadingZeros", "(I)I"⟩ : MethodName) jdk_33_method_47_code 2 (Option.some Jvm.ClassFile.FieldType.int) [] rm_nlz #[.int x] h0 n0 (Q_nlz x h0) := by
  refine Ct.of (Ls := #[.val (.int x), .unset]) pf_nlz (fun m => by first | (simp [entryFrame, mkF, argsToLocals, Value.category, maxLocals]; done) | rfl) ?_
  intro p e s m below meth c C
  have K73 : ∀ (v73_0 : Int32) (v73_1 : Int32), nlz x = nlz_73 x v73_0 v73_1 → Wp p l e rm_nlz s m #[.int x] below meth c n0 rm_nlz.cells rm_nlz.slots (Q_nlz x h0) h0 0 0 (mkF m 73 #[.val (.int v73_0), .val (.int v73_1)] []) := by
    intro v73_0 v73_1 hr
    change _ = (v73_1 - ((v73_0.toUInt32 >>> ((1 : Int32) &&& 31).toUInt32).toInt32)) at hr
    refine w_iloadN (pc' := 74) C d4_73 rfl rfl ?_
    refine w_iloadN (pc' := 75) C d4_74 rfl rfl ?_
    refine w_iconst (pc' := 76) (x := (1 : Int32)) C d4_75 rfl rfl ?_
    refine w_iushr (pc' := 77) C d4_76 rfl ?_
    refine w_isub (pc' := 78) C d4_77 rfl ?_
    refine w_retI C rfl d4_78 (by decide) (by decide) ?_
    exact And.intro (congrArg (fun z => some (Value.int z)) hr.symm) rfl
  have K61 : ∀ (v61_0 : Int32) (v61_1 : Int32), nlz x = nlz_61 x v61_0 v61_1 → Wp p l e rm_nlz s m #[.int x] below meth c n0 rm_nlz.cells rm_nlz.slots (Q_nlz x h0) h0 0 0 (mkF m 61 #[.val (.int v61_0), .val (.int v61_1)] []) := by
    intro v61_0 v61_1 hr
    change _ = (if v61_0 < (4 : Int32) then (nlz_73 x v61_0 v61_1) else (nlz_73 x ((v61_0.toUInt32 >>> ((2 : Int32) &&& 31).toUInt32).toInt32) (v61_1 + (-2 : Int32)))) at hr
    refine w_iloadN (pc' := 62) C d4_61 rfl rfl ?_
    refine w_iconst (pc' := 63) (x := (4 : Int32)) C d4_62 rfl rfl ?_
    refine w_icmp_lt (pcT := 73) (pcF := 66) C d4_63 (by decide) (by decide) rfl (fun q63 => ?_) (fun q63 => ?_)
    · have hr := hr.trans (if_pos q63)
      exact K73 v61_0 v61_1 hr
    · have hr := hr.trans (if_neg q63)
      refine w_iinc (pc' := 69) (Ls' := #[.val (.int v61_0), .val (.int (v61_1 + (-2 : Int32)))]) C d4_66 rfl rfl rfl ?_
      refine w_iloadN (pc' := 70) C d4_69 rfl rfl ?_
      refine w_iconst (pc' := 71) (x := (2 : Int32)) C d4_70 rfl rfl ?_
      refine w_iushr (pc' := 72) C d4_71 rfl ?_
      refine w_istoreN (pc' := 73) (Ls' := #[.val (.int ((v61_0.toUInt32 >>> ((2 : Int32) &&& 31).toUInt32).toInt32)), .val (.int (v61_1 + (-2 : Int32)))]) C d4_72 rfl rfl ?_
      exact K73 ((v61_0.toUInt32 >>> ((2 : Int32) &&& 31).toUInt32).toInt32) (v61_1 + (-2 : Int32)) hr
  have K48 : ∀ (v48_0 : Int32) (v48_1 : Int32), nlz x = nlz_48 x v48_0 v48_1 → Wp p l e rm_nlz s m #[.int x] below meth c n0 rm_nlz.cells rm_nlz.slots (Q_nlz x h0) h0 0 0 (mkF m 48 #[.val (.int v48_0), .val (.int v48_1)] []) := by
    intro v48_0 v48_1 hr
    change _ = (if v48_0 < (16 : Int32) then (nlz_61 x v48_0 v48_1) else (nlz_61 x ((v48_0.toUInt32 >>> ((4 : Int32) &&& 31).toUInt32).toInt32) (v48_1 + (-4 : Int32)))) at hr
    refine w_iloadN (pc' := 49) C d4_48 rfl rfl ?_
    refine w_bipush (pc' := 51) (x := (16 : Int32)) C d4_49 rfl rfl ?_
    refine w_icmp_lt (pcT := 61) (pcF := 54) C d4_51 (by decide) (by decide) rfl (fun q51 => ?_) (fun q51 => ?_)
    · have hr := hr.trans (if_pos q51)
      exact K61 v48_0 v48_1 hr
    · have hr := hr.trans (if_neg q51)
      refine w_iinc (pc' := 57) (Ls' := #[.val (.int v48_0), .val (.int (v48_1 + (-4 : Int32)))]) C d4_54 rfl rfl rfl ?_
      refine w_iloadN (pc' := 58) C d4_57 rfl rfl ?_
      refine w_iconst (pc' := 59) (x := (4 : Int32)) C d4_58 rfl rfl ?_
      refine w_iushr (pc' := 60) C d4_59 rfl ?_
      refine w_istoreN (pc' := 61) (Ls' := #[.val (.int ((v48_0.toUInt32 >>> ((4 : Int32) &&& 31).toUInt32).toInt32)), .val (.int (v48_1 + (-4 : Int32)))]) C d4_60 rfl rfl ?_
      exact K61 ((v48_0.toUInt32 >>> ((4 : Int32) &&& 31).toUInt32).toInt32) (v48_1 + (-4 : Int32)) hr
  have K33 : ∀ (v33_0 : Int32) (v33_1 : Int32), nlz x = nlz_33 x v33_0 v33_1 → Wp p l e rm_nlz s m #[.int x] below meth c n0 rm_nlz.cells rm_nlz.slots (Q_nlz x h0) h0 0 0 (mkF m 33 #[.val (.int v33_0), .val (.int v33_1)] []) := by
    intro v33_0 v33_1 hr
    change _ = (if v33_0 < (256 : Int32) then (nlz_48 x v33_0 v33_1) else (nlz_48 x ((v33_0.toUInt32 >>> ((8 : Int32) &&& 31).toUInt32).toInt32) (v33_1 + (-8 : Int32)))) at hr
    refine w_iloadN (pc' := 34) C d4_33 rfl rfl ?_
    refine w_sipush (pc' := 37) (x := (256 : Int32)) C d4_34 rfl rfl ?_
    refine w_icmp_lt (pcT := 48) (pcF := 40) C d4_37 (by decide) (by decide) rfl (fun q37 => ?_) (fun q37 => ?_)
    · have hr := hr.trans (if_pos q37)
      exact K48 v33_0 v33_1 hr
    · have hr := hr.trans (if_neg q37)
      refine w_iinc (pc' := 43) (Ls' := #[.val (.int v33_0), .val (.int (v33_1 + (-8 : Int32)))]) C d4_40 rfl rfl rfl ?_
      refine w_iloadN (pc' := 44) C d4_43 rfl rfl ?_
      refine w_bipush (pc' := 46) (x := (8 : Int32)) C d4_44 rfl rfl ?_
      refine w_iushr (pc' := 47) C d4_46 rfl ?_
      refine w_istoreN (pc' := 48) (Ls' := #[.val (.int ((v33_0.toUInt32 >>> ((8 : Int32) &&& 31).toUInt32).toInt32)), .val (.int (v33_1 + (-8 : Int32)))]) C d4_47 rfl rfl ?_
      exact K48 ((v33_0.toUInt32 >>> ((8 : Int32) &&& 31).toUInt32).toInt32) (v33_1 + (-8 : Int32)) hr
  have hr : nlz x = (if 0 < x then (if x < (65536 : Int32) then (nlz_33 x x (31 : Int32)) else (nlz_33 x ((x.toUInt32 >>> ((16 : Int32) &&& 31).toUInt32).toInt32) (15 : Int32))) else (if x = 0 then (32 : Int32) else (0 : Int32))) := rfl
  refine w_iloadN (pc' := 1) C d4_0 rfl rfl ?_
  refine w_if_gt (pcT := 15) (pcF := 4) C d4_1 (by decide) (by decide) rfl (fun q1 => ?_) (fun q1 => ?_)
  · have hr := hr.trans (if_pos q1)
    refine w_bipush (pc' := 17) (x := (31 : Int32)) C d4_15 rfl rfl ?_
    refine w_istoreN (pc' := 18) (Ls' := #[.val (.int x), .val (.int (31 : Int32))]) C d4_17 rfl rfl ?_
    refine w_iloadN (pc' := 19) C d4_18 rfl rfl ?_
    refine w_ldcwI (pc' := 22) C (tw hw 22 rfl) d4_19 rfl ?_
    refine w_icmp_lt (pcT := 33) (pcF := 25) C d4_22 (by decide) (by decide) rfl (fun q22 => ?_) (fun q22 => ?_)
    · have hr := hr.trans (if_pos q22)
      exact K33 x (31 : Int32) hr
    · have hr := hr.trans (if_neg q22)
      refine w_iincE (pc' := 28) (z := (15 : Int32)) (Ls' := #[.val (.int x), .val (.int (15 : Int32))]) C d4_25 rfl (by decide) rfl rfl ?_
      refine w_iloadN (pc' := 29) C d4_28 rfl rfl ?_
      refine w_bipush (pc' := 31) (x := (16 : Int32)) C d4_29 rfl rfl ?_
      refine w_iushr (pc' := 32) C d4_31 rfl ?_
      refine w_istoreN (pc' := 33) (Ls' := #[.val (.int ((x.toUInt32 >>> ((16 : Int32) &&& 31).toUInt32).toInt32)), .val (.int (15 : Int32))]) C d4_32 rfl rfl ?_
      exact K33 ((x.toUInt32 >>> ((16 : Int32) &&& 31).toUInt32).toInt32) (15 : Int32) hr
  · have hr := hr.trans (if_neg q1)
    refine w_iloadN (pc' := 5) C d4_4 rfl rfl ?_
    refine w_if_ne (pcT := 13) (pcF := 8) C d4_5 (by decide) (by decide) rfl (fun q5 => ?_) (fun q5 => ?_)
    · have hr := hr.trans (if_neg q5)
      refine w_iconst (pc' := 14) (x := (0 : Int32)) C d4_13 rfl rfl ?_
      refine w_retI C rfl d4_14 (by decide) (by decide) ?_
      exact And.intro (congrArg (fun z => some (Value.int z)) hr.symm) rfl
    · have hr := hr.trans (if_pos q5)
      refine w_bipush (pc' := 10) (x := (32 : Int32)) C d4_8 rfl rfl ?_
      refine w_goto (pc' := 14) C d4_10 (by decide) (by decide) ?_
      refine w_retI C rfl d4_14 (by decide) (by decide) ?_
      exact And.intro (congrArg (fun z => some (Value.int z)) hr.symm) rfl
def R10 (f : Int32) : Prop := 0 ≤ f.toInt ∧ f.toInt ≤ 1023
def hi (x : Int64) : Int64 := x &&& (-4294967296 : Int64)
def ent (r f : Int32) : Int64 := (keyJ r ||| f.toInt64)
def rightOf (x : Int64) : Int32 := ((((x.toUInt64 >>> ((32 : Int32) &&& 0x3f).toInt64.toUInt64).toInt64).toInt32) - (1 : Int32))
theorem key_bv (r : Int32) : (keyJ r).toBitVec = (r.toBitVec + 1#32).signExtend 64 <<< 32 := rfl
theorem rgt_bv (x : Int64) : (rightOf x).toBitVec = ((x.toBitVec >>> 32).signExtend 32) - 1#32 := rfl
theorem f_bv {f : Int32} (h : R10 f) (i : Nat) : (f.toBitVec.signExtend 64).getLsbD i = (decide (i < 10) && f.toBitVec.getLsbD i) := by
  have h1 : f.toBitVec.toNat < 2 ^ 10 := by
    have a1 := h.1; have a2 := h.2
    have e : f.toInt = f.toBitVec.toInt := rfl
    rw [e] at a1 a2
    rw [BitVec.toInt_eq_toNat_cond] at a1 a2
    split at a1 <;> simp_all <;> omega
  have hm : f.toBitVec.msb = false := by
    rw [BitVec.msb_eq_false_iff_two_mul_lt]; omega
  rw [BitVec.signExtend_eq_setWidth_of_msb_false hm, BitVec.getLsbD_setWidth]
  by_cases g : i < 10
  · simp [g]; omega
  · have : f.toBitVec.getLsbD i = false := by
      rw [BitVec.getLsbD]; apply Nat.testBit_lt_two_pow
      exact Nat.lt_of_lt_of_le h1 (Nat.pow_le_pow_right (by decide) (by omega))
    simp [this]
theorem bv64 {x y : Int64} (h : x.toBitVec = y.toBitVec) : x = y := Int64.toBitVec_inj.mp h
theorem bv32 {x y : Int32} (h : x.toBitVec = y.toBitVec) : x = y := Int32.toBitVec_inj.mp h
theorem key_low (r : Int32) (i : Nat) (h : i < 32) : (keyJ r).toBitVec.getLsbD i = false := by
  rw [key_bv, BitVec.getLsbD_shiftLeft]; simp [h]
theorem hi_ent {r f : Int32} (h : R10 f) : hi (ent r f) = keyJ r := by
  apply bv64
  show ((keyJ r).toBitVec ||| f.toBitVec.signExtend 64) &&& (-4294967296#64) = _
  rw [show (-4294967296#64 : BitVec 64) = BitVec.allOnes 64 <<< 32 by decide]
  apply BitVec.eq_of_getLsbD_eq
  intro i hi
  rw [BitVec.getLsbD_and, BitVec.getLsbD_or, f_bv h, BitVec.getLsbD_shiftLeft, BitVec.getLsbD_allOnes]
  by_cases g : i < 32
  · rw [key_low r i g]; simp [g]
  · have : ¬ i < 10 := by omega
    have : i - 32 < 64 := by omega
    simp [*]
theorem low_ent {r f : Int32} (h : R10 f) : (ent r f).toInt32 = f := by
  apply bv32
  show ((keyJ r).toBitVec ||| f.toBitVec.signExtend 64).signExtend 32 = _
  apply BitVec.eq_of_getLsbD_eq
  intro i hi
  rw [BitVec.signExtend_eq_setWidth_of_le _ (by decide), BitVec.getLsbD_setWidth, BitVec.getLsbD_or, key_low r i hi, f_bv h]
  have : i < 10 ∨ f.toBitVec.getLsbD i = false := by
    by_cases g : i < 10
    · exact Or.inl g
    · right
      have := f_bv h i
      rw [BitVec.getLsbD_signExtend] at this
      simp [hi, g] at this
      exact this (by omega)
  rcases this with g | g
  · simp [g, hi]
  · rw [g]; simp
theorem rgt_key (r : Int32) (x : Int64) (h : hi x = keyJ r) : rightOf x = r := by
  apply bv32
  rw [rgt_bv]
  have e : (x.toBitVec >>> 32).signExtend 32 = r.toBitVec + 1#32 := by
    apply BitVec.eq_of_getLsbD_eq
    intro i hi'
    have h2 := congrArg (fun z : Int64 => z.toBitVec.getLsbD (32 + i)) h
    replace h2 : (hi x).toBitVec.getLsbD (32 + i) = (keyJ r).toBitVec.getLsbD (32 + i) := h2
    rw [show (hi x).toBitVec = x.toBitVec &&& (BitVec.allOnes 64 <<< 32) by rw [← show (-4294967296#64 : BitVec 64) = BitVec.allOnes 64 <<< 32 by decide]; rfl, BitVec.getLsbD_and, BitVec.getLsbD_shiftLeft, BitVec.getLsbD_allOnes, key_bv, BitVec.getLsbD_shiftLeft, BitVec.getLsbD_signExtend] at h2
    rw [BitVec.signExtend_eq_setWidth_of_le _ (by decide), BitVec.getLsbD_setWidth, BitVec.getLsbD_ushiftRight]
    have a1 : 32 + i < 64 := by omega
    have a2 : i < 64 := by omega
    have a3 : ¬ 32 + i < 32 := by omega
    simp [hi', a1, a2, a3] at h2 ⊢
    exact h2
  rw [e]; exact BitVec.add_sub_cancel _ _
theorem rgt_ent {r f : Int32} (h : R10 f) : rightOf (ent r f) = r := rgt_key r _ (hi_ent h)
theorem hi_zero : hi 0 = 0 := by decide
theorem rgt_zero : rightOf 0 = -1 := by decide
theorem ent_ne {r f : Int32} (h : R10 f) (hr : r ≠ -1) : ent r f ≠ 0 := fun q => by
  have := rgt_ent (r := r) h
  rw [q, rgt_zero] at this
  exact hr this.symm
theorem key_ne {r : Int32} (hr : r ≠ -1) : keyJ r ≠ 0 := fun q => by
  have := rgt_key r 0 (hi_zero.trans q.symm)
  rw [rgt_zero] at this
  exact hr this.symm
theorem key_inj {r r' : Int32} (h : keyJ r = keyJ r') : r = r' := by
  have h0 : R10 0 := by constructor <;> decide
  rw [← rgt_key r (ent r 0) (hi_ent h0), ← rgt_key r' (ent r 0) ((hi_ent h0).trans h)]

/-! the table -/
def tat (T : List Int64) (j : Nat) : Int64 := T.getD j 0
theorem tat_get {T : List Int64} {j : Nat} (h : j < T.length) : T[j]? = some (tat T j) := by
  unfold tat; rw [List.getD_eq_getElem?_getD]; simp [h]
theorem tat_set_ne (T : List Int64) {i j : Nat} (x : Int64) (h : i ≠ j) : tat (T.set i x) j = tat T j := by
  unfold tat; rw [List.getD_eq_getElem?_getD, List.getD_eq_getElem?_getD, List.getElem?_set_ne h]
theorem tat_set_eq (T : List Int64) {i : Nat} (x : Int64) (h : i < T.length) : tat (T.set i x) i = x := by
  unfold tat; rw [List.getD_eq_getElem?_getD, List.getElem?_set_self h]; rfl
/-- the rights of the filled slots, in the slots' order -/
def rts : List Int64 → List Int32
  | [] => []
  | x :: T => if x = 0 then rts T else rightOf x :: rts T
theorem rts_app (T U : List Int64) : rts (T ++ U) = rts T ++ rts U := by
  induction T with
  | nil => rfl
  | cons x T ih => by_cases h : x = 0 <;> simp [rts, h, ih]
theorem rts_len (T : List Int64) : (rts T).length ≤ T.length := by
  induction T with
  | nil => exact Nat.le_refl _
  | cons x T ih => by_cases h : x = 0 <;> simp [rts, h] <;> omega
theorem rts_zero {T : List Int64} (h : (rts T).length < T.length) : ∃ j, j < T.length ∧ tat T j = 0 := by
  induction T with
  | nil => exact absurd h (Nat.not_lt_zero _)
  | cons x T ih =>
    by_cases hx : x = 0
    · exact ⟨0, by simp, by simp [tat, hx]⟩
    · simp [rts, hx] at h
      obtain ⟨j, h1, h2⟩ := ih h
      exact ⟨j + 1, by simp; omega, by simpa [tat] using h2⟩
theorem rts_mem {T : List Int64} {r : Int32} : r ∈ rts T ↔ ∃ j, j < T.length ∧ tat T j ≠ 0 ∧ rightOf (tat T j) = r := by
  induction T with
  | nil => simp [rts]
  | cons x T ih =>
    have e : (∃ j, j < (x :: T).length ∧ tat (x :: T) j ≠ 0 ∧ rightOf (tat (x :: T) j) = r) ↔ (x ≠ 0 ∧ rightOf x = r) ∨ ∃ j, j < T.length ∧ tat T j ≠ 0 ∧ rightOf (tat T j) = r := by
      constructor
      · rintro ⟨j, h1, h2, h3⟩
        cases j with
        | zero => exact Or.inl ⟨h2, h3⟩
        | succ j => exact Or.inr ⟨j, by simpa using h1, h2, h3⟩
      · rintro (⟨h1, h2⟩ | ⟨j, h1, h2, h3⟩)
        · exact ⟨0, by simp, h1, h2⟩
        · exact ⟨j + 1, by simpa using h1, h2, h3⟩
    rw [e, ← ih]
    by_cases hx : x = 0 <;> simp [rts, hx, eq_comm]
theorem rts_upd {T : List Int64} {j : Nat} {x : Int64} (h : j < T.length) (h0 : tat T j ≠ 0) (hx : x ≠ 0) (hr : rightOf x = rightOf (tat T j)) : rts (T.set j x) = rts T := by
  induction T generalizing j with
  | nil => exact absurd h (Nat.not_lt_zero _)
  | cons y T ih =>
    cases j with
    | zero =>
      have hy : y ≠ 0 := h0
      have hr' : rightOf x = rightOf y := hr
      simp [rts, hx, hy, hr']
    | succ j =>
      have := ih (j := j) (by simpa using h) h0 hr
      simp [rts, this]
theorem rts_ins {T : List Int64} {j : Nat} {x : Int64} (h : j < T.length) (h0 : tat T j = 0) (hx : x ≠ 0) : (rts (T.set j x)).Perm (rightOf x :: rts T) := by
  induction T generalizing j with
  | nil => exact absurd h (Nat.not_lt_zero _)
  | cons y T ih =>
    cases j with
    | zero =>
      have hy : y = 0 := h0
      simp [rts, hx, hy]
    | succ j =>
      have := ih (j := j) (by simpa using h) h0
      by_cases hy : y = 0
      · simpa [rts, hy] using this
      · simp only [rts, hy, List.set_cons_succ, if_false]
        exact (List.Perm.cons _ this).trans (List.Perm.swap _ _ _)
/-- a filled slot is a right's entry -/
def WF (x : Int64) : Prop := x ≠ 0 → rightOf x ≠ -1 ∧ R10 x.toInt32 ∧ hi x = keyJ (rightOf x)
theorem WF.ent {r f : Int32} (h : R10 f) (hr : r ≠ -1) : WF (ent r f) := fun _ => by
  rw [rgt_ent h, low_ent h, hi_ent h]; exact ⟨hr, h, rfl⟩
def hm (r sh : Int32) : Nat := ((r * (-1640531527 : Int32)).toUInt32 >>> (sh &&& 31).toUInt32).toNat
def Sz (N : Nat) (sh : Int32) : Prop := (N = 2 ∧ sh = 31) ∨ (N = 4 ∧ sh = 30) ∨ (N = 8 ∧ sh = 29) ∨ (N = 16 ∧ sh = 28)
theorem hm_lt {N : Nat} {sh : Int32} (r : Int32) (S : Sz N sh) : hm r sh < N := by
  have h := (r * (-1640531527 : Int32)).toUInt32.toNat_lt
  unfold hm
  rw [UInt32.toNat_shiftRight, Nat.shiftRight_eq_div_pow]
  rcases S with ⟨rfl, rfl⟩ | ⟨rfl, rfl⟩ | ⟨rfl, rfl⟩ | ⟨rfl, rfl⟩ <;>
    (generalize (r * (-1640531527 : Int32)).toUInt32.toNat = z at *; simp only [show ((31 &&& 31 : Int32).toUInt32.toNat % 32) = 31 from rfl, show ((30 &&& 31 : Int32).toUInt32.toNat % 32) = 30 from rfl, show ((29 &&& 31 : Int32).toUInt32.toNat % 32) = 29 from rfl, show ((28 &&& 31 : Int32).toUInt32.toNat % 32) = 28 from rfl]; omega)
theorem hm_int (r sh : Int32) : ((r * (-1640531527 : Int32)).toUInt32 >>> (sh &&& 31).toUInt32).toInt32 = Int32.ofNat (hm r sh) := by
  unfold hm
  generalize (r * (-1640531527 : Int32)).toUInt32 >>> (sh &&& 31).toUInt32 = z
  apply bv32
  show z.toBitVec = BitVec.ofNat 32 z.toNat
  simp
theorem Sz.pos {N : Nat} {sh : Int32} (S : Sz N sh) : 0 < N ∧ N ≤ 16 := by rcases S with ⟨rfl, -⟩ | ⟨rfl, -⟩ | ⟨rfl, -⟩ | ⟨rfl, -⟩ <;> decide
theorem ix16 : ∀ k : Fin 17, (Int32.ofNat k.1).toNatClampNeg = k.1 ∧ ¬ Int32.ofNat k.1 < 0 := by decide
theorem ix_nat {k : Nat} (h : k ≤ 16) : (Int32.ofNat k).toNatClampNeg = k := (ix16 ⟨k, by omega⟩).1
theorem ix_nn {k : Nat} (h : k ≤ 16) : ¬ Int32.ofNat k < 0 := (ix16 ⟨k, by omega⟩).2
theorem st2 : ∀ k : Fin 2, (Int32.ofNat k.1 + (1 : Int32)) &&& (Int32.ofNat 2 - (1 : Int32)) = Int32.ofNat ((k.1 + 1) % 2) := by decide
theorem st4 : ∀ k : Fin 4, (Int32.ofNat k.1 + (1 : Int32)) &&& (Int32.ofNat 4 - (1 : Int32)) = Int32.ofNat ((k.1 + 1) % 4) := by decide
theorem st8 : ∀ k : Fin 8, (Int32.ofNat k.1 + (1 : Int32)) &&& (Int32.ofNat 8 - (1 : Int32)) = Int32.ofNat ((k.1 + 1) % 8) := by decide
theorem st16 : ∀ k : Fin 16, (Int32.ofNat k.1 + (1 : Int32)) &&& (Int32.ofNat 16 - (1 : Int32)) = Int32.ofNat ((k.1 + 1) % 16) := by decide
theorem Sz.step {N k : Nat} {sh : Int32} (S : Sz N sh) (h : k < N) : (Int32.ofNat k + (1 : Int32)) &&& (Int32.ofNat N - (1 : Int32)) = Int32.ofNat ((k + 1) % N) := by
  rcases S with ⟨rfl, -⟩ | ⟨rfl, -⟩ | ⟨rfl, -⟩ | ⟨rfl, -⟩
  · exact st2 ⟨k, h⟩
  · exact st4 ⟨k, h⟩
  · exact st8 ⟨k, h⟩
  · exact st16 ⟨k, h⟩
def Inv (N : Nat) (sh : Int32) (T : List Int64) : Prop :=
  Sz N sh ∧ T.length = N ∧ (∀ j, j < N → WF (tat T j)) ∧ (∀ r ∈ rts T, ∃ d, hi (tat T ((hm r sh + d) % N)) = keyJ r ∧ ∀ d' < d, tat T ((hm r sh + d') % N) ≠ 0) ∧ (rts T).Nodup
theorem Inv.sz {N : Nat} {sh : Int32} {T : List Int64} (I : Inv N sh T) : Sz N sh := I.1
theorem Inv.len {N : Nat} {sh : Int32} {T : List Int64} (I : Inv N sh T) : T.length = N := I.2.1
theorem Inv.ok {N : Nat} {sh : Int32} {T : List Int64} (I : Inv N sh T) : ∀ j, j < N → WF (tat T j) := I.2.2.1
theorem Inv.has {N : Nat} {sh : Int32} {T : List Int64} (I : Inv N sh T) : ∀ r ∈ rts T, ∃ d, hi (tat T ((hm r sh + d) % N)) = keyJ r ∧ ∀ d' < d, tat T ((hm r sh + d') % N) ≠ 0 := I.2.2.2.1
theorem Inv.nd {N : Nat} {sh : Int32} {T : List Int64} (I : Inv N sh T) : (rts T).Nodup := I.2.2.2.2
/-- the probe stands at k: all slots from the home on are other rights' -/
def Prb (N : Nat) (sh r : Int32) (T : List Int64) (n k : Nat) : Prop :=
  ∃ d, k = (hm r sh + d) % N ∧ tat T ((hm r sh + (d + n)) % N) = 0 ∧ ∀ d' < d, tat T ((hm r sh + d') % N) ≠ 0 ∧ hi (tat T ((hm r sh + d') % N)) ≠ keyJ r
theorem Prb.start {N : Nat} {sh r : Int32} {T : List Int64} (I : Inv N sh T) (h : (rts T).length < N) : ∃ n, Prb N sh r T n (hm r sh) := by
  obtain ⟨j, h1, h2⟩ := rts_zero (T := T) (by rw [I.len]; exact h)
  rw [I.len] at h1
  have hh := hm_lt r I.sz
  refine ⟨if hm r sh ≤ j then j - hm r sh else j + N - hm r sh, 0, (Nat.mod_eq_of_lt hh).symm, ?_, fun d q => absurd q (Nat.not_lt_zero _)⟩
  have e : (hm r sh + (0 + if hm r sh ≤ j then j - hm r sh else j + N - hm r sh)) % N = j := by
    split
    · rw [show hm r sh + (0 + (j - hm r sh)) = j by omega]; exact Nat.mod_eq_of_lt h1
    · rw [show hm r sh + (0 + (j + N - hm r sh)) = j + N by omega, Nat.add_mod_right]; exact Nat.mod_eq_of_lt h1
  rw [e]; exact h2
theorem Prb.lt {N n k : Nat} {sh r : Int32} {T : List Int64} (P : Prb N sh r T n k) (S : Sz N sh) : k < N := by
  obtain ⟨d, rfl, -⟩ := P; exact Nat.mod_lt _ S.pos.1
theorem Prb.next {N n k : Nat} {sh r : Int32} {T : List Int64} (P : Prb N sh r T n k) (h0 : tat T k ≠ 0) (h1 : hi (tat T k) ≠ keyJ r) : ∃ n', n = n' + 1 ∧ Prb N sh r T n' ((k + 1) % N) := by
  obtain ⟨d, rfl, h2, h3⟩ := P
  cases n with
  | zero => exact absurd h2 h0
  | succ n' =>
    refine ⟨n', rfl, d + 1, by rw [Nat.mod_add_mod, Nat.add_assoc], by rw [← h2]; congr 2; omega, fun d' q => ?_⟩
    by_cases z : d' = d
    · subst z; exact ⟨h0, h1⟩
    · exact h3 d' (by omega)
theorem Inv.upd {N k : Nat} {sh r f : Int32} {T : List Int64} (I : Inv N sh T) (hk : k < N) (h0 : tat T k ≠ 0) (h1 : hi (tat T k) = keyJ r) : r ∈ rts T ∧ r ≠ -1 := by
  have e := rgt_key r _ h1
  exact ⟨rts_mem.mpr ⟨k, by rw [I.len]; exact hk, h0, e⟩, by rw [← e]; exact (I.ok k hk h0).1⟩
theorem Inv.set {N k : Nat} {sh r f : Int32} {T : List Int64} (I : Inv N sh T) (hk : k < N) (hf : R10 f) (h0 : tat T k ≠ 0) (h1 : hi (tat T k) = keyJ r) : Inv N sh (T.set k (ent r f)) ∧ rts (T.set k (ent r f)) = rts T := by
  obtain ⟨hm', hr⟩ := I.upd (f := f) hk h0 h1
  have hl : k < T.length := by rw [I.len]; exact hk
  have e := rts_upd (x := ent r f) hl h0 (ent_ne hf hr) (by rw [rgt_ent hf, rgt_key r _ h1])
  have z : ∀ j, tat T j ≠ 0 → tat (T.set k (ent r f)) j ≠ 0 := fun j q => by
    by_cases y : k = j
    · subst y; rw [tat_set_eq _ _ hl]; exact ent_ne hf hr
    · rw [tat_set_ne _ _ y]; exact q
  refine ⟨⟨I.sz, by rw [List.length_set]; exact I.len, fun j hj => ?_, ?_, by rw [e]; exact I.nd⟩, e⟩
  · by_cases y : k = j
    · subst y; rw [tat_set_eq _ _ hl]; exact WF.ent hf hr
    · rw [tat_set_ne _ _ y]; exact I.ok j hj
  · rw [e]; intro r' q
    obtain ⟨d, g1, g2⟩ := I.has r' q
    refine ⟨d, ?_, fun d' q => z _ (g2 d' q)⟩
    by_cases y : k = (hm r' sh + d) % N
    · rw [← y, tat_set_eq _ _ hl, hi_ent hf, ← h1, y]; exact g1
    · rw [tat_set_ne _ _ y]; exact g1
theorem Prb.ins {N n k : Nat} {sh r f : Int32} {T : List Int64} (I : Inv N sh T) (P : Prb N sh r T n k) (h0 : tat T k = 0) (hf : R10 f) (hr : r ≠ -1) :
    Inv N sh (T.set k (ent r f)) ∧ r ∉ rts T ∧ (rts (T.set k (ent r f))).Perm (r :: rts T) := by
  have hk := P.lt I.sz
  obtain ⟨d, rfl, h2, h3⟩ := P
  have hl : (hm r sh + d) % N < T.length := by rw [I.len]; exact hk
  have pm := rts_ins (x := ent r f) hl h0 (ent_ne hf hr)
  rw [rgt_ent hf] at pm
  have ni : r ∉ rts T := fun q => by
    obtain ⟨d0, g1, g2⟩ := I.has r q
    rcases Nat.lt_trichotomy d d0 with y | y | y
    · exact g2 d y h0
    · subst y; rw [h0, hi_zero] at g1; exact key_ne hr g1.symm
    · exact (h3 d0 y).2 g1
  have z : ∀ j, tat T j ≠ 0 → tat (T.set ((hm r sh + d) % N) (ent r f)) j = tat T j := fun j q => tat_set_ne _ _ (fun y => q (by rw [← y]; exact h0))
  refine ⟨⟨I.sz, by rw [List.length_set]; exact I.len, fun j hj => ?_, fun r' q => ?_, pm.nodup_iff.mpr (List.nodup_cons.mpr ⟨ni, I.nd⟩)⟩, ni, pm⟩
  · by_cases y : (hm r sh + d) % N = j
    · subst y; rw [tat_set_eq _ _ hl]; exact WF.ent hf hr
    · rw [tat_set_ne _ _ y]; exact I.ok j hj
  · rcases List.mem_cons.mp (pm.mem_iff.mp q) with rfl | q
    · refine ⟨d, by rw [tat_set_eq _ _ hl]; exact hi_ent hf, fun d' g => ?_⟩
      rw [z _ (h3 d' g).1]; exact (h3 d' g).1
    · obtain ⟨d0, g1, g2⟩ := I.has r' q
      have hr' : tat T ((hm r' sh + d0) % N) ≠ 0 := fun y => by
        rw [y, hi_zero] at g1
        obtain ⟨j, j1, j2, j3⟩ := rts_mem.mp q
        have := (I.ok j (by rw [← I.len]; exact j1) j2).1
        rw [j3] at this
        exact key_ne this g1.symm
      refine ⟨d0, by rw [z _ hr']; exact g1, fun d' g => ?_⟩
      rw [z _ (g2 d' g)]; exact g2 d' g
theorem rts_rep (N : Nat) : rts (List.replicate N 0) = [] := by
  induction N with
  | zero => rfl
  | succ N ih => simp [List.replicate_succ, rts, ih]
theorem Inv.zero {N : Nat} {sh : Int32} (S : Sz N sh) : Inv N sh (List.replicate N 0) := by
  refine ⟨S, List.length_replicate, fun j hj => ?_, ?_, ?_⟩
  · intro q; exact absurd (by unfold tat; rw [List.getD_eq_getElem?_getD, List.getElem?_replicate]; simp [hj]) q
  · rw [rts_rep]; intro r q; cases q
  · rw [rts_rep]; exact List.nodup_nil
def adds (r : Int32) (l : List Int32) : List Int32 := if r ∈ l then l else r :: l
/-- written one behind the other -/
def wr : List Int32 → Nat → List Int32 → List Int32
  | vs, _, [] => vs
  | vs, p, x :: xs => wr (vs.set p x) (p + 1) xs
theorem wr_len (vs : List Int32) (p : Nat) (xs : List Int32) : (wr vs p xs).length = vs.length := by
  induction xs generalizing vs p with
  | nil => rfl
  | cons x xs ih => rw [wr, ih, List.length_set]
theorem wr_snoc (vs : List Int32) (p : Nat) (xs : List Int32) (x : Int32) : wr vs p (xs ++ [x]) = (wr vs p xs).set (p + xs.length) x := by
  induction xs generalizing vs p with
  | nil => rfl
  | cons y xs ih => rw [List.cons_append, wr, ih, wr, List.length_cons]; congr 1; omega
theorem take_succ {T : List Int64} {i : Nat} (h : i < T.length) : T.take (i + 1) = T.take i ++ [tat T i] := by
  rw [List.take_add_one, tat_get h]; rfl
theorem rts_take_zero {T : List Int64} {i : Nat} (h : i < T.length) (h0 : tat T i = 0) : rts (T.take (i + 1)) = rts (T.take i) := by
  rw [take_succ h, rts_app, h0]; simp [rts]
theorem rts_take_ne {T : List Int64} {i : Nat} (h : i < T.length) (h0 : tat T i ≠ 0) : rts (T.take (i + 1)) = rts (T.take i) ++ [rightOf (tat T i)] := by
  rw [take_succ h, rts_app]; simp [rts, h0]
theorem rts_take_le (T : List Int64) (i : Nat) : (rts (T.take i)).length ≤ (rts T).length := by
  have : rts T = rts (T.take i) ++ rts (T.drop i) := by rw [← rts_app, List.take_append_drop]
  rw [this, List.length_append]; omega
theorem rts_take_lt {T : List Int64} {i : Nat} (h : i < T.length) (h0 : tat T i ≠ 0) : (rts (T.take i)).length < (rts T).length := by
  have := rts_take_le T (i + 1)
  rw [rts_take_ne h h0, List.length_append, List.length_singleton] at this; omega
theorem mapL_get {T : List Int64} {k : Nat} (hl : k < T.length) (h : k ≤ 16) : (T.map Value.long)[(Int32.ofNat k).toNatClampNeg]? = some (.long (tat T k)) := by
  rw [ix_nat h, List.getElem?_map, tat_get hl]; rfl
theorem mapL_len {T : List Int64} {k : Nat} (hl : k < T.length) (h : k ≤ 16) : (Int32.ofNat k).toNatClampNeg < (T.map Value.long).length := by
  rw [ix_nat h, List.length_map]; exact hl
theorem arL_set {Z : State} {h : Heap} {a : Addr} {T : List Int64} {k : Nat} {x : Int64} (h6 : k ≤ 16) (A : Ar Z h a .long ((T.map Value.long).set (Int32.ofNat k).toNatClampNeg (.long x))) : Ar Z h a .long ((T.set k x).map Value.long) := by
  rw [ix_nat h6] at A; rw [List.map_set]; exact A
theorem len_L {T : List Int64} {N : Nat} (h : T.length = N) : (T.map Value.long).length.toInt32 = Int32.ofNat N := by rw [List.length_map, h]
theorem mapI_get {T : List Int32} {k : Nat} (hl : k < T.length) (h : k ≤ 16) : (T.map Value.int)[(Int32.ofNat k).toNatClampNeg]? = some (.int (T.getD k 0)) := by
  rw [ix_nat h, List.getElem?_map, List.getD_eq_getElem?_getD]; simp [hl]
theorem mapI_len {T : List Int32} {k : Nat} (hl : k < T.length) (h : k ≤ 16) : (Int32.ofNat k).toNatClampNeg < (T.map Value.int).length := by
  rw [ix_nat h, List.length_map]; exact hl
theorem arI_set {Z : State} {h : Heap} {a : Addr} {T : List Int32} {k : Nat} {x : Int32} (h6 : k ≤ 16) (A : Ar Z h a .int ((T.map Value.int).set (Int32.ofNat k).toNatClampNeg (.int x))) : Ar Z h a .int ((T.set k x).map Value.int) := by
  rw [ix_nat h6] at A; rw [List.map_set]; exact A
theorem ofNat_succ (n : Nat) : Int32.ofNat n + (1 : Int32) = Int32.ofNat (n + 1) := by
  rw [Int32.ofNat_add]; rfl
theorem adds_mem {r : Int32} {u : List Int32} (h : r ∈ u) : u.Perm (adds r u) := by rw [adds, if_pos h]
theorem adds_new {r : Int32} {u u' : List Int32} (h : r ∉ u) (q : u'.Perm (r :: u)) : u'.Perm (adds r u) := by rw [adds, if_neg h]; exact q
theorem adds_perm {r : Int32} {u u' : List Int32} (h : u.Perm u') : (adds r u).Perm (adds r u') := by
  unfold adds; by_cases q : r ∈ u
  · rw [if_pos q, if_pos (h.mem_iff.mp q)]; exact h
  · rw [if_neg q, if_neg (fun z => q (h.mem_iff.mpr z))]; exact List.Perm.cons _ h
theorem adds_len (r : Int32) (u : List Int32) : (adds r u).length ≤ u.length + 1 ∧ u.length ≤ (adds r u).length := by unfold adds; split <;> simp
theorem capA2 : ∀ n : Fin 1, ¬ 0 < cmpJ ((Int32.ofNat n.1 + (1 : Int32)).toInt64 * (4 : Int64)) ((Int32.ofNat 2).toInt64 * (3 : Int64)) := by decide
theorem capA4 : ∀ n : Fin 3, ¬ 0 < cmpJ ((Int32.ofNat n.1 + (1 : Int32)).toInt64 * (4 : Int64)) ((Int32.ofNat 4).toInt64 * (3 : Int64)) := by decide
theorem capA8 : ∀ n : Fin 3, ¬ 0 < cmpJ ((Int32.ofNat n.1 + (1 : Int32)).toInt64 * (4 : Int64)) ((Int32.ofNat 8).toInt64 * (3 : Int64)) := by decide
theorem capA16 : ∀ n : Fin 3, ¬ 0 < cmpJ ((Int32.ofNat n.1 + (1 : Int32)).toInt64 * (4 : Int64)) ((Int32.ofNat 16).toInt64 * (3 : Int64)) := by decide
theorem capB : 0 < cmpJ ((Int32.ofNat 1 + (1 : Int32)).toInt64 * (4 : Int64)) ((Int32.ofNat 2).toInt64 * (3 : Int64)) := by decide
def Gd (N n : Nat) : Prop := (N = 2 ∧ n ≤ 1) ∨ (N = 4 ∧ n ≤ 2) ∨ (N = 8 ∧ n ≤ 2) ∨ (N = 16 ∧ n ≤ 2)
def Ge (N n : Nat) : Prop := (N = 2 ∧ n ≤ 1) ∨ (N = 4 ∧ n ≤ 3) ∨ (N = 8 ∧ n ≤ 3) ∨ (N = 16 ∧ n ≤ 3)
theorem Gd.lt {N n : Nat} (g : Gd N n) : n < N := by unfold Gd at g; omega
theorem Gd.ge {N n : Nat} (g : Gd N n) : Ge N n := by unfold Gd at g; unfold Ge; omega
theorem Ge.gd {N n : Nat} (g : Ge N n) (h : n ≤ 2) : Gd N n := by unfold Ge at g; unfold Gd; omega
theorem capG {N n : Nat} (g : Gd N n) (q : 0 < cmpJ ((Int32.ofNat n + (1 : Int32)).toInt64 * (4 : Int64)) ((Int32.ofNat N).toInt64 * (3 : Int64))) : N = 2 ∧ n = 1 := by
  rcases g with ⟨rfl, h⟩ | ⟨rfl, h⟩ | ⟨rfl, h⟩ | ⟨rfl, h⟩
  · refine ⟨rfl, ?_⟩
    by_cases z : n = 1
    · exact z
    · exact absurd q (capA2 ⟨n, by omega⟩)
  · exact absurd q (capA4 ⟨n, by omega⟩)
  · exact absurd q (capA8 ⟨n, by omega⟩)
  · exact absurd q (capA16 ⟨n, by omega⟩)
theorem capN {N n : Nat} (g : Gd N n) (q : ¬ 0 < cmpJ ((Int32.ofNat n + (1 : Int32)).toInt64 * (4 : Int64)) ((Int32.ofNat N).toInt64 * (3 : Int64))) : Ge N (n + 1) := by
  by_cases z : N = 2 ∧ n = 1
  · obtain ⟨rfl, rfl⟩ := z; exact absurd capB q
  · unfold Gd at g; unfold Ge; omega
theorem cap4 {n : Nat} (h : n ≤ 1) : ¬ 0 < cmpJ ((Int32.ofNat n + (1 : Int32)).toInt64 * (4 : Int64)) ((Int32.ofNat 4).toInt64 * (3 : Int64)) := capA4 ⟨n, by omega⟩
theorem cmp0 {x y : Int64} (h : cmpJ x y = 0) : x = y := (cmpJ_eq x y).mp h
theorem cmpn {x y : Int64} (h : ¬ cmpJ x y = 0) : x ≠ y := fun q => h ((cmpJ_eq x y).mpr q)
theorem lt17 : ∀ a b : Fin 17, (Int32.ofNat a.1 < Int32.ofNat b.1) = (a.1 < b.1) := fun a b => propext (by revert a b; decide)
theorem lt_ix {a b : Nat} (h : a ≤ 16) (h' : b ≤ 16) : (Int32.ofNat a < Int32.ofNat b) = (a < b) := lt17 ⟨a, by omega⟩ ⟨b, by omega⟩
theorem d3_0 : decode prog_2_method_11_code 0 = .ok (.aload_n 0, 1) := by decide +kernel
theorem d3_1 : decode prog_2_method_11_code 1 = .ok (.iload_n 1, 1) := by decide +kernel
theorem d3_2 : decode prog_2_method_11_code 2 = .ok (.newarray .long, 2) := by decide +kernel
theorem d3_4 : decode prog_2_method_11_code 4 = .ok (.putfield 24, 3) := by decide +kernel
theorem d3_7 : decode prog_2_method_11_code 7 = .ok (.aload_n 0, 1) := by decide +kernel
theorem d3_8 : decode prog_2_method_11_code 8 = .ok (.iload_n 1, 1) := by decide +kernel
theorem d3_9 : decode prog_2_method_11_code 9 = .ok (.iconst 1, 1) := by decide +kernel
theorem d3_10 : decode prog_2_method_11_code 10 = .ok (.isub, 1) := by decide +kernel
theorem d3_11 : decode prog_2_method_11_code 11 = .ok (.invokestatic 49, 3) := by decide +kernel
theorem d3_14 : decode prog_2_method_11_code 14 = .ok (.putfield 46, 3) := by decide +kernel
theorem d3_17 : decode prog_2_method_11_code 17 = .ok (.aload_n 0, 1) := by decide +kernel
theorem d3_18 : decode prog_2_method_11_code 18 = .ok (.iconst 0, 1) := by decide +kernel
theorem d3_19 : decode prog_2_method_11_code 19 = .ok (.putfield 34, 3) := by decide +kernel
theorem d3_22 : decode prog_2_method_11_code 22 = .ok (.return_, 1) := by decide +kernel
def rm_alloc : Room := { frames := 1, cells := 1, slots := 16, locals := 14 }
theorem pf_alloc : plainFor (⟨"com/example/gatewright/gatewright/NearestStatements", "allocate", "(I)V"⟩ : MethodName) = true := plainFor_of_name (by first | (simp [plainName, overriddenIn]; done) | decide +kernel)
set_option maxRecDepth 65536 in
set_option maxHeartbeats 40000000 in
theorem ct_alloc {l : Launch} {Z : State} {a0 : Array Value} (hw : ∀ d ∈ tables_1, d.before a0 Z = true) (h0 : Heap) (n0 : Nat) (b : Addr) (n : Int32) (s0 : Value) (sh : Int32) (sz : Int32) (hz : n0 ≤ h0.size) (hn : ¬ n < 0 ∧ n.toNatClampNeg ≤ 16) (O_b : Obj Z h0 b "com/example/gatewright/gatewright/NearestStatements" [("slots", "[J", s0), ("shift", "I", .int sh), ("size", "I", .int sz)]) (g_b : n0 ≤ b) :
    Ct l Z (⟨"com/example/gatewright/gatewright/NearestStatements", "allocate", "(I)V"⟩ : MethodName) prog_2_method_11_code 2 (Option.none : Option Jvm.ClassFile.FieldType) [] rm_alloc #[.ref b, .int n] h0 n0 (fun v h => v = none ∧ ∃ pa, h0.size ≤ pa ∧ Obj Z h b "com/example/gatewright/gatewright/NearestStatements" [("slots", "[J", .ref pa), ("shift", "I", .int (nlz (n - (1 : Int32)))), ("size", "I", .int (0 : Int32))] ∧ Ar Z h pa .long (List.replicate n.toNatClampNeg (.long (0 : Int64))) ∧ Keep h0 h [b]) := by
  refine Ct.of (Ls := #[.val (.ref b), .val (.int n)]) pf_alloc (fun m => by first | (simp [entryFrame, mkF, argsToLocals, Value.category, maxLocals]; done) | rfl) ?_
  intro p e s m below meth c C
  have hk : Keep h0 h0 [b] := Keep.refl _ _
  refine w_aloadN (pc' := 1) C d3_0 rfl rfl rfl ?_
  refine w_iloadN (pc' := 2) C d3_1 rfl rfl ?_
  refine wA_newP (pc' := 4) (cap := 16) (ce' := 1) (sl' := 16) C (tw hw 15 rfl) d3_2 rfl hn.1 hn.2 (by decide) rfl rfl (by decide) (by decide) (fun h1 a1 e1 E1 A1 => ?_)
  have g_a1 : n0 ≤ a1 := by rw [e1]; exact hz
  have fr_a1 : h0.size ≤ a1 := by rw [e1]; exact hk.1
  have ne_b_a1 : b ≠ a1 := by rw [e1]; exact Nat.ne_of_lt O_b.lt
  have O_b := O_b.ext E1
  have hz : n0 ≤ h1.size := Nat.le_trans hz E1.1
  have hk := hk.ext E1
  have O_a1 : Ar Z h1 a1 .long (List.replicate n.toNatClampNeg (.long (0 : Int64))) := A1
  refine w_putF (pc' := 7) (ty := (.array .long)) C (tw hw 16 rfl) (Or.inl (tw hw 17 rfl)) (tw hw 1 rfl) (by decide) rfl rfl d3_4 rfl g_b (O_b.fld 0 rfl) O_b.1 (fun h2 W2 => ?_)
  have O_b : Obj Z h2 b "com/example/gatewright/gatewright/NearestStatements" [("slots", "[J", .ref a1), ("shift", "I", .int sh), ("size", "I", .int sz)] := O_b.put 0 rfl W2 rfl
  have O_a1 := O_a1.other W2 (Ne.symm ne_b_a1)
  have hz : n0 ≤ h2.size := by rw [W2.size]; exact hz
  have hk := hk.wr W2 (Or.inl (by simp))
  refine w_aloadN (pc' := 8) C d3_7 rfl rfl rfl ?_
  refine w_iloadN (pc' := 9) C d3_8 rfl rfl ?_
  refine w_iconst (pc' := 10) (x := (1 : Int32)) C d3_9 rfl rfl ?_
  refine w_isub (pc' := 11) C d3_10 rfl ?_
  refine w_callS (pc' := 14) (argsL := [.int (n - (1 : Int32))]) (st := [.ref b]) (W := 1) (ce' := 1) (sl' := 16) C (tw hw 18 rfl) (tw hw 19 rfl) (tw hw 20 rfl) (tw hw 21 rfl) (by decide) d3_11 rfl rfl (by decide) (by decide) (Nat.le_of_eq rfl) rfl rfl (by decide) (by decide) rfl (lenOf pd_0 rfl) (ct_nlz hw h2 n0 (n - (1 : Int32))) (kp ?_)
  refine w_putF (pc' := 17) (ty := .int) C (tw hw 23 rfl) (Or.inl (tw hw 24 rfl)) (tw hw 1 rfl) (by decide) rfl rfl d3_14 rfl g_b (O_b.fld 1 rfl) O_b.1 (fun h3 W3 => ?_)
  have O_b : Obj Z h3 b "com/example/gatewright/gatewright/NearestStatements" [("slots", "[J", .ref a1), ("shift", "I", .int (nlz (n - (1 : Int32)))), ("size", "I", .int sz)] := O_b.put 1 rfl W3 rfl
  have O_a1 := O_a1.other W3 (Ne.symm ne_b_a1)
  have hz : n0 ≤ h3.size := by rw [W3.size]; exact hz
  have hk := hk.wr W3 (Or.inl (by simp))
  refine w_aloadN (pc' := 18) C d3_17 rfl rfl rfl ?_
  refine w_iconst (pc' := 19) (x := (0 : Int32)) C d3_18 rfl rfl ?_
  refine w_putF (pc' := 22) (ty := .int) C (tw hw 25 rfl) (Or.inl (tw hw 26 rfl)) (tw hw 1 rfl) (by decide) rfl rfl d3_19 rfl g_b (O_b.fld 2 rfl) O_b.1 (fun h4 W4 => ?_)
  have O_b : Obj Z h4 b "com/example/gatewright/gatewright/NearestStatements" [("slots", "[J", .ref a1), ("shift", "I", .int (nlz (n - (1 : Int32)))), ("size", "I", .int (0 : Int32))] := O_b.put 2 rfl W4 rfl
  have O_a1 := O_a1.other W4 (Ne.symm ne_b_a1)
  have hz : n0 ≤ h4.size := by rw [W4.size]; exact hz
  have hk := hk.wr W4 (Or.inl (by simp))
  refine w_ret0 C rfl d3_22 (by decide) (by decide) ?_
  exact ⟨rfl, a1, fr_a1, O_b, O_a1, hk⟩
theorem init_d : ∀ k : Fin 8, ¬ cmpJ (48 : Int64) ((Int32.ofInt (k.1 : Int)).toInt64 * (4 : Int64)) < 0 := by decide
theorem init_dead {z : Int32} (h : 0 ≤ z.toInt ∧ z.toInt < 8) : ¬ cmpJ (48 : Int64) (z.toInt64 * (4 : Int64)) < 0 := by
  obtain ⟨k, rfl⟩ := small_int (n := 8) h.1 h.2; exact init_d k
theorem d1_0 : decode prog_2_method_1_code 0 = .ok (.aload_n 0, 1) := by decide +kernel
theorem d1_1 : decode prog_2_method_1_code 1 = .ok (.invokespecial 3, 3) := by decide +kernel
theorem d1_4 : decode prog_2_method_1_code 4 = .ok (.iconst 2, 1) := by decide +kernel
theorem d1_5 : decode prog_2_method_1_code 5 = .ok (.istore_n 2, 1) := by decide +kernel
theorem d1_6 : decode prog_2_method_1_code 6 = .ok (.iload_n 2, 1) := by decide +kernel
theorem d1_7 : decode prog_2_method_1_code 7 = .ok (.i2l, 1) := by decide +kernel
theorem d1_8 : decode prog_2_method_1_code 8 = .ok (.ldc2_w 11, 3) := by decide +kernel
theorem d1_11 : decode prog_2_method_1_code 11 = .ok (.lmul, 1) := by decide +kernel
theorem d1_12 : decode prog_2_method_1_code 12 = .ok (.iload_n 1, 1) := by decide +kernel
theorem d1_13 : decode prog_2_method_1_code 13 = .ok (.i2l, 1) := by decide +kernel
theorem d1_14 : decode prog_2_method_1_code 14 = .ok (.ldc2_w 13, 3) := by decide +kernel
theorem d1_17 : decode prog_2_method_1_code 17 = .ok (.lmul, 1) := by decide +kernel
theorem d1_18 : decode prog_2_method_1_code 18 = .ok (.lcmp, 1) := by decide +kernel
theorem d1_19 : decode prog_2_method_1_code 19 = .ok (.ifCond .ge 10, 3) := by decide +kernel
theorem d1_22 : decode prog_2_method_1_code 22 = .ok (.iload_n 2, 1) := by decide +kernel
theorem d1_23 : decode prog_2_method_1_code 23 = .ok (.iconst 2, 1) := by decide +kernel
theorem d1_24 : decode prog_2_method_1_code 24 = .ok (.imul, 1) := by decide +kernel
theorem d1_25 : decode prog_2_method_1_code 25 = .ok (.istore_n 2, 1) := by decide +kernel
theorem d1_26 : decode prog_2_method_1_code 26 = .ok (.goto (-20), 3) := by decide +kernel
theorem d1_29 : decode prog_2_method_1_code 29 = .ok (.aload_n 0, 1) := by decide +kernel
theorem d1_30 : decode prog_2_method_1_code 30 = .ok (.iload_n 2, 1) := by decide +kernel
theorem d1_31 : decode prog_2_method_1_code 31 = .ok (.invokevirtual 15, 3) := by decide +kernel
theorem d1_34 : decode prog_2_method_1_code 34 = .ok (.return_, 1) := by decide +kernel
def rm_init : Room := { frames := 2, cells := 1, slots := 16, locals := 27 }
theorem pf_init : plainFor (⟨"com/example/gatewright/gatewright/NearestStatements", "<init>", "(I)V"⟩ : MethodName) = true := plainFor_of_name (by first | (simp [plainName, overriddenIn]; done) | decide +kernel)
set_option maxRecDepth 65536 in
set_option maxHeartbeats 40000000 in
theorem ct_init {l : Launch} {Z : State} {a0 : Array Value} (hw : ∀ d ∈ tables_1, d.before a0 Z = true) (h0 : Heap) (n0 : Nat) (b : Addr) (z : Int32) (hz : n0 ≤ h0.size) (hz7 : 0 ≤ z.toInt ∧ z.toInt < 8) (O_b : Obj Z h0 b "com/example/gatewright/gatewright/NearestStatements" [("slots", "[J", .null), ("shift", "I", .int (0 : Int32)), ("size", "I", .int (0 : Int32))]) (g_b : n0 ≤ b) :
    Ct l Z (⟨"com/example/gatewright/gatewright/NearestStatements", "<init>", "(I)V"⟩ : MethodName) prog_2_method_1_code 3 (Option.none : Option Jvm.ClassFile.FieldType) [] rm_init #[.ref b, .int z] h0 n0 (fun v h => v = none ∧ ∃ pa N sh, Sz N sh ∧ Obj Z h b "com/example/gatewright/gatewright/NearestStatements" [("slots", "[J", .ref pa), ("shift", "I", .int sh), ("size", "I", .int (0 : Int32))] ∧ Ar Z h pa .long ((List.replicate N (0 : Int64)).map Value.long) ∧ h0.size ≤ pa ∧ Keep h0 h [b]) := by
  refine Ct.of (Ls := #[.val (.ref b), .val (.int z), .unset]) pf_init (fun m => by first | (simp [entryFrame, mkF, argsToLocals, Value.category, maxLocals]; done) | rfl) ?_
  intro p e s m below meth c C
  have hk : Keep h0 h0 [b] := Keep.refl _ _
  refine w_aloadN (pc' := 1) C d1_0 rfl rfl rfl ?_
  refine w_initO (pc' := 4) (W := 0) C (tw hw 6 rfl) (tw hw 7 rfl) (tw hw 8 rfl) d1_1 rfl rfl (by decide) (Nat.le_of_eq rfl) (by decide) ?_
  refine w_iconst (pc' := 5) (x := (2 : Int32)) C d1_4 rfl rfl ?_
  refine w_istoreN (pc' := 6) (Ls' := #[.val (.ref b), .val (.int z), .val (.int (2 : Int32))]) C d1_5 rfl rfl ?_
  refine w_iloadN (pc' := 7) C d1_6 rfl rfl ?_
  refine w_i2l (pc' := 8) C d1_7 rfl ?_
  refine w_eqJ (z := (2 : Int64)) (by decide) ?_
  refine w_ldc2J (pc' := 11) C (tw hw 9 rfl) d1_8 rfl ?_
  refine w_lmul (pc' := 12) C d1_11 rfl ?_
  refine w_eqJ (z := (6 : Int64)) (by decide) ?_
  refine w_iloadN (pc' := 13) C d1_12 rfl rfl ?_
  refine w_i2l (pc' := 14) C d1_13 rfl ?_
  refine w_ldc2J (pc' := 17) C (tw hw 10 rfl) d1_14 rfl ?_
  refine w_lmul (pc' := 18) C d1_17 rfl ?_
  refine w_lcmp (pc' := 19) C d1_18 rfl ?_
  refine w_if_ge (pcT := 29) (pcF := 22) C d1_19 (by decide) (by decide) rfl (fun q19_1 => ?_) (fun q19_1 => ?_)
  · skip
    refine w_aloadN (pc' := 30) C d1_29 rfl rfl rfl ?_
    refine w_iloadN (pc' := 31) C d1_30 rfl rfl ?_
    refine w_callP (pc' := 34) (argsL := [.int (2 : Int32)]) (st := []) (W := 0) (ce' := 1) (sl' := 16) C (tw hw 11 rfl) (tw hw 12 rfl) (tw hw 1 rfl) (tw hw 13 rfl) (tw hw 2 rfl) (tw hw 14 rfl) (by decide) d1_31 rfl rfl (by decide) (by decide) (Nat.le_of_eq rfl) rfl rfl (by decide) (by decide) rfl (lenOf pd_1 rfl) O_b.1 (ct_alloc hw h0 n0 b (2 : Int32) (.null : Value) (0 : Int32) (0 : Int32) hz (by decide) O_b g_b) (k0 (fun h1 q1 => ?_))
    obtain ⟨c1_0, fb_c1_0, P_b, P_c1_0, K1⟩ := q1
    have g_c1_0 : n0 ≤ c1_0 := Nat.le_trans hz fb_c1_0
    have fr_c1_0 : h0.size ≤ c1_0 := Nat.le_trans hk.1 fb_c1_0
    have ne_b_c1_0 : b ≠ c1_0 := Nat.ne_of_lt (Nat.lt_of_lt_of_le O_b.lt fb_c1_0)
    have hz : n0 ≤ h1.size := Nat.le_trans hz K1.1
    have hk := Keep.app hk K1 (fun x hx => Or.inl hx) (allS (Or.inl (by simp)) all0)
    have O_b := P_b
    have O_c1_0 := P_c1_0
    refine w_ret0 C rfl d1_34 (by decide) (by decide) ?_
    exact ⟨rfl, c1_0, 2, 31, (Or.inl ⟨rfl, rfl⟩), by rw [show (31 : Int32) = nlz ((2 : Int32) - (1 : Int32)) by decide]; exact O_b, O_c1_0, fr_c1_0, hk⟩
  · skip
    refine w_iloadN (pc' := 23) C d1_22 rfl rfl ?_
    refine w_iconst (pc' := 24) (x := (2 : Int32)) C d1_23 rfl rfl ?_
    refine w_imul (pc' := 25) C d1_24 rfl ?_
    refine w_eqI (z := (4 : Int32)) (by decide) ?_
    refine w_istoreN (pc' := 26) (Ls' := #[.val (.ref b), .val (.int z), .val (.int (4 : Int32))]) C d1_25 rfl rfl ?_
    refine w_goto (pc' := 6) C d1_26 (by decide) (by decide) ?_
    refine w_iloadN (pc' := 7) C d1_6 rfl rfl ?_
    refine w_i2l (pc' := 8) C d1_7 rfl ?_
    refine w_eqJ (z := (4 : Int64)) (by decide) ?_
    refine w_ldc2J (pc' := 11) C (tw hw 9 rfl) d1_8 rfl ?_
    refine w_lmul (pc' := 12) C d1_11 rfl ?_
    refine w_eqJ (z := (12 : Int64)) (by decide) ?_
    refine w_iloadN (pc' := 13) C d1_12 rfl rfl ?_
    refine w_i2l (pc' := 14) C d1_13 rfl ?_
    refine w_ldc2J (pc' := 17) C (tw hw 10 rfl) d1_14 rfl ?_
    refine w_lmul (pc' := 18) C d1_17 rfl ?_
    refine w_lcmp (pc' := 19) C d1_18 rfl ?_
    refine w_if_ge (pcT := 29) (pcF := 22) C d1_19 (by decide) (by decide) rfl (fun q19_2 => ?_) (fun q19_2 => ?_)
    · skip
      refine w_aloadN (pc' := 30) C d1_29 rfl rfl rfl ?_
      refine w_iloadN (pc' := 31) C d1_30 rfl rfl ?_
      refine w_callP (pc' := 34) (argsL := [.int (4 : Int32)]) (st := []) (W := 0) (ce' := 1) (sl' := 16) C (tw hw 11 rfl) (tw hw 12 rfl) (tw hw 1 rfl) (tw hw 13 rfl) (tw hw 2 rfl) (tw hw 14 rfl) (by decide) d1_31 rfl rfl (by decide) (by decide) (Nat.le_of_eq rfl) rfl rfl (by decide) (by decide) rfl (lenOf pd_1 rfl) O_b.1 (ct_alloc hw h0 n0 b (4 : Int32) (.null : Value) (0 : Int32) (0 : Int32) hz (by decide) O_b g_b) (k0 (fun h2 q2 => ?_))
      obtain ⟨c2_0, fb_c2_0, P_b, P_c2_0, K2⟩ := q2
      have g_c2_0 : n0 ≤ c2_0 := Nat.le_trans hz fb_c2_0
      have fr_c2_0 : h0.size ≤ c2_0 := Nat.le_trans hk.1 fb_c2_0
      have ne_b_c2_0 : b ≠ c2_0 := Nat.ne_of_lt (Nat.lt_of_lt_of_le O_b.lt fb_c2_0)
      have hz : n0 ≤ h2.size := Nat.le_trans hz K2.1
      have hk := Keep.app hk K2 (fun x hx => Or.inl hx) (allS (Or.inl (by simp)) all0)
      have O_b := P_b
      have O_c2_0 := P_c2_0
      refine w_ret0 C rfl d1_34 (by decide) (by decide) ?_
      exact ⟨rfl, c2_0, 4, 30, (Or.inr (Or.inl ⟨rfl, rfl⟩)), by rw [show (30 : Int32) = nlz ((4 : Int32) - (1 : Int32)) by decide]; exact O_b, O_c2_0, fr_c2_0, hk⟩
    · skip
      refine w_iloadN (pc' := 23) C d1_22 rfl rfl ?_
      refine w_iconst (pc' := 24) (x := (2 : Int32)) C d1_23 rfl rfl ?_
      refine w_imul (pc' := 25) C d1_24 rfl ?_
      refine w_eqI (z := (8 : Int32)) (by decide) ?_
      refine w_istoreN (pc' := 26) (Ls' := #[.val (.ref b), .val (.int z), .val (.int (8 : Int32))]) C d1_25 rfl rfl ?_
      refine w_goto (pc' := 6) C d1_26 (by decide) (by decide) ?_
      refine w_iloadN (pc' := 7) C d1_6 rfl rfl ?_
      refine w_i2l (pc' := 8) C d1_7 rfl ?_
      refine w_eqJ (z := (8 : Int64)) (by decide) ?_
      refine w_ldc2J (pc' := 11) C (tw hw 9 rfl) d1_8 rfl ?_
      refine w_lmul (pc' := 12) C d1_11 rfl ?_
      refine w_eqJ (z := (24 : Int64)) (by decide) ?_
      refine w_iloadN (pc' := 13) C d1_12 rfl rfl ?_
      refine w_i2l (pc' := 14) C d1_13 rfl ?_
      refine w_ldc2J (pc' := 17) C (tw hw 10 rfl) d1_14 rfl ?_
      refine w_lmul (pc' := 18) C d1_17 rfl ?_
      refine w_lcmp (pc' := 19) C d1_18 rfl ?_
      refine w_if_ge (pcT := 29) (pcF := 22) C d1_19 (by decide) (by decide) rfl (fun q19_3 => ?_) (fun q19_3 => ?_)
      · skip
        refine w_aloadN (pc' := 30) C d1_29 rfl rfl rfl ?_
        refine w_iloadN (pc' := 31) C d1_30 rfl rfl ?_
        refine w_callP (pc' := 34) (argsL := [.int (8 : Int32)]) (st := []) (W := 0) (ce' := 1) (sl' := 16) C (tw hw 11 rfl) (tw hw 12 rfl) (tw hw 1 rfl) (tw hw 13 rfl) (tw hw 2 rfl) (tw hw 14 rfl) (by decide) d1_31 rfl rfl (by decide) (by decide) (Nat.le_of_eq rfl) rfl rfl (by decide) (by decide) rfl (lenOf pd_1 rfl) O_b.1 (ct_alloc hw h0 n0 b (8 : Int32) (.null : Value) (0 : Int32) (0 : Int32) hz (by decide) O_b g_b) (k0 (fun h3 q3 => ?_))
        obtain ⟨c3_0, fb_c3_0, P_b, P_c3_0, K3⟩ := q3
        have g_c3_0 : n0 ≤ c3_0 := Nat.le_trans hz fb_c3_0
        have fr_c3_0 : h0.size ≤ c3_0 := Nat.le_trans hk.1 fb_c3_0
        have ne_b_c3_0 : b ≠ c3_0 := Nat.ne_of_lt (Nat.lt_of_lt_of_le O_b.lt fb_c3_0)
        have hz : n0 ≤ h3.size := Nat.le_trans hz K3.1
        have hk := Keep.app hk K3 (fun x hx => Or.inl hx) (allS (Or.inl (by simp)) all0)
        have O_b := P_b
        have O_c3_0 := P_c3_0
        refine w_ret0 C rfl d1_34 (by decide) (by decide) ?_
        exact ⟨rfl, c3_0, 8, 29, (Or.inr (Or.inr (Or.inl ⟨rfl, rfl⟩))), by rw [show (29 : Int32) = nlz ((8 : Int32) - (1 : Int32)) by decide]; exact O_b, O_c3_0, fr_c3_0, hk⟩
      · skip
        refine w_iloadN (pc' := 23) C d1_22 rfl rfl ?_
        refine w_iconst (pc' := 24) (x := (2 : Int32)) C d1_23 rfl rfl ?_
        refine w_imul (pc' := 25) C d1_24 rfl ?_
        refine w_eqI (z := (16 : Int32)) (by decide) ?_
        refine w_istoreN (pc' := 26) (Ls' := #[.val (.ref b), .val (.int z), .val (.int (16 : Int32))]) C d1_25 rfl rfl ?_
        refine w_goto (pc' := 6) C d1_26 (by decide) (by decide) ?_
        refine w_iloadN (pc' := 7) C d1_6 rfl rfl ?_
        refine w_i2l (pc' := 8) C d1_7 rfl ?_
        refine w_eqJ (z := (16 : Int64)) (by decide) ?_
        refine w_ldc2J (pc' := 11) C (tw hw 9 rfl) d1_8 rfl ?_
        refine w_lmul (pc' := 12) C d1_11 rfl ?_
        refine w_eqJ (z := (48 : Int64)) (by decide) ?_
        refine w_iloadN (pc' := 13) C d1_12 rfl rfl ?_
        refine w_i2l (pc' := 14) C d1_13 rfl ?_
        refine w_ldc2J (pc' := 17) C (tw hw 10 rfl) d1_14 rfl ?_
        refine w_lmul (pc' := 18) C d1_17 rfl ?_
        refine w_lcmp (pc' := 19) C d1_18 rfl ?_
        refine w_if_ge (pcT := 29) (pcF := 22) C d1_19 (by decide) (by decide) rfl (fun q19_4 => ?_) (fun q19_4 => ?_)
        · skip
          refine w_aloadN (pc' := 30) C d1_29 rfl rfl rfl ?_
          refine w_iloadN (pc' := 31) C d1_30 rfl rfl ?_
          refine w_callP (pc' := 34) (argsL := [.int (16 : Int32)]) (st := []) (W := 0) (ce' := 1) (sl' := 16) C (tw hw 11 rfl) (tw hw 12 rfl) (tw hw 1 rfl) (tw hw 13 rfl) (tw hw 2 rfl) (tw hw 14 rfl) (by decide) d1_31 rfl rfl (by decide) (by decide) (Nat.le_of_eq rfl) rfl rfl (by decide) (by decide) rfl (lenOf pd_1 rfl) O_b.1 (ct_alloc hw h0 n0 b (16 : Int32) (.null : Value) (0 : Int32) (0 : Int32) hz (by decide) O_b g_b) (k0 (fun h4 q4 => ?_))
          obtain ⟨c4_0, fb_c4_0, P_b, P_c4_0, K4⟩ := q4
          have g_c4_0 : n0 ≤ c4_0 := Nat.le_trans hz fb_c4_0
          have fr_c4_0 : h0.size ≤ c4_0 := Nat.le_trans hk.1 fb_c4_0
          have ne_b_c4_0 : b ≠ c4_0 := Nat.ne_of_lt (Nat.lt_of_lt_of_le O_b.lt fb_c4_0)
          have hz : n0 ≤ h4.size := Nat.le_trans hz K4.1
          have hk := Keep.app hk K4 (fun x hx => Or.inl hx) (allS (Or.inl (by simp)) all0)
          have O_b := P_b
          have O_c4_0 := P_c4_0
          refine w_ret0 C rfl d1_34 (by decide) (by decide) ?_
          exact ⟨rfl, c4_0, 16, 28, (Or.inr (Or.inr (Or.inr ⟨rfl, rfl⟩))), by rw [show (28 : Int32) = nlz ((16 : Int32) - (1 : Int32)) by decide]; exact O_b, O_c4_0, fr_c4_0, hk⟩
        · skip
          refine w_iloadN (pc' := 23) C d1_22 rfl rfl ?_
          refine w_iconst (pc' := 24) (x := (2 : Int32)) C d1_23 rfl rfl ?_
          refine w_imul (pc' := 25) C d1_24 rfl ?_
          refine w_eqI (z := (32 : Int32)) (by decide) ?_
          refine w_istoreN (pc' := 26) (Ls' := #[.val (.ref b), .val (.int z), .val (.int (32 : Int32))]) C d1_25 rfl rfl ?_
          refine w_goto (pc' := 6) C d1_26 (by decide) (by decide) ?_
          exact absurd q19_4 (init_dead hz7)
theorem d7_0 : decode prog_2_method_5_code 0 = .ok (.iload_n 1, 1) := by decide +kernel
theorem d7_1 : decode prog_2_method_5_code 1 = .ok (.invokestatic 20, 3) := by decide +kernel
theorem d7_4 : decode prog_2_method_5_code 4 = .ok (.lstore_n 3, 1) := by decide +kernel
theorem d7_5 : decode prog_2_method_5_code 5 = .ok (.aload_n 0, 1) := by decide +kernel
theorem d7_6 : decode prog_2_method_5_code 6 = .ok (.getfield 24, 3) := by decide +kernel
theorem d7_9 : decode prog_2_method_5_code 9 = .ok (.arraylength, 1) := by decide +kernel
theorem d7_10 : decode prog_2_method_5_code 10 = .ok (.iconst 1, 1) := by decide +kernel
theorem d7_11 : decode prog_2_method_5_code 11 = .ok (.isub, 1) := by decide +kernel
theorem d7_12 : decode prog_2_method_5_code 12 = .ok (.istore 5, 2) := by decide +kernel
theorem d7_14 : decode prog_2_method_5_code 14 = .ok (.aload_n 0, 1) := by decide +kernel
theorem d7_15 : decode prog_2_method_5_code 15 = .ok (.iload_n 1, 1) := by decide +kernel
theorem d7_16 : decode prog_2_method_5_code 16 = .ok (.invokevirtual 28, 3) := by decide +kernel
theorem d7_19 : decode prog_2_method_5_code 19 = .ok (.istore 6, 2) := by decide +kernel
theorem d7_21 : decode prog_2_method_5_code 21 = .ok (.aload_n 0, 1) := by decide +kernel
theorem d7_22 : decode prog_2_method_5_code 22 = .ok (.getfield 24, 3) := by decide +kernel
theorem d7_25 : decode prog_2_method_5_code 25 = .ok (.iload 6, 2) := by decide +kernel
theorem d7_27 : decode prog_2_method_5_code 27 = .ok (.laload, 1) := by decide +kernel
theorem d7_28 : decode prog_2_method_5_code 28 = .ok (.lconst 0, 1) := by decide +kernel
theorem d7_29 : decode prog_2_method_5_code 29 = .ok (.lcmp, 1) := by decide +kernel
theorem d7_30 : decode prog_2_method_5_code 30 = .ok (.ifCond .eq 55, 3) := by decide +kernel
theorem d7_33 : decode prog_2_method_5_code 33 = .ok (.aload_n 0, 1) := by decide +kernel
theorem d7_34 : decode prog_2_method_5_code 34 = .ok (.getfield 24, 3) := by decide +kernel
theorem d7_37 : decode prog_2_method_5_code 37 = .ok (.iload 6, 2) := by decide +kernel
theorem d7_39 : decode prog_2_method_5_code 39 = .ok (.laload, 1) := by decide +kernel
theorem d7_40 : decode prog_2_method_5_code 40 = .ok (.ldc2_w 32, 3) := by decide +kernel
theorem d7_43 : decode prog_2_method_5_code 43 = .ok (.land, 1) := by decide +kernel
theorem d7_44 : decode prog_2_method_5_code 44 = .ok (.lload_n 3, 1) := by decide +kernel
theorem d7_45 : decode prog_2_method_5_code 45 = .ok (.lcmp, 1) := by decide +kernel
theorem d7_46 : decode prog_2_method_5_code 46 = .ok (.ifCond .ne 27, 3) := by decide +kernel
theorem d7_49 : decode prog_2_method_5_code 49 = .ok (.iload_n 2, 1) := by decide +kernel
theorem d7_50 : decode prog_2_method_5_code 50 = .ok (.aload_n 0, 1) := by decide +kernel
theorem d7_51 : decode prog_2_method_5_code 51 = .ok (.getfield 24, 3) := by decide +kernel
theorem d7_54 : decode prog_2_method_5_code 54 = .ok (.iload 6, 2) := by decide +kernel
theorem d7_56 : decode prog_2_method_5_code 56 = .ok (.laload, 1) := by decide +kernel
theorem d7_57 : decode prog_2_method_5_code 57 = .ok (.l2i, 1) := by decide +kernel
theorem d7_58 : decode prog_2_method_5_code 58 = .ok (.if_icmp .ge 14, 3) := by decide +kernel
theorem d7_61 : decode prog_2_method_5_code 61 = .ok (.aload_n 0, 1) := by decide +kernel
theorem d7_62 : decode prog_2_method_5_code 62 = .ok (.getfield 24, 3) := by decide +kernel
theorem d7_65 : decode prog_2_method_5_code 65 = .ok (.iload 6, 2) := by decide +kernel
theorem d7_67 : decode prog_2_method_5_code 67 = .ok (.lload_n 3, 1) := by decide +kernel
theorem d7_68 : decode prog_2_method_5_code 68 = .ok (.iload_n 2, 1) := by decide +kernel
theorem d7_69 : decode prog_2_method_5_code 69 = .ok (.i2l, 1) := by decide +kernel
theorem d7_70 : decode prog_2_method_5_code 70 = .ok (.lor, 1) := by decide +kernel
theorem d7_71 : decode prog_2_method_5_code 71 = .ok (.lastore, 1) := by decide +kernel
theorem d7_72 : decode prog_2_method_5_code 72 = .ok (.return_, 1) := by decide +kernel
theorem d7_73 : decode prog_2_method_5_code 73 = .ok (.iload 6, 2) := by decide +kernel
theorem d7_75 : decode prog_2_method_5_code 75 = .ok (.iconst 1, 1) := by decide +kernel
theorem d7_76 : decode prog_2_method_5_code 76 = .ok (.iadd, 1) := by decide +kernel
theorem d7_77 : decode prog_2_method_5_code 77 = .ok (.iload 5, 2) := by decide +kernel
theorem d7_79 : decode prog_2_method_5_code 79 = .ok (.iand, 1) := by decide +kernel
theorem d7_80 : decode prog_2_method_5_code 80 = .ok (.istore 6, 2) := by decide +kernel
theorem d7_82 : decode prog_2_method_5_code 82 = .ok (.goto (-61), 3) := by decide +kernel
theorem d7_85 : decode prog_2_method_5_code 85 = .ok (.aload_n 0, 1) := by decide +kernel
theorem d7_86 : decode prog_2_method_5_code 86 = .ok (.getfield 24, 3) := by decide +kernel
theorem d7_89 : decode prog_2_method_5_code 89 = .ok (.iload 6, 2) := by decide +kernel
theorem d7_91 : decode prog_2_method_5_code 91 = .ok (.lload_n 3, 1) := by decide +kernel
theorem d7_92 : decode prog_2_method_5_code 92 = .ok (.iload_n 2, 1) := by decide +kernel
theorem d7_93 : decode prog_2_method_5_code 93 = .ok (.i2l, 1) := by decide +kernel
theorem d7_94 : decode prog_2_method_5_code 94 = .ok (.lor, 1) := by decide +kernel
theorem d7_95 : decode prog_2_method_5_code 95 = .ok (.lastore, 1) := by decide +kernel
theorem d7_96 : decode prog_2_method_5_code 96 = .ok (.aload_n 0, 1) := by decide +kernel
theorem d7_97 : decode prog_2_method_5_code 97 = .ok (.dup, 1) := by decide +kernel
theorem d7_98 : decode prog_2_method_5_code 98 = .ok (.getfield 34, 3) := by decide +kernel
theorem d7_101 : decode prog_2_method_5_code 101 = .ok (.iconst 1, 1) := by decide +kernel
theorem d7_102 : decode prog_2_method_5_code 102 = .ok (.iadd, 1) := by decide +kernel
theorem d7_103 : decode prog_2_method_5_code 103 = .ok (.putfield 34, 3) := by decide +kernel
theorem d7_106 : decode prog_2_method_5_code 106 = .ok (.aload_n 0, 1) := by decide +kernel
theorem d7_107 : decode prog_2_method_5_code 107 = .ok (.getfield 34, 3) := by decide +kernel
theorem d7_110 : decode prog_2_method_5_code 110 = .ok (.i2l, 1) := by decide +kernel
theorem d7_111 : decode prog_2_method_5_code 111 = .ok (.ldc2_w 13, 3) := by decide +kernel
theorem d7_114 : decode prog_2_method_5_code 114 = .ok (.lmul, 1) := by decide +kernel
theorem d7_115 : decode prog_2_method_5_code 115 = .ok (.aload_n 0, 1) := by decide +kernel
theorem d7_116 : decode prog_2_method_5_code 116 = .ok (.getfield 24, 3) := by decide +kernel
theorem d7_119 : decode prog_2_method_5_code 119 = .ok (.arraylength, 1) := by decide +kernel
theorem d7_120 : decode prog_2_method_5_code 120 = .ok (.i2l, 1) := by decide +kernel
theorem d7_121 : decode prog_2_method_5_code 121 = .ok (.ldc2_w 11, 3) := by decide +kernel
theorem d7_124 : decode prog_2_method_5_code 124 = .ok (.lmul, 1) := by decide +kernel
theorem d7_125 : decode prog_2_method_5_code 125 = .ok (.lcmp, 1) := by decide +kernel
theorem d7_126 : decode prog_2_method_5_code 126 = .ok (.ifCond .le 7, 3) := by decide +kernel
theorem d7_133 : decode prog_2_method_5_code 133 = .ok (.return_, 1) := by decide +kernel
def rm_meetA : Room := { frames := 1, cells := 0, slots := 0, locals := 13 }
theorem pf_meetA : plainFor (⟨"com/example/gatewright/gatewright/NearestStatements", "meet", "(II)V"⟩ : MethodName) = true := plainFor_of_name (by first | (simp [plainName, overriddenIn]; done) | decide +kernel)
set_option maxRecDepth 65536 in
set_option maxHeartbeats 40000000 in
theorem ct_meetA {l : Launch} {Z : State} {a0 : Array Value} (hw : ∀ d ∈ tables_1, d.before a0 Z = true) (h0 : Heap) (n0 : Nat) (b : Addr) (r : Int32) (f : Int32) (pa : Addr) (N : Nat) (sh : Int32) (T : List Int64) (hz : n0 ≤ h0.size) (I : Inv N sh T) (hr : r ≠ -1) (hf : R10 f) (hN4 : N = 4) (hN : (rts T).length ≤ 1) (O_b : Obj Z h0 b "com/example/gatewright/gatewright/NearestStatements" [("slots", "[J", .ref pa), ("shift", "I", .int sh), ("size", "I", .int (Int32.ofNat (rts T).length))]) (O_pa : Ar Z h0 pa .long (T.map Value.long)) (g_b : n0 ≤ b) (g_pa : n0 ≤ pa) (ne_b_pa : b ≠ pa) :
    Ct l Z (⟨"com/example/gatewright/gatewright/NearestStatements", "meet", "(II)V"⟩ : MethodName) prog_2_method_5_code 7 (Option.none : Option Jvm.ClassFile.FieldType) [] rm_meetA #[.ref b, .int r, .int f] h0 n0 (fun v h => v = none ∧ ∃ T', Inv N sh T' ∧ (rts T').Perm (adds r (rts T)) ∧ Obj Z h b "com/example/gatewright/gatewright/NearestStatements" [("slots", "[J", .ref pa), ("shift", "I", .int sh), ("size", "I", .int (Int32.ofNat (rts T').length))] ∧ Ar Z h pa .long (T'.map Value.long) ∧ Keep h0 h [b, pa]) := by
  refine Ct.of (Ls := #[.val (.ref b), .val (.int r), .val (.int f), .unset, .unset, .unset, .unset]) pf_meetA (fun m => by first | (simp [entryFrame, mkF, argsToLocals, Value.category, maxLocals]; done) | rfl) ?_
  intro p e s m below meth c C
  have hk : Keep h0 h0 [b, pa] := Keep.refl _ _
  have L21 : ∀ (n k : Nat), Prb N sh r T n k → Wp p l e rm_meetA s m #[.ref b, .int r, .int f] below meth c n0 rm_meetA.cells rm_meetA.slots (fun v h => v = none ∧ ∃ T', Inv N sh T' ∧ (rts T').Perm (adds r (rts T)) ∧ Obj Z h b "com/example/gatewright/gatewright/NearestStatements" [("slots", "[J", .ref pa), ("shift", "I", .int sh), ("size", "I", .int (Int32.ofNat (rts T').length))] ∧ Ar Z h pa .long (T'.map Value.long) ∧ Keep h0 h [b, pa]) h0 0 0 (mkF m 21 #[.val (.ref b), .val (.int r), .val (.int f), .val (.long (keyJ r)), .second, .val (.int ((Int32.ofNat N) - (1 : Int32))), .val (.int (Int32.ofNat k))] []) := by
    intro n
    induction n using Nat.strongRecOn with
    | _ n ih =>
      intro k P
      have kl : k < T.length := by rw [I.len]; exact P.lt I.sz
      have k16 : k ≤ 16 := Nat.le_trans (Nat.le_of_lt (P.lt I.sz)) I.sz.pos.2
      refine w_aloadN (pc' := 22) C d7_21 rfl rfl rfl ?_
      refine w_getF (pc' := 25) C (tw hw 16 rfl) d7_22 rfl (O_b.fld 0 rfl) ?_
      refine w_iload (pc' := 27) C d7_25 rfl rfl ?_
      refine wA_laload (pc' := 28) (v := .long (tat T k)) C d7_27 rfl O_pa (ix_nn k16) (mapL_get kl k16) ?_
      refine w_lconst (pc' := 29) (x := (0 : Int64)) C d7_28 rfl rfl ?_
      refine w_lcmp (pc' := 30) C d7_29 rfl ?_
      refine w_if_eq (pcT := 85) (pcF := 33) C d7_30 (by decide) (by decide) rfl (fun q30_1 => ?_) (fun q30_1 => ?_)
      · skip
        refine w_aloadN (pc' := 86) C d7_85 rfl rfl rfl ?_
        refine w_getF (pc' := 89) C (tw hw 16 rfl) d7_86 rfl (O_b.fld 0 rfl) ?_
        refine w_iload (pc' := 91) C d7_89 rfl rfl ?_
        refine w_lloadN (pc' := 92) C d7_91 rfl rfl ?_
        refine w_iloadN (pc' := 93) C d7_92 rfl rfl ?_
        refine w_i2l (pc' := 94) C d7_93 rfl ?_
        refine w_lor (pc' := 95) C d7_94 rfl ?_
        refine wA_lastore (pc' := 96) C d7_95 rfl g_pa O_pa (ix_nn k16) (mapL_len kl k16) (fun h1 W1 A1 => ?_)
        have O_pa : Ar Z h1 pa .long ((T.set k (ent r f)).map Value.long) := (arL_set k16 A1)
        have O_b := O_b.other W1 ne_b_pa
        have hz : n0 ≤ h1.size := by rw [W1.size]; exact hz
        have hk := hk.wr W1 (Or.inl (by simp))
        refine w_aloadN (pc' := 97) C d7_96 rfl rfl rfl ?_
        refine w_dup (pc' := 98) C d7_97 rfl rfl ?_
        refine w_getF (pc' := 101) C (tw hw 25 rfl) d7_98 rfl (O_b.fld 2 rfl) ?_
        refine w_iconst (pc' := 102) (x := (1 : Int32)) C d7_101 rfl rfl ?_
        refine w_iadd (pc' := 103) C d7_102 rfl ?_
        refine w_putF (pc' := 106) (ty := .int) C (tw hw 25 rfl) (Or.inl (tw hw 26 rfl)) (tw hw 1 rfl) (by decide) rfl rfl d7_103 rfl g_b (O_b.fld 2 rfl) O_b.1 (fun h2 W2 => ?_)
        have O_b : Obj Z h2 b "com/example/gatewright/gatewright/NearestStatements" [("slots", "[J", .ref pa), ("shift", "I", .int sh), ("size", "I", .int ((Int32.ofNat (rts T).length) + (1 : Int32)))] := O_b.put 2 rfl W2 rfl
        have O_pa := O_pa.other W2 (Ne.symm ne_b_pa)
        have hz : n0 ≤ h2.size := by rw [W2.size]; exact hz
        have hk := hk.wr W2 (Or.inl (by simp))
        refine w_aloadN (pc' := 107) C d7_106 rfl rfl rfl ?_
        refine w_getF (pc' := 110) C (tw hw 25 rfl) d7_107 rfl (O_b.fld 2 rfl) ?_
        refine w_i2l (pc' := 111) C d7_110 rfl ?_
        refine w_ldc2J (pc' := 114) C (tw hw 10 rfl) d7_111 rfl ?_
        refine w_lmul (pc' := 115) C d7_114 rfl ?_
        refine w_aloadN (pc' := 116) C d7_115 rfl rfl rfl ?_
        refine w_getF (pc' := 119) C (tw hw 16 rfl) d7_116 rfl (O_b.fld 0 rfl) ?_
        refine wA_alen (pc' := 120) (n := (Int32.ofNat N)) C d7_119 rfl O_pa (len_L ((List.length_set ..).trans I.len)) ?_
        refine w_i2l (pc' := 121) C d7_120 rfl ?_
        refine w_ldc2J (pc' := 124) C (tw hw 9 rfl) d7_121 rfl ?_
        refine w_lmul (pc' := 125) C d7_124 rfl ?_
        refine w_lcmp (pc' := 126) C d7_125 rfl ?_
        refine w_if_le (pcT := 133) (pcF := 129) C d7_126 (by decide) (by decide) rfl (fun q126_2 => ?_) (fun q126_2 => ?_)
        · skip
          refine w_ret0 C rfl d7_133 (by decide) (by decide) ?_
          obtain ⟨I', ni, pm⟩ := P.ins (f := f) I (cmp0 q30_1) hf hr
          have le' : (rts (T.set k (ent r f))).length = (rts T).length + 1 := pm.length_eq
          exact ⟨rfl, _, I', adds_new ni pm, by rw [le', ← ofNat_succ]; exact O_b, O_pa, hk⟩
        · skip
          exact absurd q126_2 (by rw [hN4]; exact cap4 hN)
      · skip
        refine w_aloadN (pc' := 34) C d7_33 rfl rfl rfl ?_
        refine w_getF (pc' := 37) C (tw hw 16 rfl) d7_34 rfl (O_b.fld 0 rfl) ?_
        refine w_iload (pc' := 39) C d7_37 rfl rfl ?_
        refine wA_laload (pc' := 40) (v := .long (tat T k)) C d7_39 rfl O_pa (ix_nn k16) (mapL_get kl k16) ?_
        refine w_ldc2J (pc' := 43) C (tw hw 53 rfl) d7_40 rfl ?_
        refine w_land (pc' := 44) C d7_43 rfl ?_
        refine w_lloadN (pc' := 45) C d7_44 rfl rfl ?_
        refine w_lcmp (pc' := 46) C d7_45 rfl ?_
        refine w_if_ne (pcT := 73) (pcF := 49) C d7_46 (by decide) (by decide) rfl (fun q46_3 => ?_) (fun q46_3 => ?_)
        · skip
          refine w_iload (pc' := 75) C d7_73 rfl rfl ?_
          refine w_iconst (pc' := 76) (x := (1 : Int32)) C d7_75 rfl rfl ?_
          refine w_iadd (pc' := 77) C d7_76 rfl ?_
          refine w_iload (pc' := 79) C d7_77 rfl rfl ?_
          refine w_iand (pc' := 80) C d7_79 rfl ?_
          refine w_istore (pc' := 82) (Ls' := #[.val (.ref b), .val (.int r), .val (.int f), .val (.long (keyJ r)), .second, .val (.int ((Int32.ofNat N) - (1 : Int32))), .val (.int (((Int32.ofNat k) + (1 : Int32)) &&& ((Int32.ofNat N) - (1 : Int32))))]) C d7_80 rfl rfl ?_
          refine w_goto (pc' := 21) C d7_82 (by decide) (by decide) ?_
          obtain ⟨n', rfl, P'⟩ := P.next (cmpn q30_1) (cmpn q46_3)
          rw [I.sz.step (P.lt I.sz)]
          exact ih n' (Nat.lt_succ_self _) _ P'
        · skip
          refine w_iloadN (pc' := 50) C d7_49 rfl rfl ?_
          refine w_aloadN (pc' := 51) C d7_50 rfl rfl rfl ?_
          refine w_getF (pc' := 54) C (tw hw 16 rfl) d7_51 rfl (O_b.fld 0 rfl) ?_
          refine w_iload (pc' := 56) C d7_54 rfl rfl ?_
          refine wA_laload (pc' := 57) (v := .long (tat T k)) C d7_56 rfl O_pa (ix_nn k16) (mapL_get kl k16) ?_
          refine w_l2i (pc' := 58) C d7_57 rfl ?_
          refine w_icmp_ge (pcT := 72) (pcF := 61) C d7_58 (by decide) (by decide) rfl (fun q58_4 => ?_) (fun q58_4 => ?_)
          · skip
            refine w_ret0 C rfl d7_72 (by decide) (by decide) ?_
            exact ⟨rfl, T, I, adds_mem (I.upd (f := f) (P.lt I.sz) (cmpn q30_1) (cmp0 q46_3)).1, O_b, O_pa, hk⟩
          · skip
            refine w_aloadN (pc' := 62) C d7_61 rfl rfl rfl ?_
            refine w_getF (pc' := 65) C (tw hw 16 rfl) d7_62 rfl (O_b.fld 0 rfl) ?_
            refine w_iload (pc' := 67) C d7_65 rfl rfl ?_
            refine w_lloadN (pc' := 68) C d7_67 rfl rfl ?_
            refine w_iloadN (pc' := 69) C d7_68 rfl rfl ?_
            refine w_i2l (pc' := 70) C d7_69 rfl ?_
            refine w_lor (pc' := 71) C d7_70 rfl ?_
            refine wA_lastore (pc' := 72) C d7_71 rfl g_pa O_pa (ix_nn k16) (mapL_len kl k16) (fun h3 W3 A3 => ?_)
            have O_pa : Ar Z h3 pa .long ((T.set k (ent r f)).map Value.long) := (arL_set k16 A3)
            have O_b := O_b.other W3 ne_b_pa
            have hz : n0 ≤ h3.size := by rw [W3.size]; exact hz
            have hk := hk.wr W3 (Or.inl (by simp))
            refine w_ret0 C rfl d7_72 (by decide) (by decide) ?_
            obtain ⟨I', e'⟩ := I.set (f := f) (P.lt I.sz) hf (cmpn q30_1) (cmp0 q46_3)
            have mm := (I.upd (f := f) (P.lt I.sz) (cmpn q30_1) (cmp0 q46_3)).1
            exact ⟨rfl, _, I', by rw [e']; exact adds_mem mm, by rw [e']; exact O_b, O_pa, hk⟩
  refine w_iloadN (pc' := 1) C d7_0 rfl rfl ?_
  refine w_callS (pc' := 4) (argsL := [.int r]) (st := []) (W := 0) (ce' := 0) (sl' := 0) C (tw hw 42 rfl) (tw hw 43 rfl) (tw hw 2 rfl) (tw hw 44 rfl) (by decide) d7_1 rfl rfl (by decide) (by decide) (Nat.le_of_eq rfl) rfl rfl (by decide) (by decide) rfl (lenOf pd_2 rfl) (ct_keyJ hw h0 n0 r) (kp ?_)
  refine w_lstoreN (pc' := 5) (Ls' := #[.val (.ref b), .val (.int r), .val (.int f), .val (.long (keyJ r)), .second, .unset, .unset]) C d7_4 rfl rfl ?_
  refine w_aloadN (pc' := 6) C d7_5 rfl rfl rfl ?_
  refine w_getF (pc' := 9) C (tw hw 16 rfl) d7_6 rfl (O_b.fld 0 rfl) ?_
  refine wA_alen (pc' := 10) (n := (Int32.ofNat N)) C d7_9 rfl O_pa (len_L I.len) ?_
  refine w_iconst (pc' := 11) (x := (1 : Int32)) C d7_10 rfl rfl ?_
  refine w_isub (pc' := 12) C d7_11 rfl ?_
  refine w_istore (pc' := 14) (Ls' := #[.val (.ref b), .val (.int r), .val (.int f), .val (.long (keyJ r)), .second, .val (.int ((Int32.ofNat N) - (1 : Int32))), .unset]) C d7_12 rfl rfl ?_
  refine w_aloadN (pc' := 15) C d7_14 rfl rfl rfl ?_
  refine w_iloadN (pc' := 16) C d7_15 rfl rfl ?_
  refine w_callP (pc' := 19) (argsL := [.int r]) (st := []) (W := 0) (ce' := 0) (sl' := 0) C (tw hw 45 rfl) (tw hw 46 rfl) (tw hw 1 rfl) (tw hw 47 rfl) (tw hw 2 rfl) (tw hw 48 rfl) (by decide) d7_16 rfl rfl (by decide) (by decide) (Nat.le_of_eq rfl) rfl rfl (by decide) (by decide) rfl (lenOf pd_0 rfl) O_b.1 (ct_slotF hw h0 n0 b r pa sh (Int32.ofNat (rts T).length) O_b) (kp ?_)
  refine w_istore (pc' := 21) (Ls' := #[.val (.ref b), .val (.int r), .val (.int f), .val (.long (keyJ r)), .second, .val (.int ((Int32.ofNat N) - (1 : Int32))), .val (.int (slotF r sh (Int32.ofNat (rts T).length)))]) C d7_19 rfl rfl ?_
  rw [show slotF r sh (Int32.ofNat (rts T).length) = Int32.ofNat (hm r sh) from hm_int r sh]
  obtain ⟨n1, P1⟩ := Prb.start (r := r) I (by omega)
  exact L21 n1 _ P1
theorem inv4 : Inv 4 30 (List.replicate 4 (0 : Int64)) := Inv.zero (Or.inr (Or.inl ⟨rfl, rfl⟩))
theorem len4 : (rts (List.replicate 4 (0 : Int64))).length ≤ 1 := by rw [rts_rep]; exact Nat.zero_le _
theorem gr0 {r : Int32} {u : List Int32} (h : u.Perm (adds r (rts (List.replicate 4 (0 : Int64))))) : u.Perm [r] := by
  rw [rts_rep] at h; exact h
theorem gr1 {r r' : Int32} {u u' : List Int32} (h : u.Perm [r]) (h' : u'.Perm (adds r' u)) (n : r ≠ r') : u'.Perm [r', r] := by
  have := h'.trans (adds_perm (r := r') h)
  rw [adds, if_neg (by simpa using fun q => n q.symm)] at this; exact this
theorem two {sh : Int32} {T : List Int64} (I : Inv 2 sh T) (h : (rts T).length = 2) : ∃ t0 t1, T = [t0, t1] ∧ (WF t0 ∧ t0 ≠ 0) ∧ (WF t1 ∧ t1 ≠ 0) ∧ rightOf t0 ≠ rightOf t1 := by
  have hl := I.len
  match T, hl, h, I with
  | [t0, t1], _, h, I =>
    have w0 := I.ok 0 (by decide); have w1 := I.ok 1 (by decide); have nd := I.nd
    by_cases z0 : t0 = 0 <;> by_cases z1 : t1 = 0 <;> simp [rts, z0, z1] at h nd
    exact ⟨t0, t1, rfl, ⟨w0, z0⟩, ⟨w1, z1⟩, nd⟩
theorem d11_0 : decode prog_2_method_12_code 0 = .ok (.aload_n 0, 1) := by decide +kernel
theorem d11_1 : decode prog_2_method_12_code 1 = .ok (.getfield 24, 3) := by decide +kernel
theorem d11_4 : decode prog_2_method_12_code 4 = .ok (.astore_n 1, 1) := by decide +kernel
theorem d11_5 : decode prog_2_method_12_code 5 = .ok (.aload_n 0, 1) := by decide +kernel
theorem d11_6 : decode prog_2_method_12_code 6 = .ok (.aload_n 1, 1) := by decide +kernel
theorem d11_7 : decode prog_2_method_12_code 7 = .ok (.arraylength, 1) := by decide +kernel
theorem d11_8 : decode prog_2_method_12_code 8 = .ok (.iconst 2, 1) := by decide +kernel
theorem d11_9 : decode prog_2_method_12_code 9 = .ok (.imul, 1) := by decide +kernel
theorem d11_10 : decode prog_2_method_12_code 10 = .ok (.invokevirtual 15, 3) := by decide +kernel
theorem d11_13 : decode prog_2_method_12_code 13 = .ok (.aload_n 1, 1) := by decide +kernel
theorem d11_14 : decode prog_2_method_12_code 14 = .ok (.astore_n 2, 1) := by decide +kernel
theorem d11_15 : decode prog_2_method_12_code 15 = .ok (.aload_n 2, 1) := by decide +kernel
theorem d11_16 : decode prog_2_method_12_code 16 = .ok (.arraylength, 1) := by decide +kernel
theorem d11_17 : decode prog_2_method_12_code 17 = .ok (.istore_n 3, 1) := by decide +kernel
theorem d11_18 : decode prog_2_method_12_code 18 = .ok (.iconst 0, 1) := by decide +kernel
theorem d11_19 : decode prog_2_method_12_code 19 = .ok (.istore 4, 2) := by decide +kernel
theorem d11_21 : decode prog_2_method_12_code 21 = .ok (.iload 4, 2) := by decide +kernel
theorem d11_23 : decode prog_2_method_12_code 23 = .ok (.iload_n 3, 1) := by decide +kernel
theorem d11_24 : decode prog_2_method_12_code 24 = .ok (.if_icmp .ge 37, 3) := by decide +kernel
theorem d11_27 : decode prog_2_method_12_code 27 = .ok (.aload_n 2, 1) := by decide +kernel
theorem d11_28 : decode prog_2_method_12_code 28 = .ok (.iload 4, 2) := by decide +kernel
theorem d11_30 : decode prog_2_method_12_code 30 = .ok (.laload, 1) := by decide +kernel
theorem d11_31 : decode prog_2_method_12_code 31 = .ok (.lstore 5, 2) := by decide +kernel
theorem d11_33 : decode prog_2_method_12_code 33 = .ok (.lload 5, 2) := by decide +kernel
theorem d11_35 : decode prog_2_method_12_code 35 = .ok (.lconst 0, 1) := by decide +kernel
theorem d11_36 : decode prog_2_method_12_code 36 = .ok (.lcmp, 1) := by decide +kernel
theorem d11_37 : decode prog_2_method_12_code 37 = .ok (.ifCond .eq 18, 3) := by decide +kernel
theorem d11_40 : decode prog_2_method_12_code 40 = .ok (.aload_n 0, 1) := by decide +kernel
theorem d11_41 : decode prog_2_method_12_code 41 = .ok (.lload 5, 2) := by decide +kernel
theorem d11_43 : decode prog_2_method_12_code 43 = .ok (.bipush 32, 2) := by decide +kernel
theorem d11_45 : decode prog_2_method_12_code 45 = .ok (.lushr, 1) := by decide +kernel
theorem d11_46 : decode prog_2_method_12_code 46 = .ok (.l2i, 1) := by decide +kernel
theorem d11_47 : decode prog_2_method_12_code 47 = .ok (.iconst 1, 1) := by decide +kernel
theorem d11_48 : decode prog_2_method_12_code 48 = .ok (.isub, 1) := by decide +kernel
theorem d11_49 : decode prog_2_method_12_code 49 = .ok (.lload 5, 2) := by decide +kernel
theorem d11_51 : decode prog_2_method_12_code 51 = .ok (.l2i, 1) := by decide +kernel
theorem d11_52 : decode prog_2_method_12_code 52 = .ok (.invokevirtual 41, 3) := by decide +kernel
theorem d11_55 : decode prog_2_method_12_code 55 = .ok (.iinc 4 1, 3) := by decide +kernel
theorem d11_58 : decode prog_2_method_12_code 58 = .ok (.goto (-37), 3) := by decide +kernel
theorem d11_61 : decode prog_2_method_12_code 61 = .ok (.return_, 1) := by decide +kernel
def rm_grow : Room := { frames := 2, cells := 1, slots := 16, locals := 31 }
theorem pf_grow : plainFor (⟨"com/example/gatewright/gatewright/NearestStatements", "grow", "()V"⟩ : MethodName) = true := plainFor_of_name (by first | (simp [plainName, overriddenIn]; done) | decide +kernel)
set_option maxRecDepth 65536 in
set_option maxHeartbeats 40000000 in
theorem ct_grow {l : Launch} {Z : State} {a0 : Array Value} (hw : ∀ d ∈ tables_1, d.before a0 Z = true) (h0 : Heap) (n0 : Nat) (b : Addr) (pa : Addr) (sh : Int32) (sz : Int32) (t0 : Int64) (t1 : Int64) (hz : n0 ≤ h0.size) (w0 : WF t0) (w1 : WF t1) (z0 : t0 ≠ 0) (z1 : t1 ≠ 0) (dn : rightOf t0 ≠ rightOf t1) (O_b : Obj Z h0 b "com/example/gatewright/gatewright/NearestStatements" [("slots", "[J", .ref pa), ("shift", "I", .int sh), ("size", "I", .int sz)]) (O_pa : Ar Z h0 pa .long [.long t0, .long t1]) (g_b : n0 ≤ b) (ne_b_pa : b ≠ pa) :
    Ct l Z (⟨"com/example/gatewright/gatewright/NearestStatements", "grow", "()V"⟩ : MethodName) prog_2_method_12_code 7 (Option.none : Option Jvm.ClassFile.FieldType) [] rm_grow #[.ref b] h0 n0 (fun v h => v = none ∧ ∃ pa' T', Inv 4 30 T' ∧ (rts T').Perm [rightOf t1, rightOf t0] ∧ Obj Z h b "com/example/gatewright/gatewright/NearestStatements" [("slots", "[J", .ref pa'), ("shift", "I", .int 30), ("size", "I", .int (Int32.ofNat (rts T').length))] ∧ Ar Z h pa' .long (T'.map Value.long) ∧ h0.size ≤ pa' ∧ Keep h0 h [b]) := by
  refine Ct.of (Ls := #[.val (.ref b), .unset, .unset, .unset, .unset, .unset, .unset]) pf_grow (fun m => by first | (simp [entryFrame, mkF, argsToLocals, Value.category, maxLocals]; done) | rfl) ?_
  intro p e s m below meth c C
  have hk : Keep h0 h0 [b] := Keep.refl _ _
  refine w_aloadN (pc' := 1) C d11_0 rfl rfl rfl ?_
  refine w_getF (pc' := 4) C (tw hw 16 rfl) d11_1 rfl (O_b.fld 0 rfl) ?_
  refine w_astoreN (pc' := 5) (Ls' := #[.val (.ref b), .val (.ref pa), .unset, .unset, .unset, .unset, .unset]) C d11_4 rfl rfl rfl ?_
  refine w_aloadN (pc' := 6) C d11_5 rfl rfl rfl ?_
  refine w_aloadN (pc' := 7) C d11_6 rfl rfl rfl ?_
  refine wA_alen (pc' := 8) (n := (2 : Int32)) C d11_7 rfl O_pa rfl ?_
  refine w_iconst (pc' := 9) (x := (2 : Int32)) C d11_8 rfl rfl ?_
  refine w_imul (pc' := 10) C d11_9 rfl ?_
  refine w_eqI (z := (4 : Int32)) (by decide) ?_
  refine w_callP (pc' := 13) (argsL := [.int (4 : Int32)]) (st := []) (W := 0) (ce' := 1) (sl' := 16) C (tw hw 11 rfl) (tw hw 12 rfl) (tw hw 1 rfl) (tw hw 13 rfl) (tw hw 2 rfl) (tw hw 14 rfl) (by decide) d11_10 rfl rfl (by decide) (by decide) (Nat.le_of_eq rfl) rfl rfl (by decide) (by decide) rfl (lenOf pd_1 rfl) O_b.1 (ct_alloc hw h0 n0 b (4 : Int32) (.ref pa : Value) sh sz hz (by decide) O_b g_b) (k0 (fun h1 q1 => ?_))
  obtain ⟨c1_0, fb_c1_0, P_b, P_c1_0, K1⟩ := q1
  have g_c1_0 : n0 ≤ c1_0 := Nat.le_trans hz fb_c1_0
  have fr_c1_0 : h0.size ≤ c1_0 := Nat.le_trans hk.1 fb_c1_0
  have ne_b_c1_0 : b ≠ c1_0 := Nat.ne_of_lt (Nat.lt_of_lt_of_le O_b.lt fb_c1_0)
  have ne_pa_c1_0 : pa ≠ c1_0 := Nat.ne_of_lt (Nat.lt_of_lt_of_le O_pa.lt fb_c1_0)
  have O_pa := O_pa.keep K1 (ninS (Ne.symm ne_b_pa) nin0)
  have hz : n0 ≤ h1.size := Nat.le_trans hz K1.1
  have hk := Keep.app hk K1 (fun x hx => Or.inl hx) (allS (Or.inl (by simp)) all0)
  have O_b := P_b
  have O_c1_0 := P_c1_0
  have O_b : Obj Z h1 b "com/example/gatewright/gatewright/NearestStatements" [("slots", "[J", .ref c1_0), ("shift", "I", .int (30 : Int32)), ("size", "I", .int (Int32.ofNat (rts (List.replicate 4 (0 : Int64))).length))] := by rw [rts_rep, show (30 : Int32) = nlz ((4 : Int32) - (1 : Int32)) by decide]; exact O_b
  have O_c1_0 : Ar Z h1 c1_0 .long ((List.replicate 4 (0 : Int64)).map Value.long) := O_c1_0
  have g_c1_0 := g_c1_0
  refine w_aloadN (pc' := 14) C d11_13 rfl rfl rfl ?_
  refine w_astoreN (pc' := 15) (Ls' := #[.val (.ref b), .val (.ref pa), .val (.ref pa), .unset, .unset, .unset, .unset]) C d11_14 rfl rfl rfl ?_
  refine w_aloadN (pc' := 16) C d11_15 rfl rfl rfl ?_
  refine wA_alen (pc' := 17) (n := (2 : Int32)) C d11_16 rfl O_pa rfl ?_
  refine w_istoreN (pc' := 18) (Ls' := #[.val (.ref b), .val (.ref pa), .val (.ref pa), .val (.int (2 : Int32)), .unset, .unset, .unset]) C d11_17 rfl rfl ?_
  refine w_iconst (pc' := 19) (x := (0 : Int32)) C d11_18 rfl rfl ?_
  refine w_istore (pc' := 21) (Ls' := #[.val (.ref b), .val (.ref pa), .val (.ref pa), .val (.int (2 : Int32)), .val (.int (0 : Int32)), .unset, .unset]) C d11_19 rfl rfl ?_
  refine w_iload (pc' := 23) C d11_21 rfl rfl ?_
  refine w_iloadN (pc' := 24) C d11_23 rfl rfl ?_
  refine w_icmp_ge (pcT := 61) (pcF := 27) C d11_24 (by decide) (by decide) rfl (fun q => absurd q (by decide)) (fun q24 => ?_)
  refine w_aloadN (pc' := 28) C d11_27 rfl rfl rfl ?_
  refine w_iload (pc' := 30) C d11_28 rfl rfl ?_
  refine wA_laload (pc' := 31) (v := .long t0) C d11_30 rfl O_pa (by decide) rfl ?_
  refine w_lstore (pc' := 33) (Ls' := #[.val (.ref b), .val (.ref pa), .val (.ref pa), .val (.int (2 : Int32)), .val (.int (0 : Int32)), .val (.long t0), .second]) C d11_31 rfl rfl ?_
  refine w_lload (pc' := 35) C d11_33 rfl rfl ?_
  refine w_lconst (pc' := 36) (x := (0 : Int64)) C d11_35 rfl rfl ?_
  refine w_lcmp (pc' := 37) C d11_36 rfl ?_
  refine w_if_eq (pcT := 55) (pcF := 40) C d11_37 (by decide) (by decide) rfl (fun q37_1 => ?_) (fun q37_1 => ?_)
  · skip
    exact absurd (cmp0 q37_1) z0
  · skip
    refine w_aloadN (pc' := 41) C d11_40 rfl rfl rfl ?_
    refine w_lload (pc' := 43) C d11_41 rfl rfl ?_
    refine w_bipush (pc' := 45) (x := (32 : Int32)) C d11_43 rfl rfl ?_
    refine w_lushr (pc' := 46) C d11_45 rfl ?_
    refine w_l2i (pc' := 47) C d11_46 rfl ?_
    refine w_iconst (pc' := 48) (x := (1 : Int32)) C d11_47 rfl rfl ?_
    refine w_isub (pc' := 49) C d11_48 rfl ?_
    refine w_lload (pc' := 51) C d11_49 rfl rfl ?_
    refine w_l2i (pc' := 52) C d11_51 rfl ?_
    refine w_callV (Cl := "com/example/gatewright/gatewright/NearestStatements") (pc' := 55) (argsL := [.int ((((t0.toUInt64 >>> ((32 : Int32) &&& 0x3f).toInt64.toUInt64).toInt64).toInt32) - (1 : Int32)), .int (t0.toInt32)]) (st := []) (W := 0) (ce' := 1) (sl' := 16) C (tw hw 58 rfl) (tw hw 38 rfl) (tw hw 40 rfl) (tw hw 39 rfl) (tw hw 2 rfl) (tw hw 41 rfl) (by decide) d11_52 rfl rfl (by decide) (by decide) (Nat.le_of_eq rfl) rfl rfl (by decide) (by decide) rfl (lenOf pd_3 rfl) O_b.1 (ct_meetA hw h1 n0 b (rightOf t0) (t0.toInt32) c1_0 4 30 (List.replicate 4 (0 : Int64)) hz inv4 (w0 z0).1 (w0 z0).2.1 rfl len4 O_b O_c1_0 g_b g_c1_0 ne_b_c1_0) (k0 (fun h2 q2 => ?_))
    obtain ⟨T2, I2, Pm2, P2, R2, K2⟩ := q2
    have O_pa := O_pa.keep K2 (ninS (Ne.symm ne_b_pa) (ninS ne_pa_c1_0 nin0))
    have hz : n0 ≤ h2.size := Nat.le_trans hz K2.1
    have hk := Keep.app hk K2 (fun x hx => Or.inl hx) (allS (Or.inl (by simp)) (allS (Or.inr fr_c1_0) all0))
    have O_b := P2
    have O_c1_0 := R2
    have X0 := gr0 Pm2
    have le0 : (rts T2).length ≤ 1 := Nat.le_of_eq X0.length_eq
    refine w_iincE (pc' := 58) (z := (1 : Int32)) (Ls' := #[.val (.ref b), .val (.ref pa), .val (.ref pa), .val (.int (2 : Int32)), .val (.int (1 : Int32)), .val (.long t0), .second]) C d11_55 rfl (by decide) rfl rfl ?_
    refine w_goto (pc' := 21) C d11_58 (by decide) (by decide) ?_
    refine w_iload (pc' := 23) C d11_21 rfl rfl ?_
    refine w_iloadN (pc' := 24) C d11_23 rfl rfl ?_
    refine w_icmp_ge (pcT := 61) (pcF := 27) C d11_24 (by decide) (by decide) rfl (fun q => absurd q (by decide)) (fun q24 => ?_)
    refine w_aloadN (pc' := 28) C d11_27 rfl rfl rfl ?_
    refine w_iload (pc' := 30) C d11_28 rfl rfl ?_
    refine wA_laload (pc' := 31) (v := .long t1) C d11_30 rfl O_pa (by decide) rfl ?_
    refine w_lstore (pc' := 33) (Ls' := #[.val (.ref b), .val (.ref pa), .val (.ref pa), .val (.int (2 : Int32)), .val (.int (1 : Int32)), .val (.long t1), .second]) C d11_31 rfl rfl ?_
    refine w_lload (pc' := 35) C d11_33 rfl rfl ?_
    refine w_lconst (pc' := 36) (x := (0 : Int64)) C d11_35 rfl rfl ?_
    refine w_lcmp (pc' := 37) C d11_36 rfl ?_
    refine w_if_eq (pcT := 55) (pcF := 40) C d11_37 (by decide) (by decide) rfl (fun q37_2 => ?_) (fun q37_2 => ?_)
    · skip
      exact absurd (cmp0 q37_2) z1
    · skip
      refine w_aloadN (pc' := 41) C d11_40 rfl rfl rfl ?_
      refine w_lload (pc' := 43) C d11_41 rfl rfl ?_
      refine w_bipush (pc' := 45) (x := (32 : Int32)) C d11_43 rfl rfl ?_
      refine w_lushr (pc' := 46) C d11_45 rfl ?_
      refine w_l2i (pc' := 47) C d11_46 rfl ?_
      refine w_iconst (pc' := 48) (x := (1 : Int32)) C d11_47 rfl rfl ?_
      refine w_isub (pc' := 49) C d11_48 rfl ?_
      refine w_lload (pc' := 51) C d11_49 rfl rfl ?_
      refine w_l2i (pc' := 52) C d11_51 rfl ?_
      refine w_callV (Cl := "com/example/gatewright/gatewright/NearestStatements") (pc' := 55) (argsL := [.int ((((t1.toUInt64 >>> ((32 : Int32) &&& 0x3f).toInt64.toUInt64).toInt64).toInt32) - (1 : Int32)), .int (t1.toInt32)]) (st := []) (W := 0) (ce' := 1) (sl' := 16) C (tw hw 58 rfl) (tw hw 38 rfl) (tw hw 40 rfl) (tw hw 39 rfl) (tw hw 2 rfl) (tw hw 41 rfl) (by decide) d11_52 rfl rfl (by decide) (by decide) (Nat.le_of_eq rfl) rfl rfl (by decide) (by decide) rfl (lenOf pd_3 rfl) O_b.1 (ct_meetA hw h2 n0 b (rightOf t1) (t1.toInt32) c1_0 4 30 T2 hz I2 (w1 z1).1 (w1 z1).2.1 rfl le0 O_b O_c1_0 g_b g_c1_0 ne_b_c1_0) (k0 (fun h3 q3 => ?_))
      obtain ⟨T3, I3, Pm3, P3, R3, K3⟩ := q3
      have O_pa := O_pa.keep K3 (ninS (Ne.symm ne_b_pa) (ninS ne_pa_c1_0 nin0))
      have hz : n0 ≤ h3.size := Nat.le_trans hz K3.1
      have hk := Keep.app hk K3 (fun x hx => Or.inl hx) (allS (Or.inl (by simp)) (allS (Or.inr fr_c1_0) all0))
      have O_b := P3
      have O_c1_0 := R3
      have X1 := gr1 X0 Pm3 dn
      refine w_iincE (pc' := 58) (z := (2 : Int32)) (Ls' := #[.val (.ref b), .val (.ref pa), .val (.ref pa), .val (.int (2 : Int32)), .val (.int (2 : Int32)), .val (.long t1), .second]) C d11_55 rfl (by decide) rfl rfl ?_
      refine w_goto (pc' := 21) C d11_58 (by decide) (by decide) ?_
      refine w_iload (pc' := 23) C d11_21 rfl rfl ?_
      refine w_iloadN (pc' := 24) C d11_23 rfl rfl ?_
      refine w_icmp_ge (pcT := 61) (pcF := 27) C d11_24 (by decide) (by decide) rfl (fun q24 => ?_) (fun q => absurd q (by decide))
      refine w_ret0 C rfl d11_61 (by decide) (by decide) ?_
      exact ⟨rfl, c1_0, T3, I3, X1, O_b, O_c1_0, fr_c1_0, hk⟩
theorem grown {r : Int32} {k : Nat} {x t0 t1 : Int64} {T : List Int64} {u : List Int32} (ni : r ∉ rts T) (pm : (rts (T.set k x)).Perm (r :: rts T)) (et : T.set k x = [t0, t1]) (h : u.Perm [rightOf t1, rightOf t0]) (y0 : t0 ≠ 0) (y1 : t1 ≠ 0) : u.Perm (adds r (rts T)) := by
  rw [et] at pm
  simp only [rts, y0, y1, if_false] at pm
  exact adds_new ni ((h.trans (List.Perm.swap _ _ _)).trans pm)
theorem d7_129 : decode prog_2_method_5_code 129 = .ok (.aload_n 0, 1) := by decide +kernel
theorem d7_130 : decode prog_2_method_5_code 130 = .ok (.invokevirtual 38, 3) := by decide +kernel
def rm_meet : Room := { frames := 3, cells := 1, slots := 16, locals := 49 }
theorem pf_meet : plainFor (⟨"com/example/gatewright/gatewright/NearestStatements", "meet", "(II)V"⟩ : MethodName) = true := plainFor_of_name (by first | (simp [plainName, overriddenIn]; done) | decide +kernel)
set_option maxRecDepth 65536 in
set_option maxHeartbeats 40000000 in
theorem ct_meet {l : Launch} {Z : State} {a0 : Array Value} (hw : ∀ d ∈ tables_1, d.before a0 Z = true) (h0 : Heap) (n0 : Nat) (b : Addr) (r : Int32) (f : Int32) (pa : Addr) (N : Nat) (sh : Int32) (T : List Int64) (hz : n0 ≤ h0.size) (I : Inv N sh T) (hr : r ≠ -1) (hf : R10 f) (hG : Gd N (rts T).length) (O_b : Obj Z h0 b "com/example/gatewright/gatewright/NearestStatements" [("slots", "[J", .ref pa), ("shift", "I", .int sh), ("size", "I", .int (Int32.ofNat (rts T).length))]) (O_pa : Ar Z h0 pa .long (T.map Value.long)) (g_b : n0 ≤ b) (g_pa : n0 ≤ pa) (ne_b_pa : b ≠ pa) :
    Ct l Z (⟨"com/example/gatewright/gatewright/NearestStatements", "meet", "(II)V"⟩ : MethodName) prog_2_method_5_code 7 (Option.none : Option Jvm.ClassFile.FieldType) [] rm_meet #[.ref b, .int r, .int f] h0 n0 (fun v h => v = none ∧ ∃ pa' N' sh' T', Inv N' sh' T' ∧ (rts T').Perm (adds r (rts T)) ∧ Ge N' (rts T').length ∧ Obj Z h b "com/example/gatewright/gatewright/NearestStatements" [("slots", "[J", .ref pa'), ("shift", "I", .int sh'), ("size", "I", .int (Int32.ofNat (rts T').length))] ∧ Ar Z h pa' .long (T'.map Value.long) ∧ (pa' = pa ∨ h0.size ≤ pa') ∧ Keep h0 h [b, pa]) := by
  refine Ct.of (Ls := #[.val (.ref b), .val (.int r), .val (.int f), .unset, .unset, .unset, .unset]) pf_meet (fun m => by first | (simp [entryFrame, mkF, argsToLocals, Value.category, maxLocals]; done) | rfl) ?_
  intro p e s m below meth c C
  have hk : Keep h0 h0 [b, pa] := Keep.refl _ _
  have L21 : ∀ (n k : Nat), Prb N sh r T n k → Wp p l e rm_meet s m #[.ref b, .int r, .int f] below meth c n0 rm_meet.cells rm_meet.slots (fun v h => v = none ∧ ∃ pa' N' sh' T', Inv N' sh' T' ∧ (rts T').Perm (adds r (rts T)) ∧ Ge N' (rts T').length ∧ Obj Z h b "com/example/gatewright/gatewright/NearestStatements" [("slots", "[J", .ref pa'), ("shift", "I", .int sh'), ("size", "I", .int (Int32.ofNat (rts T').length))] ∧ Ar Z h pa' .long (T'.map Value.long) ∧ (pa' = pa ∨ h0.size ≤ pa') ∧ Keep h0 h [b, pa]) h0 0 0 (mkF m 21 #[.val (.ref b), .val (.int r), .val (.int f), .val (.long (keyJ r)), .second, .val (.int ((Int32.ofNat N) - (1 : Int32))), .val (.int (Int32.ofNat k))] []) := by
    intro n
    induction n using Nat.strongRecOn with
    | _ n ih =>
      intro k P
      have kl : k < T.length := by rw [I.len]; exact P.lt I.sz
      have k16 : k ≤ 16 := Nat.le_trans (Nat.le_of_lt (P.lt I.sz)) I.sz.pos.2
      refine w_aloadN (pc' := 22) C d7_21 rfl rfl rfl ?_
      refine w_getF (pc' := 25) C (tw hw 16 rfl) d7_22 rfl (O_b.fld 0 rfl) ?_
      refine w_iload (pc' := 27) C d7_25 rfl rfl ?_
      refine wA_laload (pc' := 28) (v := .long (tat T k)) C d7_27 rfl O_pa (ix_nn k16) (mapL_get kl k16) ?_
      refine w_lconst (pc' := 29) (x := (0 : Int64)) C d7_28 rfl rfl ?_
      refine w_lcmp (pc' := 30) C d7_29 rfl ?_
      refine w_if_eq (pcT := 85) (pcF := 33) C d7_30 (by decide) (by decide) rfl (fun q30_1 => ?_) (fun q30_1 => ?_)
      · skip
        refine w_aloadN (pc' := 86) C d7_85 rfl rfl rfl ?_
        refine w_getF (pc' := 89) C (tw hw 16 rfl) d7_86 rfl (O_b.fld 0 rfl) ?_
        refine w_iload (pc' := 91) C d7_89 rfl rfl ?_
        refine w_lloadN (pc' := 92) C d7_91 rfl rfl ?_
        refine w_iloadN (pc' := 93) C d7_92 rfl rfl ?_
        refine w_i2l (pc' := 94) C d7_93 rfl ?_
        refine w_lor (pc' := 95) C d7_94 rfl ?_
        refine wA_lastore (pc' := 96) C d7_95 rfl g_pa O_pa (ix_nn k16) (mapL_len kl k16) (fun h1 W1 A1 => ?_)
        have O_pa : Ar Z h1 pa .long ((T.set k (ent r f)).map Value.long) := (arL_set k16 A1)
        have O_b := O_b.other W1 ne_b_pa
        have hz : n0 ≤ h1.size := by rw [W1.size]; exact hz
        have hk := hk.wr W1 (Or.inl (by simp))
        refine w_aloadN (pc' := 97) C d7_96 rfl rfl rfl ?_
        refine w_dup (pc' := 98) C d7_97 rfl rfl ?_
        refine w_getF (pc' := 101) C (tw hw 25 rfl) d7_98 rfl (O_b.fld 2 rfl) ?_
        refine w_iconst (pc' := 102) (x := (1 : Int32)) C d7_101 rfl rfl ?_
        refine w_iadd (pc' := 103) C d7_102 rfl ?_
        refine w_putF (pc' := 106) (ty := .int) C (tw hw 25 rfl) (Or.inl (tw hw 26 rfl)) (tw hw 1 rfl) (by decide) rfl rfl d7_103 rfl g_b (O_b.fld 2 rfl) O_b.1 (fun h2 W2 => ?_)
        have O_b : Obj Z h2 b "com/example/gatewright/gatewright/NearestStatements" [("slots", "[J", .ref pa), ("shift", "I", .int sh), ("size", "I", .int ((Int32.ofNat (rts T).length) + (1 : Int32)))] := O_b.put 2 rfl W2 rfl
        have O_pa := O_pa.other W2 (Ne.symm ne_b_pa)
        have hz : n0 ≤ h2.size := by rw [W2.size]; exact hz
        have hk := hk.wr W2 (Or.inl (by simp))
        refine w_aloadN (pc' := 107) C d7_106 rfl rfl rfl ?_
        refine w_getF (pc' := 110) C (tw hw 25 rfl) d7_107 rfl (O_b.fld 2 rfl) ?_
        refine w_i2l (pc' := 111) C d7_110 rfl ?_
        refine w_ldc2J (pc' := 114) C (tw hw 10 rfl) d7_111 rfl ?_
        refine w_lmul (pc' := 115) C d7_114 rfl ?_
        refine w_aloadN (pc' := 116) C d7_115 rfl rfl rfl ?_
        refine w_getF (pc' := 119) C (tw hw 16 rfl) d7_116 rfl (O_b.fld 0 rfl) ?_
        refine wA_alen (pc' := 120) (n := (Int32.ofNat N)) C d7_119 rfl O_pa (len_L ((List.length_set ..).trans I.len)) ?_
        refine w_i2l (pc' := 121) C d7_120 rfl ?_
        refine w_ldc2J (pc' := 124) C (tw hw 9 rfl) d7_121 rfl ?_
        refine w_lmul (pc' := 125) C d7_124 rfl ?_
        refine w_lcmp (pc' := 126) C d7_125 rfl ?_
        refine w_if_le (pcT := 133) (pcF := 129) C d7_126 (by decide) (by decide) rfl (fun q126_2 => ?_) (fun q126_2 => ?_)
        · skip
          refine w_ret0 C rfl d7_133 (by decide) (by decide) ?_
          obtain ⟨I', ni, pm⟩ := P.ins (f := f) I (cmp0 q30_1) hf hr
          have le' : (rts (T.set k (ent r f))).length = (rts T).length + 1 := pm.length_eq
          exact ⟨rfl, pa, N, sh, _, I', adds_new ni pm, by rw [le']; exact capN hG q126_2, by rw [le', ← ofNat_succ]; exact O_b, O_pa, Or.inl rfl, hk⟩
        · skip
          obtain ⟨rfl, e1⟩ := capG hG q126_2
          obtain ⟨I', ni, pm⟩ := P.ins (f := f) I (cmp0 q30_1) hf hr
          have le' : (rts (T.set k (ent r f))).length = 2 := pm.length_eq.trans (by rw [List.length_cons, e1])
          obtain ⟨t0, t1, et, y0, y1, dn⟩ := two I' le'
          rw [et] at O_pa
          refine w_aloadN (pc' := 130) C d7_129 rfl rfl rfl ?_
          refine w_callP (pc' := 133) (argsL := []) (st := []) (W := 0) (ce' := 1) (sl' := 16) C (tw hw 54 rfl) (tw hw 55 rfl) (tw hw 1 rfl) (tw hw 56 rfl) (tw hw 2 rfl) (tw hw 57 rfl) (by decide) d7_130 rfl rfl (by decide) (by decide) (Nat.le_of_eq rfl) rfl rfl (by decide) (by decide) rfl (lenOf pd_4 rfl) O_b.1 (ct_grow hw h2 n0 b pa sh ((Int32.ofNat (rts T).length) + (1 : Int32)) t0 t1 hz y0.1 y1.1 y0.2 y1.2 dn O_b O_pa g_b ne_b_pa) (k0 (fun h3 q3 => ?_))
          obtain ⟨pa', T', J', X', P', R', fb', K'⟩ := q3
          have fr' := Nat.le_trans hk.1 fb'
          have O_pa := O_pa.keep K' (ninS (Ne.symm ne_b_pa) nin0)
          have hz : n0 ≤ h3.size := Nat.le_trans hz K'.1
          have hk := Keep.app hk K' (fun x hx => Or.inl hx) (allS (Or.inl (by simp)) all0)
          refine w_ret0 C rfl d7_133 (by decide) (by decide) ?_
          exact ⟨rfl, pa', 4, 30, T', J', grown ni pm et X' y0.2 y1.2, Or.inr (Or.inl ⟨rfl, by rw [X'.length_eq]; simp⟩), P', R', Or.inr fr', hk⟩
      · skip
        refine w_aloadN (pc' := 34) C d7_33 rfl rfl rfl ?_
        refine w_getF (pc' := 37) C (tw hw 16 rfl) d7_34 rfl (O_b.fld 0 rfl) ?_
        refine w_iload (pc' := 39) C d7_37 rfl rfl ?_
        refine wA_laload (pc' := 40) (v := .long (tat T k)) C d7_39 rfl O_pa (ix_nn k16) (mapL_get kl k16) ?_
        refine w_ldc2J (pc' := 43) C (tw hw 53 rfl) d7_40 rfl ?_
        refine w_land (pc' := 44) C d7_43 rfl ?_
        refine w_lloadN (pc' := 45) C d7_44 rfl rfl ?_
        refine w_lcmp (pc' := 46) C d7_45 rfl ?_
        refine w_if_ne (pcT := 73) (pcF := 49) C d7_46 (by decide) (by decide) rfl (fun q46_3 => ?_) (fun q46_3 => ?_)
        · skip
          refine w_iload (pc' := 75) C d7_73 rfl rfl ?_
          refine w_iconst (pc' := 76) (x := (1 : Int32)) C d7_75 rfl rfl ?_
          refine w_iadd (pc' := 77) C d7_76 rfl ?_
          refine w_iload (pc' := 79) C d7_77 rfl rfl ?_
          refine w_iand (pc' := 80) C d7_79 rfl ?_
          refine w_istore (pc' := 82) (Ls' := #[.val (.ref b), .val (.int r), .val (.int f), .val (.long (keyJ r)), .second, .val (.int ((Int32.ofNat N) - (1 : Int32))), .val (.int (((Int32.ofNat k) + (1 : Int32)) &&& ((Int32.ofNat N) - (1 : Int32))))]) C d7_80 rfl rfl ?_
          refine w_goto (pc' := 21) C d7_82 (by decide) (by decide) ?_
          obtain ⟨n', rfl, P'⟩ := P.next (cmpn q30_1) (cmpn q46_3)
          rw [I.sz.step (P.lt I.sz)]
          exact ih n' (Nat.lt_succ_self _) _ P'
        · skip
          refine w_iloadN (pc' := 50) C d7_49 rfl rfl ?_
          refine w_aloadN (pc' := 51) C d7_50 rfl rfl rfl ?_
          refine w_getF (pc' := 54) C (tw hw 16 rfl) d7_51 rfl (O_b.fld 0 rfl) ?_
          refine w_iload (pc' := 56) C d7_54 rfl rfl ?_
          refine wA_laload (pc' := 57) (v := .long (tat T k)) C d7_56 rfl O_pa (ix_nn k16) (mapL_get kl k16) ?_
          refine w_l2i (pc' := 58) C d7_57 rfl ?_
          refine w_icmp_ge (pcT := 72) (pcF := 61) C d7_58 (by decide) (by decide) rfl (fun q58_4 => ?_) (fun q58_4 => ?_)
          · skip
            refine w_ret0 C rfl d7_72 (by decide) (by decide) ?_
            exact ⟨rfl, pa, N, sh, T, I, adds_mem (I.upd (f := f) (P.lt I.sz) (cmpn q30_1) (cmp0 q46_3)).1, hG.ge, O_b, O_pa, Or.inl rfl, hk⟩
          · skip
            refine w_aloadN (pc' := 62) C d7_61 rfl rfl rfl ?_
            refine w_getF (pc' := 65) C (tw hw 16 rfl) d7_62 rfl (O_b.fld 0 rfl) ?_
            refine w_iload (pc' := 67) C d7_65 rfl rfl ?_
            refine w_lloadN (pc' := 68) C d7_67 rfl rfl ?_
            refine w_iloadN (pc' := 69) C d7_68 rfl rfl ?_
            refine w_i2l (pc' := 70) C d7_69 rfl ?_
            refine w_lor (pc' := 71) C d7_70 rfl ?_
            refine wA_lastore (pc' := 72) C d7_71 rfl g_pa O_pa (ix_nn k16) (mapL_len kl k16) (fun h4 W4 A4 => ?_)
            have O_pa : Ar Z h4 pa .long ((T.set k (ent r f)).map Value.long) := (arL_set k16 A4)
            have O_b := O_b.other W4 ne_b_pa
            have hz : n0 ≤ h4.size := by rw [W4.size]; exact hz
            have hk := hk.wr W4 (Or.inl (by simp))
            refine w_ret0 C rfl d7_72 (by decide) (by decide) ?_
            obtain ⟨I', e'⟩ := I.set (f := f) (P.lt I.sz) hf (cmpn q30_1) (cmp0 q46_3)
            have mm := (I.upd (f := f) (P.lt I.sz) (cmpn q30_1) (cmp0 q46_3)).1
            exact ⟨rfl, pa, N, sh, _, I', by rw [e']; exact adds_mem mm, by rw [e']; exact hG.ge, by rw [e']; exact O_b, O_pa, Or.inl rfl, hk⟩
  refine w_iloadN (pc' := 1) C d7_0 rfl rfl ?_
  refine w_callS (pc' := 4) (argsL := [.int r]) (st := []) (W := 0) (ce' := 0) (sl' := 0) C (tw hw 42 rfl) (tw hw 43 rfl) (tw hw 2 rfl) (tw hw 44 rfl) (by decide) d7_1 rfl rfl (by decide) (by decide) (Nat.le_of_eq rfl) rfl rfl (by decide) (by decide) rfl (lenOf pd_2 rfl) (ct_keyJ hw h0 n0 r) (kp ?_)
  refine w_lstoreN (pc' := 5) (Ls' := #[.val (.ref b), .val (.int r), .val (.int f), .val (.long (keyJ r)), .second, .unset, .unset]) C d7_4 rfl rfl ?_
  refine w_aloadN (pc' := 6) C d7_5 rfl rfl rfl ?_
  refine w_getF (pc' := 9) C (tw hw 16 rfl) d7_6 rfl (O_b.fld 0 rfl) ?_
  refine wA_alen (pc' := 10) (n := (Int32.ofNat N)) C d7_9 rfl O_pa (len_L I.len) ?_
  refine w_iconst (pc' := 11) (x := (1 : Int32)) C d7_10 rfl rfl ?_
  refine w_isub (pc' := 12) C d7_11 rfl ?_
  refine w_istore (pc' := 14) (Ls' := #[.val (.ref b), .val (.int r), .val (.int f), .val (.long (keyJ r)), .second, .val (.int ((Int32.ofNat N) - (1 : Int32))), .unset]) C d7_12 rfl rfl ?_
  refine w_aloadN (pc' := 15) C d7_14 rfl rfl rfl ?_
  refine w_iloadN (pc' := 16) C d7_15 rfl rfl ?_
  refine w_callP (pc' := 19) (argsL := [.int r]) (st := []) (W := 0) (ce' := 0) (sl' := 0) C (tw hw 45 rfl) (tw hw 46 rfl) (tw hw 1 rfl) (tw hw 47 rfl) (tw hw 2 rfl) (tw hw 48 rfl) (by decide) d7_16 rfl rfl (by decide) (by decide) (Nat.le_of_eq rfl) rfl rfl (by decide) (by decide) rfl (lenOf pd_0 rfl) O_b.1 (ct_slotF hw h0 n0 b r pa sh (Int32.ofNat (rts T).length) O_b) (kp ?_)
  refine w_istore (pc' := 21) (Ls' := #[.val (.ref b), .val (.int r), .val (.int f), .val (.long (keyJ r)), .second, .val (.int ((Int32.ofNat N) - (1 : Int32))), .val (.int (slotF r sh (Int32.ofNat (rts T).length)))]) C d7_19 rfl rfl ?_
  rw [show slotF r sh (Int32.ofNat (rts T).length) = Int32.ofNat (hm r sh) from hm_int r sh]
  obtain ⟨n1, P1⟩ := Prb.start (r := r) I hG.lt
  exact L21 n1 _ P1
theorem pos0 {N : Nat} {sh : Int32} (S : Sz N sh) : ¬ ¬ Int32.ofNat 0 < Int32.ofNat N := by
  rcases S with ⟨rfl, -⟩ | ⟨rfl, -⟩ | ⟨rfl, -⟩ | ⟨rfl, -⟩ <;> decide
theorem cnb {N ii cn s0 : Nat} {sh : Int32} {T : List Int64} (I : Inv N sh T) (il : ii < N) (hs0 : s0 ≤ 3) (hl3 : (rts T).length ≤ 3) (hcn : cn = s0 + (rts (T.take ii)).length) (h0 : tat T ii ≠ 0) : cn < 8 := by
  have := rts_take_lt (T := T) (i := ii) (by rw [I.len]; exact il) h0; omega
theorem tk_ne {N ii cn s0 : Nat} {sh : Int32} {T : List Int64} {us us0 : List Int32} (I : Inv N sh T) (il : ii < N) (hcn : cn = s0 + (rts (T.take ii)).length) (hus : us = wr us0 s0 (rts (T.take ii))) (h0 : tat T ii ≠ 0) :
    cn + 1 = s0 + (rts (T.take (ii + 1))).length ∧ us.set cn (rightOf (tat T ii)) = wr us0 s0 (rts (T.take (ii + 1))) := by
  rw [rts_take_ne (by rw [I.len]; exact il) h0, wr_snoc, ← hus, ← hcn, List.length_append, List.length_singleton]
  exact ⟨by omega, rfl⟩
theorem tk_zero {N ii cn s0 : Nat} {sh : Int32} {T : List Int64} {us us0 : List Int32} (I : Inv N sh T) (il : ii < N) (hcn : cn = s0 + (rts (T.take ii)).length) (hus : us = wr us0 s0 (rts (T.take ii))) (h0 : tat T ii = 0) :
    cn = s0 + (rts (T.take (ii + 1))).length ∧ us = wr us0 s0 (rts (T.take (ii + 1))) := by
  rw [rts_take_zero (by rw [I.len]; exact il) h0]; exact ⟨hcn, hus⟩
theorem d5_0 : decode prog_2_method_8_code 0 = .ok (.iload_n 2, 1) := by decide +kernel
theorem d5_1 : decode prog_2_method_8_code 1 = .ok (.istore_n 3, 1) := by decide +kernel
theorem d5_2 : decode prog_2_method_8_code 2 = .ok (.aload_n 0, 1) := by decide +kernel
theorem d5_3 : decode prog_2_method_8_code 3 = .ok (.getfield 24, 3) := by decide +kernel
theorem d5_6 : decode prog_2_method_8_code 6 = .ok (.astore 4, 2) := by decide +kernel
theorem d5_8 : decode prog_2_method_8_code 8 = .ok (.aload 4, 2) := by decide +kernel
theorem d5_10 : decode prog_2_method_8_code 10 = .ok (.arraylength, 1) := by decide +kernel
theorem d5_11 : decode prog_2_method_8_code 11 = .ok (.istore 5, 2) := by decide +kernel
theorem d5_13 : decode prog_2_method_8_code 13 = .ok (.iconst 0, 1) := by decide +kernel
theorem d5_14 : decode prog_2_method_8_code 14 = .ok (.istore 6, 2) := by decide +kernel
theorem d5_16 : decode prog_2_method_8_code 16 = .ok (.iload 6, 2) := by decide +kernel
theorem d5_18 : decode prog_2_method_8_code 18 = .ok (.iload 5, 2) := by decide +kernel
theorem d5_20 : decode prog_2_method_8_code 20 = .ok (.if_icmp .ge 37, 3) := by decide +kernel
theorem d5_23 : decode prog_2_method_8_code 23 = .ok (.aload 4, 2) := by decide +kernel
theorem d5_25 : decode prog_2_method_8_code 25 = .ok (.iload 6, 2) := by decide +kernel
theorem d5_27 : decode prog_2_method_8_code 27 = .ok (.laload, 1) := by decide +kernel
theorem d5_28 : decode prog_2_method_8_code 28 = .ok (.lstore 7, 2) := by decide +kernel
theorem d5_30 : decode prog_2_method_8_code 30 = .ok (.lload 7, 2) := by decide +kernel
theorem d5_32 : decode prog_2_method_8_code 32 = .ok (.lconst 0, 1) := by decide +kernel
theorem d5_33 : decode prog_2_method_8_code 33 = .ok (.lcmp, 1) := by decide +kernel
theorem d5_34 : decode prog_2_method_8_code 34 = .ok (.ifCond .eq 17, 3) := by decide +kernel
theorem d5_37 : decode prog_2_method_8_code 37 = .ok (.aload_n 1, 1) := by decide +kernel
theorem d5_38 : decode prog_2_method_8_code 38 = .ok (.iload_n 3, 1) := by decide +kernel
theorem d5_39 : decode prog_2_method_8_code 39 = .ok (.iinc 3 1, 3) := by decide +kernel
theorem d5_42 : decode prog_2_method_8_code 42 = .ok (.lload 7, 2) := by decide +kernel
theorem d5_44 : decode prog_2_method_8_code 44 = .ok (.bipush 32, 2) := by decide +kernel
theorem d5_46 : decode prog_2_method_8_code 46 = .ok (.lushr, 1) := by decide +kernel
theorem d5_47 : decode prog_2_method_8_code 47 = .ok (.l2i, 1) := by decide +kernel
theorem d5_48 : decode prog_2_method_8_code 48 = .ok (.iconst 1, 1) := by decide +kernel
theorem d5_49 : decode prog_2_method_8_code 49 = .ok (.isub, 1) := by decide +kernel
theorem d5_50 : decode prog_2_method_8_code 50 = .ok (.iastore, 1) := by decide +kernel
theorem d5_51 : decode prog_2_method_8_code 51 = .ok (.iinc 6 1, 3) := by decide +kernel
theorem d5_54 : decode prog_2_method_8_code 54 = .ok (.goto (-38), 3) := by decide +kernel
theorem d5_57 : decode prog_2_method_8_code 57 = .ok (.iload_n 3, 1) := by decide +kernel
theorem d5_58 : decode prog_2_method_8_code 58 = .ok (.ireturn, 1) := by decide +kernel
def rm_rights : Room := { frames := 0, cells := 0, slots := 0, locals := 0 }
theorem pf_rights : plainFor (⟨"com/example/gatewright/gatewright/NearestStatements", "rights", "([II)I"⟩ : MethodName) = true := plainFor_of_name (by first | (simp [plainName, overriddenIn]; done) | decide +kernel)
set_option maxRecDepth 65536 in
set_option maxHeartbeats 40000000 in
theorem ct_rights {l : Launch} {Z : State} {a0 : Array Value} (hw : ∀ d ∈ tables_1, d.before a0 Z = true) (h0 : Heap) (n0 : Nat) (b : Addr) (ia : Addr) (s0 : Nat) (pa : Addr) (N : Nat) (sh : Int32) (T : List Int64) (us0 : List Int32) (hz : n0 ≤ h0.size) (I : Inv N sh T) (hs0 : s0 ≤ 3) (hl3 : (rts T).length ≤ 3) (hul : us0.length = 8) (O_b : Obj Z h0 b "com/example/gatewright/gatewright/NearestStatements" [("slots", "[J", .ref pa), ("shift", "I", .int sh), ("size", "I", .int (Int32.ofNat (rts T).length))]) (O_pa : Ar Z h0 pa .long (T.map Value.long)) (O_ia : Ar Z h0 ia .int (us0.map Value.int)) (g_ia : n0 ≤ ia) (ne_b_ia : b ≠ ia) (ne_b_pa : b ≠ pa) (ne_pa_ia : pa ≠ ia) :
    Ct l Z (⟨"com/example/gatewright/gatewright/NearestStatements", "rights", "([II)I"⟩ : MethodName) prog_2_method_8_code 9 (Option.some Jvm.ClassFile.FieldType.int) [] rm_rights #[.ref b, .ref ia, .int (Int32.ofNat s0)] h0 n0 (fun v h => v = some (.int (Int32.ofNat (s0 + (rts T).length))) ∧ Ar Z h ia .int ((wr us0 s0 (rts T)).map Value.int) ∧ Keep h0 h [ia]) := by
  refine Ct.of (Ls := #[.val (.ref b), .val (.ref ia), .val (.int (Int32.ofNat s0)), .unset, .unset, .unset, .unset, .unset, .unset]) pf_rights (fun m => by first | (simp [entryFrame, mkF, argsToLocals, Value.category, maxLocals]; done) | rfl) ?_
  intro p e s m below meth c C
  have n16 : N ≤ 16 := I.sz.pos.2
  have L16 : ∀ (n ii cn : Nat) (us : List Int32) (y : Int64) (h : Heap), ii + n = N → cn = s0 + (rts (T.take ii)).length → us = wr us0 s0 (rts (T.take ii)) → us.length = 8 → n0 ≤ h.size → Obj Z h b "com/example/gatewright/gatewright/NearestStatements" [("slots", "[J", .ref pa), ("shift", "I", .int sh), ("size", "I", .int (Int32.ofNat (rts T).length))] → Ar Z h pa .long (T.map Value.long) → Ar Z h ia .int (us.map Value.int) → Keep h0 h [ia] → Wp p l e rm_rights s m #[.ref b, .ref ia, .int (Int32.ofNat s0)] below meth c n0 rm_rights.cells rm_rights.slots (fun v h => v = some (.int (Int32.ofNat (s0 + (rts T).length))) ∧ Ar Z h ia .int ((wr us0 s0 (rts T)).map Value.int) ∧ Keep h0 h [ia]) h 0 0 (mkF m 16 #[.val (.ref b), .val (.ref ia), .val (.int (Int32.ofNat s0)), .val (.int (Int32.ofNat cn)), .val (.ref pa), .val (.int (Int32.ofNat N)), .val (.int (Int32.ofNat ii)), .val (.long y), .second] []) := by
    intro n
    induction n using Nat.strongRecOn with
    | _ n ih =>
      intro ii cn us y h hin hcn hus hul hz O_b O_pa O_ia hk
      have iN0 : ii ≤ N := by omega
      have i16 : ii ≤ 16 := by omega
      refine w_iload (pc' := 18) C d5_16 rfl rfl ?_
      refine w_iload (pc' := 20) C d5_18 rfl rfl ?_
      refine w_icmp_ge (pcT := 57) (pcF := 23) C d5_20 (by decide) (by decide) rfl (fun q20_1 => ?_) (fun q20_1 => ?_)
      · skip
        have iN : ii = N := Nat.le_antisymm iN0 (Nat.le_of_not_lt (by rw [← lt_ix i16 n16]; exact q20_1))
        refine w_iloadN (pc' := 58) C d5_57 rfl rfl ?_
        refine w_retI C rfl d5_58 (by decide) (by decide) ?_
        have et : T.take ii = T := by rw [iN, ← I.len]; exact List.take_length
        rw [et] at hcn hus
        exact ⟨by rw [hcn], by rw [← hus]; exact O_ia, hk⟩
      · skip
        have il : ii < N := by rw [← lt_ix i16 n16]; exact q20_1
        refine w_aload (pc' := 25) C d5_23 rfl rfl rfl ?_
        refine w_iload (pc' := 27) C d5_25 rfl rfl ?_
        refine wA_laload (pc' := 28) (v := .long (tat T ii)) C d5_27 rfl O_pa (ix_nn (Nat.le_trans (Nat.le_of_lt il) n16)) (mapL_get (by rw [I.len]; exact il) (Nat.le_trans (Nat.le_of_lt il) n16)) ?_
        refine w_lstore (pc' := 30) (Ls' := #[.val (.ref b), .val (.ref ia), .val (.int (Int32.ofNat s0)), .val (.int (Int32.ofNat cn)), .val (.ref pa), .val (.int (Int32.ofNat N)), .val (.int (Int32.ofNat ii)), .val (.long (tat T ii)), .second]) C d5_28 rfl rfl ?_
        refine w_lload (pc' := 32) C d5_30 rfl rfl ?_
        refine w_lconst (pc' := 33) (x := (0 : Int64)) C d5_32 rfl rfl ?_
        refine w_lcmp (pc' := 34) C d5_33 rfl ?_
        refine w_if_eq (pcT := 51) (pcF := 37) C d5_34 (by decide) (by decide) rfl (fun q34_2 => ?_) (fun q34_2 => ?_)
        · skip
          refine w_iinc (pc' := 54) (Ls' := #[.val (.ref b), .val (.ref ia), .val (.int (Int32.ofNat s0)), .val (.int (Int32.ofNat cn)), .val (.ref pa), .val (.int (Int32.ofNat N)), .val (.int ((Int32.ofNat ii) + (1 : Int32))), .val (.long (tat T ii)), .second]) C d5_51 rfl rfl rfl ?_
          refine w_goto (pc' := 16) C d5_54 (by decide) (by decide) ?_
          rw [ofNat_succ ii]
          exact ih (n - 1) (by omega) (ii + 1) cn us (tat T ii) h (by omega) (tk_zero I il hcn hus (cmp0 q34_2)).1 (tk_zero I il hcn hus (cmp0 q34_2)).2 hul hz O_b O_pa O_ia hk
        · skip
          refine w_aloadN (pc' := 38) C d5_37 rfl rfl rfl ?_
          refine w_iloadN (pc' := 39) C d5_38 rfl rfl ?_
          refine w_iinc (pc' := 42) (Ls' := #[.val (.ref b), .val (.ref ia), .val (.int (Int32.ofNat s0)), .val (.int ((Int32.ofNat cn) + (1 : Int32))), .val (.ref pa), .val (.int (Int32.ofNat N)), .val (.int (Int32.ofNat ii)), .val (.long (tat T ii)), .second]) C d5_39 rfl rfl rfl ?_
          refine w_lload (pc' := 44) C d5_42 rfl rfl ?_
          refine w_bipush (pc' := 46) (x := (32 : Int32)) C d5_44 rfl rfl ?_
          refine w_lushr (pc' := 47) C d5_46 rfl ?_
          refine w_l2i (pc' := 48) C d5_47 rfl ?_
          refine w_iconst (pc' := 49) (x := (1 : Int32)) C d5_48 rfl rfl ?_
          refine w_isub (pc' := 50) C d5_49 rfl ?_
          have cb := cnb I il hs0 hl3 hcn (cmpn q34_2)
          have c16 : cn ≤ 16 := Nat.le_trans (Nat.le_of_lt cb) (by decide)
          refine wA_iastore (pc' := 51) C d5_50 rfl g_ia O_ia (ix_nn c16) (mapI_len (by rw [hul]; exact cb) c16) (fun h1 W1 A1 => ?_)
          have O_ia : Ar Z h1 ia .int ((us.set cn (rightOf (tat T ii))).map Value.int) := (arI_set c16 A1)
          have O_b := O_b.other W1 ne_b_ia
          have O_pa := O_pa.other W1 ne_pa_ia
          have hz : n0 ≤ h1.size := by rw [W1.size]; exact hz
          have hk := hk.wr W1 (Or.inl (by simp))
          refine w_iinc (pc' := 54) (Ls' := #[.val (.ref b), .val (.ref ia), .val (.int (Int32.ofNat s0)), .val (.int ((Int32.ofNat cn) + (1 : Int32))), .val (.ref pa), .val (.int (Int32.ofNat N)), .val (.int ((Int32.ofNat ii) + (1 : Int32))), .val (.long (tat T ii)), .second]) C d5_51 rfl rfl rfl ?_
          refine w_goto (pc' := 16) C d5_54 (by decide) (by decide) ?_
          rw [ofNat_succ cn, ofNat_succ ii]
          exact ih (n - 1) (by omega) (ii + 1) (cn + 1) (us.set cn (rightOf (tat T ii))) (tat T ii) h1 (by omega) (tk_ne I il hcn hus (cmpn q34_2)).1 (tk_ne I il hcn hus (cmpn q34_2)).2 ((List.length_set ..).trans hul) hz O_b O_pa O_ia hk
  have F16 : ∀ (ii cn : Nat) (us : List Int32) (h : Heap), ii = 0 → cn = s0 + (rts (T.take ii)).length → us = wr us0 s0 (rts (T.take ii)) → us.length = 8 → n0 ≤ h.size → Obj Z h b "com/example/gatewright/gatewright/NearestStatements" [("slots", "[J", .ref pa), ("shift", "I", .int sh), ("size", "I", .int (Int32.ofNat (rts T).length))] → Ar Z h pa .long (T.map Value.long) → Ar Z h ia .int (us.map Value.int) → Keep h0 h [ia] → Wp p l e rm_rights s m #[.ref b, .ref ia, .int (Int32.ofNat s0)] below meth c n0 rm_rights.cells rm_rights.slots (fun v h => v = some (.int (Int32.ofNat (s0 + (rts T).length))) ∧ Ar Z h ia .int ((wr us0 s0 (rts T)).map Value.int) ∧ Keep h0 h [ia]) h 0 0 (mkF m 16 #[.val (.ref b), .val (.ref ia), .val (.int (Int32.ofNat s0)), .val (.int (Int32.ofNat cn)), .val (.ref pa), .val (.int (Int32.ofNat N)), .val (.int (Int32.ofNat ii)), .unset, .unset] []) := by
    intro ii cn us h iz hcn hus hul hz O_b O_pa O_ia hk
    have i16 : ii ≤ 16 := by omega
    refine w_iload (pc' := 18) C d5_16 rfl rfl ?_
    refine w_iload (pc' := 20) C d5_18 rfl rfl ?_
    refine w_icmp_ge (pcT := 57) (pcF := 23) C d5_20 (by decide) (by decide) rfl (fun q20_3 => ?_) (fun q20_3 => ?_)
    · skip
      exact absurd (by rw [← iz]; exact q20_3) (pos0 I.sz)
    · skip
      have il : ii < N := by rw [← lt_ix i16 n16]; exact q20_3
      refine w_aload (pc' := 25) C d5_23 rfl rfl rfl ?_
      refine w_iload (pc' := 27) C d5_25 rfl rfl ?_
      refine wA_laload (pc' := 28) (v := .long (tat T ii)) C d5_27 rfl O_pa (ix_nn (Nat.le_trans (Nat.le_of_lt il) n16)) (mapL_get (by rw [I.len]; exact il) (Nat.le_trans (Nat.le_of_lt il) n16)) ?_
      refine w_lstore (pc' := 30) (Ls' := #[.val (.ref b), .val (.ref ia), .val (.int (Int32.ofNat s0)), .val (.int (Int32.ofNat cn)), .val (.ref pa), .val (.int (Int32.ofNat N)), .val (.int (Int32.ofNat ii)), .val (.long (tat T ii)), .second]) C d5_28 rfl rfl ?_
      refine w_lload (pc' := 32) C d5_30 rfl rfl ?_
      refine w_lconst (pc' := 33) (x := (0 : Int64)) C d5_32 rfl rfl ?_
      refine w_lcmp (pc' := 34) C d5_33 rfl ?_
      refine w_if_eq (pcT := 51) (pcF := 37) C d5_34 (by decide) (by decide) rfl (fun q34_4 => ?_) (fun q34_4 => ?_)
      · skip
        refine w_iinc (pc' := 54) (Ls' := #[.val (.ref b), .val (.ref ia), .val (.int (Int32.ofNat s0)), .val (.int (Int32.ofNat cn)), .val (.ref pa), .val (.int (Int32.ofNat N)), .val (.int ((Int32.ofNat ii) + (1 : Int32))), .val (.long (tat T ii)), .second]) C d5_51 rfl rfl rfl ?_
        refine w_goto (pc' := 16) C d5_54 (by decide) (by decide) ?_
        rw [ofNat_succ ii]
        exact L16 (N - 1) (ii + 1) cn us (tat T ii) h (by omega) (tk_zero I il hcn hus (cmp0 q34_4)).1 (tk_zero I il hcn hus (cmp0 q34_4)).2 hul hz O_b O_pa O_ia hk
      · skip
        refine w_aloadN (pc' := 38) C d5_37 rfl rfl rfl ?_
        refine w_iloadN (pc' := 39) C d5_38 rfl rfl ?_
        refine w_iinc (pc' := 42) (Ls' := #[.val (.ref b), .val (.ref ia), .val (.int (Int32.ofNat s0)), .val (.int ((Int32.ofNat cn) + (1 : Int32))), .val (.ref pa), .val (.int (Int32.ofNat N)), .val (.int (Int32.ofNat ii)), .val (.long (tat T ii)), .second]) C d5_39 rfl rfl rfl ?_
        refine w_lload (pc' := 44) C d5_42 rfl rfl ?_
        refine w_bipush (pc' := 46) (x := (32 : Int32)) C d5_44 rfl rfl ?_
        refine w_lushr (pc' := 47) C d5_46 rfl ?_
        refine w_l2i (pc' := 48) C d5_47 rfl ?_
        refine w_iconst (pc' := 49) (x := (1 : Int32)) C d5_48 rfl rfl ?_
        refine w_isub (pc' := 50) C d5_49 rfl ?_
        have cb := cnb I il hs0 hl3 hcn (cmpn q34_4)
        have c16 : cn ≤ 16 := Nat.le_trans (Nat.le_of_lt cb) (by decide)
        refine wA_iastore (pc' := 51) C d5_50 rfl g_ia O_ia (ix_nn c16) (mapI_len (by rw [hul]; exact cb) c16) (fun h2 W2 A2 => ?_)
        have O_ia : Ar Z h2 ia .int ((us.set cn (rightOf (tat T ii))).map Value.int) := (arI_set c16 A2)
        have O_b := O_b.other W2 ne_b_ia
        have O_pa := O_pa.other W2 ne_pa_ia
        have hz : n0 ≤ h2.size := by rw [W2.size]; exact hz
        have hk := hk.wr W2 (Or.inl (by simp))
        refine w_iinc (pc' := 54) (Ls' := #[.val (.ref b), .val (.ref ia), .val (.int (Int32.ofNat s0)), .val (.int ((Int32.ofNat cn) + (1 : Int32))), .val (.ref pa), .val (.int (Int32.ofNat N)), .val (.int ((Int32.ofNat ii) + (1 : Int32))), .val (.long (tat T ii)), .second]) C d5_51 rfl rfl rfl ?_
        refine w_goto (pc' := 16) C d5_54 (by decide) (by decide) ?_
        rw [ofNat_succ cn, ofNat_succ ii]
        exact L16 (N - 1) (ii + 1) (cn + 1) (us.set cn (rightOf (tat T ii))) (tat T ii) h2 (by omega) (tk_ne I il hcn hus (cmpn q34_4)).1 (tk_ne I il hcn hus (cmpn q34_4)).2 ((List.length_set ..).trans hul) hz O_b O_pa O_ia hk
  refine w_iloadN (pc' := 1) C d5_0 rfl rfl ?_
  refine w_istoreN (pc' := 2) (Ls' := #[.val (.ref b), .val (.ref ia), .val (.int (Int32.ofNat s0)), .val (.int (Int32.ofNat s0)), .unset, .unset, .unset, .unset, .unset]) C d5_1 rfl rfl ?_
  refine w_aloadN (pc' := 3) C d5_2 rfl rfl rfl ?_
  refine w_getF (pc' := 6) C (tw hw 16 rfl) d5_3 rfl (O_b.fld 0 rfl) ?_
  refine w_astore (pc' := 8) (Ls' := #[.val (.ref b), .val (.ref ia), .val (.int (Int32.ofNat s0)), .val (.int (Int32.ofNat s0)), .val (.ref pa), .unset, .unset, .unset, .unset]) C d5_6 rfl rfl rfl ?_
  refine w_aload (pc' := 10) C d5_8 rfl rfl rfl ?_
  refine wA_alen (pc' := 11) (n := (Int32.ofNat N)) C d5_10 rfl O_pa (len_L I.len) ?_
  refine w_istore (pc' := 13) (Ls' := #[.val (.ref b), .val (.ref ia), .val (.int (Int32.ofNat s0)), .val (.int (Int32.ofNat s0)), .val (.ref pa), .val (.int (Int32.ofNat N)), .unset, .unset, .unset]) C d5_11 rfl rfl ?_
  refine w_iconst (pc' := 14) (x := (0 : Int32)) C d5_13 rfl rfl ?_
  refine w_istore (pc' := 16) (Ls' := #[.val (.ref b), .val (.ref ia), .val (.int (Int32.ofNat s0)), .val (.int (Int32.ofNat s0)), .val (.ref pa), .val (.int (Int32.ofNat N)), .val (.int (0 : Int32)), .unset, .unset]) C d5_14 rfl rfl ?_
  exact F16 0 s0 us0 h0 rfl rfl rfl hul hz O_b O_pa O_ia (Keep.refl _ _)
def us8 : List Int32 := [7770, 7771, 7772, 7773, 7774, 7775, 7776, 7777]
def at8 (us : List Int32) (j : Int32) : Int32 := us.getD j.toNatClampNeg 0
theorem r8_get {us : List Int32} {j : Int32} (ul : us.length = 8) (h : 0 ≤ j.toInt ∧ j.toInt < 8) : (us.map Value.int)[j.toNatClampNeg]? = some (.int (at8 us j)) := by
  have hl : j.toNatClampNeg < us.length := by rw [ul]; show j.toInt.toNat < 8; omega
  rw [List.getElem?_map, at8, List.getD_eq_getElem?_getD]; simp [hl]
theorem r8_nn {j : Int32} (h : 0 ≤ j.toInt ∧ j.toInt < 8) : ¬ j < 0 := by rw [Int32.lt_iff_toInt_lt]; exact fun q => absurd q (by rw [show (0 : Int32).toInt = 0 from rfl]; omega)
theorem r4_8 {j : Int32} (h : 0 ≤ j.toInt ∧ j.toInt ≤ 3) : (0 ≤ j.toInt ∧ j.toInt < 8) ∧ (0 ≤ (j + (1 : Int32)).toInt ∧ (j + (1 : Int32)).toInt < 8) ∧ (0 ≤ (j + (2 : Int32)).toInt ∧ (j + (2 : Int32)).toInt < 8) := by
  have h1 := c_iadd j 1; have h2 := rng32 (j + 1); have h3 := c_iadd j 2; have h4 := rng32 (j + 2)
  have e1 : (1 : Int32).toInt = 1 := by decide
  have e2 : (2 : Int32).toInt = 2 := by decide
  rw [e1] at h1; rw [e2] at h3
  omega
theorem d10_0 : decode method_3_code 0 = .ok (.iload_n 2, 1) := by decide +kernel
theorem d10_1 : decode method_3_code 1 = .ok (.iconst 1, 1) := by decide +kernel
theorem d10_2 : decode method_3_code 2 = .ok (.if_icmp .lt 10, 3) := by decide +kernel
theorem d10_5 : decode method_3_code 5 = .ok (.aload_n 0, 1) := by decide +kernel
theorem d10_6 : decode method_3_code 6 = .ok (.iload_n 1, 1) := by decide +kernel
theorem d10_7 : decode method_3_code 7 = .ok (.iaload, 1) := by decide +kernel
theorem d10_8 : decode method_3_code 8 = .ok (.iload_n 3, 1) := by decide +kernel
theorem d10_9 : decode method_3_code 9 = .ok (.if_icmp .eq 31, 3) := by decide +kernel
theorem d10_12 : decode method_3_code 12 = .ok (.iload_n 2, 1) := by decide +kernel
theorem d10_13 : decode method_3_code 13 = .ok (.iconst 2, 1) := by decide +kernel
theorem d10_14 : decode method_3_code 14 = .ok (.if_icmp .lt 12, 3) := by decide +kernel
theorem d10_17 : decode method_3_code 17 = .ok (.aload_n 0, 1) := by decide +kernel
theorem d10_18 : decode method_3_code 18 = .ok (.iload_n 1, 1) := by decide +kernel
theorem d10_19 : decode method_3_code 19 = .ok (.iconst 1, 1) := by decide +kernel
theorem d10_20 : decode method_3_code 20 = .ok (.iadd, 1) := by decide +kernel
theorem d10_21 : decode method_3_code 21 = .ok (.iaload, 1) := by decide +kernel
theorem d10_22 : decode method_3_code 22 = .ok (.iload_n 3, 1) := by decide +kernel
theorem d10_23 : decode method_3_code 23 = .ok (.if_icmp .eq 17, 3) := by decide +kernel
theorem d10_26 : decode method_3_code 26 = .ok (.iload_n 2, 1) := by decide +kernel
theorem d10_27 : decode method_3_code 27 = .ok (.iconst 3, 1) := by decide +kernel
theorem d10_28 : decode method_3_code 28 = .ok (.if_icmp .lt 16, 3) := by decide +kernel
theorem d10_31 : decode method_3_code 31 = .ok (.aload_n 0, 1) := by decide +kernel
theorem d10_32 : decode method_3_code 32 = .ok (.iload_n 1, 1) := by decide +kernel
theorem d10_33 : decode method_3_code 33 = .ok (.iconst 2, 1) := by decide +kernel
theorem d10_34 : decode method_3_code 34 = .ok (.iadd, 1) := by decide +kernel
theorem d10_35 : decode method_3_code 35 = .ok (.iaload, 1) := by decide +kernel
theorem d10_36 : decode method_3_code 36 = .ok (.iload_n 3, 1) := by decide +kernel
theorem d10_37 : decode method_3_code 37 = .ok (.if_icmp .ne 7, 3) := by decide +kernel
theorem d10_40 : decode method_3_code 40 = .ok (.iconst 1, 1) := by decide +kernel
theorem d10_41 : decode method_3_code 41 = .ok (.goto 4, 3) := by decide +kernel
theorem d10_44 : decode method_3_code 44 = .ok (.iconst 0, 1) := by decide +kernel
theorem d10_45 : decode method_3_code 45 = .ok (.ireturn, 1) := by decide +kernel
def among_44 (sv : Int32) (kk : Int32) (vv : Int32) (us : List Int32) : Int32 := (0 : Int32)
def among_40 (sv : Int32) (kk : Int32) (vv : Int32) (us : List Int32) : Int32 := (1 : Int32)
def among_26 (sv : Int32) (kk : Int32) (vv : Int32) (us : List Int32) : Int32 := (if kk < (3 : Int32) then (among_44 sv kk vv us) else (if (at8 us (sv + (2 : Int32))) = vv then (among_40 sv kk vv us) else (among_44 sv kk vv us)))
def among_12 (sv : Int32) (kk : Int32) (vv : Int32) (us : List Int32) : Int32 := (if kk < (2 : Int32) then (among_26 sv kk vv us) else (if (at8 us (sv + (1 : Int32))) = vv then (among_40 sv kk vv us) else (among_26 sv kk vv us)))
def among (sv : Int32) (kk : Int32) (vv : Int32) (us : List Int32) : Int32 := (if kk < (1 : Int32) then (among_12 sv kk vv us) else (if (at8 us sv) = vv then (among_40 sv kk vv us) else (among_12 sv kk vv us)))
def rm_among : Room := { frames := 0, cells := 0, slots := 0, locals := 0 }
def Q_among (sv : Int32) (kk : Int32) (vv : Int32) (us : List Int32) (h0 : Heap) (v : Option Value) (h : Heap) : Prop := v = some (.int (among sv kk vv us)) ∧ h = h0
theorem pf_among : plainFor (⟨"com/example/gatewright/gatewright/NearestStatementsRightsPinLaw", "among", "([IIII)Z"⟩ : MethodName) = true := plainFor_of_name (by first | (simp [plainName, overriddenIn]; done) | decide +kernel)
set_option maxRecDepth 65536 in
set_option maxHeartbeats 40000000 in
theorem ct_among {l : Launch} {Z : State} {a0 : Array Value} (hw : ∀ d ∈ tables_1, d.before a0 Z = true) (h0 : Heap) (n0 : Nat) (ia : Addr) (sv : Int32) (kk : Int32) (vv : Int32) (us : List Int32) (ul : us.length = 8) (hs : 0 ≤ sv.toInt ∧ sv.toInt ≤ 3) (O_ia : Ar Z h0 ia .int (us.map Value.int)) :
    Ct l Z (⟨"com/example/gatewright/gatewright/NearestStatementsRightsPinLaw", "among", "([IIII)Z"⟩ : MethodName) method_3_code 4 (Option.some Jvm.ClassFile.FieldType.boolean) [] rm_among #[.ref ia, .int sv, .int kk, .int vv] h0 n0 (Q_among sv kk vv us h0) := by
  refine Ct.of (Ls := #[.val (.ref ia), .val (.int sv), .val (.int kk), .val (.int vv)]) pf_among (fun m => by first | (simp [entryFrame, mkF, argsToLocals, Value.category, maxLocals]; done) | rfl) ?_
  intro p e s m below meth c C
  have K44 : among sv kk vv us = among_44 sv kk vv us → Wp p l e rm_among s m #[.ref ia, .int sv, .int kk, .int vv] below meth c n0 rm_among.cells rm_among.slots (Q_among sv kk vv us h0) h0 0 0 (mkF m 44 #[.val (.ref ia), .val (.int sv), .val (.int kk), .val (.int vv)] []) := by
    intro hr
    change _ = (0 : Int32) at hr
    refine w_iconst (pc' := 45) (x := (0 : Int32)) C d10_44 rfl rfl ?_
    refine w_retN' (t := .boolean) (z' := (0 : Int32)) C rfl (by simp) d10_45 (by decide) (by decide) narB0 ?_
    exact And.intro (congrArg (fun z => some (Value.int z)) hr.symm) rfl
  have K40 : among sv kk vv us = among_40 sv kk vv us → Wp p l e rm_among s m #[.ref ia, .int sv, .int kk, .int vv] below meth c n0 rm_among.cells rm_among.slots (Q_among sv kk vv us h0) h0 0 0 (mkF m 40 #[.val (.ref ia), .val (.int sv), .val (.int kk), .val (.int vv)] []) := by
    intro hr
    change _ = (1 : Int32) at hr
    refine w_iconst (pc' := 41) (x := (1 : Int32)) C d10_40 rfl rfl ?_
    refine w_goto (pc' := 45) C d10_41 (by decide) (by decide) ?_
    refine w_retN' (t := .boolean) (z' := (1 : Int32)) C rfl (by simp) d10_45 (by decide) (by decide) narB1 ?_
    exact And.intro (congrArg (fun z => some (Value.int z)) hr.symm) rfl
  have K26 : among sv kk vv us = among_26 sv kk vv us → Wp p l e rm_among s m #[.ref ia, .int sv, .int kk, .int vv] below meth c n0 rm_among.cells rm_among.slots (Q_among sv kk vv us h0) h0 0 0 (mkF m 26 #[.val (.ref ia), .val (.int sv), .val (.int kk), .val (.int vv)] []) := by
    intro hr
    change _ = (if kk < (3 : Int32) then (among_44 sv kk vv us) else (if (at8 us (sv + (2 : Int32))) = vv then (among_40 sv kk vv us) else (among_44 sv kk vv us))) at hr
    refine w_iloadN (pc' := 27) C d10_26 rfl rfl ?_
    refine w_iconst (pc' := 28) (x := (3 : Int32)) C d10_27 rfl rfl ?_
    refine w_icmp_lt (pcT := 44) (pcF := 31) C d10_28 (by decide) (by decide) rfl (fun q28 => ?_) (fun q28 => ?_)
    · have hr := hr.trans (if_pos q28)
      exact K44 hr
    · have hr := hr.trans (if_neg q28)
      refine w_aloadN (pc' := 32) C d10_31 rfl rfl rfl ?_
      refine w_iloadN (pc' := 33) C d10_32 rfl rfl ?_
      refine w_iconst (pc' := 34) (x := (2 : Int32)) C d10_33 rfl rfl ?_
      refine w_iadd (pc' := 35) C d10_34 rfl ?_
      refine wA_iaload (pc' := 36) (v := .int (at8 us (sv + (2 : Int32)))) C d10_35 rfl O_ia (r8_nn (r4_8 hs).2.2) (r8_get ul (r4_8 hs).2.2) ?_
      refine w_iloadN (pc' := 37) C d10_36 rfl rfl ?_
      refine w_icmp_ne (pcT := 44) (pcF := 40) C d10_37 (by decide) (by decide) rfl (fun q37 => ?_) (fun q37 => ?_)
      · have hr := hr.trans (if_neg q37)
        exact K44 hr
      · have hr := hr.trans (if_pos q37)
        exact K40 hr
  have K12 : among sv kk vv us = among_12 sv kk vv us → Wp p l e rm_among s m #[.ref ia, .int sv, .int kk, .int vv] below meth c n0 rm_among.cells rm_among.slots (Q_among sv kk vv us h0) h0 0 0 (mkF m 12 #[.val (.ref ia), .val (.int sv), .val (.int kk), .val (.int vv)] []) := by
    intro hr
    change _ = (if kk < (2 : Int32) then (among_26 sv kk vv us) else (if (at8 us (sv + (1 : Int32))) = vv then (among_40 sv kk vv us) else (among_26 sv kk vv us))) at hr
    refine w_iloadN (pc' := 13) C d10_12 rfl rfl ?_
    refine w_iconst (pc' := 14) (x := (2 : Int32)) C d10_13 rfl rfl ?_
    refine w_icmp_lt (pcT := 26) (pcF := 17) C d10_14 (by decide) (by decide) rfl (fun q14 => ?_) (fun q14 => ?_)
    · have hr := hr.trans (if_pos q14)
      exact K26 hr
    · have hr := hr.trans (if_neg q14)
      refine w_aloadN (pc' := 18) C d10_17 rfl rfl rfl ?_
      refine w_iloadN (pc' := 19) C d10_18 rfl rfl ?_
      refine w_iconst (pc' := 20) (x := (1 : Int32)) C d10_19 rfl rfl ?_
      refine w_iadd (pc' := 21) C d10_20 rfl ?_
      refine wA_iaload (pc' := 22) (v := .int (at8 us (sv + (1 : Int32)))) C d10_21 rfl O_ia (r8_nn (r4_8 hs).2.1) (r8_get ul (r4_8 hs).2.1) ?_
      refine w_iloadN (pc' := 23) C d10_22 rfl rfl ?_
      refine w_icmp_eq (pcT := 40) (pcF := 26) C d10_23 (by decide) (by decide) rfl (fun q23 => ?_) (fun q23 => ?_)
      · have hr := hr.trans (if_pos q23)
        exact K40 hr
      · have hr := hr.trans (if_neg q23)
        exact K26 hr
  have hr : among sv kk vv us = (if kk < (1 : Int32) then (among_12 sv kk vv us) else (if (at8 us sv) = vv then (among_40 sv kk vv us) else (among_12 sv kk vv us))) := rfl
  refine w_iloadN (pc' := 1) C d10_0 rfl rfl ?_
  refine w_iconst (pc' := 2) (x := (1 : Int32)) C d10_1 rfl rfl ?_
  refine w_icmp_lt (pcT := 12) (pcF := 5) C d10_2 (by decide) (by decide) rfl (fun q2 => ?_) (fun q2 => ?_)
  · have hr := hr.trans (if_pos q2)
    exact K12 hr
  · have hr := hr.trans (if_neg q2)
    refine w_aloadN (pc' := 6) C d10_5 rfl rfl rfl ?_
    refine w_iloadN (pc' := 7) C d10_6 rfl rfl ?_
    refine wA_iaload (pc' := 8) (v := .int (at8 us sv)) C d10_7 rfl O_ia (r8_nn (r4_8 hs).1) (r8_get ul (r4_8 hs).1) ?_
    refine w_iloadN (pc' := 9) C d10_8 rfl rfl ?_
    refine w_icmp_eq (pcT := 40) (pcF := 12) C d10_9 (by decide) (by decide) rfl (fun q9 => ?_) (fun q9 => ?_)
    · have hr := hr.trans (if_pos q9)
      exact K40 hr
    · have hr := hr.trans (if_neg q9)
      exact K12 hr
theorem d6_0 : decode method_4_code 0 = .ok (.iload_n 3, 1) := by decide +kernel
theorem d6_1 : decode method_4_code 1 = .ok (.iload_n 1, 1) := by decide +kernel
theorem d6_2 : decode method_4_code 2 = .ok (.if_icmp .lt 10, 3) := by decide +kernel
theorem d6_5 : decode method_4_code 5 = .ok (.iload_n 3, 1) := by decide +kernel
theorem d6_6 : decode method_4_code 6 = .ok (.iload_n 1, 1) := by decide +kernel
theorem d6_7 : decode method_4_code 7 = .ok (.iload_n 2, 1) := by decide +kernel
theorem d6_8 : decode method_4_code 8 = .ok (.iadd, 1) := by decide +kernel
theorem d6_9 : decode method_4_code 9 = .ok (.if_icmp .lt 14, 3) := by decide +kernel
theorem d6_12 : decode method_4_code 12 = .ok (.aload_n 0, 1) := by decide +kernel
theorem d6_13 : decode method_4_code 13 = .ok (.iload_n 3, 1) := by decide +kernel
theorem d6_14 : decode method_4_code 14 = .ok (.iaload, 1) := by decide +kernel
theorem d6_15 : decode method_4_code 15 = .ok (.sipush 7770, 3) := by decide +kernel
theorem d6_18 : decode method_4_code 18 = .ok (.iload_n 3, 1) := by decide +kernel
theorem d6_19 : decode method_4_code 19 = .ok (.iadd, 1) := by decide +kernel
theorem d6_20 : decode method_4_code 20 = .ok (.if_icmp .ne 7, 3) := by decide +kernel
theorem d6_23 : decode method_4_code 23 = .ok (.iconst 1, 1) := by decide +kernel
theorem d6_24 : decode method_4_code 24 = .ok (.goto 4, 3) := by decide +kernel
theorem d6_27 : decode method_4_code 27 = .ok (.iconst 0, 1) := by decide +kernel
theorem d6_28 : decode method_4_code 28 = .ok (.ireturn, 1) := by decide +kernel
def kept_23 (sv : Int32) (kk : Int32) (jx : Int32) (us : List Int32) : Int32 := (1 : Int32)
def kept_12 (sv : Int32) (kk : Int32) (jx : Int32) (us : List Int32) : Int32 := (if (at8 us jx) = ((7770 : Int32) + jx) then (kept_23 sv kk jx us) else (0 : Int32))
def kept (sv : Int32) (kk : Int32) (jx : Int32) (us : List Int32) : Int32 := (if jx < sv then (kept_12 sv kk jx us) else (if jx < (sv + kk) then (kept_23 sv kk jx us) else (kept_12 sv kk jx us)))
def rm_kept : Room := { frames := 0, cells := 0, slots := 0, locals := 0 }
def Q_kept (sv : Int32) (kk : Int32) (jx : Int32) (us : List Int32) (h0 : Heap) (v : Option Value) (h : Heap) : Prop := v = some (.int (kept sv kk jx us)) ∧ h = h0
theorem pf_kept : plainFor (⟨"com/example/gatewright/gatewright/NearestStatementsRightsPinLaw", "kept", "([IIII)Z"⟩ : MethodName) = true := plainFor_of_name (by first | (simp [plainName, overriddenIn]; done) | decide +kernel)
set_option maxRecDepth 65536 in
set_option maxHeartbeats 40000000 in
theorem ct_kept {l : Launch} {Z : State} {a0 : Array Value} (hw : ∀ d ∈ tables_1, d.before a0 Z = true) (h0 : Heap) (n0 : Nat) (ia : Addr) (sv : Int32) (kk : Int32) (jx : Int32) (us : List Int32) (ul : us.length = 8) (hj : 0 ≤ jx.toInt ∧ jx.toInt < 8) (O_ia : Ar Z h0 ia .int (us.map Value.int)) :
    Ct l Z (⟨"com/example/gatewright/gatewright/NearestStatementsRightsPinLaw", "kept", "([IIII)Z"⟩ : MethodName) method_4_code 4 (Option.some Jvm.ClassFile.FieldType.boolean) [] rm_kept #[.ref ia, .int sv, .int kk, .int jx] h0 n0 (Q_kept sv kk jx us h0) := by
  refine Ct.of (Ls := #[.val (.ref ia), .val (.int sv), .val (.int kk), .val (.int jx)]) pf_kept (fun m => by first | (simp [entryFrame, mkF, argsToLocals, Value.category, maxLocals]; done) | rfl) ?_
  intro p e s m below meth c C
  have K23 : kept sv kk jx us = kept_23 sv kk jx us → Wp p l e rm_kept s m #[.ref ia, .int sv, .int kk, .int jx] below meth c n0 rm_kept.cells rm_kept.slots (Q_kept sv kk jx us h0) h0 0 0 (mkF m 23 #[.val (.ref ia), .val (.int sv), .val (.int kk), .val (.int jx)] []) := by
    intro hr
    change _ = (1 : Int32) at hr
    refine w_iconst (pc' := 24) (x := (1 : Int32)) C d6_23 rfl rfl ?_
    refine w_goto (pc' := 28) C d6_24 (by decide) (by decide) ?_
    refine w_retN' (t := .boolean) (z' := (1 : Int32)) C rfl (by simp) d6_28 (by decide) (by decide) narB1 ?_
    exact And.intro (congrArg (fun z => some (Value.int z)) hr.symm) rfl
  have K12 : kept sv kk jx us = kept_12 sv kk jx us → Wp p l e rm_kept s m #[.ref ia, .int sv, .int kk, .int jx] below meth c n0 rm_kept.cells rm_kept.slots (Q_kept sv kk jx us h0) h0 0 0 (mkF m 12 #[.val (.ref ia), .val (.int sv), .val (.int kk), .val (.int jx)] []) := by
    intro hr
    change _ = (if (at8 us jx) = ((7770 : Int32) + jx) then (kept_23 sv kk jx us) else (0 : Int32)) at hr
    refine w_aloadN (pc' := 13) C d6_12 rfl rfl rfl ?_
    refine w_iloadN (pc' := 14) C d6_13 rfl rfl ?_
    refine wA_iaload (pc' := 15) (v := .int (at8 us jx)) C d6_14 rfl O_ia (r8_nn hj) (r8_get ul hj) ?_
    refine w_sipush (pc' := 18) (x := (7770 : Int32)) C d6_15 rfl rfl ?_
    refine w_iloadN (pc' := 19) C d6_18 rfl rfl ?_
    refine w_iadd (pc' := 20) C d6_19 rfl ?_
    refine w_icmp_ne (pcT := 27) (pcF := 23) C d6_20 (by decide) (by decide) rfl (fun q20 => ?_) (fun q20 => ?_)
    · have hr := hr.trans (if_neg q20)
      refine w_iconst (pc' := 28) (x := (0 : Int32)) C d6_27 rfl rfl ?_
      refine w_retN' (t := .boolean) (z' := (0 : Int32)) C rfl (by simp) d6_28 (by decide) (by decide) narB0 ?_
      exact And.intro (congrArg (fun z => some (Value.int z)) hr.symm) rfl
    · have hr := hr.trans (if_pos q20)
      exact K23 hr
  have hr : kept sv kk jx us = (if jx < sv then (kept_12 sv kk jx us) else (if jx < (sv + kk) then (kept_23 sv kk jx us) else (kept_12 sv kk jx us))) := rfl
  refine w_iloadN (pc' := 1) C d6_0 rfl rfl ?_
  refine w_iloadN (pc' := 2) C d6_1 rfl rfl ?_
  refine w_icmp_lt (pcT := 12) (pcF := 5) C d6_2 (by decide) (by decide) rfl (fun q2 => ?_) (fun q2 => ?_)
  · have hr := hr.trans (if_pos q2)
    exact K12 hr
  · have hr := hr.trans (if_neg q2)
    refine w_iloadN (pc' := 6) C d6_5 rfl rfl ?_
    refine w_iloadN (pc' := 7) C d6_6 rfl rfl ?_
    refine w_iloadN (pc' := 8) C d6_7 rfl rfl ?_
    refine w_iadd (pc' := 9) C d6_8 rfl ?_
    refine w_icmp_lt (pcT := 23) (pcF := 12) C d6_9 (by decide) (by decide) rfl (fun q9 => ?_) (fun q9 => ?_)
    · have hr := hr.trans (if_pos q9)
      exact K23 hr
    · have hr := hr.trans (if_neg q9)
      exact K12 hr
theorem s0_q : ∀ k : Fin 4, 0 ≤ (Int32.ofNat k.1).toInt ∧ (Int32.ofNat k.1).toInt ≤ 3 := by decide
theorem s0_r {s0 : Nat} (h : s0 ≤ 3) : 0 ≤ (Int32.ofNat s0).toInt ∧ (Int32.ofNat s0).toInt ≤ 3 := s0_q ⟨s0, by omega⟩
theorem s4 (u : Int32) : ∃ s0, s0 ≤ 3 ∧ u &&& (3 : Int32) = Int32.ofNat s0 := by
  have h := c_mask u 3 2 (by decide) (by decide)
  obtain ⟨k, hk⟩ := small_int (n := 4) (x := u &&& 3) (by omega) (by omega)
  exact ⟨k.1, by omega, hk⟩
theorem n4 (u : Int32) : u &&& (3 : Int32) = 0 ∨ u &&& (3 : Int32) = 1 ∨ u &&& (3 : Int32) = 2 ∨ u &&& (3 : Int32) = 3 := by
  obtain ⟨k, h, e⟩ := s4 u
  rw [e]
  match k, h with
  | 0, _ => exact Or.inl rfl
  | 1, _ => exact Or.inr (Or.inl rfl)
  | 2, _ => exact Or.inr (Or.inr (Or.inl rfl))
  | 3, _ => exact Or.inr (Or.inr (Or.inr rfl))
theorem m7 (u : Int32) : 0 ≤ (u &&& (7 : Int32)).toInt ∧ (u &&& (7 : Int32)).toInt < 8 := by
  have h := c_mask u 7 3 (by decide) (by decide); omega
theorem r10m (u : Int32) : R10 (u &&& (1023 : Int32)) := by
  have h := c_mask u 1023 10 (by decide) (by decide); unfold R10; omega
theorem r10s (u : Int32) : R10 ((u.toUInt32 >>> ((22 : Int32) &&& 31).toUInt32).toInt32) := by
  have h := u.toUInt32.toNat_lt
  have e : ((u.toUInt32 >>> ((22 : Int32) &&& 31).toUInt32).toInt32) = Int32.ofNat (u.toUInt32.toNat / 2 ^ 22) := by
    apply bv32
    show (u.toUInt32 >>> ((22 : Int32) &&& 31).toUInt32).toBitVec = BitVec.ofNat 32 _
    apply BitVec.eq_of_toNat_eq
    rw [BitVec.toNat_ofNat, Nat.mod_eq_of_lt (by omega)]
    show (u.toUInt32 >>> ((22 : Int32) &&& 31).toUInt32).toNat = _
    rw [UInt32.toNat_shiftRight, Nat.shiftRight_eq_div_pow]; rfl
  rw [e]
  have : u.toUInt32.toNat / 2 ^ 22 < 1024 := by omega
  generalize u.toUInt32.toNat / 2 ^ 22 = k at *
  unfold R10
  rw [Int32.toInt_ofNat_of_lt (by omega)]
  omega
theorem gd0 {N : Nat} {sh : Int32} (S : Sz N sh) : Gd N 0 := by unfold Sz at S; unfold Gd; omega
theorem alen1 (a : Int32) : (adds a []).length ≤ 1 := (adds_len a []).1
theorem alen2 (a b : Int32) : (adds b (adds a [])).length ≤ 2 := Nat.le_trans (adds_len b _).1 (Nat.succ_le_succ (alen1 a))
theorem alen3 (a b d : Int32) : (adds d (adds b (adds a []))).length ≤ 3 := Nat.le_trans (adds_len d _).1 (Nat.succ_le_succ (alen2 a b))
def law0_463 (x0 : Int32) (x1 : Int32) (x2 : Int32) (x3 : Int32) (x4 : Int32) (x5 : Int32) (us : List Int32) (s0 : Nat) (rr : Int32) : Int32 := (0 : Int32)
def law0_353 (x0 : Int32) (x1 : Int32) (x2 : Int32) (x3 : Int32) (x4 : Int32) (x5 : Int32) (us : List Int32) (s0 : Nat) (rr : Int32) : Int32 := (if (kept (Int32.ofNat s0) (0 : Int32) (0 : Int32) us) = 0 then (law0_463 x0 x1 x2 x3 x4 x5 us s0 rr) else (if (kept (Int32.ofNat s0) (0 : Int32) (1 : Int32) us) = 0 then (law0_463 x0 x1 x2 x3 x4 x5 us s0 rr) else (if (kept (Int32.ofNat s0) (0 : Int32) (2 : Int32) us) = 0 then (law0_463 x0 x1 x2 x3 x4 x5 us s0 rr) else (if (kept (Int32.ofNat s0) (0 : Int32) (3 : Int32) us) = 0 then (law0_463 x0 x1 x2 x3 x4 x5 us s0 rr) else (if (kept (Int32.ofNat s0) (0 : Int32) (4 : Int32) us) = 0 then (law0_463 x0 x1 x2 x3 x4 x5 us s0 rr) else (if (kept (Int32.ofNat s0) (0 : Int32) (5 : Int32) us) = 0 then (law0_463 x0 x1 x2 x3 x4 x5 us s0 rr) else (if (kept (Int32.ofNat s0) (0 : Int32) (6 : Int32) us) = 0 then (law0_463 x0 x1 x2 x3 x4 x5 us s0 rr) else (if (kept (Int32.ofNat s0) (0 : Int32) (7 : Int32) us) = 0 then (law0_463 x0 x1 x2 x3 x4 x5 us s0 rr) else (1 : Int32)))))))))
def law0_333 (x0 : Int32) (x1 : Int32) (x2 : Int32) (x3 : Int32) (x4 : Int32) (x5 : Int32) (us : List Int32) (s0 : Nat) (rr : Int32) : Int32 := (law0_353 x0 x1 x2 x3 x4 x5 us s0 rr)
def law0_313 (x0 : Int32) (x1 : Int32) (x2 : Int32) (x3 : Int32) (x4 : Int32) (x5 : Int32) (us : List Int32) (s0 : Nat) (rr : Int32) : Int32 := (law0_333 x0 x1 x2 x3 x4 x5 us s0 rr)
def law0_278 (x0 : Int32) (x1 : Int32) (x2 : Int32) (x3 : Int32) (x4 : Int32) (x5 : Int32) (us : List Int32) (s0 : Nat) (rr : Int32) : Int32 := (if rr = ((Int32.ofNat s0) + (0 : Int32)) then (law0_313 x0 x1 x2 x3 x4 x5 us s0 rr) else (0 : Int32))
def law0_267 (x0 : Int32) (x1 : Int32) (x2 : Int32) (x3 : Int32) (x4 : Int32) (x5 : Int32) (us : List Int32) (s0 : Nat) (rr : Int32) : Int32 := (law0_278 x0 x1 x2 x3 x4 x5 us s0 rr)
def law0_257 (x0 : Int32) (x1 : Int32) (x2 : Int32) (x3 : Int32) (x4 : Int32) (x5 : Int32) (us : List Int32) (s0 : Nat) (rr : Int32) : Int32 := (law0_267 x0 x1 x2 x3 x4 x5 us s0 rr)
def law0_245 (x0 : Int32) (x1 : Int32) (x2 : Int32) (x3 : Int32) (x4 : Int32) (x5 : Int32) (us : List Int32) (s0 : Nat) (rr : Int32) : Int32 := (law0_257 x0 x1 x2 x3 x4 x5 us s0 rr)
def law0_244 (x0 : Int32) (x1 : Int32) (x2 : Int32) (x3 : Int32) (x4 : Int32) (x5 : Int32) (us : List Int32) (s0 : Nat) (rr : Int32) : Int32 := (law0_245 x0 x1 x2 x3 x4 x5 us s0 rr)
def law0_222 (x0 : Int32) (x1 : Int32) (x2 : Int32) (x3 : Int32) (x4 : Int32) (x5 : Int32) (us : List Int32) (s0 : Nat) (rr : Int32) : Int32 := (law0_244 x0 x1 x2 x3 x4 x5 us s0 rr)
def law0_221 (x0 : Int32) (x1 : Int32) (x2 : Int32) (x3 : Int32) (x4 : Int32) (x5 : Int32) (us : List Int32) (s0 : Nat) (rr : Int32) : Int32 := (law0_222 x0 x1 x2 x3 x4 x5 us s0 rr)
def law0_204 (x0 : Int32) (x1 : Int32) (x2 : Int32) (x3 : Int32) (x4 : Int32) (x5 : Int32) (us : List Int32) (s0 : Nat) (rr : Int32) : Int32 := (law0_221 x0 x1 x2 x3 x4 x5 us s0 rr)
def law0 (x0 : Int32) (x1 : Int32) (x2 : Int32) (x3 : Int32) (x4 : Int32) (x5 : Int32) (us : List Int32) (s0 : Nat) (rr : Int32) : Int32 := (law0_204 x0 x1 x2 x3 x4 x5 us s0 rr)
def law1_463 (x0 : Int32) (x1 : Int32) (x2 : Int32) (x3 : Int32) (x4 : Int32) (x5 : Int32) (us : List Int32) (s0 : Nat) (rr : Int32) : Int32 := (0 : Int32)
def law1_353 (x0 : Int32) (x1 : Int32) (x2 : Int32) (x3 : Int32) (x4 : Int32) (x5 : Int32) (us : List Int32) (s0 : Nat) (rr : Int32) : Int32 := (if (kept (Int32.ofNat s0) (1 : Int32) (0 : Int32) us) = 0 then (law1_463 x0 x1 x2 x3 x4 x5 us s0 rr) else (if (kept (Int32.ofNat s0) (1 : Int32) (1 : Int32) us) = 0 then (law1_463 x0 x1 x2 x3 x4 x5 us s0 rr) else (if (kept (Int32.ofNat s0) (1 : Int32) (2 : Int32) us) = 0 then (law1_463 x0 x1 x2 x3 x4 x5 us s0 rr) else (if (kept (Int32.ofNat s0) (1 : Int32) (3 : Int32) us) = 0 then (law1_463 x0 x1 x2 x3 x4 x5 us s0 rr) else (if (kept (Int32.ofNat s0) (1 : Int32) (4 : Int32) us) = 0 then (law1_463 x0 x1 x2 x3 x4 x5 us s0 rr) else (if (kept (Int32.ofNat s0) (1 : Int32) (5 : Int32) us) = 0 then (law1_463 x0 x1 x2 x3 x4 x5 us s0 rr) else (if (kept (Int32.ofNat s0) (1 : Int32) (6 : Int32) us) = 0 then (law1_463 x0 x1 x2 x3 x4 x5 us s0 rr) else (if (kept (Int32.ofNat s0) (1 : Int32) (7 : Int32) us) = 0 then (law1_463 x0 x1 x2 x3 x4 x5 us s0 rr) else (1 : Int32)))))))))
def law1_333 (x0 : Int32) (x1 : Int32) (x2 : Int32) (x3 : Int32) (x4 : Int32) (x5 : Int32) (us : List Int32) (s0 : Nat) (rr : Int32) : Int32 := (law1_353 x0 x1 x2 x3 x4 x5 us s0 rr)
def law1_313 (x0 : Int32) (x1 : Int32) (x2 : Int32) (x3 : Int32) (x4 : Int32) (x5 : Int32) (us : List Int32) (s0 : Nat) (rr : Int32) : Int32 := (law1_333 x0 x1 x2 x3 x4 x5 us s0 rr)
def law1_278 (x0 : Int32) (x1 : Int32) (x2 : Int32) (x3 : Int32) (x4 : Int32) (x5 : Int32) (us : List Int32) (s0 : Nat) (rr : Int32) : Int32 := (if rr = ((Int32.ofNat s0) + (1 : Int32)) then (if (among (Int32.ofNat s0) (1 : Int32) x1 us) = 0 then (0 : Int32) else (law1_313 x0 x1 x2 x3 x4 x5 us s0 rr)) else (0 : Int32))
def law1_267 (x0 : Int32) (x1 : Int32) (x2 : Int32) (x3 : Int32) (x4 : Int32) (x5 : Int32) (us : List Int32) (s0 : Nat) (rr : Int32) : Int32 := (law1_278 x0 x1 x2 x3 x4 x5 us s0 rr)
def law1_257 (x0 : Int32) (x1 : Int32) (x2 : Int32) (x3 : Int32) (x4 : Int32) (x5 : Int32) (us : List Int32) (s0 : Nat) (rr : Int32) : Int32 := (law1_267 x0 x1 x2 x3 x4 x5 us s0 rr)
def law1_245 (x0 : Int32) (x1 : Int32) (x2 : Int32) (x3 : Int32) (x4 : Int32) (x5 : Int32) (us : List Int32) (s0 : Nat) (rr : Int32) : Int32 := (law1_257 x0 x1 x2 x3 x4 x5 us s0 rr)
def law1_244 (x0 : Int32) (x1 : Int32) (x2 : Int32) (x3 : Int32) (x4 : Int32) (x5 : Int32) (us : List Int32) (s0 : Nat) (rr : Int32) : Int32 := (law1_245 x0 x1 x2 x3 x4 x5 us s0 rr)
def law1_222 (x0 : Int32) (x1 : Int32) (x2 : Int32) (x3 : Int32) (x4 : Int32) (x5 : Int32) (us : List Int32) (s0 : Nat) (rr : Int32) : Int32 := (law1_244 x0 x1 x2 x3 x4 x5 us s0 rr)
def law1_221 (x0 : Int32) (x1 : Int32) (x2 : Int32) (x3 : Int32) (x4 : Int32) (x5 : Int32) (us : List Int32) (s0 : Nat) (rr : Int32) : Int32 := (law1_222 x0 x1 x2 x3 x4 x5 us s0 rr)
def law1_204 (x0 : Int32) (x1 : Int32) (x2 : Int32) (x3 : Int32) (x4 : Int32) (x5 : Int32) (us : List Int32) (s0 : Nat) (rr : Int32) : Int32 := (law1_221 x0 x1 x2 x3 x4 x5 us s0 rr)
def law1 (x0 : Int32) (x1 : Int32) (x2 : Int32) (x3 : Int32) (x4 : Int32) (x5 : Int32) (us : List Int32) (s0 : Nat) (rr : Int32) : Int32 := (law1_204 x0 x1 x2 x3 x4 x5 us s0 rr)
def law2_463 (x0 : Int32) (x1 : Int32) (x2 : Int32) (x3 : Int32) (x4 : Int32) (x5 : Int32) (us : List Int32) (s0 : Nat) (rr : Int32) (t222_0 : Int32) (t267_0 : Int32) : Int32 := (0 : Int32)
def law2_353 (x0 : Int32) (x1 : Int32) (x2 : Int32) (x3 : Int32) (x4 : Int32) (x5 : Int32) (us : List Int32) (s0 : Nat) (rr : Int32) (t222_0 : Int32) (t267_0 : Int32) : Int32 := (if (kept (Int32.ofNat s0) (((1 : Int32) + t267_0) + (0 : Int32)) (0 : Int32) us) = 0 then (law2_463 x0 x1 x2 x3 x4 x5 us s0 rr t222_0 t267_0) else (if (kept (Int32.ofNat s0) (((1 : Int32) + t267_0) + (0 : Int32)) (1 : Int32) us) = 0 then (law2_463 x0 x1 x2 x3 x4 x5 us s0 rr t222_0 t267_0) else (if (kept (Int32.ofNat s0) (((1 : Int32) + t267_0) + (0 : Int32)) (2 : Int32) us) = 0 then (law2_463 x0 x1 x2 x3 x4 x5 us s0 rr t222_0 t267_0) else (if (kept (Int32.ofNat s0) (((1 : Int32) + t267_0) + (0 : Int32)) (3 : Int32) us) = 0 then (law2_463 x0 x1 x2 x3 x4 x5 us s0 rr t222_0 t267_0) else (if (kept (Int32.ofNat s0) (((1 : Int32) + t267_0) + (0 : Int32)) (4 : Int32) us) = 0 then (law2_463 x0 x1 x2 x3 x4 x5 us s0 rr t222_0 t267_0) else (if (kept (Int32.ofNat s0) (((1 : Int32) + t267_0) + (0 : Int32)) (5 : Int32) us) = 0 then (law2_463 x0 x1 x2 x3 x4 x5 us s0 rr t222_0 t267_0) else (if (kept (Int32.ofNat s0) (((1 : Int32) + t267_0) + (0 : Int32)) (6 : Int32) us) = 0 then (law2_463 x0 x1 x2 x3 x4 x5 us s0 rr t222_0 t267_0) else (if (kept (Int32.ofNat s0) (((1 : Int32) + t267_0) + (0 : Int32)) (7 : Int32) us) = 0 then (law2_463 x0 x1 x2 x3 x4 x5 us s0 rr t222_0 t267_0) else (1 : Int32)))))))))
def law2_333 (x0 : Int32) (x1 : Int32) (x2 : Int32) (x3 : Int32) (x4 : Int32) (x5 : Int32) (us : List Int32) (s0 : Nat) (rr : Int32) (t222_0 : Int32) (t267_0 : Int32) : Int32 := (law2_353 x0 x1 x2 x3 x4 x5 us s0 rr t222_0 t267_0)
def law2_313 (x0 : Int32) (x1 : Int32) (x2 : Int32) (x3 : Int32) (x4 : Int32) (x5 : Int32) (us : List Int32) (s0 : Nat) (rr : Int32) (t222_0 : Int32) (t267_0 : Int32) : Int32 := (if t222_0 = 0 then (law2_333 x0 x1 x2 x3 x4 x5 us s0 rr t222_0 t267_0) else (if (among (Int32.ofNat s0) (((1 : Int32) + t267_0) + (0 : Int32)) x2 us) = 0 then (0 : Int32) else (law2_333 x0 x1 x2 x3 x4 x5 us s0 rr t222_0 t267_0)))
def law2_278 (x0 : Int32) (x1 : Int32) (x2 : Int32) (x3 : Int32) (x4 : Int32) (x5 : Int32) (us : List Int32) (s0 : Nat) (rr : Int32) (t222_0 : Int32) (t267_0 : Int32) : Int32 := (if rr = ((Int32.ofNat s0) + (((1 : Int32) + t267_0) + (0 : Int32))) then (if (among (Int32.ofNat s0) (((1 : Int32) + t267_0) + (0 : Int32)) x1 us) = 0 then (0 : Int32) else (law2_313 x0 x1 x2 x3 x4 x5 us s0 rr t222_0 t267_0)) else (0 : Int32))
def law2_267 (x0 : Int32) (x1 : Int32) (x2 : Int32) (x3 : Int32) (x4 : Int32) (x5 : Int32) (us : List Int32) (s0 : Nat) (rr : Int32) (t267_0 : Int32) (t222_0 : Int32) : Int32 := (law2_278 x0 x1 x2 x3 x4 x5 us s0 rr t222_0 t267_0)
def law2_257 (x0 : Int32) (x1 : Int32) (x2 : Int32) (x3 : Int32) (x4 : Int32) (x5 : Int32) (us : List Int32) (s0 : Nat) (rr : Int32) (t222_0 : Int32) : Int32 := (if t222_0 = 0 then (law2_267 x0 x1 x2 x3 x4 x5 us s0 rr (0 : Int32) t222_0) else (law2_267 x0 x1 x2 x3 x4 x5 us s0 rr (1 : Int32) t222_0))
def law2_245 (x0 : Int32) (x1 : Int32) (x2 : Int32) (x3 : Int32) (x4 : Int32) (x5 : Int32) (us : List Int32) (s0 : Nat) (rr : Int32) (t222_0 : Int32) : Int32 := (law2_257 x0 x1 x2 x3 x4 x5 us s0 rr t222_0)
def law2_244 (x0 : Int32) (x1 : Int32) (x2 : Int32) (x3 : Int32) (x4 : Int32) (x5 : Int32) (us : List Int32) (s0 : Nat) (rr : Int32) (t222_0 : Int32) : Int32 := (law2_245 x0 x1 x2 x3 x4 x5 us s0 rr t222_0)
def law2_222 (x0 : Int32) (x1 : Int32) (x2 : Int32) (x3 : Int32) (x4 : Int32) (x5 : Int32) (us : List Int32) (s0 : Nat) (rr : Int32) (t222_0 : Int32) : Int32 := (law2_244 x0 x1 x2 x3 x4 x5 us s0 rr t222_0)
def law2_221 (x0 : Int32) (x1 : Int32) (x2 : Int32) (x3 : Int32) (x4 : Int32) (x5 : Int32) (us : List Int32) (s0 : Nat) (rr : Int32) : Int32 := (law2_222 x0 x1 x2 x3 x4 x5 us s0 rr (0 : Int32))
def law2_204 (x0 : Int32) (x1 : Int32) (x2 : Int32) (x3 : Int32) (x4 : Int32) (x5 : Int32) (us : List Int32) (s0 : Nat) (rr : Int32) : Int32 := (if x2 = x1 then (law2_221 x0 x1 x2 x3 x4 x5 us s0 rr) else (law2_222 x0 x1 x2 x3 x4 x5 us s0 rr (1 : Int32)))
def law2 (x0 : Int32) (x1 : Int32) (x2 : Int32) (x3 : Int32) (x4 : Int32) (x5 : Int32) (us : List Int32) (s0 : Nat) (rr : Int32) : Int32 := (law2_204 x0 x1 x2 x3 x4 x5 us s0 rr)
def law3_463 (x0 : Int32) (x1 : Int32) (x2 : Int32) (x3 : Int32) (x4 : Int32) (x5 : Int32) (us : List Int32) (s0 : Nat) (rr : Int32) (t222_0 : Int32) (t245_0 : Int32) (t267_0 : Int32) (t278_0 : Int32) : Int32 := (0 : Int32)
def law3_353 (x0 : Int32) (x1 : Int32) (x2 : Int32) (x3 : Int32) (x4 : Int32) (x5 : Int32) (us : List Int32) (s0 : Nat) (rr : Int32) (t222_0 : Int32) (t245_0 : Int32) (t267_0 : Int32) (t278_0 : Int32) : Int32 := (if (kept (Int32.ofNat s0) (((1 : Int32) + t267_0) + t278_0) (0 : Int32) us) = 0 then (law3_463 x0 x1 x2 x3 x4 x5 us s0 rr t222_0 t245_0 t267_0 t278_0) else (if (kept (Int32.ofNat s0) (((1 : Int32) + t267_0) + t278_0) (1 : Int32) us) = 0 then (law3_463 x0 x1 x2 x3 x4 x5 us s0 rr t222_0 t245_0 t267_0 t278_0) else (if (kept (Int32.ofNat s0) (((1 : Int32) + t267_0) + t278_0) (2 : Int32) us) = 0 then (law3_463 x0 x1 x2 x3 x4 x5 us s0 rr t222_0 t245_0 t267_0 t278_0) else (if (kept (Int32.ofNat s0) (((1 : Int32) + t267_0) + t278_0) (3 : Int32) us) = 0 then (law3_463 x0 x1 x2 x3 x4 x5 us s0 rr t222_0 t245_0 t267_0 t278_0) else (if (kept (Int32.ofNat s0) (((1 : Int32) + t267_0) + t278_0) (4 : Int32) us) = 0 then (law3_463 x0 x1 x2 x3 x4 x5 us s0 rr t222_0 t245_0 t267_0 t278_0) else (if (kept (Int32.ofNat s0) (((1 : Int32) + t267_0) + t278_0) (5 : Int32) us) = 0 then (law3_463 x0 x1 x2 x3 x4 x5 us s0 rr t222_0 t245_0 t267_0 t278_0) else (if (kept (Int32.ofNat s0) (((1 : Int32) + t267_0) + t278_0) (6 : Int32) us) = 0 then (law3_463 x0 x1 x2 x3 x4 x5 us s0 rr t222_0 t245_0 t267_0 t278_0) else (if (kept (Int32.ofNat s0) (((1 : Int32) + t267_0) + t278_0) (7 : Int32) us) = 0 then (law3_463 x0 x1 x2 x3 x4 x5 us s0 rr t222_0 t245_0 t267_0 t278_0) else (1 : Int32)))))))))
def law3_333 (x0 : Int32) (x1 : Int32) (x2 : Int32) (x3 : Int32) (x4 : Int32) (x5 : Int32) (us : List Int32) (s0 : Nat) (rr : Int32) (t222_0 : Int32) (t245_0 : Int32) (t267_0 : Int32) (t278_0 : Int32) : Int32 := (if t245_0 = 0 then (law3_353 x0 x1 x2 x3 x4 x5 us s0 rr t222_0 t245_0 t267_0 t278_0) else (if (among (Int32.ofNat s0) (((1 : Int32) + t267_0) + t278_0) x3 us) = 0 then (0 : Int32) else (law3_353 x0 x1 x2 x3 x4 x5 us s0 rr t222_0 t245_0 t267_0 t278_0)))
def law3_313 (x0 : Int32) (x1 : Int32) (x2 : Int32) (x3 : Int32) (x4 : Int32) (x5 : Int32) (us : List Int32) (s0 : Nat) (rr : Int32) (t222_0 : Int32) (t245_0 : Int32) (t267_0 : Int32) (t278_0 : Int32) : Int32 := (if t222_0 = 0 then (law3_333 x0 x1 x2 x3 x4 x5 us s0 rr t222_0 t245_0 t267_0 t278_0) else (if (among (Int32.ofNat s0) (((1 : Int32) + t267_0) + t278_0) x2 us) = 0 then (0 : Int32) else (law3_333 x0 x1 x2 x3 x4 x5 us s0 rr t222_0 t245_0 t267_0 t278_0)))
def law3_278 (x0 : Int32) (x1 : Int32) (x2 : Int32) (x3 : Int32) (x4 : Int32) (x5 : Int32) (us : List Int32) (s0 : Nat) (rr : Int32) (t278_0 : Int32) (t222_0 : Int32) (t245_0 : Int32) (t267_0 : Int32) : Int32 := (if rr = ((Int32.ofNat s0) + (((1 : Int32) + t267_0) + t278_0)) then (if (among (Int32.ofNat s0) (((1 : Int32) + t267_0) + t278_0) x1 us) = 0 then (0 : Int32) else (law3_313 x0 x1 x2 x3 x4 x5 us s0 rr t222_0 t245_0 t267_0 t278_0)) else (0 : Int32))
def law3_267 (x0 : Int32) (x1 : Int32) (x2 : Int32) (x3 : Int32) (x4 : Int32) (x5 : Int32) (us : List Int32) (s0 : Nat) (rr : Int32) (t267_0 : Int32) (t222_0 : Int32) (t245_0 : Int32) : Int32 := (if t245_0 = 0 then (law3_278 x0 x1 x2 x3 x4 x5 us s0 rr (0 : Int32) t222_0 t245_0 t267_0) else (law3_278 x0 x1 x2 x3 x4 x5 us s0 rr (1 : Int32) t222_0 t245_0 t267_0))
def law3_257 (x0 : Int32) (x1 : Int32) (x2 : Int32) (x3 : Int32) (x4 : Int32) (x5 : Int32) (us : List Int32) (s0 : Nat) (rr : Int32) (t222_0 : Int32) (t245_0 : Int32) : Int32 := (if t222_0 = 0 then (law3_267 x0 x1 x2 x3 x4 x5 us s0 rr (0 : Int32) t222_0 t245_0) else (law3_267 x0 x1 x2 x3 x4 x5 us s0 rr (1 : Int32) t222_0 t245_0))
def law3_245 (x0 : Int32) (x1 : Int32) (x2 : Int32) (x3 : Int32) (x4 : Int32) (x5 : Int32) (us : List Int32) (s0 : Nat) (rr : Int32) (t245_0 : Int32) (t222_0 : Int32) : Int32 := (law3_257 x0 x1 x2 x3 x4 x5 us s0 rr t222_0 t245_0)
def law3_244 (x0 : Int32) (x1 : Int32) (x2 : Int32) (x3 : Int32) (x4 : Int32) (x5 : Int32) (us : List Int32) (s0 : Nat) (rr : Int32) (t222_0 : Int32) : Int32 := (law3_245 x0 x1 x2 x3 x4 x5 us s0 rr (0 : Int32) t222_0)
def law3_222 (x0 : Int32) (x1 : Int32) (x2 : Int32) (x3 : Int32) (x4 : Int32) (x5 : Int32) (us : List Int32) (s0 : Nat) (rr : Int32) (t222_0 : Int32) : Int32 := (if x3 = x1 then (law3_244 x0 x1 x2 x3 x4 x5 us s0 rr t222_0) else (if x3 = x2 then (law3_244 x0 x1 x2 x3 x4 x5 us s0 rr t222_0) else (law3_245 x0 x1 x2 x3 x4 x5 us s0 rr (1 : Int32) t222_0)))
def law3_221 (x0 : Int32) (x1 : Int32) (x2 : Int32) (x3 : Int32) (x4 : Int32) (x5 : Int32) (us : List Int32) (s0 : Nat) (rr : Int32) : Int32 := (law3_222 x0 x1 x2 x3 x4 x5 us s0 rr (0 : Int32))
def law3_204 (x0 : Int32) (x1 : Int32) (x2 : Int32) (x3 : Int32) (x4 : Int32) (x5 : Int32) (us : List Int32) (s0 : Nat) (rr : Int32) : Int32 := (if x2 = x1 then (law3_221 x0 x1 x2 x3 x4 x5 us s0 rr) else (law3_222 x0 x1 x2 x3 x4 x5 us s0 rr (1 : Int32)))
def law3 (x0 : Int32) (x1 : Int32) (x2 : Int32) (x3 : Int32) (x4 : Int32) (x5 : Int32) (us : List Int32) (s0 : Nat) (rr : Int32) : Int32 := (law3_204 x0 x1 x2 x3 x4 x5 us s0 rr)
theorem wlist {xs : List Int32} (h : xs.length ≤ 3) : xs = [] ∨ (∃ y, xs = [y]) ∨ (∃ y z, xs = [y, z]) ∨ ∃ y z u, xs = [y, z, u] := by
  match xs, h with
  | [], _ => exact Or.inl rfl
  | [y], _ => exact Or.inr (Or.inl ⟨y, rfl⟩)
  | [y, z], _ => exact Or.inr (Or.inr (Or.inl ⟨y, z, rfl⟩))
  | [y, z, u], _ => exact Or.inr (Or.inr (Or.inr ⟨y, z, u, rfl⟩))
theorem w03 {s0 : Nat} (h : s0 ≤ 3) : s0 = 0 ∨ s0 = 1 ∨ s0 = 2 ∨ s0 = 3 := by omega
theorem kept_ok {s0 : Nat} {xs us : List Int32} {kk : Int32} (hs0 : s0 ≤ 3) (hl : xs.length ≤ 3) (hk : kk = Int32.ofNat xs.length) (eus : us = wr us8 s0 xs) :
    kept (Int32.ofNat s0) kk 0 us = 1 ∧ kept (Int32.ofNat s0) kk 1 us = 1 ∧ kept (Int32.ofNat s0) kk 2 us = 1 ∧ kept (Int32.ofNat s0) kk 3 us = 1 ∧ kept (Int32.ofNat s0) kk 4 us = 1 ∧ kept (Int32.ofNat s0) kk 5 us = 1 ∧ kept (Int32.ofNat s0) kk 6 us = 1 ∧ kept (Int32.ofNat s0) kk 7 us = 1 := by
  subst hk eus
  rcases wlist hl with rfl | ⟨y, rfl⟩ | ⟨y, z, rfl⟩ | ⟨y, z, u, rfl⟩ <;> rcases w03 hs0 with rfl | rfl | rfl | rfl <;> exact ⟨rfl, rfl, rfl, rfl, rfl, rfl, rfl, rfl⟩
theorem among_ok {s0 : Nat} {xs us : List Int32} {kk v : Int32} (hs0 : s0 ≤ 3) (hl : xs.length ≤ 3) (hk : kk = Int32.ofNat xs.length) (eus : us = wr us8 s0 xs) (hv : v ∈ xs) : among (Int32.ofNat s0) kk v us = 1 := by
  subst hk eus
  have n11 : ¬ Int32.ofNat 1 < 1 := by decide
  have n21 : ¬ Int32.ofNat 2 < 1 := by decide
  have n22 : ¬ Int32.ofNat 2 < 2 := by decide
  have n31 : ¬ Int32.ofNat 3 < 1 := by decide
  have n32 : ¬ Int32.ofNat 3 < 2 := by decide
  have n33 : ¬ Int32.ofNat 3 < 3 := by decide
  rcases wlist hl with rfl | ⟨y, rfl⟩ | ⟨y, z, rfl⟩ | ⟨y, z, u, rfl⟩
  · cases hv
  · have a0 : at8 (wr us8 s0 [y]) (Int32.ofNat s0) = y := by rcases w03 hs0 with rfl | rfl | rfl | rfl <;> rfl
    simp only [List.mem_singleton] at hv
    simp only [among, among_40, List.length_cons, List.length_nil, Nat.zero_add, n11, if_false, a0, hv, if_true]
  · have a0 : at8 (wr us8 s0 [y, z]) (Int32.ofNat s0) = y := by rcases w03 hs0 with rfl | rfl | rfl | rfl <;> rfl
    have a1 : at8 (wr us8 s0 [y, z]) (Int32.ofNat s0 + 1) = z := by rcases w03 hs0 with rfl | rfl | rfl | rfl <;> rfl
    simp only [List.mem_cons, List.not_mem_nil, or_false] at hv
    simp only [among, among_12, among_40, List.length_cons, List.length_nil, Nat.zero_add, Nat.reduceAdd, n21, n22, if_false, a0, a1]
    rcases hv with rfl | rfl
    · rw [if_pos rfl]
    · split
      · rfl
      · rw [if_pos rfl]
  · have a0 : at8 (wr us8 s0 [y, z, u]) (Int32.ofNat s0) = y := by rcases w03 hs0 with rfl | rfl | rfl | rfl <;> rfl
    have a1 : at8 (wr us8 s0 [y, z, u]) (Int32.ofNat s0 + 1) = z := by rcases w03 hs0 with rfl | rfl | rfl | rfl <;> rfl
    have a2 : at8 (wr us8 s0 [y, z, u]) (Int32.ofNat s0 + 2) = u := by rcases w03 hs0 with rfl | rfl | rfl | rfl <;> rfl
    simp only [List.mem_cons, List.not_mem_nil, or_false] at hv
    simp only [among, among_12, among_26, among_40, List.length_cons, List.length_nil, Nat.zero_add, Nat.reduceAdd, n31, n32, n33, if_false, a0, a1, a2]
    rcases hv with rfl | rfl | rfl
    · rw [if_pos rfl]
    · split
      · rfl
      · rw [if_pos rfl]
    · split
      · rfl
      · split
        · rfl
        · rw [if_pos rfl]
theorem rr_ok {s0 n : Nat} {rr kk : Int32} (er : rr = Int32.ofNat (s0 + n)) (hk : kk = Int32.ofNat n) : rr = Int32.ofNat s0 + kk := by rw [er, hk, Int32.ofNat_add]
theorem ONE0 {x0 x4 x5 : Int32} (x1 x2 x3 : Int32) {us : List Int32} {s0 : Nat} {rr : Int32} {xs : List Int32} (hs0 : s0 ≤ 3) (pm : xs.Perm []) (eus : us = wr us8 s0 xs) (er : rr = Int32.ofNat (s0 + xs.length)) : law0 x0 x1 x2 x3 x4 x5 us s0 rr = 1 := by
  have hn10 : ¬ (1 : Int32) = 0 := by decide
  have hl : xs.length = 0 := pm.length_eq
  have hk : (0 : Int32) = Int32.ofNat xs.length := by rw [hl]; rfl
  have hl3 : xs.length ≤ 3 := by omega
  have er' := rr_ok er hk
  obtain ⟨k0, k1, k2, k3, k4, k5, k6, k7⟩ := kept_ok hs0 hl3 hk eus
  simp only [law0, law0_204, law0_221, law0_222, law0_244, law0_245, law0_257, law0_267, law0_278, law0_313, law0_333, law0_353, law0_463, hn10, hn10, Int32.reduceAdd, k0, k1, k2, k3, k4, k5, k6, k7, er', if_true, if_false]
theorem ONE1 {x0 x4 x5 : Int32} (x1 x2 x3 : Int32) {us : List Int32} {s0 : Nat} {rr : Int32} {xs : List Int32} (hs0 : s0 ≤ 3) (pm : xs.Perm (adds x1 [])) (eus : us = wr us8 s0 xs) (er : rr = Int32.ofNat (s0 + xs.length)) : law1 x0 x1 x2 x3 x4 x5 us s0 rr = 1 := by
  have hn10 : ¬ (1 : Int32) = 0 := by decide
  have pm : xs.Perm [x1] := pm
  have hl : xs.length = 1 := pm.length_eq
  have hk : (1 : Int32) = Int32.ofNat xs.length := by rw [hl]; rfl
  have hl3 : xs.length ≤ 3 := by omega
  have er' := rr_ok er hk
  obtain ⟨k0, k1, k2, k3, k4, k5, k6, k7⟩ := kept_ok hs0 hl3 hk eus
  have mx1 := among_ok hs0 hl3 hk eus (v := x1) (pm.mem_iff.mpr (by simp))
  simp only [law1, law1_204, law1_221, law1_222, law1_244, law1_245, law1_257, law1_267, law1_278, law1_313, law1_333, law1_353, law1_463, hn10, hn10, Int32.reduceAdd, k0, k1, k2, k3, k4, k5, k6, k7, er', if_true, if_false, mx1]
theorem ONE2 {x0 x4 x5 : Int32} (x1 x2 x3 : Int32) {us : List Int32} {s0 : Nat} {rr : Int32} {xs : List Int32} (hs0 : s0 ≤ 3) (pm : xs.Perm (adds x2 (adds x1 []))) (eus : us = wr us8 s0 xs) (er : rr = Int32.ofNat (s0 + xs.length)) : law2 x0 x1 x2 x3 x4 x5 us s0 rr = 1 := by
  have hn10 : ¬ (1 : Int32) = 0 := by decide
  by_cases h21 : x2 = x1
  · subst h21
    have pm : xs.Perm [x2] := by simpa [adds] using pm
    have hl : xs.length = 1 := pm.length_eq
    have hk : (1 : Int32) = Int32.ofNat xs.length := by rw [hl]; rfl
    have hl3 : xs.length ≤ 3 := by omega
    have er' := rr_ok er hk
    obtain ⟨k0, k1, k2, k3, k4, k5, k6, k7⟩ := kept_ok hs0 hl3 hk eus
    have mx2 := among_ok hs0 hl3 hk eus (v := x2) (pm.mem_iff.mpr (by simp))
    simp only [law2, law2_204, law2_221, law2_222, law2_244, law2_245, law2_257, law2_267, law2_278, law2_313, law2_333, law2_353, law2_463, hn10, hn10, Int32.reduceAdd, k0, k1, k2, k3, k4, k5, k6, k7, er', if_true, if_false, mx2]
  · have pm : xs.Perm [x2, x1] := by simpa [adds, h21] using pm
    have hl : xs.length = 2 := pm.length_eq
    have hk : (2 : Int32) = Int32.ofNat xs.length := by rw [hl]; rfl
    have hl3 : xs.length ≤ 3 := by omega
    have er' := rr_ok er hk
    obtain ⟨k0, k1, k2, k3, k4, k5, k6, k7⟩ := kept_ok hs0 hl3 hk eus
    have mx1 := among_ok hs0 hl3 hk eus (v := x1) (pm.mem_iff.mpr (by simp))
    have mx2 := among_ok hs0 hl3 hk eus (v := x2) (pm.mem_iff.mpr (by simp))
    simp only [law2, law2_204, law2_221, law2_222, law2_244, law2_245, law2_257, law2_267, law2_278, law2_313, law2_333, law2_353, law2_463, h21, hn10, Int32.reduceAdd, k0, k1, k2, k3, k4, k5, k6, k7, er', if_true, if_false, mx1, mx2]
theorem ONE3 {x0 x4 x5 : Int32} (x1 x2 x3 : Int32) {us : List Int32} {s0 : Nat} {rr : Int32} {xs : List Int32} (hs0 : s0 ≤ 3) (pm : xs.Perm (adds x3 (adds x2 (adds x1 [])))) (eus : us = wr us8 s0 xs) (er : rr = Int32.ofNat (s0 + xs.length)) : law3 x0 x1 x2 x3 x4 x5 us s0 rr = 1 := by
  have hn10 : ¬ (1 : Int32) = 0 := by decide
  by_cases h21 : x2 = x1
  · subst h21
    by_cases h31 : x3 = x2
    · subst h31
      have pm : xs.Perm [x3] := by simpa [adds] using pm
      have hl : xs.length = 1 := pm.length_eq
      have hk : (1 : Int32) = Int32.ofNat xs.length := by rw [hl]; rfl
      have hl3 : xs.length ≤ 3 := by omega
      have er' := rr_ok er hk
      obtain ⟨k0, k1, k2, k3, k4, k5, k6, k7⟩ := kept_ok hs0 hl3 hk eus
      have mx3 := among_ok hs0 hl3 hk eus (v := x3) (pm.mem_iff.mpr (by simp))
      simp only [law3, law3_204, law3_221, law3_222, law3_244, law3_245, law3_257, law3_267, law3_278, law3_313, law3_333, law3_353, law3_463, hn10, hn10, Int32.reduceAdd, k0, k1, k2, k3, k4, k5, k6, k7, er', if_true, if_false, mx3]
    · have pm : xs.Perm [x3, x2] := by simpa [adds, h31] using pm
      have hl : xs.length = 2 := pm.length_eq
      have hk : (2 : Int32) = Int32.ofNat xs.length := by rw [hl]; rfl
      have hl3 : xs.length ≤ 3 := by omega
      have er' := rr_ok er hk
      obtain ⟨k0, k1, k2, k3, k4, k5, k6, k7⟩ := kept_ok hs0 hl3 hk eus
      have mx2 := among_ok hs0 hl3 hk eus (v := x2) (pm.mem_iff.mpr (by simp))
      have mx3 := among_ok hs0 hl3 hk eus (v := x3) (pm.mem_iff.mpr (by simp))
      simp only [law3, law3_204, law3_221, law3_222, law3_244, law3_245, law3_257, law3_267, law3_278, law3_313, law3_333, law3_353, law3_463, h31, hn10, Int32.reduceAdd, k0, k1, k2, k3, k4, k5, k6, k7, er', if_true, if_false, mx2, mx3]
  · by_cases h31 : x3 = x1
    · subst h31
      have pm : xs.Perm [x2, x3] := by simpa [adds, h21] using pm
      have hl : xs.length = 2 := pm.length_eq
      have hk : (2 : Int32) = Int32.ofNat xs.length := by rw [hl]; rfl
      have hl3 : xs.length ≤ 3 := by omega
      have er' := rr_ok er hk
      obtain ⟨k0, k1, k2, k3, k4, k5, k6, k7⟩ := kept_ok hs0 hl3 hk eus
      have mx2 := among_ok hs0 hl3 hk eus (v := x2) (pm.mem_iff.mpr (by simp))
      have mx3 := among_ok hs0 hl3 hk eus (v := x3) (pm.mem_iff.mpr (by simp))
      simp only [law3, law3_204, law3_221, law3_222, law3_244, law3_245, law3_257, law3_267, law3_278, law3_313, law3_333, law3_353, law3_463, h21, hn10, Int32.reduceAdd, k0, k1, k2, k3, k4, k5, k6, k7, er', if_true, if_false, mx2, mx3]
    · by_cases h32 : x3 = x2
      · subst h32
        have pm : xs.Perm [x3, x1] := by simpa [adds, h21, h31] using pm
        have hl : xs.length = 2 := pm.length_eq
        have hk : (2 : Int32) = Int32.ofNat xs.length := by rw [hl]; rfl
        have hl3 : xs.length ≤ 3 := by omega
        have er' := rr_ok er hk
        obtain ⟨k0, k1, k2, k3, k4, k5, k6, k7⟩ := kept_ok hs0 hl3 hk eus
        have mx1 := among_ok hs0 hl3 hk eus (v := x1) (pm.mem_iff.mpr (by simp))
        have mx3 := among_ok hs0 hl3 hk eus (v := x3) (pm.mem_iff.mpr (by simp))
        simp only [law3, law3_204, law3_221, law3_222, law3_244, law3_245, law3_257, law3_267, law3_278, law3_313, law3_333, law3_353, law3_463, h21, h31, hn10, Int32.reduceAdd, k0, k1, k2, k3, k4, k5, k6, k7, er', if_true, if_false, mx1, mx3]
      · have pm : xs.Perm [x3, x2, x1] := by simpa [adds, h21, h31, h32] using pm
        have hl : xs.length = 3 := pm.length_eq
        have hk : (3 : Int32) = Int32.ofNat xs.length := by rw [hl]; rfl
        have hl3 : xs.length ≤ 3 := by omega
        have er' := rr_ok er hk
        obtain ⟨k0, k1, k2, k3, k4, k5, k6, k7⟩ := kept_ok hs0 hl3 hk eus
        have mx1 := among_ok hs0 hl3 hk eus (v := x1) (pm.mem_iff.mpr (by simp))
        have mx2 := among_ok hs0 hl3 hk eus (v := x2) (pm.mem_iff.mpr (by simp))
        have mx3 := among_ok hs0 hl3 hk eus (v := x3) (pm.mem_iff.mpr (by simp))
        simp only [law3, law3_204, law3_221, law3_222, law3_244, law3_245, law3_257, law3_267, law3_278, law3_313, law3_333, law3_353, law3_463, h21, h31, h32, hn10, Int32.reduceAdd, k0, k1, k2, k3, k4, k5, k6, k7, er', if_true, if_false, mx1, mx2, mx3]
theorem pf_law : plainFor (⟨"com/example/gatewright/gatewright/NearestStatementsRightsPinLaw", "law", "(IIIIII)Z"⟩ : MethodName) = true := plainFor_of_name (by first | (simp [plainName, overriddenIn]; done) | decide +kernel)
set_option maxRecDepth 65536 in
set_option maxHeartbeats 40000000 in
theorem ct_law {l : Launch} {Z : State} {a0 : Array Value} (hw : ∀ d ∈ tables_1, d.before a0 Z = true) (ws : List Jvm.Cond) (h0 : Heap) (n0 : Nat) (x0 : Int32) (x1 : Int32) (x2 : Int32) (x3 : Int32) (x4 : Int32) (x5 : Int32) (hz : n0 ≤ h0.size) :
    Ct l Z x code maxLocals ret ws room_1 #[.int x0, .int x1, .int x2, .int x3, .int x4, .int x5] h0 n0 (fun v h => v = some (.int 1)) := by
  refine Ct.of (Ls := #[.val (.int x0), .val (.int x1), .val (.int x2), .val (.int x3), .val (.int x4), .val (.int x5), .unset, .unset, .unset, .unset, .unset, .unset, .unset, .unset, .unset]) pf_law (fun m => by first | (simp [entryFrame, mkF, argsToLocals, Value.category, maxLocals]; done) | rfl) ?_
  intro p e s m below meth c C
  have hk : Keep h0 h0 [] := Keep.refl _ _
  refine w_iload (pc' := 2) C at_0 rfl rfl ?_
  refine w_iconst (pc' := 3) (x := (3 : Int32)) C at_2 rfl rfl ?_
  refine w_iand (pc' := 4) C at_3 rfl ?_
  rcases n4 x4 with e4 | e4 | e4 | e4
  · refine w_eqI e4 ?_
    refine w_istore (pc' := 6) (Ls' := #[.val (.int x0), .val (.int x1), .val (.int x2), .val (.int x3), .val (.int x4), .val (.int x5), .val (.int (0 : Int32)), .unset, .unset, .unset, .unset, .unset, .unset, .unset, .unset]) C at_4 rfl rfl ?_
    refine w_iload (pc' := 8) C at_6 rfl rfl ?_
    refine w_iconst (pc' := 9) (x := (1 : Int32)) C at_8 rfl rfl ?_
    refine w_icmp_lt (pcT := 17) (pcF := 12) C at_9 (by decide) (by decide) rfl (fun q9 => ?_) (fun q => absurd q (by decide))
    refine w_iload (pc' := 19) C at_17 rfl rfl ?_
    refine w_iconst (pc' := 20) (x := (2 : Int32)) C at_19 rfl rfl ?_
    refine w_icmp_lt (pcT := 28) (pcF := 23) C at_20 (by decide) (by decide) rfl (fun q20 => ?_) (fun q => absurd q (by decide))
    refine w_iload (pc' := 30) C at_28 rfl rfl ?_
    refine w_iconst (pc' := 31) (x := (3 : Int32)) C at_30 rfl rfl ?_
    refine w_icmp_lt (pcT := 41) (pcF := 34) C at_31 (by decide) (by decide) rfl (fun q31 => ?_) (fun q => absurd q (by decide))
    refine w_iload (pc' := 43) C at_41 rfl rfl ?_
    refine w_iconst (pc' := 44) (x := (3 : Int32)) C at_43 rfl rfl ?_
    refine w_iand (pc' := 45) C at_44 rfl ?_
    obtain ⟨s0, hs0, e5⟩ := s4 x5
    refine w_eqI e5 ?_
    refine w_istore (pc' := 47) (Ls' := #[.val (.int x0), .val (.int x1), .val (.int x2), .val (.int x3), .val (.int x4), .val (.int x5), .val (.int (0 : Int32)), .val (.int (Int32.ofNat s0)), .unset, .unset, .unset, .unset, .unset, .unset, .unset]) C at_45 rfl rfl ?_
    refine w_new (pc' := 50) (ce' := 1) (sl' := 3) C (tw hw 0 rfl) (tw hw 1 rfl) (tw hw 2 rfl) at_47 rfl rfl rfl (by decide) (by decide) (fun h1 a1 e1 E1 A1 D1 => ?_)
    have g_a1 : n0 ≤ a1 := by rw [e1]; exact hz
    have fr_a1 : h0.size ≤ a1 := by rw [e1]; exact hk.1
    have hz : n0 ≤ h1.size := Nat.le_trans hz E1.1
    have hk := hk.ext E1
    have O_a1 : Obj Z h1 a1 "com/example/gatewright/gatewright/NearestStatements" [("slots", "[J", .null), ("shift", "I", .int (0 : Int32)), ("size", "I", .int (0 : Int32))] := obj_Nst hw A1 D1
    refine w_dup (pc' := 51) C at_50 rfl rfl ?_
    refine w_iloadN (pc' := 52) C at_51 rfl rfl ?_
    refine w_bipush (pc' := 54) (x := (7 : Int32)) C at_52 rfl rfl ?_
    refine w_iand (pc' := 55) C at_54 rfl ?_
    refine w_callI (pc' := 58) (argsL := [.int (x0 &&& (7 : Int32))]) (st := [.ref a1]) (W := 1) (ce' := 2) (sl' := 19) C rfl (tw hw 3 rfl) (tw hw 4 rfl) (tw hw 2 rfl) (tw hw 5 rfl) (by decide) at_55 rfl rfl (by decide) (by decide) (Nat.le_of_eq rfl) rfl rfl (by decide) (by decide) rfl (lenOf pd_1 rfl) (ct_init hw h1 n0 a1 (x0 &&& (7 : Int32)) hz (m7 _) O_a1 g_a1) (k0 (fun h2 q2 => ?_))
    obtain ⟨c2, N2, sh2, S2, P2, R2, fb_c2, K2⟩ := q2
    have g_c2 : n0 ≤ c2 := Nat.le_trans hz fb_c2
    have fr_c2 : h0.size ≤ c2 := Nat.le_trans hk.1 fb_c2
    have ne_a1_c2 : a1 ≠ c2 := Nat.ne_of_lt (Nat.lt_of_lt_of_le O_a1.lt fb_c2)
    have hz : n0 ≤ h2.size := Nat.le_trans hz K2.1
    have hk := Keep.app hk K2 (fun x hx => Or.inl hx) (allS (Or.inr fr_a1) all0)
    have O_a1 : Obj Z h2 a1 "com/example/gatewright/gatewright/NearestStatements" [("slots", "[J", .ref c2), ("shift", "I", .int sh2), ("size", "I", .int (Int32.ofNat (rts (List.replicate N2 (0 : Int64))).length))] := by rw [rts_rep]; exact P2
    have O_c2 := R2
    have G2 : Gd N2 (rts (List.replicate N2 (0 : Int64))).length := by rw [rts_rep]; exact gd0 S2
    have Pm2 : (rts (List.replicate N2 (0 : Int64))).Perm [] := by rw [rts_rep]
    refine w_astore (pc' := 60) (Ls' := #[.val (.int x0), .val (.int x1), .val (.int x2), .val (.int x3), .val (.int x4), .val (.int x5), .val (.int (0 : Int32)), .val (.int (Int32.ofNat s0)), .val (.ref a1), .unset, .unset, .unset, .unset, .unset, .unset]) C at_58 rfl rfl rfl ?_
    refine w_iload (pc' := 62) C at_60 rfl rfl ?_
    refine w_iconst (pc' := 63) (x := (1 : Int32)) C at_62 rfl rfl ?_
    refine w_icmp_lt (pcT := 80) (pcF := 66) C at_63 (by decide) (by decide) rfl (fun q63 => ?_) (fun q => absurd q (by decide))
    refine w_iload (pc' := 82) C at_80 rfl rfl ?_
    refine w_iconst (pc' := 83) (x := (2 : Int32)) C at_82 rfl rfl ?_
    refine w_icmp_lt (pcT := 101) (pcF := 86) C at_83 (by decide) (by decide) rfl (fun q83 => ?_) (fun q => absurd q (by decide))
    refine w_iload (pc' := 103) C at_101 rfl rfl ?_
    refine w_iconst (pc' := 104) (x := (3 : Int32)) C at_103 rfl rfl ?_
    refine w_icmp_lt (pcT := 118) (pcF := 107) C at_104 (by decide) (by decide) rfl (fun q104 => ?_) (fun q => absurd q (by decide))
    refine w_bipush (pc' := 120) (x := (8 : Int32)) C at_118 rfl rfl ?_
    refine wA_newP (pc' := 122) (cap := 8) (ce' := 3) (sl' := 27) C (tw hw 27 rfl) at_120 rfl (by decide) (by decide) (by decide) rfl rfl (by decide) (by decide) (fun h3 a3 e3 E3 A3 => ?_)
    have g_a3 : n0 ≤ a3 := by rw [e3]; exact hz
    have fr_a3 : h0.size ≤ a3 := by rw [e3]; exact hk.1
    have ne_a1_a3 : a1 ≠ a3 := by rw [e3]; exact Nat.ne_of_lt O_a1.lt
    have ne_c2_a3 : c2 ≠ a3 := by rw [e3]; exact Nat.ne_of_lt O_c2.lt
    have O_a1 := O_a1.ext E3
    have O_c2 := O_c2.ext E3
    have hz : n0 ≤ h3.size := Nat.le_trans hz E3.1
    have hk := hk.ext E3
    have O_a3 : Ar Z h3 a3 .int [.int (0 : Int32), .int (0 : Int32), .int (0 : Int32), .int (0 : Int32), .int (0 : Int32), .int (0 : Int32), .int (0 : Int32), .int (0 : Int32)] := A3
    refine w_astore (pc' := 124) (Ls' := #[.val (.int x0), .val (.int x1), .val (.int x2), .val (.int x3), .val (.int x4), .val (.int x5), .val (.int (0 : Int32)), .val (.int (Int32.ofNat s0)), .val (.ref a1), .val (.ref a3), .unset, .unset, .unset, .unset, .unset]) C at_122 rfl rfl rfl ?_
    refine w_aload (pc' := 126) C at_124 rfl rfl rfl ?_
    refine w_iconst (pc' := 127) (x := (0 : Int32)) C at_126 rfl rfl ?_
    refine w_sipush (pc' := 130) (x := (7770 : Int32)) C at_127 rfl rfl ?_
    refine wA_iastore (pc' := 131) C at_130 rfl g_a3 O_a3 (by decide) (Nat.le_of_ble_eq_true rfl) (fun h4 W4 A4 => ?_)
    have O_a3 : Ar Z h4 a3 .int [.int (7770 : Int32), .int (0 : Int32), .int (0 : Int32), .int (0 : Int32), .int (0 : Int32), .int (0 : Int32), .int (0 : Int32), .int (0 : Int32)] := A4
    have O_a1 := O_a1.other W4 ne_a1_a3
    have O_c2 := O_c2.other W4 ne_c2_a3
    have hz : n0 ≤ h4.size := by rw [W4.size]; exact hz
    have hk := hk.wr W4 (Or.inr fr_a3)
    refine w_aload (pc' := 133) C at_131 rfl rfl rfl ?_
    refine w_iconst (pc' := 134) (x := (1 : Int32)) C at_133 rfl rfl ?_
    refine w_sipush (pc' := 137) (x := (7771 : Int32)) C at_134 rfl rfl ?_
    refine wA_iastore (pc' := 138) C at_137 rfl g_a3 O_a3 (by decide) (Nat.le_of_ble_eq_true rfl) (fun h5 W5 A5 => ?_)
    have O_a3 : Ar Z h5 a3 .int [.int (7770 : Int32), .int (7771 : Int32), .int (0 : Int32), .int (0 : Int32), .int (0 : Int32), .int (0 : Int32), .int (0 : Int32), .int (0 : Int32)] := A5
    have O_a1 := O_a1.other W5 ne_a1_a3
    have O_c2 := O_c2.other W5 ne_c2_a3
    have hz : n0 ≤ h5.size := by rw [W5.size]; exact hz
    have hk := hk.wr W5 (Or.inr fr_a3)
    refine w_aload (pc' := 140) C at_138 rfl rfl rfl ?_
    refine w_iconst (pc' := 141) (x := (2 : Int32)) C at_140 rfl rfl ?_
    refine w_sipush (pc' := 144) (x := (7772 : Int32)) C at_141 rfl rfl ?_
    refine wA_iastore (pc' := 145) C at_144 rfl g_a3 O_a3 (by decide) (Nat.le_of_ble_eq_true rfl) (fun h6 W6 A6 => ?_)
    have O_a3 : Ar Z h6 a3 .int [.int (7770 : Int32), .int (7771 : Int32), .int (7772 : Int32), .int (0 : Int32), .int (0 : Int32), .int (0 : Int32), .int (0 : Int32), .int (0 : Int32)] := A6
    have O_a1 := O_a1.other W6 ne_a1_a3
    have O_c2 := O_c2.other W6 ne_c2_a3
    have hz : n0 ≤ h6.size := by rw [W6.size]; exact hz
    have hk := hk.wr W6 (Or.inr fr_a3)
    refine w_aload (pc' := 147) C at_145 rfl rfl rfl ?_
    refine w_iconst (pc' := 148) (x := (3 : Int32)) C at_147 rfl rfl ?_
    refine w_sipush (pc' := 151) (x := (7773 : Int32)) C at_148 rfl rfl ?_
    refine wA_iastore (pc' := 152) C at_151 rfl g_a3 O_a3 (by decide) (Nat.le_of_ble_eq_true rfl) (fun h7 W7 A7 => ?_)
    have O_a3 : Ar Z h7 a3 .int [.int (7770 : Int32), .int (7771 : Int32), .int (7772 : Int32), .int (7773 : Int32), .int (0 : Int32), .int (0 : Int32), .int (0 : Int32), .int (0 : Int32)] := A7
    have O_a1 := O_a1.other W7 ne_a1_a3
    have O_c2 := O_c2.other W7 ne_c2_a3
    have hz : n0 ≤ h7.size := by rw [W7.size]; exact hz
    have hk := hk.wr W7 (Or.inr fr_a3)
    refine w_aload (pc' := 154) C at_152 rfl rfl rfl ?_
    refine w_iconst (pc' := 155) (x := (4 : Int32)) C at_154 rfl rfl ?_
    refine w_sipush (pc' := 158) (x := (7774 : Int32)) C at_155 rfl rfl ?_
    refine wA_iastore (pc' := 159) C at_158 rfl g_a3 O_a3 (by decide) (Nat.le_of_ble_eq_true rfl) (fun h8 W8 A8 => ?_)
    have O_a3 : Ar Z h8 a3 .int [.int (7770 : Int32), .int (7771 : Int32), .int (7772 : Int32), .int (7773 : Int32), .int (7774 : Int32), .int (0 : Int32), .int (0 : Int32), .int (0 : Int32)] := A8
    have O_a1 := O_a1.other W8 ne_a1_a3
    have O_c2 := O_c2.other W8 ne_c2_a3
    have hz : n0 ≤ h8.size := by rw [W8.size]; exact hz
    have hk := hk.wr W8 (Or.inr fr_a3)
    refine w_aload (pc' := 161) C at_159 rfl rfl rfl ?_
    refine w_iconst (pc' := 162) (x := (5 : Int32)) C at_161 rfl rfl ?_
    refine w_sipush (pc' := 165) (x := (7775 : Int32)) C at_162 rfl rfl ?_
    refine wA_iastore (pc' := 166) C at_165 rfl g_a3 O_a3 (by decide) (Nat.le_of_ble_eq_true rfl) (fun h9 W9 A9 => ?_)
    have O_a3 : Ar Z h9 a3 .int [.int (7770 : Int32), .int (7771 : Int32), .int (7772 : Int32), .int (7773 : Int32), .int (7774 : Int32), .int (7775 : Int32), .int (0 : Int32), .int (0 : Int32)] := A9
    have O_a1 := O_a1.other W9 ne_a1_a3
    have O_c2 := O_c2.other W9 ne_c2_a3
    have hz : n0 ≤ h9.size := by rw [W9.size]; exact hz
    have hk := hk.wr W9 (Or.inr fr_a3)
    refine w_aload (pc' := 168) C at_166 rfl rfl rfl ?_
    refine w_bipush (pc' := 170) (x := (6 : Int32)) C at_168 rfl rfl ?_
    refine w_sipush (pc' := 173) (x := (7776 : Int32)) C at_170 rfl rfl ?_
    refine wA_iastore (pc' := 174) C at_173 rfl g_a3 O_a3 (by decide) (Nat.le_of_ble_eq_true rfl) (fun h10 W10 A10 => ?_)
    have O_a3 : Ar Z h10 a3 .int [.int (7770 : Int32), .int (7771 : Int32), .int (7772 : Int32), .int (7773 : Int32), .int (7774 : Int32), .int (7775 : Int32), .int (7776 : Int32), .int (0 : Int32)] := A10
    have O_a1 := O_a1.other W10 ne_a1_a3
    have O_c2 := O_c2.other W10 ne_c2_a3
    have hz : n0 ≤ h10.size := by rw [W10.size]; exact hz
    have hk := hk.wr W10 (Or.inr fr_a3)
    refine w_aload (pc' := 176) C at_174 rfl rfl rfl ?_
    refine w_bipush (pc' := 178) (x := (7 : Int32)) C at_176 rfl rfl ?_
    refine w_sipush (pc' := 181) (x := (7777 : Int32)) C at_178 rfl rfl ?_
    refine wA_iastore (pc' := 182) C at_181 rfl g_a3 O_a3 (by decide) (Nat.le_of_ble_eq_true rfl) (fun h11 W11 A11 => ?_)
    have O_a3 : Ar Z h11 a3 .int [.int (7770 : Int32), .int (7771 : Int32), .int (7772 : Int32), .int (7773 : Int32), .int (7774 : Int32), .int (7775 : Int32), .int (7776 : Int32), .int (7777 : Int32)] := A11
    have O_a1 := O_a1.other W11 ne_a1_a3
    have O_c2 := O_c2.other W11 ne_c2_a3
    have hz : n0 ≤ h11.size := by rw [W11.size]; exact hz
    have hk := hk.wr W11 (Or.inr fr_a3)
    refine w_aload (pc' := 184) C at_182 rfl rfl rfl ?_
    refine w_aload (pc' := 186) C at_184 rfl rfl rfl ?_
    refine w_iload (pc' := 188) C at_186 rfl rfl ?_
    have O_a3 : Ar Z h11 a3 .int (us8.map Value.int) := O_a3
    refine w_callV (Cl := "com/example/gatewright/gatewright/NearestStatements") (pc' := 191) (argsL := [.ref a3, .int (Int32.ofNat s0)]) (st := []) (W := 0) (ce' := 3) (sl' := 27) C (tw hw 28 rfl) (tw hw 29 rfl) (tw hw 31 rfl) (tw hw 30 rfl) (tw hw 2 rfl) (tw hw 32 rfl) (by decide) at_188 rfl rfl (by decide) (by decide) (Nat.le_of_eq rfl) rfl rfl (by decide) (by decide) rfl (lenOf pd_5 rfl) O_a1.1 (ct_rights hw h11 n0 a1 a3 s0 c2 N2 sh2 (List.replicate N2 (0 : Int64)) us8 hz (Inv.zero S2) hs0 (by rw [Pm2.length_eq]; exact Nat.zero_le _) rfl O_a1 O_c2 O_a3 g_a3 ne_a1_a3 ne_a1_c2 ne_c2_a3) (k1 (fun h12 q12 => ?_))
    obtain ⟨R12, K12⟩ := q12
    have O_a1 := O_a1.keep K12 (ninS ne_a1_a3 nin0)
    have O_c2 := O_c2.keep K12 (ninS ne_c2_a3 nin0)
    have hz : n0 ≤ h12.size := Nat.le_trans hz K12.1
    have hk := Keep.app hk K12 (fun x hx => Or.inl hx) (allS (Or.inr fr_a3) all0)
    obtain ⟨us, eus⟩ : ∃ us, us = wr us8 s0 (rts (List.replicate N2 (0 : Int64))) := ⟨_, rfl⟩
    have O_a3 : Ar Z h12 a3 .int (us.map Value.int) := by rw [eus]; exact R12
    have ul : us.length = 8 := by rw [eus, wr_len]; rfl
    obtain ⟨rr, er⟩ : ∃ rr, Int32.ofNat (s0 + (rts (List.replicate N2 (0 : Int64))).length) = rr := ⟨_, rfl⟩
    refine w_eqI er ?_
    refine w_istore (pc' := 193) (Ls' := #[.val (.int x0), .val (.int x1), .val (.int x2), .val (.int x3), .val (.int x4), .val (.int x5), .val (.int (0 : Int32)), .val (.int (Int32.ofNat s0)), .val (.ref a1), .val (.ref a3), .val (.int rr), .unset, .unset, .unset, .unset]) C at_191 rfl rfl ?_
    have K463 : law0 x0 x1 x2 x3 x4 x5 us s0 rr = law0_463 x0 x1 x2 x3 x4 x5 us s0 rr → Wp p l e room_1 s m #[.int x0, .int x1, .int x2, .int x3, .int x4, .int x5] below meth c n0 room_1.cells room_1.slots (fun v h => v = some (.int 1)) h12 3 27 (mkF m 463 #[.val (.int x0), .val (.int x1), .val (.int x2), .val (.int x3), .val (.int x4), .val (.int x5), .val (.int (0 : Int32)), .val (.int (Int32.ofNat s0)), .val (.ref a1), .val (.ref a3), .val (.int rr), .val (.int (0 : Int32)), .val (.int (0 : Int32)), .val (.int (0 : Int32)), .val (.int (0 : Int32))] []) := by
      intro hr
      change _ = (0 : Int32) at hr
      refine w_iconst (pc' := 464) (x := (0 : Int32)) C at_463 rfl rfl ?_
      refine w_retN' (t := .boolean) (z' := (0 : Int32)) C rfl (by simp) at_464 (by decide) (by decide) narB0 ?_
      exact congrArg (fun z => some (Value.int z)) (hr.symm.trans (ONE0 x1 x2 x3 hs0 Pm2 eus er.symm))
    have K353 : law0 x0 x1 x2 x3 x4 x5 us s0 rr = law0_353 x0 x1 x2 x3 x4 x5 us s0 rr → Wp p l e room_1 s m #[.int x0, .int x1, .int x2, .int x3, .int x4, .int x5] below meth c n0 room_1.cells room_1.slots (fun v h => v = some (.int 1)) h12 3 27 (mkF m 353 #[.val (.int x0), .val (.int x1), .val (.int x2), .val (.int x3), .val (.int x4), .val (.int x5), .val (.int (0 : Int32)), .val (.int (Int32.ofNat s0)), .val (.ref a1), .val (.ref a3), .val (.int rr), .val (.int (0 : Int32)), .val (.int (0 : Int32)), .val (.int (0 : Int32)), .val (.int (0 : Int32))] []) := by
      intro hr
      change _ = (if (kept (Int32.ofNat s0) (0 : Int32) (0 : Int32) us) = 0 then (law0_463 x0 x1 x2 x3 x4 x5 us s0 rr) else (if (kept (Int32.ofNat s0) (0 : Int32) (1 : Int32) us) = 0 then (law0_463 x0 x1 x2 x3 x4 x5 us s0 rr) else (if (kept (Int32.ofNat s0) (0 : Int32) (2 : Int32) us) = 0 then (law0_463 x0 x1 x2 x3 x4 x5 us s0 rr) else (if (kept (Int32.ofNat s0) (0 : Int32) (3 : Int32) us) = 0 then (law0_463 x0 x1 x2 x3 x4 x5 us s0 rr) else (if (kept (Int32.ofNat s0) (0 : Int32) (4 : Int32) us) = 0 then (law0_463 x0 x1 x2 x3 x4 x5 us s0 rr) else (if (kept (Int32.ofNat s0) (0 : Int32) (5 : Int32) us) = 0 then (law0_463 x0 x1 x2 x3 x4 x5 us s0 rr) else (if (kept (Int32.ofNat s0) (0 : Int32) (6 : Int32) us) = 0 then (law0_463 x0 x1 x2 x3 x4 x5 us s0 rr) else (if (kept (Int32.ofNat s0) (0 : Int32) (7 : Int32) us) = 0 then (law0_463 x0 x1 x2 x3 x4 x5 us s0 rr) else (1 : Int32))))))))) at hr
      refine w_aload (pc' := 355) C at_353 rfl rfl rfl ?_
      refine w_iload (pc' := 357) C at_355 rfl rfl ?_
      refine w_iload (pc' := 359) C at_357 rfl rfl ?_
      refine w_iconst (pc' := 360) (x := (0 : Int32)) C at_359 rfl rfl ?_
      refine w_callS (pc' := 363) (argsL := [.ref a3, .int (Int32.ofNat s0), .int (0 : Int32), .int (0 : Int32)]) (st := []) (W := 0) (ce' := 3) (sl' := 27) C (tw hw 33 rfl) (tw hw 34 rfl) (tw hw 35 rfl) (tw hw 36 rfl) (by decide) at_360 rfl rfl (by decide) (by decide) (Nat.le_of_eq rfl) rfl rfl (by decide) (by decide) rfl (lenOf pd_6 rfl) (ct_kept hw h12 n0 a3 (Int32.ofNat s0) (0 : Int32) (0 : Int32) us ul (by decide) O_a3) (kp ?_)
      refine w_if_eq (pcT := 463) (pcF := 366) C at_363 (by decide) (by decide) rfl (fun q363 => ?_) (fun q363 => ?_)
      · have hr := hr.trans (if_pos q363)
        exact K463 hr
      · have hr := hr.trans (if_neg q363)
        refine w_aload (pc' := 368) C at_366 rfl rfl rfl ?_
        refine w_iload (pc' := 370) C at_368 rfl rfl ?_
        refine w_iload (pc' := 372) C at_370 rfl rfl ?_
        refine w_iconst (pc' := 373) (x := (1 : Int32)) C at_372 rfl rfl ?_
        refine w_callS (pc' := 376) (argsL := [.ref a3, .int (Int32.ofNat s0), .int (0 : Int32), .int (1 : Int32)]) (st := []) (W := 0) (ce' := 3) (sl' := 27) C (tw hw 33 rfl) (tw hw 34 rfl) (tw hw 35 rfl) (tw hw 36 rfl) (by decide) at_373 rfl rfl (by decide) (by decide) (Nat.le_of_eq rfl) rfl rfl (by decide) (by decide) rfl (lenOf pd_6 rfl) (ct_kept hw h12 n0 a3 (Int32.ofNat s0) (0 : Int32) (1 : Int32) us ul (by decide) O_a3) (kp ?_)
        refine w_if_eq (pcT := 463) (pcF := 379) C at_376 (by decide) (by decide) rfl (fun q376 => ?_) (fun q376 => ?_)
        · have hr := hr.trans (if_pos q376)
          exact K463 hr
        · have hr := hr.trans (if_neg q376)
          refine w_aload (pc' := 381) C at_379 rfl rfl rfl ?_
          refine w_iload (pc' := 383) C at_381 rfl rfl ?_
          refine w_iload (pc' := 385) C at_383 rfl rfl ?_
          refine w_iconst (pc' := 386) (x := (2 : Int32)) C at_385 rfl rfl ?_
          refine w_callS (pc' := 389) (argsL := [.ref a3, .int (Int32.ofNat s0), .int (0 : Int32), .int (2 : Int32)]) (st := []) (W := 0) (ce' := 3) (sl' := 27) C (tw hw 33 rfl) (tw hw 34 rfl) (tw hw 35 rfl) (tw hw 36 rfl) (by decide) at_386 rfl rfl (by decide) (by decide) (Nat.le_of_eq rfl) rfl rfl (by decide) (by decide) rfl (lenOf pd_6 rfl) (ct_kept hw h12 n0 a3 (Int32.ofNat s0) (0 : Int32) (2 : Int32) us ul (by decide) O_a3) (kp ?_)
          refine w_if_eq (pcT := 463) (pcF := 392) C at_389 (by decide) (by decide) rfl (fun q389 => ?_) (fun q389 => ?_)
          · have hr := hr.trans (if_pos q389)
            exact K463 hr
          · have hr := hr.trans (if_neg q389)
            refine w_aload (pc' := 394) C at_392 rfl rfl rfl ?_
            refine w_iload (pc' := 396) C at_394 rfl rfl ?_
            refine w_iload (pc' := 398) C at_396 rfl rfl ?_
            refine w_iconst (pc' := 399) (x := (3 : Int32)) C at_398 rfl rfl ?_
            refine w_callS (pc' := 402) (argsL := [.ref a3, .int (Int32.ofNat s0), .int (0 : Int32), .int (3 : Int32)]) (st := []) (W := 0) (ce' := 3) (sl' := 27) C (tw hw 33 rfl) (tw hw 34 rfl) (tw hw 35 rfl) (tw hw 36 rfl) (by decide) at_399 rfl rfl (by decide) (by decide) (Nat.le_of_eq rfl) rfl rfl (by decide) (by decide) rfl (lenOf pd_6 rfl) (ct_kept hw h12 n0 a3 (Int32.ofNat s0) (0 : Int32) (3 : Int32) us ul (by decide) O_a3) (kp ?_)
            refine w_if_eq (pcT := 463) (pcF := 405) C at_402 (by decide) (by decide) rfl (fun q402 => ?_) (fun q402 => ?_)
            · have hr := hr.trans (if_pos q402)
              exact K463 hr
            · have hr := hr.trans (if_neg q402)
              refine w_aload (pc' := 407) C at_405 rfl rfl rfl ?_
              refine w_iload (pc' := 409) C at_407 rfl rfl ?_
              refine w_iload (pc' := 411) C at_409 rfl rfl ?_
              refine w_iconst (pc' := 412) (x := (4 : Int32)) C at_411 rfl rfl ?_
              refine w_callS (pc' := 415) (argsL := [.ref a3, .int (Int32.ofNat s0), .int (0 : Int32), .int (4 : Int32)]) (st := []) (W := 0) (ce' := 3) (sl' := 27) C (tw hw 33 rfl) (tw hw 34 rfl) (tw hw 35 rfl) (tw hw 36 rfl) (by decide) at_412 rfl rfl (by decide) (by decide) (Nat.le_of_eq rfl) rfl rfl (by decide) (by decide) rfl (lenOf pd_6 rfl) (ct_kept hw h12 n0 a3 (Int32.ofNat s0) (0 : Int32) (4 : Int32) us ul (by decide) O_a3) (kp ?_)
              refine w_if_eq (pcT := 463) (pcF := 418) C at_415 (by decide) (by decide) rfl (fun q415 => ?_) (fun q415 => ?_)
              · have hr := hr.trans (if_pos q415)
                exact K463 hr
              · have hr := hr.trans (if_neg q415)
                refine w_aload (pc' := 420) C at_418 rfl rfl rfl ?_
                refine w_iload (pc' := 422) C at_420 rfl rfl ?_
                refine w_iload (pc' := 424) C at_422 rfl rfl ?_
                refine w_iconst (pc' := 425) (x := (5 : Int32)) C at_424 rfl rfl ?_
                refine w_callS (pc' := 428) (argsL := [.ref a3, .int (Int32.ofNat s0), .int (0 : Int32), .int (5 : Int32)]) (st := []) (W := 0) (ce' := 3) (sl' := 27) C (tw hw 33 rfl) (tw hw 34 rfl) (tw hw 35 rfl) (tw hw 36 rfl) (by decide) at_425 rfl rfl (by decide) (by decide) (Nat.le_of_eq rfl) rfl rfl (by decide) (by decide) rfl (lenOf pd_6 rfl) (ct_kept hw h12 n0 a3 (Int32.ofNat s0) (0 : Int32) (5 : Int32) us ul (by decide) O_a3) (kp ?_)
                refine w_if_eq (pcT := 463) (pcF := 431) C at_428 (by decide) (by decide) rfl (fun q428 => ?_) (fun q428 => ?_)
                · have hr := hr.trans (if_pos q428)
                  exact K463 hr
                · have hr := hr.trans (if_neg q428)
                  refine w_aload (pc' := 433) C at_431 rfl rfl rfl ?_
                  refine w_iload (pc' := 435) C at_433 rfl rfl ?_
                  refine w_iload (pc' := 437) C at_435 rfl rfl ?_
                  refine w_bipush (pc' := 439) (x := (6 : Int32)) C at_437 rfl rfl ?_
                  refine w_callS (pc' := 442) (argsL := [.ref a3, .int (Int32.ofNat s0), .int (0 : Int32), .int (6 : Int32)]) (st := []) (W := 0) (ce' := 3) (sl' := 27) C (tw hw 33 rfl) (tw hw 34 rfl) (tw hw 35 rfl) (tw hw 36 rfl) (by decide) at_439 rfl rfl (by decide) (by decide) (Nat.le_of_eq rfl) rfl rfl (by decide) (by decide) rfl (lenOf pd_6 rfl) (ct_kept hw h12 n0 a3 (Int32.ofNat s0) (0 : Int32) (6 : Int32) us ul (by decide) O_a3) (kp ?_)
                  refine w_if_eq (pcT := 463) (pcF := 445) C at_442 (by decide) (by decide) rfl (fun q442 => ?_) (fun q442 => ?_)
                  · have hr := hr.trans (if_pos q442)
                    exact K463 hr
                  · have hr := hr.trans (if_neg q442)
                    refine w_aload (pc' := 447) C at_445 rfl rfl rfl ?_
                    refine w_iload (pc' := 449) C at_447 rfl rfl ?_
                    refine w_iload (pc' := 451) C at_449 rfl rfl ?_
                    refine w_bipush (pc' := 453) (x := (7 : Int32)) C at_451 rfl rfl ?_
                    refine w_callS (pc' := 456) (argsL := [.ref a3, .int (Int32.ofNat s0), .int (0 : Int32), .int (7 : Int32)]) (st := []) (W := 0) (ce' := 3) (sl' := 27) C (tw hw 33 rfl) (tw hw 34 rfl) (tw hw 35 rfl) (tw hw 36 rfl) (by decide) at_453 rfl rfl (by decide) (by decide) (Nat.le_of_eq rfl) rfl rfl (by decide) (by decide) rfl (lenOf pd_6 rfl) (ct_kept hw h12 n0 a3 (Int32.ofNat s0) (0 : Int32) (7 : Int32) us ul (by decide) O_a3) (kp ?_)
                    refine w_if_eq (pcT := 463) (pcF := 459) C at_456 (by decide) (by decide) rfl (fun q456 => ?_) (fun q456 => ?_)
                    · have hr := hr.trans (if_pos q456)
                      exact K463 hr
                    · have hr := hr.trans (if_neg q456)
                      refine w_iconst (pc' := 460) (x := (1 : Int32)) C at_459 rfl rfl ?_
                      refine w_goto (pc' := 464) C at_460 (by decide) (by decide) ?_
                      refine w_retN' (t := .boolean) (z' := (1 : Int32)) C rfl (by simp) at_464 (by decide) (by decide) narB1 ?_
                      exact congrArg (fun z => some (Value.int z)) (hr.symm.trans (ONE0 x1 x2 x3 hs0 Pm2 eus er.symm))
    have K333 : law0 x0 x1 x2 x3 x4 x5 us s0 rr = law0_333 x0 x1 x2 x3 x4 x5 us s0 rr → Wp p l e room_1 s m #[.int x0, .int x1, .int x2, .int x3, .int x4, .int x5] below meth c n0 room_1.cells room_1.slots (fun v h => v = some (.int 1)) h12 3 27 (mkF m 333 #[.val (.int x0), .val (.int x1), .val (.int x2), .val (.int x3), .val (.int x4), .val (.int x5), .val (.int (0 : Int32)), .val (.int (Int32.ofNat s0)), .val (.ref a1), .val (.ref a3), .val (.int rr), .val (.int (0 : Int32)), .val (.int (0 : Int32)), .val (.int (0 : Int32)), .val (.int (0 : Int32))] []) := by
      intro hr
      change _ = (law0_353 x0 x1 x2 x3 x4 x5 us s0 rr) at hr
      refine w_iload (pc' := 335) C at_333 rfl rfl ?_
      refine w_if_eq (pcT := 353) (pcF := 338) C at_335 (by decide) (by decide) rfl (fun q335 => ?_) (fun q => absurd q (by decide))
      exact K353 hr
    have K313 : law0 x0 x1 x2 x3 x4 x5 us s0 rr = law0_313 x0 x1 x2 x3 x4 x5 us s0 rr → Wp p l e room_1 s m #[.int x0, .int x1, .int x2, .int x3, .int x4, .int x5] below meth c n0 room_1.cells room_1.slots (fun v h => v = some (.int 1)) h12 3 27 (mkF m 313 #[.val (.int x0), .val (.int x1), .val (.int x2), .val (.int x3), .val (.int x4), .val (.int x5), .val (.int (0 : Int32)), .val (.int (Int32.ofNat s0)), .val (.ref a1), .val (.ref a3), .val (.int rr), .val (.int (0 : Int32)), .val (.int (0 : Int32)), .val (.int (0 : Int32)), .val (.int (0 : Int32))] []) := by
      intro hr
      change _ = (law0_333 x0 x1 x2 x3 x4 x5 us s0 rr) at hr
      refine w_iload (pc' := 315) C at_313 rfl rfl ?_
      refine w_if_eq (pcT := 333) (pcF := 318) C at_315 (by decide) (by decide) rfl (fun q315 => ?_) (fun q => absurd q (by decide))
      exact K333 hr
    have K278 : law0 x0 x1 x2 x3 x4 x5 us s0 rr = law0_278 x0 x1 x2 x3 x4 x5 us s0 rr → Wp p l e room_1 s m #[.int x0, .int x1, .int x2, .int x3, .int x4, .int x5] below meth c n0 room_1.cells room_1.slots (fun v h => v = some (.int 1)) h12 3 27 (mkF m 278 #[.val (.int x0), .val (.int x1), .val (.int x2), .val (.int x3), .val (.int x4), .val (.int x5), .val (.int (0 : Int32)), .val (.int (Int32.ofNat s0)), .val (.ref a1), .val (.ref a3), .val (.int rr), .val (.int (0 : Int32)), .val (.int (0 : Int32)), .val (.int (0 : Int32)), .unset] [.int (0 : Int32), .int (0 : Int32)]) := by
      intro hr
      change _ = (if rr = ((Int32.ofNat s0) + (0 : Int32)) then (law0_313 x0 x1 x2 x3 x4 x5 us s0 rr) else (0 : Int32)) at hr
      refine w_iadd (pc' := 279) C at_278 rfl ?_
      refine w_eqI (z := (0 : Int32)) (by decide) ?_
      refine w_istore (pc' := 281) (Ls' := #[.val (.int x0), .val (.int x1), .val (.int x2), .val (.int x3), .val (.int x4), .val (.int x5), .val (.int (0 : Int32)), .val (.int (Int32.ofNat s0)), .val (.ref a1), .val (.ref a3), .val (.int rr), .val (.int (0 : Int32)), .val (.int (0 : Int32)), .val (.int (0 : Int32)), .val (.int (0 : Int32))]) C at_279 rfl rfl ?_
      refine w_iload (pc' := 283) C at_281 rfl rfl ?_
      refine w_iload (pc' := 285) C at_283 rfl rfl ?_
      refine w_iload (pc' := 287) C at_285 rfl rfl ?_
      refine w_iadd (pc' := 288) C at_287 rfl ?_
      refine w_icmp_eq (pcT := 293) (pcF := 291) C at_288 (by decide) (by decide) rfl (fun q288 => ?_) (fun q288 => ?_)
      · have hr := hr.trans (if_pos q288)
        refine w_iload (pc' := 295) C at_293 rfl rfl ?_
        refine w_if_eq (pcT := 313) (pcF := 298) C at_295 (by decide) (by decide) rfl (fun q295 => ?_) (fun q => absurd q (by decide))
        exact K313 hr
      · have hr := hr.trans (if_neg q288)
        refine w_iconst (pc' := 292) (x := (0 : Int32)) C at_291 rfl rfl ?_
        refine w_retN' (t := .boolean) (z' := (0 : Int32)) C rfl (by simp) at_292 (by decide) (by decide) narB0 ?_
        exact congrArg (fun z => some (Value.int z)) (hr.symm.trans (ONE0 x1 x2 x3 hs0 Pm2 eus er.symm))
    have K267 : law0 x0 x1 x2 x3 x4 x5 us s0 rr = law0_267 x0 x1 x2 x3 x4 x5 us s0 rr → Wp p l e room_1 s m #[.int x0, .int x1, .int x2, .int x3, .int x4, .int x5] below meth c n0 room_1.cells room_1.slots (fun v h => v = some (.int 1)) h12 3 27 (mkF m 267 #[.val (.int x0), .val (.int x1), .val (.int x2), .val (.int x3), .val (.int x4), .val (.int x5), .val (.int (0 : Int32)), .val (.int (Int32.ofNat s0)), .val (.ref a1), .val (.ref a3), .val (.int rr), .val (.int (0 : Int32)), .val (.int (0 : Int32)), .val (.int (0 : Int32)), .unset] [.int (0 : Int32), .int (0 : Int32)]) := by
      intro hr
      change _ = (law0_278 x0 x1 x2 x3 x4 x5 us s0 rr) at hr
      refine w_iadd (pc' := 268) C at_267 rfl ?_
      refine w_eqI (z := (0 : Int32)) (by decide) ?_
      refine w_iload (pc' := 270) C at_268 rfl rfl ?_
      refine w_if_eq (pcT := 277) (pcF := 273) C at_270 (by decide) (by decide) rfl (fun q270 => ?_) (fun q => absurd q (by decide))
      refine w_iconst (pc' := 278) (x := (0 : Int32)) C at_277 rfl rfl ?_
      exact K278 hr
    have K257 : law0 x0 x1 x2 x3 x4 x5 us s0 rr = law0_257 x0 x1 x2 x3 x4 x5 us s0 rr → Wp p l e room_1 s m #[.int x0, .int x1, .int x2, .int x3, .int x4, .int x5] below meth c n0 room_1.cells room_1.slots (fun v h => v = some (.int 1)) h12 3 27 (mkF m 257 #[.val (.int x0), .val (.int x1), .val (.int x2), .val (.int x3), .val (.int x4), .val (.int x5), .val (.int (0 : Int32)), .val (.int (Int32.ofNat s0)), .val (.ref a1), .val (.ref a3), .val (.int rr), .val (.int (0 : Int32)), .val (.int (0 : Int32)), .val (.int (0 : Int32)), .unset] [.int (0 : Int32)]) := by
      intro hr
      change _ = (law0_267 x0 x1 x2 x3 x4 x5 us s0 rr) at hr
      refine w_iload (pc' := 259) C at_257 rfl rfl ?_
      refine w_if_eq (pcT := 266) (pcF := 262) C at_259 (by decide) (by decide) rfl (fun q259 => ?_) (fun q => absurd q (by decide))
      refine w_iconst (pc' := 267) (x := (0 : Int32)) C at_266 rfl rfl ?_
      exact K267 hr
    have K245 : law0 x0 x1 x2 x3 x4 x5 us s0 rr = law0_245 x0 x1 x2 x3 x4 x5 us s0 rr → Wp p l e room_1 s m #[.int x0, .int x1, .int x2, .int x3, .int x4, .int x5] below meth c n0 room_1.cells room_1.slots (fun v h => v = some (.int 1)) h12 3 27 (mkF m 245 #[.val (.int x0), .val (.int x1), .val (.int x2), .val (.int x3), .val (.int x4), .val (.int x5), .val (.int (0 : Int32)), .val (.int (Int32.ofNat s0)), .val (.ref a1), .val (.ref a3), .val (.int rr), .val (.int (0 : Int32)), .val (.int (0 : Int32)), .unset, .unset] [.int (0 : Int32)]) := by
      intro hr
      change _ = (law0_257 x0 x1 x2 x3 x4 x5 us s0 rr) at hr
      refine w_istore (pc' := 247) (Ls' := #[.val (.int x0), .val (.int x1), .val (.int x2), .val (.int x3), .val (.int x4), .val (.int x5), .val (.int (0 : Int32)), .val (.int (Int32.ofNat s0)), .val (.ref a1), .val (.ref a3), .val (.int rr), .val (.int (0 : Int32)), .val (.int (0 : Int32)), .val (.int (0 : Int32)), .unset]) C at_245 rfl rfl ?_
      refine w_iload (pc' := 249) C at_247 rfl rfl ?_
      refine w_if_eq (pcT := 256) (pcF := 252) C at_249 (by decide) (by decide) rfl (fun q249 => ?_) (fun q => absurd q (by decide))
      refine w_iconst (pc' := 257) (x := (0 : Int32)) C at_256 rfl rfl ?_
      exact K257 hr
    have K244 : law0 x0 x1 x2 x3 x4 x5 us s0 rr = law0_244 x0 x1 x2 x3 x4 x5 us s0 rr → Wp p l e room_1 s m #[.int x0, .int x1, .int x2, .int x3, .int x4, .int x5] below meth c n0 room_1.cells room_1.slots (fun v h => v = some (.int 1)) h12 3 27 (mkF m 244 #[.val (.int x0), .val (.int x1), .val (.int x2), .val (.int x3), .val (.int x4), .val (.int x5), .val (.int (0 : Int32)), .val (.int (Int32.ofNat s0)), .val (.ref a1), .val (.ref a3), .val (.int rr), .val (.int (0 : Int32)), .val (.int (0 : Int32)), .unset, .unset] []) := by
      intro hr
      change _ = (law0_245 x0 x1 x2 x3 x4 x5 us s0 rr) at hr
      refine w_iconst (pc' := 245) (x := (0 : Int32)) C at_244 rfl rfl ?_
      exact K245 hr
    have K222 : law0 x0 x1 x2 x3 x4 x5 us s0 rr = law0_222 x0 x1 x2 x3 x4 x5 us s0 rr → Wp p l e room_1 s m #[.int x0, .int x1, .int x2, .int x3, .int x4, .int x5] below meth c n0 room_1.cells room_1.slots (fun v h => v = some (.int 1)) h12 3 27 (mkF m 222 #[.val (.int x0), .val (.int x1), .val (.int x2), .val (.int x3), .val (.int x4), .val (.int x5), .val (.int (0 : Int32)), .val (.int (Int32.ofNat s0)), .val (.ref a1), .val (.ref a3), .val (.int rr), .val (.int (0 : Int32)), .unset, .unset, .unset] [.int (0 : Int32)]) := by
      intro hr
      change _ = (law0_244 x0 x1 x2 x3 x4 x5 us s0 rr) at hr
      refine w_istore (pc' := 224) (Ls' := #[.val (.int x0), .val (.int x1), .val (.int x2), .val (.int x3), .val (.int x4), .val (.int x5), .val (.int (0 : Int32)), .val (.int (Int32.ofNat s0)), .val (.ref a1), .val (.ref a3), .val (.int rr), .val (.int (0 : Int32)), .val (.int (0 : Int32)), .unset, .unset]) C at_222 rfl rfl ?_
      refine w_iload (pc' := 226) C at_224 rfl rfl ?_
      refine w_iconst (pc' := 227) (x := (3 : Int32)) C at_226 rfl rfl ?_
      refine w_icmp_lt (pcT := 244) (pcF := 230) C at_227 (by decide) (by decide) rfl (fun q227 => ?_) (fun q => absurd q (by decide))
      exact K244 hr
    have K221 : law0 x0 x1 x2 x3 x4 x5 us s0 rr = law0_221 x0 x1 x2 x3 x4 x5 us s0 rr → Wp p l e room_1 s m #[.int x0, .int x1, .int x2, .int x3, .int x4, .int x5] below meth c n0 room_1.cells room_1.slots (fun v h => v = some (.int 1)) h12 3 27 (mkF m 221 #[.val (.int x0), .val (.int x1), .val (.int x2), .val (.int x3), .val (.int x4), .val (.int x5), .val (.int (0 : Int32)), .val (.int (Int32.ofNat s0)), .val (.ref a1), .val (.ref a3), .val (.int rr), .val (.int (0 : Int32)), .unset, .unset, .unset] []) := by
      intro hr
      change _ = (law0_222 x0 x1 x2 x3 x4 x5 us s0 rr) at hr
      refine w_iconst (pc' := 222) (x := (0 : Int32)) C at_221 rfl rfl ?_
      exact K222 hr
    have K204 : law0 x0 x1 x2 x3 x4 x5 us s0 rr = law0_204 x0 x1 x2 x3 x4 x5 us s0 rr → Wp p l e room_1 s m #[.int x0, .int x1, .int x2, .int x3, .int x4, .int x5] below meth c n0 room_1.cells room_1.slots (fun v h => v = some (.int 1)) h12 3 27 (mkF m 204 #[.val (.int x0), .val (.int x1), .val (.int x2), .val (.int x3), .val (.int x4), .val (.int x5), .val (.int (0 : Int32)), .val (.int (Int32.ofNat s0)), .val (.ref a1), .val (.ref a3), .val (.int rr), .unset, .unset, .unset, .unset] [.int (0 : Int32)]) := by
      intro hr
      change _ = (law0_221 x0 x1 x2 x3 x4 x5 us s0 rr) at hr
      refine w_istore (pc' := 206) (Ls' := #[.val (.int x0), .val (.int x1), .val (.int x2), .val (.int x3), .val (.int x4), .val (.int x5), .val (.int (0 : Int32)), .val (.int (Int32.ofNat s0)), .val (.ref a1), .val (.ref a3), .val (.int rr), .val (.int (0 : Int32)), .unset, .unset, .unset]) C at_204 rfl rfl ?_
      refine w_iload (pc' := 208) C at_206 rfl rfl ?_
      refine w_iconst (pc' := 209) (x := (2 : Int32)) C at_208 rfl rfl ?_
      refine w_icmp_lt (pcT := 221) (pcF := 212) C at_209 (by decide) (by decide) rfl (fun q209 => ?_) (fun q => absurd q (by decide))
      exact K221 hr
    have hr : law0 x0 x1 x2 x3 x4 x5 us s0 rr = (law0_204 x0 x1 x2 x3 x4 x5 us s0 rr) := rfl
    refine w_iload (pc' := 195) C at_193 rfl rfl ?_
    refine w_iconst (pc' := 196) (x := (1 : Int32)) C at_195 rfl rfl ?_
    refine w_icmp_lt (pcT := 203) (pcF := 199) C at_196 (by decide) (by decide) rfl (fun q196 => ?_) (fun q => absurd q (by decide))
    refine w_iconst (pc' := 204) (x := (0 : Int32)) C at_203 rfl rfl ?_
    exact K204 hr
  · refine w_eqI e4 ?_
    refine w_istore (pc' := 6) (Ls' := #[.val (.int x0), .val (.int x1), .val (.int x2), .val (.int x3), .val (.int x4), .val (.int x5), .val (.int (1 : Int32)), .unset, .unset, .unset, .unset, .unset, .unset, .unset, .unset]) C at_4 rfl rfl ?_
    refine w_iload (pc' := 8) C at_6 rfl rfl ?_
    refine w_iconst (pc' := 9) (x := (1 : Int32)) C at_8 rfl rfl ?_
    refine w_icmp_lt (pcT := 17) (pcF := 12) C at_9 (by decide) (by decide) rfl (fun q => absurd q (by decide)) (fun q9 => ?_)
    refine w_iloadN (pc' := 13) C at_12 rfl rfl ?_
    refine w_iconst (pc' := 14) (x := (-1 : Int32)) C at_13 rfl rfl ?_
    refine w_icmp_eq (pcT := 39) (pcF := 17) C at_14 (by decide) (by decide) rfl (fun q14_1 => ?_) (fun q14_1 => ?_)
    · skip
      refine w_iconst (pc' := 40) (x := (1 : Int32)) C at_39 rfl rfl ?_
      refine w_retN' (t := .boolean) (z' := (1 : Int32)) C rfl (by simp) at_40 (by decide) (by decide) narB1 ?_
      rfl
    · skip
      refine w_iload (pc' := 19) C at_17 rfl rfl ?_
      refine w_iconst (pc' := 20) (x := (2 : Int32)) C at_19 rfl rfl ?_
      refine w_icmp_lt (pcT := 28) (pcF := 23) C at_20 (by decide) (by decide) rfl (fun q20 => ?_) (fun q => absurd q (by decide))
      refine w_iload (pc' := 30) C at_28 rfl rfl ?_
      refine w_iconst (pc' := 31) (x := (3 : Int32)) C at_30 rfl rfl ?_
      refine w_icmp_lt (pcT := 41) (pcF := 34) C at_31 (by decide) (by decide) rfl (fun q31 => ?_) (fun q => absurd q (by decide))
      refine w_iload (pc' := 43) C at_41 rfl rfl ?_
      refine w_iconst (pc' := 44) (x := (3 : Int32)) C at_43 rfl rfl ?_
      refine w_iand (pc' := 45) C at_44 rfl ?_
      obtain ⟨s0, hs0, e5⟩ := s4 x5
      refine w_eqI e5 ?_
      refine w_istore (pc' := 47) (Ls' := #[.val (.int x0), .val (.int x1), .val (.int x2), .val (.int x3), .val (.int x4), .val (.int x5), .val (.int (1 : Int32)), .val (.int (Int32.ofNat s0)), .unset, .unset, .unset, .unset, .unset, .unset, .unset]) C at_45 rfl rfl ?_
      refine w_new (pc' := 50) (ce' := 1) (sl' := 3) C (tw hw 0 rfl) (tw hw 1 rfl) (tw hw 2 rfl) at_47 rfl rfl rfl (by decide) (by decide) (fun h13 a13 e13 E13 A13 D13 => ?_)
      have g_a13 : n0 ≤ a13 := by rw [e13]; exact hz
      have fr_a13 : h0.size ≤ a13 := by rw [e13]; exact hk.1
      have hz : n0 ≤ h13.size := Nat.le_trans hz E13.1
      have hk := hk.ext E13
      have O_a13 : Obj Z h13 a13 "com/example/gatewright/gatewright/NearestStatements" [("slots", "[J", .null), ("shift", "I", .int (0 : Int32)), ("size", "I", .int (0 : Int32))] := obj_Nst hw A13 D13
      refine w_dup (pc' := 51) C at_50 rfl rfl ?_
      refine w_iloadN (pc' := 52) C at_51 rfl rfl ?_
      refine w_bipush (pc' := 54) (x := (7 : Int32)) C at_52 rfl rfl ?_
      refine w_iand (pc' := 55) C at_54 rfl ?_
      refine w_callI (pc' := 58) (argsL := [.int (x0 &&& (7 : Int32))]) (st := [.ref a13]) (W := 1) (ce' := 2) (sl' := 19) C rfl (tw hw 3 rfl) (tw hw 4 rfl) (tw hw 2 rfl) (tw hw 5 rfl) (by decide) at_55 rfl rfl (by decide) (by decide) (Nat.le_of_eq rfl) rfl rfl (by decide) (by decide) rfl (lenOf pd_1 rfl) (ct_init hw h13 n0 a13 (x0 &&& (7 : Int32)) hz (m7 _) O_a13 g_a13) (k0 (fun h14 q14 => ?_))
      obtain ⟨c14, N14, sh14, S14, P14, R14, fb_c14, K14⟩ := q14
      have g_c14 : n0 ≤ c14 := Nat.le_trans hz fb_c14
      have fr_c14 : h0.size ≤ c14 := Nat.le_trans hk.1 fb_c14
      have ne_a13_c14 : a13 ≠ c14 := Nat.ne_of_lt (Nat.lt_of_lt_of_le O_a13.lt fb_c14)
      have hz : n0 ≤ h14.size := Nat.le_trans hz K14.1
      have hk := Keep.app hk K14 (fun x hx => Or.inl hx) (allS (Or.inr fr_a13) all0)
      have O_a13 : Obj Z h14 a13 "com/example/gatewright/gatewright/NearestStatements" [("slots", "[J", .ref c14), ("shift", "I", .int sh14), ("size", "I", .int (Int32.ofNat (rts (List.replicate N14 (0 : Int64))).length))] := by rw [rts_rep]; exact P14
      have O_c14 := R14
      have G14 : Gd N14 (rts (List.replicate N14 (0 : Int64))).length := by rw [rts_rep]; exact gd0 S14
      have Pm14 : (rts (List.replicate N14 (0 : Int64))).Perm [] := by rw [rts_rep]
      refine w_astore (pc' := 60) (Ls' := #[.val (.int x0), .val (.int x1), .val (.int x2), .val (.int x3), .val (.int x4), .val (.int x5), .val (.int (1 : Int32)), .val (.int (Int32.ofNat s0)), .val (.ref a13), .unset, .unset, .unset, .unset, .unset, .unset]) C at_58 rfl rfl rfl ?_
      refine w_iload (pc' := 62) C at_60 rfl rfl ?_
      refine w_iconst (pc' := 63) (x := (1 : Int32)) C at_62 rfl rfl ?_
      refine w_icmp_lt (pcT := 80) (pcF := 66) C at_63 (by decide) (by decide) rfl (fun q => absurd q (by decide)) (fun q63 => ?_)
      refine w_aload (pc' := 68) C at_66 rfl rfl rfl ?_
      refine w_iloadN (pc' := 69) C at_68 rfl rfl ?_
      refine w_iload (pc' := 71) C at_69 rfl rfl ?_
      refine w_iconst (pc' := 72) (x := (2 : Int32)) C at_71 rfl rfl ?_
      refine w_iushr (pc' := 73) C at_72 rfl ?_
      refine w_sipush (pc' := 76) (x := (1023 : Int32)) C at_73 rfl rfl ?_
      refine w_iand (pc' := 77) C at_76 rfl ?_
      refine w_callV (Cl := "com/example/gatewright/gatewright/NearestStatements") (pc' := 80) (argsL := [.int x1, .int (((x4.toUInt32 >>> ((2 : Int32) &&& 31).toUInt32).toInt32) &&& (1023 : Int32))]) (st := []) (W := 0) (ce' := 3) (sl' := 35) C (tw hw 37 rfl) (tw hw 38 rfl) (tw hw 40 rfl) (tw hw 39 rfl) (tw hw 2 rfl) (tw hw 41 rfl) (by decide) at_77 rfl rfl (by decide) (by decide) (Nat.le_of_eq rfl) rfl rfl (by decide) (by decide) rfl (lenOf pd_3 rfl) O_a13.1 (ct_meet hw h14 n0 a13 x1 (((x4.toUInt32 >>> ((2 : Int32) &&& 31).toUInt32).toInt32) &&& (1023 : Int32)) c14 N14 sh14 (List.replicate N14 (0 : Int64)) hz (Inv.zero S14) q14_1 (r10m _) G14 O_a13 O_c14 g_a13 g_c14 ne_a13_c14) (k0 (fun h15 q15 => ?_))
      obtain ⟨c15, N15, sh15, T15, I15, Pn15, H15, P15, R15, fb_c15, K15⟩ := q15
      have g_c15 : n0 ≤ c15 := fb_c15.elim (fun q => by rw [q]; exact g_c14) (fun q => Nat.le_trans hz q)
      have fr_c15 : h0.size ≤ c15 := fb_c15.elim (fun q => by rw [q]; exact fr_c14) (fun q => Nat.le_trans hk.1 q)
      have ne_a13_c15 : a13 ≠ c15 := fb_c15.elim (fun q => by rw [q]; exact ne_a13_c14) (fun q => Nat.ne_of_lt (Nat.lt_of_lt_of_le O_a13.lt q))
      have hz : n0 ≤ h15.size := Nat.le_trans hz K15.1
      have hk := Keep.app hk K15 (fun x hx => Or.inl hx) (allS (Or.inr fr_a13) (allS (Or.inr fr_c14) all0))
      have O_a13 := P15
      have O_c15 := R15
      have Pm15 : (rts T15).Perm (adds x1 []) := Pn15.trans (adds_perm Pm14)
      have le15 : (rts T15).length ≤ 1 := by rw [Pm15.length_eq]; exact alen1 _
      have G15 := H15.gd (Nat.le_trans le15 (by decide))
      refine w_iload (pc' := 82) C at_80 rfl rfl ?_
      refine w_iconst (pc' := 83) (x := (2 : Int32)) C at_82 rfl rfl ?_
      refine w_icmp_lt (pcT := 101) (pcF := 86) C at_83 (by decide) (by decide) rfl (fun q83 => ?_) (fun q => absurd q (by decide))
      refine w_iload (pc' := 103) C at_101 rfl rfl ?_
      refine w_iconst (pc' := 104) (x := (3 : Int32)) C at_103 rfl rfl ?_
      refine w_icmp_lt (pcT := 118) (pcF := 107) C at_104 (by decide) (by decide) rfl (fun q104 => ?_) (fun q => absurd q (by decide))
      refine w_bipush (pc' := 120) (x := (8 : Int32)) C at_118 rfl rfl ?_
      refine wA_newP (pc' := 122) (cap := 8) (ce' := 4) (sl' := 43) C (tw hw 27 rfl) at_120 rfl (by decide) (by decide) (by decide) rfl rfl (by decide) (by decide) (fun h16 a16 e16 E16 A16 => ?_)
      have g_a16 : n0 ≤ a16 := by rw [e16]; exact hz
      have fr_a16 : h0.size ≤ a16 := by rw [e16]; exact hk.1
      have ne_a13_a16 : a13 ≠ a16 := by rw [e16]; exact Nat.ne_of_lt O_a13.lt
      have ne_c15_a16 : c15 ≠ a16 := by rw [e16]; exact Nat.ne_of_lt O_c15.lt
      have O_a13 := O_a13.ext E16
      have O_c15 := O_c15.ext E16
      have hz : n0 ≤ h16.size := Nat.le_trans hz E16.1
      have hk := hk.ext E16
      have O_a16 : Ar Z h16 a16 .int [.int (0 : Int32), .int (0 : Int32), .int (0 : Int32), .int (0 : Int32), .int (0 : Int32), .int (0 : Int32), .int (0 : Int32), .int (0 : Int32)] := A16
      refine w_astore (pc' := 124) (Ls' := #[.val (.int x0), .val (.int x1), .val (.int x2), .val (.int x3), .val (.int x4), .val (.int x5), .val (.int (1 : Int32)), .val (.int (Int32.ofNat s0)), .val (.ref a13), .val (.ref a16), .unset, .unset, .unset, .unset, .unset]) C at_122 rfl rfl rfl ?_
      refine w_aload (pc' := 126) C at_124 rfl rfl rfl ?_
      refine w_iconst (pc' := 127) (x := (0 : Int32)) C at_126 rfl rfl ?_
      refine w_sipush (pc' := 130) (x := (7770 : Int32)) C at_127 rfl rfl ?_
      refine wA_iastore (pc' := 131) C at_130 rfl g_a16 O_a16 (by decide) (Nat.le_of_ble_eq_true rfl) (fun h17 W17 A17 => ?_)
      have O_a16 : Ar Z h17 a16 .int [.int (7770 : Int32), .int (0 : Int32), .int (0 : Int32), .int (0 : Int32), .int (0 : Int32), .int (0 : Int32), .int (0 : Int32), .int (0 : Int32)] := A17
      have O_a13 := O_a13.other W17 ne_a13_a16
      have O_c15 := O_c15.other W17 ne_c15_a16
      have hz : n0 ≤ h17.size := by rw [W17.size]; exact hz
      have hk := hk.wr W17 (Or.inr fr_a16)
      refine w_aload (pc' := 133) C at_131 rfl rfl rfl ?_
      refine w_iconst (pc' := 134) (x := (1 : Int32)) C at_133 rfl rfl ?_
      refine w_sipush (pc' := 137) (x := (7771 : Int32)) C at_134 rfl rfl ?_
      refine wA_iastore (pc' := 138) C at_137 rfl g_a16 O_a16 (by decide) (Nat.le_of_ble_eq_true rfl) (fun h18 W18 A18 => ?_)
      have O_a16 : Ar Z h18 a16 .int [.int (7770 : Int32), .int (7771 : Int32), .int (0 : Int32), .int (0 : Int32), .int (0 : Int32), .int (0 : Int32), .int (0 : Int32), .int (0 : Int32)] := A18
      have O_a13 := O_a13.other W18 ne_a13_a16
      have O_c15 := O_c15.other W18 ne_c15_a16
      have hz : n0 ≤ h18.size := by rw [W18.size]; exact hz
      have hk := hk.wr W18 (Or.inr fr_a16)
      refine w_aload (pc' := 140) C at_138 rfl rfl rfl ?_
      refine w_iconst (pc' := 141) (x := (2 : Int32)) C at_140 rfl rfl ?_
      refine w_sipush (pc' := 144) (x := (7772 : Int32)) C at_141 rfl rfl ?_
      refine wA_iastore (pc' := 145) C at_144 rfl g_a16 O_a16 (by decide) (Nat.le_of_ble_eq_true rfl) (fun h19 W19 A19 => ?_)
      have O_a16 : Ar Z h19 a16 .int [.int (7770 : Int32), .int (7771 : Int32), .int (7772 : Int32), .int (0 : Int32), .int (0 : Int32), .int (0 : Int32), .int (0 : Int32), .int (0 : Int32)] := A19
      have O_a13 := O_a13.other W19 ne_a13_a16
      have O_c15 := O_c15.other W19 ne_c15_a16
      have hz : n0 ≤ h19.size := by rw [W19.size]; exact hz
      have hk := hk.wr W19 (Or.inr fr_a16)
      refine w_aload (pc' := 147) C at_145 rfl rfl rfl ?_
      refine w_iconst (pc' := 148) (x := (3 : Int32)) C at_147 rfl rfl ?_
      refine w_sipush (pc' := 151) (x := (7773 : Int32)) C at_148 rfl rfl ?_
      refine wA_iastore (pc' := 152) C at_151 rfl g_a16 O_a16 (by decide) (Nat.le_of_ble_eq_true rfl) (fun h20 W20 A20 => ?_)
      have O_a16 : Ar Z h20 a16 .int [.int (7770 : Int32), .int (7771 : Int32), .int (7772 : Int32), .int (7773 : Int32), .int (0 : Int32), .int (0 : Int32), .int (0 : Int32), .int (0 : Int32)] := A20
      have O_a13 := O_a13.other W20 ne_a13_a16
      have O_c15 := O_c15.other W20 ne_c15_a16
      have hz : n0 ≤ h20.size := by rw [W20.size]; exact hz
      have hk := hk.wr W20 (Or.inr fr_a16)
      refine w_aload (pc' := 154) C at_152 rfl rfl rfl ?_
      refine w_iconst (pc' := 155) (x := (4 : Int32)) C at_154 rfl rfl ?_
      refine w_sipush (pc' := 158) (x := (7774 : Int32)) C at_155 rfl rfl ?_
      refine wA_iastore (pc' := 159) C at_158 rfl g_a16 O_a16 (by decide) (Nat.le_of_ble_eq_true rfl) (fun h21 W21 A21 => ?_)
      have O_a16 : Ar Z h21 a16 .int [.int (7770 : Int32), .int (7771 : Int32), .int (7772 : Int32), .int (7773 : Int32), .int (7774 : Int32), .int (0 : Int32), .int (0 : Int32), .int (0 : Int32)] := A21
      have O_a13 := O_a13.other W21 ne_a13_a16
      have O_c15 := O_c15.other W21 ne_c15_a16
      have hz : n0 ≤ h21.size := by rw [W21.size]; exact hz
      have hk := hk.wr W21 (Or.inr fr_a16)
      refine w_aload (pc' := 161) C at_159 rfl rfl rfl ?_
      refine w_iconst (pc' := 162) (x := (5 : Int32)) C at_161 rfl rfl ?_
      refine w_sipush (pc' := 165) (x := (7775 : Int32)) C at_162 rfl rfl ?_
      refine wA_iastore (pc' := 166) C at_165 rfl g_a16 O_a16 (by decide) (Nat.le_of_ble_eq_true rfl) (fun h22 W22 A22 => ?_)
      have O_a16 : Ar Z h22 a16 .int [.int (7770 : Int32), .int (7771 : Int32), .int (7772 : Int32), .int (7773 : Int32), .int (7774 : Int32), .int (7775 : Int32), .int (0 : Int32), .int (0 : Int32)] := A22
      have O_a13 := O_a13.other W22 ne_a13_a16
      have O_c15 := O_c15.other W22 ne_c15_a16
      have hz : n0 ≤ h22.size := by rw [W22.size]; exact hz
      have hk := hk.wr W22 (Or.inr fr_a16)
      refine w_aload (pc' := 168) C at_166 rfl rfl rfl ?_
      refine w_bipush (pc' := 170) (x := (6 : Int32)) C at_168 rfl rfl ?_
      refine w_sipush (pc' := 173) (x := (7776 : Int32)) C at_170 rfl rfl ?_
      refine wA_iastore (pc' := 174) C at_173 rfl g_a16 O_a16 (by decide) (Nat.le_of_ble_eq_true rfl) (fun h23 W23 A23 => ?_)
      have O_a16 : Ar Z h23 a16 .int [.int (7770 : Int32), .int (7771 : Int32), .int (7772 : Int32), .int (7773 : Int32), .int (7774 : Int32), .int (7775 : Int32), .int (7776 : Int32), .int (0 : Int32)] := A23
      have O_a13 := O_a13.other W23 ne_a13_a16
      have O_c15 := O_c15.other W23 ne_c15_a16
      have hz : n0 ≤ h23.size := by rw [W23.size]; exact hz
      have hk := hk.wr W23 (Or.inr fr_a16)
      refine w_aload (pc' := 176) C at_174 rfl rfl rfl ?_
      refine w_bipush (pc' := 178) (x := (7 : Int32)) C at_176 rfl rfl ?_
      refine w_sipush (pc' := 181) (x := (7777 : Int32)) C at_178 rfl rfl ?_
      refine wA_iastore (pc' := 182) C at_181 rfl g_a16 O_a16 (by decide) (Nat.le_of_ble_eq_true rfl) (fun h24 W24 A24 => ?_)
      have O_a16 : Ar Z h24 a16 .int [.int (7770 : Int32), .int (7771 : Int32), .int (7772 : Int32), .int (7773 : Int32), .int (7774 : Int32), .int (7775 : Int32), .int (7776 : Int32), .int (7777 : Int32)] := A24
      have O_a13 := O_a13.other W24 ne_a13_a16
      have O_c15 := O_c15.other W24 ne_c15_a16
      have hz : n0 ≤ h24.size := by rw [W24.size]; exact hz
      have hk := hk.wr W24 (Or.inr fr_a16)
      refine w_aload (pc' := 184) C at_182 rfl rfl rfl ?_
      refine w_aload (pc' := 186) C at_184 rfl rfl rfl ?_
      refine w_iload (pc' := 188) C at_186 rfl rfl ?_
      have O_a16 : Ar Z h24 a16 .int (us8.map Value.int) := O_a16
      refine w_callV (Cl := "com/example/gatewright/gatewright/NearestStatements") (pc' := 191) (argsL := [.ref a16, .int (Int32.ofNat s0)]) (st := []) (W := 0) (ce' := 4) (sl' := 43) C (tw hw 28 rfl) (tw hw 29 rfl) (tw hw 31 rfl) (tw hw 30 rfl) (tw hw 2 rfl) (tw hw 32 rfl) (by decide) at_188 rfl rfl (by decide) (by decide) (Nat.le_of_eq rfl) rfl rfl (by decide) (by decide) rfl (lenOf pd_5 rfl) O_a13.1 (ct_rights hw h24 n0 a13 a16 s0 c15 N15 sh15 T15 us8 hz I15 hs0 (Nat.le_trans le15 (by decide)) rfl O_a13 O_c15 O_a16 g_a16 ne_a13_a16 ne_a13_c15 ne_c15_a16) (k1 (fun h25 q25 => ?_))
      obtain ⟨R25, K25⟩ := q25
      have O_a13 := O_a13.keep K25 (ninS ne_a13_a16 nin0)
      have O_c15 := O_c15.keep K25 (ninS ne_c15_a16 nin0)
      have hz : n0 ≤ h25.size := Nat.le_trans hz K25.1
      have hk := Keep.app hk K25 (fun x hx => Or.inl hx) (allS (Or.inr fr_a16) all0)
      obtain ⟨us, eus⟩ : ∃ us, us = wr us8 s0 (rts T15) := ⟨_, rfl⟩
      have O_a16 : Ar Z h25 a16 .int (us.map Value.int) := by rw [eus]; exact R25
      have ul : us.length = 8 := by rw [eus, wr_len]; rfl
      obtain ⟨rr, er⟩ : ∃ rr, Int32.ofNat (s0 + (rts T15).length) = rr := ⟨_, rfl⟩
      refine w_eqI er ?_
      refine w_istore (pc' := 193) (Ls' := #[.val (.int x0), .val (.int x1), .val (.int x2), .val (.int x3), .val (.int x4), .val (.int x5), .val (.int (1 : Int32)), .val (.int (Int32.ofNat s0)), .val (.ref a13), .val (.ref a16), .val (.int rr), .unset, .unset, .unset, .unset]) C at_191 rfl rfl ?_
      have K463 : law1 x0 x1 x2 x3 x4 x5 us s0 rr = law1_463 x0 x1 x2 x3 x4 x5 us s0 rr → Wp p l e room_1 s m #[.int x0, .int x1, .int x2, .int x3, .int x4, .int x5] below meth c n0 room_1.cells room_1.slots (fun v h => v = some (.int 1)) h25 4 43 (mkF m 463 #[.val (.int x0), .val (.int x1), .val (.int x2), .val (.int x3), .val (.int x4), .val (.int x5), .val (.int (1 : Int32)), .val (.int (Int32.ofNat s0)), .val (.ref a13), .val (.ref a16), .val (.int rr), .val (.int (1 : Int32)), .val (.int (0 : Int32)), .val (.int (0 : Int32)), .val (.int (1 : Int32))] []) := by
        intro hr
        change _ = (0 : Int32) at hr
        refine w_iconst (pc' := 464) (x := (0 : Int32)) C at_463 rfl rfl ?_
        refine w_retN' (t := .boolean) (z' := (0 : Int32)) C rfl (by simp) at_464 (by decide) (by decide) narB0 ?_
        exact congrArg (fun z => some (Value.int z)) (hr.symm.trans (ONE1 x1 x2 x3 hs0 Pm15 eus er.symm))
      have K353 : law1 x0 x1 x2 x3 x4 x5 us s0 rr = law1_353 x0 x1 x2 x3 x4 x5 us s0 rr → Wp p l e room_1 s m #[.int x0, .int x1, .int x2, .int x3, .int x4, .int x5] below meth c n0 room_1.cells room_1.slots (fun v h => v = some (.int 1)) h25 4 43 (mkF m 353 #[.val (.int x0), .val (.int x1), .val (.int x2), .val (.int x3), .val (.int x4), .val (.int x5), .val (.int (1 : Int32)), .val (.int (Int32.ofNat s0)), .val (.ref a13), .val (.ref a16), .val (.int rr), .val (.int (1 : Int32)), .val (.int (0 : Int32)), .val (.int (0 : Int32)), .val (.int (1 : Int32))] []) := by
        intro hr
        change _ = (if (kept (Int32.ofNat s0) (1 : Int32) (0 : Int32) us) = 0 then (law1_463 x0 x1 x2 x3 x4 x5 us s0 rr) else (if (kept (Int32.ofNat s0) (1 : Int32) (1 : Int32) us) = 0 then (law1_463 x0 x1 x2 x3 x4 x5 us s0 rr) else (if (kept (Int32.ofNat s0) (1 : Int32) (2 : Int32) us) = 0 then (law1_463 x0 x1 x2 x3 x4 x5 us s0 rr) else (if (kept (Int32.ofNat s0) (1 : Int32) (3 : Int32) us) = 0 then (law1_463 x0 x1 x2 x3 x4 x5 us s0 rr) else (if (kept (Int32.ofNat s0) (1 : Int32) (4 : Int32) us) = 0 then (law1_463 x0 x1 x2 x3 x4 x5 us s0 rr) else (if (kept (Int32.ofNat s0) (1 : Int32) (5 : Int32) us) = 0 then (law1_463 x0 x1 x2 x3 x4 x5 us s0 rr) else (if (kept (Int32.ofNat s0) (1 : Int32) (6 : Int32) us) = 0 then (law1_463 x0 x1 x2 x3 x4 x5 us s0 rr) else (if (kept (Int32.ofNat s0) (1 : Int32) (7 : Int32) us) = 0 then (law1_463 x0 x1 x2 x3 x4 x5 us s0 rr) else (1 : Int32))))))))) at hr
        refine w_aload (pc' := 355) C at_353 rfl rfl rfl ?_
        refine w_iload (pc' := 357) C at_355 rfl rfl ?_
        refine w_iload (pc' := 359) C at_357 rfl rfl ?_
        refine w_iconst (pc' := 360) (x := (0 : Int32)) C at_359 rfl rfl ?_
        refine w_callS (pc' := 363) (argsL := [.ref a16, .int (Int32.ofNat s0), .int (1 : Int32), .int (0 : Int32)]) (st := []) (W := 0) (ce' := 4) (sl' := 43) C (tw hw 33 rfl) (tw hw 34 rfl) (tw hw 35 rfl) (tw hw 36 rfl) (by decide) at_360 rfl rfl (by decide) (by decide) (Nat.le_of_eq rfl) rfl rfl (by decide) (by decide) rfl (lenOf pd_6 rfl) (ct_kept hw h25 n0 a16 (Int32.ofNat s0) (1 : Int32) (0 : Int32) us ul (by decide) O_a16) (kp ?_)
        refine w_if_eq (pcT := 463) (pcF := 366) C at_363 (by decide) (by decide) rfl (fun q363 => ?_) (fun q363 => ?_)
        · have hr := hr.trans (if_pos q363)
          exact K463 hr
        · have hr := hr.trans (if_neg q363)
          refine w_aload (pc' := 368) C at_366 rfl rfl rfl ?_
          refine w_iload (pc' := 370) C at_368 rfl rfl ?_
          refine w_iload (pc' := 372) C at_370 rfl rfl ?_
          refine w_iconst (pc' := 373) (x := (1 : Int32)) C at_372 rfl rfl ?_
          refine w_callS (pc' := 376) (argsL := [.ref a16, .int (Int32.ofNat s0), .int (1 : Int32), .int (1 : Int32)]) (st := []) (W := 0) (ce' := 4) (sl' := 43) C (tw hw 33 rfl) (tw hw 34 rfl) (tw hw 35 rfl) (tw hw 36 rfl) (by decide) at_373 rfl rfl (by decide) (by decide) (Nat.le_of_eq rfl) rfl rfl (by decide) (by decide) rfl (lenOf pd_6 rfl) (ct_kept hw h25 n0 a16 (Int32.ofNat s0) (1 : Int32) (1 : Int32) us ul (by decide) O_a16) (kp ?_)
          refine w_if_eq (pcT := 463) (pcF := 379) C at_376 (by decide) (by decide) rfl (fun q376 => ?_) (fun q376 => ?_)
          · have hr := hr.trans (if_pos q376)
            exact K463 hr
          · have hr := hr.trans (if_neg q376)
            refine w_aload (pc' := 381) C at_379 rfl rfl rfl ?_
            refine w_iload (pc' := 383) C at_381 rfl rfl ?_
            refine w_iload (pc' := 385) C at_383 rfl rfl ?_
            refine w_iconst (pc' := 386) (x := (2 : Int32)) C at_385 rfl rfl ?_
            refine w_callS (pc' := 389) (argsL := [.ref a16, .int (Int32.ofNat s0), .int (1 : Int32), .int (2 : Int32)]) (st := []) (W := 0) (ce' := 4) (sl' := 43) C (tw hw 33 rfl) (tw hw 34 rfl) (tw hw 35 rfl) (tw hw 36 rfl) (by decide) at_386 rfl rfl (by decide) (by decide) (Nat.le_of_eq rfl) rfl rfl (by decide) (by decide) rfl (lenOf pd_6 rfl) (ct_kept hw h25 n0 a16 (Int32.ofNat s0) (1 : Int32) (2 : Int32) us ul (by decide) O_a16) (kp ?_)
            refine w_if_eq (pcT := 463) (pcF := 392) C at_389 (by decide) (by decide) rfl (fun q389 => ?_) (fun q389 => ?_)
            · have hr := hr.trans (if_pos q389)
              exact K463 hr
            · have hr := hr.trans (if_neg q389)
              refine w_aload (pc' := 394) C at_392 rfl rfl rfl ?_
              refine w_iload (pc' := 396) C at_394 rfl rfl ?_
              refine w_iload (pc' := 398) C at_396 rfl rfl ?_
              refine w_iconst (pc' := 399) (x := (3 : Int32)) C at_398 rfl rfl ?_
              refine w_callS (pc' := 402) (argsL := [.ref a16, .int (Int32.ofNat s0), .int (1 : Int32), .int (3 : Int32)]) (st := []) (W := 0) (ce' := 4) (sl' := 43) C (tw hw 33 rfl) (tw hw 34 rfl) (tw hw 35 rfl) (tw hw 36 rfl) (by decide) at_399 rfl rfl (by decide) (by decide) (Nat.le_of_eq rfl) rfl rfl (by decide) (by decide) rfl (lenOf pd_6 rfl) (ct_kept hw h25 n0 a16 (Int32.ofNat s0) (1 : Int32) (3 : Int32) us ul (by decide) O_a16) (kp ?_)
              refine w_if_eq (pcT := 463) (pcF := 405) C at_402 (by decide) (by decide) rfl (fun q402 => ?_) (fun q402 => ?_)
              · have hr := hr.trans (if_pos q402)
                exact K463 hr
              · have hr := hr.trans (if_neg q402)
                refine w_aload (pc' := 407) C at_405 rfl rfl rfl ?_
                refine w_iload (pc' := 409) C at_407 rfl rfl ?_
                refine w_iload (pc' := 411) C at_409 rfl rfl ?_
                refine w_iconst (pc' := 412) (x := (4 : Int32)) C at_411 rfl rfl ?_
                refine w_callS (pc' := 415) (argsL := [.ref a16, .int (Int32.ofNat s0), .int (1 : Int32), .int (4 : Int32)]) (st := []) (W := 0) (ce' := 4) (sl' := 43) C (tw hw 33 rfl) (tw hw 34 rfl) (tw hw 35 rfl) (tw hw 36 rfl) (by decide) at_412 rfl rfl (by decide) (by decide) (Nat.le_of_eq rfl) rfl rfl (by decide) (by decide) rfl (lenOf pd_6 rfl) (ct_kept hw h25 n0 a16 (Int32.ofNat s0) (1 : Int32) (4 : Int32) us ul (by decide) O_a16) (kp ?_)
                refine w_if_eq (pcT := 463) (pcF := 418) C at_415 (by decide) (by decide) rfl (fun q415 => ?_) (fun q415 => ?_)
                · have hr := hr.trans (if_pos q415)
                  exact K463 hr
                · have hr := hr.trans (if_neg q415)
                  refine w_aload (pc' := 420) C at_418 rfl rfl rfl ?_
                  refine w_iload (pc' := 422) C at_420 rfl rfl ?_
                  refine w_iload (pc' := 424) C at_422 rfl rfl ?_
                  refine w_iconst (pc' := 425) (x := (5 : Int32)) C at_424 rfl rfl ?_
                  refine w_callS (pc' := 428) (argsL := [.ref a16, .int (Int32.ofNat s0), .int (1 : Int32), .int (5 : Int32)]) (st := []) (W := 0) (ce' := 4) (sl' := 43) C (tw hw 33 rfl) (tw hw 34 rfl) (tw hw 35 rfl) (tw hw 36 rfl) (by decide) at_425 rfl rfl (by decide) (by decide) (Nat.le_of_eq rfl) rfl rfl (by decide) (by decide) rfl (lenOf pd_6 rfl) (ct_kept hw h25 n0 a16 (Int32.ofNat s0) (1 : Int32) (5 : Int32) us ul (by decide) O_a16) (kp ?_)
                  refine w_if_eq (pcT := 463) (pcF := 431) C at_428 (by decide) (by decide) rfl (fun q428 => ?_) (fun q428 => ?_)
                  · have hr := hr.trans (if_pos q428)
                    exact K463 hr
                  · have hr := hr.trans (if_neg q428)
                    refine w_aload (pc' := 433) C at_431 rfl rfl rfl ?_
                    refine w_iload (pc' := 435) C at_433 rfl rfl ?_
                    refine w_iload (pc' := 437) C at_435 rfl rfl ?_
                    refine w_bipush (pc' := 439) (x := (6 : Int32)) C at_437 rfl rfl ?_
                    refine w_callS (pc' := 442) (argsL := [.ref a16, .int (Int32.ofNat s0), .int (1 : Int32), .int (6 : Int32)]) (st := []) (W := 0) (ce' := 4) (sl' := 43) C (tw hw 33 rfl) (tw hw 34 rfl) (tw hw 35 rfl) (tw hw 36 rfl) (by decide) at_439 rfl rfl (by decide) (by decide) (Nat.le_of_eq rfl) rfl rfl (by decide) (by decide) rfl (lenOf pd_6 rfl) (ct_kept hw h25 n0 a16 (Int32.ofNat s0) (1 : Int32) (6 : Int32) us ul (by decide) O_a16) (kp ?_)
                    refine w_if_eq (pcT := 463) (pcF := 445) C at_442 (by decide) (by decide) rfl (fun q442 => ?_) (fun q442 => ?_)
                    · have hr := hr.trans (if_pos q442)
                      exact K463 hr
                    · have hr := hr.trans (if_neg q442)
                      refine w_aload (pc' := 447) C at_445 rfl rfl rfl ?_
                      refine w_iload (pc' := 449) C at_447 rfl rfl ?_
                      refine w_iload (pc' := 451) C at_449 rfl rfl ?_
                      refine w_bipush (pc' := 453) (x := (7 : Int32)) C at_451 rfl rfl ?_
                      refine w_callS (pc' := 456) (argsL := [.ref a16, .int (Int32.ofNat s0), .int (1 : Int32), .int (7 : Int32)]) (st := []) (W := 0) (ce' := 4) (sl' := 43) C (tw hw 33 rfl) (tw hw 34 rfl) (tw hw 35 rfl) (tw hw 36 rfl) (by decide) at_453 rfl rfl (by decide) (by decide) (Nat.le_of_eq rfl) rfl rfl (by decide) (by decide) rfl (lenOf pd_6 rfl) (ct_kept hw h25 n0 a16 (Int32.ofNat s0) (1 : Int32) (7 : Int32) us ul (by decide) O_a16) (kp ?_)
                      refine w_if_eq (pcT := 463) (pcF := 459) C at_456 (by decide) (by decide) rfl (fun q456 => ?_) (fun q456 => ?_)
                      · have hr := hr.trans (if_pos q456)
                        exact K463 hr
                      · have hr := hr.trans (if_neg q456)
                        refine w_iconst (pc' := 460) (x := (1 : Int32)) C at_459 rfl rfl ?_
                        refine w_goto (pc' := 464) C at_460 (by decide) (by decide) ?_
                        refine w_retN' (t := .boolean) (z' := (1 : Int32)) C rfl (by simp) at_464 (by decide) (by decide) narB1 ?_
                        exact congrArg (fun z => some (Value.int z)) (hr.symm.trans (ONE1 x1 x2 x3 hs0 Pm15 eus er.symm))
      have K333 : law1 x0 x1 x2 x3 x4 x5 us s0 rr = law1_333 x0 x1 x2 x3 x4 x5 us s0 rr → Wp p l e room_1 s m #[.int x0, .int x1, .int x2, .int x3, .int x4, .int x5] below meth c n0 room_1.cells room_1.slots (fun v h => v = some (.int 1)) h25 4 43 (mkF m 333 #[.val (.int x0), .val (.int x1), .val (.int x2), .val (.int x3), .val (.int x4), .val (.int x5), .val (.int (1 : Int32)), .val (.int (Int32.ofNat s0)), .val (.ref a13), .val (.ref a16), .val (.int rr), .val (.int (1 : Int32)), .val (.int (0 : Int32)), .val (.int (0 : Int32)), .val (.int (1 : Int32))] []) := by
        intro hr
        change _ = (law1_353 x0 x1 x2 x3 x4 x5 us s0 rr) at hr
        refine w_iload (pc' := 335) C at_333 rfl rfl ?_
        refine w_if_eq (pcT := 353) (pcF := 338) C at_335 (by decide) (by decide) rfl (fun q335 => ?_) (fun q => absurd q (by decide))
        exact K353 hr
      have K313 : law1 x0 x1 x2 x3 x4 x5 us s0 rr = law1_313 x0 x1 x2 x3 x4 x5 us s0 rr → Wp p l e room_1 s m #[.int x0, .int x1, .int x2, .int x3, .int x4, .int x5] below meth c n0 room_1.cells room_1.slots (fun v h => v = some (.int 1)) h25 4 43 (mkF m 313 #[.val (.int x0), .val (.int x1), .val (.int x2), .val (.int x3), .val (.int x4), .val (.int x5), .val (.int (1 : Int32)), .val (.int (Int32.ofNat s0)), .val (.ref a13), .val (.ref a16), .val (.int rr), .val (.int (1 : Int32)), .val (.int (0 : Int32)), .val (.int (0 : Int32)), .val (.int (1 : Int32))] []) := by
        intro hr
        change _ = (law1_333 x0 x1 x2 x3 x4 x5 us s0 rr) at hr
        refine w_iload (pc' := 315) C at_313 rfl rfl ?_
        refine w_if_eq (pcT := 333) (pcF := 318) C at_315 (by decide) (by decide) rfl (fun q315 => ?_) (fun q => absurd q (by decide))
        exact K333 hr
      have K278 : law1 x0 x1 x2 x3 x4 x5 us s0 rr = law1_278 x0 x1 x2 x3 x4 x5 us s0 rr → Wp p l e room_1 s m #[.int x0, .int x1, .int x2, .int x3, .int x4, .int x5] below meth c n0 room_1.cells room_1.slots (fun v h => v = some (.int 1)) h25 4 43 (mkF m 278 #[.val (.int x0), .val (.int x1), .val (.int x2), .val (.int x3), .val (.int x4), .val (.int x5), .val (.int (1 : Int32)), .val (.int (Int32.ofNat s0)), .val (.ref a13), .val (.ref a16), .val (.int rr), .val (.int (1 : Int32)), .val (.int (0 : Int32)), .val (.int (0 : Int32)), .unset] [.int (0 : Int32), .int (1 : Int32)]) := by
        intro hr
        change _ = (if rr = ((Int32.ofNat s0) + (1 : Int32)) then (if (among (Int32.ofNat s0) (1 : Int32) x1 us) = 0 then (0 : Int32) else (law1_313 x0 x1 x2 x3 x4 x5 us s0 rr)) else (0 : Int32)) at hr
        refine w_iadd (pc' := 279) C at_278 rfl ?_
        refine w_eqI (z := (1 : Int32)) (by decide) ?_
        refine w_istore (pc' := 281) (Ls' := #[.val (.int x0), .val (.int x1), .val (.int x2), .val (.int x3), .val (.int x4), .val (.int x5), .val (.int (1 : Int32)), .val (.int (Int32.ofNat s0)), .val (.ref a13), .val (.ref a16), .val (.int rr), .val (.int (1 : Int32)), .val (.int (0 : Int32)), .val (.int (0 : Int32)), .val (.int (1 : Int32))]) C at_279 rfl rfl ?_
        refine w_iload (pc' := 283) C at_281 rfl rfl ?_
        refine w_iload (pc' := 285) C at_283 rfl rfl ?_
        refine w_iload (pc' := 287) C at_285 rfl rfl ?_
        refine w_iadd (pc' := 288) C at_287 rfl ?_
        refine w_icmp_eq (pcT := 293) (pcF := 291) C at_288 (by decide) (by decide) rfl (fun q288 => ?_) (fun q288 => ?_)
        · have hr := hr.trans (if_pos q288)
          refine w_iload (pc' := 295) C at_293 rfl rfl ?_
          refine w_if_eq (pcT := 313) (pcF := 298) C at_295 (by decide) (by decide) rfl (fun q => absurd q (by decide)) (fun q295 => ?_)
          refine w_aload (pc' := 300) C at_298 rfl rfl rfl ?_
          refine w_iload (pc' := 302) C at_300 rfl rfl ?_
          refine w_iload (pc' := 304) C at_302 rfl rfl ?_
          refine w_iloadN (pc' := 305) C at_304 rfl rfl ?_
          refine w_callS (pc' := 308) (argsL := [.ref a16, .int (Int32.ofNat s0), .int (1 : Int32), .int x1]) (st := []) (W := 0) (ce' := 4) (sl' := 43) C (tw hw 50 rfl) (tw hw 51 rfl) (tw hw 35 rfl) (tw hw 52 rfl) (by decide) at_305 rfl rfl (by decide) (by decide) (Nat.le_of_eq rfl) rfl rfl (by decide) (by decide) rfl (lenOf pd_6 rfl) (ct_among hw h25 n0 a16 (Int32.ofNat s0) (1 : Int32) x1 us ul (s0_r hs0) O_a16) (kp ?_)
          refine w_if_ne (pcT := 313) (pcF := 311) C at_308 (by decide) (by decide) rfl (fun q308 => ?_) (fun q308 => ?_)
          · have hr := hr.trans (if_neg q308)
            exact K313 hr
          · have hr := hr.trans (if_pos q308)
            refine w_iconst (pc' := 312) (x := (0 : Int32)) C at_311 rfl rfl ?_
            refine w_retN' (t := .boolean) (z' := (0 : Int32)) C rfl (by simp) at_312 (by decide) (by decide) narB0 ?_
            exact congrArg (fun z => some (Value.int z)) (hr.symm.trans (ONE1 x1 x2 x3 hs0 Pm15 eus er.symm))
        · have hr := hr.trans (if_neg q288)
          refine w_iconst (pc' := 292) (x := (0 : Int32)) C at_291 rfl rfl ?_
          refine w_retN' (t := .boolean) (z' := (0 : Int32)) C rfl (by simp) at_292 (by decide) (by decide) narB0 ?_
          exact congrArg (fun z => some (Value.int z)) (hr.symm.trans (ONE1 x1 x2 x3 hs0 Pm15 eus er.symm))
      have K267 : law1 x0 x1 x2 x3 x4 x5 us s0 rr = law1_267 x0 x1 x2 x3 x4 x5 us s0 rr → Wp p l e room_1 s m #[.int x0, .int x1, .int x2, .int x3, .int x4, .int x5] below meth c n0 room_1.cells room_1.slots (fun v h => v = some (.int 1)) h25 4 43 (mkF m 267 #[.val (.int x0), .val (.int x1), .val (.int x2), .val (.int x3), .val (.int x4), .val (.int x5), .val (.int (1 : Int32)), .val (.int (Int32.ofNat s0)), .val (.ref a13), .val (.ref a16), .val (.int rr), .val (.int (1 : Int32)), .val (.int (0 : Int32)), .val (.int (0 : Int32)), .unset] [.int (0 : Int32), .int (1 : Int32)]) := by
        intro hr
        change _ = (law1_278 x0 x1 x2 x3 x4 x5 us s0 rr) at hr
        refine w_iadd (pc' := 268) C at_267 rfl ?_
        refine w_eqI (z := (1 : Int32)) (by decide) ?_
        refine w_iload (pc' := 270) C at_268 rfl rfl ?_
        refine w_if_eq (pcT := 277) (pcF := 273) C at_270 (by decide) (by decide) rfl (fun q270 => ?_) (fun q => absurd q (by decide))
        refine w_iconst (pc' := 278) (x := (0 : Int32)) C at_277 rfl rfl ?_
        exact K278 hr
      have K257 : law1 x0 x1 x2 x3 x4 x5 us s0 rr = law1_257 x0 x1 x2 x3 x4 x5 us s0 rr → Wp p l e room_1 s m #[.int x0, .int x1, .int x2, .int x3, .int x4, .int x5] below meth c n0 room_1.cells room_1.slots (fun v h => v = some (.int 1)) h25 4 43 (mkF m 257 #[.val (.int x0), .val (.int x1), .val (.int x2), .val (.int x3), .val (.int x4), .val (.int x5), .val (.int (1 : Int32)), .val (.int (Int32.ofNat s0)), .val (.ref a13), .val (.ref a16), .val (.int rr), .val (.int (1 : Int32)), .val (.int (0 : Int32)), .val (.int (0 : Int32)), .unset] [.int (1 : Int32)]) := by
        intro hr
        change _ = (law1_267 x0 x1 x2 x3 x4 x5 us s0 rr) at hr
        refine w_iload (pc' := 259) C at_257 rfl rfl ?_
        refine w_if_eq (pcT := 266) (pcF := 262) C at_259 (by decide) (by decide) rfl (fun q259 => ?_) (fun q => absurd q (by decide))
        refine w_iconst (pc' := 267) (x := (0 : Int32)) C at_266 rfl rfl ?_
        exact K267 hr
      have K245 : law1 x0 x1 x2 x3 x4 x5 us s0 rr = law1_245 x0 x1 x2 x3 x4 x5 us s0 rr → Wp p l e room_1 s m #[.int x0, .int x1, .int x2, .int x3, .int x4, .int x5] below meth c n0 room_1.cells room_1.slots (fun v h => v = some (.int 1)) h25 4 43 (mkF m 245 #[.val (.int x0), .val (.int x1), .val (.int x2), .val (.int x3), .val (.int x4), .val (.int x5), .val (.int (1 : Int32)), .val (.int (Int32.ofNat s0)), .val (.ref a13), .val (.ref a16), .val (.int rr), .val (.int (1 : Int32)), .val (.int (0 : Int32)), .unset, .unset] [.int (0 : Int32)]) := by
        intro hr
        change _ = (law1_257 x0 x1 x2 x3 x4 x5 us s0 rr) at hr
        refine w_istore (pc' := 247) (Ls' := #[.val (.int x0), .val (.int x1), .val (.int x2), .val (.int x3), .val (.int x4), .val (.int x5), .val (.int (1 : Int32)), .val (.int (Int32.ofNat s0)), .val (.ref a13), .val (.ref a16), .val (.int rr), .val (.int (1 : Int32)), .val (.int (0 : Int32)), .val (.int (0 : Int32)), .unset]) C at_245 rfl rfl ?_
        refine w_iload (pc' := 249) C at_247 rfl rfl ?_
        refine w_if_eq (pcT := 256) (pcF := 252) C at_249 (by decide) (by decide) rfl (fun q => absurd q (by decide)) (fun q249 => ?_)
        refine w_iconst (pc' := 253) (x := (1 : Int32)) C at_252 rfl rfl ?_
        refine w_goto (pc' := 257) C at_253 (by decide) (by decide) ?_
        exact K257 hr
      have K244 : law1 x0 x1 x2 x3 x4 x5 us s0 rr = law1_244 x0 x1 x2 x3 x4 x5 us s0 rr → Wp p l e room_1 s m #[.int x0, .int x1, .int x2, .int x3, .int x4, .int x5] below meth c n0 room_1.cells room_1.slots (fun v h => v = some (.int 1)) h25 4 43 (mkF m 244 #[.val (.int x0), .val (.int x1), .val (.int x2), .val (.int x3), .val (.int x4), .val (.int x5), .val (.int (1 : Int32)), .val (.int (Int32.ofNat s0)), .val (.ref a13), .val (.ref a16), .val (.int rr), .val (.int (1 : Int32)), .val (.int (0 : Int32)), .unset, .unset] []) := by
        intro hr
        change _ = (law1_245 x0 x1 x2 x3 x4 x5 us s0 rr) at hr
        refine w_iconst (pc' := 245) (x := (0 : Int32)) C at_244 rfl rfl ?_
        exact K245 hr
      have K222 : law1 x0 x1 x2 x3 x4 x5 us s0 rr = law1_222 x0 x1 x2 x3 x4 x5 us s0 rr → Wp p l e room_1 s m #[.int x0, .int x1, .int x2, .int x3, .int x4, .int x5] below meth c n0 room_1.cells room_1.slots (fun v h => v = some (.int 1)) h25 4 43 (mkF m 222 #[.val (.int x0), .val (.int x1), .val (.int x2), .val (.int x3), .val (.int x4), .val (.int x5), .val (.int (1 : Int32)), .val (.int (Int32.ofNat s0)), .val (.ref a13), .val (.ref a16), .val (.int rr), .val (.int (1 : Int32)), .unset, .unset, .unset] [.int (0 : Int32)]) := by
        intro hr
        change _ = (law1_244 x0 x1 x2 x3 x4 x5 us s0 rr) at hr
        refine w_istore (pc' := 224) (Ls' := #[.val (.int x0), .val (.int x1), .val (.int x2), .val (.int x3), .val (.int x4), .val (.int x5), .val (.int (1 : Int32)), .val (.int (Int32.ofNat s0)), .val (.ref a13), .val (.ref a16), .val (.int rr), .val (.int (1 : Int32)), .val (.int (0 : Int32)), .unset, .unset]) C at_222 rfl rfl ?_
        refine w_iload (pc' := 226) C at_224 rfl rfl ?_
        refine w_iconst (pc' := 227) (x := (3 : Int32)) C at_226 rfl rfl ?_
        refine w_icmp_lt (pcT := 244) (pcF := 230) C at_227 (by decide) (by decide) rfl (fun q227 => ?_) (fun q => absurd q (by decide))
        exact K244 hr
      have K221 : law1 x0 x1 x2 x3 x4 x5 us s0 rr = law1_221 x0 x1 x2 x3 x4 x5 us s0 rr → Wp p l e room_1 s m #[.int x0, .int x1, .int x2, .int x3, .int x4, .int x5] below meth c n0 room_1.cells room_1.slots (fun v h => v = some (.int 1)) h25 4 43 (mkF m 221 #[.val (.int x0), .val (.int x1), .val (.int x2), .val (.int x3), .val (.int x4), .val (.int x5), .val (.int (1 : Int32)), .val (.int (Int32.ofNat s0)), .val (.ref a13), .val (.ref a16), .val (.int rr), .val (.int (1 : Int32)), .unset, .unset, .unset] []) := by
        intro hr
        change _ = (law1_222 x0 x1 x2 x3 x4 x5 us s0 rr) at hr
        refine w_iconst (pc' := 222) (x := (0 : Int32)) C at_221 rfl rfl ?_
        exact K222 hr
      have K204 : law1 x0 x1 x2 x3 x4 x5 us s0 rr = law1_204 x0 x1 x2 x3 x4 x5 us s0 rr → Wp p l e room_1 s m #[.int x0, .int x1, .int x2, .int x3, .int x4, .int x5] below meth c n0 room_1.cells room_1.slots (fun v h => v = some (.int 1)) h25 4 43 (mkF m 204 #[.val (.int x0), .val (.int x1), .val (.int x2), .val (.int x3), .val (.int x4), .val (.int x5), .val (.int (1 : Int32)), .val (.int (Int32.ofNat s0)), .val (.ref a13), .val (.ref a16), .val (.int rr), .unset, .unset, .unset, .unset] [.int (1 : Int32)]) := by
        intro hr
        change _ = (law1_221 x0 x1 x2 x3 x4 x5 us s0 rr) at hr
        refine w_istore (pc' := 206) (Ls' := #[.val (.int x0), .val (.int x1), .val (.int x2), .val (.int x3), .val (.int x4), .val (.int x5), .val (.int (1 : Int32)), .val (.int (Int32.ofNat s0)), .val (.ref a13), .val (.ref a16), .val (.int rr), .val (.int (1 : Int32)), .unset, .unset, .unset]) C at_204 rfl rfl ?_
        refine w_iload (pc' := 208) C at_206 rfl rfl ?_
        refine w_iconst (pc' := 209) (x := (2 : Int32)) C at_208 rfl rfl ?_
        refine w_icmp_lt (pcT := 221) (pcF := 212) C at_209 (by decide) (by decide) rfl (fun q209 => ?_) (fun q => absurd q (by decide))
        exact K221 hr
      have hr : law1 x0 x1 x2 x3 x4 x5 us s0 rr = (law1_204 x0 x1 x2 x3 x4 x5 us s0 rr) := rfl
      refine w_iload (pc' := 195) C at_193 rfl rfl ?_
      refine w_iconst (pc' := 196) (x := (1 : Int32)) C at_195 rfl rfl ?_
      refine w_icmp_lt (pcT := 203) (pcF := 199) C at_196 (by decide) (by decide) rfl (fun q => absurd q (by decide)) (fun q196 => ?_)
      refine w_iconst (pc' := 200) (x := (1 : Int32)) C at_199 rfl rfl ?_
      refine w_goto (pc' := 204) C at_200 (by decide) (by decide) ?_
      exact K204 hr
  · refine w_eqI e4 ?_
    refine w_istore (pc' := 6) (Ls' := #[.val (.int x0), .val (.int x1), .val (.int x2), .val (.int x3), .val (.int x4), .val (.int x5), .val (.int (2 : Int32)), .unset, .unset, .unset, .unset, .unset, .unset, .unset, .unset]) C at_4 rfl rfl ?_
    refine w_iload (pc' := 8) C at_6 rfl rfl ?_
    refine w_iconst (pc' := 9) (x := (1 : Int32)) C at_8 rfl rfl ?_
    refine w_icmp_lt (pcT := 17) (pcF := 12) C at_9 (by decide) (by decide) rfl (fun q => absurd q (by decide)) (fun q9 => ?_)
    refine w_iloadN (pc' := 13) C at_12 rfl rfl ?_
    refine w_iconst (pc' := 14) (x := (-1 : Int32)) C at_13 rfl rfl ?_
    refine w_icmp_eq (pcT := 39) (pcF := 17) C at_14 (by decide) (by decide) rfl (fun q14_2 => ?_) (fun q14_2 => ?_)
    · skip
      refine w_iconst (pc' := 40) (x := (1 : Int32)) C at_39 rfl rfl ?_
      refine w_retN' (t := .boolean) (z' := (1 : Int32)) C rfl (by simp) at_40 (by decide) (by decide) narB1 ?_
      rfl
    · skip
      refine w_iload (pc' := 19) C at_17 rfl rfl ?_
      refine w_iconst (pc' := 20) (x := (2 : Int32)) C at_19 rfl rfl ?_
      refine w_icmp_lt (pcT := 28) (pcF := 23) C at_20 (by decide) (by decide) rfl (fun q => absurd q (by decide)) (fun q20 => ?_)
      refine w_iloadN (pc' := 24) C at_23 rfl rfl ?_
      refine w_iconst (pc' := 25) (x := (-1 : Int32)) C at_24 rfl rfl ?_
      refine w_icmp_eq (pcT := 39) (pcF := 28) C at_25 (by decide) (by decide) rfl (fun q25_3 => ?_) (fun q25_3 => ?_)
      · skip
        refine w_iconst (pc' := 40) (x := (1 : Int32)) C at_39 rfl rfl ?_
        refine w_retN' (t := .boolean) (z' := (1 : Int32)) C rfl (by simp) at_40 (by decide) (by decide) narB1 ?_
        rfl
      · skip
        refine w_iload (pc' := 30) C at_28 rfl rfl ?_
        refine w_iconst (pc' := 31) (x := (3 : Int32)) C at_30 rfl rfl ?_
        refine w_icmp_lt (pcT := 41) (pcF := 34) C at_31 (by decide) (by decide) rfl (fun q31 => ?_) (fun q => absurd q (by decide))
        refine w_iload (pc' := 43) C at_41 rfl rfl ?_
        refine w_iconst (pc' := 44) (x := (3 : Int32)) C at_43 rfl rfl ?_
        refine w_iand (pc' := 45) C at_44 rfl ?_
        obtain ⟨s0, hs0, e5⟩ := s4 x5
        refine w_eqI e5 ?_
        refine w_istore (pc' := 47) (Ls' := #[.val (.int x0), .val (.int x1), .val (.int x2), .val (.int x3), .val (.int x4), .val (.int x5), .val (.int (2 : Int32)), .val (.int (Int32.ofNat s0)), .unset, .unset, .unset, .unset, .unset, .unset, .unset]) C at_45 rfl rfl ?_
        refine w_new (pc' := 50) (ce' := 1) (sl' := 3) C (tw hw 0 rfl) (tw hw 1 rfl) (tw hw 2 rfl) at_47 rfl rfl rfl (by decide) (by decide) (fun h26 a26 e26 E26 A26 D26 => ?_)
        have g_a26 : n0 ≤ a26 := by rw [e26]; exact hz
        have fr_a26 : h0.size ≤ a26 := by rw [e26]; exact hk.1
        have hz : n0 ≤ h26.size := Nat.le_trans hz E26.1
        have hk := hk.ext E26
        have O_a26 : Obj Z h26 a26 "com/example/gatewright/gatewright/NearestStatements" [("slots", "[J", .null), ("shift", "I", .int (0 : Int32)), ("size", "I", .int (0 : Int32))] := obj_Nst hw A26 D26
        refine w_dup (pc' := 51) C at_50 rfl rfl ?_
        refine w_iloadN (pc' := 52) C at_51 rfl rfl ?_
        refine w_bipush (pc' := 54) (x := (7 : Int32)) C at_52 rfl rfl ?_
        refine w_iand (pc' := 55) C at_54 rfl ?_
        refine w_callI (pc' := 58) (argsL := [.int (x0 &&& (7 : Int32))]) (st := [.ref a26]) (W := 1) (ce' := 2) (sl' := 19) C rfl (tw hw 3 rfl) (tw hw 4 rfl) (tw hw 2 rfl) (tw hw 5 rfl) (by decide) at_55 rfl rfl (by decide) (by decide) (Nat.le_of_eq rfl) rfl rfl (by decide) (by decide) rfl (lenOf pd_1 rfl) (ct_init hw h26 n0 a26 (x0 &&& (7 : Int32)) hz (m7 _) O_a26 g_a26) (k0 (fun h27 q27 => ?_))
        obtain ⟨c27, N27, sh27, S27, P27, R27, fb_c27, K27⟩ := q27
        have g_c27 : n0 ≤ c27 := Nat.le_trans hz fb_c27
        have fr_c27 : h0.size ≤ c27 := Nat.le_trans hk.1 fb_c27
        have ne_a26_c27 : a26 ≠ c27 := Nat.ne_of_lt (Nat.lt_of_lt_of_le O_a26.lt fb_c27)
        have hz : n0 ≤ h27.size := Nat.le_trans hz K27.1
        have hk := Keep.app hk K27 (fun x hx => Or.inl hx) (allS (Or.inr fr_a26) all0)
        have O_a26 : Obj Z h27 a26 "com/example/gatewright/gatewright/NearestStatements" [("slots", "[J", .ref c27), ("shift", "I", .int sh27), ("size", "I", .int (Int32.ofNat (rts (List.replicate N27 (0 : Int64))).length))] := by rw [rts_rep]; exact P27
        have O_c27 := R27
        have G27 : Gd N27 (rts (List.replicate N27 (0 : Int64))).length := by rw [rts_rep]; exact gd0 S27
        have Pm27 : (rts (List.replicate N27 (0 : Int64))).Perm [] := by rw [rts_rep]
        refine w_astore (pc' := 60) (Ls' := #[.val (.int x0), .val (.int x1), .val (.int x2), .val (.int x3), .val (.int x4), .val (.int x5), .val (.int (2 : Int32)), .val (.int (Int32.ofNat s0)), .val (.ref a26), .unset, .unset, .unset, .unset, .unset, .unset]) C at_58 rfl rfl rfl ?_
        refine w_iload (pc' := 62) C at_60 rfl rfl ?_
        refine w_iconst (pc' := 63) (x := (1 : Int32)) C at_62 rfl rfl ?_
        refine w_icmp_lt (pcT := 80) (pcF := 66) C at_63 (by decide) (by decide) rfl (fun q => absurd q (by decide)) (fun q63 => ?_)
        refine w_aload (pc' := 68) C at_66 rfl rfl rfl ?_
        refine w_iloadN (pc' := 69) C at_68 rfl rfl ?_
        refine w_iload (pc' := 71) C at_69 rfl rfl ?_
        refine w_iconst (pc' := 72) (x := (2 : Int32)) C at_71 rfl rfl ?_
        refine w_iushr (pc' := 73) C at_72 rfl ?_
        refine w_sipush (pc' := 76) (x := (1023 : Int32)) C at_73 rfl rfl ?_
        refine w_iand (pc' := 77) C at_76 rfl ?_
        refine w_callV (Cl := "com/example/gatewright/gatewright/NearestStatements") (pc' := 80) (argsL := [.int x1, .int (((x4.toUInt32 >>> ((2 : Int32) &&& 31).toUInt32).toInt32) &&& (1023 : Int32))]) (st := []) (W := 0) (ce' := 3) (sl' := 35) C (tw hw 37 rfl) (tw hw 38 rfl) (tw hw 40 rfl) (tw hw 39 rfl) (tw hw 2 rfl) (tw hw 41 rfl) (by decide) at_77 rfl rfl (by decide) (by decide) (Nat.le_of_eq rfl) rfl rfl (by decide) (by decide) rfl (lenOf pd_3 rfl) O_a26.1 (ct_meet hw h27 n0 a26 x1 (((x4.toUInt32 >>> ((2 : Int32) &&& 31).toUInt32).toInt32) &&& (1023 : Int32)) c27 N27 sh27 (List.replicate N27 (0 : Int64)) hz (Inv.zero S27) q14_2 (r10m _) G27 O_a26 O_c27 g_a26 g_c27 ne_a26_c27) (k0 (fun h28 q28 => ?_))
        obtain ⟨c28, N28, sh28, T28, I28, Pn28, H28, P28, R28, fb_c28, K28⟩ := q28
        have g_c28 : n0 ≤ c28 := fb_c28.elim (fun q => by rw [q]; exact g_c27) (fun q => Nat.le_trans hz q)
        have fr_c28 : h0.size ≤ c28 := fb_c28.elim (fun q => by rw [q]; exact fr_c27) (fun q => Nat.le_trans hk.1 q)
        have ne_a26_c28 : a26 ≠ c28 := fb_c28.elim (fun q => by rw [q]; exact ne_a26_c27) (fun q => Nat.ne_of_lt (Nat.lt_of_lt_of_le O_a26.lt q))
        have hz : n0 ≤ h28.size := Nat.le_trans hz K28.1
        have hk := Keep.app hk K28 (fun x hx => Or.inl hx) (allS (Or.inr fr_a26) (allS (Or.inr fr_c27) all0))
        have O_a26 := P28
        have O_c28 := R28
        have Pm28 : (rts T28).Perm (adds x1 []) := Pn28.trans (adds_perm Pm27)
        have le28 : (rts T28).length ≤ 1 := by rw [Pm28.length_eq]; exact alen1 _
        have G28 := H28.gd (Nat.le_trans le28 (by decide))
        refine w_iload (pc' := 82) C at_80 rfl rfl ?_
        refine w_iconst (pc' := 83) (x := (2 : Int32)) C at_82 rfl rfl ?_
        refine w_icmp_lt (pcT := 101) (pcF := 86) C at_83 (by decide) (by decide) rfl (fun q => absurd q (by decide)) (fun q83 => ?_)
        refine w_aload (pc' := 88) C at_86 rfl rfl rfl ?_
        refine w_iloadN (pc' := 89) C at_88 rfl rfl ?_
        refine w_iload (pc' := 91) C at_89 rfl rfl ?_
        refine w_bipush (pc' := 93) (x := (12 : Int32)) C at_91 rfl rfl ?_
        refine w_iushr (pc' := 94) C at_93 rfl ?_
        refine w_sipush (pc' := 97) (x := (1023 : Int32)) C at_94 rfl rfl ?_
        refine w_iand (pc' := 98) C at_97 rfl ?_
        refine w_callV (Cl := "com/example/gatewright/gatewright/NearestStatements") (pc' := 101) (argsL := [.int x2, .int (((x4.toUInt32 >>> ((12 : Int32) &&& 31).toUInt32).toInt32) &&& (1023 : Int32))]) (st := []) (W := 0) (ce' := 4) (sl' := 51) C (tw hw 37 rfl) (tw hw 38 rfl) (tw hw 40 rfl) (tw hw 39 rfl) (tw hw 2 rfl) (tw hw 41 rfl) (by decide) at_98 rfl rfl (by decide) (by decide) (Nat.le_of_eq rfl) rfl rfl (by decide) (by decide) rfl (lenOf pd_3 rfl) O_a26.1 (ct_meet hw h28 n0 a26 x2 (((x4.toUInt32 >>> ((12 : Int32) &&& 31).toUInt32).toInt32) &&& (1023 : Int32)) c28 N28 sh28 T28 hz I28 q25_3 (r10m _) G28 O_a26 O_c28 g_a26 g_c28 ne_a26_c28) (k0 (fun h29 q29 => ?_))
        obtain ⟨c29, N29, sh29, T29, I29, Pn29, H29, P29, R29, fb_c29, K29⟩ := q29
        have g_c29 : n0 ≤ c29 := fb_c29.elim (fun q => by rw [q]; exact g_c28) (fun q => Nat.le_trans hz q)
        have fr_c29 : h0.size ≤ c29 := fb_c29.elim (fun q => by rw [q]; exact fr_c28) (fun q => Nat.le_trans hk.1 q)
        have ne_a26_c29 : a26 ≠ c29 := fb_c29.elim (fun q => by rw [q]; exact ne_a26_c28) (fun q => Nat.ne_of_lt (Nat.lt_of_lt_of_le O_a26.lt q))
        have hz : n0 ≤ h29.size := Nat.le_trans hz K29.1
        have hk := Keep.app hk K29 (fun x hx => Or.inl hx) (allS (Or.inr fr_a26) (allS (Or.inr fr_c28) all0))
        have O_a26 := P29
        have O_c29 := R29
        have Pm29 : (rts T29).Perm (adds x2 (adds x1 [])) := Pn29.trans (adds_perm Pm28)
        have le29 : (rts T29).length ≤ 2 := by rw [Pm29.length_eq]; exact alen2 _ _
        have G29 := H29.gd (Nat.le_trans le29 (by decide))
        refine w_iload (pc' := 103) C at_101 rfl rfl ?_
        refine w_iconst (pc' := 104) (x := (3 : Int32)) C at_103 rfl rfl ?_
        refine w_icmp_lt (pcT := 118) (pcF := 107) C at_104 (by decide) (by decide) rfl (fun q104 => ?_) (fun q => absurd q (by decide))
        refine w_bipush (pc' := 120) (x := (8 : Int32)) C at_118 rfl rfl ?_
        refine wA_newP (pc' := 122) (cap := 8) (ce' := 5) (sl' := 59) C (tw hw 27 rfl) at_120 rfl (by decide) (by decide) (by decide) rfl rfl (by decide) (by decide) (fun h30 a30 e30 E30 A30 => ?_)
        have g_a30 : n0 ≤ a30 := by rw [e30]; exact hz
        have fr_a30 : h0.size ≤ a30 := by rw [e30]; exact hk.1
        have ne_a26_a30 : a26 ≠ a30 := by rw [e30]; exact Nat.ne_of_lt O_a26.lt
        have ne_c29_a30 : c29 ≠ a30 := by rw [e30]; exact Nat.ne_of_lt O_c29.lt
        have O_a26 := O_a26.ext E30
        have O_c29 := O_c29.ext E30
        have hz : n0 ≤ h30.size := Nat.le_trans hz E30.1
        have hk := hk.ext E30
        have O_a30 : Ar Z h30 a30 .int [.int (0 : Int32), .int (0 : Int32), .int (0 : Int32), .int (0 : Int32), .int (0 : Int32), .int (0 : Int32), .int (0 : Int32), .int (0 : Int32)] := A30
        refine w_astore (pc' := 124) (Ls' := #[.val (.int x0), .val (.int x1), .val (.int x2), .val (.int x3), .val (.int x4), .val (.int x5), .val (.int (2 : Int32)), .val (.int (Int32.ofNat s0)), .val (.ref a26), .val (.ref a30), .unset, .unset, .unset, .unset, .unset]) C at_122 rfl rfl rfl ?_
        refine w_aload (pc' := 126) C at_124 rfl rfl rfl ?_
        refine w_iconst (pc' := 127) (x := (0 : Int32)) C at_126 rfl rfl ?_
        refine w_sipush (pc' := 130) (x := (7770 : Int32)) C at_127 rfl rfl ?_
        refine wA_iastore (pc' := 131) C at_130 rfl g_a30 O_a30 (by decide) (Nat.le_of_ble_eq_true rfl) (fun h31 W31 A31 => ?_)
        have O_a30 : Ar Z h31 a30 .int [.int (7770 : Int32), .int (0 : Int32), .int (0 : Int32), .int (0 : Int32), .int (0 : Int32), .int (0 : Int32), .int (0 : Int32), .int (0 : Int32)] := A31
        have O_a26 := O_a26.other W31 ne_a26_a30
        have O_c29 := O_c29.other W31 ne_c29_a30
        have hz : n0 ≤ h31.size := by rw [W31.size]; exact hz
        have hk := hk.wr W31 (Or.inr fr_a30)
        refine w_aload (pc' := 133) C at_131 rfl rfl rfl ?_
        refine w_iconst (pc' := 134) (x := (1 : Int32)) C at_133 rfl rfl ?_
        refine w_sipush (pc' := 137) (x := (7771 : Int32)) C at_134 rfl rfl ?_
        refine wA_iastore (pc' := 138) C at_137 rfl g_a30 O_a30 (by decide) (Nat.le_of_ble_eq_true rfl) (fun h32 W32 A32 => ?_)
        have O_a30 : Ar Z h32 a30 .int [.int (7770 : Int32), .int (7771 : Int32), .int (0 : Int32), .int (0 : Int32), .int (0 : Int32), .int (0 : Int32), .int (0 : Int32), .int (0 : Int32)] := A32
        have O_a26 := O_a26.other W32 ne_a26_a30
        have O_c29 := O_c29.other W32 ne_c29_a30
        have hz : n0 ≤ h32.size := by rw [W32.size]; exact hz
        have hk := hk.wr W32 (Or.inr fr_a30)
        refine w_aload (pc' := 140) C at_138 rfl rfl rfl ?_
        refine w_iconst (pc' := 141) (x := (2 : Int32)) C at_140 rfl rfl ?_
        refine w_sipush (pc' := 144) (x := (7772 : Int32)) C at_141 rfl rfl ?_
        refine wA_iastore (pc' := 145) C at_144 rfl g_a30 O_a30 (by decide) (Nat.le_of_ble_eq_true rfl) (fun h33 W33 A33 => ?_)
        have O_a30 : Ar Z h33 a30 .int [.int (7770 : Int32), .int (7771 : Int32), .int (7772 : Int32), .int (0 : Int32), .int (0 : Int32), .int (0 : Int32), .int (0 : Int32), .int (0 : Int32)] := A33
        have O_a26 := O_a26.other W33 ne_a26_a30
        have O_c29 := O_c29.other W33 ne_c29_a30
        have hz : n0 ≤ h33.size := by rw [W33.size]; exact hz
        have hk := hk.wr W33 (Or.inr fr_a30)
        refine w_aload (pc' := 147) C at_145 rfl rfl rfl ?_
        refine w_iconst (pc' := 148) (x := (3 : Int32)) C at_147 rfl rfl ?_
        refine w_sipush (pc' := 151) (x := (7773 : Int32)) C at_148 rfl rfl ?_
        refine wA_iastore (pc' := 152) C at_151 rfl g_a30 O_a30 (by decide) (Nat.le_of_ble_eq_true rfl) (fun h34 W34 A34 => ?_)
        have O_a30 : Ar Z h34 a30 .int [.int (7770 : Int32), .int (7771 : Int32), .int (7772 : Int32), .int (7773 : Int32), .int (0 : Int32), .int (0 : Int32), .int (0 : Int32), .int (0 : Int32)] := A34
        have O_a26 := O_a26.other W34 ne_a26_a30
        have O_c29 := O_c29.other W34 ne_c29_a30
        have hz : n0 ≤ h34.size := by rw [W34.size]; exact hz
        have hk := hk.wr W34 (Or.inr fr_a30)
        refine w_aload (pc' := 154) C at_152 rfl rfl rfl ?_
        refine w_iconst (pc' := 155) (x := (4 : Int32)) C at_154 rfl rfl ?_
        refine w_sipush (pc' := 158) (x := (7774 : Int32)) C at_155 rfl rfl ?_
        refine wA_iastore (pc' := 159) C at_158 rfl g_a30 O_a30 (by decide) (Nat.le_of_ble_eq_true rfl) (fun h35 W35 A35 => ?_)
        have O_a30 : Ar Z h35 a30 .int [.int (7770 : Int32), .int (7771 : Int32), .int (7772 : Int32), .int (7773 : Int32), .int (7774 : Int32), .int (0 : Int32), .int (0 : Int32), .int (0 : Int32)] := A35
        have O_a26 := O_a26.other W35 ne_a26_a30
        have O_c29 := O_c29.other W35 ne_c29_a30
        have hz : n0 ≤ h35.size := by rw [W35.size]; exact hz
        have hk := hk.wr W35 (Or.inr fr_a30)
        refine w_aload (pc' := 161) C at_159 rfl rfl rfl ?_
        refine w_iconst (pc' := 162) (x := (5 : Int32)) C at_161 rfl rfl ?_
        refine w_sipush (pc' := 165) (x := (7775 : Int32)) C at_162 rfl rfl ?_
        refine wA_iastore (pc' := 166) C at_165 rfl g_a30 O_a30 (by decide) (Nat.le_of_ble_eq_true rfl) (fun h36 W36 A36 => ?_)
        have O_a30 : Ar Z h36 a30 .int [.int (7770 : Int32), .int (7771 : Int32), .int (7772 : Int32), .int (7773 : Int32), .int (7774 : Int32), .int (7775 : Int32), .int (0 : Int32), .int (0 : Int32)] := A36
        have O_a26 := O_a26.other W36 ne_a26_a30
        have O_c29 := O_c29.other W36 ne_c29_a30
        have hz : n0 ≤ h36.size := by rw [W36.size]; exact hz
        have hk := hk.wr W36 (Or.inr fr_a30)
        refine w_aload (pc' := 168) C at_166 rfl rfl rfl ?_
        refine w_bipush (pc' := 170) (x := (6 : Int32)) C at_168 rfl rfl ?_
        refine w_sipush (pc' := 173) (x := (7776 : Int32)) C at_170 rfl rfl ?_
        refine wA_iastore (pc' := 174) C at_173 rfl g_a30 O_a30 (by decide) (Nat.le_of_ble_eq_true rfl) (fun h37 W37 A37 => ?_)
        have O_a30 : Ar Z h37 a30 .int [.int (7770 : Int32), .int (7771 : Int32), .int (7772 : Int32), .int (7773 : Int32), .int (7774 : Int32), .int (7775 : Int32), .int (7776 : Int32), .int (0 : Int32)] := A37
        have O_a26 := O_a26.other W37 ne_a26_a30
        have O_c29 := O_c29.other W37 ne_c29_a30
        have hz : n0 ≤ h37.size := by rw [W37.size]; exact hz
        have hk := hk.wr W37 (Or.inr fr_a30)
        refine w_aload (pc' := 176) C at_174 rfl rfl rfl ?_
        refine w_bipush (pc' := 178) (x := (7 : Int32)) C at_176 rfl rfl ?_
        refine w_sipush (pc' := 181) (x := (7777 : Int32)) C at_178 rfl rfl ?_
        refine wA_iastore (pc' := 182) C at_181 rfl g_a30 O_a30 (by decide) (Nat.le_of_ble_eq_true rfl) (fun h38 W38 A38 => ?_)
        have O_a30 : Ar Z h38 a30 .int [.int (7770 : Int32), .int (7771 : Int32), .int (7772 : Int32), .int (7773 : Int32), .int (7774 : Int32), .int (7775 : Int32), .int (7776 : Int32), .int (7777 : Int32)] := A38
        have O_a26 := O_a26.other W38 ne_a26_a30
        have O_c29 := O_c29.other W38 ne_c29_a30
        have hz : n0 ≤ h38.size := by rw [W38.size]; exact hz
        have hk := hk.wr W38 (Or.inr fr_a30)
        refine w_aload (pc' := 184) C at_182 rfl rfl rfl ?_
        refine w_aload (pc' := 186) C at_184 rfl rfl rfl ?_
        refine w_iload (pc' := 188) C at_186 rfl rfl ?_
        have O_a30 : Ar Z h38 a30 .int (us8.map Value.int) := O_a30
        refine w_callV (Cl := "com/example/gatewright/gatewright/NearestStatements") (pc' := 191) (argsL := [.ref a30, .int (Int32.ofNat s0)]) (st := []) (W := 0) (ce' := 5) (sl' := 59) C (tw hw 28 rfl) (tw hw 29 rfl) (tw hw 31 rfl) (tw hw 30 rfl) (tw hw 2 rfl) (tw hw 32 rfl) (by decide) at_188 rfl rfl (by decide) (by decide) (Nat.le_of_eq rfl) rfl rfl (by decide) (by decide) rfl (lenOf pd_5 rfl) O_a26.1 (ct_rights hw h38 n0 a26 a30 s0 c29 N29 sh29 T29 us8 hz I29 hs0 (Nat.le_trans le29 (by decide)) rfl O_a26 O_c29 O_a30 g_a30 ne_a26_a30 ne_a26_c29 ne_c29_a30) (k1 (fun h39 q39 => ?_))
        obtain ⟨R39, K39⟩ := q39
        have O_a26 := O_a26.keep K39 (ninS ne_a26_a30 nin0)
        have O_c29 := O_c29.keep K39 (ninS ne_c29_a30 nin0)
        have hz : n0 ≤ h39.size := Nat.le_trans hz K39.1
        have hk := Keep.app hk K39 (fun x hx => Or.inl hx) (allS (Or.inr fr_a30) all0)
        obtain ⟨us, eus⟩ : ∃ us, us = wr us8 s0 (rts T29) := ⟨_, rfl⟩
        have O_a30 : Ar Z h39 a30 .int (us.map Value.int) := by rw [eus]; exact R39
        have ul : us.length = 8 := by rw [eus, wr_len]; rfl
        obtain ⟨rr, er⟩ : ∃ rr, Int32.ofNat (s0 + (rts T29).length) = rr := ⟨_, rfl⟩
        refine w_eqI er ?_
        refine w_istore (pc' := 193) (Ls' := #[.val (.int x0), .val (.int x1), .val (.int x2), .val (.int x3), .val (.int x4), .val (.int x5), .val (.int (2 : Int32)), .val (.int (Int32.ofNat s0)), .val (.ref a26), .val (.ref a30), .val (.int rr), .unset, .unset, .unset, .unset]) C at_191 rfl rfl ?_
        have K463 : ∀ (t222_0 : Int32) (t267_0 : Int32), law2 x0 x1 x2 x3 x4 x5 us s0 rr = law2_463 x0 x1 x2 x3 x4 x5 us s0 rr t222_0 t267_0 → Wp p l e room_1 s m #[.int x0, .int x1, .int x2, .int x3, .int x4, .int x5] below meth c n0 room_1.cells room_1.slots (fun v h => v = some (.int 1)) h39 5 59 (mkF m 463 #[.val (.int x0), .val (.int x1), .val (.int x2), .val (.int x3), .val (.int x4), .val (.int x5), .val (.int (2 : Int32)), .val (.int (Int32.ofNat s0)), .val (.ref a26), .val (.ref a30), .val (.int rr), .val (.int (1 : Int32)), .val (.int t222_0), .val (.int (0 : Int32)), .val (.int (((1 : Int32) + t267_0) + (0 : Int32)))] []) := by
          intro t222_0 t267_0 hr
          change _ = (0 : Int32) at hr
          refine w_iconst (pc' := 464) (x := (0 : Int32)) C at_463 rfl rfl ?_
          refine w_retN' (t := .boolean) (z' := (0 : Int32)) C rfl (by simp) at_464 (by decide) (by decide) narB0 ?_
          exact congrArg (fun z => some (Value.int z)) (hr.symm.trans (ONE2 x1 x2 x3 hs0 Pm29 eus er.symm))
        have K353 : ∀ (t222_0 : Int32) (t267_0 : Int32), law2 x0 x1 x2 x3 x4 x5 us s0 rr = law2_353 x0 x1 x2 x3 x4 x5 us s0 rr t222_0 t267_0 → Wp p l e room_1 s m #[.int x0, .int x1, .int x2, .int x3, .int x4, .int x5] below meth c n0 room_1.cells room_1.slots (fun v h => v = some (.int 1)) h39 5 59 (mkF m 353 #[.val (.int x0), .val (.int x1), .val (.int x2), .val (.int x3), .val (.int x4), .val (.int x5), .val (.int (2 : Int32)), .val (.int (Int32.ofNat s0)), .val (.ref a26), .val (.ref a30), .val (.int rr), .val (.int (1 : Int32)), .val (.int t222_0), .val (.int (0 : Int32)), .val (.int (((1 : Int32) + t267_0) + (0 : Int32)))] []) := by
          intro t222_0 t267_0 hr
          change _ = (if (kept (Int32.ofNat s0) (((1 : Int32) + t267_0) + (0 : Int32)) (0 : Int32) us) = 0 then (law2_463 x0 x1 x2 x3 x4 x5 us s0 rr t222_0 t267_0) else (if (kept (Int32.ofNat s0) (((1 : Int32) + t267_0) + (0 : Int32)) (1 : Int32) us) = 0 then (law2_463 x0 x1 x2 x3 x4 x5 us s0 rr t222_0 t267_0) else (if (kept (Int32.ofNat s0) (((1 : Int32) + t267_0) + (0 : Int32)) (2 : Int32) us) = 0 then (law2_463 x0 x1 x2 x3 x4 x5 us s0 rr t222_0 t267_0) else (if (kept (Int32.ofNat s0) (((1 : Int32) + t267_0) + (0 : Int32)) (3 : Int32) us) = 0 then (law2_463 x0 x1 x2 x3 x4 x5 us s0 rr t222_0 t267_0) else (if (kept (Int32.ofNat s0) (((1 : Int32) + t267_0) + (0 : Int32)) (4 : Int32) us) = 0 then (law2_463 x0 x1 x2 x3 x4 x5 us s0 rr t222_0 t267_0) else (if (kept (Int32.ofNat s0) (((1 : Int32) + t267_0) + (0 : Int32)) (5 : Int32) us) = 0 then (law2_463 x0 x1 x2 x3 x4 x5 us s0 rr t222_0 t267_0) else (if (kept (Int32.ofNat s0) (((1 : Int32) + t267_0) + (0 : Int32)) (6 : Int32) us) = 0 then (law2_463 x0 x1 x2 x3 x4 x5 us s0 rr t222_0 t267_0) else (if (kept (Int32.ofNat s0) (((1 : Int32) + t267_0) + (0 : Int32)) (7 : Int32) us) = 0 then (law2_463 x0 x1 x2 x3 x4 x5 us s0 rr t222_0 t267_0) else (1 : Int32))))))))) at hr
          refine w_aload (pc' := 355) C at_353 rfl rfl rfl ?_
          refine w_iload (pc' := 357) C at_355 rfl rfl ?_
          refine w_iload (pc' := 359) C at_357 rfl rfl ?_
          refine w_iconst (pc' := 360) (x := (0 : Int32)) C at_359 rfl rfl ?_
          refine w_callS (pc' := 363) (argsL := [.ref a30, .int (Int32.ofNat s0), .int (((1 : Int32) + t267_0) + (0 : Int32)), .int (0 : Int32)]) (st := []) (W := 0) (ce' := 5) (sl' := 59) C (tw hw 33 rfl) (tw hw 34 rfl) (tw hw 35 rfl) (tw hw 36 rfl) (by decide) at_360 rfl rfl (by decide) (by decide) (Nat.le_of_eq rfl) rfl rfl (by decide) (by decide) rfl (lenOf pd_6 rfl) (ct_kept hw h39 n0 a30 (Int32.ofNat s0) (((1 : Int32) + t267_0) + (0 : Int32)) (0 : Int32) us ul (by decide) O_a30) (kp ?_)
          refine w_if_eq (pcT := 463) (pcF := 366) C at_363 (by decide) (by decide) rfl (fun q363 => ?_) (fun q363 => ?_)
          · have hr := hr.trans (if_pos q363)
            exact K463 t222_0 t267_0 hr
          · have hr := hr.trans (if_neg q363)
            refine w_aload (pc' := 368) C at_366 rfl rfl rfl ?_
            refine w_iload (pc' := 370) C at_368 rfl rfl ?_
            refine w_iload (pc' := 372) C at_370 rfl rfl ?_
            refine w_iconst (pc' := 373) (x := (1 : Int32)) C at_372 rfl rfl ?_
            refine w_callS (pc' := 376) (argsL := [.ref a30, .int (Int32.ofNat s0), .int (((1 : Int32) + t267_0) + (0 : Int32)), .int (1 : Int32)]) (st := []) (W := 0) (ce' := 5) (sl' := 59) C (tw hw 33 rfl) (tw hw 34 rfl) (tw hw 35 rfl) (tw hw 36 rfl) (by decide) at_373 rfl rfl (by decide) (by decide) (Nat.le_of_eq rfl) rfl rfl (by decide) (by decide) rfl (lenOf pd_6 rfl) (ct_kept hw h39 n0 a30 (Int32.ofNat s0) (((1 : Int32) + t267_0) + (0 : Int32)) (1 : Int32) us ul (by decide) O_a30) (kp ?_)
            refine w_if_eq (pcT := 463) (pcF := 379) C at_376 (by decide) (by decide) rfl (fun q376 => ?_) (fun q376 => ?_)
            · have hr := hr.trans (if_pos q376)
              exact K463 t222_0 t267_0 hr
            · have hr := hr.trans (if_neg q376)
              refine w_aload (pc' := 381) C at_379 rfl rfl rfl ?_
              refine w_iload (pc' := 383) C at_381 rfl rfl ?_
              refine w_iload (pc' := 385) C at_383 rfl rfl ?_
              refine w_iconst (pc' := 386) (x := (2 : Int32)) C at_385 rfl rfl ?_
              refine w_callS (pc' := 389) (argsL := [.ref a30, .int (Int32.ofNat s0), .int (((1 : Int32) + t267_0) + (0 : Int32)), .int (2 : Int32)]) (st := []) (W := 0) (ce' := 5) (sl' := 59) C (tw hw 33 rfl) (tw hw 34 rfl) (tw hw 35 rfl) (tw hw 36 rfl) (by decide) at_386 rfl rfl (by decide) (by decide) (Nat.le_of_eq rfl) rfl rfl (by decide) (by decide) rfl (lenOf pd_6 rfl) (ct_kept hw h39 n0 a30 (Int32.ofNat s0) (((1 : Int32) + t267_0) + (0 : Int32)) (2 : Int32) us ul (by decide) O_a30) (kp ?_)
              refine w_if_eq (pcT := 463) (pcF := 392) C at_389 (by decide) (by decide) rfl (fun q389 => ?_) (fun q389 => ?_)
              · have hr := hr.trans (if_pos q389)
                exact K463 t222_0 t267_0 hr
              · have hr := hr.trans (if_neg q389)
                refine w_aload (pc' := 394) C at_392 rfl rfl rfl ?_
                refine w_iload (pc' := 396) C at_394 rfl rfl ?_
                refine w_iload (pc' := 398) C at_396 rfl rfl ?_
                refine w_iconst (pc' := 399) (x := (3 : Int32)) C at_398 rfl rfl ?_
                refine w_callS (pc' := 402) (argsL := [.ref a30, .int (Int32.ofNat s0), .int (((1 : Int32) + t267_0) + (0 : Int32)), .int (3 : Int32)]) (st := []) (W := 0) (ce' := 5) (sl' := 59) C (tw hw 33 rfl) (tw hw 34 rfl) (tw hw 35 rfl) (tw hw 36 rfl) (by decide) at_399 rfl rfl (by decide) (by decide) (Nat.le_of_eq rfl) rfl rfl (by decide) (by decide) rfl (lenOf pd_6 rfl) (ct_kept hw h39 n0 a30 (Int32.ofNat s0) (((1 : Int32) + t267_0) + (0 : Int32)) (3 : Int32) us ul (by decide) O_a30) (kp ?_)
                refine w_if_eq (pcT := 463) (pcF := 405) C at_402 (by decide) (by decide) rfl (fun q402 => ?_) (fun q402 => ?_)
                · have hr := hr.trans (if_pos q402)
                  exact K463 t222_0 t267_0 hr
                · have hr := hr.trans (if_neg q402)
                  refine w_aload (pc' := 407) C at_405 rfl rfl rfl ?_
                  refine w_iload (pc' := 409) C at_407 rfl rfl ?_
                  refine w_iload (pc' := 411) C at_409 rfl rfl ?_
                  refine w_iconst (pc' := 412) (x := (4 : Int32)) C at_411 rfl rfl ?_
                  refine w_callS (pc' := 415) (argsL := [.ref a30, .int (Int32.ofNat s0), .int (((1 : Int32) + t267_0) + (0 : Int32)), .int (4 : Int32)]) (st := []) (W := 0) (ce' := 5) (sl' := 59) C (tw hw 33 rfl) (tw hw 34 rfl) (tw hw 35 rfl) (tw hw 36 rfl) (by decide) at_412 rfl rfl (by decide) (by decide) (Nat.le_of_eq rfl) rfl rfl (by decide) (by decide) rfl (lenOf pd_6 rfl) (ct_kept hw h39 n0 a30 (Int32.ofNat s0) (((1 : Int32) + t267_0) + (0 : Int32)) (4 : Int32) us ul (by decide) O_a30) (kp ?_)
                  refine w_if_eq (pcT := 463) (pcF := 418) C at_415 (by decide) (by decide) rfl (fun q415 => ?_) (fun q415 => ?_)
                  · have hr := hr.trans (if_pos q415)
                    exact K463 t222_0 t267_0 hr
                  · have hr := hr.trans (if_neg q415)
                    refine w_aload (pc' := 420) C at_418 rfl rfl rfl ?_
                    refine w_iload (pc' := 422) C at_420 rfl rfl ?_
                    refine w_iload (pc' := 424) C at_422 rfl rfl ?_
                    refine w_iconst (pc' := 425) (x := (5 : Int32)) C at_424 rfl rfl ?_
                    refine w_callS (pc' := 428) (argsL := [.ref a30, .int (Int32.ofNat s0), .int (((1 : Int32) + t267_0) + (0 : Int32)), .int (5 : Int32)]) (st := []) (W := 0) (ce' := 5) (sl' := 59) C (tw hw 33 rfl) (tw hw 34 rfl) (tw hw 35 rfl) (tw hw 36 rfl) (by decide) at_425 rfl rfl (by decide) (by decide) (Nat.le_of_eq rfl) rfl rfl (by decide) (by decide) rfl (lenOf pd_6 rfl) (ct_kept hw h39 n0 a30 (Int32.ofNat s0) (((1 : Int32) + t267_0) + (0 : Int32)) (5 : Int32) us ul (by decide) O_a30) (kp ?_)
                    refine w_if_eq (pcT := 463) (pcF := 431) C at_428 (by decide) (by decide) rfl (fun q428 => ?_) (fun q428 => ?_)
                    · have hr := hr.trans (if_pos q428)
                      exact K463 t222_0 t267_0 hr
                    · have hr := hr.trans (if_neg q428)
                      refine w_aload (pc' := 433) C at_431 rfl rfl rfl ?_
                      refine w_iload (pc' := 435) C at_433 rfl rfl ?_
                      refine w_iload (pc' := 437) C at_435 rfl rfl ?_
                      refine w_bipush (pc' := 439) (x := (6 : Int32)) C at_437 rfl rfl ?_
                      refine w_callS (pc' := 442) (argsL := [.ref a30, .int (Int32.ofNat s0), .int (((1 : Int32) + t267_0) + (0 : Int32)), .int (6 : Int32)]) (st := []) (W := 0) (ce' := 5) (sl' := 59) C (tw hw 33 rfl) (tw hw 34 rfl) (tw hw 35 rfl) (tw hw 36 rfl) (by decide) at_439 rfl rfl (by decide) (by decide) (Nat.le_of_eq rfl) rfl rfl (by decide) (by decide) rfl (lenOf pd_6 rfl) (ct_kept hw h39 n0 a30 (Int32.ofNat s0) (((1 : Int32) + t267_0) + (0 : Int32)) (6 : Int32) us ul (by decide) O_a30) (kp ?_)
                      refine w_if_eq (pcT := 463) (pcF := 445) C at_442 (by decide) (by decide) rfl (fun q442 => ?_) (fun q442 => ?_)
                      · have hr := hr.trans (if_pos q442)
                        exact K463 t222_0 t267_0 hr
                      · have hr := hr.trans (if_neg q442)
                        refine w_aload (pc' := 447) C at_445 rfl rfl rfl ?_
                        refine w_iload (pc' := 449) C at_447 rfl rfl ?_
                        refine w_iload (pc' := 451) C at_449 rfl rfl ?_
                        refine w_bipush (pc' := 453) (x := (7 : Int32)) C at_451 rfl rfl ?_
                        refine w_callS (pc' := 456) (argsL := [.ref a30, .int (Int32.ofNat s0), .int (((1 : Int32) + t267_0) + (0 : Int32)), .int (7 : Int32)]) (st := []) (W := 0) (ce' := 5) (sl' := 59) C (tw hw 33 rfl) (tw hw 34 rfl) (tw hw 35 rfl) (tw hw 36 rfl) (by decide) at_453 rfl rfl (by decide) (by decide) (Nat.le_of_eq rfl) rfl rfl (by decide) (by decide) rfl (lenOf pd_6 rfl) (ct_kept hw h39 n0 a30 (Int32.ofNat s0) (((1 : Int32) + t267_0) + (0 : Int32)) (7 : Int32) us ul (by decide) O_a30) (kp ?_)
                        refine w_if_eq (pcT := 463) (pcF := 459) C at_456 (by decide) (by decide) rfl (fun q456 => ?_) (fun q456 => ?_)
                        · have hr := hr.trans (if_pos q456)
                          exact K463 t222_0 t267_0 hr
                        · have hr := hr.trans (if_neg q456)
                          refine w_iconst (pc' := 460) (x := (1 : Int32)) C at_459 rfl rfl ?_
                          refine w_goto (pc' := 464) C at_460 (by decide) (by decide) ?_
                          refine w_retN' (t := .boolean) (z' := (1 : Int32)) C rfl (by simp) at_464 (by decide) (by decide) narB1 ?_
                          exact congrArg (fun z => some (Value.int z)) (hr.symm.trans (ONE2 x1 x2 x3 hs0 Pm29 eus er.symm))
        have K333 : ∀ (t222_0 : Int32) (t267_0 : Int32), law2 x0 x1 x2 x3 x4 x5 us s0 rr = law2_333 x0 x1 x2 x3 x4 x5 us s0 rr t222_0 t267_0 → Wp p l e room_1 s m #[.int x0, .int x1, .int x2, .int x3, .int x4, .int x5] below meth c n0 room_1.cells room_1.slots (fun v h => v = some (.int 1)) h39 5 59 (mkF m 333 #[.val (.int x0), .val (.int x1), .val (.int x2), .val (.int x3), .val (.int x4), .val (.int x5), .val (.int (2 : Int32)), .val (.int (Int32.ofNat s0)), .val (.ref a26), .val (.ref a30), .val (.int rr), .val (.int (1 : Int32)), .val (.int t222_0), .val (.int (0 : Int32)), .val (.int (((1 : Int32) + t267_0) + (0 : Int32)))] []) := by
          intro t222_0 t267_0 hr
          change _ = (law2_353 x0 x1 x2 x3 x4 x5 us s0 rr t222_0 t267_0) at hr
          refine w_iload (pc' := 335) C at_333 rfl rfl ?_
          refine w_if_eq (pcT := 353) (pcF := 338) C at_335 (by decide) (by decide) rfl (fun q335 => ?_) (fun q => absurd q (by decide))
          exact K353 t222_0 t267_0 hr
        have K313 : ∀ (t222_0 : Int32) (t267_0 : Int32), law2 x0 x1 x2 x3 x4 x5 us s0 rr = law2_313 x0 x1 x2 x3 x4 x5 us s0 rr t222_0 t267_0 → Wp p l e room_1 s m #[.int x0, .int x1, .int x2, .int x3, .int x4, .int x5] below meth c n0 room_1.cells room_1.slots (fun v h => v = some (.int 1)) h39 5 59 (mkF m 313 #[.val (.int x0), .val (.int x1), .val (.int x2), .val (.int x3), .val (.int x4), .val (.int x5), .val (.int (2 : Int32)), .val (.int (Int32.ofNat s0)), .val (.ref a26), .val (.ref a30), .val (.int rr), .val (.int (1 : Int32)), .val (.int t222_0), .val (.int (0 : Int32)), .val (.int (((1 : Int32) + t267_0) + (0 : Int32)))] []) := by
          intro t222_0 t267_0 hr
          change _ = (if t222_0 = 0 then (law2_333 x0 x1 x2 x3 x4 x5 us s0 rr t222_0 t267_0) else (if (among (Int32.ofNat s0) (((1 : Int32) + t267_0) + (0 : Int32)) x2 us) = 0 then (0 : Int32) else (law2_333 x0 x1 x2 x3 x4 x5 us s0 rr t222_0 t267_0))) at hr
          refine w_iload (pc' := 315) C at_313 rfl rfl ?_
          refine w_if_eq (pcT := 333) (pcF := 318) C at_315 (by decide) (by decide) rfl (fun q315 => ?_) (fun q315 => ?_)
          · have hr := hr.trans (if_pos q315)
            exact K333 t222_0 t267_0 hr
          · have hr := hr.trans (if_neg q315)
            refine w_aload (pc' := 320) C at_318 rfl rfl rfl ?_
            refine w_iload (pc' := 322) C at_320 rfl rfl ?_
            refine w_iload (pc' := 324) C at_322 rfl rfl ?_
            refine w_iloadN (pc' := 325) C at_324 rfl rfl ?_
            refine w_callS (pc' := 328) (argsL := [.ref a30, .int (Int32.ofNat s0), .int (((1 : Int32) + t267_0) + (0 : Int32)), .int x2]) (st := []) (W := 0) (ce' := 5) (sl' := 59) C (tw hw 50 rfl) (tw hw 51 rfl) (tw hw 35 rfl) (tw hw 52 rfl) (by decide) at_325 rfl rfl (by decide) (by decide) (Nat.le_of_eq rfl) rfl rfl (by decide) (by decide) rfl (lenOf pd_6 rfl) (ct_among hw h39 n0 a30 (Int32.ofNat s0) (((1 : Int32) + t267_0) + (0 : Int32)) x2 us ul (s0_r hs0) O_a30) (kp ?_)
            refine w_if_ne (pcT := 333) (pcF := 331) C at_328 (by decide) (by decide) rfl (fun q328 => ?_) (fun q328 => ?_)
            · have hr := hr.trans (if_neg q328)
              exact K333 t222_0 t267_0 hr
            · have hr := hr.trans (if_pos q328)
              refine w_iconst (pc' := 332) (x := (0 : Int32)) C at_331 rfl rfl ?_
              refine w_retN' (t := .boolean) (z' := (0 : Int32)) C rfl (by simp) at_332 (by decide) (by decide) narB0 ?_
              exact congrArg (fun z => some (Value.int z)) (hr.symm.trans (ONE2 x1 x2 x3 hs0 Pm29 eus er.symm))
        have K278 : ∀ (t222_0 : Int32) (t267_0 : Int32), law2 x0 x1 x2 x3 x4 x5 us s0 rr = law2_278 x0 x1 x2 x3 x4 x5 us s0 rr t222_0 t267_0 → Wp p l e room_1 s m #[.int x0, .int x1, .int x2, .int x3, .int x4, .int x5] below meth c n0 room_1.cells room_1.slots (fun v h => v = some (.int 1)) h39 5 59 (mkF m 278 #[.val (.int x0), .val (.int x1), .val (.int x2), .val (.int x3), .val (.int x4), .val (.int x5), .val (.int (2 : Int32)), .val (.int (Int32.ofNat s0)), .val (.ref a26), .val (.ref a30), .val (.int rr), .val (.int (1 : Int32)), .val (.int t222_0), .val (.int (0 : Int32)), .unset] [.int (0 : Int32), .int ((1 : Int32) + t267_0)]) := by
          intro t222_0 t267_0 hr
          change _ = (if rr = ((Int32.ofNat s0) + (((1 : Int32) + t267_0) + (0 : Int32))) then (if (among (Int32.ofNat s0) (((1 : Int32) + t267_0) + (0 : Int32)) x1 us) = 0 then (0 : Int32) else (law2_313 x0 x1 x2 x3 x4 x5 us s0 rr t222_0 t267_0)) else (0 : Int32)) at hr
          refine w_iadd (pc' := 279) C at_278 rfl ?_
          refine w_istore (pc' := 281) (Ls' := #[.val (.int x0), .val (.int x1), .val (.int x2), .val (.int x3), .val (.int x4), .val (.int x5), .val (.int (2 : Int32)), .val (.int (Int32.ofNat s0)), .val (.ref a26), .val (.ref a30), .val (.int rr), .val (.int (1 : Int32)), .val (.int t222_0), .val (.int (0 : Int32)), .val (.int (((1 : Int32) + t267_0) + (0 : Int32)))]) C at_279 rfl rfl ?_
          refine w_iload (pc' := 283) C at_281 rfl rfl ?_
          refine w_iload (pc' := 285) C at_283 rfl rfl ?_
          refine w_iload (pc' := 287) C at_285 rfl rfl ?_
          refine w_iadd (pc' := 288) C at_287 rfl ?_
          refine w_icmp_eq (pcT := 293) (pcF := 291) C at_288 (by decide) (by decide) rfl (fun q288 => ?_) (fun q288 => ?_)
          · have hr := hr.trans (if_pos q288)
            refine w_iload (pc' := 295) C at_293 rfl rfl ?_
            refine w_if_eq (pcT := 313) (pcF := 298) C at_295 (by decide) (by decide) rfl (fun q => absurd q (by decide)) (fun q295 => ?_)
            refine w_aload (pc' := 300) C at_298 rfl rfl rfl ?_
            refine w_iload (pc' := 302) C at_300 rfl rfl ?_
            refine w_iload (pc' := 304) C at_302 rfl rfl ?_
            refine w_iloadN (pc' := 305) C at_304 rfl rfl ?_
            refine w_callS (pc' := 308) (argsL := [.ref a30, .int (Int32.ofNat s0), .int (((1 : Int32) + t267_0) + (0 : Int32)), .int x1]) (st := []) (W := 0) (ce' := 5) (sl' := 59) C (tw hw 50 rfl) (tw hw 51 rfl) (tw hw 35 rfl) (tw hw 52 rfl) (by decide) at_305 rfl rfl (by decide) (by decide) (Nat.le_of_eq rfl) rfl rfl (by decide) (by decide) rfl (lenOf pd_6 rfl) (ct_among hw h39 n0 a30 (Int32.ofNat s0) (((1 : Int32) + t267_0) + (0 : Int32)) x1 us ul (s0_r hs0) O_a30) (kp ?_)
            refine w_if_ne (pcT := 313) (pcF := 311) C at_308 (by decide) (by decide) rfl (fun q308 => ?_) (fun q308 => ?_)
            · have hr := hr.trans (if_neg q308)
              exact K313 t222_0 t267_0 hr
            · have hr := hr.trans (if_pos q308)
              refine w_iconst (pc' := 312) (x := (0 : Int32)) C at_311 rfl rfl ?_
              refine w_retN' (t := .boolean) (z' := (0 : Int32)) C rfl (by simp) at_312 (by decide) (by decide) narB0 ?_
              exact congrArg (fun z => some (Value.int z)) (hr.symm.trans (ONE2 x1 x2 x3 hs0 Pm29 eus er.symm))
          · have hr := hr.trans (if_neg q288)
            refine w_iconst (pc' := 292) (x := (0 : Int32)) C at_291 rfl rfl ?_
            refine w_retN' (t := .boolean) (z' := (0 : Int32)) C rfl (by simp) at_292 (by decide) (by decide) narB0 ?_
            exact congrArg (fun z => some (Value.int z)) (hr.symm.trans (ONE2 x1 x2 x3 hs0 Pm29 eus er.symm))
        have K267 : ∀ (t267_0 : Int32) (t222_0 : Int32), law2 x0 x1 x2 x3 x4 x5 us s0 rr = law2_267 x0 x1 x2 x3 x4 x5 us s0 rr t267_0 t222_0 → Wp p l e room_1 s m #[.int x0, .int x1, .int x2, .int x3, .int x4, .int x5] below meth c n0 room_1.cells room_1.slots (fun v h => v = some (.int 1)) h39 5 59 (mkF m 267 #[.val (.int x0), .val (.int x1), .val (.int x2), .val (.int x3), .val (.int x4), .val (.int x5), .val (.int (2 : Int32)), .val (.int (Int32.ofNat s0)), .val (.ref a26), .val (.ref a30), .val (.int rr), .val (.int (1 : Int32)), .val (.int t222_0), .val (.int (0 : Int32)), .unset] [.int t267_0, .int (1 : Int32)]) := by
          intro t267_0 t222_0 hr
          change _ = (law2_278 x0 x1 x2 x3 x4 x5 us s0 rr t222_0 t267_0) at hr
          refine w_iadd (pc' := 268) C at_267 rfl ?_
          refine w_iload (pc' := 270) C at_268 rfl rfl ?_
          refine w_if_eq (pcT := 277) (pcF := 273) C at_270 (by decide) (by decide) rfl (fun q270 => ?_) (fun q => absurd q (by decide))
          refine w_iconst (pc' := 278) (x := (0 : Int32)) C at_277 rfl rfl ?_
          exact K278 t222_0 t267_0 hr
        have K257 : ∀ (t222_0 : Int32), law2 x0 x1 x2 x3 x4 x5 us s0 rr = law2_257 x0 x1 x2 x3 x4 x5 us s0 rr t222_0 → Wp p l e room_1 s m #[.int x0, .int x1, .int x2, .int x3, .int x4, .int x5] below meth c n0 room_1.cells room_1.slots (fun v h => v = some (.int 1)) h39 5 59 (mkF m 257 #[.val (.int x0), .val (.int x1), .val (.int x2), .val (.int x3), .val (.int x4), .val (.int x5), .val (.int (2 : Int32)), .val (.int (Int32.ofNat s0)), .val (.ref a26), .val (.ref a30), .val (.int rr), .val (.int (1 : Int32)), .val (.int t222_0), .val (.int (0 : Int32)), .unset] [.int (1 : Int32)]) := by
          intro t222_0 hr
          change _ = (if t222_0 = 0 then (law2_267 x0 x1 x2 x3 x4 x5 us s0 rr (0 : Int32) t222_0) else (law2_267 x0 x1 x2 x3 x4 x5 us s0 rr (1 : Int32) t222_0)) at hr
          refine w_iload (pc' := 259) C at_257 rfl rfl ?_
          refine w_if_eq (pcT := 266) (pcF := 262) C at_259 (by decide) (by decide) rfl (fun q259 => ?_) (fun q259 => ?_)
          · have hr := hr.trans (if_pos q259)
            refine w_iconst (pc' := 267) (x := (0 : Int32)) C at_266 rfl rfl ?_
            exact K267 (0 : Int32) t222_0 hr
          · have hr := hr.trans (if_neg q259)
            refine w_iconst (pc' := 263) (x := (1 : Int32)) C at_262 rfl rfl ?_
            refine w_goto (pc' := 267) C at_263 (by decide) (by decide) ?_
            exact K267 (1 : Int32) t222_0 hr
        have K245 : ∀ (t222_0 : Int32), law2 x0 x1 x2 x3 x4 x5 us s0 rr = law2_245 x0 x1 x2 x3 x4 x5 us s0 rr t222_0 → Wp p l e room_1 s m #[.int x0, .int x1, .int x2, .int x3, .int x4, .int x5] below meth c n0 room_1.cells room_1.slots (fun v h => v = some (.int 1)) h39 5 59 (mkF m 245 #[.val (.int x0), .val (.int x1), .val (.int x2), .val (.int x3), .val (.int x4), .val (.int x5), .val (.int (2 : Int32)), .val (.int (Int32.ofNat s0)), .val (.ref a26), .val (.ref a30), .val (.int rr), .val (.int (1 : Int32)), .val (.int t222_0), .unset, .unset] [.int (0 : Int32)]) := by
          intro t222_0 hr
          change _ = (law2_257 x0 x1 x2 x3 x4 x5 us s0 rr t222_0) at hr
          refine w_istore (pc' := 247) (Ls' := #[.val (.int x0), .val (.int x1), .val (.int x2), .val (.int x3), .val (.int x4), .val (.int x5), .val (.int (2 : Int32)), .val (.int (Int32.ofNat s0)), .val (.ref a26), .val (.ref a30), .val (.int rr), .val (.int (1 : Int32)), .val (.int t222_0), .val (.int (0 : Int32)), .unset]) C at_245 rfl rfl ?_
          refine w_iload (pc' := 249) C at_247 rfl rfl ?_
          refine w_if_eq (pcT := 256) (pcF := 252) C at_249 (by decide) (by decide) rfl (fun q => absurd q (by decide)) (fun q249 => ?_)
          refine w_iconst (pc' := 253) (x := (1 : Int32)) C at_252 rfl rfl ?_
          refine w_goto (pc' := 257) C at_253 (by decide) (by decide) ?_
          exact K257 t222_0 hr
        have K244 : ∀ (t222_0 : Int32), law2 x0 x1 x2 x3 x4 x5 us s0 rr = law2_244 x0 x1 x2 x3 x4 x5 us s0 rr t222_0 → Wp p l e room_1 s m #[.int x0, .int x1, .int x2, .int x3, .int x4, .int x5] below meth c n0 room_1.cells room_1.slots (fun v h => v = some (.int 1)) h39 5 59 (mkF m 244 #[.val (.int x0), .val (.int x1), .val (.int x2), .val (.int x3), .val (.int x4), .val (.int x5), .val (.int (2 : Int32)), .val (.int (Int32.ofNat s0)), .val (.ref a26), .val (.ref a30), .val (.int rr), .val (.int (1 : Int32)), .val (.int t222_0), .unset, .unset] []) := by
          intro t222_0 hr
          change _ = (law2_245 x0 x1 x2 x3 x4 x5 us s0 rr t222_0) at hr
          refine w_iconst (pc' := 245) (x := (0 : Int32)) C at_244 rfl rfl ?_
          exact K245 t222_0 hr
        have K222 : ∀ (t222_0 : Int32), law2 x0 x1 x2 x3 x4 x5 us s0 rr = law2_222 x0 x1 x2 x3 x4 x5 us s0 rr t222_0 → Wp p l e room_1 s m #[.int x0, .int x1, .int x2, .int x3, .int x4, .int x5] below meth c n0 room_1.cells room_1.slots (fun v h => v = some (.int 1)) h39 5 59 (mkF m 222 #[.val (.int x0), .val (.int x1), .val (.int x2), .val (.int x3), .val (.int x4), .val (.int x5), .val (.int (2 : Int32)), .val (.int (Int32.ofNat s0)), .val (.ref a26), .val (.ref a30), .val (.int rr), .val (.int (1 : Int32)), .unset, .unset, .unset] [.int t222_0]) := by
          intro t222_0 hr
          change _ = (law2_244 x0 x1 x2 x3 x4 x5 us s0 rr t222_0) at hr
          refine w_istore (pc' := 224) (Ls' := #[.val (.int x0), .val (.int x1), .val (.int x2), .val (.int x3), .val (.int x4), .val (.int x5), .val (.int (2 : Int32)), .val (.int (Int32.ofNat s0)), .val (.ref a26), .val (.ref a30), .val (.int rr), .val (.int (1 : Int32)), .val (.int t222_0), .unset, .unset]) C at_222 rfl rfl ?_
          refine w_iload (pc' := 226) C at_224 rfl rfl ?_
          refine w_iconst (pc' := 227) (x := (3 : Int32)) C at_226 rfl rfl ?_
          refine w_icmp_lt (pcT := 244) (pcF := 230) C at_227 (by decide) (by decide) rfl (fun q227 => ?_) (fun q => absurd q (by decide))
          exact K244 t222_0 hr
        have K221 : law2 x0 x1 x2 x3 x4 x5 us s0 rr = law2_221 x0 x1 x2 x3 x4 x5 us s0 rr → Wp p l e room_1 s m #[.int x0, .int x1, .int x2, .int x3, .int x4, .int x5] below meth c n0 room_1.cells room_1.slots (fun v h => v = some (.int 1)) h39 5 59 (mkF m 221 #[.val (.int x0), .val (.int x1), .val (.int x2), .val (.int x3), .val (.int x4), .val (.int x5), .val (.int (2 : Int32)), .val (.int (Int32.ofNat s0)), .val (.ref a26), .val (.ref a30), .val (.int rr), .val (.int (1 : Int32)), .unset, .unset, .unset] []) := by
          intro hr
          change _ = (law2_222 x0 x1 x2 x3 x4 x5 us s0 rr (0 : Int32)) at hr
          refine w_iconst (pc' := 222) (x := (0 : Int32)) C at_221 rfl rfl ?_
          exact K222 (0 : Int32) hr
        have K204 : law2 x0 x1 x2 x3 x4 x5 us s0 rr = law2_204 x0 x1 x2 x3 x4 x5 us s0 rr → Wp p l e room_1 s m #[.int x0, .int x1, .int x2, .int x3, .int x4, .int x5] below meth c n0 room_1.cells room_1.slots (fun v h => v = some (.int 1)) h39 5 59 (mkF m 204 #[.val (.int x0), .val (.int x1), .val (.int x2), .val (.int x3), .val (.int x4), .val (.int x5), .val (.int (2 : Int32)), .val (.int (Int32.ofNat s0)), .val (.ref a26), .val (.ref a30), .val (.int rr), .unset, .unset, .unset, .unset] [.int (1 : Int32)]) := by
          intro hr
          change _ = (if x2 = x1 then (law2_221 x0 x1 x2 x3 x4 x5 us s0 rr) else (law2_222 x0 x1 x2 x3 x4 x5 us s0 rr (1 : Int32))) at hr
          refine w_istore (pc' := 206) (Ls' := #[.val (.int x0), .val (.int x1), .val (.int x2), .val (.int x3), .val (.int x4), .val (.int x5), .val (.int (2 : Int32)), .val (.int (Int32.ofNat s0)), .val (.ref a26), .val (.ref a30), .val (.int rr), .val (.int (1 : Int32)), .unset, .unset, .unset]) C at_204 rfl rfl ?_
          refine w_iload (pc' := 208) C at_206 rfl rfl ?_
          refine w_iconst (pc' := 209) (x := (2 : Int32)) C at_208 rfl rfl ?_
          refine w_icmp_lt (pcT := 221) (pcF := 212) C at_209 (by decide) (by decide) rfl (fun q => absurd q (by decide)) (fun q209 => ?_)
          refine w_iloadN (pc' := 213) C at_212 rfl rfl ?_
          refine w_iloadN (pc' := 214) C at_213 rfl rfl ?_
          refine w_icmp_eq (pcT := 221) (pcF := 217) C at_214 (by decide) (by decide) rfl (fun q214 => ?_) (fun q214 => ?_)
          · have hr := hr.trans (if_pos q214)
            exact K221 hr
          · have hr := hr.trans (if_neg q214)
            refine w_iconst (pc' := 218) (x := (1 : Int32)) C at_217 rfl rfl ?_
            refine w_goto (pc' := 222) C at_218 (by decide) (by decide) ?_
            exact K222 (1 : Int32) hr
        have hr : law2 x0 x1 x2 x3 x4 x5 us s0 rr = (law2_204 x0 x1 x2 x3 x4 x5 us s0 rr) := rfl
        refine w_iload (pc' := 195) C at_193 rfl rfl ?_
        refine w_iconst (pc' := 196) (x := (1 : Int32)) C at_195 rfl rfl ?_
        refine w_icmp_lt (pcT := 203) (pcF := 199) C at_196 (by decide) (by decide) rfl (fun q => absurd q (by decide)) (fun q196 => ?_)
        refine w_iconst (pc' := 200) (x := (1 : Int32)) C at_199 rfl rfl ?_
        refine w_goto (pc' := 204) C at_200 (by decide) (by decide) ?_
        exact K204 hr
  · refine w_eqI e4 ?_
    refine w_istore (pc' := 6) (Ls' := #[.val (.int x0), .val (.int x1), .val (.int x2), .val (.int x3), .val (.int x4), .val (.int x5), .val (.int (3 : Int32)), .unset, .unset, .unset, .unset, .unset, .unset, .unset, .unset]) C at_4 rfl rfl ?_
    refine w_iload (pc' := 8) C at_6 rfl rfl ?_
    refine w_iconst (pc' := 9) (x := (1 : Int32)) C at_8 rfl rfl ?_
    refine w_icmp_lt (pcT := 17) (pcF := 12) C at_9 (by decide) (by decide) rfl (fun q => absurd q (by decide)) (fun q9 => ?_)
    refine w_iloadN (pc' := 13) C at_12 rfl rfl ?_
    refine w_iconst (pc' := 14) (x := (-1 : Int32)) C at_13 rfl rfl ?_
    refine w_icmp_eq (pcT := 39) (pcF := 17) C at_14 (by decide) (by decide) rfl (fun q14_4 => ?_) (fun q14_4 => ?_)
    · skip
      refine w_iconst (pc' := 40) (x := (1 : Int32)) C at_39 rfl rfl ?_
      refine w_retN' (t := .boolean) (z' := (1 : Int32)) C rfl (by simp) at_40 (by decide) (by decide) narB1 ?_
      rfl
    · skip
      refine w_iload (pc' := 19) C at_17 rfl rfl ?_
      refine w_iconst (pc' := 20) (x := (2 : Int32)) C at_19 rfl rfl ?_
      refine w_icmp_lt (pcT := 28) (pcF := 23) C at_20 (by decide) (by decide) rfl (fun q => absurd q (by decide)) (fun q20 => ?_)
      refine w_iloadN (pc' := 24) C at_23 rfl rfl ?_
      refine w_iconst (pc' := 25) (x := (-1 : Int32)) C at_24 rfl rfl ?_
      refine w_icmp_eq (pcT := 39) (pcF := 28) C at_25 (by decide) (by decide) rfl (fun q25_5 => ?_) (fun q25_5 => ?_)
      · skip
        refine w_iconst (pc' := 40) (x := (1 : Int32)) C at_39 rfl rfl ?_
        refine w_retN' (t := .boolean) (z' := (1 : Int32)) C rfl (by simp) at_40 (by decide) (by decide) narB1 ?_
        rfl
      · skip
        refine w_iload (pc' := 30) C at_28 rfl rfl ?_
        refine w_iconst (pc' := 31) (x := (3 : Int32)) C at_30 rfl rfl ?_
        refine w_icmp_lt (pcT := 41) (pcF := 34) C at_31 (by decide) (by decide) rfl (fun q => absurd q (by decide)) (fun q31 => ?_)
        refine w_iloadN (pc' := 35) C at_34 rfl rfl ?_
        refine w_iconst (pc' := 36) (x := (-1 : Int32)) C at_35 rfl rfl ?_
        refine w_icmp_ne (pcT := 41) (pcF := 39) C at_36 (by decide) (by decide) rfl (fun q36_6 => ?_) (fun q36_6 => ?_)
        · skip
          refine w_iload (pc' := 43) C at_41 rfl rfl ?_
          refine w_iconst (pc' := 44) (x := (3 : Int32)) C at_43 rfl rfl ?_
          refine w_iand (pc' := 45) C at_44 rfl ?_
          obtain ⟨s0, hs0, e5⟩ := s4 x5
          refine w_eqI e5 ?_
          refine w_istore (pc' := 47) (Ls' := #[.val (.int x0), .val (.int x1), .val (.int x2), .val (.int x3), .val (.int x4), .val (.int x5), .val (.int (3 : Int32)), .val (.int (Int32.ofNat s0)), .unset, .unset, .unset, .unset, .unset, .unset, .unset]) C at_45 rfl rfl ?_
          refine w_new (pc' := 50) (ce' := 1) (sl' := 3) C (tw hw 0 rfl) (tw hw 1 rfl) (tw hw 2 rfl) at_47 rfl rfl rfl (by decide) (by decide) (fun h40 a40 e40 E40 A40 D40 => ?_)
          have g_a40 : n0 ≤ a40 := by rw [e40]; exact hz
          have fr_a40 : h0.size ≤ a40 := by rw [e40]; exact hk.1
          have hz : n0 ≤ h40.size := Nat.le_trans hz E40.1
          have hk := hk.ext E40
          have O_a40 : Obj Z h40 a40 "com/example/gatewright/gatewright/NearestStatements" [("slots", "[J", .null), ("shift", "I", .int (0 : Int32)), ("size", "I", .int (0 : Int32))] := obj_Nst hw A40 D40
          refine w_dup (pc' := 51) C at_50 rfl rfl ?_
          refine w_iloadN (pc' := 52) C at_51 rfl rfl ?_
          refine w_bipush (pc' := 54) (x := (7 : Int32)) C at_52 rfl rfl ?_
          refine w_iand (pc' := 55) C at_54 rfl ?_
          refine w_callI (pc' := 58) (argsL := [.int (x0 &&& (7 : Int32))]) (st := [.ref a40]) (W := 1) (ce' := 2) (sl' := 19) C rfl (tw hw 3 rfl) (tw hw 4 rfl) (tw hw 2 rfl) (tw hw 5 rfl) (by decide) at_55 rfl rfl (by decide) (by decide) (Nat.le_of_eq rfl) rfl rfl (by decide) (by decide) rfl (lenOf pd_1 rfl) (ct_init hw h40 n0 a40 (x0 &&& (7 : Int32)) hz (m7 _) O_a40 g_a40) (k0 (fun h41 q41 => ?_))
          obtain ⟨c41, N41, sh41, S41, P41, R41, fb_c41, K41⟩ := q41
          have g_c41 : n0 ≤ c41 := Nat.le_trans hz fb_c41
          have fr_c41 : h0.size ≤ c41 := Nat.le_trans hk.1 fb_c41
          have ne_a40_c41 : a40 ≠ c41 := Nat.ne_of_lt (Nat.lt_of_lt_of_le O_a40.lt fb_c41)
          have hz : n0 ≤ h41.size := Nat.le_trans hz K41.1
          have hk := Keep.app hk K41 (fun x hx => Or.inl hx) (allS (Or.inr fr_a40) all0)
          have O_a40 : Obj Z h41 a40 "com/example/gatewright/gatewright/NearestStatements" [("slots", "[J", .ref c41), ("shift", "I", .int sh41), ("size", "I", .int (Int32.ofNat (rts (List.replicate N41 (0 : Int64))).length))] := by rw [rts_rep]; exact P41
          have O_c41 := R41
          have G41 : Gd N41 (rts (List.replicate N41 (0 : Int64))).length := by rw [rts_rep]; exact gd0 S41
          have Pm41 : (rts (List.replicate N41 (0 : Int64))).Perm [] := by rw [rts_rep]
          refine w_astore (pc' := 60) (Ls' := #[.val (.int x0), .val (.int x1), .val (.int x2), .val (.int x3), .val (.int x4), .val (.int x5), .val (.int (3 : Int32)), .val (.int (Int32.ofNat s0)), .val (.ref a40), .unset, .unset, .unset, .unset, .unset, .unset]) C at_58 rfl rfl rfl ?_
          refine w_iload (pc' := 62) C at_60 rfl rfl ?_
          refine w_iconst (pc' := 63) (x := (1 : Int32)) C at_62 rfl rfl ?_
          refine w_icmp_lt (pcT := 80) (pcF := 66) C at_63 (by decide) (by decide) rfl (fun q => absurd q (by decide)) (fun q63 => ?_)
          refine w_aload (pc' := 68) C at_66 rfl rfl rfl ?_
          refine w_iloadN (pc' := 69) C at_68 rfl rfl ?_
          refine w_iload (pc' := 71) C at_69 rfl rfl ?_
          refine w_iconst (pc' := 72) (x := (2 : Int32)) C at_71 rfl rfl ?_
          refine w_iushr (pc' := 73) C at_72 rfl ?_
          refine w_sipush (pc' := 76) (x := (1023 : Int32)) C at_73 rfl rfl ?_
          refine w_iand (pc' := 77) C at_76 rfl ?_
          refine w_callV (Cl := "com/example/gatewright/gatewright/NearestStatements") (pc' := 80) (argsL := [.int x1, .int (((x4.toUInt32 >>> ((2 : Int32) &&& 31).toUInt32).toInt32) &&& (1023 : Int32))]) (st := []) (W := 0) (ce' := 3) (sl' := 35) C (tw hw 37 rfl) (tw hw 38 rfl) (tw hw 40 rfl) (tw hw 39 rfl) (tw hw 2 rfl) (tw hw 41 rfl) (by decide) at_77 rfl rfl (by decide) (by decide) (Nat.le_of_eq rfl) rfl rfl (by decide) (by decide) rfl (lenOf pd_3 rfl) O_a40.1 (ct_meet hw h41 n0 a40 x1 (((x4.toUInt32 >>> ((2 : Int32) &&& 31).toUInt32).toInt32) &&& (1023 : Int32)) c41 N41 sh41 (List.replicate N41 (0 : Int64)) hz (Inv.zero S41) q14_4 (r10m _) G41 O_a40 O_c41 g_a40 g_c41 ne_a40_c41) (k0 (fun h42 q42 => ?_))
          obtain ⟨c42, N42, sh42, T42, I42, Pn42, H42, P42, R42, fb_c42, K42⟩ := q42
          have g_c42 : n0 ≤ c42 := fb_c42.elim (fun q => by rw [q]; exact g_c41) (fun q => Nat.le_trans hz q)
          have fr_c42 : h0.size ≤ c42 := fb_c42.elim (fun q => by rw [q]; exact fr_c41) (fun q => Nat.le_trans hk.1 q)
          have ne_a40_c42 : a40 ≠ c42 := fb_c42.elim (fun q => by rw [q]; exact ne_a40_c41) (fun q => Nat.ne_of_lt (Nat.lt_of_lt_of_le O_a40.lt q))
          have hz : n0 ≤ h42.size := Nat.le_trans hz K42.1
          have hk := Keep.app hk K42 (fun x hx => Or.inl hx) (allS (Or.inr fr_a40) (allS (Or.inr fr_c41) all0))
          have O_a40 := P42
          have O_c42 := R42
          have Pm42 : (rts T42).Perm (adds x1 []) := Pn42.trans (adds_perm Pm41)
          have le42 : (rts T42).length ≤ 1 := by rw [Pm42.length_eq]; exact alen1 _
          have G42 := H42.gd (Nat.le_trans le42 (by decide))
          refine w_iload (pc' := 82) C at_80 rfl rfl ?_
          refine w_iconst (pc' := 83) (x := (2 : Int32)) C at_82 rfl rfl ?_
          refine w_icmp_lt (pcT := 101) (pcF := 86) C at_83 (by decide) (by decide) rfl (fun q => absurd q (by decide)) (fun q83 => ?_)
          refine w_aload (pc' := 88) C at_86 rfl rfl rfl ?_
          refine w_iloadN (pc' := 89) C at_88 rfl rfl ?_
          refine w_iload (pc' := 91) C at_89 rfl rfl ?_
          refine w_bipush (pc' := 93) (x := (12 : Int32)) C at_91 rfl rfl ?_
          refine w_iushr (pc' := 94) C at_93 rfl ?_
          refine w_sipush (pc' := 97) (x := (1023 : Int32)) C at_94 rfl rfl ?_
          refine w_iand (pc' := 98) C at_97 rfl ?_
          refine w_callV (Cl := "com/example/gatewright/gatewright/NearestStatements") (pc' := 101) (argsL := [.int x2, .int (((x4.toUInt32 >>> ((12 : Int32) &&& 31).toUInt32).toInt32) &&& (1023 : Int32))]) (st := []) (W := 0) (ce' := 4) (sl' := 51) C (tw hw 37 rfl) (tw hw 38 rfl) (tw hw 40 rfl) (tw hw 39 rfl) (tw hw 2 rfl) (tw hw 41 rfl) (by decide) at_98 rfl rfl (by decide) (by decide) (Nat.le_of_eq rfl) rfl rfl (by decide) (by decide) rfl (lenOf pd_3 rfl) O_a40.1 (ct_meet hw h42 n0 a40 x2 (((x4.toUInt32 >>> ((12 : Int32) &&& 31).toUInt32).toInt32) &&& (1023 : Int32)) c42 N42 sh42 T42 hz I42 q25_5 (r10m _) G42 O_a40 O_c42 g_a40 g_c42 ne_a40_c42) (k0 (fun h43 q43 => ?_))
          obtain ⟨c43, N43, sh43, T43, I43, Pn43, H43, P43, R43, fb_c43, K43⟩ := q43
          have g_c43 : n0 ≤ c43 := fb_c43.elim (fun q => by rw [q]; exact g_c42) (fun q => Nat.le_trans hz q)
          have fr_c43 : h0.size ≤ c43 := fb_c43.elim (fun q => by rw [q]; exact fr_c42) (fun q => Nat.le_trans hk.1 q)
          have ne_a40_c43 : a40 ≠ c43 := fb_c43.elim (fun q => by rw [q]; exact ne_a40_c42) (fun q => Nat.ne_of_lt (Nat.lt_of_lt_of_le O_a40.lt q))
          have hz : n0 ≤ h43.size := Nat.le_trans hz K43.1
          have hk := Keep.app hk K43 (fun x hx => Or.inl hx) (allS (Or.inr fr_a40) (allS (Or.inr fr_c42) all0))
          have O_a40 := P43
          have O_c43 := R43
          have Pm43 : (rts T43).Perm (adds x2 (adds x1 [])) := Pn43.trans (adds_perm Pm42)
          have le43 : (rts T43).length ≤ 2 := by rw [Pm43.length_eq]; exact alen2 _ _
          have G43 := H43.gd (Nat.le_trans le43 (by decide))
          refine w_iload (pc' := 103) C at_101 rfl rfl ?_
          refine w_iconst (pc' := 104) (x := (3 : Int32)) C at_103 rfl rfl ?_
          refine w_icmp_lt (pcT := 118) (pcF := 107) C at_104 (by decide) (by decide) rfl (fun q => absurd q (by decide)) (fun q104 => ?_)
          refine w_aload (pc' := 109) C at_107 rfl rfl rfl ?_
          refine w_iloadN (pc' := 110) C at_109 rfl rfl ?_
          refine w_iload (pc' := 112) C at_110 rfl rfl ?_
          refine w_bipush (pc' := 114) (x := (22 : Int32)) C at_112 rfl rfl ?_
          refine w_iushr (pc' := 115) C at_114 rfl ?_
          refine w_callV (Cl := "com/example/gatewright/gatewright/NearestStatements") (pc' := 118) (argsL := [.int x3, .int ((x4.toUInt32 >>> ((22 : Int32) &&& 31).toUInt32).toInt32)]) (st := []) (W := 0) (ce' := 5) (sl' := 67) C (tw hw 37 rfl) (tw hw 38 rfl) (tw hw 40 rfl) (tw hw 39 rfl) (tw hw 2 rfl) (tw hw 41 rfl) (by decide) at_115 rfl rfl (by decide) (by decide) (Nat.le_of_eq rfl) rfl rfl (by decide) (by decide) rfl (lenOf pd_3 rfl) O_a40.1 (ct_meet hw h43 n0 a40 x3 ((x4.toUInt32 >>> ((22 : Int32) &&& 31).toUInt32).toInt32) c43 N43 sh43 T43 hz I43 q36_6 (r10s _) G43 O_a40 O_c43 g_a40 g_c43 ne_a40_c43) (k0 (fun h44 q44 => ?_))
          obtain ⟨c44, N44, sh44, T44, I44, Pn44, H44, P44, R44, fb_c44, K44⟩ := q44
          have g_c44 : n0 ≤ c44 := fb_c44.elim (fun q => by rw [q]; exact g_c43) (fun q => Nat.le_trans hz q)
          have fr_c44 : h0.size ≤ c44 := fb_c44.elim (fun q => by rw [q]; exact fr_c43) (fun q => Nat.le_trans hk.1 q)
          have ne_a40_c44 : a40 ≠ c44 := fb_c44.elim (fun q => by rw [q]; exact ne_a40_c43) (fun q => Nat.ne_of_lt (Nat.lt_of_lt_of_le O_a40.lt q))
          have hz : n0 ≤ h44.size := Nat.le_trans hz K44.1
          have hk := Keep.app hk K44 (fun x hx => Or.inl hx) (allS (Or.inr fr_a40) (allS (Or.inr fr_c43) all0))
          have O_a40 := P44
          have O_c44 := R44
          have Pm44 : (rts T44).Perm (adds x3 (adds x2 (adds x1 []))) := Pn44.trans (adds_perm Pm43)
          have le44 : (rts T44).length ≤ 3 := by rw [Pm44.length_eq]; exact alen3 _ _ _
          refine w_bipush (pc' := 120) (x := (8 : Int32)) C at_118 rfl rfl ?_
          refine wA_newP (pc' := 122) (cap := 8) (ce' := 6) (sl' := 75) C (tw hw 27 rfl) at_120 rfl (by decide) (by decide) (by decide) rfl rfl (by decide) (by decide) (fun h45 a45 e45 E45 A45 => ?_)
          have g_a45 : n0 ≤ a45 := by rw [e45]; exact hz
          have fr_a45 : h0.size ≤ a45 := by rw [e45]; exact hk.1
          have ne_a40_a45 : a40 ≠ a45 := by rw [e45]; exact Nat.ne_of_lt O_a40.lt
          have ne_c44_a45 : c44 ≠ a45 := by rw [e45]; exact Nat.ne_of_lt O_c44.lt
          have O_a40 := O_a40.ext E45
          have O_c44 := O_c44.ext E45
          have hz : n0 ≤ h45.size := Nat.le_trans hz E45.1
          have hk := hk.ext E45
          have O_a45 : Ar Z h45 a45 .int [.int (0 : Int32), .int (0 : Int32), .int (0 : Int32), .int (0 : Int32), .int (0 : Int32), .int (0 : Int32), .int (0 : Int32), .int (0 : Int32)] := A45
          refine w_astore (pc' := 124) (Ls' := #[.val (.int x0), .val (.int x1), .val (.int x2), .val (.int x3), .val (.int x4), .val (.int x5), .val (.int (3 : Int32)), .val (.int (Int32.ofNat s0)), .val (.ref a40), .val (.ref a45), .unset, .unset, .unset, .unset, .unset]) C at_122 rfl rfl rfl ?_
          refine w_aload (pc' := 126) C at_124 rfl rfl rfl ?_
          refine w_iconst (pc' := 127) (x := (0 : Int32)) C at_126 rfl rfl ?_
          refine w_sipush (pc' := 130) (x := (7770 : Int32)) C at_127 rfl rfl ?_
          refine wA_iastore (pc' := 131) C at_130 rfl g_a45 O_a45 (by decide) (Nat.le_of_ble_eq_true rfl) (fun h46 W46 A46 => ?_)
          have O_a45 : Ar Z h46 a45 .int [.int (7770 : Int32), .int (0 : Int32), .int (0 : Int32), .int (0 : Int32), .int (0 : Int32), .int (0 : Int32), .int (0 : Int32), .int (0 : Int32)] := A46
          have O_a40 := O_a40.other W46 ne_a40_a45
          have O_c44 := O_c44.other W46 ne_c44_a45
          have hz : n0 ≤ h46.size := by rw [W46.size]; exact hz
          have hk := hk.wr W46 (Or.inr fr_a45)
          refine w_aload (pc' := 133) C at_131 rfl rfl rfl ?_
          refine w_iconst (pc' := 134) (x := (1 : Int32)) C at_133 rfl rfl ?_
          refine w_sipush (pc' := 137) (x := (7771 : Int32)) C at_134 rfl rfl ?_
          refine wA_iastore (pc' := 138) C at_137 rfl g_a45 O_a45 (by decide) (Nat.le_of_ble_eq_true rfl) (fun h47 W47 A47 => ?_)
          have O_a45 : Ar Z h47 a45 .int [.int (7770 : Int32), .int (7771 : Int32), .int (0 : Int32), .int (0 : Int32), .int (0 : Int32), .int (0 : Int32), .int (0 : Int32), .int (0 : Int32)] := A47
          have O_a40 := O_a40.other W47 ne_a40_a45
          have O_c44 := O_c44.other W47 ne_c44_a45
          have hz : n0 ≤ h47.size := by rw [W47.size]; exact hz
          have hk := hk.wr W47 (Or.inr fr_a45)
          refine w_aload (pc' := 140) C at_138 rfl rfl rfl ?_
          refine w_iconst (pc' := 141) (x := (2 : Int32)) C at_140 rfl rfl ?_
          refine w_sipush (pc' := 144) (x := (7772 : Int32)) C at_141 rfl rfl ?_
          refine wA_iastore (pc' := 145) C at_144 rfl g_a45 O_a45 (by decide) (Nat.le_of_ble_eq_true rfl) (fun h48 W48 A48 => ?_)
          have O_a45 : Ar Z h48 a45 .int [.int (7770 : Int32), .int (7771 : Int32), .int (7772 : Int32), .int (0 : Int32), .int (0 : Int32), .int (0 : Int32), .int (0 : Int32), .int (0 : Int32)] := A48
          have O_a40 := O_a40.other W48 ne_a40_a45
          have O_c44 := O_c44.other W48 ne_c44_a45
          have hz : n0 ≤ h48.size := by rw [W48.size]; exact hz
          have hk := hk.wr W48 (Or.inr fr_a45)
          refine w_aload (pc' := 147) C at_145 rfl rfl rfl ?_
          refine w_iconst (pc' := 148) (x := (3 : Int32)) C at_147 rfl rfl ?_
          refine w_sipush (pc' := 151) (x := (7773 : Int32)) C at_148 rfl rfl ?_
          refine wA_iastore (pc' := 152) C at_151 rfl g_a45 O_a45 (by decide) (Nat.le_of_ble_eq_true rfl) (fun h49 W49 A49 => ?_)
          have O_a45 : Ar Z h49 a45 .int [.int (7770 : Int32), .int (7771 : Int32), .int (7772 : Int32), .int (7773 : Int32), .int (0 : Int32), .int (0 : Int32), .int (0 : Int32), .int (0 : Int32)] := A49
          have O_a40 := O_a40.other W49 ne_a40_a45
          have O_c44 := O_c44.other W49 ne_c44_a45
          have hz : n0 ≤ h49.size := by rw [W49.size]; exact hz
          have hk := hk.wr W49 (Or.inr fr_a45)
          refine w_aload (pc' := 154) C at_152 rfl rfl rfl ?_
          refine w_iconst (pc' := 155) (x := (4 : Int32)) C at_154 rfl rfl ?_
          refine w_sipush (pc' := 158) (x := (7774 : Int32)) C at_155 rfl rfl ?_
          refine wA_iastore (pc' := 159) C at_158 rfl g_a45 O_a45 (by decide) (Nat.le_of_ble_eq_true rfl) (fun h50 W50 A50 => ?_)
          have O_a45 : Ar Z h50 a45 .int [.int (7770 : Int32), .int (7771 : Int32), .int (7772 : Int32), .int (7773 : Int32), .int (7774 : Int32), .int (0 : Int32), .int (0 : Int32), .int (0 : Int32)] := A50
          have O_a40 := O_a40.other W50 ne_a40_a45
          have O_c44 := O_c44.other W50 ne_c44_a45
          have hz : n0 ≤ h50.size := by rw [W50.size]; exact hz
          have hk := hk.wr W50 (Or.inr fr_a45)
          refine w_aload (pc' := 161) C at_159 rfl rfl rfl ?_
          refine w_iconst (pc' := 162) (x := (5 : Int32)) C at_161 rfl rfl ?_
          refine w_sipush (pc' := 165) (x := (7775 : Int32)) C at_162 rfl rfl ?_
          refine wA_iastore (pc' := 166) C at_165 rfl g_a45 O_a45 (by decide) (Nat.le_of_ble_eq_true rfl) (fun h51 W51 A51 => ?_)
          have O_a45 : Ar Z h51 a45 .int [.int (7770 : Int32), .int (7771 : Int32), .int (7772 : Int32), .int (7773 : Int32), .int (7774 : Int32), .int (7775 : Int32), .int (0 : Int32), .int (0 : Int32)] := A51
          have O_a40 := O_a40.other W51 ne_a40_a45
          have O_c44 := O_c44.other W51 ne_c44_a45
          have hz : n0 ≤ h51.size := by rw [W51.size]; exact hz
          have hk := hk.wr W51 (Or.inr fr_a45)
          refine w_aload (pc' := 168) C at_166 rfl rfl rfl ?_
          refine w_bipush (pc' := 170) (x := (6 : Int32)) C at_168 rfl rfl ?_
          refine w_sipush (pc' := 173) (x := (7776 : Int32)) C at_170 rfl rfl ?_
          refine wA_iastore (pc' := 174) C at_173 rfl g_a45 O_a45 (by decide) (Nat.le_of_ble_eq_true rfl) (fun h52 W52 A52 => ?_)
          have O_a45 : Ar Z h52 a45 .int [.int (7770 : Int32), .int (7771 : Int32), .int (7772 : Int32), .int (7773 : Int32), .int (7774 : Int32), .int (7775 : Int32), .int (7776 : Int32), .int (0 : Int32)] := A52
          have O_a40 := O_a40.other W52 ne_a40_a45
          have O_c44 := O_c44.other W52 ne_c44_a45
          have hz : n0 ≤ h52.size := by rw [W52.size]; exact hz
          have hk := hk.wr W52 (Or.inr fr_a45)
          refine w_aload (pc' := 176) C at_174 rfl rfl rfl ?_
          refine w_bipush (pc' := 178) (x := (7 : Int32)) C at_176 rfl rfl ?_
          refine w_sipush (pc' := 181) (x := (7777 : Int32)) C at_178 rfl rfl ?_
          refine wA_iastore (pc' := 182) C at_181 rfl g_a45 O_a45 (by decide) (Nat.le_of_ble_eq_true rfl) (fun h53 W53 A53 => ?_)
          have O_a45 : Ar Z h53 a45 .int [.int (7770 : Int32), .int (7771 : Int32), .int (7772 : Int32), .int (7773 : Int32), .int (7774 : Int32), .int (7775 : Int32), .int (7776 : Int32), .int (7777 : Int32)] := A53
          have O_a40 := O_a40.other W53 ne_a40_a45
          have O_c44 := O_c44.other W53 ne_c44_a45
          have hz : n0 ≤ h53.size := by rw [W53.size]; exact hz
          have hk := hk.wr W53 (Or.inr fr_a45)
          refine w_aload (pc' := 184) C at_182 rfl rfl rfl ?_
          refine w_aload (pc' := 186) C at_184 rfl rfl rfl ?_
          refine w_iload (pc' := 188) C at_186 rfl rfl ?_
          have O_a45 : Ar Z h53 a45 .int (us8.map Value.int) := O_a45
          refine w_callV (Cl := "com/example/gatewright/gatewright/NearestStatements") (pc' := 191) (argsL := [.ref a45, .int (Int32.ofNat s0)]) (st := []) (W := 0) (ce' := 6) (sl' := 75) C (tw hw 28 rfl) (tw hw 29 rfl) (tw hw 31 rfl) (tw hw 30 rfl) (tw hw 2 rfl) (tw hw 32 rfl) (by decide) at_188 rfl rfl (by decide) (by decide) (Nat.le_of_eq rfl) rfl rfl (by decide) (by decide) rfl (lenOf pd_5 rfl) O_a40.1 (ct_rights hw h53 n0 a40 a45 s0 c44 N44 sh44 T44 us8 hz I44 hs0 (Nat.le_trans le44 (by decide)) rfl O_a40 O_c44 O_a45 g_a45 ne_a40_a45 ne_a40_c44 ne_c44_a45) (k1 (fun h54 q54 => ?_))
          obtain ⟨R54, K54⟩ := q54
          have O_a40 := O_a40.keep K54 (ninS ne_a40_a45 nin0)
          have O_c44 := O_c44.keep K54 (ninS ne_c44_a45 nin0)
          have hz : n0 ≤ h54.size := Nat.le_trans hz K54.1
          have hk := Keep.app hk K54 (fun x hx => Or.inl hx) (allS (Or.inr fr_a45) all0)
          obtain ⟨us, eus⟩ : ∃ us, us = wr us8 s0 (rts T44) := ⟨_, rfl⟩
          have O_a45 : Ar Z h54 a45 .int (us.map Value.int) := by rw [eus]; exact R54
          have ul : us.length = 8 := by rw [eus, wr_len]; rfl
          obtain ⟨rr, er⟩ : ∃ rr, Int32.ofNat (s0 + (rts T44).length) = rr := ⟨_, rfl⟩
          refine w_eqI er ?_
          refine w_istore (pc' := 193) (Ls' := #[.val (.int x0), .val (.int x1), .val (.int x2), .val (.int x3), .val (.int x4), .val (.int x5), .val (.int (3 : Int32)), .val (.int (Int32.ofNat s0)), .val (.ref a40), .val (.ref a45), .val (.int rr), .unset, .unset, .unset, .unset]) C at_191 rfl rfl ?_
          have K463 : ∀ (t222_0 : Int32) (t245_0 : Int32) (t267_0 : Int32) (t278_0 : Int32), law3 x0 x1 x2 x3 x4 x5 us s0 rr = law3_463 x0 x1 x2 x3 x4 x5 us s0 rr t222_0 t245_0 t267_0 t278_0 → Wp p l e room_1 s m #[.int x0, .int x1, .int x2, .int x3, .int x4, .int x5] below meth c n0 room_1.cells room_1.slots (fun v h => v = some (.int 1)) h54 6 75 (mkF m 463 #[.val (.int x0), .val (.int x1), .val (.int x2), .val (.int x3), .val (.int x4), .val (.int x5), .val (.int (3 : Int32)), .val (.int (Int32.ofNat s0)), .val (.ref a40), .val (.ref a45), .val (.int rr), .val (.int (1 : Int32)), .val (.int t222_0), .val (.int t245_0), .val (.int (((1 : Int32) + t267_0) + t278_0))] []) := by
            intro t222_0 t245_0 t267_0 t278_0 hr
            change _ = (0 : Int32) at hr
            refine w_iconst (pc' := 464) (x := (0 : Int32)) C at_463 rfl rfl ?_
            refine w_retN' (t := .boolean) (z' := (0 : Int32)) C rfl (by simp) at_464 (by decide) (by decide) narB0 ?_
            exact congrArg (fun z => some (Value.int z)) (hr.symm.trans (ONE3 x1 x2 x3 hs0 Pm44 eus er.symm))
          have K353 : ∀ (t222_0 : Int32) (t245_0 : Int32) (t267_0 : Int32) (t278_0 : Int32), law3 x0 x1 x2 x3 x4 x5 us s0 rr = law3_353 x0 x1 x2 x3 x4 x5 us s0 rr t222_0 t245_0 t267_0 t278_0 → Wp p l e room_1 s m #[.int x0, .int x1, .int x2, .int x3, .int x4, .int x5] below meth c n0 room_1.cells room_1.slots (fun v h => v = some (.int 1)) h54 6 75 (mkF m 353 #[.val (.int x0), .val (.int x1), .val (.int x2), .val (.int x3), .val (.int x4), .val (.int x5), .val (.int (3 : Int32)), .val (.int (Int32.ofNat s0)), .val (.ref a40), .val (.ref a45), .val (.int rr), .val (.int (1 : Int32)), .val (.int t222_0), .val (.int t245_0), .val (.int (((1 : Int32) + t267_0) + t278_0))] []) := by
            intro t222_0 t245_0 t267_0 t278_0 hr
            change _ = (if (kept (Int32.ofNat s0) (((1 : Int32) + t267_0) + t278_0) (0 : Int32) us) = 0 then (law3_463 x0 x1 x2 x3 x4 x5 us s0 rr t222_0 t245_0 t267_0 t278_0) else (if (kept (Int32.ofNat s0) (((1 : Int32) + t267_0) + t278_0) (1 : Int32) us) = 0 then (law3_463 x0 x1 x2 x3 x4 x5 us s0 rr t222_0 t245_0 t267_0 t278_0) else (if (kept (Int32.ofNat s0) (((1 : Int32) + t267_0) + t278_0) (2 : Int32) us) = 0 then (law3_463 x0 x1 x2 x3 x4 x5 us s0 rr t222_0 t245_0 t267_0 t278_0) else (if (kept (Int32.ofNat s0) (((1 : Int32) + t267_0) + t278_0) (3 : Int32) us) = 0 then (law3_463 x0 x1 x2 x3 x4 x5 us s0 rr t222_0 t245_0 t267_0 t278_0) else (if (kept (Int32.ofNat s0) (((1 : Int32) + t267_0) + t278_0) (4 : Int32) us) = 0 then (law3_463 x0 x1 x2 x3 x4 x5 us s0 rr t222_0 t245_0 t267_0 t278_0) else (if (kept (Int32.ofNat s0) (((1 : Int32) + t267_0) + t278_0) (5 : Int32) us) = 0 then (law3_463 x0 x1 x2 x3 x4 x5 us s0 rr t222_0 t245_0 t267_0 t278_0) else (if (kept (Int32.ofNat s0) (((1 : Int32) + t267_0) + t278_0) (6 : Int32) us) = 0 then (law3_463 x0 x1 x2 x3 x4 x5 us s0 rr t222_0 t245_0 t267_0 t278_0) else (if (kept (Int32.ofNat s0) (((1 : Int32) + t267_0) + t278_0) (7 : Int32) us) = 0 then (law3_463 x0 x1 x2 x3 x4 x5 us s0 rr t222_0 t245_0 t267_0 t278_0) else (1 : Int32))))))))) at hr
            refine w_aload (pc' := 355) C at_353 rfl rfl rfl ?_
            refine w_iload (pc' := 357) C at_355 rfl rfl ?_
            refine w_iload (pc' := 359) C at_357 rfl rfl ?_
            refine w_iconst (pc' := 360) (x := (0 : Int32)) C at_359 rfl rfl ?_
            refine w_callS (pc' := 363) (argsL := [.ref a45, .int (Int32.ofNat s0), .int (((1 : Int32) + t267_0) + t278_0), .int (0 : Int32)]) (st := []) (W := 0) (ce' := 6) (sl' := 75) C (tw hw 33 rfl) (tw hw 34 rfl) (tw hw 35 rfl) (tw hw 36 rfl) (by decide) at_360 rfl rfl (by decide) (by decide) (Nat.le_of_eq rfl) rfl rfl (by decide) (by decide) rfl (lenOf pd_6 rfl) (ct_kept hw h54 n0 a45 (Int32.ofNat s0) (((1 : Int32) + t267_0) + t278_0) (0 : Int32) us ul (by decide) O_a45) (kp ?_)
            refine w_if_eq (pcT := 463) (pcF := 366) C at_363 (by decide) (by decide) rfl (fun q363 => ?_) (fun q363 => ?_)
            · have hr := hr.trans (if_pos q363)
              exact K463 t222_0 t245_0 t267_0 t278_0 hr
            · have hr := hr.trans (if_neg q363)
              refine w_aload (pc' := 368) C at_366 rfl rfl rfl ?_
              refine w_iload (pc' := 370) C at_368 rfl rfl ?_
              refine w_iload (pc' := 372) C at_370 rfl rfl ?_
              refine w_iconst (pc' := 373) (x := (1 : Int32)) C at_372 rfl rfl ?_
              refine w_callS (pc' := 376) (argsL := [.ref a45, .int (Int32.ofNat s0), .int (((1 : Int32) + t267_0) + t278_0), .int (1 : Int32)]) (st := []) (W := 0) (ce' := 6) (sl' := 75) C (tw hw 33 rfl) (tw hw 34 rfl) (tw hw 35 rfl) (tw hw 36 rfl) (by decide) at_373 rfl rfl (by decide) (by decide) (Nat.le_of_eq rfl) rfl rfl (by decide) (by decide) rfl (lenOf pd_6 rfl) (ct_kept hw h54 n0 a45 (Int32.ofNat s0) (((1 : Int32) + t267_0) + t278_0) (1 : Int32) us ul (by decide) O_a45) (kp ?_)
              refine w_if_eq (pcT := 463) (pcF := 379) C at_376 (by decide) (by decide) rfl (fun q376 => ?_) (fun q376 => ?_)
              · have hr := hr.trans (if_pos q376)
                exact K463 t222_0 t245_0 t267_0 t278_0 hr
              · have hr := hr.trans (if_neg q376)
                refine w_aload (pc' := 381) C at_379 rfl rfl rfl ?_
                refine w_iload (pc' := 383) C at_381 rfl rfl ?_
                refine w_iload (pc' := 385) C at_383 rfl rfl ?_
                refine w_iconst (pc' := 386) (x := (2 : Int32)) C at_385 rfl rfl ?_
                refine w_callS (pc' := 389) (argsL := [.ref a45, .int (Int32.ofNat s0), .int (((1 : Int32) + t267_0) + t278_0), .int (2 : Int32)]) (st := []) (W := 0) (ce' := 6) (sl' := 75) C (tw hw 33 rfl) (tw hw 34 rfl) (tw hw 35 rfl) (tw hw 36 rfl) (by decide) at_386 rfl rfl (by decide) (by decide) (Nat.le_of_eq rfl) rfl rfl (by decide) (by decide) rfl (lenOf pd_6 rfl) (ct_kept hw h54 n0 a45 (Int32.ofNat s0) (((1 : Int32) + t267_0) + t278_0) (2 : Int32) us ul (by decide) O_a45) (kp ?_)
                refine w_if_eq (pcT := 463) (pcF := 392) C at_389 (by decide) (by decide) rfl (fun q389 => ?_) (fun q389 => ?_)
                · have hr := hr.trans (if_pos q389)
                  exact K463 t222_0 t245_0 t267_0 t278_0 hr
                · have hr := hr.trans (if_neg q389)
                  refine w_aload (pc' := 394) C at_392 rfl rfl rfl ?_
                  refine w_iload (pc' := 396) C at_394 rfl rfl ?_
                  refine w_iload (pc' := 398) C at_396 rfl rfl ?_
                  refine w_iconst (pc' := 399) (x := (3 : Int32)) C at_398 rfl rfl ?_
                  refine w_callS (pc' := 402) (argsL := [.ref a45, .int (Int32.ofNat s0), .int (((1 : Int32) + t267_0) + t278_0), .int (3 : Int32)]) (st := []) (W := 0) (ce' := 6) (sl' := 75) C (tw hw 33 rfl) (tw hw 34 rfl) (tw hw 35 rfl) (tw hw 36 rfl) (by decide) at_399 rfl rfl (by decide) (by decide) (Nat.le_of_eq rfl) rfl rfl (by decide) (by decide) rfl (lenOf pd_6 rfl) (ct_kept hw h54 n0 a45 (Int32.ofNat s0) (((1 : Int32) + t267_0) + t278_0) (3 : Int32) us ul (by decide) O_a45) (kp ?_)
                  refine w_if_eq (pcT := 463) (pcF := 405) C at_402 (by decide) (by decide) rfl (fun q402 => ?_) (fun q402 => ?_)
                  · have hr := hr.trans (if_pos q402)
                    exact K463 t222_0 t245_0 t267_0 t278_0 hr
                  · have hr := hr.trans (if_neg q402)
                    refine w_aload (pc' := 407) C at_405 rfl rfl rfl ?_
                    refine w_iload (pc' := 409) C at_407 rfl rfl ?_
                    refine w_iload (pc' := 411) C at_409 rfl rfl ?_
                    refine w_iconst (pc' := 412) (x := (4 : Int32)) C at_411 rfl rfl ?_
                    refine w_callS (pc' := 415) (argsL := [.ref a45, .int (Int32.ofNat s0), .int (((1 : Int32) + t267_0) + t278_0), .int (4 : Int32)]) (st := []) (W := 0) (ce' := 6) (sl' := 75) C (tw hw 33 rfl) (tw hw 34 rfl) (tw hw 35 rfl) (tw hw 36 rfl) (by decide) at_412 rfl rfl (by decide) (by decide) (Nat.le_of_eq rfl) rfl rfl (by decide) (by decide) rfl (lenOf pd_6 rfl) (ct_kept hw h54 n0 a45 (Int32.ofNat s0) (((1 : Int32) + t267_0) + t278_0) (4 : Int32) us ul (by decide) O_a45) (kp ?_)
                    refine w_if_eq (pcT := 463) (pcF := 418) C at_415 (by decide) (by decide) rfl (fun q415 => ?_) (fun q415 => ?_)
                    · have hr := hr.trans (if_pos q415)
                      exact K463 t222_0 t245_0 t267_0 t278_0 hr
                    · have hr := hr.trans (if_neg q415)
                      refine w_aload (pc' := 420) C at_418 rfl rfl rfl ?_
                      refine w_iload (pc' := 422) C at_420 rfl rfl ?_
                      refine w_iload (pc' := 424) C at_422 rfl rfl ?_
                      refine w_iconst (pc' := 425) (x := (5 : Int32)) C at_424 rfl rfl ?_
                      refine w_callS (pc' := 428) (argsL := [.ref a45, .int (Int32.ofNat s0), .int (((1 : Int32) + t267_0) + t278_0), .int (5 : Int32)]) (st := []) (W := 0) (ce' := 6) (sl' := 75) C (tw hw 33 rfl) (tw hw 34 rfl) (tw hw 35 rfl) (tw hw 36 rfl) (by decide) at_425 rfl rfl (by decide) (by decide) (Nat.le_of_eq rfl) rfl rfl (by decide) (by decide) rfl (lenOf pd_6 rfl) (ct_kept hw h54 n0 a45 (Int32.ofNat s0) (((1 : Int32) + t267_0) + t278_0) (5 : Int32) us ul (by decide) O_a45) (kp ?_)
                      refine w_if_eq (pcT := 463) (pcF := 431) C at_428 (by decide) (by decide) rfl (fun q428 => ?_) (fun q428 => ?_)
                      · have hr := hr.trans (if_pos q428)
                        exact K463 t222_0 t245_0 t267_0 t278_0 hr
                      · have hr := hr.trans (if_neg q428)
                        refine w_aload (pc' := 433) C at_431 rfl rfl rfl ?_
                        refine w_iload (pc' := 435) C at_433 rfl rfl ?_
                        refine w_iload (pc' := 437) C at_435 rfl rfl ?_
                        refine w_bipush (pc' := 439) (x := (6 : Int32)) C at_437 rfl rfl ?_
                        refine w_callS (pc' := 442) (argsL := [.ref a45, .int (Int32.ofNat s0), .int (((1 : Int32) + t267_0) + t278_0), .int (6 : Int32)]) (st := []) (W := 0) (ce' := 6) (sl' := 75) C (tw hw 33 rfl) (tw hw 34 rfl) (tw hw 35 rfl) (tw hw 36 rfl) (by decide) at_439 rfl rfl (by decide) (by decide) (Nat.le_of_eq rfl) rfl rfl (by decide) (by decide) rfl (lenOf pd_6 rfl) (ct_kept hw h54 n0 a45 (Int32.ofNat s0) (((1 : Int32) + t267_0) + t278_0) (6 : Int32) us ul (by decide) O_a45) (kp ?_)
                        refine w_if_eq (pcT := 463) (pcF := 445) C at_442 (by decide) (by decide) rfl (fun q442 => ?_) (fun q442 => ?_)
                        · have hr := hr.trans (if_pos q442)
                          exact K463 t222_0 t245_0 t267_0 t278_0 hr
                        · have hr := hr.trans (if_neg q442)
                          refine w_aload (pc' := 447) C at_445 rfl rfl rfl ?_
                          refine w_iload (pc' := 449) C at_447 rfl rfl ?_
                          refine w_iload (pc' := 451) C at_449 rfl rfl ?_
                          refine w_bipush (pc' := 453) (x := (7 : Int32)) C at_451 rfl rfl ?_
                          refine w_callS (pc' := 456) (argsL := [.ref a45, .int (Int32.ofNat s0), .int (((1 : Int32) + t267_0) + t278_0), .int (7 : Int32)]) (st := []) (W := 0) (ce' := 6) (sl' := 75) C (tw hw 33 rfl) (tw hw 34 rfl) (tw hw 35 rfl) (tw hw 36 rfl) (by decide) at_453 rfl rfl (by decide) (by decide) (Nat.le_of_eq rfl) rfl rfl (by decide) (by decide) rfl (lenOf pd_6 rfl) (ct_kept hw h54 n0 a45 (Int32.ofNat s0) (((1 : Int32) + t267_0) + t278_0) (7 : Int32) us ul (by decide) O_a45) (kp ?_)
                          refine w_if_eq (pcT := 463) (pcF := 459) C at_456 (by decide) (by decide) rfl (fun q456 => ?_) (fun q456 => ?_)
                          · have hr := hr.trans (if_pos q456)
                            exact K463 t222_0 t245_0 t267_0 t278_0 hr
                          · have hr := hr.trans (if_neg q456)
                            refine w_iconst (pc' := 460) (x := (1 : Int32)) C at_459 rfl rfl ?_
                            refine w_goto (pc' := 464) C at_460 (by decide) (by decide) ?_
                            refine w_retN' (t := .boolean) (z' := (1 : Int32)) C rfl (by simp) at_464 (by decide) (by decide) narB1 ?_
                            exact congrArg (fun z => some (Value.int z)) (hr.symm.trans (ONE3 x1 x2 x3 hs0 Pm44 eus er.symm))
          have K333 : ∀ (t222_0 : Int32) (t245_0 : Int32) (t267_0 : Int32) (t278_0 : Int32), law3 x0 x1 x2 x3 x4 x5 us s0 rr = law3_333 x0 x1 x2 x3 x4 x5 us s0 rr t222_0 t245_0 t267_0 t278_0 → Wp p l e room_1 s m #[.int x0, .int x1, .int x2, .int x3, .int x4, .int x5] below meth c n0 room_1.cells room_1.slots (fun v h => v = some (.int 1)) h54 6 75 (mkF m 333 #[.val (.int x0), .val (.int x1), .val (.int x2), .val (.int x3), .val (.int x4), .val (.int x5), .val (.int (3 : Int32)), .val (.int (Int32.ofNat s0)), .val (.ref a40), .val (.ref a45), .val (.int rr), .val (.int (1 : Int32)), .val (.int t222_0), .val (.int t245_0), .val (.int (((1 : Int32) + t267_0) + t278_0))] []) := by
            intro t222_0 t245_0 t267_0 t278_0 hr
            change _ = (if t245_0 = 0 then (law3_353 x0 x1 x2 x3 x4 x5 us s0 rr t222_0 t245_0 t267_0 t278_0) else (if (among (Int32.ofNat s0) (((1 : Int32) + t267_0) + t278_0) x3 us) = 0 then (0 : Int32) else (law3_353 x0 x1 x2 x3 x4 x5 us s0 rr t222_0 t245_0 t267_0 t278_0))) at hr
            refine w_iload (pc' := 335) C at_333 rfl rfl ?_
            refine w_if_eq (pcT := 353) (pcF := 338) C at_335 (by decide) (by decide) rfl (fun q335 => ?_) (fun q335 => ?_)
            · have hr := hr.trans (if_pos q335)
              exact K353 t222_0 t245_0 t267_0 t278_0 hr
            · have hr := hr.trans (if_neg q335)
              refine w_aload (pc' := 340) C at_338 rfl rfl rfl ?_
              refine w_iload (pc' := 342) C at_340 rfl rfl ?_
              refine w_iload (pc' := 344) C at_342 rfl rfl ?_
              refine w_iloadN (pc' := 345) C at_344 rfl rfl ?_
              refine w_callS (pc' := 348) (argsL := [.ref a45, .int (Int32.ofNat s0), .int (((1 : Int32) + t267_0) + t278_0), .int x3]) (st := []) (W := 0) (ce' := 6) (sl' := 75) C (tw hw 50 rfl) (tw hw 51 rfl) (tw hw 35 rfl) (tw hw 52 rfl) (by decide) at_345 rfl rfl (by decide) (by decide) (Nat.le_of_eq rfl) rfl rfl (by decide) (by decide) rfl (lenOf pd_6 rfl) (ct_among hw h54 n0 a45 (Int32.ofNat s0) (((1 : Int32) + t267_0) + t278_0) x3 us ul (s0_r hs0) O_a45) (kp ?_)
              refine w_if_ne (pcT := 353) (pcF := 351) C at_348 (by decide) (by decide) rfl (fun q348 => ?_) (fun q348 => ?_)
              · have hr := hr.trans (if_neg q348)
                exact K353 t222_0 t245_0 t267_0 t278_0 hr
              · have hr := hr.trans (if_pos q348)
                refine w_iconst (pc' := 352) (x := (0 : Int32)) C at_351 rfl rfl ?_
                refine w_retN' (t := .boolean) (z' := (0 : Int32)) C rfl (by simp) at_352 (by decide) (by decide) narB0 ?_
                exact congrArg (fun z => some (Value.int z)) (hr.symm.trans (ONE3 x1 x2 x3 hs0 Pm44 eus er.symm))
          have K313 : ∀ (t222_0 : Int32) (t245_0 : Int32) (t267_0 : Int32) (t278_0 : Int32), law3 x0 x1 x2 x3 x4 x5 us s0 rr = law3_313 x0 x1 x2 x3 x4 x5 us s0 rr t222_0 t245_0 t267_0 t278_0 → Wp p l e room_1 s m #[.int x0, .int x1, .int x2, .int x3, .int x4, .int x5] below meth c n0 room_1.cells room_1.slots (fun v h => v = some (.int 1)) h54 6 75 (mkF m 313 #[.val (.int x0), .val (.int x1), .val (.int x2), .val (.int x3), .val (.int x4), .val (.int x5), .val (.int (3 : Int32)), .val (.int (Int32.ofNat s0)), .val (.ref a40), .val (.ref a45), .val (.int rr), .val (.int (1 : Int32)), .val (.int t222_0), .val (.int t245_0), .val (.int (((1 : Int32) + t267_0) + t278_0))] []) := by
            intro t222_0 t245_0 t267_0 t278_0 hr
            change _ = (if t222_0 = 0 then (law3_333 x0 x1 x2 x3 x4 x5 us s0 rr t222_0 t245_0 t267_0 t278_0) else (if (among (Int32.ofNat s0) (((1 : Int32) + t267_0) + t278_0) x2 us) = 0 then (0 : Int32) else (law3_333 x0 x1 x2 x3 x4 x5 us s0 rr t222_0 t245_0 t267_0 t278_0))) at hr
            refine w_iload (pc' := 315) C at_313 rfl rfl ?_
            refine w_if_eq (pcT := 333) (pcF := 318) C at_315 (by decide) (by decide) rfl (fun q315 => ?_) (fun q315 => ?_)
            · have hr := hr.trans (if_pos q315)
              exact K333 t222_0 t245_0 t267_0 t278_0 hr
            · have hr := hr.trans (if_neg q315)
              refine w_aload (pc' := 320) C at_318 rfl rfl rfl ?_
              refine w_iload (pc' := 322) C at_320 rfl rfl ?_
              refine w_iload (pc' := 324) C at_322 rfl rfl ?_
              refine w_iloadN (pc' := 325) C at_324 rfl rfl ?_
              refine w_callS (pc' := 328) (argsL := [.ref a45, .int (Int32.ofNat s0), .int (((1 : Int32) + t267_0) + t278_0), .int x2]) (st := []) (W := 0) (ce' := 6) (sl' := 75) C (tw hw 50 rfl) (tw hw 51 rfl) (tw hw 35 rfl) (tw hw 52 rfl) (by decide) at_325 rfl rfl (by decide) (by decide) (Nat.le_of_eq rfl) rfl rfl (by decide) (by decide) rfl (lenOf pd_6 rfl) (ct_among hw h54 n0 a45 (Int32.ofNat s0) (((1 : Int32) + t267_0) + t278_0) x2 us ul (s0_r hs0) O_a45) (kp ?_)
              refine w_if_ne (pcT := 333) (pcF := 331) C at_328 (by decide) (by decide) rfl (fun q328 => ?_) (fun q328 => ?_)
              · have hr := hr.trans (if_neg q328)
                exact K333 t222_0 t245_0 t267_0 t278_0 hr
              · have hr := hr.trans (if_pos q328)
                refine w_iconst (pc' := 332) (x := (0 : Int32)) C at_331 rfl rfl ?_
                refine w_retN' (t := .boolean) (z' := (0 : Int32)) C rfl (by simp) at_332 (by decide) (by decide) narB0 ?_
                exact congrArg (fun z => some (Value.int z)) (hr.symm.trans (ONE3 x1 x2 x3 hs0 Pm44 eus er.symm))
          have K278 : ∀ (t278_0 : Int32) (t222_0 : Int32) (t245_0 : Int32) (t267_0 : Int32), law3 x0 x1 x2 x3 x4 x5 us s0 rr = law3_278 x0 x1 x2 x3 x4 x5 us s0 rr t278_0 t222_0 t245_0 t267_0 → Wp p l e room_1 s m #[.int x0, .int x1, .int x2, .int x3, .int x4, .int x5] below meth c n0 room_1.cells room_1.slots (fun v h => v = some (.int 1)) h54 6 75 (mkF m 278 #[.val (.int x0), .val (.int x1), .val (.int x2), .val (.int x3), .val (.int x4), .val (.int x5), .val (.int (3 : Int32)), .val (.int (Int32.ofNat s0)), .val (.ref a40), .val (.ref a45), .val (.int rr), .val (.int (1 : Int32)), .val (.int t222_0), .val (.int t245_0), .unset] [.int t278_0, .int ((1 : Int32) + t267_0)]) := by
            intro t278_0 t222_0 t245_0 t267_0 hr
            change _ = (if rr = ((Int32.ofNat s0) + (((1 : Int32) + t267_0) + t278_0)) then (if (among (Int32.ofNat s0) (((1 : Int32) + t267_0) + t278_0) x1 us) = 0 then (0 : Int32) else (law3_313 x0 x1 x2 x3 x4 x5 us s0 rr t222_0 t245_0 t267_0 t278_0)) else (0 : Int32)) at hr
            refine w_iadd (pc' := 279) C at_278 rfl ?_
            refine w_istore (pc' := 281) (Ls' := #[.val (.int x0), .val (.int x1), .val (.int x2), .val (.int x3), .val (.int x4), .val (.int x5), .val (.int (3 : Int32)), .val (.int (Int32.ofNat s0)), .val (.ref a40), .val (.ref a45), .val (.int rr), .val (.int (1 : Int32)), .val (.int t222_0), .val (.int t245_0), .val (.int (((1 : Int32) + t267_0) + t278_0))]) C at_279 rfl rfl ?_
            refine w_iload (pc' := 283) C at_281 rfl rfl ?_
            refine w_iload (pc' := 285) C at_283 rfl rfl ?_
            refine w_iload (pc' := 287) C at_285 rfl rfl ?_
            refine w_iadd (pc' := 288) C at_287 rfl ?_
            refine w_icmp_eq (pcT := 293) (pcF := 291) C at_288 (by decide) (by decide) rfl (fun q288 => ?_) (fun q288 => ?_)
            · have hr := hr.trans (if_pos q288)
              refine w_iload (pc' := 295) C at_293 rfl rfl ?_
              refine w_if_eq (pcT := 313) (pcF := 298) C at_295 (by decide) (by decide) rfl (fun q => absurd q (by decide)) (fun q295 => ?_)
              refine w_aload (pc' := 300) C at_298 rfl rfl rfl ?_
              refine w_iload (pc' := 302) C at_300 rfl rfl ?_
              refine w_iload (pc' := 304) C at_302 rfl rfl ?_
              refine w_iloadN (pc' := 305) C at_304 rfl rfl ?_
              refine w_callS (pc' := 308) (argsL := [.ref a45, .int (Int32.ofNat s0), .int (((1 : Int32) + t267_0) + t278_0), .int x1]) (st := []) (W := 0) (ce' := 6) (sl' := 75) C (tw hw 50 rfl) (tw hw 51 rfl) (tw hw 35 rfl) (tw hw 52 rfl) (by decide) at_305 rfl rfl (by decide) (by decide) (Nat.le_of_eq rfl) rfl rfl (by decide) (by decide) rfl (lenOf pd_6 rfl) (ct_among hw h54 n0 a45 (Int32.ofNat s0) (((1 : Int32) + t267_0) + t278_0) x1 us ul (s0_r hs0) O_a45) (kp ?_)
              refine w_if_ne (pcT := 313) (pcF := 311) C at_308 (by decide) (by decide) rfl (fun q308 => ?_) (fun q308 => ?_)
              · have hr := hr.trans (if_neg q308)
                exact K313 t222_0 t245_0 t267_0 t278_0 hr
              · have hr := hr.trans (if_pos q308)
                refine w_iconst (pc' := 312) (x := (0 : Int32)) C at_311 rfl rfl ?_
                refine w_retN' (t := .boolean) (z' := (0 : Int32)) C rfl (by simp) at_312 (by decide) (by decide) narB0 ?_
                exact congrArg (fun z => some (Value.int z)) (hr.symm.trans (ONE3 x1 x2 x3 hs0 Pm44 eus er.symm))
            · have hr := hr.trans (if_neg q288)
              refine w_iconst (pc' := 292) (x := (0 : Int32)) C at_291 rfl rfl ?_
              refine w_retN' (t := .boolean) (z' := (0 : Int32)) C rfl (by simp) at_292 (by decide) (by decide) narB0 ?_
              exact congrArg (fun z => some (Value.int z)) (hr.symm.trans (ONE3 x1 x2 x3 hs0 Pm44 eus er.symm))
          have K267 : ∀ (t267_0 : Int32) (t222_0 : Int32) (t245_0 : Int32), law3 x0 x1 x2 x3 x4 x5 us s0 rr = law3_267 x0 x1 x2 x3 x4 x5 us s0 rr t267_0 t222_0 t245_0 → Wp p l e room_1 s m #[.int x0, .int x1, .int x2, .int x3, .int x4, .int x5] below meth c n0 room_1.cells room_1.slots (fun v h => v = some (.int 1)) h54 6 75 (mkF m 267 #[.val (.int x0), .val (.int x1), .val (.int x2), .val (.int x3), .val (.int x4), .val (.int x5), .val (.int (3 : Int32)), .val (.int (Int32.ofNat s0)), .val (.ref a40), .val (.ref a45), .val (.int rr), .val (.int (1 : Int32)), .val (.int t222_0), .val (.int t245_0), .unset] [.int t267_0, .int (1 : Int32)]) := by
            intro t267_0 t222_0 t245_0 hr
            change _ = (if t245_0 = 0 then (law3_278 x0 x1 x2 x3 x4 x5 us s0 rr (0 : Int32) t222_0 t245_0 t267_0) else (law3_278 x0 x1 x2 x3 x4 x5 us s0 rr (1 : Int32) t222_0 t245_0 t267_0)) at hr
            refine w_iadd (pc' := 268) C at_267 rfl ?_
            refine w_iload (pc' := 270) C at_268 rfl rfl ?_
            refine w_if_eq (pcT := 277) (pcF := 273) C at_270 (by decide) (by decide) rfl (fun q270 => ?_) (fun q270 => ?_)
            · have hr := hr.trans (if_pos q270)
              refine w_iconst (pc' := 278) (x := (0 : Int32)) C at_277 rfl rfl ?_
              exact K278 (0 : Int32) t222_0 t245_0 t267_0 hr
            · have hr := hr.trans (if_neg q270)
              refine w_iconst (pc' := 274) (x := (1 : Int32)) C at_273 rfl rfl ?_
              refine w_goto (pc' := 278) C at_274 (by decide) (by decide) ?_
              exact K278 (1 : Int32) t222_0 t245_0 t267_0 hr
          have K257 : ∀ (t222_0 : Int32) (t245_0 : Int32), law3 x0 x1 x2 x3 x4 x5 us s0 rr = law3_257 x0 x1 x2 x3 x4 x5 us s0 rr t222_0 t245_0 → Wp p l e room_1 s m #[.int x0, .int x1, .int x2, .int x3, .int x4, .int x5] below meth c n0 room_1.cells room_1.slots (fun v h => v = some (.int 1)) h54 6 75 (mkF m 257 #[.val (.int x0), .val (.int x1), .val (.int x2), .val (.int x3), .val (.int x4), .val (.int x5), .val (.int (3 : Int32)), .val (.int (Int32.ofNat s0)), .val (.ref a40), .val (.ref a45), .val (.int rr), .val (.int (1 : Int32)), .val (.int t222_0), .val (.int t245_0), .unset] [.int (1 : Int32)]) := by
            intro t222_0 t245_0 hr
            change _ = (if t222_0 = 0 then (law3_267 x0 x1 x2 x3 x4 x5 us s0 rr (0 : Int32) t222_0 t245_0) else (law3_267 x0 x1 x2 x3 x4 x5 us s0 rr (1 : Int32) t222_0 t245_0)) at hr
            refine w_iload (pc' := 259) C at_257 rfl rfl ?_
            refine w_if_eq (pcT := 266) (pcF := 262) C at_259 (by decide) (by decide) rfl (fun q259 => ?_) (fun q259 => ?_)
            · have hr := hr.trans (if_pos q259)
              refine w_iconst (pc' := 267) (x := (0 : Int32)) C at_266 rfl rfl ?_
              exact K267 (0 : Int32) t222_0 t245_0 hr
            · have hr := hr.trans (if_neg q259)
              refine w_iconst (pc' := 263) (x := (1 : Int32)) C at_262 rfl rfl ?_
              refine w_goto (pc' := 267) C at_263 (by decide) (by decide) ?_
              exact K267 (1 : Int32) t222_0 t245_0 hr
          have K245 : ∀ (t245_0 : Int32) (t222_0 : Int32), law3 x0 x1 x2 x3 x4 x5 us s0 rr = law3_245 x0 x1 x2 x3 x4 x5 us s0 rr t245_0 t222_0 → Wp p l e room_1 s m #[.int x0, .int x1, .int x2, .int x3, .int x4, .int x5] below meth c n0 room_1.cells room_1.slots (fun v h => v = some (.int 1)) h54 6 75 (mkF m 245 #[.val (.int x0), .val (.int x1), .val (.int x2), .val (.int x3), .val (.int x4), .val (.int x5), .val (.int (3 : Int32)), .val (.int (Int32.ofNat s0)), .val (.ref a40), .val (.ref a45), .val (.int rr), .val (.int (1 : Int32)), .val (.int t222_0), .unset, .unset] [.int t245_0]) := by
            intro t245_0 t222_0 hr
            change _ = (law3_257 x0 x1 x2 x3 x4 x5 us s0 rr t222_0 t245_0) at hr
            refine w_istore (pc' := 247) (Ls' := #[.val (.int x0), .val (.int x1), .val (.int x2), .val (.int x3), .val (.int x4), .val (.int x5), .val (.int (3 : Int32)), .val (.int (Int32.ofNat s0)), .val (.ref a40), .val (.ref a45), .val (.int rr), .val (.int (1 : Int32)), .val (.int t222_0), .val (.int t245_0), .unset]) C at_245 rfl rfl ?_
            refine w_iload (pc' := 249) C at_247 rfl rfl ?_
            refine w_if_eq (pcT := 256) (pcF := 252) C at_249 (by decide) (by decide) rfl (fun q => absurd q (by decide)) (fun q249 => ?_)
            refine w_iconst (pc' := 253) (x := (1 : Int32)) C at_252 rfl rfl ?_
            refine w_goto (pc' := 257) C at_253 (by decide) (by decide) ?_
            exact K257 t222_0 t245_0 hr
          have K244 : ∀ (t222_0 : Int32), law3 x0 x1 x2 x3 x4 x5 us s0 rr = law3_244 x0 x1 x2 x3 x4 x5 us s0 rr t222_0 → Wp p l e room_1 s m #[.int x0, .int x1, .int x2, .int x3, .int x4, .int x5] below meth c n0 room_1.cells room_1.slots (fun v h => v = some (.int 1)) h54 6 75 (mkF m 244 #[.val (.int x0), .val (.int x1), .val (.int x2), .val (.int x3), .val (.int x4), .val (.int x5), .val (.int (3 : Int32)), .val (.int (Int32.ofNat s0)), .val (.ref a40), .val (.ref a45), .val (.int rr), .val (.int (1 : Int32)), .val (.int t222_0), .unset, .unset] []) := by
            intro t222_0 hr
            change _ = (law3_245 x0 x1 x2 x3 x4 x5 us s0 rr (0 : Int32) t222_0) at hr
            refine w_iconst (pc' := 245) (x := (0 : Int32)) C at_244 rfl rfl ?_
            exact K245 (0 : Int32) t222_0 hr
          have K222 : ∀ (t222_0 : Int32), law3 x0 x1 x2 x3 x4 x5 us s0 rr = law3_222 x0 x1 x2 x3 x4 x5 us s0 rr t222_0 → Wp p l e room_1 s m #[.int x0, .int x1, .int x2, .int x3, .int x4, .int x5] below meth c n0 room_1.cells room_1.slots (fun v h => v = some (.int 1)) h54 6 75 (mkF m 222 #[.val (.int x0), .val (.int x1), .val (.int x2), .val (.int x3), .val (.int x4), .val (.int x5), .val (.int (3 : Int32)), .val (.int (Int32.ofNat s0)), .val (.ref a40), .val (.ref a45), .val (.int rr), .val (.int (1 : Int32)), .unset, .unset, .unset] [.int t222_0]) := by
            intro t222_0 hr
            change _ = (if x3 = x1 then (law3_244 x0 x1 x2 x3 x4 x5 us s0 rr t222_0) else (if x3 = x2 then (law3_244 x0 x1 x2 x3 x4 x5 us s0 rr t222_0) else (law3_245 x0 x1 x2 x3 x4 x5 us s0 rr (1 : Int32) t222_0))) at hr
            refine w_istore (pc' := 224) (Ls' := #[.val (.int x0), .val (.int x1), .val (.int x2), .val (.int x3), .val (.int x4), .val (.int x5), .val (.int (3 : Int32)), .val (.int (Int32.ofNat s0)), .val (.ref a40), .val (.ref a45), .val (.int rr), .val (.int (1 : Int32)), .val (.int t222_0), .unset, .unset]) C at_222 rfl rfl ?_
            refine w_iload (pc' := 226) C at_224 rfl rfl ?_
            refine w_iconst (pc' := 227) (x := (3 : Int32)) C at_226 rfl rfl ?_
            refine w_icmp_lt (pcT := 244) (pcF := 230) C at_227 (by decide) (by decide) rfl (fun q => absurd q (by decide)) (fun q227 => ?_)
            refine w_iloadN (pc' := 231) C at_230 rfl rfl ?_
            refine w_iloadN (pc' := 232) C at_231 rfl rfl ?_
            refine w_icmp_eq (pcT := 244) (pcF := 235) C at_232 (by decide) (by decide) rfl (fun q232 => ?_) (fun q232 => ?_)
            · have hr := hr.trans (if_pos q232)
              exact K244 t222_0 hr
            · have hr := hr.trans (if_neg q232)
              refine w_iloadN (pc' := 236) C at_235 rfl rfl ?_
              refine w_iloadN (pc' := 237) C at_236 rfl rfl ?_
              refine w_icmp_eq (pcT := 244) (pcF := 240) C at_237 (by decide) (by decide) rfl (fun q237 => ?_) (fun q237 => ?_)
              · have hr := hr.trans (if_pos q237)
                exact K244 t222_0 hr
              · have hr := hr.trans (if_neg q237)
                refine w_iconst (pc' := 241) (x := (1 : Int32)) C at_240 rfl rfl ?_
                refine w_goto (pc' := 245) C at_241 (by decide) (by decide) ?_
                exact K245 (1 : Int32) t222_0 hr
          have K221 : law3 x0 x1 x2 x3 x4 x5 us s0 rr = law3_221 x0 x1 x2 x3 x4 x5 us s0 rr → Wp p l e room_1 s m #[.int x0, .int x1, .int x2, .int x3, .int x4, .int x5] below meth c n0 room_1.cells room_1.slots (fun v h => v = some (.int 1)) h54 6 75 (mkF m 221 #[.val (.int x0), .val (.int x1), .val (.int x2), .val (.int x3), .val (.int x4), .val (.int x5), .val (.int (3 : Int32)), .val (.int (Int32.ofNat s0)), .val (.ref a40), .val (.ref a45), .val (.int rr), .val (.int (1 : Int32)), .unset, .unset, .unset] []) := by
            intro hr
            change _ = (law3_222 x0 x1 x2 x3 x4 x5 us s0 rr (0 : Int32)) at hr
            refine w_iconst (pc' := 222) (x := (0 : Int32)) C at_221 rfl rfl ?_
            exact K222 (0 : Int32) hr
          have K204 : law3 x0 x1 x2 x3 x4 x5 us s0 rr = law3_204 x0 x1 x2 x3 x4 x5 us s0 rr → Wp p l e room_1 s m #[.int x0, .int x1, .int x2, .int x3, .int x4, .int x5] below meth c n0 room_1.cells room_1.slots (fun v h => v = some (.int 1)) h54 6 75 (mkF m 204 #[.val (.int x0), .val (.int x1), .val (.int x2), .val (.int x3), .val (.int x4), .val (.int x5), .val (.int (3 : Int32)), .val (.int (Int32.ofNat s0)), .val (.ref a40), .val (.ref a45), .val (.int rr), .unset, .unset, .unset, .unset] [.int (1 : Int32)]) := by
            intro hr
            change _ = (if x2 = x1 then (law3_221 x0 x1 x2 x3 x4 x5 us s0 rr) else (law3_222 x0 x1 x2 x3 x4 x5 us s0 rr (1 : Int32))) at hr
            refine w_istore (pc' := 206) (Ls' := #[.val (.int x0), .val (.int x1), .val (.int x2), .val (.int x3), .val (.int x4), .val (.int x5), .val (.int (3 : Int32)), .val (.int (Int32.ofNat s0)), .val (.ref a40), .val (.ref a45), .val (.int rr), .val (.int (1 : Int32)), .unset, .unset, .unset]) C at_204 rfl rfl ?_
            refine w_iload (pc' := 208) C at_206 rfl rfl ?_
            refine w_iconst (pc' := 209) (x := (2 : Int32)) C at_208 rfl rfl ?_
            refine w_icmp_lt (pcT := 221) (pcF := 212) C at_209 (by decide) (by decide) rfl (fun q => absurd q (by decide)) (fun q209 => ?_)
            refine w_iloadN (pc' := 213) C at_212 rfl rfl ?_
            refine w_iloadN (pc' := 214) C at_213 rfl rfl ?_
            refine w_icmp_eq (pcT := 221) (pcF := 217) C at_214 (by decide) (by decide) rfl (fun q214 => ?_) (fun q214 => ?_)
            · have hr := hr.trans (if_pos q214)
              exact K221 hr
            · have hr := hr.trans (if_neg q214)
              refine w_iconst (pc' := 218) (x := (1 : Int32)) C at_217 rfl rfl ?_
              refine w_goto (pc' := 222) C at_218 (by decide) (by decide) ?_
              exact K222 (1 : Int32) hr
          have hr : law3 x0 x1 x2 x3 x4 x5 us s0 rr = (law3_204 x0 x1 x2 x3 x4 x5 us s0 rr) := rfl
          refine w_iload (pc' := 195) C at_193 rfl rfl ?_
          refine w_iconst (pc' := 196) (x := (1 : Int32)) C at_195 rfl rfl ?_
          refine w_icmp_lt (pcT := 203) (pcF := 199) C at_196 (by decide) (by decide) rfl (fun q => absurd q (by decide)) (fun q196 => ?_)
          refine w_iconst (pc' := 200) (x := (1 : Int32)) C at_199 rfl rfl ?_
          refine w_goto (pc' := 204) C at_200 (by decide) (by decide) ?_
          exact K204 hr
        · skip
          refine w_iconst (pc' := 40) (x := (1 : Int32)) C at_39 rfl rfl ?_
          refine w_retN' (t := .boolean) (z' := (1 : Int32)) C rfl (by simp) at_40 (by decide) (by decide) narB1 ?_
          rfl
theorem q_law {v : Option Value} (q : v = some (.int 1)) : v = some (.int 1) := q
set_option maxRecDepth 65536 in
set_option maxHeartbeats 40000000 in
theorem comes_1 {Post : Tables → Env → Array Value → State → Outcome → State → Prop} (hpost : ∀ tb e args s v u, (limb_1_1.after args s (.returned v) u = true ∧ limb_1_2.after args s (.returned v) u = true ∧ True) → FrameEnd s (.returned v) u (Jvm.fieldLocs frame_1_writes args s ++ Jvm.arrayLocs frame_1_arrays args s ++ Jvm.staticLocs frame_1_statics s) 16 128 → Post tb e args s (.returned v) u) :
    ArmFor flags0 classFile x code maxLocals ret World_1 tables_1 room_1 Calls_1 rest_1 Pre_1 Post := by
  intro l hfl _ _ p e ha hc hk s m args below hf hA hF happ hP
  obtain ⟨hcalls, hrest, hpre⟩ := hP
  obtain ⟨-, -, -, hnamed, -, -, -, hat⟩ := (Spec.applies_iff hf).mp happ
  obtain ⟨hg, hn⟩ := and_e (Cond.before_iff.mp (show (Jvm.Cond.and given_1 narrow_1).before args s = true from hpre))
  obtain ⟨h1, hr0⟩ := and_e hg
  obtain ⟨w0, w1, w2, w3, w4, w5, rfl⟩ : ∃ w0 w1 w2 w3 w4 w5 : Value, args = #[w0, w1, w2, w3, w4, w5] := by
    have hs : args.size = 6 := by simpa [Cond.value, given_1] using h1
    obtain ⟨L⟩ := args
    match L, hs with
    | [w0, w1, w2, w3, w4, w5], _ => exact ⟨w0, w1, w2, w3, w4, w5, rfl⟩
  have hw := fun d (hd : d ∈ tables_1) => atoms_spec (ws := Jvm.Cond.code x code maxLocals ret :: tables_1) hat d (List.mem_cons_of_mem _ hd)
  obtain ⟨hi0, hr1⟩ := and_e hr0
  obtain ⟨i0, e0⟩ := is_v hi0
  obtain rfl : w0 = (.int i0) := Option.some.inj e0
  obtain ⟨hi1, hr2⟩ := and_e hr1
  obtain ⟨i1, e1⟩ := is_v hi1
  obtain rfl : w1 = (.int i1) := Option.some.inj e1
  obtain ⟨hi2, hr3⟩ := and_e hr2
  obtain ⟨i2, e2⟩ := is_v hi2
  obtain rfl : w2 = (.int i2) := Option.some.inj e2
  obtain ⟨hi3, hr4⟩ := and_e hr3
  obtain ⟨i3, e3⟩ := is_v hi3
  obtain rfl : w3 = (.int i3) := Option.some.inj e3
  obtain ⟨hi4, hr5⟩ := and_e hr4
  obtain ⟨i4, e4⟩ := is_v hi4
  obtain rfl : w4 = (.int i4) := Option.some.inj e4
  have hi5 := hr5
  obtain ⟨i5, e5⟩ := is_v hi5
  obtain rfl : w5 = (.int i5) := Option.some.inj e5
  obtain ⟨n, o, h1, h2, h3, _, L, rfl, ⟨q, N⟩, hq⟩ := ct_law (l := l) (Z := s) (a0 := _) hw tables_1 s.heap s.heap.size i0 i1 i2 i3 i4 i5 (Nat.le_refl _) p e ha hc hk s m _ below hf ((Spec.applies_iff_loose hf).mp happ).1 ⟨rfl, State.Warmed39.refl s, rfl⟩ trivial
  have q1 := q_law q
  subst q1
  refine ⟨n, _, h1, h2, h3, hpost _ _ _ _ _ _ ⟨Cond.after_iff.mpr rfl, Cond.after_iff.mpr (eq_i res_at (Term.int_eval (1)) rfl), trivial⟩ ⟨hq.1, hq.2.1, (hq.2.2.sift fun y hy => Or.inr (N y hy)).mono (by decide) (by decide)⟩⟩
theorem main_1_1 : Claimed_1_1 := comes_1 fun _ _ _ _ _ _ h hF => ⟨h.1, hF⟩
theorem main_1_2 : Claimed_1_2 := comes_1 fun _ _ _ _ _ _ h hF => ⟨h.2.1, hF⟩
end Jvm.Pilot.@@N@@
namespace Jvm.Pilot.@@N@@
open Jvm Jvm.ClassFile Sem Op Lib Jvm.Free Jvm.Stand Jvm.Pilot.@@N@@.Jvm.D
/-! MADE BY PROGRAM (witnessworld.py) out of the Statement's table words and the real class files: 16 classes; the members and pool entries that the words name. The judged class is class 1, her method 1. -/
namespace start1
open Jvm.ClassFile
def u (s : String) : CpInfo := .utf8 (stringToUtf16 s)
/-- a pool by its gaps: so many unusable entries, then the entry; so many at the end -/
def gap : Nat → List CpInfo → List CpInfo
  | 0, r => r
  | n + 1, r => .unusable :: gap n r
def poolList (es : List (Nat × CpInfo)) (last : Nat) : List CpInfo := es.foldr (fun e r => gap e.1 (e.2 :: r)) (gap last [])
def pool (es : List (Nat × CpInfo)) (last : Nat) : Array CpInfo := ⟨poolList es last⟩
def fileOf (pool : Array CpInfo) (this : Nat) (attrs : Array Attribute := #[]) (ms : Array MethodInfo := #[]) (fl : Nat := 33) (sup : Nat := 0) (ifs : Array Nat := #[]) (fds : Array FieldInfo := #[]) : ClassFile where
  minorVersion := 0
  majorVersion := 65
  constantPool := pool
  accessFlags := fl
  thisClass := this
  superClass := sup
  interfaces := ifs
  fields := fds
  methods := ms
  attributes := attrs
def plain (name : String) (sup : Option ClassId) : Class where
  name := name
  kind := .ordinary
  loader := none
  accessFlags := 33
  super := sup
  interfaces := #[]
  cf := none
  fields := #[]
  methods := #[]
  instanceTypes := #[]
  staticTypes := #[]
  resolved := #[]
  callSites := []
  init := .initialized
  statics := none
  mirror := none

def pool0 : Array CpInfo := pool [(5, u "<init>"), (0, u "()V"), (1, .class_ 10), (1, u "java/lang/Object")] 113

def k0c0 : Code := { maxStack := 0, maxLocals := 1, code := object_method_1_code, exceptionTable := #[], attributes := #[] }
def k0m0 : Method := { name := "<init>", desc := "()V", sig := { parameters := [], returnType := none }, accessFlags := 1, code := some k0c0 }
/-- java/lang/Object -/
def k0 : Class := { plain "java/lang/Object" none with
  accessFlags := 33
  interfaces := #[]
  cf := some (fileOf pool0 8 #[] #[{ accessFlags := 1, nameIndex := 5, descriptorIndex := 6, attributes := #[] }] 33 0 #[] #[])
  fields := #[]
  methods := #[k0m0]
  instanceTypes := #[]
  staticTypes := #[]
  resolved := Array.replicate 124 none
  statics := none }

def pool1 : Array CpInfo := pool [(2, .class_ 4), (1, u "java/lang/Object"), (0, u "<init>"), (0, u "()V"), (0, .class_ 8), (0, u "com/example/gatewright/gatewright/NearestStatements"), (0, .methodref 7 10), (0, .nameAndType 5 11), (0, u "(I)V"), (0, .methodref 7 13), (0, .nameAndType 14 15), (0, u "meet"), (0, u "(II)V"), (0, .methodref 7 17), (0, .nameAndType 18 19), (0, u "rights"), (0, u "([II)I"), (0, .methodref 21 22), (0, .class_ 23), (0, .nameAndType 24 25), (0, u "com/example/gatewright/gatewright/NearestStatementsRightsPinLaw"), (0, u "among"), (0, u "([IIII)Z"), (0, .methodref 21 27), (0, .nameAndType 28 25), (0, u "kept"), (2, u "law"), (0, u "(IIIIII)Z")] 5

def k1m0 : Method := { name := "<init>", desc := "()V", sig := { parameters := [], returnType := none }, accessFlags := 1, code := none }
def k1c1 : Code := { maxStack := 4, maxLocals := 15, code := code, exceptionTable := #[], attributes := #[] }
def k1m1 : Method := { name := "law", desc := "(IIIIII)Z", sig := { parameters := [.int, .int, .int, .int, .int, .int], returnType := some .boolean }, accessFlags := 9, code := some k1c1 }
def k1c2 : Code := { maxStack := 3, maxLocals := 4, code := method_3_code, exceptionTable := #[], attributes := #[] }
def k1m2 : Method := { name := "among", desc := "([IIII)Z", sig := { parameters := [(.array .int), .int, .int, .int], returnType := some .boolean }, accessFlags := 10, code := some k1c2 }
def k1c3 : Code := { maxStack := 3, maxLocals := 4, code := method_4_code, exceptionTable := #[], attributes := #[] }
def k1m3 : Method := { name := "kept", desc := "([IIII)Z", sig := { parameters := [(.array .int), .int, .int, .int], returnType := some .boolean }, accessFlags := 10, code := some k1c3 }
/-- com/example/gatewright/gatewright/NearestStatementsRightsPinLaw -/
def k1 : Class := { plain "com/example/gatewright/gatewright/NearestStatementsRightsPinLaw" (some 0) with
  accessFlags := 49
  interfaces := #[]
  cf := some (fileOf pool1 21 #[] #[{ accessFlags := 1, nameIndex := 5, descriptorIndex := 6, attributes := #[] }, { accessFlags := 9, nameIndex := 31, descriptorIndex := 32, attributes := #[] }, { accessFlags := 10, nameIndex := 24, descriptorIndex := 25, attributes := #[] }, { accessFlags := 10, nameIndex := 28, descriptorIndex := 25, attributes := #[] }] 49 2 #[] #[])
  fields := #[]
  methods := #[k1m0, k1m1, k1m2, k1m3]
  instanceTypes := #[]
  staticTypes := #[]
  resolved := Array.replicate 38 none
  statics := none }

def pool2 : Array CpInfo := pool [(1, .class_ 2), (0, u "java/lang/Integer"), (0, .methodref 4 5), (0, .class_ 6), (0, .nameAndType 7 8), (0, u "java/lang/Object"), (0, u "<init>"), (0, u "()V"), (0, .class_ 10), (0, u "com/example/gatewright/gatewright/NearestStatements"), (0, .long 3), (1, .long 4), (1, .methodref 9 16), (0, .nameAndType 17 18), (0, u "allocate"), (0, u "(I)V"), (1, .methodref 9 21), (0, .nameAndType 22 23), (0, u "key"), (0, u "(I)J"), (0, .fieldref 9 25), (0, .nameAndType 26 27), (0, u "slots"), (0, u "[J"), (0, .methodref 9 29), (0, .nameAndType 30 31), (0, u "slot"), (0, u "(I)I"), (0, .long 18446744069414584320), (1, .fieldref 9 35), (0, .nameAndType 36 37), (0, u "size"), (0, u "I"), (0, .methodref 9 39), (0, .nameAndType 40 8), (0, u "grow"), (0, .methodref 9 42), (0, .nameAndType 43 44), (0, u "meet"), (0, u "(II)V"), (0, .integer 2654435769), (0, .fieldref 9 47), (0, .nameAndType 48 37), (0, u "shift"), (0, .methodref 1 50), (0, .nameAndType 51 31), (0, u "numberOfLeadingZeros"), (0, u "NONE"), (1, u "FILLED_NUMERATOR"), (1, u "FILLED_DENOMINATOR"), (1, u "SPREAD"), (12, u "rights"), (0, u "([II)I")] 4

def k2c0 : Code := { maxStack := 6, maxLocals := 3, code := prog_2_method_1_code, exceptionTable := #[], attributes := #[] }
def k2m0 : Method := { name := "<init>", desc := "(I)V", sig := { parameters := [.int], returnType := none }, accessFlags := 0, code := some k2c0 }
def k2c1 : Code := { maxStack := 6, maxLocals := 7, code := prog_2_method_5_code, exceptionTable := #[], attributes := #[] }
def k2m1 : Method := { name := "meet", desc := "(II)V", sig := { parameters := [.int, .int], returnType := none }, accessFlags := 0, code := some k2c1 }
def k2c2 : Code := { maxStack := 5, maxLocals := 9, code := prog_2_method_8_code, exceptionTable := #[], attributes := #[] }
def k2m2 : Method := { name := "rights", desc := "([II)I", sig := { parameters := [(.array .int), .int], returnType := some .int }, accessFlags := 0, code := some k2c2 }
def k2c3 : Code := { maxStack := 3, maxLocals := 1, code := prog_2_method_9_code, exceptionTable := #[], attributes := #[] }
def k2m3 : Method := { name := "key", desc := "(I)J", sig := { parameters := [.int], returnType := some .long }, accessFlags := 10, code := some k2c3 }
def k2c4 : Code := { maxStack := 2, maxLocals := 2, code := prog_2_method_10_code, exceptionTable := #[], attributes := #[] }
def k2m4 : Method := { name := "slot", desc := "(I)I", sig := { parameters := [.int], returnType := some .int }, accessFlags := 2, code := some k2c4 }
def k2c5 : Code := { maxStack := 3, maxLocals := 2, code := prog_2_method_11_code, exceptionTable := #[], attributes := #[] }
def k2m5 : Method := { name := "allocate", desc := "(I)V", sig := { parameters := [.int], returnType := none }, accessFlags := 2, code := some k2c5 }
def k2c6 : Code := { maxStack := 4, maxLocals := 7, code := prog_2_method_12_code, exceptionTable := #[], attributes := #[] }
def k2m6 : Method := { name := "grow", desc := "()V", sig := { parameters := [], returnType := none }, accessFlags := 2, code := some k2c6 }
/-- com/example/gatewright/gatewright/NearestStatements -/
def k2 : Class := { plain "com/example/gatewright/gatewright/NearestStatements" (some 0) with
  accessFlags := 48
  interfaces := #[]
  cf := some (fileOf pool2 9 #[] #[{ accessFlags := 0, nameIndex := 7, descriptorIndex := 18, attributes := #[] }, { accessFlags := 0, nameIndex := 43, descriptorIndex := 44, attributes := #[] }, { accessFlags := 0, nameIndex := 71, descriptorIndex := 72, attributes := #[] }, { accessFlags := 10, nameIndex := 22, descriptorIndex := 23, attributes := #[] }, { accessFlags := 2, nameIndex := 30, descriptorIndex := 31, attributes := #[] }, { accessFlags := 2, nameIndex := 17, descriptorIndex := 18, attributes := #[] }, { accessFlags := 2, nameIndex := 40, descriptorIndex := 8, attributes := #[] }] 48 4 #[] #[{ accessFlags := 24, nameIndex := 52, descriptorIndex := 37, attributes := #[] }, { accessFlags := 26, nameIndex := 54, descriptorIndex := 37, attributes := #[] }, { accessFlags := 26, nameIndex := 56, descriptorIndex := 37, attributes := #[] }, { accessFlags := 26, nameIndex := 58, descriptorIndex := 37, attributes := #[] }, { accessFlags := 2, nameIndex := 26, descriptorIndex := 27, attributes := #[] }, { accessFlags := 2, nameIndex := 48, descriptorIndex := 37, attributes := #[] }, { accessFlags := 2, nameIndex := 36, descriptorIndex := 37, attributes := #[] }])
  fields := #[{ name := "NONE", type := .int, accessFlags := 24, slot := 0, constantValue := 0 }, { name := "FILLED_NUMERATOR", type := .int, accessFlags := 26, slot := 1, constantValue := 0 }, { name := "FILLED_DENOMINATOR", type := .int, accessFlags := 26, slot := 2, constantValue := 0 }, { name := "SPREAD", type := .int, accessFlags := 26, slot := 3, constantValue := 0 }, { name := "slots", type := (.array .long), accessFlags := 2, slot := 0, constantValue := 0 }, { name := "shift", type := .int, accessFlags := 2, slot := 1, constantValue := 0 }, { name := "size", type := .int, accessFlags := 2, slot := 2, constantValue := 0 }]
  methods := #[k2m0, k2m1, k2m2, k2m3, k2m4, k2m5, k2m6]
  instanceTypes := #[(.array .long), .int, .int]
  staticTypes := #[.int, .int, .int, .int]
  resolved := Array.replicate 77 none
  statics := none }

def pool3 : Array CpInfo := pool [(1, .class_ 2), (0, u "java/io/Serializable"), (0, .class_ 4), (0, u "java/lang/Object")] 2

/-- java/io/Serializable -/
def k3 : Class := { plain "java/io/Serializable" (some 0) with
  accessFlags := 1537
  interfaces := #[]
  cf := some (fileOf pool3 1 #[] #[] 1537 3 #[] #[])
  fields := #[]
  methods := #[]
  instanceTypes := #[]
  staticTypes := #[]
  resolved := Array.replicate 7 none
  statics := none }

def pool4 : Array CpInfo := pool [(2, .class_ 4), (1, u "java/lang/Object"), (0, u "<init>"), (0, u "()V"), (1, .class_ 10), (1, u "java/lang/Number"), (2, .class_ 14), (0, u "java/io/Serializable"), (0, u "serialVersionUID"), (0, u "J")] 20

def k4m0 : Method := { name := "<init>", desc := "()V", sig := { parameters := [], returnType := none }, accessFlags := 1, code := none }
/-- java/lang/Number -/
def k4 : Class := { plain "java/lang/Number" (some 0) with
  accessFlags := 1057
  interfaces := #[3]
  cf := some (fileOf pool4 8 #[] #[{ accessFlags := 1, nameIndex := 5, descriptorIndex := 6, attributes := #[] }] 1057 2 #[13] #[{ accessFlags := 26, nameIndex := 15, descriptorIndex := 16, attributes := #[] }])
  fields := #[{ name := "serialVersionUID", type := .long, accessFlags := 26, slot := 0, constantValue := 0 }]
  methods := #[k4m0]
  instanceTypes := #[]
  staticTypes := #[.long]
  resolved := Array.replicate 37 none
  statics := none }

def pool5 : Array CpInfo := pool [(1, .class_ 2), (0, u "java/lang/Comparable"), (0, .class_ 4), (0, u "java/lang/Object")] 7

/-- java/lang/Comparable -/
def k5 : Class := { plain "java/lang/Comparable" (some 0) with
  accessFlags := 1537
  interfaces := #[]
  cf := some (fileOf pool5 1 #[] #[] 1537 3 #[] #[])
  fields := #[]
  methods := #[]
  instanceTypes := #[]
  staticTypes := #[]
  resolved := Array.replicate 12 none
  statics := none }

def pool6 : Array CpInfo := pool [(1, .class_ 2), (0, u "java/lang/constant/Constable"), (0, .class_ 4), (0, u "java/lang/Object")] 6

/-- java/lang/constant/Constable -/
def k6 : Class := { plain "java/lang/constant/Constable" (some 0) with
  accessFlags := 1537
  interfaces := #[]
  cf := some (fileOf pool6 1 #[] #[] 1537 3 #[] #[])
  fields := #[]
  methods := #[]
  instanceTypes := #[]
  staticTypes := #[]
  resolved := Array.replicate 11 none
  statics := none }

def pool7 : Array CpInfo := pool [(1, .class_ 2), (0, u "java/lang/constant/ConstantDesc"), (0, .class_ 4), (0, u "java/lang/Object")] 32

/-- java/lang/constant/ConstantDesc -/
def k7 : Class := { plain "java/lang/constant/ConstantDesc" (some 0) with
  accessFlags := 1537
  interfaces := #[]
  cf := some (fileOf pool7 1 #[] #[] 1537 3 #[] #[])
  fields := #[]
  methods := #[]
  instanceTypes := #[]
  staticTypes := #[]
  resolved := Array.replicate 37 none
  statics := none }

def pool8 : Array CpInfo := pool [(1, .class_ 2), (0, u "java/lang/Integer"), (16, u "digits"), (0, u "[C"), (32, u "numberOfLeadingZeros"), (0, u "(I)I"), (30, u "DigitOnes"), (0, u "[B"), (2, u "DigitTens"), (99, .class_ 190), (0, u "java/lang/Integer$IntegerCache"), (3, u "I"), (8, .class_ 204), (0, u "java/lang/Number"), (2, u "value"), (56, .integer 65536), (37, u "TYPE"), (0, u "Ljava/lang/Class;"), (0, .class_ 305), (0, u "java/lang/Comparable"), (0, .class_ 307), (0, u "java/lang/constant/Constable"), (0, .class_ 309), (0, u "java/lang/constant/ConstantDesc"), (0, u "MIN_VALUE"), (1, u "MAX_VALUE"), (3, u "SIZE"), (1, u "BYTES"), (1, u "serialVersionUID"), (0, u "J")] 131

def k8c0 : Code := { maxStack := 3, maxLocals := 2, code := jdk_33_method_47_code, exceptionTable := #[], attributes := #[] }
def k8m0 : Method := { name := "numberOfLeadingZeros", desc := "(I)I", sig := { parameters := [.int], returnType := some .int }, accessFlags := 9, code := some k8c0 }
/-- java/lang/Integer -/
def k8 : Class := { plain "java/lang/Integer" (some 4) with
  accessFlags := 49
  interfaces := #[5, 6, 7]
  cf := some (fileOf pool8 1 #[.nestMembers #[189]] #[{ accessFlags := 9, nameIndex := 53, descriptorIndex := 54, attributes := #[] }] 49 203 #[304, 306, 308] #[{ accessFlags := 25, nameIndex := 310, descriptorIndex := 194, attributes := #[] }, { accessFlags := 25, nameIndex := 312, descriptorIndex := 194, attributes := #[] }, { accessFlags := 25, nameIndex := 302, descriptorIndex := 303, attributes := #[] }, { accessFlags := 24, nameIndex := 19, descriptorIndex := 20, attributes := #[] }, { accessFlags := 24, nameIndex := 89, descriptorIndex := 86, attributes := #[] }, { accessFlags := 24, nameIndex := 85, descriptorIndex := 86, attributes := #[] }, { accessFlags := 18, nameIndex := 207, descriptorIndex := 194, attributes := #[] }, { accessFlags := 25, nameIndex := 316, descriptorIndex := 194, attributes := #[] }, { accessFlags := 25, nameIndex := 318, descriptorIndex := 194, attributes := #[] }, { accessFlags := 26, nameIndex := 320, descriptorIndex := 321, attributes := #[] }])
  fields := #[{ name := "MIN_VALUE", type := .int, accessFlags := 25, slot := 0, constantValue := 0 }, { name := "MAX_VALUE", type := .int, accessFlags := 25, slot := 1, constantValue := 0 }, { name := "TYPE", type := (.object "java/lang/Class"), accessFlags := 25, slot := 2, constantValue := 0 }, { name := "digits", type := (.array .char), accessFlags := 24, slot := 3, constantValue := 0 }, { name := "DigitTens", type := (.array .byte), accessFlags := 24, slot := 4, constantValue := 0 }, { name := "DigitOnes", type := (.array .byte), accessFlags := 24, slot := 5, constantValue := 0 }, { name := "value", type := .int, accessFlags := 18, slot := 0, constantValue := 0 }, { name := "SIZE", type := .int, accessFlags := 25, slot := 6, constantValue := 0 }, { name := "BYTES", type := .int, accessFlags := 25, slot := 7, constantValue := 0 }, { name := "serialVersionUID", type := .long, accessFlags := 26, slot := 8, constantValue := 0 }]
  methods := #[k8m0]
  instanceTypes := #[.int]
  staticTypes := #[.int, .int, (.object "java/lang/Class"), (.array .char), (.array .byte), (.array .byte), .int, .int, .long]
  resolved := Array.replicate 453 none
  statics := none }

def pool9 : Array CpInfo := pool [(1, u "java/lang/Cloneable"), (0, .class_ 1), (0, u "java/lang/Object"), (0, .class_ 3)] 3

/-- java/lang/Cloneable -/
def k9 : Class := { plain "java/lang/Cloneable" (some 0) with
  accessFlags := 1537
  interfaces := #[]
  cf := some (fileOf pool9 2 #[] #[] 1537 4 #[] #[])
  fields := #[]
  methods := #[]
  instanceTypes := #[]
  staticTypes := #[]
  resolved := Array.replicate 8 none
  statics := none }

/-- the primitive byte -/
def k10 : Class := { plain "byte" none with kind := .primitive 'B', accessFlags := 0x411 }
/-- [B -/
def k11 : Class := { plain "[B" (some 0) with kind := .array 10 .byte, interfaces := #[9, 3], accessFlags := 1041 }

/-- the primitive int -/
def k12 : Class := { plain "int" none with kind := .primitive 'I', accessFlags := 0x411 }
/-- [I -/
def k13 : Class := { plain "[I" (some 0) with kind := .array 12 .int, interfaces := #[9, 3], accessFlags := 1041 }

/-- the primitive long -/
def k14 : Class := { plain "long" none with kind := .primitive 'J', accessFlags := 0x411 }
/-- [J -/
def k15 : Class := { plain "[J" (some 0) with kind := .array 14 .long, interfaces := #[9, 3], accessFlags := 1041 }

def heap : Heap := #[]
def classes : Array Class := #[k0, k1, k2, k3, k4, k5, k6, k7, k8, k9, k10, k11, k12, k13, k14, k15]
def interned : List (Array UInt16 × Addr) := []
def slotsUsed : Nat := 0
def theMethod : MethodId := ⟨1, 1⟩
def args0 : Array Value := #[.int 5, .int 6, .int 7, .int 8, .int 9, .int 10]
def aboutOver (below : List Frame) : State where
  vm := { classes := classes, interned := interned.toArray }
  heap := heap
  slotsUsed := slotsUsed
  threads := #[{ frames := .invoking theMethod args0 :: below }]
def below0 : List Frame := [.native { method := ⟨0, 0⟩, args := #[] }]
def about1 : State := aboutOver below0
def p0 : Program := .bare "" "" ""
def e0 : Env := launch0.env 0 0 0
theorem w_frames : about1.frames = Frame.invoking theMethod args0 :: below0 := rfl
set_option maxRecDepth 65536 in
theorem w_args : argsFit about1.vm theMethod args0 = true := by decide +kernel
set_option maxRecDepth 65536 in
theorem w_heap : heapFits about1 = true := by decide +kernel
set_option maxRecDepth 65536 in
theorem w_runnable : about1.curStatus? = some .runnable := by decide +kernel
set_option maxRecDepth 65536 in
theorem w_alone : about1.alone = true := by decide +kernel
set_option maxRecDepth 65536 in
theorem w_named : about1.methodNamed? x = some theMethod := by decide +kernel
set_option maxRecDepth 65536 in
theorem w_hears : about1.hears theMethod below0 = true := by decide +kernel
set_option maxRecDepth 65536 in
theorem w_ripe : about1.ripe theMethod args0 below0 = true := by decide +kernel
theorem w_running : about1.status = .running := rfl
set_option maxRecDepth 65536 in
theorem w_room : about1.hasRoom e0.platform room_1 = true :=
  launch0.hasRoom_least _ room_1 (by decide +kernel) (by decide +kernel) (by decide +kernel) (by decide +kernel) (by decide +kernel) (by decide +kernel)
theorem allAtoms_all (ts : List Jvm.Cond) (a : Array Jvm.Value) (st : Jvm.State) : (allAtoms ts).before a st = ts.all (fun c => c.before a st) := by
  induction ts with
  | nil => rfl
  | cons c t ih =>
    show (Jvm.Cond.and c (allAtoms t)).before a st = _
    rw [Jvm.Cond.before_and, ih, List.all_cons]
def words1 : List Jvm.Cond := Jvm.Cond.code x code maxLocals ret :: tables_1
/-- a 'code' word, met by the world's own term for the bytes: nothing is compared byte by byte -/
theorem code_word {y : MethodName} {bytes : ByteArray} {mx : Nat} {rt : Option FieldType} {a : Array Value} {s : State} {m : MethodId} {meth : Method} {c : Code} (h1 : s.methodNamed? y = some m) (h2 : s.vm.method? m = some meth) (h3 : meth.code = some c) (h4 : c.code = bytes)
    (h5 : (c.maxLocals == mx && c.exceptionTable.isEmpty && decide (c.maxStack ≤ mostOperands) && decide (meth.sig.returnType = rt) && !meth.locks && decide (parseMethodDescriptor y.desc = some meth.sig)) = true) : (Jvm.Cond.code y bytes mx rt).before a s = true := by
  simp only [Bool.and_eq_true, beq_iff_eq, Bool.not_eq_true', decide_eq_true_eq] at h5
  obtain ⟨⟨⟨⟨⟨g1, g2⟩, g3⟩, g4⟩, g5⟩, g6⟩ := h5
  simp [Cond.before, Cond.holds, Cond.value, h1, h2, h3, h4, g1, g2, g3, g4, g5, g6]
def isCode : Jvm.Cond → Bool
  | .code _ _ _ _ => true
  | _ => false
theorem all_split {L : List Jvm.Cond} {P : Jvm.Cond → Bool} (h1 : L.all (fun c => isCode c || P c) = true) (h2 : ∀ c ∈ L.filter isCode, P c = true) : L.all P = true := by
  refine List.all_eq_true.mpr fun c hc => ?_
  have h := List.all_eq_true.mp h1 c hc
  rcases Bool.eq_false_or_eq_true (isCode c) with hi | hi
  · exact h2 c (List.mem_filter.mpr ⟨hc, hi⟩)
  · simpa [hi] using h
set_option maxRecDepth 65536 in
theorem w_c0 : (Jvm.Cond.code x code maxLocals ret).before args0 about1 = true := code_word (m := ⟨1, 1⟩) (meth := k1m1) (c := k1c1) (by decide +kernel) rfl rfl rfl (by decide +kernel)
set_option maxRecDepth 65536 in
theorem w_c1 : (Jvm.Cond.code ({ cls := "com/example/gatewright/gatewright/NearestStatements", name := "<init>", desc := "(I)V" } : Jvm.MethodName) prog_2_method_1_code (3 : Nat) (Option.none : Option Jvm.ClassFile.FieldType)).before args0 about1 = true := code_word (m := ⟨2, 0⟩) (meth := k2m0) (c := k2c0) (by decide +kernel) rfl rfl rfl (by decide +kernel)
set_option maxRecDepth 65536 in
theorem w_c2 : (Jvm.Cond.code ({ cls := "java/lang/Object", name := "<init>", desc := "()V" } : Jvm.MethodName) object_method_1_code (1 : Nat) (Option.none : Option Jvm.ClassFile.FieldType)).before args0 about1 = true := code_word (m := ⟨0, 0⟩) (meth := k0m0) (c := k0c0) (by decide +kernel) rfl rfl rfl (by decide +kernel)
set_option maxRecDepth 65536 in
theorem w_c3 : (Jvm.Cond.code ({ cls := "com/example/gatewright/gatewright/NearestStatements", name := "allocate", desc := "(I)V" } : Jvm.MethodName) prog_2_method_11_code (2 : Nat) (Option.none : Option Jvm.ClassFile.FieldType)).before args0 about1 = true := code_word (m := ⟨2, 5⟩) (meth := k2m5) (c := k2c5) (by decide +kernel) rfl rfl rfl (by decide +kernel)
set_option maxRecDepth 65536 in
theorem w_c4 : (Jvm.Cond.code ({ cls := "java/lang/Integer", name := "numberOfLeadingZeros", desc := "(I)I" } : Jvm.MethodName) jdk_33_method_47_code (2 : Nat) (Option.some Jvm.ClassFile.FieldType.int)).before args0 about1 = true := code_word (m := ⟨8, 0⟩) (meth := k8m0) (c := k8c0) (by decide +kernel) rfl rfl rfl (by decide +kernel)
set_option maxRecDepth 65536 in
theorem w_c5 : (Jvm.Cond.code ({ cls := "com/example/gatewright/gatewright/NearestStatements", name := "rights", desc := "([II)I" } : Jvm.MethodName) prog_2_method_8_code (9 : Nat) (Option.some Jvm.ClassFile.FieldType.int)).before args0 about1 = true := code_word (m := ⟨2, 2⟩) (meth := k2m2) (c := k2c2) (by decide +kernel) rfl rfl rfl (by decide +kernel)
set_option maxRecDepth 65536 in
theorem w_c6 : (Jvm.Cond.code ({ cls := "com/example/gatewright/gatewright/NearestStatementsRightsPinLaw", name := "kept", desc := "([IIII)Z" } : Jvm.MethodName) method_4_code (4 : Nat) (Option.some Jvm.ClassFile.FieldType.boolean)).before args0 about1 = true := code_word (m := ⟨1, 3⟩) (meth := k1m3) (c := k1c3) (by decide +kernel) rfl rfl rfl (by decide +kernel)
set_option maxRecDepth 65536 in
theorem w_c7 : (Jvm.Cond.code ({ cls := "com/example/gatewright/gatewright/NearestStatements", name := "meet", desc := "(II)V" } : Jvm.MethodName) prog_2_method_5_code (7 : Nat) (Option.none : Option Jvm.ClassFile.FieldType)).before args0 about1 = true := code_word (m := ⟨2, 1⟩) (meth := k2m1) (c := k2c1) (by decide +kernel) rfl rfl rfl (by decide +kernel)
set_option maxRecDepth 65536 in
theorem w_c8 : (Jvm.Cond.code ({ cls := "com/example/gatewright/gatewright/NearestStatements", name := "key", desc := "(I)J" } : Jvm.MethodName) prog_2_method_9_code (1 : Nat) (Option.some Jvm.ClassFile.FieldType.long)).before args0 about1 = true := code_word (m := ⟨2, 3⟩) (meth := k2m3) (c := k2c3) (by decide +kernel) rfl rfl rfl (by decide +kernel)
set_option maxRecDepth 65536 in
theorem w_c9 : (Jvm.Cond.code ({ cls := "com/example/gatewright/gatewright/NearestStatements", name := "slot", desc := "(I)I" } : Jvm.MethodName) prog_2_method_10_code (2 : Nat) (Option.some Jvm.ClassFile.FieldType.int)).before args0 about1 = true := code_word (m := ⟨2, 4⟩) (meth := k2m4) (c := k2c4) (by decide +kernel) rfl rfl rfl (by decide +kernel)
set_option maxRecDepth 65536 in
theorem w_c10 : (Jvm.Cond.code ({ cls := "com/example/gatewright/gatewright/NearestStatementsRightsPinLaw", name := "among", desc := "([IIII)Z" } : Jvm.MethodName) method_3_code (4 : Nat) (Option.some Jvm.ClassFile.FieldType.boolean)).before args0 about1 = true := code_word (m := ⟨1, 2⟩) (meth := k1m2) (c := k1c2) (by decide +kernel) rfl rfl rfl (by decide +kernel)
set_option maxRecDepth 65536 in
theorem w_c11 : (Jvm.Cond.code ({ cls := "com/example/gatewright/gatewright/NearestStatements", name := "grow", desc := "()V" } : Jvm.MethodName) prog_2_method_12_code (7 : Nat) (Option.none : Option Jvm.ClassFile.FieldType)).before args0 about1 = true := code_word (m := ⟨2, 6⟩) (meth := k2m6) (c := k2c6) (by decide +kernel) rfl rfl rfl (by decide +kernel)
def codes1 : List Jvm.Cond := [Jvm.Cond.code x code maxLocals ret, Jvm.Cond.code ({ cls := "com/example/gatewright/gatewright/NearestStatements", name := "<init>", desc := "(I)V" } : Jvm.MethodName) prog_2_method_1_code (3 : Nat) (Option.none : Option Jvm.ClassFile.FieldType), Jvm.Cond.code ({ cls := "java/lang/Object", name := "<init>", desc := "()V" } : Jvm.MethodName) object_method_1_code (1 : Nat) (Option.none : Option Jvm.ClassFile.FieldType), Jvm.Cond.code ({ cls := "com/example/gatewright/gatewright/NearestStatements", name := "allocate", desc := "(I)V" } : Jvm.MethodName) prog_2_method_11_code (2 : Nat) (Option.none : Option Jvm.ClassFile.FieldType), Jvm.Cond.code ({ cls := "java/lang/Integer", name := "numberOfLeadingZeros", desc := "(I)I" } : Jvm.MethodName) jdk_33_method_47_code (2 : Nat) (Option.some Jvm.ClassFile.FieldType.int), Jvm.Cond.code ({ cls := "com/example/gatewright/gatewright/NearestStatements", name := "rights", desc := "([II)I" } : Jvm.MethodName) prog_2_method_8_code (9 : Nat) (Option.some Jvm.ClassFile.FieldType.int), Jvm.Cond.code ({ cls := "com/example/gatewright/gatewright/NearestStatementsRightsPinLaw", name := "kept", desc := "([IIII)Z" } : Jvm.MethodName) method_4_code (4 : Nat) (Option.some Jvm.ClassFile.FieldType.boolean), Jvm.Cond.code ({ cls := "com/example/gatewright/gatewright/NearestStatements", name := "meet", desc := "(II)V" } : Jvm.MethodName) prog_2_method_5_code (7 : Nat) (Option.none : Option Jvm.ClassFile.FieldType), Jvm.Cond.code ({ cls := "com/example/gatewright/gatewright/NearestStatements", name := "key", desc := "(I)J" } : Jvm.MethodName) prog_2_method_9_code (1 : Nat) (Option.some Jvm.ClassFile.FieldType.long), Jvm.Cond.code ({ cls := "com/example/gatewright/gatewright/NearestStatements", name := "slot", desc := "(I)I" } : Jvm.MethodName) prog_2_method_10_code (2 : Nat) (Option.some Jvm.ClassFile.FieldType.int), Jvm.Cond.code ({ cls := "com/example/gatewright/gatewright/NearestStatementsRightsPinLaw", name := "among", desc := "([IIII)Z" } : Jvm.MethodName) method_3_code (4 : Nat) (Option.some Jvm.ClassFile.FieldType.boolean), Jvm.Cond.code ({ cls := "com/example/gatewright/gatewright/NearestStatements", name := "grow", desc := "()V" } : Jvm.MethodName) prog_2_method_12_code (7 : Nat) (Option.none : Option Jvm.ClassFile.FieldType)]
set_option maxRecDepth 65536 in
theorem codes_eq : words1.filter isCode = codes1 := rfl
theorem w_codes : ∀ c ∈ words1.filter isCode, c.before args0 about1 = true := by
  rw [codes_eq]
  intro c hc
  simp only [codes1, List.mem_cons, List.not_mem_nil, or_false] at hc
  rcases hc with rfl | rfl | rfl | rfl | rfl | rfl | rfl | rfl | rfl | rfl | rfl | rfl
  · exact w_c0
  · exact w_c1
  · exact w_c2
  · exact w_c3
  · exact w_c4
  · exact w_c5
  · exact w_c6
  · exact w_c7
  · exact w_c8
  · exact w_c9
  · exact w_c10
  · exact w_c11
set_option maxRecDepth 65536 in
theorem w_t1 : (words1.take 24).all (fun c => isCode c || c.before args0 about1) = true := by decide +kernel
set_option maxRecDepth 65536 in
theorem w_t2 : ((words1.drop 24).take 24).all (fun c => isCode c || c.before args0 about1) = true := by decide +kernel
set_option maxRecDepth 65536 in
theorem w_t3 : ((words1.drop 24).drop 24).all (fun c => isCode c || c.before args0 about1) = true := by decide +kernel
theorem w_tables : (allAtoms (Jvm.Cond.code x code maxLocals ret :: tables_1)).before args0 about1 = true := by
  rw [allAtoms_all]
  show words1.all (fun c => c.before args0 about1) = true
  refine all_split ?_ w_codes
  rw [← List.take_append_drop 24 words1, List.all_append, w_t1, ← List.take_append_drop 24 (words1.drop 24), List.all_append, w_t2, w_t3]
  rfl
set_option maxRecDepth 65536 in
theorem w_case : (Jvm.Cond.and given_1 narrow_1).before args0 about1 = true := by decide +kernel
theorem w_applies : (headSpec (Jvm.Cond.code x code maxLocals ret :: tables_1) room_1).applies x e0.platform about1 = true :=
  (Spec.applies_iff w_frames).mpr ⟨w_running, w_runnable, w_alone, w_named, w_hears, w_ripe, w_room, w_tables⟩
theorem atStart : AtStart classFile x code maxLocals ret World_1 tables_1 room_1 Calls_1 rest_1 Pre_1 launch0 p0 e0 about1 theMethod args0 below0 :=
  ⟨lists_1, trivial, launch0.admits_env _ _ _, launch0.least_env, fairChoices_fair.cas, fairChoices_fair.clock, w_frames, w_args, w_heap, w_applies, trivial, trivial, w_case⟩
end start1
theorem witness_1 : WitnessClaimed_1 := ⟨start1.p0, start1.e0, start1.about1, start1.theMethod, start1.args0, start1.below0, start1.atStart⟩
end Jvm.Pilot.@@N@@
