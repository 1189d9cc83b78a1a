import JvmDerived
import JvmDerived.Pilot.@@N@@Statement
import JvmDerived.Pilot.@@N@@Code
set_option linter.unusedVariables false
set_option linter.unusedSimpArgs false
namespace Jvm.Own
open Jvm Sem ClassFile Op Lib Jvm.Stand Jvm.Free Jvm.LawKit Jvm.RoadKit
/-- the frame's end, of a walk that interns nothing -/
def EN (s : State) (cM sM : Nat) (v : Option Value) (t : State) (L : List Loc) : Prop := FrameEnd s (.returned v) t L cM sM
/-- is the entry resolved to a String? -/
def resB (s : State) (p : String × Nat) : Bool := match s.resolvedAt? p.1 p.2 with | some (.string _) => true | _ => false
/-- how many entries of EL are resolved -/
def NR (EL : List (String × Nat)) (s : State) : Nat := (EL.filter (resB s)).length
theorem NR_le (EL : List (String × Nat)) (s : State) : NR EL s ≤ EL.length := List.length_filter_le _ _
theorem resB_lit {s : State} {p : String × Nat} {a : Addr} (q : Lit s p.1 p.2 a) : resB s p = true := by
  unfold resB; rw [show s.resolvedAt? p.1 p.2 = some (.string a) from q]
theorem resB_ex {s : State} {p : String × Nat} (q : resB s p = true) : ∃ a, Lit s p.1 p.2 a := by
  unfold resB at q
  split at q
  · exact ⟨_, by assumption⟩
  · cases q
theorem resB_mono {s : State} {vm' : Vm} (hW : s.Warmed39 vm') {p : String × Nat} (q : resB s p = true) : resB (s.setVm vm') p = true := by
  obtain ⟨a, L⟩ := resB_ex q
  exact resB_lit (a := a) (State.resolvedAt?_warmed39 hW L)
theorem NR_cons (s : State) (p : String × Nat) (EL : List (String × Nat)) : NR (p :: EL) s = (if resB s p = true then 1 else 0) + NR EL s := by
  unfold NR
  by_cases h : resB s p = true
  · rw [List.filter_cons_of_pos h, if_pos h, List.length_cons]; omega
  · rw [List.filter_cons_of_neg h, if_neg h]; omega
theorem NR_mono (EL : List (String × Nat)) {s : State} {vm' : Vm} (hW : s.Warmed39 vm') : NR EL s ≤ NR EL (s.setVm vm') := by
  induction EL with
  | nil => exact Nat.le_refl _
  | cons p EL ih =>
    rw [NR_cons, NR_cons]
    by_cases h : resB s p = true
    · rw [if_pos h, if_pos (resB_mono hW h)]; omega
    · rw [if_neg h]; omega
theorem NR_lt {EL : List (String × Nat)} {s : State} {vm' : Vm} (hW : s.Warmed39 vm') {p : String × Nat} (hp : p ∈ EL) (h0 : ¬ resB s p = true) (h1 : resB (s.setVm vm') p = true) : NR EL s + 1 ≤ NR EL (s.setVm vm') := by
  induction EL with
  | nil => cases hp
  | cons q EL ih =>
    rw [NR_cons, NR_cons]
    rcases List.mem_cons.mp hp with rfl | hp
    · rw [if_neg h0, if_pos h1]
      have := NR_mono EL hW; omega
    · have := ih hp
      by_cases h : resB s q = true
      · rw [if_pos h, if_pos (resB_mono hW h)]; omega
      · rw [if_neg h]; omega
theorem NR_vm (EL : List (String × Nat)) {s t : State} (e : s.vm = t.vm) : NR EL s = NR EL t := by
  unfold NR resB State.resolvedAt?; rw [e]
/-- the frame's end, of a walk that may load String constants: s is its true start; w Strings have been made at the most, each paid by an entry that has come to be resolved -/
def EH (Z : State) (EL : List (String × Nat)) (M : Nat) (s : State) (cM sM Bm : Nat) (v : Option Value) (t : State) (L : List Loc) : Prop :=
  CHr Z EL s.vm s.heap t.vm t.heap ∧ ∃ w, w + NR EL s ≤ NR EL t ∧ w ≤ Bm ∧ ReturnedEndW s (.returned v) t L (cM + 2 * w) (sM + M * w)
/-- a return from here ends as EE says -/
def Closes (s : State) (h : Heap) (cells slots : Nat) (EE : Option Value → State → List Loc → Prop) : Prop :=
  ∀ (v : Option Value) (t : State) (L : List Loc), t.heap = h → FrameEnd s (.returned v) t L cells slots → EE v t L
theorem closeN {s : State} {h : Heap} {cells slots cM sM : Nat} (hc : cells ≤ cM) (hs : slots ≤ sM) : Closes s h cells slots (EN s cM sM) := fun v t L _ F => ⟨F.1, F.2.1, F.2.2.mono hc hs⟩
theorem closeH {Z : State} {EL : List (String × Nat)} {M : Nat} {a0 : Array Value} {s : State} {vm0 : Vm} {k0 : Nat} {h : Heap} {a b cM sM u B Bm : Nat} (hZ : Z.Warmed39 vm0) (hEL : EW Z a0 EL) (HS : s.Since vm0 k0) (HK : k0 ≤ h.size) (HC : CHr Z EL s.vm s.heap vm0 h) (HU : u + NR EL s ≤ NR EL (s.setVm vm0)) (HB : u ≤ B) (hc : a ≤ cM) (hs : b ≤ sM) (hB : B ≤ Bm) :
    Closes (s.setVm vm0) h (a + 2 * u) (b + M * u) (EH Z EL M s cM sM Bm) := fun v t L e F => by
  subst e
  obtain ⟨w1, w2, w3⟩ := HS.ended (U := t) F.2.1 HK F.2.2
  have q := CHv.later (h' := t.heap) hZ (hW := (show (Wst Z vm0 t.heap).Warmed39 t.vm from F.2.1.wide)) hEL ⟨Nat.le_refl _, fun _ _ q => q⟩ (Or.inl F.2.1.interned_eq) HC.1
  have n2 : NR EL (s.setVm vm0) ≤ NR EL t := Nat.le_trans (NR_mono EL F.2.1.wide) (Nat.le_of_eq (NR_vm EL rfl))
  exact ⟨HC.trans ⟨q.1, Nat.le_refl _, q.2⟩, u, Nat.le_trans HU n2, Nat.le_trans HB hB, ⟨v, rfl⟩, w1, w2, w3.mono (Nat.add_le_add_right hc _) (Nat.add_le_add_right hs _)⟩
/-- what is left to run: from any state that stands here with this heap, in this frame, the method comes back, and Q holds of what it returns and of the heap -/
def Wp (p : Program) (l : Launch) (e : Env) (R : Room) (s : State) (m : MethodId) (args : Array Value) (below : List Frame) (meth : Method) (c : Code)
    (n0 : Nat) (EE : Option Value → State → List Loc → Prop) (Q : Option Value → Heap → Prop) (h : Heap) (cells slots : Nat) (g : JFrame) : Prop :=
  ∀ (T : State) (locs : List Loc), Stand p l e R s m args below meth c T locs cells slots → T.heap = h → Fr n0 locs →
    ∃ s₂ v L, Steps p.tables e below (T.setTop g) s₂ ∧ s₂.status = .running ∧ Ended s₂ below (.returned v) ∧ (Q v s₂.heap ∧ Fr n0 L) ∧ EE v s₂ L
/-- what is known of the method that is walked -/
def Cx (p : Program) (s : State) (m : MethodId) (meth : Method) (c : Code) (Z : State) (own : String) (bytes : ByteArray) (ml : Nat) (rt : Option FieldType) (nm : String) : Prop :=
  p.tables.exec = Jvm.exec ∧ c.code = bytes ∧ Z.Warmed39 s.vm ∧ s.vm.findClass own = some m.cls ∧ c.maxLocals = ml ∧ meth.sig.returnType = rt ∧ meth.name = nm ∧ meth.locks = false
/-- a method's contract: called with these arguments at this heap -/
def Ct (l : Launch) (Z : State) (y : MethodName) (bytes : ByteArray) (maxL : Nat) (ret : Option FieldType) (ws : List Jvm.Cond) (rm : Room) (as' : Array Value) (h : Heap) (n0 : Nat) (Q : Option Value → Heap → Prop) : Prop :=
  MetFree l y (head1 (Jvm.Cond.code y bytes maxL ret :: ws) rm) (fun a U => a = as' ∧ Z.Warmed39 U.vm ∧ U.heap = h) (fun _ _ _ _ _ => True)
    (fun _ U o U' => ∃ v L, o = .returned v ∧ (Q v U'.heap ∧ Fr n0 L) ∧ FrameEnd U o U' L rm.cells rm.slots)
theorem Ct.of {l : Launch} {Z : State} {y : MethodName} {bytes : ByteArray} {maxL : Nat} {ret : Option FieldType} {ws : List Jvm.Cond} {rm : Room} {as' : Array Value} {h : Heap} {n0 : Nat} {Q : Option Value → Heap → Prop} {Ls : Array Slot}
    (hpl : plainFor y = true) (ef : ∀ m, entryFrame m as' maxL = mkF m 0 Ls [])
    (H : ∀ p e s m below meth c, Cx p s m meth c Z y.cls bytes maxL ret y.name → Wp p l e rm s m as' below meth c n0 (EN s rm.cells rm.slots) Q h 0 0 (mkF m 0 Ls [])) :
    Ct l Z y bytes maxL ret ws rm as' h n0 Q := by
  refine MetFree.of_bodySF hpl hisR ?_
  intro p e s m args below meth c s₁ Bd hml0 hP hK
  obtain ⟨rfl, hZ, hh⟩ := hP
  have C : Cx p s m meth c Z y.cls bytes maxL ret y.name := ⟨Bd.exec, Bd.bytes, hZ, findClass_of_methodNamed Bd.named, hml0, Bd.returns, (name_of_methodNamed Bd.named Bd.method).1, Bd.notSynchronized⟩
  obtain ⟨s₂, v, L, a1, a2, a3, a4, a5⟩ := H p e s m below meth c C s₁ [] (Stand.of_body Bd) (by rw [← hh, Bd.state]; rfl) (Fr.nil n0)
  exact ⟨s₂, .returned v, castTop (ef m) a1, a2, a3, v, L, rfl, a4, a5⟩
theorem Ct.mono {l : Launch} {Z : State} {y : MethodName} {bytes : ByteArray} {maxL : Nat} {ret : Option FieldType} {ws : List Jvm.Cond} {rm : Room} {as' : Array Value} {h : Heap} {n0 : Nat} {Q Q' : Option Value → Heap → Prop}
    (H : Ct l Z y bytes maxL ret ws rm as' h n0 Q) (i : ∀ v h', Q v h' → Q' v h') : Ct l Z y bytes maxL ret ws rm as' h n0 Q' := by
  intro p e ha hc hk s m args below hf happ hP hK
  obtain ⟨n, o, h1, h2, h3, v, L, h4, h5, h6⟩ := H p e ha hc hk s m args below hf happ hP hK
  exact ⟨n, o, h1, h2, h3, v, L, h4, ⟨i _ _ h5.1, h5.2⟩, h6⟩
section Rules
variable {p : Program} {l : Launch} {e : Env} {R : Room} {s : State} {m : MethodId} {args : Array Value} {below : List Frame} {meth : Method} {c : Code} {n0 : Nat} {EE : Option Value → State → List Loc → Prop} {Q : Option Value → Heap → Prop} {h : Heap} {cells slots : Nat}
variable {Z : State} {own nm : String} {bytes : ByteArray} {ml : Nat} {rt : Option FieldType} {a0 : Array Value}
theorem Wp.pure {g g' : JFrame} (st : ∀ (T t : State), At T m c below → Steps p.tables e below (T.setTop g') t → Steps p.tables e below (T.setTop g) t) (k : Wp p l e R s m args below meth c n0 EE Q h cells slots g') :
    Wp p l e R s m args below meth c n0 EE Q h cells slots g := fun T locs X e0 N => by
  obtain ⟨s2, v, L, a, r⟩ := k T locs X e0 N
  exact ⟨s2, v, L, st T s2 X.here a, r⟩
theorem Wp.law {g g' : JFrame} (st : ∀ (T : State) (locs : List Loc), Stand p l e R s m args below meth c T locs cells slots → T.heap = h → ∃ T', Stand p l e R s m args below meth c T' locs cells slots ∧ T'.heap = h ∧ ∀ t, Steps p.tables e below (T'.setTop g') t → Steps p.tables e below (T.setTop g) t)
    (k : Wp p l e R s m args below meth c n0 EE Q h cells slots g') : Wp p l e R s m args below meth c n0 EE Q h cells slots g := fun T locs X e0 N => by
  obtain ⟨T', X', e', st'⟩ := st T locs X e0
  obtain ⟨s2, v, L, a, r⟩ := k T' locs X' e' N
  exact ⟨s2, v, L, st' s2 a, r⟩
theorem Wp.more {g : JFrame} {cells' slots' : Nat} (hc : cells ≤ cells') (hs : slots ≤ slots') (k : Wp p l e R s m args below meth c n0 EE Q h cells' slots' g) : Wp p l e R s m args below meth c n0 EE Q h cells slots g :=
  fun T locs X e0 N => k T locs (X.more hc hs) e0 N
theorem Wp.mono {g : JFrame} {Q' : Option Value → Heap → Prop} (i : ∀ v h', Q v h' → Q' v h') (k : Wp p l e R s m args below meth c n0 EE Q h cells slots g) : Wp p l e R s m args below meth c n0 EE Q' h cells slots g :=
  fun T locs X e0 N => by
    obtain ⟨s2, v, L, a, b, d, q, r⟩ := k T locs X e0 N
    exact ⟨s2, v, L, a, b, d, ⟨i _ _ q.1, q.2⟩, r⟩
theorem Wp.ret {g : JFrame} {v : Option Value} (C : Cx p s m meth c Z own bytes ml rt nm)
    (st : ∀ (T : State) (fs : List Frame) (locs : List Loc), Stand p l e R s m args below meth c T locs cells slots → (∀ (f : JFrame) (acts : List Action), f.method = m → f.locked = none → f.entered = [] → (doReturn e (T.setTop f) acts v).1 = T.setFrames fs) → Steps p.tables e below (T.setTop g) (T.setFrames fs))
    (hv : meth.sig.returnType = none → v = none) (hE : Closes s h cells slots EE) (q : Q v h) : Wp p l e R s m args below meth c n0 EE Q h cells slots g := by
  intro T locs X e0 N
  have hlk : meth.locks = false := C.2.2.2.2.2.2.2
  obtain ⟨fs, hr, hrun, hended, hW, hsame⟩ := X.leave (v := v) hv hlk
  exact ⟨_, v, locs, st T fs locs X hr, hrun, hended, ⟨by subst e0; exact q, N⟩, hE v _ locs e0 ⟨⟨_, rfl⟩, hW, hsame⟩⟩
theorem w_iloadN (C : Cx p s m meth c Z own bytes ml rt nm) {pc pc' : Nat} {Ls : Array Slot} {st : List Value} {k : Fin 4} {x : Int32} (hd : decode bytes pc = .ok (.iload_n k, 1)) (hl : Ls[k.val]? = some (.val (.int x))) (hp : pc + 1 = pc') (K : Wp p l e R s m args below meth c n0 EE Q h cells slots (mkF m pc' Ls (.int x :: st))) :
    Wp p l e R s m args below meth c n0 EE Q h cells slots (mkF m pc Ls st) := by
  subst hp; exact Wp.pure (fun T t X hr => XS.iloadN X C.1 rfl (hb C.2.1 hd) hl hr) K
theorem w_iload (C : Cx p s m meth c Z own bytes ml rt nm) {pc pc' : Nat} {Ls : Array Slot} {st : List Value} {k : Nat} {x : Int32} (hd : decode bytes pc = .ok (.iload k, 2)) (hl : Ls[k]? = some (.val (.int x))) (hp : pc + 2 = pc') (K : Wp p l e R s m args below meth c n0 EE Q h cells slots (mkF m pc' Ls (.int x :: st))) :
    Wp p l e R s m args below meth c n0 EE Q h cells slots (mkF m pc Ls st) := by
  subst hp; exact Wp.pure (fun T t X hr => XS.iload X C.1 rfl (hb C.2.1 hd) hl hr) K
theorem w_lloadN (C : Cx p s m meth c Z own bytes ml rt nm) {pc pc' : Nat} {Ls : Array Slot} {st : List Value} {k : Fin 4} {x : Int64} (hd : decode bytes pc = .ok (.lload_n k, 1)) (hl : Ls[k.val]? = some (.val (.long x))) (hp : pc + 1 = pc') (K : Wp p l e R s m args below meth c n0 EE Q h cells slots (mkF m pc' Ls (.long x :: st))) :
    Wp p l e R s m args below meth c n0 EE Q h cells slots (mkF m pc Ls st) := by
  subst hp; exact Wp.pure (fun T t X hr => XS.lloadN X C.1 rfl (hb C.2.1 hd) hl hr) K
theorem w_lload (C : Cx p s m meth c Z own bytes ml rt nm) {pc pc' : Nat} {Ls : Array Slot} {st : List Value} {k : Nat} {x : Int64} (hd : decode bytes pc = .ok (.lload k, 2)) (hl : Ls[k]? = some (.val (.long x))) (hp : pc + 2 = pc') (K : Wp p l e R s m args below meth c n0 EE Q h cells slots (mkF m pc' Ls (.long x :: st))) :
    Wp p l e R s m args below meth c n0 EE Q h cells slots (mkF m pc Ls st) := by
  subst hp; exact Wp.pure (fun T t X hr => XS.lload X C.1 rfl (hb C.2.1 hd) hl hr) K
theorem w_aloadN (C : Cx p s m meth c Z own bytes ml rt nm) {pc pc' : Nat} {Ls : Array Slot} {st : List Value} {k : Fin 4} {v : Value} (hd : decode bytes pc = .ok (.aload_n k, 1)) (hl : Ls[k.val]? = some (.val v)) (hv : v.isRef = true) (hp : pc + 1 = pc') (K : Wp p l e R s m args below meth c n0 EE Q h cells slots (mkF m pc' Ls (v :: st))) :
    Wp p l e R s m args below meth c n0 EE Q h cells slots (mkF m pc Ls st) := by
  subst hp; exact Wp.pure (fun T t X hr => XS.aloadN X C.1 rfl (hb C.2.1 hd) hl hv hr) K
theorem w_aload (C : Cx p s m meth c Z own bytes ml rt nm) {pc pc' : Nat} {Ls : Array Slot} {st : List Value} {k : Nat} {v : Value} (hd : decode bytes pc = .ok (.aload k, 2)) (hl : Ls[k]? = some (.val v)) (hv : v.isRef = true) (hp : pc + 2 = pc') (K : Wp p l e R s m args below meth c n0 EE Q h cells slots (mkF m pc' Ls (v :: st))) :
    Wp p l e R s m args below meth c n0 EE Q h cells slots (mkF m pc Ls st) := by
  subst hp; exact Wp.pure (fun T t X hr => XS.aload X C.1 rfl (hb C.2.1 hd) hl hv hr) K
theorem w_istoreN (C : Cx p s m meth c Z own bytes ml rt nm) {pc pc' : Nat} {Ls : Array Slot} {st : List Value} {k : Fin 4} {x : Int32} {Ls' : Array Slot} (hd : decode bytes pc = .ok (.istore_n k, 1)) (hl : storeLocals Ls k.val (.int x) = some Ls') (hp : pc + 1 = pc') (K : Wp p l e R s m args below meth c n0 EE Q h cells slots (mkF m pc' Ls' st)) :
    Wp p l e R s m args below meth c n0 EE Q h cells slots (mkF m pc Ls (.int x :: st)) := by
  subst hp; exact Wp.pure (fun T t X hr => XS.istoreN X C.1 rfl (hb C.2.1 hd) rfl hl hr) K
theorem w_istore (C : Cx p s m meth c Z own bytes ml rt nm) {pc pc' : Nat} {Ls : Array Slot} {st : List Value} {k : Nat} {x : Int32} {Ls' : Array Slot} (hd : decode bytes pc = .ok (.istore k, 2)) (hl : storeLocals Ls k (.int x) = some Ls') (hp : pc + 2 = pc') (K : Wp p l e R s m args below meth c n0 EE Q h cells slots (mkF m pc' Ls' st)) :
    Wp p l e R s m args below meth c n0 EE Q h cells slots (mkF m pc Ls (.int x :: st)) := by
  subst hp; exact Wp.pure (fun T t X hr => XS.istore X C.1 rfl (hb C.2.1 hd) rfl hl hr) K
theorem w_lstoreN (C : Cx p s m meth c Z own bytes ml rt nm) {pc pc' : Nat} {Ls : Array Slot} {st : List Value} {k : Fin 4} {x : Int64} {Ls' : Array Slot} (hd : decode bytes pc = .ok (.lstore_n k, 1)) (hl : storeLocals Ls k.val (.long x) = some Ls') (hp : pc + 1 = pc') (K : Wp p l e R s m args below meth c n0 EE Q h cells slots (mkF m pc' Ls' st)) :
    Wp p l e R s m args below meth c n0 EE Q h cells slots (mkF m pc Ls (.long x :: st)) := by
  subst hp; exact Wp.pure (fun T t X hr => XS.lstoreN X C.1 rfl (hb C.2.1 hd) rfl hl hr) K
theorem w_lstore (C : Cx p s m meth c Z own bytes ml rt nm) {pc pc' : Nat} {Ls : Array Slot} {st : List Value} {k : Nat} {x : Int64} {Ls' : Array Slot} (hd : decode bytes pc = .ok (.lstore k, 2)) (hl : storeLocals Ls k (.long x) = some Ls') (hp : pc + 2 = pc') (K : Wp p l e R s m args below meth c n0 EE Q h cells slots (mkF m pc' Ls' st)) :
    Wp p l e R s m args below meth c n0 EE Q h cells slots (mkF m pc Ls (.long x :: st)) := by
  subst hp; exact Wp.pure (fun T t X hr => XS.lstore X C.1 rfl (hb C.2.1 hd) rfl hl hr) K
theorem w_astoreN (C : Cx p s m meth c Z own bytes ml rt nm) {pc pc' : Nat} {Ls : Array Slot} {st : List Value} {k : Fin 4} {v : Value} {Ls' : Array Slot} (hd : decode bytes pc = .ok (.astore_n k, 1)) (hv : v.isRef = true) (hl : storeLocals Ls k.val v = some Ls') (hp : pc + 1 = pc') (K : Wp p l e R s m args below meth c n0 EE Q h cells slots (mkF m pc' Ls' st)) :
    Wp p l e R s m args below meth c n0 EE Q h cells slots (mkF m pc Ls (v :: st)) := by
  subst hp; exact Wp.pure (fun T t X hr => XS.astoreN X C.1 rfl (hb C.2.1 hd) rfl hv hl hr) K
theorem w_astore (C : Cx p s m meth c Z own bytes ml rt nm) {pc pc' : Nat} {Ls : Array Slot} {st : List Value} {k : Nat} {v : Value} {Ls' : Array Slot} (hd : decode bytes pc = .ok (.astore k, 2)) (hv : v.isRef = true) (hl : storeLocals Ls k v = some Ls') (hp : pc + 2 = pc') (K : Wp p l e R s m args below meth c n0 EE Q h cells slots (mkF m pc' Ls' st)) :
    Wp p l e R s m args below meth c n0 EE Q h cells slots (mkF m pc Ls (v :: st)) := by
  subst hp; exact Wp.pure (fun T t X hr => XS.astore X C.1 rfl (hb C.2.1 hd) rfl hv hl hr) K
theorem w_iinc (C : Cx p s m meth c Z own bytes ml rt nm) {pc pc' : Nat} {Ls : Array Slot} {st : List Value} {k : Nat} {cst : Int} {x : Int32} {Ls' : Array Slot} (hd : decode bytes pc = .ok (.iinc k cst, 3)) (hx : Ls[k]? = some (.val (.int x))) (hl : storeLocals Ls k (.int (x + Int32.ofInt cst)) = some Ls') (hp : pc + 3 = pc') (K : Wp p l e R s m args below meth c n0 EE Q h cells slots (mkF m pc' Ls' st)) :
    Wp p l e R s m args below meth c n0 EE Q h cells slots (mkF m pc Ls st) := by
  subst hp; exact Wp.pure (fun T t X hr => XS.iinc X C.1 rfl (hb C.2.1 hd) hx hl hr) K
theorem w_iconst (C : Cx p s m meth c Z own bytes ml rt nm) {pc pc' : Nat} {Ls : Array Slot} {st : List Value} {i : Int} {x : Int32} (hd : decode bytes pc = .ok (.iconst i, 1)) (hx : Int32.ofInt i = x) (hp : pc + 1 = pc') (K : Wp p l e R s m args below meth c n0 EE Q h cells slots (mkF m pc' Ls (.int x :: st))) :
    Wp p l e R s m args below meth c n0 EE Q h cells slots (mkF m pc Ls st) := by
  subst hp hx; exact Wp.pure (fun T t X hr => XS.iconst X C.1 rfl (hb C.2.1 hd) hr) K
theorem w_bipush (C : Cx p s m meth c Z own bytes ml rt nm) {pc pc' : Nat} {Ls : Array Slot} {st : List Value} {i : Int} {x : Int32} (hd : decode bytes pc = .ok (.bipush i, 2)) (hx : (Int8.ofInt i).toInt32 = x) (hp : pc + 2 = pc') (K : Wp p l e R s m args below meth c n0 EE Q h cells slots (mkF m pc' Ls (.int x :: st))) :
    Wp p l e R s m args below meth c n0 EE Q h cells slots (mkF m pc Ls st) := by
  subst hp hx; exact Wp.pure (fun T t X hr => XS.bipush X C.1 rfl (hb C.2.1 hd) hr) K
theorem w_sipush (C : Cx p s m meth c Z own bytes ml rt nm) {pc pc' : Nat} {Ls : Array Slot} {st : List Value} {i : Int} {x : Int32} (hd : decode bytes pc = .ok (.sipush i, 3)) (hx : (Int16.ofInt i).toInt32 = x) (hp : pc + 3 = pc') (K : Wp p l e R s m args below meth c n0 EE Q h cells slots (mkF m pc' Ls (.int x :: st))) :
    Wp p l e R s m args below meth c n0 EE Q h cells slots (mkF m pc Ls st) := by
  subst hp hx; exact Wp.pure (fun T t X hr => XS.sipush X C.1 rfl (hb C.2.1 hd) hr) K
theorem w_lconst (C : Cx p s m meth c Z own bytes ml rt nm) {pc pc' : Nat} {Ls : Array Slot} {st : List Value} {k : Fin 2} {x : Int64} (hd : decode bytes pc = .ok (.lconst k, 1)) (hx : Int64.ofNat k = x) (hp : pc + 1 = pc') (K : Wp p l e R s m args below meth c n0 EE Q h cells slots (mkF m pc' Ls (.long x :: st))) :
    Wp p l e R s m args below meth c n0 EE Q h cells slots (mkF m pc Ls st) := by
  subst hp hx; exact Wp.pure (fun T t X hr => XS.lconst X C.1 rfl (hb C.2.1 hd) hr) K
theorem w_aconstNull (C : Cx p s m meth c Z own bytes ml rt nm) {pc pc' : Nat} {Ls : Array Slot} {st : List Value}  (hd : decode bytes pc = .ok (.aconst_null, 1))  (hp : pc + 1 = pc') (K : Wp p l e R s m args below meth c n0 EE Q h cells slots (mkF m pc' Ls (.null :: st))) :
    Wp p l e R s m args below meth c n0 EE Q h cells slots (mkF m pc Ls st) := by
  subst hp; exact Wp.pure (fun T t X hr => XS.aconstNull X C.1 rfl (hb C.2.1 hd)  hr) K
theorem w_iadd (C : Cx p s m meth c Z own bytes ml rt nm) {pc pc' : Nat} {Ls : Array Slot} {st : List Value} {x y : Int32} (hd : decode bytes pc = .ok (.iadd, 1))  (hp : pc + 1 = pc') (K : Wp p l e R s m args below meth c n0 EE Q h cells slots (mkF m pc' Ls (.int (x + y) :: st))) :
    Wp p l e R s m args below meth c n0 EE Q h cells slots (mkF m pc Ls (.int y :: .int x :: st)) := by
  subst hp; exact Wp.pure (fun T t X hr => XS.iadd X C.1 rfl (hb C.2.1 hd) rfl hr) K
theorem w_isub (C : Cx p s m meth c Z own bytes ml rt nm) {pc pc' : Nat} {Ls : Array Slot} {st : List Value} {x y : Int32} (hd : decode bytes pc = .ok (.isub, 1))  (hp : pc + 1 = pc') (K : Wp p l e R s m args below meth c n0 EE Q h cells slots (mkF m pc' Ls (.int (x - y) :: st))) :
    Wp p l e R s m args below meth c n0 EE Q h cells slots (mkF m pc Ls (.int y :: .int x :: st)) := by
  subst hp; exact Wp.pure (fun T t X hr => XS.isub X C.1 rfl (hb C.2.1 hd) rfl hr) K
theorem w_imul (C : Cx p s m meth c Z own bytes ml rt nm) {pc pc' : Nat} {Ls : Array Slot} {st : List Value} {x y : Int32} (hd : decode bytes pc = .ok (.imul, 1))  (hp : pc + 1 = pc') (K : Wp p l e R s m args below meth c n0 EE Q h cells slots (mkF m pc' Ls (.int (x * y) :: st))) :
    Wp p l e R s m args below meth c n0 EE Q h cells slots (mkF m pc Ls (.int y :: .int x :: st)) := by
  subst hp; exact Wp.pure (fun T t X hr => XS.imul X C.1 rfl (hb C.2.1 hd) rfl hr) K
theorem w_iand (C : Cx p s m meth c Z own bytes ml rt nm) {pc pc' : Nat} {Ls : Array Slot} {st : List Value} {x y : Int32} (hd : decode bytes pc = .ok (.iand, 1))  (hp : pc + 1 = pc') (K : Wp p l e R s m args below meth c n0 EE Q h cells slots (mkF m pc' Ls (.int (x &&& y) :: st))) :
    Wp p l e R s m args below meth c n0 EE Q h cells slots (mkF m pc Ls (.int y :: .int x :: st)) := by
  subst hp; exact Wp.pure (fun T t X hr => XS.iand X C.1 rfl (hb C.2.1 hd) rfl hr) K
theorem w_ior (C : Cx p s m meth c Z own bytes ml rt nm) {pc pc' : Nat} {Ls : Array Slot} {st : List Value} {x y : Int32} (hd : decode bytes pc = .ok (.ior, 1))  (hp : pc + 1 = pc') (K : Wp p l e R s m args below meth c n0 EE Q h cells slots (mkF m pc' Ls (.int (x ||| y) :: st))) :
    Wp p l e R s m args below meth c n0 EE Q h cells slots (mkF m pc Ls (.int y :: .int x :: st)) := by
  subst hp; exact Wp.pure (fun T t X hr => XS.ior X C.1 rfl (hb C.2.1 hd) rfl hr) K
theorem w_ixor (C : Cx p s m meth c Z own bytes ml rt nm) {pc pc' : Nat} {Ls : Array Slot} {st : List Value} {x y : Int32} (hd : decode bytes pc = .ok (.ixor, 1))  (hp : pc + 1 = pc') (K : Wp p l e R s m args below meth c n0 EE Q h cells slots (mkF m pc' Ls (.int (x ^^^ y) :: st))) :
    Wp p l e R s m args below meth c n0 EE Q h cells slots (mkF m pc Ls (.int y :: .int x :: st)) := by
  subst hp; exact Wp.pure (fun T t X hr => XS.ixor X C.1 rfl (hb C.2.1 hd) rfl hr) K
theorem w_ishl (C : Cx p s m meth c Z own bytes ml rt nm) {pc pc' : Nat} {Ls : Array Slot} {st : List Value} {x y : Int32} (hd : decode bytes pc = .ok (.ishl, 1))  (hp : pc + 1 = pc') (K : Wp p l e R s m args below meth c n0 EE Q h cells slots (mkF m pc' Ls (.int (x <<< (y &&& 31)) :: st))) :
    Wp p l e R s m args below meth c n0 EE Q h cells slots (mkF m pc Ls (.int y :: .int x :: st)) := by
  subst hp; exact Wp.pure (fun T t X hr => XS.ishl X C.1 rfl (hb C.2.1 hd) rfl hr) K
theorem w_ishr (C : Cx p s m meth c Z own bytes ml rt nm) {pc pc' : Nat} {Ls : Array Slot} {st : List Value} {x y : Int32} (hd : decode bytes pc = .ok (.ishr, 1))  (hp : pc + 1 = pc') (K : Wp p l e R s m args below meth c n0 EE Q h cells slots (mkF m pc' Ls (.int (x >>> (y &&& 31)) :: st))) :
    Wp p l e R s m args below meth c n0 EE Q h cells slots (mkF m pc Ls (.int y :: .int x :: st)) := by
  subst hp; exact Wp.pure (fun T t X hr => XS.ishr X C.1 rfl (hb C.2.1 hd) rfl hr) K
theorem w_iushr (C : Cx p s m meth c Z own bytes ml rt nm) {pc pc' : Nat} {Ls : Array Slot} {st : List Value} {x y : Int32} (hd : decode bytes pc = .ok (.iushr, 1))  (hp : pc + 1 = pc') (K : Wp p l e R s m args below meth c n0 EE Q h cells slots (mkF m pc' Ls (.int ((x.toUInt32 >>> (y &&& 31).toUInt32).toInt32) :: st))) :
    Wp p l e R s m args below meth c n0 EE Q h cells slots (mkF m pc Ls (.int y :: .int x :: st)) := by
  subst hp; exact Wp.pure (fun T t X hr => XS.iushr X C.1 rfl (hb C.2.1 hd) rfl hr) K
theorem w_ladd (C : Cx p s m meth c Z own bytes ml rt nm) {pc pc' : Nat} {Ls : Array Slot} {st : List Value} {x y : Int64} (hd : decode bytes pc = .ok (.ladd, 1))  (hp : pc + 1 = pc') (K : Wp p l e R s m args below meth c n0 EE Q h cells slots (mkF m pc' Ls (.long (x + y) :: st))) :
    Wp p l e R s m args below meth c n0 EE Q h cells slots (mkF m pc Ls (.long y :: .long x :: st)) := by
  subst hp; exact Wp.pure (fun T t X hr => XS.ladd X C.1 rfl (hb C.2.1 hd) rfl hr) K
theorem w_lsub (C : Cx p s m meth c Z own bytes ml rt nm) {pc pc' : Nat} {Ls : Array Slot} {st : List Value} {x y : Int64} (hd : decode bytes pc = .ok (.lsub, 1))  (hp : pc + 1 = pc') (K : Wp p l e R s m args below meth c n0 EE Q h cells slots (mkF m pc' Ls (.long (x - y) :: st))) :
    Wp p l e R s m args below meth c n0 EE Q h cells slots (mkF m pc Ls (.long y :: .long x :: st)) := by
  subst hp; exact Wp.pure (fun T t X hr => XS.lsub X C.1 rfl (hb C.2.1 hd) rfl hr) K
theorem w_lmul (C : Cx p s m meth c Z own bytes ml rt nm) {pc pc' : Nat} {Ls : Array Slot} {st : List Value} {x y : Int64} (hd : decode bytes pc = .ok (.lmul, 1))  (hp : pc + 1 = pc') (K : Wp p l e R s m args below meth c n0 EE Q h cells slots (mkF m pc' Ls (.long (x * y) :: st))) :
    Wp p l e R s m args below meth c n0 EE Q h cells slots (mkF m pc Ls (.long y :: .long x :: st)) := by
  subst hp; exact Wp.pure (fun T t X hr => XS.lmul X C.1 rfl (hb C.2.1 hd) rfl hr) K
theorem w_land (C : Cx p s m meth c Z own bytes ml rt nm) {pc pc' : Nat} {Ls : Array Slot} {st : List Value} {x y : Int64} (hd : decode bytes pc = .ok (.land, 1))  (hp : pc + 1 = pc') (K : Wp p l e R s m args below meth c n0 EE Q h cells slots (mkF m pc' Ls (.long (x &&& y) :: st))) :
    Wp p l e R s m args below meth c n0 EE Q h cells slots (mkF m pc Ls (.long y :: .long x :: st)) := by
  subst hp; exact Wp.pure (fun T t X hr => XS.land X C.1 rfl (hb C.2.1 hd) rfl hr) K
theorem w_lor (C : Cx p s m meth c Z own bytes ml rt nm) {pc pc' : Nat} {Ls : Array Slot} {st : List Value} {x y : Int64} (hd : decode bytes pc = .ok (.lor, 1))  (hp : pc + 1 = pc') (K : Wp p l e R s m args below meth c n0 EE Q h cells slots (mkF m pc' Ls (.long (x ||| y) :: st))) :
    Wp p l e R s m args below meth c n0 EE Q h cells slots (mkF m pc Ls (.long y :: .long x :: st)) := by
  subst hp; exact Wp.pure (fun T t X hr => XS.lor X C.1 rfl (hb C.2.1 hd) rfl hr) K
theorem w_lxor (C : Cx p s m meth c Z own bytes ml rt nm) {pc pc' : Nat} {Ls : Array Slot} {st : List Value} {x y : Int64} (hd : decode bytes pc = .ok (.lxor, 1))  (hp : pc + 1 = pc') (K : Wp p l e R s m args below meth c n0 EE Q h cells slots (mkF m pc' Ls (.long (x ^^^ y) :: st))) :
    Wp p l e R s m args below meth c n0 EE Q h cells slots (mkF m pc Ls (.long y :: .long x :: st)) := by
  subst hp; exact Wp.pure (fun T t X hr => XS.lxor X C.1 rfl (hb C.2.1 hd) rfl hr) K
theorem w_lshl (C : Cx p s m meth c Z own bytes ml rt nm) {pc pc' : Nat} {Ls : Array Slot} {st : List Value} {x : Int64} {y : Int32} (hd : decode bytes pc = .ok (.lshl, 1))  (hp : pc + 1 = pc') (K : Wp p l e R s m args below meth c n0 EE Q h cells slots (mkF m pc' Ls (.long (x <<< (y &&& 0x3f).toInt64) :: st))) :
    Wp p l e R s m args below meth c n0 EE Q h cells slots (mkF m pc Ls (.int y :: .long x :: st)) := by
  subst hp; exact Wp.pure (fun T t X hr => XS.lshl X C.1 rfl (hb C.2.1 hd) rfl hr) K
theorem w_lshr (C : Cx p s m meth c Z own bytes ml rt nm) {pc pc' : Nat} {Ls : Array Slot} {st : List Value} {x : Int64} {y : Int32} (hd : decode bytes pc = .ok (.lshr, 1))  (hp : pc + 1 = pc') (K : Wp p l e R s m args below meth c n0 EE Q h cells slots (mkF m pc' Ls (.long (x >>> (y &&& 0x3f).toInt64) :: st))) :
    Wp p l e R s m args below meth c n0 EE Q h cells slots (mkF m pc Ls (.int y :: .long x :: st)) := by
  subst hp; exact Wp.pure (fun T t X hr => XS.lshr X C.1 rfl (hb C.2.1 hd) rfl hr) K
theorem w_lushr (C : Cx p s m meth c Z own bytes ml rt nm) {pc pc' : Nat} {Ls : Array Slot} {st : List Value} {x : Int64} {y : Int32} (hd : decode bytes pc = .ok (.lushr, 1))  (hp : pc + 1 = pc') (K : Wp p l e R s m args below meth c n0 EE Q h cells slots (mkF m pc' Ls (.long ((x.toUInt64 >>> (y &&& 0x3f).toInt64.toUInt64).toInt64) :: st))) :
    Wp p l e R s m args below meth c n0 EE Q h cells slots (mkF m pc Ls (.int y :: .long x :: st)) := by
  subst hp; exact Wp.pure (fun T t X hr => XS.lushr X C.1 rfl (hb C.2.1 hd) rfl hr) K
theorem w_idiv (C : Cx p s m meth c Z own bytes ml rt nm) {pc pc' : Nat} {Ls : Array Slot} {st : List Value} {x y : Int32} (hd : decode bytes pc = .ok (.idiv, 1)) (hy : y ≠ 0) (hp : pc + 1 = pc') (K : Wp p l e R s m args below meth c n0 EE Q h cells slots (mkF m pc' Ls (.int (x / y) :: st))) :
    Wp p l e R s m args below meth c n0 EE Q h cells slots (mkF m pc Ls (.int y :: .int x :: st)) := by
  subst hp; exact Wp.pure (fun T t X hr => XS.idiv X C.1 rfl (hb C.2.1 hd) rfl hy hr) K
theorem w_ldiv (C : Cx p s m meth c Z own bytes ml rt nm) {pc pc' : Nat} {Ls : Array Slot} {st : List Value} {x y : Int64} (hd : decode bytes pc = .ok (.ldiv, 1)) (hy : y ≠ 0) (hp : pc + 1 = pc') (K : Wp p l e R s m args below meth c n0 EE Q h cells slots (mkF m pc' Ls (.long (x / y) :: st))) :
    Wp p l e R s m args below meth c n0 EE Q h cells slots (mkF m pc Ls (.long y :: .long x :: st)) := by
  subst hp; exact Wp.pure (fun T t X hr => XS.ldiv X C.1 rfl (hb C.2.1 hd) rfl hy hr) K
theorem w_irem (C : Cx p s m meth c Z own bytes ml rt nm) {pc pc' : Nat} {Ls : Array Slot} {st : List Value} {x y : Int32} (hd : decode bytes pc = .ok (.irem, 1)) (hy : y ≠ 0) (hp : pc + 1 = pc') (K : Wp p l e R s m args below meth c n0 EE Q h cells slots (mkF m pc' Ls (.int (x % y) :: st))) :
    Wp p l e R s m args below meth c n0 EE Q h cells slots (mkF m pc Ls (.int y :: .int x :: st)) := by
  subst hp; exact Wp.pure (fun T t X hr => XS.irem X C.1 rfl (hb C.2.1 hd) rfl hy (by rw [irem_eq_mod x y]; exact hr)) K
theorem w_lrem (C : Cx p s m meth c Z own bytes ml rt nm) {pc pc' : Nat} {Ls : Array Slot} {st : List Value} {x y : Int64} (hd : decode bytes pc = .ok (.lrem, 1)) (hy : y ≠ 0) (hp : pc + 1 = pc') (K : Wp p l e R s m args below meth c n0 EE Q h cells slots (mkF m pc' Ls (.long (x % y) :: st))) :
    Wp p l e R s m args below meth c n0 EE Q h cells slots (mkF m pc Ls (.long y :: .long x :: st)) := by
  subst hp; exact Wp.pure (fun T t X hr => XS.lrem X C.1 rfl (hb C.2.1 hd) rfl hy (by rw [lrem_mod x y]; exact hr)) K
theorem w_ineg (C : Cx p s m meth c Z own bytes ml rt nm) {pc pc' : Nat} {Ls : Array Slot} {st : List Value} {x : Int32} (hd : decode bytes pc = .ok (.ineg, 1))  (hp : pc + 1 = pc') (K : Wp p l e R s m args below meth c n0 EE Q h cells slots (mkF m pc' Ls (.int (-x) :: st))) :
    Wp p l e R s m args below meth c n0 EE Q h cells slots (mkF m pc Ls (.int x :: st)) := by
  subst hp; exact Wp.pure (fun T t X hr => XS.ineg X C.1 rfl (hb C.2.1 hd) rfl hr) K
theorem w_lneg (C : Cx p s m meth c Z own bytes ml rt nm) {pc pc' : Nat} {Ls : Array Slot} {st : List Value} {x : Int64} (hd : decode bytes pc = .ok (.lneg, 1))  (hp : pc + 1 = pc') (K : Wp p l e R s m args below meth c n0 EE Q h cells slots (mkF m pc' Ls (.long (-x) :: st))) :
    Wp p l e R s m args below meth c n0 EE Q h cells slots (mkF m pc Ls (.long x :: st)) := by
  subst hp; exact Wp.pure (fun T t X hr => XS.lneg X C.1 rfl (hb C.2.1 hd) rfl hr) K
theorem w_i2l (C : Cx p s m meth c Z own bytes ml rt nm) {pc pc' : Nat} {Ls : Array Slot} {st : List Value} {x : Int32} (hd : decode bytes pc = .ok (.i2l, 1))  (hp : pc + 1 = pc') (K : Wp p l e R s m args below meth c n0 EE Q h cells slots (mkF m pc' Ls (.long x.toInt64 :: st))) :
    Wp p l e R s m args below meth c n0 EE Q h cells slots (mkF m pc Ls (.int x :: st)) := by
  subst hp; exact Wp.pure (fun T t X hr => XS.i2l X C.1 rfl (hb C.2.1 hd) rfl hr) K
theorem w_l2i (C : Cx p s m meth c Z own bytes ml rt nm) {pc pc' : Nat} {Ls : Array Slot} {st : List Value} {x : Int64} (hd : decode bytes pc = .ok (.l2i, 1))  (hp : pc + 1 = pc') (K : Wp p l e R s m args below meth c n0 EE Q h cells slots (mkF m pc' Ls (.int x.toInt32 :: st))) :
    Wp p l e R s m args below meth c n0 EE Q h cells slots (mkF m pc Ls (.long x :: st)) := by
  subst hp; exact Wp.pure (fun T t X hr => XS.l2i X C.1 rfl (hb C.2.1 hd) rfl hr) K
theorem w_i2b (C : Cx p s m meth c Z own bytes ml rt nm) {pc pc' : Nat} {Ls : Array Slot} {st : List Value} {x : Int32} (hd : decode bytes pc = .ok (.i2b, 1))  (hp : pc + 1 = pc') (K : Wp p l e R s m args below meth c n0 EE Q h cells slots (mkF m pc' Ls (.int x.toInt8.toInt32 :: st))) :
    Wp p l e R s m args below meth c n0 EE Q h cells slots (mkF m pc Ls (.int x :: st)) := by
  subst hp; exact Wp.pure (fun T t X hr => XS.i2b X C.1 rfl (hb C.2.1 hd) rfl hr) K
theorem w_i2s (C : Cx p s m meth c Z own bytes ml rt nm) {pc pc' : Nat} {Ls : Array Slot} {st : List Value} {x : Int32} (hd : decode bytes pc = .ok (.i2s, 1))  (hp : pc + 1 = pc') (K : Wp p l e R s m args below meth c n0 EE Q h cells slots (mkF m pc' Ls (.int x.toInt16.toInt32 :: st))) :
    Wp p l e R s m args below meth c n0 EE Q h cells slots (mkF m pc Ls (.int x :: st)) := by
  subst hp; exact Wp.pure (fun T t X hr => XS.i2s X C.1 rfl (hb C.2.1 hd) rfl hr) K
/-- i2c -/
def toCh (x : Int32) : Int32 := x.toUInt32.toUInt16.toUInt32.toInt32
theorem w_i2c (C : Cx p s m meth c Z own bytes ml rt nm) {pc pc' : Nat} {Ls : Array Slot} {st : List Value} {x : Int32} (hd : decode bytes pc = .ok (.i2c, 1))  (hp : pc + 1 = pc') (K : Wp p l e R s m args below meth c n0 EE Q h cells slots (mkF m pc' Ls (.int (toCh x) :: st))) :
    Wp p l e R s m args below meth c n0 EE Q h cells slots (mkF m pc Ls (.int x :: st)) := by
  subst hp; exact Wp.pure (fun T t X hr => XS.i2c X C.1 rfl (hb C.2.1 hd) rfl hr) K
/-- lcmp -/
def cmpJ (x y : Int64) : Int32 := if x > y then 1 else if x = y then 0 else -1
theorem w_lcmp (C : Cx p s m meth c Z own bytes ml rt nm) {pc pc' : Nat} {Ls : Array Slot} {st : List Value} {x y : Int64} (hd : decode bytes pc = .ok (.lcmp, 1))  (hp : pc + 1 = pc') (K : Wp p l e R s m args below meth c n0 EE Q h cells slots (mkF m pc' Ls (.int (cmpJ x y) :: st))) :
    Wp p l e R s m args below meth c n0 EE Q h cells slots (mkF m pc Ls (.long y :: .long x :: st)) := by
  subst hp; exact Wp.pure (fun T t X hr => XS.lcmp X C.1 rfl (hb C.2.1 hd) rfl hr) K
theorem w_dup (C : Cx p s m meth c Z own bytes ml rt nm) {pc pc' : Nat} {Ls : Array Slot} {st : List Value} {v : Value} (hd : decode bytes pc = .ok (.dup, 1)) (hc : v.category = 1) (hp : pc + 1 = pc') (K : Wp p l e R s m args below meth c n0 EE Q h cells slots (mkF m pc' Ls (v :: v :: st))) :
    Wp p l e R s m args below meth c n0 EE Q h cells slots (mkF m pc Ls (v :: st)) := by
  subst hp; exact Wp.pure (fun T t X hr => XS.dup X C.1 rfl (hb C.2.1 hd) rfl hc hr) K
theorem w_pop (C : Cx p s m meth c Z own bytes ml rt nm) {pc pc' : Nat} {Ls : Array Slot} {st : List Value} {v : Value} (hd : decode bytes pc = .ok (.pop, 1)) (hc : v.category = 1) (hp : pc + 1 = pc') (K : Wp p l e R s m args below meth c n0 EE Q h cells slots (mkF m pc' Ls st)) :
    Wp p l e R s m args below meth c n0 EE Q h cells slots (mkF m pc Ls (v :: st)) := by
  subst hp; exact Wp.pure (fun T t X hr => XS.pop X C.1 rfl (hb C.2.1 hd) rfl hc hr) K
theorem w_dupX1 (C : Cx p s m meth c Z own bytes ml rt nm) {pc pc' : Nat} {Ls : Array Slot} {st : List Value} {v w : Value} (hd : decode bytes pc = .ok (.dup_x1, 1)) (hc : v.category = 1) (hc' : w.category = 1) (hp : pc + 1 = pc') (K : Wp p l e R s m args below meth c n0 EE Q h cells slots (mkF m pc' Ls (v :: w :: v :: st))) :
    Wp p l e R s m args below meth c n0 EE Q h cells slots (mkF m pc Ls (v :: w :: st)) := by
  subst hp; exact Wp.pure (fun T t X hr => XS.dupX1 X C.1 rfl (hb C.2.1 hd) rfl hc hc' hr) K
theorem w_dup2 (C : Cx p s m meth c Z own bytes ml rt nm) {pc pc' : Nat} {Ls : Array Slot} {st : List Value} {v w : Value} (hd : decode bytes pc = .ok (.dup2, 1)) (hc : v.category = 1) (hc' : w.category = 1) (hp : pc + 1 = pc') (K : Wp p l e R s m args below meth c n0 EE Q h cells slots (mkF m pc' Ls (v :: w :: v :: w :: st))) :
    Wp p l e R s m args below meth c n0 EE Q h cells slots (mkF m pc Ls (v :: w :: st)) := by
  subst hp; exact Wp.pure (fun T t X hr => XT.dup2 X C.1 rfl (hb C.2.1 hd) rfl hc hc' hr) K
theorem w_eqI {pc : Nat} {Ls : Array Slot} {st : List Value} {x z : Int32} (hz : x = z) (K : Wp p l e R s m args below meth c n0 EE Q h cells slots (mkF m pc Ls (.int z :: st))) :
    Wp p l e R s m args below meth c n0 EE Q h cells slots (mkF m pc Ls (.int x :: st)) := by
  subst hz; exact K
theorem w_eqJ {pc : Nat} {Ls : Array Slot} {st : List Value} {x z : Int64} (hz : x = z) (K : Wp p l e R s m args below meth c n0 EE Q h cells slots (mkF m pc Ls (.long z :: st))) :
    Wp p l e R s m args below meth c n0 EE Q h cells slots (mkF m pc Ls (.long x :: st)) := by
  subst hz; exact K
theorem w_iincE (C : Cx p s m meth c Z own bytes ml rt nm) {pc pc' : Nat} {Ls Ls' : Array Slot} {st : List Value} {k : Nat} {cst : Int} {x z : Int32} (hd : decode bytes pc = .ok (.iinc k cst, 3)) (hx : Ls[k]? = some (.val (.int x))) (hz : x + Int32.ofInt cst = z) (hl : storeLocals Ls k (.int z) = some Ls') (hp : pc + 3 = pc') (K : Wp p l e R s m args below meth c n0 EE Q h cells slots (mkF m pc' Ls' st)) :
    Wp p l e R s m args below meth c n0 EE Q h cells slots (mkF m pc Ls st) := by
  subst hz; exact w_iinc C hd hx hl hp K
theorem w_goto (C : Cx p s m meth c Z own bytes ml rt nm) {pc pc' : Nat} {Ls : Array Slot} {st : List Value} {o : Int} (hd : decode bytes pc = .ok (.goto o, 3)) (ho : 0 ≤ (pc : Int) + o) (hp : ((pc : Int) + o).toNat = pc') (K : Wp p l e R s m args below meth c n0 EE Q h cells slots (mkF m pc' Ls st)) :
    Wp p l e R s m args below meth c n0 EE Q h cells slots (mkF m pc Ls st) :=
  Wp.pure (fun T t X hr => XS.goto X C.1 rfl rfl (hb C.2.1 hd) ho hp hr) K
theorem w_icmp_lt (C : Cx p s m meth c Z own bytes ml rt nm) {pc pcT pcF : Nat} {Ls : Array Slot} {st : List Value} {x y : Int32} {o : Int} (hd : decode bytes pc = .ok (.if_icmp .lt o, 3)) (ho : 0 ≤ (pc : Int) + o) (hT : ((pc : Int) + o).toNat = pcT) (hF : pc + 3 = pcF)
    (KT : x < y → Wp p l e R s m args below meth c n0 EE Q h cells slots (mkF m pcT Ls st)) (KF : ¬ x < y → Wp p l e R s m args below meth c n0 EE Q h cells slots (mkF m pcF Ls st)) :
    Wp p l e R s m args below meth c n0 EE Q h cells slots (mkF m pc Ls (.int y :: .int x :: st)) := by
  subst hF
  by_cases q : x < y
  · exact Wp.pure (fun T t X hr => XS.icmpYes X C.1 rfl rfl (hb C.2.1 hd) rfl (tlt q).1 ho hT hr) (KT q)
  · exact Wp.pure (fun T t X hr => XS.icmpNo X C.1 rfl (hb C.2.1 hd) rfl (flt q).1 hr) (KF q)
theorem w_if_lt (C : Cx p s m meth c Z own bytes ml rt nm) {pc pcT pcF : Nat} {Ls : Array Slot} {st : List Value} {x : Int32} {o : Int} (hd : decode bytes pc = .ok (.ifCond .lt o, 3)) (ho : 0 ≤ (pc : Int) + o) (hT : ((pc : Int) + o).toNat = pcT) (hF : pc + 3 = pcF)
    (KT : x < 0 → Wp p l e R s m args below meth c n0 EE Q h cells slots (mkF m pcT Ls st)) (KF : ¬ x < 0 → Wp p l e R s m args below meth c n0 EE Q h cells slots (mkF m pcF Ls st)) :
    Wp p l e R s m args below meth c n0 EE Q h cells slots (mkF m pc Ls (.int x :: st)) := by
  subst hF
  by_cases q : x < 0
  · exact Wp.pure (fun T t X hr => XS.ifYes X C.1 rfl rfl (hb C.2.1 hd) rfl ((if0 _ _).trans (tlt q).1) ho hT hr) (KT q)
  · exact Wp.pure (fun T t X hr => XS.ifNo X C.1 rfl (hb C.2.1 hd) rfl ((if0 _ _).trans (flt q).1) hr) (KF q)
theorem w_icmp_ge (C : Cx p s m meth c Z own bytes ml rt nm) {pc pcT pcF : Nat} {Ls : Array Slot} {st : List Value} {x y : Int32} {o : Int} (hd : decode bytes pc = .ok (.if_icmp .ge o, 3)) (ho : 0 ≤ (pc : Int) + o) (hT : ((pc : Int) + o).toNat = pcT) (hF : pc + 3 = pcF)
    (KT : ¬ x < y → Wp p l e R s m args below meth c n0 EE Q h cells slots (mkF m pcT Ls st)) (KF : x < y → Wp p l e R s m args below meth c n0 EE Q h cells slots (mkF m pcF Ls st)) :
    Wp p l e R s m args below meth c n0 EE Q h cells slots (mkF m pc Ls (.int y :: .int x :: st)) := by
  subst hF
  by_cases q : ¬ x < y
  · exact Wp.pure (fun T t X hr => XS.icmpYes X C.1 rfl rfl (hb C.2.1 hd) rfl (flt q).2.1 ho hT hr) (KT q)
  · exact Wp.pure (fun T t X hr => XS.icmpNo X C.1 rfl (hb C.2.1 hd) rfl (tlt (Classical.not_not.mp q)).2.1 hr) (KF (Classical.not_not.mp q))
theorem w_if_ge (C : Cx p s m meth c Z own bytes ml rt nm) {pc pcT pcF : Nat} {Ls : Array Slot} {st : List Value} {x : Int32} {o : Int} (hd : decode bytes pc = .ok (.ifCond .ge o, 3)) (ho : 0 ≤ (pc : Int) + o) (hT : ((pc : Int) + o).toNat = pcT) (hF : pc + 3 = pcF)
    (KT : ¬ x < 0 → Wp p l e R s m args below meth c n0 EE Q h cells slots (mkF m pcT Ls st)) (KF : x < 0 → Wp p l e R s m args below meth c n0 EE Q h cells slots (mkF m pcF Ls st)) :
    Wp p l e R s m args below meth c n0 EE Q h cells slots (mkF m pc Ls (.int x :: st)) := by
  subst hF
  by_cases q : ¬ x < 0
  · exact Wp.pure (fun T t X hr => XS.ifYes X C.1 rfl rfl (hb C.2.1 hd) rfl ((if0 _ _).trans (flt q).2.1) ho hT hr) (KT q)
  · exact Wp.pure (fun T t X hr => XS.ifNo X C.1 rfl (hb C.2.1 hd) rfl ((if0 _ _).trans (tlt (Classical.not_not.mp q)).2.1) hr) (KF (Classical.not_not.mp q))
theorem w_icmp_gt (C : Cx p s m meth c Z own bytes ml rt nm) {pc pcT pcF : Nat} {Ls : Array Slot} {st : List Value} {x y : Int32} {o : Int} (hd : decode bytes pc = .ok (.if_icmp .gt o, 3)) (ho : 0 ≤ (pc : Int) + o) (hT : ((pc : Int) + o).toNat = pcT) (hF : pc + 3 = pcF)
    (KT : y < x → Wp p l e R s m args below meth c n0 EE Q h cells slots (mkF m pcT Ls st)) (KF : ¬ y < x → Wp p l e R s m args below meth c n0 EE Q h cells slots (mkF m pcF Ls st)) :
    Wp p l e R s m args below meth c n0 EE Q h cells slots (mkF m pc Ls (.int y :: .int x :: st)) := by
  subst hF
  by_cases q : y < x
  · exact Wp.pure (fun T t X hr => XS.icmpYes X C.1 rfl rfl (hb C.2.1 hd) rfl (tlt q).2.2.1 ho hT hr) (KT q)
  · exact Wp.pure (fun T t X hr => XS.icmpNo X C.1 rfl (hb C.2.1 hd) rfl (flt q).2.2.1 hr) (KF q)
theorem w_if_gt (C : Cx p s m meth c Z own bytes ml rt nm) {pc pcT pcF : Nat} {Ls : Array Slot} {st : List Value} {x : Int32} {o : Int} (hd : decode bytes pc = .ok (.ifCond .gt o, 3)) (ho : 0 ≤ (pc : Int) + o) (hT : ((pc : Int) + o).toNat = pcT) (hF : pc + 3 = pcF)
    (KT : 0 < x → Wp p l e R s m args below meth c n0 EE Q h cells slots (mkF m pcT Ls st)) (KF : ¬ 0 < x → Wp p l e R s m args below meth c n0 EE Q h cells slots (mkF m pcF Ls st)) :
    Wp p l e R s m args below meth c n0 EE Q h cells slots (mkF m pc Ls (.int x :: st)) := by
  subst hF
  by_cases q : 0 < x
  · exact Wp.pure (fun T t X hr => XS.ifYes X C.1 rfl rfl (hb C.2.1 hd) rfl ((if0 _ _).trans (tlt q).2.2.1) ho hT hr) (KT q)
  · exact Wp.pure (fun T t X hr => XS.ifNo X C.1 rfl (hb C.2.1 hd) rfl ((if0 _ _).trans (flt q).2.2.1) hr) (KF q)
theorem w_icmp_le (C : Cx p s m meth c Z own bytes ml rt nm) {pc pcT pcF : Nat} {Ls : Array Slot} {st : List Value} {x y : Int32} {o : Int} (hd : decode bytes pc = .ok (.if_icmp .le o, 3)) (ho : 0 ≤ (pc : Int) + o) (hT : ((pc : Int) + o).toNat = pcT) (hF : pc + 3 = pcF)
    (KT : ¬ y < x → Wp p l e R s m args below meth c n0 EE Q h cells slots (mkF m pcT Ls st)) (KF : y < x → Wp p l e R s m args below meth c n0 EE Q h cells slots (mkF m pcF Ls st)) :
    Wp p l e R s m args below meth c n0 EE Q h cells slots (mkF m pc Ls (.int y :: .int x :: st)) := by
  subst hF
  by_cases q : ¬ y < x
  · exact Wp.pure (fun T t X hr => XS.icmpYes X C.1 rfl rfl (hb C.2.1 hd) rfl (flt q).2.2.2 ho hT hr) (KT q)
  · exact Wp.pure (fun T t X hr => XS.icmpNo X C.1 rfl (hb C.2.1 hd) rfl (tlt (Classical.not_not.mp q)).2.2.2 hr) (KF (Classical.not_not.mp q))
theorem w_if_le (C : Cx p s m meth c Z own bytes ml rt nm) {pc pcT pcF : Nat} {Ls : Array Slot} {st : List Value} {x : Int32} {o : Int} (hd : decode bytes pc = .ok (.ifCond .le o, 3)) (ho : 0 ≤ (pc : Int) + o) (hT : ((pc : Int) + o).toNat = pcT) (hF : pc + 3 = pcF)
    (KT : ¬ 0 < x → Wp p l e R s m args below meth c n0 EE Q h cells slots (mkF m pcT Ls st)) (KF : 0 < x → Wp p l e R s m args below meth c n0 EE Q h cells slots (mkF m pcF Ls st)) :
    Wp p l e R s m args below meth c n0 EE Q h cells slots (mkF m pc Ls (.int x :: st)) := by
  subst hF
  by_cases q : ¬ 0 < x
  · exact Wp.pure (fun T t X hr => XS.ifYes X C.1 rfl rfl (hb C.2.1 hd) rfl ((if0 _ _).trans (flt q).2.2.2) ho hT hr) (KT q)
  · exact Wp.pure (fun T t X hr => XS.ifNo X C.1 rfl (hb C.2.1 hd) rfl ((if0 _ _).trans (tlt (Classical.not_not.mp q)).2.2.2) hr) (KF (Classical.not_not.mp q))
theorem w_icmp_eq (C : Cx p s m meth c Z own bytes ml rt nm) {pc pcT pcF : Nat} {Ls : Array Slot} {st : List Value} {x y : Int32} {o : Int} (hd : decode bytes pc = .ok (.if_icmp .eq o, 3)) (ho : 0 ≤ (pc : Int) + o) (hT : ((pc : Int) + o).toNat = pcT) (hF : pc + 3 = pcF)
    (KT : x = y → Wp p l e R s m args below meth c n0 EE Q h cells slots (mkF m pcT Ls st)) (KF : ¬ x = y → Wp p l e R s m args below meth c n0 EE Q h cells slots (mkF m pcF Ls st)) :
    Wp p l e R s m args below meth c n0 EE Q h cells slots (mkF m pc Ls (.int y :: .int x :: st)) := by
  subst hF
  by_cases q : x = y
  · exact Wp.pure (fun T t X hr => XS.icmpYes X C.1 rfl rfl (hb C.2.1 hd) rfl (teq q).1 ho hT hr) (KT q)
  · exact Wp.pure (fun T t X hr => XS.icmpNo X C.1 rfl (hb C.2.1 hd) rfl (feq q).1 hr) (KF q)
theorem w_if_eq (C : Cx p s m meth c Z own bytes ml rt nm) {pc pcT pcF : Nat} {Ls : Array Slot} {st : List Value} {x : Int32} {o : Int} (hd : decode bytes pc = .ok (.ifCond .eq o, 3)) (ho : 0 ≤ (pc : Int) + o) (hT : ((pc : Int) + o).toNat = pcT) (hF : pc + 3 = pcF)
    (KT : x = 0 → Wp p l e R s m args below meth c n0 EE Q h cells slots (mkF m pcT Ls st)) (KF : ¬ x = 0 → Wp p l e R s m args below meth c n0 EE Q h cells slots (mkF m pcF Ls st)) :
    Wp p l e R s m args below meth c n0 EE Q h cells slots (mkF m pc Ls (.int x :: st)) := by
  subst hF
  by_cases q : x = 0
  · exact Wp.pure (fun T t X hr => XS.ifYes X C.1 rfl rfl (hb C.2.1 hd) rfl ((if0 _ _).trans (teq q).1) ho hT hr) (KT q)
  · exact Wp.pure (fun T t X hr => XS.ifNo X C.1 rfl (hb C.2.1 hd) rfl ((if0 _ _).trans (feq q).1) hr) (KF q)
theorem w_icmp_ne (C : Cx p s m meth c Z own bytes ml rt nm) {pc pcT pcF : Nat} {Ls : Array Slot} {st : List Value} {x y : Int32} {o : Int} (hd : decode bytes pc = .ok (.if_icmp .ne o, 3)) (ho : 0 ≤ (pc : Int) + o) (hT : ((pc : Int) + o).toNat = pcT) (hF : pc + 3 = pcF)
    (KT : ¬ x = y → Wp p l e R s m args below meth c n0 EE Q h cells slots (mkF m pcT Ls st)) (KF : x = y → Wp p l e R s m args below meth c n0 EE Q h cells slots (mkF m pcF Ls st)) :
    Wp p l e R s m args below meth c n0 EE Q h cells slots (mkF m pc Ls (.int y :: .int x :: st)) := by
  subst hF
  by_cases q : ¬ x = y
  · exact Wp.pure (fun T t X hr => XS.icmpYes X C.1 rfl rfl (hb C.2.1 hd) rfl (feq q).2 ho hT hr) (KT q)
  · exact Wp.pure (fun T t X hr => XS.icmpNo X C.1 rfl (hb C.2.1 hd) rfl (teq (Classical.not_not.mp q)).2 hr) (KF (Classical.not_not.mp q))
theorem w_if_ne (C : Cx p s m meth c Z own bytes ml rt nm) {pc pcT pcF : Nat} {Ls : Array Slot} {st : List Value} {x : Int32} {o : Int} (hd : decode bytes pc = .ok (.ifCond .ne o, 3)) (ho : 0 ≤ (pc : Int) + o) (hT : ((pc : Int) + o).toNat = pcT) (hF : pc + 3 = pcF)
    (KT : ¬ x = 0 → Wp p l e R s m args below meth c n0 EE Q h cells slots (mkF m pcT Ls st)) (KF : x = 0 → Wp p l e R s m args below meth c n0 EE Q h cells slots (mkF m pcF Ls st)) :
    Wp p l e R s m args below meth c n0 EE Q h cells slots (mkF m pc Ls (.int x :: st)) := by
  subst hF
  by_cases q : ¬ x = 0
  · exact Wp.pure (fun T t X hr => XS.ifYes X C.1 rfl rfl (hb C.2.1 hd) rfl ((if0 _ _).trans (feq q).2) ho hT hr) (KT q)
  · exact Wp.pure (fun T t X hr => XS.ifNo X C.1 rfl (hb C.2.1 hd) rfl ((if0 _ _).trans (teq (Classical.not_not.mp q)).2) hr) (KF (Classical.not_not.mp q))
theorem w_ifnull_null (C : Cx p s m meth c Z own bytes ml rt nm) {pc pc' : Nat} {Ls : Array Slot} {st : List Value}  {o : Int} (hd : decode bytes pc = .ok (.ifnull o, 3)) (ho : 0 ≤ (pc : Int) + o) (hp : ((pc : Int) + o).toNat = pc') (K : Wp p l e R s m args below meth c n0 EE Q h cells slots (mkF m pc' Ls st)) :
    Wp p l e R s m args below meth c n0 EE Q h cells slots (mkF m pc Ls (.null :: st)) :=
  Wp.pure (fun T t X hr => XS.ifnullYes X C.1 rfl rfl (hb C.2.1 hd) rfl ho hp hr) K
theorem w_ifnull_ref (C : Cx p s m meth c Z own bytes ml rt nm) {pc pc' : Nat} {Ls : Array Slot} {st : List Value} {b : Addr} {o : Int} (hd : decode bytes pc = .ok (.ifnull o, 3)) (hp : pc + 3 = pc') (K : Wp p l e R s m args below meth c n0 EE Q h cells slots (mkF m pc' Ls st)) :
    Wp p l e R s m args below meth c n0 EE Q h cells slots (mkF m pc Ls (.ref b :: st)) := by
  subst hp; exact Wp.pure (fun T t X hr => XS.ifnullNo X C.1 rfl (hb C.2.1 hd) rfl hr) K
theorem w_ifnonnull_ref (C : Cx p s m meth c Z own bytes ml rt nm) {pc pc' : Nat} {Ls : Array Slot} {st : List Value} {b : Addr} {o : Int} (hd : decode bytes pc = .ok (.ifnonnull o, 3)) (ho : 0 ≤ (pc : Int) + o) (hp : ((pc : Int) + o).toNat = pc') (K : Wp p l e R s m args below meth c n0 EE Q h cells slots (mkF m pc' Ls st)) :
    Wp p l e R s m args below meth c n0 EE Q h cells slots (mkF m pc Ls (.ref b :: st)) :=
  Wp.pure (fun T t X hr => XS.ifnonnullYes X C.1 rfl rfl (hb C.2.1 hd) rfl ho hp hr) K
theorem w_ifnonnull_null (C : Cx p s m meth c Z own bytes ml rt nm) {pc pc' : Nat} {Ls : Array Slot} {st : List Value}  {o : Int} (hd : decode bytes pc = .ok (.ifnonnull o, 3)) (hp : pc + 3 = pc') (K : Wp p l e R s m args below meth c n0 EE Q h cells slots (mkF m pc' Ls st)) :
    Wp p l e R s m args below meth c n0 EE Q h cells slots (mkF m pc Ls (.null :: st)) := by
  subst hp; exact Wp.pure (fun T t X hr => XS.ifnonnullNo X C.1 rfl (hb C.2.1 hd) rfl hr) K
theorem w_acmp_eq (C : Cx p s m meth c Z own bytes ml rt nm) {pc pcT pcF : Nat} {Ls : Array Slot} {st : List Value} {v w : Value} {o : Int} (hv : v.isRef = true) (hw : w.isRef = true) (hd : decode bytes pc = .ok (.if_acmp .eq o, 3)) (ho : 0 ≤ (pc : Int) + o) (hT : ((pc : Int) + o).toNat = pcT) (hF : pc + 3 = pcF)
    (KT : v = w → Wp p l e R s m args below meth c n0 EE Q h cells slots (mkF m pcT Ls st)) (KF : ¬ v = w → Wp p l e R s m args below meth c n0 EE Q h cells slots (mkF m pcF Ls st)) :
    Wp p l e R s m args below meth c n0 EE Q h cells slots (mkF m pc Ls (w :: v :: st)) := by
  intro T locs X e0 N
  by_cases q : v = w
  · obtain ⟨s2, u, L, a, r⟩ := KT q T locs X e0 N
    exact ⟨s2, u, L, Jvm.RoadKit.acmp (g := mkF m pc Ls (w :: v :: st)) X C.1 rfl hv hw (pc0 := pc) (same := true) rfl (hb C.2.1 hd) rfl (decide_eq_true q) ho (by simp [acV, hT, hF]) a, r⟩
  · obtain ⟨s2, u, L, a, r⟩ := KF q T locs X e0 N
    exact ⟨s2, u, L, Jvm.RoadKit.acmp (g := mkF m pc Ls (w :: v :: st)) X C.1 rfl hv hw (pc0 := pc) (same := false) rfl (hb C.2.1 hd) rfl (decide_eq_false q) ho (by simp [acV, hT, hF]) a, r⟩
theorem w_acmp_ne (C : Cx p s m meth c Z own bytes ml rt nm) {pc pcT pcF : Nat} {Ls : Array Slot} {st : List Value} {v w : Value} {o : Int} (hv : v.isRef = true) (hw : w.isRef = true) (hd : decode bytes pc = .ok (.if_acmp .ne o, 3)) (ho : 0 ≤ (pc : Int) + o) (hT : ((pc : Int) + o).toNat = pcT) (hF : pc + 3 = pcF)
    (KT : ¬ v = w → Wp p l e R s m args below meth c n0 EE Q h cells slots (mkF m pcT Ls st)) (KF : v = w → Wp p l e R s m args below meth c n0 EE Q h cells slots (mkF m pcF Ls st)) :
    Wp p l e R s m args below meth c n0 EE Q h cells slots (mkF m pc Ls (w :: v :: st)) := by
  intro T locs X e0 N
  by_cases q : v = w
  · obtain ⟨s2, u, L, a, r⟩ := KF q T locs X e0 N
    exact ⟨s2, u, L, Jvm.RoadKit.acmp (g := mkF m pc Ls (w :: v :: st)) X C.1 rfl hv hw (pc0 := pc) (same := true) rfl (hb C.2.1 hd) rfl (decide_eq_true q) ho (by simp [acV, hT, hF]) a, r⟩
  · obtain ⟨s2, u, L, a, r⟩ := KT q T locs X e0 N
    exact ⟨s2, u, L, Jvm.RoadKit.acmp (g := mkF m pc Ls (w :: v :: st)) X C.1 rfl hv hw (pc0 := pc) (same := false) rfl (hb C.2.1 hd) rfl (decide_eq_false q) ho (by simp [acV, hT, hF]) a, r⟩
theorem w_ldcI (C : Cx p s m meth c Z own bytes ml rt nm) {pc pc' : Nat} {Ls : Array Slot} {st : List Value} {i : Nat} {x : Int32} (w : (Jvm.Cond.constant own i x).before a0 Z = true) (hd : decode bytes pc = .ok (.ldc i, 2)) (hp : pc + 2 = pc') (K : Wp p l e R s m args below meth c n0 EE Q h cells slots (mkF m pc' Ls (.int x :: st))) :
    Wp p l e R s m args below meth c n0 EE Q h cells slots (mkF m pc Ls st) := by
  subst hp; intro T locs X e0 N
  obtain ⟨s2, v, L, a, r⟩ := K T locs X e0 N
  exact ⟨s2, v, L, X.ldcInt C.1 C.2.2.2.1 (mvT C.2.2.1 w) (g := mkF m pc Ls st) rfl (hb C.2.1 hd) _ a, r⟩
theorem w_ldcwI (C : Cx p s m meth c Z own bytes ml rt nm) {pc pc' : Nat} {Ls : Array Slot} {st : List Value} {i : Nat} {x : Int32} (w : (Jvm.Cond.constant own i x).before a0 Z = true) (hd : decode bytes pc = .ok (.ldc_w i, 3)) (hp : pc + 3 = pc') (K : Wp p l e R s m args below meth c n0 EE Q h cells slots (mkF m pc' Ls (.int x :: st))) :
    Wp p l e R s m args below meth c n0 EE Q h cells slots (mkF m pc Ls st) := by
  subst hp; intro T locs X e0 N
  obtain ⟨s2, v, L, a, r⟩ := K T locs X e0 N
  exact ⟨s2, v, L, X.ldcwInt C.1 C.2.2.2.1 (mvT C.2.2.1 w) (g := mkF m pc Ls st) rfl (hb C.2.1 hd) _ a, r⟩
theorem w_ldc2J (C : Cx p s m meth c Z own bytes ml rt nm) {pc pc' : Nat} {Ls : Array Slot} {st : List Value} {i : Nat} {x : Int64} (w : (Jvm.Cond.constantLong own i x).before a0 Z = true) (hd : decode bytes pc = .ok (.ldc2_w i, 3)) (hp : pc + 3 = pc') (K : Wp p l e R s m args below meth c n0 EE Q h cells slots (mkF m pc' Ls (.long x :: st))) :
    Wp p l e R s m args below meth c n0 EE Q h cells slots (mkF m pc Ls st) := by
  subst hp; intro T locs X e0 N
  obtain ⟨s2, v, L, a, r⟩ := K T locs X e0 N
  exact ⟨s2, v, L, X.ldc2Long C.1 C.2.2.2.1 (mvT C.2.2.1 w) (g := mkF m pc Ls st) rfl (hb C.2.1 hd) _ a, r⟩
theorem w_retN (C : Cx p s m meth c Z own bytes ml rt nm) {pc : Nat} {Ls : Array Slot} {st : List Value} {z : Int32} {t : FieldType} (hrt : rt = some t) (ht : t = .boolean ∨ t = .byte ∨ t = .char ∨ t = .short) (hd : decode bytes pc = .ok (.ireturn, 1)) (hE : Closes s h cells slots EE) (q : Q (some (.int (nar t z))) h) :
    Wp p l e R s m args below meth c n0 EE Q h cells slots (mkF m pc Ls (.int z :: st)) :=
  have hr : meth.sig.returnType = some t := C.2.2.2.2.2.1.trans hrt
  Wp.ret C (fun T fs locs X hl => retN X C.1 hr ht (hb C.2.1 hd) hl) (fun q => by rw [hr] at q; cases q) hE q
theorem narB0 : nar .boolean 0 = 0 := by decide
theorem narB1 : nar .boolean 1 = 1 := by decide
theorem w_retN' (C : Cx p s m meth c Z own bytes ml rt nm) {pc : Nat} {Ls : Array Slot} {st : List Value} {z z' : Int32} {t : FieldType} (hrt : rt = some t) (ht : t = .boolean ∨ t = .byte ∨ t = .char ∨ t = .short) (hd : decode bytes pc = .ok (.ireturn, 1)) (hE : Closes s h cells slots EE) (hz : nar t z = z') (q : Q (some (.int z')) h) :
    Wp p l e R s m args below meth c n0 EE Q h cells slots (mkF m pc Ls (.int z :: st)) := by
  subst hz; exact w_retN C hrt ht hd hE q
theorem ireturn_step {T : State} {locs : List Loc} (X : Stand p l e R s m args below meth c T locs cells slots) (hx : p.tables.exec = Jvm.exec) {pc : Nat} {Ls : Array Slot} {z : Int32} {rest : List Value} (hret : meth.sig.returnType = some .int) (hd : decode c.code pc = .ok (.ireturn, 1)) {fs : List Frame}
    (hl : ∀ (f : JFrame) (acts : List Action), f.method = m → f.locked = none → f.entered = [] → (doReturn e (T.setTop f) acts (some (.int z))).1 = T.setFrames fs) : Steps p.tables e below (T.setTop (mkF m pc Ls (.int z :: rest))) (T.setFrames fs) :=
  retOut X hx (t := .int) (i := .ireturn) hret rfl (Or.inl ⟨rfl, Or.inl rfl, _, rfl⟩) hd hl
theorem w_retI (C : Cx p s m meth c Z own bytes ml rt nm) {pc : Nat} {Ls : Array Slot} {st : List Value} {z : Int32} (hrt : rt = some .int) (hd : decode bytes pc = .ok (.ireturn, 1)) (hE : Closes s h cells slots EE) (q : Q (some (.int z)) h) :
    Wp p l e R s m args below meth c n0 EE Q h cells slots (mkF m pc Ls (.int z :: st)) :=
  have hr : meth.sig.returnType = some .int := C.2.2.2.2.2.1.trans hrt
  Wp.ret C (fun T fs locs X hl => ireturn_step X C.1 hr (hb C.2.1 hd) hl) (fun q => by rw [hr] at q; cases q) hE q
theorem w_retJ (C : Cx p s m meth c Z own bytes ml rt nm) {pc : Nat} {Ls : Array Slot} {st : List Value} {z : Int64} (hrt : rt = some .long) (hd : decode bytes pc = .ok (.lreturn, 1)) (hE : Closes s h cells slots EE) (q : Q (some (.long z)) h) :
    Wp p l e R s m args below meth c n0 EE Q h cells slots (mkF m pc Ls (.long z :: st)) :=
  have hr : meth.sig.returnType = some .long := C.2.2.2.2.2.1.trans hrt
  Wp.ret C (fun T fs locs X hl => retOut X C.1 (t := .long) (i := .lreturn) hr rfl (Or.inr (Or.inl ⟨rfl, rfl, _, rfl⟩)) (hb C.2.1 hd) hl) (fun q => by rw [hr] at q; cases q) hE q
theorem w_retA (C : Cx p s m meth c Z own bytes ml rt nm) {pc : Nat} {Ls : Array Slot} {st : List Value} {v : Value} {t : FieldType} (hrt : rt = some t) (ht : t.isReference = true) (hv : v.isRef = true) (hd : decode bytes pc = .ok (.areturn, 1)) (hE : Closes s h cells slots EE) (q : Q (some v) h) :
    Wp p l e R s m args below meth c n0 EE Q h cells slots (mkF m pc Ls (v :: st)) :=
  have hr : meth.sig.returnType = some t := C.2.2.2.2.2.1.trans hrt
  Wp.ret C (fun T fs locs X hl => retOut X C.1 (t := t) (i := .areturn) hr (by cases v <;> simp [Value.isRef] at hv <;> cases t <;> first | rfl | (simp [FieldType.isReference] at ht)) (Or.inr (Or.inr (Or.inr (Or.inr ⟨rfl, ht, hv⟩)))) (hb C.2.1 hd) hl) (fun q => by rw [hr] at q; cases q) hE q
theorem w_ret0 (C : Cx p s m meth c Z own bytes ml rt nm) {pc : Nat} {Ls : Array Slot} (hrt : rt = none) (hd : decode bytes pc = .ok (.return_, 1)) (hE : Closes s h cells slots EE) (q : Q none h) :
    Wp p l e R s m args below meth c n0 EE Q h cells slots (mkF m pc Ls []) :=
  have hr : meth.sig.returnType = none := C.2.2.2.2.2.1.trans hrt
  Wp.ret C (fun T fs locs X hl => X.returnOut C.1 hr (hb C.2.1 hd) hl) (fun _ => rfl) hE q
theorem w_getF (C : Cx p s m meth c Z own bytes ml rt nm) {pc pc' : Nat} {Ls : Array Slot} {st : List Value} {O n d : String} {i : Nat} {a : Addr} {v : Value} (w : (Jvm.Cond.fieldLink own i O n d).before a0 Z = true) (hd : decode bytes pc = .ok (.getfield i, 3)) (hp : pc + 3 = pc') (F : Fld Z h a O n d v) (K : Wp p l e R s m args below meth c n0 EE Q h cells slots (mkF m pc' Ls (v :: st))) :
    Wp p l e R s m args below meth c n0 EE Q h cells slots (mkF m pc Ls (.ref a :: st)) := by
  subst hp
  exact Wp.law (fun T locs X e0 => getF X C.1 C.2.2.1 C.2.2.2.1 (host := "") (Or.inl w) Via.refl e0 F (g := mkF m pc Ls (.ref a :: st)) rfl rfl (hb C.2.1 hd)) K
theorem w_getFN (C : Cx p s m meth c Z own bytes ml rt nm) {pc pc' : Nat} {Ls : Array Slot} {st : List Value} {O n d host : String} {i : Nat} {a : Addr} {v : Value} (w : (Jvm.Cond.fieldLinkNest own i O n d host).before a0 Z = true) (hd : decode bytes pc = .ok (.getfield i, 3)) (hp : pc + 3 = pc') (F : Fld Z h a O n d v) (K : Wp p l e R s m args below meth c n0 EE Q h cells slots (mkF m pc' Ls (v :: st))) :
    Wp p l e R s m args below meth c n0 EE Q h cells slots (mkF m pc Ls (.ref a :: st)) := by
  subst hp
  exact Wp.law (fun T locs X e0 => getF X C.1 C.2.2.1 C.2.2.2.1 (Or.inr w) Via.refl e0 F (g := mkF m pc Ls (.ref a :: st)) rfl rfl (hb C.2.1 hd)) K
theorem w_getS (C : Cx p s m meth c Z own bytes ml rt nm) {pc pc' : Nat} {Ls : Array Slot} {st : List Value} {O n d : String} {i : Nat} {v : Value} (w : (Jvm.Cond.fieldLink own i O n d).before a0 Z = true) (hd : decode bytes pc = .ok (.getstatic i, 3)) (hp : pc + 3 = pc') (F : Sta Z h O n d v) (K : Wp p l e R s m args below meth c n0 EE Q h cells slots (mkF m pc' Ls (v :: st))) :
    Wp p l e R s m args below meth c n0 EE Q h cells slots (mkF m pc Ls st) := by
  subst hp
  exact Wp.law (fun T locs X e0 => getS X C.1 C.2.2.1 C.2.2.2.1 (host := "") w Via.refl e0 F (g := mkF m pc Ls st) rfl (hb C.2.1 hd)) K
theorem w_putF (C : Cx p s m meth c Z own bytes ml rt nm) {pc pc' : Nat} {Ls : Array Slot} {st : List Value} {O n d Cl : String} {i kk : Nat} {a : Addr} {v old : Value} {ty : FieldType} (w : (Jvm.Cond.fieldLink own i O n d).before a0 Z = true) (L : (Jvm.Cond.lays Cl O n d).before a0 Z = true ∨ ((Jvm.Cond.laysFinal Cl O n d).before a0 Z = true ∧ own = O ∧ nm = "<init>")) (wi : (Jvm.Cond.instantiable Cl kk).before a0 Z = true)
    (hty : parseFieldDescriptor d = some ty) (hn : narrow ty v = v) (hf : fits ty v = true) (hd : decode bytes pc = .ok (.putfield i, 3)) (hp : pc + 3 = pc') (g0 : n0 ≤ a) (F : Fld Z h a O n d old) (E : Exa Z h a Cl)
    (K : ∀ h', Wr h h' a (Jvm.RoadKit.slotOf Z O n d) v → Wp p l e R s m args below meth c n0 EE Q h' cells slots (mkF m pc' Ls st)) :
    Wp p l e R s m args below meth c n0 EE Q h cells slots (mkF m pc Ls (v :: .ref a :: st)) := by
  subst hp
  intro T locs X e0 N
  obtain ⟨T', h', X', e', W, st'⟩ := putF X C.1 C.2.2.1 C.2.2.2.1 (host := "") (Or.inl w) Via.refl e0 F E (L.imp id fun q => ⟨q.1, q.2.1, C.2.2.2.2.2.2.1.trans q.2.2⟩) wi hty hn hf (g := mkF m pc Ls (v :: .ref a :: st)) rfl rfl (hb C.2.1 hd)
  obtain ⟨s2, u, Lc, x, r⟩ := K h' W T' _ X' e' (Fr.snoc X' N g0)
  exact ⟨s2, u, Lc, st' _ x, r⟩
theorem w_putFN (C : Cx p s m meth c Z own bytes ml rt nm) {pc pc' : Nat} {Ls : Array Slot} {st : List Value} {O n d Cl : String} {i kk : Nat} {a : Addr} {v old : Value} {ty : FieldType} {host : String} (w : (Jvm.Cond.fieldLinkNest own i O n d host).before a0 Z = true) (L : (Jvm.Cond.lays Cl O n d).before a0 Z = true ∨ ((Jvm.Cond.laysFinal Cl O n d).before a0 Z = true ∧ own = O ∧ nm = "<init>")) (wi : (Jvm.Cond.instantiable Cl kk).before a0 Z = true)
    (hty : parseFieldDescriptor d = some ty) (hn : narrow ty v = v) (hf : fits ty v = true) (hd : decode bytes pc = .ok (.putfield i, 3)) (hp : pc + 3 = pc') (g0 : n0 ≤ a) (F : Fld Z h a O n d old) (E : Exa Z h a Cl)
    (K : ∀ h', Wr h h' a (Jvm.RoadKit.slotOf Z O n d) v → Wp p l e R s m args below meth c n0 EE Q h' cells slots (mkF m pc' Ls st)) :
    Wp p l e R s m args below meth c n0 EE Q h cells slots (mkF m pc Ls (v :: .ref a :: st)) := by
  subst hp
  intro T locs X e0 N
  obtain ⟨T', h', X', e', W, st'⟩ := putF X C.1 C.2.2.1 C.2.2.2.1 (Or.inr w) Via.refl e0 F E (L.imp id fun q => ⟨q.1, q.2.1, C.2.2.2.2.2.2.1.trans q.2.2⟩) wi hty hn hf (g := mkF m pc Ls (v :: .ref a :: st)) rfl rfl (hb C.2.1 hd)
  obtain ⟨s2, u, Lc, x, r⟩ := K h' W T' _ X' e' (Fr.snoc X' N g0)
  exact ⟨s2, u, Lc, st' _ x, r⟩
theorem w_putFZ (C : Cx p s m meth c Z own bytes ml rt nm) {pc pc' : Nat} {Ls : Array Slot} {st : List Value} {O n d Cl : String} {i kk : Nat} {a : Addr} {v v' old : Value} {ty : FieldType} (w : (Jvm.Cond.fieldLink own i O n d).before a0 Z = true) (L : (Jvm.Cond.lays Cl O n d).before a0 Z = true ∨ ((Jvm.Cond.laysFinal Cl O n d).before a0 Z = true ∧ own = O ∧ nm = "<init>")) (wi : (Jvm.Cond.instantiable Cl kk).before a0 Z = true)
    (hty : parseFieldDescriptor d = some ty) (hn : narrow ty v = v') (hf : fits ty v' = true) (hd : decode bytes pc = .ok (.putfield i, 3)) (hp : pc + 3 = pc') (g0 : n0 ≤ a) (F : Fld Z h a O n d old) (E : Exa Z h a Cl)
    (K : ∀ h', Wr h h' a (Jvm.RoadKit.slotOf Z O n d) v' → Wp p l e R s m args below meth c n0 EE Q h' cells slots (mkF m pc' Ls st)) :
    Wp p l e R s m args below meth c n0 EE Q h cells slots (mkF m pc Ls (v :: .ref a :: st)) := by
  subst hp
  intro T locs X e0 N
  obtain ⟨T', h', X', e', W, st'⟩ := putFN X C.1 C.2.2.1 C.2.2.2.1 w Via.refl e0 F E (L.imp id fun q => ⟨q.1, q.2.1, C.2.2.2.2.2.2.1.trans q.2.2⟩) wi hty hn hf (g := mkF m pc Ls (v :: .ref a :: st)) rfl rfl (hb C.2.1 hd)
  obtain ⟨s2, u, Lc, x, r⟩ := K h' W T' _ X' e' (Fr.snoc X' N g0)
  exact ⟨s2, u, Lc, st' _ x, r⟩
theorem ready39 {Z : State} {vm' : Vm} {cur i c : Nat} {f : Field} (h : Z.Warmed39 vm') (r : Z.vm.fieldReady cur i c f) : vm'.fieldReady cur i c f := by
  obtain ⟨k, j, kc, h1, h2, h3, h4⟩ := r
  obtain ⟨k', a1, a2, -, a4, -⟩ := h.2.2.2 cur k h1
  obtain ⟨kc', b1, b2, -⟩ := h.2.2.2 c kc h3
  refine ⟨k', j, kc', a1, ?_, b1, by rw [b2]; exact h4⟩
  rcases a4 i with q | ⟨q, -⟩
  · rw [q]; exact h2
  · rw [h2] at q; cases q
/-- a field whose entry is resolved already -/
theorem w_getFR (C : Cx p s m meth c Z own bytes ml rt nm) {pc pc' : Nat} {Ls : Array Slot} {st : List Value} {O n d : String} {i : Nat} {a : Addr} {v : Value} (w : (Jvm.Cond.fieldRef own i O n d).before a0 Z = true) (hd : decode bytes pc = .ok (.getfield i, 3)) (hp : pc + 3 = pc') (F : Fld Z h a O n d v) (K : Wp p l e R s m args below meth c n0 EE Q h cells slots (mkF m pc' Ls (v :: st))) :
    Wp p l e R s m args below meth c n0 EE Q h cells slots (mkF m pc Ls (.ref a :: st)) := by
  subst hp
  refine Wp.law (fun T locs X e0 => ⟨T, X, e0, fun t hr => ?_⟩) K
  obtain ⟨cell, cf, k, ix, f, h1, h2, h3, h4, h5, h6, h7⟩ := F
  have hown := C.2.2.2.1
  rw [C.2.2.1.alike.findClass] at hown
  obtain ⟨cf', k', ix', f', g1, g2⟩ := Cond.fieldRef_spec hown w
  cases h2.symm.trans g1
  have hready := ready39 (wtrans C.2.2.1 X.warmed) g2
  have hexec := C.1
  have hdg := hb C.2.1 hd
  have hcell : T.heap[a]? = some cell := by rw [e0]; exact h1
  show Steps p.tables e below (T.setTop (mkF m pc Ls (.ref a :: st))) t
  jvm_step X.here [hexec, hdg, getfield.wp_ready (e := e) (s := T) (f := mkF m pc Ls (.ref a :: st)) X.here.top hready h3 rfl hcell h4 h7]
  exact hr
theorem w_putFR (C : Cx p s m meth c Z own bytes ml rt nm) {pc pc' : Nat} {Ls : Array Slot} {st : List Value} {O n d Cl : String} {i kk : Nat} {a : Addr} {v old : Value} {ty : FieldType} (w : (Jvm.Cond.fieldRef own i O n d).before a0 Z = true) (L : (Jvm.Cond.lays Cl O n d).before a0 Z = true) (wi : (Jvm.Cond.instantiable Cl kk).before a0 Z = true)
    (hty : parseFieldDescriptor d = some ty) (hn : narrow ty v = v) (hf : fits ty v = true) (hd : decode bytes pc = .ok (.putfield i, 3)) (hp : pc + 3 = pc') (g0 : n0 ≤ a) (F : Fld Z h a O n d old) (E : Exa Z h a Cl)
    (K : ∀ h', Wr h h' a (Jvm.RoadKit.slotOf Z O n d) v → Wp p l e R s m args below meth c n0 EE Q h' cells slots (mkF m pc' Ls st)) :
    Wp p l e R s m args below meth c n0 EE Q h cells slots (mkF m pc Ls (v :: .ref a :: st)) := by
  subst hp
  intro T locs X e0 N
  obtain ⟨cell, cf, k, ix, f, h1, h2, h3, h4, h5, -, h7⟩ := F
  obtain ⟨cell', kc, e1, e2, e3, -⟩ := E
  cases h1.symm.trans e1
  obtain ⟨c1, k1, cf1, kf1, i1, f1, a1, a2, a3, -, -, a6, -⟩ := Laid.spec (a0 := a0) (Or.inl L)
  cases h2.symm.trans a3
  cases e2.symm.trans a1
  obtain ⟨c2, k2, j1, j2, j3, -⟩ := Cond.instantiable_spec wi
  cases e2.symm.trans j1
  cases a2.symm.trans j2
  have ht := (State.fieldFound?_type h2 hty).2
  have hfit : Z.fitsSlot cell.cls cell.vm f.slot v = true := by
    have q : Z.slotType? cell.cls cell.vm f.slot = some ty := by
      simp only [State.slotType?, a2, Option.bind_eq_bind, Option.bind_some, j3]
      cases hq : cell.vm <;> first | (rw [hq] at h5; exact Bool.noConfusion h5) | (rw [a6, ht])
    simp [State.fitsSlot, q, hf]
  have hU := wtrans C.2.2.1 X.warmed
  have hfit' : T.fitsSlot cell.cls cell.vm f.slot v = true := by rw [← State.fitsSlot_setVm hU.alike] at hfit; exact hfit
  obtain ⟨_, _, _, _, _, _, -, -, b3, -, b5, -⟩ := Cond.lays_spec L
  cases h2.symm.trans b3
  have hown := C.2.2.2.1
  rw [C.2.2.1.alike.findClass] at hown
  obtain ⟨cf', k', ix', f', g1, g2⟩ := Cond.fieldRef_spec hown w
  cases h2.symm.trans g1
  have hlt := (Array.getElem?_eq_some_iff.mp h7).1
  have es : Jvm.RoadKit.slotOf Z O n d = f.slot := by simp [Jvm.RoadKit.slotOf, h2]
  obtain ⟨X', st'⟩ := X.putfieldReady C.1 (ready39 hU g2) h3 (Or.inl b5) (by rw [e0]; exact h1) h4 hlt (by rw [ht]; exact hn) hfit' (g := mkF m pc Ls (v :: .ref a :: st)) rfl rfl (hb C.2.1 hd)
  obtain ⟨s2, u, Lc, x, r⟩ := K (h.setIfInBounds a (cell.setSlot f.slot v)) ⟨cell, h1, h5, by rw [es]; exact hlt, by rw [es]⟩ _ _ X' (by rw [← e0]; rfl) (Fr.snoc X' N g0)
  exact ⟨s2, u, Lc, st' _ x, r⟩
theorem w_new (C : Cx p s m meth c Z own bytes ml rt nm) {pc pc' ce' sl' : Nat} {Ls : Array Slot} {st : List Value} {Cl : String} {i n : Nat} (w : (Jvm.Cond.classLink own i Cl).before a0 Z = true) (wi : (Jvm.Cond.instantiable Cl n).before a0 Z = true) (wz : (Jvm.Cond.initialized Cl).before a0 Z = true) (hd : decode bytes pc = .ok (.new i, 3)) (hp : pc + 3 = pc') (hc1 : cells + 1 = ce') (hl1 : slots + n = sl') (hc : ce' ≤ R.cells) (hl : sl' ≤ R.slots)
    (K : ∀ h' a, a = h.size → Ext h h' → Exa Z h' a Cl → (∀ {O nm d : String} {ty : FieldType}, Laid Z a0 Cl O nm d → parseFieldDescriptor d = some ty → Fld Z h' a O nm d (defaultValue ty)) → Wp p l e R s m args below meth c n0 EE Q h' ce' sl' (mkF m pc' Ls (.ref a :: st))) :
    Wp p l e R s m args below meth c n0 EE Q h cells slots (mkF m pc Ls st) := by
  subst hp hc1 hl1
  intro T locs X e0 N
  obtain ⟨T', h', X', e', E, A, D, -, st'⟩ := newO X C.1 C.2.2.1 C.2.2.2.1 w wi wz e0 (g := mkF m pc Ls st) rfl (hb C.2.1 hd) hc hl
  obtain ⟨s2, u, Lc, x, r⟩ := K h' h.size rfl E A D T' _ X' e' N
  exact ⟨s2, u, Lc, st' _ x, r⟩
theorem w_newP (C : Cx p s m meth c Z own bytes ml rt nm) {pc pc' ce' sl' : Nat} {Ls : Array Slot} {st : List Value} {aty : ArrayType} {n : Int32} {cap : Nat} (w : (Jvm.Cond.arrayClass (newarray.typeOf aty)).before a0 Z = true) (hd : decode bytes pc = .ok (.newarray aty, 2)) (hp : pc + 2 = pc') (hn : ¬ n < 0) (hcap : n.toNatClampNeg ≤ cap) (hbig : cap * 8 ≤ 536870912) (hc1 : cells + 1 = ce') (hl1 : slots + cap = sl') (hc : ce' ≤ R.cells) (hl : sl' ≤ R.slots)
    (K : ∀ h' a cA, a = h.size → Ext h h' → Arr Z h' a (newA cA (newarray.typeOf aty) n) (newarray.typeOf aty) → Wp p l e R s m args below meth c n0 EE Q h' ce' sl' (mkF m pc' Ls (.ref a :: st))) :
    Wp p l e R s m args below meth c n0 EE Q h cells slots (mkF m pc Ls (.int n :: st)) := by
  subst hp hc1 hl1
  intro T locs X e0 N
  obtain ⟨T', h', cA, X', e', E, A, st'⟩ := newP X C.1 C.2.2.1 w e0 (g := mkF m pc Ls (.int n :: st)) rfl (hb C.2.1 hd) rfl hn hcap hbig hc hl
  obtain ⟨s2, u, Lc, x, r⟩ := K h' h.size cA rfl E A T' _ X' e' N
  exact ⟨s2, u, Lc, st' _ x, r⟩
theorem w_newR (C : Cx p s m meth c Z own bytes ml rt nm) {pc pc' ce' sl' : Nat} {Ls : Array Slot} {st : List Value} {Cl : String} {i : Nat} {n : Int32} {cap : Nat} (w1 : (Jvm.Cond.classLink own i Cl).before a0 Z = true) (w2 : (Jvm.Cond.arrayOver (.object Cl)).before a0 Z = true) (hd : decode bytes pc = .ok (.anewarray i, 3)) (hp : pc + 3 = pc') (hn : ¬ n < 0) (hcap : n.toNatClampNeg ≤ cap) (hbig : cap * 8 ≤ 536870912) (hc1 : cells + 1 = ce') (hl1 : slots + cap = sl') (hc : ce' ≤ R.cells) (hl : sl' ≤ R.slots)
    (K : ∀ h' a cA, a = h.size → Ext h h' → Arr Z h' a (newA cA (.object Cl) n) (.object Cl) → Ovr Z cA Cl → Wp p l e R s m args below meth c n0 EE Q h' ce' sl' (mkF m pc' Ls (.ref a :: st))) :
    Wp p l e R s m args below meth c n0 EE Q h cells slots (mkF m pc Ls (.int n :: st)) := by
  subst hp hc1 hl1
  intro T locs X e0 N
  obtain ⟨T', h', cA, X', e', E, A, O, st'⟩ := newR X C.1 C.2.2.1 C.2.2.2.1 w1 w2 e0 (g := mkF m pc Ls (.int n :: st)) rfl (hb C.2.1 hd) rfl hn hcap hbig hc hl
  obtain ⟨s2, u, Lc, x, r⟩ := K h' h.size cA rfl E A O T' _ X' e' N
  exact ⟨s2, u, Lc, st' _ x, r⟩
theorem w_iastore (C : Cx p s m meth c Z own bytes ml rt nm) {pc pc' : Nat} {Ls : Array Slot} {st : List Value} {a : Addr} {cl : Cell} {j : Int32} {x : Int32} (hd : decode bytes pc = .ok (.iastore, 1)) (hp : pc + 1 = pc') (g0 : n0 ≤ a) (A : Arr Z h a cl .int) (hj : ¬ (j < 0 ∨ cl.slots.size ≤ j.toNatClampNeg))
    (K : ∀ h', Wr h h' a j.toNatClampNeg (.int x) → Wp p l e R s m args below meth c n0 EE Q h' cells slots (mkF m pc' Ls st)) :
    Wp p l e R s m args below meth c n0 EE Q h cells slots (mkF m pc Ls (.int x :: .int j :: .ref a :: st)) := by
  subst hp
  intro T locs X e0 N
  obtain ⟨T', h', X', e', W, st'⟩ := stI X C.1 C.2.2.1 e0 A hj (g := mkF m pc Ls (.int x :: .int j :: .ref a :: st)) rfl rfl (hb C.2.1 hd)
  obtain ⟨s2, u, Lc, q, r⟩ := K h' W T' _ X' e' (Fr.snoc X' N g0)
  exact ⟨s2, u, Lc, st' _ q, r⟩
theorem w_lastore (C : Cx p s m meth c Z own bytes ml rt nm) {pc pc' : Nat} {Ls : Array Slot} {st : List Value} {a : Addr} {cl : Cell} {j : Int32} {x : Int64} (hd : decode bytes pc = .ok (.lastore, 1)) (hp : pc + 1 = pc') (g0 : n0 ≤ a) (A : Arr Z h a cl .long) (hj : ¬ (j < 0 ∨ cl.slots.size ≤ j.toNatClampNeg))
    (K : ∀ h', Wr h h' a j.toNatClampNeg (.long x) → Wp p l e R s m args below meth c n0 EE Q h' cells slots (mkF m pc' Ls st)) :
    Wp p l e R s m args below meth c n0 EE Q h cells slots (mkF m pc Ls (.long x :: .int j :: .ref a :: st)) := by
  subst hp
  intro T locs X e0 N
  obtain ⟨T', h', X', e', W, st'⟩ := stJ X C.1 C.2.2.1 e0 A hj (g := mkF m pc Ls (.long x :: .int j :: .ref a :: st)) rfl rfl (hb C.2.1 hd)
  obtain ⟨s2, u, Lc, q, r⟩ := K h' W T' _ X' e' (Fr.snoc X' N g0)
  exact ⟨s2, u, Lc, st' _ q, r⟩
theorem w_castore (C : Cx p s m meth c Z own bytes ml rt nm) {pc pc' : Nat} {Ls : Array Slot} {st : List Value} {a : Addr} {cl : Cell} {j : Int32} {x : Int32} (hd : decode bytes pc = .ok (.castore, 1)) (hp : pc + 1 = pc') (g0 : n0 ≤ a) (A : Arr Z h a cl .char) (hj : ¬ (j < 0 ∨ cl.slots.size ≤ j.toNatClampNeg))
    (K : ∀ h', Wr h h' a j.toNatClampNeg (.int (nar .char x)) → Wp p l e R s m args below meth c n0 EE Q h' cells slots (mkF m pc' Ls st)) :
    Wp p l e R s m args below meth c n0 EE Q h cells slots (mkF m pc Ls (.int x :: .int j :: .ref a :: st)) := by
  subst hp
  intro T locs X e0 N
  obtain ⟨T', h', X', e', W, st'⟩ := stC X C.1 C.2.2.1 e0 A hj (g := mkF m pc Ls (.int x :: .int j :: .ref a :: st)) rfl rfl (hb C.2.1 hd)
  obtain ⟨s2, u, Lc, q, r⟩ := K h' W T' _ X' e' (Fr.snoc X' N g0)
  exact ⟨s2, u, Lc, st' _ q, r⟩
theorem w_aastore (C : Cx p s m meth c Z own bytes ml rt nm) {pc pc' : Nat} {Ls : Array Slot} {st : List Value} {a : Addr} {cl : Cell} {j : Int32} {v : Value} {ty : FieldType} (hd : decode bytes pc = .ok (.aastore, 1)) (hp : pc + 1 = pc') (g0 : n0 ≤ a) (A : Arr Z h a cl ty) (hj : ¬ (j < 0 ∨ cl.slots.size ≤ j.toNatClampNeg)) (hty : ty.isReference = true) (F : Sto Z h a v)
    (K : ∀ h', Wr h h' a j.toNatClampNeg v → Wp p l e R s m args below meth c n0 EE Q h' cells slots (mkF m pc' Ls st)) :
    Wp p l e R s m args below meth c n0 EE Q h cells slots (mkF m pc Ls (v :: .int j :: .ref a :: st)) := by
  subst hp
  intro T locs X e0 N
  obtain ⟨T', h', X', e', W, st'⟩ := stR X C.1 C.2.2.1 e0 A hj hty F (g := mkF m pc Ls (v :: .int j :: .ref a :: st)) rfl rfl (hb C.2.1 hd)
  obtain ⟨s2, u, Lc, q, r⟩ := K h' W T' _ X' e' (Fr.snoc X' N g0)
  exact ⟨s2, u, Lc, st' _ q, r⟩
theorem w_iaload (C : Cx p s m meth c Z own bytes ml rt nm) {pc pc' : Nat} {Ls : Array Slot} {st : List Value} {a : Addr} {cl : Cell} {j : Int32} {v : Value} (hd : decode bytes pc = .ok (.iaload, 1)) (hp : pc + 1 = pc') (A : Arr Z h a cl .int) (hj : ¬ (j < 0 ∨ cl.slots.size ≤ j.toNatClampNeg)) (hv : cl.slots[j.toNatClampNeg]? = some v)
    (K : Wp p l e R s m args below meth c n0 EE Q h cells slots (mkF m pc' Ls (v :: st))) :
    Wp p l e R s m args below meth c n0 EE Q h cells slots (mkF m pc Ls (.int j :: .ref a :: st)) := by
  subst hp
  intro T locs X e0 N
  obtain ⟨s2, u, L, q, r⟩ := K T locs X e0 N
  exact ⟨s2, u, L, X.iaload C.1 (j := j) (v := v) (by rw [e0]; exact A.1) (State.isArrayOf_alike C.2.2.1.alike A.2.1) A.2.2 hj hv (g := mkF m pc Ls (.int j :: .ref a :: st)) rfl rfl (hb C.2.1 hd) _ q, r⟩
theorem w_laload (C : Cx p s m meth c Z own bytes ml rt nm) {pc pc' : Nat} {Ls : Array Slot} {st : List Value} {a : Addr} {cl : Cell} {j : Int32} {v : Value} (hd : decode bytes pc = .ok (.laload, 1)) (hp : pc + 1 = pc') (A : Arr Z h a cl .long) (hj : ¬ (j < 0 ∨ cl.slots.size ≤ j.toNatClampNeg)) (hv : cl.slots[j.toNatClampNeg]? = some v)
    (K : Wp p l e R s m args below meth c n0 EE Q h cells slots (mkF m pc' Ls (v :: st))) :
    Wp p l e R s m args below meth c n0 EE Q h cells slots (mkF m pc Ls (.int j :: .ref a :: st)) := by
  subst hp
  intro T locs X e0 N
  obtain ⟨s2, u, L, q, r⟩ := K T locs X e0 N
  exact ⟨s2, u, L, X.laload C.1 (j := j) (v := v) (by rw [e0]; exact A.1) (State.isArrayOf_alike C.2.2.1.alike A.2.1) A.2.2 hj hv (g := mkF m pc Ls (.int j :: .ref a :: st)) rfl rfl (hb C.2.1 hd) _ q, r⟩
theorem w_caload (C : Cx p s m meth c Z own bytes ml rt nm) {pc pc' : Nat} {Ls : Array Slot} {st : List Value} {a : Addr} {cl : Cell} {j : Int32} {v : Value} (hd : decode bytes pc = .ok (.caload, 1)) (hp : pc + 1 = pc') (A : Arr Z h a cl .char) (hj : ¬ (j < 0 ∨ cl.slots.size ≤ j.toNatClampNeg)) (hv : cl.slots[j.toNatClampNeg]? = some v)
    (K : Wp p l e R s m args below meth c n0 EE Q h cells slots (mkF m pc' Ls (v :: st))) :
    Wp p l e R s m args below meth c n0 EE Q h cells slots (mkF m pc Ls (.int j :: .ref a :: st)) := by
  subst hp
  intro T locs X e0 N
  obtain ⟨s2, u, L, q, r⟩ := K T locs X e0 N
  exact ⟨s2, u, L, X.caload C.1 (j := j) (v := v) (by rw [e0]; exact A.1) (State.isArrayOf_alike C.2.2.1.alike A.2.1) A.2.2 hj hv (g := mkF m pc Ls (.int j :: .ref a :: st)) rfl rfl (hb C.2.1 hd) _ q, r⟩
theorem w_baload (C : Cx p s m meth c Z own bytes ml rt nm) {pc pc' : Nat} {Ls : Array Slot} {st : List Value} {a : Addr} {cl : Cell} {j : Int32} {v : Value} (hd : decode bytes pc = .ok (.baload, 1)) (hp : pc + 1 = pc') (A : Arr Z h a cl .byte) (hj : ¬ (j < 0 ∨ cl.slots.size ≤ j.toNatClampNeg)) (hv : cl.slots[j.toNatClampNeg]? = some v)
    (K : Wp p l e R s m args below meth c n0 EE Q h cells slots (mkF m pc' Ls (v :: st))) :
    Wp p l e R s m args below meth c n0 EE Q h cells slots (mkF m pc Ls (.int j :: .ref a :: st)) := by
  subst hp
  intro T locs X e0 N
  obtain ⟨s2, u, L, q, r⟩ := K T locs X e0 N
  exact ⟨s2, u, L, X.baloadBytes C.1 (j := j) (v := v) (by rw [e0]; exact A.1) (State.isArrayOf_alike C.2.2.1.alike A.2.1) A.2.2 hj hv (g := mkF m pc Ls (.int j :: .ref a :: st)) rfl rfl (hb C.2.1 hd) _ q, r⟩
theorem w_aaload (C : Cx p s m meth c Z own bytes ml rt nm) {pc pc' : Nat} {Ls : Array Slot} {st : List Value} {a : Addr} {cl : Cell} {j : Int32} {v : Value} {ty : FieldType} (hd : decode bytes pc = .ok (.aaload, 1)) (hp : pc + 1 = pc') (A : Arr Z h a cl ty) (hty : ty.isReference = true) (hj : ¬ (j < 0 ∨ cl.slots.size ≤ j.toNatClampNeg)) (hv : cl.slots[j.toNatClampNeg]? = some v)
    (K : Wp p l e R s m args below meth c n0 EE Q h cells slots (mkF m pc' Ls (v :: st))) :
    Wp p l e R s m args below meth c n0 EE Q h cells slots (mkF m pc Ls (.int j :: .ref a :: st)) := by
  subst hp
  intro T locs X e0 N
  obtain ⟨s2, u, L, q, r⟩ := K T locs X e0 N
  exact ⟨s2, u, L, X.aaload C.1 (j := j) (v := v) (by rw [e0]; exact A.1) (State.isArrayOf_alike C.2.2.1.alike A.2.1) hty A.2.2 hj hv (g := mkF m pc Ls (.int j :: .ref a :: st)) rfl rfl (hb C.2.1 hd) _ q, r⟩
theorem w_alen (C : Cx p s m meth c Z own bytes ml rt nm) {pc pc' : Nat} {Ls : Array Slot} {st : List Value} {a : Addr} {cl : Cell} {ty : FieldType} {n : Int32} (hd : decode bytes pc = .ok (.arraylength, 1)) (hp : pc + 1 = pc') (A : Arr Z h a cl ty) (hn : cl.slots.size.toInt32 = n)
    (K : Wp p l e R s m args below meth c n0 EE Q h cells slots (mkF m pc' Ls (.int n :: st))) :
    Wp p l e R s m args below meth c n0 EE Q h cells slots (mkF m pc Ls (.ref a :: st)) := by
  subst hp hn
  intro T locs X e0 N
  obtain ⟨s2, u, L, q, r⟩ := K T locs X e0 N
  exact ⟨s2, u, L, X.arraylength C.1 (by rw [e0]; exact A.1) (State.isArrayOf_alike C.2.2.1.alike A.2.1) (g := mkF m pc Ls (.ref a :: st)) rfl rfl (hb C.2.1 hd) _ q, r⟩
theorem w_initO (C : Cx p s m meth c Z own bytes ml rt nm) {pc pc' : Nat} {Ls : Array Slot} {st : List Value} {i : Nat} {a : Addr} {W : Nat} (w1 : (Jvm.Cond.methodLink own i Lib.objectInit).before a0 Z = true) (w2 : (Jvm.Cond.instanceMethod Lib.objectInit).before a0 Z = true) (w3 : (Jvm.Cond.code Lib.objectInit ⟨#[0xb1]⟩ 1 none).before a0 Z = true) (hd : decode bytes pc = .ok (.invokespecial i, 3)) (hp : pc + 3 = pc')
    (hsz : Ls.size = ml) (hf : 1 ≤ R.frames) (hW : (st.map fun v => v.category).sum ≤ W) (hl : W + 12 ≤ R.locals) (K : Wp p l e R s m args below meth c n0 EE Q h cells slots (mkF m pc' Ls st)) :
    Wp p l e R s m args below meth c n0 EE Q h cells slots (mkF m pc Ls (.ref a :: st)) := by
  subst hp
  exact Wp.law (fun T locs X e0 => initO X C.1 C.2.2.1 C.2.2.2.1 w1 w2 w3 e0 (g := mkF m pc Ls (.ref a :: st)) rfl (hsz.trans C.2.2.2.2.1.symm) rfl (hb C.2.1 hd) hf (by show 2 * 0 + _ ≤ _; rw [Nat.mul_zero, Nat.zero_add]; exact hW) hl) K
theorem w_callS (C : Cx p s m meth c Z own bytes ml rt nm) {pc pc' : Nat} {Ls : Array Slot} {stk st : List Value} {i : Nat} {ce' sl' : Nat} {y : MethodName} {cb : ByteArray} {cml : Nat} {cret : Option FieldType} {crm : Room} {argsL : List Value} {Q' : Option Value → Heap → Prop} {W : Nat} (w1 : (Jvm.Cond.methodLink own i y).before a0 Z = true) (w2 : (Jvm.Cond.static y).before a0 Z = true) (w3 : (Jvm.Cond.initialized y.cls).before a0 Z = true) (w4 : (Jvm.Cond.code y cb cml cret).before a0 Z = true) (hy : y.cls ≠ "java/lang/invoke/MethodHandle" ∧ y.cls ≠ "java/lang/invoke/VarHandle")
    (hd : decode bytes pc = .ok (.invokestatic i, 3)) (hp : pc + 3 = pc') (hst : stk = argsL.reverse ++ st) (hfr : crm.frames + 1 ≤ R.frames) (hlo : W + (cml + 11) + crm.locals ≤ R.locals) (hW : (st.map fun v => v.category).sum ≤ W) (hce1 : cells + crm.cells = ce') (hsl1 : slots + crm.slots = sl') (hce : ce' ≤ R.cells) (hsl : sl' ≤ R.slots) (hsz : Ls.size = ml) (hlen : ∀ sig, parseMethodDescriptor y.desc = some sig → argsL.length = sig.parameters.length) (ct : Ct l Z y cb cml cret [] crm argsL.toArray h n0 Q')
    (K : ∀ v h', Q' v h' → Wp p l e R s m args below meth c n0 EE Q h' ce' sl' (mkF m pc' Ls (v.toList ++ st))) :
    Wp p l e R s m args below meth c n0 EE Q h cells slots (mkF m pc Ls stk) := by
  subst hp hce1 hsl1
  intro T locs X e0 N
  obtain ⟨v, _, ⟨T', L', k', n'⟩, -, X', ⟨Lc, hq, l1, l2, l3⟩, st'⟩ := Jvm.LawKit.callS X C.1 (y := y) C.2.2.2.1 (mvT C.2.2.1 w1) (mvT C.2.2.1 w2) (mvT C.2.2.1 w3) (mvT C.2.2.1 w4) hy (backOf (W := W) (Q := fun v hh L => Q' v hh ∧ Fr n0 L) ct C.2.2.1 w4 w3 hfr hlo) (g := mkF m pc Ls stk) rfl (hsz.trans C.2.2.2.2.1.symm) (argsL := argsL) (rest := st) hlen hst (by show 2 * 0 + _ ≤ _; rw [Nat.mul_zero, Nat.zero_add]; exact hW) (hb C.2.1 hd) (fun _ _ => ⟨rfl, e0, hce, hsl⟩)
  dsimp only [Pt.U, Pt.locs, Pt.cells, Pt.slots] at X' l1 l2 l3 st' hq
  subst l1 l2 l3
  obtain ⟨s2, u, L, q, r⟩ := K _ _ hq.1 _ _ X' rfl (Fr.app N hq.2)
  exact ⟨s2, u, L, st' _ q, r⟩
theorem w_callSN (C : Cx p s m meth c Z own bytes ml rt nm) {pc pc' : Nat} {Ls : Array Slot} {stk st : List Value} {i : Nat} {ce' sl' : Nat} {y : MethodName} {host : String} {cb : ByteArray} {cml : Nat} {cret : Option FieldType} {crm : Room} {argsL : List Value} {Q' : Option Value → Heap → Prop} {W : Nat} (w1 : (Jvm.Cond.methodLinkNest own i y host).before a0 Z = true) (w2 : (Jvm.Cond.static y).before a0 Z = true) (w3 : (Jvm.Cond.initialized y.cls).before a0 Z = true) (w4 : (Jvm.Cond.code y cb cml cret).before a0 Z = true) (hy : y.cls ≠ "java/lang/invoke/MethodHandle" ∧ y.cls ≠ "java/lang/invoke/VarHandle")
    (hd : decode bytes pc = .ok (.invokestatic i, 3)) (hp : pc + 3 = pc') (hst : stk = argsL.reverse ++ st) (hfr : crm.frames + 1 ≤ R.frames) (hlo : W + (cml + 11) + crm.locals ≤ R.locals) (hW : (st.map fun v => v.category).sum ≤ W) (hce1 : cells + crm.cells = ce') (hsl1 : slots + crm.slots = sl') (hce : ce' ≤ R.cells) (hsl : sl' ≤ R.slots) (hsz : Ls.size = ml) (hlen : ∀ sig, parseMethodDescriptor y.desc = some sig → argsL.length = sig.parameters.length) (ct : Ct l Z y cb cml cret [] crm argsL.toArray h n0 Q')
    (K : ∀ v h', Q' v h' → Wp p l e R s m args below meth c n0 EE Q h' ce' sl' (mkF m pc' Ls (v.toList ++ st))) :
    Wp p l e R s m args below meth c n0 EE Q h cells slots (mkF m pc Ls stk) := by
  subst hp hce1 hsl1
  intro T locs X e0 N
  obtain ⟨v, _, ⟨T', L', k', n'⟩, -, X', ⟨Lc, hq, l1, l2, l3⟩, st'⟩ := Jvm.RoadKit.callSN X C.1 (y := y) C.2.2.2.1 (Cond.methodLinkNest_wide C.2.2.1 w1) (mvT C.2.2.1 w2) (mvT C.2.2.1 w3) (mvT C.2.2.1 w4) hy (backOf (W := W) (Q := fun v hh L => Q' v hh ∧ Fr n0 L) ct C.2.2.1 w4 w3 hfr hlo) (g := mkF m pc Ls stk) rfl (hsz.trans C.2.2.2.2.1.symm) (argsL := argsL) (rest := st) hlen hst (by show 2 * 0 + _ ≤ _; rw [Nat.mul_zero, Nat.zero_add]; exact hW) (hb C.2.1 hd) (fun _ _ => ⟨rfl, e0, hce, hsl⟩)
  dsimp only [Pt.U, Pt.locs, Pt.cells, Pt.slots] at X' l1 l2 l3 st' hq
  subst l1 l2 l3
  obtain ⟨s2, u, L, q, r⟩ := K _ _ hq.1 _ _ X' rfl (Fr.app N hq.2)
  exact ⟨s2, u, L, st'.trans q, r⟩
theorem w_callI (C : Cx p s m meth c Z own bytes ml rt nm) {pc pc' : Nat} {Ls : Array Slot} {stk st : List Value} {i : Nat} {a : Addr} {ce' sl' : Nat} {y : MethodName} {cb : ByteArray} {cml : Nat} {crm : Room} {argsL : List Value} {Q' : Option Value → Heap → Prop} {W : Nat} (hin : y.name = "<init>") (w1 : (Jvm.Cond.methodLink own i y).before a0 Z = true) (w2 : (Jvm.Cond.instanceMethod y).before a0 Z = true) (w3 : (Jvm.Cond.initialized y.cls).before a0 Z = true) (w4 : (Jvm.Cond.code y cb cml none).before a0 Z = true) (hy : y.cls ≠ "java/lang/invoke/MethodHandle" ∧ y.cls ≠ "java/lang/invoke/VarHandle")
    (hd : decode bytes pc = .ok (.invokespecial i, 3)) (hp : pc + 3 = pc') (hst : stk = argsL.reverse ++ .ref a :: st) (hfr : crm.frames + 1 ≤ R.frames) (hlo : W + (cml + 11) + crm.locals ≤ R.locals) (hW : (st.map fun v => v.category).sum ≤ W) (hce1 : cells + crm.cells = ce') (hsl1 : slots + crm.slots = sl') (hce : ce' ≤ R.cells) (hsl : sl' ≤ R.slots) (hsz : Ls.size = ml) (hlen : ∀ sig, parseMethodDescriptor y.desc = some sig → argsL.length = sig.parameters.length) (ct : Ct l Z y cb cml none [] crm (.ref a :: argsL).toArray h n0 Q')
    (K : ∀ v h', Q' v h' → Wp p l e R s m args below meth c n0 EE Q h' ce' sl' (mkF m pc' Ls (v.toList ++ st))) :
    Wp p l e R s m args below meth c n0 EE Q h cells slots (mkF m pc Ls stk) := by
  subst hp hce1 hsl1
  intro T locs X e0 N
  obtain ⟨v, _, ⟨T', L', k', n'⟩, -, X', ⟨Lc, hq, l1, l2, l3⟩, st'⟩ := X.specialBack C.1 (y := y) hin C.2.2.2.1 (mvT C.2.2.1 w1) (mvT C.2.2.1 w2) (mvT C.2.2.1 w4) hy (backOf (W := W) (Q := fun v hh L => Q' v hh ∧ Fr n0 L) ct C.2.2.1 w4 w3 hfr hlo) (g := mkF m pc Ls stk) rfl (hsz.trans C.2.2.2.2.1.symm) (Steps.refl _) (a := a) (argsL := argsL) (rest := st) hlen hst (by show 2 * 0 + _ ≤ _; rw [Nat.mul_zero, Nat.zero_add]; exact hW) (hb C.2.1 hd) (fun _ _ => ⟨rfl, e0, hce, hsl⟩)
  dsimp only [Pt.U, Pt.locs, Pt.cells, Pt.slots] at X' l1 l2 l3 st' hq
  subst l1 l2 l3
  obtain ⟨s2, u, L, q, r⟩ := K _ _ hq.1 _ _ X' rfl (Fr.app N hq.2)
  exact ⟨s2, u, L, st'.trans q, r⟩
theorem w_callV (C : Cx p s m meth c Z own bytes ml rt nm) {pc pc' : Nat} {Ls : Array Slot} {stk st : List Value} {i : Nat} {a : Addr} {Cl : String} {ce' sl' : Nat} {y : MethodName} {cb : ByteArray} {cml : Nat} {cret : Option FieldType} {crm : Room} {argsL : List Value} {Q' : Option Value → Heap → Prop} {W : Nat} (w1 : (Jvm.Cond.methodLink own i y).before a0 Z = true) (w2 : (Jvm.Cond.declares y).before a0 Z = true) (w5 : (Jvm.Cond.selects Cl y y).before a0 Z = true) (w6 : (Jvm.Cond.instanceMethod y).before a0 Z = true) (w3 : (Jvm.Cond.initialized y.cls).before a0 Z = true) (w4 : (Jvm.Cond.code y cb cml cret).before a0 Z = true) (hy : y.cls ≠ "java/lang/invoke/MethodHandle" ∧ y.cls ≠ "java/lang/invoke/VarHandle")
    (hd : decode bytes pc = .ok (.invokevirtual i, 3)) (hp : pc + 3 = pc') (hst : stk = argsL.reverse ++ .ref a :: st) (hfr : crm.frames + 1 ≤ R.frames) (hlo : W + (cml + 11) + crm.locals ≤ R.locals) (hW : (st.map fun v => v.category).sum ≤ W) (hce1 : cells + crm.cells = ce') (hsl1 : slots + crm.slots = sl') (hce : ce' ≤ R.cells) (hsl : sl' ≤ R.slots) (hsz : Ls.size = ml) (hlen : ∀ sig, parseMethodDescriptor y.desc = some sig → argsL.length = sig.parameters.length) (E : Exa Z h a Cl) (ct : Ct l Z y cb cml cret [] crm (.ref a :: argsL).toArray h n0 Q')
    (K : ∀ v h', Q' v h' → Wp p l e R s m args below meth c n0 EE Q h' ce' sl' (mkF m pc' Ls (v.toList ++ st))) :
    Wp p l e R s m args below meth c n0 EE Q h cells slots (mkF m pc Ls stk) := by
  subst hp hce1 hsl1
  intro T locs X e0 N
  obtain ⟨_, _, qa, qb, qc⟩ := isOf C.2.2.1 e0 E
  obtain ⟨v, _, ⟨T', L', k', n'⟩, -, X', ⟨Lc, hq, l1, l2, l3⟩, st'⟩ := X.virtualBack C.1 (y := y) (z := y) C.2.2.2.1 (mvT C.2.2.1 w1) (mvT C.2.2.1 w2) (notFace_of_selects (args := #[]) (mvT C.2.2.1 w5)) (mvT C.2.2.1 w5) (mvT C.2.2.1 w6) hy (backOf (W := W) (Q := fun v hh L => Q' v hh ∧ Fr n0 L) ct C.2.2.1 w4 w3 hfr hlo) qa qc (g := mkF m pc Ls stk) rfl (hsz.trans C.2.2.2.2.1.symm) (Steps.refl _) (argsL := argsL) (rest := st) hlen hst (by show 2 * 0 + _ ≤ _; rw [Nat.mul_zero, Nat.zero_add]; exact hW) (hb C.2.1 hd) (fun _ _ => ⟨rfl, e0, hce, hsl⟩)
  dsimp only [Pt.U, Pt.locs, Pt.cells, Pt.slots] at X' l1 l2 l3 st' hq
  subst l1 l2 l3
  obtain ⟨s2, u, L, q, r⟩ := K _ _ hq.1 _ _ X' rfl (Fr.app N hq.2)
  exact ⟨s2, u, L, st'.trans q, r⟩
theorem w_callP (C : Cx p s m meth c Z own bytes ml rt nm) {pc pc' : Nat} {Ls : Array Slot} {stk st : List Value} {i : Nat} {a : Addr} {Cl : String} {ce' sl' : Nat} {y : MethodName} {cb : ByteArray} {cml : Nat} {cret : Option FieldType} {crm : Room} {argsL : List Value} {Q' : Option Value → Heap → Prop} {W : Nat} (w1 : (Jvm.Cond.methodLink own i y).before a0 Z = true) (w6 : (Jvm.Cond.instanceMethod y).before a0 Z = true) {kk : Nat} (w5 : (Jvm.Cond.instantiable y.cls kk).before a0 Z = true) (w7 : (Jvm.Cond.privateMethod y).before a0 Z = true) (w3 : (Jvm.Cond.initialized y.cls).before a0 Z = true) (w4 : (Jvm.Cond.code y cb cml cret).before a0 Z = true) (hy : y.cls ≠ "java/lang/invoke/MethodHandle" ∧ y.cls ≠ "java/lang/invoke/VarHandle")
    (hd : decode bytes pc = .ok (.invokevirtual i, 3)) (hp : pc + 3 = pc') (hst : stk = argsL.reverse ++ .ref a :: st) (hfr : crm.frames + 1 ≤ R.frames) (hlo : W + (cml + 11) + crm.locals ≤ R.locals) (hW : (st.map fun v => v.category).sum ≤ W) (hce1 : cells + crm.cells = ce') (hsl1 : slots + crm.slots = sl') (hce : ce' ≤ R.cells) (hsl : sl' ≤ R.slots) (hsz : Ls.size = ml) (hlen : ∀ sig, parseMethodDescriptor y.desc = some sig → argsL.length = sig.parameters.length) (E : Exa Z h a Cl) (ct : Ct l Z y cb cml cret [] crm (.ref a :: argsL).toArray h n0 Q')
    (K : ∀ v h', Q' v h' → Wp p l e R s m args below meth c n0 EE Q h' ce' sl' (mkF m pc' Ls (v.toList ++ st))) :
    Wp p l e R s m args below meth c n0 EE Q h cells slots (mkF m pc Ls stk) := by
  subst hp hce1 hsl1
  intro T locs X e0 N
  obtain ⟨cq, q1, q2⟩ := E.cell
  have hpr : s.PrivateAt y := Cond.privateMethod_at (mvP C.2.2.1 w7 (args := #[]))
  obtain ⟨ci, ki, i1, i2, -, i4, -⟩ := Cond.instantiable_spec (show (Jvm.Cond.instantiable y.cls kk).before #[] s = true from mvT C.2.2.1 w5)
  have hsel := selects_self_of_private (args := args) i1 i2 (by simp only [Bool.or_eq_false_iff] at i4; exact i4.1) hpr (mvT C.2.2.1 w6) hy
  obtain ⟨v, _, ⟨T', L', k', n'⟩, -, X', ⟨Lc, hq, l1, l2, l3⟩, st'⟩ := X.privateBack C.1 (y := y) C.2.2.2.1 (mvT C.2.2.1 w1) (mvT C.2.2.1 w6) hsel hpr (mvT C.2.2.1 w4) hy (backOf (W := W) (Q := fun v hh L => Q' v hh ∧ Fr n0 L) ct C.2.2.1 w4 w3 hfr hlo) (g := mkF m pc Ls stk) rfl (hsz.trans C.2.2.2.2.1.symm) (Steps.refl _) (a := a) (by rw [e0]; exact q1) q2 (argsL := argsL) (rest := st) hlen hst (by show 2 * 0 + _ ≤ _; rw [Nat.mul_zero, Nat.zero_add]; exact hW) (hb C.2.1 hd) (fun _ _ => ⟨rfl, e0, hce, hsl⟩)
  dsimp only [Pt.U, Pt.locs, Pt.cells, Pt.slots] at X' l1 l2 l3 st' hq
  subst l1 l2 l3
  obtain ⟨s2, u, L, q, r⟩ := K _ _ hq.1 _ _ X' rfl (Fr.app N hq.2)
  exact ⟨s2, u, L, st'.trans q, r⟩
theorem k1 {pc' ce' sl' : Nat} {Ls : Array Slot} {st : List Value} {r : Value} {P : Heap → Prop} (K : ∀ h', P h' → Wp p l e R s m args below meth c n0 EE Q h' ce' sl' (mkF m pc' Ls (r :: st))) : ∀ v h', (v = some r ∧ P h') → Wp p l e R s m args below meth c n0 EE Q h' ce' sl' (mkF m pc' Ls (v.toList ++ st)) := fun v h' q => by
  obtain ⟨rfl, q⟩ := q; exact K h' q
theorem k0 {pc' ce' sl' : Nat} {Ls : Array Slot} {st : List Value} {P : Heap → Prop} (K : ∀ h', P h' → Wp p l e R s m args below meth c n0 EE Q h' ce' sl' (mkF m pc' Ls st)) : ∀ v h', (v = none ∧ P h') → Wp p l e R s m args below meth c n0 EE Q h' ce' sl' (mkF m pc' Ls (v.toList ++ st)) := fun v h' q => by
  obtain ⟨rfl, q⟩ := q; exact K h' q
theorem kp {pc' ce' sl' : Nat} {Ls : Array Slot} {st : List Value} {r : Value} (K : Wp p l e R s m args below meth c n0 EE Q h ce' sl' (mkF m pc' Ls (r :: st))) : ∀ v h', (v = some r ∧ h' = h) → Wp p l e R s m args below meth c n0 EE Q h' ce' sl' (mkF m pc' Ls (v.toList ++ st)) := fun v h' q => by
  obtain ⟨rfl, rfl⟩ := q; exact K
theorem kx {pc' ce' sl' : Nat} {Ls : Array Slot} {st : List Value} {P : Addr → Heap → Prop} (K : ∀ b h', P b h' → Wp p l e R s m args below meth c n0 EE Q h' ce' sl' (mkF m pc' Ls (.ref b :: st))) : ∀ v h', (∃ b, v = some (.ref b) ∧ P b h') → Wp p l e R s m args below meth c n0 EE Q h' ce' sl' (mkF m pc' Ls (v.toList ++ st)) := fun v h' q => by
  obtain ⟨b, rfl, q⟩ := q; exact K b h' q
theorem kz {pc' ce' sl' : Nat} {Ls : Array Slot} {st : List Value} {P : Int32 → Heap → Prop} (K : ∀ b h', P b h' → Wp p l e R s m args below meth c n0 EE Q h' ce' sl' (mkF m pc' Ls (.int b :: st))) : ∀ v h', (∃ b, v = some (.int b) ∧ P b h') → Wp p l e R s m args below meth c n0 EE Q h' ce' sl' (mkF m pc' Ls (v.toList ++ st)) := fun v h' q => by
  obtain ⟨b, rfl, q⟩ := q; exact K b h' q
theorem kq {pc' ce' sl' : Nat} {Ls : Array Slot} {st : List Value} {P : Int32 → Prop} (K : ∀ b, P b → Wp p l e R s m args below meth c n0 EE Q h ce' sl' (mkF m pc' Ls (.int b :: st))) : ∀ v h', (∃ b, v = some (.int b) ∧ P b ∧ h' = h) → Wp p l e R s m args below meth c n0 EE Q h' ce' sl' (mkF m pc' Ls (v.toList ++ st)) := fun v h' q => by
  obtain ⟨b, rfl, q, rfl⟩ := q; exact K b q
theorem kv {pc' ce' sl' : Nat} {Ls : Array Slot} {st : List Value} (K : Wp p l e R s m args below meth c n0 EE Q h ce' sl' (mkF m pc' Ls st)) : ∀ v h', (v = none ∧ h' = h) → Wp p l e R s m args below meth c n0 EE Q h' ce' sl' (mkF m pc' Ls (v.toList ++ st)) := fun v h' q => by
  obtain ⟨rfl, rfl⟩ := q; exact K
end Rules
theorem cat_ref {v : Value} (hv : v.isRef = true) : v.category = 1 := by cases v <;> simp [Value.isRef] at hv <;> rfl
theorem st_ref {Ls Ls' : Array Slot} {k : Nat} {v : Value} {o : Slot} (hv : v.isRef = true) (ho : Ls[k]? = some o) (hc : o = .unset ∨ ∃ w, o = .val w ∧ w.category = 1) (e : Ls.setIfInBounds k (.val v) = Ls') : storeLocals Ls k v = some Ls' := by
  rw [← e]; exact XS.store1 ho hc (cat_ref hv)
theorem st_int {Ls Ls' : Array Slot} {k : Nat} {x : Int32} {o : Slot} (ho : Ls[k]? = some o) (hc : o = .unset ∨ ∃ w, o = .val w ∧ w.category = 1) (e : Ls.setIfInBounds k (.val (.int x)) = Ls') : storeLocals Ls k (.int x) = some Ls' := by
  rw [← e]; exact XS.store1 ho hc rfl
/-! objects and arrays, each one fact -/
section Facts
variable {Z : State} {h h' : Heap} {a b : Addr} {Cl n d : String} {v v' w : Value} {fs fs' : List (String × String × Value)} {ws : List Addr} {sl : Nat} {ty : FieldType} {vs : List Value}
/-- an object of exactly the class Cl, and what its fields hold -/
def Obj (Z : State) (h : Heap) (a : Addr) (Cl : String) (fs : List (String × String × Value)) : Prop :=
  Exa Z h a Cl ∧ (∀ (i : Nat) (f : String × String × Value), fs[i]? = some f → Fld Z h a Cl f.1 f.2.1 f.2.2) ∧ ∀ (i j : Nat) (f g : String × String × Value), fs[i]? = some f → fs[j]? = some g → i ≠ j → Jvm.RoadKit.slotOf Z Cl f.1 f.2.1 ≠ Jvm.RoadKit.slotOf Z Cl g.1 g.2.1
theorem Obj.lt (O : Obj Z h a Cl fs) : a < h.size := O.1.lt
theorem Obj.fld (O : Obj Z h a Cl fs) (i : Nat) (e : fs[i]? = some (n, d, v)) : Fld Z h a Cl n d v := O.2.1 i _ e
theorem Obj.ext (O : Obj Z h a Cl fs) (E : Ext h h') : Obj Z h' a Cl fs := ⟨O.1.ext E, fun i f q => (O.2.1 i f q).ext E, O.2.2⟩
theorem Obj.keep (O : Obj Z h a Cl fs) (K : Keep h h' ws) (q : a ∉ ws) : Obj Z h' a Cl fs := ⟨O.1.keep K, fun i f r => (O.2.1 i f r).keep K q, O.2.2⟩
theorem Obj.other (O : Obj Z h a Cl fs) (W : Wr h h' b sl w) (q : a ≠ b) : Obj Z h' a Cl fs := ⟨O.1.wr W, fun i f r => (O.2.1 i f r).other W (Or.inl q), O.2.2⟩
theorem Obj.put (O : Obj Z h a Cl fs) (i : Nat) (e : fs[i]? = some (n, d, v)) (W : Wr h h' a (Jvm.RoadKit.slotOf Z Cl n d) v') (e' : fs.set i (n, d, v') = fs') : Obj Z h' a Cl fs' := by
  subst e'
  have key : ∀ j f, (fs.set i (n, d, v'))[j]? = some f → ∃ u, fs[j]? = some (f.1, f.2.1, u) ∧ (j = i → f = (n, d, v')) ∧ (j ≠ i → fs[j]? = some f) := fun j f q => by
    by_cases z : i = j
    · subst z
      have hl : i < fs.length := (List.getElem?_eq_some_iff.mp e).1
      rw [List.getElem?_set_self hl] at q
      cases q
      exact ⟨v, e, fun _ => rfl, fun r => absurd rfl r⟩
    · rw [List.getElem?_set_ne z] at q
      exact ⟨f.2.2, q, fun r => absurd r.symm z, fun _ => q⟩
  refine ⟨O.1.wr W, fun j f q => ?_, fun j k f g q r z => ?_⟩
  · obtain ⟨u, k1, k2, k3⟩ := key j f q
    by_cases z : j = i
    · cases k2 z; subst z
      exact (O.fld j e).same W
    · have ne : Jvm.RoadKit.slotOf Z Cl f.1 f.2.1 ≠ Jvm.RoadKit.slotOf Z Cl n d := O.2.2 j i f (n, d, v) (k3 z) e z
      exact Fld.other W (O.2.1 j f (k3 z)) (Or.inr ne)
  · obtain ⟨u, k1, -⟩ := key j f q
    obtain ⟨u', k2, -⟩ := key k g r
    exact O.2.2 j k (f.1, f.2.1, u) (g.1, g.2.1, u') k1 k2 z
theorem Obj.size (O : Obj Z h a Cl fs) (K : Keep h h' ws) : h.size ≤ h'.size := K.1
/-- an array of the component type ty, and what it holds -/
def Ar (Z : State) (h : Heap) (a : Addr) (ty : FieldType) (vs : List Value) : Prop := ∃ cl : Cell, Arr Z h a cl ty ∧ cl.slots = vs.toArray
theorem Ar.lt (A : Ar Z h a ty vs) : a < h.size := by obtain ⟨_, A, -⟩ := A; exact A.lt
theorem Ar.ext (A : Ar Z h a ty vs) (E : Ext h h') : Ar Z h' a ty vs := by obtain ⟨cl, A, q⟩ := A; exact ⟨cl, A.ext E, q⟩
theorem Ar.keep (A : Ar Z h a ty vs) (K : Keep h h' ws) (q : a ∉ ws) : Ar Z h' a ty vs := by obtain ⟨cl, A, r⟩ := A; exact ⟨cl, ⟨K.2.1 a cl A.1 q, A.2⟩, r⟩
theorem Ar.other (A : Ar Z h a ty vs) (W : Wr h h' b sl w) (q : a ≠ b) : Ar Z h' a ty vs := by obtain ⟨cl, A, r⟩ := A; exact ⟨cl, A.other W q, r⟩
theorem set_slots {cl : Cell} (r : cl.slots = vs.toArray) (j : Nat) (v : Value) : (cl.setSlot j v).slots = (vs.set j v).toArray := by
  show cl.slots.setIfInBounds j v = _
  rw [r]; simp
theorem Ar.set (A : Ar Z h a ty vs) (W : Wr h h' a sl w) : Ar Z h' a ty (vs.set sl w) := by
  obtain ⟨cl, A, r⟩ := A; exact ⟨_, A.same W, set_slots r _ _⟩
theorem Ar.new {cA : ClassId} {z : Int32} (A : Arr Z h a (newA cA ty z) ty) : Ar Z h a ty (List.replicate z.toNatClampNeg (defaultValue ty)) := ⟨_, A, by simp [newA]⟩
theorem Ar.nin {cl : Cell} {j : Int32} (r : cl.slots = vs.toArray) (hj : ¬ j < 0) (hl : j.toNatClampNeg < vs.length) : ¬ (j < 0 ∨ cl.slots.size ≤ j.toNatClampNeg) := by
  rw [r]; simp only [List.size_toArray]
  exact fun q => q.elim hj (fun q => Nat.not_le.mpr hl q)
theorem Ar.at {cl : Cell} {k : Nat} (r : cl.slots = vs.toArray) (hv : vs[k]? = some v) : cl.slots[k]? = some v := by rw [r]; simpa using hv
/-- an array of references to objects of the class Cl -/
def ArR (Z : State) (h : Heap) (a : Addr) (Cl : String) (vs : List Value) : Prop := ∃ cl : Cell, Arr Z h a cl (.object Cl) ∧ cl.slots = vs.toArray ∧ Ovr Z cl.cls Cl
theorem ArR.lt (A : ArR Z h a Cl vs) : a < h.size := by obtain ⟨_, A, -⟩ := A; exact A.lt
theorem ArR.ext (A : ArR Z h a Cl vs) (E : Ext h h') : ArR Z h' a Cl vs := by obtain ⟨cl, A, q⟩ := A; exact ⟨cl, A.ext E, q⟩
theorem ArR.keep (A : ArR Z h a Cl vs) (K : Keep h h' ws) (q : a ∉ ws) : ArR Z h' a Cl vs := by obtain ⟨cl, A, r⟩ := A; exact ⟨cl, ⟨K.2.1 a cl A.1 q, A.2⟩, r⟩
theorem ArR.other (A : ArR Z h a Cl vs) (W : Wr h h' b sl w) (q : a ≠ b) : ArR Z h' a Cl vs := by obtain ⟨cl, A, r⟩ := A; exact ⟨cl, A.other W q, r⟩
theorem ArR.set (A : ArR Z h a Cl vs) (W : Wr h h' a sl w) : ArR Z h' a Cl (vs.set sl w) := by
  obtain ⟨cl, A, r, q⟩ := A; exact ⟨_, A.same W, set_slots r _ _, q⟩
theorem ArR.new {cA : ClassId} {z : Int32} (A : Arr Z h a (newA cA (.object Cl) z) (.object Cl)) (O : Ovr Z cA Cl) : ArR Z h a Cl (List.replicate z.toNatClampNeg .null) := ⟨_, A, by simp [newA, defaultValue], O⟩
theorem ArR.sto (A : ArR Z h a Cl vs) {y : Addr} (E : Exa Z h y Cl) : Sto Z h a (.ref y) := by
  obtain ⟨cl, A, -, q⟩ := A; exact Sto.ofV A rfl q (Ins.self E)
theorem Keep.app (K : Keep h h' ws) {h2 : Heap} {ws2 ws3 : List Addr} (K' : Keep h' h2 ws2) (q1 : ∀ x ∈ ws, x ∈ ws3 ∨ h.size ≤ x) (q : ∀ x ∈ ws2, x ∈ ws3 ∨ h.size ≤ x) : Keep h h2 ws3 := by
  refine Keep.trans (ws := ws3) ⟨K.1, fun x c r z => ?_, K.2.2⟩ K' q
  refine K.2.1 x c r fun y => ?_
  rcases q1 x y with u | u
  · exact z u
  · exact absurd (Array.getElem?_eq_some_iff.mp r).1 (Nat.not_lt.mpr u)
end Facts
section Rules2
variable {p : Program} {l : Launch} {e : Env} {R : Room} {s : State} {m : MethodId} {args : Array Value} {below : List Frame} {meth : Method} {c : Code} {n0 : Nat} {EE : Option Value → State → List Loc → Prop} {Q : Option Value → Heap → Prop} {h : Heap} {cells slots : Nat}
variable {Z : State} {own nm : String} {bytes : ByteArray} {ml : Nat} {rt : Option FieldType} {a0 : Array Value}
theorem wA_iaload (C : Cx p s m meth c Z own bytes ml rt nm) {pc pc' : Nat} {Ls : Array Slot} {st : List Value} {a : Addr} {vs : List Value} {j : Int32} {v : Value} (hd : decode bytes pc = .ok (.iaload, 1)) (hp : pc + 1 = pc') (A : Ar Z h a .int vs) (hj : ¬ j < 0) (hv : vs[j.toNatClampNeg]? = some v)
    (K : Wp p l e R s m args below meth c n0 EE Q h cells slots (mkF m pc' Ls (v :: st))) : Wp p l e R s m args below meth c n0 EE Q h cells slots (mkF m pc Ls (.int j :: .ref a :: st)) := by
  obtain ⟨cl, A, r⟩ := A
  exact w_iaload C hd hp A (Ar.nin r hj (List.getElem?_eq_some_iff.mp hv).1) (Ar.at r hv) K
theorem wA_laload (C : Cx p s m meth c Z own bytes ml rt nm) {pc pc' : Nat} {Ls : Array Slot} {st : List Value} {a : Addr} {vs : List Value} {j : Int32} {v : Value} (hd : decode bytes pc = .ok (.laload, 1)) (hp : pc + 1 = pc') (A : Ar Z h a .long vs) (hj : ¬ j < 0) (hv : vs[j.toNatClampNeg]? = some v)
    (K : Wp p l e R s m args below meth c n0 EE Q h cells slots (mkF m pc' Ls (v :: st))) : Wp p l e R s m args below meth c n0 EE Q h cells slots (mkF m pc Ls (.int j :: .ref a :: st)) := by
  obtain ⟨cl, A, r⟩ := A
  exact w_laload C hd hp A (Ar.nin r hj (List.getElem?_eq_some_iff.mp hv).1) (Ar.at r hv) K
theorem wA_caload (C : Cx p s m meth c Z own bytes ml rt nm) {pc pc' : Nat} {Ls : Array Slot} {st : List Value} {a : Addr} {vs : List Value} {j : Int32} {v : Value} (hd : decode bytes pc = .ok (.caload, 1)) (hp : pc + 1 = pc') (A : Ar Z h a .char vs) (hj : ¬ j < 0) (hv : vs[j.toNatClampNeg]? = some v)
    (K : Wp p l e R s m args below meth c n0 EE Q h cells slots (mkF m pc' Ls (v :: st))) : Wp p l e R s m args below meth c n0 EE Q h cells slots (mkF m pc Ls (.int j :: .ref a :: st)) := by
  obtain ⟨cl, A, r⟩ := A
  exact w_caload C hd hp A (Ar.nin r hj (List.getElem?_eq_some_iff.mp hv).1) (Ar.at r hv) K
theorem wA_baload (C : Cx p s m meth c Z own bytes ml rt nm) {pc pc' : Nat} {Ls : Array Slot} {st : List Value} {a : Addr} {vs : List Value} {j : Int32} {v : Value} (hd : decode bytes pc = .ok (.baload, 1)) (hp : pc + 1 = pc') (A : Ar Z h a .byte vs) (hj : ¬ j < 0) (hv : vs[j.toNatClampNeg]? = some v)
    (K : Wp p l e R s m args below meth c n0 EE Q h cells slots (mkF m pc' Ls (v :: st))) : Wp p l e R s m args below meth c n0 EE Q h cells slots (mkF m pc Ls (.int j :: .ref a :: st)) := by
  obtain ⟨cl, A, r⟩ := A
  exact w_baload C hd hp A (Ar.nin r hj (List.getElem?_eq_some_iff.mp hv).1) (Ar.at r hv) K
theorem wA_aaload (C : Cx p s m meth c Z own bytes ml rt nm) {pc pc' : Nat} {Ls : Array Slot} {st : List Value} {a : Addr} {Cl : String} {vs : List Value} {j : Int32} {v : Value} (hd : decode bytes pc = .ok (.aaload, 1)) (hp : pc + 1 = pc') (A : ArR Z h a Cl vs) (hj : ¬ j < 0) (hv : vs[j.toNatClampNeg]? = some v)
    (K : Wp p l e R s m args below meth c n0 EE Q h cells slots (mkF m pc' Ls (v :: st))) : Wp p l e R s m args below meth c n0 EE Q h cells slots (mkF m pc Ls (.int j :: .ref a :: st)) := by
  obtain ⟨cl, A, r, -⟩ := A
  exact w_aaload C hd hp A rfl (Ar.nin r hj (List.getElem?_eq_some_iff.mp hv).1) (Ar.at r hv) K
theorem wA_iastore (C : Cx p s m meth c Z own bytes ml rt nm) {pc pc' : Nat} {Ls : Array Slot} {st : List Value} {a : Addr} {vs : List Value} {j : Int32} {x : Int32} (hd : decode bytes pc = .ok (.iastore, 1)) (hp : pc + 1 = pc') (g0 : n0 ≤ a) (A : Ar Z h a .int vs) (hj : ¬ j < 0) (hl : j.toNatClampNeg < vs.length)
    (K : ∀ h', Wr h h' a j.toNatClampNeg (.int x) → Ar Z h' a .int (vs.set j.toNatClampNeg (.int x)) → Wp p l e R s m args below meth c n0 EE Q h' cells slots (mkF m pc' Ls st)) : Wp p l e R s m args below meth c n0 EE Q h cells slots (mkF m pc Ls (.int x :: .int j :: .ref a :: st)) := by
  have A' := A
  obtain ⟨cl, A, r⟩ := A
  exact w_iastore C hd hp g0 A (Ar.nin r hj hl) (fun h' W => K h' W (A'.set W))
theorem wA_lastore (C : Cx p s m meth c Z own bytes ml rt nm) {pc pc' : Nat} {Ls : Array Slot} {st : List Value} {a : Addr} {vs : List Value} {j : Int32} {x : Int64} (hd : decode bytes pc = .ok (.lastore, 1)) (hp : pc + 1 = pc') (g0 : n0 ≤ a) (A : Ar Z h a .long vs) (hj : ¬ j < 0) (hl : j.toNatClampNeg < vs.length)
    (K : ∀ h', Wr h h' a j.toNatClampNeg (.long x) → Ar Z h' a .long (vs.set j.toNatClampNeg (.long x)) → Wp p l e R s m args below meth c n0 EE Q h' cells slots (mkF m pc' Ls st)) : Wp p l e R s m args below meth c n0 EE Q h cells slots (mkF m pc Ls (.long x :: .int j :: .ref a :: st)) := by
  have A' := A
  obtain ⟨cl, A, r⟩ := A
  exact w_lastore C hd hp g0 A (Ar.nin r hj hl) (fun h' W => K h' W (A'.set W))
theorem wA_castore (C : Cx p s m meth c Z own bytes ml rt nm) {pc pc' : Nat} {Ls : Array Slot} {st : List Value} {a : Addr} {vs : List Value} {j : Int32} {x : Int32} (hd : decode bytes pc = .ok (.castore, 1)) (hp : pc + 1 = pc') (g0 : n0 ≤ a) (A : Ar Z h a .char vs) (hj : ¬ j < 0) (hl : j.toNatClampNeg < vs.length)
    (K : ∀ h', Wr h h' a j.toNatClampNeg (.int (toCh x)) → Ar Z h' a .char (vs.set j.toNatClampNeg (.int (toCh x))) → Wp p l e R s m args below meth c n0 EE Q h' cells slots (mkF m pc' Ls st)) : Wp p l e R s m args below meth c n0 EE Q h cells slots (mkF m pc Ls (.int x :: .int j :: .ref a :: st)) := by
  have A' := A
  obtain ⟨cl, A, r⟩ := A
  exact w_castore C hd hp g0 A (Ar.nin r hj hl) (fun h' W => K h' W (A'.set W))
theorem wA_aastore (C : Cx p s m meth c Z own bytes ml rt nm) {pc pc' : Nat} {Ls : Array Slot} {st : List Value} {a : Addr} {Cl : String} {vs : List Value} {j : Int32} {v : Value} (hd : decode bytes pc = .ok (.aastore, 1)) (hp : pc + 1 = pc') (g0 : n0 ≤ a) (A : ArR Z h a Cl vs) (hj : ¬ j < 0) (hl : j.toNatClampNeg < vs.length) (F : Sto Z h a v)
    (K : ∀ h', Wr h h' a j.toNatClampNeg v → ArR Z h' a Cl (vs.set j.toNatClampNeg v) → Wp p l e R s m args below meth c n0 EE Q h' cells slots (mkF m pc' Ls st)) : Wp p l e R s m args below meth c n0 EE Q h cells slots (mkF m pc Ls (v :: .int j :: .ref a :: st)) := by
  have A' := A
  obtain ⟨cl, A, r, -⟩ := A
  exact w_aastore C hd hp g0 A (Ar.nin r hj hl) rfl F (fun h' W => K h' W (A'.set W))
theorem wA_alen (C : Cx p s m meth c Z own bytes ml rt nm) {pc pc' : Nat} {Ls : Array Slot} {st : List Value} {a : Addr} {ty : FieldType} {vs : List Value} {n : Int32} (hd : decode bytes pc = .ok (.arraylength, 1)) (hp : pc + 1 = pc') (A : Ar Z h a ty vs) (hn : vs.length.toInt32 = n)
    (K : Wp p l e R s m args below meth c n0 EE Q h cells slots (mkF m pc' Ls (.int n :: st))) : Wp p l e R s m args below meth c n0 EE Q h cells slots (mkF m pc Ls (.ref a :: st)) := by
  obtain ⟨cl, A, r⟩ := A
  exact w_alen C hd hp A (by rw [r]; simpa using hn) K
theorem wA_alenR (C : Cx p s m meth c Z own bytes ml rt nm) {pc pc' : Nat} {Ls : Array Slot} {st : List Value} {a : Addr} {Cl : String} {vs : List Value} {n : Int32} (hd : decode bytes pc = .ok (.arraylength, 1)) (hp : pc + 1 = pc') (A : ArR Z h a Cl vs) (hn : vs.length.toInt32 = n)
    (K : Wp p l e R s m args below meth c n0 EE Q h cells slots (mkF m pc' Ls (.int n :: st))) : Wp p l e R s m args below meth c n0 EE Q h cells slots (mkF m pc Ls (.ref a :: st)) := by
  obtain ⟨cl, A, r, -⟩ := A
  exact w_alen C hd hp A (by rw [r]; simpa using hn) K
theorem wA_newP (C : Cx p s m meth c Z own bytes ml rt nm) {pc pc' ce' sl' : Nat} {Ls : Array Slot} {st : List Value} {aty : ArrayType} {n : Int32} {cap : Nat} (w : (Jvm.Cond.arrayClass (newarray.typeOf aty)).before a0 Z = true) (hd : decode bytes pc = .ok (.newarray aty, 2)) (hp : pc + 2 = pc') (hn : ¬ n < 0) (hcap : n.toNatClampNeg ≤ cap) (hbig : cap * 8 ≤ 536870912) (hc1 : cells + 1 = ce') (hl1 : slots + cap = sl') (hc : ce' ≤ R.cells) (hl : sl' ≤ R.slots)
    (K : ∀ h' a, a = h.size → Ext h h' → Ar Z h' a (newarray.typeOf aty) (List.replicate n.toNatClampNeg (defaultValue (newarray.typeOf aty))) → Wp p l e R s m args below meth c n0 EE Q h' ce' sl' (mkF m pc' Ls (.ref a :: st))) : Wp p l e R s m args below meth c n0 EE Q h cells slots (mkF m pc Ls (.int n :: st)) :=
  w_newP C w hd hp hn hcap hbig hc1 hl1 hc hl (fun h' a cA e E A => K h' a e E (Ar.new A))
theorem wA_newR (C : Cx p s m meth c Z own bytes ml rt nm) {pc pc' ce' sl' : Nat} {Ls : Array Slot} {st : List Value} {Cl : String} {i : Nat} {n : Int32} {cap : Nat} (w1 : (Jvm.Cond.classLink own i Cl).before a0 Z = true) (w2 : (Jvm.Cond.arrayOver (.object Cl)).before a0 Z = true) (hd : decode bytes pc = .ok (.anewarray i, 3)) (hp : pc + 3 = pc') (hn : ¬ n < 0) (hcap : n.toNatClampNeg ≤ cap) (hbig : cap * 8 ≤ 536870912) (hc1 : cells + 1 = ce') (hl1 : slots + cap = sl') (hc : ce' ≤ R.cells) (hl : sl' ≤ R.slots)
    (K : ∀ h' a, a = h.size → Ext h h' → ArR Z h' a Cl (List.replicate n.toNatClampNeg .null) → Wp p l e R s m args below meth c n0 EE Q h' ce' sl' (mkF m pc' Ls (.ref a :: st))) : Wp p l e R s m args below meth c n0 EE Q h cells slots (mkF m pc Ls (.int n :: st)) :=
  w_newR C w1 w2 hd hp hn hcap hbig hc1 hl1 hc hl (fun h' a cA e E A O => K h' a e E (ArR.new A O))
end Rules2
theorem cmpJ_gt (x y : Int64) : (0 < cmpJ x y) = (y < x) := propext (lw_gt x y)
theorem cmpJ_lt (x y : Int64) : (cmpJ x y < 0) = (x < y) := propext (lw_lt x y)
theorem cmpJ_eq (x y : Int64) : (cmpJ x y = 0) = (x = y) := propext (lw_eq x y)
theorem toCh_rng (x : Int32) : 0 ≤ (toCh x).toInt ∧ (toCh x).toInt < 65536 := ⟨(c_i2c x).2.1, (c_i2c x).2.2⟩
theorem toCh_mod (x : Int32) : ((toCh x).toInt - x.toInt) % 65536 = 0 := (c_i2c x).1
theorem toCh_id {x : Int32} (h0 : 0 ≤ x.toInt) (h1 : x.toInt < 65536) : toCh x = x := by
  apply Int32.toInt_inj.mp
  have := toCh_rng x; have := toCh_mod x
  omega
/-- an int in 0 .. n-1 is one of the n numbers -/
theorem small_int {n : Nat} {x : Int32} (h0 : 0 ≤ x.toInt) (h1 : x.toInt < n) : ∃ k : Fin n, x = Int32.ofInt (k.1 : Int) := by
  refine ⟨⟨x.toInt.toNat, by omega⟩, ?_⟩
  show x = Int32.ofInt ((x.toInt.toNat : Nat) : Int)
  rw [Int.toNat_of_nonneg h0, Int32.ofInt_toInt]
/-! walks that load String constants -/
def CtH (l : Launch) (Z : State) (EL : List (String × Nat)) (M : Nat) (y : MethodName) (bytes : ByteArray) (maxL : Nat) (ret : Option FieldType) (ws : List Jvm.Cond) (rm : Room) (cM sM Bm : Nat) (as' : Array Value) (h : Heap) (n0 : Nat) (Q : Option Value → Heap → Prop) : Prop :=
  MetFree l y (head1 (Jvm.Cond.code y bytes maxL ret :: ws) rm) (fun a U => a = as' ∧ Z.Warmed39 U.vm ∧ U.heap = h ∧ CHv Z EL U.vm h) (fun _ _ _ _ _ => True)
    (fun _ U o U' => ∃ v L, o = .returned v ∧ (Q v U'.heap ∧ Fr n0 L) ∧ EH Z EL M U cM sM Bm v U' L)
theorem CtH.of {l : Launch} {Z : State} {EL : List (String × Nat)} {M : Nat} {y : MethodName} {bytes : ByteArray} {maxL : Nat} {ret : Option FieldType} {ws : List Jvm.Cond} {rm : Room} {cM sM Bm : Nat} {as' : Array Value} {h : Heap} {n0 : Nat} {Q : Option Value → Heap → Prop} {Ls : Array Slot}
    (hpl : plainFor y = true) (ef : ∀ m, entryFrame m as' maxL = mkF m 0 Ls [])
    (H : ∀ p e s m below meth c vm0 k0 u, Cx p (s.setVm vm0) m meth c Z y.cls bytes maxL ret y.name → s.Since vm0 k0 → k0 ≤ h.size → CHr Z EL s.vm s.heap vm0 h → u + NR EL s ≤ NR EL (s.setVm vm0) → u ≤ 0 → Wp p l e rm (s.setVm vm0) m as' below meth c n0 (EH Z EL M s cM sM Bm) Q h (0 + 2 * u) (0 + M * u) (mkF m 0 Ls [])) :
    CtH l Z EL M y bytes maxL ret ws rm cM sM Bm as' h n0 Q := by
  refine MetFree.of_bodySF hpl hisR ?_
  intro p e s m args below meth c s₁ Bd hml0 hP hK
  obtain ⟨rfl, hZ, hh, hC⟩ := hP
  have C : Cx p (s.setVm s.vm) m meth c Z y.cls bytes maxL ret y.name := ⟨Bd.exec, Bd.bytes, hZ, findClass_of_methodNamed Bd.named, hml0, Bd.returns, (name_of_methodNamed Bd.named Bd.method).1, Bd.notSynchronized⟩
  have X := Stand.of_body Bd
  obtain ⟨s₂, v, L, a1, a2, a3, a4, a5⟩ := H p e s m below meth c s.vm 0 0 C ((State.WarmedH.refl s).since 0) (Nat.zero_le _) (by rw [hh]; exact CHr.refl hC) (by rw [Nat.zero_add]; exact Nat.le_of_eq (NR_vm EL rfl)) (Nat.le_refl _) s₁ [] (X.more (Nat.zero_le _) (Nat.zero_le _)) (by rw [← hh, Bd.state]; rfl) (Fr.nil n0)
  exact ⟨s₂, .returned v, castTop (ef m) a1, a2, a3, v, L, rfl, a4, a5⟩
/-- a String whose signs are Latin-1: its class, its coder, its bytes -/
def Str (Z : State) (h : Heap) (a b : Addr) (vs : List Value) : Prop := Exa Z h a "java/lang/String" ∧ Fld Z h a "java/lang/String" "coder" "B" (.int 0) ∧ Fld Z h a "java/lang/String" "value" "[B" (.ref b) ∧ Ar Z h b .byte vs
section RulesH
variable {p : Program} {l : Launch} {e : Env} {R : Room} {s : State} {m : MethodId} {args : Array Value} {below : List Frame} {meth : Method} {c : Code} {n0 : Nat} {EE : Option Value → State → List Loc → Prop} {Q : Option Value → Heap → Prop} {h : Heap}
variable {Z : State} {own nm : String} {bytes : ByteArray} {ml : Nat} {rt : Option FieldType} {a0 : Array Value} {EL : List (String × Nat)} {M : Nat} {vm0 : Vm} {k0 a b B : Nat}
theorem arv_ar {k : ClassId} {ty : FieldType} {z : Int32} {vs : List Value} {dv : Value} {x : Addr} (A : Arv Z h x k ty z vs dv) (hl : z.toNatClampNeg = vs.length) : Ar Z h x ty vs := by
  obtain ⟨cl, A1, -, h2, -, h4, -⟩ := A
  refine ⟨cl, A1, ?_⟩
  apply Array.ext_getElem?
  intro i
  by_cases g : i < cl.slots.size
  · rw [h4 i g]
    have : i < vs.length := by omega
    simp [this]
  · rw [Array.getElem?_eq_none (by omega), Array.getElem?_eq_none (by simp; omega)]
theorem exa_back {W : State} (hal : Z.vm.Alike W.vm) {x : Addr} {Cl : String} (E : Exa W h x Cl) : Exa Z h x Cl := by
  obtain ⟨cell, k, h1, h2, h3, h4, h5⟩ := E
  have f : Z.vm.findClass Cl = some cell.cls := by rw [← hal.findClass]; exact h2
  obtain ⟨kz, hkz, -⟩ := Vm.findClass_spec f
  obtain ⟨k', hk', ek⟩ := hal.2.2 _ _ hkz
  cases hk'.symm.trans h3
  exact ⟨cell, kz, h1, f, hkz, h4, fun ho => by have := h5 (by rw [ek]; exact ho); rw [this, ek]⟩
theorem fld_back {W : State} (hal : Z.vm.Alike W.vm) {x : Addr} {Cl n d : String} {v : Value} (F : Fld W h x Cl n d v) : Fld Z h x Cl n d v := by
  obtain ⟨cell, cf, k, i, f, h1, h2, h3, h4, h5, h6, h7⟩ := F
  obtain ⟨k', q⟩ := ff_back hal h2
  exact ⟨cell, cf, k', i, f, h1, q, h3, h4, h5, by rw [← hal.assignable]; exact h6, h7⟩
theorem arr_back {W : State} (hal : Z.vm.Alike W.vm) {x : Addr} {cl : Cell} {ty : FieldType} (A : Arr W h x cl ty) : Arr Z h x cl ty := by
  obtain ⟨h1, ⟨h2, k, h3, comp, h4⟩, h5⟩ := A
  have lt : cl.cls < Z.vm.classes.size := by rw [← hal.2.1]; exact (Array.getElem?_eq_some_iff.mp h3).1
  obtain ⟨k', hk', ek⟩ := hal.2.2 _ _ (Array.getElem?_eq_getElem lt)
  cases hk'.symm.trans h3
  exact ⟨h1, ⟨h2, _, Array.getElem?_eq_getElem lt, comp, by rw [ek] at h4; exact h4⟩, h5⟩
/-- the String that an entry of EL is resolved to says the entry's text -/
theorem str_of {text : String} {i : Nat} {x : Addr} {vs : List Value} (hZ : Z.Warmed39 vm0) (hown : vm0.findClass own = some m.cls) (w : (Jvm.Cond.stringLink own i text).before a0 Z = true) (hmem : (own, i) ∈ EL) (H : CHv Z EL vm0 h) (L : Lit (s.setVm vm0) own i x)
    (ht : (∀ c ∈ text.toList, c.toNat < 256) ∧ text.toList.map (fun c => Value.int (Jvm.Lit.byteI c.toNat.toUInt16)) = vs) : ∃ y, Str Z h x y vs ∧ ∀ z, Safe Z EL vm0 h z → z ≠ x ∧ z ≠ y := by
  obtain ⟨k, cf, j, units, hk, hcf, hp, hu, -, htext, -⟩ := Cond.stringLink_spec (args := a0) (s := Wst Z vm0 h) hown (mvS (s := { Z with heap := h }) hZ w)
  have hres : k.resolved[i]? = some (some (.string x)) := by
    have q : (s.setVm vm0).resolvedAt? own i = some (.string x) := L
    have hk' : vm0.classes[m.cls]? = some k := hk
    simp only [State.resolvedAt?, State.vm_setVm, hown, hk', Option.bind_eq_bind, Option.bind_some] at q
    exact Option.join_eq_some_iff.mp q
  have hb : Booksv vm0 own i units x := ⟨m.cls, k, cf, j, hown, hk, hcf, hp, hu, Or.inl hres⟩
  obtain ⟨q, rfl, F⟩ := SlB.of (H _ hmem units x hb)
  have hal : Z.vm.Alike (Wst Z vm0 h).vm := hZ.alike
  have F0 := F
  obtain ⟨cS, ⟨⟨s1, s2, s3, ⟨cv, kv, iv, s4, s4'⟩, ⟨cc, kc, ic, s5, s5'⟩, s6, s7, s8, s9, s10, s11, s12, -, -, -, -⟩, hfS, hcS⟩, ⟨kS, k1, k2, k3⟩, hB, hbyt⟩ := F
  refine ⟨q.sd, ⟨exa_back hal ⟨q.sC, kS, s1, by rw [hcS]; exact hfS, by rw [hcS]; exact k1, s3, fun _ => k3⟩, fld_back hal ⟨q.sC, cc, kc, ic, q.fSC, s1, s5, s7, s2, s3, s5', s9⟩, fld_back hal ⟨q.sC, cv, kv, iv, q.fSV, s1, s4, s6, s2, s3, s4', s8⟩, q.SA, arr_back hal ⟨s10, s11, s12⟩, ?_⟩,
    fun z S => ⟨fun e => S ⟨_, hmem, units, q.sa, hb, q, rfl, F0, Or.inl e⟩, fun e => S ⟨_, hmem, units, q.sa, hb, q, rfl, F0, Or.inr e⟩⟩⟩
  rw [hbyt, SBG.stringBytes_lat (Jvm.ClassFile.lat_of_text htext ht.1), ← ht.2]
  apply Array.ext'
  rw [Array.toList_map, Jvm.ClassFile.units_of_text htext ht.1, List.map_map]
  rfl
/-- ldc of a String constant -/
theorem w_ldcH (C : Cx p (s.setVm vm0) m meth c Z own bytes ml rt nm) {pc pc' : Nat} {Ls : Array Slot} {st : List Value} {text : String} {i : Nat} {vs : List Value} {z : Int32} {u : Nat} (w : (Jvm.Cond.stringLink own i text).before a0 Z = true) (wS : ∀ a ∈ Bundle.stringAtoms, a.before a0 Z = true) (hd : decode bytes pc = .ok (.ldc i, 2)) (hp : pc + 2 = pc')
    (HS : s.Since vm0 k0) (HK : k0 ≤ h.size) (hEL : EW Z a0 EL) (hmem : (own, i) ∈ EL) (HC : CHr Z EL s.vm s.heap vm0 h) (HU : u + NR EL s ≤ NR EL (s.setVm vm0)) (HB : u ≤ B)
    (ht : (∀ c ∈ text.toList, c.toNat < 256) ∧ text.toList.map (fun c => Value.int (Jvm.Lit.byteI c.toNat.toUInt16)) = vs) (hz : ¬ z < 0) (hl : z.toNatClampNeg = vs.length) (hn : 4 * text.toList.length + 4 ≤ M) (hbig : M ≤ 536870912) (hc : a + 2 * B + 2 ≤ R.cells) (hs : b + M * B + M ≤ R.slots)
    (K : ∀ vm1 k1 h' x y u', Cx p (s.setVm vm1) m meth c Z own bytes ml rt nm → s.Since vm1 k1 → k1 ≤ h'.size → CHr Z EL s.vm s.heap vm1 h' → u' + NR EL s ≤ NR EL (s.setVm vm1) → u' ≤ B + 1 → Ext h h' → Str Z h' x y vs → (∀ z, Safe Z EL vm1 h' z → z ≠ x ∧ z ≠ y) → Wp p l e R (s.setVm vm1) m args below meth c n0 EE Q h' (a + 2 * u') (b + M * u') (mkF m pc' Ls (.ref x :: st))) :
    Wp p l e R (s.setVm vm0) m args below meth c n0 EE Q h (a + 2 * u) (b + M * u) (mkF m pc Ls st) := by
  subst hp
  intro T locs X e0 N
  have hZ : Z.Warmed39 vm0 := C.2.2.1
  have hown : vm0.findClass own = some m.cls := C.2.2.2.1
  have mB := Nat.mul_le_mul_left M HB
  by_cases r : resB (s.setVm vm0) (own, i) = true
  · obtain ⟨x, L⟩ := resB_ex r
    obtain ⟨y, S, ns⟩ := str_of hZ hown w hmem HC.1 L ht
    obtain ⟨s2, v, L2, q, rest⟩ := K vm0 k0 h x y u C HS HK HC HU (Nat.le_succ_of_le HB) ⟨Nat.le_refl _, fun _ _ q => q⟩ S ns T locs X e0 N
    exact ⟨s2, v, L2, ldcAgain X C.1 hZ hown w L (g := mkF m pc Ls st) rfl (hb C.2.1 hd) _ q, rest⟩
  · obtain ⟨x, T', h', k1, y, kk, X', eh, E, hS', hk1, hW, hf, x1, x2, x3, x4, -, -, hC, hL, ns, st'⟩ := ldcCH (s := s.setVm vm0) (vm0 := vm0) X C.1 hZ hown w wS e0 ((State.WarmedH.refl (s.setVm vm0)).since 0) (Nat.zero_le _) hEL hmem HC.1 ht hz hl (g := mkF m pc Ls st) rfl (hb C.2.1 hd) (n := M - 4) (by omega) (by omega) (by omega) (by omega)
    have n1 : NR EL (s.setVm vm0) + 1 ≤ NR EL (s.setVm T'.vm) := NR_lt hS'.1 hmem r (resB_lit (p := (own, i)) hL)
    have HS2 : s.Since T'.vm (max k0 k1) := HS.trans ⟨hS'.1, hS'.2.mono (Nat.le_max_right _ _)⟩ (Nat.le_max_left _ _)
    have C2 : Cx p (s.setVm T'.vm) m meth c Z own bytes ml rt nm := ⟨C.1, C.2.1, hW, hf, C.2.2.2.2⟩
    obtain ⟨s2, v, L2, q, rest⟩ := K T'.vm (max k0 k1) h' x y (u + 1) C2 HS2 (Nat.max_le.mpr ⟨Nat.le_trans HK E.1, hk1⟩) (HC.trans hC) (by omega) (Nat.succ_le_succ HB) E ⟨x1, x2, x3, arv_ar x4 hl⟩ ns T' locs (X'.more (by omega) (by rw [Nat.mul_add, Nat.mul_one]; omega)) eh N
    exact ⟨s2, v, L2, st' _ q, rest⟩
theorem backH {y : MethodName} {cb : ByteArray} {maxL : Nat} {ret : Option FieldType} {rm : Room} {cM sM Bm len W : Nat} {as' : Array Value} {Q' : Option Value → Heap → Prop}
    (hM : CtH l Z EL M y cb maxL ret [] rm cM sM Bm as' h n0 Q') (hZ : Z.Warmed39 vm0) (wc : (Jvm.Cond.code y cb maxL ret).before a0 Z = true) (wz : (Jvm.Cond.initialized y.cls).before a0 Z = true) (hf : rm.frames + 1 ≤ R.frames) (hl : W + (maxL + 11) + rm.locals ≤ R.locals) (hEL : EW Z a0 EL) (H : CHv Z EL vm0 h) :
    BackS l R p e below (s.setVm vm0) args y len W (fun A a => a = as' ∧ A.U.heap = h ∧ A.cells + rm.cells ≤ R.cells ∧ A.slots + rm.slots ≤ R.slots)
      (fun A _ v B => ∃ L w, (Q' v B.U.heap ∧ Fr n0 L) ∧ B.locs = A.locs ++ L ∧ B.cells = A.cells + (cM + 2 * w) ∧ B.slots = A.slots + (sM + M * w) ∧ CHr Z EL vm0 h B.U.vm B.U.heap ∧ w + NR EL (s.setVm vm0) ≤ NR EL (s.setVm B.U.vm) ∧ w ≤ Bm) :=
  BackS.of_freeW (bytes := cb) (maxL := maxL) (ret := ret) (E := fun _ first o t L k n => ∃ v w, o = .returned v ∧ k = cM + 2 * w ∧ n = sM + M * w ∧ (Q' v t.heap ∧ Fr n0 L) ∧ CHr Z EL first.vm first.heap t.vm t.heap ∧ w + NR EL first ≤ NR EL t ∧ w ≤ Bm) hM hf hl
    (fun m meth c A a Y hp => have hU : Z.Warmed39 A.U.vm := wtrans (s := s.setVm vm0) hZ Y.warmed
      ⟨by show (Cond.and _ .tt).before a A.U = true; rw [Cond.before_and, mv hU wc]; rfl, mv hU wc, mv hU wz, hp.2.2.1, hp.2.2.2⟩)
    (fun m meth c A a g mk Y hp => ⟨hp.1, wtrans (s := s.setVm vm0) hZ Y.warmed, hp.2.1, (CHv.at Y hZ hEL H).1⟩) (fun _ _ _ _ _ _ _ _ _ => trivial)
    (fun _ _ _ _ ⟨v, L, h1, h2, h3, w, h4, h5, h6⟩ => ⟨L, _, _, h1 ▸ h6, v, w, h1, rfl, rfl, h2, h3, h4, h5⟩)
    (fun m meth c A a g mk v t L k n Y hp _ _ ⟨v', w, e1, e2, e3, e4, e5, e6, e7⟩ => by
      cases e1; subst e2 e3
      refine ⟨L, w, e4, rfl, rfl, rfl, (CHv.at Y hZ hEL H).trans (by rw [← hp.2.1]; exact e5), ?_, e7⟩
      have n1 : NR EL (s.setVm vm0) ≤ NR EL (A.U.calling g mk a) := Nat.le_trans (NR_mono EL Y.warmed.wide) (Nat.le_of_eq (NR_vm EL rfl))
      exact Nat.le_trans (Nat.add_le_add_left n1 w) (Nat.le_trans e6 (Nat.le_of_eq (NR_vm EL rfl))))
theorem w_callSH (C : Cx p (s.setVm vm0) m meth c Z own bytes ml rt nm) {pc pc' : Nat} {Ls : Array Slot} {stk st : List Value} {i : Nat} {y : MethodName} {cb : ByteArray} {cml : Nat} {cret : Option FieldType} {crm : Room} {argsL : List Value} {Q' : Option Value → Heap → Prop} {W u cM sM Bm : Nat} (w1 : (Jvm.Cond.methodLink own i y).before a0 Z = true) (w2 : (Jvm.Cond.static y).before a0 Z = true) (w3 : (Jvm.Cond.initialized y.cls).before a0 Z = true) (w4 : (Jvm.Cond.code y cb cml cret).before a0 Z = true) (hy : y.cls ≠ "java/lang/invoke/MethodHandle" ∧ y.cls ≠ "java/lang/invoke/VarHandle")
    (hd : decode bytes pc = .ok (.invokestatic i, 3)) (hp : pc + 3 = pc') (hst : stk = argsL.reverse ++ st) (hfr : crm.frames + 1 ≤ R.frames) (hlo : W + (cml + 11) + crm.locals ≤ R.locals) (hW : (st.map fun v => v.category).sum ≤ W) (hce : a + 2 * B + crm.cells ≤ R.cells) (hsl : b + M * B + crm.slots ≤ R.slots) (hsz : Ls.size = ml) (hlen : ∀ sig, parseMethodDescriptor y.desc = some sig → argsL.length = sig.parameters.length)
    (HS : s.Since vm0 k0) (HK : k0 ≤ h.size) (hEL : EW Z a0 EL) (HC : CHr Z EL s.vm s.heap vm0 h) (HU : u + NR EL s ≤ NR EL (s.setVm vm0)) (HB : u ≤ B) (ct : CtH l Z EL M y cb cml cret [] crm cM sM Bm argsL.toArray h n0 Q')
    (K : ∀ vm1 k1 v h' u', Cx p (s.setVm vm1) m meth c Z own bytes ml rt nm → s.Since vm1 k1 → k1 ≤ h'.size → CHr Z EL s.vm s.heap vm1 h' → CHr Z EL vm0 h vm1 h' → u' + NR EL s ≤ NR EL (s.setVm vm1) → u' ≤ B + Bm → Q' v h' → Wp p l e R (s.setVm vm1) m args below meth c n0 EE Q h' (a + cM + 2 * u') (b + sM + M * u') (mkF m pc' Ls (v.toList ++ st))) :
    Wp p l e R (s.setVm vm0) m args below meth c n0 EE Q h (a + 2 * u) (b + M * u) (mkF m pc Ls stk) := by
  subst hp
  intro T locs X e0 N
  have mB := Nat.mul_le_mul_left M HB
  obtain ⟨v, _, ⟨T', L', k', n'⟩, -, X', hS2, hgr, ⟨Lc, w, hq, l1, l2, l3, hC2, hN, hw⟩, st'⟩ := callSS X C.1 (y := y) C.2.2.2.1 (mvT C.2.2.1 w1) (mvT C.2.2.1 w2) (mvT C.2.2.1 w3) (mvT C.2.2.1 w4) hy (backH (W := W) ct C.2.2.1 w4 w3 hfr hlo hEL HC.1) (g := mkF m pc Ls stk) rfl (hsz.trans C.2.2.2.2.1.symm) (argsL := argsL) (rest := st) hlen hst (by show 2 * 0 + _ ≤ _; rw [Nat.mul_zero, Nat.zero_add]; exact hW) (hb C.2.1 hd) (fun _ _ => ⟨rfl, e0, by show (a + 2 * u) + crm.cells ≤ R.cells; omega, by show (b + M * u) + crm.slots ≤ R.slots; omega⟩)
  dsimp only [Pt.U, Pt.locs, Pt.cells, Pt.slots] at X' l1 l2 l3 st' hq hS2 hgr hC2 hN
  subst l1 l2 l3
  have hgr' : h.size ≤ T'.heap.size := by rw [← e0]; exact hgr
  have C2 : Cx p (s.setVm T'.vm) m meth c Z own bytes ml rt nm := ⟨C.1, C.2.1, State.Warmed39.trans (t := s.setVm vm0) C.2.2.1 hS2.1, (hS2.1.alike.findClass _ _).trans C.2.2.2.1, C.2.2.2.2⟩
  obtain ⟨s2, z, L, q, r⟩ := K T'.vm T'.heap.size v T'.heap (u + w) C2 (HS.trans hS2 (Nat.le_trans HK hgr')) (Nat.le_refl _) (HC.trans hC2) hC2 (by omega) (by omega) hq.1 T' _ (X'.more (by omega) (by rw [Nat.mul_add]; omega)) rfl (Fr.app N hq.2)
  exact ⟨s2, z, L, st'.trans q, r⟩
theorem w_callVH (C : Cx p (s.setVm vm0) m meth c Z own bytes ml rt nm) {pc pc' : Nat} {Ls : Array Slot} {stk st : List Value} {i : Nat} {x : Addr} {Cl : String} {y : MethodName} {cb : ByteArray} {cml : Nat} {cret : Option FieldType} {crm : Room} {argsL : List Value} {Q' : Option Value → Heap → Prop} {W u cM sM Bm : Nat} (w1 : (Jvm.Cond.methodLink own i y).before a0 Z = true) (w2 : (Jvm.Cond.declares y).before a0 Z = true) (w5 : (Jvm.Cond.selects Cl y y).before a0 Z = true) (w6 : (Jvm.Cond.instanceMethod y).before a0 Z = true) (w3 : (Jvm.Cond.initialized y.cls).before a0 Z = true) (w4 : (Jvm.Cond.code y cb cml cret).before a0 Z = true) (hy : y.cls ≠ "java/lang/invoke/MethodHandle" ∧ y.cls ≠ "java/lang/invoke/VarHandle")
    (hd : decode bytes pc = .ok (.invokevirtual i, 3)) (hp : pc + 3 = pc') (hst : stk = argsL.reverse ++ .ref x :: st) (hfr : crm.frames + 1 ≤ R.frames) (hlo : W + (cml + 11) + crm.locals ≤ R.locals) (hW : (st.map fun v => v.category).sum ≤ W) (hce : a + 2 * B + crm.cells ≤ R.cells) (hsl : b + M * B + crm.slots ≤ R.slots) (hsz : Ls.size = ml) (hlen : ∀ sig, parseMethodDescriptor y.desc = some sig → argsL.length = sig.parameters.length) (E : Exa Z h x Cl)
    (HS : s.Since vm0 k0) (HK : k0 ≤ h.size) (hEL : EW Z a0 EL) (HC : CHr Z EL s.vm s.heap vm0 h) (HU : u + NR EL s ≤ NR EL (s.setVm vm0)) (HB : u ≤ B) (ct : CtH l Z EL M y cb cml cret [] crm cM sM Bm (.ref x :: argsL).toArray h n0 Q')
    (K : ∀ vm1 k1 v h' u', Cx p (s.setVm vm1) m meth c Z own bytes ml rt nm → s.Since vm1 k1 → k1 ≤ h'.size → CHr Z EL s.vm s.heap vm1 h' → CHr Z EL vm0 h vm1 h' → u' + NR EL s ≤ NR EL (s.setVm vm1) → u' ≤ B + Bm → Q' v h' → Wp p l e R (s.setVm vm1) m args below meth c n0 EE Q h' (a + cM + 2 * u') (b + sM + M * u') (mkF m pc' Ls (v.toList ++ st))) :
    Wp p l e R (s.setVm vm0) m args below meth c n0 EE Q h (a + 2 * u) (b + M * u) (mkF m pc Ls stk) := by
  subst hp
  intro T locs X e0 N
  have mB := Nat.mul_le_mul_left M HB
  obtain ⟨_, _, qa, qb, qc⟩ := isOf C.2.2.1 e0 E
  obtain ⟨v, _, ⟨T', L', k', n'⟩, -, X', hS2, hgr, ⟨Lc, w, hq, l1, l2, l3, hC2, hN, hw⟩, st'⟩ := X.virtualBackS C.1 (y := y) (z := y) C.2.2.2.1 (mvT C.2.2.1 w1) (mvT C.2.2.1 w2) (notFace_of_selects (args := #[]) (mvT C.2.2.1 w5)) (mvT C.2.2.1 w5) (mvT C.2.2.1 w6) hy (backH (W := W) ct C.2.2.1 w4 w3 hfr hlo hEL HC.1) qa qc (g := mkF m pc Ls stk) rfl (hsz.trans C.2.2.2.2.1.symm) (Steps.refl _) (argsL := argsL) (rest := st) hlen hst (by show 2 * 0 + _ ≤ _; rw [Nat.mul_zero, Nat.zero_add]; exact hW) (hb C.2.1 hd) (fun _ _ => ⟨rfl, e0, by show (a + 2 * u) + crm.cells ≤ R.cells; omega, by show (b + M * u) + crm.slots ≤ R.slots; omega⟩)
  dsimp only [Pt.U, Pt.locs, Pt.cells, Pt.slots] at X' l1 l2 l3 st' hq hS2 hgr hC2 hN
  subst l1 l2 l3
  have hgr' : h.size ≤ T'.heap.size := by rw [← e0]; exact hgr
  have C2 : Cx p (s.setVm T'.vm) m meth c Z own bytes ml rt nm := ⟨C.1, C.2.1, State.Warmed39.trans (t := s.setVm vm0) C.2.2.1 hS2.1, (hS2.1.alike.findClass _ _).trans C.2.2.2.1, C.2.2.2.2⟩
  obtain ⟨s2, z, L, q, r⟩ := K T'.vm T'.heap.size v T'.heap (u + w) C2 (HS.trans hS2 (Nat.le_trans HK hgr')) (Nat.le_refl _) (HC.trans hC2) hC2 (by omega) (by omega) hq.1 T' _ (X'.more (by omega) (by rw [Nat.mul_add]; omega)) rfl (Fr.app N hq.2)
  exact ⟨s2, z, L, st'.trans q, r⟩
theorem ad {a d k n : Nat} (q : a + k = n) : (a + d) + k = n + d := by omega
theorem leA {a B R : Nat} {u : Nat} (hu : u ≤ B) (q : a + 2 * B ≤ R) : a + 2 * u ≤ R := by omega
theorem leM {a B R M : Nat} {u : Nat} (hu : u ≤ B) (q : a + M * B ≤ R) : a + M * u ≤ R := Nat.le_trans (Nat.add_le_add_left (Nat.mul_le_mul_left M hu) a) q
theorem w_norm {cells slots pc : Nat} {Ls : Array Slot} {st st' : List Value} (q : st = st') (K : Wp p l e R s m args below meth c n0 EE Q h cells slots (mkF m pc Ls st')) : Wp p l e R s m args below meth c n0 EE Q h cells slots (mkF m pc Ls st) := by subst q; exact K
theorem safeAr {vm : Vm} {x : Addr} {ty : FieldType} {vs : List Value} (hal : Z.vm.Alike vm) (A : Ar Z h x ty vs) (ht : ty ≠ .byte) : Safe Z EL vm h x := by obtain ⟨cl, A, -⟩ := A; exact Safe.arr hal A ht
theorem w_inst {cells slots : Nat} (C : Cx p s m meth c Z own bytes ml rt nm) {pc pc' : Nat} {Ls : Array Slot} {st : List Value} {x : Addr} {Cl : String} {i : Nat} (w : (Jvm.Cond.classLink own i Cl).before a0 Z = true) (hd : decode bytes pc = .ok (.instanceof i, 3)) (hp : pc + 3 = pc') (F : Exa Z h x Cl) (K : Wp p l e R s m args below meth c n0 EE Q h cells slots (mkF m pc' Ls (.int 1 :: st))) :
    Wp p l e R s m args below meth c n0 EE Q h cells slots (mkF m pc Ls (.ref x :: st)) := by
  subst hp
  exact Wp.law (fun T locs X e0 => instY X C.1 C.2.2.1 C.2.2.2.1 w e0 (Ins.self F) (g := mkF m pc Ls (.ref x :: st)) rfl rfl (hb C.2.1 hd)) K
theorem w_cast {cells slots : Nat} (C : Cx p s m meth c Z own bytes ml rt nm) {pc pc' : Nat} {Ls : Array Slot} {st : List Value} {x : Addr} {Cl : String} {i : Nat} (w : (Jvm.Cond.classLink own i Cl).before a0 Z = true) (hd : decode bytes pc = .ok (.checkcast i, 3)) (hp : pc + 3 = pc') (F : Exa Z h x Cl) (K : Wp p l e R s m args below meth c n0 EE Q h cells slots (mkF m pc' Ls (.ref x :: st))) :
    Wp p l e R s m args below meth c n0 EE Q h cells slots (mkF m pc Ls (.ref x :: st)) := by
  subst hp
  exact Wp.law (fun T locs X e0 => castY X C.1 C.2.2.1 C.2.2.2.1 w e0 (Ins.self F) (g := mkF m pc Ls (.ref x :: st)) rfl rfl (hb C.2.1 hd)) K
end RulesH
section FactsH
variable {Z : State} {h h' : Heap} {a b y : Addr} {Cl n d : String} {v w : Value} {ws : List Addr} {sl : Nat} {ty : FieldType} {vs : List Value}
/-- a String of Latin-1 signs whose bytes lie in y -/
def StrO (Z : State) (h : Heap) (a y : Addr) : Prop := Exa Z h a "java/lang/String" ∧ Fld Z h a "java/lang/String" "coder" "B" (.int 0) ∧ Fld Z h a "java/lang/String" "value" "[B" (.ref y)
theorem StrO.lt (O : StrO Z h a y) : a < h.size := O.1.lt
theorem StrO.ext (O : StrO Z h a y) (E : Ext h h') : StrO Z h' a y := ⟨O.1.ext E, O.2.1.ext E, O.2.2.ext E⟩
theorem StrO.keep (O : StrO Z h a y) (K : Keep h h' ws) (q : a ∉ ws) : StrO Z h' a y := ⟨O.1.keep K, O.2.1.keep K q, O.2.2.keep K q⟩
theorem StrO.other (O : StrO Z h a y) (W : Wr h h' b sl w) (q : a ≠ b) : StrO Z h' a y := ⟨O.1.wr W, O.2.1.other W (Or.inl q), O.2.2.other W (Or.inl q)⟩
/-- no statics' cell lies in ws -/
def NoSt (h : Heap) (ws : List Addr) : Prop := ∀ x ∈ ws, ∀ cell : Cell, h[x]? = some cell → cell.vm.isStatics = false
theorem nt0 : NoSt h [] := fun _ q => nomatch q
theorem ntS (q : ∀ cell : Cell, h[a]? = some cell → cell.vm.isStatics = false) (r : NoSt h ws) : NoSt h (a :: ws) := fun x z => by
  rcases List.mem_cons.mp z with rfl | z
  · exact q
  · exact r x z
theorem ntE (E : Exa Z h a Cl) : ∀ cell : Cell, h[a]? = some cell → cell.vm.isStatics = false := fun cell q => by
  obtain ⟨c', k, h1, -, -, h4, -⟩ := E; cases q.symm.trans h1; exact h4
theorem ntA (A : Ar Z h a ty vs) : ∀ cell : Cell, h[a]? = some cell → cell.vm.isStatics = false := fun cell q => by
  obtain ⟨cl, ⟨h1, ⟨h2, -⟩, -⟩, -⟩ := A; cases q.symm.trans h1
  cases g : cell.vm <;> first | rfl | exact absurd g (h2 _)
theorem staKeep (K : Keep h h' ws) (ns : NoSt h ws) (F : Sta Z h Cl n d w) : Sta Z h' Cl n d w := by
  obtain ⟨cf, i, k, f, st, cell, h1, h2, h3, h4, h5, h6, h7⟩ := F
  refine ⟨cf, i, k, f, st, cell, h1, h2, h3, h4, K.2.1 _ _ h5 (fun q => ?_), h6, h7⟩
  rw [ns st q cell h5] at h6; cases h6
theorem exa_ne {C1 C2 : String} (A : Exa Z h a C1) (B : Exa Z h b C2) (q : C1 ≠ C2) : a ≠ b := by
  rintro rfl
  obtain ⟨c1, k1, h1, h2, -⟩ := A
  obtain ⟨c2, k2, g1, g2, -⟩ := B
  cases h1.symm.trans g1
  obtain ⟨k1, q1, q2⟩ := Vm.findClass_spec h2
  obtain ⟨k2, q3, q4⟩ := Vm.findClass_spec g2
  cases q1.symm.trans q3
  exact q (q2.symm.trans q4)
theorem exa_ar_ne {i : Nat} {a0 : Array Value} (wi : (Jvm.Cond.instantiable Cl i).before a0 Z = true) (A : Exa Z h a Cl) (B : Ar Z h b ty vs) : a ≠ b := by
  rintro rfl
  obtain ⟨c1, k1, h1, h2, h3, -⟩ := A
  obtain ⟨cl, ⟨g1, ⟨-, k2, g2, comp, g3⟩, -⟩, -⟩ := B
  cases h1.symm.trans g1
  obtain ⟨c, k, hc, hk, hkind, -⟩ := Cond.instantiable_spec wi
  cases h2.symm.trans hc
  cases g2.symm.trans hk
  rw [hkind] at g3; cases g3
theorem fld_det (A : Fld Z h a Cl n d v) (B : Fld Z h a Cl n d w) : v = w := by
  obtain ⟨c1, cf, k, i, f, h1, h2, -, -, -, -, h3⟩ := A
  obtain ⟨c2, cf', k', i', f', g1, g2, -, -, -, -, g3⟩ := B
  cases h1.symm.trans g1
  cases h2.symm.trans g2
  exact Option.some.inj (h3.symm.trans g3)
theorem ar_det {ty' : FieldType} {vs' : List Value} (A : Ar Z h a ty vs) (B : Ar Z h a ty' vs') : vs = vs' := by
  obtain ⟨c1, ⟨h1, -⟩, e1⟩ := A
  obtain ⟨c2, ⟨g1, -⟩, e2⟩ := B
  cases h1.symm.trans g1
  rw [e1] at e2; simpa using e2
theorem str_det {y' : Addr} (A : StrO Z h a y) (B : StrO Z h a y') : y = y' := by
  have q := fld_det A.2.2 B.2.2
  cases q; rfl
end FactsH
end Jvm.Own

namespace Jvm.Pilot.@@N@@
open Jvm Jvm.ClassFile Sem Op Lib Jvm.Free Jvm.Stand Jvm.LawKit Jvm.RoadKit Jvm.Own Bundle Jvm.Pilot.@@N@@.Jvm.D
theorem tw {tabs : List Jvm.Cond} {a0 : Array Value} {Z : State} (hw : ∀ d ∈ tabs, d.before a0 Z = true) (i : Nat) {d : Jvm.Cond} (h : tabs[i]? = some d) : d.before a0 Z = true := hw _ (List.mem_of_getElem? h)
theorem pd_0 : parseMethodDescriptor "(IILjava/util/function/BiFunction;)I" = some ⟨[.int, .int, (.object "java/util/function/BiFunction")], some .int⟩ := by decide +kernel
theorem pd_1 : parseMethodDescriptor "(II)V" = some ⟨[.int, .int], none⟩ := by decide +kernel
theorem pd_2 : parseMethodDescriptor "()Z" = some ⟨[], some .boolean⟩ := by decide +kernel
theorem pd_3 : parseMethodDescriptor "([BI)C" = some ⟨[(.array .byte), .int], some .char⟩ := by decide +kernel
theorem pd_4 : parseMethodDescriptor "(C)Z" = some ⟨[.char], some .boolean⟩ := by decide +kernel
theorem pd_5 : parseMethodDescriptor "(C)I" = some ⟨[.char], some .int⟩ := by decide +kernel
theorem pd_6 : parseMethodDescriptor "(I)C" = some ⟨[.int], some .char⟩ := by decide +kernel
theorem pd_7 : parseMethodDescriptor "()V" = some ⟨[], none⟩ := by decide +kernel
theorem pd_8 : parseMethodDescriptor "([CII)V" = some ⟨[(.array .char), .int, .int], none⟩ := by decide +kernel
theorem pd_9 : parseMethodDescriptor "(CI)I" = some ⟨[.char, .int], some .int⟩ := by decide +kernel
theorem obj_B6 {Z : State} {a0 : Array Value} (hw : ∀ d ∈ tables_1, d.before a0 Z = true) {h : Heap} {a : Addr} (A : Exa Z h a "com/example/fedlint/fedlint/XsdDatatypes$Base64") (D : ∀ {O nm d : String} {ty : FieldType}, Laid Z a0 "com/example/fedlint/fedlint/XsdDatatypes$Base64" O nm d → parseFieldDescriptor d = some ty → Fld Z h a O nm d (defaultValue ty)) :
    Obj Z h a "com/example/fedlint/fedlint/XsdDatatypes$Base64" [("broken", "Z", .int (0 : Int32)), ("length", "I", .int (0 : Int32)), ("last", "I", .int (0 : Int32)), ("padding", "I", .int (0 : Int32))] := by
  refine ⟨A, fun i f q => ?_, fun i j f g q r z => ?_⟩
  · match i, q with
    | 0, q => cases q; exact D (Or.inl (tw hw 53 rfl)) (ty := .boolean) (by decide)
    | 1, q => cases q; exact D (Or.inl (tw hw 59 rfl)) (ty := .int) (by decide)
    | 2, q => cases q; exact D (Or.inl (tw hw 64 rfl)) (ty := .int) (by decide)
    | 3, q => cases q; exact D (Or.inl (tw hw 90 rfl)) (ty := .int) (by decide)
    | (k + 4), q => simp at q
  · match i, j, q, r, z with
    | 0, 0, q, r, z => exact absurd rfl z
    | 0, 1, q, r, z => cases q; cases r; exact slot_ne (C := "com/example/fedlint/fedlint/XsdDatatypes$Base64") (Or.inl (tw hw 53 rfl)) (Or.inl (tw hw 59 rfl)) (by decide) (t := .boolean) (t' := .int) (by decide) (by decide)
    | 0, 2, q, r, z => cases q; cases r; exact slot_ne (C := "com/example/fedlint/fedlint/XsdDatatypes$Base64") (Or.inl (tw hw 53 rfl)) (Or.inl (tw hw 64 rfl)) (by decide) (t := .boolean) (t' := .int) (by decide) (by decide)
    | 0, 3, q, r, z => cases q; cases r; exact slot_ne (C := "com/example/fedlint/fedlint/XsdDatatypes$Base64") (Or.inl (tw hw 53 rfl)) (Or.inl (tw hw 90 rfl)) (by decide) (t := .boolean) (t' := .int) (by decide) (by decide)
    | 1, 0, q, r, z => cases q; cases r; exact slot_ne (C := "com/example/fedlint/fedlint/XsdDatatypes$Base64") (Or.inl (tw hw 59 rfl)) (Or.inl (tw hw 53 rfl)) (by decide) (t := .int) (t' := .boolean) (by decide) (by decide)
    | 1, 1, q, r, z => exact absurd rfl z
    | 1, 2, q, r, z => cases q; cases r; exact slot_ne (C := "com/example/fedlint/fedlint/XsdDatatypes$Base64") (Or.inl (tw hw 59 rfl)) (Or.inl (tw hw 64 rfl)) (by decide) (t := .int) (t' := .int) (by decide) (by decide)
    | 1, 3, q, r, z => cases q; cases r; exact slot_ne (C := "com/example/fedlint/fedlint/XsdDatatypes$Base64") (Or.inl (tw hw 59 rfl)) (Or.inl (tw hw 90 rfl)) (by decide) (t := .int) (t' := .int) (by decide) (by decide)
    | 2, 0, q, r, z => cases q; cases r; exact slot_ne (C := "com/example/fedlint/fedlint/XsdDatatypes$Base64") (Or.inl (tw hw 64 rfl)) (Or.inl (tw hw 53 rfl)) (by decide) (t := .int) (t' := .boolean) (by decide) (by decide)
    | 2, 1, q, r, z => cases q; cases r; exact slot_ne (C := "com/example/fedlint/fedlint/XsdDatatypes$Base64") (Or.inl (tw hw 64 rfl)) (Or.inl (tw hw 59 rfl)) (by decide) (t := .int) (t' := .int) (by decide) (by decide)
    | 2, 2, q, r, z => exact absurd rfl z
    | 2, 3, q, r, z => cases q; cases r; exact slot_ne (C := "com/example/fedlint/fedlint/XsdDatatypes$Base64") (Or.inl (tw hw 64 rfl)) (Or.inl (tw hw 90 rfl)) (by decide) (t := .int) (t' := .int) (by decide) (by decide)
    | 3, 0, q, r, z => cases q; cases r; exact slot_ne (C := "com/example/fedlint/fedlint/XsdDatatypes$Base64") (Or.inl (tw hw 90 rfl)) (Or.inl (tw hw 53 rfl)) (by decide) (t := .int) (t' := .boolean) (by decide) (by decide)
    | 3, 1, q, r, z => cases q; cases r; exact slot_ne (C := "com/example/fedlint/fedlint/XsdDatatypes$Base64") (Or.inl (tw hw 90 rfl)) (Or.inl (tw hw 59 rfl)) (by decide) (t := .int) (t' := .int) (by decide) (by decide)
    | 3, 2, q, r, z => cases q; cases r; exact slot_ne (C := "com/example/fedlint/fedlint/XsdDatatypes$Base64") (Or.inl (tw hw 90 rfl)) (Or.inl (tw hw 64 rfl)) (by decide) (t := .int) (t' := .int) (by decide) (by decide)
    | 3, 3, q, r, z => exact absurd rfl z
    | (k + 4), j, q, r, z => simp at q
    | 0, (k + 4), q, r, z => simp at r
    | 1, (k + 4), q, r, z => simp at r
    | 2, (k + 4), q, r, z => simp at r
    | 3, (k + 4), q, r, z => simp at r
def EL : List (String × Nat) := [("com/example/fedlint/fedlint/Base64ValidPinLaw", 7), ("com/example/fedlint/fedlint/Base64ValidPinLaw", 15)]
def bs_0 : List Int32 := [65, 66, 67, 68, 69, 70, 71, 72, 73, 74, 75, 76, 77, 78, 79, 80, 81, 82, 83, 84, 85, 86, 87, 88, 89, 90, 97, 98, 99, 100, 101, 102, 103, 104, 105, 106, 107, 108, 109, 110, 111, 112, 113, 114, 115, 116, 117, 118, 119, 120, 121, 122, 48, 49, 50, 51, 52, 53, 54, 55, 56, 57, 43, 47]
def lz_0 : Int32 := 64
theorem ht_0 : (∀ c ∈ "ABCDEFGHIJKLMNOPQRSTUVWXYZabcdefghijklmnopqrstuvwxyz0123456789+/".toList, c.toNat < 256) ∧ "ABCDEFGHIJKLMNOPQRSTUVWXYZabcdefghijklmnopqrstuvwxyz0123456789+/".toList.map (fun c => Value.int (Jvm.Lit.byteI c.toNat.toUInt16)) = bs_0.map Value.int := by decide +kernel
theorem hz_0 : ¬ lz_0 < 0 := by decide +kernel
theorem hl_0 : lz_0.toNatClampNeg = (bs_0.map Value.int).length := by decide +kernel
theorem hn_0 : 4 * "ABCDEFGHIJKLMNOPQRSTUVWXYZabcdefghijklmnopqrstuvwxyz0123456789+/".toList.length + 4 ≤ 260 := by decide +kernel
theorem mem_0 : ("com/example/fedlint/fedlint/Base64ValidPinLaw", 7) ∈ EL := by simp [EL]
theorem hb_0 : bs_0.length = 64 := by decide +kernel
def bs_1 : List Int32 := [32, 9, 10, 13]
def lz_1 : Int32 := 4
theorem ht_1 : (∀ c ∈ " \t\n\r".toList, c.toNat < 256) ∧ " \t\n\r".toList.map (fun c => Value.int (Jvm.Lit.byteI c.toNat.toUInt16)) = bs_1.map Value.int := by decide +kernel
theorem hz_1 : ¬ lz_1 < 0 := by decide +kernel
theorem hl_1 : lz_1.toNatClampNeg = (bs_1.map Value.int).length := by decide +kernel
theorem hn_1 : 4 * " \t\n\r".toList.length + 4 ≤ 260 := by decide +kernel
theorem mem_1 : ("com/example/fedlint/fedlint/Base64ValidPinLaw", 15) ∈ EL := by simp [EL]
theorem hb_1 : bs_1.length = 4 := by decide +kernel
theorem hEL_ok {Z : State} {a0 : Array Value} (hw : ∀ d ∈ tables_1, d.before a0 Z = true) : EW Z a0 EL := (EW.cons (tw hw 5 rfl) ht_0.1 (EW.cons (tw hw 88 rfl) ht_1.1 EW.nil))
theorem wS_ok {Z : State} {a0 : Array Value} (hw : ∀ d ∈ tables_1, d.before a0 Z = true) : ∀ a ∈ Bundle.stringAtoms, a.before a0 Z = true := fun c hc => hw c (by simpa using (List.all_eq_true.mp (by decide +kernel : (Bundle.stringAtoms.all fun c => tables_1.contains c) = true)) c hc)
def chAt (bs : List Int32) (i : Int32) : Int32 := toCh (toCh (toCh ((bs.getD i.toNatClampNeg 0) &&& 255)))
theorem map_at {bs : List Int32} {k : Nat} (q : k < bs.length) : (bs.map Value.int)[k]? = some (.int (bs.getD k 0)) := by
  rw [List.getElem?_map, List.getElem?_eq_getElem q, List.getD_eq_getElem?_getD, List.getElem?_eq_getElem q]; rfl
theorem clamp_lt {i : Int32} {k : Nat} (hi : ¬ i < 0) (q : i.toNatClampNeg < k) (hk : k ≤ 1000) : i < k.toInt32 := by
  rw [Int32.lt_iff_toInt_lt] at hi ⊢
  have e : k.toInt32.toInt = (k : Int) := by
    show (Int32.ofNat k).toInt = _
    exact Int32.toInt_ofNat_of_lt (by omega)
  rw [e]
  have e0 : (0 : Int32).toInt = 0 := by decide
  rw [e0] at hi
  have : i.toNatClampNeg = i.toInt.toNat := rfl
  omega
theorem on_int {k : Nat} (h : k ≤ 2000) : (Int32.ofNat k).toInt = (k : Int) := Int32.toInt_ofNat_of_lt (by omega)
theorem on_nn {k : Nat} (h : k ≤ 2000) : ¬ Int32.ofNat k < 0 := by
  rw [Int32.lt_iff_toInt_lt, on_int h, show (0 : Int32).toInt = 0 by decide]; omega
theorem on_nat {k : Nat} (h : k ≤ 2000) : (Int32.ofNat k).toNatClampNeg = k := by
  show (Int32.ofNat k).toInt.toNat = k
  rw [on_int h]; omega
theorem on_lt {k j : Nat} (hk : k ≤ 2000) (hj : j ≤ 2000) : (Int32.ofNat k < Int32.ofNat j) ↔ k < j := by
  rw [Int32.lt_iff_toInt_lt, on_int hk, on_int hj]; omega
theorem on_succ (k : Nat) : Int32.ofNat k + 1 = Int32.ofNat (k + 1) := (Int32.ofNat_add k 1).symm
theorem on_inj {k j : Nat} (hk : k ≤ 2000) (hj : j ≤ 2000) (e : Int32.ofNat k = Int32.ofNat j) : k = j := by
  have := congrArg Int32.toInt e
  rw [on_int hk, on_int hj] at this; omega
theorem d3_0 : decode jdk_42_method_154_code 0 = .ok (.getstatic 38, 3) := by decide +kernel
theorem d3_3 : decode jdk_42_method_154_code 3 = .ok (.ifCond .eq 14, 3) := by decide +kernel
theorem d3_6 : decode jdk_42_method_154_code 6 = .ok (.aload_n 0, 1) := by decide +kernel
theorem d3_7 : decode jdk_42_method_154_code 7 = .ok (.getfield 15, 3) := by decide +kernel
theorem d3_10 : decode jdk_42_method_154_code 10 = .ok (.ifCond .ne 7, 3) := by decide +kernel
theorem d3_13 : decode jdk_42_method_154_code 13 = .ok (.iconst 1, 1) := by decide +kernel
theorem d3_14 : decode jdk_42_method_154_code 14 = .ok (.goto 4, 3) := by decide +kernel
theorem d3_18 : decode jdk_42_method_154_code 18 = .ok (.ireturn, 1) := by decide +kernel
def rm_isLatin1 : Room := { frames := 0, cells := 0, slots := 0, locals := 0 }
theorem pf_isLatin1 : plainFor (⟨"java/lang/String", "isLatin1", "()Z"⟩ : MethodName) = true := plainFor_of_name (by first | (simp [plainName, overriddenIn]; done) | decide +kernel)
set_option maxRecDepth 65536 in
set_option maxHeartbeats 40000000 in
theorem ct_isLatin1 {l : Launch} {Z : State} {a0 : Array Value} (hw : ∀ d ∈ tables_1, d.before a0 Z = true) (h0 : Heap) (n0 : Nat) (a : Addr) (y : Addr) (zc : Int32) (fv : Value) (hzc : ¬ zc = 0) (S_COMPACT_STRINGS : Sta Z h0 "java/lang/String" "COMPACT_STRINGS" "Z" (.int zc)) (O_a : StrO Z h0 a y) :
    Ct l Z (⟨"java/lang/String", "isLatin1", "()Z"⟩ : MethodName) jdk_42_method_154_code 1 (Option.some Jvm.ClassFile.FieldType.boolean) [] rm_isLatin1 #[.ref a] h0 n0 (fun v h => v = some (.int 1) ∧ h = h0) := by
  refine Ct.of (Ls := #[.val (.ref a)]) pf_isLatin1 (fun m => by first | (simp [entryFrame, mkF, argsToLocals, Value.category, maxLocals]; done) | (cases fv <;> first | (simp [Value.isRef] at hfv; done) | (simp [entryFrame, mkF, argsToLocals, Value.category]; done) | rfl) | rfl) ?_
  intro p e s m below meth c C
  refine w_getS (pc' := 3) C (tw hw 23 rfl) d3_0 rfl S_COMPACT_STRINGS ?_
  refine w_if_eq (pcT := 17) (pcF := 6) C d3_3 (by decide) (by decide) rfl (fun q3 => ?_) (fun q3 => ?_)
  · skip
    exact absurd q3 hzc
  · skip
    refine w_aloadN (pc' := 7) C d3_6 rfl rfl rfl ?_
    refine w_getF (pc' := 10) C (tw hw 24 rfl) d3_7 rfl O_a.2.1 ?_
    refine w_if_ne (pcT := 17) (pcF := 13) C d3_10 (by decide) (by decide) rfl (fun q => absurd q (by decide)) (fun q10 => ?_)
    refine w_iconst (pc' := 14) (x := (1 : Int32)) C d3_13 rfl rfl ?_
    refine w_goto (pc' := 18) C d3_14 (by decide) (by decide) ?_
    refine w_retN' (t := .boolean) (z' := (1 : Int32)) C rfl (by simp) d3_18 (closeN (by decide) (by decide)) narB1 ?_
    exact ⟨rfl, rfl⟩
theorem d6_0 : decode jdk_41_method_11_code 0 = .ok (.iload_n 0, 1) := by decide +kernel
theorem d6_1 : decode jdk_41_method_11_code 1 = .ok (.ifCond .lt 8, 3) := by decide +kernel
theorem d6_4 : decode jdk_41_method_11_code 4 = .ok (.iload_n 0, 1) := by decide +kernel
theorem d6_5 : decode jdk_41_method_11_code 5 = .ok (.iload_n 1, 1) := by decide +kernel
theorem d6_6 : decode jdk_41_method_11_code 6 = .ok (.if_icmp .lt 10, 3) := by decide +kernel
theorem d6_16 : decode jdk_41_method_11_code 16 = .ok (.iload_n 0, 1) := by decide +kernel
theorem d6_17 : decode jdk_41_method_11_code 17 = .ok (.ireturn, 1) := by decide +kernel
def rm_pcheck : Room := { frames := 0, cells := 0, slots := 0, locals := 0 }
theorem pf_pcheck : plainFor (⟨"jdk/internal/util/Preconditions", "checkIndex", "(IILjava/util/function/BiFunction;)I"⟩ : MethodName) = true := plainFor_of_name (by first | (simp [plainName, overriddenIn]; done) | decide +kernel)
set_option maxRecDepth 65536 in
set_option maxHeartbeats 40000000 in
theorem ct_pcheck {l : Launch} {Z : State} {a0 : Array Value} (hw : ∀ d ∈ tables_1, d.before a0 Z = true) (h0 : Heap) (n0 : Nat) (k : Int32) (n : Int32) (fv : Value) (hi : ¬ k < 0) (hin : k < n) (hfv : fv.isRef = true) :
    Ct l Z (⟨"jdk/internal/util/Preconditions", "checkIndex", "(IILjava/util/function/BiFunction;)I"⟩ : MethodName) jdk_41_method_11_code 3 (Option.some Jvm.ClassFile.FieldType.int) [] rm_pcheck #[.int k, .int n, fv] h0 n0 (fun v h => v = some (.int k) ∧ h = h0) := by
  refine Ct.of (Ls := #[.val (.int k), .val (.int n), .val (fv)]) pf_pcheck (fun m => by first | (simp [entryFrame, mkF, argsToLocals, Value.category, maxLocals]; done) | (cases fv <;> first | (simp [Value.isRef] at hfv; done) | (simp [entryFrame, mkF, argsToLocals, Value.category]; done) | rfl) | rfl) ?_
  intro p e s m below meth c C
  refine w_iloadN (pc' := 1) C d6_0 rfl rfl ?_
  refine w_if_lt (pcT := 9) (pcF := 4) C d6_1 (by decide) (by decide) rfl (fun q1 => ?_) (fun q1 => ?_)
  · skip
    first | exact absurd q1 hi | exact absurd hin q6
  · skip
    refine w_iloadN (pc' := 5) C d6_4 rfl rfl ?_
    refine w_iloadN (pc' := 6) C d6_5 rfl rfl ?_
    refine w_icmp_lt (pcT := 16) (pcF := 9) C d6_6 (by decide) (by decide) rfl (fun q6 => ?_) (fun q6 => ?_)
    · skip
      refine w_iloadN (pc' := 17) C d6_16 rfl rfl ?_
      refine w_retI C rfl d6_17 (closeN (by decide) (by decide)) ?_
      exact ⟨rfl, rfl⟩
    · skip
      first | exact absurd q1 hi | exact absurd hin q6
theorem d5_0 : decode jdk_42_method_155_code 0 = .ok (.iload_n 0, 1) := by decide +kernel
theorem d5_1 : decode jdk_42_method_155_code 1 = .ok (.iload_n 1, 1) := by decide +kernel
theorem d5_2 : decode jdk_42_method_155_code 2 = .ok (.getstatic 1053, 3) := by decide +kernel
theorem d5_5 : decode jdk_42_method_155_code 5 = .ok (.invokestatic 1059, 3) := by decide +kernel
theorem d5_8 : decode jdk_42_method_155_code 8 = .ok (.pop, 1) := by decide +kernel
theorem d5_9 : decode jdk_42_method_155_code 9 = .ok (.return_, 1) := by decide +kernel
def rm_scheck : Room := { frames := 1, cells := 0, slots := 0, locals := 14 }
theorem pf_scheck : plainFor (⟨"java/lang/String", "checkIndex", "(II)V"⟩ : MethodName) = true := plainFor_of_name (by first | (simp [plainName, overriddenIn]; done) | decide +kernel)
set_option maxRecDepth 65536 in
set_option maxHeartbeats 40000000 in
theorem ct_scheck {l : Launch} {Z : State} {a0 : Array Value} (hw : ∀ d ∈ tables_1, d.before a0 Z = true) (h0 : Heap) (n0 : Nat) (k : Int32) (n : Int32) (fv : Value) (hi : ¬ k < 0) (hin : k < n) (hfv : fv.isRef = true) (S_SIOOBE_FORMATTER : Sta Z h0 "jdk/internal/util/Preconditions" "SIOOBE_FORMATTER" "Ljava/util/function/BiFunction;" fv) :
    Ct l Z (⟨"java/lang/String", "checkIndex", "(II)V"⟩ : MethodName) jdk_42_method_155_code 2 (Option.none : Option Jvm.ClassFile.FieldType) [] rm_scheck #[.int k, .int n] h0 n0 (fun v h => v = none ∧ h = h0) := by
  refine Ct.of (Ls := #[.val (.int k), .val (.int n)]) pf_scheck (fun m => by first | (simp [entryFrame, mkF, argsToLocals, Value.category, maxLocals]; done) | (cases fv <;> first | (simp [Value.isRef] at hfv; done) | (simp [entryFrame, mkF, argsToLocals, Value.category]; done) | rfl) | rfl) ?_
  intro p e s m below meth c C
  refine w_iloadN (pc' := 1) C d5_0 rfl rfl ?_
  refine w_iloadN (pc' := 2) C d5_1 rfl rfl ?_
  refine w_getS (pc' := 5) C (tw hw 33 rfl) d5_2 rfl S_SIOOBE_FORMATTER ?_
  refine w_callS (pc' := 8) (argsL := [.int k, .int n, fv]) (st := []) (W := 0) (ce' := 0) (sl' := 0) C (tw hw 35 rfl) (tw hw 36 rfl) (tw hw 34 rfl) (tw hw 37 rfl) (by decide) d5_5 rfl rfl (by decide) (by decide) (Nat.le_of_eq rfl) rfl rfl (by decide) (by decide) rfl (lenOf pd_0 rfl) (ct_pcheck hw h0 n0 k n fv hi hin hfv) (kp ?_)
  refine w_pop (pc' := 9) C d5_8 rfl rfl ?_
  refine w_ret0 C rfl d5_9 (closeN (by decide) (by decide)) ?_
  exact ⟨rfl, rfl⟩
theorem d4_0 : decode jdk_43_method_2_code 0 = .ok (.iload_n 1, 1) := by decide +kernel
theorem d4_1 : decode jdk_43_method_2_code 1 = .ok (.aload_n 0, 1) := by decide +kernel
theorem d4_2 : decode jdk_43_method_2_code 2 = .ok (.arraylength, 1) := by decide +kernel
theorem d4_3 : decode jdk_43_method_2_code 3 = .ok (.invokestatic 9, 3) := by decide +kernel
theorem d4_6 : decode jdk_43_method_2_code 6 = .ok (.aload_n 0, 1) := by decide +kernel
theorem d4_7 : decode jdk_43_method_2_code 7 = .ok (.iload_n 1, 1) := by decide +kernel
theorem d4_8 : decode jdk_43_method_2_code 8 = .ok (.baload, 1) := by decide +kernel
theorem d4_9 : decode jdk_43_method_2_code 9 = .ok (.sipush 255, 3) := by decide +kernel
theorem d4_12 : decode jdk_43_method_2_code 12 = .ok (.iand, 1) := by decide +kernel
theorem d4_13 : decode jdk_43_method_2_code 13 = .ok (.i2c, 1) := by decide +kernel
theorem d4_14 : decode jdk_43_method_2_code 14 = .ok (.ireturn, 1) := by decide +kernel
def rm_lcharAt : Room := { frames := 2, cells := 0, slots := 0, locals := 27 }
theorem pf_lcharAt : plainFor (⟨"java/lang/StringLatin1", "charAt", "([BI)C"⟩ : MethodName) = true := plainFor_of_name (by first | (simp [plainName, overriddenIn]; done) | decide +kernel)
set_option maxRecDepth 65536 in
set_option maxHeartbeats 40000000 in
theorem ct_lcharAt {l : Launch} {Z : State} {a0 : Array Value} (hw : ∀ d ∈ tables_1, d.before a0 Z = true) (h0 : Heap) (n0 : Nat) (y : Addr) (k : Int32) (bs : List Int32) (fv : Value) (hi : ¬ k < 0) (hin : k.toNatClampNeg < bs.length) (hbig : bs.length ≤ 1000) (hfv : fv.isRef = true) (S_SIOOBE_FORMATTER : Sta Z h0 "jdk/internal/util/Preconditions" "SIOOBE_FORMATTER" "Ljava/util/function/BiFunction;" fv) (O_y : Ar Z h0 y .byte (bs.map Value.int)) :
    Ct l Z (⟨"java/lang/StringLatin1", "charAt", "([BI)C"⟩ : MethodName) jdk_43_method_2_code 2 (Option.some Jvm.ClassFile.FieldType.char) [] rm_lcharAt #[.ref y, .int k] h0 n0 (fun v h => v = some (.int (toCh (toCh ((bs.getD k.toNatClampNeg 0) &&& 255)))) ∧ h = h0) := by
  refine Ct.of (Ls := #[.val (.ref y), .val (.int k)]) pf_lcharAt (fun m => by first | (simp [entryFrame, mkF, argsToLocals, Value.category, maxLocals]; done) | (cases fv <;> first | (simp [Value.isRef] at hfv; done) | (simp [entryFrame, mkF, argsToLocals, Value.category]; done) | rfl) | rfl) ?_
  intro p e s m below meth c C
  refine w_iloadN (pc' := 1) C d4_0 rfl rfl ?_
  refine w_aloadN (pc' := 2) C d4_1 rfl rfl rfl ?_
  refine wA_alen (pc' := 3) (n := bs.length.toInt32) C d4_2 rfl O_y (by rw [List.length_map]) ?_
  refine w_callS (pc' := 6) (argsL := [.int k, .int bs.length.toInt32]) (st := []) (W := 0) (ce' := 0) (sl' := 0) C (tw hw 30 rfl) (tw hw 31 rfl) (tw hw 6 rfl) (tw hw 32 rfl) (by decide) d4_3 rfl rfl (by decide) (by decide) (Nat.le_of_eq rfl) rfl rfl (by decide) (by decide) rfl (lenOf pd_1 rfl) (ct_scheck hw h0 n0 k bs.length.toInt32 fv hi (clamp_lt hi hin hbig) hfv S_SIOOBE_FORMATTER) (kv ?_)
  refine w_aloadN (pc' := 7) C d4_6 rfl rfl rfl ?_
  refine w_iloadN (pc' := 8) C d4_7 rfl rfl ?_
  refine wA_baload (pc' := 9) (v := .int (bs.getD k.toNatClampNeg 0)) C d4_8 rfl O_y hi (map_at hin) ?_
  refine w_sipush (pc' := 12) (x := (255 : Int32)) C d4_9 rfl rfl ?_
  refine w_iand (pc' := 13) C d4_12 rfl ?_
  refine w_i2c (pc' := 14) C d4_13 rfl ?_
  refine w_retN' (t := .char) (z' := (toCh (toCh ((bs.getD k.toNatClampNeg 0) &&& (255 : Int32))))) C rfl (by simp) d4_14 (closeN (by decide) (by decide)) rfl ?_
  exact ⟨rfl, rfl⟩
theorem d2_0 : decode jdk_42_method_56_code 0 = .ok (.aload_n 0, 1) := by decide +kernel
theorem d2_1 : decode jdk_42_method_56_code 1 = .ok (.invokevirtual 492, 3) := by decide +kernel
theorem d2_4 : decode jdk_42_method_56_code 4 = .ok (.ifCond .eq 12, 3) := by decide +kernel
theorem d2_7 : decode jdk_42_method_56_code 7 = .ok (.aload_n 0, 1) := by decide +kernel
theorem d2_8 : decode jdk_42_method_56_code 8 = .ok (.getfield 9, 3) := by decide +kernel
theorem d2_11 : decode jdk_42_method_56_code 11 = .ok (.iload_n 1, 1) := by decide +kernel
theorem d2_12 : decode jdk_42_method_56_code 12 = .ok (.invokestatic 495, 3) := by decide +kernel
theorem d2_15 : decode jdk_42_method_56_code 15 = .ok (.ireturn, 1) := by decide +kernel
def rm_charAt : Room := { frames := 3, cells := 0, slots := 0, locals := 40 }
theorem pf_charAt : plainFor (⟨"java/lang/String", "charAt", "(I)C"⟩ : MethodName) = true := plainFor_of_name (by first | (simp [plainName, overriddenIn]; done) | decide +kernel)
set_option maxRecDepth 65536 in
set_option maxHeartbeats 40000000 in
theorem ct_charAt {l : Launch} {Z : State} {a0 : Array Value} (hw : ∀ d ∈ tables_1, d.before a0 Z = true) (h0 : Heap) (n0 : Nat) (a : Addr) (k : Int32) (y : Addr) (bs : List Int32) (zc : Int32) (fv : Value) (hi : ¬ k < 0) (hin : k.toNatClampNeg < bs.length) (hbig : bs.length ≤ 1000) (hzc : ¬ zc = 0) (hfv : fv.isRef = true) (S_COMPACT_STRINGS : Sta Z h0 "java/lang/String" "COMPACT_STRINGS" "Z" (.int zc)) (S_SIOOBE_FORMATTER : Sta Z h0 "jdk/internal/util/Preconditions" "SIOOBE_FORMATTER" "Ljava/util/function/BiFunction;" fv) (O_a : StrO Z h0 a y) (O_y : Ar Z h0 y .byte (bs.map Value.int)) :
    Ct l Z (⟨"java/lang/String", "charAt", "(I)C"⟩ : MethodName) jdk_42_method_56_code 2 (Option.some Jvm.ClassFile.FieldType.char) [] rm_charAt #[.ref a, .int k] h0 n0 (fun v h => v = some (.int (chAt bs k)) ∧ h = h0) := by
  refine Ct.of (Ls := #[.val (.ref a), .val (.int k)]) pf_charAt (fun m => by first | (simp [entryFrame, mkF, argsToLocals, Value.category, maxLocals]; done) | (cases fv <;> first | (simp [Value.isRef] at hfv; done) | (simp [entryFrame, mkF, argsToLocals, Value.category]; done) | rfl) | rfl) ?_
  intro p e s m below meth c C
  refine w_aloadN (pc' := 1) C d2_0 rfl rfl rfl ?_
  refine w_callV (Cl := "java/lang/String") (pc' := 4) (argsL := []) (st := []) (W := 0) (ce' := 0) (sl' := 0) C (tw hw 18 rfl) (tw hw 19 rfl) (tw hw 21 rfl) (tw hw 20 rfl) (tw hw 6 rfl) (tw hw 22 rfl) (by decide) d2_1 rfl rfl (by decide) (by decide) (Nat.le_of_eq rfl) rfl rfl (by decide) (by decide) rfl (lenOf pd_2 rfl) O_a.1 (ct_isLatin1 hw h0 n0 a y zc fv hzc S_COMPACT_STRINGS O_a) (kp ?_)
  refine w_if_eq (pcT := 16) (pcF := 7) C d2_4 (by decide) (by decide) rfl (fun q => absurd q (by decide)) (fun q4 => ?_)
  refine w_aloadN (pc' := 8) C d2_7 rfl rfl rfl ?_
  refine w_getF (pc' := 11) C (tw hw 25 rfl) d2_8 rfl O_a.2.2 ?_
  refine w_iloadN (pc' := 12) C d2_11 rfl rfl ?_
  refine w_callS (pc' := 15) (argsL := [.ref y, .int k]) (st := []) (W := 0) (ce' := 0) (sl' := 0) C (tw hw 26 rfl) (tw hw 27 rfl) (tw hw 28 rfl) (tw hw 29 rfl) (by decide) d2_12 rfl rfl (by decide) (by decide) (Nat.le_of_eq rfl) rfl rfl (by decide) (by decide) rfl (lenOf pd_3 rfl) (ct_lcharAt hw h0 n0 y k bs fv hi hin hbig hfv S_SIOOBE_FORMATTER O_y) (kp ?_)
  refine w_retN' (t := .char) (z' := (toCh (toCh (toCh ((bs.getD k.toNatClampNeg 0) &&& (255 : Int32)))))) C rfl (by simp) d2_15 (closeN (by decide) (by decide)) rfl ?_
  exact ⟨rfl, rfl⟩
theorem d10_0 : decode prog_108_method_14_code 0 = .ok (.iload_n 0, 1) := by decide +kernel
theorem d10_1 : decode prog_108_method_14_code 1 = .ok (.bipush 32, 2) := by decide +kernel
theorem d10_3 : decode prog_108_method_14_code 3 = .ok (.if_icmp .eq 21, 3) := by decide +kernel
theorem d10_6 : decode prog_108_method_14_code 6 = .ok (.iload_n 0, 1) := by decide +kernel
theorem d10_7 : decode prog_108_method_14_code 7 = .ok (.bipush 9, 2) := by decide +kernel
theorem d10_9 : decode prog_108_method_14_code 9 = .ok (.if_icmp .eq 15, 3) := by decide +kernel
theorem d10_12 : decode prog_108_method_14_code 12 = .ok (.iload_n 0, 1) := by decide +kernel
theorem d10_13 : decode prog_108_method_14_code 13 = .ok (.bipush 10, 2) := by decide +kernel
theorem d10_15 : decode prog_108_method_14_code 15 = .ok (.if_icmp .eq 9, 3) := by decide +kernel
theorem d10_18 : decode prog_108_method_14_code 18 = .ok (.iload_n 0, 1) := by decide +kernel
theorem d10_19 : decode prog_108_method_14_code 19 = .ok (.bipush 13, 2) := by decide +kernel
theorem d10_21 : decode prog_108_method_14_code 21 = .ok (.if_icmp .ne 7, 3) := by decide +kernel
theorem d10_24 : decode prog_108_method_14_code 24 = .ok (.iconst 1, 1) := by decide +kernel
theorem d10_25 : decode prog_108_method_14_code 25 = .ok (.goto 4, 3) := by decide +kernel
theorem d10_28 : decode prog_108_method_14_code 28 = .ok (.iconst 0, 1) := by decide +kernel
theorem d10_29 : decode prog_108_method_14_code 29 = .ok (.ireturn, 1) := by decide +kernel
def isSp_24 (z : Int32) : Int32 := (1 : Int32)
def isSp (z : Int32) : Int32 := (if z = (32 : Int32) then (isSp_24 z) else (if z = (9 : Int32) then (isSp_24 z) else (if z = (10 : Int32) then (isSp_24 z) else (if z = (13 : Int32) then (isSp_24 z) else (0 : Int32)))))
def rm_isSp : Room := { frames := 0, cells := 0, slots := 0, locals := 0 }
def Q_isSp (z : Int32) (h0 : Heap) (v : Option Value) (h : Heap) : Prop := v = some (.int (isSp z)) ∧ h = h0
theorem pf_isSp : plainFor (⟨"com/example/fedlint/fedlint/XsdDatatypes", "isSpace", "(C)Z"⟩ : MethodName) = true := plainFor_of_name (by first | (simp [plainName, overriddenIn]; done) | decide +kernel)
set_option maxRecDepth 65536 in
set_option maxHeartbeats 40000000 in
theorem ct_isSp {l : Launch} {Z : State} {a0 : Array Value} (hw : ∀ d ∈ tables_1, d.before a0 Z = true) (h0 : Heap) (n0 : Nat) (z : Int32)  :
    Ct l Z (⟨"com/example/fedlint/fedlint/XsdDatatypes", "isSpace", "(C)Z"⟩ : MethodName) prog_108_method_14_code 1 (Option.some Jvm.ClassFile.FieldType.boolean) [] rm_isSp #[.int z] h0 n0 (Q_isSp z h0) := by
  refine Ct.of (Ls := #[.val (.int z)]) pf_isSp (fun m => by first | (simp [entryFrame, mkF, argsToLocals, Value.category, maxLocals]; done) | rfl) ?_
  intro p e s m below meth c C
  have K24 : isSp z = isSp_24 z → Wp p l e rm_isSp s m #[.int z] below meth c n0 (EN s rm_isSp.cells rm_isSp.slots) (Q_isSp z h0) h0 0 0 (mkF m 24 #[.val (.int z)] []) := by
    intro hr
    change _ = (1 : Int32) at hr
    refine w_iconst (pc' := 25) (x := (1 : Int32)) C d10_24 rfl rfl ?_
    refine w_goto (pc' := 29) C d10_25 (by decide) (by decide) ?_
    refine w_retN' (t := .boolean) (z' := (1 : Int32)) C rfl (by simp) d10_29 (closeN (by decide) (by decide)) narB1 ?_
    exact And.intro (congrArg (fun z => some (Value.int z)) hr.symm) rfl
  have hr : isSp z = (if z = (32 : Int32) then (isSp_24 z) else (if z = (9 : Int32) then (isSp_24 z) else (if z = (10 : Int32) then (isSp_24 z) else (if z = (13 : Int32) then (isSp_24 z) else (0 : Int32))))) := rfl
  refine w_iloadN (pc' := 1) C d10_0 rfl rfl ?_
  refine w_bipush (pc' := 3) (x := (32 : Int32)) C d10_1 rfl rfl ?_
  refine w_icmp_eq (pcT := 24) (pcF := 6) C d10_3 (by decide) (by decide) rfl (fun q3 => ?_) (fun q3 => ?_)
  · have hr := hr.trans (if_pos q3)
    exact K24 hr
  · have hr := hr.trans (if_neg q3)
    refine w_iloadN (pc' := 7) C d10_6 rfl rfl ?_
    refine w_bipush (pc' := 9) (x := (9 : Int32)) C d10_7 rfl rfl ?_
    refine w_icmp_eq (pcT := 24) (pcF := 12) C d10_9 (by decide) (by decide) rfl (fun q9 => ?_) (fun q9 => ?_)
    · have hr := hr.trans (if_pos q9)
      exact K24 hr
    · have hr := hr.trans (if_neg q9)
      refine w_iloadN (pc' := 13) C d10_12 rfl rfl ?_
      refine w_bipush (pc' := 15) (x := (10 : Int32)) C d10_13 rfl rfl ?_
      refine w_icmp_eq (pcT := 24) (pcF := 18) C d10_15 (by decide) (by decide) rfl (fun q15 => ?_) (fun q15 => ?_)
      · have hr := hr.trans (if_pos q15)
        exact K24 hr
      · have hr := hr.trans (if_neg q15)
        refine w_iloadN (pc' := 19) C d10_18 rfl rfl ?_
        refine w_bipush (pc' := 21) (x := (13 : Int32)) C d10_19 rfl rfl ?_
        refine w_icmp_ne (pcT := 28) (pcF := 24) C d10_21 (by decide) (by decide) rfl (fun q21 => ?_) (fun q21 => ?_)
        · have hr := hr.trans (if_neg q21)
          refine w_iconst (pc' := 29) (x := (0 : Int32)) C d10_28 rfl rfl ?_
          refine w_retN' (t := .boolean) (z' := (0 : Int32)) C rfl (by simp) d10_29 (closeN (by decide) (by decide)) narB0 ?_
          exact And.intro (congrArg (fun z => some (Value.int z)) hr.symm) rfl
        · have hr := hr.trans (if_pos q21)
          exact K24 hr
theorem d11_0 : decode prog_108_method_9_code 0 = .ok (.iload_n 0, 1) := by decide +kernel
theorem d11_1 : decode prog_108_method_9_code 1 = .ok (.bipush 65, 2) := by decide +kernel
theorem d11_3 : decode prog_108_method_9_code 3 = .ok (.if_icmp .lt 14, 3) := by decide +kernel
theorem d11_6 : decode prog_108_method_9_code 6 = .ok (.iload_n 0, 1) := by decide +kernel
theorem d11_7 : decode prog_108_method_9_code 7 = .ok (.bipush 90, 2) := by decide +kernel
theorem d11_9 : decode prog_108_method_9_code 9 = .ok (.if_icmp .gt 8, 3) := by decide +kernel
theorem d11_12 : decode prog_108_method_9_code 12 = .ok (.iload_n 0, 1) := by decide +kernel
theorem d11_13 : decode prog_108_method_9_code 13 = .ok (.bipush 65, 2) := by decide +kernel
theorem d11_15 : decode prog_108_method_9_code 15 = .ok (.isub, 1) := by decide +kernel
theorem d11_16 : decode prog_108_method_9_code 16 = .ok (.ireturn, 1) := by decide +kernel
theorem d11_17 : decode prog_108_method_9_code 17 = .ok (.iload_n 0, 1) := by decide +kernel
theorem d11_18 : decode prog_108_method_9_code 18 = .ok (.bipush 97, 2) := by decide +kernel
theorem d11_20 : decode prog_108_method_9_code 20 = .ok (.if_icmp .lt 17, 3) := by decide +kernel
theorem d11_23 : decode prog_108_method_9_code 23 = .ok (.iload_n 0, 1) := by decide +kernel
theorem d11_24 : decode prog_108_method_9_code 24 = .ok (.bipush 122, 2) := by decide +kernel
theorem d11_26 : decode prog_108_method_9_code 26 = .ok (.if_icmp .gt 11, 3) := by decide +kernel
theorem d11_29 : decode prog_108_method_9_code 29 = .ok (.iload_n 0, 1) := by decide +kernel
theorem d11_30 : decode prog_108_method_9_code 30 = .ok (.bipush 97, 2) := by decide +kernel
theorem d11_32 : decode prog_108_method_9_code 32 = .ok (.isub, 1) := by decide +kernel
theorem d11_33 : decode prog_108_method_9_code 33 = .ok (.bipush 26, 2) := by decide +kernel
theorem d11_35 : decode prog_108_method_9_code 35 = .ok (.iadd, 1) := by decide +kernel
theorem d11_36 : decode prog_108_method_9_code 36 = .ok (.ireturn, 1) := by decide +kernel
theorem d11_37 : decode prog_108_method_9_code 37 = .ok (.iload_n 0, 1) := by decide +kernel
theorem d11_38 : decode prog_108_method_9_code 38 = .ok (.bipush 48, 2) := by decide +kernel
theorem d11_40 : decode prog_108_method_9_code 40 = .ok (.if_icmp .lt 17, 3) := by decide +kernel
theorem d11_43 : decode prog_108_method_9_code 43 = .ok (.iload_n 0, 1) := by decide +kernel
theorem d11_44 : decode prog_108_method_9_code 44 = .ok (.bipush 57, 2) := by decide +kernel
theorem d11_46 : decode prog_108_method_9_code 46 = .ok (.if_icmp .gt 11, 3) := by decide +kernel
theorem d11_49 : decode prog_108_method_9_code 49 = .ok (.iload_n 0, 1) := by decide +kernel
theorem d11_50 : decode prog_108_method_9_code 50 = .ok (.bipush 48, 2) := by decide +kernel
theorem d11_52 : decode prog_108_method_9_code 52 = .ok (.isub, 1) := by decide +kernel
theorem d11_53 : decode prog_108_method_9_code 53 = .ok (.bipush 52, 2) := by decide +kernel
theorem d11_55 : decode prog_108_method_9_code 55 = .ok (.iadd, 1) := by decide +kernel
theorem d11_56 : decode prog_108_method_9_code 56 = .ok (.ireturn, 1) := by decide +kernel
theorem d11_57 : decode prog_108_method_9_code 57 = .ok (.iload_n 0, 1) := by decide +kernel
theorem d11_58 : decode prog_108_method_9_code 58 = .ok (.bipush 43, 2) := by decide +kernel
theorem d11_60 : decode prog_108_method_9_code 60 = .ok (.if_icmp .ne 8, 3) := by decide +kernel
theorem d11_63 : decode prog_108_method_9_code 63 = .ok (.bipush 62, 2) := by decide +kernel
theorem d11_65 : decode prog_108_method_9_code 65 = .ok (.goto 15, 3) := by decide +kernel
theorem d11_68 : decode prog_108_method_9_code 68 = .ok (.iload_n 0, 1) := by decide +kernel
theorem d11_69 : decode prog_108_method_9_code 69 = .ok (.bipush 47, 2) := by decide +kernel
theorem d11_71 : decode prog_108_method_9_code 71 = .ok (.if_icmp .ne 8, 3) := by decide +kernel
theorem d11_74 : decode prog_108_method_9_code 74 = .ok (.bipush 63, 2) := by decide +kernel
theorem d11_76 : decode prog_108_method_9_code 76 = .ok (.goto 4, 3) := by decide +kernel
theorem d11_79 : decode prog_108_method_9_code 79 = .ok (.iconst (-1), 1) := by decide +kernel
theorem d11_80 : decode prog_108_method_9_code 80 = .ok (.ireturn, 1) := by decide +kernel
def b64_57 (z : Int32) : Int32 := (if z = (43 : Int32) then (62 : Int32) else (if z = (47 : Int32) then (63 : Int32) else (-1 : Int32)))
def b64_37 (z : Int32) : Int32 := (if z < (48 : Int32) then (b64_57 z) else (if (57 : Int32) < z then (b64_57 z) else ((z - (48 : Int32)) + (52 : Int32))))
def b64_17 (z : Int32) : Int32 := (if z < (97 : Int32) then (b64_37 z) else (if (122 : Int32) < z then (b64_37 z) else ((z - (97 : Int32)) + (26 : Int32))))
def b64 (z : Int32) : Int32 := (if z < (65 : Int32) then (b64_17 z) else (if (90 : Int32) < z then (b64_17 z) else (z - (65 : Int32))))
def rm_b64 : Room := { frames := 0, cells := 0, slots := 0, locals := 0 }
def Q_b64 (z : Int32) (h0 : Heap) (v : Option Value) (h : Heap) : Prop := v = some (.int (b64 z)) ∧ h = h0
theorem pf_b64 : plainFor (⟨"com/example/fedlint/fedlint/XsdDatatypes", "base64Value", "(C)I"⟩ : MethodName) = true := plainFor_of_name (by first | (simp [plainName, overriddenIn]; done) | decide +kernel)
set_option maxRecDepth 65536 in
set_option maxHeartbeats 40000000 in
theorem ct_b64 {l : Launch} {Z : State} {a0 : Array Value} (hw : ∀ d ∈ tables_1, d.before a0 Z = true) (h0 : Heap) (n0 : Nat) (z : Int32)  :
    Ct l Z (⟨"com/example/fedlint/fedlint/XsdDatatypes", "base64Value", "(C)I"⟩ : MethodName) prog_108_method_9_code 1 (Option.some Jvm.ClassFile.FieldType.int) [] rm_b64 #[.int z] h0 n0 (Q_b64 z h0) := by
  refine Ct.of (Ls := #[.val (.int z)]) pf_b64 (fun m => by first | (simp [entryFrame, mkF, argsToLocals, Value.category, maxLocals]; done) | rfl) ?_
  intro p e s m below meth c C
  have K57 : b64 z = b64_57 z → Wp p l e rm_b64 s m #[.int z] below meth c n0 (EN s rm_b64.cells rm_b64.slots) (Q_b64 z h0) h0 0 0 (mkF m 57 #[.val (.int z)] []) := by
    intro hr
    change _ = (if z = (43 : Int32) then (62 : Int32) else (if z = (47 : Int32) then (63 : Int32) else (-1 : Int32))) at hr
    refine w_iloadN (pc' := 58) C d11_57 rfl rfl ?_
    refine w_bipush (pc' := 60) (x := (43 : Int32)) C d11_58 rfl rfl ?_
    refine w_icmp_ne (pcT := 68) (pcF := 63) C d11_60 (by decide) (by decide) rfl (fun q60 => ?_) (fun q60 => ?_)
    · have hr := hr.trans (if_neg q60)
      refine w_iloadN (pc' := 69) C d11_68 rfl rfl ?_
      refine w_bipush (pc' := 71) (x := (47 : Int32)) C d11_69 rfl rfl ?_
      refine w_icmp_ne (pcT := 79) (pcF := 74) C d11_71 (by decide) (by decide) rfl (fun q71 => ?_) (fun q71 => ?_)
      · have hr := hr.trans (if_neg q71)
        refine w_iconst (pc' := 80) (x := (-1 : Int32)) C d11_79 rfl rfl ?_
        refine w_retI C rfl d11_80 (closeN (by decide) (by decide)) ?_
        exact And.intro (congrArg (fun z => some (Value.int z)) hr.symm) rfl
      · have hr := hr.trans (if_pos q71)
        refine w_bipush (pc' := 76) (x := (63 : Int32)) C d11_74 rfl rfl ?_
        refine w_goto (pc' := 80) C d11_76 (by decide) (by decide) ?_
        refine w_retI C rfl d11_80 (closeN (by decide) (by decide)) ?_
        exact And.intro (congrArg (fun z => some (Value.int z)) hr.symm) rfl
    · have hr := hr.trans (if_pos q60)
      refine w_bipush (pc' := 65) (x := (62 : Int32)) C d11_63 rfl rfl ?_
      refine w_goto (pc' := 80) C d11_65 (by decide) (by decide) ?_
      refine w_retI C rfl d11_80 (closeN (by decide) (by decide)) ?_
      exact And.intro (congrArg (fun z => some (Value.int z)) hr.symm) rfl
  have K37 : b64 z = b64_37 z → Wp p l e rm_b64 s m #[.int z] below meth c n0 (EN s rm_b64.cells rm_b64.slots) (Q_b64 z h0) h0 0 0 (mkF m 37 #[.val (.int z)] []) := by
    intro hr
    change _ = (if z < (48 : Int32) then (b64_57 z) else (if (57 : Int32) < z then (b64_57 z) else ((z - (48 : Int32)) + (52 : Int32)))) at hr
    refine w_iloadN (pc' := 38) C d11_37 rfl rfl ?_
    refine w_bipush (pc' := 40) (x := (48 : Int32)) C d11_38 rfl rfl ?_
    refine w_icmp_lt (pcT := 57) (pcF := 43) C d11_40 (by decide) (by decide) rfl (fun q40 => ?_) (fun q40 => ?_)
    · have hr := hr.trans (if_pos q40)
      exact K57 hr
    · have hr := hr.trans (if_neg q40)
      refine w_iloadN (pc' := 44) C d11_43 rfl rfl ?_
      refine w_bipush (pc' := 46) (x := (57 : Int32)) C d11_44 rfl rfl ?_
      refine w_icmp_gt (pcT := 57) (pcF := 49) C d11_46 (by decide) (by decide) rfl (fun q46 => ?_) (fun q46 => ?_)
      · have hr := hr.trans (if_pos q46)
        exact K57 hr
      · have hr := hr.trans (if_neg q46)
        refine w_iloadN (pc' := 50) C d11_49 rfl rfl ?_
        refine w_bipush (pc' := 52) (x := (48 : Int32)) C d11_50 rfl rfl ?_
        refine w_isub (pc' := 53) C d11_52 rfl ?_
        refine w_bipush (pc' := 55) (x := (52 : Int32)) C d11_53 rfl rfl ?_
        refine w_iadd (pc' := 56) C d11_55 rfl ?_
        refine w_retI C rfl d11_56 (closeN (by decide) (by decide)) ?_
        exact And.intro (congrArg (fun z => some (Value.int z)) hr.symm) rfl
  have K17 : b64 z = b64_17 z → Wp p l e rm_b64 s m #[.int z] below meth c n0 (EN s rm_b64.cells rm_b64.slots) (Q_b64 z h0) h0 0 0 (mkF m 17 #[.val (.int z)] []) := by
    intro hr
    change _ = (if z < (97 : Int32) then (b64_37 z) else (if (122 : Int32) < z then (b64_37 z) else ((z - (97 : Int32)) + (26 : Int32)))) at hr
    refine w_iloadN (pc' := 18) C d11_17 rfl rfl ?_
    refine w_bipush (pc' := 20) (x := (97 : Int32)) C d11_18 rfl rfl ?_
    refine w_icmp_lt (pcT := 37) (pcF := 23) C d11_20 (by decide) (by decide) rfl (fun q20 => ?_) (fun q20 => ?_)
    · have hr := hr.trans (if_pos q20)
      exact K37 hr
    · have hr := hr.trans (if_neg q20)
      refine w_iloadN (pc' := 24) C d11_23 rfl rfl ?_
      refine w_bipush (pc' := 26) (x := (122 : Int32)) C d11_24 rfl rfl ?_
      refine w_icmp_gt (pcT := 37) (pcF := 29) C d11_26 (by decide) (by decide) rfl (fun q26 => ?_) (fun q26 => ?_)
      · have hr := hr.trans (if_pos q26)
        exact K37 hr
      · have hr := hr.trans (if_neg q26)
        refine w_iloadN (pc' := 30) C d11_29 rfl rfl ?_
        refine w_bipush (pc' := 32) (x := (97 : Int32)) C d11_30 rfl rfl ?_
        refine w_isub (pc' := 33) C d11_32 rfl ?_
        refine w_bipush (pc' := 35) (x := (26 : Int32)) C d11_33 rfl rfl ?_
        refine w_iadd (pc' := 36) C d11_35 rfl ?_
        refine w_retI C rfl d11_36 (closeN (by decide) (by decide)) ?_
        exact And.intro (congrArg (fun z => some (Value.int z)) hr.symm) rfl
  have hr : b64 z = (if z < (65 : Int32) then (b64_17 z) else (if (90 : Int32) < z then (b64_17 z) else (z - (65 : Int32)))) := rfl
  refine w_iloadN (pc' := 1) C d11_0 rfl rfl ?_
  refine w_bipush (pc' := 3) (x := (65 : Int32)) C d11_1 rfl rfl ?_
  refine w_icmp_lt (pcT := 17) (pcF := 6) C d11_3 (by decide) (by decide) rfl (fun q3 => ?_) (fun q3 => ?_)
  · have hr := hr.trans (if_pos q3)
    exact K17 hr
  · have hr := hr.trans (if_neg q3)
    refine w_iloadN (pc' := 7) C d11_6 rfl rfl ?_
    refine w_bipush (pc' := 9) (x := (90 : Int32)) C d11_7 rfl rfl ?_
    refine w_icmp_gt (pcT := 17) (pcF := 12) C d11_9 (by decide) (by decide) rfl (fun q9 => ?_) (fun q9 => ?_)
    · have hr := hr.trans (if_pos q9)
      exact K17 hr
    · have hr := hr.trans (if_neg q9)
      refine w_iloadN (pc' := 13) C d11_12 rfl rfl ?_
      refine w_bipush (pc' := 15) (x := (65 : Int32)) C d11_13 rfl rfl ?_
      refine w_isub (pc' := 16) C d11_15 rfl ?_
      refine w_retI C rfl d11_16 (closeN (by decide) (by decide)) ?_
      exact And.intro (congrArg (fun z => some (Value.int z)) hr.symm) rfl
theorem d14_0 : decode method_3_code 0 = .ok (.iload_n 0, 1) := by decide +kernel
theorem d14_1 : decode method_3_code 1 = .ok (.bipush 32, 2) := by decide +kernel
theorem d14_3 : decode method_3_code 3 = .ok (.if_icmp .eq 21, 3) := by decide +kernel
theorem d14_6 : decode method_3_code 6 = .ok (.iload_n 0, 1) := by decide +kernel
theorem d14_7 : decode method_3_code 7 = .ok (.bipush 9, 2) := by decide +kernel
theorem d14_9 : decode method_3_code 9 = .ok (.if_icmp .eq 15, 3) := by decide +kernel
theorem d14_12 : decode method_3_code 12 = .ok (.iload_n 0, 1) := by decide +kernel
theorem d14_13 : decode method_3_code 13 = .ok (.bipush 10, 2) := by decide +kernel
theorem d14_15 : decode method_3_code 15 = .ok (.if_icmp .eq 9, 3) := by decide +kernel
theorem d14_18 : decode method_3_code 18 = .ok (.iload_n 0, 1) := by decide +kernel
theorem d14_19 : decode method_3_code 19 = .ok (.bipush 13, 2) := by decide +kernel
theorem d14_21 : decode method_3_code 21 = .ok (.if_icmp .ne 7, 3) := by decide +kernel
theorem d14_24 : decode method_3_code 24 = .ok (.iconst 1, 1) := by decide +kernel
theorem d14_25 : decode method_3_code 25 = .ok (.goto 4, 3) := by decide +kernel
theorem d14_28 : decode method_3_code 28 = .ok (.iconst 0, 1) := by decide +kernel
theorem d14_29 : decode method_3_code 29 = .ok (.ireturn, 1) := by decide +kernel
def spF_24 (z : Int32) : Int32 := (1 : Int32)
def spF (z : Int32) : Int32 := (if z = (32 : Int32) then (spF_24 z) else (if z = (9 : Int32) then (spF_24 z) else (if z = (10 : Int32) then (spF_24 z) else (if z = (13 : Int32) then (spF_24 z) else (0 : Int32)))))
def rm_spF : Room := { frames := 0, cells := 0, slots := 0, locals := 0 }
def Q_spF (z : Int32) (h0 : Heap) (v : Option Value) (h : Heap) : Prop := v = some (.int (spF z)) ∧ h = h0
theorem pf_spF : plainFor (⟨"com/example/fedlint/fedlint/Base64ValidPinLaw", "sp", "(C)Z"⟩ : MethodName) = true := plainFor_of_name (by first | (simp [plainName, overriddenIn]; done) | decide +kernel)
set_option maxRecDepth 65536 in
set_option maxHeartbeats 40000000 in
theorem ct_spF {l : Launch} {Z : State} {a0 : Array Value} (hw : ∀ d ∈ tables_1, d.before a0 Z = true) (h0 : Heap) (n0 : Nat) (z : Int32)  :
    Ct l Z (⟨"com/example/fedlint/fedlint/Base64ValidPinLaw", "sp", "(C)Z"⟩ : MethodName) method_3_code 1 (Option.some Jvm.ClassFile.FieldType.boolean) [] rm_spF #[.int z] h0 n0 (Q_spF z h0) := by
  refine Ct.of (Ls := #[.val (.int z)]) pf_spF (fun m => by first | (simp [entryFrame, mkF, argsToLocals, Value.category, maxLocals]; done) | rfl) ?_
  intro p e s m below meth c C
  have K24 : spF z = spF_24 z → Wp p l e rm_spF s m #[.int z] below meth c n0 (EN s rm_spF.cells rm_spF.slots) (Q_spF z h0) h0 0 0 (mkF m 24 #[.val (.int z)] []) := by
    intro hr
    change _ = (1 : Int32) at hr
    refine w_iconst (pc' := 25) (x := (1 : Int32)) C d14_24 rfl rfl ?_
    refine w_goto (pc' := 29) C d14_25 (by decide) (by decide) ?_
    refine w_retN' (t := .boolean) (z' := (1 : Int32)) C rfl (by simp) d14_29 (closeN (by decide) (by decide)) narB1 ?_
    exact And.intro (congrArg (fun z => some (Value.int z)) hr.symm) rfl
  have hr : spF z = (if z = (32 : Int32) then (spF_24 z) else (if z = (9 : Int32) then (spF_24 z) else (if z = (10 : Int32) then (spF_24 z) else (if z = (13 : Int32) then (spF_24 z) else (0 : Int32))))) := rfl
  refine w_iloadN (pc' := 1) C d14_0 rfl rfl ?_
  refine w_bipush (pc' := 3) (x := (32 : Int32)) C d14_1 rfl rfl ?_
  refine w_icmp_eq (pcT := 24) (pcF := 6) C d14_3 (by decide) (by decide) rfl (fun q3 => ?_) (fun q3 => ?_)
  · have hr := hr.trans (if_pos q3)
    exact K24 hr
  · have hr := hr.trans (if_neg q3)
    refine w_iloadN (pc' := 7) C d14_6 rfl rfl ?_
    refine w_bipush (pc' := 9) (x := (9 : Int32)) C d14_7 rfl rfl ?_
    refine w_icmp_eq (pcT := 24) (pcF := 12) C d14_9 (by decide) (by decide) rfl (fun q9 => ?_) (fun q9 => ?_)
    · have hr := hr.trans (if_pos q9)
      exact K24 hr
    · have hr := hr.trans (if_neg q9)
      refine w_iloadN (pc' := 13) C d14_12 rfl rfl ?_
      refine w_bipush (pc' := 15) (x := (10 : Int32)) C d14_13 rfl rfl ?_
      refine w_icmp_eq (pcT := 24) (pcF := 18) C d14_15 (by decide) (by decide) rfl (fun q15 => ?_) (fun q15 => ?_)
      · have hr := hr.trans (if_pos q15)
        exact K24 hr
      · have hr := hr.trans (if_neg q15)
        refine w_iloadN (pc' := 19) C d14_18 rfl rfl ?_
        refine w_bipush (pc' := 21) (x := (13 : Int32)) C d14_19 rfl rfl ?_
        refine w_icmp_ne (pcT := 28) (pcF := 24) C d14_21 (by decide) (by decide) rfl (fun q21 => ?_) (fun q21 => ?_)
        · have hr := hr.trans (if_neg q21)
          refine w_iconst (pc' := 29) (x := (0 : Int32)) C d14_28 rfl rfl ?_
          refine w_retN' (t := .boolean) (z' := (0 : Int32)) C rfl (by simp) d14_29 (closeN (by decide) (by decide)) narB0 ?_
          exact And.intro (congrArg (fun z => some (Value.int z)) hr.symm) rfl
        · have hr := hr.trans (if_pos q21)
          exact K24 hr
theorem d15_0 : decode method_4_code 0 = .ok (.iload_n 0, 1) := by decide +kernel
theorem d15_1 : decode method_4_code 1 = .ok (.bipush 65, 2) := by decide +kernel
theorem d15_3 : decode method_4_code 3 = .ok (.if_icmp .lt 14, 3) := by decide +kernel
theorem d15_6 : decode method_4_code 6 = .ok (.iload_n 0, 1) := by decide +kernel
theorem d15_7 : decode method_4_code 7 = .ok (.bipush 90, 2) := by decide +kernel
theorem d15_9 : decode method_4_code 9 = .ok (.if_icmp .gt 8, 3) := by decide +kernel
theorem d15_12 : decode method_4_code 12 = .ok (.iload_n 0, 1) := by decide +kernel
theorem d15_13 : decode method_4_code 13 = .ok (.bipush 65, 2) := by decide +kernel
theorem d15_15 : decode method_4_code 15 = .ok (.isub, 1) := by decide +kernel
theorem d15_16 : decode method_4_code 16 = .ok (.ireturn, 1) := by decide +kernel
theorem d15_17 : decode method_4_code 17 = .ok (.iload_n 0, 1) := by decide +kernel
theorem d15_18 : decode method_4_code 18 = .ok (.bipush 97, 2) := by decide +kernel
theorem d15_20 : decode method_4_code 20 = .ok (.if_icmp .lt 17, 3) := by decide +kernel
theorem d15_23 : decode method_4_code 23 = .ok (.iload_n 0, 1) := by decide +kernel
theorem d15_24 : decode method_4_code 24 = .ok (.bipush 122, 2) := by decide +kernel
theorem d15_26 : decode method_4_code 26 = .ok (.if_icmp .gt 11, 3) := by decide +kernel
theorem d15_29 : decode method_4_code 29 = .ok (.iload_n 0, 1) := by decide +kernel
theorem d15_30 : decode method_4_code 30 = .ok (.bipush 97, 2) := by decide +kernel
theorem d15_32 : decode method_4_code 32 = .ok (.isub, 1) := by decide +kernel
theorem d15_33 : decode method_4_code 33 = .ok (.bipush 26, 2) := by decide +kernel
theorem d15_35 : decode method_4_code 35 = .ok (.iadd, 1) := by decide +kernel
theorem d15_36 : decode method_4_code 36 = .ok (.ireturn, 1) := by decide +kernel
theorem d15_37 : decode method_4_code 37 = .ok (.iload_n 0, 1) := by decide +kernel
theorem d15_38 : decode method_4_code 38 = .ok (.bipush 48, 2) := by decide +kernel
theorem d15_40 : decode method_4_code 40 = .ok (.if_icmp .lt 17, 3) := by decide +kernel
theorem d15_43 : decode method_4_code 43 = .ok (.iload_n 0, 1) := by decide +kernel
theorem d15_44 : decode method_4_code 44 = .ok (.bipush 57, 2) := by decide +kernel
theorem d15_46 : decode method_4_code 46 = .ok (.if_icmp .gt 11, 3) := by decide +kernel
theorem d15_49 : decode method_4_code 49 = .ok (.iload_n 0, 1) := by decide +kernel
theorem d15_50 : decode method_4_code 50 = .ok (.bipush 48, 2) := by decide +kernel
theorem d15_52 : decode method_4_code 52 = .ok (.isub, 1) := by decide +kernel
theorem d15_53 : decode method_4_code 53 = .ok (.bipush 52, 2) := by decide +kernel
theorem d15_55 : decode method_4_code 55 = .ok (.iadd, 1) := by decide +kernel
theorem d15_56 : decode method_4_code 56 = .ok (.ireturn, 1) := by decide +kernel
theorem d15_57 : decode method_4_code 57 = .ok (.iload_n 0, 1) := by decide +kernel
theorem d15_58 : decode method_4_code 58 = .ok (.bipush 43, 2) := by decide +kernel
theorem d15_60 : decode method_4_code 60 = .ok (.if_icmp .ne 6, 3) := by decide +kernel
theorem d15_63 : decode method_4_code 63 = .ok (.bipush 62, 2) := by decide +kernel
theorem d15_65 : decode method_4_code 65 = .ok (.ireturn, 1) := by decide +kernel
theorem d15_66 : decode method_4_code 66 = .ok (.iload_n 0, 1) := by decide +kernel
theorem d15_67 : decode method_4_code 67 = .ok (.bipush 47, 2) := by decide +kernel
theorem d15_69 : decode method_4_code 69 = .ok (.if_icmp .ne 6, 3) := by decide +kernel
theorem d15_72 : decode method_4_code 72 = .ok (.bipush 63, 2) := by decide +kernel
theorem d15_74 : decode method_4_code 74 = .ok (.ireturn, 1) := by decide +kernel
theorem d15_75 : decode method_4_code 75 = .ok (.iconst (-1), 1) := by decide +kernel
theorem d15_76 : decode method_4_code 76 = .ok (.ireturn, 1) := by decide +kernel
def valF_57 (z : Int32) : Int32 := (if z = (43 : Int32) then (62 : Int32) else (if z = (47 : Int32) then (63 : Int32) else (-1 : Int32)))
def valF_37 (z : Int32) : Int32 := (if z < (48 : Int32) then (valF_57 z) else (if (57 : Int32) < z then (valF_57 z) else ((z - (48 : Int32)) + (52 : Int32))))
def valF_17 (z : Int32) : Int32 := (if z < (97 : Int32) then (valF_37 z) else (if (122 : Int32) < z then (valF_37 z) else ((z - (97 : Int32)) + (26 : Int32))))
def valF (z : Int32) : Int32 := (if z < (65 : Int32) then (valF_17 z) else (if (90 : Int32) < z then (valF_17 z) else (z - (65 : Int32))))
def rm_valF : Room := { frames := 0, cells := 0, slots := 0, locals := 0 }
def Q_valF (z : Int32) (h0 : Heap) (v : Option Value) (h : Heap) : Prop := v = some (.int (valF z)) ∧ h = h0
theorem pf_valF : plainFor (⟨"com/example/fedlint/fedlint/Base64ValidPinLaw", "val", "(C)I"⟩ : MethodName) = true := plainFor_of_name (by first | (simp [plainName, overriddenIn]; done) | decide +kernel)
set_option maxRecDepth 65536 in
set_option maxHeartbeats 40000000 in
theorem ct_valF {l : Launch} {Z : State} {a0 : Array Value} (hw : ∀ d ∈ tables_1, d.before a0 Z = true) (h0 : Heap) (n0 : Nat) (z : Int32)  :
    Ct l Z (⟨"com/example/fedlint/fedlint/Base64ValidPinLaw", "val", "(C)I"⟩ : MethodName) method_4_code 1 (Option.some Jvm.ClassFile.FieldType.int) [] rm_valF #[.int z] h0 n0 (Q_valF z h0) := by
  refine Ct.of (Ls := #[.val (.int z)]) pf_valF (fun m => by first | (simp [entryFrame, mkF, argsToLocals, Value.category, maxLocals]; done) | rfl) ?_
  intro p e s m below meth c C
  have K57 : valF z = valF_57 z → Wp p l e rm_valF s m #[.int z] below meth c n0 (EN s rm_valF.cells rm_valF.slots) (Q_valF z h0) h0 0 0 (mkF m 57 #[.val (.int z)] []) := by
    intro hr
    change _ = (if z = (43 : Int32) then (62 : Int32) else (if z = (47 : Int32) then (63 : Int32) else (-1 : Int32))) at hr
    refine w_iloadN (pc' := 58) C d15_57 rfl rfl ?_
    refine w_bipush (pc' := 60) (x := (43 : Int32)) C d15_58 rfl rfl ?_
    refine w_icmp_ne (pcT := 66) (pcF := 63) C d15_60 (by decide) (by decide) rfl (fun q60 => ?_) (fun q60 => ?_)
    · have hr := hr.trans (if_neg q60)
      refine w_iloadN (pc' := 67) C d15_66 rfl rfl ?_
      refine w_bipush (pc' := 69) (x := (47 : Int32)) C d15_67 rfl rfl ?_
      refine w_icmp_ne (pcT := 75) (pcF := 72) C d15_69 (by decide) (by decide) rfl (fun q69 => ?_) (fun q69 => ?_)
      · have hr := hr.trans (if_neg q69)
        refine w_iconst (pc' := 76) (x := (-1 : Int32)) C d15_75 rfl rfl ?_
        refine w_retI C rfl d15_76 (closeN (by decide) (by decide)) ?_
        exact And.intro (congrArg (fun z => some (Value.int z)) hr.symm) rfl
      · have hr := hr.trans (if_pos q69)
        refine w_bipush (pc' := 74) (x := (63 : Int32)) C d15_72 rfl rfl ?_
        refine w_retI C rfl d15_74 (closeN (by decide) (by decide)) ?_
        exact And.intro (congrArg (fun z => some (Value.int z)) hr.symm) rfl
    · have hr := hr.trans (if_pos q60)
      refine w_bipush (pc' := 65) (x := (62 : Int32)) C d15_63 rfl rfl ?_
      refine w_retI C rfl d15_65 (closeN (by decide) (by decide)) ?_
      exact And.intro (congrArg (fun z => some (Value.int z)) hr.symm) rfl
  have K37 : valF z = valF_37 z → Wp p l e rm_valF s m #[.int z] below meth c n0 (EN s rm_valF.cells rm_valF.slots) (Q_valF z h0) h0 0 0 (mkF m 37 #[.val (.int z)] []) := by
    intro hr
    change _ = (if z < (48 : Int32) then (valF_57 z) else (if (57 : Int32) < z then (valF_57 z) else ((z - (48 : Int32)) + (52 : Int32)))) at hr
    refine w_iloadN (pc' := 38) C d15_37 rfl rfl ?_
    refine w_bipush (pc' := 40) (x := (48 : Int32)) C d15_38 rfl rfl ?_
    refine w_icmp_lt (pcT := 57) (pcF := 43) C d15_40 (by decide) (by decide) rfl (fun q40 => ?_) (fun q40 => ?_)
    · have hr := hr.trans (if_pos q40)
      exact K57 hr
    · have hr := hr.trans (if_neg q40)
      refine w_iloadN (pc' := 44) C d15_43 rfl rfl ?_
      refine w_bipush (pc' := 46) (x := (57 : Int32)) C d15_44 rfl rfl ?_
      refine w_icmp_gt (pcT := 57) (pcF := 49) C d15_46 (by decide) (by decide) rfl (fun q46 => ?_) (fun q46 => ?_)
      · have hr := hr.trans (if_pos q46)
        exact K57 hr
      · have hr := hr.trans (if_neg q46)
        refine w_iloadN (pc' := 50) C d15_49 rfl rfl ?_
        refine w_bipush (pc' := 52) (x := (48 : Int32)) C d15_50 rfl rfl ?_
        refine w_isub (pc' := 53) C d15_52 rfl ?_
        refine w_bipush (pc' := 55) (x := (52 : Int32)) C d15_53 rfl rfl ?_
        refine w_iadd (pc' := 56) C d15_55 rfl ?_
        refine w_retI C rfl d15_56 (closeN (by decide) (by decide)) ?_
        exact And.intro (congrArg (fun z => some (Value.int z)) hr.symm) rfl
  have K17 : valF z = valF_17 z → Wp p l e rm_valF s m #[.int z] below meth c n0 (EN s rm_valF.cells rm_valF.slots) (Q_valF z h0) h0 0 0 (mkF m 17 #[.val (.int z)] []) := by
    intro hr
    change _ = (if z < (97 : Int32) then (valF_37 z) else (if (122 : Int32) < z then (valF_37 z) else ((z - (97 : Int32)) + (26 : Int32)))) at hr
    refine w_iloadN (pc' := 18) C d15_17 rfl rfl ?_
    refine w_bipush (pc' := 20) (x := (97 : Int32)) C d15_18 rfl rfl ?_
    refine w_icmp_lt (pcT := 37) (pcF := 23) C d15_20 (by decide) (by decide) rfl (fun q20 => ?_) (fun q20 => ?_)
    · have hr := hr.trans (if_pos q20)
      exact K37 hr
    · have hr := hr.trans (if_neg q20)
      refine w_iloadN (pc' := 24) C d15_23 rfl rfl ?_
      refine w_bipush (pc' := 26) (x := (122 : Int32)) C d15_24 rfl rfl ?_
      refine w_icmp_gt (pcT := 37) (pcF := 29) C d15_26 (by decide) (by decide) rfl (fun q26 => ?_) (fun q26 => ?_)
      · have hr := hr.trans (if_pos q26)
        exact K37 hr
      · have hr := hr.trans (if_neg q26)
        refine w_iloadN (pc' := 30) C d15_29 rfl rfl ?_
        refine w_bipush (pc' := 32) (x := (97 : Int32)) C d15_30 rfl rfl ?_
        refine w_isub (pc' := 33) C d15_32 rfl ?_
        refine w_bipush (pc' := 35) (x := (26 : Int32)) C d15_33 rfl rfl ?_
        refine w_iadd (pc' := 36) C d15_35 rfl ?_
        refine w_retI C rfl d15_36 (closeN (by decide) (by decide)) ?_
        exact And.intro (congrArg (fun z => some (Value.int z)) hr.symm) rfl
  have hr : valF z = (if z < (65 : Int32) then (valF_17 z) else (if (90 : Int32) < z then (valF_17 z) else (z - (65 : Int32)))) := rfl
  refine w_iloadN (pc' := 1) C d15_0 rfl rfl ?_
  refine w_bipush (pc' := 3) (x := (65 : Int32)) C d15_1 rfl rfl ?_
  refine w_icmp_lt (pcT := 17) (pcF := 6) C d15_3 (by decide) (by decide) rfl (fun q3 => ?_) (fun q3 => ?_)
  · have hr := hr.trans (if_pos q3)
    exact K17 hr
  · have hr := hr.trans (if_neg q3)
    refine w_iloadN (pc' := 7) C d15_6 rfl rfl ?_
    refine w_bipush (pc' := 9) (x := (90 : Int32)) C d15_7 rfl rfl ?_
    refine w_icmp_gt (pcT := 17) (pcF := 12) C d15_9 (by decide) (by decide) rfl (fun q9 => ?_) (fun q9 => ?_)
    · have hr := hr.trans (if_pos q9)
      exact K17 hr
    · have hr := hr.trans (if_neg q9)
      refine w_iloadN (pc' := 13) C d15_12 rfl rfl ?_
      refine w_bipush (pc' := 15) (x := (65 : Int32)) C d15_13 rfl rfl ?_
      refine w_isub (pc' := 16) C d15_15 rfl ?_
      refine w_retI C rfl d15_16 (closeN (by decide) (by decide)) ?_
      exact And.intro (congrArg (fun z => some (Value.int z)) hr.symm) rfl
theorem d13_0 : decode method_5_code 0 = .ok (.iload_n 0, 1) := by decide +kernel
theorem d13_1 : decode method_5_code 1 = .ok (.invokestatic 17, 3) := by decide +kernel
theorem d13_4 : decode method_5_code 4 = .ok (.ifCond .ne 20, 3) := by decide +kernel
theorem d13_7 : decode method_5_code 7 = .ok (.iload_n 0, 1) := by decide +kernel
theorem d13_8 : decode method_5_code 8 = .ok (.bipush 61, 2) := by decide +kernel
theorem d13_10 : decode method_5_code 10 = .ok (.if_icmp .eq 14, 3) := by decide +kernel
theorem d13_13 : decode method_5_code 13 = .ok (.iload_n 0, 1) := by decide +kernel
theorem d13_14 : decode method_5_code 14 = .ok (.invokestatic 23, 3) := by decide +kernel
theorem d13_17 : decode method_5_code 17 = .ok (.ifCond .ge 7, 3) := by decide +kernel
theorem d13_20 : decode method_5_code 20 = .ok (.iconst 1, 1) := by decide +kernel
theorem d13_21 : decode method_5_code 21 = .ok (.goto 4, 3) := by decide +kernel
theorem d13_24 : decode method_5_code 24 = .ok (.iconst 0, 1) := by decide +kernel
theorem d13_25 : decode method_5_code 25 = .ok (.ireturn, 1) := by decide +kernel
def badF_24 (z : Int32) : Int32 := (0 : Int32)
def badF (z : Int32) : Int32 := (if (spF z) = 0 then (if z = (61 : Int32) then (badF_24 z) else (if (valF z) < 0 then (1 : Int32) else (badF_24 z))) else (badF_24 z))
def rm_badF : Room := { frames := 1, cells := 0, slots := 0, locals := 12 }
def Q_badF (z : Int32) (h0 : Heap) (v : Option Value) (h : Heap) : Prop := v = some (.int (badF z)) ∧ h = h0
theorem pf_badF : plainFor (⟨"com/example/fedlint/fedlint/Base64ValidPinLaw", "bad", "(C)Z"⟩ : MethodName) = true := plainFor_of_name (by first | (simp [plainName, overriddenIn]; done) | decide +kernel)
set_option maxRecDepth 65536 in
set_option maxHeartbeats 40000000 in
theorem ct_badF {l : Launch} {Z : State} {a0 : Array Value} (hw : ∀ d ∈ tables_1, d.before a0 Z = true) (h0 : Heap) (n0 : Nat) (z : Int32)  :
    Ct l Z (⟨"com/example/fedlint/fedlint/Base64ValidPinLaw", "bad", "(C)Z"⟩ : MethodName) method_5_code 1 (Option.some Jvm.ClassFile.FieldType.boolean) [] rm_badF #[.int z] h0 n0 (Q_badF z h0) := by
  refine Ct.of (Ls := #[.val (.int z)]) pf_badF (fun m => by first | (simp [entryFrame, mkF, argsToLocals, Value.category, maxLocals]; done) | rfl) ?_
  intro p e s m below meth c C
  have K24 : badF z = badF_24 z → Wp p l e rm_badF s m #[.int z] below meth c n0 (EN s rm_badF.cells rm_badF.slots) (Q_badF z h0) h0 0 0 (mkF m 24 #[.val (.int z)] []) := by
    intro hr
    change _ = (0 : Int32) at hr
    refine w_iconst (pc' := 25) (x := (0 : Int32)) C d13_24 rfl rfl ?_
    refine w_retN' (t := .boolean) (z' := (0 : Int32)) C rfl (by simp) d13_25 (closeN (by decide) (by decide)) narB0 ?_
    exact And.intro (congrArg (fun z => some (Value.int z)) hr.symm) rfl
  have hr : badF z = (if (spF z) = 0 then (if z = (61 : Int32) then (badF_24 z) else (if (valF z) < 0 then (1 : Int32) else (badF_24 z))) else (badF_24 z)) := rfl
  refine w_iloadN (pc' := 1) C d13_0 rfl rfl ?_
  refine w_callS (pc' := 4) (argsL := [.int z]) (st := []) (W := 0) (ce' := 0) (sl' := 0) C (tw hw 73 rfl) (tw hw 74 rfl) (tw hw 3 rfl) (tw hw 75 rfl) (by decide) d13_1 rfl rfl (by decide) (by decide) (Nat.le_of_eq rfl) rfl rfl (by decide) (by decide) rfl (lenOf pd_4 rfl) (ct_spF hw h0 n0 z) (kp ?_)
  refine w_if_ne (pcT := 24) (pcF := 7) C d13_4 (by decide) (by decide) rfl (fun q4 => ?_) (fun q4 => ?_)
  · have hr := hr.trans (if_neg q4)
    exact K24 hr
  · have hr := hr.trans (if_pos q4)
    refine w_iloadN (pc' := 8) C d13_7 rfl rfl ?_
    refine w_bipush (pc' := 10) (x := (61 : Int32)) C d13_8 rfl rfl ?_
    refine w_icmp_eq (pcT := 24) (pcF := 13) C d13_10 (by decide) (by decide) rfl (fun q10 => ?_) (fun q10 => ?_)
    · have hr := hr.trans (if_pos q10)
      exact K24 hr
    · have hr := hr.trans (if_neg q10)
      refine w_iloadN (pc' := 14) C d13_13 rfl rfl ?_
      refine w_callS (pc' := 17) (argsL := [.int z]) (st := []) (W := 0) (ce' := 0) (sl' := 0) C (tw hw 76 rfl) (tw hw 77 rfl) (tw hw 3 rfl) (tw hw 78 rfl) (by decide) d13_14 rfl rfl (by decide) (by decide) (Nat.le_of_eq rfl) rfl rfl (by decide) (by decide) rfl (lenOf pd_5 rfl) (ct_valF hw h0 n0 z) (kp ?_)
      refine w_if_ge (pcT := 24) (pcF := 20) C d13_17 (by decide) (by decide) rfl (fun q17 => ?_) (fun q17 => ?_)
      · have hr := hr.trans (if_neg q17)
        exact K24 hr
      · have hr := hr.trans (if_pos q17)
        refine w_iconst (pc' := 21) (x := (1 : Int32)) C d13_20 rfl rfl ?_
        refine w_goto (pc' := 25) C d13_21 (by decide) (by decide) ?_
        refine w_retN' (t := .boolean) (z' := (1 : Int32)) C rfl (by simp) d13_25 (closeN (by decide) (by decide)) narB1 ?_
        exact And.intro (congrArg (fun z => some (Value.int z)) hr.symm) rfl
theorem d16_0 : decode method_6_code 0 = .ok (.iload_n 0, 1) := by decide +kernel
theorem d16_1 : decode method_6_code 1 = .ok (.invokestatic 17, 3) := by decide +kernel
theorem d16_4 : decode method_6_code 4 = .ok (.ifCond .eq 7, 3) := by decide +kernel
theorem d16_7 : decode method_6_code 7 = .ok (.iconst 0, 1) := by decide +kernel
theorem d16_8 : decode method_6_code 8 = .ok (.goto 4, 3) := by decide +kernel
theorem d16_11 : decode method_6_code 11 = .ok (.iconst 1, 1) := by decide +kernel
theorem d16_12 : decode method_6_code 12 = .ok (.ireturn, 1) := by decide +kernel
def nonSp (z : Int32) : Int32 := (if (spF z) = 0 then (1 : Int32) else (0 : Int32))
def rm_nonSp : Room := { frames := 1, cells := 0, slots := 0, locals := 12 }
def Q_nonSp (z : Int32) (h0 : Heap) (v : Option Value) (h : Heap) : Prop := v = some (.int (nonSp z)) ∧ h = h0
theorem pf_nonSp : plainFor (⟨"com/example/fedlint/fedlint/Base64ValidPinLaw", "nonSp", "(C)I"⟩ : MethodName) = true := plainFor_of_name (by first | (simp [plainName, overriddenIn]; done) | decide +kernel)
set_option maxRecDepth 65536 in
set_option maxHeartbeats 40000000 in
theorem ct_nonSp {l : Launch} {Z : State} {a0 : Array Value} (hw : ∀ d ∈ tables_1, d.before a0 Z = true) (h0 : Heap) (n0 : Nat) (z : Int32)  :
    Ct l Z (⟨"com/example/fedlint/fedlint/Base64ValidPinLaw", "nonSp", "(C)I"⟩ : MethodName) method_6_code 1 (Option.some Jvm.ClassFile.FieldType.int) [] rm_nonSp #[.int z] h0 n0 (Q_nonSp z h0) := by
  refine Ct.of (Ls := #[.val (.int z)]) pf_nonSp (fun m => by first | (simp [entryFrame, mkF, argsToLocals, Value.category, maxLocals]; done) | rfl) ?_
  intro p e s m below meth c C
  have hr : nonSp z = (if (spF z) = 0 then (1 : Int32) else (0 : Int32)) := rfl
  refine w_iloadN (pc' := 1) C d16_0 rfl rfl ?_
  refine w_callS (pc' := 4) (argsL := [.int z]) (st := []) (W := 0) (ce' := 0) (sl' := 0) C (tw hw 73 rfl) (tw hw 74 rfl) (tw hw 3 rfl) (tw hw 75 rfl) (by decide) d16_1 rfl rfl (by decide) (by decide) (Nat.le_of_eq rfl) rfl rfl (by decide) (by decide) rfl (lenOf pd_4 rfl) (ct_spF hw h0 n0 z) (kp ?_)
  refine w_if_eq (pcT := 11) (pcF := 7) C d16_4 (by decide) (by decide) rfl (fun q4 => ?_) (fun q4 => ?_)
  · have hr := hr.trans (if_pos q4)
    refine w_iconst (pc' := 12) (x := (1 : Int32)) C d16_11 rfl rfl ?_
    refine w_retI C rfl d16_12 (closeN (by decide) (by decide)) ?_
    exact And.intro (congrArg (fun z => some (Value.int z)) hr.symm) rfl
  · have hr := hr.trans (if_neg q4)
    refine w_iconst (pc' := 8) (x := (0 : Int32)) C d16_7 rfl rfl ?_
    refine w_goto (pc' := 12) C d16_8 (by decide) (by decide) ?_
    refine w_retI C rfl d16_12 (closeN (by decide) (by decide)) ?_
    exact And.intro (congrArg (fun z => some (Value.int z)) hr.symm) rfl
theorem d17_0 : decode method_7_code 0 = .ok (.iload_n 0, 1) := by decide +kernel
theorem d17_1 : decode method_7_code 1 = .ok (.bipush 61, 2) := by decide +kernel
theorem d17_3 : decode method_7_code 3 = .ok (.if_icmp .ne 7, 3) := by decide +kernel
theorem d17_6 : decode method_7_code 6 = .ok (.iconst 1, 1) := by decide +kernel
theorem d17_7 : decode method_7_code 7 = .ok (.goto 4, 3) := by decide +kernel
theorem d17_10 : decode method_7_code 10 = .ok (.iconst 0, 1) := by decide +kernel
theorem d17_11 : decode method_7_code 11 = .ok (.ireturn, 1) := by decide +kernel
def eqF (z : Int32) : Int32 := (if z = (61 : Int32) then (1 : Int32) else (0 : Int32))
def rm_eqF : Room := { frames := 0, cells := 0, slots := 0, locals := 0 }
def Q_eqF (z : Int32) (h0 : Heap) (v : Option Value) (h : Heap) : Prop := v = some (.int (eqF z)) ∧ h = h0
theorem pf_eqF : plainFor (⟨"com/example/fedlint/fedlint/Base64ValidPinLaw", "eq", "(C)I"⟩ : MethodName) = true := plainFor_of_name (by first | (simp [plainName, overriddenIn]; done) | decide +kernel)
set_option maxRecDepth 65536 in
set_option maxHeartbeats 40000000 in
theorem ct_eqF {l : Launch} {Z : State} {a0 : Array Value} (hw : ∀ d ∈ tables_1, d.before a0 Z = true) (h0 : Heap) (n0 : Nat) (z : Int32)  :
    Ct l Z (⟨"com/example/fedlint/fedlint/Base64ValidPinLaw", "eq", "(C)I"⟩ : MethodName) method_7_code 1 (Option.some Jvm.ClassFile.FieldType.int) [] rm_eqF #[.int z] h0 n0 (Q_eqF z h0) := by
  refine Ct.of (Ls := #[.val (.int z)]) pf_eqF (fun m => by first | (simp [entryFrame, mkF, argsToLocals, Value.category, maxLocals]; done) | rfl) ?_
  intro p e s m below meth c C
  have hr : eqF z = (if z = (61 : Int32) then (1 : Int32) else (0 : Int32)) := rfl
  refine w_iloadN (pc' := 1) C d17_0 rfl rfl ?_
  refine w_bipush (pc' := 3) (x := (61 : Int32)) C d17_1 rfl rfl ?_
  refine w_icmp_ne (pcT := 10) (pcF := 6) C d17_3 (by decide) (by decide) rfl (fun q3 => ?_) (fun q3 => ?_)
  · have hr := hr.trans (if_neg q3)
    refine w_iconst (pc' := 11) (x := (0 : Int32)) C d17_10 rfl rfl ?_
    refine w_retI C rfl d17_11 (closeN (by decide) (by decide)) ?_
    exact And.intro (congrArg (fun z => some (Value.int z)) hr.symm) rfl
  · have hr := hr.trans (if_pos q3)
    refine w_iconst (pc' := 7) (x := (1 : Int32)) C d17_6 rfl rfl ?_
    refine w_goto (pc' := 11) C d17_7 (by decide) (by decide) ?_
    refine w_retI C rfl d17_11 (closeN (by decide) (by decide)) ?_
    exact And.intro (congrArg (fun z => some (Value.int z)) hr.symm) rfl
theorem d18_0 : decode method_8_code 0 = .ok (.iload_n 0, 1) := by decide +kernel
theorem d18_1 : decode method_8_code 1 = .ok (.invokestatic 23, 3) := by decide +kernel
theorem d18_4 : decode method_8_code 4 = .ok (.istore_n 2, 1) := by decide +kernel
theorem d18_5 : decode method_8_code 5 = .ok (.iload_n 2, 1) := by decide +kernel
theorem d18_6 : decode method_8_code 6 = .ok (.ifCond .lt 7, 3) := by decide +kernel
theorem d18_9 : decode method_8_code 9 = .ok (.iload_n 2, 1) := by decide +kernel
theorem d18_10 : decode method_8_code 10 = .ok (.goto 4, 3) := by decide +kernel
theorem d18_13 : decode method_8_code 13 = .ok (.iload_n 1, 1) := by decide +kernel
theorem d18_14 : decode method_8_code 14 = .ok (.ireturn, 1) := by decide +kernel
def pickF (z : Int32) (lv : Int32) : Int32 := (if (valF z) < 0 then lv else (valF z))
def rm_pickF : Room := { frames := 1, cells := 0, slots := 0, locals := 12 }
def Q_pickF (z : Int32) (lv : Int32) (h0 : Heap) (v : Option Value) (h : Heap) : Prop := v = some (.int (pickF z lv)) ∧ h = h0
theorem pf_pickF : plainFor (⟨"com/example/fedlint/fedlint/Base64ValidPinLaw", "pick", "(CI)I"⟩ : MethodName) = true := plainFor_of_name (by first | (simp [plainName, overriddenIn]; done) | decide +kernel)
set_option maxRecDepth 65536 in
set_option maxHeartbeats 40000000 in
theorem ct_pickF {l : Launch} {Z : State} {a0 : Array Value} (hw : ∀ d ∈ tables_1, d.before a0 Z = true) (h0 : Heap) (n0 : Nat) (z : Int32) (lv : Int32)  :
    Ct l Z (⟨"com/example/fedlint/fedlint/Base64ValidPinLaw", "pick", "(CI)I"⟩ : MethodName) method_8_code 3 (Option.some Jvm.ClassFile.FieldType.int) [] rm_pickF #[.int z, .int lv] h0 n0 (Q_pickF z lv h0) := by
  refine Ct.of (Ls := #[.val (.int z), .val (.int lv), .unset]) pf_pickF (fun m => by first | (simp [entryFrame, mkF, argsToLocals, Value.category, maxLocals]; done) | rfl) ?_
  intro p e s m below meth c C
  have hr : pickF z lv = (if (valF z) < 0 then lv else (valF z)) := rfl
  refine w_iloadN (pc' := 1) C d18_0 rfl rfl ?_
  refine w_callS (pc' := 4) (argsL := [.int z]) (st := []) (W := 0) (ce' := 0) (sl' := 0) C (tw hw 76 rfl) (tw hw 77 rfl) (tw hw 3 rfl) (tw hw 78 rfl) (by decide) d18_1 rfl rfl (by decide) (by decide) (Nat.le_of_eq rfl) rfl rfl (by decide) (by decide) rfl (lenOf pd_5 rfl) (ct_valF hw h0 n0 z) (kp ?_)
  refine w_istoreN (pc' := 5) (Ls' := #[.val (.int z), .val (.int lv), .val (.int (valF z))]) C d18_4 rfl rfl ?_
  refine w_iloadN (pc' := 6) C d18_5 rfl rfl ?_
  refine w_if_lt (pcT := 13) (pcF := 9) C d18_6 (by decide) (by decide) rfl (fun q6 => ?_) (fun q6 => ?_)
  · have hr := hr.trans (if_pos q6)
    refine w_iloadN (pc' := 14) C d18_13 rfl rfl ?_
    refine w_retI C rfl d18_14 (closeN (by decide) (by decide)) ?_
    exact And.intro (congrArg (fun z => some (Value.int z)) hr.symm) rfl
  · have hr := hr.trans (if_neg q6)
    refine w_iloadN (pc' := 10) C d18_9 rfl rfl ?_
    refine w_goto (pc' := 14) C d18_10 (by decide) (by decide) ?_
    refine w_retI C rfl d18_14 (closeN (by decide) (by decide)) ?_
    exact And.intro (congrArg (fun z => some (Value.int z)) hr.symm) rfl
theorem d7_0 : decode prog_109_method_1_code 0 = .ok (.aload_n 0, 1) := by decide +kernel
theorem d7_1 : decode prog_109_method_1_code 1 = .ok (.invokespecial 1, 3) := by decide +kernel
theorem d7_4 : decode prog_109_method_1_code 4 = .ok (.return_, 1) := by decide +kernel
def rm_init : Room := { frames := 1, cells := 0, slots := 0, locals := 12 }
theorem pf_init : plainFor (⟨"com/example/fedlint/fedlint/XsdDatatypes$Base64", "<init>", "()V"⟩ : MethodName) = true := plainFor_of_name (by first | (simp [plainName, overriddenIn]; done) | decide +kernel)
set_option maxRecDepth 65536 in
set_option maxHeartbeats 40000000 in
theorem ct_init {l : Launch} {Z : State} {a0 : Array Value} (hw : ∀ d ∈ tables_1, d.before a0 Z = true) (h0 : Heap) (n0 : Nat) (o : Addr) (ln : Int32) (pd : Int32) (la : Int32) (bk : Int32) (hz : n0 ≤ h0.size) (O_o : Obj Z h0 o "com/example/fedlint/fedlint/XsdDatatypes$Base64" [("broken", "Z", .int bk), ("length", "I", .int ln), ("last", "I", .int la), ("padding", "I", .int pd)]) :
    Ct l Z (⟨"com/example/fedlint/fedlint/XsdDatatypes$Base64", "<init>", "()V"⟩ : MethodName) prog_109_method_1_code 1 (Option.none : Option Jvm.ClassFile.FieldType) [] rm_init #[.ref o] h0 n0 (fun v h => v = none ∧ Keep h0 h []) := by
  refine Ct.of (Ls := #[.val (.ref o)]) pf_init (fun m => by first | (simp [entryFrame, mkF, argsToLocals, Value.category, maxLocals]; done) | rfl) ?_
  intro p e s m below meth c C
  have hk : Keep h0 h0 [] := Keep.refl _ _
  refine w_aloadN (pc' := 1) C d7_0 rfl rfl rfl ?_
  refine w_initO (pc' := 4) (W := 0) C (tw hw 44 rfl) (tw hw 45 rfl) (tw hw 46 rfl) d7_1 rfl rfl (by decide) (Nat.le_of_eq rfl) (by decide) ?_
  refine w_ret0 C rfl d7_4 (closeN (by decide) (by decide)) ?_
  exact ⟨rfl, hk⟩
theorem andN (x n : Int32) (N : Nat) (h1 : n.toBitVec.toNat < N) (hN : N ≤ 1000) : ¬ (x &&& n) < 0 ∧ (x &&& n).toNatClampNeg < N := by
  have h : (x &&& n).toInt = ((x &&& n).toBitVec.toNat : Int) ∧ (x &&& n).toBitVec.toNat < N := by
    have e : (x &&& n).toBitVec = x.toBitVec &&& n.toBitVec := rfl
    have l : (x.toBitVec &&& n.toBitVec).toNat < N := by
      rw [BitVec.toNat_and]; exact Nat.lt_of_le_of_lt Nat.and_le_right h1
    refine ⟨?_, by rw [e]; exact l⟩
    show (x &&& n).toBitVec.toInt = _
    rw [e, BitVec.toInt_eq_toNat_of_lt (by omega)]
  refine ⟨?_, ?_⟩
  · rw [Int32.lt_iff_toInt_lt, h.1, show (0 : Int32).toInt = 0 by decide]; omega
  · show (x &&& n).toInt.toNat < N
    rw [h.1]; omega
theorem and63 (x : Int32) : ¬ (x &&& 63) < 0 ∧ (x &&& 63).toNatClampNeg < 64 := andN x 63 64 (by decide) (by decide)
theorem and3 (x : Int32) : ¬ (x &&& 3) < 0 ∧ (x &&& 3).toNatClampNeg < 4 := andN x 3 4 (by decide) (by decide)
theorem d1_0 : decode method_2_code 0 = .ok (.iload_n 0, 1) := by decide +kernel
theorem d1_1 : decode method_2_code 1 = .ok (.iconst 3, 1) := by decide +kernel
theorem d1_2 : decode method_2_code 2 = .ok (.iand, 1) := by decide +kernel
theorem d1_3 : decode method_2_code 3 = .ok (.istore_n 1, 1) := by decide +kernel
theorem d1_4 : decode method_2_code 4 = .ok (.iload_n 1, 1) := by decide +kernel
theorem d1_5 : decode method_2_code 5 = .ok (.ifCond .ne 15, 3) := by decide +kernel
theorem d1_8 : decode method_2_code 8 = .ok (.ldc 7, 2) := by decide +kernel
theorem d1_10 : decode method_2_code 10 = .ok (.iload_n 0, 1) := by decide +kernel
theorem d1_11 : decode method_2_code 11 = .ok (.iconst 2, 1) := by decide +kernel
theorem d1_12 : decode method_2_code 12 = .ok (.iushr, 1) := by decide +kernel
theorem d1_13 : decode method_2_code 13 = .ok (.bipush 63, 2) := by decide +kernel
theorem d1_15 : decode method_2_code 15 = .ok (.iand, 1) := by decide +kernel
theorem d1_16 : decode method_2_code 16 = .ok (.invokevirtual 9, 3) := by decide +kernel
theorem d1_19 : decode method_2_code 19 = .ok (.ireturn, 1) := by decide +kernel
theorem d1_20 : decode method_2_code 20 = .ok (.iload_n 1, 1) := by decide +kernel
theorem d1_21 : decode method_2_code 21 = .ok (.iconst 1, 1) := by decide +kernel
theorem d1_22 : decode method_2_code 22 = .ok (.if_icmp .ne 6, 3) := by decide +kernel
theorem d1_25 : decode method_2_code 25 = .ok (.bipush 61, 2) := by decide +kernel
theorem d1_27 : decode method_2_code 27 = .ok (.ireturn, 1) := by decide +kernel
theorem d1_28 : decode method_2_code 28 = .ok (.iload_n 1, 1) := by decide +kernel
theorem d1_29 : decode method_2_code 29 = .ok (.iconst 2, 1) := by decide +kernel
theorem d1_30 : decode method_2_code 30 = .ok (.if_icmp .ne 14, 3) := by decide +kernel
theorem d1_33 : decode method_2_code 33 = .ok (.ldc 15, 2) := by decide +kernel
theorem d1_35 : decode method_2_code 35 = .ok (.iload_n 0, 1) := by decide +kernel
theorem d1_36 : decode method_2_code 36 = .ok (.iconst 2, 1) := by decide +kernel
theorem d1_37 : decode method_2_code 37 = .ok (.iushr, 1) := by decide +kernel
theorem d1_38 : decode method_2_code 38 = .ok (.iconst 3, 1) := by decide +kernel
theorem d1_39 : decode method_2_code 39 = .ok (.iand, 1) := by decide +kernel
theorem d1_40 : decode method_2_code 40 = .ok (.invokevirtual 9, 3) := by decide +kernel
theorem d1_43 : decode method_2_code 43 = .ok (.ireturn, 1) := by decide +kernel
theorem d1_44 : decode method_2_code 44 = .ok (.iload_n 0, 1) := by decide +kernel
theorem d1_45 : decode method_2_code 45 = .ok (.bipush 16, 2) := by decide +kernel
theorem d1_47 : decode method_2_code 47 = .ok (.iushr, 1) := by decide +kernel
theorem d1_48 : decode method_2_code 48 = .ok (.i2c, 1) := by decide +kernel
theorem d1_49 : decode method_2_code 49 = .ok (.ireturn, 1) := by decide +kernel
def rm_draw : Room := { frames := 4, cells := 2, slots := 260, locals := 53 }
theorem pf_draw : plainFor (⟨"com/example/fedlint/fedlint/Base64ValidPinLaw", "draw", "(I)C"⟩ : MethodName) = true := plainFor_of_name (by first | (simp [plainName, overriddenIn]; done) | decide +kernel)
set_option maxRecDepth 65536 in
set_option maxHeartbeats 40000000 in
theorem ct_draw {l : Launch} {Z : State} {a0 : Array Value} (hw : ∀ d ∈ tables_1, d.before a0 Z = true) (h0 : Heap) (n0 : Nat) (k : Int32) (zc : Int32) (fv : Value) (hz : n0 ≤ h0.size) (hzc : ¬ zc = 0) (hfv : fv.isRef = true) (S_COMPACT_STRINGS : Sta Z h0 "java/lang/String" "COMPACT_STRINGS" "Z" (.int zc)) (S_SIOOBE_FORMATTER : Sta Z h0 "jdk/internal/util/Preconditions" "SIOOBE_FORMATTER" "Ljava/util/function/BiFunction;" fv) :
    CtH l Z EL 260 (⟨"com/example/fedlint/fedlint/Base64ValidPinLaw", "draw", "(I)C"⟩ : MethodName) method_2_code 2 (Option.some Jvm.ClassFile.FieldType.char) [] rm_draw 0 0 1 #[.int k] h0 n0 (fun v h => ∃ z, v = some (.int z) ∧ Keep h0 h []) := by
  refine CtH.of (Ls := #[.val (.int k), .unset]) pf_draw (fun m => by first | (simp [entryFrame, mkF, argsToLocals, Value.category, maxLocals]; done) | rfl) ?_
  intro p e s m below meth c vm0 kk0 u C HS HK HC HU HB
  have hEL := hEL_ok hw
  have wS := wS_ok hw
  have hk : Keep h0 h0 [] := Keep.refl _ _
  refine w_iloadN (pc' := 1) C d1_0 rfl rfl ?_
  refine w_iconst (pc' := 2) (x := (3 : Int32)) C d1_1 rfl rfl ?_
  refine w_iand (pc' := 3) C d1_2 rfl ?_
  refine w_istoreN (pc' := 4) (Ls' := #[.val (.int k), .val (.int (k &&& (3 : Int32)))]) C d1_3 rfl rfl ?_
  refine w_iloadN (pc' := 5) C d1_4 rfl rfl ?_
  refine w_if_ne (pcT := 20) (pcF := 8) C d1_5 (by decide) (by decide) rfl (fun q5 => ?_) (fun q5 => ?_)
  · skip
    refine w_iloadN (pc' := 21) C d1_20 rfl rfl ?_
    refine w_iconst (pc' := 22) (x := (1 : Int32)) C d1_21 rfl rfl ?_
    refine w_icmp_ne (pcT := 28) (pcF := 25) C d1_22 (by decide) (by decide) rfl (fun q22 => ?_) (fun q22 => ?_)
    · skip
      refine w_iloadN (pc' := 29) C d1_28 rfl rfl ?_
      refine w_iconst (pc' := 30) (x := (2 : Int32)) C d1_29 rfl rfl ?_
      refine w_icmp_ne (pcT := 44) (pcF := 33) C d1_30 (by decide) (by decide) rfl (fun q30 => ?_) (fun q30 => ?_)
      · skip
        refine w_iloadN (pc' := 45) C d1_44 rfl rfl ?_
        refine w_bipush (pc' := 47) (x := (16 : Int32)) C d1_45 rfl rfl ?_
        refine w_iushr (pc' := 48) C d1_47 rfl ?_
        refine w_i2c (pc' := 49) C d1_48 rfl ?_
        refine w_retN' (t := .char) (z' := (toCh (toCh ((k.toUInt32 >>> ((16 : Int32) &&& 31).toUInt32).toInt32)))) C rfl (by simp) d1_49 (closeH C.2.2.1 hEL HS HK HC HU HB (by decide) (by decide) (by decide)) rfl ?_
        exact ⟨_, rfl, hk⟩
      · skip
        refine w_ldcH (pc' := 35) (z := lz_1) C (tw hw 88 rfl) wS d1_33 rfl HS HK hEL mem_1 HC HU HB ht_1 hz_1 hl_1 hn_1 (by decide) (by decide) (by decide) (fun vm1 kk1 h1 sx1 sy1 u1 C HS HK HC HU HB E1 Q1 ns1 => ?_)
        have hz : n0 ≤ h1.size := Nat.le_trans hz E1.1
        have hk := hk.ext E1
        have S_COMPACT_STRINGS := Sta.ext E1 S_COMPACT_STRINGS
        have S_SIOOBE_FORMATTER := Sta.ext E1 S_SIOOBE_FORMATTER
        have O_sx1 : StrO Z h1 sx1 sy1 := ⟨Q1.1, Q1.2.1, Q1.2.2.1⟩
        have O_sy1 : Ar Z h1 sy1 .byte (bs_1.map Value.int) := Q1.2.2.2
        refine w_iloadN (pc' := 36) C d1_35 rfl rfl ?_
        refine w_iconst (pc' := 37) (x := (2 : Int32)) C d1_36 rfl rfl ?_
        refine w_iushr (pc' := 38) C d1_37 rfl ?_
        refine w_iconst (pc' := 39) (x := (3 : Int32)) C d1_38 rfl rfl ?_
        refine w_iand (pc' := 40) C d1_39 rfl ?_
        refine w_callV (Cl := "java/lang/String") (pc' := 43) (argsL := [.int (((k.toUInt32 >>> ((2 : Int32) &&& 31).toUInt32).toInt32) &&& (3 : Int32))]) (st := []) (W := 0) (ce' := (0 + 2 * u1)) (sl' := (0 + 260 * u1)) C (tw hw 13 rfl) (tw hw 14 rfl) (tw hw 16 rfl) (tw hw 15 rfl) (tw hw 6 rfl) (tw hw 17 rfl) (by decide) d1_40 rfl rfl (by decide) (by decide) (Nat.le_of_eq rfl) (ad rfl) (ad rfl) (leA HB (by decide)) (leM HB (by decide)) rfl (lenOf pd_6 rfl) O_sx1.1 (ct_charAt hw h1 n0 sx1 (((k.toUInt32 >>> ((2 : Int32) &&& 31).toUInt32).toInt32) &&& (3 : Int32)) sy1 bs_1 zc fv (and3 _).1 (by rw [hb_1]; exact (and3 _).2) (by rw [hb_1]; decide) hzc hfv S_COMPACT_STRINGS S_SIOOBE_FORMATTER O_sx1 O_sy1) (kp ?_)
        refine w_retN' (t := .char) (z' := (toCh (chAt bs_1 (((k.toUInt32 >>> ((2 : Int32) &&& 31).toUInt32).toInt32) &&& (3 : Int32))))) C rfl (by simp) d1_43 (closeH C.2.2.1 hEL HS HK HC HU HB (by decide) (by decide) (by decide)) rfl ?_
        exact ⟨_, rfl, hk⟩
    · skip
      refine w_bipush (pc' := 27) (x := (61 : Int32)) C d1_25 rfl rfl ?_
      refine w_retN' (t := .char) (z' := (toCh (61 : Int32))) C rfl (by simp) d1_27 (closeH C.2.2.1 hEL HS HK HC HU HB (by decide) (by decide) (by decide)) rfl ?_
      exact ⟨_, rfl, hk⟩
  · skip
    refine w_ldcH (pc' := 10) (z := lz_0) C (tw hw 5 rfl) wS d1_8 rfl HS HK hEL mem_0 HC HU HB ht_0 hz_0 hl_0 hn_0 (by decide) (by decide) (by decide) (fun vm2 kk2 h2 sx2 sy2 u2 C HS HK HC HU HB E2 Q2 ns2 => ?_)
    have hz : n0 ≤ h2.size := Nat.le_trans hz E2.1
    have hk := hk.ext E2
    have S_COMPACT_STRINGS := Sta.ext E2 S_COMPACT_STRINGS
    have S_SIOOBE_FORMATTER := Sta.ext E2 S_SIOOBE_FORMATTER
    have O_sx2 : StrO Z h2 sx2 sy2 := ⟨Q2.1, Q2.2.1, Q2.2.2.1⟩
    have O_sy2 : Ar Z h2 sy2 .byte (bs_0.map Value.int) := Q2.2.2.2
    refine w_iloadN (pc' := 11) C d1_10 rfl rfl ?_
    refine w_iconst (pc' := 12) (x := (2 : Int32)) C d1_11 rfl rfl ?_
    refine w_iushr (pc' := 13) C d1_12 rfl ?_
    refine w_bipush (pc' := 15) (x := (63 : Int32)) C d1_13 rfl rfl ?_
    refine w_iand (pc' := 16) C d1_15 rfl ?_
    refine w_callV (Cl := "java/lang/String") (pc' := 19) (argsL := [.int (((k.toUInt32 >>> ((2 : Int32) &&& 31).toUInt32).toInt32) &&& (63 : Int32))]) (st := []) (W := 0) (ce' := (0 + 2 * u2)) (sl' := (0 + 260 * u2)) C (tw hw 13 rfl) (tw hw 14 rfl) (tw hw 16 rfl) (tw hw 15 rfl) (tw hw 6 rfl) (tw hw 17 rfl) (by decide) d1_16 rfl rfl (by decide) (by decide) (Nat.le_of_eq rfl) (ad rfl) (ad rfl) (leA HB (by decide)) (leM HB (by decide)) rfl (lenOf pd_6 rfl) O_sx2.1 (ct_charAt hw h2 n0 sx2 (((k.toUInt32 >>> ((2 : Int32) &&& 31).toUInt32).toInt32) &&& (63 : Int32)) sy2 bs_0 zc fv (and63 _).1 (by rw [hb_0]; exact (and63 _).2) (by rw [hb_0]; decide) hzc hfv S_COMPACT_STRINGS S_SIOOBE_FORMATTER O_sx2 O_sy2) (kp ?_)
    refine w_retN' (t := .char) (z' := (toCh (chAt bs_0 (((k.toUInt32 >>> ((2 : Int32) &&& 31).toUInt32).toInt32) &&& (63 : Int32))))) C rfl (by simp) d1_19 (closeH C.2.2.1 hEL HS HK HC HU HB (by decide) (by decide) (by decide)) rfl ?_
    exact ⟨_, rfl, hk⟩
def acc : List Int32 → Int32 → Int32 → Int32 → Int32 → Int32 × Int32 × Int32 × Int32
  | [], ln, pd, la, bk => (ln, pd, la, bk)
  | z :: cs, ln, pd, la, bk =>
    if bk = 0 then
      if isSp z = 0 then
        if z = 61 then acc cs (ln + 1) (pd + 1) la (if 2 < pd + 1 then 1 else if ln + 1 = 1 then 1 else 0)
        else acc cs (ln + 1) pd (b64 z) (if b64 z < 0 then 1 else if 0 < pd then 1 else 0)
      else acc cs ln pd la bk
    else (ln, pd, la, bk)
theorem drop_at {cs : List Int32} {k : Nat} (q : k < cs.length) : cs.drop k = cs.getD k 0 :: cs.drop (k + 1) := by
  rw [List.drop_eq_getElem_cons q, List.getD_eq_getElem?_getD, List.getElem?_eq_getElem q]; rfl
theorem acc_sp {z : Int32} {cs : List Int32} {ln pd la bk : Int32} (h0 : bk = 0) (h1 : ¬ isSp z = 0) : acc (z :: cs) ln pd la bk = acc cs ln pd la bk := (if_pos h0).trans (if_neg h1)
theorem acc_eq {z : Int32} {cs : List Int32} {ln pd la bk b : Int32} (h0 : bk = 0) (h1 : isSp z = 0) (h2 : z = 61) (h3 : (if 2 < pd + 1 then 1 else if ln + 1 = 1 then 1 else 0) = b) : acc (z :: cs) ln pd la bk = acc cs (ln + 1) (pd + 1) la b := by
  subst h3; exact (if_pos h0).trans ((if_pos h1).trans (if_pos h2))
theorem acc_ch {z : Int32} {cs : List Int32} {ln pd la bk b : Int32} (h0 : bk = 0) (h1 : isSp z = 0) (h2 : ¬ z = 61) (h3 : (if b64 z < 0 then 1 else if 0 < pd then 1 else 0) = b) : acc (z :: cs) ln pd la bk = acc cs (ln + 1) pd (b64 z) b := by
  subst h3; exact (if_pos h0).trans ((if_pos h1).trans (if_neg h2))
theorem d9_0 : decode prog_109_method_3_code 0 = .ok (.iload_n 2, 1) := by decide +kernel
theorem d9_1 : decode prog_109_method_3_code 1 = .ok (.istore 4, 2) := by decide +kernel
theorem d9_3 : decode prog_109_method_3_code 3 = .ok (.iload 4, 2) := by decide +kernel
theorem d9_5 : decode prog_109_method_3_code 5 = .ok (.iload_n 2, 1) := by decide +kernel
theorem d9_6 : decode prog_109_method_3_code 6 = .ok (.iload_n 3, 1) := by decide +kernel
theorem d9_7 : decode prog_109_method_3_code 7 = .ok (.iadd, 1) := by decide +kernel
theorem d9_8 : decode prog_109_method_3_code 8 = .ok (.if_icmp .ge 119, 3) := by decide +kernel
theorem d9_11 : decode prog_109_method_3_code 11 = .ok (.aload_n 0, 1) := by decide +kernel
theorem d9_12 : decode prog_109_method_3_code 12 = .ok (.getfield 19, 3) := by decide +kernel
theorem d9_15 : decode prog_109_method_3_code 15 = .ok (.ifCond .ne 112, 3) := by decide +kernel
theorem d9_18 : decode prog_109_method_3_code 18 = .ok (.aload_n 1, 1) := by decide +kernel
theorem d9_19 : decode prog_109_method_3_code 19 = .ok (.iload 4, 2) := by decide +kernel
theorem d9_21 : decode prog_109_method_3_code 21 = .ok (.caload, 1) := by decide +kernel
theorem d9_22 : decode prog_109_method_3_code 22 = .ok (.istore 5, 2) := by decide +kernel
theorem d9_24 : decode prog_109_method_3_code 24 = .ok (.iload 5, 2) := by decide +kernel
theorem d9_26 : decode prog_109_method_3_code 26 = .ok (.invokestatic 23, 3) := by decide +kernel
theorem d9_29 : decode prog_109_method_3_code 29 = .ok (.ifCond .eq 6, 3) := by decide +kernel
theorem d9_32 : decode prog_109_method_3_code 32 = .ok (.goto 89, 3) := by decide +kernel
theorem d9_35 : decode prog_109_method_3_code 35 = .ok (.aload_n 0, 1) := by decide +kernel
theorem d9_36 : decode prog_109_method_3_code 36 = .ok (.dup, 1) := by decide +kernel
theorem d9_37 : decode prog_109_method_3_code 37 = .ok (.getfield 7, 3) := by decide +kernel
theorem d9_40 : decode prog_109_method_3_code 40 = .ok (.iconst 1, 1) := by decide +kernel
theorem d9_41 : decode prog_109_method_3_code 41 = .ok (.iadd, 1) := by decide +kernel
theorem d9_42 : decode prog_109_method_3_code 42 = .ok (.putfield 7, 3) := by decide +kernel
theorem d9_45 : decode prog_109_method_3_code 45 = .ok (.iload 5, 2) := by decide +kernel
theorem d9_47 : decode prog_109_method_3_code 47 = .ok (.bipush 61, 2) := by decide +kernel
theorem d9_49 : decode prog_109_method_3_code 49 = .ok (.if_icmp .ne 38, 3) := by decide +kernel
theorem d9_52 : decode prog_109_method_3_code 52 = .ok (.aload_n 0, 1) := by decide +kernel
theorem d9_53 : decode prog_109_method_3_code 53 = .ok (.aload_n 0, 1) := by decide +kernel
theorem d9_54 : decode prog_109_method_3_code 54 = .ok (.dup, 1) := by decide +kernel
theorem d9_55 : decode prog_109_method_3_code 55 = .ok (.getfield 13, 3) := by decide +kernel
theorem d9_58 : decode prog_109_method_3_code 58 = .ok (.iconst 1, 1) := by decide +kernel
theorem d9_59 : decode prog_109_method_3_code 59 = .ok (.iadd, 1) := by decide +kernel
theorem d9_60 : decode prog_109_method_3_code 60 = .ok (.dup_x1, 1) := by decide +kernel
theorem d9_61 : decode prog_109_method_3_code 61 = .ok (.putfield 13, 3) := by decide +kernel
theorem d9_64 : decode prog_109_method_3_code 64 = .ok (.iconst 2, 1) := by decide +kernel
theorem d9_65 : decode prog_109_method_3_code 65 = .ok (.if_icmp .gt 11, 3) := by decide +kernel
theorem d9_68 : decode prog_109_method_3_code 68 = .ok (.aload_n 0, 1) := by decide +kernel
theorem d9_69 : decode prog_109_method_3_code 69 = .ok (.getfield 7, 3) := by decide +kernel
theorem d9_72 : decode prog_109_method_3_code 72 = .ok (.iconst 1, 1) := by decide +kernel
theorem d9_73 : decode prog_109_method_3_code 73 = .ok (.if_icmp .ne 7, 3) := by decide +kernel
theorem d9_76 : decode prog_109_method_3_code 76 = .ok (.iconst 1, 1) := by decide +kernel
theorem d9_77 : decode prog_109_method_3_code 77 = .ok (.goto 4, 3) := by decide +kernel
theorem d9_80 : decode prog_109_method_3_code 80 = .ok (.iconst 0, 1) := by decide +kernel
theorem d9_81 : decode prog_109_method_3_code 81 = .ok (.putfield 19, 3) := by decide +kernel
theorem d9_84 : decode prog_109_method_3_code 84 = .ok (.goto 37, 3) := by decide +kernel
theorem d9_87 : decode prog_109_method_3_code 87 = .ok (.iload 5, 2) := by decide +kernel
theorem d9_89 : decode prog_109_method_3_code 89 = .ok (.invokestatic 29, 3) := by decide +kernel
theorem d9_92 : decode prog_109_method_3_code 92 = .ok (.istore 6, 2) := by decide +kernel
theorem d9_94 : decode prog_109_method_3_code 94 = .ok (.aload_n 0, 1) := by decide +kernel
theorem d9_95 : decode prog_109_method_3_code 95 = .ok (.iload 6, 2) := by decide +kernel
theorem d9_97 : decode prog_109_method_3_code 97 = .ok (.ifCond .lt 10, 3) := by decide +kernel
theorem d9_100 : decode prog_109_method_3_code 100 = .ok (.aload_n 0, 1) := by decide +kernel
theorem d9_101 : decode prog_109_method_3_code 101 = .ok (.getfield 13, 3) := by decide +kernel
theorem d9_104 : decode prog_109_method_3_code 104 = .ok (.ifCond .le 7, 3) := by decide +kernel
theorem d9_107 : decode prog_109_method_3_code 107 = .ok (.iconst 1, 1) := by decide +kernel
theorem d9_108 : decode prog_109_method_3_code 108 = .ok (.goto 4, 3) := by decide +kernel
theorem d9_111 : decode prog_109_method_3_code 111 = .ok (.iconst 0, 1) := by decide +kernel
theorem d9_112 : decode prog_109_method_3_code 112 = .ok (.putfield 19, 3) := by decide +kernel
theorem d9_115 : decode prog_109_method_3_code 115 = .ok (.aload_n 0, 1) := by decide +kernel
theorem d9_116 : decode prog_109_method_3_code 116 = .ok (.iload 6, 2) := by decide +kernel
theorem d9_118 : decode prog_109_method_3_code 118 = .ok (.putfield 16, 3) := by decide +kernel
theorem d9_121 : decode prog_109_method_3_code 121 = .ok (.iinc 4 1, 3) := by decide +kernel
theorem d9_124 : decode prog_109_method_3_code 124 = .ok (.goto (-121), 3) := by decide +kernel
theorem d9_127 : decode prog_109_method_3_code 127 = .ok (.return_, 1) := by decide +kernel
def rm_accept : Room := { frames := 1, cells := 0, slots := 0, locals := 12 }
theorem pf_accept : plainFor (⟨"com/example/fedlint/fedlint/XsdDatatypes$Base64", "accept", "([CII)V"⟩ : MethodName) = true := plainFor_of_name (by first | (simp [plainName, overriddenIn]; done) | decide +kernel)
set_option maxRecDepth 65536 in
set_option maxHeartbeats 40000000 in
theorem ct_accept {l : Launch} {Z : State} {a0 : Array Value} (hw : ∀ d ∈ tables_1, d.before a0 Z = true) (h0 : Heap) (n0 : Nat) (o : Addr) (ta : Addr) (cs : List Int32) (R : Int32 × Int32 × Int32 × Int32) (hz : n0 ≤ h0.size) (hl : cs.length = 8) (hR : acc cs 0 0 0 0 = R) (O_o : Obj Z h0 o "com/example/fedlint/fedlint/XsdDatatypes$Base64" [("broken", "Z", .int (0 : Int32)), ("length", "I", .int (0 : Int32)), ("last", "I", .int (0 : Int32)), ("padding", "I", .int (0 : Int32))]) (O_ta : Ar Z h0 ta .char (cs.map Value.int)) (g_o : n0 ≤ o) (ne_ta_o : ta ≠ o) :
    Ct l Z (⟨"com/example/fedlint/fedlint/XsdDatatypes$Base64", "accept", "([CII)V"⟩ : MethodName) prog_109_method_3_code 7 (Option.none : Option Jvm.ClassFile.FieldType) [] rm_accept #[.ref o, .ref ta, .int (0 : Int32), .int (8 : Int32)] h0 n0 (fun v h => v = none ∧ Obj Z h o "com/example/fedlint/fedlint/XsdDatatypes$Base64" [("broken", "Z", .int R.2.2.2), ("length", "I", .int R.1), ("last", "I", .int R.2.2.1), ("padding", "I", .int R.2.1)] ∧ Keep h0 h [o]) := by
  refine Ct.of (Ls := #[.val (.ref o), .val (.ref ta), .val (.int (0 : Int32)), .val (.int (8 : Int32)), .unset, .unset, .unset]) pf_accept (fun m => by first | (simp [entryFrame, mkF, argsToLocals, Value.category, maxLocals]; done) | (cases fv <;> first | (simp [Value.isRef] at hfv; done) | (simp [entryFrame, mkF, argsToLocals, Value.category]; done) | rfl) | rfl) ?_
  intro p e s m below meth c C
  have L3 : ∀ (n k : Nat) (ln pd la bk : Int32) (h : Heap) (u5 u6 : Slot), k + n = 8 → acc (cs.drop k) ln pd la bk = R → (u5 = .unset ∨ ∃ w, u5 = .val w ∧ w.category = 1) → (u6 = .unset ∨ ∃ w, u6 = .val w ∧ w.category = 1) → n0 ≤ h.size → Obj Z h o "com/example/fedlint/fedlint/XsdDatatypes$Base64" [("broken", "Z", .int bk), ("length", "I", .int ln), ("last", "I", .int la), ("padding", "I", .int pd)] → Ar Z h ta .char (cs.map Value.int) → Keep h0 h [o] → Wp p l e rm_accept s m #[.ref o, .ref ta, .int (0 : Int32), .int (8 : Int32)] below meth c n0 (EN s rm_accept.cells rm_accept.slots) (fun v h => v = none ∧ Obj Z h o "com/example/fedlint/fedlint/XsdDatatypes$Base64" [("broken", "Z", .int R.2.2.2), ("length", "I", .int R.1), ("last", "I", .int R.2.2.1), ("padding", "I", .int R.2.1)] ∧ Keep h0 h [o]) h 0 0 (mkF m 3 #[.val (.ref o), .val (.ref ta), .val (.int (0 : Int32)), .val (.int (8 : Int32)), .val (.int (Int32.ofNat k)), u5, u6] []) := by
    intro n
    induction n using Nat.strongRecOn with
    | _ n ih =>
      intro k ln pd la bk h u5 u6 hkn hR ok_u5 ok_u6 hz O_o O_ta hk
      refine w_iload (pc' := 5) C d9_3 rfl rfl ?_
      refine w_iloadN (pc' := 6) C d9_5 rfl rfl ?_
      refine w_iloadN (pc' := 7) C d9_6 rfl rfl ?_
      refine w_iadd (pc' := 8) C d9_7 rfl ?_
      refine w_eqI (z := (8 : Int32)) (by decide) ?_
      refine w_icmp_ge (pcT := 127) (pcF := 11) C d9_8 (by decide) (by decide) rfl (fun q8_1 => ?_) (fun q8_1 => ?_)
      · skip
        have kl : ¬ k < 8 := fun z => q8_1 ((on_lt (j := 8) (by omega) (by omega)).mpr z)
        refine w_ret0 C rfl d9_127 (closeN (by decide) (by decide)) ?_
        have e : (ln, pd, la, bk) = R := by rw [← hR, List.drop_eq_nil_of_le (by omega)]; rfl
        subst e
        exact ⟨rfl, O_o, hk⟩
      · skip
        have kl : k < 8 := (on_lt (j := 8) (by omega) (by omega)).mp q8_1
        have hd : acc (cs.getD k 0 :: cs.drop (k + 1)) ln pd la bk = R := by rw [← drop_at (show k < cs.length by omega)]; exact hR
        refine w_aloadN (pc' := 12) C d9_11 rfl rfl rfl ?_
        refine w_getF (pc' := 15) C (tw hw 52 rfl) d9_12 rfl (O_o.fld 0 rfl) ?_
        refine w_if_ne (pcT := 127) (pcF := 18) C d9_15 (by decide) (by decide) rfl (fun q15_2 => ?_) (fun q15_2 => ?_)
        · skip
          refine w_ret0 C rfl d9_127 (closeN (by decide) (by decide)) ?_
          have e : (ln, pd, la, bk) = R := (show acc (cs.getD k 0 :: cs.drop (k + 1)) ln pd la bk = (ln, pd, la, bk) from if_neg q15_2).symm.trans hd
          subst e
          exact ⟨rfl, O_o, hk⟩
        · skip
          refine w_aloadN (pc' := 19) C d9_18 rfl rfl rfl ?_
          refine w_iload (pc' := 21) C d9_19 rfl rfl ?_
          refine wA_caload (pc' := 22) (v := .int (cs.getD k 0)) C d9_21 rfl O_ta (on_nn (by omega)) (by rw [on_nat (by omega)]; exact map_at (by omega)) ?_
          refine w_istore (pc' := 24) (Ls' := #[.val (.ref o), .val (.ref ta), .val (.int (0 : Int32)), .val (.int (8 : Int32)), .val (.int (Int32.ofNat k)), .val (.int (cs.getD k 0)), u6]) C d9_22 (st_int rfl ok_u5 rfl) rfl ?_
          refine w_iload (pc' := 26) C d9_24 rfl rfl ?_
          refine w_callS (pc' := 29) (argsL := [.int (cs.getD k 0)]) (st := []) (W := 0) (ce' := 0) (sl' := 0) C (tw hw 54 rfl) (tw hw 55 rfl) (tw hw 56 rfl) (tw hw 57 rfl) (by decide) d9_26 rfl rfl (by decide) (by decide) (Nat.le_of_eq rfl) rfl rfl (by decide) (by decide) rfl (lenOf pd_4 rfl) (ct_isSp hw h n0 (cs.getD k 0)) (kp ?_)
          refine w_if_eq (pcT := 35) (pcF := 32) C d9_29 (by decide) (by decide) rfl (fun q29_3 => ?_) (fun q29_3 => ?_)
          · skip
            refine w_aloadN (pc' := 36) C d9_35 rfl rfl rfl ?_
            refine w_dup (pc' := 37) C d9_36 rfl rfl ?_
            refine w_getF (pc' := 40) C (tw hw 58 rfl) d9_37 rfl (O_o.fld 1 rfl) ?_
            refine w_iconst (pc' := 41) (x := (1 : Int32)) C d9_40 rfl rfl ?_
            refine w_iadd (pc' := 42) C d9_41 rfl ?_
            refine w_putF (pc' := 45) (ty := .int) C (tw hw 58 rfl) (Or.inl (tw hw 59 rfl)) (tw hw 39 rfl) (by decide) rfl rfl d9_42 rfl g_o (O_o.fld 1 rfl) O_o.1 (fun h1 W1 => ?_)
            have O_o : Obj Z h1 o "com/example/fedlint/fedlint/XsdDatatypes$Base64" [("broken", "Z", .int bk), ("length", "I", .int (ln + (1 : Int32))), ("last", "I", .int la), ("padding", "I", .int pd)] := O_o.put 1 rfl W1 rfl
            have O_ta := O_ta.other W1 ne_ta_o
            have hz : n0 ≤ h1.size := by rw [W1.size]; exact hz
            have hk := hk.wr W1 (Or.inl (by simp))
            refine w_iload (pc' := 47) C d9_45 rfl rfl ?_
            refine w_bipush (pc' := 49) (x := (61 : Int32)) C d9_47 rfl rfl ?_
            refine w_icmp_ne (pcT := 87) (pcF := 52) C d9_49 (by decide) (by decide) rfl (fun q49_4 => ?_) (fun q49_4 => ?_)
            · skip
              refine w_iload (pc' := 89) C d9_87 rfl rfl ?_
              refine w_callSN (pc' := 92) (argsL := [.int (cs.getD k 0)]) (st := []) (W := 0) (ce' := 0) (sl' := 0) C (tw hw 60 rfl) (tw hw 61 rfl) (tw hw 56 rfl) (tw hw 62 rfl) (by decide) d9_89 rfl rfl (by decide) (by decide) (Nat.le_of_eq rfl) rfl rfl (by decide) (by decide) rfl (lenOf pd_5 rfl) (ct_b64 hw h1 n0 (cs.getD k 0)) (kp ?_)
              refine w_istore (pc' := 94) (Ls' := #[.val (.ref o), .val (.ref ta), .val (.int (0 : Int32)), .val (.int (8 : Int32)), .val (.int (Int32.ofNat k)), .val (.int (cs.getD k 0)), .val (.int (b64 (cs.getD k 0)))]) C d9_92 (st_int rfl ok_u6 rfl) rfl ?_
              refine w_aloadN (pc' := 95) C d9_94 rfl rfl rfl ?_
              refine w_iload (pc' := 97) C d9_95 rfl rfl ?_
              refine w_if_lt (pcT := 107) (pcF := 100) C d9_97 (by decide) (by decide) rfl (fun q97_5 => ?_) (fun q97_5 => ?_)
              · skip
                refine w_iconst (pc' := 108) (x := (1 : Int32)) C d9_107 rfl rfl ?_
                refine w_goto (pc' := 112) C d9_108 (by decide) (by decide) ?_
                refine w_putFZ (pc' := 115) (v' := .int (1 : Int32)) (ty := .boolean) C (tw hw 52 rfl) (Or.inl (tw hw 53 rfl)) (tw hw 39 rfl) (by decide) rfl rfl d9_112 rfl g_o (O_o.fld 0 rfl) O_o.1 (fun h2 W2 => ?_)
                have O_o : Obj Z h2 o "com/example/fedlint/fedlint/XsdDatatypes$Base64" [("broken", "Z", .int (1 : Int32)), ("length", "I", .int (ln + (1 : Int32))), ("last", "I", .int la), ("padding", "I", .int pd)] := O_o.put 0 rfl W2 rfl
                have O_ta := O_ta.other W2 ne_ta_o
                have hz : n0 ≤ h2.size := by rw [W2.size]; exact hz
                have hk := hk.wr W2 (Or.inl (by simp))
                refine w_aloadN (pc' := 116) C d9_115 rfl rfl rfl ?_
                refine w_iload (pc' := 118) C d9_116 rfl rfl ?_
                refine w_putF (pc' := 121) (ty := .int) C (tw hw 63 rfl) (Or.inl (tw hw 64 rfl)) (tw hw 39 rfl) (by decide) rfl rfl d9_118 rfl g_o (O_o.fld 2 rfl) O_o.1 (fun h3 W3 => ?_)
                have O_o : Obj Z h3 o "com/example/fedlint/fedlint/XsdDatatypes$Base64" [("broken", "Z", .int (1 : Int32)), ("length", "I", .int (ln + (1 : Int32))), ("last", "I", .int (b64 (cs.getD k 0))), ("padding", "I", .int pd)] := O_o.put 2 rfl W3 rfl
                have O_ta := O_ta.other W3 ne_ta_o
                have hz : n0 ≤ h3.size := by rw [W3.size]; exact hz
                have hk := hk.wr W3 (Or.inl (by simp))
                refine w_iinc (pc' := 124) (Ls' := #[.val (.ref o), .val (.ref ta), .val (.int (0 : Int32)), .val (.int (8 : Int32)), .val (.int ((Int32.ofNat k) + (1 : Int32))), .val (.int (cs.getD k 0)), .val (.int (b64 (cs.getD k 0)))]) C d9_121 rfl rfl rfl ?_
                refine w_goto (pc' := 3) C d9_124 (by decide) (by decide) ?_
                rw [on_succ k]
                exact ih (n - 1) (by omega) (k + 1) (ln + (1 : Int32)) pd (b64 (cs.getD k 0)) (1 : Int32) _ _ _ (by omega) ((acc_ch q15_2 q29_3 q49_4 (if_pos q97_5)).symm.trans hd) (by first | assumption | exact Or.inr ⟨_, rfl, rfl⟩) (by first | assumption | exact Or.inr ⟨_, rfl, rfl⟩) hz O_o O_ta hk
              · skip
                refine w_aloadN (pc' := 101) C d9_100 rfl rfl rfl ?_
                refine w_getF (pc' := 104) C (tw hw 89 rfl) d9_101 rfl (O_o.fld 3 rfl) ?_
                refine w_if_le (pcT := 111) (pcF := 107) C d9_104 (by decide) (by decide) rfl (fun q104_6 => ?_) (fun q104_6 => ?_)
                · skip
                  refine w_iconst (pc' := 112) (x := (0 : Int32)) C d9_111 rfl rfl ?_
                  refine w_putFZ (pc' := 115) (v' := .int (0 : Int32)) (ty := .boolean) C (tw hw 52 rfl) (Or.inl (tw hw 53 rfl)) (tw hw 39 rfl) (by decide) rfl rfl d9_112 rfl g_o (O_o.fld 0 rfl) O_o.1 (fun h4 W4 => ?_)
                  have O_o : Obj Z h4 o "com/example/fedlint/fedlint/XsdDatatypes$Base64" [("broken", "Z", .int (0 : Int32)), ("length", "I", .int (ln + (1 : Int32))), ("last", "I", .int la), ("padding", "I", .int pd)] := O_o.put 0 rfl W4 rfl
                  have O_ta := O_ta.other W4 ne_ta_o
                  have hz : n0 ≤ h4.size := by rw [W4.size]; exact hz
                  have hk := hk.wr W4 (Or.inl (by simp))
                  refine w_aloadN (pc' := 116) C d9_115 rfl rfl rfl ?_
                  refine w_iload (pc' := 118) C d9_116 rfl rfl ?_
                  refine w_putF (pc' := 121) (ty := .int) C (tw hw 63 rfl) (Or.inl (tw hw 64 rfl)) (tw hw 39 rfl) (by decide) rfl rfl d9_118 rfl g_o (O_o.fld 2 rfl) O_o.1 (fun h5 W5 => ?_)
                  have O_o : Obj Z h5 o "com/example/fedlint/fedlint/XsdDatatypes$Base64" [("broken", "Z", .int (0 : Int32)), ("length", "I", .int (ln + (1 : Int32))), ("last", "I", .int (b64 (cs.getD k 0))), ("padding", "I", .int pd)] := O_o.put 2 rfl W5 rfl
                  have O_ta := O_ta.other W5 ne_ta_o
                  have hz : n0 ≤ h5.size := by rw [W5.size]; exact hz
                  have hk := hk.wr W5 (Or.inl (by simp))
                  refine w_iinc (pc' := 124) (Ls' := #[.val (.ref o), .val (.ref ta), .val (.int (0 : Int32)), .val (.int (8 : Int32)), .val (.int ((Int32.ofNat k) + (1 : Int32))), .val (.int (cs.getD k 0)), .val (.int (b64 (cs.getD k 0)))]) C d9_121 rfl rfl rfl ?_
                  refine w_goto (pc' := 3) C d9_124 (by decide) (by decide) ?_
                  rw [on_succ k]
                  exact ih (n - 1) (by omega) (k + 1) (ln + (1 : Int32)) pd (b64 (cs.getD k 0)) (0 : Int32) _ _ _ (by omega) ((acc_ch q15_2 q29_3 q49_4 ((if_neg q97_5).trans (if_neg q104_6))).symm.trans hd) (by first | assumption | exact Or.inr ⟨_, rfl, rfl⟩) (by first | assumption | exact Or.inr ⟨_, rfl, rfl⟩) hz O_o O_ta hk
                · skip
                  refine w_iconst (pc' := 108) (x := (1 : Int32)) C d9_107 rfl rfl ?_
                  refine w_goto (pc' := 112) C d9_108 (by decide) (by decide) ?_
                  refine w_putFZ (pc' := 115) (v' := .int (1 : Int32)) (ty := .boolean) C (tw hw 52 rfl) (Or.inl (tw hw 53 rfl)) (tw hw 39 rfl) (by decide) rfl rfl d9_112 rfl g_o (O_o.fld 0 rfl) O_o.1 (fun h6 W6 => ?_)
                  have O_o : Obj Z h6 o "com/example/fedlint/fedlint/XsdDatatypes$Base64" [("broken", "Z", .int (1 : Int32)), ("length", "I", .int (ln + (1 : Int32))), ("last", "I", .int la), ("padding", "I", .int pd)] := O_o.put 0 rfl W6 rfl
                  have O_ta := O_ta.other W6 ne_ta_o
                  have hz : n0 ≤ h6.size := by rw [W6.size]; exact hz
                  have hk := hk.wr W6 (Or.inl (by simp))
                  refine w_aloadN (pc' := 116) C d9_115 rfl rfl rfl ?_
                  refine w_iload (pc' := 118) C d9_116 rfl rfl ?_
                  refine w_putF (pc' := 121) (ty := .int) C (tw hw 63 rfl) (Or.inl (tw hw 64 rfl)) (tw hw 39 rfl) (by decide) rfl rfl d9_118 rfl g_o (O_o.fld 2 rfl) O_o.1 (fun h7 W7 => ?_)
                  have O_o : Obj Z h7 o "com/example/fedlint/fedlint/XsdDatatypes$Base64" [("broken", "Z", .int (1 : Int32)), ("length", "I", .int (ln + (1 : Int32))), ("last", "I", .int (b64 (cs.getD k 0))), ("padding", "I", .int pd)] := O_o.put 2 rfl W7 rfl
                  have O_ta := O_ta.other W7 ne_ta_o
                  have hz : n0 ≤ h7.size := by rw [W7.size]; exact hz
                  have hk := hk.wr W7 (Or.inl (by simp))
                  refine w_iinc (pc' := 124) (Ls' := #[.val (.ref o), .val (.ref ta), .val (.int (0 : Int32)), .val (.int (8 : Int32)), .val (.int ((Int32.ofNat k) + (1 : Int32))), .val (.int (cs.getD k 0)), .val (.int (b64 (cs.getD k 0)))]) C d9_121 rfl rfl rfl ?_
                  refine w_goto (pc' := 3) C d9_124 (by decide) (by decide) ?_
                  rw [on_succ k]
                  exact ih (n - 1) (by omega) (k + 1) (ln + (1 : Int32)) pd (b64 (cs.getD k 0)) (1 : Int32) _ _ _ (by omega) ((acc_ch q15_2 q29_3 q49_4 ((if_neg q97_5).trans (if_pos q104_6))).symm.trans hd) (by first | assumption | exact Or.inr ⟨_, rfl, rfl⟩) (by first | assumption | exact Or.inr ⟨_, rfl, rfl⟩) hz O_o O_ta hk
            · skip
              refine w_aloadN (pc' := 53) C d9_52 rfl rfl rfl ?_
              refine w_aloadN (pc' := 54) C d9_53 rfl rfl rfl ?_
              refine w_dup (pc' := 55) C d9_54 rfl rfl ?_
              refine w_getF (pc' := 58) C (tw hw 89 rfl) d9_55 rfl (O_o.fld 3 rfl) ?_
              refine w_iconst (pc' := 59) (x := (1 : Int32)) C d9_58 rfl rfl ?_
              refine w_iadd (pc' := 60) C d9_59 rfl ?_
              refine w_dupX1 (pc' := 61) C d9_60 rfl rfl rfl ?_
              refine w_putF (pc' := 64) (ty := .int) C (tw hw 89 rfl) (Or.inl (tw hw 90 rfl)) (tw hw 39 rfl) (by decide) rfl rfl d9_61 rfl g_o (O_o.fld 3 rfl) O_o.1 (fun h8 W8 => ?_)
              have O_o : Obj Z h8 o "com/example/fedlint/fedlint/XsdDatatypes$Base64" [("broken", "Z", .int bk), ("length", "I", .int (ln + (1 : Int32))), ("last", "I", .int la), ("padding", "I", .int (pd + (1 : Int32)))] := O_o.put 3 rfl W8 rfl
              have O_ta := O_ta.other W8 ne_ta_o
              have hz : n0 ≤ h8.size := by rw [W8.size]; exact hz
              have hk := hk.wr W8 (Or.inl (by simp))
              refine w_iconst (pc' := 65) (x := (2 : Int32)) C d9_64 rfl rfl ?_
              refine w_icmp_gt (pcT := 76) (pcF := 68) C d9_65 (by decide) (by decide) rfl (fun q65_7 => ?_) (fun q65_7 => ?_)
              · skip
                refine w_iconst (pc' := 77) (x := (1 : Int32)) C d9_76 rfl rfl ?_
                refine w_goto (pc' := 81) C d9_77 (by decide) (by decide) ?_
                refine w_putFZ (pc' := 84) (v' := .int (1 : Int32)) (ty := .boolean) C (tw hw 52 rfl) (Or.inl (tw hw 53 rfl)) (tw hw 39 rfl) (by decide) rfl rfl d9_81 rfl g_o (O_o.fld 0 rfl) O_o.1 (fun h9 W9 => ?_)
                have O_o : Obj Z h9 o "com/example/fedlint/fedlint/XsdDatatypes$Base64" [("broken", "Z", .int (1 : Int32)), ("length", "I", .int (ln + (1 : Int32))), ("last", "I", .int la), ("padding", "I", .int (pd + (1 : Int32)))] := O_o.put 0 rfl W9 rfl
                have O_ta := O_ta.other W9 ne_ta_o
                have hz : n0 ≤ h9.size := by rw [W9.size]; exact hz
                have hk := hk.wr W9 (Or.inl (by simp))
                refine w_goto (pc' := 121) C d9_84 (by decide) (by decide) ?_
                refine w_iinc (pc' := 124) (Ls' := #[.val (.ref o), .val (.ref ta), .val (.int (0 : Int32)), .val (.int (8 : Int32)), .val (.int ((Int32.ofNat k) + (1 : Int32))), .val (.int (cs.getD k 0)), u6]) C d9_121 rfl rfl rfl ?_
                refine w_goto (pc' := 3) C d9_124 (by decide) (by decide) ?_
                rw [on_succ k]
                exact ih (n - 1) (by omega) (k + 1) (ln + (1 : Int32)) (pd + (1 : Int32)) la (1 : Int32) _ _ _ (by omega) ((acc_eq q15_2 q29_3 q49_4 (if_pos q65_7)).symm.trans hd) (by first | assumption | exact Or.inr ⟨_, rfl, rfl⟩) (by first | assumption | exact Or.inr ⟨_, rfl, rfl⟩) hz O_o O_ta hk
              · skip
                refine w_aloadN (pc' := 69) C d9_68 rfl rfl rfl ?_
                refine w_getF (pc' := 72) C (tw hw 58 rfl) d9_69 rfl (O_o.fld 1 rfl) ?_
                refine w_iconst (pc' := 73) (x := (1 : Int32)) C d9_72 rfl rfl ?_
                refine w_icmp_ne (pcT := 80) (pcF := 76) C d9_73 (by decide) (by decide) rfl (fun q73_8 => ?_) (fun q73_8 => ?_)
                · skip
                  refine w_iconst (pc' := 81) (x := (0 : Int32)) C d9_80 rfl rfl ?_
                  refine w_putFZ (pc' := 84) (v' := .int (0 : Int32)) (ty := .boolean) C (tw hw 52 rfl) (Or.inl (tw hw 53 rfl)) (tw hw 39 rfl) (by decide) rfl rfl d9_81 rfl g_o (O_o.fld 0 rfl) O_o.1 (fun h10 W10 => ?_)
                  have O_o : Obj Z h10 o "com/example/fedlint/fedlint/XsdDatatypes$Base64" [("broken", "Z", .int (0 : Int32)), ("length", "I", .int (ln + (1 : Int32))), ("last", "I", .int la), ("padding", "I", .int (pd + (1 : Int32)))] := O_o.put 0 rfl W10 rfl
                  have O_ta := O_ta.other W10 ne_ta_o
                  have hz : n0 ≤ h10.size := by rw [W10.size]; exact hz
                  have hk := hk.wr W10 (Or.inl (by simp))
                  refine w_goto (pc' := 121) C d9_84 (by decide) (by decide) ?_
                  refine w_iinc (pc' := 124) (Ls' := #[.val (.ref o), .val (.ref ta), .val (.int (0 : Int32)), .val (.int (8 : Int32)), .val (.int ((Int32.ofNat k) + (1 : Int32))), .val (.int (cs.getD k 0)), u6]) C d9_121 rfl rfl rfl ?_
                  refine w_goto (pc' := 3) C d9_124 (by decide) (by decide) ?_
                  rw [on_succ k]
                  exact ih (n - 1) (by omega) (k + 1) (ln + (1 : Int32)) (pd + (1 : Int32)) la (0 : Int32) _ _ _ (by omega) ((acc_eq q15_2 q29_3 q49_4 ((if_neg q65_7).trans (if_neg q73_8))).symm.trans hd) (by first | assumption | exact Or.inr ⟨_, rfl, rfl⟩) (by first | assumption | exact Or.inr ⟨_, rfl, rfl⟩) hz O_o O_ta hk
                · skip
                  refine w_iconst (pc' := 77) (x := (1 : Int32)) C d9_76 rfl rfl ?_
                  refine w_goto (pc' := 81) C d9_77 (by decide) (by decide) ?_
                  refine w_putFZ (pc' := 84) (v' := .int (1 : Int32)) (ty := .boolean) C (tw hw 52 rfl) (Or.inl (tw hw 53 rfl)) (tw hw 39 rfl) (by decide) rfl rfl d9_81 rfl g_o (O_o.fld 0 rfl) O_o.1 (fun h11 W11 => ?_)
                  have O_o : Obj Z h11 o "com/example/fedlint/fedlint/XsdDatatypes$Base64" [("broken", "Z", .int (1 : Int32)), ("length", "I", .int (ln + (1 : Int32))), ("last", "I", .int la), ("padding", "I", .int (pd + (1 : Int32)))] := O_o.put 0 rfl W11 rfl
                  have O_ta := O_ta.other W11 ne_ta_o
                  have hz : n0 ≤ h11.size := by rw [W11.size]; exact hz
                  have hk := hk.wr W11 (Or.inl (by simp))
                  refine w_goto (pc' := 121) C d9_84 (by decide) (by decide) ?_
                  refine w_iinc (pc' := 124) (Ls' := #[.val (.ref o), .val (.ref ta), .val (.int (0 : Int32)), .val (.int (8 : Int32)), .val (.int ((Int32.ofNat k) + (1 : Int32))), .val (.int (cs.getD k 0)), u6]) C d9_121 rfl rfl rfl ?_
                  refine w_goto (pc' := 3) C d9_124 (by decide) (by decide) ?_
                  rw [on_succ k]
                  exact ih (n - 1) (by omega) (k + 1) (ln + (1 : Int32)) (pd + (1 : Int32)) la (1 : Int32) _ _ _ (by omega) ((acc_eq q15_2 q29_3 q49_4 ((if_neg q65_7).trans (if_pos q73_8))).symm.trans hd) (by first | assumption | exact Or.inr ⟨_, rfl, rfl⟩) (by first | assumption | exact Or.inr ⟨_, rfl, rfl⟩) hz O_o O_ta hk
          · skip
            refine w_goto (pc' := 121) C d9_32 (by decide) (by decide) ?_
            refine w_iinc (pc' := 124) (Ls' := #[.val (.ref o), .val (.ref ta), .val (.int (0 : Int32)), .val (.int (8 : Int32)), .val (.int ((Int32.ofNat k) + (1 : Int32))), .val (.int (cs.getD k 0)), u6]) C d9_121 rfl rfl rfl ?_
            refine w_goto (pc' := 3) C d9_124 (by decide) (by decide) ?_
            rw [on_succ k]
            exact ih (n - 1) (by omega) (k + 1) ln pd la bk _ _ _ (by omega) ((acc_sp q15_2 q29_3).symm.trans hd) (by first | assumption | exact Or.inr ⟨_, rfl, rfl⟩) (by first | assumption | exact Or.inr ⟨_, rfl, rfl⟩) hz O_o O_ta hk
  refine w_iloadN (pc' := 1) C d9_0 rfl rfl ?_
  refine w_istore (pc' := 3) (Ls' := #[.val (.ref o), .val (.ref ta), .val (.int (0 : Int32)), .val (.int (8 : Int32)), .val (.int (0 : Int32)), .unset, .unset]) C d9_1 rfl rfl ?_
  exact L3 8 0 0 0 0 0 h0 _ _ (by omega) hR (Or.inl rfl) (Or.inl rfl) hz O_o O_ta (Keep.refl _ _)
theorem d12_0 : decode prog_109_method_4_code 0 = .ok (.aload_n 0, 1) := by decide +kernel
theorem d12_1 : decode prog_109_method_4_code 1 = .ok (.getfield 19, 3) := by decide +kernel
theorem d12_4 : decode prog_109_method_4_code 4 = .ok (.ifCond .ne 58, 3) := by decide +kernel
theorem d12_7 : decode prog_109_method_4_code 7 = .ok (.aload_n 0, 1) := by decide +kernel
theorem d12_8 : decode prog_109_method_4_code 8 = .ok (.getfield 7, 3) := by decide +kernel
theorem d12_11 : decode prog_109_method_4_code 11 = .ok (.iconst 4, 1) := by decide +kernel
theorem d12_12 : decode prog_109_method_4_code 12 = .ok (.irem, 1) := by decide +kernel
theorem d12_13 : decode prog_109_method_4_code 13 = .ok (.ifCond .ne 49, 3) := by decide +kernel
theorem d12_16 : decode prog_109_method_4_code 16 = .ok (.aload_n 0, 1) := by decide +kernel
theorem d12_17 : decode prog_109_method_4_code 17 = .ok (.getfield 13, 3) := by decide +kernel
theorem d12_20 : decode prog_109_method_4_code 20 = .ok (.ifCond .eq 38, 3) := by decide +kernel
theorem d12_23 : decode prog_109_method_4_code 23 = .ok (.aload_n 0, 1) := by decide +kernel
theorem d12_24 : decode prog_109_method_4_code 24 = .ok (.getfield 13, 3) := by decide +kernel
theorem d12_27 : decode prog_109_method_4_code 27 = .ok (.iconst 1, 1) := by decide +kernel
theorem d12_28 : decode prog_109_method_4_code 28 = .ok (.if_icmp .ne 12, 3) := by decide +kernel
theorem d12_31 : decode prog_109_method_4_code 31 = .ok (.aload_n 0, 1) := by decide +kernel
theorem d12_32 : decode prog_109_method_4_code 32 = .ok (.getfield 16, 3) := by decide +kernel
theorem d12_35 : decode prog_109_method_4_code 35 = .ok (.iconst 3, 1) := by decide +kernel
theorem d12_36 : decode prog_109_method_4_code 36 = .ok (.iand, 1) := by decide +kernel
theorem d12_37 : decode prog_109_method_4_code 37 = .ok (.ifCond .eq 21, 3) := by decide +kernel
theorem d12_40 : decode prog_109_method_4_code 40 = .ok (.aload_n 0, 1) := by decide +kernel
theorem d12_41 : decode prog_109_method_4_code 41 = .ok (.getfield 13, 3) := by decide +kernel
theorem d12_44 : decode prog_109_method_4_code 44 = .ok (.iconst 2, 1) := by decide +kernel
theorem d12_45 : decode prog_109_method_4_code 45 = .ok (.if_icmp .ne 17, 3) := by decide +kernel
theorem d12_48 : decode prog_109_method_4_code 48 = .ok (.aload_n 0, 1) := by decide +kernel
theorem d12_49 : decode prog_109_method_4_code 49 = .ok (.getfield 16, 3) := by decide +kernel
theorem d12_52 : decode prog_109_method_4_code 52 = .ok (.bipush 15, 2) := by decide +kernel
theorem d12_54 : decode prog_109_method_4_code 54 = .ok (.iand, 1) := by decide +kernel
theorem d12_55 : decode prog_109_method_4_code 55 = .ok (.ifCond .ne 7, 3) := by decide +kernel
theorem d12_58 : decode prog_109_method_4_code 58 = .ok (.iconst 1, 1) := by decide +kernel
theorem d12_59 : decode prog_109_method_4_code 59 = .ok (.goto 4, 3) := by decide +kernel
theorem d12_62 : decode prog_109_method_4_code 62 = .ok (.iconst 0, 1) := by decide +kernel
theorem d12_63 : decode prog_109_method_4_code 63 = .ok (.ireturn, 1) := by decide +kernel
def validF_62 (ln : Int32) (pd : Int32) (la : Int32) (bk : Int32) : Int32 := (0 : Int32)
def validF_58 (ln : Int32) (pd : Int32) (la : Int32) (bk : Int32) : Int32 := (1 : Int32)
def validF_40 (ln : Int32) (pd : Int32) (la : Int32) (bk : Int32) : Int32 := (if pd = (2 : Int32) then (if (la &&& (15 : Int32)) = 0 then (validF_58 ln pd la bk) else (validF_62 ln pd la bk)) else (validF_62 ln pd la bk))
def validF (ln : Int32) (pd : Int32) (la : Int32) (bk : Int32) : Int32 := (if bk = 0 then (if (ln % (4 : Int32)) = 0 then (if pd = 0 then (validF_58 ln pd la bk) else (if pd = (1 : Int32) then (if (la &&& (3 : Int32)) = 0 then (validF_58 ln pd la bk) else (validF_40 ln pd la bk)) else (validF_40 ln pd la bk))) else (validF_62 ln pd la bk)) else (validF_62 ln pd la bk))
def rm_validF : Room := { frames := 0, cells := 0, slots := 0, locals := 0 }
def Q_validF (ln : Int32) (pd : Int32) (la : Int32) (bk : Int32) (h0 : Heap) (v : Option Value) (h : Heap) : Prop := v = some (.int (validF ln pd la bk)) ∧ h = h0
theorem pf_validF : plainFor (⟨"com/example/fedlint/fedlint/XsdDatatypes$Base64", "valid", "()Z"⟩ : MethodName) = true := plainFor_of_name (by first | (simp [plainName, overriddenIn]; done) | decide +kernel)
set_option maxRecDepth 65536 in
set_option maxHeartbeats 40000000 in
theorem ct_validF {l : Launch} {Z : State} {a0 : Array Value} (hw : ∀ d ∈ tables_1, d.before a0 Z = true) (h0 : Heap) (n0 : Nat) (o : Addr) (ln : Int32) (pd : Int32) (la : Int32) (bk : Int32) (O_o : Obj Z h0 o "com/example/fedlint/fedlint/XsdDatatypes$Base64" [("broken", "Z", .int bk), ("length", "I", .int ln), ("last", "I", .int la), ("padding", "I", .int pd)]) :
    Ct l Z (⟨"com/example/fedlint/fedlint/XsdDatatypes$Base64", "valid", "()Z"⟩ : MethodName) prog_109_method_4_code 1 (Option.some Jvm.ClassFile.FieldType.boolean) [] rm_validF #[.ref o] h0 n0 (Q_validF ln pd la bk h0) := by
  refine Ct.of (Ls := #[.val (.ref o)]) pf_validF (fun m => by first | (simp [entryFrame, mkF, argsToLocals, Value.category, maxLocals]; done) | rfl) ?_
  intro p e s m below meth c C
  have K62 : validF ln pd la bk = validF_62 ln pd la bk → Wp p l e rm_validF s m #[.ref o] below meth c n0 (EN s rm_validF.cells rm_validF.slots) (Q_validF ln pd la bk h0) h0 0 0 (mkF m 62 #[.val (.ref o)] []) := by
    intro hr
    change _ = (0 : Int32) at hr
    refine w_iconst (pc' := 63) (x := (0 : Int32)) C d12_62 rfl rfl ?_
    refine w_retN' (t := .boolean) (z' := (0 : Int32)) C rfl (by simp) d12_63 (closeN (by decide) (by decide)) narB0 ?_
    exact And.intro (congrArg (fun z => some (Value.int z)) hr.symm) rfl
  have K58 : validF ln pd la bk = validF_58 ln pd la bk → Wp p l e rm_validF s m #[.ref o] below meth c n0 (EN s rm_validF.cells rm_validF.slots) (Q_validF ln pd la bk h0) h0 0 0 (mkF m 58 #[.val (.ref o)] []) := by
    intro hr
    change _ = (1 : Int32) at hr
    refine w_iconst (pc' := 59) (x := (1 : Int32)) C d12_58 rfl rfl ?_
    refine w_goto (pc' := 63) C d12_59 (by decide) (by decide) ?_
    refine w_retN' (t := .boolean) (z' := (1 : Int32)) C rfl (by simp) d12_63 (closeN (by decide) (by decide)) narB1 ?_
    exact And.intro (congrArg (fun z => some (Value.int z)) hr.symm) rfl
  have K40 : validF ln pd la bk = validF_40 ln pd la bk → Wp p l e rm_validF s m #[.ref o] below meth c n0 (EN s rm_validF.cells rm_validF.slots) (Q_validF ln pd la bk h0) h0 0 0 (mkF m 40 #[.val (.ref o)] []) := by
    intro hr
    change _ = (if pd = (2 : Int32) then (if (la &&& (15 : Int32)) = 0 then (validF_58 ln pd la bk) else (validF_62 ln pd la bk)) else (validF_62 ln pd la bk)) at hr
    refine w_aloadN (pc' := 41) C d12_40 rfl rfl rfl ?_
    refine w_getF (pc' := 44) C (tw hw 89 rfl) d12_41 rfl (O_o.fld 3 rfl) ?_
    refine w_iconst (pc' := 45) (x := (2 : Int32)) C d12_44 rfl rfl ?_
    refine w_icmp_ne (pcT := 62) (pcF := 48) C d12_45 (by decide) (by decide) rfl (fun q45 => ?_) (fun q45 => ?_)
    · have hr := hr.trans (if_neg q45)
      exact K62 hr
    · have hr := hr.trans (if_pos q45)
      refine w_aloadN (pc' := 49) C d12_48 rfl rfl rfl ?_
      refine w_getF (pc' := 52) C (tw hw 63 rfl) d12_49 rfl (O_o.fld 2 rfl) ?_
      refine w_bipush (pc' := 54) (x := (15 : Int32)) C d12_52 rfl rfl ?_
      refine w_iand (pc' := 55) C d12_54 rfl ?_
      refine w_if_ne (pcT := 62) (pcF := 58) C d12_55 (by decide) (by decide) rfl (fun q55 => ?_) (fun q55 => ?_)
      · have hr := hr.trans (if_neg q55)
        exact K62 hr
      · have hr := hr.trans (if_pos q55)
        exact K58 hr
  have hr : validF ln pd la bk = (if bk = 0 then (if (ln % (4 : Int32)) = 0 then (if pd = 0 then (validF_58 ln pd la bk) else (if pd = (1 : Int32) then (if (la &&& (3 : Int32)) = 0 then (validF_58 ln pd la bk) else (validF_40 ln pd la bk)) else (validF_40 ln pd la bk))) else (validF_62 ln pd la bk)) else (validF_62 ln pd la bk)) := rfl
  refine w_aloadN (pc' := 1) C d12_0 rfl rfl rfl ?_
  refine w_getF (pc' := 4) C (tw hw 52 rfl) d12_1 rfl (O_o.fld 0 rfl) ?_
  refine w_if_ne (pcT := 62) (pcF := 7) C d12_4 (by decide) (by decide) rfl (fun q4 => ?_) (fun q4 => ?_)
  · have hr := hr.trans (if_neg q4)
    exact K62 hr
  · have hr := hr.trans (if_pos q4)
    refine w_aloadN (pc' := 8) C d12_7 rfl rfl rfl ?_
    refine w_getF (pc' := 11) C (tw hw 58 rfl) d12_8 rfl (O_o.fld 1 rfl) ?_
    refine w_iconst (pc' := 12) (x := (4 : Int32)) C d12_11 rfl rfl ?_
    refine w_irem (pc' := 13) C d12_12 (by decide) rfl ?_
    refine w_if_ne (pcT := 62) (pcF := 16) C d12_13 (by decide) (by decide) rfl (fun q13 => ?_) (fun q13 => ?_)
    · have hr := hr.trans (if_neg q13)
      exact K62 hr
    · have hr := hr.trans (if_pos q13)
      refine w_aloadN (pc' := 17) C d12_16 rfl rfl rfl ?_
      refine w_getF (pc' := 20) C (tw hw 89 rfl) d12_17 rfl (O_o.fld 3 rfl) ?_
      refine w_if_eq (pcT := 58) (pcF := 23) C d12_20 (by decide) (by decide) rfl (fun q20 => ?_) (fun q20 => ?_)
      · have hr := hr.trans (if_pos q20)
        exact K58 hr
      · have hr := hr.trans (if_neg q20)
        refine w_aloadN (pc' := 24) C d12_23 rfl rfl rfl ?_
        refine w_getF (pc' := 27) C (tw hw 89 rfl) d12_24 rfl (O_o.fld 3 rfl) ?_
        refine w_iconst (pc' := 28) (x := (1 : Int32)) C d12_27 rfl rfl ?_
        refine w_icmp_ne (pcT := 40) (pcF := 31) C d12_28 (by decide) (by decide) rfl (fun q28 => ?_) (fun q28 => ?_)
        · have hr := hr.trans (if_neg q28)
          exact K40 hr
        · have hr := hr.trans (if_pos q28)
          refine w_aloadN (pc' := 32) C d12_31 rfl rfl rfl ?_
          refine w_getF (pc' := 35) C (tw hw 63 rfl) d12_32 rfl (O_o.fld 2 rfl) ?_
          refine w_iconst (pc' := 36) (x := (3 : Int32)) C d12_35 rfl rfl ?_
          refine w_iand (pc' := 37) C d12_36 rfl ?_
          refine w_if_eq (pcT := 58) (pcF := 40) C d12_37 (by decide) (by decide) rfl (fun q37 => ?_) (fun q37 => ?_)
          · have hr := hr.trans (if_pos q37)
            exact K58 hr
          · have hr := hr.trans (if_neg q37)
            exact K40 hr
def abF (t0 t1 t2 t3 t4 t5 t6 t7 : Int32) : Int32 := if badF t0 = 0 then (if badF t1 = 0 then (if badF t2 = 0 then (if badF t3 = 0 then (if badF t4 = 0 then (if badF t5 = 0 then (if badF t6 = 0 then (if badF t7 = 0 then 0 else 1) else 1) else 1) else 1) else 1) else 1) else 1) else 1
def seS (se z : Int32) : Int32 := if se = 0 then (if z = 61 then 1 else 0) else 1
def afS (se af z : Int32) : Int32 := if af = 0 then (if se = 0 then 0 else if valF z < 0 then 0 else 1) else 1
def pad2 (q lv : Int32) : Int32 := if q = 2 then (if lv &&& 15 = 0 then 1 else 0) else 0
def padF (q lv : Int32) : Int32 := if q = 0 then 1 else if q = 1 then (if lv &&& 3 = 0 then 1 else pad2 q lv) else pad2 q lv
def expF (ab af n pad : Int32) : Int32 := if ab = 0 then (if af = 0 then (if n % 4 = 0 then (if pad = 0 then 0 else 1) else 0) else 0) else 0
def nF : List Int32 → Int32 → Int32
  | [], n => n
  | z :: cs, n => nF cs (n + nonSp z)
def qF : List Int32 → Int32 → Int32
  | [], n => n
  | z :: cs, n => qF cs (n + eqF z)
def lvF : List Int32 → Int32 → Int32
  | [], v => v
  | z :: cs, v => lvF cs (pickF z v)
def abL : List Int32 → Int32
  | [] => 0
  | z :: cs => if badF z = 0 then abL cs else 1
def afL : List Int32 → Int32 → Int32 → Int32
  | [], _, af => af
  | z :: cs, se, af => afL cs (seS se z) (afS (seS se z) af z)
def EXP (cs : List Int32) (ln pd la se : Int32) : Int32 := expF (abL cs) (afL cs se 0) (nF cs ln) (padF (qF cs pd) (lvF cs la))
def V (r : Int32 × Int32 × Int32 × Int32) : Int32 := validF r.1 r.2.1 r.2.2.1 r.2.2.2
theorem isSp_eq (z : Int32) : isSp z = spF z := by
  unfold isSp spF; (try unfold isSp_24); (try unfold spF_24); rfl
theorem b64_eq (z : Int32) : b64 z = valF z := by
  unfold b64 valF; (try unfold b64_17 valF_17); (try unfold b64_37 valF_37); (try unfold b64_57 valF_57); rfl
theorem spF_cases {z : Int32} (h : ¬ spF z = 0) : z = 32 ∨ z = 9 ∨ z = 10 ∨ z = 13 := by
  by_cases h1 : z = 32
  · exact Or.inl h1
  by_cases h2 : z = 9
  · exact Or.inr (Or.inl h2)
  by_cases h3 : z = 10
  · exact Or.inr (Or.inr (Or.inl h3))
  by_cases h4 : z = 13
  · exact Or.inr (Or.inr (Or.inr h4))
  · exfalso; apply h; simp [spF, spF_24, h1, h2, h3, h4]
theorem f_sp {z : Int32} (h : ¬ spF z = 0) : valF z < 0 ∧ ¬ z = 61 ∧ badF z = 0 ∧ nonSp z = 0 ∧ eqF z = 0 ∧ ∀ v, pickF z v = v := by
  rcases spF_cases h with rfl | rfl | rfl | rfl <;> exact ⟨by decide, by decide, by decide, by decide, by decide, fun v => rfl⟩
theorem f_eq : spF 61 = 0 ∧ valF 61 < 0 ∧ badF 61 = 0 ∧ nonSp 61 = 1 ∧ eqF 61 = 1 ∧ ∀ v, pickF 61 v = v := ⟨by decide, by decide, by decide, by decide, by decide, fun v => rfl⟩
theorem f_ch {z : Int32} (h : spF z = 0) (h1 : ¬ z = 61) : nonSp z = 1 ∧ eqF z = 0 ∧ (valF z < 0 → badF z = 1) ∧ (¬ valF z < 0 → badF z = 0 ∧ ∀ v, pickF z v = valF z) := by
  refine ⟨by simp [nonSp, h], by simp [eqF, h1], fun q => by simp [badF, badF_24, h, h1, q], fun q => ⟨by simp [badF, badF_24, h, h1, q], fun v => by simp [pickF, q]⟩⟩
theorem expF_ab {ab af n pad : Int32} (h : ¬ ab = 0) : expF ab af n pad = 0 := if_neg h
theorem expF_af {ab af n pad : Int32} (h : ¬ af = 0) : expF ab af n pad = 0 := by unfold expF; simp [h]
theorem expF_pad {ab af n : Int32} : expF ab af n 0 = 0 := by unfold expF; simp
theorem afL_one (cs : List Int32) (se : Int32) : afL cs se 1 = 1 := by
  induction cs generalizing se with
  | nil => rfl
  | cons z cs ih => exact ih _
theorem E_sp {z : Int32} {cs : List Int32} {ln pd la se : Int32} (hs : se = 0 ∨ se = 1) (h : ¬ spF z = 0) : EXP (z :: cs) ln pd la se = EXP cs ln pd la se := by
  obtain ⟨h1, h2, h3, h4, h5, h6⟩ := f_sp h
  have e1 : seS se z = se := by rcases hs with rfl | rfl <;> simp [seS, h2]
  have e2 : afS se 0 z = 0 := by simp [afS, h1]
  unfold EXP
  rw [show abL (z :: cs) = abL cs from if_pos h3, show afL (z :: cs) se 0 = afL cs (seS se z) (afS (seS se z) 0 z) from rfl, e1, e2, show nF (z :: cs) ln = nF cs (ln + nonSp z) from rfl, h4, show qF (z :: cs) pd = qF cs (pd + eqF z) from rfl, h5, show lvF (z :: cs) la = lvF cs (pickF z la) from rfl, h6, Int32.add_zero, Int32.add_zero]
theorem E_eq {cs : List Int32} {ln pd la se : Int32} : EXP (61 :: cs) ln pd la se = EXP cs (ln + 1) (pd + 1) la 1 := by
  obtain ⟨h0, h1, h3, h4, h5, h6⟩ := f_eq
  have e1 : seS se 61 = 1 := by unfold seS; split <;> rfl
  have e2 : afS 1 0 61 = 0 := by decide
  unfold EXP
  rw [show abL (61 :: cs) = abL cs from if_pos h3, show afL (61 :: cs) se 0 = afL cs (seS se 61) (afS (seS se 61) 0 61) from rfl, e1, e2, show nF (61 :: cs) ln = nF cs (ln + nonSp 61) from rfl, h4, show qF (61 :: cs) pd = qF cs (pd + eqF 61) from rfl, h5, show lvF (61 :: cs) la = lvF cs (pickF 61 la) from rfl, h6]
theorem E_bad {z : Int32} {cs : List Int32} {ln pd la se : Int32} (h : spF z = 0) (h1 : ¬ z = 61) (q : valF z < 0) : EXP (z :: cs) ln pd la se = 0 := by
  apply expF_ab
  rw [show abL (z :: cs) = 1 from if_neg (by rw [(f_ch h h1).2.2.1 q]; decide)]; decide
theorem E_aft {z : Int32} {cs : List Int32} {ln pd la : Int32} (h : spF z = 0) (h1 : ¬ z = 61) (q : ¬ valF z < 0) : EXP (z :: cs) ln pd la 1 = 0 := by
  apply expF_af
  have e2 : afS 1 0 z = 1 := by simp [afS, q]
  rw [show afL (z :: cs) 1 0 = afL cs 1 (afS 1 0 z) from rfl, e2, afL_one]; decide
theorem E_ch {z : Int32} {cs : List Int32} {ln pd la : Int32} (h : spF z = 0) (h1 : ¬ z = 61) (q : ¬ valF z < 0) : EXP (z :: cs) ln pd la 0 = EXP cs (ln + 1) pd (valF z) 0 := by
  obtain ⟨h2, h3, -, h4⟩ := f_ch h h1
  have e1 : seS 0 z = 0 := by simp [seS, h1]
  unfold EXP
  rw [show abL (z :: cs) = abL cs from if_pos (h4 q).1, show afL (z :: cs) 0 0 = afL cs (seS 0 z) (afS (seS 0 z) 0 z) from rfl, e1, show afS 0 0 z = 0 from rfl, show nF (z :: cs) ln = nF cs (ln + nonSp z) from rfl, h2, show qF (z :: cs) pd = qF cs (pd + eqF z) from rfl, h3, show lvF (z :: cs) la = lvF cs (pickF z la) from rfl, (h4 q).2, Int32.add_zero]
theorem eqF_01 (z : Int32) : eqF z = 0 ∨ eqF z = 1 := by
  by_cases h : z = 61
  · subst h; exact Or.inr (by decide)
  · exact Or.inl (by simp [eqF, h])
theorem qF_on (cs : List Int32) (p : Nat) : ∃ p', p ≤ p' ∧ p' ≤ p + cs.length ∧ qF cs (Int32.ofNat p) = Int32.ofNat p' := by
  induction cs generalizing p with
  | nil => exact ⟨p, Nat.le_refl _, Nat.le_add_right _ _, rfl⟩
  | cons z cs ih =>
    rcases eqF_01 z with h | h
    · obtain ⟨p', a, b, c⟩ := ih p
      exact ⟨p', a, by simp only [List.length_cons]; omega, by rw [show qF (z :: cs) (Int32.ofNat p) = qF cs (Int32.ofNat p + eqF z) from rfl, h, Int32.add_zero]; exact c⟩
    · obtain ⟨p', a, b, c⟩ := ih (p + 1)
      exact ⟨p', by omega, by simp only [List.length_cons]; omega, by rw [show qF (z :: cs) (Int32.ofNat p) = qF cs (Int32.ofNat p + eqF z) from rfl, h, on_succ]; exact c⟩
theorem pad_big {p : Nat} (lv : Int32) (h : 3 ≤ p) (h2 : p ≤ 2000) : padF (Int32.ofNat p) lv = 0 := by
  have n0 : ¬ Int32.ofNat p = 0 := fun e => by have := on_inj (j := 0) h2 (by omega) e; omega
  have n1 : ¬ Int32.ofNat p = 1 := fun e => by have := on_inj (j := 1) h2 (by omega) e; omega
  have n2 : ¬ Int32.ofNat p = 2 := fun e => by have := on_inj (j := 2) h2 (by omega) e; omega
  unfold padF pad2; rw [if_neg n0, if_neg n1, if_neg n2]
theorem E_three {cs : List Int32} {ln la se : Int32} {p : Nat} (h : 3 ≤ p) (hl : p + cs.length ≤ 100) : EXP cs ln (Int32.ofNat p) la se = 0 := by
  obtain ⟨p', a, b, c⟩ := qF_on cs p
  unfold EXP
  rw [c, pad_big _ (by omega) (by omega)]; exact expF_pad
theorem mod4 {m : Nat} (h : m < 3) (h0 : 1 ≤ m) : ¬ Int32.ofNat m % 4 = 0 := by
  match m, h, h0 with
  | 1, _, _ => decide
  | 2, _, _ => decide
theorem E_only (cs : List Int32) (m : Nat) (la : Int32) (h0 : 1 ≤ m) (hl : m + cs.length ≤ 100) : EXP cs (Int32.ofNat m) (Int32.ofNat m) la 1 = 0 := by
  induction cs generalizing m with
  | nil =>
    by_cases h : m < 3
    · show expF 0 0 (Int32.ofNat m) _ = 0
      unfold expF; rw [if_pos rfl, if_pos rfl, if_neg (mod4 h h0)]
    · exact E_three (by omega) hl
  | cons z cs ih =>
    simp only [List.length_cons] at hl
    by_cases h : spF z = 0
    · by_cases h1 : z = 61
      · subst h1; rw [E_eq, on_succ]; exact ih (m + 1) (by omega) (by omega)
      · by_cases q : valF z < 0
        · exact E_bad h h1 q
        · exact E_aft h h1 q
    · rw [E_sp (Or.inr rfl) h]; exact ih m h0 (by omega)
theorem acc_bk (cs : List Int32) (ln pd la : Int32) : acc cs ln pd la 1 = (ln, pd, la, 1) := by
  cases cs with
  | nil => rfl
  | cons z cs => exact if_neg (by decide)
theorem V_bk (cs : List Int32) (ln pd la : Int32) : V (acc cs ln pd la 1) = 0 := by
  rw [acc_bk]; unfold V; simp [validF, validF_40, validF_58, validF_62]
theorem V_nil (ln pd la se : Int32) : V (ln, pd, la, 0) = EXP [] ln pd la se := by
  unfold V EXP expF padF pad2; simp only [validF, validF_40, validF_58, validF_62, abL, afL, nF, qF, lvF]
  by_cases h1 : ln % 4 = 0 <;> by_cases h2 : pd = 0 <;> by_cases h3 : pd = 1 <;> by_cases h4 : pd = 2 <;> by_cases h5 : la &&& 3 = 0 <;> by_cases h6 : la &&& 15 = 0 <;> simp [h1, h2, h3, h4, h5, h6]
theorem V_exp (cs : List Int32) (m p : Nat) (la : Int32) (hl : m + cs.length ≤ 50) (hp : p ≤ 2) (h0 : m = 0 → p = 0) : V (acc cs (Int32.ofNat m) (Int32.ofNat p) la 0) = EXP cs (Int32.ofNat m) (Int32.ofNat p) la (if p = 0 then 0 else 1) := by
  induction cs generalizing m p la with
  | nil => exact V_nil _ _ _ _
  | cons z cs ih =>
    simp only [List.length_cons] at hl
    by_cases h : spF z = 0
    · have h' : isSp z = 0 := (isSp_eq z).trans h
      by_cases h1 : z = 61
      · subst h1
        rw [E_eq, on_succ, on_succ]
        by_cases hp2 : p = 2
        · subst hp2
          rw [acc_eq rfl h' rfl (b := 1) (if_pos (by decide)), V_bk]
          exact (E_three (by omega) (by omega)).symm
        · have l2 : ¬ 2 < Int32.ofNat p + 1 := by
            rw [on_succ]; intro q; have := (on_lt (k := 2) (j := p + 1) (by omega) (by omega)).mp q; omega
          by_cases hm : m = 0
          · have hp0 := h0 hm
            subst hm hp0
            rw [acc_eq rfl h' rfl (b := 1) ((if_neg l2).trans (if_pos (by decide))), V_bk]
            exact (E_only cs 1 la (by omega) (by omega)).symm
          · have l1 : ¬ Int32.ofNat m + 1 = 1 := by
              rw [on_succ]; intro q; have := on_inj (k := m + 1) (j := 1) (by omega) (by omega) q; omega
            rw [acc_eq rfl h' rfl (b := 0) ((if_neg l2).trans (if_neg l1)), on_succ, on_succ, ih (m + 1) (p + 1) la (by omega) (by omega) (by omega), if_neg (by omega)]
      · by_cases q : valF z < 0
        · rw [acc_ch rfl h' h1 (b := 1) (if_pos (by rw [b64_eq]; exact q)), V_bk, E_bad h h1 q]
        · have q' : ¬ b64 z < 0 := by rw [b64_eq]; exact q
          by_cases hp0 : p = 0
          · subst hp0
            rw [acc_ch rfl h' h1 (b := 0) ((if_neg q').trans (if_neg (by decide))), b64_eq, on_succ, ih (m + 1) 0 (valF z) (by omega) (by omega) (by omega), if_pos rfl, E_ch h h1 q, on_succ]
          · have l0 : (0 : Int32) < Int32.ofNat p := (on_lt (k := 0) (j := p) (by omega) (by omega)).mpr (by omega)
            rw [acc_ch rfl h' h1 (b := 1) ((if_neg q').trans (if_pos l0)), V_bk, if_neg hp0, E_aft h h1 q]
    · have h' : ¬ isSp z = 0 := by rw [isSp_eq]; exact h
      rw [acc_sp rfl h', E_sp (by split; exact Or.inl rfl; exact Or.inr rfl) h]
      exact ih m p la (by omega) hp h0
theorem plain (t0 t1 t2 t3 t4 t5 t6 t7 : Int32) : (validF (acc [t0, t1, t2, t3, t4, t5, t6, t7] 0 0 0 0).1 (acc [t0, t1, t2, t3, t4, t5, t6, t7] 0 0 0 0).2.1 (acc [t0, t1, t2, t3, t4, t5, t6, t7] 0 0 0 0).2.2.1 (acc [t0, t1, t2, t3, t4, t5, t6, t7] 0 0 0 0).2.2.2) = (expF (abF t0 t1 t2 t3 t4 t5 t6 t7) (afS (seS (seS (seS (seS (seS (seS (seS (seS (0 : Int32) t0) t1) t2) t3) t4) t5) t6) t7) (afS (seS (seS (seS (seS (seS (seS (seS (0 : Int32) t0) t1) t2) t3) t4) t5) t6) (afS (seS (seS (seS (seS (seS (seS (0 : Int32) t0) t1) t2) t3) t4) t5) (afS (seS (seS (seS (seS (seS (0 : Int32) t0) t1) t2) t3) t4) (afS (seS (seS (seS (seS (0 : Int32) t0) t1) t2) t3) (afS (seS (seS (seS (0 : Int32) t0) t1) t2) (afS (seS (seS (0 : Int32) t0) t1) (afS (seS (0 : Int32) t0) (0 : Int32) t0) t1) t2) t3) t4) t5) t6) t7) ((((((((nonSp t0) + (nonSp t1)) + (nonSp t2)) + (nonSp t3)) + (nonSp t4)) + (nonSp t5)) + (nonSp t6)) + (nonSp t7)) (padF ((((((((eqF t0) + (eqF t1)) + (eqF t2)) + (eqF t3)) + (eqF t4)) + (eqF t5)) + (eqF t6)) + (eqF t7)) (pickF t7 (pickF t6 (pickF t5 (pickF t4 (pickF t3 (pickF t2 (pickF t1 (pickF t0 (0 : Int32))))))))))) := by
  have h := V_exp [t0, t1, t2, t3, t4, t5, t6, t7] 0 0 0 (by simp) (by decide) (fun _ => rfl)
  unfold V EXP at h
  simp only [nF, qF] at h
  rw [show (Int32.ofNat 0 : Int32) = 0 from rfl, Int32.zero_add, Int32.zero_add] at h
  exact h
theorem pf_law : plainFor (⟨"com/example/fedlint/fedlint/Base64ValidPinLaw", "law", "(JJJJ)Z"⟩ : MethodName) = true := plainFor_of_name (by first | (simp [plainName, overriddenIn]; done) | decide +kernel)
set_option maxRecDepth 65536 in
set_option maxHeartbeats 40000000 in
theorem ct_law {l : Launch} {Z : State} {a0 : Array Value} (hw : ∀ d ∈ tables_1, d.before a0 Z = true) (ws : List Jvm.Cond) (h0 : Heap) (n0 : Nat) (x0 : Int64) (x1 : Int64) (x2 : Int64) (x3 : Int64) (zc : Int32) (fv : Value) (hz : n0 ≤ h0.size) (hzc : ¬ zc = 0) (hfv : fv.isRef = true) (S_COMPACT_STRINGS : Sta Z h0 "java/lang/String" "COMPACT_STRINGS" "Z" (.int zc)) (S_SIOOBE_FORMATTER : Sta Z h0 "jdk/internal/util/Preconditions" "SIOOBE_FORMATTER" "Ljava/util/function/BiFunction;" fv) :
    CtH l Z EL 260 x code maxLocals ret ws room_1 2 12 2 #[.long x0, .long x1, .long x2, .long x3] h0 n0 (fun v h => v = some (.int 1)) := by
  refine CtH.of (Ls := #[.val (.long x0), .second, .val (.long x1), .second, .val (.long x2), .second, .val (.long x3), .second, .unset, .unset, .unset, .unset, .unset, .unset, .unset, .unset, .unset, .unset, .unset]) pf_law (fun m => by first | (simp [entryFrame, mkF, argsToLocals, Value.category, maxLocals]; done) | rfl) ?_
  intro p e s m below meth c vm0 kk0 u C HS HK HC HU HB
  have hEL := hEL_ok hw
  have wS := wS_ok hw
  have hk : Keep h0 h0 [] := Keep.refl _ _
  refine w_bipush (pc' := 2) (x := (8 : Int32)) C at_0 rfl rfl ?_
  refine wA_newP (pc' := 4) (cap := 8) (ce' := (1 + 2 * u)) (sl' := (8 + 260 * u)) C (tw hw 0 rfl) at_2 rfl (by decide) (by decide) (by decide) (ad rfl) (ad rfl) (leA HB (by decide)) (leM HB (by decide)) (fun h1 a1 e1 E1 A1 => ?_)
  have g_a1 : n0 ≤ a1 := by rw [e1]; exact hz
  have fr_a1 : h0.size ≤ a1 := by rw [e1]; exact hk.1
  have hz : n0 ≤ h1.size := Nat.le_trans hz E1.1
  have hk := hk.ext E1
  have S_COMPACT_STRINGS := Sta.ext E1 S_COMPACT_STRINGS
  have S_SIOOBE_FORMATTER := Sta.ext E1 S_SIOOBE_FORMATTER
  have HC := HC.trans (CHr.ext E1 HC.1)
  have HK := Nat.le_trans HK E1.1
  have O_a1 : Ar Z h1 a1 .char [.int (0 : Int32), .int (0 : Int32), .int (0 : Int32), .int (0 : Int32), .int (0 : Int32), .int (0 : Int32), .int (0 : Int32), .int (0 : Int32)] := A1
  refine w_astore (pc' := 6) (Ls' := #[.val (.long x0), .second, .val (.long x1), .second, .val (.long x2), .second, .val (.long x3), .second, .val (.ref a1), .unset, .unset, .unset, .unset, .unset, .unset, .unset, .unset, .unset, .unset]) C at_4 rfl rfl rfl ?_
  refine w_aload (pc' := 8) C at_6 rfl rfl rfl ?_
  refine w_iconst (pc' := 9) (x := (0 : Int32)) C at_8 rfl rfl ?_
  refine w_lloadN (pc' := 10) C at_9 rfl rfl ?_
  refine w_l2i (pc' := 11) C at_10 rfl ?_
  refine w_callSH (pc' := 14) (argsL := [.int (x0.toInt32)]) (st := [.int (0 : Int32), .ref a1]) (W := 2) (cM := 0) (sM := 0) (Bm := 1) C (tw hw 1 rfl) (tw hw 2 rfl) (tw hw 3 rfl) (tw hw 4 rfl) (by decide) at_11 rfl rfl (by decide) (by decide) (Nat.le_of_eq rfl) (by decide) (by decide) rfl (lenOf pd_6 rfl) HS HK hEL HC HU HB (ct_draw hw h1 n0 (x0.toInt32) zc fv hz hzc hfv S_COMPACT_STRINGS S_SIOOBE_FORMATTER) (fun vm2 kk2 v2 h2 u2 C HS HK HC HR2 HU HB q2 => ?_)
  obtain ⟨z2, rfl, K2⟩ := q2
  refine w_norm (st' := [.int z2, .int (0 : Int32), .ref a1]) rfl ?_
  have S_COMPACT_STRINGS := staKeep K2 nt0 S_COMPACT_STRINGS
  have S_SIOOBE_FORMATTER := staKeep K2 nt0 S_SIOOBE_FORMATTER
  have O_a1 := O_a1.keep K2 nin0
  have hz : n0 ≤ h2.size := Nat.le_trans hz K2.1
  have hk := Keep.app hk K2 (fun x hx => Or.inl hx) all0
  refine wA_castore (pc' := 15) C at_14 rfl g_a1 O_a1 (by decide) (Nat.le_of_ble_eq_true rfl) (fun h3 W3 A3 => ?_)
  have S_COMPACT_STRINGS := Sta.wr W3 S_COMPACT_STRINGS
  have S_SIOOBE_FORMATTER := Sta.wr W3 S_SIOOBE_FORMATTER
  have HC := HC.trans (CHr.wr W3 (safeAr C.2.2.1.alike O_a1 (by simp)) HC.1)
  have HK := Nat.le_trans HK (Nat.le_of_eq W3.size.symm)
  have O_a1 : Ar Z h3 a1 .char [.int (toCh z2), .int (0 : Int32), .int (0 : Int32), .int (0 : Int32), .int (0 : Int32), .int (0 : Int32), .int (0 : Int32), .int (0 : Int32)] := A3
  have hz : n0 ≤ h3.size := by rw [W3.size]; exact hz
  have hk := hk.wr W3 (Or.inr fr_a1)
  refine w_aload (pc' := 17) C at_15 rfl rfl rfl ?_
  refine w_iconst (pc' := 18) (x := (1 : Int32)) C at_17 rfl rfl ?_
  refine w_lloadN (pc' := 19) C at_18 rfl rfl ?_
  refine w_bipush (pc' := 21) (x := (32 : Int32)) C at_19 rfl rfl ?_
  refine w_lushr (pc' := 22) C at_21 rfl ?_
  refine w_l2i (pc' := 23) C at_22 rfl ?_
  refine w_callSH (pc' := 26) (argsL := [.int (((x0.toUInt64 >>> ((32 : Int32) &&& 0x3f).toInt64.toUInt64).toInt64).toInt32)]) (st := [.int (1 : Int32), .ref a1]) (W := 2) (cM := 0) (sM := 0) (Bm := 1) C (tw hw 1 rfl) (tw hw 2 rfl) (tw hw 3 rfl) (tw hw 4 rfl) (by decide) at_23 rfl rfl (by decide) (by decide) (Nat.le_of_eq rfl) (by decide) (by decide) rfl (lenOf pd_6 rfl) HS HK hEL HC HU HB (ct_draw hw h3 n0 (((x0.toUInt64 >>> ((32 : Int32) &&& 0x3f).toInt64.toUInt64).toInt64).toInt32) zc fv hz hzc hfv S_COMPACT_STRINGS S_SIOOBE_FORMATTER) (fun vm4 kk4 v4 h4 u4 C HS HK HC HR4 HU HB q4 => ?_)
  obtain ⟨z4, rfl, K4⟩ := q4
  refine w_norm (st' := [.int z4, .int (1 : Int32), .ref a1]) rfl ?_
  have S_COMPACT_STRINGS := staKeep K4 nt0 S_COMPACT_STRINGS
  have S_SIOOBE_FORMATTER := staKeep K4 nt0 S_SIOOBE_FORMATTER
  have O_a1 := O_a1.keep K4 nin0
  have hz : n0 ≤ h4.size := Nat.le_trans hz K4.1
  have hk := Keep.app hk K4 (fun x hx => Or.inl hx) all0
  refine wA_castore (pc' := 27) C at_26 rfl g_a1 O_a1 (by decide) (Nat.le_of_ble_eq_true rfl) (fun h5 W5 A5 => ?_)
  have S_COMPACT_STRINGS := Sta.wr W5 S_COMPACT_STRINGS
  have S_SIOOBE_FORMATTER := Sta.wr W5 S_SIOOBE_FORMATTER
  have HC := HC.trans (CHr.wr W5 (safeAr C.2.2.1.alike O_a1 (by simp)) HC.1)
  have HK := Nat.le_trans HK (Nat.le_of_eq W5.size.symm)
  have O_a1 : Ar Z h5 a1 .char [.int (toCh z2), .int (toCh z4), .int (0 : Int32), .int (0 : Int32), .int (0 : Int32), .int (0 : Int32), .int (0 : Int32), .int (0 : Int32)] := A5
  have hz : n0 ≤ h5.size := by rw [W5.size]; exact hz
  have hk := hk.wr W5 (Or.inr fr_a1)
  refine w_aload (pc' := 29) C at_27 rfl rfl rfl ?_
  refine w_iconst (pc' := 30) (x := (2 : Int32)) C at_29 rfl rfl ?_
  refine w_lloadN (pc' := 31) C at_30 rfl rfl ?_
  refine w_l2i (pc' := 32) C at_31 rfl ?_
  refine w_callSH (pc' := 35) (argsL := [.int (x1.toInt32)]) (st := [.int (2 : Int32), .ref a1]) (W := 2) (cM := 0) (sM := 0) (Bm := 1) C (tw hw 1 rfl) (tw hw 2 rfl) (tw hw 3 rfl) (tw hw 4 rfl) (by decide) at_32 rfl rfl (by decide) (by decide) (Nat.le_of_eq rfl) (by decide) (by decide) rfl (lenOf pd_6 rfl) HS HK hEL HC HU HB (ct_draw hw h5 n0 (x1.toInt32) zc fv hz hzc hfv S_COMPACT_STRINGS S_SIOOBE_FORMATTER) (fun vm6 kk6 v6 h6 u6 C HS HK HC HR6 HU HB q6 => ?_)
  obtain ⟨z6, rfl, K6⟩ := q6
  have HB : u6 ≤ 2 := Nat.le_trans (Nat.le_add_right _ _) (Nat.le_trans HU (NR_le _ _))
  refine w_norm (st' := [.int z6, .int (2 : Int32), .ref a1]) rfl ?_
  have S_COMPACT_STRINGS := staKeep K6 nt0 S_COMPACT_STRINGS
  have S_SIOOBE_FORMATTER := staKeep K6 nt0 S_SIOOBE_FORMATTER
  have O_a1 := O_a1.keep K6 nin0
  have hz : n0 ≤ h6.size := Nat.le_trans hz K6.1
  have hk := Keep.app hk K6 (fun x hx => Or.inl hx) all0
  refine wA_castore (pc' := 36) C at_35 rfl g_a1 O_a1 (by decide) (Nat.le_of_ble_eq_true rfl) (fun h7 W7 A7 => ?_)
  have S_COMPACT_STRINGS := Sta.wr W7 S_COMPACT_STRINGS
  have S_SIOOBE_FORMATTER := Sta.wr W7 S_SIOOBE_FORMATTER
  have HC := HC.trans (CHr.wr W7 (safeAr C.2.2.1.alike O_a1 (by simp)) HC.1)
  have HK := Nat.le_trans HK (Nat.le_of_eq W7.size.symm)
  have O_a1 : Ar Z h7 a1 .char [.int (toCh z2), .int (toCh z4), .int (toCh z6), .int (0 : Int32), .int (0 : Int32), .int (0 : Int32), .int (0 : Int32), .int (0 : Int32)] := A7
  have hz : n0 ≤ h7.size := by rw [W7.size]; exact hz
  have hk := hk.wr W7 (Or.inr fr_a1)
  refine w_aload (pc' := 38) C at_36 rfl rfl rfl ?_
  refine w_iconst (pc' := 39) (x := (3 : Int32)) C at_38 rfl rfl ?_
  refine w_lloadN (pc' := 40) C at_39 rfl rfl ?_
  refine w_bipush (pc' := 42) (x := (32 : Int32)) C at_40 rfl rfl ?_
  refine w_lushr (pc' := 43) C at_42 rfl ?_
  refine w_l2i (pc' := 44) C at_43 rfl ?_
  refine w_callSH (pc' := 47) (argsL := [.int (((x1.toUInt64 >>> ((32 : Int32) &&& 0x3f).toInt64.toUInt64).toInt64).toInt32)]) (st := [.int (3 : Int32), .ref a1]) (W := 2) (cM := 0) (sM := 0) (Bm := 1) C (tw hw 1 rfl) (tw hw 2 rfl) (tw hw 3 rfl) (tw hw 4 rfl) (by decide) at_44 rfl rfl (by decide) (by decide) (Nat.le_of_eq rfl) (by decide) (by decide) rfl (lenOf pd_6 rfl) HS HK hEL HC HU HB (ct_draw hw h7 n0 (((x1.toUInt64 >>> ((32 : Int32) &&& 0x3f).toInt64.toUInt64).toInt64).toInt32) zc fv hz hzc hfv S_COMPACT_STRINGS S_SIOOBE_FORMATTER) (fun vm8 kk8 v8 h8 u8 C HS HK HC HR8 HU HB q8 => ?_)
  obtain ⟨z8, rfl, K8⟩ := q8
  have HB : u8 ≤ 2 := Nat.le_trans (Nat.le_add_right _ _) (Nat.le_trans HU (NR_le _ _))
  refine w_norm (st' := [.int z8, .int (3 : Int32), .ref a1]) rfl ?_
  have S_COMPACT_STRINGS := staKeep K8 nt0 S_COMPACT_STRINGS
  have S_SIOOBE_FORMATTER := staKeep K8 nt0 S_SIOOBE_FORMATTER
  have O_a1 := O_a1.keep K8 nin0
  have hz : n0 ≤ h8.size := Nat.le_trans hz K8.1
  have hk := Keep.app hk K8 (fun x hx => Or.inl hx) all0
  refine wA_castore (pc' := 48) C at_47 rfl g_a1 O_a1 (by decide) (Nat.le_of_ble_eq_true rfl) (fun h9 W9 A9 => ?_)
  have S_COMPACT_STRINGS := Sta.wr W9 S_COMPACT_STRINGS
  have S_SIOOBE_FORMATTER := Sta.wr W9 S_SIOOBE_FORMATTER
  have HC := HC.trans (CHr.wr W9 (safeAr C.2.2.1.alike O_a1 (by simp)) HC.1)
  have HK := Nat.le_trans HK (Nat.le_of_eq W9.size.symm)
  have O_a1 : Ar Z h9 a1 .char [.int (toCh z2), .int (toCh z4), .int (toCh z6), .int (toCh z8), .int (0 : Int32), .int (0 : Int32), .int (0 : Int32), .int (0 : Int32)] := A9
  have hz : n0 ≤ h9.size := by rw [W9.size]; exact hz
  have hk := hk.wr W9 (Or.inr fr_a1)
  refine w_aload (pc' := 50) C at_48 rfl rfl rfl ?_
  refine w_iconst (pc' := 51) (x := (4 : Int32)) C at_50 rfl rfl ?_
  refine w_lload (pc' := 53) C at_51 rfl rfl ?_
  refine w_l2i (pc' := 54) C at_53 rfl ?_
  refine w_callSH (pc' := 57) (argsL := [.int (x2.toInt32)]) (st := [.int (4 : Int32), .ref a1]) (W := 2) (cM := 0) (sM := 0) (Bm := 1) C (tw hw 1 rfl) (tw hw 2 rfl) (tw hw 3 rfl) (tw hw 4 rfl) (by decide) at_54 rfl rfl (by decide) (by decide) (Nat.le_of_eq rfl) (by decide) (by decide) rfl (lenOf pd_6 rfl) HS HK hEL HC HU HB (ct_draw hw h9 n0 (x2.toInt32) zc fv hz hzc hfv S_COMPACT_STRINGS S_SIOOBE_FORMATTER) (fun vm10 kk10 v10 h10 u10 C HS HK HC HR10 HU HB q10 => ?_)
  obtain ⟨z10, rfl, K10⟩ := q10
  have HB : u10 ≤ 2 := Nat.le_trans (Nat.le_add_right _ _) (Nat.le_trans HU (NR_le _ _))
  refine w_norm (st' := [.int z10, .int (4 : Int32), .ref a1]) rfl ?_
  have S_COMPACT_STRINGS := staKeep K10 nt0 S_COMPACT_STRINGS
  have S_SIOOBE_FORMATTER := staKeep K10 nt0 S_SIOOBE_FORMATTER
  have O_a1 := O_a1.keep K10 nin0
  have hz : n0 ≤ h10.size := Nat.le_trans hz K10.1
  have hk := Keep.app hk K10 (fun x hx => Or.inl hx) all0
  refine wA_castore (pc' := 58) C at_57 rfl g_a1 O_a1 (by decide) (Nat.le_of_ble_eq_true rfl) (fun h11 W11 A11 => ?_)
  have S_COMPACT_STRINGS := Sta.wr W11 S_COMPACT_STRINGS
  have S_SIOOBE_FORMATTER := Sta.wr W11 S_SIOOBE_FORMATTER
  have HC := HC.trans (CHr.wr W11 (safeAr C.2.2.1.alike O_a1 (by simp)) HC.1)
  have HK := Nat.le_trans HK (Nat.le_of_eq W11.size.symm)
  have O_a1 : Ar Z h11 a1 .char [.int (toCh z2), .int (toCh z4), .int (toCh z6), .int (toCh z8), .int (toCh z10), .int (0 : Int32), .int (0 : Int32), .int (0 : Int32)] := A11
  have hz : n0 ≤ h11.size := by rw [W11.size]; exact hz
  have hk := hk.wr W11 (Or.inr fr_a1)
  refine w_aload (pc' := 60) C at_58 rfl rfl rfl ?_
  refine w_iconst (pc' := 61) (x := (5 : Int32)) C at_60 rfl rfl ?_
  refine w_lload (pc' := 63) C at_61 rfl rfl ?_
  refine w_bipush (pc' := 65) (x := (32 : Int32)) C at_63 rfl rfl ?_
  refine w_lushr (pc' := 66) C at_65 rfl ?_
  refine w_l2i (pc' := 67) C at_66 rfl ?_
  refine w_callSH (pc' := 70) (argsL := [.int (((x2.toUInt64 >>> ((32 : Int32) &&& 0x3f).toInt64.toUInt64).toInt64).toInt32)]) (st := [.int (5 : Int32), .ref a1]) (W := 2) (cM := 0) (sM := 0) (Bm := 1) C (tw hw 1 rfl) (tw hw 2 rfl) (tw hw 3 rfl) (tw hw 4 rfl) (by decide) at_67 rfl rfl (by decide) (by decide) (Nat.le_of_eq rfl) (by decide) (by decide) rfl (lenOf pd_6 rfl) HS HK hEL HC HU HB (ct_draw hw h11 n0 (((x2.toUInt64 >>> ((32 : Int32) &&& 0x3f).toInt64.toUInt64).toInt64).toInt32) zc fv hz hzc hfv S_COMPACT_STRINGS S_SIOOBE_FORMATTER) (fun vm12 kk12 v12 h12 u12 C HS HK HC HR12 HU HB q12 => ?_)
  obtain ⟨z12, rfl, K12⟩ := q12
  have HB : u12 ≤ 2 := Nat.le_trans (Nat.le_add_right _ _) (Nat.le_trans HU (NR_le _ _))
  refine w_norm (st' := [.int z12, .int (5 : Int32), .ref a1]) rfl ?_
  have S_COMPACT_STRINGS := staKeep K12 nt0 S_COMPACT_STRINGS
  have S_SIOOBE_FORMATTER := staKeep K12 nt0 S_SIOOBE_FORMATTER
  have O_a1 := O_a1.keep K12 nin0
  have hz : n0 ≤ h12.size := Nat.le_trans hz K12.1
  have hk := Keep.app hk K12 (fun x hx => Or.inl hx) all0
  refine wA_castore (pc' := 71) C at_70 rfl g_a1 O_a1 (by decide) (Nat.le_of_ble_eq_true rfl) (fun h13 W13 A13 => ?_)
  have S_COMPACT_STRINGS := Sta.wr W13 S_COMPACT_STRINGS
  have S_SIOOBE_FORMATTER := Sta.wr W13 S_SIOOBE_FORMATTER
  have HC := HC.trans (CHr.wr W13 (safeAr C.2.2.1.alike O_a1 (by simp)) HC.1)
  have HK := Nat.le_trans HK (Nat.le_of_eq W13.size.symm)
  have O_a1 : Ar Z h13 a1 .char [.int (toCh z2), .int (toCh z4), .int (toCh z6), .int (toCh z8), .int (toCh z10), .int (toCh z12), .int (0 : Int32), .int (0 : Int32)] := A13
  have hz : n0 ≤ h13.size := by rw [W13.size]; exact hz
  have hk := hk.wr W13 (Or.inr fr_a1)
  refine w_aload (pc' := 73) C at_71 rfl rfl rfl ?_
  refine w_bipush (pc' := 75) (x := (6 : Int32)) C at_73 rfl rfl ?_
  refine w_lload (pc' := 77) C at_75 rfl rfl ?_
  refine w_l2i (pc' := 78) C at_77 rfl ?_
  refine w_callSH (pc' := 81) (argsL := [.int (x3.toInt32)]) (st := [.int (6 : Int32), .ref a1]) (W := 2) (cM := 0) (sM := 0) (Bm := 1) C (tw hw 1 rfl) (tw hw 2 rfl) (tw hw 3 rfl) (tw hw 4 rfl) (by decide) at_78 rfl rfl (by decide) (by decide) (Nat.le_of_eq rfl) (by decide) (by decide) rfl (lenOf pd_6 rfl) HS HK hEL HC HU HB (ct_draw hw h13 n0 (x3.toInt32) zc fv hz hzc hfv S_COMPACT_STRINGS S_SIOOBE_FORMATTER) (fun vm14 kk14 v14 h14 u14 C HS HK HC HR14 HU HB q14 => ?_)
  obtain ⟨z14, rfl, K14⟩ := q14
  have HB : u14 ≤ 2 := Nat.le_trans (Nat.le_add_right _ _) (Nat.le_trans HU (NR_le _ _))
  refine w_norm (st' := [.int z14, .int (6 : Int32), .ref a1]) rfl ?_
  have S_COMPACT_STRINGS := staKeep K14 nt0 S_COMPACT_STRINGS
  have S_SIOOBE_FORMATTER := staKeep K14 nt0 S_SIOOBE_FORMATTER
  have O_a1 := O_a1.keep K14 nin0
  have hz : n0 ≤ h14.size := Nat.le_trans hz K14.1
  have hk := Keep.app hk K14 (fun x hx => Or.inl hx) all0
  refine wA_castore (pc' := 82) C at_81 rfl g_a1 O_a1 (by decide) (Nat.le_of_ble_eq_true rfl) (fun h15 W15 A15 => ?_)
  have S_COMPACT_STRINGS := Sta.wr W15 S_COMPACT_STRINGS
  have S_SIOOBE_FORMATTER := Sta.wr W15 S_SIOOBE_FORMATTER
  have HC := HC.trans (CHr.wr W15 (safeAr C.2.2.1.alike O_a1 (by simp)) HC.1)
  have HK := Nat.le_trans HK (Nat.le_of_eq W15.size.symm)
  have O_a1 : Ar Z h15 a1 .char [.int (toCh z2), .int (toCh z4), .int (toCh z6), .int (toCh z8), .int (toCh z10), .int (toCh z12), .int (toCh z14), .int (0 : Int32)] := A15
  have hz : n0 ≤ h15.size := by rw [W15.size]; exact hz
  have hk := hk.wr W15 (Or.inr fr_a1)
  refine w_aload (pc' := 84) C at_82 rfl rfl rfl ?_
  refine w_bipush (pc' := 86) (x := (7 : Int32)) C at_84 rfl rfl ?_
  refine w_lload (pc' := 88) C at_86 rfl rfl ?_
  refine w_bipush (pc' := 90) (x := (32 : Int32)) C at_88 rfl rfl ?_
  refine w_lushr (pc' := 91) C at_90 rfl ?_
  refine w_l2i (pc' := 92) C at_91 rfl ?_
  refine w_callSH (pc' := 95) (argsL := [.int (((x3.toUInt64 >>> ((32 : Int32) &&& 0x3f).toInt64.toUInt64).toInt64).toInt32)]) (st := [.int (7 : Int32), .ref a1]) (W := 2) (cM := 0) (sM := 0) (Bm := 1) C (tw hw 1 rfl) (tw hw 2 rfl) (tw hw 3 rfl) (tw hw 4 rfl) (by decide) at_92 rfl rfl (by decide) (by decide) (Nat.le_of_eq rfl) (by decide) (by decide) rfl (lenOf pd_6 rfl) HS HK hEL HC HU HB (ct_draw hw h15 n0 (((x3.toUInt64 >>> ((32 : Int32) &&& 0x3f).toInt64.toUInt64).toInt64).toInt32) zc fv hz hzc hfv S_COMPACT_STRINGS S_SIOOBE_FORMATTER) (fun vm16 kk16 v16 h16 u16 C HS HK HC HR16 HU HB q16 => ?_)
  obtain ⟨z16, rfl, K16⟩ := q16
  have HB : u16 ≤ 2 := Nat.le_trans (Nat.le_add_right _ _) (Nat.le_trans HU (NR_le _ _))
  refine w_norm (st' := [.int z16, .int (7 : Int32), .ref a1]) rfl ?_
  have S_COMPACT_STRINGS := staKeep K16 nt0 S_COMPACT_STRINGS
  have S_SIOOBE_FORMATTER := staKeep K16 nt0 S_SIOOBE_FORMATTER
  have O_a1 := O_a1.keep K16 nin0
  have hz : n0 ≤ h16.size := Nat.le_trans hz K16.1
  have hk := Keep.app hk K16 (fun x hx => Or.inl hx) all0
  refine wA_castore (pc' := 96) C at_95 rfl g_a1 O_a1 (by decide) (Nat.le_of_ble_eq_true rfl) (fun h17 W17 A17 => ?_)
  have S_COMPACT_STRINGS := Sta.wr W17 S_COMPACT_STRINGS
  have S_SIOOBE_FORMATTER := Sta.wr W17 S_SIOOBE_FORMATTER
  have HC := HC.trans (CHr.wr W17 (safeAr C.2.2.1.alike O_a1 (by simp)) HC.1)
  have HK := Nat.le_trans HK (Nat.le_of_eq W17.size.symm)
  have O_a1 : Ar Z h17 a1 .char [.int (toCh z2), .int (toCh z4), .int (toCh z6), .int (toCh z8), .int (toCh z10), .int (toCh z12), .int (toCh z14), .int (toCh z16)] := A17
  have hz : n0 ≤ h17.size := by rw [W17.size]; exact hz
  have hk := hk.wr W17 (Or.inr fr_a1)
  generalize (toCh z2) = t0 at O_a1
  generalize (toCh z4) = t1 at O_a1
  generalize (toCh z6) = t2 at O_a1
  generalize (toCh z8) = t3 at O_a1
  generalize (toCh z10) = t4 at O_a1
  generalize (toCh z12) = t5 at O_a1
  generalize (toCh z14) = t6 at O_a1
  generalize (toCh z16) = t7 at O_a1
  refine w_new (pc' := 99) (ce' := (2 + 2 * u16)) (sl' := (12 + 260 * u16)) C (tw hw 38 rfl) (tw hw 39 rfl) (tw hw 40 rfl) at_96 rfl (ad rfl) (ad rfl) (leA HB (by decide)) (leM HB (by decide)) (fun h18 a18 e18 E18 A18 D18 => ?_)
  have g_a18 : n0 ≤ a18 := by rw [e18]; exact hz
  have fr_a18 : h0.size ≤ a18 := by rw [e18]; exact hk.1
  have ne_a1_a18 : a1 ≠ a18 := by rw [e18]; exact Nat.ne_of_lt O_a1.lt
  have O_a1 := O_a1.ext E18
  have hz : n0 ≤ h18.size := Nat.le_trans hz E18.1
  have hk := hk.ext E18
  have S_COMPACT_STRINGS := Sta.ext E18 S_COMPACT_STRINGS
  have S_SIOOBE_FORMATTER := Sta.ext E18 S_SIOOBE_FORMATTER
  have HC := HC.trans (CHr.ext E18 HC.1)
  have HK := Nat.le_trans HK E18.1
  have O_a18 : Obj Z h18 a18 "com/example/fedlint/fedlint/XsdDatatypes$Base64" [("broken", "Z", .int (0 : Int32)), ("length", "I", .int (0 : Int32)), ("last", "I", .int (0 : Int32)), ("padding", "I", .int (0 : Int32))] := obj_B6 hw A18 D18
  refine w_dup (pc' := 100) C at_99 rfl rfl ?_
  refine w_callI (pc' := 103) (argsL := []) (st := [.ref a18]) (W := 1) (ce' := (2 + 2 * u16)) (sl' := (12 + 260 * u16)) C rfl (tw hw 41 rfl) (tw hw 42 rfl) (tw hw 40 rfl) (tw hw 43 rfl) (by decide) at_100 rfl rfl (by decide) (by decide) (Nat.le_of_eq rfl) (ad rfl) (ad rfl) (leA HB (by decide)) (leM HB (by decide)) rfl (lenOf pd_7 rfl) (ct_init hw h18 n0 a18 (0 : Int32) (0 : Int32) (0 : Int32) (0 : Int32) hz O_a18) (k0 (fun h19 q19 => ?_))
  have K19 := q19
  have HC := HC.trans (CHr.keep K19 sf0 HC.1)
  have HK := Nat.le_trans HK K19.1
  have S_COMPACT_STRINGS := staKeep K19 nt0 S_COMPACT_STRINGS
  have S_SIOOBE_FORMATTER := staKeep K19 nt0 S_SIOOBE_FORMATTER
  have O_a1 := O_a1.keep K19 nin0
  have O_a18 := O_a18.keep K19 nin0
  have hz : n0 ≤ h19.size := Nat.le_trans hz K19.1
  have hk := Keep.app hk K19 (fun x hx => Or.inl hx) all0
  refine w_astore (pc' := 105) (Ls' := #[.val (.long x0), .second, .val (.long x1), .second, .val (.long x2), .second, .val (.long x3), .second, .val (.ref a1), .val (.ref a18), .unset, .unset, .unset, .unset, .unset, .unset, .unset, .unset, .unset]) C at_103 rfl rfl rfl ?_
  refine w_aload (pc' := 107) C at_105 rfl rfl rfl ?_
  refine w_aload (pc' := 109) C at_107 rfl rfl rfl ?_
  refine w_iconst (pc' := 110) (x := (0 : Int32)) C at_109 rfl rfl ?_
  refine w_bipush (pc' := 112) (x := (8 : Int32)) C at_110 rfl rfl ?_
  refine w_callV (Cl := "com/example/fedlint/fedlint/XsdDatatypes$Base64") (pc' := 115) (argsL := [.ref a1, .int (0 : Int32), .int (8 : Int32)]) (st := []) (W := 0) (ce' := (2 + 2 * u16)) (sl' := (12 + 260 * u16)) C (tw hw 47 rfl) (tw hw 48 rfl) (tw hw 50 rfl) (tw hw 49 rfl) (tw hw 40 rfl) (tw hw 51 rfl) (by decide) at_112 rfl rfl (by decide) (by decide) (Nat.le_of_eq rfl) (ad rfl) (ad rfl) (leA HB (by decide)) (leM HB (by decide)) rfl (lenOf pd_8 rfl) O_a18.1 (ct_accept hw h19 n0 a18 a1 [t0, t1, t2, t3, t4, t5, t6, t7] (acc [t0, t1, t2, t3, t4, t5, t6, t7] 0 0 0 0) hz rfl rfl O_a18 O_a1 g_a18 ne_a1_a18) (k0 (fun h20 q20 => ?_))
  obtain ⟨P20, K20⟩ := q20
  have HC := HC.trans (CHr.keep K20 (sfS (Safe.exa C.2.2.1.alike O_a18.1 (by decide) (by decide)) sf0) HC.1)
  have HK := Nat.le_trans HK K20.1
  have S_COMPACT_STRINGS := staKeep K20 (ntS (ntE O_a18.1) nt0) S_COMPACT_STRINGS
  have S_SIOOBE_FORMATTER := staKeep K20 (ntS (ntE O_a18.1) nt0) S_SIOOBE_FORMATTER
  have O_a1 := O_a1.keep K20 (ninS ne_a1_a18 nin0)
  have hz : n0 ≤ h20.size := Nat.le_trans hz K20.1
  have hk := Keep.app hk K20 (fun x hx => Or.inl hx) (allS (Or.inr fr_a18) all0)
  have O_a18 := P20
  refine w_aload (pc' := 117) C at_115 rfl rfl rfl ?_
  refine w_callV (Cl := "com/example/fedlint/fedlint/XsdDatatypes$Base64") (pc' := 120) (argsL := []) (st := []) (W := 0) (ce' := (2 + 2 * u16)) (sl' := (12 + 260 * u16)) C (tw hw 65 rfl) (tw hw 66 rfl) (tw hw 68 rfl) (tw hw 67 rfl) (tw hw 40 rfl) (tw hw 69 rfl) (by decide) at_117 rfl rfl (by decide) (by decide) (Nat.le_of_eq rfl) (ad rfl) (ad rfl) (leA HB (by decide)) (leM HB (by decide)) rfl (lenOf pd_2 rfl) O_a18.1 (ct_validF hw h20 n0 a18 (acc [t0, t1, t2, t3, t4, t5, t6, t7] 0 0 0 0).1 (acc [t0, t1, t2, t3, t4, t5, t6, t7] 0 0 0 0).2.1 (acc [t0, t1, t2, t3, t4, t5, t6, t7] 0 0 0 0).2.2.1 (acc [t0, t1, t2, t3, t4, t5, t6, t7] 0 0 0 0).2.2.2 O_a18) (kp ?_)
  refine w_istore (pc' := 122) (Ls' := #[.val (.long x0), .second, .val (.long x1), .second, .val (.long x2), .second, .val (.long x3), .second, .val (.ref a1), .val (.ref a18), .val (.int (validF (acc [t0, t1, t2, t3, t4, t5, t6, t7] 0 0 0 0).1 (acc [t0, t1, t2, t3, t4, t5, t6, t7] 0 0 0 0).2.1 (acc [t0, t1, t2, t3, t4, t5, t6, t7] 0 0 0 0).2.2.1 (acc [t0, t1, t2, t3, t4, t5, t6, t7] 0 0 0 0).2.2.2)), .unset, .unset, .unset, .unset, .unset, .unset, .unset, .unset]) C at_120 rfl rfl ?_
  have K898 : ∀ vb : Int32, (expF (abF t0 t1 t2 t3 t4 t5 t6 t7) (afS (seS (seS (seS (seS (seS (seS (seS (seS (0 : Int32) t0) t1) t2) t3) t4) t5) t6) t7) (afS (seS (seS (seS (seS (seS (seS (seS (0 : Int32) t0) t1) t2) t3) t4) t5) t6) (afS (seS (seS (seS (seS (seS (seS (0 : Int32) t0) t1) t2) t3) t4) t5) (afS (seS (seS (seS (seS (seS (0 : Int32) t0) t1) t2) t3) t4) (afS (seS (seS (seS (seS (0 : Int32) t0) t1) t2) t3) (afS (seS (seS (seS (0 : Int32) t0) t1) t2) (afS (seS (seS (0 : Int32) t0) t1) (afS (seS (0 : Int32) t0) (0 : Int32) t0) t1) t2) t3) t4) t5) t6) t7) ((((((((nonSp t0) + (nonSp t1)) + (nonSp t2)) + (nonSp t3)) + (nonSp t4)) + (nonSp t5)) + (nonSp t6)) + (nonSp t7)) (padF ((((((((eqF t0) + (eqF t1)) + (eqF t2)) + (eqF t3)) + (eqF t4)) + (eqF t5)) + (eqF t6)) + (eqF t7)) (pickF t7 (pickF t6 (pickF t5 (pickF t4 (pickF t3 (pickF t2 (pickF t1 (pickF t0 (0 : Int32))))))))))) = vb → Wp p l e room_1 (s.setVm vm16) m #[.long x0, .long x1, .long x2, .long x3] below meth c n0 (EH Z EL 260 s 2 12 2) (fun v h => v = some (.int 1)) h20 (2 + 2 * u16) (12 + 260 * u16) (mkF m 898 #[.val (.long x0), .second, .val (.long x1), .second, .val (.long x2), .second, .val (.long x3), .second, .val (.ref a1), .val (.ref a18), .val (.int (validF (acc [t0, t1, t2, t3, t4, t5, t6, t7] 0 0 0 0).1 (acc [t0, t1, t2, t3, t4, t5, t6, t7] 0 0 0 0).2.1 (acc [t0, t1, t2, t3, t4, t5, t6, t7] 0 0 0 0).2.2.1 (acc [t0, t1, t2, t3, t4, t5, t6, t7] 0 0 0 0).2.2.2)), .val (.int (abF t0 t1 t2 t3 t4 t5 t6 t7)), .val (.int ((((((((nonSp t0) + (nonSp t1)) + (nonSp t2)) + (nonSp t3)) + (nonSp t4)) + (nonSp t5)) + (nonSp t6)) + (nonSp t7))), .val (.int ((((((((eqF t0) + (eqF t1)) + (eqF t2)) + (eqF t3)) + (eqF t4)) + (eqF t5)) + (eqF t6)) + (eqF t7))), .val (.int (seS (seS (seS (seS (seS (seS (seS (seS (0 : Int32) t0) t1) t2) t3) t4) t5) t6) t7)), .val (.int (afS (seS (seS (seS (seS (seS (seS (seS (seS (0 : Int32) t0) t1) t2) t3) t4) t5) t6) t7) (afS (seS (seS (seS (seS (seS (seS (seS (0 : Int32) t0) t1) t2) t3) t4) t5) t6) (afS (seS (seS (seS (seS (seS (seS (0 : Int32) t0) t1) t2) t3) t4) t5) (afS (seS (seS (seS (seS (seS (0 : Int32) t0) t1) t2) t3) t4) (afS (seS (seS (seS (seS (0 : Int32) t0) t1) t2) t3) (afS (seS (seS (seS (0 : Int32) t0) t1) t2) (afS (seS (seS (0 : Int32) t0) t1) (afS (seS (0 : Int32) t0) (0 : Int32) t0) t1) t2) t3) t4) t5) t6) t7)), .val (.int (pickF t7 (pickF t6 (pickF t5 (pickF t4 (pickF t3 (pickF t2 (pickF t1 (pickF t0 (0 : Int32)))))))))), .val (.int (padF ((((((((eqF t0) + (eqF t1)) + (eqF t2)) + (eqF t3)) + (eqF t4)) + (eqF t5)) + (eqF t6)) + (eqF t7)) (pickF t7 (pickF t6 (pickF t5 (pickF t4 (pickF t3 (pickF t2 (pickF t1 (pickF t0 (0 : Int32))))))))))), .unset] [.int vb]) := by
    intro vb hvb; subst hvb
    refine w_istore (pc' := 900) (Ls' := #[.val (.long x0), .second, .val (.long x1), .second, .val (.long x2), .second, .val (.long x3), .second, .val (.ref a1), .val (.ref a18), .val (.int (validF (acc [t0, t1, t2, t3, t4, t5, t6, t7] 0 0 0 0).1 (acc [t0, t1, t2, t3, t4, t5, t6, t7] 0 0 0 0).2.1 (acc [t0, t1, t2, t3, t4, t5, t6, t7] 0 0 0 0).2.2.1 (acc [t0, t1, t2, t3, t4, t5, t6, t7] 0 0 0 0).2.2.2)), .val (.int (abF t0 t1 t2 t3 t4 t5 t6 t7)), .val (.int ((((((((nonSp t0) + (nonSp t1)) + (nonSp t2)) + (nonSp t3)) + (nonSp t4)) + (nonSp t5)) + (nonSp t6)) + (nonSp t7))), .val (.int ((((((((eqF t0) + (eqF t1)) + (eqF t2)) + (eqF t3)) + (eqF t4)) + (eqF t5)) + (eqF t6)) + (eqF t7))), .val (.int (seS (seS (seS (seS (seS (seS (seS (seS (0 : Int32) t0) t1) t2) t3) t4) t5) t6) t7)), .val (.int (afS (seS (seS (seS (seS (seS (seS (seS (seS (0 : Int32) t0) t1) t2) t3) t4) t5) t6) t7) (afS (seS (seS (seS (seS (seS (seS (seS (0 : Int32) t0) t1) t2) t3) t4) t5) t6) (afS (seS (seS (seS (seS (seS (seS (0 : Int32) t0) t1) t2) t3) t4) t5) (afS (seS (seS (seS (seS (seS (0 : Int32) t0) t1) t2) t3) t4) (afS (seS (seS (seS (seS (0 : Int32) t0) t1) t2) t3) (afS (seS (seS (seS (0 : Int32) t0) t1) t2) (afS (seS (seS (0 : Int32) t0) t1) (afS (seS (0 : Int32) t0) (0 : Int32) t0) t1) t2) t3) t4) t5) t6) t7)), .val (.int (pickF t7 (pickF t6 (pickF t5 (pickF t4 (pickF t3 (pickF t2 (pickF t1 (pickF t0 (0 : Int32)))))))))), .val (.int (padF ((((((((eqF t0) + (eqF t1)) + (eqF t2)) + (eqF t3)) + (eqF t4)) + (eqF t5)) + (eqF t6)) + (eqF t7)) (pickF t7 (pickF t6 (pickF t5 (pickF t4 (pickF t3 (pickF t2 (pickF t1 (pickF t0 (0 : Int32))))))))))), .val (.int (expF (abF t0 t1 t2 t3 t4 t5 t6 t7) (afS (seS (seS (seS (seS (seS (seS (seS (seS (0 : Int32) t0) t1) t2) t3) t4) t5) t6) t7) (afS (seS (seS (seS (seS (seS (seS (seS (0 : Int32) t0) t1) t2) t3) t4) t5) t6) (afS (seS (seS (seS (seS (seS (seS (0 : Int32) t0) t1) t2) t3) t4) t5) (afS (seS (seS (seS (seS (seS (0 : Int32) t0) t1) t2) t3) t4) (afS (seS (seS (seS (seS (0 : Int32) t0) t1) t2) t3) (afS (seS (seS (seS (0 : Int32) t0) t1) t2) (afS (seS (seS (0 : Int32) t0) t1) (afS (seS (0 : Int32) t0) (0 : Int32) t0) t1) t2) t3) t4) t5) t6) t7) ((((((((nonSp t0) + (nonSp t1)) + (nonSp t2)) + (nonSp t3)) + (nonSp t4)) + (nonSp t5)) + (nonSp t6)) + (nonSp t7)) (padF ((((((((eqF t0) + (eqF t1)) + (eqF t2)) + (eqF t3)) + (eqF t4)) + (eqF t5)) + (eqF t6)) + (eqF t7)) (pickF t7 (pickF t6 (pickF t5 (pickF t4 (pickF t3 (pickF t2 (pickF t1 (pickF t0 (0 : Int32))))))))))))]) C at_898 rfl rfl ?_
    have g := plain t0 t1 t2 t3 t4 t5 t6 t7
    refine w_iload (pc' := 902) C at_900 rfl rfl ?_
    refine w_iload (pc' := 904) C at_902 rfl rfl ?_
    refine w_icmp_ne (pcT := 911) (pcF := 907) C at_904 (by decide) (by decide) rfl (fun q904_58 => ?_) (fun q904_58 => ?_)
    · skip
      exact absurd g q904_58
    · skip
      refine w_iconst (pc' := 908) (x := (1 : Int32)) C at_907 rfl rfl ?_
      refine w_goto (pc' := 912) C at_908 (by decide) (by decide) ?_
      refine w_retN' (t := .boolean) (z' := (1 : Int32)) C rfl (by simp) at_912 (closeH C.2.2.1 hEL HS HK HC HU HB (by decide) (by decide) (by decide)) narB1 ?_
      rfl
  have K869 : ∀ vb : Int32, (padF ((((((((eqF t0) + (eqF t1)) + (eqF t2)) + (eqF t3)) + (eqF t4)) + (eqF t5)) + (eqF t6)) + (eqF t7)) (pickF t7 (pickF t6 (pickF t5 (pickF t4 (pickF t3 (pickF t2 (pickF t1 (pickF t0 (0 : Int32)))))))))) = vb → Wp p l e room_1 (s.setVm vm16) m #[.long x0, .long x1, .long x2, .long x3] below meth c n0 (EH Z EL 260 s 2 12 2) (fun v h => v = some (.int 1)) h20 (2 + 2 * u16) (12 + 260 * u16) (mkF m 869 #[.val (.long x0), .second, .val (.long x1), .second, .val (.long x2), .second, .val (.long x3), .second, .val (.ref a1), .val (.ref a18), .val (.int (validF (acc [t0, t1, t2, t3, t4, t5, t6, t7] 0 0 0 0).1 (acc [t0, t1, t2, t3, t4, t5, t6, t7] 0 0 0 0).2.1 (acc [t0, t1, t2, t3, t4, t5, t6, t7] 0 0 0 0).2.2.1 (acc [t0, t1, t2, t3, t4, t5, t6, t7] 0 0 0 0).2.2.2)), .val (.int (abF t0 t1 t2 t3 t4 t5 t6 t7)), .val (.int ((((((((nonSp t0) + (nonSp t1)) + (nonSp t2)) + (nonSp t3)) + (nonSp t4)) + (nonSp t5)) + (nonSp t6)) + (nonSp t7))), .val (.int ((((((((eqF t0) + (eqF t1)) + (eqF t2)) + (eqF t3)) + (eqF t4)) + (eqF t5)) + (eqF t6)) + (eqF t7))), .val (.int (seS (seS (seS (seS (seS (seS (seS (seS (0 : Int32) t0) t1) t2) t3) t4) t5) t6) t7)), .val (.int (afS (seS (seS (seS (seS (seS (seS (seS (seS (0 : Int32) t0) t1) t2) t3) t4) t5) t6) t7) (afS (seS (seS (seS (seS (seS (seS (seS (0 : Int32) t0) t1) t2) t3) t4) t5) t6) (afS (seS (seS (seS (seS (seS (seS (0 : Int32) t0) t1) t2) t3) t4) t5) (afS (seS (seS (seS (seS (seS (0 : Int32) t0) t1) t2) t3) t4) (afS (seS (seS (seS (seS (0 : Int32) t0) t1) t2) t3) (afS (seS (seS (seS (0 : Int32) t0) t1) t2) (afS (seS (seS (0 : Int32) t0) t1) (afS (seS (0 : Int32) t0) (0 : Int32) t0) t1) t2) t3) t4) t5) t6) t7)), .val (.int (pickF t7 (pickF t6 (pickF t5 (pickF t4 (pickF t3 (pickF t2 (pickF t1 (pickF t0 (0 : Int32)))))))))), .unset, .unset] [.int vb]) := by
    intro vb hvb; subst hvb
    refine w_istore (pc' := 871) (Ls' := #[.val (.long x0), .second, .val (.long x1), .second, .val (.long x2), .second, .val (.long x3), .second, .val (.ref a1), .val (.ref a18), .val (.int (validF (acc [t0, t1, t2, t3, t4, t5, t6, t7] 0 0 0 0).1 (acc [t0, t1, t2, t3, t4, t5, t6, t7] 0 0 0 0).2.1 (acc [t0, t1, t2, t3, t4, t5, t6, t7] 0 0 0 0).2.2.1 (acc [t0, t1, t2, t3, t4, t5, t6, t7] 0 0 0 0).2.2.2)), .val (.int (abF t0 t1 t2 t3 t4 t5 t6 t7)), .val (.int ((((((((nonSp t0) + (nonSp t1)) + (nonSp t2)) + (nonSp t3)) + (nonSp t4)) + (nonSp t5)) + (nonSp t6)) + (nonSp t7))), .val (.int ((((((((eqF t0) + (eqF t1)) + (eqF t2)) + (eqF t3)) + (eqF t4)) + (eqF t5)) + (eqF t6)) + (eqF t7))), .val (.int (seS (seS (seS (seS (seS (seS (seS (seS (0 : Int32) t0) t1) t2) t3) t4) t5) t6) t7)), .val (.int (afS (seS (seS (seS (seS (seS (seS (seS (seS (0 : Int32) t0) t1) t2) t3) t4) t5) t6) t7) (afS (seS (seS (seS (seS (seS (seS (seS (0 : Int32) t0) t1) t2) t3) t4) t5) t6) (afS (seS (seS (seS (seS (seS (seS (0 : Int32) t0) t1) t2) t3) t4) t5) (afS (seS (seS (seS (seS (seS (0 : Int32) t0) t1) t2) t3) t4) (afS (seS (seS (seS (seS (0 : Int32) t0) t1) t2) t3) (afS (seS (seS (seS (0 : Int32) t0) t1) t2) (afS (seS (seS (0 : Int32) t0) t1) (afS (seS (0 : Int32) t0) (0 : Int32) t0) t1) t2) t3) t4) t5) t6) t7)), .val (.int (pickF t7 (pickF t6 (pickF t5 (pickF t4 (pickF t3 (pickF t2 (pickF t1 (pickF t0 (0 : Int32)))))))))), .val (.int (padF ((((((((eqF t0) + (eqF t1)) + (eqF t2)) + (eqF t3)) + (eqF t4)) + (eqF t5)) + (eqF t6)) + (eqF t7)) (pickF t7 (pickF t6 (pickF t5 (pickF t4 (pickF t3 (pickF t2 (pickF t1 (pickF t0 (0 : Int32))))))))))), .unset]) C at_869 rfl rfl ?_
    refine w_iload (pc' := 873) C at_871 rfl rfl ?_
    refine w_if_ne (pcT := 897) (pcF := 876) C at_873 (by decide) (by decide) rfl (fun q873_54 => ?_) (fun q873_54 => ?_)
    · skip
      refine w_iconst (pc' := 898) (x := (0 : Int32)) C at_897 rfl rfl ?_
      exact K898 (0 : Int32) (if_neg q873_54)
    · skip
      refine w_iload (pc' := 878) C at_876 rfl rfl ?_
      refine w_if_ne (pcT := 897) (pcF := 881) C at_878 (by decide) (by decide) rfl (fun q878_55 => ?_) (fun q878_55 => ?_)
      · skip
        refine w_iconst (pc' := 898) (x := (0 : Int32)) C at_897 rfl rfl ?_
        exact K898 (0 : Int32) (Eq.trans (if_pos q873_54) (if_neg q878_55))
      · skip
        refine w_iload (pc' := 883) C at_881 rfl rfl ?_
        refine w_iconst (pc' := 884) (x := (4 : Int32)) C at_883 rfl rfl ?_
        refine w_irem (pc' := 885) C at_884 (by decide) rfl ?_
        refine w_if_ne (pcT := 897) (pcF := 888) C at_885 (by decide) (by decide) rfl (fun q885_56 => ?_) (fun q885_56 => ?_)
        · skip
          refine w_iconst (pc' := 898) (x := (0 : Int32)) C at_897 rfl rfl ?_
          exact K898 (0 : Int32) (Eq.trans (if_pos q873_54) (Eq.trans (if_pos q878_55) (if_neg q885_56)))
        · skip
          refine w_iload (pc' := 890) C at_888 rfl rfl ?_
          refine w_if_eq (pcT := 897) (pcF := 893) C at_890 (by decide) (by decide) rfl (fun q890_57 => ?_) (fun q890_57 => ?_)
          · skip
            refine w_iconst (pc' := 898) (x := (0 : Int32)) C at_897 rfl rfl ?_
            exact K898 (0 : Int32) (Eq.trans (if_pos q873_54) (Eq.trans (if_pos q878_55) (Eq.trans (if_pos q885_56) (if_pos q890_57))))
          · skip
            refine w_iconst (pc' := 894) (x := (1 : Int32)) C at_893 rfl rfl ?_
            refine w_goto (pc' := 898) C at_894 (by decide) (by decide) ?_
            exact K898 (1 : Int32) (Eq.trans (if_pos q873_54) (Eq.trans (if_pos q878_55) (Eq.trans (if_pos q885_56) (if_neg q890_57))))
  have K737 : ∀ vb : Int32, (afS (seS (seS (seS (seS (seS (seS (seS (seS (0 : Int32) t0) t1) t2) t3) t4) t5) t6) t7) (afS (seS (seS (seS (seS (seS (seS (seS (0 : Int32) t0) t1) t2) t3) t4) t5) t6) (afS (seS (seS (seS (seS (seS (seS (0 : Int32) t0) t1) t2) t3) t4) t5) (afS (seS (seS (seS (seS (seS (0 : Int32) t0) t1) t2) t3) t4) (afS (seS (seS (seS (seS (0 : Int32) t0) t1) t2) t3) (afS (seS (seS (seS (0 : Int32) t0) t1) t2) (afS (seS (seS (0 : Int32) t0) t1) (afS (seS (0 : Int32) t0) (0 : Int32) t0) t1) t2) t3) t4) t5) t6) t7) = vb → Wp p l e room_1 (s.setVm vm16) m #[.long x0, .long x1, .long x2, .long x3] below meth c n0 (EH Z EL 260 s 2 12 2) (fun v h => v = some (.int 1)) h20 (2 + 2 * u16) (12 + 260 * u16) (mkF m 737 #[.val (.long x0), .second, .val (.long x1), .second, .val (.long x2), .second, .val (.long x3), .second, .val (.ref a1), .val (.ref a18), .val (.int (validF (acc [t0, t1, t2, t3, t4, t5, t6, t7] 0 0 0 0).1 (acc [t0, t1, t2, t3, t4, t5, t6, t7] 0 0 0 0).2.1 (acc [t0, t1, t2, t3, t4, t5, t6, t7] 0 0 0 0).2.2.1 (acc [t0, t1, t2, t3, t4, t5, t6, t7] 0 0 0 0).2.2.2)), .val (.int (abF t0 t1 t2 t3 t4 t5 t6 t7)), .val (.int ((((((((nonSp t0) + (nonSp t1)) + (nonSp t2)) + (nonSp t3)) + (nonSp t4)) + (nonSp t5)) + (nonSp t6)) + (nonSp t7))), .val (.int ((((((((eqF t0) + (eqF t1)) + (eqF t2)) + (eqF t3)) + (eqF t4)) + (eqF t5)) + (eqF t6)) + (eqF t7))), .val (.int (seS (seS (seS (seS (seS (seS (seS (seS (0 : Int32) t0) t1) t2) t3) t4) t5) t6) t7)), .val (.int (afS (seS (seS (seS (seS (seS (seS (seS (0 : Int32) t0) t1) t2) t3) t4) t5) t6) (afS (seS (seS (seS (seS (seS (seS (0 : Int32) t0) t1) t2) t3) t4) t5) (afS (seS (seS (seS (seS (seS (0 : Int32) t0) t1) t2) t3) t4) (afS (seS (seS (seS (seS (0 : Int32) t0) t1) t2) t3) (afS (seS (seS (seS (0 : Int32) t0) t1) t2) (afS (seS (seS (0 : Int32) t0) t1) (afS (seS (0 : Int32) t0) (0 : Int32) t0) t1) t2) t3) t4) t5) t6)), .unset, .unset, .unset] [.int vb]) := by
    intro vb hvb; subst hvb
    refine w_istore (pc' := 739) (Ls' := #[.val (.long x0), .second, .val (.long x1), .second, .val (.long x2), .second, .val (.long x3), .second, .val (.ref a1), .val (.ref a18), .val (.int (validF (acc [t0, t1, t2, t3, t4, t5, t6, t7] 0 0 0 0).1 (acc [t0, t1, t2, t3, t4, t5, t6, t7] 0 0 0 0).2.1 (acc [t0, t1, t2, t3, t4, t5, t6, t7] 0 0 0 0).2.2.1 (acc [t0, t1, t2, t3, t4, t5, t6, t7] 0 0 0 0).2.2.2)), .val (.int (abF t0 t1 t2 t3 t4 t5 t6 t7)), .val (.int ((((((((nonSp t0) + (nonSp t1)) + (nonSp t2)) + (nonSp t3)) + (nonSp t4)) + (nonSp t5)) + (nonSp t6)) + (nonSp t7))), .val (.int ((((((((eqF t0) + (eqF t1)) + (eqF t2)) + (eqF t3)) + (eqF t4)) + (eqF t5)) + (eqF t6)) + (eqF t7))), .val (.int (seS (seS (seS (seS (seS (seS (seS (seS (0 : Int32) t0) t1) t2) t3) t4) t5) t6) t7)), .val (.int (afS (seS (seS (seS (seS (seS (seS (seS (seS (0 : Int32) t0) t1) t2) t3) t4) t5) t6) t7) (afS (seS (seS (seS (seS (seS (seS (seS (0 : Int32) t0) t1) t2) t3) t4) t5) t6) (afS (seS (seS (seS (seS (seS (seS (0 : Int32) t0) t1) t2) t3) t4) t5) (afS (seS (seS (seS (seS (seS (0 : Int32) t0) t1) t2) t3) t4) (afS (seS (seS (seS (seS (0 : Int32) t0) t1) t2) t3) (afS (seS (seS (seS (0 : Int32) t0) t1) t2) (afS (seS (seS (0 : Int32) t0) t1) (afS (seS (0 : Int32) t0) (0 : Int32) t0) t1) t2) t3) t4) t5) t6) t7)), .unset, .unset, .unset]) C at_737 rfl rfl ?_
    refine w_iconst (pc' := 740) (x := (0 : Int32)) C at_739 rfl rfl ?_
    refine w_istore (pc' := 742) (Ls' := #[.val (.long x0), .second, .val (.long x1), .second, .val (.long x2), .second, .val (.long x3), .second, .val (.ref a1), .val (.ref a18), .val (.int (validF (acc [t0, t1, t2, t3, t4, t5, t6, t7] 0 0 0 0).1 (acc [t0, t1, t2, t3, t4, t5, t6, t7] 0 0 0 0).2.1 (acc [t0, t1, t2, t3, t4, t5, t6, t7] 0 0 0 0).2.2.1 (acc [t0, t1, t2, t3, t4, t5, t6, t7] 0 0 0 0).2.2.2)), .val (.int (abF t0 t1 t2 t3 t4 t5 t6 t7)), .val (.int ((((((((nonSp t0) + (nonSp t1)) + (nonSp t2)) + (nonSp t3)) + (nonSp t4)) + (nonSp t5)) + (nonSp t6)) + (nonSp t7))), .val (.int ((((((((eqF t0) + (eqF t1)) + (eqF t2)) + (eqF t3)) + (eqF t4)) + (eqF t5)) + (eqF t6)) + (eqF t7))), .val (.int (seS (seS (seS (seS (seS (seS (seS (seS (0 : Int32) t0) t1) t2) t3) t4) t5) t6) t7)), .val (.int (afS (seS (seS (seS (seS (seS (seS (seS (seS (0 : Int32) t0) t1) t2) t3) t4) t5) t6) t7) (afS (seS (seS (seS (seS (seS (seS (seS (0 : Int32) t0) t1) t2) t3) t4) t5) t6) (afS (seS (seS (seS (seS (seS (seS (0 : Int32) t0) t1) t2) t3) t4) t5) (afS (seS (seS (seS (seS (seS (0 : Int32) t0) t1) t2) t3) t4) (afS (seS (seS (seS (seS (0 : Int32) t0) t1) t2) t3) (afS (seS (seS (seS (0 : Int32) t0) t1) t2) (afS (seS (seS (0 : Int32) t0) t1) (afS (seS (0 : Int32) t0) (0 : Int32) t0) t1) t2) t3) t4) t5) t6) t7)), .val (.int (0 : Int32)), .unset, .unset]) C at_740 rfl rfl ?_
    refine w_aload (pc' := 744) C at_742 rfl rfl rfl ?_
    refine w_iconst (pc' := 745) (x := (0 : Int32)) C at_744 rfl rfl ?_
    refine wA_caload (pc' := 746) (v := .int t0) C at_745 rfl O_a1 (by decide) rfl ?_
    refine w_iload (pc' := 748) C at_746 rfl rfl ?_
    refine w_callS (pc' := 751) (argsL := [.int t0, .int (0 : Int32)]) (st := []) (W := 0) (ce' := (2 + 2 * u16)) (sl' := (12 + 260 * u16)) C (tw hw 85 rfl) (tw hw 86 rfl) (tw hw 3 rfl) (tw hw 87 rfl) (by decide) at_748 rfl rfl (by decide) (by decide) (Nat.le_of_eq rfl) (ad rfl) (ad rfl) (leA HB (by decide)) (leM HB (by decide)) rfl (lenOf pd_9 rfl) (ct_pickF hw h20 n0 t0 (0 : Int32)) (kp ?_)
    refine w_istore (pc' := 753) (Ls' := #[.val (.long x0), .second, .val (.long x1), .second, .val (.long x2), .second, .val (.long x3), .second, .val (.ref a1), .val (.ref a18), .val (.int (validF (acc [t0, t1, t2, t3, t4, t5, t6, t7] 0 0 0 0).1 (acc [t0, t1, t2, t3, t4, t5, t6, t7] 0 0 0 0).2.1 (acc [t0, t1, t2, t3, t4, t5, t6, t7] 0 0 0 0).2.2.1 (acc [t0, t1, t2, t3, t4, t5, t6, t7] 0 0 0 0).2.2.2)), .val (.int (abF t0 t1 t2 t3 t4 t5 t6 t7)), .val (.int ((((((((nonSp t0) + (nonSp t1)) + (nonSp t2)) + (nonSp t3)) + (nonSp t4)) + (nonSp t5)) + (nonSp t6)) + (nonSp t7))), .val (.int ((((((((eqF t0) + (eqF t1)) + (eqF t2)) + (eqF t3)) + (eqF t4)) + (eqF t5)) + (eqF t6)) + (eqF t7))), .val (.int (seS (seS (seS (seS (seS (seS (seS (seS (0 : Int32) t0) t1) t2) t3) t4) t5) t6) t7)), .val (.int (afS (seS (seS (seS (seS (seS (seS (seS (seS (0 : Int32) t0) t1) t2) t3) t4) t5) t6) t7) (afS (seS (seS (seS (seS (seS (seS (seS (0 : Int32) t0) t1) t2) t3) t4) t5) t6) (afS (seS (seS (seS (seS (seS (seS (0 : Int32) t0) t1) t2) t3) t4) t5) (afS (seS (seS (seS (seS (seS (0 : Int32) t0) t1) t2) t3) t4) (afS (seS (seS (seS (seS (0 : Int32) t0) t1) t2) t3) (afS (seS (seS (seS (0 : Int32) t0) t1) t2) (afS (seS (seS (0 : Int32) t0) t1) (afS (seS (0 : Int32) t0) (0 : Int32) t0) t1) t2) t3) t4) t5) t6) t7)), .val (.int (pickF t0 (0 : Int32))), .unset, .unset]) C at_751 rfl rfl ?_
    refine w_aload (pc' := 755) C at_753 rfl rfl rfl ?_
    refine w_iconst (pc' := 756) (x := (1 : Int32)) C at_755 rfl rfl ?_
    refine wA_caload (pc' := 757) (v := .int t1) C at_756 rfl O_a1 (by decide) rfl ?_
    refine w_iload (pc' := 759) C at_757 rfl rfl ?_
    refine w_callS (pc' := 762) (argsL := [.int t1, .int (pickF t0 (0 : Int32))]) (st := []) (W := 0) (ce' := (2 + 2 * u16)) (sl' := (12 + 260 * u16)) C (tw hw 85 rfl) (tw hw 86 rfl) (tw hw 3 rfl) (tw hw 87 rfl) (by decide) at_759 rfl rfl (by decide) (by decide) (Nat.le_of_eq rfl) (ad rfl) (ad rfl) (leA HB (by decide)) (leM HB (by decide)) rfl (lenOf pd_9 rfl) (ct_pickF hw h20 n0 t1 (pickF t0 (0 : Int32))) (kp ?_)
    refine w_istore (pc' := 764) (Ls' := #[.val (.long x0), .second, .val (.long x1), .second, .val (.long x2), .second, .val (.long x3), .second, .val (.ref a1), .val (.ref a18), .val (.int (validF (acc [t0, t1, t2, t3, t4, t5, t6, t7] 0 0 0 0).1 (acc [t0, t1, t2, t3, t4, t5, t6, t7] 0 0 0 0).2.1 (acc [t0, t1, t2, t3, t4, t5, t6, t7] 0 0 0 0).2.2.1 (acc [t0, t1, t2, t3, t4, t5, t6, t7] 0 0 0 0).2.2.2)), .val (.int (abF t0 t1 t2 t3 t4 t5 t6 t7)), .val (.int ((((((((nonSp t0) + (nonSp t1)) + (nonSp t2)) + (nonSp t3)) + (nonSp t4)) + (nonSp t5)) + (nonSp t6)) + (nonSp t7))), .val (.int ((((((((eqF t0) + (eqF t1)) + (eqF t2)) + (eqF t3)) + (eqF t4)) + (eqF t5)) + (eqF t6)) + (eqF t7))), .val (.int (seS (seS (seS (seS (seS (seS (seS (seS (0 : Int32) t0) t1) t2) t3) t4) t5) t6) t7)), .val (.int (afS (seS (seS (seS (seS (seS (seS (seS (seS (0 : Int32) t0) t1) t2) t3) t4) t5) t6) t7) (afS (seS (seS (seS (seS (seS (seS (seS (0 : Int32) t0) t1) t2) t3) t4) t5) t6) (afS (seS (seS (seS (seS (seS (seS (0 : Int32) t0) t1) t2) t3) t4) t5) (afS (seS (seS (seS (seS (seS (0 : Int32) t0) t1) t2) t3) t4) (afS (seS (seS (seS (seS (0 : Int32) t0) t1) t2) t3) (afS (seS (seS (seS (0 : Int32) t0) t1) t2) (afS (seS (seS (0 : Int32) t0) t1) (afS (seS (0 : Int32) t0) (0 : Int32) t0) t1) t2) t3) t4) t5) t6) t7)), .val (.int (pickF t1 (pickF t0 (0 : Int32)))), .unset, .unset]) C at_762 rfl rfl ?_
    refine w_aload (pc' := 766) C at_764 rfl rfl rfl ?_
    refine w_iconst (pc' := 767) (x := (2 : Int32)) C at_766 rfl rfl ?_
    refine wA_caload (pc' := 768) (v := .int t2) C at_767 rfl O_a1 (by decide) rfl ?_
    refine w_iload (pc' := 770) C at_768 rfl rfl ?_
    refine w_callS (pc' := 773) (argsL := [.int t2, .int (pickF t1 (pickF t0 (0 : Int32)))]) (st := []) (W := 0) (ce' := (2 + 2 * u16)) (sl' := (12 + 260 * u16)) C (tw hw 85 rfl) (tw hw 86 rfl) (tw hw 3 rfl) (tw hw 87 rfl) (by decide) at_770 rfl rfl (by decide) (by decide) (Nat.le_of_eq rfl) (ad rfl) (ad rfl) (leA HB (by decide)) (leM HB (by decide)) rfl (lenOf pd_9 rfl) (ct_pickF hw h20 n0 t2 (pickF t1 (pickF t0 (0 : Int32)))) (kp ?_)
    refine w_istore (pc' := 775) (Ls' := #[.val (.long x0), .second, .val (.long x1), .second, .val (.long x2), .second, .val (.long x3), .second, .val (.ref a1), .val (.ref a18), .val (.int (validF (acc [t0, t1, t2, t3, t4, t5, t6, t7] 0 0 0 0).1 (acc [t0, t1, t2, t3, t4, t5, t6, t7] 0 0 0 0).2.1 (acc [t0, t1, t2, t3, t4, t5, t6, t7] 0 0 0 0).2.2.1 (acc [t0, t1, t2, t3, t4, t5, t6, t7] 0 0 0 0).2.2.2)), .val (.int (abF t0 t1 t2 t3 t4 t5 t6 t7)), .val (.int ((((((((nonSp t0) + (nonSp t1)) + (nonSp t2)) + (nonSp t3)) + (nonSp t4)) + (nonSp t5)) + (nonSp t6)) + (nonSp t7))), .val (.int ((((((((eqF t0) + (eqF t1)) + (eqF t2)) + (eqF t3)) + (eqF t4)) + (eqF t5)) + (eqF t6)) + (eqF t7))), .val (.int (seS (seS (seS (seS (seS (seS (seS (seS (0 : Int32) t0) t1) t2) t3) t4) t5) t6) t7)), .val (.int (afS (seS (seS (seS (seS (seS (seS (seS (seS (0 : Int32) t0) t1) t2) t3) t4) t5) t6) t7) (afS (seS (seS (seS (seS (seS (seS (seS (0 : Int32) t0) t1) t2) t3) t4) t5) t6) (afS (seS (seS (seS (seS (seS (seS (0 : Int32) t0) t1) t2) t3) t4) t5) (afS (seS (seS (seS (seS (seS (0 : Int32) t0) t1) t2) t3) t4) (afS (seS (seS (seS (seS (0 : Int32) t0) t1) t2) t3) (afS (seS (seS (seS (0 : Int32) t0) t1) t2) (afS (seS (seS (0 : Int32) t0) t1) (afS (seS (0 : Int32) t0) (0 : Int32) t0) t1) t2) t3) t4) t5) t6) t7)), .val (.int (pickF t2 (pickF t1 (pickF t0 (0 : Int32))))), .unset, .unset]) C at_773 rfl rfl ?_
    refine w_aload (pc' := 777) C at_775 rfl rfl rfl ?_
    refine w_iconst (pc' := 778) (x := (3 : Int32)) C at_777 rfl rfl ?_
    refine wA_caload (pc' := 779) (v := .int t3) C at_778 rfl O_a1 (by decide) rfl ?_
    refine w_iload (pc' := 781) C at_779 rfl rfl ?_
    refine w_callS (pc' := 784) (argsL := [.int t3, .int (pickF t2 (pickF t1 (pickF t0 (0 : Int32))))]) (st := []) (W := 0) (ce' := (2 + 2 * u16)) (sl' := (12 + 260 * u16)) C (tw hw 85 rfl) (tw hw 86 rfl) (tw hw 3 rfl) (tw hw 87 rfl) (by decide) at_781 rfl rfl (by decide) (by decide) (Nat.le_of_eq rfl) (ad rfl) (ad rfl) (leA HB (by decide)) (leM HB (by decide)) rfl (lenOf pd_9 rfl) (ct_pickF hw h20 n0 t3 (pickF t2 (pickF t1 (pickF t0 (0 : Int32))))) (kp ?_)
    refine w_istore (pc' := 786) (Ls' := #[.val (.long x0), .second, .val (.long x1), .second, .val (.long x2), .second, .val (.long x3), .second, .val (.ref a1), .val (.ref a18), .val (.int (validF (acc [t0, t1, t2, t3, t4, t5, t6, t7] 0 0 0 0).1 (acc [t0, t1, t2, t3, t4, t5, t6, t7] 0 0 0 0).2.1 (acc [t0, t1, t2, t3, t4, t5, t6, t7] 0 0 0 0).2.2.1 (acc [t0, t1, t2, t3, t4, t5, t6, t7] 0 0 0 0).2.2.2)), .val (.int (abF t0 t1 t2 t3 t4 t5 t6 t7)), .val (.int ((((((((nonSp t0) + (nonSp t1)) + (nonSp t2)) + (nonSp t3)) + (nonSp t4)) + (nonSp t5)) + (nonSp t6)) + (nonSp t7))), .val (.int ((((((((eqF t0) + (eqF t1)) + (eqF t2)) + (eqF t3)) + (eqF t4)) + (eqF t5)) + (eqF t6)) + (eqF t7))), .val (.int (seS (seS (seS (seS (seS (seS (seS (seS (0 : Int32) t0) t1) t2) t3) t4) t5) t6) t7)), .val (.int (afS (seS (seS (seS (seS (seS (seS (seS (seS (0 : Int32) t0) t1) t2) t3) t4) t5) t6) t7) (afS (seS (seS (seS (seS (seS (seS (seS (0 : Int32) t0) t1) t2) t3) t4) t5) t6) (afS (seS (seS (seS (seS (seS (seS (0 : Int32) t0) t1) t2) t3) t4) t5) (afS (seS (seS (seS (seS (seS (0 : Int32) t0) t1) t2) t3) t4) (afS (seS (seS (seS (seS (0 : Int32) t0) t1) t2) t3) (afS (seS (seS (seS (0 : Int32) t0) t1) t2) (afS (seS (seS (0 : Int32) t0) t1) (afS (seS (0 : Int32) t0) (0 : Int32) t0) t1) t2) t3) t4) t5) t6) t7)), .val (.int (pickF t3 (pickF t2 (pickF t1 (pickF t0 (0 : Int32)))))), .unset, .unset]) C at_784 rfl rfl ?_
    refine w_aload (pc' := 788) C at_786 rfl rfl rfl ?_
    refine w_iconst (pc' := 789) (x := (4 : Int32)) C at_788 rfl rfl ?_
    refine wA_caload (pc' := 790) (v := .int t4) C at_789 rfl O_a1 (by decide) rfl ?_
    refine w_iload (pc' := 792) C at_790 rfl rfl ?_
    refine w_callS (pc' := 795) (argsL := [.int t4, .int (pickF t3 (pickF t2 (pickF t1 (pickF t0 (0 : Int32)))))]) (st := []) (W := 0) (ce' := (2 + 2 * u16)) (sl' := (12 + 260 * u16)) C (tw hw 85 rfl) (tw hw 86 rfl) (tw hw 3 rfl) (tw hw 87 rfl) (by decide) at_792 rfl rfl (by decide) (by decide) (Nat.le_of_eq rfl) (ad rfl) (ad rfl) (leA HB (by decide)) (leM HB (by decide)) rfl (lenOf pd_9 rfl) (ct_pickF hw h20 n0 t4 (pickF t3 (pickF t2 (pickF t1 (pickF t0 (0 : Int32)))))) (kp ?_)
    refine w_istore (pc' := 797) (Ls' := #[.val (.long x0), .second, .val (.long x1), .second, .val (.long x2), .second, .val (.long x3), .second, .val (.ref a1), .val (.ref a18), .val (.int (validF (acc [t0, t1, t2, t3, t4, t5, t6, t7] 0 0 0 0).1 (acc [t0, t1, t2, t3, t4, t5, t6, t7] 0 0 0 0).2.1 (acc [t0, t1, t2, t3, t4, t5, t6, t7] 0 0 0 0).2.2.1 (acc [t0, t1, t2, t3, t4, t5, t6, t7] 0 0 0 0).2.2.2)), .val (.int (abF t0 t1 t2 t3 t4 t5 t6 t7)), .val (.int ((((((((nonSp t0) + (nonSp t1)) + (nonSp t2)) + (nonSp t3)) + (nonSp t4)) + (nonSp t5)) + (nonSp t6)) + (nonSp t7))), .val (.int ((((((((eqF t0) + (eqF t1)) + (eqF t2)) + (eqF t3)) + (eqF t4)) + (eqF t5)) + (eqF t6)) + (eqF t7))), .val (.int (seS (seS (seS (seS (seS (seS (seS (seS (0 : Int32) t0) t1) t2) t3) t4) t5) t6) t7)), .val (.int (afS (seS (seS (seS (seS (seS (seS (seS (seS (0 : Int32) t0) t1) t2) t3) t4) t5) t6) t7) (afS (seS (seS (seS (seS (seS (seS (seS (0 : Int32) t0) t1) t2) t3) t4) t5) t6) (afS (seS (seS (seS (seS (seS (seS (0 : Int32) t0) t1) t2) t3) t4) t5) (afS (seS (seS (seS (seS (seS (0 : Int32) t0) t1) t2) t3) t4) (afS (seS (seS (seS (seS (0 : Int32) t0) t1) t2) t3) (afS (seS (seS (seS (0 : Int32) t0) t1) t2) (afS (seS (seS (0 : Int32) t0) t1) (afS (seS (0 : Int32) t0) (0 : Int32) t0) t1) t2) t3) t4) t5) t6) t7)), .val (.int (pickF t4 (pickF t3 (pickF t2 (pickF t1 (pickF t0 (0 : Int32))))))), .unset, .unset]) C at_795 rfl rfl ?_
    refine w_aload (pc' := 799) C at_797 rfl rfl rfl ?_
    refine w_iconst (pc' := 800) (x := (5 : Int32)) C at_799 rfl rfl ?_
    refine wA_caload (pc' := 801) (v := .int t5) C at_800 rfl O_a1 (by decide) rfl ?_
    refine w_iload (pc' := 803) C at_801 rfl rfl ?_
    refine w_callS (pc' := 806) (argsL := [.int t5, .int (pickF t4 (pickF t3 (pickF t2 (pickF t1 (pickF t0 (0 : Int32))))))]) (st := []) (W := 0) (ce' := (2 + 2 * u16)) (sl' := (12 + 260 * u16)) C (tw hw 85 rfl) (tw hw 86 rfl) (tw hw 3 rfl) (tw hw 87 rfl) (by decide) at_803 rfl rfl (by decide) (by decide) (Nat.le_of_eq rfl) (ad rfl) (ad rfl) (leA HB (by decide)) (leM HB (by decide)) rfl (lenOf pd_9 rfl) (ct_pickF hw h20 n0 t5 (pickF t4 (pickF t3 (pickF t2 (pickF t1 (pickF t0 (0 : Int32))))))) (kp ?_)
    refine w_istore (pc' := 808) (Ls' := #[.val (.long x0), .second, .val (.long x1), .second, .val (.long x2), .second, .val (.long x3), .second, .val (.ref a1), .val (.ref a18), .val (.int (validF (acc [t0, t1, t2, t3, t4, t5, t6, t7] 0 0 0 0).1 (acc [t0, t1, t2, t3, t4, t5, t6, t7] 0 0 0 0).2.1 (acc [t0, t1, t2, t3, t4, t5, t6, t7] 0 0 0 0).2.2.1 (acc [t0, t1, t2, t3, t4, t5, t6, t7] 0 0 0 0).2.2.2)), .val (.int (abF t0 t1 t2 t3 t4 t5 t6 t7)), .val (.int ((((((((nonSp t0) + (nonSp t1)) + (nonSp t2)) + (nonSp t3)) + (nonSp t4)) + (nonSp t5)) + (nonSp t6)) + (nonSp t7))), .val (.int ((((((((eqF t0) + (eqF t1)) + (eqF t2)) + (eqF t3)) + (eqF t4)) + (eqF t5)) + (eqF t6)) + (eqF t7))), .val (.int (seS (seS (seS (seS (seS (seS (seS (seS (0 : Int32) t0) t1) t2) t3) t4) t5) t6) t7)), .val (.int (afS (seS (seS (seS (seS (seS (seS (seS (seS (0 : Int32) t0) t1) t2) t3) t4) t5) t6) t7) (afS (seS (seS (seS (seS (seS (seS (seS (0 : Int32) t0) t1) t2) t3) t4) t5) t6) (afS (seS (seS (seS (seS (seS (seS (0 : Int32) t0) t1) t2) t3) t4) t5) (afS (seS (seS (seS (seS (seS (0 : Int32) t0) t1) t2) t3) t4) (afS (seS (seS (seS (seS (0 : Int32) t0) t1) t2) t3) (afS (seS (seS (seS (0 : Int32) t0) t1) t2) (afS (seS (seS (0 : Int32) t0) t1) (afS (seS (0 : Int32) t0) (0 : Int32) t0) t1) t2) t3) t4) t5) t6) t7)), .val (.int (pickF t5 (pickF t4 (pickF t3 (pickF t2 (pickF t1 (pickF t0 (0 : Int32)))))))), .unset, .unset]) C at_806 rfl rfl ?_
    refine w_aload (pc' := 810) C at_808 rfl rfl rfl ?_
    refine w_bipush (pc' := 812) (x := (6 : Int32)) C at_810 rfl rfl ?_
    refine wA_caload (pc' := 813) (v := .int t6) C at_812 rfl O_a1 (by decide) rfl ?_
    refine w_iload (pc' := 815) C at_813 rfl rfl ?_
    refine w_callS (pc' := 818) (argsL := [.int t6, .int (pickF t5 (pickF t4 (pickF t3 (pickF t2 (pickF t1 (pickF t0 (0 : Int32)))))))]) (st := []) (W := 0) (ce' := (2 + 2 * u16)) (sl' := (12 + 260 * u16)) C (tw hw 85 rfl) (tw hw 86 rfl) (tw hw 3 rfl) (tw hw 87 rfl) (by decide) at_815 rfl rfl (by decide) (by decide) (Nat.le_of_eq rfl) (ad rfl) (ad rfl) (leA HB (by decide)) (leM HB (by decide)) rfl (lenOf pd_9 rfl) (ct_pickF hw h20 n0 t6 (pickF t5 (pickF t4 (pickF t3 (pickF t2 (pickF t1 (pickF t0 (0 : Int32)))))))) (kp ?_)
    refine w_istore (pc' := 820) (Ls' := #[.val (.long x0), .second, .val (.long x1), .second, .val (.long x2), .second, .val (.long x3), .second, .val (.ref a1), .val (.ref a18), .val (.int (validF (acc [t0, t1, t2, t3, t4, t5, t6, t7] 0 0 0 0).1 (acc [t0, t1, t2, t3, t4, t5, t6, t7] 0 0 0 0).2.1 (acc [t0, t1, t2, t3, t4, t5, t6, t7] 0 0 0 0).2.2.1 (acc [t0, t1, t2, t3, t4, t5, t6, t7] 0 0 0 0).2.2.2)), .val (.int (abF t0 t1 t2 t3 t4 t5 t6 t7)), .val (.int ((((((((nonSp t0) + (nonSp t1)) + (nonSp t2)) + (nonSp t3)) + (nonSp t4)) + (nonSp t5)) + (nonSp t6)) + (nonSp t7))), .val (.int ((((((((eqF t0) + (eqF t1)) + (eqF t2)) + (eqF t3)) + (eqF t4)) + (eqF t5)) + (eqF t6)) + (eqF t7))), .val (.int (seS (seS (seS (seS (seS (seS (seS (seS (0 : Int32) t0) t1) t2) t3) t4) t5) t6) t7)), .val (.int (afS (seS (seS (seS (seS (seS (seS (seS (seS (0 : Int32) t0) t1) t2) t3) t4) t5) t6) t7) (afS (seS (seS (seS (seS (seS (seS (seS (0 : Int32) t0) t1) t2) t3) t4) t5) t6) (afS (seS (seS (seS (seS (seS (seS (0 : Int32) t0) t1) t2) t3) t4) t5) (afS (seS (seS (seS (seS (seS (0 : Int32) t0) t1) t2) t3) t4) (afS (seS (seS (seS (seS (0 : Int32) t0) t1) t2) t3) (afS (seS (seS (seS (0 : Int32) t0) t1) t2) (afS (seS (seS (0 : Int32) t0) t1) (afS (seS (0 : Int32) t0) (0 : Int32) t0) t1) t2) t3) t4) t5) t6) t7)), .val (.int (pickF t6 (pickF t5 (pickF t4 (pickF t3 (pickF t2 (pickF t1 (pickF t0 (0 : Int32))))))))), .unset, .unset]) C at_818 rfl rfl ?_
    refine w_aload (pc' := 822) C at_820 rfl rfl rfl ?_
    refine w_bipush (pc' := 824) (x := (7 : Int32)) C at_822 rfl rfl ?_
    refine wA_caload (pc' := 825) (v := .int t7) C at_824 rfl O_a1 (by decide) rfl ?_
    refine w_iload (pc' := 827) C at_825 rfl rfl ?_
    refine w_callS (pc' := 830) (argsL := [.int t7, .int (pickF t6 (pickF t5 (pickF t4 (pickF t3 (pickF t2 (pickF t1 (pickF t0 (0 : Int32))))))))]) (st := []) (W := 0) (ce' := (2 + 2 * u16)) (sl' := (12 + 260 * u16)) C (tw hw 85 rfl) (tw hw 86 rfl) (tw hw 3 rfl) (tw hw 87 rfl) (by decide) at_827 rfl rfl (by decide) (by decide) (Nat.le_of_eq rfl) (ad rfl) (ad rfl) (leA HB (by decide)) (leM HB (by decide)) rfl (lenOf pd_9 rfl) (ct_pickF hw h20 n0 t7 (pickF t6 (pickF t5 (pickF t4 (pickF t3 (pickF t2 (pickF t1 (pickF t0 (0 : Int32))))))))) (kp ?_)
    refine w_istore (pc' := 832) (Ls' := #[.val (.long x0), .second, .val (.long x1), .second, .val (.long x2), .second, .val (.long x3), .second, .val (.ref a1), .val (.ref a18), .val (.int (validF (acc [t0, t1, t2, t3, t4, t5, t6, t7] 0 0 0 0).1 (acc [t0, t1, t2, t3, t4, t5, t6, t7] 0 0 0 0).2.1 (acc [t0, t1, t2, t3, t4, t5, t6, t7] 0 0 0 0).2.2.1 (acc [t0, t1, t2, t3, t4, t5, t6, t7] 0 0 0 0).2.2.2)), .val (.int (abF t0 t1 t2 t3 t4 t5 t6 t7)), .val (.int ((((((((nonSp t0) + (nonSp t1)) + (nonSp t2)) + (nonSp t3)) + (nonSp t4)) + (nonSp t5)) + (nonSp t6)) + (nonSp t7))), .val (.int ((((((((eqF t0) + (eqF t1)) + (eqF t2)) + (eqF t3)) + (eqF t4)) + (eqF t5)) + (eqF t6)) + (eqF t7))), .val (.int (seS (seS (seS (seS (seS (seS (seS (seS (0 : Int32) t0) t1) t2) t3) t4) t5) t6) t7)), .val (.int (afS (seS (seS (seS (seS (seS (seS (seS (seS (0 : Int32) t0) t1) t2) t3) t4) t5) t6) t7) (afS (seS (seS (seS (seS (seS (seS (seS (0 : Int32) t0) t1) t2) t3) t4) t5) t6) (afS (seS (seS (seS (seS (seS (seS (0 : Int32) t0) t1) t2) t3) t4) t5) (afS (seS (seS (seS (seS (seS (0 : Int32) t0) t1) t2) t3) t4) (afS (seS (seS (seS (seS (0 : Int32) t0) t1) t2) t3) (afS (seS (seS (seS (0 : Int32) t0) t1) t2) (afS (seS (seS (0 : Int32) t0) t1) (afS (seS (0 : Int32) t0) (0 : Int32) t0) t1) t2) t3) t4) t5) t6) t7)), .val (.int (pickF t7 (pickF t6 (pickF t5 (pickF t4 (pickF t3 (pickF t2 (pickF t1 (pickF t0 (0 : Int32)))))))))), .unset, .unset]) C at_830 rfl rfl ?_
    refine w_iload (pc' := 834) C at_832 rfl rfl ?_
    refine w_if_eq (pcT := 864) (pcF := 837) C at_834 (by decide) (by decide) rfl (fun q834_47 => ?_) (fun q834_47 => ?_)
    · skip
      refine w_iconst (pc' := 865) (x := (1 : Int32)) C at_864 rfl rfl ?_
      refine w_goto (pc' := 869) C at_865 (by decide) (by decide) ?_
      exact K869 (1 : Int32) (if_pos q834_47)
    · skip
      refine w_iload (pc' := 839) C at_837 rfl rfl ?_
      refine w_iconst (pc' := 840) (x := (1 : Int32)) C at_839 rfl rfl ?_
      refine w_icmp_ne (pcT := 850) (pcF := 843) C at_840 (by decide) (by decide) rfl (fun q840_48 => ?_) (fun q840_48 => ?_)
      · skip
        refine w_iload (pc' := 852) C at_850 rfl rfl ?_
        refine w_iconst (pc' := 853) (x := (2 : Int32)) C at_852 rfl rfl ?_
        refine w_icmp_ne (pcT := 868) (pcF := 856) C at_853 (by decide) (by decide) rfl (fun q853_49 => ?_) (fun q853_49 => ?_)
        · skip
          refine w_iconst (pc' := 869) (x := (0 : Int32)) C at_868 rfl rfl ?_
          exact K869 (0 : Int32) (Eq.trans (if_neg q834_47) (Eq.trans (if_neg q840_48) (if_neg q853_49)))
        · skip
          refine w_iload (pc' := 858) C at_856 rfl rfl ?_
          refine w_bipush (pc' := 860) (x := (15 : Int32)) C at_858 rfl rfl ?_
          refine w_iand (pc' := 861) C at_860 rfl ?_
          refine w_if_ne (pcT := 868) (pcF := 864) C at_861 (by decide) (by decide) rfl (fun q861_50 => ?_) (fun q861_50 => ?_)
          · skip
            refine w_iconst (pc' := 869) (x := (0 : Int32)) C at_868 rfl rfl ?_
            exact K869 (0 : Int32) (Eq.trans (if_neg q834_47) (Eq.trans (if_neg q840_48) (Eq.trans (if_pos q853_49) (if_neg q861_50))))
          · skip
            refine w_iconst (pc' := 865) (x := (1 : Int32)) C at_864 rfl rfl ?_
            refine w_goto (pc' := 869) C at_865 (by decide) (by decide) ?_
            exact K869 (1 : Int32) (Eq.trans (if_neg q834_47) (Eq.trans (if_neg q840_48) (Eq.trans (if_pos q853_49) (if_pos q861_50))))
      · skip
        refine w_iload (pc' := 845) C at_843 rfl rfl ?_
        refine w_iconst (pc' := 846) (x := (3 : Int32)) C at_845 rfl rfl ?_
        refine w_iand (pc' := 847) C at_846 rfl ?_
        refine w_if_eq (pcT := 864) (pcF := 850) C at_847 (by decide) (by decide) rfl (fun q847_51 => ?_) (fun q847_51 => ?_)
        · skip
          refine w_iconst (pc' := 865) (x := (1 : Int32)) C at_864 rfl rfl ?_
          refine w_goto (pc' := 869) C at_865 (by decide) (by decide) ?_
          exact K869 (1 : Int32) (Eq.trans (if_neg q834_47) (Eq.trans (if_pos q840_48) (if_pos q847_51)))
        · skip
          refine w_iload (pc' := 852) C at_850 rfl rfl ?_
          refine w_iconst (pc' := 853) (x := (2 : Int32)) C at_852 rfl rfl ?_
          refine w_icmp_ne (pcT := 868) (pcF := 856) C at_853 (by decide) (by decide) rfl (fun q853_52 => ?_) (fun q853_52 => ?_)
          · skip
            refine w_iconst (pc' := 869) (x := (0 : Int32)) C at_868 rfl rfl ?_
            exact K869 (0 : Int32) (Eq.trans (if_neg q834_47) (Eq.trans (if_pos q840_48) (Eq.trans (if_neg q847_51) (if_neg q853_52))))
          · skip
            refine w_iload (pc' := 858) C at_856 rfl rfl ?_
            refine w_bipush (pc' := 860) (x := (15 : Int32)) C at_858 rfl rfl ?_
            refine w_iand (pc' := 861) C at_860 rfl ?_
            refine w_if_ne (pcT := 868) (pcF := 864) C at_861 (by decide) (by decide) rfl (fun q861_53 => ?_) (fun q861_53 => ?_)
            · skip
              refine w_iconst (pc' := 869) (x := (0 : Int32)) C at_868 rfl rfl ?_
              exact K869 (0 : Int32) (Eq.trans (if_neg q834_47) (Eq.trans (if_pos q840_48) (Eq.trans (if_neg q847_51) (Eq.trans (if_pos q853_52) (if_neg q861_53)))))
            · skip
              refine w_iconst (pc' := 865) (x := (1 : Int32)) C at_864 rfl rfl ?_
              refine w_goto (pc' := 869) C at_865 (by decide) (by decide) ?_
              exact K869 (1 : Int32) (Eq.trans (if_neg q834_47) (Eq.trans (if_pos q840_48) (Eq.trans (if_neg q847_51) (Eq.trans (if_pos q853_52) (if_pos q861_53)))))
  have K709 : ∀ vb : Int32, (seS (seS (seS (seS (seS (seS (seS (seS (0 : Int32) t0) t1) t2) t3) t4) t5) t6) t7) = vb → Wp p l e room_1 (s.setVm vm16) m #[.long x0, .long x1, .long x2, .long x3] below meth c n0 (EH Z EL 260 s 2 12 2) (fun v h => v = some (.int 1)) h20 (2 + 2 * u16) (12 + 260 * u16) (mkF m 709 #[.val (.long x0), .second, .val (.long x1), .second, .val (.long x2), .second, .val (.long x3), .second, .val (.ref a1), .val (.ref a18), .val (.int (validF (acc [t0, t1, t2, t3, t4, t5, t6, t7] 0 0 0 0).1 (acc [t0, t1, t2, t3, t4, t5, t6, t7] 0 0 0 0).2.1 (acc [t0, t1, t2, t3, t4, t5, t6, t7] 0 0 0 0).2.2.1 (acc [t0, t1, t2, t3, t4, t5, t6, t7] 0 0 0 0).2.2.2)), .val (.int (abF t0 t1 t2 t3 t4 t5 t6 t7)), .val (.int ((((((((nonSp t0) + (nonSp t1)) + (nonSp t2)) + (nonSp t3)) + (nonSp t4)) + (nonSp t5)) + (nonSp t6)) + (nonSp t7))), .val (.int ((((((((eqF t0) + (eqF t1)) + (eqF t2)) + (eqF t3)) + (eqF t4)) + (eqF t5)) + (eqF t6)) + (eqF t7))), .val (.int (seS (seS (seS (seS (seS (seS (seS (0 : Int32) t0) t1) t2) t3) t4) t5) t6)), .val (.int (afS (seS (seS (seS (seS (seS (seS (seS (0 : Int32) t0) t1) t2) t3) t4) t5) t6) (afS (seS (seS (seS (seS (seS (seS (0 : Int32) t0) t1) t2) t3) t4) t5) (afS (seS (seS (seS (seS (seS (0 : Int32) t0) t1) t2) t3) t4) (afS (seS (seS (seS (seS (0 : Int32) t0) t1) t2) t3) (afS (seS (seS (seS (0 : Int32) t0) t1) t2) (afS (seS (seS (0 : Int32) t0) t1) (afS (seS (0 : Int32) t0) (0 : Int32) t0) t1) t2) t3) t4) t5) t6)), .unset, .unset, .unset] [.int vb]) := by
    intro vb hvb; subst hvb
    refine w_istore (pc' := 711) (Ls' := #[.val (.long x0), .second, .val (.long x1), .second, .val (.long x2), .second, .val (.long x3), .second, .val (.ref a1), .val (.ref a18), .val (.int (validF (acc [t0, t1, t2, t3, t4, t5, t6, t7] 0 0 0 0).1 (acc [t0, t1, t2, t3, t4, t5, t6, t7] 0 0 0 0).2.1 (acc [t0, t1, t2, t3, t4, t5, t6, t7] 0 0 0 0).2.2.1 (acc [t0, t1, t2, t3, t4, t5, t6, t7] 0 0 0 0).2.2.2)), .val (.int (abF t0 t1 t2 t3 t4 t5 t6 t7)), .val (.int ((((((((nonSp t0) + (nonSp t1)) + (nonSp t2)) + (nonSp t3)) + (nonSp t4)) + (nonSp t5)) + (nonSp t6)) + (nonSp t7))), .val (.int ((((((((eqF t0) + (eqF t1)) + (eqF t2)) + (eqF t3)) + (eqF t4)) + (eqF t5)) + (eqF t6)) + (eqF t7))), .val (.int (seS (seS (seS (seS (seS (seS (seS (seS (0 : Int32) t0) t1) t2) t3) t4) t5) t6) t7)), .val (.int (afS (seS (seS (seS (seS (seS (seS (seS (0 : Int32) t0) t1) t2) t3) t4) t5) t6) (afS (seS (seS (seS (seS (seS (seS (0 : Int32) t0) t1) t2) t3) t4) t5) (afS (seS (seS (seS (seS (seS (0 : Int32) t0) t1) t2) t3) t4) (afS (seS (seS (seS (seS (0 : Int32) t0) t1) t2) t3) (afS (seS (seS (seS (0 : Int32) t0) t1) t2) (afS (seS (seS (0 : Int32) t0) t1) (afS (seS (0 : Int32) t0) (0 : Int32) t0) t1) t2) t3) t4) t5) t6)), .unset, .unset, .unset]) C at_709 rfl rfl ?_
    refine w_iload (pc' := 713) C at_711 rfl rfl ?_
    refine w_if_ne (pcT := 732) (pcF := 716) C at_713 (by decide) (by decide) rfl (fun q713_44 => ?_) (fun q713_44 => ?_)
    · skip
      refine w_iconst (pc' := 733) (x := (1 : Int32)) C at_732 rfl rfl ?_
      refine w_goto (pc' := 737) C at_733 (by decide) (by decide) ?_
      exact K737 (1 : Int32) (if_neg q713_44)
    · skip
      refine w_iload (pc' := 718) C at_716 rfl rfl ?_
      refine w_if_eq (pcT := 736) (pcF := 721) C at_718 (by decide) (by decide) rfl (fun q718_45 => ?_) (fun q718_45 => ?_)
      · skip
        refine w_iconst (pc' := 737) (x := (0 : Int32)) C at_736 rfl rfl ?_
        exact K737 (0 : Int32) (Eq.trans (if_pos q713_44) (if_pos q718_45))
      · skip
        refine w_aload (pc' := 723) C at_721 rfl rfl rfl ?_
        refine w_bipush (pc' := 725) (x := (7 : Int32)) C at_723 rfl rfl ?_
        refine wA_caload (pc' := 726) (v := .int t7) C at_725 rfl O_a1 (by decide) rfl ?_
        refine w_callS (pc' := 729) (argsL := [.int t7]) (st := []) (W := 0) (ce' := (2 + 2 * u16)) (sl' := (12 + 260 * u16)) C (tw hw 76 rfl) (tw hw 77 rfl) (tw hw 3 rfl) (tw hw 78 rfl) (by decide) at_726 rfl rfl (by decide) (by decide) (Nat.le_of_eq rfl) (ad rfl) (ad rfl) (leA HB (by decide)) (leM HB (by decide)) rfl (lenOf pd_5 rfl) (ct_valF hw h20 n0 t7) (kp ?_)
        refine w_if_lt (pcT := 736) (pcF := 732) C at_729 (by decide) (by decide) rfl (fun q729_46 => ?_) (fun q729_46 => ?_)
        · skip
          refine w_iconst (pc' := 737) (x := (0 : Int32)) C at_736 rfl rfl ?_
          exact K737 (0 : Int32) (Eq.trans (if_pos q713_44) (Eq.trans (if_neg q718_45) (if_pos q729_46)))
        · skip
          refine w_iconst (pc' := 733) (x := (1 : Int32)) C at_732 rfl rfl ?_
          refine w_goto (pc' := 737) C at_733 (by decide) (by decide) ?_
          exact K737 (1 : Int32) (Eq.trans (if_pos q713_44) (Eq.trans (if_neg q718_45) (if_neg q729_46)))
  have K687 : ∀ vb : Int32, (afS (seS (seS (seS (seS (seS (seS (seS (0 : Int32) t0) t1) t2) t3) t4) t5) t6) (afS (seS (seS (seS (seS (seS (seS (0 : Int32) t0) t1) t2) t3) t4) t5) (afS (seS (seS (seS (seS (seS (0 : Int32) t0) t1) t2) t3) t4) (afS (seS (seS (seS (seS (0 : Int32) t0) t1) t2) t3) (afS (seS (seS (seS (0 : Int32) t0) t1) t2) (afS (seS (seS (0 : Int32) t0) t1) (afS (seS (0 : Int32) t0) (0 : Int32) t0) t1) t2) t3) t4) t5) t6) = vb → Wp p l e room_1 (s.setVm vm16) m #[.long x0, .long x1, .long x2, .long x3] below meth c n0 (EH Z EL 260 s 2 12 2) (fun v h => v = some (.int 1)) h20 (2 + 2 * u16) (12 + 260 * u16) (mkF m 687 #[.val (.long x0), .second, .val (.long x1), .second, .val (.long x2), .second, .val (.long x3), .second, .val (.ref a1), .val (.ref a18), .val (.int (validF (acc [t0, t1, t2, t3, t4, t5, t6, t7] 0 0 0 0).1 (acc [t0, t1, t2, t3, t4, t5, t6, t7] 0 0 0 0).2.1 (acc [t0, t1, t2, t3, t4, t5, t6, t7] 0 0 0 0).2.2.1 (acc [t0, t1, t2, t3, t4, t5, t6, t7] 0 0 0 0).2.2.2)), .val (.int (abF t0 t1 t2 t3 t4 t5 t6 t7)), .val (.int ((((((((nonSp t0) + (nonSp t1)) + (nonSp t2)) + (nonSp t3)) + (nonSp t4)) + (nonSp t5)) + (nonSp t6)) + (nonSp t7))), .val (.int ((((((((eqF t0) + (eqF t1)) + (eqF t2)) + (eqF t3)) + (eqF t4)) + (eqF t5)) + (eqF t6)) + (eqF t7))), .val (.int (seS (seS (seS (seS (seS (seS (seS (0 : Int32) t0) t1) t2) t3) t4) t5) t6)), .val (.int (afS (seS (seS (seS (seS (seS (seS (0 : Int32) t0) t1) t2) t3) t4) t5) (afS (seS (seS (seS (seS (seS (0 : Int32) t0) t1) t2) t3) t4) (afS (seS (seS (seS (seS (0 : Int32) t0) t1) t2) t3) (afS (seS (seS (seS (0 : Int32) t0) t1) t2) (afS (seS (seS (0 : Int32) t0) t1) (afS (seS (0 : Int32) t0) (0 : Int32) t0) t1) t2) t3) t4) t5)), .unset, .unset, .unset] [.int vb]) := by
    intro vb hvb; subst hvb
    refine w_istore (pc' := 689) (Ls' := #[.val (.long x0), .second, .val (.long x1), .second, .val (.long x2), .second, .val (.long x3), .second, .val (.ref a1), .val (.ref a18), .val (.int (validF (acc [t0, t1, t2, t3, t4, t5, t6, t7] 0 0 0 0).1 (acc [t0, t1, t2, t3, t4, t5, t6, t7] 0 0 0 0).2.1 (acc [t0, t1, t2, t3, t4, t5, t6, t7] 0 0 0 0).2.2.1 (acc [t0, t1, t2, t3, t4, t5, t6, t7] 0 0 0 0).2.2.2)), .val (.int (abF t0 t1 t2 t3 t4 t5 t6 t7)), .val (.int ((((((((nonSp t0) + (nonSp t1)) + (nonSp t2)) + (nonSp t3)) + (nonSp t4)) + (nonSp t5)) + (nonSp t6)) + (nonSp t7))), .val (.int ((((((((eqF t0) + (eqF t1)) + (eqF t2)) + (eqF t3)) + (eqF t4)) + (eqF t5)) + (eqF t6)) + (eqF t7))), .val (.int (seS (seS (seS (seS (seS (seS (seS (0 : Int32) t0) t1) t2) t3) t4) t5) t6)), .val (.int (afS (seS (seS (seS (seS (seS (seS (seS (0 : Int32) t0) t1) t2) t3) t4) t5) t6) (afS (seS (seS (seS (seS (seS (seS (0 : Int32) t0) t1) t2) t3) t4) t5) (afS (seS (seS (seS (seS (seS (0 : Int32) t0) t1) t2) t3) t4) (afS (seS (seS (seS (seS (0 : Int32) t0) t1) t2) t3) (afS (seS (seS (seS (0 : Int32) t0) t1) t2) (afS (seS (seS (0 : Int32) t0) t1) (afS (seS (0 : Int32) t0) (0 : Int32) t0) t1) t2) t3) t4) t5) t6)), .unset, .unset, .unset]) C at_687 rfl rfl ?_
    refine w_iload (pc' := 691) C at_689 rfl rfl ?_
    refine w_if_ne (pcT := 704) (pcF := 694) C at_691 (by decide) (by decide) rfl (fun q691_42 => ?_) (fun q691_42 => ?_)
    · skip
      refine w_iconst (pc' := 705) (x := (1 : Int32)) C at_704 rfl rfl ?_
      refine w_goto (pc' := 709) C at_705 (by decide) (by decide) ?_
      exact K709 (1 : Int32) (if_neg q691_42)
    · skip
      refine w_aload (pc' := 696) C at_694 rfl rfl rfl ?_
      refine w_bipush (pc' := 698) (x := (7 : Int32)) C at_696 rfl rfl ?_
      refine wA_caload (pc' := 699) (v := .int t7) C at_698 rfl O_a1 (by decide) rfl ?_
      refine w_bipush (pc' := 701) (x := (61 : Int32)) C at_699 rfl rfl ?_
      refine w_icmp_ne (pcT := 708) (pcF := 704) C at_701 (by decide) (by decide) rfl (fun q701_43 => ?_) (fun q701_43 => ?_)
      · skip
        refine w_iconst (pc' := 709) (x := (0 : Int32)) C at_708 rfl rfl ?_
        exact K709 (0 : Int32) (Eq.trans (if_pos q691_42) (if_neg q701_43))
      · skip
        refine w_iconst (pc' := 705) (x := (1 : Int32)) C at_704 rfl rfl ?_
        refine w_goto (pc' := 709) C at_705 (by decide) (by decide) ?_
        exact K709 (1 : Int32) (Eq.trans (if_pos q691_42) (if_pos q701_43))
  have K659 : ∀ vb : Int32, (seS (seS (seS (seS (seS (seS (seS (0 : Int32) t0) t1) t2) t3) t4) t5) t6) = vb → Wp p l e room_1 (s.setVm vm16) m #[.long x0, .long x1, .long x2, .long x3] below meth c n0 (EH Z EL 260 s 2 12 2) (fun v h => v = some (.int 1)) h20 (2 + 2 * u16) (12 + 260 * u16) (mkF m 659 #[.val (.long x0), .second, .val (.long x1), .second, .val (.long x2), .second, .val (.long x3), .second, .val (.ref a1), .val (.ref a18), .val (.int (validF (acc [t0, t1, t2, t3, t4, t5, t6, t7] 0 0 0 0).1 (acc [t0, t1, t2, t3, t4, t5, t6, t7] 0 0 0 0).2.1 (acc [t0, t1, t2, t3, t4, t5, t6, t7] 0 0 0 0).2.2.1 (acc [t0, t1, t2, t3, t4, t5, t6, t7] 0 0 0 0).2.2.2)), .val (.int (abF t0 t1 t2 t3 t4 t5 t6 t7)), .val (.int ((((((((nonSp t0) + (nonSp t1)) + (nonSp t2)) + (nonSp t3)) + (nonSp t4)) + (nonSp t5)) + (nonSp t6)) + (nonSp t7))), .val (.int ((((((((eqF t0) + (eqF t1)) + (eqF t2)) + (eqF t3)) + (eqF t4)) + (eqF t5)) + (eqF t6)) + (eqF t7))), .val (.int (seS (seS (seS (seS (seS (seS (0 : Int32) t0) t1) t2) t3) t4) t5)), .val (.int (afS (seS (seS (seS (seS (seS (seS (0 : Int32) t0) t1) t2) t3) t4) t5) (afS (seS (seS (seS (seS (seS (0 : Int32) t0) t1) t2) t3) t4) (afS (seS (seS (seS (seS (0 : Int32) t0) t1) t2) t3) (afS (seS (seS (seS (0 : Int32) t0) t1) t2) (afS (seS (seS (0 : Int32) t0) t1) (afS (seS (0 : Int32) t0) (0 : Int32) t0) t1) t2) t3) t4) t5)), .unset, .unset, .unset] [.int vb]) := by
    intro vb hvb; subst hvb
    refine w_istore (pc' := 661) (Ls' := #[.val (.long x0), .second, .val (.long x1), .second, .val (.long x2), .second, .val (.long x3), .second, .val (.ref a1), .val (.ref a18), .val (.int (validF (acc [t0, t1, t2, t3, t4, t5, t6, t7] 0 0 0 0).1 (acc [t0, t1, t2, t3, t4, t5, t6, t7] 0 0 0 0).2.1 (acc [t0, t1, t2, t3, t4, t5, t6, t7] 0 0 0 0).2.2.1 (acc [t0, t1, t2, t3, t4, t5, t6, t7] 0 0 0 0).2.2.2)), .val (.int (abF t0 t1 t2 t3 t4 t5 t6 t7)), .val (.int ((((((((nonSp t0) + (nonSp t1)) + (nonSp t2)) + (nonSp t3)) + (nonSp t4)) + (nonSp t5)) + (nonSp t6)) + (nonSp t7))), .val (.int ((((((((eqF t0) + (eqF t1)) + (eqF t2)) + (eqF t3)) + (eqF t4)) + (eqF t5)) + (eqF t6)) + (eqF t7))), .val (.int (seS (seS (seS (seS (seS (seS (seS (0 : Int32) t0) t1) t2) t3) t4) t5) t6)), .val (.int (afS (seS (seS (seS (seS (seS (seS (0 : Int32) t0) t1) t2) t3) t4) t5) (afS (seS (seS (seS (seS (seS (0 : Int32) t0) t1) t2) t3) t4) (afS (seS (seS (seS (seS (0 : Int32) t0) t1) t2) t3) (afS (seS (seS (seS (0 : Int32) t0) t1) t2) (afS (seS (seS (0 : Int32) t0) t1) (afS (seS (0 : Int32) t0) (0 : Int32) t0) t1) t2) t3) t4) t5)), .unset, .unset, .unset]) C at_659 rfl rfl ?_
    refine w_iload (pc' := 663) C at_661 rfl rfl ?_
    refine w_if_ne (pcT := 682) (pcF := 666) C at_663 (by decide) (by decide) rfl (fun q663_39 => ?_) (fun q663_39 => ?_)
    · skip
      refine w_iconst (pc' := 683) (x := (1 : Int32)) C at_682 rfl rfl ?_
      refine w_goto (pc' := 687) C at_683 (by decide) (by decide) ?_
      exact K687 (1 : Int32) (if_neg q663_39)
    · skip
      refine w_iload (pc' := 668) C at_666 rfl rfl ?_
      refine w_if_eq (pcT := 686) (pcF := 671) C at_668 (by decide) (by decide) rfl (fun q668_40 => ?_) (fun q668_40 => ?_)
      · skip
        refine w_iconst (pc' := 687) (x := (0 : Int32)) C at_686 rfl rfl ?_
        exact K687 (0 : Int32) (Eq.trans (if_pos q663_39) (if_pos q668_40))
      · skip
        refine w_aload (pc' := 673) C at_671 rfl rfl rfl ?_
        refine w_bipush (pc' := 675) (x := (6 : Int32)) C at_673 rfl rfl ?_
        refine wA_caload (pc' := 676) (v := .int t6) C at_675 rfl O_a1 (by decide) rfl ?_
        refine w_callS (pc' := 679) (argsL := [.int t6]) (st := []) (W := 0) (ce' := (2 + 2 * u16)) (sl' := (12 + 260 * u16)) C (tw hw 76 rfl) (tw hw 77 rfl) (tw hw 3 rfl) (tw hw 78 rfl) (by decide) at_676 rfl rfl (by decide) (by decide) (Nat.le_of_eq rfl) (ad rfl) (ad rfl) (leA HB (by decide)) (leM HB (by decide)) rfl (lenOf pd_5 rfl) (ct_valF hw h20 n0 t6) (kp ?_)
        refine w_if_lt (pcT := 686) (pcF := 682) C at_679 (by decide) (by decide) rfl (fun q679_41 => ?_) (fun q679_41 => ?_)
        · skip
          refine w_iconst (pc' := 687) (x := (0 : Int32)) C at_686 rfl rfl ?_
          exact K687 (0 : Int32) (Eq.trans (if_pos q663_39) (Eq.trans (if_neg q668_40) (if_pos q679_41)))
        · skip
          refine w_iconst (pc' := 683) (x := (1 : Int32)) C at_682 rfl rfl ?_
          refine w_goto (pc' := 687) C at_683 (by decide) (by decide) ?_
          exact K687 (1 : Int32) (Eq.trans (if_pos q663_39) (Eq.trans (if_neg q668_40) (if_neg q679_41)))
  have K637 : ∀ vb : Int32, (afS (seS (seS (seS (seS (seS (seS (0 : Int32) t0) t1) t2) t3) t4) t5) (afS (seS (seS (seS (seS (seS (0 : Int32) t0) t1) t2) t3) t4) (afS (seS (seS (seS (seS (0 : Int32) t0) t1) t2) t3) (afS (seS (seS (seS (0 : Int32) t0) t1) t2) (afS (seS (seS (0 : Int32) t0) t1) (afS (seS (0 : Int32) t0) (0 : Int32) t0) t1) t2) t3) t4) t5) = vb → Wp p l e room_1 (s.setVm vm16) m #[.long x0, .long x1, .long x2, .long x3] below meth c n0 (EH Z EL 260 s 2 12 2) (fun v h => v = some (.int 1)) h20 (2 + 2 * u16) (12 + 260 * u16) (mkF m 637 #[.val (.long x0), .second, .val (.long x1), .second, .val (.long x2), .second, .val (.long x3), .second, .val (.ref a1), .val (.ref a18), .val (.int (validF (acc [t0, t1, t2, t3, t4, t5, t6, t7] 0 0 0 0).1 (acc [t0, t1, t2, t3, t4, t5, t6, t7] 0 0 0 0).2.1 (acc [t0, t1, t2, t3, t4, t5, t6, t7] 0 0 0 0).2.2.1 (acc [t0, t1, t2, t3, t4, t5, t6, t7] 0 0 0 0).2.2.2)), .val (.int (abF t0 t1 t2 t3 t4 t5 t6 t7)), .val (.int ((((((((nonSp t0) + (nonSp t1)) + (nonSp t2)) + (nonSp t3)) + (nonSp t4)) + (nonSp t5)) + (nonSp t6)) + (nonSp t7))), .val (.int ((((((((eqF t0) + (eqF t1)) + (eqF t2)) + (eqF t3)) + (eqF t4)) + (eqF t5)) + (eqF t6)) + (eqF t7))), .val (.int (seS (seS (seS (seS (seS (seS (0 : Int32) t0) t1) t2) t3) t4) t5)), .val (.int (afS (seS (seS (seS (seS (seS (0 : Int32) t0) t1) t2) t3) t4) (afS (seS (seS (seS (seS (0 : Int32) t0) t1) t2) t3) (afS (seS (seS (seS (0 : Int32) t0) t1) t2) (afS (seS (seS (0 : Int32) t0) t1) (afS (seS (0 : Int32) t0) (0 : Int32) t0) t1) t2) t3) t4)), .unset, .unset, .unset] [.int vb]) := by
    intro vb hvb; subst hvb
    refine w_istore (pc' := 639) (Ls' := #[.val (.long x0), .second, .val (.long x1), .second, .val (.long x2), .second, .val (.long x3), .second, .val (.ref a1), .val (.ref a18), .val (.int (validF (acc [t0, t1, t2, t3, t4, t5, t6, t7] 0 0 0 0).1 (acc [t0, t1, t2, t3, t4, t5, t6, t7] 0 0 0 0).2.1 (acc [t0, t1, t2, t3, t4, t5, t6, t7] 0 0 0 0).2.2.1 (acc [t0, t1, t2, t3, t4, t5, t6, t7] 0 0 0 0).2.2.2)), .val (.int (abF t0 t1 t2 t3 t4 t5 t6 t7)), .val (.int ((((((((nonSp t0) + (nonSp t1)) + (nonSp t2)) + (nonSp t3)) + (nonSp t4)) + (nonSp t5)) + (nonSp t6)) + (nonSp t7))), .val (.int ((((((((eqF t0) + (eqF t1)) + (eqF t2)) + (eqF t3)) + (eqF t4)) + (eqF t5)) + (eqF t6)) + (eqF t7))), .val (.int (seS (seS (seS (seS (seS (seS (0 : Int32) t0) t1) t2) t3) t4) t5)), .val (.int (afS (seS (seS (seS (seS (seS (seS (0 : Int32) t0) t1) t2) t3) t4) t5) (afS (seS (seS (seS (seS (seS (0 : Int32) t0) t1) t2) t3) t4) (afS (seS (seS (seS (seS (0 : Int32) t0) t1) t2) t3) (afS (seS (seS (seS (0 : Int32) t0) t1) t2) (afS (seS (seS (0 : Int32) t0) t1) (afS (seS (0 : Int32) t0) (0 : Int32) t0) t1) t2) t3) t4) t5)), .unset, .unset, .unset]) C at_637 rfl rfl ?_
    refine w_iload (pc' := 641) C at_639 rfl rfl ?_
    refine w_if_ne (pcT := 654) (pcF := 644) C at_641 (by decide) (by decide) rfl (fun q641_37 => ?_) (fun q641_37 => ?_)
    · skip
      refine w_iconst (pc' := 655) (x := (1 : Int32)) C at_654 rfl rfl ?_
      refine w_goto (pc' := 659) C at_655 (by decide) (by decide) ?_
      exact K659 (1 : Int32) (if_neg q641_37)
    · skip
      refine w_aload (pc' := 646) C at_644 rfl rfl rfl ?_
      refine w_bipush (pc' := 648) (x := (6 : Int32)) C at_646 rfl rfl ?_
      refine wA_caload (pc' := 649) (v := .int t6) C at_648 rfl O_a1 (by decide) rfl ?_
      refine w_bipush (pc' := 651) (x := (61 : Int32)) C at_649 rfl rfl ?_
      refine w_icmp_ne (pcT := 658) (pcF := 654) C at_651 (by decide) (by decide) rfl (fun q651_38 => ?_) (fun q651_38 => ?_)
      · skip
        refine w_iconst (pc' := 659) (x := (0 : Int32)) C at_658 rfl rfl ?_
        exact K659 (0 : Int32) (Eq.trans (if_pos q641_37) (if_neg q651_38))
      · skip
        refine w_iconst (pc' := 655) (x := (1 : Int32)) C at_654 rfl rfl ?_
        refine w_goto (pc' := 659) C at_655 (by decide) (by decide) ?_
        exact K659 (1 : Int32) (Eq.trans (if_pos q641_37) (if_pos q651_38))
  have K610 : ∀ vb : Int32, (seS (seS (seS (seS (seS (seS (0 : Int32) t0) t1) t2) t3) t4) t5) = vb → Wp p l e room_1 (s.setVm vm16) m #[.long x0, .long x1, .long x2, .long x3] below meth c n0 (EH Z EL 260 s 2 12 2) (fun v h => v = some (.int 1)) h20 (2 + 2 * u16) (12 + 260 * u16) (mkF m 610 #[.val (.long x0), .second, .val (.long x1), .second, .val (.long x2), .second, .val (.long x3), .second, .val (.ref a1), .val (.ref a18), .val (.int (validF (acc [t0, t1, t2, t3, t4, t5, t6, t7] 0 0 0 0).1 (acc [t0, t1, t2, t3, t4, t5, t6, t7] 0 0 0 0).2.1 (acc [t0, t1, t2, t3, t4, t5, t6, t7] 0 0 0 0).2.2.1 (acc [t0, t1, t2, t3, t4, t5, t6, t7] 0 0 0 0).2.2.2)), .val (.int (abF t0 t1 t2 t3 t4 t5 t6 t7)), .val (.int ((((((((nonSp t0) + (nonSp t1)) + (nonSp t2)) + (nonSp t3)) + (nonSp t4)) + (nonSp t5)) + (nonSp t6)) + (nonSp t7))), .val (.int ((((((((eqF t0) + (eqF t1)) + (eqF t2)) + (eqF t3)) + (eqF t4)) + (eqF t5)) + (eqF t6)) + (eqF t7))), .val (.int (seS (seS (seS (seS (seS (0 : Int32) t0) t1) t2) t3) t4)), .val (.int (afS (seS (seS (seS (seS (seS (0 : Int32) t0) t1) t2) t3) t4) (afS (seS (seS (seS (seS (0 : Int32) t0) t1) t2) t3) (afS (seS (seS (seS (0 : Int32) t0) t1) t2) (afS (seS (seS (0 : Int32) t0) t1) (afS (seS (0 : Int32) t0) (0 : Int32) t0) t1) t2) t3) t4)), .unset, .unset, .unset] [.int vb]) := by
    intro vb hvb; subst hvb
    refine w_istore (pc' := 612) (Ls' := #[.val (.long x0), .second, .val (.long x1), .second, .val (.long x2), .second, .val (.long x3), .second, .val (.ref a1), .val (.ref a18), .val (.int (validF (acc [t0, t1, t2, t3, t4, t5, t6, t7] 0 0 0 0).1 (acc [t0, t1, t2, t3, t4, t5, t6, t7] 0 0 0 0).2.1 (acc [t0, t1, t2, t3, t4, t5, t6, t7] 0 0 0 0).2.2.1 (acc [t0, t1, t2, t3, t4, t5, t6, t7] 0 0 0 0).2.2.2)), .val (.int (abF t0 t1 t2 t3 t4 t5 t6 t7)), .val (.int ((((((((nonSp t0) + (nonSp t1)) + (nonSp t2)) + (nonSp t3)) + (nonSp t4)) + (nonSp t5)) + (nonSp t6)) + (nonSp t7))), .val (.int ((((((((eqF t0) + (eqF t1)) + (eqF t2)) + (eqF t3)) + (eqF t4)) + (eqF t5)) + (eqF t6)) + (eqF t7))), .val (.int (seS (seS (seS (seS (seS (seS (0 : Int32) t0) t1) t2) t3) t4) t5)), .val (.int (afS (seS (seS (seS (seS (seS (0 : Int32) t0) t1) t2) t3) t4) (afS (seS (seS (seS (seS (0 : Int32) t0) t1) t2) t3) (afS (seS (seS (seS (0 : Int32) t0) t1) t2) (afS (seS (seS (0 : Int32) t0) t1) (afS (seS (0 : Int32) t0) (0 : Int32) t0) t1) t2) t3) t4)), .unset, .unset, .unset]) C at_610 rfl rfl ?_
    refine w_iload (pc' := 614) C at_612 rfl rfl ?_
    refine w_if_ne (pcT := 632) (pcF := 617) C at_614 (by decide) (by decide) rfl (fun q614_34 => ?_) (fun q614_34 => ?_)
    · skip
      refine w_iconst (pc' := 633) (x := (1 : Int32)) C at_632 rfl rfl ?_
      refine w_goto (pc' := 637) C at_633 (by decide) (by decide) ?_
      exact K637 (1 : Int32) (if_neg q614_34)
    · skip
      refine w_iload (pc' := 619) C at_617 rfl rfl ?_
      refine w_if_eq (pcT := 636) (pcF := 622) C at_619 (by decide) (by decide) rfl (fun q619_35 => ?_) (fun q619_35 => ?_)
      · skip
        refine w_iconst (pc' := 637) (x := (0 : Int32)) C at_636 rfl rfl ?_
        exact K637 (0 : Int32) (Eq.trans (if_pos q614_34) (if_pos q619_35))
      · skip
        refine w_aload (pc' := 624) C at_622 rfl rfl rfl ?_
        refine w_iconst (pc' := 625) (x := (5 : Int32)) C at_624 rfl rfl ?_
        refine wA_caload (pc' := 626) (v := .int t5) C at_625 rfl O_a1 (by decide) rfl ?_
        refine w_callS (pc' := 629) (argsL := [.int t5]) (st := []) (W := 0) (ce' := (2 + 2 * u16)) (sl' := (12 + 260 * u16)) C (tw hw 76 rfl) (tw hw 77 rfl) (tw hw 3 rfl) (tw hw 78 rfl) (by decide) at_626 rfl rfl (by decide) (by decide) (Nat.le_of_eq rfl) (ad rfl) (ad rfl) (leA HB (by decide)) (leM HB (by decide)) rfl (lenOf pd_5 rfl) (ct_valF hw h20 n0 t5) (kp ?_)
        refine w_if_lt (pcT := 636) (pcF := 632) C at_629 (by decide) (by decide) rfl (fun q629_36 => ?_) (fun q629_36 => ?_)
        · skip
          refine w_iconst (pc' := 637) (x := (0 : Int32)) C at_636 rfl rfl ?_
          exact K637 (0 : Int32) (Eq.trans (if_pos q614_34) (Eq.trans (if_neg q619_35) (if_pos q629_36)))
        · skip
          refine w_iconst (pc' := 633) (x := (1 : Int32)) C at_632 rfl rfl ?_
          refine w_goto (pc' := 637) C at_633 (by decide) (by decide) ?_
          exact K637 (1 : Int32) (Eq.trans (if_pos q614_34) (Eq.trans (if_neg q619_35) (if_neg q629_36)))
  have K589 : ∀ vb : Int32, (afS (seS (seS (seS (seS (seS (0 : Int32) t0) t1) t2) t3) t4) (afS (seS (seS (seS (seS (0 : Int32) t0) t1) t2) t3) (afS (seS (seS (seS (0 : Int32) t0) t1) t2) (afS (seS (seS (0 : Int32) t0) t1) (afS (seS (0 : Int32) t0) (0 : Int32) t0) t1) t2) t3) t4) = vb → Wp p l e room_1 (s.setVm vm16) m #[.long x0, .long x1, .long x2, .long x3] below meth c n0 (EH Z EL 260 s 2 12 2) (fun v h => v = some (.int 1)) h20 (2 + 2 * u16) (12 + 260 * u16) (mkF m 589 #[.val (.long x0), .second, .val (.long x1), .second, .val (.long x2), .second, .val (.long x3), .second, .val (.ref a1), .val (.ref a18), .val (.int (validF (acc [t0, t1, t2, t3, t4, t5, t6, t7] 0 0 0 0).1 (acc [t0, t1, t2, t3, t4, t5, t6, t7] 0 0 0 0).2.1 (acc [t0, t1, t2, t3, t4, t5, t6, t7] 0 0 0 0).2.2.1 (acc [t0, t1, t2, t3, t4, t5, t6, t7] 0 0 0 0).2.2.2)), .val (.int (abF t0 t1 t2 t3 t4 t5 t6 t7)), .val (.int ((((((((nonSp t0) + (nonSp t1)) + (nonSp t2)) + (nonSp t3)) + (nonSp t4)) + (nonSp t5)) + (nonSp t6)) + (nonSp t7))), .val (.int ((((((((eqF t0) + (eqF t1)) + (eqF t2)) + (eqF t3)) + (eqF t4)) + (eqF t5)) + (eqF t6)) + (eqF t7))), .val (.int (seS (seS (seS (seS (seS (0 : Int32) t0) t1) t2) t3) t4)), .val (.int (afS (seS (seS (seS (seS (0 : Int32) t0) t1) t2) t3) (afS (seS (seS (seS (0 : Int32) t0) t1) t2) (afS (seS (seS (0 : Int32) t0) t1) (afS (seS (0 : Int32) t0) (0 : Int32) t0) t1) t2) t3)), .unset, .unset, .unset] [.int vb]) := by
    intro vb hvb; subst hvb
    refine w_istore (pc' := 591) (Ls' := #[.val (.long x0), .second, .val (.long x1), .second, .val (.long x2), .second, .val (.long x3), .second, .val (.ref a1), .val (.ref a18), .val (.int (validF (acc [t0, t1, t2, t3, t4, t5, t6, t7] 0 0 0 0).1 (acc [t0, t1, t2, t3, t4, t5, t6, t7] 0 0 0 0).2.1 (acc [t0, t1, t2, t3, t4, t5, t6, t7] 0 0 0 0).2.2.1 (acc [t0, t1, t2, t3, t4, t5, t6, t7] 0 0 0 0).2.2.2)), .val (.int (abF t0 t1 t2 t3 t4 t5 t6 t7)), .val (.int ((((((((nonSp t0) + (nonSp t1)) + (nonSp t2)) + (nonSp t3)) + (nonSp t4)) + (nonSp t5)) + (nonSp t6)) + (nonSp t7))), .val (.int ((((((((eqF t0) + (eqF t1)) + (eqF t2)) + (eqF t3)) + (eqF t4)) + (eqF t5)) + (eqF t6)) + (eqF t7))), .val (.int (seS (seS (seS (seS (seS (0 : Int32) t0) t1) t2) t3) t4)), .val (.int (afS (seS (seS (seS (seS (seS (0 : Int32) t0) t1) t2) t3) t4) (afS (seS (seS (seS (seS (0 : Int32) t0) t1) t2) t3) (afS (seS (seS (seS (0 : Int32) t0) t1) t2) (afS (seS (seS (0 : Int32) t0) t1) (afS (seS (0 : Int32) t0) (0 : Int32) t0) t1) t2) t3) t4)), .unset, .unset, .unset]) C at_589 rfl rfl ?_
    refine w_iload (pc' := 593) C at_591 rfl rfl ?_
    refine w_if_ne (pcT := 605) (pcF := 596) C at_593 (by decide) (by decide) rfl (fun q593_32 => ?_) (fun q593_32 => ?_)
    · skip
      refine w_iconst (pc' := 606) (x := (1 : Int32)) C at_605 rfl rfl ?_
      refine w_goto (pc' := 610) C at_606 (by decide) (by decide) ?_
      exact K610 (1 : Int32) (if_neg q593_32)
    · skip
      refine w_aload (pc' := 598) C at_596 rfl rfl rfl ?_
      refine w_iconst (pc' := 599) (x := (5 : Int32)) C at_598 rfl rfl ?_
      refine wA_caload (pc' := 600) (v := .int t5) C at_599 rfl O_a1 (by decide) rfl ?_
      refine w_bipush (pc' := 602) (x := (61 : Int32)) C at_600 rfl rfl ?_
      refine w_icmp_ne (pcT := 609) (pcF := 605) C at_602 (by decide) (by decide) rfl (fun q602_33 => ?_) (fun q602_33 => ?_)
      · skip
        refine w_iconst (pc' := 610) (x := (0 : Int32)) C at_609 rfl rfl ?_
        exact K610 (0 : Int32) (Eq.trans (if_pos q593_32) (if_neg q602_33))
      · skip
        refine w_iconst (pc' := 606) (x := (1 : Int32)) C at_605 rfl rfl ?_
        refine w_goto (pc' := 610) C at_606 (by decide) (by decide) ?_
        exact K610 (1 : Int32) (Eq.trans (if_pos q593_32) (if_pos q602_33))
  have K562 : ∀ vb : Int32, (seS (seS (seS (seS (seS (0 : Int32) t0) t1) t2) t3) t4) = vb → Wp p l e room_1 (s.setVm vm16) m #[.long x0, .long x1, .long x2, .long x3] below meth c n0 (EH Z EL 260 s 2 12 2) (fun v h => v = some (.int 1)) h20 (2 + 2 * u16) (12 + 260 * u16) (mkF m 562 #[.val (.long x0), .second, .val (.long x1), .second, .val (.long x2), .second, .val (.long x3), .second, .val (.ref a1), .val (.ref a18), .val (.int (validF (acc [t0, t1, t2, t3, t4, t5, t6, t7] 0 0 0 0).1 (acc [t0, t1, t2, t3, t4, t5, t6, t7] 0 0 0 0).2.1 (acc [t0, t1, t2, t3, t4, t5, t6, t7] 0 0 0 0).2.2.1 (acc [t0, t1, t2, t3, t4, t5, t6, t7] 0 0 0 0).2.2.2)), .val (.int (abF t0 t1 t2 t3 t4 t5 t6 t7)), .val (.int ((((((((nonSp t0) + (nonSp t1)) + (nonSp t2)) + (nonSp t3)) + (nonSp t4)) + (nonSp t5)) + (nonSp t6)) + (nonSp t7))), .val (.int ((((((((eqF t0) + (eqF t1)) + (eqF t2)) + (eqF t3)) + (eqF t4)) + (eqF t5)) + (eqF t6)) + (eqF t7))), .val (.int (seS (seS (seS (seS (0 : Int32) t0) t1) t2) t3)), .val (.int (afS (seS (seS (seS (seS (0 : Int32) t0) t1) t2) t3) (afS (seS (seS (seS (0 : Int32) t0) t1) t2) (afS (seS (seS (0 : Int32) t0) t1) (afS (seS (0 : Int32) t0) (0 : Int32) t0) t1) t2) t3)), .unset, .unset, .unset] [.int vb]) := by
    intro vb hvb; subst hvb
    refine w_istore (pc' := 564) (Ls' := #[.val (.long x0), .second, .val (.long x1), .second, .val (.long x2), .second, .val (.long x3), .second, .val (.ref a1), .val (.ref a18), .val (.int (validF (acc [t0, t1, t2, t3, t4, t5, t6, t7] 0 0 0 0).1 (acc [t0, t1, t2, t3, t4, t5, t6, t7] 0 0 0 0).2.1 (acc [t0, t1, t2, t3, t4, t5, t6, t7] 0 0 0 0).2.2.1 (acc [t0, t1, t2, t3, t4, t5, t6, t7] 0 0 0 0).2.2.2)), .val (.int (abF t0 t1 t2 t3 t4 t5 t6 t7)), .val (.int ((((((((nonSp t0) + (nonSp t1)) + (nonSp t2)) + (nonSp t3)) + (nonSp t4)) + (nonSp t5)) + (nonSp t6)) + (nonSp t7))), .val (.int ((((((((eqF t0) + (eqF t1)) + (eqF t2)) + (eqF t3)) + (eqF t4)) + (eqF t5)) + (eqF t6)) + (eqF t7))), .val (.int (seS (seS (seS (seS (seS (0 : Int32) t0) t1) t2) t3) t4)), .val (.int (afS (seS (seS (seS (seS (0 : Int32) t0) t1) t2) t3) (afS (seS (seS (seS (0 : Int32) t0) t1) t2) (afS (seS (seS (0 : Int32) t0) t1) (afS (seS (0 : Int32) t0) (0 : Int32) t0) t1) t2) t3)), .unset, .unset, .unset]) C at_562 rfl rfl ?_
    refine w_iload (pc' := 566) C at_564 rfl rfl ?_
    refine w_if_ne (pcT := 584) (pcF := 569) C at_566 (by decide) (by decide) rfl (fun q566_29 => ?_) (fun q566_29 => ?_)
    · skip
      refine w_iconst (pc' := 585) (x := (1 : Int32)) C at_584 rfl rfl ?_
      refine w_goto (pc' := 589) C at_585 (by decide) (by decide) ?_
      exact K589 (1 : Int32) (if_neg q566_29)
    · skip
      refine w_iload (pc' := 571) C at_569 rfl rfl ?_
      refine w_if_eq (pcT := 588) (pcF := 574) C at_571 (by decide) (by decide) rfl (fun q571_30 => ?_) (fun q571_30 => ?_)
      · skip
        refine w_iconst (pc' := 589) (x := (0 : Int32)) C at_588 rfl rfl ?_
        exact K589 (0 : Int32) (Eq.trans (if_pos q566_29) (if_pos q571_30))
      · skip
        refine w_aload (pc' := 576) C at_574 rfl rfl rfl ?_
        refine w_iconst (pc' := 577) (x := (4 : Int32)) C at_576 rfl rfl ?_
        refine wA_caload (pc' := 578) (v := .int t4) C at_577 rfl O_a1 (by decide) rfl ?_
        refine w_callS (pc' := 581) (argsL := [.int t4]) (st := []) (W := 0) (ce' := (2 + 2 * u16)) (sl' := (12 + 260 * u16)) C (tw hw 76 rfl) (tw hw 77 rfl) (tw hw 3 rfl) (tw hw 78 rfl) (by decide) at_578 rfl rfl (by decide) (by decide) (Nat.le_of_eq rfl) (ad rfl) (ad rfl) (leA HB (by decide)) (leM HB (by decide)) rfl (lenOf pd_5 rfl) (ct_valF hw h20 n0 t4) (kp ?_)
        refine w_if_lt (pcT := 588) (pcF := 584) C at_581 (by decide) (by decide) rfl (fun q581_31 => ?_) (fun q581_31 => ?_)
        · skip
          refine w_iconst (pc' := 589) (x := (0 : Int32)) C at_588 rfl rfl ?_
          exact K589 (0 : Int32) (Eq.trans (if_pos q566_29) (Eq.trans (if_neg q571_30) (if_pos q581_31)))
        · skip
          refine w_iconst (pc' := 585) (x := (1 : Int32)) C at_584 rfl rfl ?_
          refine w_goto (pc' := 589) C at_585 (by decide) (by decide) ?_
          exact K589 (1 : Int32) (Eq.trans (if_pos q566_29) (Eq.trans (if_neg q571_30) (if_neg q581_31)))
  have K541 : ∀ vb : Int32, (afS (seS (seS (seS (seS (0 : Int32) t0) t1) t2) t3) (afS (seS (seS (seS (0 : Int32) t0) t1) t2) (afS (seS (seS (0 : Int32) t0) t1) (afS (seS (0 : Int32) t0) (0 : Int32) t0) t1) t2) t3) = vb → Wp p l e room_1 (s.setVm vm16) m #[.long x0, .long x1, .long x2, .long x3] below meth c n0 (EH Z EL 260 s 2 12 2) (fun v h => v = some (.int 1)) h20 (2 + 2 * u16) (12 + 260 * u16) (mkF m 541 #[.val (.long x0), .second, .val (.long x1), .second, .val (.long x2), .second, .val (.long x3), .second, .val (.ref a1), .val (.ref a18), .val (.int (validF (acc [t0, t1, t2, t3, t4, t5, t6, t7] 0 0 0 0).1 (acc [t0, t1, t2, t3, t4, t5, t6, t7] 0 0 0 0).2.1 (acc [t0, t1, t2, t3, t4, t5, t6, t7] 0 0 0 0).2.2.1 (acc [t0, t1, t2, t3, t4, t5, t6, t7] 0 0 0 0).2.2.2)), .val (.int (abF t0 t1 t2 t3 t4 t5 t6 t7)), .val (.int ((((((((nonSp t0) + (nonSp t1)) + (nonSp t2)) + (nonSp t3)) + (nonSp t4)) + (nonSp t5)) + (nonSp t6)) + (nonSp t7))), .val (.int ((((((((eqF t0) + (eqF t1)) + (eqF t2)) + (eqF t3)) + (eqF t4)) + (eqF t5)) + (eqF t6)) + (eqF t7))), .val (.int (seS (seS (seS (seS (0 : Int32) t0) t1) t2) t3)), .val (.int (afS (seS (seS (seS (0 : Int32) t0) t1) t2) (afS (seS (seS (0 : Int32) t0) t1) (afS (seS (0 : Int32) t0) (0 : Int32) t0) t1) t2)), .unset, .unset, .unset] [.int vb]) := by
    intro vb hvb; subst hvb
    refine w_istore (pc' := 543) (Ls' := #[.val (.long x0), .second, .val (.long x1), .second, .val (.long x2), .second, .val (.long x3), .second, .val (.ref a1), .val (.ref a18), .val (.int (validF (acc [t0, t1, t2, t3, t4, t5, t6, t7] 0 0 0 0).1 (acc [t0, t1, t2, t3, t4, t5, t6, t7] 0 0 0 0).2.1 (acc [t0, t1, t2, t3, t4, t5, t6, t7] 0 0 0 0).2.2.1 (acc [t0, t1, t2, t3, t4, t5, t6, t7] 0 0 0 0).2.2.2)), .val (.int (abF t0 t1 t2 t3 t4 t5 t6 t7)), .val (.int ((((((((nonSp t0) + (nonSp t1)) + (nonSp t2)) + (nonSp t3)) + (nonSp t4)) + (nonSp t5)) + (nonSp t6)) + (nonSp t7))), .val (.int ((((((((eqF t0) + (eqF t1)) + (eqF t2)) + (eqF t3)) + (eqF t4)) + (eqF t5)) + (eqF t6)) + (eqF t7))), .val (.int (seS (seS (seS (seS (0 : Int32) t0) t1) t2) t3)), .val (.int (afS (seS (seS (seS (seS (0 : Int32) t0) t1) t2) t3) (afS (seS (seS (seS (0 : Int32) t0) t1) t2) (afS (seS (seS (0 : Int32) t0) t1) (afS (seS (0 : Int32) t0) (0 : Int32) t0) t1) t2) t3)), .unset, .unset, .unset]) C at_541 rfl rfl ?_
    refine w_iload (pc' := 545) C at_543 rfl rfl ?_
    refine w_if_ne (pcT := 557) (pcF := 548) C at_545 (by decide) (by decide) rfl (fun q545_27 => ?_) (fun q545_27 => ?_)
    · skip
      refine w_iconst (pc' := 558) (x := (1 : Int32)) C at_557 rfl rfl ?_
      refine w_goto (pc' := 562) C at_558 (by decide) (by decide) ?_
      exact K562 (1 : Int32) (if_neg q545_27)
    · skip
      refine w_aload (pc' := 550) C at_548 rfl rfl rfl ?_
      refine w_iconst (pc' := 551) (x := (4 : Int32)) C at_550 rfl rfl ?_
      refine wA_caload (pc' := 552) (v := .int t4) C at_551 rfl O_a1 (by decide) rfl ?_
      refine w_bipush (pc' := 554) (x := (61 : Int32)) C at_552 rfl rfl ?_
      refine w_icmp_ne (pcT := 561) (pcF := 557) C at_554 (by decide) (by decide) rfl (fun q554_28 => ?_) (fun q554_28 => ?_)
      · skip
        refine w_iconst (pc' := 562) (x := (0 : Int32)) C at_561 rfl rfl ?_
        exact K562 (0 : Int32) (Eq.trans (if_pos q545_27) (if_neg q554_28))
      · skip
        refine w_iconst (pc' := 558) (x := (1 : Int32)) C at_557 rfl rfl ?_
        refine w_goto (pc' := 562) C at_558 (by decide) (by decide) ?_
        exact K562 (1 : Int32) (Eq.trans (if_pos q545_27) (if_pos q554_28))
  have K514 : ∀ vb : Int32, (seS (seS (seS (seS (0 : Int32) t0) t1) t2) t3) = vb → Wp p l e room_1 (s.setVm vm16) m #[.long x0, .long x1, .long x2, .long x3] below meth c n0 (EH Z EL 260 s 2 12 2) (fun v h => v = some (.int 1)) h20 (2 + 2 * u16) (12 + 260 * u16) (mkF m 514 #[.val (.long x0), .second, .val (.long x1), .second, .val (.long x2), .second, .val (.long x3), .second, .val (.ref a1), .val (.ref a18), .val (.int (validF (acc [t0, t1, t2, t3, t4, t5, t6, t7] 0 0 0 0).1 (acc [t0, t1, t2, t3, t4, t5, t6, t7] 0 0 0 0).2.1 (acc [t0, t1, t2, t3, t4, t5, t6, t7] 0 0 0 0).2.2.1 (acc [t0, t1, t2, t3, t4, t5, t6, t7] 0 0 0 0).2.2.2)), .val (.int (abF t0 t1 t2 t3 t4 t5 t6 t7)), .val (.int ((((((((nonSp t0) + (nonSp t1)) + (nonSp t2)) + (nonSp t3)) + (nonSp t4)) + (nonSp t5)) + (nonSp t6)) + (nonSp t7))), .val (.int ((((((((eqF t0) + (eqF t1)) + (eqF t2)) + (eqF t3)) + (eqF t4)) + (eqF t5)) + (eqF t6)) + (eqF t7))), .val (.int (seS (seS (seS (0 : Int32) t0) t1) t2)), .val (.int (afS (seS (seS (seS (0 : Int32) t0) t1) t2) (afS (seS (seS (0 : Int32) t0) t1) (afS (seS (0 : Int32) t0) (0 : Int32) t0) t1) t2)), .unset, .unset, .unset] [.int vb]) := by
    intro vb hvb; subst hvb
    refine w_istore (pc' := 516) (Ls' := #[.val (.long x0), .second, .val (.long x1), .second, .val (.long x2), .second, .val (.long x3), .second, .val (.ref a1), .val (.ref a18), .val (.int (validF (acc [t0, t1, t2, t3, t4, t5, t6, t7] 0 0 0 0).1 (acc [t0, t1, t2, t3, t4, t5, t6, t7] 0 0 0 0).2.1 (acc [t0, t1, t2, t3, t4, t5, t6, t7] 0 0 0 0).2.2.1 (acc [t0, t1, t2, t3, t4, t5, t6, t7] 0 0 0 0).2.2.2)), .val (.int (abF t0 t1 t2 t3 t4 t5 t6 t7)), .val (.int ((((((((nonSp t0) + (nonSp t1)) + (nonSp t2)) + (nonSp t3)) + (nonSp t4)) + (nonSp t5)) + (nonSp t6)) + (nonSp t7))), .val (.int ((((((((eqF t0) + (eqF t1)) + (eqF t2)) + (eqF t3)) + (eqF t4)) + (eqF t5)) + (eqF t6)) + (eqF t7))), .val (.int (seS (seS (seS (seS (0 : Int32) t0) t1) t2) t3)), .val (.int (afS (seS (seS (seS (0 : Int32) t0) t1) t2) (afS (seS (seS (0 : Int32) t0) t1) (afS (seS (0 : Int32) t0) (0 : Int32) t0) t1) t2)), .unset, .unset, .unset]) C at_514 rfl rfl ?_
    refine w_iload (pc' := 518) C at_516 rfl rfl ?_
    refine w_if_ne (pcT := 536) (pcF := 521) C at_518 (by decide) (by decide) rfl (fun q518_24 => ?_) (fun q518_24 => ?_)
    · skip
      refine w_iconst (pc' := 537) (x := (1 : Int32)) C at_536 rfl rfl ?_
      refine w_goto (pc' := 541) C at_537 (by decide) (by decide) ?_
      exact K541 (1 : Int32) (if_neg q518_24)
    · skip
      refine w_iload (pc' := 523) C at_521 rfl rfl ?_
      refine w_if_eq (pcT := 540) (pcF := 526) C at_523 (by decide) (by decide) rfl (fun q523_25 => ?_) (fun q523_25 => ?_)
      · skip
        refine w_iconst (pc' := 541) (x := (0 : Int32)) C at_540 rfl rfl ?_
        exact K541 (0 : Int32) (Eq.trans (if_pos q518_24) (if_pos q523_25))
      · skip
        refine w_aload (pc' := 528) C at_526 rfl rfl rfl ?_
        refine w_iconst (pc' := 529) (x := (3 : Int32)) C at_528 rfl rfl ?_
        refine wA_caload (pc' := 530) (v := .int t3) C at_529 rfl O_a1 (by decide) rfl ?_
        refine w_callS (pc' := 533) (argsL := [.int t3]) (st := []) (W := 0) (ce' := (2 + 2 * u16)) (sl' := (12 + 260 * u16)) C (tw hw 76 rfl) (tw hw 77 rfl) (tw hw 3 rfl) (tw hw 78 rfl) (by decide) at_530 rfl rfl (by decide) (by decide) (Nat.le_of_eq rfl) (ad rfl) (ad rfl) (leA HB (by decide)) (leM HB (by decide)) rfl (lenOf pd_5 rfl) (ct_valF hw h20 n0 t3) (kp ?_)
        refine w_if_lt (pcT := 540) (pcF := 536) C at_533 (by decide) (by decide) rfl (fun q533_26 => ?_) (fun q533_26 => ?_)
        · skip
          refine w_iconst (pc' := 541) (x := (0 : Int32)) C at_540 rfl rfl ?_
          exact K541 (0 : Int32) (Eq.trans (if_pos q518_24) (Eq.trans (if_neg q523_25) (if_pos q533_26)))
        · skip
          refine w_iconst (pc' := 537) (x := (1 : Int32)) C at_536 rfl rfl ?_
          refine w_goto (pc' := 541) C at_537 (by decide) (by decide) ?_
          exact K541 (1 : Int32) (Eq.trans (if_pos q518_24) (Eq.trans (if_neg q523_25) (if_neg q533_26)))
  have K493 : ∀ vb : Int32, (afS (seS (seS (seS (0 : Int32) t0) t1) t2) (afS (seS (seS (0 : Int32) t0) t1) (afS (seS (0 : Int32) t0) (0 : Int32) t0) t1) t2) = vb → Wp p l e room_1 (s.setVm vm16) m #[.long x0, .long x1, .long x2, .long x3] below meth c n0 (EH Z EL 260 s 2 12 2) (fun v h => v = some (.int 1)) h20 (2 + 2 * u16) (12 + 260 * u16) (mkF m 493 #[.val (.long x0), .second, .val (.long x1), .second, .val (.long x2), .second, .val (.long x3), .second, .val (.ref a1), .val (.ref a18), .val (.int (validF (acc [t0, t1, t2, t3, t4, t5, t6, t7] 0 0 0 0).1 (acc [t0, t1, t2, t3, t4, t5, t6, t7] 0 0 0 0).2.1 (acc [t0, t1, t2, t3, t4, t5, t6, t7] 0 0 0 0).2.2.1 (acc [t0, t1, t2, t3, t4, t5, t6, t7] 0 0 0 0).2.2.2)), .val (.int (abF t0 t1 t2 t3 t4 t5 t6 t7)), .val (.int ((((((((nonSp t0) + (nonSp t1)) + (nonSp t2)) + (nonSp t3)) + (nonSp t4)) + (nonSp t5)) + (nonSp t6)) + (nonSp t7))), .val (.int ((((((((eqF t0) + (eqF t1)) + (eqF t2)) + (eqF t3)) + (eqF t4)) + (eqF t5)) + (eqF t6)) + (eqF t7))), .val (.int (seS (seS (seS (0 : Int32) t0) t1) t2)), .val (.int (afS (seS (seS (0 : Int32) t0) t1) (afS (seS (0 : Int32) t0) (0 : Int32) t0) t1)), .unset, .unset, .unset] [.int vb]) := by
    intro vb hvb; subst hvb
    refine w_istore (pc' := 495) (Ls' := #[.val (.long x0), .second, .val (.long x1), .second, .val (.long x2), .second, .val (.long x3), .second, .val (.ref a1), .val (.ref a18), .val (.int (validF (acc [t0, t1, t2, t3, t4, t5, t6, t7] 0 0 0 0).1 (acc [t0, t1, t2, t3, t4, t5, t6, t7] 0 0 0 0).2.1 (acc [t0, t1, t2, t3, t4, t5, t6, t7] 0 0 0 0).2.2.1 (acc [t0, t1, t2, t3, t4, t5, t6, t7] 0 0 0 0).2.2.2)), .val (.int (abF t0 t1 t2 t3 t4 t5 t6 t7)), .val (.int ((((((((nonSp t0) + (nonSp t1)) + (nonSp t2)) + (nonSp t3)) + (nonSp t4)) + (nonSp t5)) + (nonSp t6)) + (nonSp t7))), .val (.int ((((((((eqF t0) + (eqF t1)) + (eqF t2)) + (eqF t3)) + (eqF t4)) + (eqF t5)) + (eqF t6)) + (eqF t7))), .val (.int (seS (seS (seS (0 : Int32) t0) t1) t2)), .val (.int (afS (seS (seS (seS (0 : Int32) t0) t1) t2) (afS (seS (seS (0 : Int32) t0) t1) (afS (seS (0 : Int32) t0) (0 : Int32) t0) t1) t2)), .unset, .unset, .unset]) C at_493 rfl rfl ?_
    refine w_iload (pc' := 497) C at_495 rfl rfl ?_
    refine w_if_ne (pcT := 509) (pcF := 500) C at_497 (by decide) (by decide) rfl (fun q497_22 => ?_) (fun q497_22 => ?_)
    · skip
      refine w_iconst (pc' := 510) (x := (1 : Int32)) C at_509 rfl rfl ?_
      refine w_goto (pc' := 514) C at_510 (by decide) (by decide) ?_
      exact K514 (1 : Int32) (if_neg q497_22)
    · skip
      refine w_aload (pc' := 502) C at_500 rfl rfl rfl ?_
      refine w_iconst (pc' := 503) (x := (3 : Int32)) C at_502 rfl rfl ?_
      refine wA_caload (pc' := 504) (v := .int t3) C at_503 rfl O_a1 (by decide) rfl ?_
      refine w_bipush (pc' := 506) (x := (61 : Int32)) C at_504 rfl rfl ?_
      refine w_icmp_ne (pcT := 513) (pcF := 509) C at_506 (by decide) (by decide) rfl (fun q506_23 => ?_) (fun q506_23 => ?_)
      · skip
        refine w_iconst (pc' := 514) (x := (0 : Int32)) C at_513 rfl rfl ?_
        exact K514 (0 : Int32) (Eq.trans (if_pos q497_22) (if_neg q506_23))
      · skip
        refine w_iconst (pc' := 510) (x := (1 : Int32)) C at_509 rfl rfl ?_
        refine w_goto (pc' := 514) C at_510 (by decide) (by decide) ?_
        exact K514 (1 : Int32) (Eq.trans (if_pos q497_22) (if_pos q506_23))
  have K466 : ∀ vb : Int32, (seS (seS (seS (0 : Int32) t0) t1) t2) = vb → Wp p l e room_1 (s.setVm vm16) m #[.long x0, .long x1, .long x2, .long x3] below meth c n0 (EH Z EL 260 s 2 12 2) (fun v h => v = some (.int 1)) h20 (2 + 2 * u16) (12 + 260 * u16) (mkF m 466 #[.val (.long x0), .second, .val (.long x1), .second, .val (.long x2), .second, .val (.long x3), .second, .val (.ref a1), .val (.ref a18), .val (.int (validF (acc [t0, t1, t2, t3, t4, t5, t6, t7] 0 0 0 0).1 (acc [t0, t1, t2, t3, t4, t5, t6, t7] 0 0 0 0).2.1 (acc [t0, t1, t2, t3, t4, t5, t6, t7] 0 0 0 0).2.2.1 (acc [t0, t1, t2, t3, t4, t5, t6, t7] 0 0 0 0).2.2.2)), .val (.int (abF t0 t1 t2 t3 t4 t5 t6 t7)), .val (.int ((((((((nonSp t0) + (nonSp t1)) + (nonSp t2)) + (nonSp t3)) + (nonSp t4)) + (nonSp t5)) + (nonSp t6)) + (nonSp t7))), .val (.int ((((((((eqF t0) + (eqF t1)) + (eqF t2)) + (eqF t3)) + (eqF t4)) + (eqF t5)) + (eqF t6)) + (eqF t7))), .val (.int (seS (seS (0 : Int32) t0) t1)), .val (.int (afS (seS (seS (0 : Int32) t0) t1) (afS (seS (0 : Int32) t0) (0 : Int32) t0) t1)), .unset, .unset, .unset] [.int vb]) := by
    intro vb hvb; subst hvb
    refine w_istore (pc' := 468) (Ls' := #[.val (.long x0), .second, .val (.long x1), .second, .val (.long x2), .second, .val (.long x3), .second, .val (.ref a1), .val (.ref a18), .val (.int (validF (acc [t0, t1, t2, t3, t4, t5, t6, t7] 0 0 0 0).1 (acc [t0, t1, t2, t3, t4, t5, t6, t7] 0 0 0 0).2.1 (acc [t0, t1, t2, t3, t4, t5, t6, t7] 0 0 0 0).2.2.1 (acc [t0, t1, t2, t3, t4, t5, t6, t7] 0 0 0 0).2.2.2)), .val (.int (abF t0 t1 t2 t3 t4 t5 t6 t7)), .val (.int ((((((((nonSp t0) + (nonSp t1)) + (nonSp t2)) + (nonSp t3)) + (nonSp t4)) + (nonSp t5)) + (nonSp t6)) + (nonSp t7))), .val (.int ((((((((eqF t0) + (eqF t1)) + (eqF t2)) + (eqF t3)) + (eqF t4)) + (eqF t5)) + (eqF t6)) + (eqF t7))), .val (.int (seS (seS (seS (0 : Int32) t0) t1) t2)), .val (.int (afS (seS (seS (0 : Int32) t0) t1) (afS (seS (0 : Int32) t0) (0 : Int32) t0) t1)), .unset, .unset, .unset]) C at_466 rfl rfl ?_
    refine w_iload (pc' := 470) C at_468 rfl rfl ?_
    refine w_if_ne (pcT := 488) (pcF := 473) C at_470 (by decide) (by decide) rfl (fun q470_19 => ?_) (fun q470_19 => ?_)
    · skip
      refine w_iconst (pc' := 489) (x := (1 : Int32)) C at_488 rfl rfl ?_
      refine w_goto (pc' := 493) C at_489 (by decide) (by decide) ?_
      exact K493 (1 : Int32) (if_neg q470_19)
    · skip
      refine w_iload (pc' := 475) C at_473 rfl rfl ?_
      refine w_if_eq (pcT := 492) (pcF := 478) C at_475 (by decide) (by decide) rfl (fun q475_20 => ?_) (fun q475_20 => ?_)
      · skip
        refine w_iconst (pc' := 493) (x := (0 : Int32)) C at_492 rfl rfl ?_
        exact K493 (0 : Int32) (Eq.trans (if_pos q470_19) (if_pos q475_20))
      · skip
        refine w_aload (pc' := 480) C at_478 rfl rfl rfl ?_
        refine w_iconst (pc' := 481) (x := (2 : Int32)) C at_480 rfl rfl ?_
        refine wA_caload (pc' := 482) (v := .int t2) C at_481 rfl O_a1 (by decide) rfl ?_
        refine w_callS (pc' := 485) (argsL := [.int t2]) (st := []) (W := 0) (ce' := (2 + 2 * u16)) (sl' := (12 + 260 * u16)) C (tw hw 76 rfl) (tw hw 77 rfl) (tw hw 3 rfl) (tw hw 78 rfl) (by decide) at_482 rfl rfl (by decide) (by decide) (Nat.le_of_eq rfl) (ad rfl) (ad rfl) (leA HB (by decide)) (leM HB (by decide)) rfl (lenOf pd_5 rfl) (ct_valF hw h20 n0 t2) (kp ?_)
        refine w_if_lt (pcT := 492) (pcF := 488) C at_485 (by decide) (by decide) rfl (fun q485_21 => ?_) (fun q485_21 => ?_)
        · skip
          refine w_iconst (pc' := 493) (x := (0 : Int32)) C at_492 rfl rfl ?_
          exact K493 (0 : Int32) (Eq.trans (if_pos q470_19) (Eq.trans (if_neg q475_20) (if_pos q485_21)))
        · skip
          refine w_iconst (pc' := 489) (x := (1 : Int32)) C at_488 rfl rfl ?_
          refine w_goto (pc' := 493) C at_489 (by decide) (by decide) ?_
          exact K493 (1 : Int32) (Eq.trans (if_pos q470_19) (Eq.trans (if_neg q475_20) (if_neg q485_21)))
  have K445 : ∀ vb : Int32, (afS (seS (seS (0 : Int32) t0) t1) (afS (seS (0 : Int32) t0) (0 : Int32) t0) t1) = vb → Wp p l e room_1 (s.setVm vm16) m #[.long x0, .long x1, .long x2, .long x3] below meth c n0 (EH Z EL 260 s 2 12 2) (fun v h => v = some (.int 1)) h20 (2 + 2 * u16) (12 + 260 * u16) (mkF m 445 #[.val (.long x0), .second, .val (.long x1), .second, .val (.long x2), .second, .val (.long x3), .second, .val (.ref a1), .val (.ref a18), .val (.int (validF (acc [t0, t1, t2, t3, t4, t5, t6, t7] 0 0 0 0).1 (acc [t0, t1, t2, t3, t4, t5, t6, t7] 0 0 0 0).2.1 (acc [t0, t1, t2, t3, t4, t5, t6, t7] 0 0 0 0).2.2.1 (acc [t0, t1, t2, t3, t4, t5, t6, t7] 0 0 0 0).2.2.2)), .val (.int (abF t0 t1 t2 t3 t4 t5 t6 t7)), .val (.int ((((((((nonSp t0) + (nonSp t1)) + (nonSp t2)) + (nonSp t3)) + (nonSp t4)) + (nonSp t5)) + (nonSp t6)) + (nonSp t7))), .val (.int ((((((((eqF t0) + (eqF t1)) + (eqF t2)) + (eqF t3)) + (eqF t4)) + (eqF t5)) + (eqF t6)) + (eqF t7))), .val (.int (seS (seS (0 : Int32) t0) t1)), .val (.int (afS (seS (0 : Int32) t0) (0 : Int32) t0)), .unset, .unset, .unset] [.int vb]) := by
    intro vb hvb; subst hvb
    refine w_istore (pc' := 447) (Ls' := #[.val (.long x0), .second, .val (.long x1), .second, .val (.long x2), .second, .val (.long x3), .second, .val (.ref a1), .val (.ref a18), .val (.int (validF (acc [t0, t1, t2, t3, t4, t5, t6, t7] 0 0 0 0).1 (acc [t0, t1, t2, t3, t4, t5, t6, t7] 0 0 0 0).2.1 (acc [t0, t1, t2, t3, t4, t5, t6, t7] 0 0 0 0).2.2.1 (acc [t0, t1, t2, t3, t4, t5, t6, t7] 0 0 0 0).2.2.2)), .val (.int (abF t0 t1 t2 t3 t4 t5 t6 t7)), .val (.int ((((((((nonSp t0) + (nonSp t1)) + (nonSp t2)) + (nonSp t3)) + (nonSp t4)) + (nonSp t5)) + (nonSp t6)) + (nonSp t7))), .val (.int ((((((((eqF t0) + (eqF t1)) + (eqF t2)) + (eqF t3)) + (eqF t4)) + (eqF t5)) + (eqF t6)) + (eqF t7))), .val (.int (seS (seS (0 : Int32) t0) t1)), .val (.int (afS (seS (seS (0 : Int32) t0) t1) (afS (seS (0 : Int32) t0) (0 : Int32) t0) t1)), .unset, .unset, .unset]) C at_445 rfl rfl ?_
    refine w_iload (pc' := 449) C at_447 rfl rfl ?_
    refine w_if_ne (pcT := 461) (pcF := 452) C at_449 (by decide) (by decide) rfl (fun q449_17 => ?_) (fun q449_17 => ?_)
    · skip
      refine w_iconst (pc' := 462) (x := (1 : Int32)) C at_461 rfl rfl ?_
      refine w_goto (pc' := 466) C at_462 (by decide) (by decide) ?_
      exact K466 (1 : Int32) (if_neg q449_17)
    · skip
      refine w_aload (pc' := 454) C at_452 rfl rfl rfl ?_
      refine w_iconst (pc' := 455) (x := (2 : Int32)) C at_454 rfl rfl ?_
      refine wA_caload (pc' := 456) (v := .int t2) C at_455 rfl O_a1 (by decide) rfl ?_
      refine w_bipush (pc' := 458) (x := (61 : Int32)) C at_456 rfl rfl ?_
      refine w_icmp_ne (pcT := 465) (pcF := 461) C at_458 (by decide) (by decide) rfl (fun q458_18 => ?_) (fun q458_18 => ?_)
      · skip
        refine w_iconst (pc' := 466) (x := (0 : Int32)) C at_465 rfl rfl ?_
        exact K466 (0 : Int32) (Eq.trans (if_pos q449_17) (if_neg q458_18))
      · skip
        refine w_iconst (pc' := 462) (x := (1 : Int32)) C at_461 rfl rfl ?_
        refine w_goto (pc' := 466) C at_462 (by decide) (by decide) ?_
        exact K466 (1 : Int32) (Eq.trans (if_pos q449_17) (if_pos q458_18))
  have K418 : ∀ vb : Int32, (seS (seS (0 : Int32) t0) t1) = vb → Wp p l e room_1 (s.setVm vm16) m #[.long x0, .long x1, .long x2, .long x3] below meth c n0 (EH Z EL 260 s 2 12 2) (fun v h => v = some (.int 1)) h20 (2 + 2 * u16) (12 + 260 * u16) (mkF m 418 #[.val (.long x0), .second, .val (.long x1), .second, .val (.long x2), .second, .val (.long x3), .second, .val (.ref a1), .val (.ref a18), .val (.int (validF (acc [t0, t1, t2, t3, t4, t5, t6, t7] 0 0 0 0).1 (acc [t0, t1, t2, t3, t4, t5, t6, t7] 0 0 0 0).2.1 (acc [t0, t1, t2, t3, t4, t5, t6, t7] 0 0 0 0).2.2.1 (acc [t0, t1, t2, t3, t4, t5, t6, t7] 0 0 0 0).2.2.2)), .val (.int (abF t0 t1 t2 t3 t4 t5 t6 t7)), .val (.int ((((((((nonSp t0) + (nonSp t1)) + (nonSp t2)) + (nonSp t3)) + (nonSp t4)) + (nonSp t5)) + (nonSp t6)) + (nonSp t7))), .val (.int ((((((((eqF t0) + (eqF t1)) + (eqF t2)) + (eqF t3)) + (eqF t4)) + (eqF t5)) + (eqF t6)) + (eqF t7))), .val (.int (seS (0 : Int32) t0)), .val (.int (afS (seS (0 : Int32) t0) (0 : Int32) t0)), .unset, .unset, .unset] [.int vb]) := by
    intro vb hvb; subst hvb
    refine w_istore (pc' := 420) (Ls' := #[.val (.long x0), .second, .val (.long x1), .second, .val (.long x2), .second, .val (.long x3), .second, .val (.ref a1), .val (.ref a18), .val (.int (validF (acc [t0, t1, t2, t3, t4, t5, t6, t7] 0 0 0 0).1 (acc [t0, t1, t2, t3, t4, t5, t6, t7] 0 0 0 0).2.1 (acc [t0, t1, t2, t3, t4, t5, t6, t7] 0 0 0 0).2.2.1 (acc [t0, t1, t2, t3, t4, t5, t6, t7] 0 0 0 0).2.2.2)), .val (.int (abF t0 t1 t2 t3 t4 t5 t6 t7)), .val (.int ((((((((nonSp t0) + (nonSp t1)) + (nonSp t2)) + (nonSp t3)) + (nonSp t4)) + (nonSp t5)) + (nonSp t6)) + (nonSp t7))), .val (.int ((((((((eqF t0) + (eqF t1)) + (eqF t2)) + (eqF t3)) + (eqF t4)) + (eqF t5)) + (eqF t6)) + (eqF t7))), .val (.int (seS (seS (0 : Int32) t0) t1)), .val (.int (afS (seS (0 : Int32) t0) (0 : Int32) t0)), .unset, .unset, .unset]) C at_418 rfl rfl ?_
    refine w_iload (pc' := 422) C at_420 rfl rfl ?_
    refine w_if_ne (pcT := 440) (pcF := 425) C at_422 (by decide) (by decide) rfl (fun q422_14 => ?_) (fun q422_14 => ?_)
    · skip
      refine w_iconst (pc' := 441) (x := (1 : Int32)) C at_440 rfl rfl ?_
      refine w_goto (pc' := 445) C at_441 (by decide) (by decide) ?_
      exact K445 (1 : Int32) (if_neg q422_14)
    · skip
      refine w_iload (pc' := 427) C at_425 rfl rfl ?_
      refine w_if_eq (pcT := 444) (pcF := 430) C at_427 (by decide) (by decide) rfl (fun q427_15 => ?_) (fun q427_15 => ?_)
      · skip
        refine w_iconst (pc' := 445) (x := (0 : Int32)) C at_444 rfl rfl ?_
        exact K445 (0 : Int32) (Eq.trans (if_pos q422_14) (if_pos q427_15))
      · skip
        refine w_aload (pc' := 432) C at_430 rfl rfl rfl ?_
        refine w_iconst (pc' := 433) (x := (1 : Int32)) C at_432 rfl rfl ?_
        refine wA_caload (pc' := 434) (v := .int t1) C at_433 rfl O_a1 (by decide) rfl ?_
        refine w_callS (pc' := 437) (argsL := [.int t1]) (st := []) (W := 0) (ce' := (2 + 2 * u16)) (sl' := (12 + 260 * u16)) C (tw hw 76 rfl) (tw hw 77 rfl) (tw hw 3 rfl) (tw hw 78 rfl) (by decide) at_434 rfl rfl (by decide) (by decide) (Nat.le_of_eq rfl) (ad rfl) (ad rfl) (leA HB (by decide)) (leM HB (by decide)) rfl (lenOf pd_5 rfl) (ct_valF hw h20 n0 t1) (kp ?_)
        refine w_if_lt (pcT := 444) (pcF := 440) C at_437 (by decide) (by decide) rfl (fun q437_16 => ?_) (fun q437_16 => ?_)
        · skip
          refine w_iconst (pc' := 445) (x := (0 : Int32)) C at_444 rfl rfl ?_
          exact K445 (0 : Int32) (Eq.trans (if_pos q422_14) (Eq.trans (if_neg q427_15) (if_pos q437_16)))
        · skip
          refine w_iconst (pc' := 441) (x := (1 : Int32)) C at_440 rfl rfl ?_
          refine w_goto (pc' := 445) C at_441 (by decide) (by decide) ?_
          exact K445 (1 : Int32) (Eq.trans (if_pos q422_14) (Eq.trans (if_neg q427_15) (if_neg q437_16)))
  have K397 : ∀ vb : Int32, (afS (seS (0 : Int32) t0) (0 : Int32) t0) = vb → Wp p l e room_1 (s.setVm vm16) m #[.long x0, .long x1, .long x2, .long x3] below meth c n0 (EH Z EL 260 s 2 12 2) (fun v h => v = some (.int 1)) h20 (2 + 2 * u16) (12 + 260 * u16) (mkF m 397 #[.val (.long x0), .second, .val (.long x1), .second, .val (.long x2), .second, .val (.long x3), .second, .val (.ref a1), .val (.ref a18), .val (.int (validF (acc [t0, t1, t2, t3, t4, t5, t6, t7] 0 0 0 0).1 (acc [t0, t1, t2, t3, t4, t5, t6, t7] 0 0 0 0).2.1 (acc [t0, t1, t2, t3, t4, t5, t6, t7] 0 0 0 0).2.2.1 (acc [t0, t1, t2, t3, t4, t5, t6, t7] 0 0 0 0).2.2.2)), .val (.int (abF t0 t1 t2 t3 t4 t5 t6 t7)), .val (.int ((((((((nonSp t0) + (nonSp t1)) + (nonSp t2)) + (nonSp t3)) + (nonSp t4)) + (nonSp t5)) + (nonSp t6)) + (nonSp t7))), .val (.int ((((((((eqF t0) + (eqF t1)) + (eqF t2)) + (eqF t3)) + (eqF t4)) + (eqF t5)) + (eqF t6)) + (eqF t7))), .val (.int (seS (0 : Int32) t0)), .val (.int (0 : Int32)), .unset, .unset, .unset] [.int vb]) := by
    intro vb hvb; subst hvb
    refine w_istore (pc' := 399) (Ls' := #[.val (.long x0), .second, .val (.long x1), .second, .val (.long x2), .second, .val (.long x3), .second, .val (.ref a1), .val (.ref a18), .val (.int (validF (acc [t0, t1, t2, t3, t4, t5, t6, t7] 0 0 0 0).1 (acc [t0, t1, t2, t3, t4, t5, t6, t7] 0 0 0 0).2.1 (acc [t0, t1, t2, t3, t4, t5, t6, t7] 0 0 0 0).2.2.1 (acc [t0, t1, t2, t3, t4, t5, t6, t7] 0 0 0 0).2.2.2)), .val (.int (abF t0 t1 t2 t3 t4 t5 t6 t7)), .val (.int ((((((((nonSp t0) + (nonSp t1)) + (nonSp t2)) + (nonSp t3)) + (nonSp t4)) + (nonSp t5)) + (nonSp t6)) + (nonSp t7))), .val (.int ((((((((eqF t0) + (eqF t1)) + (eqF t2)) + (eqF t3)) + (eqF t4)) + (eqF t5)) + (eqF t6)) + (eqF t7))), .val (.int (seS (0 : Int32) t0)), .val (.int (afS (seS (0 : Int32) t0) (0 : Int32) t0)), .unset, .unset, .unset]) C at_397 rfl rfl ?_
    refine w_iload (pc' := 401) C at_399 rfl rfl ?_
    refine w_if_ne (pcT := 413) (pcF := 404) C at_401 (by decide) (by decide) rfl (fun q401_12 => ?_) (fun q401_12 => ?_)
    · skip
      refine w_iconst (pc' := 414) (x := (1 : Int32)) C at_413 rfl rfl ?_
      refine w_goto (pc' := 418) C at_414 (by decide) (by decide) ?_
      exact K418 (1 : Int32) (if_neg q401_12)
    · skip
      refine w_aload (pc' := 406) C at_404 rfl rfl rfl ?_
      refine w_iconst (pc' := 407) (x := (1 : Int32)) C at_406 rfl rfl ?_
      refine wA_caload (pc' := 408) (v := .int t1) C at_407 rfl O_a1 (by decide) rfl ?_
      refine w_bipush (pc' := 410) (x := (61 : Int32)) C at_408 rfl rfl ?_
      refine w_icmp_ne (pcT := 417) (pcF := 413) C at_410 (by decide) (by decide) rfl (fun q410_13 => ?_) (fun q410_13 => ?_)
      · skip
        refine w_iconst (pc' := 418) (x := (0 : Int32)) C at_417 rfl rfl ?_
        exact K418 (0 : Int32) (Eq.trans (if_pos q401_12) (if_neg q410_13))
      · skip
        refine w_iconst (pc' := 414) (x := (1 : Int32)) C at_413 rfl rfl ?_
        refine w_goto (pc' := 418) C at_414 (by decide) (by decide) ?_
        exact K418 (1 : Int32) (Eq.trans (if_pos q401_12) (if_pos q410_13))
  have K370 : ∀ vb : Int32, (seS (0 : Int32) t0) = vb → Wp p l e room_1 (s.setVm vm16) m #[.long x0, .long x1, .long x2, .long x3] below meth c n0 (EH Z EL 260 s 2 12 2) (fun v h => v = some (.int 1)) h20 (2 + 2 * u16) (12 + 260 * u16) (mkF m 370 #[.val (.long x0), .second, .val (.long x1), .second, .val (.long x2), .second, .val (.long x3), .second, .val (.ref a1), .val (.ref a18), .val (.int (validF (acc [t0, t1, t2, t3, t4, t5, t6, t7] 0 0 0 0).1 (acc [t0, t1, t2, t3, t4, t5, t6, t7] 0 0 0 0).2.1 (acc [t0, t1, t2, t3, t4, t5, t6, t7] 0 0 0 0).2.2.1 (acc [t0, t1, t2, t3, t4, t5, t6, t7] 0 0 0 0).2.2.2)), .val (.int (abF t0 t1 t2 t3 t4 t5 t6 t7)), .val (.int ((((((((nonSp t0) + (nonSp t1)) + (nonSp t2)) + (nonSp t3)) + (nonSp t4)) + (nonSp t5)) + (nonSp t6)) + (nonSp t7))), .val (.int ((((((((eqF t0) + (eqF t1)) + (eqF t2)) + (eqF t3)) + (eqF t4)) + (eqF t5)) + (eqF t6)) + (eqF t7))), .val (.int (0 : Int32)), .val (.int (0 : Int32)), .unset, .unset, .unset] [.int vb]) := by
    intro vb hvb; subst hvb
    refine w_istore (pc' := 372) (Ls' := #[.val (.long x0), .second, .val (.long x1), .second, .val (.long x2), .second, .val (.long x3), .second, .val (.ref a1), .val (.ref a18), .val (.int (validF (acc [t0, t1, t2, t3, t4, t5, t6, t7] 0 0 0 0).1 (acc [t0, t1, t2, t3, t4, t5, t6, t7] 0 0 0 0).2.1 (acc [t0, t1, t2, t3, t4, t5, t6, t7] 0 0 0 0).2.2.1 (acc [t0, t1, t2, t3, t4, t5, t6, t7] 0 0 0 0).2.2.2)), .val (.int (abF t0 t1 t2 t3 t4 t5 t6 t7)), .val (.int ((((((((nonSp t0) + (nonSp t1)) + (nonSp t2)) + (nonSp t3)) + (nonSp t4)) + (nonSp t5)) + (nonSp t6)) + (nonSp t7))), .val (.int ((((((((eqF t0) + (eqF t1)) + (eqF t2)) + (eqF t3)) + (eqF t4)) + (eqF t5)) + (eqF t6)) + (eqF t7))), .val (.int (seS (0 : Int32) t0)), .val (.int (0 : Int32)), .unset, .unset, .unset]) C at_370 rfl rfl ?_
    refine w_iload (pc' := 374) C at_372 rfl rfl ?_
    refine w_if_ne (pcT := 392) (pcF := 377) C at_374 (by decide) (by decide) rfl (fun q => absurd q (by decide)) (fun q374 => ?_)
    refine w_iload (pc' := 379) C at_377 rfl rfl ?_
    refine w_if_eq (pcT := 396) (pcF := 382) C at_379 (by decide) (by decide) rfl (fun q379_10 => ?_) (fun q379_10 => ?_)
    · skip
      refine w_iconst (pc' := 397) (x := (0 : Int32)) C at_396 rfl rfl ?_
      exact K397 (0 : Int32) (Eq.trans (if_pos rfl) (if_pos q379_10))
    · skip
      refine w_aload (pc' := 384) C at_382 rfl rfl rfl ?_
      refine w_iconst (pc' := 385) (x := (0 : Int32)) C at_384 rfl rfl ?_
      refine wA_caload (pc' := 386) (v := .int t0) C at_385 rfl O_a1 (by decide) rfl ?_
      refine w_callS (pc' := 389) (argsL := [.int t0]) (st := []) (W := 0) (ce' := (2 + 2 * u16)) (sl' := (12 + 260 * u16)) C (tw hw 76 rfl) (tw hw 77 rfl) (tw hw 3 rfl) (tw hw 78 rfl) (by decide) at_386 rfl rfl (by decide) (by decide) (Nat.le_of_eq rfl) (ad rfl) (ad rfl) (leA HB (by decide)) (leM HB (by decide)) rfl (lenOf pd_5 rfl) (ct_valF hw h20 n0 t0) (kp ?_)
      refine w_if_lt (pcT := 396) (pcF := 392) C at_389 (by decide) (by decide) rfl (fun q389_11 => ?_) (fun q389_11 => ?_)
      · skip
        refine w_iconst (pc' := 397) (x := (0 : Int32)) C at_396 rfl rfl ?_
        exact K397 (0 : Int32) (Eq.trans (if_pos rfl) (Eq.trans (if_neg q379_10) (if_pos q389_11)))
      · skip
        refine w_iconst (pc' := 393) (x := (1 : Int32)) C at_392 rfl rfl ?_
        refine w_goto (pc' := 397) C at_393 (by decide) (by decide) ?_
        exact K397 (1 : Int32) (Eq.trans (if_pos rfl) (Eq.trans (if_neg q379_10) (if_neg q389_11)))
  have K209 : ∀ vb : Int32, (abF t0 t1 t2 t3 t4 t5 t6 t7) = vb → Wp p l e room_1 (s.setVm vm16) m #[.long x0, .long x1, .long x2, .long x3] below meth c n0 (EH Z EL 260 s 2 12 2) (fun v h => v = some (.int 1)) h20 (2 + 2 * u16) (12 + 260 * u16) (mkF m 209 #[.val (.long x0), .second, .val (.long x1), .second, .val (.long x2), .second, .val (.long x3), .second, .val (.ref a1), .val (.ref a18), .val (.int (validF (acc [t0, t1, t2, t3, t4, t5, t6, t7] 0 0 0 0).1 (acc [t0, t1, t2, t3, t4, t5, t6, t7] 0 0 0 0).2.1 (acc [t0, t1, t2, t3, t4, t5, t6, t7] 0 0 0 0).2.2.1 (acc [t0, t1, t2, t3, t4, t5, t6, t7] 0 0 0 0).2.2.2)), .unset, .unset, .unset, .unset, .unset, .unset, .unset, .unset] [.int vb]) := by
    intro vb hvb; subst hvb
    refine w_istore (pc' := 211) (Ls' := #[.val (.long x0), .second, .val (.long x1), .second, .val (.long x2), .second, .val (.long x3), .second, .val (.ref a1), .val (.ref a18), .val (.int (validF (acc [t0, t1, t2, t3, t4, t5, t6, t7] 0 0 0 0).1 (acc [t0, t1, t2, t3, t4, t5, t6, t7] 0 0 0 0).2.1 (acc [t0, t1, t2, t3, t4, t5, t6, t7] 0 0 0 0).2.2.1 (acc [t0, t1, t2, t3, t4, t5, t6, t7] 0 0 0 0).2.2.2)), .val (.int (abF t0 t1 t2 t3 t4 t5 t6 t7)), .unset, .unset, .unset, .unset, .unset, .unset, .unset]) C at_209 rfl rfl ?_
    refine w_aload (pc' := 213) C at_211 rfl rfl rfl ?_
    refine w_iconst (pc' := 214) (x := (0 : Int32)) C at_213 rfl rfl ?_
    refine wA_caload (pc' := 215) (v := .int t0) C at_214 rfl O_a1 (by decide) rfl ?_
    refine w_callS (pc' := 218) (argsL := [.int t0]) (st := []) (W := 0) (ce' := (2 + 2 * u16)) (sl' := (12 + 260 * u16)) C (tw hw 79 rfl) (tw hw 80 rfl) (tw hw 3 rfl) (tw hw 81 rfl) (by decide) at_215 rfl rfl (by decide) (by decide) (Nat.le_of_eq rfl) (ad rfl) (ad rfl) (leA HB (by decide)) (leM HB (by decide)) rfl (lenOf pd_5 rfl) (ct_nonSp hw h20 n0 t0) (kp ?_)
    refine w_aload (pc' := 220) C at_218 rfl rfl rfl ?_
    refine w_iconst (pc' := 221) (x := (1 : Int32)) C at_220 rfl rfl ?_
    refine wA_caload (pc' := 222) (v := .int t1) C at_221 rfl O_a1 (by decide) rfl ?_
    refine w_callS (pc' := 225) (argsL := [.int t1]) (st := [.int (nonSp t0)]) (W := 1) (ce' := (2 + 2 * u16)) (sl' := (12 + 260 * u16)) C (tw hw 79 rfl) (tw hw 80 rfl) (tw hw 3 rfl) (tw hw 81 rfl) (by decide) at_222 rfl rfl (by decide) (by decide) (Nat.le_of_eq rfl) (ad rfl) (ad rfl) (leA HB (by decide)) (leM HB (by decide)) rfl (lenOf pd_5 rfl) (ct_nonSp hw h20 n0 t1) (kp ?_)
    refine w_iadd (pc' := 226) C at_225 rfl ?_
    refine w_aload (pc' := 228) C at_226 rfl rfl rfl ?_
    refine w_iconst (pc' := 229) (x := (2 : Int32)) C at_228 rfl rfl ?_
    refine wA_caload (pc' := 230) (v := .int t2) C at_229 rfl O_a1 (by decide) rfl ?_
    refine w_callS (pc' := 233) (argsL := [.int t2]) (st := [.int ((nonSp t0) + (nonSp t1))]) (W := 1) (ce' := (2 + 2 * u16)) (sl' := (12 + 260 * u16)) C (tw hw 79 rfl) (tw hw 80 rfl) (tw hw 3 rfl) (tw hw 81 rfl) (by decide) at_230 rfl rfl (by decide) (by decide) (Nat.le_of_eq rfl) (ad rfl) (ad rfl) (leA HB (by decide)) (leM HB (by decide)) rfl (lenOf pd_5 rfl) (ct_nonSp hw h20 n0 t2) (kp ?_)
    refine w_iadd (pc' := 234) C at_233 rfl ?_
    refine w_aload (pc' := 236) C at_234 rfl rfl rfl ?_
    refine w_iconst (pc' := 237) (x := (3 : Int32)) C at_236 rfl rfl ?_
    refine wA_caload (pc' := 238) (v := .int t3) C at_237 rfl O_a1 (by decide) rfl ?_
    refine w_callS (pc' := 241) (argsL := [.int t3]) (st := [.int (((nonSp t0) + (nonSp t1)) + (nonSp t2))]) (W := 1) (ce' := (2 + 2 * u16)) (sl' := (12 + 260 * u16)) C (tw hw 79 rfl) (tw hw 80 rfl) (tw hw 3 rfl) (tw hw 81 rfl) (by decide) at_238 rfl rfl (by decide) (by decide) (Nat.le_of_eq rfl) (ad rfl) (ad rfl) (leA HB (by decide)) (leM HB (by decide)) rfl (lenOf pd_5 rfl) (ct_nonSp hw h20 n0 t3) (kp ?_)
    refine w_iadd (pc' := 242) C at_241 rfl ?_
    refine w_aload (pc' := 244) C at_242 rfl rfl rfl ?_
    refine w_iconst (pc' := 245) (x := (4 : Int32)) C at_244 rfl rfl ?_
    refine wA_caload (pc' := 246) (v := .int t4) C at_245 rfl O_a1 (by decide) rfl ?_
    refine w_callS (pc' := 249) (argsL := [.int t4]) (st := [.int ((((nonSp t0) + (nonSp t1)) + (nonSp t2)) + (nonSp t3))]) (W := 1) (ce' := (2 + 2 * u16)) (sl' := (12 + 260 * u16)) C (tw hw 79 rfl) (tw hw 80 rfl) (tw hw 3 rfl) (tw hw 81 rfl) (by decide) at_246 rfl rfl (by decide) (by decide) (Nat.le_of_eq rfl) (ad rfl) (ad rfl) (leA HB (by decide)) (leM HB (by decide)) rfl (lenOf pd_5 rfl) (ct_nonSp hw h20 n0 t4) (kp ?_)
    refine w_iadd (pc' := 250) C at_249 rfl ?_
    refine w_aload (pc' := 252) C at_250 rfl rfl rfl ?_
    refine w_iconst (pc' := 253) (x := (5 : Int32)) C at_252 rfl rfl ?_
    refine wA_caload (pc' := 254) (v := .int t5) C at_253 rfl O_a1 (by decide) rfl ?_
    refine w_callS (pc' := 257) (argsL := [.int t5]) (st := [.int (((((nonSp t0) + (nonSp t1)) + (nonSp t2)) + (nonSp t3)) + (nonSp t4))]) (W := 1) (ce' := (2 + 2 * u16)) (sl' := (12 + 260 * u16)) C (tw hw 79 rfl) (tw hw 80 rfl) (tw hw 3 rfl) (tw hw 81 rfl) (by decide) at_254 rfl rfl (by decide) (by decide) (Nat.le_of_eq rfl) (ad rfl) (ad rfl) (leA HB (by decide)) (leM HB (by decide)) rfl (lenOf pd_5 rfl) (ct_nonSp hw h20 n0 t5) (kp ?_)
    refine w_iadd (pc' := 258) C at_257 rfl ?_
    refine w_aload (pc' := 260) C at_258 rfl rfl rfl ?_
    refine w_bipush (pc' := 262) (x := (6 : Int32)) C at_260 rfl rfl ?_
    refine wA_caload (pc' := 263) (v := .int t6) C at_262 rfl O_a1 (by decide) rfl ?_
    refine w_callS (pc' := 266) (argsL := [.int t6]) (st := [.int ((((((nonSp t0) + (nonSp t1)) + (nonSp t2)) + (nonSp t3)) + (nonSp t4)) + (nonSp t5))]) (W := 1) (ce' := (2 + 2 * u16)) (sl' := (12 + 260 * u16)) C (tw hw 79 rfl) (tw hw 80 rfl) (tw hw 3 rfl) (tw hw 81 rfl) (by decide) at_263 rfl rfl (by decide) (by decide) (Nat.le_of_eq rfl) (ad rfl) (ad rfl) (leA HB (by decide)) (leM HB (by decide)) rfl (lenOf pd_5 rfl) (ct_nonSp hw h20 n0 t6) (kp ?_)
    refine w_iadd (pc' := 267) C at_266 rfl ?_
    refine w_aload (pc' := 269) C at_267 rfl rfl rfl ?_
    refine w_bipush (pc' := 271) (x := (7 : Int32)) C at_269 rfl rfl ?_
    refine wA_caload (pc' := 272) (v := .int t7) C at_271 rfl O_a1 (by decide) rfl ?_
    refine w_callS (pc' := 275) (argsL := [.int t7]) (st := [.int (((((((nonSp t0) + (nonSp t1)) + (nonSp t2)) + (nonSp t3)) + (nonSp t4)) + (nonSp t5)) + (nonSp t6))]) (W := 1) (ce' := (2 + 2 * u16)) (sl' := (12 + 260 * u16)) C (tw hw 79 rfl) (tw hw 80 rfl) (tw hw 3 rfl) (tw hw 81 rfl) (by decide) at_272 rfl rfl (by decide) (by decide) (Nat.le_of_eq rfl) (ad rfl) (ad rfl) (leA HB (by decide)) (leM HB (by decide)) rfl (lenOf pd_5 rfl) (ct_nonSp hw h20 n0 t7) (kp ?_)
    refine w_iadd (pc' := 276) C at_275 rfl ?_
    refine w_istore (pc' := 278) (Ls' := #[.val (.long x0), .second, .val (.long x1), .second, .val (.long x2), .second, .val (.long x3), .second, .val (.ref a1), .val (.ref a18), .val (.int (validF (acc [t0, t1, t2, t3, t4, t5, t6, t7] 0 0 0 0).1 (acc [t0, t1, t2, t3, t4, t5, t6, t7] 0 0 0 0).2.1 (acc [t0, t1, t2, t3, t4, t5, t6, t7] 0 0 0 0).2.2.1 (acc [t0, t1, t2, t3, t4, t5, t6, t7] 0 0 0 0).2.2.2)), .val (.int (abF t0 t1 t2 t3 t4 t5 t6 t7)), .val (.int ((((((((nonSp t0) + (nonSp t1)) + (nonSp t2)) + (nonSp t3)) + (nonSp t4)) + (nonSp t5)) + (nonSp t6)) + (nonSp t7))), .unset, .unset, .unset, .unset, .unset, .unset]) C at_276 rfl rfl ?_
    refine w_aload (pc' := 280) C at_278 rfl rfl rfl ?_
    refine w_iconst (pc' := 281) (x := (0 : Int32)) C at_280 rfl rfl ?_
    refine wA_caload (pc' := 282) (v := .int t0) C at_281 rfl O_a1 (by decide) rfl ?_
    refine w_callS (pc' := 285) (argsL := [.int t0]) (st := []) (W := 0) (ce' := (2 + 2 * u16)) (sl' := (12 + 260 * u16)) C (tw hw 82 rfl) (tw hw 83 rfl) (tw hw 3 rfl) (tw hw 84 rfl) (by decide) at_282 rfl rfl (by decide) (by decide) (Nat.le_of_eq rfl) (ad rfl) (ad rfl) (leA HB (by decide)) (leM HB (by decide)) rfl (lenOf pd_5 rfl) (ct_eqF hw h20 n0 t0) (kp ?_)
    refine w_aload (pc' := 287) C at_285 rfl rfl rfl ?_
    refine w_iconst (pc' := 288) (x := (1 : Int32)) C at_287 rfl rfl ?_
    refine wA_caload (pc' := 289) (v := .int t1) C at_288 rfl O_a1 (by decide) rfl ?_
    refine w_callS (pc' := 292) (argsL := [.int t1]) (st := [.int (eqF t0)]) (W := 1) (ce' := (2 + 2 * u16)) (sl' := (12 + 260 * u16)) C (tw hw 82 rfl) (tw hw 83 rfl) (tw hw 3 rfl) (tw hw 84 rfl) (by decide) at_289 rfl rfl (by decide) (by decide) (Nat.le_of_eq rfl) (ad rfl) (ad rfl) (leA HB (by decide)) (leM HB (by decide)) rfl (lenOf pd_5 rfl) (ct_eqF hw h20 n0 t1) (kp ?_)
    refine w_iadd (pc' := 293) C at_292 rfl ?_
    refine w_aload (pc' := 295) C at_293 rfl rfl rfl ?_
    refine w_iconst (pc' := 296) (x := (2 : Int32)) C at_295 rfl rfl ?_
    refine wA_caload (pc' := 297) (v := .int t2) C at_296 rfl O_a1 (by decide) rfl ?_
    refine w_callS (pc' := 300) (argsL := [.int t2]) (st := [.int ((eqF t0) + (eqF t1))]) (W := 1) (ce' := (2 + 2 * u16)) (sl' := (12 + 260 * u16)) C (tw hw 82 rfl) (tw hw 83 rfl) (tw hw 3 rfl) (tw hw 84 rfl) (by decide) at_297 rfl rfl (by decide) (by decide) (Nat.le_of_eq rfl) (ad rfl) (ad rfl) (leA HB (by decide)) (leM HB (by decide)) rfl (lenOf pd_5 rfl) (ct_eqF hw h20 n0 t2) (kp ?_)
    refine w_iadd (pc' := 301) C at_300 rfl ?_
    refine w_aload (pc' := 303) C at_301 rfl rfl rfl ?_
    refine w_iconst (pc' := 304) (x := (3 : Int32)) C at_303 rfl rfl ?_
    refine wA_caload (pc' := 305) (v := .int t3) C at_304 rfl O_a1 (by decide) rfl ?_
    refine w_callS (pc' := 308) (argsL := [.int t3]) (st := [.int (((eqF t0) + (eqF t1)) + (eqF t2))]) (W := 1) (ce' := (2 + 2 * u16)) (sl' := (12 + 260 * u16)) C (tw hw 82 rfl) (tw hw 83 rfl) (tw hw 3 rfl) (tw hw 84 rfl) (by decide) at_305 rfl rfl (by decide) (by decide) (Nat.le_of_eq rfl) (ad rfl) (ad rfl) (leA HB (by decide)) (leM HB (by decide)) rfl (lenOf pd_5 rfl) (ct_eqF hw h20 n0 t3) (kp ?_)
    refine w_iadd (pc' := 309) C at_308 rfl ?_
    refine w_aload (pc' := 311) C at_309 rfl rfl rfl ?_
    refine w_iconst (pc' := 312) (x := (4 : Int32)) C at_311 rfl rfl ?_
    refine wA_caload (pc' := 313) (v := .int t4) C at_312 rfl O_a1 (by decide) rfl ?_
    refine w_callS (pc' := 316) (argsL := [.int t4]) (st := [.int ((((eqF t0) + (eqF t1)) + (eqF t2)) + (eqF t3))]) (W := 1) (ce' := (2 + 2 * u16)) (sl' := (12 + 260 * u16)) C (tw hw 82 rfl) (tw hw 83 rfl) (tw hw 3 rfl) (tw hw 84 rfl) (by decide) at_313 rfl rfl (by decide) (by decide) (Nat.le_of_eq rfl) (ad rfl) (ad rfl) (leA HB (by decide)) (leM HB (by decide)) rfl (lenOf pd_5 rfl) (ct_eqF hw h20 n0 t4) (kp ?_)
    refine w_iadd (pc' := 317) C at_316 rfl ?_
    refine w_aload (pc' := 319) C at_317 rfl rfl rfl ?_
    refine w_iconst (pc' := 320) (x := (5 : Int32)) C at_319 rfl rfl ?_
    refine wA_caload (pc' := 321) (v := .int t5) C at_320 rfl O_a1 (by decide) rfl ?_
    refine w_callS (pc' := 324) (argsL := [.int t5]) (st := [.int (((((eqF t0) + (eqF t1)) + (eqF t2)) + (eqF t3)) + (eqF t4))]) (W := 1) (ce' := (2 + 2 * u16)) (sl' := (12 + 260 * u16)) C (tw hw 82 rfl) (tw hw 83 rfl) (tw hw 3 rfl) (tw hw 84 rfl) (by decide) at_321 rfl rfl (by decide) (by decide) (Nat.le_of_eq rfl) (ad rfl) (ad rfl) (leA HB (by decide)) (leM HB (by decide)) rfl (lenOf pd_5 rfl) (ct_eqF hw h20 n0 t5) (kp ?_)
    refine w_iadd (pc' := 325) C at_324 rfl ?_
    refine w_aload (pc' := 327) C at_325 rfl rfl rfl ?_
    refine w_bipush (pc' := 329) (x := (6 : Int32)) C at_327 rfl rfl ?_
    refine wA_caload (pc' := 330) (v := .int t6) C at_329 rfl O_a1 (by decide) rfl ?_
    refine w_callS (pc' := 333) (argsL := [.int t6]) (st := [.int ((((((eqF t0) + (eqF t1)) + (eqF t2)) + (eqF t3)) + (eqF t4)) + (eqF t5))]) (W := 1) (ce' := (2 + 2 * u16)) (sl' := (12 + 260 * u16)) C (tw hw 82 rfl) (tw hw 83 rfl) (tw hw 3 rfl) (tw hw 84 rfl) (by decide) at_330 rfl rfl (by decide) (by decide) (Nat.le_of_eq rfl) (ad rfl) (ad rfl) (leA HB (by decide)) (leM HB (by decide)) rfl (lenOf pd_5 rfl) (ct_eqF hw h20 n0 t6) (kp ?_)
    refine w_iadd (pc' := 334) C at_333 rfl ?_
    refine w_aload (pc' := 336) C at_334 rfl rfl rfl ?_
    refine w_bipush (pc' := 338) (x := (7 : Int32)) C at_336 rfl rfl ?_
    refine wA_caload (pc' := 339) (v := .int t7) C at_338 rfl O_a1 (by decide) rfl ?_
    refine w_callS (pc' := 342) (argsL := [.int t7]) (st := [.int (((((((eqF t0) + (eqF t1)) + (eqF t2)) + (eqF t3)) + (eqF t4)) + (eqF t5)) + (eqF t6))]) (W := 1) (ce' := (2 + 2 * u16)) (sl' := (12 + 260 * u16)) C (tw hw 82 rfl) (tw hw 83 rfl) (tw hw 3 rfl) (tw hw 84 rfl) (by decide) at_339 rfl rfl (by decide) (by decide) (Nat.le_of_eq rfl) (ad rfl) (ad rfl) (leA HB (by decide)) (leM HB (by decide)) rfl (lenOf pd_5 rfl) (ct_eqF hw h20 n0 t7) (kp ?_)
    refine w_iadd (pc' := 343) C at_342 rfl ?_
    refine w_istore (pc' := 345) (Ls' := #[.val (.long x0), .second, .val (.long x1), .second, .val (.long x2), .second, .val (.long x3), .second, .val (.ref a1), .val (.ref a18), .val (.int (validF (acc [t0, t1, t2, t3, t4, t5, t6, t7] 0 0 0 0).1 (acc [t0, t1, t2, t3, t4, t5, t6, t7] 0 0 0 0).2.1 (acc [t0, t1, t2, t3, t4, t5, t6, t7] 0 0 0 0).2.2.1 (acc [t0, t1, t2, t3, t4, t5, t6, t7] 0 0 0 0).2.2.2)), .val (.int (abF t0 t1 t2 t3 t4 t5 t6 t7)), .val (.int ((((((((nonSp t0) + (nonSp t1)) + (nonSp t2)) + (nonSp t3)) + (nonSp t4)) + (nonSp t5)) + (nonSp t6)) + (nonSp t7))), .val (.int ((((((((eqF t0) + (eqF t1)) + (eqF t2)) + (eqF t3)) + (eqF t4)) + (eqF t5)) + (eqF t6)) + (eqF t7))), .unset, .unset, .unset, .unset, .unset]) C at_343 rfl rfl ?_
    refine w_iconst (pc' := 346) (x := (0 : Int32)) C at_345 rfl rfl ?_
    refine w_istore (pc' := 348) (Ls' := #[.val (.long x0), .second, .val (.long x1), .second, .val (.long x2), .second, .val (.long x3), .second, .val (.ref a1), .val (.ref a18), .val (.int (validF (acc [t0, t1, t2, t3, t4, t5, t6, t7] 0 0 0 0).1 (acc [t0, t1, t2, t3, t4, t5, t6, t7] 0 0 0 0).2.1 (acc [t0, t1, t2, t3, t4, t5, t6, t7] 0 0 0 0).2.2.1 (acc [t0, t1, t2, t3, t4, t5, t6, t7] 0 0 0 0).2.2.2)), .val (.int (abF t0 t1 t2 t3 t4 t5 t6 t7)), .val (.int ((((((((nonSp t0) + (nonSp t1)) + (nonSp t2)) + (nonSp t3)) + (nonSp t4)) + (nonSp t5)) + (nonSp t6)) + (nonSp t7))), .val (.int ((((((((eqF t0) + (eqF t1)) + (eqF t2)) + (eqF t3)) + (eqF t4)) + (eqF t5)) + (eqF t6)) + (eqF t7))), .val (.int (0 : Int32)), .unset, .unset, .unset, .unset]) C at_346 rfl rfl ?_
    refine w_iconst (pc' := 349) (x := (0 : Int32)) C at_348 rfl rfl ?_
    refine w_istore (pc' := 351) (Ls' := #[.val (.long x0), .second, .val (.long x1), .second, .val (.long x2), .second, .val (.long x3), .second, .val (.ref a1), .val (.ref a18), .val (.int (validF (acc [t0, t1, t2, t3, t4, t5, t6, t7] 0 0 0 0).1 (acc [t0, t1, t2, t3, t4, t5, t6, t7] 0 0 0 0).2.1 (acc [t0, t1, t2, t3, t4, t5, t6, t7] 0 0 0 0).2.2.1 (acc [t0, t1, t2, t3, t4, t5, t6, t7] 0 0 0 0).2.2.2)), .val (.int (abF t0 t1 t2 t3 t4 t5 t6 t7)), .val (.int ((((((((nonSp t0) + (nonSp t1)) + (nonSp t2)) + (nonSp t3)) + (nonSp t4)) + (nonSp t5)) + (nonSp t6)) + (nonSp t7))), .val (.int ((((((((eqF t0) + (eqF t1)) + (eqF t2)) + (eqF t3)) + (eqF t4)) + (eqF t5)) + (eqF t6)) + (eqF t7))), .val (.int (0 : Int32)), .val (.int (0 : Int32)), .unset, .unset, .unset]) C at_349 rfl rfl ?_
    refine w_iload (pc' := 353) C at_351 rfl rfl ?_
    refine w_if_ne (pcT := 365) (pcF := 356) C at_353 (by decide) (by decide) rfl (fun q => absurd q (by decide)) (fun q353 => ?_)
    refine w_aload (pc' := 358) C at_356 rfl rfl rfl ?_
    refine w_iconst (pc' := 359) (x := (0 : Int32)) C at_358 rfl rfl ?_
    refine wA_caload (pc' := 360) (v := .int t0) C at_359 rfl O_a1 (by decide) rfl ?_
    refine w_bipush (pc' := 362) (x := (61 : Int32)) C at_360 rfl rfl ?_
    refine w_icmp_ne (pcT := 369) (pcF := 365) C at_362 (by decide) (by decide) rfl (fun q362_9 => ?_) (fun q362_9 => ?_)
    · skip
      refine w_iconst (pc' := 370) (x := (0 : Int32)) C at_369 rfl rfl ?_
      exact K370 (0 : Int32) (Eq.trans (if_pos rfl) (if_neg q362_9))
    · skip
      refine w_iconst (pc' := 366) (x := (1 : Int32)) C at_365 rfl rfl ?_
      refine w_goto (pc' := 370) C at_366 (by decide) (by decide) ?_
      exact K370 (1 : Int32) (Eq.trans (if_pos rfl) (if_pos q362_9))
  refine w_aload (pc' := 124) C at_122 rfl rfl rfl ?_
  refine w_iconst (pc' := 125) (x := (0 : Int32)) C at_124 rfl rfl ?_
  refine wA_caload (pc' := 126) (v := .int t0) C at_125 rfl O_a1 (by decide) rfl ?_
  refine w_callS (pc' := 129) (argsL := [.int t0]) (st := []) (W := 0) (ce' := (2 + 2 * u16)) (sl' := (12 + 260 * u16)) C (tw hw 70 rfl) (tw hw 71 rfl) (tw hw 3 rfl) (tw hw 72 rfl) (by decide) at_126 rfl rfl (by decide) (by decide) (Nat.le_of_eq rfl) (ad rfl) (ad rfl) (leA HB (by decide)) (leM HB (by decide)) rfl (lenOf pd_4 rfl) (ct_badF hw h20 n0 t0) (kp ?_)
  refine w_if_ne (pcT := 204) (pcF := 132) C at_129 (by decide) (by decide) rfl (fun q129_1 => ?_) (fun q129_1 => ?_)
  · skip
    refine w_iconst (pc' := 205) (x := (1 : Int32)) C at_204 rfl rfl ?_
    refine w_goto (pc' := 209) C at_205 (by decide) (by decide) ?_
    exact K209 (1 : Int32) (if_neg q129_1)
  · skip
    refine w_aload (pc' := 134) C at_132 rfl rfl rfl ?_
    refine w_iconst (pc' := 135) (x := (1 : Int32)) C at_134 rfl rfl ?_
    refine wA_caload (pc' := 136) (v := .int t1) C at_135 rfl O_a1 (by decide) rfl ?_
    refine w_callS (pc' := 139) (argsL := [.int t1]) (st := []) (W := 0) (ce' := (2 + 2 * u16)) (sl' := (12 + 260 * u16)) C (tw hw 70 rfl) (tw hw 71 rfl) (tw hw 3 rfl) (tw hw 72 rfl) (by decide) at_136 rfl rfl (by decide) (by decide) (Nat.le_of_eq rfl) (ad rfl) (ad rfl) (leA HB (by decide)) (leM HB (by decide)) rfl (lenOf pd_4 rfl) (ct_badF hw h20 n0 t1) (kp ?_)
    refine w_if_ne (pcT := 204) (pcF := 142) C at_139 (by decide) (by decide) rfl (fun q139_2 => ?_) (fun q139_2 => ?_)
    · skip
      refine w_iconst (pc' := 205) (x := (1 : Int32)) C at_204 rfl rfl ?_
      refine w_goto (pc' := 209) C at_205 (by decide) (by decide) ?_
      exact K209 (1 : Int32) (Eq.trans (if_pos q129_1) (if_neg q139_2))
    · skip
      refine w_aload (pc' := 144) C at_142 rfl rfl rfl ?_
      refine w_iconst (pc' := 145) (x := (2 : Int32)) C at_144 rfl rfl ?_
      refine wA_caload (pc' := 146) (v := .int t2) C at_145 rfl O_a1 (by decide) rfl ?_
      refine w_callS (pc' := 149) (argsL := [.int t2]) (st := []) (W := 0) (ce' := (2 + 2 * u16)) (sl' := (12 + 260 * u16)) C (tw hw 70 rfl) (tw hw 71 rfl) (tw hw 3 rfl) (tw hw 72 rfl) (by decide) at_146 rfl rfl (by decide) (by decide) (Nat.le_of_eq rfl) (ad rfl) (ad rfl) (leA HB (by decide)) (leM HB (by decide)) rfl (lenOf pd_4 rfl) (ct_badF hw h20 n0 t2) (kp ?_)
      refine w_if_ne (pcT := 204) (pcF := 152) C at_149 (by decide) (by decide) rfl (fun q149_3 => ?_) (fun q149_3 => ?_)
      · skip
        refine w_iconst (pc' := 205) (x := (1 : Int32)) C at_204 rfl rfl ?_
        refine w_goto (pc' := 209) C at_205 (by decide) (by decide) ?_
        exact K209 (1 : Int32) (Eq.trans (if_pos q129_1) (Eq.trans (if_pos q139_2) (if_neg q149_3)))
      · skip
        refine w_aload (pc' := 154) C at_152 rfl rfl rfl ?_
        refine w_iconst (pc' := 155) (x := (3 : Int32)) C at_154 rfl rfl ?_
        refine wA_caload (pc' := 156) (v := .int t3) C at_155 rfl O_a1 (by decide) rfl ?_
        refine w_callS (pc' := 159) (argsL := [.int t3]) (st := []) (W := 0) (ce' := (2 + 2 * u16)) (sl' := (12 + 260 * u16)) C (tw hw 70 rfl) (tw hw 71 rfl) (tw hw 3 rfl) (tw hw 72 rfl) (by decide) at_156 rfl rfl (by decide) (by decide) (Nat.le_of_eq rfl) (ad rfl) (ad rfl) (leA HB (by decide)) (leM HB (by decide)) rfl (lenOf pd_4 rfl) (ct_badF hw h20 n0 t3) (kp ?_)
        refine w_if_ne (pcT := 204) (pcF := 162) C at_159 (by decide) (by decide) rfl (fun q159_4 => ?_) (fun q159_4 => ?_)
        · skip
          refine w_iconst (pc' := 205) (x := (1 : Int32)) C at_204 rfl rfl ?_
          refine w_goto (pc' := 209) C at_205 (by decide) (by decide) ?_
          exact K209 (1 : Int32) (Eq.trans (if_pos q129_1) (Eq.trans (if_pos q139_2) (Eq.trans (if_pos q149_3) (if_neg q159_4))))
        · skip
          refine w_aload (pc' := 164) C at_162 rfl rfl rfl ?_
          refine w_iconst (pc' := 165) (x := (4 : Int32)) C at_164 rfl rfl ?_
          refine wA_caload (pc' := 166) (v := .int t4) C at_165 rfl O_a1 (by decide) rfl ?_
          refine w_callS (pc' := 169) (argsL := [.int t4]) (st := []) (W := 0) (ce' := (2 + 2 * u16)) (sl' := (12 + 260 * u16)) C (tw hw 70 rfl) (tw hw 71 rfl) (tw hw 3 rfl) (tw hw 72 rfl) (by decide) at_166 rfl rfl (by decide) (by decide) (Nat.le_of_eq rfl) (ad rfl) (ad rfl) (leA HB (by decide)) (leM HB (by decide)) rfl (lenOf pd_4 rfl) (ct_badF hw h20 n0 t4) (kp ?_)
          refine w_if_ne (pcT := 204) (pcF := 172) C at_169 (by decide) (by decide) rfl (fun q169_5 => ?_) (fun q169_5 => ?_)
          · skip
            refine w_iconst (pc' := 205) (x := (1 : Int32)) C at_204 rfl rfl ?_
            refine w_goto (pc' := 209) C at_205 (by decide) (by decide) ?_
            exact K209 (1 : Int32) (Eq.trans (if_pos q129_1) (Eq.trans (if_pos q139_2) (Eq.trans (if_pos q149_3) (Eq.trans (if_pos q159_4) (if_neg q169_5)))))
          · skip
            refine w_aload (pc' := 174) C at_172 rfl rfl rfl ?_
            refine w_iconst (pc' := 175) (x := (5 : Int32)) C at_174 rfl rfl ?_
            refine wA_caload (pc' := 176) (v := .int t5) C at_175 rfl O_a1 (by decide) rfl ?_
            refine w_callS (pc' := 179) (argsL := [.int t5]) (st := []) (W := 0) (ce' := (2 + 2 * u16)) (sl' := (12 + 260 * u16)) C (tw hw 70 rfl) (tw hw 71 rfl) (tw hw 3 rfl) (tw hw 72 rfl) (by decide) at_176 rfl rfl (by decide) (by decide) (Nat.le_of_eq rfl) (ad rfl) (ad rfl) (leA HB (by decide)) (leM HB (by decide)) rfl (lenOf pd_4 rfl) (ct_badF hw h20 n0 t5) (kp ?_)
            refine w_if_ne (pcT := 204) (pcF := 182) C at_179 (by decide) (by decide) rfl (fun q179_6 => ?_) (fun q179_6 => ?_)
            · skip
              refine w_iconst (pc' := 205) (x := (1 : Int32)) C at_204 rfl rfl ?_
              refine w_goto (pc' := 209) C at_205 (by decide) (by decide) ?_
              exact K209 (1 : Int32) (Eq.trans (if_pos q129_1) (Eq.trans (if_pos q139_2) (Eq.trans (if_pos q149_3) (Eq.trans (if_pos q159_4) (Eq.trans (if_pos q169_5) (if_neg q179_6))))))
            · skip
              refine w_aload (pc' := 184) C at_182 rfl rfl rfl ?_
              refine w_bipush (pc' := 186) (x := (6 : Int32)) C at_184 rfl rfl ?_
              refine wA_caload (pc' := 187) (v := .int t6) C at_186 rfl O_a1 (by decide) rfl ?_
              refine w_callS (pc' := 190) (argsL := [.int t6]) (st := []) (W := 0) (ce' := (2 + 2 * u16)) (sl' := (12 + 260 * u16)) C (tw hw 70 rfl) (tw hw 71 rfl) (tw hw 3 rfl) (tw hw 72 rfl) (by decide) at_187 rfl rfl (by decide) (by decide) (Nat.le_of_eq rfl) (ad rfl) (ad rfl) (leA HB (by decide)) (leM HB (by decide)) rfl (lenOf pd_4 rfl) (ct_badF hw h20 n0 t6) (kp ?_)
              refine w_if_ne (pcT := 204) (pcF := 193) C at_190 (by decide) (by decide) rfl (fun q190_7 => ?_) (fun q190_7 => ?_)
              · skip
                refine w_iconst (pc' := 205) (x := (1 : Int32)) C at_204 rfl rfl ?_
                refine w_goto (pc' := 209) C at_205 (by decide) (by decide) ?_
                exact K209 (1 : Int32) (Eq.trans (if_pos q129_1) (Eq.trans (if_pos q139_2) (Eq.trans (if_pos q149_3) (Eq.trans (if_pos q159_4) (Eq.trans (if_pos q169_5) (Eq.trans (if_pos q179_6) (if_neg q190_7)))))))
              · skip
                refine w_aload (pc' := 195) C at_193 rfl rfl rfl ?_
                refine w_bipush (pc' := 197) (x := (7 : Int32)) C at_195 rfl rfl ?_
                refine wA_caload (pc' := 198) (v := .int t7) C at_197 rfl O_a1 (by decide) rfl ?_
                refine w_callS (pc' := 201) (argsL := [.int t7]) (st := []) (W := 0) (ce' := (2 + 2 * u16)) (sl' := (12 + 260 * u16)) C (tw hw 70 rfl) (tw hw 71 rfl) (tw hw 3 rfl) (tw hw 72 rfl) (by decide) at_198 rfl rfl (by decide) (by decide) (Nat.le_of_eq rfl) (ad rfl) (ad rfl) (leA HB (by decide)) (leM HB (by decide)) rfl (lenOf pd_4 rfl) (ct_badF hw h20 n0 t7) (kp ?_)
                refine w_if_eq (pcT := 208) (pcF := 204) C at_201 (by decide) (by decide) rfl (fun q201_8 => ?_) (fun q201_8 => ?_)
                · skip
                  refine w_iconst (pc' := 209) (x := (0 : Int32)) C at_208 rfl rfl ?_
                  exact K209 (0 : Int32) (Eq.trans (if_pos q129_1) (Eq.trans (if_pos q139_2) (Eq.trans (if_pos q149_3) (Eq.trans (if_pos q159_4) (Eq.trans (if_pos q169_5) (Eq.trans (if_pos q179_6) (Eq.trans (if_pos q190_7) (if_pos q201_8))))))))
                · skip
                  refine w_iconst (pc' := 205) (x := (1 : Int32)) C at_204 rfl rfl ?_
                  refine w_goto (pc' := 209) C at_205 (by decide) (by decide) ?_
                  exact K209 (1 : Int32) (Eq.trans (if_pos q129_1) (Eq.trans (if_pos q139_2) (Eq.trans (if_pos q149_3) (Eq.trans (if_pos q159_4) (Eq.trans (if_pos q169_5) (Eq.trans (if_pos q179_6) (Eq.trans (if_pos q190_7) (if_neg q201_8))))))))
theorem q_law {v : Option Value} (q : v = some (.int 1)) : v = some (.int 1) := q
theorem mem_c : ∀ p ∈ EL, p ∈ consts_1 := by decide +kernel
set_option maxRecDepth 65536 in
set_option maxHeartbeats 40000000 in
theorem comes_1 {Post : Tables → Env → Array Value → State → Outcome → State → Prop} (hpost : ∀ tb e args s v u, (limb_1_1.after args s (.returned v) u = true ∧ limb_1_2.after args s (.returned v) u = true ∧ True) → ReturnedEndW s (.returned v) u (Jvm.fieldLocs frame_1_writes args s ++ Jvm.arrayLocs frame_1_arrays args s ++ Jvm.staticLocs frame_1_statics s) 16 2176 → Post tb e args s (.returned v) u) :
    ArmFor flags0 classFile x code maxLocals ret World_1 tables_1 room_1 Calls_1 rest_1 Pre_1 Post := by
  intro l hfl _ _ p e ha hc hk s m args below hf hA hF happ hP
  obtain ⟨hcalls, hrest, hpre⟩ := hP
  obtain ⟨-, -, -, hnamed, -, -, -, hat⟩ := (Spec.applies_iff hf).mp happ
  obtain ⟨hg, hn⟩ := and_e (Cond.before_iff.mp (show (Jvm.Cond.and given_1 narrow_1).before args s = true from hpre))
  obtain ⟨h1, hr0⟩ := and_e hg
  obtain ⟨w0, w1, w2, w3, rfl⟩ : ∃ w0 w1 w2 w3 : Value, args = #[w0, w1, w2, w3] := by
    have hs : args.size = 4 := by simpa [Cond.value, given_1] using h1
    obtain ⟨L⟩ := args
    match L, hs with
    | [w0, w1, w2, w3], _ => exact ⟨w0, w1, w2, w3, rfl⟩
  have hw := fun d (hd : d ∈ tables_1) => atoms_spec (ws := Jvm.Cond.code x code maxLocals ret :: tables_1) hat d (List.mem_cons_of_mem _ hd)
  obtain ⟨hsets, hown0⟩ := atoms_of _ (rest_1_c_eq ▸ (show rest_1_c.before _ s = true from hrest))
  obtain ⟨hi0, hr1⟩ := and_e hr0
  obtain ⟨i0, e0⟩ := isL_v hi0
  obtain rfl : w0 = (.long i0) := Option.some.inj e0
  obtain ⟨hi1, hr2⟩ := and_e hr1
  obtain ⟨i1, e1⟩ := isL_v hi1
  obtain rfl : w1 = (.long i1) := Option.some.inj e1
  obtain ⟨hi2, hr3⟩ := and_e hr2
  obtain ⟨i2, e2⟩ := isL_v hi2
  obtain rfl : w2 = (.long i2) := Option.some.inj e2
  have hi3 := hr3
  obtain ⟨i3, e3⟩ := isL_v hi3
  obtain rfl : w3 = (.long i3) := Option.some.inj e3
  obtain ⟨zc, ez⟩ := is_v (Cond.before_iff.mp (hsets _ (List.mem_of_getElem? (i := 1) rfl)))
  have S1 : Sta s s.heap "java/lang/String" "COMPACT_STRINGS" "Z" (.int zc) := Sta.start ez (Or.inl (hsets _ (List.mem_of_getElem? (i := 0) rfl)))
  have hzc : ¬ zc = 0 := gotF (Cond.eq_ints ez (Term.int_eval (0))) (not_v (Cond.before_iff.mp (hsets _ (List.mem_of_getElem? (i := 2) rfl))))
  obtain ⟨fv, ef, hfv⟩ := isR_v (Cond.before_iff.mp (hsets _ (List.mem_of_getElem? (i := 8) rfl)))
  have S2 : Sta s s.heap "jdk/internal/util/Preconditions" "SIOOBE_FORMATTER" "Ljava/util/function/BiFunction;" fv := Sta.start ef (Or.inl (hsets _ (List.mem_of_getElem? (i := 7) rfl)))
  have hC : CHv s EL s.vm s.heap := CHv.start (hEL_ok hw) (fun p hp => hcalls.1 p (mem_c p hp)) (hsets _ (List.mem_of_getElem? (i := 2) rfl)) (tw hw 8 rfl) (tw hw 7 rfl)
  obtain ⟨n, o, h1, h2, h3, _, L, rfl, ⟨q, N⟩, -, w, -, hwb, hq⟩ := ct_law (l := l) (Z := s) (a0 := _) hw tables_1 s.heap s.heap.size i0 i1 i2 i3 zc fv (Nat.le_refl _) hzc hfv S1 S2 p e ha hc hk s m _ below hf ((Spec.applies_iff_loose hf).mp happ).1 ⟨rfl, State.Warmed39.refl s, rfl, hC⟩ trivial
  have q1 := q_law q
  subst q1
  refine ⟨n, _, h1, h2, h3, hpost _ _ _ _ _ _ ⟨Cond.after_iff.mpr rfl, Cond.after_iff.mpr (eq_i res_at (Term.int_eval (1)) rfl), trivial⟩ ⟨hq.1, hq.2.1, hq.2.2.1, (hq.2.2.2.sift fun y hy => Or.inr (N y hy)).mono (by omega) (by omega)⟩⟩
theorem main_1_1 : Claimed_1_1 := comes_1 fun _ _ _ _ _ _ h hF => ⟨h.1, hF⟩
theorem main_1_2 : Claimed_1_2 := comes_1 fun _ _ _ _ _ _ h hF => ⟨h.2.1, hF⟩
end Jvm.Pilot.@@N@@
namespace Jvm.Pilot.@@N@@
open Jvm Jvm.ClassFile Sem Op Lib Jvm.Free Jvm.Stand Jvm.Pilot.@@N@@.Jvm.D
/-! MADE BY PROGRAM (witnessworld.py) out of the Statement's table words and the real class files: 20 classes; the members and pool entries that the words name. The judged class is class 1, her method 8. -/
namespace start1
open Jvm.ClassFile
def u (s : String) : CpInfo := .utf8 (stringToUtf16 s)
/-- a pool by its gaps: so many unusable entries, then the entry; so many at the end -/
def gap : Nat → List CpInfo → List CpInfo
  | 0, r => r
  | n + 1, r => .unusable :: gap n r
def poolList (es : List (Nat × CpInfo)) (last : Nat) : List CpInfo := es.foldr (fun e r => gap e.1 (e.2 :: r)) (gap last [])
def pool (es : List (Nat × CpInfo)) (last : Nat) : Array CpInfo := ⟨poolList es last⟩
def fileOf (pool : Array CpInfo) (this : Nat) (attrs : Array Attribute := #[]) (ms : Array MethodInfo := #[]) (fl : Nat := 33) (sup : Nat := 0) (ifs : Array Nat := #[]) (fds : Array FieldInfo := #[]) : ClassFile where
  minorVersion := 0
  majorVersion := 65
  constantPool := pool
  accessFlags := fl
  thisClass := this
  superClass := sup
  interfaces := ifs
  fields := fds
  methods := ms
  attributes := attrs
def plain (name : String) (sup : Option ClassId) : Class where
  name := name
  kind := .ordinary
  loader := none
  accessFlags := 33
  super := sup
  interfaces := #[]
  cf := none
  fields := #[]
  methods := #[]
  instanceTypes := #[]
  staticTypes := #[]
  resolved := #[]
  callSites := []
  init := .initialized
  statics := none
  mirror := none

def pool0 : Array CpInfo := pool [(5, u "<init>"), (0, u "()V"), (1, .class_ 10), (1, u "java/lang/Object")] 113

def k0c0 : Code := { maxStack := 0, maxLocals := 1, code := object_method_1_code, exceptionTable := #[], attributes := #[] }
def k0m0 : Method := { name := "<init>", desc := "()V", sig := { parameters := [], returnType := none }, accessFlags := 1, code := some k0c0 }
/-- java/lang/Object -/
def k0 : Class := { plain "java/lang/Object" none with
  accessFlags := 33
  interfaces := #[]
  cf := some (fileOf pool0 8 #[] #[{ accessFlags := 1, nameIndex := 5, descriptorIndex := 6, attributes := #[] }] 33 0 #[] #[])
  fields := #[]
  methods := #[k0m0]
  instanceTypes := #[]
  staticTypes := #[]
  resolved := Array.replicate 124 none
  statics := none }

def pool1 : Array CpInfo := pool [(2, .class_ 4), (0, .nameAndType 5 6), (0, u "java/lang/Object"), (0, u "<init>"), (0, u "()V"), (0, .string 8), (0, u "ABCDEFGHIJKLMNOPQRSTUVWXYZabcdefghijklmnopqrstuvwxyz0123456789+/"), (0, .methodref 10 11), (0, .class_ 12), (0, .nameAndType 13 14), (0, u "java/lang/String"), (0, u "charAt"), (0, u "(I)C"), (0, .string 16), (0, u " \t\n\r"), (0, .methodref 18 19), (0, .class_ 20), (0, .nameAndType 21 22), (0, u "com/example/fedlint/fedlint/Base64ValidPinLaw"), (0, u "sp"), (0, u "(C)Z"), (0, .methodref 18 24), (0, .nameAndType 25 26), (0, u "val"), (0, u "(C)I"), (0, .methodref 18 28), (0, .nameAndType 29 14), (0, u "draw"), (0, .class_ 31), (0, u "com/example/fedlint/fedlint/XsdDatatypes$Base64"), (0, .methodref 30 3), (0, .methodref 30 34), (0, .nameAndType 35 36), (0, u "accept"), (0, u "([CII)V"), (0, .methodref 30 38), (0, .nameAndType 39 40), (0, u "valid"), (0, u "()Z"), (0, .methodref 18 42), (0, .nameAndType 43 22), (0, u "bad"), (0, .methodref 18 45), (0, .nameAndType 46 26), (0, u "nonSp"), (0, .methodref 18 48), (0, .nameAndType 49 26), (0, u "eq"), (0, .methodref 18 51), (0, .nameAndType 52 53), (0, u "pick"), (0, u "(CI)I"), (3, u "law"), (0, u "(JJJJ)Z")] 8

def k1m0 : Method := { name := "<init>", desc := "()V", sig := { parameters := [], returnType := none }, accessFlags := 1, code := none }
def k1c1 : Code := { maxStack := 3, maxLocals := 2, code := method_2_code, exceptionTable := #[], attributes := #[] }
def k1m1 : Method := { name := "draw", desc := "(I)C", sig := { parameters := [.int], returnType := some .char }, accessFlags := 10, code := some k1c1 }
def k1c2 : Code := { maxStack := 2, maxLocals := 1, code := method_3_code, exceptionTable := #[], attributes := #[] }
def k1m2 : Method := { name := "sp", desc := "(C)Z", sig := { parameters := [.char], returnType := some .boolean }, accessFlags := 10, code := some k1c2 }
def k1c3 : Code := { maxStack := 2, maxLocals := 1, code := method_4_code, exceptionTable := #[], attributes := #[] }
def k1m3 : Method := { name := "val", desc := "(C)I", sig := { parameters := [.char], returnType := some .int }, accessFlags := 10, code := some k1c3 }
def k1c4 : Code := { maxStack := 2, maxLocals := 1, code := method_5_code, exceptionTable := #[], attributes := #[] }
def k1m4 : Method := { name := "bad", desc := "(C)Z", sig := { parameters := [.char], returnType := some .boolean }, accessFlags := 10, code := some k1c4 }
def k1c5 : Code := { maxStack := 1, maxLocals := 1, code := method_6_code, exceptionTable := #[], attributes := #[] }
def k1m5 : Method := { name := "nonSp", desc := "(C)I", sig := { parameters := [.char], returnType := some .int }, accessFlags := 10, code := some k1c5 }
def k1c6 : Code := { maxStack := 2, maxLocals := 1, code := method_7_code, exceptionTable := #[], attributes := #[] }
def k1m6 : Method := { name := "eq", desc := "(C)I", sig := { parameters := [.char], returnType := some .int }, accessFlags := 10, code := some k1c6 }
def k1c7 : Code := { maxStack := 1, maxLocals := 3, code := method_8_code, exceptionTable := #[], attributes := #[] }
def k1m7 : Method := { name := "pick", desc := "(CI)I", sig := { parameters := [.char, .int], returnType := some .int }, accessFlags := 10, code := some k1c7 }
def k1c8 : Code := { maxStack := 5, maxLocals := 19, code := code, exceptionTable := #[], attributes := #[] }
def k1m8 : Method := { name := "law", desc := "(JJJJ)Z", sig := { parameters := [.long, .long, .long, .long], returnType := some .boolean }, accessFlags := 9, code := some k1c8 }
/-- com/example/fedlint/fedlint/Base64ValidPinLaw -/
def k1 : Class := { plain "com/example/fedlint/fedlint/Base64ValidPinLaw" (some 0) with
  accessFlags := 49
  interfaces := #[]
  cf := some (fileOf pool1 18 #[] #[{ accessFlags := 1, nameIndex := 5, descriptorIndex := 6, attributes := #[] }, { accessFlags := 10, nameIndex := 29, descriptorIndex := 14, attributes := #[] }, { accessFlags := 10, nameIndex := 21, descriptorIndex := 22, attributes := #[] }, { accessFlags := 10, nameIndex := 25, descriptorIndex := 26, attributes := #[] }, { accessFlags := 10, nameIndex := 43, descriptorIndex := 22, attributes := #[] }, { accessFlags := 10, nameIndex := 46, descriptorIndex := 26, attributes := #[] }, { accessFlags := 10, nameIndex := 49, descriptorIndex := 26, attributes := #[] }, { accessFlags := 10, nameIndex := 52, descriptorIndex := 53, attributes := #[] }, { accessFlags := 9, nameIndex := 57, descriptorIndex := 58, attributes := #[] }] 49 2 #[] #[])
  fields := #[]
  methods := #[k1m0, k1m1, k1m2, k1m3, k1m4, k1m5, k1m6, k1m7, k1m8]
  instanceTypes := #[]
  staticTypes := #[]
  resolved := Array.replicate 67 none
  statics := none }

def pool2 : Array CpInfo := pool [(1, .class_ 2), (0, u "java/io/Serializable"), (0, .class_ 4), (0, u "java/lang/Object")] 2

/-- java/io/Serializable -/
def k2 : Class := { plain "java/io/Serializable" (some 0) with
  accessFlags := 1537
  interfaces := #[]
  cf := some (fileOf pool2 1 #[] #[] 1537 3 #[] #[])
  fields := #[]
  methods := #[]
  instanceTypes := #[]
  staticTypes := #[]
  resolved := Array.replicate 7 none
  statics := none }

def pool3 : Array CpInfo := pool [(1, .class_ 2), (0, u "java/lang/Comparable"), (0, .class_ 4), (0, u "java/lang/Object")] 7

/-- java/lang/Comparable -/
def k3 : Class := { plain "java/lang/Comparable" (some 0) with
  accessFlags := 1537
  interfaces := #[]
  cf := some (fileOf pool3 1 #[] #[] 1537 3 #[] #[])
  fields := #[]
  methods := #[]
  instanceTypes := #[]
  staticTypes := #[]
  resolved := Array.replicate 12 none
  statics := none }

def pool4 : Array CpInfo := pool [(2, .class_ 4), (1, u "java/lang/CharSequence"), (42, .class_ 48), (0, u "java/lang/CharSequence$1CodePointIterator"), (10, .class_ 60), (0, u "java/lang/CharSequence$1CharIterator"), (5, .class_ 67), (0, u "java/lang/Object")] 63

/-- java/lang/CharSequence -/
def k4 : Class := { plain "java/lang/CharSequence" (some 0) with
  accessFlags := 1537
  interfaces := #[]
  cf := some (fileOf pool4 2 #[.nestMembers #[47, 59]] #[] 1537 66 #[] #[])
  fields := #[]
  methods := #[]
  instanceTypes := #[]
  staticTypes := #[]
  resolved := Array.replicate 131 none
  statics := none }

def pool5 : Array CpInfo := pool [(1, .class_ 2), (0, u "java/lang/constant/Constable"), (0, .class_ 4), (0, u "java/lang/Object")] 6

/-- java/lang/constant/Constable -/
def k5 : Class := { plain "java/lang/constant/Constable" (some 0) with
  accessFlags := 1537
  interfaces := #[]
  cf := some (fileOf pool5 1 #[] #[] 1537 3 #[] #[])
  fields := #[]
  methods := #[]
  instanceTypes := #[]
  staticTypes := #[]
  resolved := Array.replicate 11 none
  statics := none }

def pool6 : Array CpInfo := pool [(1, .class_ 2), (0, u "java/lang/constant/ConstantDesc"), (0, .class_ 4), (0, u "java/lang/Object")] 32

/-- java/lang/constant/ConstantDesc -/
def k6 : Class := { plain "java/lang/constant/ConstantDesc" (some 0) with
  accessFlags := 1537
  interfaces := #[]
  cf := some (fileOf pool6 1 #[] #[] 1537 3 #[] #[])
  fields := #[]
  methods := #[]
  instanceTypes := #[]
  staticTypes := #[]
  resolved := Array.replicate 37 none
  statics := none }

def pool7 : Array CpInfo := pool [(2, .class_ 4), (1, u "java/lang/Object"), (0, u "<init>"), (0, u "()V"), (2, .fieldref 10 11), (0, .class_ 12), (0, .nameAndType 13 14), (0, u "java/lang/String"), (0, u "value"), (0, u "[B"), (0, .fieldref 10 16), (0, .nameAndType 17 18), (0, u "coder"), (0, u "B"), (2, u "hash"), (0, u "I"), (2, u "hashIsZero"), (0, u "Z"), (11, .fieldref 10 39), (0, .nameAndType 40 26), (0, u "COMPACT_STRINGS"), (66, .class_ 109), (1, u "java/lang/StringLatin1"), (32, u "()Z"), (220, u "([BI)C"), (27, u "(II)V"), (35, u "(I)C"), (64, .methodref 10 493), (0, .nameAndType 494 142), (0, u "isLatin1"), (0, .methodref 107 496), (0, .nameAndType 497 363), (0, u "charAt"), (3, u "checkIndex"), (73, .class_ 576), (0, u "java/lang/CharSequence"), (22, u "CASE_INSENSITIVE_ORDER"), (0, u "Ljava/util/Comparator;"), (452, .fieldref 1054 1055), (0, .class_ 1056), (0, .nameAndType 1057 1058), (0, u "jdk/internal/util/Preconditions"), (0, u "SIOOBE_FORMATTER"), (0, u "Ljava/util/function/BiFunction;"), (0, .methodref 1054 1060), (0, .nameAndType 501 1061), (0, u "(IILjava/util/function/BiFunction;)I"), (39, u "serialPersistentFields"), (0, u "[Ljava/io/ObjectStreamField;"), (0, .class_ 1104), (0, u "java/lang/String$CaseInsensitiveComparator"), (1, .class_ 1107), (0, u "java/io/Serializable"), (0, .class_ 1109), (0, u "java/lang/Comparable"), (0, .class_ 1111), (0, u "java/lang/constant/Constable"), (0, .class_ 1113), (0, u "java/lang/constant/ConstantDesc"), (2, u "serialVersionUID"), (0, u "J"), (3, u "REPL"), (0, u "C"), (2, u "LATIN1"), (1, u "UTF16")] 323

def k7m0 : Method := { name := "<init>", desc := "()V", sig := { parameters := [], returnType := none }, accessFlags := 1, code := none }
def k7c1 : Code := { maxStack := 2, maxLocals := 2, code := jdk_42_method_56_code, exceptionTable := #[], attributes := #[] }
def k7m1 : Method := { name := "charAt", desc := "(I)C", sig := { parameters := [.int], returnType := some .char }, accessFlags := 1, code := some k7c1 }
def k7c2 : Code := { maxStack := 1, maxLocals := 1, code := jdk_42_method_154_code, exceptionTable := #[], attributes := #[] }
def k7m2 : Method := { name := "isLatin1", desc := "()Z", sig := { parameters := [], returnType := some .boolean }, accessFlags := 0, code := some k7c2 }
def k7c3 : Code := { maxStack := 3, maxLocals := 2, code := jdk_42_method_155_code, exceptionTable := #[], attributes := #[] }
def k7m3 : Method := { name := "checkIndex", desc := "(II)V", sig := { parameters := [.int, .int], returnType := none }, accessFlags := 8, code := some k7c3 }
/-- java/lang/String -/
def k7 : Class := { plain "java/lang/String" (some 0) with
  accessFlags := 49
  interfaces := #[2, 3, 4, 5, 6]
  cf := some (fileOf pool7 10 #[.nestMembers #[1103]] #[{ accessFlags := 1, nameIndex := 5, descriptorIndex := 6, attributes := #[] }, { accessFlags := 1, nameIndex := 497, descriptorIndex := 427, attributes := #[] }, { accessFlags := 0, nameIndex := 494, descriptorIndex := 142, attributes := #[] }, { accessFlags := 8, nameIndex := 501, descriptorIndex := 391, attributes := #[] }] 49 2 #[1106, 1108, 575, 1110, 1112] #[{ accessFlags := 18, nameIndex := 13, descriptorIndex := 14, attributes := #[] }, { accessFlags := 18, nameIndex := 17, descriptorIndex := 18, attributes := #[] }, { accessFlags := 2, nameIndex := 21, descriptorIndex := 22, attributes := #[] }, { accessFlags := 2, nameIndex := 25, descriptorIndex := 26, attributes := #[] }, { accessFlags := 26, nameIndex := 1116, descriptorIndex := 1117, attributes := #[] }, { accessFlags := 24, nameIndex := 40, descriptorIndex := 26, attributes := #[] }, { accessFlags := 26, nameIndex := 1101, descriptorIndex := 1102, attributes := #[] }, { accessFlags := 26, nameIndex := 1121, descriptorIndex := 1122, attributes := #[] }, { accessFlags := 25, nameIndex := 599, descriptorIndex := 600, attributes := #[] }, { accessFlags := 24, nameIndex := 1125, descriptorIndex := 18, attributes := #[] }, { accessFlags := 24, nameIndex := 1127, descriptorIndex := 18, attributes := #[] }])
  fields := #[{ name := "value", type := (.array .byte), accessFlags := 18, slot := 0, constantValue := 0 }, { name := "coder", type := .byte, accessFlags := 18, slot := 1, constantValue := 0 }, { name := "hash", type := .int, accessFlags := 2, slot := 2, constantValue := 0 }, { name := "hashIsZero", type := .boolean, accessFlags := 2, slot := 3, constantValue := 0 }, { name := "serialVersionUID", type := .long, accessFlags := 26, slot := 0, constantValue := 0 }, { name := "COMPACT_STRINGS", type := .boolean, accessFlags := 24, slot := 1, constantValue := 0 }, { name := "serialPersistentFields", type := (.array (.object "java/io/ObjectStreamField")), accessFlags := 26, slot := 2, constantValue := 0 }, { name := "REPL", type := .char, accessFlags := 26, slot := 3, constantValue := 0 }, { name := "CASE_INSENSITIVE_ORDER", type := (.object "java/util/Comparator"), accessFlags := 25, slot := 4, constantValue := 0 }, { name := "LATIN1", type := .byte, accessFlags := 24, slot := 5, constantValue := 0 }, { name := "UTF16", type := .byte, accessFlags := 24, slot := 6, constantValue := 0 }]
  methods := #[k7m0, k7m1, k7m2, k7m3]
  instanceTypes := #[(.array .byte), .byte, .int, .boolean]
  staticTypes := #[.long, .boolean, (.array (.object "java/io/ObjectStreamField")), .char, (.object "java/util/Comparator"), .byte, .byte]
  resolved := Array.replicate 1451 none
  statics := some 0 }

def pool8 : Array CpInfo := pool [(1, .class_ 2), (0, u "java/lang/String"), (1, .class_ 6), (1, u "java/lang/Object"), (0, u "<init>"), (0, u "()V"), (0, .methodref 1 10), (0, .nameAndType 11 12), (0, u "checkIndex"), (0, u "(II)V"), (1, .class_ 16), (1, u "java/lang/StringLatin1"), (36, u "([BI)C"), (67, u "$assertionsDisabled"), (0, u "Z"), (98, .class_ 223), (1, u "java/lang/StringLatin1$LinesSpliterator"), (28, u "charAt"), (137, .class_ 391), (0, u "java/lang/StringLatin1$CharsSpliterator")] 3

def k8m0 : Method := { name := "<init>", desc := "()V", sig := { parameters := [], returnType := none }, accessFlags := 0, code := none }
def k8c1 : Code := { maxStack := 2, maxLocals := 2, code := jdk_43_method_2_code, exceptionTable := #[], attributes := #[] }
def k8m1 : Method := { name := "charAt", desc := "([BI)C", sig := { parameters := [(.array .byte), .int], returnType := some .char }, accessFlags := 9, code := some k8c1 }
/-- java/lang/StringLatin1 -/
def k8 : Class := { plain "java/lang/StringLatin1" (some 0) with
  accessFlags := 48
  interfaces := #[]
  cf := some (fileOf pool8 14 #[.nestMembers #[390, 221]] #[{ accessFlags := 0, nameIndex := 7, descriptorIndex := 8, attributes := #[] }, { accessFlags := 9, nameIndex := 252, descriptorIndex := 53, attributes := #[] }] 48 4 #[] #[{ accessFlags := 4120, nameIndex := 121, descriptorIndex := 122, attributes := #[] }])
  fields := #[{ name := "$assertionsDisabled", type := .boolean, accessFlags := 4120, slot := 0, constantValue := 0 }]
  methods := #[k8m0, k8m1]
  instanceTypes := #[]
  staticTypes := #[.boolean]
  resolved := Array.replicate 395 none
  statics := none }

def pool9 : Array CpInfo := pool [(2, .class_ 4), (1, u "java/lang/Object"), (0, u "<init>"), (0, u "()V"), (17, .class_ 26), (1, u "jdk/internal/util/Preconditions"), (6, u "checkIndex"), (21, .class_ 56), (0, u "jdk/internal/util/Preconditions$4"), (57, .class_ 115), (0, u "jdk/internal/util/Preconditions$1"), (7, u "SIOOBE_FORMATTER"), (0, u "Ljava/util/function/BiFunction;"), (0, .class_ 126), (0, u "jdk/internal/util/Preconditions$2"), (3, u "AIOOBE_FORMATTER"), (0, .class_ 132), (0, u "jdk/internal/util/Preconditions$3"), (3, u "IOOBE_FORMATTER"), (41, u "(IILjava/util/function/BiFunction;)I")] 15

def k9m0 : Method := { name := "<init>", desc := "()V", sig := { parameters := [], returnType := none }, accessFlags := 1, code := none }
def k9c1 : Code := { maxStack := 3, maxLocals := 3, code := jdk_41_method_11_code, exceptionTable := #[], attributes := #[] }
def k9m1 : Method := { name := "checkIndex", desc := "(IILjava/util/function/BiFunction;)I", sig := { parameters := [.int, .int, (.object "java/util/function/BiFunction")], returnType := some .int }, accessFlags := 9, code := some k9c1 }
/-- jdk/internal/util/Preconditions -/
def k9 : Class := { plain "jdk/internal/util/Preconditions" (some 0) with
  accessFlags := 33
  interfaces := #[]
  cf := some (fileOf pool9 24 #[.nestMembers #[55, 131, 125, 114]] #[{ accessFlags := 1, nameIndex := 5, descriptorIndex := 6, attributes := #[] }, { accessFlags := 9, nameIndex := 33, descriptorIndex := 178, attributes := #[] }] 33 2 #[] #[{ accessFlags := 25, nameIndex := 123, descriptorIndex := 124, attributes := #[] }, { accessFlags := 25, nameIndex := 130, descriptorIndex := 124, attributes := #[] }, { accessFlags := 25, nameIndex := 136, descriptorIndex := 124, attributes := #[] }])
  fields := #[{ name := "SIOOBE_FORMATTER", type := (.object "java/util/function/BiFunction"), accessFlags := 25, slot := 0, constantValue := 0 }, { name := "AIOOBE_FORMATTER", type := (.object "java/util/function/BiFunction"), accessFlags := 25, slot := 1, constantValue := 0 }, { name := "IOOBE_FORMATTER", type := (.object "java/util/function/BiFunction"), accessFlags := 25, slot := 2, constantValue := 0 }]
  methods := #[k9m0, k9m1]
  instanceTypes := #[]
  staticTypes := #[(.object "java/util/function/BiFunction"), (.object "java/util/function/BiFunction"), (.object "java/util/function/BiFunction")]
  resolved := Array.replicate 194 none
  statics := some 1 }

def pool10 : Array CpInfo := pool [(1, .methodref 2 3), (0, .class_ 4), (0, .nameAndType 5 6), (0, u "java/lang/Object"), (0, u "<init>"), (0, u "()V"), (0, .fieldref 8 9), (0, .class_ 10), (0, .nameAndType 11 12), (0, u "com/example/fedlint/fedlint/XsdDatatypes$Base64"), (0, u "length"), (0, u "I"), (0, .fieldref 8 14), (0, .nameAndType 15 12), (0, u "padding"), (0, .fieldref 8 17), (0, .nameAndType 18 12), (0, u "last"), (0, .fieldref 8 20), (0, .nameAndType 21 22), (0, u "broken"), (0, u "Z"), (0, .methodref 24 25), (0, .class_ 26), (0, .nameAndType 27 28), (0, u "com/example/fedlint/fedlint/XsdDatatypes"), (0, u "isSpace"), (0, u "(C)Z"), (0, .methodref 24 30), (0, .nameAndType 31 32), (0, u "base64Value"), (0, u "(C)I"), (3, u "accept"), (0, u "([CII)V"), (3, u "valid"), (0, u "()Z")] 5

def k10c0 : Code := { maxStack := 1, maxLocals := 1, code := prog_109_method_1_code, exceptionTable := #[], attributes := #[] }
def k10m0 : Method := { name := "<init>", desc := "()V", sig := { parameters := [], returnType := none }, accessFlags := 0, code := some k10c0 }
def k10c1 : Code := { maxStack := 4, maxLocals := 7, code := prog_109_method_3_code, exceptionTable := #[], attributes := #[] }
def k10m1 : Method := { name := "accept", desc := "([CII)V", sig := { parameters := [(.array .char), .int, .int], returnType := none }, accessFlags := 0, code := some k10c1 }
def k10c2 : Code := { maxStack := 2, maxLocals := 1, code := prog_109_method_4_code, exceptionTable := #[], attributes := #[] }
def k10m2 : Method := { name := "valid", desc := "()Z", sig := { parameters := [], returnType := some .boolean }, accessFlags := 0, code := some k10c2 }
/-- com/example/fedlint/fedlint/XsdDatatypes$Base64 -/
def k10 : Class := { plain "com/example/fedlint/fedlint/XsdDatatypes$Base64" (some 0) with
  accessFlags := 48
  interfaces := #[]
  cf := some (fileOf pool10 8 #[.nestHost 24] #[{ accessFlags := 0, nameIndex := 5, descriptorIndex := 6, attributes := #[] }, { accessFlags := 0, nameIndex := 36, descriptorIndex := 37, attributes := #[] }, { accessFlags := 0, nameIndex := 41, descriptorIndex := 42, attributes := #[] }] 48 2 #[] #[{ accessFlags := 2, nameIndex := 11, descriptorIndex := 12, attributes := #[] }, { accessFlags := 2, nameIndex := 15, descriptorIndex := 12, attributes := #[] }, { accessFlags := 2, nameIndex := 18, descriptorIndex := 12, attributes := #[] }, { accessFlags := 2, nameIndex := 21, descriptorIndex := 22, attributes := #[] }])
  fields := #[{ name := "length", type := .int, accessFlags := 2, slot := 0, constantValue := 0 }, { name := "padding", type := .int, accessFlags := 2, slot := 1, constantValue := 0 }, { name := "last", type := .int, accessFlags := 2, slot := 2, constantValue := 0 }, { name := "broken", type := .boolean, accessFlags := 2, slot := 3, constantValue := 0 }]
  methods := #[k10m0, k10m1, k10m2]
  instanceTypes := #[.int, .int, .int, .boolean]
  staticTypes := #[]
  resolved := Array.replicate 48 none
  statics := none }

def pool11 : Array CpInfo := pool [(2, .class_ 4), (1, u "java/lang/Object"), (0, u "<init>"), (0, u "()V"), (11, .class_ 20), (1, u "com/example/fedlint/fedlint/XsdDatatypes"), (1, u "(C)Z"), (2, u "ESCAPED"), (0, u "[Z"), (2, u "URI_CHARACTER"), (74, .class_ 105), (0, u "com/example/fedlint/fedlint/XsdDatatypes$Base64"), (18, u "isSpace"), (36, u "base64Value"), (0, u "(C)I")] 15

def k11m0 : Method := { name := "<init>", desc := "()V", sig := { parameters := [], returnType := none }, accessFlags := 2, code := none }
def k11c1 : Code := { maxStack := 2, maxLocals := 1, code := prog_108_method_9_code, exceptionTable := #[], attributes := #[] }
def k11m1 : Method := { name := "base64Value", desc := "(C)I", sig := { parameters := [.char], returnType := some .int }, accessFlags := 10, code := some k11c1 }
def k11c2 : Code := { maxStack := 2, maxLocals := 1, code := prog_108_method_14_code, exceptionTable := #[], attributes := #[] }
def k11m2 : Method := { name := "isSpace", desc := "(C)Z", sig := { parameters := [.char], returnType := some .boolean }, accessFlags := 8, code := some k11c2 }
/-- com/example/fedlint/fedlint/XsdDatatypes -/
def k11 : Class := { plain "com/example/fedlint/fedlint/XsdDatatypes" (some 0) with
  accessFlags := 48
  interfaces := #[]
  cf := some (fileOf pool11 18 #[.nestMembers #[104]] #[{ accessFlags := 2, nameIndex := 5, descriptorIndex := 6, attributes := #[] }, { accessFlags := 10, nameIndex := 161, descriptorIndex := 162, attributes := #[] }, { accessFlags := 8, nameIndex := 124, descriptorIndex := 22, attributes := #[] }] 48 2 #[] #[{ accessFlags := 26, nameIndex := 29, descriptorIndex := 26, attributes := #[] }, { accessFlags := 26, nameIndex := 25, descriptorIndex := 26, attributes := #[] }])
  fields := #[{ name := "URI_CHARACTER", type := (.array .boolean), accessFlags := 26, slot := 0, constantValue := 0 }, { name := "ESCAPED", type := (.array .boolean), accessFlags := 26, slot := 1, constantValue := 0 }]
  methods := #[k11m0, k11m1, k11m2]
  instanceTypes := #[]
  staticTypes := #[(.array .boolean), (.array .boolean)]
  resolved := Array.replicate 178 none
  statics := none }

def pool12 : Array CpInfo := pool [(9, u "<init>"), (6, .class_ 18), (1, u "java/lang/Object"), (0, u "()V"), (1, .class_ 23), (1, u "jdk/internal/util/ArraysSupport"), (0, u "LOG2_ARRAY_LONG_INDEX_SCALE"), (0, u "I"), (2, u "U"), (0, u "Ljdk/internal/misc/Unsafe;"), (8, u "BIG_ENDIAN"), (0, u "Z"), (8, u "LOG2_BYTE_BIT_SIZE"), (4, u "LOG2_ARRAY_INT_INDEX_SCALE"), (54, u "JLA"), (0, u "Ljdk/internal/access/JavaLangAccess;"), (11, u "LOG2_ARRAY_BOOLEAN_INDEX_SCALE"), (9, u "LOG2_ARRAY_BYTE_INDEX_SCALE"), (5, u "LOG2_ARRAY_CHAR_INDEX_SCALE"), (5, u "LOG2_ARRAY_SHORT_INDEX_SCALE"), (18, u "LOG2_ARRAY_FLOAT_INDEX_SCALE"), (24, u "LOG2_ARRAY_DOUBLE_INDEX_SCALE"), (89, u "T_BOOLEAN"), (2, u "T_CHAR"), (1, u "T_FLOAT"), (1, u "T_DOUBLE"), (1, u "T_BYTE"), (1, u "T_SHORT"), (1, u "T_INT"), (1, u "T_LONG"), (1, u "SOFT_MAX_ARRAY_LENGTH")] 83

def k12m0 : Method := { name := "<init>", desc := "()V", sig := { parameters := [], returnType := none }, accessFlags := 2, code := none }
/-- jdk/internal/util/ArraysSupport -/
def k12 : Class := { plain "jdk/internal/util/ArraysSupport" (some 0) with
  accessFlags := 33
  interfaces := #[]
  cf := some (fileOf pool12 21 #[] #[{ accessFlags := 2, nameIndex := 9, descriptorIndex := 19, attributes := #[] }] 33 16 #[] #[{ accessFlags := 24, nameIndex := 28, descriptorIndex := 29, attributes := #[] }, { accessFlags := 26, nameIndex := 38, descriptorIndex := 39, attributes := #[] }, { accessFlags := 25, nameIndex := 121, descriptorIndex := 25, attributes := #[] }, { accessFlags := 25, nameIndex := 131, descriptorIndex := 25, attributes := #[] }, { accessFlags := 25, nameIndex := 137, descriptorIndex := 25, attributes := #[] }, { accessFlags := 25, nameIndex := 143, descriptorIndex := 25, attributes := #[] }, { accessFlags := 25, nameIndex := 53, descriptorIndex := 25, attributes := #[] }, { accessFlags := 25, nameIndex := 24, descriptorIndex := 25, attributes := #[] }, { accessFlags := 25, nameIndex := 162, descriptorIndex := 25, attributes := #[] }, { accessFlags := 25, nameIndex := 187, descriptorIndex := 25, attributes := #[] }, { accessFlags := 26, nameIndex := 48, descriptorIndex := 25, attributes := #[] }, { accessFlags := 25, nameIndex := 277, descriptorIndex := 25, attributes := #[] }, { accessFlags := 25, nameIndex := 280, descriptorIndex := 25, attributes := #[] }, { accessFlags := 25, nameIndex := 282, descriptorIndex := 25, attributes := #[] }, { accessFlags := 25, nameIndex := 284, descriptorIndex := 25, attributes := #[] }, { accessFlags := 25, nameIndex := 286, descriptorIndex := 25, attributes := #[] }, { accessFlags := 25, nameIndex := 288, descriptorIndex := 25, attributes := #[] }, { accessFlags := 25, nameIndex := 290, descriptorIndex := 25, attributes := #[] }, { accessFlags := 25, nameIndex := 292, descriptorIndex := 25, attributes := #[] }, { accessFlags := 26, nameIndex := 108, descriptorIndex := 109, attributes := #[] }, { accessFlags := 25, nameIndex := 294, descriptorIndex := 25, attributes := #[] }])
  fields := #[{ name := "U", type := (.object "jdk/internal/misc/Unsafe"), accessFlags := 24, slot := 0, constantValue := 0 }, { name := "BIG_ENDIAN", type := .boolean, accessFlags := 26, slot := 1, constantValue := 0 }, { name := "LOG2_ARRAY_BOOLEAN_INDEX_SCALE", type := .int, accessFlags := 25, slot := 2, constantValue := 0 }, { name := "LOG2_ARRAY_BYTE_INDEX_SCALE", type := .int, accessFlags := 25, slot := 3, constantValue := 0 }, { name := "LOG2_ARRAY_CHAR_INDEX_SCALE", type := .int, accessFlags := 25, slot := 4, constantValue := 0 }, { name := "LOG2_ARRAY_SHORT_INDEX_SCALE", type := .int, accessFlags := 25, slot := 5, constantValue := 0 }, { name := "LOG2_ARRAY_INT_INDEX_SCALE", type := .int, accessFlags := 25, slot := 6, constantValue := 0 }, { name := "LOG2_ARRAY_LONG_INDEX_SCALE", type := .int, accessFlags := 25, slot := 7, constantValue := 0 }, { name := "LOG2_ARRAY_FLOAT_INDEX_SCALE", type := .int, accessFlags := 25, slot := 8, constantValue := 0 }, { name := "LOG2_ARRAY_DOUBLE_INDEX_SCALE", type := .int, accessFlags := 25, slot := 9, constantValue := 0 }, { name := "LOG2_BYTE_BIT_SIZE", type := .int, accessFlags := 26, slot := 10, constantValue := 0 }, { name := "T_BOOLEAN", type := .int, accessFlags := 25, slot := 11, constantValue := 0 }, { name := "T_CHAR", type := .int, accessFlags := 25, slot := 12, constantValue := 0 }, { name := "T_FLOAT", type := .int, accessFlags := 25, slot := 13, constantValue := 0 }, { name := "T_DOUBLE", type := .int, accessFlags := 25, slot := 14, constantValue := 0 }, { name := "T_BYTE", type := .int, accessFlags := 25, slot := 15, constantValue := 0 }, { name := "T_SHORT", type := .int, accessFlags := 25, slot := 16, constantValue := 0 }, { name := "T_INT", type := .int, accessFlags := 25, slot := 17, constantValue := 0 }, { name := "T_LONG", type := .int, accessFlags := 25, slot := 18, constantValue := 0 }, { name := "JLA", type := (.object "jdk/internal/access/JavaLangAccess"), accessFlags := 26, slot := 19, constantValue := 0 }, { name := "SOFT_MAX_ARRAY_LENGTH", type := .int, accessFlags := 25, slot := 20, constantValue := 0 }]
  methods := #[k12m0]
  instanceTypes := #[]
  staticTypes := #[(.object "jdk/internal/misc/Unsafe"), .boolean, .int, .int, .int, .int, .int, .int, .int, .int, .int, .int, .int, .int, .int, .int, .int, .int, .int, (.object "jdk/internal/access/JavaLangAccess"), .int]
  resolved := Array.replicate 378 none
  statics := none }

def pool13 : Array CpInfo := pool [(1, u "java/lang/Cloneable"), (0, .class_ 1), (0, u "java/lang/Object"), (0, .class_ 3)] 3

/-- java/lang/Cloneable -/
def k13 : Class := { plain "java/lang/Cloneable" (some 0) with
  accessFlags := 1537
  interfaces := #[]
  cf := some (fileOf pool13 2 #[] #[] 1537 4 #[] #[])
  fields := #[]
  methods := #[]
  instanceTypes := #[]
  staticTypes := #[]
  resolved := Array.replicate 8 none
  statics := none }

/-- the primitive byte -/
def k14 : Class := { plain "byte" none with kind := .primitive 'B', accessFlags := 0x411 }
/-- [B -/
def k15 : Class := { plain "[B" (some 0) with kind := .array 14 .byte, interfaces := #[13, 2], accessFlags := 1041 }

/-- the primitive char -/
def k16 : Class := { plain "char" none with kind := .primitive 'C', accessFlags := 0x411 }
/-- [C -/
def k17 : Class := { plain "[C" (some 0) with kind := .array 16 .char, interfaces := #[13, 2], accessFlags := 1041 }

/-- the primitive int -/
def k18 : Class := { plain "int" none with kind := .primitive 'I', accessFlags := 0x411 }
/-- [I -/
def k19 : Class := { plain "[I" (some 0) with kind := .array 18 .int, interfaces := #[13, 2], accessFlags := 1041 }

def heap : Heap := #[{ cls := 7, slots := #[.long 0, .int 1, .null, .int 0, .null, .int 0, .int 0], vm := .statics 7 },
  { cls := 9, slots := #[.null, .null, .null], vm := .statics 9 }]
def classes : Array Class := #[k0, k1, k2, k3, k4, k5, k6, k7, k8, k9, k10, k11, k12, k13, k14, k15, k16, k17, k18, k19]
def interned : List (Array UInt16 × Addr) := []
def slotsUsed : Nat := 10
def theMethod : MethodId := ⟨1, 8⟩
def args0 : Array Value := #[.long 0, .long 1, .long 2, .long 3]
def aboutOver (below : List Frame) : State where
  vm := { classes := classes, interned := interned.toArray }
  heap := heap
  slotsUsed := slotsUsed
  threads := #[{ frames := .invoking theMethod args0 :: below }]
def below0 : List Frame := [.native { method := ⟨0, 0⟩, args := #[] }]
def about1 : State := aboutOver below0
def p0 : Program := .bare "" "" ""
def e0 : Env := launch0.env 0 0 0
theorem w_frames : about1.frames = Frame.invoking theMethod args0 :: below0 := rfl
set_option maxRecDepth 65536 in
theorem w_args : argsFit about1.vm theMethod args0 = true := by decide +kernel
set_option maxRecDepth 65536 in
theorem w_heap : heapFits about1 = true := by decide +kernel
set_option maxRecDepth 65536 in
theorem w_runnable : about1.curStatus? = some .runnable := by decide +kernel
set_option maxRecDepth 65536 in
theorem w_alone : about1.alone = true := by decide +kernel
set_option maxRecDepth 65536 in
theorem w_named : about1.methodNamed? x = some theMethod := by decide +kernel
set_option maxRecDepth 65536 in
theorem w_hears : about1.hears theMethod below0 = true := by decide +kernel
set_option maxRecDepth 65536 in
theorem w_ripe : about1.ripe theMethod args0 below0 = true := by decide +kernel
theorem w_running : about1.status = .running := rfl
set_option maxRecDepth 65536 in
theorem w_room : about1.hasRoom e0.platform room_1 = true :=
  launch0.hasRoom_least _ room_1 (by decide +kernel) (by decide +kernel) (by decide +kernel) (by decide +kernel) (by decide +kernel) (by decide +kernel)
theorem allAtoms_all (ts : List Jvm.Cond) (a : Array Jvm.Value) (st : Jvm.State) : (allAtoms ts).before a st = ts.all (fun c => c.before a st) := by
  induction ts with
  | nil => rfl
  | cons c t ih =>
    show (Jvm.Cond.and c (allAtoms t)).before a st = _
    rw [Jvm.Cond.before_and, ih, List.all_cons]
def words1 : List Jvm.Cond := Jvm.Cond.code x code maxLocals ret :: tables_1
/-- a 'code' word, met by the world's own term for the bytes: nothing is compared byte by byte -/
theorem code_word {y : MethodName} {bytes : ByteArray} {mx : Nat} {rt : Option FieldType} {a : Array Value} {s : State} {m : MethodId} {meth : Method} {c : Code} (h1 : s.methodNamed? y = some m) (h2 : s.vm.method? m = some meth) (h3 : meth.code = some c) (h4 : c.code = bytes)
    (h5 : (c.maxLocals == mx && c.exceptionTable.isEmpty && decide (c.maxStack ≤ mostOperands) && decide (meth.sig.returnType = rt) && !meth.locks && decide (parseMethodDescriptor y.desc = some meth.sig)) = true) : (Jvm.Cond.code y bytes mx rt).before a s = true := by
  simp only [Bool.and_eq_true, beq_iff_eq, Bool.not_eq_true', decide_eq_true_eq] at h5
  obtain ⟨⟨⟨⟨⟨g1, g2⟩, g3⟩, g4⟩, g5⟩, g6⟩ := h5
  simp [Cond.before, Cond.holds, Cond.value, h1, h2, h3, h4, g1, g2, g3, g4, g5, g6]
def isCode : Jvm.Cond → Bool
  | .code _ _ _ _ => true
  | _ => false
theorem all_split {L : List Jvm.Cond} {P : Jvm.Cond → Bool} (h1 : L.all (fun c => isCode c || P c) = true) (h2 : ∀ c ∈ L.filter isCode, P c = true) : L.all P = true := by
  refine List.all_eq_true.mpr fun c hc => ?_
  have h := List.all_eq_true.mp h1 c hc
  rcases Bool.eq_false_or_eq_true (isCode c) with hi | hi
  · exact h2 c (List.mem_filter.mpr ⟨hc, hi⟩)
  · simpa [hi] using h
set_option maxRecDepth 65536 in
theorem w_c0 : (Jvm.Cond.code x code maxLocals ret).before args0 about1 = true := code_word (m := ⟨1, 8⟩) (meth := k1m8) (c := k1c8) (by decide +kernel) rfl rfl rfl (by decide +kernel)
set_option maxRecDepth 65536 in
theorem w_c1 : (Jvm.Cond.code ({ cls := "com/example/fedlint/fedlint/Base64ValidPinLaw", name := "draw", desc := "(I)C" } : Jvm.MethodName) method_2_code (2 : Nat) (Option.some Jvm.ClassFile.FieldType.char)).before args0 about1 = true := code_word (m := ⟨1, 1⟩) (meth := k1m1) (c := k1c1) (by decide +kernel) rfl rfl rfl (by decide +kernel)
set_option maxRecDepth 65536 in
theorem w_c2 : (Jvm.Cond.code ({ cls := "java/lang/String", name := "charAt", desc := "(I)C" } : Jvm.MethodName) jdk_42_method_56_code (2 : Nat) (Option.some Jvm.ClassFile.FieldType.char)).before args0 about1 = true := code_word (m := ⟨7, 1⟩) (meth := k7m1) (c := k7c1) (by decide +kernel) rfl rfl rfl (by decide +kernel)
set_option maxRecDepth 65536 in
theorem w_c3 : (Jvm.Cond.code ({ cls := "java/lang/String", name := "isLatin1", desc := "()Z" } : Jvm.MethodName) jdk_42_method_154_code (1 : Nat) (Option.some Jvm.ClassFile.FieldType.boolean)).before args0 about1 = true := code_word (m := ⟨7, 2⟩) (meth := k7m2) (c := k7c2) (by decide +kernel) rfl rfl rfl (by decide +kernel)
set_option maxRecDepth 65536 in
theorem w_c4 : (Jvm.Cond.code ({ cls := "java/lang/StringLatin1", name := "charAt", desc := "([BI)C" } : Jvm.MethodName) jdk_43_method_2_code (2 : Nat) (Option.some Jvm.ClassFile.FieldType.char)).before args0 about1 = true := code_word (m := ⟨8, 1⟩) (meth := k8m1) (c := k8c1) (by decide +kernel) rfl rfl rfl (by decide +kernel)
set_option maxRecDepth 65536 in
theorem w_c5 : (Jvm.Cond.code ({ cls := "java/lang/String", name := "checkIndex", desc := "(II)V" } : Jvm.MethodName) jdk_42_method_155_code (2 : Nat) (Option.none : Option Jvm.ClassFile.FieldType)).before args0 about1 = true := code_word (m := ⟨7, 3⟩) (meth := k7m3) (c := k7c3) (by decide +kernel) rfl rfl rfl (by decide +kernel)
set_option maxRecDepth 65536 in
theorem w_c6 : (Jvm.Cond.code ({ cls := "jdk/internal/util/Preconditions", name := "checkIndex", desc := "(IILjava/util/function/BiFunction;)I" } : Jvm.MethodName) jdk_41_method_11_code (3 : Nat) (Option.some Jvm.ClassFile.FieldType.int)).before args0 about1 = true := code_word (m := ⟨9, 1⟩) (meth := k9m1) (c := k9c1) (by decide +kernel) rfl rfl rfl (by decide +kernel)
set_option maxRecDepth 65536 in
theorem w_c7 : (Jvm.Cond.code ({ cls := "com/example/fedlint/fedlint/XsdDatatypes$Base64", name := "<init>", desc := "()V" } : Jvm.MethodName) prog_109_method_1_code (1 : Nat) (Option.none : Option Jvm.ClassFile.FieldType)).before args0 about1 = true := code_word (m := ⟨10, 0⟩) (meth := k10m0) (c := k10c0) (by decide +kernel) rfl rfl rfl (by decide +kernel)
set_option maxRecDepth 65536 in
theorem w_c8 : (Jvm.Cond.code ({ cls := "java/lang/Object", name := "<init>", desc := "()V" } : Jvm.MethodName) object_method_1_code (1 : Nat) (Option.none : Option Jvm.ClassFile.FieldType)).before args0 about1 = true := code_word (m := ⟨0, 0⟩) (meth := k0m0) (c := k0c0) (by decide +kernel) rfl rfl rfl (by decide +kernel)
set_option maxRecDepth 65536 in
theorem w_c9 : (Jvm.Cond.code ({ cls := "com/example/fedlint/fedlint/XsdDatatypes$Base64", name := "accept", desc := "([CII)V" } : Jvm.MethodName) prog_109_method_3_code (7 : Nat) (Option.none : Option Jvm.ClassFile.FieldType)).before args0 about1 = true := code_word (m := ⟨10, 1⟩) (meth := k10m1) (c := k10c1) (by decide +kernel) rfl rfl rfl (by decide +kernel)
set_option maxRecDepth 65536 in
theorem w_c10 : (Jvm.Cond.code ({ cls := "com/example/fedlint/fedlint/XsdDatatypes", name := "isSpace", desc := "(C)Z" } : Jvm.MethodName) prog_108_method_14_code (1 : Nat) (Option.some Jvm.ClassFile.FieldType.boolean)).before args0 about1 = true := code_word (m := ⟨11, 2⟩) (meth := k11m2) (c := k11c2) (by decide +kernel) rfl rfl rfl (by decide +kernel)
set_option maxRecDepth 65536 in
theorem w_c11 : (Jvm.Cond.code ({ cls := "com/example/fedlint/fedlint/XsdDatatypes", name := "base64Value", desc := "(C)I" } : Jvm.MethodName) prog_108_method_9_code (1 : Nat) (Option.some Jvm.ClassFile.FieldType.int)).before args0 about1 = true := code_word (m := ⟨11, 1⟩) (meth := k11m1) (c := k11c1) (by decide +kernel) rfl rfl rfl (by decide +kernel)
set_option maxRecDepth 65536 in
theorem w_c12 : (Jvm.Cond.code ({ cls := "com/example/fedlint/fedlint/XsdDatatypes$Base64", name := "valid", desc := "()Z" } : Jvm.MethodName) prog_109_method_4_code (1 : Nat) (Option.some Jvm.ClassFile.FieldType.boolean)).before args0 about1 = true := code_word (m := ⟨10, 2⟩) (meth := k10m2) (c := k10c2) (by decide +kernel) rfl rfl rfl (by decide +kernel)
set_option maxRecDepth 65536 in
theorem w_c13 : (Jvm.Cond.code ({ cls := "com/example/fedlint/fedlint/Base64ValidPinLaw", name := "bad", desc := "(C)Z" } : Jvm.MethodName) method_5_code (1 : Nat) (Option.some Jvm.ClassFile.FieldType.boolean)).before args0 about1 = true := code_word (m := ⟨1, 4⟩) (meth := k1m4) (c := k1c4) (by decide +kernel) rfl rfl rfl (by decide +kernel)
set_option maxRecDepth 65536 in
theorem w_c14 : (Jvm.Cond.code ({ cls := "com/example/fedlint/fedlint/Base64ValidPinLaw", name := "sp", desc := "(C)Z" } : Jvm.MethodName) method_3_code (1 : Nat) (Option.some Jvm.ClassFile.FieldType.boolean)).before args0 about1 = true := code_word (m := ⟨1, 2⟩) (meth := k1m2) (c := k1c2) (by decide +kernel) rfl rfl rfl (by decide +kernel)
set_option maxRecDepth 65536 in
theorem w_c15 : (Jvm.Cond.code ({ cls := "com/example/fedlint/fedlint/Base64ValidPinLaw", name := "val", desc := "(C)I" } : Jvm.MethodName) method_4_code (1 : Nat) (Option.some Jvm.ClassFile.FieldType.int)).before args0 about1 = true := code_word (m := ⟨1, 3⟩) (meth := k1m3) (c := k1c3) (by decide +kernel) rfl rfl rfl (by decide +kernel)
set_option maxRecDepth 65536 in
theorem w_c16 : (Jvm.Cond.code ({ cls := "com/example/fedlint/fedlint/Base64ValidPinLaw", name := "nonSp", desc := "(C)I" } : Jvm.MethodName) method_6_code (1 : Nat) (Option.some Jvm.ClassFile.FieldType.int)).before args0 about1 = true := code_word (m := ⟨1, 5⟩) (meth := k1m5) (c := k1c5) (by decide +kernel) rfl rfl rfl (by decide +kernel)
set_option maxRecDepth 65536 in
theorem w_c17 : (Jvm.Cond.code ({ cls := "com/example/fedlint/fedlint/Base64ValidPinLaw", name := "eq", desc := "(C)I" } : Jvm.MethodName) method_7_code (1 : Nat) (Option.some Jvm.ClassFile.FieldType.int)).before args0 about1 = true := code_word (m := ⟨1, 6⟩) (meth := k1m6) (c := k1c6) (by decide +kernel) rfl rfl rfl (by decide +kernel)
set_option maxRecDepth 65536 in
theorem w_c18 : (Jvm.Cond.code ({ cls := "com/example/fedlint/fedlint/Base64ValidPinLaw", name := "pick", desc := "(CI)I" } : Jvm.MethodName) method_8_code (3 : Nat) (Option.some Jvm.ClassFile.FieldType.int)).before args0 about1 = true := code_word (m := ⟨1, 7⟩) (meth := k1m7) (c := k1c7) (by decide +kernel) rfl rfl rfl (by decide +kernel)
def codes1 : List Jvm.Cond := [Jvm.Cond.code x code maxLocals ret, Jvm.Cond.code ({ cls := "com/example/fedlint/fedlint/Base64ValidPinLaw", name := "draw", desc := "(I)C" } : Jvm.MethodName) method_2_code (2 : Nat) (Option.some Jvm.ClassFile.FieldType.char), Jvm.Cond.code ({ cls := "java/lang/String", name := "charAt", desc := "(I)C" } : Jvm.MethodName) jdk_42_method_56_code (2 : Nat) (Option.some Jvm.ClassFile.FieldType.char), Jvm.Cond.code ({ cls := "java/lang/String", name := "isLatin1", desc := "()Z" } : Jvm.MethodName) jdk_42_method_154_code (1 : Nat) (Option.some Jvm.ClassFile.FieldType.boolean), Jvm.Cond.code ({ cls := "java/lang/StringLatin1", name := "charAt", desc := "([BI)C" } : Jvm.MethodName) jdk_43_method_2_code (2 : Nat) (Option.some Jvm.ClassFile.FieldType.char), Jvm.Cond.code ({ cls := "java/lang/String", name := "checkIndex", desc := "(II)V" } : Jvm.MethodName) jdk_42_method_155_code (2 : Nat) (Option.none : Option Jvm.ClassFile.FieldType), Jvm.Cond.code ({ cls := "jdk/internal/util/Preconditions", name := "checkIndex", desc := "(IILjava/util/function/BiFunction;)I" } : Jvm.MethodName) jdk_41_method_11_code (3 : Nat) (Option.some Jvm.ClassFile.FieldType.int), Jvm.Cond.code ({ cls := "com/example/fedlint/fedlint/XsdDatatypes$Base64", name := "<init>", desc := "()V" } : Jvm.MethodName) prog_109_method_1_code (1 : Nat) (Option.none : Option Jvm.ClassFile.FieldType), Jvm.Cond.code ({ cls := "java/lang/Object", name := "<init>", desc := "()V" } : Jvm.MethodName) object_method_1_code (1 : Nat) (Option.none : Option Jvm.ClassFile.FieldType), Jvm.Cond.code ({ cls := "com/example/fedlint/fedlint/XsdDatatypes$Base64", name := "accept", desc := "([CII)V" } : Jvm.MethodName) prog_109_method_3_code (7 : Nat) (Option.none : Option Jvm.ClassFile.FieldType), Jvm.Cond.code ({ cls := "com/example/fedlint/fedlint/XsdDatatypes", name := "isSpace", desc := "(C)Z" } : Jvm.MethodName) prog_108_method_14_code (1 : Nat) (Option.some Jvm.ClassFile.FieldType.boolean), Jvm.Cond.code ({ cls := "com/example/fedlint/fedlint/XsdDatatypes", name := "base64Value", desc := "(C)I" } : Jvm.MethodName) prog_108_method_9_code (1 : Nat) (Option.some Jvm.ClassFile.FieldType.int), Jvm.Cond.code ({ cls := "com/example/fedlint/fedlint/XsdDatatypes$Base64", name := "valid", desc := "()Z" } : Jvm.MethodName) prog_109_method_4_code (1 : Nat) (Option.some Jvm.ClassFile.FieldType.boolean), Jvm.Cond.code ({ cls := "com/example/fedlint/fedlint/Base64ValidPinLaw", name := "bad", desc := "(C)Z" } : Jvm.MethodName) method_5_code (1 : Nat) (Option.some Jvm.ClassFile.FieldType.boolean), Jvm.Cond.code ({ cls := "com/example/fedlint/fedlint/Base64ValidPinLaw", name := "sp", desc := "(C)Z" } : Jvm.MethodName) method_3_code (1 : Nat) (Option.some Jvm.ClassFile.FieldType.boolean), Jvm.Cond.code ({ cls := "com/example/fedlint/fedlint/Base64ValidPinLaw", name := "val", desc := "(C)I" } : Jvm.MethodName) method_4_code (1 : Nat) (Option.some Jvm.ClassFile.FieldType.int), Jvm.Cond.code ({ cls := "com/example/fedlint/fedlint/Base64ValidPinLaw", name := "nonSp", desc := "(C)I" } : Jvm.MethodName) method_6_code (1 : Nat) (Option.some Jvm.ClassFile.FieldType.int), Jvm.Cond.code ({ cls := "com/example/fedlint/fedlint/Base64ValidPinLaw", name := "eq", desc := "(C)I" } : Jvm.MethodName) method_7_code (1 : Nat) (Option.some Jvm.ClassFile.FieldType.int), Jvm.Cond.code ({ cls := "com/example/fedlint/fedlint/Base64ValidPinLaw", name := "pick", desc := "(CI)I" } : Jvm.MethodName) method_8_code (3 : Nat) (Option.some Jvm.ClassFile.FieldType.int)]
set_option maxRecDepth 65536 in
theorem codes_eq : words1.filter isCode = codes1 := rfl
theorem w_codes : ∀ c ∈ words1.filter isCode, c.before args0 about1 = true := by
  rw [codes_eq]
  intro c hc
  simp only [codes1, List.mem_cons, List.not_mem_nil, or_false] at hc
  rcases hc with rfl | rfl | rfl | rfl | rfl | rfl | rfl | rfl | rfl | rfl | rfl | rfl | rfl | rfl | rfl | rfl | rfl | rfl | rfl
  · exact w_c0
  · exact w_c1
  · exact w_c2
  · exact w_c3
  · exact w_c4
  · exact w_c5
  · exact w_c6
  · exact w_c7
  · exact w_c8
  · exact w_c9
  · exact w_c10
  · exact w_c11
  · exact w_c12
  · exact w_c13
  · exact w_c14
  · exact w_c15
  · exact w_c16
  · exact w_c17
  · exact w_c18
set_option maxRecDepth 65536 in
theorem w_t1 : (words1.take 24).all (fun c => isCode c || c.before args0 about1) = true := by decide +kernel
set_option maxRecDepth 65536 in
theorem w_t2 : ((words1.drop 24).take 24).all (fun c => isCode c || c.before args0 about1) = true := by decide +kernel
set_option maxRecDepth 65536 in
theorem w_t3 : (((words1.drop 24).drop 24).take 24).all (fun c => isCode c || c.before args0 about1) = true := by decide +kernel
set_option maxRecDepth 65536 in
theorem w_t4 : (((words1.drop 24).drop 24).drop 24).all (fun c => isCode c || c.before args0 about1) = true := by decide +kernel
theorem w_tables : (allAtoms (Jvm.Cond.code x code maxLocals ret :: tables_1)).before args0 about1 = true := by
  rw [allAtoms_all]
  show words1.all (fun c => c.before args0 about1) = true
  refine all_split ?_ w_codes
  rw [← List.take_append_drop 24 words1, List.all_append, w_t1, ← List.take_append_drop 24 (words1.drop 24), List.all_append, w_t2, ← List.take_append_drop 24 ((words1.drop 24).drop 24), List.all_append, w_t3, w_t4]
  rfl
set_option maxRecDepth 65536 in
theorem w_rest : rest_1_c.before args0 about1 = true := by decide +kernel
set_option maxRecDepth 65536 in
theorem w_case : (Jvm.Cond.and given_1 narrow_1).before args0 about1 = true := by decide +kernel
set_option maxRecDepth 65536 in
theorem w_consts : constsHeld consts_1 about1 := Jvm.Lit.constsHeldB_iff.mp (by decide +kernel)
theorem w_applies : (headSpec (Jvm.Cond.code x code maxLocals ret :: tables_1) room_1).applies x e0.platform about1 = true :=
  (Spec.applies_iff w_frames).mpr ⟨w_running, w_runnable, w_alone, w_named, w_hears, w_ripe, w_room, w_tables⟩
theorem atStart : AtStart classFile x code maxLocals ret World_1 tables_1 room_1 Calls_1 rest_1 Pre_1 launch0 p0 e0 about1 theMethod args0 below0 :=
  ⟨lists_1, trivial, launch0.admits_env _ _ _, launch0.least_env, fairChoices_fair.cas, fairChoices_fair.clock, w_frames, w_args, w_heap, w_applies, ⟨w_consts, trivial⟩, w_rest, w_case⟩
end start1
theorem witness_1 : WitnessClaimed_1 := ⟨start1.p0, start1.e0, start1.about1, start1.theMethod, start1.args0, start1.below0, start1.atStart⟩
end Jvm.Pilot.@@N@@
