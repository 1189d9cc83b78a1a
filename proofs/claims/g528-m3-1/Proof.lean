import JvmDerived
import JvmDerived.Pilot.@@N@@Statement
import JvmDerived.Pilot.@@N@@Code
set_option linter.unusedVariables false
set_option linter.unusedSimpArgs false
namespace Jvm.Own
open Jvm Sem ClassFile Op Lib Jvm.Stand Jvm.Free Jvm.LawKit Jvm.RoadKit
/-- the frame's end, of a walk that interns nothing -/
def EN (s : State) (cM sM : Nat) (v : Option Value) (t : State) (L : List Loc) : Prop := FrameEnd s (.returned v) t L cM sM
/-- is the entry resolved to a String? -/
def resB (s : State) (p : String × Nat) : Bool := match s.resolvedAt? p.1 p.2 with | some (.string _) => true | _ => false
/-- how many entries of EL are resolved -/
def NR (EL : List (String × Nat)) (s : State) : Nat := (EL.filter (resB s)).length
theorem NR_le (EL : List (String × Nat)) (s : State) : NR EL s ≤ EL.length := List.length_filter_le _ _
theorem resB_lit {s : State} {p : String × Nat} {a : Addr} (q : Lit s p.1 p.2 a) : resB s p = true := by
  unfold resB; rw [show s.resolvedAt? p.1 p.2 = some (.string a) from q]
theorem resB_ex {s : State} {p : String × Nat} (q : resB s p = true) : ∃ a, Lit s p.1 p.2 a := by
  unfold resB at q
  split at q
  · exact ⟨_, by assumption⟩
  · cases q
theorem resB_mono {s : State} {vm' : Vm} (hW : s.Warmed39 vm') {p : String × Nat} (q : resB s p = true) : resB (s.setVm vm') p = true := by
  obtain ⟨a, L⟩ := resB_ex q
  exact resB_lit (a := a) (State.resolvedAt?_warmed39 hW L)
theorem NR_cons (s : State) (p : String × Nat) (EL : List (String × Nat)) : NR (p :: EL) s = (if resB s p = true then 1 else 0) + NR EL s := by
  unfold NR
  by_cases h : resB s p = true
  · rw [List.filter_cons_of_pos h, if_pos h, List.length_cons]; omega
  · rw [List.filter_cons_of_neg h, if_neg h]; omega
theorem NR_mono (EL : List (String × Nat)) {s : State} {vm' : Vm} (hW : s.Warmed39 vm') : NR EL s ≤ NR EL (s.setVm vm') := by
  induction EL with
  | nil => exact Nat.le_refl _
  | cons p EL ih =>
    rw [NR_cons, NR_cons]
    by_cases h : resB s p = true
    · rw [if_pos h, if_pos (resB_mono hW h)]; omega
    · rw [if_neg h]; omega
theorem NR_lt {EL : List (String × Nat)} {s : State} {vm' : Vm} (hW : s.Warmed39 vm') {p : String × Nat} (hp : p ∈ EL) (h0 : ¬ resB s p = true) (h1 : resB (s.setVm vm') p = true) : NR EL s + 1 ≤ NR EL (s.setVm vm') := by
  induction EL with
  | nil => cases hp
  | cons q EL ih =>
    rw [NR_cons, NR_cons]
    rcases List.mem_cons.mp hp with rfl | hp
    · rw [if_neg h0, if_pos h1]
      have := NR_mono EL hW; omega
    · have := ih hp
      by_cases h : resB s q = true
      · rw [if_pos h, if_pos (resB_mono hW h)]; omega
      · rw [if_neg h]; omega
theorem NR_vm (EL : List (String × Nat)) {s t : State} (e : s.vm = t.vm) : NR EL s = NR EL t := by
  unfold NR resB State.resolvedAt?; rw [e]
/-- the frame's end, of a walk that may load String constants: s is its true start; w Strings have been made at the most, each paid by an entry that has come to be resolved -/
def EH (Z : State) (EL : List (String × Nat)) (M : Nat) (s : State) (cM sM Bm : Nat) (v : Option Value) (t : State) (L : List Loc) : Prop :=
  CHr Z EL s.vm s.heap t.vm t.heap ∧ ∃ w, w + NR EL s ≤ NR EL t ∧ w ≤ Bm ∧ ReturnedEndW s (.returned v) t L (cM + 2 * w) (sM + M * w)
/-- a return from here ends as EE says -/
def Closes (s : State) (h : Heap) (cells slots : Nat) (EE : Option Value → State → List Loc → Prop) : Prop :=
  ∀ (v : Option Value) (t : State) (L : List Loc), t.heap = h → FrameEnd s (.returned v) t L cells slots → EE v t L
theorem closeN {s : State} {h : Heap} {cells slots cM sM : Nat} (hc : cells ≤ cM) (hs : slots ≤ sM) : Closes s h cells slots (EN s cM sM) := fun v t L _ F => ⟨F.1, F.2.1, F.2.2.mono hc hs⟩
theorem closeH {Z : State} {EL : List (String × Nat)} {M : Nat} {a0 : Array Value} {s : State} {vm0 : Vm} {k0 : Nat} {h : Heap} {a b cM sM u B Bm : Nat} (hZ : Z.Warmed39 vm0) (hEL : EW Z a0 EL) (HS : s.Since vm0 k0) (HK : k0 ≤ h.size) (HC : CHr Z EL s.vm s.heap vm0 h) (HU : u + NR EL s ≤ NR EL (s.setVm vm0)) (HB : u ≤ B) (hc : a ≤ cM) (hs : b ≤ sM) (hB : B ≤ Bm) :
    Closes (s.setVm vm0) h (a + 2 * u) (b + M * u) (EH Z EL M s cM sM Bm) := fun v t L e F => by
  subst e
  obtain ⟨w1, w2, w3⟩ := HS.ended (U := t) F.2.1 HK F.2.2
  have q := CHv.later (h' := t.heap) hZ (hW := (show (Wst Z vm0 t.heap).Warmed39 t.vm from F.2.1.wide)) hEL ⟨Nat.le_refl _, fun _ _ q => q⟩ (Or.inl F.2.1.interned_eq) HC.1
  have n2 : NR EL (s.setVm vm0) ≤ NR EL t := Nat.le_trans (NR_mono EL F.2.1.wide) (Nat.le_of_eq (NR_vm EL rfl))
  exact ⟨HC.trans ⟨q.1, Nat.le_refl _, q.2⟩, u, Nat.le_trans HU n2, Nat.le_trans HB hB, ⟨v, rfl⟩, w1, w2, w3.mono (Nat.add_le_add_right hc _) (Nat.add_le_add_right hs _)⟩
/-- what is left to run: from any state that stands here with this heap, in this frame, the method comes back, and Q holds of what it returns and of the heap -/
def Wp (p : Program) (l : Launch) (e : Env) (R : Room) (s : State) (m : MethodId) (args : Array Value) (below : List Frame) (meth : Method) (c : Code)
    (n0 : Nat) (EE : Option Value → State → List Loc → Prop) (Q : Option Value → Heap → Prop) (h : Heap) (cells slots : Nat) (g : JFrame) : Prop :=
  ∀ (T : State) (locs : List Loc), Stand p l e R s m args below meth c T locs cells slots → T.heap = h → Fr n0 locs →
    ∃ s₂ v L, Steps p.tables e below (T.setTop g) s₂ ∧ s₂.status = .running ∧ Ended s₂ below (.returned v) ∧ (Q v s₂.heap ∧ Fr n0 L) ∧ EE v s₂ L
/-- what is known of the method that is walked -/
def Cx (p : Program) (s : State) (m : MethodId) (meth : Method) (c : Code) (Z : State) (own : String) (bytes : ByteArray) (ml : Nat) (rt : Option FieldType) (nm : String) : Prop :=
  p.tables.exec = Jvm.exec ∧ c.code = bytes ∧ Z.Warmed39 s.vm ∧ s.vm.findClass own = some m.cls ∧ c.maxLocals = ml ∧ meth.sig.returnType = rt ∧ meth.name = nm ∧ meth.locks = false
/-- a method's contract: called with these arguments at this heap -/
def Ct (l : Launch) (Z : State) (y : MethodName) (bytes : ByteArray) (maxL : Nat) (ret : Option FieldType) (ws : List Jvm.Cond) (rm : Room) (as' : Array Value) (h : Heap) (n0 : Nat) (Q : Option Value → Heap → Prop) : Prop :=
  MetFree l y (head1 (Jvm.Cond.code y bytes maxL ret :: ws) rm) (fun a U => a = as' ∧ Z.Warmed39 U.vm ∧ U.heap = h) (fun _ _ _ _ _ => True)
    (fun _ U o U' => ∃ v L, o = .returned v ∧ (Q v U'.heap ∧ Fr n0 L) ∧ FrameEnd U o U' L rm.cells rm.slots)
theorem Ct.of {l : Launch} {Z : State} {y : MethodName} {bytes : ByteArray} {maxL : Nat} {ret : Option FieldType} {ws : List Jvm.Cond} {rm : Room} {as' : Array Value} {h : Heap} {n0 : Nat} {Q : Option Value → Heap → Prop} {Ls : Array Slot}
    (hpl : plainFor y = true) (ef : ∀ m, entryFrame m as' maxL = mkF m 0 Ls [])
    (H : ∀ p e s m below meth c, Cx p s m meth c Z y.cls bytes maxL ret y.name → Wp p l e rm s m as' below meth c n0 (EN s rm.cells rm.slots) Q h 0 0 (mkF m 0 Ls [])) :
    Ct l Z y bytes maxL ret ws rm as' h n0 Q := by
  refine MetFree.of_bodySF hpl hisR ?_
  intro p e s m args below meth c s₁ Bd hml0 hP hK
  obtain ⟨rfl, hZ, hh⟩ := hP
  have C : Cx p s m meth c Z y.cls bytes maxL ret y.name := ⟨Bd.exec, Bd.bytes, hZ, findClass_of_methodNamed Bd.named, hml0, Bd.returns, (name_of_methodNamed Bd.named Bd.method).1, Bd.notSynchronized⟩
  obtain ⟨s₂, v, L, a1, a2, a3, a4, a5⟩ := H p e s m below meth c C s₁ [] (Stand.of_body Bd) (by rw [← hh, Bd.state]; rfl) (Fr.nil n0)
  exact ⟨s₂, .returned v, castTop (ef m) a1, a2, a3, v, L, rfl, a4, a5⟩
theorem Ct.mono {l : Launch} {Z : State} {y : MethodName} {bytes : ByteArray} {maxL : Nat} {ret : Option FieldType} {ws : List Jvm.Cond} {rm : Room} {as' : Array Value} {h : Heap} {n0 : Nat} {Q Q' : Option Value → Heap → Prop}
    (H : Ct l Z y bytes maxL ret ws rm as' h n0 Q) (i : ∀ v h', Q v h' → Q' v h') : Ct l Z y bytes maxL ret ws rm as' h n0 Q' := by
  intro p e ha hc hk s m args below hf happ hP hK
  obtain ⟨n, o, h1, h2, h3, v, L, h4, h5, h6⟩ := H p e ha hc hk s m args below hf happ hP hK
  exact ⟨n, o, h1, h2, h3, v, L, h4, ⟨i _ _ h5.1, h5.2⟩, h6⟩
section Rules
variable {p : Program} {l : Launch} {e : Env} {R : Room} {s : State} {m : MethodId} {args : Array Value} {below : List Frame} {meth : Method} {c : Code} {n0 : Nat} {EE : Option Value → State → List Loc → Prop} {Q : Option Value → Heap → Prop} {h : Heap} {cells slots : Nat}
variable {Z : State} {own nm : String} {bytes : ByteArray} {ml : Nat} {rt : Option FieldType} {a0 : Array Value}
theorem Wp.pure {g g' : JFrame} (st : ∀ (T t : State), At T m c below → Steps p.tables e below (T.setTop g') t → Steps p.tables e below (T.setTop g) t) (k : Wp p l e R s m args below meth c n0 EE Q h cells slots g') :
    Wp p l e R s m args below meth c n0 EE Q h cells slots g := fun T locs X e0 N => by
  obtain ⟨s2, v, L, a, r⟩ := k T locs X e0 N
  exact ⟨s2, v, L, st T s2 X.here a, r⟩
theorem Wp.law {g g' : JFrame} (st : ∀ (T : State) (locs : List Loc), Stand p l e R s m args below meth c T locs cells slots → T.heap = h → ∃ T', Stand p l e R s m args below meth c T' locs cells slots ∧ T'.heap = h ∧ ∀ t, Steps p.tables e below (T'.setTop g') t → Steps p.tables e below (T.setTop g) t)
    (k : Wp p l e R s m args below meth c n0 EE Q h cells slots g') : Wp p l e R s m args below meth c n0 EE Q h cells slots g := fun T locs X e0 N => by
  obtain ⟨T', X', e', st'⟩ := st T locs X e0
  obtain ⟨s2, v, L, a, r⟩ := k T' locs X' e' N
  exact ⟨s2, v, L, st' s2 a, r⟩
theorem Wp.more {g : JFrame} {cells' slots' : Nat} (hc : cells ≤ cells') (hs : slots ≤ slots') (k : Wp p l e R s m args below meth c n0 EE Q h cells' slots' g) : Wp p l e R s m args below meth c n0 EE Q h cells slots g :=
  fun T locs X e0 N => k T locs (X.more hc hs) e0 N
theorem Wp.mono {g : JFrame} {Q' : Option Value → Heap → Prop} (i : ∀ v h', Q v h' → Q' v h') (k : Wp p l e R s m args below meth c n0 EE Q h cells slots g) : Wp p l e R s m args below meth c n0 EE Q' h cells slots g :=
  fun T locs X e0 N => by
    obtain ⟨s2, v, L, a, b, d, q, r⟩ := k T locs X e0 N
    exact ⟨s2, v, L, a, b, d, ⟨i _ _ q.1, q.2⟩, r⟩
theorem Wp.ret {g : JFrame} {v : Option Value} (C : Cx p s m meth c Z own bytes ml rt nm)
    (st : ∀ (T : State) (fs : List Frame) (locs : List Loc), Stand p l e R s m args below meth c T locs cells slots → (∀ (f : JFrame) (acts : List Action), f.method = m → f.locked = none → f.entered = [] → (doReturn e (T.setTop f) acts v).1 = T.setFrames fs) → Steps p.tables e below (T.setTop g) (T.setFrames fs))
    (hv : meth.sig.returnType = none → v = none) (hE : Closes s h cells slots EE) (q : Q v h) : Wp p l e R s m args below meth c n0 EE Q h cells slots g := by
  intro T locs X e0 N
  have hlk : meth.locks = false := C.2.2.2.2.2.2.2
  obtain ⟨fs, hr, hrun, hended, hW, hsame⟩ := X.leave (v := v) hv hlk
  exact ⟨_, v, locs, st T fs locs X hr, hrun, hended, ⟨by subst e0; exact q, N⟩, hE v _ locs e0 ⟨⟨_, rfl⟩, hW, hsame⟩⟩
theorem w_iloadN (C : Cx p s m meth c Z own bytes ml rt nm) {pc pc' : Nat} {Ls : Array Slot} {st : List Value} {k : Fin 4} {x : Int32} (hd : decode bytes pc = .ok (.iload_n k, 1)) (hl : Ls[k.val]? = some (.val (.int x))) (hp : pc + 1 = pc') (K : Wp p l e R s m args below meth c n0 EE Q h cells slots (mkF m pc' Ls (.int x :: st))) :
    Wp p l e R s m args below meth c n0 EE Q h cells slots (mkF m pc Ls st) := by
  subst hp; exact Wp.pure (fun T t X hr => XS.iloadN X C.1 rfl (hb C.2.1 hd) hl hr) K
theorem w_iload (C : Cx p s m meth c Z own bytes ml rt nm) {pc pc' : Nat} {Ls : Array Slot} {st : List Value} {k : Nat} {x : Int32} (hd : decode bytes pc = .ok (.iload k, 2)) (hl : Ls[k]? = some (.val (.int x))) (hp : pc + 2 = pc') (K : Wp p l e R s m args below meth c n0 EE Q h cells slots (mkF m pc' Ls (.int x :: st))) :
    Wp p l e R s m args below meth c n0 EE Q h cells slots (mkF m pc Ls st) := by
  subst hp; exact Wp.pure (fun T t X hr => XS.iload X C.1 rfl (hb C.2.1 hd) hl hr) K
theorem w_lloadN (C : Cx p s m meth c Z own bytes ml rt nm) {pc pc' : Nat} {Ls : Array Slot} {st : List Value} {k : Fin 4} {x : Int64} (hd : decode bytes pc = .ok (.lload_n k, 1)) (hl : Ls[k.val]? = some (.val (.long x))) (hp : pc + 1 = pc') (K : Wp p l e R s m args below meth c n0 EE Q h cells slots (mkF m pc' Ls (.long x :: st))) :
    Wp p l e R s m args below meth c n0 EE Q h cells slots (mkF m pc Ls st) := by
  subst hp; exact Wp.pure (fun T t X hr => XS.lloadN X C.1 rfl (hb C.2.1 hd) hl hr) K
theorem w_lload (C : Cx p s m meth c Z own bytes ml rt nm) {pc pc' : Nat} {Ls : Array Slot} {st : List Value} {k : Nat} {x : Int64} (hd : decode bytes pc = .ok (.lload k, 2)) (hl : Ls[k]? = some (.val (.long x))) (hp : pc + 2 = pc') (K : Wp p l e R s m args below meth c n0 EE Q h cells slots (mkF m pc' Ls (.long x :: st))) :
    Wp p l e R s m args below meth c n0 EE Q h cells slots (mkF m pc Ls st) := by
  subst hp; exact Wp.pure (fun T t X hr => XS.lload X C.1 rfl (hb C.2.1 hd) hl hr) K
theorem w_aloadN (C : Cx p s m meth c Z own bytes ml rt nm) {pc pc' : Nat} {Ls : Array Slot} {st : List Value} {k : Fin 4} {v : Value} (hd : decode bytes pc = .ok (.aload_n k, 1)) (hl : Ls[k.val]? = some (.val v)) (hv : v.isRef = true) (hp : pc + 1 = pc') (K : Wp p l e R s m args below meth c n0 EE Q h cells slots (mkF m pc' Ls (v :: st))) :
    Wp p l e R s m args below meth c n0 EE Q h cells slots (mkF m pc Ls st) := by
  subst hp; exact Wp.pure (fun T t X hr => XS.aloadN X C.1 rfl (hb C.2.1 hd) hl hv hr) K
theorem w_aload (C : Cx p s m meth c Z own bytes ml rt nm) {pc pc' : Nat} {Ls : Array Slot} {st : List Value} {k : Nat} {v : Value} (hd : decode bytes pc = .ok (.aload k, 2)) (hl : Ls[k]? = some (.val v)) (hv : v.isRef = true) (hp : pc + 2 = pc') (K : Wp p l e R s m args below meth c n0 EE Q h cells slots (mkF m pc' Ls (v :: st))) :
    Wp p l e R s m args below meth c n0 EE Q h cells slots (mkF m pc Ls st) := by
  subst hp; exact Wp.pure (fun T t X hr => XS.aload X C.1 rfl (hb C.2.1 hd) hl hv hr) K
theorem w_istoreN (C : Cx p s m meth c Z own bytes ml rt nm) {pc pc' : Nat} {Ls : Array Slot} {st : List Value} {k : Fin 4} {x : Int32} {Ls' : Array Slot} (hd : decode bytes pc = .ok (.istore_n k, 1)) (hl : storeLocals Ls k.val (.int x) = some Ls') (hp : pc + 1 = pc') (K : Wp p l e R s m args below meth c n0 EE Q h cells slots (mkF m pc' Ls' st)) :
    Wp p l e R s m args below meth c n0 EE Q h cells slots (mkF m pc Ls (.int x :: st)) := by
  subst hp; exact Wp.pure (fun T t X hr => XS.istoreN X C.1 rfl (hb C.2.1 hd) rfl hl hr) K
theorem w_istore (C : Cx p s m meth c Z own bytes ml rt nm) {pc pc' : Nat} {Ls : Array Slot} {st : List Value} {k : Nat} {x : Int32} {Ls' : Array Slot} (hd : decode bytes pc = .ok (.istore k, 2)) (hl : storeLocals Ls k (.int x) = some Ls') (hp : pc + 2 = pc') (K : Wp p l e R s m args below meth c n0 EE Q h cells slots (mkF m pc' Ls' st)) :
    Wp p l e R s m args below meth c n0 EE Q h cells slots (mkF m pc Ls (.int x :: st)) := by
  subst hp; exact Wp.pure (fun T t X hr => XS.istore X C.1 rfl (hb C.2.1 hd) rfl hl hr) K
theorem w_lstoreN (C : Cx p s m meth c Z own bytes ml rt nm) {pc pc' : Nat} {Ls : Array Slot} {st : List Value} {k : Fin 4} {x : Int64} {Ls' : Array Slot} (hd : decode bytes pc = .ok (.lstore_n k, 1)) (hl : storeLocals Ls k.val (.long x) = some Ls') (hp : pc + 1 = pc') (K : Wp p l e R s m args below meth c n0 EE Q h cells slots (mkF m pc' Ls' st)) :
    Wp p l e R s m args below meth c n0 EE Q h cells slots (mkF m pc Ls (.long x :: st)) := by
  subst hp; exact Wp.pure (fun T t X hr => XS.lstoreN X C.1 rfl (hb C.2.1 hd) rfl hl hr) K
theorem w_lstore (C : Cx p s m meth c Z own bytes ml rt nm) {pc pc' : Nat} {Ls : Array Slot} {st : List Value} {k : Nat} {x : Int64} {Ls' : Array Slot} (hd : decode bytes pc = .ok (.lstore k, 2)) (hl : storeLocals Ls k (.long x) = some Ls') (hp : pc + 2 = pc') (K : Wp p l e R s m args below meth c n0 EE Q h cells slots (mkF m pc' Ls' st)) :
    Wp p l e R s m args below meth c n0 EE Q h cells slots (mkF m pc Ls (.long x :: st)) := by
  subst hp; exact Wp.pure (fun T t X hr => XS.lstore X C.1 rfl (hb C.2.1 hd) rfl hl hr) K
theorem w_astoreN (C : Cx p s m meth c Z own bytes ml rt nm) {pc pc' : Nat} {Ls : Array Slot} {st : List Value} {k : Fin 4} {v : Value} {Ls' : Array Slot} (hd : decode bytes pc = .ok (.astore_n k, 1)) (hv : v.isRef = true) (hl : storeLocals Ls k.val v = some Ls') (hp : pc + 1 = pc') (K : Wp p l e R s m args below meth c n0 EE Q h cells slots (mkF m pc' Ls' st)) :
    Wp p l e R s m args below meth c n0 EE Q h cells slots (mkF m pc Ls (v :: st)) := by
  subst hp; exact Wp.pure (fun T t X hr => XS.astoreN X C.1 rfl (hb C.2.1 hd) rfl hv hl hr) K
theorem w_astore (C : Cx p s m meth c Z own bytes ml rt nm) {pc pc' : Nat} {Ls : Array Slot} {st : List Value} {k : Nat} {v : Value} {Ls' : Array Slot} (hd : decode bytes pc = .ok (.astore k, 2)) (hv : v.isRef = true) (hl : storeLocals Ls k v = some Ls') (hp : pc + 2 = pc') (K : Wp p l e R s m args below meth c n0 EE Q h cells slots (mkF m pc' Ls' st)) :
    Wp p l e R s m args below meth c n0 EE Q h cells slots (mkF m pc Ls (v :: st)) := by
  subst hp; exact Wp.pure (fun T t X hr => XS.astore X C.1 rfl (hb C.2.1 hd) rfl hv hl hr) K
theorem w_iinc (C : Cx p s m meth c Z own bytes ml rt nm) {pc pc' : Nat} {Ls : Array Slot} {st : List Value} {k : Nat} {cst : Int} {x : Int32} {Ls' : Array Slot} (hd : decode bytes pc = .ok (.iinc k cst, 3)) (hx : Ls[k]? = some (.val (.int x))) (hl : storeLocals Ls k (.int (x + Int32.ofInt cst)) = some Ls') (hp : pc + 3 = pc') (K : Wp p l e R s m args below meth c n0 EE Q h cells slots (mkF m pc' Ls' st)) :
    Wp p l e R s m args below meth c n0 EE Q h cells slots (mkF m pc Ls st) := by
  subst hp; exact Wp.pure (fun T t X hr => XS.iinc X C.1 rfl (hb C.2.1 hd) hx hl hr) K
theorem w_iconst (C : Cx p s m meth c Z own bytes ml rt nm) {pc pc' : Nat} {Ls : Array Slot} {st : List Value} {i : Int} {x : Int32} (hd : decode bytes pc = .ok (.iconst i, 1)) (hx : Int32.ofInt i = x) (hp : pc + 1 = pc') (K : Wp p l e R s m args below meth c n0 EE Q h cells slots (mkF m pc' Ls (.int x :: st))) :
    Wp p l e R s m args below meth c n0 EE Q h cells slots (mkF m pc Ls st) := by
  subst hp hx; exact Wp.pure (fun T t X hr => XS.iconst X C.1 rfl (hb C.2.1 hd) hr) K
theorem w_bipush (C : Cx p s m meth c Z own bytes ml rt nm) {pc pc' : Nat} {Ls : Array Slot} {st : List Value} {i : Int} {x : Int32} (hd : decode bytes pc = .ok (.bipush i, 2)) (hx : (Int8.ofInt i).toInt32 = x) (hp : pc + 2 = pc') (K : Wp p l e R s m args below meth c n0 EE Q h cells slots (mkF m pc' Ls (.int x :: st))) :
    Wp p l e R s m args below meth c n0 EE Q h cells slots (mkF m pc Ls st) := by
  subst hp hx; exact Wp.pure (fun T t X hr => XS.bipush X C.1 rfl (hb C.2.1 hd) hr) K
theorem w_sipush (C : Cx p s m meth c Z own bytes ml rt nm) {pc pc' : Nat} {Ls : Array Slot} {st : List Value} {i : Int} {x : Int32} (hd : decode bytes pc = .ok (.sipush i, 3)) (hx : (Int16.ofInt i).toInt32 = x) (hp : pc + 3 = pc') (K : Wp p l e R s m args below meth c n0 EE Q h cells slots (mkF m pc' Ls (.int x :: st))) :
    Wp p l e R s m args below meth c n0 EE Q h cells slots (mkF m pc Ls st) := by
  subst hp hx; exact Wp.pure (fun T t X hr => XS.sipush X C.1 rfl (hb C.2.1 hd) hr) K
theorem w_lconst (C : Cx p s m meth c Z own bytes ml rt nm) {pc pc' : Nat} {Ls : Array Slot} {st : List Value} {k : Fin 2} {x : Int64} (hd : decode bytes pc = .ok (.lconst k, 1)) (hx : Int64.ofNat k = x) (hp : pc + 1 = pc') (K : Wp p l e R s m args below meth c n0 EE Q h cells slots (mkF m pc' Ls (.long x :: st))) :
    Wp p l e R s m args below meth c n0 EE Q h cells slots (mkF m pc Ls st) := by
  subst hp hx; exact Wp.pure (fun T t X hr => XS.lconst X C.1 rfl (hb C.2.1 hd) hr) K
theorem w_aconstNull (C : Cx p s m meth c Z own bytes ml rt nm) {pc pc' : Nat} {Ls : Array Slot} {st : List Value}  (hd : decode bytes pc = .ok (.aconst_null, 1))  (hp : pc + 1 = pc') (K : Wp p l e R s m args below meth c n0 EE Q h cells slots (mkF m pc' Ls (.null :: st))) :
    Wp p l e R s m args below meth c n0 EE Q h cells slots (mkF m pc Ls st) := by
  subst hp; exact Wp.pure (fun T t X hr => XS.aconstNull X C.1 rfl (hb C.2.1 hd)  hr) K
theorem w_iadd (C : Cx p s m meth c Z own bytes ml rt nm) {pc pc' : Nat} {Ls : Array Slot} {st : List Value} {x y : Int32} (hd : decode bytes pc = .ok (.iadd, 1))  (hp : pc + 1 = pc') (K : Wp p l e R s m args below meth c n0 EE Q h cells slots (mkF m pc' Ls (.int (x + y) :: st))) :
    Wp p l e R s m args below meth c n0 EE Q h cells slots (mkF m pc Ls (.int y :: .int x :: st)) := by
  subst hp; exact Wp.pure (fun T t X hr => XS.iadd X C.1 rfl (hb C.2.1 hd) rfl hr) K
theorem w_isub (C : Cx p s m meth c Z own bytes ml rt nm) {pc pc' : Nat} {Ls : Array Slot} {st : List Value} {x y : Int32} (hd : decode bytes pc = .ok (.isub, 1))  (hp : pc + 1 = pc') (K : Wp p l e R s m args below meth c n0 EE Q h cells slots (mkF m pc' Ls (.int (x - y) :: st))) :
    Wp p l e R s m args below meth c n0 EE Q h cells slots (mkF m pc Ls (.int y :: .int x :: st)) := by
  subst hp; exact Wp.pure (fun T t X hr => XS.isub X C.1 rfl (hb C.2.1 hd) rfl hr) K
theorem w_imul (C : Cx p s m meth c Z own bytes ml rt nm) {pc pc' : Nat} {Ls : Array Slot} {st : List Value} {x y : Int32} (hd : decode bytes pc = .ok (.imul, 1))  (hp : pc + 1 = pc') (K : Wp p l e R s m args below meth c n0 EE Q h cells slots (mkF m pc' Ls (.int (x * y) :: st))) :
    Wp p l e R s m args below meth c n0 EE Q h cells slots (mkF m pc Ls (.int y :: .int x :: st)) := by
  subst hp; exact Wp.pure (fun T t X hr => XS.imul X C.1 rfl (hb C.2.1 hd) rfl hr) K
theorem w_iand (C : Cx p s m meth c Z own bytes ml rt nm) {pc pc' : Nat} {Ls : Array Slot} {st : List Value} {x y : Int32} (hd : decode bytes pc = .ok (.iand, 1))  (hp : pc + 1 = pc') (K : Wp p l e R s m args below meth c n0 EE Q h cells slots (mkF m pc' Ls (.int (x &&& y) :: st))) :
    Wp p l e R s m args below meth c n0 EE Q h cells slots (mkF m pc Ls (.int y :: .int x :: st)) := by
  subst hp; exact Wp.pure (fun T t X hr => XS.iand X C.1 rfl (hb C.2.1 hd) rfl hr) K
theorem w_ior (C : Cx p s m meth c Z own bytes ml rt nm) {pc pc' : Nat} {Ls : Array Slot} {st : List Value} {x y : Int32} (hd : decode bytes pc = .ok (.ior, 1))  (hp : pc + 1 = pc') (K : Wp p l e R s m args below meth c n0 EE Q h cells slots (mkF m pc' Ls (.int (x ||| y) :: st))) :
    Wp p l e R s m args below meth c n0 EE Q h cells slots (mkF m pc Ls (.int y :: .int x :: st)) := by
  subst hp; exact Wp.pure (fun T t X hr => XS.ior X C.1 rfl (hb C.2.1 hd) rfl hr) K
theorem w_ixor (C : Cx p s m meth c Z own bytes ml rt nm) {pc pc' : Nat} {Ls : Array Slot} {st : List Value} {x y : Int32} (hd : decode bytes pc = .ok (.ixor, 1))  (hp : pc + 1 = pc') (K : Wp p l e R s m args below meth c n0 EE Q h cells slots (mkF m pc' Ls (.int (x ^^^ y) :: st))) :
    Wp p l e R s m args below meth c n0 EE Q h cells slots (mkF m pc Ls (.int y :: .int x :: st)) := by
  subst hp; exact Wp.pure (fun T t X hr => XS.ixor X C.1 rfl (hb C.2.1 hd) rfl hr) K
theorem w_ishl (C : Cx p s m meth c Z own bytes ml rt nm) {pc pc' : Nat} {Ls : Array Slot} {st : List Value} {x y : Int32} (hd : decode bytes pc = .ok (.ishl, 1))  (hp : pc + 1 = pc') (K : Wp p l e R s m args below meth c n0 EE Q h cells slots (mkF m pc' Ls (.int (x <<< (y &&& 31)) :: st))) :
    Wp p l e R s m args below meth c n0 EE Q h cells slots (mkF m pc Ls (.int y :: .int x :: st)) := by
  subst hp; exact Wp.pure (fun T t X hr => XS.ishl X C.1 rfl (hb C.2.1 hd) rfl hr) K
theorem w_ishr (C : Cx p s m meth c Z own bytes ml rt nm) {pc pc' : Nat} {Ls : Array Slot} {st : List Value} {x y : Int32} (hd : decode bytes pc = .ok (.ishr, 1))  (hp : pc + 1 = pc') (K : Wp p l e R s m args below meth c n0 EE Q h cells slots (mkF m pc' Ls (.int (x >>> (y &&& 31)) :: st))) :
    Wp p l e R s m args below meth c n0 EE Q h cells slots (mkF m pc Ls (.int y :: .int x :: st)) := by
  subst hp; exact Wp.pure (fun T t X hr => XS.ishr X C.1 rfl (hb C.2.1 hd) rfl hr) K
theorem w_iushr (C : Cx p s m meth c Z own bytes ml rt nm) {pc pc' : Nat} {Ls : Array Slot} {st : List Value} {x y : Int32} (hd : decode bytes pc = .ok (.iushr, 1))  (hp : pc + 1 = pc') (K : Wp p l e R s m args below meth c n0 EE Q h cells slots (mkF m pc' Ls (.int ((x.toUInt32 >>> (y &&& 31).toUInt32).toInt32) :: st))) :
    Wp p l e R s m args below meth c n0 EE Q h cells slots (mkF m pc Ls (.int y :: .int x :: st)) := by
  subst hp; exact Wp.pure (fun T t X hr => XS.iushr X C.1 rfl (hb C.2.1 hd) rfl hr) K
theorem w_ladd (C : Cx p s m meth c Z own bytes ml rt nm) {pc pc' : Nat} {Ls : Array Slot} {st : List Value} {x y : Int64} (hd : decode bytes pc = .ok (.ladd, 1))  (hp : pc + 1 = pc') (K : Wp p l e R s m args below meth c n0 EE Q h cells slots (mkF m pc' Ls (.long (x + y) :: st))) :
    Wp p l e R s m args below meth c n0 EE Q h cells slots (mkF m pc Ls (.long y :: .long x :: st)) := by
  subst hp; exact Wp.pure (fun T t X hr => XS.ladd X C.1 rfl (hb C.2.1 hd) rfl hr) K
theorem w_lsub (C : Cx p s m meth c Z own bytes ml rt nm) {pc pc' : Nat} {Ls : Array Slot} {st : List Value} {x y : Int64} (hd : decode bytes pc = .ok (.lsub, 1))  (hp : pc + 1 = pc') (K : Wp p l e R s m args below meth c n0 EE Q h cells slots (mkF m pc' Ls (.long (x - y) :: st))) :
    Wp p l e R s m args below meth c n0 EE Q h cells slots (mkF m pc Ls (.long y :: .long x :: st)) := by
  subst hp; exact Wp.pure (fun T t X hr => XS.lsub X C.1 rfl (hb C.2.1 hd) rfl hr) K
theorem w_lmul (C : Cx p s m meth c Z own bytes ml rt nm) {pc pc' : Nat} {Ls : Array Slot} {st : List Value} {x y : Int64} (hd : decode bytes pc = .ok (.lmul, 1))  (hp : pc + 1 = pc') (K : Wp p l e R s m args below meth c n0 EE Q h cells slots (mkF m pc' Ls (.long (x * y) :: st))) :
    Wp p l e R s m args below meth c n0 EE Q h cells slots (mkF m pc Ls (.long y :: .long x :: st)) := by
  subst hp; exact Wp.pure (fun T t X hr => XS.lmul X C.1 rfl (hb C.2.1 hd) rfl hr) K
theorem w_land (C : Cx p s m meth c Z own bytes ml rt nm) {pc pc' : Nat} {Ls : Array Slot} {st : List Value} {x y : Int64} (hd : decode bytes pc = .ok (.land, 1))  (hp : pc + 1 = pc') (K : Wp p l e R s m args below meth c n0 EE Q h cells slots (mkF m pc' Ls (.long (x &&& y) :: st))) :
    Wp p l e R s m args below meth c n0 EE Q h cells slots (mkF m pc Ls (.long y :: .long x :: st)) := by
  subst hp; exact Wp.pure (fun T t X hr => XS.land X C.1 rfl (hb C.2.1 hd) rfl hr) K
theorem w_lor (C : Cx p s m meth c Z own bytes ml rt nm) {pc pc' : Nat} {Ls : Array Slot} {st : List Value} {x y : Int64} (hd : decode bytes pc = .ok (.lor, 1))  (hp : pc + 1 = pc') (K : Wp p l e R s m args below meth c n0 EE Q h cells slots (mkF m pc' Ls (.long (x ||| y) :: st))) :
    Wp p l e R s m args below meth c n0 EE Q h cells slots (mkF m pc Ls (.long y :: .long x :: st)) := by
  subst hp; exact Wp.pure (fun T t X hr => XS.lor X C.1 rfl (hb C.2.1 hd) rfl hr) K
theorem w_lxor (C : Cx p s m meth c Z own bytes ml rt nm) {pc pc' : Nat} {Ls : Array Slot} {st : List Value} {x y : Int64} (hd : decode bytes pc = .ok (.lxor, 1))  (hp : pc + 1 = pc') (K : Wp p l e R s m args below meth c n0 EE Q h cells slots (mkF m pc' Ls (.long (x ^^^ y) :: st))) :
    Wp p l e R s m args below meth c n0 EE Q h cells slots (mkF m pc Ls (.long y :: .long x :: st)) := by
  subst hp; exact Wp.pure (fun T t X hr => XS.lxor X C.1 rfl (hb C.2.1 hd) rfl hr) K
theorem w_lshl (C : Cx p s m meth c Z own bytes ml rt nm) {pc pc' : Nat} {Ls : Array Slot} {st : List Value} {x : Int64} {y : Int32} (hd : decode bytes pc = .ok (.lshl, 1))  (hp : pc + 1 = pc') (K : Wp p l e R s m args below meth c n0 EE Q h cells slots (mkF m pc' Ls (.long (x <<< (y &&& 0x3f).toInt64) :: st))) :
    Wp p l e R s m args below meth c n0 EE Q h cells slots (mkF m pc Ls (.int y :: .long x :: st)) := by
  subst hp; exact Wp.pure (fun T t X hr => XS.lshl X C.1 rfl (hb C.2.1 hd) rfl hr) K
theorem w_lshr (C : Cx p s m meth c Z own bytes ml rt nm) {pc pc' : Nat} {Ls : Array Slot} {st : List Value} {x : Int64} {y : Int32} (hd : decode bytes pc = .ok (.lshr, 1))  (hp : pc + 1 = pc') (K : Wp p l e R s m args below meth c n0 EE Q h cells slots (mkF m pc' Ls (.long (x >>> (y &&& 0x3f).toInt64) :: st))) :
    Wp p l e R s m args below meth c n0 EE Q h cells slots (mkF m pc Ls (.int y :: .long x :: st)) := by
  subst hp; exact Wp.pure (fun T t X hr => XS.lshr X C.1 rfl (hb C.2.1 hd) rfl hr) K
theorem w_lushr (C : Cx p s m meth c Z own bytes ml rt nm) {pc pc' : Nat} {Ls : Array Slot} {st : List Value} {x : Int64} {y : Int32} (hd : decode bytes pc = .ok (.lushr, 1))  (hp : pc + 1 = pc') (K : Wp p l e R s m args below meth c n0 EE Q h cells slots (mkF m pc' Ls (.long ((x.toUInt64 >>> (y &&& 0x3f).toInt64.toUInt64).toInt64) :: st))) :
    Wp p l e R s m args below meth c n0 EE Q h cells slots (mkF m pc Ls (.int y :: .long x :: st)) := by
  subst hp; exact Wp.pure (fun T t X hr => XS.lushr X C.1 rfl (hb C.2.1 hd) rfl hr) K
theorem w_idiv (C : Cx p s m meth c Z own bytes ml rt nm) {pc pc' : Nat} {Ls : Array Slot} {st : List Value} {x y : Int32} (hd : decode bytes pc = .ok (.idiv, 1)) (hy : y ≠ 0) (hp : pc + 1 = pc') (K : Wp p l e R s m args below meth c n0 EE Q h cells slots (mkF m pc' Ls (.int (x / y) :: st))) :
    Wp p l e R s m args below meth c n0 EE Q h cells slots (mkF m pc Ls (.int y :: .int x :: st)) := by
  subst hp; exact Wp.pure (fun T t X hr => XS.idiv X C.1 rfl (hb C.2.1 hd) rfl hy hr) K
theorem w_ldiv (C : Cx p s m meth c Z own bytes ml rt nm) {pc pc' : Nat} {Ls : Array Slot} {st : List Value} {x y : Int64} (hd : decode bytes pc = .ok (.ldiv, 1)) (hy : y ≠ 0) (hp : pc + 1 = pc') (K : Wp p l e R s m args below meth c n0 EE Q h cells slots (mkF m pc' Ls (.long (x / y) :: st))) :
    Wp p l e R s m args below meth c n0 EE Q h cells slots (mkF m pc Ls (.long y :: .long x :: st)) := by
  subst hp; exact Wp.pure (fun T t X hr => XS.ldiv X C.1 rfl (hb C.2.1 hd) rfl hy hr) K
theorem w_irem (C : Cx p s m meth c Z own bytes ml rt nm) {pc pc' : Nat} {Ls : Array Slot} {st : List Value} {x y : Int32} (hd : decode bytes pc = .ok (.irem, 1)) (hy : y ≠ 0) (hp : pc + 1 = pc') (K : Wp p l e R s m args below meth c n0 EE Q h cells slots (mkF m pc' Ls (.int (x % y) :: st))) :
    Wp p l e R s m args below meth c n0 EE Q h cells slots (mkF m pc Ls (.int y :: .int x :: st)) := by
  subst hp; exact Wp.pure (fun T t X hr => XS.irem X C.1 rfl (hb C.2.1 hd) rfl hy (by rw [irem_eq_mod x y]; exact hr)) K
theorem w_lrem (C : Cx p s m meth c Z own bytes ml rt nm) {pc pc' : Nat} {Ls : Array Slot} {st : List Value} {x y : Int64} (hd : decode bytes pc = .ok (.lrem, 1)) (hy : y ≠ 0) (hp : pc + 1 = pc') (K : Wp p l e R s m args below meth c n0 EE Q h cells slots (mkF m pc' Ls (.long (x % y) :: st))) :
    Wp p l e R s m args below meth c n0 EE Q h cells slots (mkF m pc Ls (.long y :: .long x :: st)) := by
  subst hp; exact Wp.pure (fun T t X hr => XS.lrem X C.1 rfl (hb C.2.1 hd) rfl hy (by rw [lrem_mod x y]; exact hr)) K
theorem w_ineg (C : Cx p s m meth c Z own bytes ml rt nm) {pc pc' : Nat} {Ls : Array Slot} {st : List Value} {x : Int32} (hd : decode bytes pc = .ok (.ineg, 1))  (hp : pc + 1 = pc') (K : Wp p l e R s m args below meth c n0 EE Q h cells slots (mkF m pc' Ls (.int (-x) :: st))) :
    Wp p l e R s m args below meth c n0 EE Q h cells slots (mkF m pc Ls (.int x :: st)) := by
  subst hp; exact Wp.pure (fun T t X hr => XS.ineg X C.1 rfl (hb C.2.1 hd) rfl hr) K
theorem w_lneg (C : Cx p s m meth c Z own bytes ml rt nm) {pc pc' : Nat} {Ls : Array Slot} {st : List Value} {x : Int64} (hd : decode bytes pc = .ok (.lneg, 1))  (hp : pc + 1 = pc') (K : Wp p l e R s m args below meth c n0 EE Q h cells slots (mkF m pc' Ls (.long (-x) :: st))) :
    Wp p l e R s m args below meth c n0 EE Q h cells slots (mkF m pc Ls (.long x :: st)) := by
  subst hp; exact Wp.pure (fun T t X hr => XS.lneg X C.1 rfl (hb C.2.1 hd) rfl hr) K
theorem w_i2l (C : Cx p s m meth c Z own bytes ml rt nm) {pc pc' : Nat} {Ls : Array Slot} {st : List Value} {x : Int32} (hd : decode bytes pc = .ok (.i2l, 1))  (hp : pc + 1 = pc') (K : Wp p l e R s m args below meth c n0 EE Q h cells slots (mkF m pc' Ls (.long x.toInt64 :: st))) :
    Wp p l e R s m args below meth c n0 EE Q h cells slots (mkF m pc Ls (.int x :: st)) := by
  subst hp; exact Wp.pure (fun T t X hr => XS.i2l X C.1 rfl (hb C.2.1 hd) rfl hr) K
theorem w_l2i (C : Cx p s m meth c Z own bytes ml rt nm) {pc pc' : Nat} {Ls : Array Slot} {st : List Value} {x : Int64} (hd : decode bytes pc = .ok (.l2i, 1))  (hp : pc + 1 = pc') (K : Wp p l e R s m args below meth c n0 EE Q h cells slots (mkF m pc' Ls (.int x.toInt32 :: st))) :
    Wp p l e R s m args below meth c n0 EE Q h cells slots (mkF m pc Ls (.long x :: st)) := by
  subst hp; exact Wp.pure (fun T t X hr => XS.l2i X C.1 rfl (hb C.2.1 hd) rfl hr) K
theorem w_i2b (C : Cx p s m meth c Z own bytes ml rt nm) {pc pc' : Nat} {Ls : Array Slot} {st : List Value} {x : Int32} (hd : decode bytes pc = .ok (.i2b, 1))  (hp : pc + 1 = pc') (K : Wp p l e R s m args below meth c n0 EE Q h cells slots (mkF m pc' Ls (.int x.toInt8.toInt32 :: st))) :
    Wp p l e R s m args below meth c n0 EE Q h cells slots (mkF m pc Ls (.int x :: st)) := by
  subst hp; exact Wp.pure (fun T t X hr => XS.i2b X C.1 rfl (hb C.2.1 hd) rfl hr) K
theorem w_i2s (C : Cx p s m meth c Z own bytes ml rt nm) {pc pc' : Nat} {Ls : Array Slot} {st : List Value} {x : Int32} (hd : decode bytes pc = .ok (.i2s, 1))  (hp : pc + 1 = pc') (K : Wp p l e R s m args below meth c n0 EE Q h cells slots (mkF m pc' Ls (.int x.toInt16.toInt32 :: st))) :
    Wp p l e R s m args below meth c n0 EE Q h cells slots (mkF m pc Ls (.int x :: st)) := by
  subst hp; exact Wp.pure (fun T t X hr => XS.i2s X C.1 rfl (hb C.2.1 hd) rfl hr) K
/-- i2c -/
def toCh (x : Int32) : Int32 := x.toUInt32.toUInt16.toUInt32.toInt32
theorem w_i2c (C : Cx p s m meth c Z own bytes ml rt nm) {pc pc' : Nat} {Ls : Array Slot} {st : List Value} {x : Int32} (hd : decode bytes pc = .ok (.i2c, 1))  (hp : pc + 1 = pc') (K : Wp p l e R s m args below meth c n0 EE Q h cells slots (mkF m pc' Ls (.int (toCh x) :: st))) :
    Wp p l e R s m args below meth c n0 EE Q h cells slots (mkF m pc Ls (.int x :: st)) := by
  subst hp; exact Wp.pure (fun T t X hr => XS.i2c X C.1 rfl (hb C.2.1 hd) rfl hr) K
/-- lcmp -/
def cmpJ (x y : Int64) : Int32 := if x > y then 1 else if x = y then 0 else -1
theorem w_lcmp (C : Cx p s m meth c Z own bytes ml rt nm) {pc pc' : Nat} {Ls : Array Slot} {st : List Value} {x y : Int64} (hd : decode bytes pc = .ok (.lcmp, 1))  (hp : pc + 1 = pc') (K : Wp p l e R s m args below meth c n0 EE Q h cells slots (mkF m pc' Ls (.int (cmpJ x y) :: st))) :
    Wp p l e R s m args below meth c n0 EE Q h cells slots (mkF m pc Ls (.long y :: .long x :: st)) := by
  subst hp; exact Wp.pure (fun T t X hr => XS.lcmp X C.1 rfl (hb C.2.1 hd) rfl hr) K
theorem w_dup (C : Cx p s m meth c Z own bytes ml rt nm) {pc pc' : Nat} {Ls : Array Slot} {st : List Value} {v : Value} (hd : decode bytes pc = .ok (.dup, 1)) (hc : v.category = 1) (hp : pc + 1 = pc') (K : Wp p l e R s m args below meth c n0 EE Q h cells slots (mkF m pc' Ls (v :: v :: st))) :
    Wp p l e R s m args below meth c n0 EE Q h cells slots (mkF m pc Ls (v :: st)) := by
  subst hp; exact Wp.pure (fun T t X hr => XS.dup X C.1 rfl (hb C.2.1 hd) rfl hc hr) K
theorem w_pop (C : Cx p s m meth c Z own bytes ml rt nm) {pc pc' : Nat} {Ls : Array Slot} {st : List Value} {v : Value} (hd : decode bytes pc = .ok (.pop, 1)) (hc : v.category = 1) (hp : pc + 1 = pc') (K : Wp p l e R s m args below meth c n0 EE Q h cells slots (mkF m pc' Ls st)) :
    Wp p l e R s m args below meth c n0 EE Q h cells slots (mkF m pc Ls (v :: st)) := by
  subst hp; exact Wp.pure (fun T t X hr => XS.pop X C.1 rfl (hb C.2.1 hd) rfl hc hr) K
theorem w_dupX1 (C : Cx p s m meth c Z own bytes ml rt nm) {pc pc' : Nat} {Ls : Array Slot} {st : List Value} {v w : Value} (hd : decode bytes pc = .ok (.dup_x1, 1)) (hc : v.category = 1) (hc' : w.category = 1) (hp : pc + 1 = pc') (K : Wp p l e R s m args below meth c n0 EE Q h cells slots (mkF m pc' Ls (v :: w :: v :: st))) :
    Wp p l e R s m args below meth c n0 EE Q h cells slots (mkF m pc Ls (v :: w :: st)) := by
  subst hp; exact Wp.pure (fun T t X hr => XS.dupX1 X C.1 rfl (hb C.2.1 hd) rfl hc hc' hr) K
theorem w_dup2 (C : Cx p s m meth c Z own bytes ml rt nm) {pc pc' : Nat} {Ls : Array Slot} {st : List Value} {v w : Value} (hd : decode bytes pc = .ok (.dup2, 1)) (hc : v.category = 1) (hc' : w.category = 1) (hp : pc + 1 = pc') (K : Wp p l e R s m args below meth c n0 EE Q h cells slots (mkF m pc' Ls (v :: w :: v :: w :: st))) :
    Wp p l e R s m args below meth c n0 EE Q h cells slots (mkF m pc Ls (v :: w :: st)) := by
  subst hp; exact Wp.pure (fun T t X hr => XT.dup2 X C.1 rfl (hb C.2.1 hd) rfl hc hc' hr) K
theorem w_eqI {pc : Nat} {Ls : Array Slot} {st : List Value} {x z : Int32} (hz : x = z) (K : Wp p l e R s m args below meth c n0 EE Q h cells slots (mkF m pc Ls (.int z :: st))) :
    Wp p l e R s m args below meth c n0 EE Q h cells slots (mkF m pc Ls (.int x :: st)) := by
  subst hz; exact K
theorem w_eqJ {pc : Nat} {Ls : Array Slot} {st : List Value} {x z : Int64} (hz : x = z) (K : Wp p l e R s m args below meth c n0 EE Q h cells slots (mkF m pc Ls (.long z :: st))) :
    Wp p l e R s m args below meth c n0 EE Q h cells slots (mkF m pc Ls (.long x :: st)) := by
  subst hz; exact K
theorem w_iincE (C : Cx p s m meth c Z own bytes ml rt nm) {pc pc' : Nat} {Ls Ls' : Array Slot} {st : List Value} {k : Nat} {cst : Int} {x z : Int32} (hd : decode bytes pc = .ok (.iinc k cst, 3)) (hx : Ls[k]? = some (.val (.int x))) (hz : x + Int32.ofInt cst = z) (hl : storeLocals Ls k (.int z) = some Ls') (hp : pc + 3 = pc') (K : Wp p l e R s m args below meth c n0 EE Q h cells slots (mkF m pc' Ls' st)) :
    Wp p l e R s m args below meth c n0 EE Q h cells slots (mkF m pc Ls st) := by
  subst hz; exact w_iinc C hd hx hl hp K
theorem w_goto (C : Cx p s m meth c Z own bytes ml rt nm) {pc pc' : Nat} {Ls : Array Slot} {st : List Value} {o : Int} (hd : decode bytes pc = .ok (.goto o, 3)) (ho : 0 ≤ (pc : Int) + o) (hp : ((pc : Int) + o).toNat = pc') (K : Wp p l e R s m args below meth c n0 EE Q h cells slots (mkF m pc' Ls st)) :
    Wp p l e R s m args below meth c n0 EE Q h cells slots (mkF m pc Ls st) :=
  Wp.pure (fun T t X hr => XS.goto X C.1 rfl rfl (hb C.2.1 hd) ho hp hr) K
theorem w_icmp_lt (C : Cx p s m meth c Z own bytes ml rt nm) {pc pcT pcF : Nat} {Ls : Array Slot} {st : List Value} {x y : Int32} {o : Int} (hd : decode bytes pc = .ok (.if_icmp .lt o, 3)) (ho : 0 ≤ (pc : Int) + o) (hT : ((pc : Int) + o).toNat = pcT) (hF : pc + 3 = pcF)
    (KT : x < y → Wp p l e R s m args below meth c n0 EE Q h cells slots (mkF m pcT Ls st)) (KF : ¬ x < y → Wp p l e R s m args below meth c n0 EE Q h cells slots (mkF m pcF Ls st)) :
    Wp p l e R s m args below meth c n0 EE Q h cells slots (mkF m pc Ls (.int y :: .int x :: st)) := by
  subst hF
  by_cases q : x < y
  · exact Wp.pure (fun T t X hr => XS.icmpYes X C.1 rfl rfl (hb C.2.1 hd) rfl (tlt q).1 ho hT hr) (KT q)
  · exact Wp.pure (fun T t X hr => XS.icmpNo X C.1 rfl (hb C.2.1 hd) rfl (flt q).1 hr) (KF q)
theorem w_if_lt (C : Cx p s m meth c Z own bytes ml rt nm) {pc pcT pcF : Nat} {Ls : Array Slot} {st : List Value} {x : Int32} {o : Int} (hd : decode bytes pc = .ok (.ifCond .lt o, 3)) (ho : 0 ≤ (pc : Int) + o) (hT : ((pc : Int) + o).toNat = pcT) (hF : pc + 3 = pcF)
    (KT : x < 0 → Wp p l e R s m args below meth c n0 EE Q h cells slots (mkF m pcT Ls st)) (KF : ¬ x < 0 → Wp p l e R s m args below meth c n0 EE Q h cells slots (mkF m pcF Ls st)) :
    Wp p l e R s m args below meth c n0 EE Q h cells slots (mkF m pc Ls (.int x :: st)) := by
  subst hF
  by_cases q : x < 0
  · exact Wp.pure (fun T t X hr => XS.ifYes X C.1 rfl rfl (hb C.2.1 hd) rfl ((if0 _ _).trans (tlt q).1) ho hT hr) (KT q)
  · exact Wp.pure (fun T t X hr => XS.ifNo X C.1 rfl (hb C.2.1 hd) rfl ((if0 _ _).trans (flt q).1) hr) (KF q)
theorem w_icmp_ge (C : Cx p s m meth c Z own bytes ml rt nm) {pc pcT pcF : Nat} {Ls : Array Slot} {st : List Value} {x y : Int32} {o : Int} (hd : decode bytes pc = .ok (.if_icmp .ge o, 3)) (ho : 0 ≤ (pc : Int) + o) (hT : ((pc : Int) + o).toNat = pcT) (hF : pc + 3 = pcF)
    (KT : ¬ x < y → Wp p l e R s m args below meth c n0 EE Q h cells slots (mkF m pcT Ls st)) (KF : x < y → Wp p l e R s m args below meth c n0 EE Q h cells slots (mkF m pcF Ls st)) :
    Wp p l e R s m args below meth c n0 EE Q h cells slots (mkF m pc Ls (.int y :: .int x :: st)) := by
  subst hF
  by_cases q : ¬ x < y
  · exact Wp.pure (fun T t X hr => XS.icmpYes X C.1 rfl rfl (hb C.2.1 hd) rfl (flt q).2.1 ho hT hr) (KT q)
  · exact Wp.pure (fun T t X hr => XS.icmpNo X C.1 rfl (hb C.2.1 hd) rfl (tlt (Classical.not_not.mp q)).2.1 hr) (KF (Classical.not_not.mp q))
theorem w_if_ge (C : Cx p s m meth c Z own bytes ml rt nm) {pc pcT pcF : Nat} {Ls : Array Slot} {st : List Value} {x : Int32} {o : Int} (hd : decode bytes pc = .ok (.ifCond .ge o, 3)) (ho : 0 ≤ (pc : Int) + o) (hT : ((pc : Int) + o).toNat = pcT) (hF : pc + 3 = pcF)
    (KT : ¬ x < 0 → Wp p l e R s m args below meth c n0 EE Q h cells slots (mkF m pcT Ls st)) (KF : x < 0 → Wp p l e R s m args below meth c n0 EE Q h cells slots (mkF m pcF Ls st)) :
    Wp p l e R s m args below meth c n0 EE Q h cells slots (mkF m pc Ls (.int x :: st)) := by
  subst hF
  by_cases q : ¬ x < 0
  · exact Wp.pure (fun T t X hr => XS.ifYes X C.1 rfl rfl (hb C.2.1 hd) rfl ((if0 _ _).trans (flt q).2.1) ho hT hr) (KT q)
  · exact Wp.pure (fun T t X hr => XS.ifNo X C.1 rfl (hb C.2.1 hd) rfl ((if0 _ _).trans (tlt (Classical.not_not.mp q)).2.1) hr) (KF (Classical.not_not.mp q))
theorem w_icmp_gt (C : Cx p s m meth c Z own bytes ml rt nm) {pc pcT pcF : Nat} {Ls : Array Slot} {st : List Value} {x y : Int32} {o : Int} (hd : decode bytes pc = .ok (.if_icmp .gt o, 3)) (ho : 0 ≤ (pc : Int) + o) (hT : ((pc : Int) + o).toNat = pcT) (hF : pc + 3 = pcF)
    (KT : y < x → Wp p l e R s m args below meth c n0 EE Q h cells slots (mkF m pcT Ls st)) (KF : ¬ y < x → Wp p l e R s m args below meth c n0 EE Q h cells slots (mkF m pcF Ls st)) :
    Wp p l e R s m args below meth c n0 EE Q h cells slots (mkF m pc Ls (.int y :: .int x :: st)) := by
  subst hF
  by_cases q : y < x
  · exact Wp.pure (fun T t X hr => XS.icmpYes X C.1 rfl rfl (hb C.2.1 hd) rfl (tlt q).2.2.1 ho hT hr) (KT q)
  · exact Wp.pure (fun T t X hr => XS.icmpNo X C.1 rfl (hb C.2.1 hd) rfl (flt q).2.2.1 hr) (KF q)
theorem w_if_gt (C : Cx p s m meth c Z own bytes ml rt nm) {pc pcT pcF : Nat} {Ls : Array Slot} {st : List Value} {x : Int32} {o : Int} (hd : decode bytes pc = .ok (.ifCond .gt o, 3)) (ho : 0 ≤ (pc : Int) + o) (hT : ((pc : Int) + o).toNat = pcT) (hF : pc + 3 = pcF)
    (KT : 0 < x → Wp p l e R s m args below meth c n0 EE Q h cells slots (mkF m pcT Ls st)) (KF : ¬ 0 < x → Wp p l e R s m args below meth c n0 EE Q h cells slots (mkF m pcF Ls st)) :
    Wp p l e R s m args below meth c n0 EE Q h cells slots (mkF m pc Ls (.int x :: st)) := by
  subst hF
  by_cases q : 0 < x
  · exact Wp.pure (fun T t X hr => XS.ifYes X C.1 rfl rfl (hb C.2.1 hd) rfl ((if0 _ _).trans (tlt q).2.2.1) ho hT hr) (KT q)
  · exact Wp.pure (fun T t X hr => XS.ifNo X C.1 rfl (hb C.2.1 hd) rfl ((if0 _ _).trans (flt q).2.2.1) hr) (KF q)
theorem w_icmp_le (C : Cx p s m meth c Z own bytes ml rt nm) {pc pcT pcF : Nat} {Ls : Array Slot} {st : List Value} {x y : Int32} {o : Int} (hd : decode bytes pc = .ok (.if_icmp .le o, 3)) (ho : 0 ≤ (pc : Int) + o) (hT : ((pc : Int) + o).toNat = pcT) (hF : pc + 3 = pcF)
    (KT : ¬ y < x → Wp p l e R s m args below meth c n0 EE Q h cells slots (mkF m pcT Ls st)) (KF : y < x → Wp p l e R s m args below meth c n0 EE Q h cells slots (mkF m pcF Ls st)) :
    Wp p l e R s m args below meth c n0 EE Q h cells slots (mkF m pc Ls (.int y :: .int x :: st)) := by
  subst hF
  by_cases q : ¬ y < x
  · exact Wp.pure (fun T t X hr => XS.icmpYes X C.1 rfl rfl (hb C.2.1 hd) rfl (flt q).2.2.2 ho hT hr) (KT q)
  · exact Wp.pure (fun T t X hr => XS.icmpNo X C.1 rfl (hb C.2.1 hd) rfl (tlt (Classical.not_not.mp q)).2.2.2 hr) (KF (Classical.not_not.mp q))
theorem w_if_le (C : Cx p s m meth c Z own bytes ml rt nm) {pc pcT pcF : Nat} {Ls : Array Slot} {st : List Value} {x : Int32} {o : Int} (hd : decode bytes pc = .ok (.ifCond .le o, 3)) (ho : 0 ≤ (pc : Int) + o) (hT : ((pc : Int) + o).toNat = pcT) (hF : pc + 3 = pcF)
    (KT : ¬ 0 < x → Wp p l e R s m args below meth c n0 EE Q h cells slots (mkF m pcT Ls st)) (KF : 0 < x → Wp p l e R s m args below meth c n0 EE Q h cells slots (mkF m pcF Ls st)) :
    Wp p l e R s m args below meth c n0 EE Q h cells slots (mkF m pc Ls (.int x :: st)) := by
  subst hF
  by_cases q : ¬ 0 < x
  · exact Wp.pure (fun T t X hr => XS.ifYes X C.1 rfl rfl (hb C.2.1 hd) rfl ((if0 _ _).trans (flt q).2.2.2) ho hT hr) (KT q)
  · exact Wp.pure (fun T t X hr => XS.ifNo X C.1 rfl (hb C.2.1 hd) rfl ((if0 _ _).trans (tlt (Classical.not_not.mp q)).2.2.2) hr) (KF (Classical.not_not.mp q))
theorem w_icmp_eq (C : Cx p s m meth c Z own bytes ml rt nm) {pc pcT pcF : Nat} {Ls : Array Slot} {st : List Value} {x y : Int32} {o : Int} (hd : decode bytes pc = .ok (.if_icmp .eq o, 3)) (ho : 0 ≤ (pc : Int) + o) (hT : ((pc : Int) + o).toNat = pcT) (hF : pc + 3 = pcF)
    (KT : x = y → Wp p l e R s m args below meth c n0 EE Q h cells slots (mkF m pcT Ls st)) (KF : ¬ x = y → Wp p l e R s m args below meth c n0 EE Q h cells slots (mkF m pcF Ls st)) :
    Wp p l e R s m args below meth c n0 EE Q h cells slots (mkF m pc Ls (.int y :: .int x :: st)) := by
  subst hF
  by_cases q : x = y
  · exact Wp.pure (fun T t X hr => XS.icmpYes X C.1 rfl rfl (hb C.2.1 hd) rfl (teq q).1 ho hT hr) (KT q)
  · exact Wp.pure (fun T t X hr => XS.icmpNo X C.1 rfl (hb C.2.1 hd) rfl (feq q).1 hr) (KF q)
theorem w_if_eq (C : Cx p s m meth c Z own bytes ml rt nm) {pc pcT pcF : Nat} {Ls : Array Slot} {st : List Value} {x : Int32} {o : Int} (hd : decode bytes pc = .ok (.ifCond .eq o, 3)) (ho : 0 ≤ (pc : Int) + o) (hT : ((pc : Int) + o).toNat = pcT) (hF : pc + 3 = pcF)
    (KT : x = 0 → Wp p l e R s m args below meth c n0 EE Q h cells slots (mkF m pcT Ls st)) (KF : ¬ x = 0 → Wp p l e R s m args below meth c n0 EE Q h cells slots (mkF m pcF Ls st)) :
    Wp p l e R s m args below meth c n0 EE Q h cells slots (mkF m pc Ls (.int x :: st)) := by
  subst hF
  by_cases q : x = 0
  · exact Wp.pure (fun T t X hr => XS.ifYes X C.1 rfl rfl (hb C.2.1 hd) rfl ((if0 _ _).trans (teq q).1) ho hT hr) (KT q)
  · exact Wp.pure (fun T t X hr => XS.ifNo X C.1 rfl (hb C.2.1 hd) rfl ((if0 _ _).trans (feq q).1) hr) (KF q)
theorem w_icmp_ne (C : Cx p s m meth c Z own bytes ml rt nm) {pc pcT pcF : Nat} {Ls : Array Slot} {st : List Value} {x y : Int32} {o : Int} (hd : decode bytes pc = .ok (.if_icmp .ne o, 3)) (ho : 0 ≤ (pc : Int) + o) (hT : ((pc : Int) + o).toNat = pcT) (hF : pc + 3 = pcF)
    (KT : ¬ x = y → Wp p l e R s m args below meth c n0 EE Q h cells slots (mkF m pcT Ls st)) (KF : x = y → Wp p l e R s m args below meth c n0 EE Q h cells slots (mkF m pcF Ls st)) :
    Wp p l e R s m args below meth c n0 EE Q h cells slots (mkF m pc Ls (.int y :: .int x :: st)) := by
  subst hF
  by_cases q : ¬ x = y
  · exact Wp.pure (fun T t X hr => XS.icmpYes X C.1 rfl rfl (hb C.2.1 hd) rfl (feq q).2 ho hT hr) (KT q)
  · exact Wp.pure (fun T t X hr => XS.icmpNo X C.1 rfl (hb C.2.1 hd) rfl (teq (Classical.not_not.mp q)).2 hr) (KF (Classical.not_not.mp q))
theorem w_if_ne (C : Cx p s m meth c Z own bytes ml rt nm) {pc pcT pcF : Nat} {Ls : Array Slot} {st : List Value} {x : Int32} {o : Int} (hd : decode bytes pc = .ok (.ifCond .ne o, 3)) (ho : 0 ≤ (pc : Int) + o) (hT : ((pc : Int) + o).toNat = pcT) (hF : pc + 3 = pcF)
    (KT : ¬ x = 0 → Wp p l e R s m args below meth c n0 EE Q h cells slots (mkF m pcT Ls st)) (KF : x = 0 → Wp p l e R s m args below meth c n0 EE Q h cells slots (mkF m pcF Ls st)) :
    Wp p l e R s m args below meth c n0 EE Q h cells slots (mkF m pc Ls (.int x :: st)) := by
  subst hF
  by_cases q : ¬ x = 0
  · exact Wp.pure (fun T t X hr => XS.ifYes X C.1 rfl rfl (hb C.2.1 hd) rfl ((if0 _ _).trans (feq q).2) ho hT hr) (KT q)
  · exact Wp.pure (fun T t X hr => XS.ifNo X C.1 rfl (hb C.2.1 hd) rfl ((if0 _ _).trans (teq (Classical.not_not.mp q)).2) hr) (KF (Classical.not_not.mp q))
theorem w_ifnull_null (C : Cx p s m meth c Z own bytes ml rt nm) {pc pc' : Nat} {Ls : Array Slot} {st : List Value}  {o : Int} (hd : decode bytes pc = .ok (.ifnull o, 3)) (ho : 0 ≤ (pc : Int) + o) (hp : ((pc : Int) + o).toNat = pc') (K : Wp p l e R s m args below meth c n0 EE Q h cells slots (mkF m pc' Ls st)) :
    Wp p l e R s m args below meth c n0 EE Q h cells slots (mkF m pc Ls (.null :: st)) :=
  Wp.pure (fun T t X hr => XS.ifnullYes X C.1 rfl rfl (hb C.2.1 hd) rfl ho hp hr) K
theorem w_ifnull_ref (C : Cx p s m meth c Z own bytes ml rt nm) {pc pc' : Nat} {Ls : Array Slot} {st : List Value} {b : Addr} {o : Int} (hd : decode bytes pc = .ok (.ifnull o, 3)) (hp : pc + 3 = pc') (K : Wp p l e R s m args below meth c n0 EE Q h cells slots (mkF m pc' Ls st)) :
    Wp p l e R s m args below meth c n0 EE Q h cells slots (mkF m pc Ls (.ref b :: st)) := by
  subst hp; exact Wp.pure (fun T t X hr => XS.ifnullNo X C.1 rfl (hb C.2.1 hd) rfl hr) K
theorem w_ifnonnull_ref (C : Cx p s m meth c Z own bytes ml rt nm) {pc pc' : Nat} {Ls : Array Slot} {st : List Value} {b : Addr} {o : Int} (hd : decode bytes pc = .ok (.ifnonnull o, 3)) (ho : 0 ≤ (pc : Int) + o) (hp : ((pc : Int) + o).toNat = pc') (K : Wp p l e R s m args below meth c n0 EE Q h cells slots (mkF m pc' Ls st)) :
    Wp p l e R s m args below meth c n0 EE Q h cells slots (mkF m pc Ls (.ref b :: st)) :=
  Wp.pure (fun T t X hr => XS.ifnonnullYes X C.1 rfl rfl (hb C.2.1 hd) rfl ho hp hr) K
theorem w_ifnonnull_null (C : Cx p s m meth c Z own bytes ml rt nm) {pc pc' : Nat} {Ls : Array Slot} {st : List Value}  {o : Int} (hd : decode bytes pc = .ok (.ifnonnull o, 3)) (hp : pc + 3 = pc') (K : Wp p l e R s m args below meth c n0 EE Q h cells slots (mkF m pc' Ls st)) :
    Wp p l e R s m args below meth c n0 EE Q h cells slots (mkF m pc Ls (.null :: st)) := by
  subst hp; exact Wp.pure (fun T t X hr => XS.ifnonnullNo X C.1 rfl (hb C.2.1 hd) rfl hr) K
theorem w_acmp_eq (C : Cx p s m meth c Z own bytes ml rt nm) {pc pcT pcF : Nat} {Ls : Array Slot} {st : List Value} {v w : Value} {o : Int} (hv : v.isRef = true) (hw : w.isRef = true) (hd : decode bytes pc = .ok (.if_acmp .eq o, 3)) (ho : 0 ≤ (pc : Int) + o) (hT : ((pc : Int) + o).toNat = pcT) (hF : pc + 3 = pcF)
    (KT : v = w → Wp p l e R s m args below meth c n0 EE Q h cells slots (mkF m pcT Ls st)) (KF : ¬ v = w → Wp p l e R s m args below meth c n0 EE Q h cells slots (mkF m pcF Ls st)) :
    Wp p l e R s m args below meth c n0 EE Q h cells slots (mkF m pc Ls (w :: v :: st)) := by
  intro T locs X e0 N
  by_cases q : v = w
  · obtain ⟨s2, u, L, a, r⟩ := KT q T locs X e0 N
    exact ⟨s2, u, L, Jvm.RoadKit.acmp (g := mkF m pc Ls (w :: v :: st)) X C.1 rfl hv hw (pc0 := pc) (same := true) rfl (hb C.2.1 hd) rfl (decide_eq_true q) ho (by simp [acV, hT, hF]) a, r⟩
  · obtain ⟨s2, u, L, a, r⟩ := KF q T locs X e0 N
    exact ⟨s2, u, L, Jvm.RoadKit.acmp (g := mkF m pc Ls (w :: v :: st)) X C.1 rfl hv hw (pc0 := pc) (same := false) rfl (hb C.2.1 hd) rfl (decide_eq_false q) ho (by simp [acV, hT, hF]) a, r⟩
theorem w_acmp_ne (C : Cx p s m meth c Z own bytes ml rt nm) {pc pcT pcF : Nat} {Ls : Array Slot} {st : List Value} {v w : Value} {o : Int} (hv : v.isRef = true) (hw : w.isRef = true) (hd : decode bytes pc = .ok (.if_acmp .ne o, 3)) (ho : 0 ≤ (pc : Int) + o) (hT : ((pc : Int) + o).toNat = pcT) (hF : pc + 3 = pcF)
    (KT : ¬ v = w → Wp p l e R s m args below meth c n0 EE Q h cells slots (mkF m pcT Ls st)) (KF : v = w → Wp p l e R s m args below meth c n0 EE Q h cells slots (mkF m pcF Ls st)) :
    Wp p l e R s m args below meth c n0 EE Q h cells slots (mkF m pc Ls (w :: v :: st)) := by
  intro T locs X e0 N
  by_cases q : v = w
  · obtain ⟨s2, u, L, a, r⟩ := KF q T locs X e0 N
    exact ⟨s2, u, L, Jvm.RoadKit.acmp (g := mkF m pc Ls (w :: v :: st)) X C.1 rfl hv hw (pc0 := pc) (same := true) rfl (hb C.2.1 hd) rfl (decide_eq_true q) ho (by simp [acV, hT, hF]) a, r⟩
  · obtain ⟨s2, u, L, a, r⟩ := KT q T locs X e0 N
    exact ⟨s2, u, L, Jvm.RoadKit.acmp (g := mkF m pc Ls (w :: v :: st)) X C.1 rfl hv hw (pc0 := pc) (same := false) rfl (hb C.2.1 hd) rfl (decide_eq_false q) ho (by simp [acV, hT, hF]) a, r⟩
theorem w_ldcI (C : Cx p s m meth c Z own bytes ml rt nm) {pc pc' : Nat} {Ls : Array Slot} {st : List Value} {i : Nat} {x : Int32} (w : (Jvm.Cond.constant own i x).before a0 Z = true) (hd : decode bytes pc = .ok (.ldc i, 2)) (hp : pc + 2 = pc') (K : Wp p l e R s m args below meth c n0 EE Q h cells slots (mkF m pc' Ls (.int x :: st))) :
    Wp p l e R s m args below meth c n0 EE Q h cells slots (mkF m pc Ls st) := by
  subst hp; intro T locs X e0 N
  obtain ⟨s2, v, L, a, r⟩ := K T locs X e0 N
  exact ⟨s2, v, L, X.ldcInt C.1 C.2.2.2.1 (mvT C.2.2.1 w) (g := mkF m pc Ls st) rfl (hb C.2.1 hd) _ a, r⟩
theorem w_ldcwI (C : Cx p s m meth c Z own bytes ml rt nm) {pc pc' : Nat} {Ls : Array Slot} {st : List Value} {i : Nat} {x : Int32} (w : (Jvm.Cond.constant own i x).before a0 Z = true) (hd : decode bytes pc = .ok (.ldc_w i, 3)) (hp : pc + 3 = pc') (K : Wp p l e R s m args below meth c n0 EE Q h cells slots (mkF m pc' Ls (.int x :: st))) :
    Wp p l e R s m args below meth c n0 EE Q h cells slots (mkF m pc Ls st) := by
  subst hp; intro T locs X e0 N
  obtain ⟨s2, v, L, a, r⟩ := K T locs X e0 N
  exact ⟨s2, v, L, X.ldcwInt C.1 C.2.2.2.1 (mvT C.2.2.1 w) (g := mkF m pc Ls st) rfl (hb C.2.1 hd) _ a, r⟩
theorem w_ldc2J (C : Cx p s m meth c Z own bytes ml rt nm) {pc pc' : Nat} {Ls : Array Slot} {st : List Value} {i : Nat} {x : Int64} (w : (Jvm.Cond.constantLong own i x).before a0 Z = true) (hd : decode bytes pc = .ok (.ldc2_w i, 3)) (hp : pc + 3 = pc') (K : Wp p l e R s m args below meth c n0 EE Q h cells slots (mkF m pc' Ls (.long x :: st))) :
    Wp p l e R s m args below meth c n0 EE Q h cells slots (mkF m pc Ls st) := by
  subst hp; intro T locs X e0 N
  obtain ⟨s2, v, L, a, r⟩ := K T locs X e0 N
  exact ⟨s2, v, L, X.ldc2Long C.1 C.2.2.2.1 (mvT C.2.2.1 w) (g := mkF m pc Ls st) rfl (hb C.2.1 hd) _ a, r⟩
theorem w_retN (C : Cx p s m meth c Z own bytes ml rt nm) {pc : Nat} {Ls : Array Slot} {st : List Value} {z : Int32} {t : FieldType} (hrt : rt = some t) (ht : t = .boolean ∨ t = .byte ∨ t = .char ∨ t = .short) (hd : decode bytes pc = .ok (.ireturn, 1)) (hE : Closes s h cells slots EE) (q : Q (some (.int (nar t z))) h) :
    Wp p l e R s m args below meth c n0 EE Q h cells slots (mkF m pc Ls (.int z :: st)) :=
  have hr : meth.sig.returnType = some t := C.2.2.2.2.2.1.trans hrt
  Wp.ret C (fun T fs locs X hl => retN X C.1 hr ht (hb C.2.1 hd) hl) (fun q => by rw [hr] at q; cases q) hE q
theorem narB0 : nar .boolean 0 = 0 := by decide
theorem narB1 : nar .boolean 1 = 1 := by decide
theorem w_retN' (C : Cx p s m meth c Z own bytes ml rt nm) {pc : Nat} {Ls : Array Slot} {st : List Value} {z z' : Int32} {t : FieldType} (hrt : rt = some t) (ht : t = .boolean ∨ t = .byte ∨ t = .char ∨ t = .short) (hd : decode bytes pc = .ok (.ireturn, 1)) (hE : Closes s h cells slots EE) (hz : nar t z = z') (q : Q (some (.int z')) h) :
    Wp p l e R s m args below meth c n0 EE Q h cells slots (mkF m pc Ls (.int z :: st)) := by
  subst hz; exact w_retN C hrt ht hd hE q
theorem ireturn_step {T : State} {locs : List Loc} (X : Stand p l e R s m args below meth c T locs cells slots) (hx : p.tables.exec = Jvm.exec) {pc : Nat} {Ls : Array Slot} {z : Int32} {rest : List Value} (hret : meth.sig.returnType = some .int) (hd : decode c.code pc = .ok (.ireturn, 1)) {fs : List Frame}
    (hl : ∀ (f : JFrame) (acts : List Action), f.method = m → f.locked = none → f.entered = [] → (doReturn e (T.setTop f) acts (some (.int z))).1 = T.setFrames fs) : Steps p.tables e below (T.setTop (mkF m pc Ls (.int z :: rest))) (T.setFrames fs) :=
  retOut X hx (t := .int) (i := .ireturn) hret rfl (Or.inl ⟨rfl, Or.inl rfl, _, rfl⟩) hd hl
theorem w_retI (C : Cx p s m meth c Z own bytes ml rt nm) {pc : Nat} {Ls : Array Slot} {st : List Value} {z : Int32} (hrt : rt = some .int) (hd : decode bytes pc = .ok (.ireturn, 1)) (hE : Closes s h cells slots EE) (q : Q (some (.int z)) h) :
    Wp p l e R s m args below meth c n0 EE Q h cells slots (mkF m pc Ls (.int z :: st)) :=
  have hr : meth.sig.returnType = some .int := C.2.2.2.2.2.1.trans hrt
  Wp.ret C (fun T fs locs X hl => ireturn_step X C.1 hr (hb C.2.1 hd) hl) (fun q => by rw [hr] at q; cases q) hE q
theorem w_retJ (C : Cx p s m meth c Z own bytes ml rt nm) {pc : Nat} {Ls : Array Slot} {st : List Value} {z : Int64} (hrt : rt = some .long) (hd : decode bytes pc = .ok (.lreturn, 1)) (hE : Closes s h cells slots EE) (q : Q (some (.long z)) h) :
    Wp p l e R s m args below meth c n0 EE Q h cells slots (mkF m pc Ls (.long z :: st)) :=
  have hr : meth.sig.returnType = some .long := C.2.2.2.2.2.1.trans hrt
  Wp.ret C (fun T fs locs X hl => retOut X C.1 (t := .long) (i := .lreturn) hr rfl (Or.inr (Or.inl ⟨rfl, rfl, _, rfl⟩)) (hb C.2.1 hd) hl) (fun q => by rw [hr] at q; cases q) hE q
theorem w_retA (C : Cx p s m meth c Z own bytes ml rt nm) {pc : Nat} {Ls : Array Slot} {st : List Value} {v : Value} {t : FieldType} (hrt : rt = some t) (ht : t.isReference = true) (hv : v.isRef = true) (hd : decode bytes pc = .ok (.areturn, 1)) (hE : Closes s h cells slots EE) (q : Q (some v) h) :
    Wp p l e R s m args below meth c n0 EE Q h cells slots (mkF m pc Ls (v :: st)) :=
  have hr : meth.sig.returnType = some t := C.2.2.2.2.2.1.trans hrt
  Wp.ret C (fun T fs locs X hl => retOut X C.1 (t := t) (i := .areturn) hr (by cases v <;> simp [Value.isRef] at hv <;> cases t <;> first | rfl | (simp [FieldType.isReference] at ht)) (Or.inr (Or.inr (Or.inr (Or.inr ⟨rfl, ht, hv⟩)))) (hb C.2.1 hd) hl) (fun q => by rw [hr] at q; cases q) hE q
theorem w_ret0 (C : Cx p s m meth c Z own bytes ml rt nm) {pc : Nat} {Ls : Array Slot} (hrt : rt = none) (hd : decode bytes pc = .ok (.return_, 1)) (hE : Closes s h cells slots EE) (q : Q none h) :
    Wp p l e R s m args below meth c n0 EE Q h cells slots (mkF m pc Ls []) :=
  have hr : meth.sig.returnType = none := C.2.2.2.2.2.1.trans hrt
  Wp.ret C (fun T fs locs X hl => X.returnOut C.1 hr (hb C.2.1 hd) hl) (fun _ => rfl) hE q
theorem w_getF (C : Cx p s m meth c Z own bytes ml rt nm) {pc pc' : Nat} {Ls : Array Slot} {st : List Value} {O n d : String} {i : Nat} {a : Addr} {v : Value} (w : (Jvm.Cond.fieldLink own i O n d).before a0 Z = true) (hd : decode bytes pc = .ok (.getfield i, 3)) (hp : pc + 3 = pc') (F : Fld Z h a O n d v) (K : Wp p l e R s m args below meth c n0 EE Q h cells slots (mkF m pc' Ls (v :: st))) :
    Wp p l e R s m args below meth c n0 EE Q h cells slots (mkF m pc Ls (.ref a :: st)) := by
  subst hp
  exact Wp.law (fun T locs X e0 => getF X C.1 C.2.2.1 C.2.2.2.1 (host := "") (Or.inl w) Via.refl e0 F (g := mkF m pc Ls (.ref a :: st)) rfl rfl (hb C.2.1 hd)) K
theorem w_getFN (C : Cx p s m meth c Z own bytes ml rt nm) {pc pc' : Nat} {Ls : Array Slot} {st : List Value} {O n d host : String} {i : Nat} {a : Addr} {v : Value} (w : (Jvm.Cond.fieldLinkNest own i O n d host).before a0 Z = true) (hd : decode bytes pc = .ok (.getfield i, 3)) (hp : pc + 3 = pc') (F : Fld Z h a O n d v) (K : Wp p l e R s m args below meth c n0 EE Q h cells slots (mkF m pc' Ls (v :: st))) :
    Wp p l e R s m args below meth c n0 EE Q h cells slots (mkF m pc Ls (.ref a :: st)) := by
  subst hp
  exact Wp.law (fun T locs X e0 => getF X C.1 C.2.2.1 C.2.2.2.1 (Or.inr w) Via.refl e0 F (g := mkF m pc Ls (.ref a :: st)) rfl rfl (hb C.2.1 hd)) K
theorem w_getS (C : Cx p s m meth c Z own bytes ml rt nm) {pc pc' : Nat} {Ls : Array Slot} {st : List Value} {O n d : String} {i : Nat} {v : Value} (w : (Jvm.Cond.fieldLink own i O n d).before a0 Z = true) (hd : decode bytes pc = .ok (.getstatic i, 3)) (hp : pc + 3 = pc') (F : Sta Z h O n d v) (K : Wp p l e R s m args below meth c n0 EE Q h cells slots (mkF m pc' Ls (v :: st))) :
    Wp p l e R s m args below meth c n0 EE Q h cells slots (mkF m pc Ls st) := by
  subst hp
  exact Wp.law (fun T locs X e0 => getS X C.1 C.2.2.1 C.2.2.2.1 (host := "") w Via.refl e0 F (g := mkF m pc Ls st) rfl (hb C.2.1 hd)) K
theorem w_putF (C : Cx p s m meth c Z own bytes ml rt nm) {pc pc' : Nat} {Ls : Array Slot} {st : List Value} {O n d Cl : String} {i kk : Nat} {a : Addr} {v old : Value} {ty : FieldType} (w : (Jvm.Cond.fieldLink own i O n d).before a0 Z = true) (L : (Jvm.Cond.lays Cl O n d).before a0 Z = true ∨ ((Jvm.Cond.laysFinal Cl O n d).before a0 Z = true ∧ own = O ∧ nm = "<init>")) (wi : (Jvm.Cond.instantiable Cl kk).before a0 Z = true)
    (hty : parseFieldDescriptor d = some ty) (hn : narrow ty v = v) (hf : fits ty v = true) (hd : decode bytes pc = .ok (.putfield i, 3)) (hp : pc + 3 = pc') (g0 : n0 ≤ a) (F : Fld Z h a O n d old) (E : Exa Z h a Cl)
    (K : ∀ h', Wr h h' a (Jvm.RoadKit.slotOf Z O n d) v → Wp p l e R s m args below meth c n0 EE Q h' cells slots (mkF m pc' Ls st)) :
    Wp p l e R s m args below meth c n0 EE Q h cells slots (mkF m pc Ls (v :: .ref a :: st)) := by
  subst hp
  intro T locs X e0 N
  obtain ⟨T', h', X', e', W, st'⟩ := putF X C.1 C.2.2.1 C.2.2.2.1 (host := "") (Or.inl w) Via.refl e0 F E (L.imp id fun q => ⟨q.1, q.2.1, C.2.2.2.2.2.2.1.trans q.2.2⟩) wi hty hn hf (g := mkF m pc Ls (v :: .ref a :: st)) rfl rfl (hb C.2.1 hd)
  obtain ⟨s2, u, Lc, x, r⟩ := K h' W T' _ X' e' (Fr.snoc X' N g0)
  exact ⟨s2, u, Lc, st' _ x, r⟩
theorem w_putFN (C : Cx p s m meth c Z own bytes ml rt nm) {pc pc' : Nat} {Ls : Array Slot} {st : List Value} {O n d Cl : String} {i kk : Nat} {a : Addr} {v old : Value} {ty : FieldType} {host : String} (w : (Jvm.Cond.fieldLinkNest own i O n d host).before a0 Z = true) (L : (Jvm.Cond.lays Cl O n d).before a0 Z = true ∨ ((Jvm.Cond.laysFinal Cl O n d).before a0 Z = true ∧ own = O ∧ nm = "<init>")) (wi : (Jvm.Cond.instantiable Cl kk).before a0 Z = true)
    (hty : parseFieldDescriptor d = some ty) (hn : narrow ty v = v) (hf : fits ty v = true) (hd : decode bytes pc = .ok (.putfield i, 3)) (hp : pc + 3 = pc') (g0 : n0 ≤ a) (F : Fld Z h a O n d old) (E : Exa Z h a Cl)
    (K : ∀ h', Wr h h' a (Jvm.RoadKit.slotOf Z O n d) v → Wp p l e R s m args below meth c n0 EE Q h' cells slots (mkF m pc' Ls st)) :
    Wp p l e R s m args below meth c n0 EE Q h cells slots (mkF m pc Ls (v :: .ref a :: st)) := by
  subst hp
  intro T locs X e0 N
  obtain ⟨T', h', X', e', W, st'⟩ := putF X C.1 C.2.2.1 C.2.2.2.1 (Or.inr w) Via.refl e0 F E (L.imp id fun q => ⟨q.1, q.2.1, C.2.2.2.2.2.2.1.trans q.2.2⟩) wi hty hn hf (g := mkF m pc Ls (v :: .ref a :: st)) rfl rfl (hb C.2.1 hd)
  obtain ⟨s2, u, Lc, x, r⟩ := K h' W T' _ X' e' (Fr.snoc X' N g0)
  exact ⟨s2, u, Lc, st' _ x, r⟩
theorem w_putFZ (C : Cx p s m meth c Z own bytes ml rt nm) {pc pc' : Nat} {Ls : Array Slot} {st : List Value} {O n d Cl : String} {i kk : Nat} {a : Addr} {v v' old : Value} {ty : FieldType} (w : (Jvm.Cond.fieldLink own i O n d).before a0 Z = true) (L : (Jvm.Cond.lays Cl O n d).before a0 Z = true ∨ ((Jvm.Cond.laysFinal Cl O n d).before a0 Z = true ∧ own = O ∧ nm = "<init>")) (wi : (Jvm.Cond.instantiable Cl kk).before a0 Z = true)
    (hty : parseFieldDescriptor d = some ty) (hn : narrow ty v = v') (hf : fits ty v' = true) (hd : decode bytes pc = .ok (.putfield i, 3)) (hp : pc + 3 = pc') (g0 : n0 ≤ a) (F : Fld Z h a O n d old) (E : Exa Z h a Cl)
    (K : ∀ h', Wr h h' a (Jvm.RoadKit.slotOf Z O n d) v' → Wp p l e R s m args below meth c n0 EE Q h' cells slots (mkF m pc' Ls st)) :
    Wp p l e R s m args below meth c n0 EE Q h cells slots (mkF m pc Ls (v :: .ref a :: st)) := by
  subst hp
  intro T locs X e0 N
  obtain ⟨T', h', X', e', W, st'⟩ := putFN X C.1 C.2.2.1 C.2.2.2.1 w Via.refl e0 F E (L.imp id fun q => ⟨q.1, q.2.1, C.2.2.2.2.2.2.1.trans q.2.2⟩) wi hty hn hf (g := mkF m pc Ls (v :: .ref a :: st)) rfl rfl (hb C.2.1 hd)
  obtain ⟨s2, u, Lc, x, r⟩ := K h' W T' _ X' e' (Fr.snoc X' N g0)
  exact ⟨s2, u, Lc, st' _ x, r⟩
theorem ready39 {Z : State} {vm' : Vm} {cur i c : Nat} {f : Field} (h : Z.Warmed39 vm') (r : Z.vm.fieldReady cur i c f) : vm'.fieldReady cur i c f := by
  obtain ⟨k, j, kc, h1, h2, h3, h4⟩ := r
  obtain ⟨k', a1, a2, -, a4, -⟩ := h.2.2.2 cur k h1
  obtain ⟨kc', b1, b2, -⟩ := h.2.2.2 c kc h3
  refine ⟨k', j, kc', a1, ?_, b1, by rw [b2]; exact h4⟩
  rcases a4 i with q | ⟨q, -⟩
  · rw [q]; exact h2
  · rw [h2] at q; cases q
/-- a field whose entry is resolved already -/
theorem w_getFR (C : Cx p s m meth c Z own bytes ml rt nm) {pc pc' : Nat} {Ls : Array Slot} {st : List Value} {O n d : String} {i : Nat} {a : Addr} {v : Value} (w : (Jvm.Cond.fieldRef own i O n d).before a0 Z = true) (hd : decode bytes pc = .ok (.getfield i, 3)) (hp : pc + 3 = pc') (F : Fld Z h a O n d v) (K : Wp p l e R s m args below meth c n0 EE Q h cells slots (mkF m pc' Ls (v :: st))) :
    Wp p l e R s m args below meth c n0 EE Q h cells slots (mkF m pc Ls (.ref a :: st)) := by
  subst hp
  refine Wp.law (fun T locs X e0 => ⟨T, X, e0, fun t hr => ?_⟩) K
  obtain ⟨cell, cf, k, ix, f, h1, h2, h3, h4, h5, h6, h7⟩ := F
  have hown := C.2.2.2.1
  rw [C.2.2.1.alike.findClass] at hown
  obtain ⟨cf', k', ix', f', g1, g2⟩ := Cond.fieldRef_spec hown w
  cases h2.symm.trans g1
  have hready := ready39 (wtrans C.2.2.1 X.warmed) g2
  have hexec := C.1
  have hdg := hb C.2.1 hd
  have hcell : T.heap[a]? = some cell := by rw [e0]; exact h1
  show Steps p.tables e below (T.setTop (mkF m pc Ls (.ref a :: st))) t
  jvm_step X.here [hexec, hdg, getfield.wp_ready (e := e) (s := T) (f := mkF m pc Ls (.ref a :: st)) X.here.top hready h3 rfl hcell h4 h7]
  exact hr
theorem w_putFR (C : Cx p s m meth c Z own bytes ml rt nm) {pc pc' : Nat} {Ls : Array Slot} {st : List Value} {O n d Cl : String} {i kk : Nat} {a : Addr} {v old : Value} {ty : FieldType} (w : (Jvm.Cond.fieldRef own i O n d).before a0 Z = true) (L : (Jvm.Cond.lays Cl O n d).before a0 Z = true) (wi : (Jvm.Cond.instantiable Cl kk).before a0 Z = true)
    (hty : parseFieldDescriptor d = some ty) (hn : narrow ty v = v) (hf : fits ty v = true) (hd : decode bytes pc = .ok (.putfield i, 3)) (hp : pc + 3 = pc') (g0 : n0 ≤ a) (F : Fld Z h a O n d old) (E : Exa Z h a Cl)
    (K : ∀ h', Wr h h' a (Jvm.RoadKit.slotOf Z O n d) v → Wp p l e R s m args below meth c n0 EE Q h' cells slots (mkF m pc' Ls st)) :
    Wp p l e R s m args below meth c n0 EE Q h cells slots (mkF m pc Ls (v :: .ref a :: st)) := by
  subst hp
  intro T locs X e0 N
  obtain ⟨cell, cf, k, ix, f, h1, h2, h3, h4, h5, -, h7⟩ := F
  obtain ⟨cell', kc, e1, e2, e3, -⟩ := E
  cases h1.symm.trans e1
  obtain ⟨c1, k1, cf1, kf1, i1, f1, a1, a2, a3, -, -, a6, -⟩ := Laid.spec (a0 := a0) (Or.inl L)
  cases h2.symm.trans a3
  cases e2.symm.trans a1
  obtain ⟨c2, k2, j1, j2, j3, -⟩ := Cond.instantiable_spec wi
  cases e2.symm.trans j1
  cases a2.symm.trans j2
  have ht := (State.fieldFound?_type h2 hty).2
  have hfit : Z.fitsSlot cell.cls cell.vm f.slot v = true := by
    have q : Z.slotType? cell.cls cell.vm f.slot = some ty := by
      simp only [State.slotType?, a2, Option.bind_eq_bind, Option.bind_some, j3]
      cases hq : cell.vm <;> first | (rw [hq] at h5; exact Bool.noConfusion h5) | (rw [a6, ht])
    simp [State.fitsSlot, q, hf]
  have hU := wtrans C.2.2.1 X.warmed
  have hfit' : T.fitsSlot cell.cls cell.vm f.slot v = true := by rw [← State.fitsSlot_setVm hU.alike] at hfit; exact hfit
  obtain ⟨_, _, _, _, _, _, -, -, b3, -, b5, -⟩ := Cond.lays_spec L
  cases h2.symm.trans b3
  have hown := C.2.2.2.1
  rw [C.2.2.1.alike.findClass] at hown
  obtain ⟨cf', k', ix', f', g1, g2⟩ := Cond.fieldRef_spec hown w
  cases h2.symm.trans g1
  have hlt := (Array.getElem?_eq_some_iff.mp h7).1
  have es : Jvm.RoadKit.slotOf Z O n d = f.slot := by simp [Jvm.RoadKit.slotOf, h2]
  obtain ⟨X', st'⟩ := X.putfieldReady C.1 (ready39 hU g2) h3 (Or.inl b5) (by rw [e0]; exact h1) h4 hlt (by rw [ht]; exact hn) hfit' (g := mkF m pc Ls (v :: .ref a :: st)) rfl rfl (hb C.2.1 hd)
  obtain ⟨s2, u, Lc, x, r⟩ := K (h.setIfInBounds a (cell.setSlot f.slot v)) ⟨cell, h1, h5, by rw [es]; exact hlt, by rw [es]⟩ _ _ X' (by rw [← e0]; rfl) (Fr.snoc X' N g0)
  exact ⟨s2, u, Lc, st' _ x, r⟩
theorem w_new (C : Cx p s m meth c Z own bytes ml rt nm) {pc pc' ce' sl' : Nat} {Ls : Array Slot} {st : List Value} {Cl : String} {i n : Nat} (w : (Jvm.Cond.classLink own i Cl).before a0 Z = true) (wi : (Jvm.Cond.instantiable Cl n).before a0 Z = true) (wz : (Jvm.Cond.initialized Cl).before a0 Z = true) (hd : decode bytes pc = .ok (.new i, 3)) (hp : pc + 3 = pc') (hc1 : cells + 1 = ce') (hl1 : slots + n = sl') (hc : ce' ≤ R.cells) (hl : sl' ≤ R.slots)
    (K : ∀ h' a, a = h.size → Ext h h' → Exa Z h' a Cl → (∀ {O nm d : String} {ty : FieldType}, Laid Z a0 Cl O nm d → parseFieldDescriptor d = some ty → Fld Z h' a O nm d (defaultValue ty)) → Wp p l e R s m args below meth c n0 EE Q h' ce' sl' (mkF m pc' Ls (.ref a :: st))) :
    Wp p l e R s m args below meth c n0 EE Q h cells slots (mkF m pc Ls st) := by
  subst hp hc1 hl1
  intro T locs X e0 N
  obtain ⟨T', h', X', e', E, A, D, -, st'⟩ := newO X C.1 C.2.2.1 C.2.2.2.1 w wi wz e0 (g := mkF m pc Ls st) rfl (hb C.2.1 hd) hc hl
  obtain ⟨s2, u, Lc, x, r⟩ := K h' h.size rfl E A D T' _ X' e' N
  exact ⟨s2, u, Lc, st' _ x, r⟩
theorem w_newP (C : Cx p s m meth c Z own bytes ml rt nm) {pc pc' ce' sl' : Nat} {Ls : Array Slot} {st : List Value} {aty : ArrayType} {n : Int32} {cap : Nat} (w : (Jvm.Cond.arrayClass (newarray.typeOf aty)).before a0 Z = true) (hd : decode bytes pc = .ok (.newarray aty, 2)) (hp : pc + 2 = pc') (hn : ¬ n < 0) (hcap : n.toNatClampNeg ≤ cap) (hbig : cap * 8 ≤ 536870912) (hc1 : cells + 1 = ce') (hl1 : slots + cap = sl') (hc : ce' ≤ R.cells) (hl : sl' ≤ R.slots)
    (K : ∀ h' a cA, a = h.size → Ext h h' → Arr Z h' a (newA cA (newarray.typeOf aty) n) (newarray.typeOf aty) → Wp p l e R s m args below meth c n0 EE Q h' ce' sl' (mkF m pc' Ls (.ref a :: st))) :
    Wp p l e R s m args below meth c n0 EE Q h cells slots (mkF m pc Ls (.int n :: st)) := by
  subst hp hc1 hl1
  intro T locs X e0 N
  obtain ⟨T', h', cA, X', e', E, A, st'⟩ := newP X C.1 C.2.2.1 w e0 (g := mkF m pc Ls (.int n :: st)) rfl (hb C.2.1 hd) rfl hn hcap hbig hc hl
  obtain ⟨s2, u, Lc, x, r⟩ := K h' h.size cA rfl E A T' _ X' e' N
  exact ⟨s2, u, Lc, st' _ x, r⟩
theorem w_newR (C : Cx p s m meth c Z own bytes ml rt nm) {pc pc' ce' sl' : Nat} {Ls : Array Slot} {st : List Value} {Cl : String} {i : Nat} {n : Int32} {cap : Nat} (w1 : (Jvm.Cond.classLink own i Cl).before a0 Z = true) (w2 : (Jvm.Cond.arrayOver (.object Cl)).before a0 Z = true) (hd : decode bytes pc = .ok (.anewarray i, 3)) (hp : pc + 3 = pc') (hn : ¬ n < 0) (hcap : n.toNatClampNeg ≤ cap) (hbig : cap * 8 ≤ 536870912) (hc1 : cells + 1 = ce') (hl1 : slots + cap = sl') (hc : ce' ≤ R.cells) (hl : sl' ≤ R.slots)
    (K : ∀ h' a cA, a = h.size → Ext h h' → Arr Z h' a (newA cA (.object Cl) n) (.object Cl) → Ovr Z cA Cl → Wp p l e R s m args below meth c n0 EE Q h' ce' sl' (mkF m pc' Ls (.ref a :: st))) :
    Wp p l e R s m args below meth c n0 EE Q h cells slots (mkF m pc Ls (.int n :: st)) := by
  subst hp hc1 hl1
  intro T locs X e0 N
  obtain ⟨T', h', cA, X', e', E, A, O, st'⟩ := newR X C.1 C.2.2.1 C.2.2.2.1 w1 w2 e0 (g := mkF m pc Ls (.int n :: st)) rfl (hb C.2.1 hd) rfl hn hcap hbig hc hl
  obtain ⟨s2, u, Lc, x, r⟩ := K h' h.size cA rfl E A O T' _ X' e' N
  exact ⟨s2, u, Lc, st' _ x, r⟩
theorem w_iastore (C : Cx p s m meth c Z own bytes ml rt nm) {pc pc' : Nat} {Ls : Array Slot} {st : List Value} {a : Addr} {cl : Cell} {j : Int32} {x : Int32} (hd : decode bytes pc = .ok (.iastore, 1)) (hp : pc + 1 = pc') (g0 : n0 ≤ a) (A : Arr Z h a cl .int) (hj : ¬ (j < 0 ∨ cl.slots.size ≤ j.toNatClampNeg))
    (K : ∀ h', Wr h h' a j.toNatClampNeg (.int x) → Wp p l e R s m args below meth c n0 EE Q h' cells slots (mkF m pc' Ls st)) :
    Wp p l e R s m args below meth c n0 EE Q h cells slots (mkF m pc Ls (.int x :: .int j :: .ref a :: st)) := by
  subst hp
  intro T locs X e0 N
  obtain ⟨T', h', X', e', W, st'⟩ := stI X C.1 C.2.2.1 e0 A hj (g := mkF m pc Ls (.int x :: .int j :: .ref a :: st)) rfl rfl (hb C.2.1 hd)
  obtain ⟨s2, u, Lc, q, r⟩ := K h' W T' _ X' e' (Fr.snoc X' N g0)
  exact ⟨s2, u, Lc, st' _ q, r⟩
theorem w_lastore (C : Cx p s m meth c Z own bytes ml rt nm) {pc pc' : Nat} {Ls : Array Slot} {st : List Value} {a : Addr} {cl : Cell} {j : Int32} {x : Int64} (hd : decode bytes pc = .ok (.lastore, 1)) (hp : pc + 1 = pc') (g0 : n0 ≤ a) (A : Arr Z h a cl .long) (hj : ¬ (j < 0 ∨ cl.slots.size ≤ j.toNatClampNeg))
    (K : ∀ h', Wr h h' a j.toNatClampNeg (.long x) → Wp p l e R s m args below meth c n0 EE Q h' cells slots (mkF m pc' Ls st)) :
    Wp p l e R s m args below meth c n0 EE Q h cells slots (mkF m pc Ls (.long x :: .int j :: .ref a :: st)) := by
  subst hp
  intro T locs X e0 N
  obtain ⟨T', h', X', e', W, st'⟩ := stJ X C.1 C.2.2.1 e0 A hj (g := mkF m pc Ls (.long x :: .int j :: .ref a :: st)) rfl rfl (hb C.2.1 hd)
  obtain ⟨s2, u, Lc, q, r⟩ := K h' W T' _ X' e' (Fr.snoc X' N g0)
  exact ⟨s2, u, Lc, st' _ q, r⟩
theorem w_castore (C : Cx p s m meth c Z own bytes ml rt nm) {pc pc' : Nat} {Ls : Array Slot} {st : List Value} {a : Addr} {cl : Cell} {j : Int32} {x : Int32} (hd : decode bytes pc = .ok (.castore, 1)) (hp : pc + 1 = pc') (g0 : n0 ≤ a) (A : Arr Z h a cl .char) (hj : ¬ (j < 0 ∨ cl.slots.size ≤ j.toNatClampNeg))
    (K : ∀ h', Wr h h' a j.toNatClampNeg (.int (nar .char x)) → Wp p l e R s m args below meth c n0 EE Q h' cells slots (mkF m pc' Ls st)) :
    Wp p l e R s m args below meth c n0 EE Q h cells slots (mkF m pc Ls (.int x :: .int j :: .ref a :: st)) := by
  subst hp
  intro T locs X e0 N
  obtain ⟨T', h', X', e', W, st'⟩ := stC X C.1 C.2.2.1 e0 A hj (g := mkF m pc Ls (.int x :: .int j :: .ref a :: st)) rfl rfl (hb C.2.1 hd)
  obtain ⟨s2, u, Lc, q, r⟩ := K h' W T' _ X' e' (Fr.snoc X' N g0)
  exact ⟨s2, u, Lc, st' _ q, r⟩
theorem w_aastore (C : Cx p s m meth c Z own bytes ml rt nm) {pc pc' : Nat} {Ls : Array Slot} {st : List Value} {a : Addr} {cl : Cell} {j : Int32} {v : Value} {ty : FieldType} (hd : decode bytes pc = .ok (.aastore, 1)) (hp : pc + 1 = pc') (g0 : n0 ≤ a) (A : Arr Z h a cl ty) (hj : ¬ (j < 0 ∨ cl.slots.size ≤ j.toNatClampNeg)) (hty : ty.isReference = true) (F : Sto Z h a v)
    (K : ∀ h', Wr h h' a j.toNatClampNeg v → Wp p l e R s m args below meth c n0 EE Q h' cells slots (mkF m pc' Ls st)) :
    Wp p l e R s m args below meth c n0 EE Q h cells slots (mkF m pc Ls (v :: .int j :: .ref a :: st)) := by
  subst hp
  intro T locs X e0 N
  obtain ⟨T', h', X', e', W, st'⟩ := stR X C.1 C.2.2.1 e0 A hj hty F (g := mkF m pc Ls (v :: .int j :: .ref a :: st)) rfl rfl (hb C.2.1 hd)
  obtain ⟨s2, u, Lc, q, r⟩ := K h' W T' _ X' e' (Fr.snoc X' N g0)
  exact ⟨s2, u, Lc, st' _ q, r⟩
theorem w_iaload (C : Cx p s m meth c Z own bytes ml rt nm) {pc pc' : Nat} {Ls : Array Slot} {st : List Value} {a : Addr} {cl : Cell} {j : Int32} {v : Value} (hd : decode bytes pc = .ok (.iaload, 1)) (hp : pc + 1 = pc') (A : Arr Z h a cl .int) (hj : ¬ (j < 0 ∨ cl.slots.size ≤ j.toNatClampNeg)) (hv : cl.slots[j.toNatClampNeg]? = some v)
    (K : Wp p l e R s m args below meth c n0 EE Q h cells slots (mkF m pc' Ls (v :: st))) :
    Wp p l e R s m args below meth c n0 EE Q h cells slots (mkF m pc Ls (.int j :: .ref a :: st)) := by
  subst hp
  intro T locs X e0 N
  obtain ⟨s2, u, L, q, r⟩ := K T locs X e0 N
  exact ⟨s2, u, L, X.iaload C.1 (j := j) (v := v) (by rw [e0]; exact A.1) (State.isArrayOf_alike C.2.2.1.alike A.2.1) A.2.2 hj hv (g := mkF m pc Ls (.int j :: .ref a :: st)) rfl rfl (hb C.2.1 hd) _ q, r⟩
theorem w_laload (C : Cx p s m meth c Z own bytes ml rt nm) {pc pc' : Nat} {Ls : Array Slot} {st : List Value} {a : Addr} {cl : Cell} {j : Int32} {v : Value} (hd : decode bytes pc = .ok (.laload, 1)) (hp : pc + 1 = pc') (A : Arr Z h a cl .long) (hj : ¬ (j < 0 ∨ cl.slots.size ≤ j.toNatClampNeg)) (hv : cl.slots[j.toNatClampNeg]? = some v)
    (K : Wp p l e R s m args below meth c n0 EE Q h cells slots (mkF m pc' Ls (v :: st))) :
    Wp p l e R s m args below meth c n0 EE Q h cells slots (mkF m pc Ls (.int j :: .ref a :: st)) := by
  subst hp
  intro T locs X e0 N
  obtain ⟨s2, u, L, q, r⟩ := K T locs X e0 N
  exact ⟨s2, u, L, X.laload C.1 (j := j) (v := v) (by rw [e0]; exact A.1) (State.isArrayOf_alike C.2.2.1.alike A.2.1) A.2.2 hj hv (g := mkF m pc Ls (.int j :: .ref a :: st)) rfl rfl (hb C.2.1 hd) _ q, r⟩
theorem w_caload (C : Cx p s m meth c Z own bytes ml rt nm) {pc pc' : Nat} {Ls : Array Slot} {st : List Value} {a : Addr} {cl : Cell} {j : Int32} {v : Value} (hd : decode bytes pc = .ok (.caload, 1)) (hp : pc + 1 = pc') (A : Arr Z h a cl .char) (hj : ¬ (j < 0 ∨ cl.slots.size ≤ j.toNatClampNeg)) (hv : cl.slots[j.toNatClampNeg]? = some v)
    (K : Wp p l e R s m args below meth c n0 EE Q h cells slots (mkF m pc' Ls (v :: st))) :
    Wp p l e R s m args below meth c n0 EE Q h cells slots (mkF m pc Ls (.int j :: .ref a :: st)) := by
  subst hp
  intro T locs X e0 N
  obtain ⟨s2, u, L, q, r⟩ := K T locs X e0 N
  exact ⟨s2, u, L, X.caload C.1 (j := j) (v := v) (by rw [e0]; exact A.1) (State.isArrayOf_alike C.2.2.1.alike A.2.1) A.2.2 hj hv (g := mkF m pc Ls (.int j :: .ref a :: st)) rfl rfl (hb C.2.1 hd) _ q, r⟩
theorem w_baload (C : Cx p s m meth c Z own bytes ml rt nm) {pc pc' : Nat} {Ls : Array Slot} {st : List Value} {a : Addr} {cl : Cell} {j : Int32} {v : Value} (hd : decode bytes pc = .ok (.baload, 1)) (hp : pc + 1 = pc') (A : Arr Z h a cl .byte) (hj : ¬ (j < 0 ∨ cl.slots.size ≤ j.toNatClampNeg)) (hv : cl.slots[j.toNatClampNeg]? = some v)
    (K : Wp p l e R s m args below meth c n0 EE Q h cells slots (mkF m pc' Ls (v :: st))) :
    Wp p l e R s m args below meth c n0 EE Q h cells slots (mkF m pc Ls (.int j :: .ref a :: st)) := by
  subst hp
  intro T locs X e0 N
  obtain ⟨s2, u, L, q, r⟩ := K T locs X e0 N
  exact ⟨s2, u, L, X.baloadBytes C.1 (j := j) (v := v) (by rw [e0]; exact A.1) (State.isArrayOf_alike C.2.2.1.alike A.2.1) A.2.2 hj hv (g := mkF m pc Ls (.int j :: .ref a :: st)) rfl rfl (hb C.2.1 hd) _ q, r⟩
theorem w_aaload (C : Cx p s m meth c Z own bytes ml rt nm) {pc pc' : Nat} {Ls : Array Slot} {st : List Value} {a : Addr} {cl : Cell} {j : Int32} {v : Value} {ty : FieldType} (hd : decode bytes pc = .ok (.aaload, 1)) (hp : pc + 1 = pc') (A : Arr Z h a cl ty) (hty : ty.isReference = true) (hj : ¬ (j < 0 ∨ cl.slots.size ≤ j.toNatClampNeg)) (hv : cl.slots[j.toNatClampNeg]? = some v)
    (K : Wp p l e R s m args below meth c n0 EE Q h cells slots (mkF m pc' Ls (v :: st))) :
    Wp p l e R s m args below meth c n0 EE Q h cells slots (mkF m pc Ls (.int j :: .ref a :: st)) := by
  subst hp
  intro T locs X e0 N
  obtain ⟨s2, u, L, q, r⟩ := K T locs X e0 N
  exact ⟨s2, u, L, X.aaload C.1 (j := j) (v := v) (by rw [e0]; exact A.1) (State.isArrayOf_alike C.2.2.1.alike A.2.1) hty A.2.2 hj hv (g := mkF m pc Ls (.int j :: .ref a :: st)) rfl rfl (hb C.2.1 hd) _ q, r⟩
theorem w_alen (C : Cx p s m meth c Z own bytes ml rt nm) {pc pc' : Nat} {Ls : Array Slot} {st : List Value} {a : Addr} {cl : Cell} {ty : FieldType} {n : Int32} (hd : decode bytes pc = .ok (.arraylength, 1)) (hp : pc + 1 = pc') (A : Arr Z h a cl ty) (hn : cl.slots.size.toInt32 = n)
    (K : Wp p l e R s m args below meth c n0 EE Q h cells slots (mkF m pc' Ls (.int n :: st))) :
    Wp p l e R s m args below meth c n0 EE Q h cells slots (mkF m pc Ls (.ref a :: st)) := by
  subst hp hn
  intro T locs X e0 N
  obtain ⟨s2, u, L, q, r⟩ := K T locs X e0 N
  exact ⟨s2, u, L, X.arraylength C.1 (by rw [e0]; exact A.1) (State.isArrayOf_alike C.2.2.1.alike A.2.1) (g := mkF m pc Ls (.ref a :: st)) rfl rfl (hb C.2.1 hd) _ q, r⟩
theorem w_initO (C : Cx p s m meth c Z own bytes ml rt nm) {pc pc' : Nat} {Ls : Array Slot} {st : List Value} {i : Nat} {a : Addr} {W : Nat} (w1 : (Jvm.Cond.methodLink own i Lib.objectInit).before a0 Z = true) (w2 : (Jvm.Cond.instanceMethod Lib.objectInit).before a0 Z = true) (w3 : (Jvm.Cond.code Lib.objectInit ⟨#[0xb1]⟩ 1 none).before a0 Z = true) (hd : decode bytes pc = .ok (.invokespecial i, 3)) (hp : pc + 3 = pc')
    (hsz : Ls.size = ml) (hf : 1 ≤ R.frames) (hW : (st.map fun v => v.category).sum ≤ W) (hl : W + 12 ≤ R.locals) (K : Wp p l e R s m args below meth c n0 EE Q h cells slots (mkF m pc' Ls st)) :
    Wp p l e R s m args below meth c n0 EE Q h cells slots (mkF m pc Ls (.ref a :: st)) := by
  subst hp
  exact Wp.law (fun T locs X e0 => initO X C.1 C.2.2.1 C.2.2.2.1 w1 w2 w3 e0 (g := mkF m pc Ls (.ref a :: st)) rfl (hsz.trans C.2.2.2.2.1.symm) rfl (hb C.2.1 hd) hf (by show 2 * 0 + _ ≤ _; rw [Nat.mul_zero, Nat.zero_add]; exact hW) hl) K
theorem w_callS (C : Cx p s m meth c Z own bytes ml rt nm) {pc pc' : Nat} {Ls : Array Slot} {stk st : List Value} {i : Nat} {ce' sl' : Nat} {y : MethodName} {cb : ByteArray} {cml : Nat} {cret : Option FieldType} {crm : Room} {argsL : List Value} {Q' : Option Value → Heap → Prop} {W : Nat} (w1 : (Jvm.Cond.methodLink own i y).before a0 Z = true) (w2 : (Jvm.Cond.static y).before a0 Z = true) (w3 : (Jvm.Cond.initialized y.cls).before a0 Z = true) (w4 : (Jvm.Cond.code y cb cml cret).before a0 Z = true) (hy : y.cls ≠ "java/lang/invoke/MethodHandle" ∧ y.cls ≠ "java/lang/invoke/VarHandle")
    (hd : decode bytes pc = .ok (.invokestatic i, 3)) (hp : pc + 3 = pc') (hst : stk = argsL.reverse ++ st) (hfr : crm.frames + 1 ≤ R.frames) (hlo : W + (cml + 11) + crm.locals ≤ R.locals) (hW : (st.map fun v => v.category).sum ≤ W) (hce1 : cells + crm.cells = ce') (hsl1 : slots + crm.slots = sl') (hce : ce' ≤ R.cells) (hsl : sl' ≤ R.slots) (hsz : Ls.size = ml) (hlen : ∀ sig, parseMethodDescriptor y.desc = some sig → argsL.length = sig.parameters.length) (ct : Ct l Z y cb cml cret [] crm argsL.toArray h n0 Q')
    (K : ∀ v h', Q' v h' → Wp p l e R s m args below meth c n0 EE Q h' ce' sl' (mkF m pc' Ls (v.toList ++ st))) :
    Wp p l e R s m args below meth c n0 EE Q h cells slots (mkF m pc Ls stk) := by
  subst hp hce1 hsl1
  intro T locs X e0 N
  obtain ⟨v, _, ⟨T', L', k', n'⟩, -, X', ⟨Lc, hq, l1, l2, l3⟩, st'⟩ := Jvm.LawKit.callS X C.1 (y := y) C.2.2.2.1 (mvT C.2.2.1 w1) (mvT C.2.2.1 w2) (mvT C.2.2.1 w3) (mvT C.2.2.1 w4) hy (backOf (W := W) (Q := fun v hh L => Q' v hh ∧ Fr n0 L) ct C.2.2.1 w4 w3 hfr hlo) (g := mkF m pc Ls stk) rfl (hsz.trans C.2.2.2.2.1.symm) (argsL := argsL) (rest := st) hlen hst (by show 2 * 0 + _ ≤ _; rw [Nat.mul_zero, Nat.zero_add]; exact hW) (hb C.2.1 hd) (fun _ _ => ⟨rfl, e0, hce, hsl⟩)
  dsimp only [Pt.U, Pt.locs, Pt.cells, Pt.slots] at X' l1 l2 l3 st' hq
  subst l1 l2 l3
  obtain ⟨s2, u, L, q, r⟩ := K _ _ hq.1 _ _ X' rfl (Fr.app N hq.2)
  exact ⟨s2, u, L, st' _ q, r⟩
theorem w_callSN (C : Cx p s m meth c Z own bytes ml rt nm) {pc pc' : Nat} {Ls : Array Slot} {stk st : List Value} {i : Nat} {ce' sl' : Nat} {y : MethodName} {host : String} {cb : ByteArray} {cml : Nat} {cret : Option FieldType} {crm : Room} {argsL : List Value} {Q' : Option Value → Heap → Prop} {W : Nat} (w1 : (Jvm.Cond.methodLinkNest own i y host).before a0 Z = true) (w2 : (Jvm.Cond.static y).before a0 Z = true) (w3 : (Jvm.Cond.initialized y.cls).before a0 Z = true) (w4 : (Jvm.Cond.code y cb cml cret).before a0 Z = true) (hy : y.cls ≠ "java/lang/invoke/MethodHandle" ∧ y.cls ≠ "java/lang/invoke/VarHandle")
    (hd : decode bytes pc = .ok (.invokestatic i, 3)) (hp : pc + 3 = pc') (hst : stk = argsL.reverse ++ st) (hfr : crm.frames + 1 ≤ R.frames) (hlo : W + (cml + 11) + crm.locals ≤ R.locals) (hW : (st.map fun v => v.category).sum ≤ W) (hce1 : cells + crm.cells = ce') (hsl1 : slots + crm.slots = sl') (hce : ce' ≤ R.cells) (hsl : sl' ≤ R.slots) (hsz : Ls.size = ml) (hlen : ∀ sig, parseMethodDescriptor y.desc = some sig → argsL.length = sig.parameters.length) (ct : Ct l Z y cb cml cret [] crm argsL.toArray h n0 Q')
    (K : ∀ v h', Q' v h' → Wp p l e R s m args below meth c n0 EE Q h' ce' sl' (mkF m pc' Ls (v.toList ++ st))) :
    Wp p l e R s m args below meth c n0 EE Q h cells slots (mkF m pc Ls stk) := by
  subst hp hce1 hsl1
  intro T locs X e0 N
  obtain ⟨v, _, ⟨T', L', k', n'⟩, -, X', ⟨Lc, hq, l1, l2, l3⟩, st'⟩ := Jvm.RoadKit.callSN X C.1 (y := y) C.2.2.2.1 (Cond.methodLinkNest_wide C.2.2.1 w1) (mvT C.2.2.1 w2) (mvT C.2.2.1 w3) (mvT C.2.2.1 w4) hy (backOf (W := W) (Q := fun v hh L => Q' v hh ∧ Fr n0 L) ct C.2.2.1 w4 w3 hfr hlo) (g := mkF m pc Ls stk) rfl (hsz.trans C.2.2.2.2.1.symm) (argsL := argsL) (rest := st) hlen hst (by show 2 * 0 + _ ≤ _; rw [Nat.mul_zero, Nat.zero_add]; exact hW) (hb C.2.1 hd) (fun _ _ => ⟨rfl, e0, hce, hsl⟩)
  dsimp only [Pt.U, Pt.locs, Pt.cells, Pt.slots] at X' l1 l2 l3 st' hq
  subst l1 l2 l3
  obtain ⟨s2, u, L, q, r⟩ := K _ _ hq.1 _ _ X' rfl (Fr.app N hq.2)
  exact ⟨s2, u, L, st'.trans q, r⟩
theorem w_callI (C : Cx p s m meth c Z own bytes ml rt nm) {pc pc' : Nat} {Ls : Array Slot} {stk st : List Value} {i : Nat} {a : Addr} {ce' sl' : Nat} {y : MethodName} {cb : ByteArray} {cml : Nat} {crm : Room} {argsL : List Value} {Q' : Option Value → Heap → Prop} {W : Nat} (hin : y.name = "<init>") (w1 : (Jvm.Cond.methodLink own i y).before a0 Z = true) (w2 : (Jvm.Cond.instanceMethod y).before a0 Z = true) (w3 : (Jvm.Cond.initialized y.cls).before a0 Z = true) (w4 : (Jvm.Cond.code y cb cml none).before a0 Z = true) (hy : y.cls ≠ "java/lang/invoke/MethodHandle" ∧ y.cls ≠ "java/lang/invoke/VarHandle")
    (hd : decode bytes pc = .ok (.invokespecial i, 3)) (hp : pc + 3 = pc') (hst : stk = argsL.reverse ++ .ref a :: st) (hfr : crm.frames + 1 ≤ R.frames) (hlo : W + (cml + 11) + crm.locals ≤ R.locals) (hW : (st.map fun v => v.category).sum ≤ W) (hce1 : cells + crm.cells = ce') (hsl1 : slots + crm.slots = sl') (hce : ce' ≤ R.cells) (hsl : sl' ≤ R.slots) (hsz : Ls.size = ml) (hlen : ∀ sig, parseMethodDescriptor y.desc = some sig → argsL.length = sig.parameters.length) (ct : Ct l Z y cb cml none [] crm (.ref a :: argsL).toArray h n0 Q')
    (K : ∀ v h', Q' v h' → Wp p l e R s m args below meth c n0 EE Q h' ce' sl' (mkF m pc' Ls (v.toList ++ st))) :
    Wp p l e R s m args below meth c n0 EE Q h cells slots (mkF m pc Ls stk) := by
  subst hp hce1 hsl1
  intro T locs X e0 N
  obtain ⟨v, _, ⟨T', L', k', n'⟩, -, X', ⟨Lc, hq, l1, l2, l3⟩, st'⟩ := X.specialBack C.1 (y := y) hin C.2.2.2.1 (mvT C.2.2.1 w1) (mvT C.2.2.1 w2) (mvT C.2.2.1 w4) hy (backOf (W := W) (Q := fun v hh L => Q' v hh ∧ Fr n0 L) ct C.2.2.1 w4 w3 hfr hlo) (g := mkF m pc Ls stk) rfl (hsz.trans C.2.2.2.2.1.symm) (Steps.refl _) (a := a) (argsL := argsL) (rest := st) hlen hst (by show 2 * 0 + _ ≤ _; rw [Nat.mul_zero, Nat.zero_add]; exact hW) (hb C.2.1 hd) (fun _ _ => ⟨rfl, e0, hce, hsl⟩)
  dsimp only [Pt.U, Pt.locs, Pt.cells, Pt.slots] at X' l1 l2 l3 st' hq
  subst l1 l2 l3
  obtain ⟨s2, u, L, q, r⟩ := K _ _ hq.1 _ _ X' rfl (Fr.app N hq.2)
  exact ⟨s2, u, L, st'.trans q, r⟩
theorem w_callV (C : Cx p s m meth c Z own bytes ml rt nm) {pc pc' : Nat} {Ls : Array Slot} {stk st : List Value} {i : Nat} {a : Addr} {Cl : String} {ce' sl' : Nat} {y : MethodName} {cb : ByteArray} {cml : Nat} {cret : Option FieldType} {crm : Room} {argsL : List Value} {Q' : Option Value → Heap → Prop} {W : Nat} (w1 : (Jvm.Cond.methodLink own i y).before a0 Z = true) (w2 : (Jvm.Cond.declares y).before a0 Z = true) (w5 : (Jvm.Cond.selects Cl y y).before a0 Z = true) (w6 : (Jvm.Cond.instanceMethod y).before a0 Z = true) (w3 : (Jvm.Cond.initialized y.cls).before a0 Z = true) (w4 : (Jvm.Cond.code y cb cml cret).before a0 Z = true) (hy : y.cls ≠ "java/lang/invoke/MethodHandle" ∧ y.cls ≠ "java/lang/invoke/VarHandle")
    (hd : decode bytes pc = .ok (.invokevirtual i, 3)) (hp : pc + 3 = pc') (hst : stk = argsL.reverse ++ .ref a :: st) (hfr : crm.frames + 1 ≤ R.frames) (hlo : W + (cml + 11) + crm.locals ≤ R.locals) (hW : (st.map fun v => v.category).sum ≤ W) (hce1 : cells + crm.cells = ce') (hsl1 : slots + crm.slots = sl') (hce : ce' ≤ R.cells) (hsl : sl' ≤ R.slots) (hsz : Ls.size = ml) (hlen : ∀ sig, parseMethodDescriptor y.desc = some sig → argsL.length = sig.parameters.length) (E : Exa Z h a Cl) (ct : Ct l Z y cb cml cret [] crm (.ref a :: argsL).toArray h n0 Q')
    (K : ∀ v h', Q' v h' → Wp p l e R s m args below meth c n0 EE Q h' ce' sl' (mkF m pc' Ls (v.toList ++ st))) :
    Wp p l e R s m args below meth c n0 EE Q h cells slots (mkF m pc Ls stk) := by
  subst hp hce1 hsl1
  intro T locs X e0 N
  obtain ⟨_, _, qa, qb, qc⟩ := isOf C.2.2.1 e0 E
  obtain ⟨v, _, ⟨T', L', k', n'⟩, -, X', ⟨Lc, hq, l1, l2, l3⟩, st'⟩ := X.virtualBack C.1 (y := y) (z := y) C.2.2.2.1 (mvT C.2.2.1 w1) (mvT C.2.2.1 w2) (notFace_of_selects (args := #[]) (mvT C.2.2.1 w5)) (mvT C.2.2.1 w5) (mvT C.2.2.1 w6) hy (backOf (W := W) (Q := fun v hh L => Q' v hh ∧ Fr n0 L) ct C.2.2.1 w4 w3 hfr hlo) qa qc (g := mkF m pc Ls stk) rfl (hsz.trans C.2.2.2.2.1.symm) (Steps.refl _) (argsL := argsL) (rest := st) hlen hst (by show 2 * 0 + _ ≤ _; rw [Nat.mul_zero, Nat.zero_add]; exact hW) (hb C.2.1 hd) (fun _ _ => ⟨rfl, e0, hce, hsl⟩)
  dsimp only [Pt.U, Pt.locs, Pt.cells, Pt.slots] at X' l1 l2 l3 st' hq
  subst l1 l2 l3
  obtain ⟨s2, u, L, q, r⟩ := K _ _ hq.1 _ _ X' rfl (Fr.app N hq.2)
  exact ⟨s2, u, L, st'.trans q, r⟩
theorem w_callP (C : Cx p s m meth c Z own bytes ml rt nm) {pc pc' : Nat} {Ls : Array Slot} {stk st : List Value} {i : Nat} {a : Addr} {Cl : String} {ce' sl' : Nat} {y : MethodName} {cb : ByteArray} {cml : Nat} {cret : Option FieldType} {crm : Room} {argsL : List Value} {Q' : Option Value → Heap → Prop} {W : Nat} (w1 : (Jvm.Cond.methodLink own i y).before a0 Z = true) (w6 : (Jvm.Cond.instanceMethod y).before a0 Z = true) {kk : Nat} (w5 : (Jvm.Cond.instantiable y.cls kk).before a0 Z = true) (w7 : (Jvm.Cond.privateMethod y).before a0 Z = true) (w3 : (Jvm.Cond.initialized y.cls).before a0 Z = true) (w4 : (Jvm.Cond.code y cb cml cret).before a0 Z = true) (hy : y.cls ≠ "java/lang/invoke/MethodHandle" ∧ y.cls ≠ "java/lang/invoke/VarHandle")
    (hd : decode bytes pc = .ok (.invokevirtual i, 3)) (hp : pc + 3 = pc') (hst : stk = argsL.reverse ++ .ref a :: st) (hfr : crm.frames + 1 ≤ R.frames) (hlo : W + (cml + 11) + crm.locals ≤ R.locals) (hW : (st.map fun v => v.category).sum ≤ W) (hce1 : cells + crm.cells = ce') (hsl1 : slots + crm.slots = sl') (hce : ce' ≤ R.cells) (hsl : sl' ≤ R.slots) (hsz : Ls.size = ml) (hlen : ∀ sig, parseMethodDescriptor y.desc = some sig → argsL.length = sig.parameters.length) (E : Exa Z h a Cl) (ct : Ct l Z y cb cml cret [] crm (.ref a :: argsL).toArray h n0 Q')
    (K : ∀ v h', Q' v h' → Wp p l e R s m args below meth c n0 EE Q h' ce' sl' (mkF m pc' Ls (v.toList ++ st))) :
    Wp p l e R s m args below meth c n0 EE Q h cells slots (mkF m pc Ls stk) := by
  subst hp hce1 hsl1
  intro T locs X e0 N
  obtain ⟨cq, q1, q2⟩ := E.cell
  have hpr : s.PrivateAt y := Cond.privateMethod_at (mvP C.2.2.1 w7 (args := #[]))
  obtain ⟨ci, ki, i1, i2, -, i4, -⟩ := Cond.instantiable_spec (show (Jvm.Cond.instantiable y.cls kk).before #[] s = true from mvT C.2.2.1 w5)
  have hsel := selects_self_of_private (args := args) i1 i2 (by simp only [Bool.or_eq_false_iff] at i4; exact i4.1) hpr (mvT C.2.2.1 w6) hy
  obtain ⟨v, _, ⟨T', L', k', n'⟩, -, X', ⟨Lc, hq, l1, l2, l3⟩, st'⟩ := X.privateBack C.1 (y := y) C.2.2.2.1 (mvT C.2.2.1 w1) (mvT C.2.2.1 w6) hsel hpr (mvT C.2.2.1 w4) hy (backOf (W := W) (Q := fun v hh L => Q' v hh ∧ Fr n0 L) ct C.2.2.1 w4 w3 hfr hlo) (g := mkF m pc Ls stk) rfl (hsz.trans C.2.2.2.2.1.symm) (Steps.refl _) (a := a) (by rw [e0]; exact q1) q2 (argsL := argsL) (rest := st) hlen hst (by show 2 * 0 + _ ≤ _; rw [Nat.mul_zero, Nat.zero_add]; exact hW) (hb C.2.1 hd) (fun _ _ => ⟨rfl, e0, hce, hsl⟩)
  dsimp only [Pt.U, Pt.locs, Pt.cells, Pt.slots] at X' l1 l2 l3 st' hq
  subst l1 l2 l3
  obtain ⟨s2, u, L, q, r⟩ := K _ _ hq.1 _ _ X' rfl (Fr.app N hq.2)
  exact ⟨s2, u, L, st'.trans q, r⟩
theorem k1 {pc' ce' sl' : Nat} {Ls : Array Slot} {st : List Value} {r : Value} {P : Heap → Prop} (K : ∀ h', P h' → Wp p l e R s m args below meth c n0 EE Q h' ce' sl' (mkF m pc' Ls (r :: st))) : ∀ v h', (v = some r ∧ P h') → Wp p l e R s m args below meth c n0 EE Q h' ce' sl' (mkF m pc' Ls (v.toList ++ st)) := fun v h' q => by
  obtain ⟨rfl, q⟩ := q; exact K h' q
theorem k0 {pc' ce' sl' : Nat} {Ls : Array Slot} {st : List Value} {P : Heap → Prop} (K : ∀ h', P h' → Wp p l e R s m args below meth c n0 EE Q h' ce' sl' (mkF m pc' Ls st)) : ∀ v h', (v = none ∧ P h') → Wp p l e R s m args below meth c n0 EE Q h' ce' sl' (mkF m pc' Ls (v.toList ++ st)) := fun v h' q => by
  obtain ⟨rfl, q⟩ := q; exact K h' q
theorem kp {pc' ce' sl' : Nat} {Ls : Array Slot} {st : List Value} {r : Value} (K : Wp p l e R s m args below meth c n0 EE Q h ce' sl' (mkF m pc' Ls (r :: st))) : ∀ v h', (v = some r ∧ h' = h) → Wp p l e R s m args below meth c n0 EE Q h' ce' sl' (mkF m pc' Ls (v.toList ++ st)) := fun v h' q => by
  obtain ⟨rfl, rfl⟩ := q; exact K
theorem kx {pc' ce' sl' : Nat} {Ls : Array Slot} {st : List Value} {P : Addr → Heap → Prop} (K : ∀ b h', P b h' → Wp p l e R s m args below meth c n0 EE Q h' ce' sl' (mkF m pc' Ls (.ref b :: st))) : ∀ v h', (∃ b, v = some (.ref b) ∧ P b h') → Wp p l e R s m args below meth c n0 EE Q h' ce' sl' (mkF m pc' Ls (v.toList ++ st)) := fun v h' q => by
  obtain ⟨b, rfl, q⟩ := q; exact K b h' q
theorem kz {pc' ce' sl' : Nat} {Ls : Array Slot} {st : List Value} {P : Int32 → Heap → Prop} (K : ∀ b h', P b h' → Wp p l e R s m args below meth c n0 EE Q h' ce' sl' (mkF m pc' Ls (.int b :: st))) : ∀ v h', (∃ b, v = some (.int b) ∧ P b h') → Wp p l e R s m args below meth c n0 EE Q h' ce' sl' (mkF m pc' Ls (v.toList ++ st)) := fun v h' q => by
  obtain ⟨b, rfl, q⟩ := q; exact K b h' q
theorem kq {pc' ce' sl' : Nat} {Ls : Array Slot} {st : List Value} {P : Int32 → Prop} (K : ∀ b, P b → Wp p l e R s m args below meth c n0 EE Q h ce' sl' (mkF m pc' Ls (.int b :: st))) : ∀ v h', (∃ b, v = some (.int b) ∧ P b ∧ h' = h) → Wp p l e R s m args below meth c n0 EE Q h' ce' sl' (mkF m pc' Ls (v.toList ++ st)) := fun v h' q => by
  obtain ⟨b, rfl, q, rfl⟩ := q; exact K b q
theorem kv {pc' ce' sl' : Nat} {Ls : Array Slot} {st : List Value} (K : Wp p l e R s m args below meth c n0 EE Q h ce' sl' (mkF m pc' Ls st)) : ∀ v h', (v = none ∧ h' = h) → Wp p l e R s m args below meth c n0 EE Q h' ce' sl' (mkF m pc' Ls (v.toList ++ st)) := fun v h' q => by
  obtain ⟨rfl, rfl⟩ := q; exact K
end Rules
theorem cat_ref {v : Value} (hv : v.isRef = true) : v.category = 1 := by cases v <;> simp [Value.isRef] at hv <;> rfl
theorem st_ref {Ls Ls' : Array Slot} {k : Nat} {v : Value} {o : Slot} (hv : v.isRef = true) (ho : Ls[k]? = some o) (hc : o = .unset ∨ ∃ w, o = .val w ∧ w.category = 1) (e : Ls.setIfInBounds k (.val v) = Ls') : storeLocals Ls k v = some Ls' := by
  rw [← e]; exact XS.store1 ho hc (cat_ref hv)
theorem st_int {Ls Ls' : Array Slot} {k : Nat} {x : Int32} {o : Slot} (ho : Ls[k]? = some o) (hc : o = .unset ∨ ∃ w, o = .val w ∧ w.category = 1) (e : Ls.setIfInBounds k (.val (.int x)) = Ls') : storeLocals Ls k (.int x) = some Ls' := by
  rw [← e]; exact XS.store1 ho hc rfl
/-! objects and arrays, each one fact -/
section Facts
variable {Z : State} {h h' : Heap} {a b : Addr} {Cl n d : String} {v v' w : Value} {fs fs' : List (String × String × Value)} {ws : List Addr} {sl : Nat} {ty : FieldType} {vs : List Value}
/-- an object of exactly the class Cl, and what its fields hold -/
def Obj (Z : State) (h : Heap) (a : Addr) (Cl : String) (fs : List (String × String × Value)) : Prop :=
  Exa Z h a Cl ∧ (∀ (i : Nat) (f : String × String × Value), fs[i]? = some f → Fld Z h a Cl f.1 f.2.1 f.2.2) ∧ ∀ (i j : Nat) (f g : String × String × Value), fs[i]? = some f → fs[j]? = some g → i ≠ j → Jvm.RoadKit.slotOf Z Cl f.1 f.2.1 ≠ Jvm.RoadKit.slotOf Z Cl g.1 g.2.1
theorem Obj.lt (O : Obj Z h a Cl fs) : a < h.size := O.1.lt
theorem Obj.fld (O : Obj Z h a Cl fs) (i : Nat) (e : fs[i]? = some (n, d, v)) : Fld Z h a Cl n d v := O.2.1 i _ e
theorem Obj.ext (O : Obj Z h a Cl fs) (E : Ext h h') : Obj Z h' a Cl fs := ⟨O.1.ext E, fun i f q => (O.2.1 i f q).ext E, O.2.2⟩
theorem Obj.keep (O : Obj Z h a Cl fs) (K : Keep h h' ws) (q : a ∉ ws) : Obj Z h' a Cl fs := ⟨O.1.keep K, fun i f r => (O.2.1 i f r).keep K q, O.2.2⟩
theorem Obj.other (O : Obj Z h a Cl fs) (W : Wr h h' b sl w) (q : a ≠ b) : Obj Z h' a Cl fs := ⟨O.1.wr W, fun i f r => (O.2.1 i f r).other W (Or.inl q), O.2.2⟩
theorem Obj.put (O : Obj Z h a Cl fs) (i : Nat) (e : fs[i]? = some (n, d, v)) (W : Wr h h' a (Jvm.RoadKit.slotOf Z Cl n d) v') (e' : fs.set i (n, d, v') = fs') : Obj Z h' a Cl fs' := by
  subst e'
  have key : ∀ j f, (fs.set i (n, d, v'))[j]? = some f → ∃ u, fs[j]? = some (f.1, f.2.1, u) ∧ (j = i → f = (n, d, v')) ∧ (j ≠ i → fs[j]? = some f) := fun j f q => by
    by_cases z : i = j
    · subst z
      have hl : i < fs.length := (List.getElem?_eq_some_iff.mp e).1
      rw [List.getElem?_set_self hl] at q
      cases q
      exact ⟨v, e, fun _ => rfl, fun r => absurd rfl r⟩
    · rw [List.getElem?_set_ne z] at q
      exact ⟨f.2.2, q, fun r => absurd r.symm z, fun _ => q⟩
  refine ⟨O.1.wr W, fun j f q => ?_, fun j k f g q r z => ?_⟩
  · obtain ⟨u, k1, k2, k3⟩ := key j f q
    by_cases z : j = i
    · cases k2 z; subst z
      exact (O.fld j e).same W
    · have ne : Jvm.RoadKit.slotOf Z Cl f.1 f.2.1 ≠ Jvm.RoadKit.slotOf Z Cl n d := O.2.2 j i f (n, d, v) (k3 z) e z
      exact Fld.other W (O.2.1 j f (k3 z)) (Or.inr ne)
  · obtain ⟨u, k1, -⟩ := key j f q
    obtain ⟨u', k2, -⟩ := key k g r
    exact O.2.2 j k (f.1, f.2.1, u) (g.1, g.2.1, u') k1 k2 z
theorem Obj.size (O : Obj Z h a Cl fs) (K : Keep h h' ws) : h.size ≤ h'.size := K.1
/-- an array of the component type ty, and what it holds -/
def Ar (Z : State) (h : Heap) (a : Addr) (ty : FieldType) (vs : List Value) : Prop := ∃ cl : Cell, Arr Z h a cl ty ∧ cl.slots = vs.toArray
theorem Ar.lt (A : Ar Z h a ty vs) : a < h.size := by obtain ⟨_, A, -⟩ := A; exact A.lt
theorem Ar.ext (A : Ar Z h a ty vs) (E : Ext h h') : Ar Z h' a ty vs := by obtain ⟨cl, A, q⟩ := A; exact ⟨cl, A.ext E, q⟩
theorem Ar.keep (A : Ar Z h a ty vs) (K : Keep h h' ws) (q : a ∉ ws) : Ar Z h' a ty vs := by obtain ⟨cl, A, r⟩ := A; exact ⟨cl, ⟨K.2.1 a cl A.1 q, A.2⟩, r⟩
theorem Ar.other (A : Ar Z h a ty vs) (W : Wr h h' b sl w) (q : a ≠ b) : Ar Z h' a ty vs := by obtain ⟨cl, A, r⟩ := A; exact ⟨cl, A.other W q, r⟩
theorem set_slots {cl : Cell} (r : cl.slots = vs.toArray) (j : Nat) (v : Value) : (cl.setSlot j v).slots = (vs.set j v).toArray := by
  show cl.slots.setIfInBounds j v = _
  rw [r]; simp
theorem Ar.set (A : Ar Z h a ty vs) (W : Wr h h' a sl w) : Ar Z h' a ty (vs.set sl w) := by
  obtain ⟨cl, A, r⟩ := A; exact ⟨_, A.same W, set_slots r _ _⟩
theorem Ar.new {cA : ClassId} {z : Int32} (A : Arr Z h a (newA cA ty z) ty) : Ar Z h a ty (List.replicate z.toNatClampNeg (defaultValue ty)) := ⟨_, A, by simp [newA]⟩
theorem Ar.nin {cl : Cell} {j : Int32} (r : cl.slots = vs.toArray) (hj : ¬ j < 0) (hl : j.toNatClampNeg < vs.length) : ¬ (j < 0 ∨ cl.slots.size ≤ j.toNatClampNeg) := by
  rw [r]; simp only [List.size_toArray]
  exact fun q => q.elim hj (fun q => Nat.not_le.mpr hl q)
theorem Ar.at {cl : Cell} {k : Nat} (r : cl.slots = vs.toArray) (hv : vs[k]? = some v) : cl.slots[k]? = some v := by rw [r]; simpa using hv
/-- an array of references to objects of the class Cl -/
def ArR (Z : State) (h : Heap) (a : Addr) (Cl : String) (vs : List Value) : Prop := ∃ cl : Cell, Arr Z h a cl (.object Cl) ∧ cl.slots = vs.toArray ∧ Ovr Z cl.cls Cl
theorem ArR.lt (A : ArR Z h a Cl vs) : a < h.size := by obtain ⟨_, A, -⟩ := A; exact A.lt
theorem ArR.ext (A : ArR Z h a Cl vs) (E : Ext h h') : ArR Z h' a Cl vs := by obtain ⟨cl, A, q⟩ := A; exact ⟨cl, A.ext E, q⟩
theorem ArR.keep (A : ArR Z h a Cl vs) (K : Keep h h' ws) (q : a ∉ ws) : ArR Z h' a Cl vs := by obtain ⟨cl, A, r⟩ := A; exact ⟨cl, ⟨K.2.1 a cl A.1 q, A.2⟩, r⟩
theorem ArR.other (A : ArR Z h a Cl vs) (W : Wr h h' b sl w) (q : a ≠ b) : ArR Z h' a Cl vs := by obtain ⟨cl, A, r⟩ := A; exact ⟨cl, A.other W q, r⟩
theorem ArR.set (A : ArR Z h a Cl vs) (W : Wr h h' a sl w) : ArR Z h' a Cl (vs.set sl w) := by
  obtain ⟨cl, A, r, q⟩ := A; exact ⟨_, A.same W, set_slots r _ _, q⟩
theorem ArR.new {cA : ClassId} {z : Int32} (A : Arr Z h a (newA cA (.object Cl) z) (.object Cl)) (O : Ovr Z cA Cl) : ArR Z h a Cl (List.replicate z.toNatClampNeg .null) := ⟨_, A, by simp [newA, defaultValue], O⟩
theorem ArR.sto (A : ArR Z h a Cl vs) {y : Addr} (E : Exa Z h y Cl) : Sto Z h a (.ref y) := by
  obtain ⟨cl, A, -, q⟩ := A; exact Sto.ofV A rfl q (Ins.self E)
theorem Keep.app (K : Keep h h' ws) {h2 : Heap} {ws2 ws3 : List Addr} (K' : Keep h' h2 ws2) (q1 : ∀ x ∈ ws, x ∈ ws3 ∨ h.size ≤ x) (q : ∀ x ∈ ws2, x ∈ ws3 ∨ h.size ≤ x) : Keep h h2 ws3 := by
  refine Keep.trans (ws := ws3) ⟨K.1, fun x c r z => ?_, K.2.2⟩ K' q
  refine K.2.1 x c r fun y => ?_
  rcases q1 x y with u | u
  · exact z u
  · exact absurd (Array.getElem?_eq_some_iff.mp r).1 (Nat.not_lt.mpr u)
end Facts
section Rules2
variable {p : Program} {l : Launch} {e : Env} {R : Room} {s : State} {m : MethodId} {args : Array Value} {below : List Frame} {meth : Method} {c : Code} {n0 : Nat} {EE : Option Value → State → List Loc → Prop} {Q : Option Value → Heap → Prop} {h : Heap} {cells slots : Nat}
variable {Z : State} {own nm : String} {bytes : ByteArray} {ml : Nat} {rt : Option FieldType} {a0 : Array Value}
theorem wA_iaload (C : Cx p s m meth c Z own bytes ml rt nm) {pc pc' : Nat} {Ls : Array Slot} {st : List Value} {a : Addr} {vs : List Value} {j : Int32} {v : Value} (hd : decode bytes pc = .ok (.iaload, 1)) (hp : pc + 1 = pc') (A : Ar Z h a .int vs) (hj : ¬ j < 0) (hv : vs[j.toNatClampNeg]? = some v)
    (K : Wp p l e R s m args below meth c n0 EE Q h cells slots (mkF m pc' Ls (v :: st))) : Wp p l e R s m args below meth c n0 EE Q h cells slots (mkF m pc Ls (.int j :: .ref a :: st)) := by
  obtain ⟨cl, A, r⟩ := A
  exact w_iaload C hd hp A (Ar.nin r hj (List.getElem?_eq_some_iff.mp hv).1) (Ar.at r hv) K
theorem wA_laload (C : Cx p s m meth c Z own bytes ml rt nm) {pc pc' : Nat} {Ls : Array Slot} {st : List Value} {a : Addr} {vs : List Value} {j : Int32} {v : Value} (hd : decode bytes pc = .ok (.laload, 1)) (hp : pc + 1 = pc') (A : Ar Z h a .long vs) (hj : ¬ j < 0) (hv : vs[j.toNatClampNeg]? = some v)
    (K : Wp p l e R s m args below meth c n0 EE Q h cells slots (mkF m pc' Ls (v :: st))) : Wp p l e R s m args below meth c n0 EE Q h cells slots (mkF m pc Ls (.int j :: .ref a :: st)) := by
  obtain ⟨cl, A, r⟩ := A
  exact w_laload C hd hp A (Ar.nin r hj (List.getElem?_eq_some_iff.mp hv).1) (Ar.at r hv) K
theorem wA_caload (C : Cx p s m meth c Z own bytes ml rt nm) {pc pc' : Nat} {Ls : Array Slot} {st : List Value} {a : Addr} {vs : List Value} {j : Int32} {v : Value} (hd : decode bytes pc = .ok (.caload, 1)) (hp : pc + 1 = pc') (A : Ar Z h a .char vs) (hj : ¬ j < 0) (hv : vs[j.toNatClampNeg]? = some v)
    (K : Wp p l e R s m args below meth c n0 EE Q h cells slots (mkF m pc' Ls (v :: st))) : Wp p l e R s m args below meth c n0 EE Q h cells slots (mkF m pc Ls (.int j :: .ref a :: st)) := by
  obtain ⟨cl, A, r⟩ := A
  exact w_caload C hd hp A (Ar.nin r hj (List.getElem?_eq_some_iff.mp hv).1) (Ar.at r hv) K
theorem wA_baload (C : Cx p s m meth c Z own bytes ml rt nm) {pc pc' : Nat} {Ls : Array Slot} {st : List Value} {a : Addr} {vs : List Value} {j : Int32} {v : Value} (hd : decode bytes pc = .ok (.baload, 1)) (hp : pc + 1 = pc') (A : Ar Z h a .byte vs) (hj : ¬ j < 0) (hv : vs[j.toNatClampNeg]? = some v)
    (K : Wp p l e R s m args below meth c n0 EE Q h cells slots (mkF m pc' Ls (v :: st))) : Wp p l e R s m args below meth c n0 EE Q h cells slots (mkF m pc Ls (.int j :: .ref a :: st)) := by
  obtain ⟨cl, A, r⟩ := A
  exact w_baload C hd hp A (Ar.nin r hj (List.getElem?_eq_some_iff.mp hv).1) (Ar.at r hv) K
theorem wA_aaload (C : Cx p s m meth c Z own bytes ml rt nm) {pc pc' : Nat} {Ls : Array Slot} {st : List Value} {a : Addr} {Cl : String} {vs : List Value} {j : Int32} {v : Value} (hd : decode bytes pc = .ok (.aaload, 1)) (hp : pc + 1 = pc') (A : ArR Z h a Cl vs) (hj : ¬ j < 0) (hv : vs[j.toNatClampNeg]? = some v)
    (K : Wp p l e R s m args below meth c n0 EE Q h cells slots (mkF m pc' Ls (v :: st))) : Wp p l e R s m args below meth c n0 EE Q h cells slots (mkF m pc Ls (.int j :: .ref a :: st)) := by
  obtain ⟨cl, A, r, -⟩ := A
  exact w_aaload C hd hp A rfl (Ar.nin r hj (List.getElem?_eq_some_iff.mp hv).1) (Ar.at r hv) K
theorem wA_iastore (C : Cx p s m meth c Z own bytes ml rt nm) {pc pc' : Nat} {Ls : Array Slot} {st : List Value} {a : Addr} {vs : List Value} {j : Int32} {x : Int32} (hd : decode bytes pc = .ok (.iastore, 1)) (hp : pc + 1 = pc') (g0 : n0 ≤ a) (A : Ar Z h a .int vs) (hj : ¬ j < 0) (hl : j.toNatClampNeg < vs.length)
    (K : ∀ h', Wr h h' a j.toNatClampNeg (.int x) → Ar Z h' a .int (vs.set j.toNatClampNeg (.int x)) → Wp p l e R s m args below meth c n0 EE Q h' cells slots (mkF m pc' Ls st)) : Wp p l e R s m args below meth c n0 EE Q h cells slots (mkF m pc Ls (.int x :: .int j :: .ref a :: st)) := by
  have A' := A
  obtain ⟨cl, A, r⟩ := A
  exact w_iastore C hd hp g0 A (Ar.nin r hj hl) (fun h' W => K h' W (A'.set W))
theorem wA_lastore (C : Cx p s m meth c Z own bytes ml rt nm) {pc pc' : Nat} {Ls : Array Slot} {st : List Value} {a : Addr} {vs : List Value} {j : Int32} {x : Int64} (hd : decode bytes pc = .ok (.lastore, 1)) (hp : pc + 1 = pc') (g0 : n0 ≤ a) (A : Ar Z h a .long vs) (hj : ¬ j < 0) (hl : j.toNatClampNeg < vs.length)
    (K : ∀ h', Wr h h' a j.toNatClampNeg (.long x) → Ar Z h' a .long (vs.set j.toNatClampNeg (.long x)) → Wp p l e R s m args below meth c n0 EE Q h' cells slots (mkF m pc' Ls st)) : Wp p l e R s m args below meth c n0 EE Q h cells slots (mkF m pc Ls (.long x :: .int j :: .ref a :: st)) := by
  have A' := A
  obtain ⟨cl, A, r⟩ := A
  exact w_lastore C hd hp g0 A (Ar.nin r hj hl) (fun h' W => K h' W (A'.set W))
theorem wA_castore (C : Cx p s m meth c Z own bytes ml rt nm) {pc pc' : Nat} {Ls : Array Slot} {st : List Value} {a : Addr} {vs : List Value} {j : Int32} {x : Int32} (hd : decode bytes pc = .ok (.castore, 1)) (hp : pc + 1 = pc') (g0 : n0 ≤ a) (A : Ar Z h a .char vs) (hj : ¬ j < 0) (hl : j.toNatClampNeg < vs.length)
    (K : ∀ h', Wr h h' a j.toNatClampNeg (.int (toCh x)) → Ar Z h' a .char (vs.set j.toNatClampNeg (.int (toCh x))) → Wp p l e R s m args below meth c n0 EE Q h' cells slots (mkF m pc' Ls st)) : Wp p l e R s m args below meth c n0 EE Q h cells slots (mkF m pc Ls (.int x :: .int j :: .ref a :: st)) := by
  have A' := A
  obtain ⟨cl, A, r⟩ := A
  exact w_castore C hd hp g0 A (Ar.nin r hj hl) (fun h' W => K h' W (A'.set W))
theorem wA_aastore (C : Cx p s m meth c Z own bytes ml rt nm) {pc pc' : Nat} {Ls : Array Slot} {st : List Value} {a : Addr} {Cl : String} {vs : List Value} {j : Int32} {v : Value} (hd : decode bytes pc = .ok (.aastore, 1)) (hp : pc + 1 = pc') (g0 : n0 ≤ a) (A : ArR Z h a Cl vs) (hj : ¬ j < 0) (hl : j.toNatClampNeg < vs.length) (F : Sto Z h a v)
    (K : ∀ h', Wr h h' a j.toNatClampNeg v → ArR Z h' a Cl (vs.set j.toNatClampNeg v) → Wp p l e R s m args below meth c n0 EE Q h' cells slots (mkF m pc' Ls st)) : Wp p l e R s m args below meth c n0 EE Q h cells slots (mkF m pc Ls (v :: .int j :: .ref a :: st)) := by
  have A' := A
  obtain ⟨cl, A, r, -⟩ := A
  exact w_aastore C hd hp g0 A (Ar.nin r hj hl) rfl F (fun h' W => K h' W (A'.set W))
theorem wA_alen (C : Cx p s m meth c Z own bytes ml rt nm) {pc pc' : Nat} {Ls : Array Slot} {st : List Value} {a : Addr} {ty : FieldType} {vs : List Value} {n : Int32} (hd : decode bytes pc = .ok (.arraylength, 1)) (hp : pc + 1 = pc') (A : Ar Z h a ty vs) (hn : vs.length.toInt32 = n)
    (K : Wp p l e R s m args below meth c n0 EE Q h cells slots (mkF m pc' Ls (.int n :: st))) : Wp p l e R s m args below meth c n0 EE Q h cells slots (mkF m pc Ls (.ref a :: st)) := by
  obtain ⟨cl, A, r⟩ := A
  exact w_alen C hd hp A (by rw [r]; simpa using hn) K
theorem wA_alenR (C : Cx p s m meth c Z own bytes ml rt nm) {pc pc' : Nat} {Ls : Array Slot} {st : List Value} {a : Addr} {Cl : String} {vs : List Value} {n : Int32} (hd : decode bytes pc = .ok (.arraylength, 1)) (hp : pc + 1 = pc') (A : ArR Z h a Cl vs) (hn : vs.length.toInt32 = n)
    (K : Wp p l e R s m args below meth c n0 EE Q h cells slots (mkF m pc' Ls (.int n :: st))) : Wp p l e R s m args below meth c n0 EE Q h cells slots (mkF m pc Ls (.ref a :: st)) := by
  obtain ⟨cl, A, r, -⟩ := A
  exact w_alen C hd hp A (by rw [r]; simpa using hn) K
theorem wA_newP (C : Cx p s m meth c Z own bytes ml rt nm) {pc pc' ce' sl' : Nat} {Ls : Array Slot} {st : List Value} {aty : ArrayType} {n : Int32} {cap : Nat} (w : (Jvm.Cond.arrayClass (newarray.typeOf aty)).before a0 Z = true) (hd : decode bytes pc = .ok (.newarray aty, 2)) (hp : pc + 2 = pc') (hn : ¬ n < 0) (hcap : n.toNatClampNeg ≤ cap) (hbig : cap * 8 ≤ 536870912) (hc1 : cells + 1 = ce') (hl1 : slots + cap = sl') (hc : ce' ≤ R.cells) (hl : sl' ≤ R.slots)
    (K : ∀ h' a, a = h.size → Ext h h' → Ar Z h' a (newarray.typeOf aty) (List.replicate n.toNatClampNeg (defaultValue (newarray.typeOf aty))) → Wp p l e R s m args below meth c n0 EE Q h' ce' sl' (mkF m pc' Ls (.ref a :: st))) : Wp p l e R s m args below meth c n0 EE Q h cells slots (mkF m pc Ls (.int n :: st)) :=
  w_newP C w hd hp hn hcap hbig hc1 hl1 hc hl (fun h' a cA e E A => K h' a e E (Ar.new A))
theorem wA_newR (C : Cx p s m meth c Z own bytes ml rt nm) {pc pc' ce' sl' : Nat} {Ls : Array Slot} {st : List Value} {Cl : String} {i : Nat} {n : Int32} {cap : Nat} (w1 : (Jvm.Cond.classLink own i Cl).before a0 Z = true) (w2 : (Jvm.Cond.arrayOver (.object Cl)).before a0 Z = true) (hd : decode bytes pc = .ok (.anewarray i, 3)) (hp : pc + 3 = pc') (hn : ¬ n < 0) (hcap : n.toNatClampNeg ≤ cap) (hbig : cap * 8 ≤ 536870912) (hc1 : cells + 1 = ce') (hl1 : slots + cap = sl') (hc : ce' ≤ R.cells) (hl : sl' ≤ R.slots)
    (K : ∀ h' a, a = h.size → Ext h h' → ArR Z h' a Cl (List.replicate n.toNatClampNeg .null) → Wp p l e R s m args below meth c n0 EE Q h' ce' sl' (mkF m pc' Ls (.ref a :: st))) : Wp p l e R s m args below meth c n0 EE Q h cells slots (mkF m pc Ls (.int n :: st)) :=
  w_newR C w1 w2 hd hp hn hcap hbig hc1 hl1 hc hl (fun h' a cA e E A O => K h' a e E (ArR.new A O))
end Rules2
theorem cmpJ_gt (x y : Int64) : (0 < cmpJ x y) = (y < x) := propext (lw_gt x y)
theorem cmpJ_lt (x y : Int64) : (cmpJ x y < 0) = (x < y) := propext (lw_lt x y)
theorem cmpJ_eq (x y : Int64) : (cmpJ x y = 0) = (x = y) := propext (lw_eq x y)
theorem toCh_rng (x : Int32) : 0 ≤ (toCh x).toInt ∧ (toCh x).toInt < 65536 := ⟨(c_i2c x).2.1, (c_i2c x).2.2⟩
theorem toCh_mod (x : Int32) : ((toCh x).toInt - x.toInt) % 65536 = 0 := (c_i2c x).1
theorem toCh_id {x : Int32} (h0 : 0 ≤ x.toInt) (h1 : x.toInt < 65536) : toCh x = x := by
  apply Int32.toInt_inj.mp
  have := toCh_rng x; have := toCh_mod x
  omega
/-- an int in 0 .. n-1 is one of the n numbers -/
theorem small_int {n : Nat} {x : Int32} (h0 : 0 ≤ x.toInt) (h1 : x.toInt < n) : ∃ k : Fin n, x = Int32.ofInt (k.1 : Int) := by
  refine ⟨⟨x.toInt.toNat, by omega⟩, ?_⟩
  show x = Int32.ofInt ((x.toInt.toNat : Nat) : Int)
  rw [Int.toNat_of_nonneg h0, Int32.ofInt_toInt]
/-! walks that load String constants -/
def CtH (l : Launch) (Z : State) (EL : List (String × Nat)) (M : Nat) (y : MethodName) (bytes : ByteArray) (maxL : Nat) (ret : Option FieldType) (ws : List Jvm.Cond) (rm : Room) (cM sM Bm : Nat) (as' : Array Value) (h : Heap) (n0 : Nat) (Q : Option Value → Heap → Prop) : Prop :=
  MetFree l y (head1 (Jvm.Cond.code y bytes maxL ret :: ws) rm) (fun a U => a = as' ∧ Z.Warmed39 U.vm ∧ U.heap = h ∧ CHv Z EL U.vm h) (fun _ _ _ _ _ => True)
    (fun _ U o U' => ∃ v L, o = .returned v ∧ (Q v U'.heap ∧ Fr n0 L) ∧ EH Z EL M U cM sM Bm v U' L)
theorem CtH.of {l : Launch} {Z : State} {EL : List (String × Nat)} {M : Nat} {y : MethodName} {bytes : ByteArray} {maxL : Nat} {ret : Option FieldType} {ws : List Jvm.Cond} {rm : Room} {cM sM Bm : Nat} {as' : Array Value} {h : Heap} {n0 : Nat} {Q : Option Value → Heap → Prop} {Ls : Array Slot}
    (hpl : plainFor y = true) (ef : ∀ m, entryFrame m as' maxL = mkF m 0 Ls [])
    (H : ∀ p e s m below meth c vm0 k0 u, Cx p (s.setVm vm0) m meth c Z y.cls bytes maxL ret y.name → s.Since vm0 k0 → k0 ≤ h.size → CHr Z EL s.vm s.heap vm0 h → u + NR EL s ≤ NR EL (s.setVm vm0) → u ≤ 0 → Wp p l e rm (s.setVm vm0) m as' below meth c n0 (EH Z EL M s cM sM Bm) Q h (0 + 2 * u) (0 + M * u) (mkF m 0 Ls [])) :
    CtH l Z EL M y bytes maxL ret ws rm cM sM Bm as' h n0 Q := by
  refine MetFree.of_bodySF hpl hisR ?_
  intro p e s m args below meth c s₁ Bd hml0 hP hK
  obtain ⟨rfl, hZ, hh, hC⟩ := hP
  have C : Cx p (s.setVm s.vm) m meth c Z y.cls bytes maxL ret y.name := ⟨Bd.exec, Bd.bytes, hZ, findClass_of_methodNamed Bd.named, hml0, Bd.returns, (name_of_methodNamed Bd.named Bd.method).1, Bd.notSynchronized⟩
  have X := Stand.of_body Bd
  obtain ⟨s₂, v, L, a1, a2, a3, a4, a5⟩ := H p e s m below meth c s.vm 0 0 C ((State.WarmedH.refl s).since 0) (Nat.zero_le _) (by rw [hh]; exact CHr.refl hC) (by rw [Nat.zero_add]; exact Nat.le_of_eq (NR_vm EL rfl)) (Nat.le_refl _) s₁ [] (X.more (Nat.zero_le _) (Nat.zero_le _)) (by rw [← hh, Bd.state]; rfl) (Fr.nil n0)
  exact ⟨s₂, .returned v, castTop (ef m) a1, a2, a3, v, L, rfl, a4, a5⟩
/-- a String whose signs are Latin-1: its class, its coder, its bytes -/
def Str (Z : State) (h : Heap) (a b : Addr) (vs : List Value) : Prop := Exa Z h a "java/lang/String" ∧ Fld Z h a "java/lang/String" "coder" "B" (.int 0) ∧ Fld Z h a "java/lang/String" "value" "[B" (.ref b) ∧ Ar Z h b .byte vs
section RulesH
variable {p : Program} {l : Launch} {e : Env} {R : Room} {s : State} {m : MethodId} {args : Array Value} {below : List Frame} {meth : Method} {c : Code} {n0 : Nat} {EE : Option Value → State → List Loc → Prop} {Q : Option Value → Heap → Prop} {h : Heap}
variable {Z : State} {own nm : String} {bytes : ByteArray} {ml : Nat} {rt : Option FieldType} {a0 : Array Value} {EL : List (String × Nat)} {M : Nat} {vm0 : Vm} {k0 a b B : Nat}
theorem arv_ar {k : ClassId} {ty : FieldType} {z : Int32} {vs : List Value} {dv : Value} {x : Addr} (A : Arv Z h x k ty z vs dv) (hl : z.toNatClampNeg = vs.length) : Ar Z h x ty vs := by
  obtain ⟨cl, A1, -, h2, -, h4, -⟩ := A
  refine ⟨cl, A1, ?_⟩
  apply Array.ext_getElem?
  intro i
  by_cases g : i < cl.slots.size
  · rw [h4 i g]
    have : i < vs.length := by omega
    simp [this]
  · rw [Array.getElem?_eq_none (by omega), Array.getElem?_eq_none (by simp; omega)]
theorem exa_back {W : State} (hal : Z.vm.Alike W.vm) {x : Addr} {Cl : String} (E : Exa W h x Cl) : Exa Z h x Cl := by
  obtain ⟨cell, k, h1, h2, h3, h4, h5⟩ := E
  have f : Z.vm.findClass Cl = some cell.cls := by rw [← hal.findClass]; exact h2
  obtain ⟨kz, hkz, -⟩ := Vm.findClass_spec f
  obtain ⟨k', hk', ek⟩ := hal.2.2 _ _ hkz
  cases hk'.symm.trans h3
  exact ⟨cell, kz, h1, f, hkz, h4, fun ho => by have := h5 (by rw [ek]; exact ho); rw [this, ek]⟩
theorem fld_back {W : State} (hal : Z.vm.Alike W.vm) {x : Addr} {Cl n d : String} {v : Value} (F : Fld W h x Cl n d v) : Fld Z h x Cl n d v := by
  obtain ⟨cell, cf, k, i, f, h1, h2, h3, h4, h5, h6, h7⟩ := F
  obtain ⟨k', q⟩ := ff_back hal h2
  exact ⟨cell, cf, k', i, f, h1, q, h3, h4, h5, by rw [← hal.assignable]; exact h6, h7⟩
theorem arr_back {W : State} (hal : Z.vm.Alike W.vm) {x : Addr} {cl : Cell} {ty : FieldType} (A : Arr W h x cl ty) : Arr Z h x cl ty := by
  obtain ⟨h1, ⟨h2, k, h3, comp, h4⟩, h5⟩ := A
  have lt : cl.cls < Z.vm.classes.size := by rw [← hal.2.1]; exact (Array.getElem?_eq_some_iff.mp h3).1
  obtain ⟨k', hk', ek⟩ := hal.2.2 _ _ (Array.getElem?_eq_getElem lt)
  cases hk'.symm.trans h3
  exact ⟨h1, ⟨h2, _, Array.getElem?_eq_getElem lt, comp, by rw [ek] at h4; exact h4⟩, h5⟩
/-- the String that an entry of EL is resolved to says the entry's text -/
theorem str_of {text : String} {i : Nat} {x : Addr} {vs : List Value} (hZ : Z.Warmed39 vm0) (hown : vm0.findClass own = some m.cls) (w : (Jvm.Cond.stringLink own i text).before a0 Z = true) (hmem : (own, i) ∈ EL) (H : CHv Z EL vm0 h) (L : Lit (s.setVm vm0) own i x)
    (ht : (∀ c ∈ text.toList, c.toNat < 256) ∧ text.toList.map (fun c => Value.int (Jvm.Lit.byteI c.toNat.toUInt16)) = vs) : ∃ y, Str Z h x y vs ∧ ∀ z, Safe Z EL vm0 h z → z ≠ x ∧ z ≠ y := by
  obtain ⟨k, cf, j, units, hk, hcf, hp, hu, -, htext, -⟩ := Cond.stringLink_spec (args := a0) (s := Wst Z vm0 h) hown (mvS (s := { Z with heap := h }) hZ w)
  have hres : k.resolved[i]? = some (some (.string x)) := by
    have q : (s.setVm vm0).resolvedAt? own i = some (.string x) := L
    have hk' : vm0.classes[m.cls]? = some k := hk
    simp only [State.resolvedAt?, State.vm_setVm, hown, hk', Option.bind_eq_bind, Option.bind_some] at q
    exact Option.join_eq_some_iff.mp q
  have hb : Booksv vm0 own i units x := ⟨m.cls, k, cf, j, hown, hk, hcf, hp, hu, Or.inl hres⟩
  obtain ⟨q, rfl, F⟩ := SlB.of (H _ hmem units x hb)
  have hal : Z.vm.Alike (Wst Z vm0 h).vm := hZ.alike
  have F0 := F
  obtain ⟨cS, ⟨⟨s1, s2, s3, ⟨cv, kv, iv, s4, s4'⟩, ⟨cc, kc, ic, s5, s5'⟩, s6, s7, s8, s9, s10, s11, s12, -, -, -, -⟩, hfS, hcS⟩, ⟨kS, k1, k2, k3⟩, hB, hbyt⟩ := F
  refine ⟨q.sd, ⟨exa_back hal ⟨q.sC, kS, s1, by rw [hcS]; exact hfS, by rw [hcS]; exact k1, s3, fun _ => k3⟩, fld_back hal ⟨q.sC, cc, kc, ic, q.fSC, s1, s5, s7, s2, s3, s5', s9⟩, fld_back hal ⟨q.sC, cv, kv, iv, q.fSV, s1, s4, s6, s2, s3, s4', s8⟩, q.SA, arr_back hal ⟨s10, s11, s12⟩, ?_⟩,
    fun z S => ⟨fun e => S ⟨_, hmem, units, q.sa, hb, q, rfl, F0, Or.inl e⟩, fun e => S ⟨_, hmem, units, q.sa, hb, q, rfl, F0, Or.inr e⟩⟩⟩
  rw [hbyt, SBG.stringBytes_lat (Jvm.ClassFile.lat_of_text htext ht.1), ← ht.2]
  apply Array.ext'
  rw [Array.toList_map, Jvm.ClassFile.units_of_text htext ht.1, List.map_map]
  rfl
/-- ldc of a String constant -/
theorem w_ldcH (C : Cx p (s.setVm vm0) m meth c Z own bytes ml rt nm) {pc pc' : Nat} {Ls : Array Slot} {st : List Value} {text : String} {i : Nat} {vs : List Value} {z : Int32} {u : Nat} (w : (Jvm.Cond.stringLink own i text).before a0 Z = true) (wS : ∀ a ∈ Bundle.stringAtoms, a.before a0 Z = true) (hd : decode bytes pc = .ok (.ldc i, 2)) (hp : pc + 2 = pc')
    (HS : s.Since vm0 k0) (HK : k0 ≤ h.size) (hEL : EW Z a0 EL) (hmem : (own, i) ∈ EL) (HC : CHr Z EL s.vm s.heap vm0 h) (HU : u + NR EL s ≤ NR EL (s.setVm vm0)) (HB : u ≤ B)
    (ht : (∀ c ∈ text.toList, c.toNat < 256) ∧ text.toList.map (fun c => Value.int (Jvm.Lit.byteI c.toNat.toUInt16)) = vs) (hz : ¬ z < 0) (hl : z.toNatClampNeg = vs.length) (hn : 4 * text.toList.length + 4 ≤ M) (hbig : M ≤ 536870912) (hc : a + 2 * B + 2 ≤ R.cells) (hs : b + M * B + M ≤ R.slots)
    (K : ∀ vm1 k1 h' x y u', Cx p (s.setVm vm1) m meth c Z own bytes ml rt nm → s.Since vm1 k1 → k1 ≤ h'.size → CHr Z EL s.vm s.heap vm1 h' → u' + NR EL s ≤ NR EL (s.setVm vm1) → u' ≤ B + 1 → Ext h h' → Str Z h' x y vs → (∀ z, Safe Z EL vm1 h' z → z ≠ x ∧ z ≠ y) → Wp p l e R (s.setVm vm1) m args below meth c n0 EE Q h' (a + 2 * u') (b + M * u') (mkF m pc' Ls (.ref x :: st))) :
    Wp p l e R (s.setVm vm0) m args below meth c n0 EE Q h (a + 2 * u) (b + M * u) (mkF m pc Ls st) := by
  subst hp
  intro T locs X e0 N
  have hZ : Z.Warmed39 vm0 := C.2.2.1
  have hown : vm0.findClass own = some m.cls := C.2.2.2.1
  have mB := Nat.mul_le_mul_left M HB
  by_cases r : resB (s.setVm vm0) (own, i) = true
  · obtain ⟨x, L⟩ := resB_ex r
    obtain ⟨y, S, ns⟩ := str_of hZ hown w hmem HC.1 L ht
    obtain ⟨s2, v, L2, q, rest⟩ := K vm0 k0 h x y u C HS HK HC HU (Nat.le_succ_of_le HB) ⟨Nat.le_refl _, fun _ _ q => q⟩ S ns T locs X e0 N
    exact ⟨s2, v, L2, ldcAgain X C.1 hZ hown w L (g := mkF m pc Ls st) rfl (hb C.2.1 hd) _ q, rest⟩
  · obtain ⟨x, T', h', k1, y, kk, X', eh, E, hS', hk1, hW, hf, x1, x2, x3, x4, -, -, hC, hL, ns, st'⟩ := ldcCH (s := s.setVm vm0) (vm0 := vm0) X C.1 hZ hown w wS e0 ((State.WarmedH.refl (s.setVm vm0)).since 0) (Nat.zero_le _) hEL hmem HC.1 ht hz hl (g := mkF m pc Ls st) rfl (hb C.2.1 hd) (n := M - 4) (by omega) (by omega) (by omega) (by omega)
    have n1 : NR EL (s.setVm vm0) + 1 ≤ NR EL (s.setVm T'.vm) := NR_lt hS'.1 hmem r (resB_lit (p := (own, i)) hL)
    have HS2 : s.Since T'.vm (max k0 k1) := HS.trans ⟨hS'.1, hS'.2.mono (Nat.le_max_right _ _)⟩ (Nat.le_max_left _ _)
    have C2 : Cx p (s.setVm T'.vm) m meth c Z own bytes ml rt nm := ⟨C.1, C.2.1, hW, hf, C.2.2.2.2⟩
    obtain ⟨s2, v, L2, q, rest⟩ := K T'.vm (max k0 k1) h' x y (u + 1) C2 HS2 (Nat.max_le.mpr ⟨Nat.le_trans HK E.1, hk1⟩) (HC.trans hC) (by omega) (Nat.succ_le_succ HB) E ⟨x1, x2, x3, arv_ar x4 hl⟩ ns T' locs (X'.more (by omega) (by rw [Nat.mul_add, Nat.mul_one]; omega)) eh N
    exact ⟨s2, v, L2, st' _ q, rest⟩
theorem backH {y : MethodName} {cb : ByteArray} {maxL : Nat} {ret : Option FieldType} {rm : Room} {cM sM Bm len W : Nat} {as' : Array Value} {Q' : Option Value → Heap → Prop}
    (hM : CtH l Z EL M y cb maxL ret [] rm cM sM Bm as' h n0 Q') (hZ : Z.Warmed39 vm0) (wc : (Jvm.Cond.code y cb maxL ret).before a0 Z = true) (wz : (Jvm.Cond.initialized y.cls).before a0 Z = true) (hf : rm.frames + 1 ≤ R.frames) (hl : W + (maxL + 11) + rm.locals ≤ R.locals) (hEL : EW Z a0 EL) (H : CHv Z EL vm0 h) :
    BackS l R p e below (s.setVm vm0) args y len W (fun A a => a = as' ∧ A.U.heap = h ∧ A.cells + rm.cells ≤ R.cells ∧ A.slots + rm.slots ≤ R.slots)
      (fun A _ v B => ∃ L w, (Q' v B.U.heap ∧ Fr n0 L) ∧ B.locs = A.locs ++ L ∧ B.cells = A.cells + (cM + 2 * w) ∧ B.slots = A.slots + (sM + M * w) ∧ CHr Z EL vm0 h B.U.vm B.U.heap ∧ w + NR EL (s.setVm vm0) ≤ NR EL (s.setVm B.U.vm) ∧ w ≤ Bm) :=
  BackS.of_freeW (bytes := cb) (maxL := maxL) (ret := ret) (E := fun _ first o t L k n => ∃ v w, o = .returned v ∧ k = cM + 2 * w ∧ n = sM + M * w ∧ (Q' v t.heap ∧ Fr n0 L) ∧ CHr Z EL first.vm first.heap t.vm t.heap ∧ w + NR EL first ≤ NR EL t ∧ w ≤ Bm) hM hf hl
    (fun m meth c A a Y hp => have hU : Z.Warmed39 A.U.vm := wtrans (s := s.setVm vm0) hZ Y.warmed
      ⟨by show (Cond.and _ .tt).before a A.U = true; rw [Cond.before_and, mv hU wc]; rfl, mv hU wc, mv hU wz, hp.2.2.1, hp.2.2.2⟩)
    (fun m meth c A a g mk Y hp => ⟨hp.1, wtrans (s := s.setVm vm0) hZ Y.warmed, hp.2.1, (CHv.at Y hZ hEL H).1⟩) (fun _ _ _ _ _ _ _ _ _ => trivial)
    (fun _ _ _ _ ⟨v, L, h1, h2, h3, w, h4, h5, h6⟩ => ⟨L, _, _, h1 ▸ h6, v, w, h1, rfl, rfl, h2, h3, h4, h5⟩)
    (fun m meth c A a g mk v t L k n Y hp _ _ ⟨v', w, e1, e2, e3, e4, e5, e6, e7⟩ => by
      cases e1; subst e2 e3
      refine ⟨L, w, e4, rfl, rfl, rfl, (CHv.at Y hZ hEL H).trans (by rw [← hp.2.1]; exact e5), ?_, e7⟩
      have n1 : NR EL (s.setVm vm0) ≤ NR EL (A.U.calling g mk a) := Nat.le_trans (NR_mono EL Y.warmed.wide) (Nat.le_of_eq (NR_vm EL rfl))
      exact Nat.le_trans (Nat.add_le_add_left n1 w) (Nat.le_trans e6 (Nat.le_of_eq (NR_vm EL rfl))))
theorem w_callSH (C : Cx p (s.setVm vm0) m meth c Z own bytes ml rt nm) {pc pc' : Nat} {Ls : Array Slot} {stk st : List Value} {i : Nat} {y : MethodName} {cb : ByteArray} {cml : Nat} {cret : Option FieldType} {crm : Room} {argsL : List Value} {Q' : Option Value → Heap → Prop} {W u cM sM Bm : Nat} (w1 : (Jvm.Cond.methodLink own i y).before a0 Z = true) (w2 : (Jvm.Cond.static y).before a0 Z = true) (w3 : (Jvm.Cond.initialized y.cls).before a0 Z = true) (w4 : (Jvm.Cond.code y cb cml cret).before a0 Z = true) (hy : y.cls ≠ "java/lang/invoke/MethodHandle" ∧ y.cls ≠ "java/lang/invoke/VarHandle")
    (hd : decode bytes pc = .ok (.invokestatic i, 3)) (hp : pc + 3 = pc') (hst : stk = argsL.reverse ++ st) (hfr : crm.frames + 1 ≤ R.frames) (hlo : W + (cml + 11) + crm.locals ≤ R.locals) (hW : (st.map fun v => v.category).sum ≤ W) (hce : a + 2 * B + crm.cells ≤ R.cells) (hsl : b + M * B + crm.slots ≤ R.slots) (hsz : Ls.size = ml) (hlen : ∀ sig, parseMethodDescriptor y.desc = some sig → argsL.length = sig.parameters.length)
    (HS : s.Since vm0 k0) (HK : k0 ≤ h.size) (hEL : EW Z a0 EL) (HC : CHr Z EL s.vm s.heap vm0 h) (HU : u + NR EL s ≤ NR EL (s.setVm vm0)) (HB : u ≤ B) (ct : CtH l Z EL M y cb cml cret [] crm cM sM Bm argsL.toArray h n0 Q')
    (K : ∀ vm1 k1 v h' u', Cx p (s.setVm vm1) m meth c Z own bytes ml rt nm → s.Since vm1 k1 → k1 ≤ h'.size → CHr Z EL s.vm s.heap vm1 h' → CHr Z EL vm0 h vm1 h' → u' + NR EL s ≤ NR EL (s.setVm vm1) → u' ≤ B + Bm → Q' v h' → Wp p l e R (s.setVm vm1) m args below meth c n0 EE Q h' (a + cM + 2 * u') (b + sM + M * u') (mkF m pc' Ls (v.toList ++ st))) :
    Wp p l e R (s.setVm vm0) m args below meth c n0 EE Q h (a + 2 * u) (b + M * u) (mkF m pc Ls stk) := by
  subst hp
  intro T locs X e0 N
  have mB := Nat.mul_le_mul_left M HB
  obtain ⟨v, _, ⟨T', L', k', n'⟩, -, X', hS2, hgr, ⟨Lc, w, hq, l1, l2, l3, hC2, hN, hw⟩, st'⟩ := callSS X C.1 (y := y) C.2.2.2.1 (mvT C.2.2.1 w1) (mvT C.2.2.1 w2) (mvT C.2.2.1 w3) (mvT C.2.2.1 w4) hy (backH (W := W) ct C.2.2.1 w4 w3 hfr hlo hEL HC.1) (g := mkF m pc Ls stk) rfl (hsz.trans C.2.2.2.2.1.symm) (argsL := argsL) (rest := st) hlen hst (by show 2 * 0 + _ ≤ _; rw [Nat.mul_zero, Nat.zero_add]; exact hW) (hb C.2.1 hd) (fun _ _ => ⟨rfl, e0, by show (a + 2 * u) + crm.cells ≤ R.cells; omega, by show (b + M * u) + crm.slots ≤ R.slots; omega⟩)
  dsimp only [Pt.U, Pt.locs, Pt.cells, Pt.slots] at X' l1 l2 l3 st' hq hS2 hgr hC2 hN
  subst l1 l2 l3
  have hgr' : h.size ≤ T'.heap.size := by rw [← e0]; exact hgr
  have C2 : Cx p (s.setVm T'.vm) m meth c Z own bytes ml rt nm := ⟨C.1, C.2.1, State.Warmed39.trans (t := s.setVm vm0) C.2.2.1 hS2.1, (hS2.1.alike.findClass _ _).trans C.2.2.2.1, C.2.2.2.2⟩
  obtain ⟨s2, z, L, q, r⟩ := K T'.vm T'.heap.size v T'.heap (u + w) C2 (HS.trans hS2 (Nat.le_trans HK hgr')) (Nat.le_refl _) (HC.trans hC2) hC2 (by omega) (by omega) hq.1 T' _ (X'.more (by omega) (by rw [Nat.mul_add]; omega)) rfl (Fr.app N hq.2)
  exact ⟨s2, z, L, st'.trans q, r⟩
theorem w_callVH (C : Cx p (s.setVm vm0) m meth c Z own bytes ml rt nm) {pc pc' : Nat} {Ls : Array Slot} {stk st : List Value} {i : Nat} {x : Addr} {Cl : String} {y : MethodName} {cb : ByteArray} {cml : Nat} {cret : Option FieldType} {crm : Room} {argsL : List Value} {Q' : Option Value → Heap → Prop} {W u cM sM Bm : Nat} (w1 : (Jvm.Cond.methodLink own i y).before a0 Z = true) (w2 : (Jvm.Cond.declares y).before a0 Z = true) (w5 : (Jvm.Cond.selects Cl y y).before a0 Z = true) (w6 : (Jvm.Cond.instanceMethod y).before a0 Z = true) (w3 : (Jvm.Cond.initialized y.cls).before a0 Z = true) (w4 : (Jvm.Cond.code y cb cml cret).before a0 Z = true) (hy : y.cls ≠ "java/lang/invoke/MethodHandle" ∧ y.cls ≠ "java/lang/invoke/VarHandle")
    (hd : decode bytes pc = .ok (.invokevirtual i, 3)) (hp : pc + 3 = pc') (hst : stk = argsL.reverse ++ .ref x :: st) (hfr : crm.frames + 1 ≤ R.frames) (hlo : W + (cml + 11) + crm.locals ≤ R.locals) (hW : (st.map fun v => v.category).sum ≤ W) (hce : a + 2 * B + crm.cells ≤ R.cells) (hsl : b + M * B + crm.slots ≤ R.slots) (hsz : Ls.size = ml) (hlen : ∀ sig, parseMethodDescriptor y.desc = some sig → argsL.length = sig.parameters.length) (E : Exa Z h x Cl)
    (HS : s.Since vm0 k0) (HK : k0 ≤ h.size) (hEL : EW Z a0 EL) (HC : CHr Z EL s.vm s.heap vm0 h) (HU : u + NR EL s ≤ NR EL (s.setVm vm0)) (HB : u ≤ B) (ct : CtH l Z EL M y cb cml cret [] crm cM sM Bm (.ref x :: argsL).toArray h n0 Q')
    (K : ∀ vm1 k1 v h' u', Cx p (s.setVm vm1) m meth c Z own bytes ml rt nm → s.Since vm1 k1 → k1 ≤ h'.size → CHr Z EL s.vm s.heap vm1 h' → CHr Z EL vm0 h vm1 h' → u' + NR EL s ≤ NR EL (s.setVm vm1) → u' ≤ B + Bm → Q' v h' → Wp p l e R (s.setVm vm1) m args below meth c n0 EE Q h' (a + cM + 2 * u') (b + sM + M * u') (mkF m pc' Ls (v.toList ++ st))) :
    Wp p l e R (s.setVm vm0) m args below meth c n0 EE Q h (a + 2 * u) (b + M * u) (mkF m pc Ls stk) := by
  subst hp
  intro T locs X e0 N
  have mB := Nat.mul_le_mul_left M HB
  obtain ⟨_, _, qa, qb, qc⟩ := isOf C.2.2.1 e0 E
  obtain ⟨v, _, ⟨T', L', k', n'⟩, -, X', hS2, hgr, ⟨Lc, w, hq, l1, l2, l3, hC2, hN, hw⟩, st'⟩ := X.virtualBackS C.1 (y := y) (z := y) C.2.2.2.1 (mvT C.2.2.1 w1) (mvT C.2.2.1 w2) (notFace_of_selects (args := #[]) (mvT C.2.2.1 w5)) (mvT C.2.2.1 w5) (mvT C.2.2.1 w6) hy (backH (W := W) ct C.2.2.1 w4 w3 hfr hlo hEL HC.1) qa qc (g := mkF m pc Ls stk) rfl (hsz.trans C.2.2.2.2.1.symm) (Steps.refl _) (argsL := argsL) (rest := st) hlen hst (by show 2 * 0 + _ ≤ _; rw [Nat.mul_zero, Nat.zero_add]; exact hW) (hb C.2.1 hd) (fun _ _ => ⟨rfl, e0, by show (a + 2 * u) + crm.cells ≤ R.cells; omega, by show (b + M * u) + crm.slots ≤ R.slots; omega⟩)
  dsimp only [Pt.U, Pt.locs, Pt.cells, Pt.slots] at X' l1 l2 l3 st' hq hS2 hgr hC2 hN
  subst l1 l2 l3
  have hgr' : h.size ≤ T'.heap.size := by rw [← e0]; exact hgr
  have C2 : Cx p (s.setVm T'.vm) m meth c Z own bytes ml rt nm := ⟨C.1, C.2.1, State.Warmed39.trans (t := s.setVm vm0) C.2.2.1 hS2.1, (hS2.1.alike.findClass _ _).trans C.2.2.2.1, C.2.2.2.2⟩
  obtain ⟨s2, z, L, q, r⟩ := K T'.vm T'.heap.size v T'.heap (u + w) C2 (HS.trans hS2 (Nat.le_trans HK hgr')) (Nat.le_refl _) (HC.trans hC2) hC2 (by omega) (by omega) hq.1 T' _ (X'.more (by omega) (by rw [Nat.mul_add]; omega)) rfl (Fr.app N hq.2)
  exact ⟨s2, z, L, st'.trans q, r⟩
theorem ad {a d k n : Nat} (q : a + k = n) : (a + d) + k = n + d := by omega
theorem leA {a B R : Nat} {u : Nat} (hu : u ≤ B) (q : a + 2 * B ≤ R) : a + 2 * u ≤ R := by omega
theorem leM {a B R M : Nat} {u : Nat} (hu : u ≤ B) (q : a + M * B ≤ R) : a + M * u ≤ R := Nat.le_trans (Nat.add_le_add_left (Nat.mul_le_mul_left M hu) a) q
theorem w_norm {cells slots pc : Nat} {Ls : Array Slot} {st st' : List Value} (q : st = st') (K : Wp p l e R s m args below meth c n0 EE Q h cells slots (mkF m pc Ls st')) : Wp p l e R s m args below meth c n0 EE Q h cells slots (mkF m pc Ls st) := by subst q; exact K
theorem safeAr {vm : Vm} {x : Addr} {ty : FieldType} {vs : List Value} (hal : Z.vm.Alike vm) (A : Ar Z h x ty vs) (ht : ty ≠ .byte) : Safe Z EL vm h x := by obtain ⟨cl, A, -⟩ := A; exact Safe.arr hal A ht
theorem w_inst {cells slots : Nat} (C : Cx p s m meth c Z own bytes ml rt nm) {pc pc' : Nat} {Ls : Array Slot} {st : List Value} {x : Addr} {Cl : String} {i : Nat} (w : (Jvm.Cond.classLink own i Cl).before a0 Z = true) (hd : decode bytes pc = .ok (.instanceof i, 3)) (hp : pc + 3 = pc') (F : Exa Z h x Cl) (K : Wp p l e R s m args below meth c n0 EE Q h cells slots (mkF m pc' Ls (.int 1 :: st))) :
    Wp p l e R s m args below meth c n0 EE Q h cells slots (mkF m pc Ls (.ref x :: st)) := by
  subst hp
  exact Wp.law (fun T locs X e0 => instY X C.1 C.2.2.1 C.2.2.2.1 w e0 (Ins.self F) (g := mkF m pc Ls (.ref x :: st)) rfl rfl (hb C.2.1 hd)) K
theorem w_cast {cells slots : Nat} (C : Cx p s m meth c Z own bytes ml rt nm) {pc pc' : Nat} {Ls : Array Slot} {st : List Value} {x : Addr} {Cl : String} {i : Nat} (w : (Jvm.Cond.classLink own i Cl).before a0 Z = true) (hd : decode bytes pc = .ok (.checkcast i, 3)) (hp : pc + 3 = pc') (F : Exa Z h x Cl) (K : Wp p l e R s m args below meth c n0 EE Q h cells slots (mkF m pc' Ls (.ref x :: st))) :
    Wp p l e R s m args below meth c n0 EE Q h cells slots (mkF m pc Ls (.ref x :: st)) := by
  subst hp
  exact Wp.law (fun T locs X e0 => castY X C.1 C.2.2.1 C.2.2.2.1 w e0 (Ins.self F) (g := mkF m pc Ls (.ref x :: st)) rfl rfl (hb C.2.1 hd)) K
end RulesH
section FactsH
variable {Z : State} {h h' : Heap} {a b y : Addr} {Cl n d : String} {v w : Value} {ws : List Addr} {sl : Nat} {ty : FieldType} {vs : List Value}
/-- a String of Latin-1 signs whose bytes lie in y -/
def StrO (Z : State) (h : Heap) (a y : Addr) : Prop := Exa Z h a "java/lang/String" ∧ Fld Z h a "java/lang/String" "coder" "B" (.int 0) ∧ Fld Z h a "java/lang/String" "value" "[B" (.ref y)
theorem StrO.lt (O : StrO Z h a y) : a < h.size := O.1.lt
theorem StrO.ext (O : StrO Z h a y) (E : Ext h h') : StrO Z h' a y := ⟨O.1.ext E, O.2.1.ext E, O.2.2.ext E⟩
theorem StrO.keep (O : StrO Z h a y) (K : Keep h h' ws) (q : a ∉ ws) : StrO Z h' a y := ⟨O.1.keep K, O.2.1.keep K q, O.2.2.keep K q⟩
theorem StrO.other (O : StrO Z h a y) (W : Wr h h' b sl w) (q : a ≠ b) : StrO Z h' a y := ⟨O.1.wr W, O.2.1.other W (Or.inl q), O.2.2.other W (Or.inl q)⟩
/-- no statics' cell lies in ws -/
def NoSt (h : Heap) (ws : List Addr) : Prop := ∀ x ∈ ws, ∀ cell : Cell, h[x]? = some cell → cell.vm.isStatics = false
theorem nt0 : NoSt h [] := fun _ q => nomatch q
theorem ntS (q : ∀ cell : Cell, h[a]? = some cell → cell.vm.isStatics = false) (r : NoSt h ws) : NoSt h (a :: ws) := fun x z => by
  rcases List.mem_cons.mp z with rfl | z
  · exact q
  · exact r x z
theorem ntE (E : Exa Z h a Cl) : ∀ cell : Cell, h[a]? = some cell → cell.vm.isStatics = false := fun cell q => by
  obtain ⟨c', k, h1, -, -, h4, -⟩ := E; cases q.symm.trans h1; exact h4
theorem ntA (A : Ar Z h a ty vs) : ∀ cell : Cell, h[a]? = some cell → cell.vm.isStatics = false := fun cell q => by
  obtain ⟨cl, ⟨h1, ⟨h2, -⟩, -⟩, -⟩ := A; cases q.symm.trans h1
  cases g : cell.vm <;> first | rfl | exact absurd g (h2 _)
theorem staKeep (K : Keep h h' ws) (ns : NoSt h ws) (F : Sta Z h Cl n d w) : Sta Z h' Cl n d w := by
  obtain ⟨cf, i, k, f, st, cell, h1, h2, h3, h4, h5, h6, h7⟩ := F
  refine ⟨cf, i, k, f, st, cell, h1, h2, h3, h4, K.2.1 _ _ h5 (fun q => ?_), h6, h7⟩
  rw [ns st q cell h5] at h6; cases h6
theorem exa_ne {C1 C2 : String} (A : Exa Z h a C1) (B : Exa Z h b C2) (q : C1 ≠ C2) : a ≠ b := by
  rintro rfl
  obtain ⟨c1, k1, h1, h2, -⟩ := A
  obtain ⟨c2, k2, g1, g2, -⟩ := B
  cases h1.symm.trans g1
  obtain ⟨k1, q1, q2⟩ := Vm.findClass_spec h2
  obtain ⟨k2, q3, q4⟩ := Vm.findClass_spec g2
  cases q1.symm.trans q3
  exact q (q2.symm.trans q4)
theorem exa_ar_ne {i : Nat} {a0 : Array Value} (wi : (Jvm.Cond.instantiable Cl i).before a0 Z = true) (A : Exa Z h a Cl) (B : Ar Z h b ty vs) : a ≠ b := by
  rintro rfl
  obtain ⟨c1, k1, h1, h2, h3, -⟩ := A
  obtain ⟨cl, ⟨g1, ⟨-, k2, g2, comp, g3⟩, -⟩, -⟩ := B
  cases h1.symm.trans g1
  obtain ⟨c, k, hc, hk, hkind, -⟩ := Cond.instantiable_spec wi
  cases h2.symm.trans hc
  cases g2.symm.trans hk
  rw [hkind] at g3; cases g3
theorem fld_det (A : Fld Z h a Cl n d v) (B : Fld Z h a Cl n d w) : v = w := by
  obtain ⟨c1, cf, k, i, f, h1, h2, -, -, -, -, h3⟩ := A
  obtain ⟨c2, cf', k', i', f', g1, g2, -, -, -, -, g3⟩ := B
  cases h1.symm.trans g1
  cases h2.symm.trans g2
  exact Option.some.inj (h3.symm.trans g3)
theorem ar_det {ty' : FieldType} {vs' : List Value} (A : Ar Z h a ty vs) (B : Ar Z h a ty' vs') : vs = vs' := by
  obtain ⟨c1, ⟨h1, -⟩, e1⟩ := A
  obtain ⟨c2, ⟨g1, -⟩, e2⟩ := B
  cases h1.symm.trans g1
  rw [e1] at e2; simpa using e2
theorem str_det {y' : Addr} (A : StrO Z h a y) (B : StrO Z h a y') : y = y' := by
  have q := fld_det A.2.2 B.2.2
  cases q; rfl
end FactsH
end Jvm.Own

namespace Jvm.Pilot.@@N@@
open Jvm Jvm.ClassFile Sem Op Lib Jvm.Free Jvm.Stand Jvm.LawKit Jvm.RoadKit Jvm.Own Bundle Jvm.Pilot.@@N@@.Jvm.D
theorem tw {tabs : List Jvm.Cond} {a0 : Array Value} {Z : State} (hw : ∀ d ∈ tabs, d.before a0 Z = true) (i : Nat) {d : Jvm.Cond} (h : tabs[i]? = some d) : d.before a0 Z = true := hw _ (List.mem_of_getElem? h)
theorem pd_0 : parseMethodDescriptor "([B[B)Z" = some ⟨[(.array .byte), (.array .byte)], some .boolean⟩ := by decide +kernel
theorem pd_1 : parseMethodDescriptor "(Ljava/lang/Object;)Z" = some ⟨[(.object "java/lang/Object")], some .boolean⟩ := by decide +kernel
theorem pd_2 : parseMethodDescriptor "()V" = some ⟨[], none⟩ := by decide +kernel
theorem pd_3 : parseMethodDescriptor "(I)Ljava/lang/String;" = some ⟨[.int], some (.object "java/lang/String")⟩ := by decide +kernel
theorem pd_4 : parseMethodDescriptor "(Ljava/lang/String;Ljava/lang/String;)Z" = some ⟨[(.object "java/lang/String"), (.object "java/lang/String")], some .boolean⟩ := by decide +kernel
theorem pd_5 : parseMethodDescriptor "()Z" = some ⟨[], some .boolean⟩ := by decide +kernel
theorem obj_CT {Z : State} {a0 : Array Value} (hw : ∀ d ∈ tables_1, d.before a0 Z = true) {h : Heap} {a : Addr} (A : Exa Z h a "com/example/fedlint/fedlint/CertificateText") (D : ∀ {O nm d : String} {ty : FieldType}, Laid Z a0 "com/example/fedlint/fedlint/CertificateText" O nm d → parseFieldDescriptor d = some ty → Fld Z h a O nm d (defaultValue ty)) :
    Obj Z h a "com/example/fedlint/fedlint/CertificateText" [("depth", "I", .int (0 : Int32)), ("certificateDepth", "I", .int (0 : Int32)), ("kept", "I", .int (0 : Int32))] := by
  refine ⟨A, fun i f q => ?_, fun i j f g q r z => ?_⟩
  · match i, q with
    | 0, q => cases q; exact D (Or.inl (tw hw 31 rfl)) (ty := .int) (by decide)
    | 1, q => cases q; exact D (Or.inl (tw hw 33 rfl)) (ty := .int) (by decide)
    | 2, q => cases q; exact D (Or.inl (tw hw 42 rfl)) (ty := .int) (by decide)
    | (k + 3), q => simp at q
  · match i, j, q, r, z with
    | 0, 0, q, r, z => exact absurd rfl z
    | 0, 1, q, r, z => cases q; cases r; exact slot_ne (C := "com/example/fedlint/fedlint/CertificateText") (Or.inl (tw hw 31 rfl)) (Or.inl (tw hw 33 rfl)) (by decide) (t := .int) (t' := .int) (by decide) (by decide)
    | 0, 2, q, r, z => cases q; cases r; exact slot_ne (C := "com/example/fedlint/fedlint/CertificateText") (Or.inl (tw hw 31 rfl)) (Or.inl (tw hw 42 rfl)) (by decide) (t := .int) (t' := .int) (by decide) (by decide)
    | 1, 0, q, r, z => cases q; cases r; exact slot_ne (C := "com/example/fedlint/fedlint/CertificateText") (Or.inl (tw hw 33 rfl)) (Or.inl (tw hw 31 rfl)) (by decide) (t := .int) (t' := .int) (by decide) (by decide)
    | 1, 1, q, r, z => exact absurd rfl z
    | 1, 2, q, r, z => cases q; cases r; exact slot_ne (C := "com/example/fedlint/fedlint/CertificateText") (Or.inl (tw hw 33 rfl)) (Or.inl (tw hw 42 rfl)) (by decide) (t := .int) (t' := .int) (by decide) (by decide)
    | 2, 0, q, r, z => cases q; cases r; exact slot_ne (C := "com/example/fedlint/fedlint/CertificateText") (Or.inl (tw hw 42 rfl)) (Or.inl (tw hw 31 rfl)) (by decide) (t := .int) (t' := .int) (by decide) (by decide)
    | 2, 1, q, r, z => cases q; cases r; exact slot_ne (C := "com/example/fedlint/fedlint/CertificateText") (Or.inl (tw hw 42 rfl)) (Or.inl (tw hw 33 rfl)) (by decide) (t := .int) (t' := .int) (by decide) (by decide)
    | 2, 2, q, r, z => exact absurd rfl z
    | (k + 3), j, q, r, z => simp at q
    | 0, (k + 3), q, r, z => simp at r
    | 1, (k + 3), q, r, z => simp at r
    | 2, (k + 3), q, r, z => simp at r
def EL : List (String × Nat) := [("com/example/fedlint/fedlint/CertificateText", 24), ("com/example/fedlint/fedlint/CertificateText", 32), ("com/example/fedlint/fedlint/CertificateTextEndPinLaw", 7), ("com/example/fedlint/fedlint/CertificateTextEndPinLaw", 9), ("com/example/fedlint/fedlint/CertificateTextEndPinLaw", 11), ("com/example/fedlint/fedlint/CertificateTextEndPinLaw", 13), ("com/example/fedlint/fedlint/CertificateTextEndPinLaw", 15)]
def bs_0 : List Int32 := [104, 116, 116, 112, 58, 47, 47, 119, 119, 119, 46, 119, 51, 46, 111, 114, 103, 47, 50, 48, 48, 48, 47, 48, 57, 47, 120, 109, 108, 100, 115, 105, 103, 35]
def lz_0 : Int32 := 34
theorem ht_0 : (∀ c ∈ "http://www.w3.org/2000/09/xmldsig#".toList, c.toNat < 256) ∧ "http://www.w3.org/2000/09/xmldsig#".toList.map (fun c => Value.int (Jvm.Lit.byteI c.toNat.toUInt16)) = bs_0.map Value.int := by decide +kernel
theorem hz_0 : ¬ lz_0 < 0 := by decide +kernel
theorem hl_0 : lz_0.toNatClampNeg = (bs_0.map Value.int).length := by decide +kernel
theorem hn_0 : 4 * "http://www.w3.org/2000/09/xmldsig#".toList.length + 4 ≤ 160 := by decide +kernel
theorem mem_0 : ("com/example/fedlint/fedlint/CertificateText", 24) ∈ EL := by simp [EL]
theorem hb_0 : bs_0.length = 34 := by decide +kernel
def bs_1 : List Int32 := [88, 53, 48, 57, 67, 101, 114, 116, 105, 102, 105, 99, 97, 116, 101]
def lz_1 : Int32 := 15
theorem ht_1 : (∀ c ∈ "X509Certificate".toList, c.toNat < 256) ∧ "X509Certificate".toList.map (fun c => Value.int (Jvm.Lit.byteI c.toNat.toUInt16)) = bs_1.map Value.int := by decide +kernel
theorem hz_1 : ¬ lz_1 < 0 := by decide +kernel
theorem hl_1 : lz_1.toNatClampNeg = (bs_1.map Value.int).length := by decide +kernel
theorem hn_1 : 4 * "X509Certificate".toList.length + 4 ≤ 160 := by decide +kernel
theorem mem_1 : ("com/example/fedlint/fedlint/CertificateText", 32) ∈ EL := by simp [EL]
theorem hb_1 : bs_1.length = 15 := by decide +kernel
def bs_2 : List Int32 := [104, 116, 116, 112, 58, 47, 47, 119, 119, 119, 46, 119, 51, 46, 111, 114, 103, 47, 50, 48, 48, 48, 47, 48, 57, 47, 120, 109, 108, 100, 115, 105, 103, 45, 109, 111, 114, 101, 35]
def lz_2 : Int32 := 39
theorem ht_2 : (∀ c ∈ "http://www.w3.org/2000/09/xmldsig-more#".toList, c.toNat < 256) ∧ "http://www.w3.org/2000/09/xmldsig-more#".toList.map (fun c => Value.int (Jvm.Lit.byteI c.toNat.toUInt16)) = bs_2.map Value.int := by decide +kernel
theorem hz_2 : ¬ lz_2 < 0 := by decide +kernel
theorem hl_2 : lz_2.toNatClampNeg = (bs_2.map Value.int).length := by decide +kernel
theorem hn_2 : 4 * "http://www.w3.org/2000/09/xmldsig-more#".toList.length + 4 ≤ 160 := by decide +kernel
theorem mem_2 : ("com/example/fedlint/fedlint/CertificateTextEndPinLaw", 7) ∈ EL := by simp [EL]
theorem hb_2 : bs_2.length = 39 := by decide +kernel
def bs_3 : List Int32 := []
def lz_3 : Int32 := 0
theorem ht_3 : (∀ c ∈ "".toList, c.toNat < 256) ∧ "".toList.map (fun c => Value.int (Jvm.Lit.byteI c.toNat.toUInt16)) = bs_3.map Value.int := by decide +kernel
theorem hz_3 : ¬ lz_3 < 0 := by decide +kernel
theorem hl_3 : lz_3.toNatClampNeg = (bs_3.map Value.int).length := by decide +kernel
theorem hn_3 : 4 * "".toList.length + 4 ≤ 160 := by decide +kernel
theorem mem_3 : ("com/example/fedlint/fedlint/CertificateTextEndPinLaw", 9) ∈ EL := by simp [EL]
theorem hb_3 : bs_3.length = 0 := by decide +kernel
def bs_4 : List Int32 := [104, 116, 116, 112, 58, 47, 47, 119, 119, 119, 46, 119, 51, 46, 111, 114, 103, 47, 50, 48, 48, 48, 47, 48, 57, 47, 120, 109, 108, 100, 115, 105, 103, 35]
def lz_4 : Int32 := 34
theorem ht_4 : (∀ c ∈ "http://www.w3.org/2000/09/xmldsig#".toList, c.toNat < 256) ∧ "http://www.w3.org/2000/09/xmldsig#".toList.map (fun c => Value.int (Jvm.Lit.byteI c.toNat.toUInt16)) = bs_4.map Value.int := by decide +kernel
theorem hz_4 : ¬ lz_4 < 0 := by decide +kernel
theorem hl_4 : lz_4.toNatClampNeg = (bs_4.map Value.int).length := by decide +kernel
theorem hn_4 : 4 * "http://www.w3.org/2000/09/xmldsig#".toList.length + 4 ≤ 160 := by decide +kernel
theorem mem_4 : ("com/example/fedlint/fedlint/CertificateTextEndPinLaw", 11) ∈ EL := by simp [EL]
theorem hb_4 : bs_4.length = 34 := by decide +kernel
def bs_5 : List Int32 := [88, 53, 48, 57, 68, 97, 116, 97]
def lz_5 : Int32 := 8
theorem ht_5 : (∀ c ∈ "X509Data".toList, c.toNat < 256) ∧ "X509Data".toList.map (fun c => Value.int (Jvm.Lit.byteI c.toNat.toUInt16)) = bs_5.map Value.int := by decide +kernel
theorem hz_5 : ¬ lz_5 < 0 := by decide +kernel
theorem hl_5 : lz_5.toNatClampNeg = (bs_5.map Value.int).length := by decide +kernel
theorem hn_5 : 4 * "X509Data".toList.length + 4 ≤ 160 := by decide +kernel
theorem mem_5 : ("com/example/fedlint/fedlint/CertificateTextEndPinLaw", 13) ∈ EL := by simp [EL]
theorem hb_5 : bs_5.length = 8 := by decide +kernel
def bs_6 : List Int32 := [88, 53, 48, 57, 67, 101, 114, 116, 105, 102, 105, 99, 97, 116, 101]
def lz_6 : Int32 := 15
theorem ht_6 : (∀ c ∈ "X509Certificate".toList, c.toNat < 256) ∧ "X509Certificate".toList.map (fun c => Value.int (Jvm.Lit.byteI c.toNat.toUInt16)) = bs_6.map Value.int := by decide +kernel
theorem hz_6 : ¬ lz_6 < 0 := by decide +kernel
theorem hl_6 : lz_6.toNatClampNeg = (bs_6.map Value.int).length := by decide +kernel
theorem hn_6 : 4 * "X509Certificate".toList.length + 4 ≤ 160 := by decide +kernel
theorem mem_6 : ("com/example/fedlint/fedlint/CertificateTextEndPinLaw", 15) ∈ EL := by simp [EL]
theorem hb_6 : bs_6.length = 15 := by decide +kernel
theorem hEL_ok {Z : State} {a0 : Array Value} (hw : ∀ d ∈ tables_1, d.before a0 Z = true) : EW Z a0 EL := (EW.cons (tw hw 34 rfl) ht_0.1 (EW.cons (tw hw 40 rfl) ht_1.1 (EW.cons (tw hw 64 rfl) ht_2.1 (EW.cons (tw hw 53 rfl) ht_3.1 (EW.cons (tw hw 13 rfl) ht_4.1 (EW.cons (tw hw 63 rfl) ht_5.1 (EW.cons (tw hw 24 rfl) ht_6.1 EW.nil)))))))
theorem wS_ok {Z : State} {a0 : Array Value} (hw : ∀ d ∈ tables_1, d.before a0 Z = true) : ∀ a ∈ Bundle.stringAtoms, a.before a0 Z = true := fun c hc => hw c (by simpa using (List.all_eq_true.mp (by decide +kernel : (Bundle.stringAtoms.all fun c => tables_1.contains c) = true)) c hc)
def chAt (bs : List Int32) (i : Int32) : Int32 := toCh (toCh (toCh ((bs.getD i.toNatClampNeg 0) &&& 255)))
theorem map_at {bs : List Int32} {k : Nat} (q : k < bs.length) : (bs.map Value.int)[k]? = some (.int (bs.getD k 0)) := by
  rw [List.getElem?_map, List.getElem?_eq_getElem q, List.getD_eq_getElem?_getD, List.getElem?_eq_getElem q]; rfl
theorem clamp_lt {i : Int32} {k : Nat} (hi : ¬ i < 0) (q : i.toNatClampNeg < k) (hk : k ≤ 1000) : i < k.toInt32 := by
  rw [Int32.lt_iff_toInt_lt] at hi ⊢
  have e : k.toInt32.toInt = (k : Int) := by
    show (Int32.ofNat k).toInt = _
    exact Int32.toInt_ofNat_of_lt (by omega)
  rw [e]
  have e0 : (0 : Int32).toInt = 0 := by decide
  rw [e0] at hi
  have : i.toNatClampNeg = i.toInt.toNat := rfl
  omega
theorem on_int {k : Nat} (h : k ≤ 2000) : (Int32.ofNat k).toInt = (k : Int) := Int32.toInt_ofNat_of_lt (by omega)
theorem on_nn {k : Nat} (h : k ≤ 2000) : ¬ Int32.ofNat k < 0 := by
  rw [Int32.lt_iff_toInt_lt, on_int h, show (0 : Int32).toInt = 0 by decide]; omega
theorem on_nat {k : Nat} (h : k ≤ 2000) : (Int32.ofNat k).toNatClampNeg = k := by
  show (Int32.ofNat k).toInt.toNat = k
  rw [on_int h]; omega
theorem on_lt {k j : Nat} (hk : k ≤ 2000) (hj : j ≤ 2000) : (Int32.ofNat k < Int32.ofNat j) ↔ k < j := by
  rw [Int32.lt_iff_toInt_lt, on_int hk, on_int hj]; omega
theorem on_succ (k : Nat) : Int32.ofNat k + 1 = Int32.ofNat (k + 1) := (Int32.ofNat_add k 1).symm
theorem on_inj {k j : Nat} (hk : k ≤ 2000) (hj : j ≤ 2000) (e : Int32.ofNat k = Int32.ofNat j) : k = j := by
  have := congrArg Int32.toInt e
  rw [on_int hk, on_int hj] at this; omega
def eqV (us vs : List Int32) : Int32 := if us = vs then 1 else 0
theorem eqV_len {us vs : List Int32} (q : ¬ Int32.ofNat us.length = Int32.ofNat vs.length) : eqV us vs = 0 := if_neg (fun e => q (by rw [e]))
theorem eqV_at {us vs : List Int32} {k : Nat} (q : ¬ us.getD k 0 = vs.getD k 0) : eqV us vs = 0 := if_neg (fun e => q (by rw [e]))
theorem eqV_all {us vs : List Int32} {k : Nat} (hl : us.length = vs.length) (hk : ¬ k < us.length) (pre : ∀ j, j < k → us.getD j 0 = vs.getD j 0) : eqV us vs = 1 := if_pos (by
  apply List.ext_getElem hl
  intro j h1 h2
  have := pre j (by omega)
  rwa [List.getD_eq_getElem?_getD, List.getD_eq_getElem?_getD, List.getElem?_eq_getElem h1, List.getElem?_eq_getElem h2] at this)
theorem eqV_ne {us vs : List Int32} (q : ¬ eqV us vs = 0) : eqV us vs = 1 := by
  unfold eqV at *; split
  · rfl
  · rename_i h; rw [if_neg h] at q; exact absurd rfl q
theorem pre_ext {us vs : List Int32} {k : Nat} (pre : ∀ j, j < k → us.getD j 0 = vs.getD j 0) (q : us.getD k 0 = vs.getD k 0) : ∀ j, j < k + 1 → us.getD j 0 = vs.getD j 0 := fun j hj => by
  rcases Nat.lt_or_ge j k with z | z
  · exact pre j z
  · obtain rfl : j = k := by omega
    exact q
theorem mapI_inj {us vs : List Int32} (e : us.map Value.int = vs.map Value.int) : us = vs := by
  have := congrArg (List.map (fun v : Value => match v with | .int x => x | _ => 0)) e
  simpa [List.map_map, Function.comp_def] using this
theorem d9_0 : decode jdk_43_method_13_code 0 = .ok (.aload_n 0, 1) := by decide +kernel
theorem d9_1 : decode jdk_43_method_13_code 1 = .ok (.arraylength, 1) := by decide +kernel
theorem d9_2 : decode jdk_43_method_13_code 2 = .ok (.aload_n 1, 1) := by decide +kernel
theorem d9_3 : decode jdk_43_method_13_code 3 = .ok (.arraylength, 1) := by decide +kernel
theorem d9_4 : decode jdk_43_method_13_code 4 = .ok (.if_icmp .ne 30, 3) := by decide +kernel
theorem d9_7 : decode jdk_43_method_13_code 7 = .ok (.iconst 0, 1) := by decide +kernel
theorem d9_8 : decode jdk_43_method_13_code 8 = .ok (.istore_n 2, 1) := by decide +kernel
theorem d9_9 : decode jdk_43_method_13_code 9 = .ok (.iload_n 2, 1) := by decide +kernel
theorem d9_10 : decode jdk_43_method_13_code 10 = .ok (.aload_n 0, 1) := by decide +kernel
theorem d9_11 : decode jdk_43_method_13_code 11 = .ok (.arraylength, 1) := by decide +kernel
theorem d9_12 : decode jdk_43_method_13_code 12 = .ok (.if_icmp .ge 20, 3) := by decide +kernel
theorem d9_15 : decode jdk_43_method_13_code 15 = .ok (.aload_n 0, 1) := by decide +kernel
theorem d9_16 : decode jdk_43_method_13_code 16 = .ok (.iload_n 2, 1) := by decide +kernel
theorem d9_17 : decode jdk_43_method_13_code 17 = .ok (.baload, 1) := by decide +kernel
theorem d9_18 : decode jdk_43_method_13_code 18 = .ok (.aload_n 1, 1) := by decide +kernel
theorem d9_19 : decode jdk_43_method_13_code 19 = .ok (.iload_n 2, 1) := by decide +kernel
theorem d9_20 : decode jdk_43_method_13_code 20 = .ok (.baload, 1) := by decide +kernel
theorem d9_21 : decode jdk_43_method_13_code 21 = .ok (.if_icmp .eq 5, 3) := by decide +kernel
theorem d9_24 : decode jdk_43_method_13_code 24 = .ok (.iconst 0, 1) := by decide +kernel
theorem d9_25 : decode jdk_43_method_13_code 25 = .ok (.ireturn, 1) := by decide +kernel
theorem d9_26 : decode jdk_43_method_13_code 26 = .ok (.iinc 2 1, 3) := by decide +kernel
theorem d9_29 : decode jdk_43_method_13_code 29 = .ok (.goto (-20), 3) := by decide +kernel
theorem d9_32 : decode jdk_43_method_13_code 32 = .ok (.iconst 1, 1) := by decide +kernel
theorem d9_33 : decode jdk_43_method_13_code 33 = .ok (.ireturn, 1) := by decide +kernel
theorem d9_34 : decode jdk_43_method_13_code 34 = .ok (.iconst 0, 1) := by decide +kernel
theorem d9_35 : decode jdk_43_method_13_code 35 = .ok (.ireturn, 1) := by decide +kernel
def rm_lequals : Room := { frames := 0, cells := 0, slots := 0, locals := 0 }
theorem pf_lequals : plainFor (⟨"java/lang/StringLatin1", "equals", "([B[B)Z"⟩ : MethodName) = true := plainFor_of_name (by first | (simp [plainName, overriddenIn]; done) | decide +kernel)
set_option maxRecDepth 65536 in
set_option maxHeartbeats 40000000 in
theorem ct_lequals {l : Launch} {Z : State} {a0 : Array Value} (hw : ∀ d ∈ tables_1, d.before a0 Z = true) (h0 : Heap) (n0 : Nat) (y1 : Addr) (y2 : Addr) (us : List Int32) (vs : List Int32) (hbu : us.length ≤ 1000) (hbv : vs.length ≤ 1000) (O_y1 : Ar Z h0 y1 .byte (us.map Value.int)) (O_y2 : Ar Z h0 y2 .byte (vs.map Value.int)) :
    Ct l Z (⟨"java/lang/StringLatin1", "equals", "([B[B)Z"⟩ : MethodName) jdk_43_method_13_code 3 (Option.some Jvm.ClassFile.FieldType.boolean) [] rm_lequals #[.ref y1, .ref y2] h0 n0 (fun v h => v = some (.int (eqV us vs)) ∧ h = h0) := by
  refine Ct.of (Ls := #[.val (.ref y1), .val (.ref y2), .unset]) pf_lequals (fun m => by first | (simp [entryFrame, mkF, argsToLocals, Value.category, maxLocals]; done) | (cases fv <;> first | (simp [Value.isRef] at hfv; done) | (simp [entryFrame, mkF, argsToLocals, Value.category]; done) | rfl) | rfl) ?_
  intro p e s m below meth c C
  have L9 : us.length = vs.length → ∀ (n k : Nat), k + n = us.length → (∀ j, j < k → us.getD j 0 = vs.getD j 0) → Wp p l e rm_lequals s m #[.ref y1, .ref y2] below meth c n0 (EN s rm_lequals.cells rm_lequals.slots) (fun v h => v = some (.int (eqV us vs)) ∧ h = h0) h0 0 0 (mkF m 9 #[.val (.ref y1), .val (.ref y2), .val (.int (Int32.ofNat k))] []) := by
    intro hl n
    induction n using Nat.strongRecOn with
    | _ n ih =>
      intro k hkn pre
      refine w_iloadN (pc' := 10) C d9_9 rfl rfl ?_
      refine w_aloadN (pc' := 11) C d9_10 rfl rfl rfl ?_
      refine wA_alen (pc' := 12) (n := (Int32.ofNat us.length)) C d9_11 rfl O_y1 (by rw [List.length_map]) ?_
      refine w_icmp_ge (pcT := 32) (pcF := 15) C d9_12 (by decide) (by decide) rfl (fun q12_1 => ?_) (fun q12_1 => ?_)
      · skip
        refine w_iconst (pc' := 33) (x := (1 : Int32)) C d9_32 rfl rfl ?_
        refine w_retN' (t := .boolean) (z' := (1 : Int32)) C rfl (by simp) d9_33 (closeN (by decide) (by decide)) narB1 ?_
        exact ⟨congrArg (fun z => some (Value.int z)) (eqV_all hl (fun z => q12_1 ((on_lt (by omega) (by omega)).mpr z)) pre).symm, rfl⟩
      · skip
        have kl : k < us.length := (on_lt (by omega) (by omega)).mp q12_1
        refine w_aloadN (pc' := 16) C d9_15 rfl rfl rfl ?_
        refine w_iloadN (pc' := 17) C d9_16 rfl rfl ?_
        refine wA_baload (pc' := 18) (v := .int (us.getD k 0)) C d9_17 rfl O_y1 (on_nn (by omega)) (by rw [on_nat (by omega)]; exact map_at (by omega)) ?_
        refine w_aloadN (pc' := 19) C d9_18 rfl rfl rfl ?_
        refine w_iloadN (pc' := 20) C d9_19 rfl rfl ?_
        refine wA_baload (pc' := 21) (v := .int (vs.getD k 0)) C d9_20 rfl O_y2 (on_nn (by omega)) (by rw [on_nat (by omega)]; exact map_at (by omega)) ?_
        refine w_icmp_eq (pcT := 26) (pcF := 24) C d9_21 (by decide) (by decide) rfl (fun q21_2 => ?_) (fun q21_2 => ?_)
        · skip
          refine w_iinc (pc' := 29) (Ls' := #[.val (.ref y1), .val (.ref y2), .val (.int ((Int32.ofNat k) + (1 : Int32)))]) C d9_26 rfl rfl rfl ?_
          refine w_goto (pc' := 9) C d9_29 (by decide) (by decide) ?_
          rw [on_succ k]
          exact ih (n - 1) (by omega) (k + 1) (by omega) (pre_ext pre q21_2)
        · skip
          refine w_iconst (pc' := 25) (x := (0 : Int32)) C d9_24 rfl rfl ?_
          refine w_retN' (t := .boolean) (z' := (0 : Int32)) C rfl (by simp) d9_25 (closeN (by decide) (by decide)) narB0 ?_
          exact ⟨congrArg (fun z => some (Value.int z)) (eqV_at q21_2).symm, rfl⟩
  refine w_aloadN (pc' := 1) C d9_0 rfl rfl rfl ?_
  refine wA_alen (pc' := 2) (n := (Int32.ofNat us.length)) C d9_1 rfl O_y1 (by rw [List.length_map]) ?_
  refine w_aloadN (pc' := 3) C d9_2 rfl rfl rfl ?_
  refine wA_alen (pc' := 4) (n := (Int32.ofNat vs.length)) C d9_3 rfl O_y2 (by rw [List.length_map]) ?_
  refine w_icmp_ne (pcT := 34) (pcF := 7) C d9_4 (by decide) (by decide) rfl (fun q4_3 => ?_) (fun q4_3 => ?_)
  · skip
    refine w_iconst (pc' := 35) (x := (0 : Int32)) C d9_34 rfl rfl ?_
    refine w_retN' (t := .boolean) (z' := (0 : Int32)) C rfl (by simp) d9_35 (closeN (by decide) (by decide)) narB0 ?_
    exact ⟨congrArg (fun z => some (Value.int z)) (eqV_len q4_3).symm, rfl⟩
  · skip
    refine w_iconst (pc' := 8) (x := (0 : Int32)) C d9_7 rfl rfl ?_
    refine w_istoreN (pc' := 9) (Ls' := #[.val (.ref y1), .val (.ref y2), .val (.int (0 : Int32))]) C d9_8 rfl rfl ?_
    exact L9 (on_inj (by omega) (by omega) q4_3) us.length 0 (by omega) (fun j z => absurd z (Nat.not_lt_zero j))
theorem d6_0 : decode jdk_42_method_66_code 0 = .ok (.aload_n 0, 1) := by decide +kernel
theorem d6_1 : decode jdk_42_method_66_code 1 = .ok (.aload_n 1, 1) := by decide +kernel
theorem d6_2 : decode jdk_42_method_66_code 2 = .ok (.if_acmp .ne 5, 3) := by decide +kernel
theorem d6_5 : decode jdk_42_method_66_code 5 = .ok (.iconst 1, 1) := by decide +kernel
theorem d6_6 : decode jdk_42_method_66_code 6 = .ok (.ireturn, 1) := by decide +kernel
theorem d6_7 : decode jdk_42_method_66_code 7 = .ok (.aload_n 1, 1) := by decide +kernel
theorem d6_8 : decode jdk_42_method_66_code 8 = .ok (.instanceof 10, 3) := by decide +kernel
theorem d6_11 : decode jdk_42_method_66_code 11 = .ok (.ifCond .eq 43, 3) := by decide +kernel
theorem d6_14 : decode jdk_42_method_66_code 14 = .ok (.aload_n 1, 1) := by decide +kernel
theorem d6_15 : decode jdk_42_method_66_code 15 = .ok (.checkcast 10, 3) := by decide +kernel
theorem d6_18 : decode jdk_42_method_66_code 18 = .ok (.astore_n 2, 1) := by decide +kernel
theorem d6_19 : decode jdk_42_method_66_code 19 = .ok (.getstatic 38, 3) := by decide +kernel
theorem d6_22 : decode jdk_42_method_66_code 22 = .ok (.ifCond .eq 14, 3) := by decide +kernel
theorem d6_25 : decode jdk_42_method_66_code 25 = .ok (.aload_n 0, 1) := by decide +kernel
theorem d6_26 : decode jdk_42_method_66_code 26 = .ok (.getfield 15, 3) := by decide +kernel
theorem d6_29 : decode jdk_42_method_66_code 29 = .ok (.aload_n 2, 1) := by decide +kernel
theorem d6_30 : decode jdk_42_method_66_code 30 = .ok (.getfield 15, 3) := by decide +kernel
theorem d6_33 : decode jdk_42_method_66_code 33 = .ok (.if_icmp .ne 21, 3) := by decide +kernel
theorem d6_36 : decode jdk_42_method_66_code 36 = .ok (.aload_n 0, 1) := by decide +kernel
theorem d6_37 : decode jdk_42_method_66_code 37 = .ok (.getfield 9, 3) := by decide +kernel
theorem d6_40 : decode jdk_42_method_66_code 40 = .ok (.aload_n 2, 1) := by decide +kernel
theorem d6_41 : decode jdk_42_method_66_code 41 = .ok (.getfield 9, 3) := by decide +kernel
theorem d6_44 : decode jdk_42_method_66_code 44 = .ok (.invokestatic 541, 3) := by decide +kernel
theorem d6_47 : decode jdk_42_method_66_code 47 = .ok (.ifCond .eq 7, 3) := by decide +kernel
theorem d6_50 : decode jdk_42_method_66_code 50 = .ok (.iconst 1, 1) := by decide +kernel
theorem d6_51 : decode jdk_42_method_66_code 51 = .ok (.goto 4, 3) := by decide +kernel
theorem d6_54 : decode jdk_42_method_66_code 54 = .ok (.iconst 0, 1) := by decide +kernel
theorem d6_55 : decode jdk_42_method_66_code 55 = .ok (.ireturn, 1) := by decide +kernel
def rm_equals : Room := { frames := 1, cells := 0, slots := 0, locals := 14 }
theorem pf_equals : plainFor (⟨"java/lang/String", "equals", "(Ljava/lang/Object;)Z"⟩ : MethodName) = true := plainFor_of_name (by first | (simp [plainName, overriddenIn]; done) | decide +kernel)
set_option maxRecDepth 65536 in
set_option maxHeartbeats 40000000 in
theorem ct_equals {l : Launch} {Z : State} {a0 : Array Value} (hw : ∀ d ∈ tables_1, d.before a0 Z = true) (h0 : Heap) (n0 : Nat) (a : Addr) (b : Addr) (y1 : Addr) (y2 : Addr) (us : List Int32) (vs : List Int32) (zc : Int32) (hbu : us.length ≤ 1000) (hbv : vs.length ≤ 1000) (S_COMPACT_STRINGS : Sta Z h0 "java/lang/String" "COMPACT_STRINGS" "Z" (.int zc)) (O_a : StrO Z h0 a y1) (O_b : StrO Z h0 b y2) (O_y1 : Ar Z h0 y1 .byte (us.map Value.int)) (O_y2 : Ar Z h0 y2 .byte (vs.map Value.int)) :
    Ct l Z (⟨"java/lang/String", "equals", "(Ljava/lang/Object;)Z"⟩ : MethodName) jdk_42_method_66_code 3 (Option.some Jvm.ClassFile.FieldType.boolean) [] rm_equals #[.ref a, .ref b] h0 n0 (fun v h => v = some (.int (eqV us vs)) ∧ h = h0) := by
  refine Ct.of (Ls := #[.val (.ref a), .val (.ref b), .unset]) pf_equals (fun m => by first | (simp [entryFrame, mkF, argsToLocals, Value.category, maxLocals]; done) | (cases fv <;> first | (simp [Value.isRef] at hfv; done) | (simp [entryFrame, mkF, argsToLocals, Value.category]; done) | rfl) | rfl) ?_
  intro p e s m below meth c C
  refine w_aloadN (pc' := 1) C d6_0 rfl rfl rfl ?_
  refine w_aloadN (pc' := 2) C d6_1 rfl rfl rfl ?_
  refine w_acmp_ne (pcT := 7) (pcF := 5) C rfl rfl d6_2 (by decide) (by decide) rfl (fun q2 => ?_) (fun q2 => ?_)
  · skip
    refine w_aloadN (pc' := 8) C d6_7 rfl rfl rfl ?_
    refine w_inst (pc' := 11) C (tw hw 54 rfl) d6_8 rfl O_b.1 ?_
    refine w_if_eq (pcT := 54) (pcF := 14) C d6_11 (by decide) (by decide) rfl (fun q => absurd q (by decide)) (fun q11 => ?_)
    refine w_aloadN (pc' := 15) C d6_14 rfl rfl rfl ?_
    refine w_cast (pc' := 18) C (tw hw 54 rfl) d6_15 rfl O_b.1 ?_
    refine w_astoreN (pc' := 19) (Ls' := #[.val (.ref a), .val (.ref b), .val (.ref b)]) C d6_18 rfl rfl rfl ?_
    refine w_getS (pc' := 22) C (tw hw 56 rfl) d6_19 rfl S_COMPACT_STRINGS ?_
    refine w_if_eq (pcT := 36) (pcF := 25) C d6_22 (by decide) (by decide) rfl (fun q22 => ?_) (fun q22 => ?_)
    · skip
      refine w_aloadN (pc' := 37) C d6_36 rfl rfl rfl ?_
      refine w_getF (pc' := 40) C (tw hw 58 rfl) d6_37 rfl O_a.2.2 ?_
      refine w_aloadN (pc' := 41) C d6_40 rfl rfl rfl ?_
      refine w_getF (pc' := 44) C (tw hw 58 rfl) d6_41 rfl O_b.2.2 ?_
      refine w_callS (pc' := 47) (argsL := [.ref y1, .ref y2]) (st := []) (W := 0) (ce' := 0) (sl' := 0) C (tw hw 59 rfl) (tw hw 60 rfl) (tw hw 61 rfl) (tw hw 62 rfl) (by decide) d6_44 rfl rfl (by decide) (by decide) (Nat.le_of_eq rfl) rfl rfl (by decide) (by decide) rfl (lenOf pd_0 rfl) (ct_lequals hw h0 n0 y1 y2 us vs hbu hbv O_y1 O_y2) (kp ?_)
      refine w_if_eq (pcT := 54) (pcF := 50) C d6_47 (by decide) (by decide) rfl (fun q47 => ?_) (fun q47 => ?_)
      · skip
        refine w_iconst (pc' := 55) (x := (0 : Int32)) C d6_54 rfl rfl ?_
        refine w_retN' (t := .boolean) (z' := (0 : Int32)) C rfl (by simp) d6_55 (closeN (by decide) (by decide)) narB0 ?_
        exact ⟨congrArg (fun z => some (Value.int z)) (q47).symm, rfl⟩
      · skip
        refine w_iconst (pc' := 51) (x := (1 : Int32)) C d6_50 rfl rfl ?_
        refine w_goto (pc' := 55) C d6_51 (by decide) (by decide) ?_
        refine w_retN' (t := .boolean) (z' := (1 : Int32)) C rfl (by simp) d6_55 (closeN (by decide) (by decide)) narB1 ?_
        exact ⟨congrArg (fun z => some (Value.int z)) (eqV_ne q47).symm, rfl⟩
    · skip
      refine w_aloadN (pc' := 26) C d6_25 rfl rfl rfl ?_
      refine w_getF (pc' := 29) C (tw hw 57 rfl) d6_26 rfl O_a.2.1 ?_
      refine w_aloadN (pc' := 30) C d6_29 rfl rfl rfl ?_
      refine w_getF (pc' := 33) C (tw hw 57 rfl) d6_30 rfl O_b.2.1 ?_
      refine w_icmp_ne (pcT := 54) (pcF := 36) C d6_33 (by decide) (by decide) rfl (fun q => absurd q (by decide)) (fun q33 => ?_)
      refine w_aloadN (pc' := 37) C d6_36 rfl rfl rfl ?_
      refine w_getF (pc' := 40) C (tw hw 58 rfl) d6_37 rfl O_a.2.2 ?_
      refine w_aloadN (pc' := 41) C d6_40 rfl rfl rfl ?_
      refine w_getF (pc' := 44) C (tw hw 58 rfl) d6_41 rfl O_b.2.2 ?_
      refine w_callS (pc' := 47) (argsL := [.ref y1, .ref y2]) (st := []) (W := 0) (ce' := 0) (sl' := 0) C (tw hw 59 rfl) (tw hw 60 rfl) (tw hw 61 rfl) (tw hw 62 rfl) (by decide) d6_44 rfl rfl (by decide) (by decide) (Nat.le_of_eq rfl) rfl rfl (by decide) (by decide) rfl (lenOf pd_0 rfl) (ct_lequals hw h0 n0 y1 y2 us vs hbu hbv O_y1 O_y2) (kp ?_)
      refine w_if_eq (pcT := 54) (pcF := 50) C d6_47 (by decide) (by decide) rfl (fun q47 => ?_) (fun q47 => ?_)
      · skip
        refine w_iconst (pc' := 55) (x := (0 : Int32)) C d6_54 rfl rfl ?_
        refine w_retN' (t := .boolean) (z' := (0 : Int32)) C rfl (by simp) d6_55 (closeN (by decide) (by decide)) narB0 ?_
        exact ⟨congrArg (fun z => some (Value.int z)) (q47).symm, rfl⟩
      · skip
        refine w_iconst (pc' := 51) (x := (1 : Int32)) C d6_50 rfl rfl ?_
        refine w_goto (pc' := 55) C d6_51 (by decide) (by decide) ?_
        refine w_retN' (t := .boolean) (z' := (1 : Int32)) C rfl (by simp) d6_55 (closeN (by decide) (by decide)) narB1 ?_
        exact ⟨congrArg (fun z => some (Value.int z)) (eqV_ne q47).symm, rfl⟩
  · skip
    refine w_iconst (pc' := 6) (x := (1 : Int32)) C d6_5 rfl rfl ?_
    refine w_retN' (t := .boolean) (z' := (1 : Int32)) C rfl (by simp) d6_6 (closeN (by decide) (by decide)) narB1 ?_
    cases q2
    cases str_det O_a O_b
    cases mapI_inj (ar_det O_y1 O_y2)
    exact ⟨congrArg (fun z => some (Value.int z)) (if_pos rfl).symm, rfl⟩
theorem d1_0 : decode prog_3_method_1_code 0 = .ok (.aload_n 0, 1) := by decide +kernel
theorem d1_1 : decode prog_3_method_1_code 1 = .ok (.invokespecial 1, 3) := by decide +kernel
theorem d1_4 : decode prog_3_method_1_code 4 = .ok (.return_, 1) := by decide +kernel
def rm_init : Room := { frames := 1, cells := 0, slots := 0, locals := 12 }
theorem pf_init : plainFor (⟨"com/example/fedlint/fedlint/CertificateText", "<init>", "()V"⟩ : MethodName) = true := plainFor_of_name (by first | (simp [plainName, overriddenIn]; done) | decide +kernel)
set_option maxRecDepth 65536 in
set_option maxHeartbeats 40000000 in
theorem ct_init {l : Launch} {Z : State} {a0 : Array Value} (hw : ∀ d ∈ tables_1, d.before a0 Z = true) (h0 : Heap) (n0 : Nat) (t : Addr) (d : Int32) (cd : Int32) (ke : Int32) (hz : n0 ≤ h0.size) (O_t : Obj Z h0 t "com/example/fedlint/fedlint/CertificateText" [("depth", "I", .int d), ("certificateDepth", "I", .int cd), ("kept", "I", .int ke)]) :
    Ct l Z (⟨"com/example/fedlint/fedlint/CertificateText", "<init>", "()V"⟩ : MethodName) prog_3_method_1_code 1 (Option.none : Option Jvm.ClassFile.FieldType) [] rm_init #[.ref t] h0 n0 (fun v h => v = none ∧ Keep h0 h []) := by
  refine Ct.of (Ls := #[.val (.ref t)]) pf_init (fun m => by first | (simp [entryFrame, mkF, argsToLocals, Value.category, maxLocals]; done) | rfl) ?_
  intro p e s m below meth c C
  have hk : Keep h0 h0 [] := Keep.refl _ _
  refine w_aloadN (pc' := 1) C d1_0 rfl rfl rfl ?_
  refine w_initO (pc' := 4) (W := 0) C (tw hw 6 rfl) (tw hw 7 rfl) (tw hw 8 rfl) d1_1 rfl rfl (by decide) (Nat.le_of_eq rfl) (by decide) ?_
  refine w_ret0 C rfl d1_4 (closeN (by decide) (by decide)) ?_
  exact ⟨rfl, hk⟩
def uriB (k : Int32) : List Int32 := if k = 1 then bs_2 else if k = 3 then bs_3 else bs_4
theorem d3_0 : decode method_2_code 0 = .ok (.iload_n 0, 1) := by decide +kernel
theorem d3_1 : decode method_2_code 1 = .ok (.iconst 1, 1) := by decide +kernel
theorem d3_2 : decode method_2_code 2 = .ok (.if_icmp .ne 6, 3) := by decide +kernel
theorem d3_5 : decode method_2_code 5 = .ok (.ldc 7, 2) := by decide +kernel
theorem d3_7 : decode method_2_code 7 = .ok (.areturn, 1) := by decide +kernel
theorem d3_8 : decode method_2_code 8 = .ok (.iload_n 0, 1) := by decide +kernel
theorem d3_9 : decode method_2_code 9 = .ok (.iconst 3, 1) := by decide +kernel
theorem d3_10 : decode method_2_code 10 = .ok (.if_icmp .ne 6, 3) := by decide +kernel
theorem d3_13 : decode method_2_code 13 = .ok (.ldc 9, 2) := by decide +kernel
theorem d3_15 : decode method_2_code 15 = .ok (.areturn, 1) := by decide +kernel
theorem d3_16 : decode method_2_code 16 = .ok (.ldc 11, 2) := by decide +kernel
theorem d3_18 : decode method_2_code 18 = .ok (.areturn, 1) := by decide +kernel
def rm_uri : Room := { frames := 0, cells := 2, slots := 160, locals := 0 }
theorem pf_uri : plainFor (⟨"com/example/fedlint/fedlint/CertificateTextEndPinLaw", "uri", "(I)Ljava/lang/String;"⟩ : MethodName) = true := plainFor_of_name (by first | (simp [plainName, overriddenIn]; done) | decide +kernel)
set_option maxRecDepth 65536 in
set_option maxHeartbeats 40000000 in
theorem ct_uri {l : Launch} {Z : State} {a0 : Array Value} (hw : ∀ d ∈ tables_1, d.before a0 Z = true) (h0 : Heap) (n0 : Nat) (k : Int32) (hz : n0 ≤ h0.size) :
    CtH l Z EL 160 (⟨"com/example/fedlint/fedlint/CertificateTextEndPinLaw", "uri", "(I)Ljava/lang/String;"⟩ : MethodName) method_2_code 1 (Option.some (Jvm.ClassFile.FieldType.object "java/lang/String")) [] rm_uri 0 0 1 #[.int k] h0 n0 (fun v h => ∃ b, v = some (.ref b) ∧ ∃ y, StrO Z h b y ∧ Ar Z h y .byte ((uriB k).map Value.int) ∧ Keep h0 h []) := by
  refine CtH.of (Ls := #[.val (.int k)]) pf_uri (fun m => by first | (simp [entryFrame, mkF, argsToLocals, Value.category, maxLocals]; done) | rfl) ?_
  intro p e s m below meth c vm0 kk0 u C HS HK HC HU HB
  have hEL := hEL_ok hw
  have wS := wS_ok hw
  have hk : Keep h0 h0 [] := Keep.refl _ _
  refine w_iloadN (pc' := 1) C d3_0 rfl rfl ?_
  refine w_iconst (pc' := 2) (x := (1 : Int32)) C d3_1 rfl rfl ?_
  refine w_icmp_ne (pcT := 8) (pcF := 5) C d3_2 (by decide) (by decide) rfl (fun q2 => ?_) (fun q2 => ?_)
  · skip
    refine w_iloadN (pc' := 9) C d3_8 rfl rfl ?_
    refine w_iconst (pc' := 10) (x := (3 : Int32)) C d3_9 rfl rfl ?_
    refine w_icmp_ne (pcT := 16) (pcF := 13) C d3_10 (by decide) (by decide) rfl (fun q10 => ?_) (fun q10 => ?_)
    · skip
      refine w_ldcH (pc' := 18) (z := lz_4) C (tw hw 13 rfl) wS d3_16 rfl HS HK hEL mem_4 HC HU HB ht_4 hz_4 hl_4 hn_4 (by decide) (by decide) (by decide) (fun vm1 kk1 h1 sx1 sy1 u1 C HS HK HC HU HB E1 Q1 ns1 => ?_)
      have hz : n0 ≤ h1.size := Nat.le_trans hz E1.1
      have hk := hk.ext E1
      have O_sx1 : StrO Z h1 sx1 sy1 := ⟨Q1.1, Q1.2.1, Q1.2.2.1⟩
      have O_sy1 : Ar Z h1 sy1 .byte (bs_4.map Value.int) := Q1.2.2.2
      refine w_retA (t := (.object "java/lang/String")) C rfl rfl rfl d3_18 (closeH C.2.2.1 hEL HS HK HC HU HB (by decide) (by decide) (by decide)) ?_
      exact ⟨sx1, rfl, sy1, O_sx1, by rw [show uriB k = bs_4 from (if_neg q2).trans (if_neg q10)]; exact O_sy1, hk⟩
    · skip
      refine w_ldcH (pc' := 15) (z := lz_3) C (tw hw 53 rfl) wS d3_13 rfl HS HK hEL mem_3 HC HU HB ht_3 hz_3 hl_3 hn_3 (by decide) (by decide) (by decide) (fun vm2 kk2 h2 sx2 sy2 u2 C HS HK HC HU HB E2 Q2 ns2 => ?_)
      have hz : n0 ≤ h2.size := Nat.le_trans hz E2.1
      have hk := hk.ext E2
      have O_sx2 : StrO Z h2 sx2 sy2 := ⟨Q2.1, Q2.2.1, Q2.2.2.1⟩
      have O_sy2 : Ar Z h2 sy2 .byte (bs_3.map Value.int) := Q2.2.2.2
      refine w_retA (t := (.object "java/lang/String")) C rfl rfl rfl d3_15 (closeH C.2.2.1 hEL HS HK HC HU HB (by decide) (by decide) (by decide)) ?_
      exact ⟨sx2, rfl, sy2, O_sx2, by rw [show uriB k = bs_3 from (if_neg q2).trans (if_pos q10)]; exact O_sy2, hk⟩
  · skip
    refine w_ldcH (pc' := 7) (z := lz_2) C (tw hw 64 rfl) wS d3_5 rfl HS HK hEL mem_2 HC HU HB ht_2 hz_2 hl_2 hn_2 (by decide) (by decide) (by decide) (fun vm3 kk3 h3 sx3 sy3 u3 C HS HK HC HU HB E3 Q3 ns3 => ?_)
    have hz : n0 ≤ h3.size := Nat.le_trans hz E3.1
    have hk := hk.ext E3
    have O_sx3 : StrO Z h3 sx3 sy3 := ⟨Q3.1, Q3.2.1, Q3.2.2.1⟩
    have O_sy3 : Ar Z h3 sy3 .byte (bs_2.map Value.int) := Q3.2.2.2
    refine w_retA (t := (.object "java/lang/String")) C rfl rfl rfl d3_7 (closeH C.2.2.1 hEL HS HK HC HU HB (by decide) (by decide) (by decide)) ?_
    exact ⟨sx3, rfl, sy3, O_sx3, by rw [show uriB k = bs_2 from if_pos q2]; exact O_sy3, hk⟩
def nameB (k : Int32) : List Int32 := if k = 2 then bs_5 else bs_6
theorem d4_0 : decode method_3_code 0 = .ok (.iload_n 0, 1) := by decide +kernel
theorem d4_1 : decode method_3_code 1 = .ok (.iconst 2, 1) := by decide +kernel
theorem d4_2 : decode method_3_code 2 = .ok (.if_icmp .ne 6, 3) := by decide +kernel
theorem d4_5 : decode method_3_code 5 = .ok (.ldc 13, 2) := by decide +kernel
theorem d4_7 : decode method_3_code 7 = .ok (.areturn, 1) := by decide +kernel
theorem d4_8 : decode method_3_code 8 = .ok (.ldc 15, 2) := by decide +kernel
theorem d4_10 : decode method_3_code 10 = .ok (.areturn, 1) := by decide +kernel
def rm_name : Room := { frames := 0, cells := 2, slots := 160, locals := 0 }
theorem pf_name : plainFor (⟨"com/example/fedlint/fedlint/CertificateTextEndPinLaw", "name", "(I)Ljava/lang/String;"⟩ : MethodName) = true := plainFor_of_name (by first | (simp [plainName, overriddenIn]; done) | decide +kernel)
set_option maxRecDepth 65536 in
set_option maxHeartbeats 40000000 in
theorem ct_name {l : Launch} {Z : State} {a0 : Array Value} (hw : ∀ d ∈ tables_1, d.before a0 Z = true) (h0 : Heap) (n0 : Nat) (k : Int32) (hz : n0 ≤ h0.size) :
    CtH l Z EL 160 (⟨"com/example/fedlint/fedlint/CertificateTextEndPinLaw", "name", "(I)Ljava/lang/String;"⟩ : MethodName) method_3_code 1 (Option.some (Jvm.ClassFile.FieldType.object "java/lang/String")) [] rm_name 0 0 1 #[.int k] h0 n0 (fun v h => ∃ b, v = some (.ref b) ∧ ∃ y, StrO Z h b y ∧ Ar Z h y .byte ((nameB k).map Value.int) ∧ Keep h0 h []) := by
  refine CtH.of (Ls := #[.val (.int k)]) pf_name (fun m => by first | (simp [entryFrame, mkF, argsToLocals, Value.category, maxLocals]; done) | rfl) ?_
  intro p e s m below meth c vm0 kk0 u C HS HK HC HU HB
  have hEL := hEL_ok hw
  have wS := wS_ok hw
  have hk : Keep h0 h0 [] := Keep.refl _ _
  refine w_iloadN (pc' := 1) C d4_0 rfl rfl ?_
  refine w_iconst (pc' := 2) (x := (2 : Int32)) C d4_1 rfl rfl ?_
  refine w_icmp_ne (pcT := 8) (pcF := 5) C d4_2 (by decide) (by decide) rfl (fun q2 => ?_) (fun q2 => ?_)
  · skip
    refine w_ldcH (pc' := 10) (z := lz_6) C (tw hw 24 rfl) wS d4_8 rfl HS HK hEL mem_6 HC HU HB ht_6 hz_6 hl_6 hn_6 (by decide) (by decide) (by decide) (fun vm1 kk1 h1 sx1 sy1 u1 C HS HK HC HU HB E1 Q1 ns1 => ?_)
    have hz : n0 ≤ h1.size := Nat.le_trans hz E1.1
    have hk := hk.ext E1
    have O_sx1 : StrO Z h1 sx1 sy1 := ⟨Q1.1, Q1.2.1, Q1.2.2.1⟩
    have O_sy1 : Ar Z h1 sy1 .byte (bs_6.map Value.int) := Q1.2.2.2
    refine w_retA (t := (.object "java/lang/String")) C rfl rfl rfl d4_10 (closeH C.2.2.1 hEL HS HK HC HU HB (by decide) (by decide) (by decide)) ?_
    exact ⟨sx1, rfl, sy1, O_sx1, by rw [show nameB k = bs_6 from if_neg q2]; exact O_sy1, hk⟩
  · skip
    refine w_ldcH (pc' := 7) (z := lz_5) C (tw hw 63 rfl) wS d4_5 rfl HS HK hEL mem_5 HC HU HB ht_5 hz_5 hl_5 hn_5 (by decide) (by decide) (by decide) (fun vm2 kk2 h2 sx2 sy2 u2 C HS HK HC HU HB E2 Q2 ns2 => ?_)
    have hz : n0 ≤ h2.size := Nat.le_trans hz E2.1
    have hk := hk.ext E2
    have O_sx2 : StrO Z h2 sx2 sy2 := ⟨Q2.1, Q2.2.1, Q2.2.2.1⟩
    have O_sy2 : Ar Z h2 sy2 .byte (bs_5.map Value.int) := Q2.2.2.2
    refine w_retA (t := (.object "java/lang/String")) C rfl rfl rfl d4_7 (closeH C.2.2.1 hEL HS HK HC HU HB (by decide) (by decide) (by decide)) ?_
    exact ⟨sx2, rfl, sy2, O_sx2, by rw [show nameB k = bs_5 from if_pos q2]; exact O_sy2, hk⟩
theorem uriB_len (k : Int32) : (uriB k).length ≤ 1000 := by
  unfold uriB; repeat' split
  all_goals decide +kernel
theorem nameB_len (k : Int32) : (nameB k).length ≤ 1000 := by
  unfold nameB; repeat' split
  all_goals decide +kernel
def mtc (us ns : List Int32) : Bool := decide (us = bs_0) && decide (ns = bs_1)
def stC (us ns : List Int32) (d cd : Int32) : Int32 := if cd = 0 then (if mtc us ns = true then d + 1 else cd) else cd
def stK (us ns : List Int32) (cd ke : Int32) : Int32 := if cd = 0 then (if mtc us ns = true then 0 else ke) else ke
theorem eqV0 {us vs : List Int32} (q : eqV us vs = 0) : ¬ vs = us := fun e => by
  subst e; unfold eqV at q; rw [if_pos rfl] at q; exact absurd q (by decide)
theorem eqV1 {us vs : List Int32} (q : ¬ eqV us vs = 0) : vs = us := by
  unfold eqV at q; split at q
  · rename_i h; exact h.symm
  · exact absurd rfl q
theorem stA {us ns : List Int32} {d cd ke : Int32} (q : ¬ cd = 0) : stC us ns d cd = cd ∧ stK us ns cd ke = ke := ⟨if_neg q, if_neg q⟩
theorem stB {us ns : List Int32} {d cd ke : Int32} (q0 : cd = 0) (q : eqV bs_0 us = 0) : stC us ns d cd = cd ∧ stK us ns cd ke = ke := by
  have e : ¬ mtc us ns = true := by simp [mtc, eqV0 q]
  exact ⟨(if_pos q0).trans (if_neg e), (if_pos q0).trans (if_neg e)⟩
theorem stCc {us ns : List Int32} {d cd ke : Int32} (q0 : cd = 0) (q : eqV bs_1 ns = 0) : stC us ns d cd = cd ∧ stK us ns cd ke = ke := by
  have e : ¬ mtc us ns = true := by simp [mtc, eqV0 q]
  exact ⟨(if_pos q0).trans (if_neg e), (if_pos q0).trans (if_neg e)⟩
theorem stD {us ns : List Int32} {d cd ke : Int32} (q0 : cd = 0) (q : ¬ eqV bs_0 us = 0) (q' : ¬ eqV bs_1 ns = 0) : stC us ns d cd = d + 1 ∧ stK us ns cd ke = 0 := by
  have e : mtc us ns = true := by simp [mtc, eqV1 q, eqV1 q']
  exact ⟨(if_pos q0).trans (if_pos e), (if_pos q0).trans (if_pos e)⟩
theorem d5_0 : decode prog_3_method_4_code 0 = .ok (.aload_n 0, 1) := by decide +kernel
theorem d5_1 : decode prog_3_method_4_code 1 = .ok (.dup, 1) := by decide +kernel
theorem d5_2 : decode prog_3_method_4_code 2 = .ok (.getfield 7, 3) := by decide +kernel
theorem d5_5 : decode prog_3_method_4_code 5 = .ok (.iconst 1, 1) := by decide +kernel
theorem d5_6 : decode prog_3_method_4_code 6 = .ok (.iadd, 1) := by decide +kernel
theorem d5_7 : decode prog_3_method_4_code 7 = .ok (.putfield 7, 3) := by decide +kernel
theorem d5_10 : decode prog_3_method_4_code 10 = .ok (.aload_n 0, 1) := by decide +kernel
theorem d5_11 : decode prog_3_method_4_code 11 = .ok (.getfield 16, 3) := by decide +kernel
theorem d5_14 : decode prog_3_method_4_code 14 = .ok (.ifCond .ne 36, 3) := by decide +kernel
theorem d5_17 : decode prog_3_method_4_code 17 = .ok (.ldc 24, 2) := by decide +kernel
theorem d5_19 : decode prog_3_method_4_code 19 = .ok (.aload_n 1, 1) := by decide +kernel
theorem d5_20 : decode prog_3_method_4_code 20 = .ok (.invokevirtual 26, 3) := by decide +kernel
theorem d5_23 : decode prog_3_method_4_code 23 = .ok (.ifCond .eq 27, 3) := by decide +kernel
theorem d5_26 : decode prog_3_method_4_code 26 = .ok (.ldc 32, 2) := by decide +kernel
theorem d5_28 : decode prog_3_method_4_code 28 = .ok (.aload_n 2, 1) := by decide +kernel
theorem d5_29 : decode prog_3_method_4_code 29 = .ok (.invokevirtual 26, 3) := by decide +kernel
theorem d5_32 : decode prog_3_method_4_code 32 = .ok (.ifCond .eq 18, 3) := by decide +kernel
theorem d5_35 : decode prog_3_method_4_code 35 = .ok (.aload_n 0, 1) := by decide +kernel
theorem d5_36 : decode prog_3_method_4_code 36 = .ok (.aload_n 0, 1) := by decide +kernel
theorem d5_37 : decode prog_3_method_4_code 37 = .ok (.getfield 7, 3) := by decide +kernel
theorem d5_40 : decode prog_3_method_4_code 40 = .ok (.putfield 16, 3) := by decide +kernel
theorem d5_43 : decode prog_3_method_4_code 43 = .ok (.aload_n 0, 1) := by decide +kernel
theorem d5_44 : decode prog_3_method_4_code 44 = .ok (.iconst 0, 1) := by decide +kernel
theorem d5_45 : decode prog_3_method_4_code 45 = .ok (.putfield 19, 3) := by decide +kernel
theorem d5_48 : decode prog_3_method_4_code 48 = .ok (.iconst 1, 1) := by decide +kernel
theorem d5_49 : decode prog_3_method_4_code 49 = .ok (.ireturn, 1) := by decide +kernel
theorem d5_50 : decode prog_3_method_4_code 50 = .ok (.iconst 0, 1) := by decide +kernel
theorem d5_51 : decode prog_3_method_4_code 51 = .ok (.ireturn, 1) := by decide +kernel
def rm_start : Room := { frames := 2, cells := 4, slots := 320, locals := 28 }
theorem pf_start : plainFor (⟨"com/example/fedlint/fedlint/CertificateText", "start", "(Ljava/lang/String;Ljava/lang/String;)Z"⟩ : MethodName) = true := plainFor_of_name (by first | (simp [plainName, overriddenIn]; done) | decide +kernel)
set_option maxRecDepth 65536 in
set_option maxHeartbeats 40000000 in
theorem ct_start {l : Launch} {Z : State} {a0 : Array Value} (hw : ∀ d ∈ tables_1, d.before a0 Z = true) (h0 : Heap) (n0 : Nat) (t : Addr) (ua : Addr) (na : Addr) (yu : Addr) (yn : Addr) (d : Int32) (cd : Int32) (ke : Int32) (us : List Int32) (ns : List Int32) (zc : Int32) (fv : Value) (hz : n0 ≤ h0.size) (hbu : us.length ≤ 1000) (hbn : ns.length ≤ 1000) (hzc : ¬ zc = 0) (hfv : fv.isRef = true) (S_COMPACT_STRINGS : Sta Z h0 "java/lang/String" "COMPACT_STRINGS" "Z" (.int zc)) (S_SIOOBE_FORMATTER : Sta Z h0 "jdk/internal/util/Preconditions" "SIOOBE_FORMATTER" "Ljava/util/function/BiFunction;" fv) (O_t : Obj Z h0 t "com/example/fedlint/fedlint/CertificateText" [("depth", "I", .int d), ("certificateDepth", "I", .int cd), ("kept", "I", .int ke)]) (O_ua : StrO Z h0 ua yu) (O_yu : Ar Z h0 yu .byte (us.map Value.int)) (O_na : StrO Z h0 na yn) (O_yn : Ar Z h0 yn .byte (ns.map Value.int)) (g_t : n0 ≤ t) :
    CtH l Z EL 160 (⟨"com/example/fedlint/fedlint/CertificateText", "start", "(Ljava/lang/String;Ljava/lang/String;)Z"⟩ : MethodName) prog_3_method_4_code 3 (Option.some Jvm.ClassFile.FieldType.boolean) [] rm_start 0 0 2 #[.ref t, .ref ua, .ref na] h0 n0 (fun v h => ∃ rv, v = some (.int rv) ∧ Obj Z h t "com/example/fedlint/fedlint/CertificateText" [("depth", "I", .int (d + 1)), ("certificateDepth", "I", .int (stC us ns d cd)), ("kept", "I", .int (stK us ns cd ke))] ∧ Keep h0 h [t]) := by
  refine CtH.of (Ls := #[.val (.ref t), .val (.ref ua), .val (.ref na)]) pf_start (fun m => by first | (simp [entryFrame, mkF, argsToLocals, Value.category, maxLocals]; done) | rfl) ?_
  intro p e s m below meth c vm0 kk0 u C HS HK HC HU HB
  have hEL := hEL_ok hw
  have wS := wS_ok hw
  have hk : Keep h0 h0 [t] := Keep.refl _ _
  have ne_ua_t : ua ≠ t := exa_ne O_ua.1 O_t.1 (by decide)
  have ne_na_t : na ≠ t := exa_ne O_na.1 O_t.1 (by decide)
  have ne_yu_t : yu ≠ t := Ne.symm (exa_ar_ne (tw hw 1 rfl) O_t.1 O_yu)
  have ne_yn_t : yn ≠ t := Ne.symm (exa_ar_ne (tw hw 1 rfl) O_t.1 O_yn)
  refine w_aloadN (pc' := 1) C d5_0 rfl rfl rfl ?_
  refine w_dup (pc' := 2) C d5_1 rfl rfl ?_
  refine w_getF (pc' := 5) C (tw hw 30 rfl) d5_2 rfl (O_t.fld 0 rfl) ?_
  refine w_iconst (pc' := 6) (x := (1 : Int32)) C d5_5 rfl rfl ?_
  refine w_iadd (pc' := 7) C d5_6 rfl ?_
  refine w_putF (pc' := 10) (ty := .int) C (tw hw 30 rfl) (Or.inl (tw hw 31 rfl)) (tw hw 1 rfl) (by decide) rfl rfl d5_7 rfl g_t (O_t.fld 0 rfl) O_t.1 (fun h1 W1 => ?_)
  have S_COMPACT_STRINGS := Sta.wr W1 S_COMPACT_STRINGS
  have S_SIOOBE_FORMATTER := Sta.wr W1 S_SIOOBE_FORMATTER
  have HC := HC.trans (CHr.wr W1 (Safe.exa C.2.2.1.alike O_t.1 (by decide) (by decide)) HC.1)
  have HK := Nat.le_trans HK (Nat.le_of_eq W1.size.symm)
  have O_t : Obj Z h1 t "com/example/fedlint/fedlint/CertificateText" [("depth", "I", .int (d + (1 : Int32))), ("certificateDepth", "I", .int cd), ("kept", "I", .int ke)] := O_t.put 0 rfl W1 rfl
  have O_ua := O_ua.other W1 ne_ua_t
  have O_yu := O_yu.other W1 ne_yu_t
  have O_na := O_na.other W1 ne_na_t
  have O_yn := O_yn.other W1 ne_yn_t
  have hz : n0 ≤ h1.size := by rw [W1.size]; exact hz
  have hk := hk.wr W1 (Or.inl (by simp))
  refine w_aloadN (pc' := 11) C d5_10 rfl rfl rfl ?_
  refine w_getF (pc' := 14) C (tw hw 32 rfl) d5_11 rfl (O_t.fld 1 rfl) ?_
  refine w_if_ne (pcT := 50) (pcF := 17) C d5_14 (by decide) (by decide) rfl (fun q14 => ?_) (fun q14 => ?_)
  · skip
    refine w_iconst (pc' := 51) (x := (0 : Int32)) C d5_50 rfl rfl ?_
    refine w_retN' (t := .boolean) (z' := (0 : Int32)) C rfl (by simp) d5_51 (closeH C.2.2.1 hEL HS HK HC HU HB (by decide) (by decide) (by decide)) narB0 ?_
    obtain ⟨e1, e2⟩ : stC us ns d cd = _ ∧ stK us ns cd ke = _ := stA q14
    exact ⟨_, rfl, by rw [e1, e2]; exact O_t, hk⟩
  · skip
    refine w_ldcH (pc' := 19) (z := lz_0) C (tw hw 34 rfl) wS d5_17 rfl HS HK hEL mem_0 HC HU HB ht_0 hz_0 hl_0 hn_0 (by decide) (by decide) (by decide) (fun vm2 kk2 h2 sx2 sy2 u2 C HS HK HC HU HB E2 Q2 ns2 => ?_)
    have O_t := O_t.ext E2
    have O_ua := O_ua.ext E2
    have O_yu := O_yu.ext E2
    have O_na := O_na.ext E2
    have O_yn := O_yn.ext E2
    have hz : n0 ≤ h2.size := Nat.le_trans hz E2.1
    have hk := hk.ext E2
    have S_COMPACT_STRINGS := Sta.ext E2 S_COMPACT_STRINGS
    have S_SIOOBE_FORMATTER := Sta.ext E2 S_SIOOBE_FORMATTER
    have ne_t_sx2 := (ns2 t (Safe.exa C.2.2.1.alike O_t.1 (by decide) (by decide))).1
    have ne_t_sy2 := (ns2 t (Safe.exa C.2.2.1.alike O_t.1 (by decide) (by decide))).2
    have O_sx2 : StrO Z h2 sx2 sy2 := ⟨Q2.1, Q2.2.1, Q2.2.2.1⟩
    have O_sy2 : Ar Z h2 sy2 .byte (bs_0.map Value.int) := Q2.2.2.2
    refine w_aloadN (pc' := 20) C d5_19 rfl rfl rfl ?_
    refine w_callV (Cl := "java/lang/String") (pc' := 23) (argsL := [.ref ua]) (st := []) (W := 0) (ce' := (0 + 2 * u2)) (sl' := (0 + 160 * u2)) C (tw hw 35 rfl) (tw hw 36 rfl) (tw hw 38 rfl) (tw hw 37 rfl) (tw hw 14 rfl) (tw hw 39 rfl) (by decide) d5_20 rfl rfl (by decide) (by decide) (Nat.le_of_eq rfl) (ad rfl) (ad rfl) (leA HB (by decide)) (leM HB (by decide)) rfl (lenOf pd_1 rfl) O_sx2.1 (ct_equals hw h2 n0 sx2 ua sy2 yu bs_0 us zc (by rw [hb_0]; decide) hbu S_COMPACT_STRINGS O_sx2 O_ua O_sy2 O_yu) (kp ?_)
    refine w_if_eq (pcT := 50) (pcF := 26) C d5_23 (by decide) (by decide) rfl (fun q23 => ?_) (fun q23 => ?_)
    · skip
      refine w_iconst (pc' := 51) (x := (0 : Int32)) C d5_50 rfl rfl ?_
      refine w_retN' (t := .boolean) (z' := (0 : Int32)) C rfl (by simp) d5_51 (closeH C.2.2.1 hEL HS HK HC HU HB (by decide) (by decide) (by decide)) narB0 ?_
      obtain ⟨e1, e2⟩ : stC us ns d cd = _ ∧ stK us ns cd ke = _ := stB q14 q23
      exact ⟨_, rfl, by rw [e1, e2]; exact O_t, hk⟩
    · skip
      refine w_ldcH (pc' := 28) (z := lz_1) C (tw hw 40 rfl) wS d5_26 rfl HS HK hEL mem_1 HC HU HB ht_1 hz_1 hl_1 hn_1 (by decide) (by decide) (by decide) (fun vm3 kk3 h3 sx3 sy3 u3 C HS HK HC HU HB E3 Q3 ns3 => ?_)
      have O_t := O_t.ext E3
      have O_ua := O_ua.ext E3
      have O_yu := O_yu.ext E3
      have O_na := O_na.ext E3
      have O_yn := O_yn.ext E3
      have O_sx2 := O_sx2.ext E3
      have O_sy2 := O_sy2.ext E3
      have hz : n0 ≤ h3.size := Nat.le_trans hz E3.1
      have hk := hk.ext E3
      have S_COMPACT_STRINGS := Sta.ext E3 S_COMPACT_STRINGS
      have S_SIOOBE_FORMATTER := Sta.ext E3 S_SIOOBE_FORMATTER
      have ne_t_sx3 := (ns3 t (Safe.exa C.2.2.1.alike O_t.1 (by decide) (by decide))).1
      have ne_t_sy3 := (ns3 t (Safe.exa C.2.2.1.alike O_t.1 (by decide) (by decide))).2
      have O_sx3 : StrO Z h3 sx3 sy3 := ⟨Q3.1, Q3.2.1, Q3.2.2.1⟩
      have O_sy3 : Ar Z h3 sy3 .byte (bs_1.map Value.int) := Q3.2.2.2
      refine w_aloadN (pc' := 29) C d5_28 rfl rfl rfl ?_
      refine w_callV (Cl := "java/lang/String") (pc' := 32) (argsL := [.ref na]) (st := []) (W := 0) (ce' := (0 + 2 * u3)) (sl' := (0 + 160 * u3)) C (tw hw 35 rfl) (tw hw 36 rfl) (tw hw 38 rfl) (tw hw 37 rfl) (tw hw 14 rfl) (tw hw 39 rfl) (by decide) d5_29 rfl rfl (by decide) (by decide) (Nat.le_of_eq rfl) (ad rfl) (ad rfl) (leA HB (by decide)) (leM HB (by decide)) rfl (lenOf pd_1 rfl) O_sx3.1 (ct_equals hw h3 n0 sx3 na sy3 yn bs_1 ns zc (by rw [hb_1]; decide) hbn S_COMPACT_STRINGS O_sx3 O_na O_sy3 O_yn) (kp ?_)
      refine w_if_eq (pcT := 50) (pcF := 35) C d5_32 (by decide) (by decide) rfl (fun q32 => ?_) (fun q32 => ?_)
      · skip
        refine w_iconst (pc' := 51) (x := (0 : Int32)) C d5_50 rfl rfl ?_
        refine w_retN' (t := .boolean) (z' := (0 : Int32)) C rfl (by simp) d5_51 (closeH C.2.2.1 hEL HS HK HC HU HB (by decide) (by decide) (by decide)) narB0 ?_
        obtain ⟨e1, e2⟩ : stC us ns d cd = _ ∧ stK us ns cd ke = _ := stCc q14 q32
        exact ⟨_, rfl, by rw [e1, e2]; exact O_t, hk⟩
      · skip
        refine w_aloadN (pc' := 36) C d5_35 rfl rfl rfl ?_
        refine w_aloadN (pc' := 37) C d5_36 rfl rfl rfl ?_
        refine w_getF (pc' := 40) C (tw hw 30 rfl) d5_37 rfl (O_t.fld 0 rfl) ?_
        refine w_putF (pc' := 43) (ty := .int) C (tw hw 32 rfl) (Or.inl (tw hw 33 rfl)) (tw hw 1 rfl) (by decide) rfl rfl d5_40 rfl g_t (O_t.fld 1 rfl) O_t.1 (fun h4 W4 => ?_)
        have S_COMPACT_STRINGS := Sta.wr W4 S_COMPACT_STRINGS
        have S_SIOOBE_FORMATTER := Sta.wr W4 S_SIOOBE_FORMATTER
        have HC := HC.trans (CHr.wr W4 (Safe.exa C.2.2.1.alike O_t.1 (by decide) (by decide)) HC.1)
        have HK := Nat.le_trans HK (Nat.le_of_eq W4.size.symm)
        have O_t : Obj Z h4 t "com/example/fedlint/fedlint/CertificateText" [("depth", "I", .int (d + (1 : Int32))), ("certificateDepth", "I", .int (d + (1 : Int32))), ("kept", "I", .int ke)] := O_t.put 1 rfl W4 rfl
        have O_ua := O_ua.other W4 ne_ua_t
        have O_yu := O_yu.other W4 ne_yu_t
        have O_na := O_na.other W4 ne_na_t
        have O_yn := O_yn.other W4 ne_yn_t
        have O_sx2 := O_sx2.other W4 (Ne.symm ne_t_sx2)
        have O_sy2 := O_sy2.other W4 (Ne.symm ne_t_sy2)
        have O_sx3 := O_sx3.other W4 (Ne.symm ne_t_sx3)
        have O_sy3 := O_sy3.other W4 (Ne.symm ne_t_sy3)
        have hz : n0 ≤ h4.size := by rw [W4.size]; exact hz
        have hk := hk.wr W4 (Or.inl (by simp))
        refine w_aloadN (pc' := 44) C d5_43 rfl rfl rfl ?_
        refine w_iconst (pc' := 45) (x := (0 : Int32)) C d5_44 rfl rfl ?_
        refine w_putF (pc' := 48) (ty := .int) C (tw hw 41 rfl) (Or.inl (tw hw 42 rfl)) (tw hw 1 rfl) (by decide) rfl rfl d5_45 rfl g_t (O_t.fld 2 rfl) O_t.1 (fun h5 W5 => ?_)
        have S_COMPACT_STRINGS := Sta.wr W5 S_COMPACT_STRINGS
        have S_SIOOBE_FORMATTER := Sta.wr W5 S_SIOOBE_FORMATTER
        have HC := HC.trans (CHr.wr W5 (Safe.exa C.2.2.1.alike O_t.1 (by decide) (by decide)) HC.1)
        have HK := Nat.le_trans HK (Nat.le_of_eq W5.size.symm)
        have O_t : Obj Z h5 t "com/example/fedlint/fedlint/CertificateText" [("depth", "I", .int (d + (1 : Int32))), ("certificateDepth", "I", .int (d + (1 : Int32))), ("kept", "I", .int (0 : Int32))] := O_t.put 2 rfl W5 rfl
        have O_ua := O_ua.other W5 ne_ua_t
        have O_yu := O_yu.other W5 ne_yu_t
        have O_na := O_na.other W5 ne_na_t
        have O_yn := O_yn.other W5 ne_yn_t
        have O_sx2 := O_sx2.other W5 (Ne.symm ne_t_sx2)
        have O_sy2 := O_sy2.other W5 (Ne.symm ne_t_sy2)
        have O_sx3 := O_sx3.other W5 (Ne.symm ne_t_sx3)
        have O_sy3 := O_sy3.other W5 (Ne.symm ne_t_sy3)
        have hz : n0 ≤ h5.size := by rw [W5.size]; exact hz
        have hk := hk.wr W5 (Or.inl (by simp))
        refine w_iconst (pc' := 49) (x := (1 : Int32)) C d5_48 rfl rfl ?_
        refine w_retN' (t := .boolean) (z' := (1 : Int32)) C rfl (by simp) d5_49 (closeH C.2.2.1 hEL HS HK HC HU HB (by decide) (by decide) (by decide)) narB1 ?_
        obtain ⟨e1, e2⟩ : stC us ns d cd = _ ∧ stK us ns cd ke = _ := stD q14 q23 q32
        exact ⟨_, rfl, by rw [e1, e2]; exact O_t, hk⟩
def endV (d cd : Int32) : Int32 := if d = cd then 1 else 0
def endC (d cd : Int32) : Int32 := if d = cd then 0 else cd
theorem d7_0 : decode prog_3_method_5_code 0 = .ok (.aload_n 0, 1) := by decide +kernel
theorem d7_1 : decode prog_3_method_5_code 1 = .ok (.dup, 1) := by decide +kernel
theorem d7_2 : decode prog_3_method_5_code 2 = .ok (.getfield 7, 3) := by decide +kernel
theorem d7_5 : decode prog_3_method_5_code 5 = .ok (.dup_x1, 1) := by decide +kernel
theorem d7_6 : decode prog_3_method_5_code 6 = .ok (.iconst 1, 1) := by decide +kernel
theorem d7_7 : decode prog_3_method_5_code 7 = .ok (.isub, 1) := by decide +kernel
theorem d7_8 : decode prog_3_method_5_code 8 = .ok (.putfield 7, 3) := by decide +kernel
theorem d7_11 : decode prog_3_method_5_code 11 = .ok (.aload_n 0, 1) := by decide +kernel
theorem d7_12 : decode prog_3_method_5_code 12 = .ok (.getfield 16, 3) := by decide +kernel
theorem d7_15 : decode prog_3_method_5_code 15 = .ok (.if_icmp .ne 10, 3) := by decide +kernel
theorem d7_18 : decode prog_3_method_5_code 18 = .ok (.aload_n 0, 1) := by decide +kernel
theorem d7_19 : decode prog_3_method_5_code 19 = .ok (.iconst 0, 1) := by decide +kernel
theorem d7_20 : decode prog_3_method_5_code 20 = .ok (.putfield 16, 3) := by decide +kernel
theorem d7_23 : decode prog_3_method_5_code 23 = .ok (.iconst 1, 1) := by decide +kernel
theorem d7_24 : decode prog_3_method_5_code 24 = .ok (.ireturn, 1) := by decide +kernel
theorem d7_25 : decode prog_3_method_5_code 25 = .ok (.iconst 0, 1) := by decide +kernel
theorem d7_26 : decode prog_3_method_5_code 26 = .ok (.ireturn, 1) := by decide +kernel
def rm_ende : Room := { frames := 0, cells := 0, slots := 0, locals := 0 }
theorem pf_ende : plainFor (⟨"com/example/fedlint/fedlint/CertificateText", "end", "()Z"⟩ : MethodName) = true := plainFor_of_name (by first | (simp [plainName, overriddenIn]; done) | decide +kernel)
set_option maxRecDepth 65536 in
set_option maxHeartbeats 40000000 in
theorem ct_ende {l : Launch} {Z : State} {a0 : Array Value} (hw : ∀ d ∈ tables_1, d.before a0 Z = true) (h0 : Heap) (n0 : Nat) (t : Addr) (d : Int32) (cd : Int32) (ke : Int32) (hz : n0 ≤ h0.size) (O_t : Obj Z h0 t "com/example/fedlint/fedlint/CertificateText" [("depth", "I", .int d), ("certificateDepth", "I", .int cd), ("kept", "I", .int ke)]) (g_t : n0 ≤ t) :
    Ct l Z (⟨"com/example/fedlint/fedlint/CertificateText", "end", "()Z"⟩ : MethodName) prog_3_method_5_code 1 (Option.some Jvm.ClassFile.FieldType.boolean) [] rm_ende #[.ref t] h0 n0 (fun v h => v = some (.int (endV d cd)) ∧ Obj Z h t "com/example/fedlint/fedlint/CertificateText" [("depth", "I", .int (d - 1)), ("certificateDepth", "I", .int (endC d cd)), ("kept", "I", .int ke)] ∧ Keep h0 h [t]) := by
  refine Ct.of (Ls := #[.val (.ref t)]) pf_ende (fun m => by first | (simp [entryFrame, mkF, argsToLocals, Value.category, maxLocals]; done) | (cases fv <;> first | (simp [Value.isRef] at hfv; done) | (simp [entryFrame, mkF, argsToLocals, Value.category]; done) | rfl) | rfl) ?_
  intro p e s m below meth c C
  have hk : Keep h0 h0 [t] := Keep.refl _ _
  refine w_aloadN (pc' := 1) C d7_0 rfl rfl rfl ?_
  refine w_dup (pc' := 2) C d7_1 rfl rfl ?_
  refine w_getF (pc' := 5) C (tw hw 30 rfl) d7_2 rfl (O_t.fld 0 rfl) ?_
  refine w_dupX1 (pc' := 6) C d7_5 rfl rfl rfl ?_
  refine w_iconst (pc' := 7) (x := (1 : Int32)) C d7_6 rfl rfl ?_
  refine w_isub (pc' := 8) C d7_7 rfl ?_
  refine w_putF (pc' := 11) (ty := .int) C (tw hw 30 rfl) (Or.inl (tw hw 31 rfl)) (tw hw 1 rfl) (by decide) rfl rfl d7_8 rfl g_t (O_t.fld 0 rfl) O_t.1 (fun h1 W1 => ?_)
  have O_t : Obj Z h1 t "com/example/fedlint/fedlint/CertificateText" [("depth", "I", .int (d - (1 : Int32))), ("certificateDepth", "I", .int cd), ("kept", "I", .int ke)] := O_t.put 0 rfl W1 rfl
  have hz : n0 ≤ h1.size := by rw [W1.size]; exact hz
  have hk := hk.wr W1 (Or.inl (by simp))
  refine w_aloadN (pc' := 12) C d7_11 rfl rfl rfl ?_
  refine w_getF (pc' := 15) C (tw hw 32 rfl) d7_12 rfl (O_t.fld 1 rfl) ?_
  refine w_icmp_ne (pcT := 25) (pcF := 18) C d7_15 (by decide) (by decide) rfl (fun q15 => ?_) (fun q15 => ?_)
  · skip
    refine w_iconst (pc' := 26) (x := (0 : Int32)) C d7_25 rfl rfl ?_
    refine w_retN' (t := .boolean) (z' := (0 : Int32)) C rfl (by simp) d7_26 (closeN (by decide) (by decide)) narB0 ?_
    exact ⟨congrArg (fun z => some (Value.int z)) (if_neg q15).symm, by rw [show endC d cd = _ from if_neg q15]; exact O_t, hk⟩
  · skip
    refine w_aloadN (pc' := 19) C d7_18 rfl rfl rfl ?_
    refine w_iconst (pc' := 20) (x := (0 : Int32)) C d7_19 rfl rfl ?_
    refine w_putF (pc' := 23) (ty := .int) C (tw hw 32 rfl) (Or.inl (tw hw 33 rfl)) (tw hw 1 rfl) (by decide) rfl rfl d7_20 rfl g_t (O_t.fld 1 rfl) O_t.1 (fun h2 W2 => ?_)
    have O_t : Obj Z h2 t "com/example/fedlint/fedlint/CertificateText" [("depth", "I", .int (d - (1 : Int32))), ("certificateDepth", "I", .int (0 : Int32)), ("kept", "I", .int ke)] := O_t.put 1 rfl W2 rfl
    have hz : n0 ≤ h2.size := by rw [W2.size]; exact hz
    have hk := hk.wr W2 (Or.inl (by simp))
    refine w_iconst (pc' := 24) (x := (1 : Int32)) C d7_23 rfl rfl ?_
    refine w_retN' (t := .boolean) (z' := (1 : Int32)) C rfl (by simp) d7_24 (closeN (by decide) (by decide)) narB1 ?_
    exact ⟨congrArg (fun z => some (Value.int z)) (if_pos q15).symm, by rw [show endC d cd = _ from if_pos q15]; exact O_t, hk⟩
theorem d8_0 : decode prog_3_method_6_code 0 = .ok (.aload_n 0, 1) := by decide +kernel
theorem d8_1 : decode prog_3_method_6_code 1 = .ok (.getfield 16, 3) := by decide +kernel
theorem d8_4 : decode prog_3_method_6_code 4 = .ok (.ifCond .le 7, 3) := by decide +kernel
theorem d8_7 : decode prog_3_method_6_code 7 = .ok (.iconst 1, 1) := by decide +kernel
theorem d8_8 : decode prog_3_method_6_code 8 = .ok (.goto 4, 3) := by decide +kernel
theorem d8_11 : decode prog_3_method_6_code 11 = .ok (.iconst 0, 1) := by decide +kernel
theorem d8_12 : decode prog_3_method_6_code 12 = .ok (.ireturn, 1) := by decide +kernel
def openF (cd : Int32) : Int32 := (if 0 < cd then (1 : Int32) else (0 : Int32))
def rm_openF : Room := { frames := 0, cells := 0, slots := 0, locals := 0 }
def Q_openF (cd : Int32) (h0 : Heap) (v : Option Value) (h : Heap) : Prop := v = some (.int (openF cd)) ∧ h = h0
theorem pf_openF : plainFor (⟨"com/example/fedlint/fedlint/CertificateText", "open", "()Z"⟩ : MethodName) = true := plainFor_of_name (by first | (simp [plainName, overriddenIn]; done) | decide +kernel)
set_option maxRecDepth 65536 in
set_option maxHeartbeats 40000000 in
theorem ct_openF {l : Launch} {Z : State} {a0 : Array Value} (hw : ∀ d ∈ tables_1, d.before a0 Z = true) (h0 : Heap) (n0 : Nat) (t : Addr) (d : Int32) (cd : Int32) (ke : Int32) (O_t : Obj Z h0 t "com/example/fedlint/fedlint/CertificateText" [("depth", "I", .int d), ("certificateDepth", "I", .int cd), ("kept", "I", .int ke)]) :
    Ct l Z (⟨"com/example/fedlint/fedlint/CertificateText", "open", "()Z"⟩ : MethodName) prog_3_method_6_code 1 (Option.some Jvm.ClassFile.FieldType.boolean) [] rm_openF #[.ref t] h0 n0 (Q_openF cd h0) := by
  refine Ct.of (Ls := #[.val (.ref t)]) pf_openF (fun m => by first | (simp [entryFrame, mkF, argsToLocals, Value.category, maxLocals]; done) | rfl) ?_
  intro p e s m below meth c C
  have hr : openF cd = (if 0 < cd then (1 : Int32) else (0 : Int32)) := rfl
  refine w_aloadN (pc' := 1) C d8_0 rfl rfl rfl ?_
  refine w_getF (pc' := 4) C (tw hw 32 rfl) d8_1 rfl (O_t.fld 1 rfl) ?_
  refine w_if_le (pcT := 11) (pcF := 7) C d8_4 (by decide) (by decide) rfl (fun q4 => ?_) (fun q4 => ?_)
  · have hr := hr.trans (if_neg q4)
    refine w_iconst (pc' := 12) (x := (0 : Int32)) C d8_11 rfl rfl ?_
    refine w_retN' (t := .boolean) (z' := (0 : Int32)) C rfl (by simp) d8_12 (closeN (by decide) (by decide)) narB0 ?_
    exact And.intro (congrArg (fun z => some (Value.int z)) hr.symm) rfl
  · have hr := hr.trans (if_pos q4)
    refine w_iconst (pc' := 8) (x := (1 : Int32)) C d8_7 rfl rfl ?_
    refine w_goto (pc' := 12) C d8_8 (by decide) (by decide) ?_
    refine w_retN' (t := .boolean) (z' := (1 : Int32)) C rfl (by simp) d8_12 (closeN (by decide) (by decide)) narB1 ?_
    exact And.intro (congrArg (fun z => some (Value.int z)) hr.symm) rfl
theorem four (x : Int32) : x &&& 3 = 0 ∨ x &&& 3 = 1 ∨ x &&& 3 = 2 ∨ x &&& 3 = 3 := by
  have h : 0 ≤ (x &&& 3).toInt ∧ (x &&& 3).toInt < 4 := by
    have e : (x &&& 3).toBitVec = x.toBitVec &&& 3#32 := rfl
    have l : (x.toBitVec &&& 3#32).toNat < 4 := by
      rw [BitVec.toNat_and]; exact Nat.lt_of_le_of_lt Nat.and_le_right (by decide)
    show 0 ≤ (x &&& 3).toBitVec.toInt ∧ (x &&& 3).toBitVec.toInt < 4
    rw [e, BitVec.toInt_eq_toNat_of_lt (by omega)]; omega
  obtain ⟨k, e⟩ := small_int (n := 4) h.1 h.2
  rw [e]; clear e h
  revert k; decide
theorem plain (ka kb kc kd ca cb cc cd f2 f3 f4 : Int32) (za : ka = 0 ∨ ka = 1 ∨ ka = 2 ∨ ka = 3) (zb : kb = 0 ∨ kb = 1 ∨ kb = 2 ∨ kb = 3) (zc_ : kc = 0 ∨ kc = 1 ∨ kc = 2 ∨ kc = 3) (zd : kd = 0 ∨ kd = 1 ∨ kd = 2 ∨ kd = 3) (ra : ca = (if ka = 0 then 1 else 0)) (rb : cb = (if kb = 0 then 1 else 0)) (rc : cc = (if kc = 0 then 1 else 0)) (rd : cd = (if kd = 0 then 1 else 0)) (r2 : f2 = (if cb = 0 then 0 else if ca = 0 then 1 else 0)) (r3 : f3 = (if cc = 0 then 0 else if ca = 0 then 1 else 0)) (r4 : f4 = (if cd = 0 then 0 else if ca = 0 then (if cc = 0 then 1 else 0) else 0)) :
    (endV (((0 : Int32) + 1) + 1) (stC (uriB kb) (nameB kb) ((0 : Int32) + 1) (stC (uriB ka) (nameB ka) (0 : Int32) (0 : Int32)))) = f2 ∧ (endV ((((((0 : Int32) + 1) + 1) - 1) + 1) + 1) (stC (uriB kd) (nameB kd) (((((0 : Int32) + 1) + 1) - 1) + 1) (stC (uriB kc) (nameB kc) ((((0 : Int32) + 1) + 1) - 1) (endC (((0 : Int32) + 1) + 1) (stC (uriB kb) (nameB kb) ((0 : Int32) + 1) (stC (uriB ka) (nameB ka) (0 : Int32) (0 : Int32))))))) = f4 ∧ (endV (((((((0 : Int32) + 1) + 1) - 1) + 1) + 1) - 1) (endC ((((((0 : Int32) + 1) + 1) - 1) + 1) + 1) (stC (uriB kd) (nameB kd) (((((0 : Int32) + 1) + 1) - 1) + 1) (stC (uriB kc) (nameB kc) ((((0 : Int32) + 1) + 1) - 1) (endC (((0 : Int32) + 1) + 1) (stC (uriB kb) (nameB kb) ((0 : Int32) + 1) (stC (uriB ka) (nameB ka) (0 : Int32) (0 : Int32)))))))) = f3 ∧ (openF (endC (((((((0 : Int32) + 1) + 1) - 1) + 1) + 1) - 1) (endC ((((((0 : Int32) + 1) + 1) - 1) + 1) + 1) (stC (uriB kd) (nameB kd) (((((0 : Int32) + 1) + 1) - 1) + 1) (stC (uriB kc) (nameB kc) ((((0 : Int32) + 1) + 1) - 1) (endC (((0 : Int32) + 1) + 1) (stC (uriB kb) (nameB kb) ((0 : Int32) + 1) (stC (uriB ka) (nameB ka) (0 : Int32) (0 : Int32))))))))) = ca ∧ (endV ((((((((0 : Int32) + 1) + 1) - 1) + 1) + 1) - 1) - 1) (endC (((((((0 : Int32) + 1) + 1) - 1) + 1) + 1) - 1) (endC ((((((0 : Int32) + 1) + 1) - 1) + 1) + 1) (stC (uriB kd) (nameB kd) (((((0 : Int32) + 1) + 1) - 1) + 1) (stC (uriB kc) (nameB kc) ((((0 : Int32) + 1) + 1) - 1) (endC (((0 : Int32) + 1) + 1) (stC (uriB kb) (nameB kb) ((0 : Int32) + 1) (stC (uriB ka) (nameB ka) (0 : Int32) (0 : Int32))))))))) = ca := by
  have hm : ∀ k : Int32, (k = 0 ∨ k = 1 ∨ k = 2 ∨ k = 3) → mtc (uriB k) (nameB k) = decide (k = 0) := by
    rintro k (rfl | rfl | rfl | rfl) <;> decide +kernel
  have h1 := hm _ za
  have h2 := hm _ zb
  have h3 := hm _ zc_
  have h4 := hm _ zd
  subst ra rb rc rd r2 r3 r4
  unfold stC endC endV openF
  simp only [h1, h2, h3, h4]
  by_cases a1 : ka = 0 <;> by_cases a2 : kb = 0 <;> by_cases a3 : kc = 0 <;> by_cases a4 : kd = 0 <;> simp [a1, a2, a3, a4] <;> decide
theorem pf_law : plainFor (⟨"com/example/fedlint/fedlint/CertificateTextEndPinLaw", "law", "(I)Z"⟩ : MethodName) = true := plainFor_of_name (by first | (simp [plainName, overriddenIn]; done) | decide +kernel)
set_option maxRecDepth 65536 in
set_option maxHeartbeats 40000000 in
theorem ct_law {l : Launch} {Z : State} {a0 : Array Value} (hw : ∀ d ∈ tables_1, d.before a0 Z = true) (ws : List Jvm.Cond) (h0 : Heap) (n0 : Nat) (x0 : Int32) (zc : Int32) (fv : Value) (hz : n0 ≤ h0.size) (hzc : ¬ zc = 0) (hfv : fv.isRef = true) (S_COMPACT_STRINGS : Sta Z h0 "java/lang/String" "COMPACT_STRINGS" "Z" (.int zc)) (S_SIOOBE_FORMATTER : Sta Z h0 "jdk/internal/util/Preconditions" "SIOOBE_FORMATTER" "Ljava/util/function/BiFunction;" fv) :
    CtH l Z EL 160 x code maxLocals ret ws room_1 1 4 7 #[.int x0] h0 n0 (fun v h => v = some (.int 1)) := by
  refine CtH.of (Ls := #[.val (.int x0), .unset, .unset, .unset, .unset, .unset, .unset, .unset, .unset, .unset, .unset, .unset, .unset, .unset, .unset, .unset, .unset, .unset, .unset]) pf_law (fun m => by first | (simp [entryFrame, mkF, argsToLocals, Value.category, maxLocals]; done) | rfl) ?_
  intro p e s m below meth c vm0 kk0 u C HS HK HC HU HB
  have hEL := hEL_ok hw
  have wS := wS_ok hw
  have hk : Keep h0 h0 [] := Keep.refl _ _
  have K129 : ∀ (ka kb kc kd ca cb cc cd f2 f3 f4 : Int32), (ka = 0 ∨ ka = 1 ∨ ka = 2 ∨ ka = 3) → (kb = 0 ∨ kb = 1 ∨ kb = 2 ∨ kb = 3) → (kc = 0 ∨ kc = 1 ∨ kc = 2 ∨ kc = 3) → (kd = 0 ∨ kd = 1 ∨ kd = 2 ∨ kd = 3) → (ca = (if ka = 0 then 1 else 0)) → (cb = (if kb = 0 then 1 else 0)) → (cc = (if kc = 0 then 1 else 0)) → (cd = (if kd = 0 then 1 else 0)) → (f2 = (if cb = 0 then 0 else if ca = 0 then 1 else 0)) → (f3 = (if cc = 0 then 0 else if ca = 0 then 1 else 0)) → (f4 = (if cd = 0 then 0 else if ca = 0 then (if cc = 0 then 1 else 0) else 0)) → Wp p l e room_1 (s.setVm vm0) m #[.int x0] below meth c n0 (EH Z EL 160 s 1 4 7) (fun v h => v = some (.int 1)) h0 (0 + 2 * u) (0 + 160 * u) (mkF m 129 #[.val (.int x0), .val (.int ka), .val (.int kb), .val (.int kc), .val (.int kd), .val (.int ca), .val (.int cb), .val (.int cc), .val (.int cd), .val (.int ca), .val (.int f2), .val (.int f3), .val (.int f4), .unset, .unset, .unset, .unset, .unset, .unset] []) := by
    intro ka kb kc kd ca cb cc cd f2 f3 f4 za zb zc_ zd ra rb rc rd r2 r3 r4
    refine w_new (pc' := 132) (ce' := (1 + 2 * u)) (sl' := (4 + 160 * u)) C (tw hw 0 rfl) (tw hw 1 rfl) (tw hw 2 rfl) at_129 rfl (ad rfl) (ad rfl) (leA HB (by decide)) (leM HB (by decide)) (fun h1 a1 e1 E1 A1 D1 => ?_)
    have g_a1 : n0 ≤ a1 := by rw [e1]; exact hz
    have fr_a1 : h0.size ≤ a1 := by rw [e1]; exact hk.1
    have hz : n0 ≤ h1.size := Nat.le_trans hz E1.1
    have hk := hk.ext E1
    have S_COMPACT_STRINGS := Sta.ext E1 S_COMPACT_STRINGS
    have S_SIOOBE_FORMATTER := Sta.ext E1 S_SIOOBE_FORMATTER
    have HC := HC.trans (CHr.ext E1 HC.1)
    have HK := Nat.le_trans HK E1.1
    have O_a1 : Obj Z h1 a1 "com/example/fedlint/fedlint/CertificateText" [("depth", "I", .int (0 : Int32)), ("certificateDepth", "I", .int (0 : Int32)), ("kept", "I", .int (0 : Int32))] := obj_CT hw A1 D1
    refine w_dup (pc' := 133) C at_132 rfl rfl ?_
    refine w_callI (pc' := 136) (argsL := []) (st := [.ref a1]) (W := 1) (ce' := (1 + 2 * u)) (sl' := (4 + 160 * u)) C rfl (tw hw 3 rfl) (tw hw 4 rfl) (tw hw 2 rfl) (tw hw 5 rfl) (by decide) at_133 rfl rfl (by decide) (by decide) (Nat.le_of_eq rfl) (ad rfl) (ad rfl) (leA HB (by decide)) (leM HB (by decide)) rfl (lenOf pd_2 rfl) (ct_init hw h1 n0 a1 (0 : Int32) (0 : Int32) (0 : Int32) hz O_a1) (k0 (fun h2 q2 => ?_))
    have K2 := q2
    have HC := HC.trans (CHr.keep K2 sf0 HC.1)
    have HK := Nat.le_trans HK K2.1
    have S_COMPACT_STRINGS := staKeep K2 nt0 S_COMPACT_STRINGS
    have S_SIOOBE_FORMATTER := staKeep K2 nt0 S_SIOOBE_FORMATTER
    have O_a1 := O_a1.keep K2 nin0
    have hz : n0 ≤ h2.size := Nat.le_trans hz K2.1
    have hk := Keep.app hk K2 (fun x hx => Or.inl hx) all0
    refine w_astore (pc' := 138) (Ls' := #[.val (.int x0), .val (.int ka), .val (.int kb), .val (.int kc), .val (.int kd), .val (.int ca), .val (.int cb), .val (.int cc), .val (.int cd), .val (.int ca), .val (.int f2), .val (.int f3), .val (.int f4), .val (.ref a1), .unset, .unset, .unset, .unset, .unset]) C at_136 rfl rfl rfl ?_
    refine w_aload (pc' := 140) C at_138 rfl rfl rfl ?_
    refine w_iloadN (pc' := 141) C at_140 rfl rfl ?_
    refine w_callSH (pc' := 144) (argsL := [.int ka]) (st := [.ref a1]) (W := 1) (cM := 0) (sM := 0) (Bm := 1) C (tw hw 9 rfl) (tw hw 10 rfl) (tw hw 11 rfl) (tw hw 12 rfl) (by decide) at_141 rfl rfl (by decide) (by decide) (Nat.le_of_eq rfl) (by decide) (by decide) rfl (lenOf pd_3 rfl) HS HK hEL HC HU HB (ct_uri hw h2 n0 ka hz) (fun vm3 kk3 v3 h3 u3 C HS HK HC HR3 HU HB q3 => ?_)
    obtain ⟨b3, rfl, y3, P3, R3, K3⟩ := q3
    refine w_norm (st' := [.ref b3, .ref a1]) rfl ?_
    have S_COMPACT_STRINGS := staKeep K3 nt0 S_COMPACT_STRINGS
    have S_SIOOBE_FORMATTER := staKeep K3 nt0 S_SIOOBE_FORMATTER
    have O_a1 := O_a1.keep K3 nin0
    have hz : n0 ≤ h3.size := Nat.le_trans hz K3.1
    have hk := Keep.app hk K3 (fun x hx => Or.inl hx) all0
    have O_b3 := P3
    have O_y3 := R3
    refine w_iloadN (pc' := 145) C at_144 rfl rfl ?_
    refine w_callSH (pc' := 148) (argsL := [.int ka]) (st := [.ref b3, .ref a1]) (W := 2) (cM := 0) (sM := 0) (Bm := 1) C (tw hw 21 rfl) (tw hw 22 rfl) (tw hw 11 rfl) (tw hw 23 rfl) (by decide) at_145 rfl rfl (by decide) (by decide) (Nat.le_of_eq rfl) (by decide) (by decide) rfl (lenOf pd_3 rfl) HS HK hEL HC HU HB (ct_name hw h3 n0 ka hz) (fun vm4 kk4 v4 h4 u4 C HS HK HC HR4 HU HB q4 => ?_)
    obtain ⟨b4, rfl, y4, P4, R4, K4⟩ := q4
    refine w_norm (st' := [.ref b4, .ref b3, .ref a1]) rfl ?_
    have S_COMPACT_STRINGS := staKeep K4 nt0 S_COMPACT_STRINGS
    have S_SIOOBE_FORMATTER := staKeep K4 nt0 S_SIOOBE_FORMATTER
    have O_a1 := O_a1.keep K4 nin0
    have O_b3 := O_b3.keep K4 nin0
    have O_y3 := O_y3.keep K4 nin0
    have hz : n0 ≤ h4.size := Nat.le_trans hz K4.1
    have hk := Keep.app hk K4 (fun x hx => Or.inl hx) all0
    have O_b4 := P4
    have O_y4 := R4
    refine w_callVH (Cl := "com/example/fedlint/fedlint/CertificateText") (pc' := 151) (argsL := [.ref b3, .ref b4]) (st := []) (W := 0) (cM := 0) (sM := 0) (Bm := 2) C (tw hw 25 rfl) (tw hw 26 rfl) (tw hw 28 rfl) (tw hw 27 rfl) (tw hw 2 rfl) (tw hw 29 rfl) (by decide) at_148 rfl rfl (by decide) (by decide) (Nat.le_of_eq rfl) (by decide) (by decide) rfl (lenOf pd_4 rfl) O_a1.1 HS HK hEL HC HU HB (ct_start hw h4 n0 a1 b3 b4 y3 y4 (0 : Int32) (0 : Int32) (0 : Int32) (uriB ka) (nameB ka) zc fv hz (uriB_len ka) (nameB_len ka) hzc hfv S_COMPACT_STRINGS S_SIOOBE_FORMATTER O_a1 O_b3 O_y3 O_b4 O_y4 g_a1) (fun vm5 kk5 v5 h5 u5 C HS HK HC HR5 HU HB q5 => ?_)
    obtain ⟨rv5, rfl, P5, K5⟩ := q5
    refine w_norm (st' := [.int rv5]) rfl ?_
    have S_COMPACT_STRINGS := staKeep K5 (ntS (ntE O_a1.1) nt0) S_COMPACT_STRINGS
    have S_SIOOBE_FORMATTER := staKeep K5 (ntS (ntE O_a1.1) nt0) S_SIOOBE_FORMATTER
    have hz : n0 ≤ h5.size := Nat.le_trans hz K5.1
    have hk := Keep.app hk K5 (fun x hx => Or.inl hx) (allS (Or.inr fr_a1) all0)
    have O_a1 := P5
    refine w_pop (pc' := 152) C at_151 rfl rfl ?_
    refine w_aload (pc' := 154) C at_152 rfl rfl rfl ?_
    refine w_iloadN (pc' := 155) C at_154 rfl rfl ?_
    refine w_callSH (pc' := 158) (argsL := [.int kb]) (st := [.ref a1]) (W := 1) (cM := 0) (sM := 0) (Bm := 1) C (tw hw 9 rfl) (tw hw 10 rfl) (tw hw 11 rfl) (tw hw 12 rfl) (by decide) at_155 rfl rfl (by decide) (by decide) (Nat.le_of_eq rfl) (by decide) (by decide) rfl (lenOf pd_3 rfl) HS HK hEL HC HU HB (ct_uri hw h5 n0 kb hz) (fun vm6 kk6 v6 h6 u6 C HS HK HC HR6 HU HB q6 => ?_)
    obtain ⟨b6, rfl, y6, P6, R6, K6⟩ := q6
    refine w_norm (st' := [.ref b6, .ref a1]) rfl ?_
    have S_COMPACT_STRINGS := staKeep K6 nt0 S_COMPACT_STRINGS
    have S_SIOOBE_FORMATTER := staKeep K6 nt0 S_SIOOBE_FORMATTER
    have O_a1 := O_a1.keep K6 nin0
    have hz : n0 ≤ h6.size := Nat.le_trans hz K6.1
    have hk := Keep.app hk K6 (fun x hx => Or.inl hx) all0
    have O_b6 := P6
    have O_y6 := R6
    refine w_iloadN (pc' := 159) C at_158 rfl rfl ?_
    refine w_callSH (pc' := 162) (argsL := [.int kb]) (st := [.ref b6, .ref a1]) (W := 2) (cM := 0) (sM := 0) (Bm := 1) C (tw hw 21 rfl) (tw hw 22 rfl) (tw hw 11 rfl) (tw hw 23 rfl) (by decide) at_159 rfl rfl (by decide) (by decide) (Nat.le_of_eq rfl) (by decide) (by decide) rfl (lenOf pd_3 rfl) HS HK hEL HC HU HB (ct_name hw h6 n0 kb hz) (fun vm7 kk7 v7 h7 u7 C HS HK HC HR7 HU HB q7 => ?_)
    obtain ⟨b7, rfl, y7, P7, R7, K7⟩ := q7
    refine w_norm (st' := [.ref b7, .ref b6, .ref a1]) rfl ?_
    have S_COMPACT_STRINGS := staKeep K7 nt0 S_COMPACT_STRINGS
    have S_SIOOBE_FORMATTER := staKeep K7 nt0 S_SIOOBE_FORMATTER
    have O_a1 := O_a1.keep K7 nin0
    have O_b6 := O_b6.keep K7 nin0
    have O_y6 := O_y6.keep K7 nin0
    have hz : n0 ≤ h7.size := Nat.le_trans hz K7.1
    have hk := Keep.app hk K7 (fun x hx => Or.inl hx) all0
    have O_b7 := P7
    have O_y7 := R7
    refine w_callVH (Cl := "com/example/fedlint/fedlint/CertificateText") (pc' := 165) (argsL := [.ref b6, .ref b7]) (st := []) (W := 0) (cM := 0) (sM := 0) (Bm := 2) C (tw hw 25 rfl) (tw hw 26 rfl) (tw hw 28 rfl) (tw hw 27 rfl) (tw hw 2 rfl) (tw hw 29 rfl) (by decide) at_162 rfl rfl (by decide) (by decide) (Nat.le_of_eq rfl) (by decide) (by decide) rfl (lenOf pd_4 rfl) O_a1.1 HS HK hEL HC HU HB (ct_start hw h7 n0 a1 b6 b7 y6 y7 ((0 : Int32) + 1) (stC (uriB ka) (nameB ka) (0 : Int32) (0 : Int32)) (stK (uriB ka) (nameB ka) (0 : Int32) (0 : Int32)) (uriB kb) (nameB kb) zc fv hz (uriB_len kb) (nameB_len kb) hzc hfv S_COMPACT_STRINGS S_SIOOBE_FORMATTER O_a1 O_b6 O_y6 O_b7 O_y7 g_a1) (fun vm8 kk8 v8 h8 u8 C HS HK HC HR8 HU HB q8 => ?_)
    obtain ⟨rv8, rfl, P8, K8⟩ := q8
    have HB : u8 ≤ 7 := Nat.le_trans (Nat.le_add_right _ _) (Nat.le_trans HU (NR_le _ _))
    refine w_norm (st' := [.int rv8]) rfl ?_
    have S_COMPACT_STRINGS := staKeep K8 (ntS (ntE O_a1.1) nt0) S_COMPACT_STRINGS
    have S_SIOOBE_FORMATTER := staKeep K8 (ntS (ntE O_a1.1) nt0) S_SIOOBE_FORMATTER
    have hz : n0 ≤ h8.size := Nat.le_trans hz K8.1
    have hk := Keep.app hk K8 (fun x hx => Or.inl hx) (allS (Or.inr fr_a1) all0)
    have O_a1 := P8
    refine w_pop (pc' := 166) C at_165 rfl rfl ?_
    refine w_aload (pc' := 168) C at_166 rfl rfl rfl ?_
    refine w_callV (Cl := "com/example/fedlint/fedlint/CertificateText") (pc' := 171) (argsL := []) (st := []) (W := 0) (ce' := (1 + 2 * u8)) (sl' := (4 + 160 * u8)) C (tw hw 43 rfl) (tw hw 44 rfl) (tw hw 46 rfl) (tw hw 45 rfl) (tw hw 2 rfl) (tw hw 47 rfl) (by decide) at_168 rfl rfl (by decide) (by decide) (Nat.le_of_eq rfl) (ad rfl) (ad rfl) (leA HB (by decide)) (leM HB (by decide)) rfl (lenOf pd_5 rfl) O_a1.1 (ct_ende hw h8 n0 a1 (((0 : Int32) + 1) + 1) (stC (uriB kb) (nameB kb) ((0 : Int32) + 1) (stC (uriB ka) (nameB ka) (0 : Int32) (0 : Int32))) (stK (uriB kb) (nameB kb) (stC (uriB ka) (nameB ka) (0 : Int32) (0 : Int32)) (stK (uriB ka) (nameB ka) (0 : Int32) (0 : Int32))) hz O_a1 g_a1) (k1 (fun h9 q9 => ?_))
    obtain ⟨P9, K9⟩ := q9
    have HC := HC.trans (CHr.keep K9 (sfS (Safe.exa C.2.2.1.alike O_a1.1 (by decide) (by decide)) sf0) HC.1)
    have HK := Nat.le_trans HK K9.1
    have S_COMPACT_STRINGS := staKeep K9 (ntS (ntE O_a1.1) nt0) S_COMPACT_STRINGS
    have S_SIOOBE_FORMATTER := staKeep K9 (ntS (ntE O_a1.1) nt0) S_SIOOBE_FORMATTER
    have hz : n0 ≤ h9.size := Nat.le_trans hz K9.1
    have hk := Keep.app hk K9 (fun x hx => Or.inl hx) (allS (Or.inr fr_a1) all0)
    have O_a1 := P9
    refine w_istore (pc' := 173) (Ls' := #[.val (.int x0), .val (.int ka), .val (.int kb), .val (.int kc), .val (.int kd), .val (.int ca), .val (.int cb), .val (.int cc), .val (.int cd), .val (.int ca), .val (.int f2), .val (.int f3), .val (.int f4), .val (.ref a1), .val (.int (endV (((0 : Int32) + 1) + 1) (stC (uriB kb) (nameB kb) ((0 : Int32) + 1) (stC (uriB ka) (nameB ka) (0 : Int32) (0 : Int32))))), .unset, .unset, .unset, .unset]) C at_171 rfl rfl ?_
    refine w_aload (pc' := 175) C at_173 rfl rfl rfl ?_
    refine w_iloadN (pc' := 176) C at_175 rfl rfl ?_
    refine w_callSH (pc' := 179) (argsL := [.int kc]) (st := [.ref a1]) (W := 1) (cM := 0) (sM := 0) (Bm := 1) C (tw hw 9 rfl) (tw hw 10 rfl) (tw hw 11 rfl) (tw hw 12 rfl) (by decide) at_176 rfl rfl (by decide) (by decide) (Nat.le_of_eq rfl) (by decide) (by decide) rfl (lenOf pd_3 rfl) HS HK hEL HC HU HB (ct_uri hw h9 n0 kc hz) (fun vm10 kk10 v10 h10 u10 C HS HK HC HR10 HU HB q10 => ?_)
    obtain ⟨b10, rfl, y10, P10, R10, K10⟩ := q10
    have HB : u10 ≤ 7 := Nat.le_trans (Nat.le_add_right _ _) (Nat.le_trans HU (NR_le _ _))
    refine w_norm (st' := [.ref b10, .ref a1]) rfl ?_
    have S_COMPACT_STRINGS := staKeep K10 nt0 S_COMPACT_STRINGS
    have S_SIOOBE_FORMATTER := staKeep K10 nt0 S_SIOOBE_FORMATTER
    have O_a1 := O_a1.keep K10 nin0
    have hz : n0 ≤ h10.size := Nat.le_trans hz K10.1
    have hk := Keep.app hk K10 (fun x hx => Or.inl hx) all0
    have O_b10 := P10
    have O_y10 := R10
    refine w_iloadN (pc' := 180) C at_179 rfl rfl ?_
    refine w_callSH (pc' := 183) (argsL := [.int kc]) (st := [.ref b10, .ref a1]) (W := 2) (cM := 0) (sM := 0) (Bm := 1) C (tw hw 21 rfl) (tw hw 22 rfl) (tw hw 11 rfl) (tw hw 23 rfl) (by decide) at_180 rfl rfl (by decide) (by decide) (Nat.le_of_eq rfl) (by decide) (by decide) rfl (lenOf pd_3 rfl) HS HK hEL HC HU HB (ct_name hw h10 n0 kc hz) (fun vm11 kk11 v11 h11 u11 C HS HK HC HR11 HU HB q11 => ?_)
    obtain ⟨b11, rfl, y11, P11, R11, K11⟩ := q11
    have HB : u11 ≤ 7 := Nat.le_trans (Nat.le_add_right _ _) (Nat.le_trans HU (NR_le _ _))
    refine w_norm (st' := [.ref b11, .ref b10, .ref a1]) rfl ?_
    have S_COMPACT_STRINGS := staKeep K11 nt0 S_COMPACT_STRINGS
    have S_SIOOBE_FORMATTER := staKeep K11 nt0 S_SIOOBE_FORMATTER
    have O_a1 := O_a1.keep K11 nin0
    have O_b10 := O_b10.keep K11 nin0
    have O_y10 := O_y10.keep K11 nin0
    have hz : n0 ≤ h11.size := Nat.le_trans hz K11.1
    have hk := Keep.app hk K11 (fun x hx => Or.inl hx) all0
    have O_b11 := P11
    have O_y11 := R11
    refine w_callVH (Cl := "com/example/fedlint/fedlint/CertificateText") (pc' := 186) (argsL := [.ref b10, .ref b11]) (st := []) (W := 0) (cM := 0) (sM := 0) (Bm := 2) C (tw hw 25 rfl) (tw hw 26 rfl) (tw hw 28 rfl) (tw hw 27 rfl) (tw hw 2 rfl) (tw hw 29 rfl) (by decide) at_183 rfl rfl (by decide) (by decide) (Nat.le_of_eq rfl) (by decide) (by decide) rfl (lenOf pd_4 rfl) O_a1.1 HS HK hEL HC HU HB (ct_start hw h11 n0 a1 b10 b11 y10 y11 ((((0 : Int32) + 1) + 1) - 1) (endC (((0 : Int32) + 1) + 1) (stC (uriB kb) (nameB kb) ((0 : Int32) + 1) (stC (uriB ka) (nameB ka) (0 : Int32) (0 : Int32)))) (stK (uriB kb) (nameB kb) (stC (uriB ka) (nameB ka) (0 : Int32) (0 : Int32)) (stK (uriB ka) (nameB ka) (0 : Int32) (0 : Int32))) (uriB kc) (nameB kc) zc fv hz (uriB_len kc) (nameB_len kc) hzc hfv S_COMPACT_STRINGS S_SIOOBE_FORMATTER O_a1 O_b10 O_y10 O_b11 O_y11 g_a1) (fun vm12 kk12 v12 h12 u12 C HS HK HC HR12 HU HB q12 => ?_)
    obtain ⟨rv12, rfl, P12, K12⟩ := q12
    have HB : u12 ≤ 7 := Nat.le_trans (Nat.le_add_right _ _) (Nat.le_trans HU (NR_le _ _))
    refine w_norm (st' := [.int rv12]) rfl ?_
    have S_COMPACT_STRINGS := staKeep K12 (ntS (ntE O_a1.1) nt0) S_COMPACT_STRINGS
    have S_SIOOBE_FORMATTER := staKeep K12 (ntS (ntE O_a1.1) nt0) S_SIOOBE_FORMATTER
    have hz : n0 ≤ h12.size := Nat.le_trans hz K12.1
    have hk := Keep.app hk K12 (fun x hx => Or.inl hx) (allS (Or.inr fr_a1) all0)
    have O_a1 := P12
    refine w_pop (pc' := 187) C at_186 rfl rfl ?_
    refine w_aload (pc' := 189) C at_187 rfl rfl rfl ?_
    refine w_iload (pc' := 191) C at_189 rfl rfl ?_
    refine w_callSH (pc' := 194) (argsL := [.int kd]) (st := [.ref a1]) (W := 1) (cM := 0) (sM := 0) (Bm := 1) C (tw hw 9 rfl) (tw hw 10 rfl) (tw hw 11 rfl) (tw hw 12 rfl) (by decide) at_191 rfl rfl (by decide) (by decide) (Nat.le_of_eq rfl) (by decide) (by decide) rfl (lenOf pd_3 rfl) HS HK hEL HC HU HB (ct_uri hw h12 n0 kd hz) (fun vm13 kk13 v13 h13 u13 C HS HK HC HR13 HU HB q13 => ?_)
    obtain ⟨b13, rfl, y13, P13, R13, K13⟩ := q13
    have HB : u13 ≤ 7 := Nat.le_trans (Nat.le_add_right _ _) (Nat.le_trans HU (NR_le _ _))
    refine w_norm (st' := [.ref b13, .ref a1]) rfl ?_
    have S_COMPACT_STRINGS := staKeep K13 nt0 S_COMPACT_STRINGS
    have S_SIOOBE_FORMATTER := staKeep K13 nt0 S_SIOOBE_FORMATTER
    have O_a1 := O_a1.keep K13 nin0
    have hz : n0 ≤ h13.size := Nat.le_trans hz K13.1
    have hk := Keep.app hk K13 (fun x hx => Or.inl hx) all0
    have O_b13 := P13
    have O_y13 := R13
    refine w_iload (pc' := 196) C at_194 rfl rfl ?_
    refine w_callSH (pc' := 199) (argsL := [.int kd]) (st := [.ref b13, .ref a1]) (W := 2) (cM := 0) (sM := 0) (Bm := 1) C (tw hw 21 rfl) (tw hw 22 rfl) (tw hw 11 rfl) (tw hw 23 rfl) (by decide) at_196 rfl rfl (by decide) (by decide) (Nat.le_of_eq rfl) (by decide) (by decide) rfl (lenOf pd_3 rfl) HS HK hEL HC HU HB (ct_name hw h13 n0 kd hz) (fun vm14 kk14 v14 h14 u14 C HS HK HC HR14 HU HB q14 => ?_)
    obtain ⟨b14, rfl, y14, P14, R14, K14⟩ := q14
    have HB : u14 ≤ 7 := Nat.le_trans (Nat.le_add_right _ _) (Nat.le_trans HU (NR_le _ _))
    refine w_norm (st' := [.ref b14, .ref b13, .ref a1]) rfl ?_
    have S_COMPACT_STRINGS := staKeep K14 nt0 S_COMPACT_STRINGS
    have S_SIOOBE_FORMATTER := staKeep K14 nt0 S_SIOOBE_FORMATTER
    have O_a1 := O_a1.keep K14 nin0
    have O_b13 := O_b13.keep K14 nin0
    have O_y13 := O_y13.keep K14 nin0
    have hz : n0 ≤ h14.size := Nat.le_trans hz K14.1
    have hk := Keep.app hk K14 (fun x hx => Or.inl hx) all0
    have O_b14 := P14
    have O_y14 := R14
    refine w_callVH (Cl := "com/example/fedlint/fedlint/CertificateText") (pc' := 202) (argsL := [.ref b13, .ref b14]) (st := []) (W := 0) (cM := 0) (sM := 0) (Bm := 2) C (tw hw 25 rfl) (tw hw 26 rfl) (tw hw 28 rfl) (tw hw 27 rfl) (tw hw 2 rfl) (tw hw 29 rfl) (by decide) at_199 rfl rfl (by decide) (by decide) (Nat.le_of_eq rfl) (by decide) (by decide) rfl (lenOf pd_4 rfl) O_a1.1 HS HK hEL HC HU HB (ct_start hw h14 n0 a1 b13 b14 y13 y14 (((((0 : Int32) + 1) + 1) - 1) + 1) (stC (uriB kc) (nameB kc) ((((0 : Int32) + 1) + 1) - 1) (endC (((0 : Int32) + 1) + 1) (stC (uriB kb) (nameB kb) ((0 : Int32) + 1) (stC (uriB ka) (nameB ka) (0 : Int32) (0 : Int32))))) (stK (uriB kc) (nameB kc) (endC (((0 : Int32) + 1) + 1) (stC (uriB kb) (nameB kb) ((0 : Int32) + 1) (stC (uriB ka) (nameB ka) (0 : Int32) (0 : Int32)))) (stK (uriB kb) (nameB kb) (stC (uriB ka) (nameB ka) (0 : Int32) (0 : Int32)) (stK (uriB ka) (nameB ka) (0 : Int32) (0 : Int32)))) (uriB kd) (nameB kd) zc fv hz (uriB_len kd) (nameB_len kd) hzc hfv S_COMPACT_STRINGS S_SIOOBE_FORMATTER O_a1 O_b13 O_y13 O_b14 O_y14 g_a1) (fun vm15 kk15 v15 h15 u15 C HS HK HC HR15 HU HB q15 => ?_)
    obtain ⟨rv15, rfl, P15, K15⟩ := q15
    have HB : u15 ≤ 7 := Nat.le_trans (Nat.le_add_right _ _) (Nat.le_trans HU (NR_le _ _))
    refine w_norm (st' := [.int rv15]) rfl ?_
    have S_COMPACT_STRINGS := staKeep K15 (ntS (ntE O_a1.1) nt0) S_COMPACT_STRINGS
    have S_SIOOBE_FORMATTER := staKeep K15 (ntS (ntE O_a1.1) nt0) S_SIOOBE_FORMATTER
    have hz : n0 ≤ h15.size := Nat.le_trans hz K15.1
    have hk := Keep.app hk K15 (fun x hx => Or.inl hx) (allS (Or.inr fr_a1) all0)
    have O_a1 := P15
    refine w_pop (pc' := 203) C at_202 rfl rfl ?_
    refine w_aload (pc' := 205) C at_203 rfl rfl rfl ?_
    refine w_callV (Cl := "com/example/fedlint/fedlint/CertificateText") (pc' := 208) (argsL := []) (st := []) (W := 0) (ce' := (1 + 2 * u15)) (sl' := (4 + 160 * u15)) C (tw hw 43 rfl) (tw hw 44 rfl) (tw hw 46 rfl) (tw hw 45 rfl) (tw hw 2 rfl) (tw hw 47 rfl) (by decide) at_205 rfl rfl (by decide) (by decide) (Nat.le_of_eq rfl) (ad rfl) (ad rfl) (leA HB (by decide)) (leM HB (by decide)) rfl (lenOf pd_5 rfl) O_a1.1 (ct_ende hw h15 n0 a1 ((((((0 : Int32) + 1) + 1) - 1) + 1) + 1) (stC (uriB kd) (nameB kd) (((((0 : Int32) + 1) + 1) - 1) + 1) (stC (uriB kc) (nameB kc) ((((0 : Int32) + 1) + 1) - 1) (endC (((0 : Int32) + 1) + 1) (stC (uriB kb) (nameB kb) ((0 : Int32) + 1) (stC (uriB ka) (nameB ka) (0 : Int32) (0 : Int32)))))) (stK (uriB kd) (nameB kd) (stC (uriB kc) (nameB kc) ((((0 : Int32) + 1) + 1) - 1) (endC (((0 : Int32) + 1) + 1) (stC (uriB kb) (nameB kb) ((0 : Int32) + 1) (stC (uriB ka) (nameB ka) (0 : Int32) (0 : Int32))))) (stK (uriB kc) (nameB kc) (endC (((0 : Int32) + 1) + 1) (stC (uriB kb) (nameB kb) ((0 : Int32) + 1) (stC (uriB ka) (nameB ka) (0 : Int32) (0 : Int32)))) (stK (uriB kb) (nameB kb) (stC (uriB ka) (nameB ka) (0 : Int32) (0 : Int32)) (stK (uriB ka) (nameB ka) (0 : Int32) (0 : Int32))))) hz O_a1 g_a1) (k1 (fun h16 q16 => ?_))
    obtain ⟨P16, K16⟩ := q16
    have HC := HC.trans (CHr.keep K16 (sfS (Safe.exa C.2.2.1.alike O_a1.1 (by decide) (by decide)) sf0) HC.1)
    have HK := Nat.le_trans HK K16.1
    have S_COMPACT_STRINGS := staKeep K16 (ntS (ntE O_a1.1) nt0) S_COMPACT_STRINGS
    have S_SIOOBE_FORMATTER := staKeep K16 (ntS (ntE O_a1.1) nt0) S_SIOOBE_FORMATTER
    have hz : n0 ≤ h16.size := Nat.le_trans hz K16.1
    have hk := Keep.app hk K16 (fun x hx => Or.inl hx) (allS (Or.inr fr_a1) all0)
    have O_a1 := P16
    refine w_istore (pc' := 210) (Ls' := #[.val (.int x0), .val (.int ka), .val (.int kb), .val (.int kc), .val (.int kd), .val (.int ca), .val (.int cb), .val (.int cc), .val (.int cd), .val (.int ca), .val (.int f2), .val (.int f3), .val (.int f4), .val (.ref a1), .val (.int (endV (((0 : Int32) + 1) + 1) (stC (uriB kb) (nameB kb) ((0 : Int32) + 1) (stC (uriB ka) (nameB ka) (0 : Int32) (0 : Int32))))), .val (.int (endV ((((((0 : Int32) + 1) + 1) - 1) + 1) + 1) (stC (uriB kd) (nameB kd) (((((0 : Int32) + 1) + 1) - 1) + 1) (stC (uriB kc) (nameB kc) ((((0 : Int32) + 1) + 1) - 1) (endC (((0 : Int32) + 1) + 1) (stC (uriB kb) (nameB kb) ((0 : Int32) + 1) (stC (uriB ka) (nameB ka) (0 : Int32) (0 : Int32)))))))), .unset, .unset, .unset]) C at_208 rfl rfl ?_
    refine w_aload (pc' := 212) C at_210 rfl rfl rfl ?_
    refine w_callV (Cl := "com/example/fedlint/fedlint/CertificateText") (pc' := 215) (argsL := []) (st := []) (W := 0) (ce' := (1 + 2 * u15)) (sl' := (4 + 160 * u15)) C (tw hw 43 rfl) (tw hw 44 rfl) (tw hw 46 rfl) (tw hw 45 rfl) (tw hw 2 rfl) (tw hw 47 rfl) (by decide) at_212 rfl rfl (by decide) (by decide) (Nat.le_of_eq rfl) (ad rfl) (ad rfl) (leA HB (by decide)) (leM HB (by decide)) rfl (lenOf pd_5 rfl) O_a1.1 (ct_ende hw h16 n0 a1 (((((((0 : Int32) + 1) + 1) - 1) + 1) + 1) - 1) (endC ((((((0 : Int32) + 1) + 1) - 1) + 1) + 1) (stC (uriB kd) (nameB kd) (((((0 : Int32) + 1) + 1) - 1) + 1) (stC (uriB kc) (nameB kc) ((((0 : Int32) + 1) + 1) - 1) (endC (((0 : Int32) + 1) + 1) (stC (uriB kb) (nameB kb) ((0 : Int32) + 1) (stC (uriB ka) (nameB ka) (0 : Int32) (0 : Int32))))))) (stK (uriB kd) (nameB kd) (stC (uriB kc) (nameB kc) ((((0 : Int32) + 1) + 1) - 1) (endC (((0 : Int32) + 1) + 1) (stC (uriB kb) (nameB kb) ((0 : Int32) + 1) (stC (uriB ka) (nameB ka) (0 : Int32) (0 : Int32))))) (stK (uriB kc) (nameB kc) (endC (((0 : Int32) + 1) + 1) (stC (uriB kb) (nameB kb) ((0 : Int32) + 1) (stC (uriB ka) (nameB ka) (0 : Int32) (0 : Int32)))) (stK (uriB kb) (nameB kb) (stC (uriB ka) (nameB ka) (0 : Int32) (0 : Int32)) (stK (uriB ka) (nameB ka) (0 : Int32) (0 : Int32))))) hz O_a1 g_a1) (k1 (fun h17 q17 => ?_))
    obtain ⟨P17, K17⟩ := q17
    have HC := HC.trans (CHr.keep K17 (sfS (Safe.exa C.2.2.1.alike O_a1.1 (by decide) (by decide)) sf0) HC.1)
    have HK := Nat.le_trans HK K17.1
    have S_COMPACT_STRINGS := staKeep K17 (ntS (ntE O_a1.1) nt0) S_COMPACT_STRINGS
    have S_SIOOBE_FORMATTER := staKeep K17 (ntS (ntE O_a1.1) nt0) S_SIOOBE_FORMATTER
    have hz : n0 ≤ h17.size := Nat.le_trans hz K17.1
    have hk := Keep.app hk K17 (fun x hx => Or.inl hx) (allS (Or.inr fr_a1) all0)
    have O_a1 := P17
    refine w_istore (pc' := 217) (Ls' := #[.val (.int x0), .val (.int ka), .val (.int kb), .val (.int kc), .val (.int kd), .val (.int ca), .val (.int cb), .val (.int cc), .val (.int cd), .val (.int ca), .val (.int f2), .val (.int f3), .val (.int f4), .val (.ref a1), .val (.int (endV (((0 : Int32) + 1) + 1) (stC (uriB kb) (nameB kb) ((0 : Int32) + 1) (stC (uriB ka) (nameB ka) (0 : Int32) (0 : Int32))))), .val (.int (endV ((((((0 : Int32) + 1) + 1) - 1) + 1) + 1) (stC (uriB kd) (nameB kd) (((((0 : Int32) + 1) + 1) - 1) + 1) (stC (uriB kc) (nameB kc) ((((0 : Int32) + 1) + 1) - 1) (endC (((0 : Int32) + 1) + 1) (stC (uriB kb) (nameB kb) ((0 : Int32) + 1) (stC (uriB ka) (nameB ka) (0 : Int32) (0 : Int32)))))))), .val (.int (endV (((((((0 : Int32) + 1) + 1) - 1) + 1) + 1) - 1) (endC ((((((0 : Int32) + 1) + 1) - 1) + 1) + 1) (stC (uriB kd) (nameB kd) (((((0 : Int32) + 1) + 1) - 1) + 1) (stC (uriB kc) (nameB kc) ((((0 : Int32) + 1) + 1) - 1) (endC (((0 : Int32) + 1) + 1) (stC (uriB kb) (nameB kb) ((0 : Int32) + 1) (stC (uriB ka) (nameB ka) (0 : Int32) (0 : Int32))))))))), .unset, .unset]) C at_215 rfl rfl ?_
    refine w_aload (pc' := 219) C at_217 rfl rfl rfl ?_
    refine w_callV (Cl := "com/example/fedlint/fedlint/CertificateText") (pc' := 222) (argsL := []) (st := []) (W := 0) (ce' := (1 + 2 * u15)) (sl' := (4 + 160 * u15)) C (tw hw 48 rfl) (tw hw 49 rfl) (tw hw 51 rfl) (tw hw 50 rfl) (tw hw 2 rfl) (tw hw 52 rfl) (by decide) at_219 rfl rfl (by decide) (by decide) (Nat.le_of_eq rfl) (ad rfl) (ad rfl) (leA HB (by decide)) (leM HB (by decide)) rfl (lenOf pd_5 rfl) O_a1.1 (ct_openF hw h17 n0 a1 ((((((((0 : Int32) + 1) + 1) - 1) + 1) + 1) - 1) - 1) (endC (((((((0 : Int32) + 1) + 1) - 1) + 1) + 1) - 1) (endC ((((((0 : Int32) + 1) + 1) - 1) + 1) + 1) (stC (uriB kd) (nameB kd) (((((0 : Int32) + 1) + 1) - 1) + 1) (stC (uriB kc) (nameB kc) ((((0 : Int32) + 1) + 1) - 1) (endC (((0 : Int32) + 1) + 1) (stC (uriB kb) (nameB kb) ((0 : Int32) + 1) (stC (uriB ka) (nameB ka) (0 : Int32) (0 : Int32)))))))) (stK (uriB kd) (nameB kd) (stC (uriB kc) (nameB kc) ((((0 : Int32) + 1) + 1) - 1) (endC (((0 : Int32) + 1) + 1) (stC (uriB kb) (nameB kb) ((0 : Int32) + 1) (stC (uriB ka) (nameB ka) (0 : Int32) (0 : Int32))))) (stK (uriB kc) (nameB kc) (endC (((0 : Int32) + 1) + 1) (stC (uriB kb) (nameB kb) ((0 : Int32) + 1) (stC (uriB ka) (nameB ka) (0 : Int32) (0 : Int32)))) (stK (uriB kb) (nameB kb) (stC (uriB ka) (nameB ka) (0 : Int32) (0 : Int32)) (stK (uriB ka) (nameB ka) (0 : Int32) (0 : Int32))))) O_a1) (kp ?_)
    refine w_istore (pc' := 224) (Ls' := #[.val (.int x0), .val (.int ka), .val (.int kb), .val (.int kc), .val (.int kd), .val (.int ca), .val (.int cb), .val (.int cc), .val (.int cd), .val (.int ca), .val (.int f2), .val (.int f3), .val (.int f4), .val (.ref a1), .val (.int (endV (((0 : Int32) + 1) + 1) (stC (uriB kb) (nameB kb) ((0 : Int32) + 1) (stC (uriB ka) (nameB ka) (0 : Int32) (0 : Int32))))), .val (.int (endV ((((((0 : Int32) + 1) + 1) - 1) + 1) + 1) (stC (uriB kd) (nameB kd) (((((0 : Int32) + 1) + 1) - 1) + 1) (stC (uriB kc) (nameB kc) ((((0 : Int32) + 1) + 1) - 1) (endC (((0 : Int32) + 1) + 1) (stC (uriB kb) (nameB kb) ((0 : Int32) + 1) (stC (uriB ka) (nameB ka) (0 : Int32) (0 : Int32)))))))), .val (.int (endV (((((((0 : Int32) + 1) + 1) - 1) + 1) + 1) - 1) (endC ((((((0 : Int32) + 1) + 1) - 1) + 1) + 1) (stC (uriB kd) (nameB kd) (((((0 : Int32) + 1) + 1) - 1) + 1) (stC (uriB kc) (nameB kc) ((((0 : Int32) + 1) + 1) - 1) (endC (((0 : Int32) + 1) + 1) (stC (uriB kb) (nameB kb) ((0 : Int32) + 1) (stC (uriB ka) (nameB ka) (0 : Int32) (0 : Int32))))))))), .val (.int (openF (endC (((((((0 : Int32) + 1) + 1) - 1) + 1) + 1) - 1) (endC ((((((0 : Int32) + 1) + 1) - 1) + 1) + 1) (stC (uriB kd) (nameB kd) (((((0 : Int32) + 1) + 1) - 1) + 1) (stC (uriB kc) (nameB kc) ((((0 : Int32) + 1) + 1) - 1) (endC (((0 : Int32) + 1) + 1) (stC (uriB kb) (nameB kb) ((0 : Int32) + 1) (stC (uriB ka) (nameB ka) (0 : Int32) (0 : Int32)))))))))), .unset]) C at_222 rfl rfl ?_
    refine w_aload (pc' := 226) C at_224 rfl rfl rfl ?_
    refine w_callV (Cl := "com/example/fedlint/fedlint/CertificateText") (pc' := 229) (argsL := []) (st := []) (W := 0) (ce' := (1 + 2 * u15)) (sl' := (4 + 160 * u15)) C (tw hw 43 rfl) (tw hw 44 rfl) (tw hw 46 rfl) (tw hw 45 rfl) (tw hw 2 rfl) (tw hw 47 rfl) (by decide) at_226 rfl rfl (by decide) (by decide) (Nat.le_of_eq rfl) (ad rfl) (ad rfl) (leA HB (by decide)) (leM HB (by decide)) rfl (lenOf pd_5 rfl) O_a1.1 (ct_ende hw h17 n0 a1 ((((((((0 : Int32) + 1) + 1) - 1) + 1) + 1) - 1) - 1) (endC (((((((0 : Int32) + 1) + 1) - 1) + 1) + 1) - 1) (endC ((((((0 : Int32) + 1) + 1) - 1) + 1) + 1) (stC (uriB kd) (nameB kd) (((((0 : Int32) + 1) + 1) - 1) + 1) (stC (uriB kc) (nameB kc) ((((0 : Int32) + 1) + 1) - 1) (endC (((0 : Int32) + 1) + 1) (stC (uriB kb) (nameB kb) ((0 : Int32) + 1) (stC (uriB ka) (nameB ka) (0 : Int32) (0 : Int32)))))))) (stK (uriB kd) (nameB kd) (stC (uriB kc) (nameB kc) ((((0 : Int32) + 1) + 1) - 1) (endC (((0 : Int32) + 1) + 1) (stC (uriB kb) (nameB kb) ((0 : Int32) + 1) (stC (uriB ka) (nameB ka) (0 : Int32) (0 : Int32))))) (stK (uriB kc) (nameB kc) (endC (((0 : Int32) + 1) + 1) (stC (uriB kb) (nameB kb) ((0 : Int32) + 1) (stC (uriB ka) (nameB ka) (0 : Int32) (0 : Int32)))) (stK (uriB kb) (nameB kb) (stC (uriB ka) (nameB ka) (0 : Int32) (0 : Int32)) (stK (uriB ka) (nameB ka) (0 : Int32) (0 : Int32))))) hz O_a1 g_a1) (k1 (fun h18 q18 => ?_))
    obtain ⟨P18, K18⟩ := q18
    have HC := HC.trans (CHr.keep K18 (sfS (Safe.exa C.2.2.1.alike O_a1.1 (by decide) (by decide)) sf0) HC.1)
    have HK := Nat.le_trans HK K18.1
    have S_COMPACT_STRINGS := staKeep K18 (ntS (ntE O_a1.1) nt0) S_COMPACT_STRINGS
    have S_SIOOBE_FORMATTER := staKeep K18 (ntS (ntE O_a1.1) nt0) S_SIOOBE_FORMATTER
    have hz : n0 ≤ h18.size := Nat.le_trans hz K18.1
    have hk := Keep.app hk K18 (fun x hx => Or.inl hx) (allS (Or.inr fr_a1) all0)
    have O_a1 := P18
    refine w_istore (pc' := 231) (Ls' := #[.val (.int x0), .val (.int ka), .val (.int kb), .val (.int kc), .val (.int kd), .val (.int ca), .val (.int cb), .val (.int cc), .val (.int cd), .val (.int ca), .val (.int f2), .val (.int f3), .val (.int f4), .val (.ref a1), .val (.int (endV (((0 : Int32) + 1) + 1) (stC (uriB kb) (nameB kb) ((0 : Int32) + 1) (stC (uriB ka) (nameB ka) (0 : Int32) (0 : Int32))))), .val (.int (endV ((((((0 : Int32) + 1) + 1) - 1) + 1) + 1) (stC (uriB kd) (nameB kd) (((((0 : Int32) + 1) + 1) - 1) + 1) (stC (uriB kc) (nameB kc) ((((0 : Int32) + 1) + 1) - 1) (endC (((0 : Int32) + 1) + 1) (stC (uriB kb) (nameB kb) ((0 : Int32) + 1) (stC (uriB ka) (nameB ka) (0 : Int32) (0 : Int32)))))))), .val (.int (endV (((((((0 : Int32) + 1) + 1) - 1) + 1) + 1) - 1) (endC ((((((0 : Int32) + 1) + 1) - 1) + 1) + 1) (stC (uriB kd) (nameB kd) (((((0 : Int32) + 1) + 1) - 1) + 1) (stC (uriB kc) (nameB kc) ((((0 : Int32) + 1) + 1) - 1) (endC (((0 : Int32) + 1) + 1) (stC (uriB kb) (nameB kb) ((0 : Int32) + 1) (stC (uriB ka) (nameB ka) (0 : Int32) (0 : Int32))))))))), .val (.int (openF (endC (((((((0 : Int32) + 1) + 1) - 1) + 1) + 1) - 1) (endC ((((((0 : Int32) + 1) + 1) - 1) + 1) + 1) (stC (uriB kd) (nameB kd) (((((0 : Int32) + 1) + 1) - 1) + 1) (stC (uriB kc) (nameB kc) ((((0 : Int32) + 1) + 1) - 1) (endC (((0 : Int32) + 1) + 1) (stC (uriB kb) (nameB kb) ((0 : Int32) + 1) (stC (uriB ka) (nameB ka) (0 : Int32) (0 : Int32)))))))))), .val (.int (endV ((((((((0 : Int32) + 1) + 1) - 1) + 1) + 1) - 1) - 1) (endC (((((((0 : Int32) + 1) + 1) - 1) + 1) + 1) - 1) (endC ((((((0 : Int32) + 1) + 1) - 1) + 1) + 1) (stC (uriB kd) (nameB kd) (((((0 : Int32) + 1) + 1) - 1) + 1) (stC (uriB kc) (nameB kc) ((((0 : Int32) + 1) + 1) - 1) (endC (((0 : Int32) + 1) + 1) (stC (uriB kb) (nameB kb) ((0 : Int32) + 1) (stC (uriB ka) (nameB ka) (0 : Int32) (0 : Int32))))))))))]) C at_229 rfl rfl ?_
    obtain ⟨g1, g2, g3, g4, g5⟩ := plain ka kb kc kd ca cb cc cd f2 f3 f4 za zb zc_ zd ra rb rc rd r2 r3 r4
    refine w_iload (pc' := 233) C at_231 rfl rfl ?_
    refine w_iload (pc' := 235) C at_233 rfl rfl ?_
    refine w_icmp_ne (pcT := 270) (pcF := 238) C at_235 (by decide) (by decide) rfl (fun q235 => ?_) (fun q235 => ?_)
    · skip
      first | exact absurd g1 q235 | exact absurd g2 q242 | exact absurd g3 q249 | exact absurd g4 q256 | exact absurd g5 q263
    · skip
      refine w_iload (pc' := 240) C at_238 rfl rfl ?_
      refine w_iload (pc' := 242) C at_240 rfl rfl ?_
      refine w_icmp_ne (pcT := 270) (pcF := 245) C at_242 (by decide) (by decide) rfl (fun q242 => ?_) (fun q242 => ?_)
      · skip
        first | exact absurd g1 q235 | exact absurd g2 q242 | exact absurd g3 q249 | exact absurd g4 q256 | exact absurd g5 q263
      · skip
        refine w_iload (pc' := 247) C at_245 rfl rfl ?_
        refine w_iload (pc' := 249) C at_247 rfl rfl ?_
        refine w_icmp_ne (pcT := 270) (pcF := 252) C at_249 (by decide) (by decide) rfl (fun q249 => ?_) (fun q249 => ?_)
        · skip
          first | exact absurd g1 q235 | exact absurd g2 q242 | exact absurd g3 q249 | exact absurd g4 q256 | exact absurd g5 q263
        · skip
          refine w_iload (pc' := 254) C at_252 rfl rfl ?_
          refine w_iload (pc' := 256) C at_254 rfl rfl ?_
          refine w_icmp_ne (pcT := 270) (pcF := 259) C at_256 (by decide) (by decide) rfl (fun q256 => ?_) (fun q256 => ?_)
          · skip
            first | exact absurd g1 q235 | exact absurd g2 q242 | exact absurd g3 q249 | exact absurd g4 q256 | exact absurd g5 q263
          · skip
            refine w_iload (pc' := 261) C at_259 rfl rfl ?_
            refine w_iload (pc' := 263) C at_261 rfl rfl ?_
            refine w_icmp_ne (pcT := 270) (pcF := 266) C at_263 (by decide) (by decide) rfl (fun q263 => ?_) (fun q263 => ?_)
            · skip
              first | exact absurd g1 q235 | exact absurd g2 q242 | exact absurd g3 q249 | exact absurd g4 q256 | exact absurd g5 q263
            · skip
              refine w_iconst (pc' := 267) (x := (1 : Int32)) C at_266 rfl rfl ?_
              refine w_goto (pc' := 271) C at_267 (by decide) (by decide) ?_
              refine w_retN' (t := .boolean) (z' := (1 : Int32)) C rfl (by simp) at_271 (closeH C.2.2.1 hEL HS HK HC HU HB (by decide) (by decide) (by decide)) narB1 ?_
              rfl
  refine w_iloadN (pc' := 1) C at_0 rfl rfl ?_
  refine w_iconst (pc' := 2) (x := (3 : Int32)) C at_1 rfl rfl ?_
  refine w_iand (pc' := 3) C at_2 rfl ?_
  refine w_istoreN (pc' := 4) (Ls' := #[.val (.int x0), .val (.int (x0 &&& (3 : Int32))), .unset, .unset, .unset, .unset, .unset, .unset, .unset, .unset, .unset, .unset, .unset, .unset, .unset, .unset, .unset, .unset, .unset]) C at_3 rfl rfl ?_
  refine w_iloadN (pc' := 5) C at_4 rfl rfl ?_
  refine w_iconst (pc' := 6) (x := (2 : Int32)) C at_5 rfl rfl ?_
  refine w_iushr (pc' := 7) C at_6 rfl ?_
  refine w_iconst (pc' := 8) (x := (3 : Int32)) C at_7 rfl rfl ?_
  refine w_iand (pc' := 9) C at_8 rfl ?_
  refine w_istoreN (pc' := 10) (Ls' := #[.val (.int x0), .val (.int (x0 &&& (3 : Int32))), .val (.int (((x0.toUInt32 >>> ((2 : Int32) &&& 31).toUInt32).toInt32) &&& (3 : Int32))), .unset, .unset, .unset, .unset, .unset, .unset, .unset, .unset, .unset, .unset, .unset, .unset, .unset, .unset, .unset, .unset]) C at_9 rfl rfl ?_
  refine w_iloadN (pc' := 11) C at_10 rfl rfl ?_
  refine w_iconst (pc' := 12) (x := (4 : Int32)) C at_11 rfl rfl ?_
  refine w_iushr (pc' := 13) C at_12 rfl ?_
  refine w_iconst (pc' := 14) (x := (3 : Int32)) C at_13 rfl rfl ?_
  refine w_iand (pc' := 15) C at_14 rfl ?_
  refine w_istoreN (pc' := 16) (Ls' := #[.val (.int x0), .val (.int (x0 &&& (3 : Int32))), .val (.int (((x0.toUInt32 >>> ((2 : Int32) &&& 31).toUInt32).toInt32) &&& (3 : Int32))), .val (.int (((x0.toUInt32 >>> ((4 : Int32) &&& 31).toUInt32).toInt32) &&& (3 : Int32))), .unset, .unset, .unset, .unset, .unset, .unset, .unset, .unset, .unset, .unset, .unset, .unset, .unset, .unset, .unset]) C at_15 rfl rfl ?_
  refine w_iloadN (pc' := 17) C at_16 rfl rfl ?_
  refine w_bipush (pc' := 19) (x := (6 : Int32)) C at_17 rfl rfl ?_
  refine w_iushr (pc' := 20) C at_19 rfl ?_
  refine w_iconst (pc' := 21) (x := (3 : Int32)) C at_20 rfl rfl ?_
  refine w_iand (pc' := 22) C at_21 rfl ?_
  refine w_istore (pc' := 24) (Ls' := #[.val (.int x0), .val (.int (x0 &&& (3 : Int32))), .val (.int (((x0.toUInt32 >>> ((2 : Int32) &&& 31).toUInt32).toInt32) &&& (3 : Int32))), .val (.int (((x0.toUInt32 >>> ((4 : Int32) &&& 31).toUInt32).toInt32) &&& (3 : Int32))), .val (.int (((x0.toUInt32 >>> ((6 : Int32) &&& 31).toUInt32).toInt32) &&& (3 : Int32))), .unset, .unset, .unset, .unset, .unset, .unset, .unset, .unset, .unset, .unset, .unset, .unset, .unset, .unset]) C at_22 rfl rfl ?_
  refine w_iloadN (pc' := 25) C at_24 rfl rfl ?_
  refine w_if_ne (pcT := 32) (pcF := 28) C at_25 (by decide) (by decide) rfl (fun q25 => ?_) (fun q25 => ?_)
  · skip
    refine w_iconst (pc' := 33) (x := (0 : Int32)) C at_32 rfl rfl ?_
    refine w_istore (pc' := 35) (Ls' := #[.val (.int x0), .val (.int (x0 &&& (3 : Int32))), .val (.int (((x0.toUInt32 >>> ((2 : Int32) &&& 31).toUInt32).toInt32) &&& (3 : Int32))), .val (.int (((x0.toUInt32 >>> ((4 : Int32) &&& 31).toUInt32).toInt32) &&& (3 : Int32))), .val (.int (((x0.toUInt32 >>> ((6 : Int32) &&& 31).toUInt32).toInt32) &&& (3 : Int32))), .val (.int (0 : Int32)), .unset, .unset, .unset, .unset, .unset, .unset, .unset, .unset, .unset, .unset, .unset, .unset, .unset]) C at_33 rfl rfl ?_
    refine w_iloadN (pc' := 36) C at_35 rfl rfl ?_
    refine w_if_ne (pcT := 43) (pcF := 39) C at_36 (by decide) (by decide) rfl (fun q36 => ?_) (fun q36 => ?_)
    · skip
      refine w_iconst (pc' := 44) (x := (0 : Int32)) C at_43 rfl rfl ?_
      refine w_istore (pc' := 46) (Ls' := #[.val (.int x0), .val (.int (x0 &&& (3 : Int32))), .val (.int (((x0.toUInt32 >>> ((2 : Int32) &&& 31).toUInt32).toInt32) &&& (3 : Int32))), .val (.int (((x0.toUInt32 >>> ((4 : Int32) &&& 31).toUInt32).toInt32) &&& (3 : Int32))), .val (.int (((x0.toUInt32 >>> ((6 : Int32) &&& 31).toUInt32).toInt32) &&& (3 : Int32))), .val (.int (0 : Int32)), .val (.int (0 : Int32)), .unset, .unset, .unset, .unset, .unset, .unset, .unset, .unset, .unset, .unset, .unset, .unset]) C at_44 rfl rfl ?_
      refine w_iloadN (pc' := 47) C at_46 rfl rfl ?_
      refine w_if_ne (pcT := 54) (pcF := 50) C at_47 (by decide) (by decide) rfl (fun q47 => ?_) (fun q47 => ?_)
      · skip
        refine w_iconst (pc' := 55) (x := (0 : Int32)) C at_54 rfl rfl ?_
        refine w_istore (pc' := 57) (Ls' := #[.val (.int x0), .val (.int (x0 &&& (3 : Int32))), .val (.int (((x0.toUInt32 >>> ((2 : Int32) &&& 31).toUInt32).toInt32) &&& (3 : Int32))), .val (.int (((x0.toUInt32 >>> ((4 : Int32) &&& 31).toUInt32).toInt32) &&& (3 : Int32))), .val (.int (((x0.toUInt32 >>> ((6 : Int32) &&& 31).toUInt32).toInt32) &&& (3 : Int32))), .val (.int (0 : Int32)), .val (.int (0 : Int32)), .val (.int (0 : Int32)), .unset, .unset, .unset, .unset, .unset, .unset, .unset, .unset, .unset, .unset, .unset]) C at_55 rfl rfl ?_
        refine w_iload (pc' := 59) C at_57 rfl rfl ?_
        refine w_if_ne (pcT := 66) (pcF := 62) C at_59 (by decide) (by decide) rfl (fun q59 => ?_) (fun q59 => ?_)
        · skip
          refine w_iconst (pc' := 67) (x := (0 : Int32)) C at_66 rfl rfl ?_
          refine w_istore (pc' := 69) (Ls' := #[.val (.int x0), .val (.int (x0 &&& (3 : Int32))), .val (.int (((x0.toUInt32 >>> ((2 : Int32) &&& 31).toUInt32).toInt32) &&& (3 : Int32))), .val (.int (((x0.toUInt32 >>> ((4 : Int32) &&& 31).toUInt32).toInt32) &&& (3 : Int32))), .val (.int (((x0.toUInt32 >>> ((6 : Int32) &&& 31).toUInt32).toInt32) &&& (3 : Int32))), .val (.int (0 : Int32)), .val (.int (0 : Int32)), .val (.int (0 : Int32)), .val (.int (0 : Int32)), .unset, .unset, .unset, .unset, .unset, .unset, .unset, .unset, .unset, .unset]) C at_67 rfl rfl ?_
          refine w_iload (pc' := 71) C at_69 rfl rfl ?_
          refine w_istore (pc' := 73) (Ls' := #[.val (.int x0), .val (.int (x0 &&& (3 : Int32))), .val (.int (((x0.toUInt32 >>> ((2 : Int32) &&& 31).toUInt32).toInt32) &&& (3 : Int32))), .val (.int (((x0.toUInt32 >>> ((4 : Int32) &&& 31).toUInt32).toInt32) &&& (3 : Int32))), .val (.int (((x0.toUInt32 >>> ((6 : Int32) &&& 31).toUInt32).toInt32) &&& (3 : Int32))), .val (.int (0 : Int32)), .val (.int (0 : Int32)), .val (.int (0 : Int32)), .val (.int (0 : Int32)), .val (.int (0 : Int32)), .unset, .unset, .unset, .unset, .unset, .unset, .unset, .unset, .unset]) C at_71 rfl rfl ?_
          refine w_iload (pc' := 75) C at_73 rfl rfl ?_
          refine w_if_eq (pcT := 87) (pcF := 78) C at_75 (by decide) (by decide) rfl (fun q75 => ?_) (fun q => absurd q (by decide))
          refine w_iconst (pc' := 88) (x := (0 : Int32)) C at_87 rfl rfl ?_
          refine w_istore (pc' := 90) (Ls' := #[.val (.int x0), .val (.int (x0 &&& (3 : Int32))), .val (.int (((x0.toUInt32 >>> ((2 : Int32) &&& 31).toUInt32).toInt32) &&& (3 : Int32))), .val (.int (((x0.toUInt32 >>> ((4 : Int32) &&& 31).toUInt32).toInt32) &&& (3 : Int32))), .val (.int (((x0.toUInt32 >>> ((6 : Int32) &&& 31).toUInt32).toInt32) &&& (3 : Int32))), .val (.int (0 : Int32)), .val (.int (0 : Int32)), .val (.int (0 : Int32)), .val (.int (0 : Int32)), .val (.int (0 : Int32)), .val (.int (0 : Int32)), .unset, .unset, .unset, .unset, .unset, .unset, .unset, .unset]) C at_88 rfl rfl ?_
          refine w_iload (pc' := 92) C at_90 rfl rfl ?_
          refine w_if_eq (pcT := 104) (pcF := 95) C at_92 (by decide) (by decide) rfl (fun q92 => ?_) (fun q => absurd q (by decide))
          refine w_iconst (pc' := 105) (x := (0 : Int32)) C at_104 rfl rfl ?_
          refine w_istore (pc' := 107) (Ls' := #[.val (.int x0), .val (.int (x0 &&& (3 : Int32))), .val (.int (((x0.toUInt32 >>> ((2 : Int32) &&& 31).toUInt32).toInt32) &&& (3 : Int32))), .val (.int (((x0.toUInt32 >>> ((4 : Int32) &&& 31).toUInt32).toInt32) &&& (3 : Int32))), .val (.int (((x0.toUInt32 >>> ((6 : Int32) &&& 31).toUInt32).toInt32) &&& (3 : Int32))), .val (.int (0 : Int32)), .val (.int (0 : Int32)), .val (.int (0 : Int32)), .val (.int (0 : Int32)), .val (.int (0 : Int32)), .val (.int (0 : Int32)), .val (.int (0 : Int32)), .unset, .unset, .unset, .unset, .unset, .unset, .unset]) C at_105 rfl rfl ?_
          refine w_iload (pc' := 109) C at_107 rfl rfl ?_
          refine w_if_eq (pcT := 126) (pcF := 112) C at_109 (by decide) (by decide) rfl (fun q109 => ?_) (fun q => absurd q (by decide))
          refine w_iconst (pc' := 127) (x := (0 : Int32)) C at_126 rfl rfl ?_
          refine w_istore (pc' := 129) (Ls' := #[.val (.int x0), .val (.int (x0 &&& (3 : Int32))), .val (.int (((x0.toUInt32 >>> ((2 : Int32) &&& 31).toUInt32).toInt32) &&& (3 : Int32))), .val (.int (((x0.toUInt32 >>> ((4 : Int32) &&& 31).toUInt32).toInt32) &&& (3 : Int32))), .val (.int (((x0.toUInt32 >>> ((6 : Int32) &&& 31).toUInt32).toInt32) &&& (3 : Int32))), .val (.int (0 : Int32)), .val (.int (0 : Int32)), .val (.int (0 : Int32)), .val (.int (0 : Int32)), .val (.int (0 : Int32)), .val (.int (0 : Int32)), .val (.int (0 : Int32)), .val (.int (0 : Int32)), .unset, .unset, .unset, .unset, .unset, .unset]) C at_127 rfl rfl ?_
          exact K129 (x0 &&& (3 : Int32)) (((x0.toUInt32 >>> ((2 : Int32) &&& 31).toUInt32).toInt32) &&& (3 : Int32)) (((x0.toUInt32 >>> ((4 : Int32) &&& 31).toUInt32).toInt32) &&& (3 : Int32)) (((x0.toUInt32 >>> ((6 : Int32) &&& 31).toUInt32).toInt32) &&& (3 : Int32)) (0 : Int32) (0 : Int32) (0 : Int32) (0 : Int32) (0 : Int32) (0 : Int32) (0 : Int32) (four _) (four _) (four _) (four _) (if_neg q25).symm (if_neg q36).symm (if_neg q47).symm (if_neg q59).symm (by decide) (by decide) (by decide)
        · skip
          refine w_iconst (pc' := 63) (x := (1 : Int32)) C at_62 rfl rfl ?_
          refine w_goto (pc' := 67) C at_63 (by decide) (by decide) ?_
          refine w_istore (pc' := 69) (Ls' := #[.val (.int x0), .val (.int (x0 &&& (3 : Int32))), .val (.int (((x0.toUInt32 >>> ((2 : Int32) &&& 31).toUInt32).toInt32) &&& (3 : Int32))), .val (.int (((x0.toUInt32 >>> ((4 : Int32) &&& 31).toUInt32).toInt32) &&& (3 : Int32))), .val (.int (((x0.toUInt32 >>> ((6 : Int32) &&& 31).toUInt32).toInt32) &&& (3 : Int32))), .val (.int (0 : Int32)), .val (.int (0 : Int32)), .val (.int (0 : Int32)), .val (.int (1 : Int32)), .unset, .unset, .unset, .unset, .unset, .unset, .unset, .unset, .unset, .unset]) C at_67 rfl rfl ?_
          refine w_iload (pc' := 71) C at_69 rfl rfl ?_
          refine w_istore (pc' := 73) (Ls' := #[.val (.int x0), .val (.int (x0 &&& (3 : Int32))), .val (.int (((x0.toUInt32 >>> ((2 : Int32) &&& 31).toUInt32).toInt32) &&& (3 : Int32))), .val (.int (((x0.toUInt32 >>> ((4 : Int32) &&& 31).toUInt32).toInt32) &&& (3 : Int32))), .val (.int (((x0.toUInt32 >>> ((6 : Int32) &&& 31).toUInt32).toInt32) &&& (3 : Int32))), .val (.int (0 : Int32)), .val (.int (0 : Int32)), .val (.int (0 : Int32)), .val (.int (1 : Int32)), .val (.int (0 : Int32)), .unset, .unset, .unset, .unset, .unset, .unset, .unset, .unset, .unset]) C at_71 rfl rfl ?_
          refine w_iload (pc' := 75) C at_73 rfl rfl ?_
          refine w_if_eq (pcT := 87) (pcF := 78) C at_75 (by decide) (by decide) rfl (fun q75 => ?_) (fun q => absurd q (by decide))
          refine w_iconst (pc' := 88) (x := (0 : Int32)) C at_87 rfl rfl ?_
          refine w_istore (pc' := 90) (Ls' := #[.val (.int x0), .val (.int (x0 &&& (3 : Int32))), .val (.int (((x0.toUInt32 >>> ((2 : Int32) &&& 31).toUInt32).toInt32) &&& (3 : Int32))), .val (.int (((x0.toUInt32 >>> ((4 : Int32) &&& 31).toUInt32).toInt32) &&& (3 : Int32))), .val (.int (((x0.toUInt32 >>> ((6 : Int32) &&& 31).toUInt32).toInt32) &&& (3 : Int32))), .val (.int (0 : Int32)), .val (.int (0 : Int32)), .val (.int (0 : Int32)), .val (.int (1 : Int32)), .val (.int (0 : Int32)), .val (.int (0 : Int32)), .unset, .unset, .unset, .unset, .unset, .unset, .unset, .unset]) C at_88 rfl rfl ?_
          refine w_iload (pc' := 92) C at_90 rfl rfl ?_
          refine w_if_eq (pcT := 104) (pcF := 95) C at_92 (by decide) (by decide) rfl (fun q92 => ?_) (fun q => absurd q (by decide))
          refine w_iconst (pc' := 105) (x := (0 : Int32)) C at_104 rfl rfl ?_
          refine w_istore (pc' := 107) (Ls' := #[.val (.int x0), .val (.int (x0 &&& (3 : Int32))), .val (.int (((x0.toUInt32 >>> ((2 : Int32) &&& 31).toUInt32).toInt32) &&& (3 : Int32))), .val (.int (((x0.toUInt32 >>> ((4 : Int32) &&& 31).toUInt32).toInt32) &&& (3 : Int32))), .val (.int (((x0.toUInt32 >>> ((6 : Int32) &&& 31).toUInt32).toInt32) &&& (3 : Int32))), .val (.int (0 : Int32)), .val (.int (0 : Int32)), .val (.int (0 : Int32)), .val (.int (1 : Int32)), .val (.int (0 : Int32)), .val (.int (0 : Int32)), .val (.int (0 : Int32)), .unset, .unset, .unset, .unset, .unset, .unset, .unset]) C at_105 rfl rfl ?_
          refine w_iload (pc' := 109) C at_107 rfl rfl ?_
          refine w_if_eq (pcT := 126) (pcF := 112) C at_109 (by decide) (by decide) rfl (fun q => absurd q (by decide)) (fun q109 => ?_)
          refine w_iload (pc' := 114) C at_112 rfl rfl ?_
          refine w_if_ne (pcT := 126) (pcF := 117) C at_114 (by decide) (by decide) rfl (fun q => absurd q (by decide)) (fun q114 => ?_)
          refine w_iload (pc' := 119) C at_117 rfl rfl ?_
          refine w_if_ne (pcT := 126) (pcF := 122) C at_119 (by decide) (by decide) rfl (fun q => absurd q (by decide)) (fun q119 => ?_)
          refine w_iconst (pc' := 123) (x := (1 : Int32)) C at_122 rfl rfl ?_
          refine w_goto (pc' := 127) C at_123 (by decide) (by decide) ?_
          refine w_istore (pc' := 129) (Ls' := #[.val (.int x0), .val (.int (x0 &&& (3 : Int32))), .val (.int (((x0.toUInt32 >>> ((2 : Int32) &&& 31).toUInt32).toInt32) &&& (3 : Int32))), .val (.int (((x0.toUInt32 >>> ((4 : Int32) &&& 31).toUInt32).toInt32) &&& (3 : Int32))), .val (.int (((x0.toUInt32 >>> ((6 : Int32) &&& 31).toUInt32).toInt32) &&& (3 : Int32))), .val (.int (0 : Int32)), .val (.int (0 : Int32)), .val (.int (0 : Int32)), .val (.int (1 : Int32)), .val (.int (0 : Int32)), .val (.int (0 : Int32)), .val (.int (0 : Int32)), .val (.int (1 : Int32)), .unset, .unset, .unset, .unset, .unset, .unset]) C at_127 rfl rfl ?_
          exact K129 (x0 &&& (3 : Int32)) (((x0.toUInt32 >>> ((2 : Int32) &&& 31).toUInt32).toInt32) &&& (3 : Int32)) (((x0.toUInt32 >>> ((4 : Int32) &&& 31).toUInt32).toInt32) &&& (3 : Int32)) (((x0.toUInt32 >>> ((6 : Int32) &&& 31).toUInt32).toInt32) &&& (3 : Int32)) (0 : Int32) (0 : Int32) (0 : Int32) (1 : Int32) (0 : Int32) (0 : Int32) (1 : Int32) (four _) (four _) (four _) (four _) (if_neg q25).symm (if_neg q36).symm (if_neg q47).symm (if_pos q59).symm (by decide) (by decide) (by decide)
      · skip
        refine w_iconst (pc' := 51) (x := (1 : Int32)) C at_50 rfl rfl ?_
        refine w_goto (pc' := 55) C at_51 (by decide) (by decide) ?_
        refine w_istore (pc' := 57) (Ls' := #[.val (.int x0), .val (.int (x0 &&& (3 : Int32))), .val (.int (((x0.toUInt32 >>> ((2 : Int32) &&& 31).toUInt32).toInt32) &&& (3 : Int32))), .val (.int (((x0.toUInt32 >>> ((4 : Int32) &&& 31).toUInt32).toInt32) &&& (3 : Int32))), .val (.int (((x0.toUInt32 >>> ((6 : Int32) &&& 31).toUInt32).toInt32) &&& (3 : Int32))), .val (.int (0 : Int32)), .val (.int (0 : Int32)), .val (.int (1 : Int32)), .unset, .unset, .unset, .unset, .unset, .unset, .unset, .unset, .unset, .unset, .unset]) C at_55 rfl rfl ?_
        refine w_iload (pc' := 59) C at_57 rfl rfl ?_
        refine w_if_ne (pcT := 66) (pcF := 62) C at_59 (by decide) (by decide) rfl (fun q59 => ?_) (fun q59 => ?_)
        · skip
          refine w_iconst (pc' := 67) (x := (0 : Int32)) C at_66 rfl rfl ?_
          refine w_istore (pc' := 69) (Ls' := #[.val (.int x0), .val (.int (x0 &&& (3 : Int32))), .val (.int (((x0.toUInt32 >>> ((2 : Int32) &&& 31).toUInt32).toInt32) &&& (3 : Int32))), .val (.int (((x0.toUInt32 >>> ((4 : Int32) &&& 31).toUInt32).toInt32) &&& (3 : Int32))), .val (.int (((x0.toUInt32 >>> ((6 : Int32) &&& 31).toUInt32).toInt32) &&& (3 : Int32))), .val (.int (0 : Int32)), .val (.int (0 : Int32)), .val (.int (1 : Int32)), .val (.int (0 : Int32)), .unset, .unset, .unset, .unset, .unset, .unset, .unset, .unset, .unset, .unset]) C at_67 rfl rfl ?_
          refine w_iload (pc' := 71) C at_69 rfl rfl ?_
          refine w_istore (pc' := 73) (Ls' := #[.val (.int x0), .val (.int (x0 &&& (3 : Int32))), .val (.int (((x0.toUInt32 >>> ((2 : Int32) &&& 31).toUInt32).toInt32) &&& (3 : Int32))), .val (.int (((x0.toUInt32 >>> ((4 : Int32) &&& 31).toUInt32).toInt32) &&& (3 : Int32))), .val (.int (((x0.toUInt32 >>> ((6 : Int32) &&& 31).toUInt32).toInt32) &&& (3 : Int32))), .val (.int (0 : Int32)), .val (.int (0 : Int32)), .val (.int (1 : Int32)), .val (.int (0 : Int32)), .val (.int (0 : Int32)), .unset, .unset, .unset, .unset, .unset, .unset, .unset, .unset, .unset]) C at_71 rfl rfl ?_
          refine w_iload (pc' := 75) C at_73 rfl rfl ?_
          refine w_if_eq (pcT := 87) (pcF := 78) C at_75 (by decide) (by decide) rfl (fun q75 => ?_) (fun q => absurd q (by decide))
          refine w_iconst (pc' := 88) (x := (0 : Int32)) C at_87 rfl rfl ?_
          refine w_istore (pc' := 90) (Ls' := #[.val (.int x0), .val (.int (x0 &&& (3 : Int32))), .val (.int (((x0.toUInt32 >>> ((2 : Int32) &&& 31).toUInt32).toInt32) &&& (3 : Int32))), .val (.int (((x0.toUInt32 >>> ((4 : Int32) &&& 31).toUInt32).toInt32) &&& (3 : Int32))), .val (.int (((x0.toUInt32 >>> ((6 : Int32) &&& 31).toUInt32).toInt32) &&& (3 : Int32))), .val (.int (0 : Int32)), .val (.int (0 : Int32)), .val (.int (1 : Int32)), .val (.int (0 : Int32)), .val (.int (0 : Int32)), .val (.int (0 : Int32)), .unset, .unset, .unset, .unset, .unset, .unset, .unset, .unset]) C at_88 rfl rfl ?_
          refine w_iload (pc' := 92) C at_90 rfl rfl ?_
          refine w_if_eq (pcT := 104) (pcF := 95) C at_92 (by decide) (by decide) rfl (fun q => absurd q (by decide)) (fun q92 => ?_)
          refine w_iload (pc' := 97) C at_95 rfl rfl ?_
          refine w_if_ne (pcT := 104) (pcF := 100) C at_97 (by decide) (by decide) rfl (fun q => absurd q (by decide)) (fun q97 => ?_)
          refine w_iconst (pc' := 101) (x := (1 : Int32)) C at_100 rfl rfl ?_
          refine w_goto (pc' := 105) C at_101 (by decide) (by decide) ?_
          refine w_istore (pc' := 107) (Ls' := #[.val (.int x0), .val (.int (x0 &&& (3 : Int32))), .val (.int (((x0.toUInt32 >>> ((2 : Int32) &&& 31).toUInt32).toInt32) &&& (3 : Int32))), .val (.int (((x0.toUInt32 >>> ((4 : Int32) &&& 31).toUInt32).toInt32) &&& (3 : Int32))), .val (.int (((x0.toUInt32 >>> ((6 : Int32) &&& 31).toUInt32).toInt32) &&& (3 : Int32))), .val (.int (0 : Int32)), .val (.int (0 : Int32)), .val (.int (1 : Int32)), .val (.int (0 : Int32)), .val (.int (0 : Int32)), .val (.int (0 : Int32)), .val (.int (1 : Int32)), .unset, .unset, .unset, .unset, .unset, .unset, .unset]) C at_105 rfl rfl ?_
          refine w_iload (pc' := 109) C at_107 rfl rfl ?_
          refine w_if_eq (pcT := 126) (pcF := 112) C at_109 (by decide) (by decide) rfl (fun q109 => ?_) (fun q => absurd q (by decide))
          refine w_iconst (pc' := 127) (x := (0 : Int32)) C at_126 rfl rfl ?_
          refine w_istore (pc' := 129) (Ls' := #[.val (.int x0), .val (.int (x0 &&& (3 : Int32))), .val (.int (((x0.toUInt32 >>> ((2 : Int32) &&& 31).toUInt32).toInt32) &&& (3 : Int32))), .val (.int (((x0.toUInt32 >>> ((4 : Int32) &&& 31).toUInt32).toInt32) &&& (3 : Int32))), .val (.int (((x0.toUInt32 >>> ((6 : Int32) &&& 31).toUInt32).toInt32) &&& (3 : Int32))), .val (.int (0 : Int32)), .val (.int (0 : Int32)), .val (.int (1 : Int32)), .val (.int (0 : Int32)), .val (.int (0 : Int32)), .val (.int (0 : Int32)), .val (.int (1 : Int32)), .val (.int (0 : Int32)), .unset, .unset, .unset, .unset, .unset, .unset]) C at_127 rfl rfl ?_
          exact K129 (x0 &&& (3 : Int32)) (((x0.toUInt32 >>> ((2 : Int32) &&& 31).toUInt32).toInt32) &&& (3 : Int32)) (((x0.toUInt32 >>> ((4 : Int32) &&& 31).toUInt32).toInt32) &&& (3 : Int32)) (((x0.toUInt32 >>> ((6 : Int32) &&& 31).toUInt32).toInt32) &&& (3 : Int32)) (0 : Int32) (0 : Int32) (1 : Int32) (0 : Int32) (0 : Int32) (1 : Int32) (0 : Int32) (four _) (four _) (four _) (four _) (if_neg q25).symm (if_neg q36).symm (if_pos q47).symm (if_neg q59).symm (by decide) (by decide) (by decide)
        · skip
          refine w_iconst (pc' := 63) (x := (1 : Int32)) C at_62 rfl rfl ?_
          refine w_goto (pc' := 67) C at_63 (by decide) (by decide) ?_
          refine w_istore (pc' := 69) (Ls' := #[.val (.int x0), .val (.int (x0 &&& (3 : Int32))), .val (.int (((x0.toUInt32 >>> ((2 : Int32) &&& 31).toUInt32).toInt32) &&& (3 : Int32))), .val (.int (((x0.toUInt32 >>> ((4 : Int32) &&& 31).toUInt32).toInt32) &&& (3 : Int32))), .val (.int (((x0.toUInt32 >>> ((6 : Int32) &&& 31).toUInt32).toInt32) &&& (3 : Int32))), .val (.int (0 : Int32)), .val (.int (0 : Int32)), .val (.int (1 : Int32)), .val (.int (1 : Int32)), .unset, .unset, .unset, .unset, .unset, .unset, .unset, .unset, .unset, .unset]) C at_67 rfl rfl ?_
          refine w_iload (pc' := 71) C at_69 rfl rfl ?_
          refine w_istore (pc' := 73) (Ls' := #[.val (.int x0), .val (.int (x0 &&& (3 : Int32))), .val (.int (((x0.toUInt32 >>> ((2 : Int32) &&& 31).toUInt32).toInt32) &&& (3 : Int32))), .val (.int (((x0.toUInt32 >>> ((4 : Int32) &&& 31).toUInt32).toInt32) &&& (3 : Int32))), .val (.int (((x0.toUInt32 >>> ((6 : Int32) &&& 31).toUInt32).toInt32) &&& (3 : Int32))), .val (.int (0 : Int32)), .val (.int (0 : Int32)), .val (.int (1 : Int32)), .val (.int (1 : Int32)), .val (.int (0 : Int32)), .unset, .unset, .unset, .unset, .unset, .unset, .unset, .unset, .unset]) C at_71 rfl rfl ?_
          refine w_iload (pc' := 75) C at_73 rfl rfl ?_
          refine w_if_eq (pcT := 87) (pcF := 78) C at_75 (by decide) (by decide) rfl (fun q75 => ?_) (fun q => absurd q (by decide))
          refine w_iconst (pc' := 88) (x := (0 : Int32)) C at_87 rfl rfl ?_
          refine w_istore (pc' := 90) (Ls' := #[.val (.int x0), .val (.int (x0 &&& (3 : Int32))), .val (.int (((x0.toUInt32 >>> ((2 : Int32) &&& 31).toUInt32).toInt32) &&& (3 : Int32))), .val (.int (((x0.toUInt32 >>> ((4 : Int32) &&& 31).toUInt32).toInt32) &&& (3 : Int32))), .val (.int (((x0.toUInt32 >>> ((6 : Int32) &&& 31).toUInt32).toInt32) &&& (3 : Int32))), .val (.int (0 : Int32)), .val (.int (0 : Int32)), .val (.int (1 : Int32)), .val (.int (1 : Int32)), .val (.int (0 : Int32)), .val (.int (0 : Int32)), .unset, .unset, .unset, .unset, .unset, .unset, .unset, .unset]) C at_88 rfl rfl ?_
          refine w_iload (pc' := 92) C at_90 rfl rfl ?_
          refine w_if_eq (pcT := 104) (pcF := 95) C at_92 (by decide) (by decide) rfl (fun q => absurd q (by decide)) (fun q92 => ?_)
          refine w_iload (pc' := 97) C at_95 rfl rfl ?_
          refine w_if_ne (pcT := 104) (pcF := 100) C at_97 (by decide) (by decide) rfl (fun q => absurd q (by decide)) (fun q97 => ?_)
          refine w_iconst (pc' := 101) (x := (1 : Int32)) C at_100 rfl rfl ?_
          refine w_goto (pc' := 105) C at_101 (by decide) (by decide) ?_
          refine w_istore (pc' := 107) (Ls' := #[.val (.int x0), .val (.int (x0 &&& (3 : Int32))), .val (.int (((x0.toUInt32 >>> ((2 : Int32) &&& 31).toUInt32).toInt32) &&& (3 : Int32))), .val (.int (((x0.toUInt32 >>> ((4 : Int32) &&& 31).toUInt32).toInt32) &&& (3 : Int32))), .val (.int (((x0.toUInt32 >>> ((6 : Int32) &&& 31).toUInt32).toInt32) &&& (3 : Int32))), .val (.int (0 : Int32)), .val (.int (0 : Int32)), .val (.int (1 : Int32)), .val (.int (1 : Int32)), .val (.int (0 : Int32)), .val (.int (0 : Int32)), .val (.int (1 : Int32)), .unset, .unset, .unset, .unset, .unset, .unset, .unset]) C at_105 rfl rfl ?_
          refine w_iload (pc' := 109) C at_107 rfl rfl ?_
          refine w_if_eq (pcT := 126) (pcF := 112) C at_109 (by decide) (by decide) rfl (fun q => absurd q (by decide)) (fun q109 => ?_)
          refine w_iload (pc' := 114) C at_112 rfl rfl ?_
          refine w_if_ne (pcT := 126) (pcF := 117) C at_114 (by decide) (by decide) rfl (fun q => absurd q (by decide)) (fun q114 => ?_)
          refine w_iload (pc' := 119) C at_117 rfl rfl ?_
          refine w_if_ne (pcT := 126) (pcF := 122) C at_119 (by decide) (by decide) rfl (fun q119 => ?_) (fun q => absurd q (by decide))
          refine w_iconst (pc' := 127) (x := (0 : Int32)) C at_126 rfl rfl ?_
          refine w_istore (pc' := 129) (Ls' := #[.val (.int x0), .val (.int (x0 &&& (3 : Int32))), .val (.int (((x0.toUInt32 >>> ((2 : Int32) &&& 31).toUInt32).toInt32) &&& (3 : Int32))), .val (.int (((x0.toUInt32 >>> ((4 : Int32) &&& 31).toUInt32).toInt32) &&& (3 : Int32))), .val (.int (((x0.toUInt32 >>> ((6 : Int32) &&& 31).toUInt32).toInt32) &&& (3 : Int32))), .val (.int (0 : Int32)), .val (.int (0 : Int32)), .val (.int (1 : Int32)), .val (.int (1 : Int32)), .val (.int (0 : Int32)), .val (.int (0 : Int32)), .val (.int (1 : Int32)), .val (.int (0 : Int32)), .unset, .unset, .unset, .unset, .unset, .unset]) C at_127 rfl rfl ?_
          exact K129 (x0 &&& (3 : Int32)) (((x0.toUInt32 >>> ((2 : Int32) &&& 31).toUInt32).toInt32) &&& (3 : Int32)) (((x0.toUInt32 >>> ((4 : Int32) &&& 31).toUInt32).toInt32) &&& (3 : Int32)) (((x0.toUInt32 >>> ((6 : Int32) &&& 31).toUInt32).toInt32) &&& (3 : Int32)) (0 : Int32) (0 : Int32) (1 : Int32) (1 : Int32) (0 : Int32) (1 : Int32) (0 : Int32) (four _) (four _) (four _) (four _) (if_neg q25).symm (if_neg q36).symm (if_pos q47).symm (if_pos q59).symm (by decide) (by decide) (by decide)
    · skip
      refine w_iconst (pc' := 40) (x := (1 : Int32)) C at_39 rfl rfl ?_
      refine w_goto (pc' := 44) C at_40 (by decide) (by decide) ?_
      refine w_istore (pc' := 46) (Ls' := #[.val (.int x0), .val (.int (x0 &&& (3 : Int32))), .val (.int (((x0.toUInt32 >>> ((2 : Int32) &&& 31).toUInt32).toInt32) &&& (3 : Int32))), .val (.int (((x0.toUInt32 >>> ((4 : Int32) &&& 31).toUInt32).toInt32) &&& (3 : Int32))), .val (.int (((x0.toUInt32 >>> ((6 : Int32) &&& 31).toUInt32).toInt32) &&& (3 : Int32))), .val (.int (0 : Int32)), .val (.int (1 : Int32)), .unset, .unset, .unset, .unset, .unset, .unset, .unset, .unset, .unset, .unset, .unset, .unset]) C at_44 rfl rfl ?_
      refine w_iloadN (pc' := 47) C at_46 rfl rfl ?_
      refine w_if_ne (pcT := 54) (pcF := 50) C at_47 (by decide) (by decide) rfl (fun q47 => ?_) (fun q47 => ?_)
      · skip
        refine w_iconst (pc' := 55) (x := (0 : Int32)) C at_54 rfl rfl ?_
        refine w_istore (pc' := 57) (Ls' := #[.val (.int x0), .val (.int (x0 &&& (3 : Int32))), .val (.int (((x0.toUInt32 >>> ((2 : Int32) &&& 31).toUInt32).toInt32) &&& (3 : Int32))), .val (.int (((x0.toUInt32 >>> ((4 : Int32) &&& 31).toUInt32).toInt32) &&& (3 : Int32))), .val (.int (((x0.toUInt32 >>> ((6 : Int32) &&& 31).toUInt32).toInt32) &&& (3 : Int32))), .val (.int (0 : Int32)), .val (.int (1 : Int32)), .val (.int (0 : Int32)), .unset, .unset, .unset, .unset, .unset, .unset, .unset, .unset, .unset, .unset, .unset]) C at_55 rfl rfl ?_
        refine w_iload (pc' := 59) C at_57 rfl rfl ?_
        refine w_if_ne (pcT := 66) (pcF := 62) C at_59 (by decide) (by decide) rfl (fun q59 => ?_) (fun q59 => ?_)
        · skip
          refine w_iconst (pc' := 67) (x := (0 : Int32)) C at_66 rfl rfl ?_
          refine w_istore (pc' := 69) (Ls' := #[.val (.int x0), .val (.int (x0 &&& (3 : Int32))), .val (.int (((x0.toUInt32 >>> ((2 : Int32) &&& 31).toUInt32).toInt32) &&& (3 : Int32))), .val (.int (((x0.toUInt32 >>> ((4 : Int32) &&& 31).toUInt32).toInt32) &&& (3 : Int32))), .val (.int (((x0.toUInt32 >>> ((6 : Int32) &&& 31).toUInt32).toInt32) &&& (3 : Int32))), .val (.int (0 : Int32)), .val (.int (1 : Int32)), .val (.int (0 : Int32)), .val (.int (0 : Int32)), .unset, .unset, .unset, .unset, .unset, .unset, .unset, .unset, .unset, .unset]) C at_67 rfl rfl ?_
          refine w_iload (pc' := 71) C at_69 rfl rfl ?_
          refine w_istore (pc' := 73) (Ls' := #[.val (.int x0), .val (.int (x0 &&& (3 : Int32))), .val (.int (((x0.toUInt32 >>> ((2 : Int32) &&& 31).toUInt32).toInt32) &&& (3 : Int32))), .val (.int (((x0.toUInt32 >>> ((4 : Int32) &&& 31).toUInt32).toInt32) &&& (3 : Int32))), .val (.int (((x0.toUInt32 >>> ((6 : Int32) &&& 31).toUInt32).toInt32) &&& (3 : Int32))), .val (.int (0 : Int32)), .val (.int (1 : Int32)), .val (.int (0 : Int32)), .val (.int (0 : Int32)), .val (.int (0 : Int32)), .unset, .unset, .unset, .unset, .unset, .unset, .unset, .unset, .unset]) C at_71 rfl rfl ?_
          refine w_iload (pc' := 75) C at_73 rfl rfl ?_
          refine w_if_eq (pcT := 87) (pcF := 78) C at_75 (by decide) (by decide) rfl (fun q => absurd q (by decide)) (fun q75 => ?_)
          refine w_iload (pc' := 80) C at_78 rfl rfl ?_
          refine w_if_ne (pcT := 87) (pcF := 83) C at_80 (by decide) (by decide) rfl (fun q => absurd q (by decide)) (fun q80 => ?_)
          refine w_iconst (pc' := 84) (x := (1 : Int32)) C at_83 rfl rfl ?_
          refine w_goto (pc' := 88) C at_84 (by decide) (by decide) ?_
          refine w_istore (pc' := 90) (Ls' := #[.val (.int x0), .val (.int (x0 &&& (3 : Int32))), .val (.int (((x0.toUInt32 >>> ((2 : Int32) &&& 31).toUInt32).toInt32) &&& (3 : Int32))), .val (.int (((x0.toUInt32 >>> ((4 : Int32) &&& 31).toUInt32).toInt32) &&& (3 : Int32))), .val (.int (((x0.toUInt32 >>> ((6 : Int32) &&& 31).toUInt32).toInt32) &&& (3 : Int32))), .val (.int (0 : Int32)), .val (.int (1 : Int32)), .val (.int (0 : Int32)), .val (.int (0 : Int32)), .val (.int (0 : Int32)), .val (.int (1 : Int32)), .unset, .unset, .unset, .unset, .unset, .unset, .unset, .unset]) C at_88 rfl rfl ?_
          refine w_iload (pc' := 92) C at_90 rfl rfl ?_
          refine w_if_eq (pcT := 104) (pcF := 95) C at_92 (by decide) (by decide) rfl (fun q92 => ?_) (fun q => absurd q (by decide))
          refine w_iconst (pc' := 105) (x := (0 : Int32)) C at_104 rfl rfl ?_
          refine w_istore (pc' := 107) (Ls' := #[.val (.int x0), .val (.int (x0 &&& (3 : Int32))), .val (.int (((x0.toUInt32 >>> ((2 : Int32) &&& 31).toUInt32).toInt32) &&& (3 : Int32))), .val (.int (((x0.toUInt32 >>> ((4 : Int32) &&& 31).toUInt32).toInt32) &&& (3 : Int32))), .val (.int (((x0.toUInt32 >>> ((6 : Int32) &&& 31).toUInt32).toInt32) &&& (3 : Int32))), .val (.int (0 : Int32)), .val (.int (1 : Int32)), .val (.int (0 : Int32)), .val (.int (0 : Int32)), .val (.int (0 : Int32)), .val (.int (1 : Int32)), .val (.int (0 : Int32)), .unset, .unset, .unset, .unset, .unset, .unset, .unset]) C at_105 rfl rfl ?_
          refine w_iload (pc' := 109) C at_107 rfl rfl ?_
          refine w_if_eq (pcT := 126) (pcF := 112) C at_109 (by decide) (by decide) rfl (fun q109 => ?_) (fun q => absurd q (by decide))
          refine w_iconst (pc' := 127) (x := (0 : Int32)) C at_126 rfl rfl ?_
          refine w_istore (pc' := 129) (Ls' := #[.val (.int x0), .val (.int (x0 &&& (3 : Int32))), .val (.int (((x0.toUInt32 >>> ((2 : Int32) &&& 31).toUInt32).toInt32) &&& (3 : Int32))), .val (.int (((x0.toUInt32 >>> ((4 : Int32) &&& 31).toUInt32).toInt32) &&& (3 : Int32))), .val (.int (((x0.toUInt32 >>> ((6 : Int32) &&& 31).toUInt32).toInt32) &&& (3 : Int32))), .val (.int (0 : Int32)), .val (.int (1 : Int32)), .val (.int (0 : Int32)), .val (.int (0 : Int32)), .val (.int (0 : Int32)), .val (.int (1 : Int32)), .val (.int (0 : Int32)), .val (.int (0 : Int32)), .unset, .unset, .unset, .unset, .unset, .unset]) C at_127 rfl rfl ?_
          exact K129 (x0 &&& (3 : Int32)) (((x0.toUInt32 >>> ((2 : Int32) &&& 31).toUInt32).toInt32) &&& (3 : Int32)) (((x0.toUInt32 >>> ((4 : Int32) &&& 31).toUInt32).toInt32) &&& (3 : Int32)) (((x0.toUInt32 >>> ((6 : Int32) &&& 31).toUInt32).toInt32) &&& (3 : Int32)) (0 : Int32) (1 : Int32) (0 : Int32) (0 : Int32) (1 : Int32) (0 : Int32) (0 : Int32) (four _) (four _) (four _) (four _) (if_neg q25).symm (if_pos q36).symm (if_neg q47).symm (if_neg q59).symm (by decide) (by decide) (by decide)
        · skip
          refine w_iconst (pc' := 63) (x := (1 : Int32)) C at_62 rfl rfl ?_
          refine w_goto (pc' := 67) C at_63 (by decide) (by decide) ?_
          refine w_istore (pc' := 69) (Ls' := #[.val (.int x0), .val (.int (x0 &&& (3 : Int32))), .val (.int (((x0.toUInt32 >>> ((2 : Int32) &&& 31).toUInt32).toInt32) &&& (3 : Int32))), .val (.int (((x0.toUInt32 >>> ((4 : Int32) &&& 31).toUInt32).toInt32) &&& (3 : Int32))), .val (.int (((x0.toUInt32 >>> ((6 : Int32) &&& 31).toUInt32).toInt32) &&& (3 : Int32))), .val (.int (0 : Int32)), .val (.int (1 : Int32)), .val (.int (0 : Int32)), .val (.int (1 : Int32)), .unset, .unset, .unset, .unset, .unset, .unset, .unset, .unset, .unset, .unset]) C at_67 rfl rfl ?_
          refine w_iload (pc' := 71) C at_69 rfl rfl ?_
          refine w_istore (pc' := 73) (Ls' := #[.val (.int x0), .val (.int (x0 &&& (3 : Int32))), .val (.int (((x0.toUInt32 >>> ((2 : Int32) &&& 31).toUInt32).toInt32) &&& (3 : Int32))), .val (.int (((x0.toUInt32 >>> ((4 : Int32) &&& 31).toUInt32).toInt32) &&& (3 : Int32))), .val (.int (((x0.toUInt32 >>> ((6 : Int32) &&& 31).toUInt32).toInt32) &&& (3 : Int32))), .val (.int (0 : Int32)), .val (.int (1 : Int32)), .val (.int (0 : Int32)), .val (.int (1 : Int32)), .val (.int (0 : Int32)), .unset, .unset, .unset, .unset, .unset, .unset, .unset, .unset, .unset]) C at_71 rfl rfl ?_
          refine w_iload (pc' := 75) C at_73 rfl rfl ?_
          refine w_if_eq (pcT := 87) (pcF := 78) C at_75 (by decide) (by decide) rfl (fun q => absurd q (by decide)) (fun q75 => ?_)
          refine w_iload (pc' := 80) C at_78 rfl rfl ?_
          refine w_if_ne (pcT := 87) (pcF := 83) C at_80 (by decide) (by decide) rfl (fun q => absurd q (by decide)) (fun q80 => ?_)
          refine w_iconst (pc' := 84) (x := (1 : Int32)) C at_83 rfl rfl ?_
          refine w_goto (pc' := 88) C at_84 (by decide) (by decide) ?_
          refine w_istore (pc' := 90) (Ls' := #[.val (.int x0), .val (.int (x0 &&& (3 : Int32))), .val (.int (((x0.toUInt32 >>> ((2 : Int32) &&& 31).toUInt32).toInt32) &&& (3 : Int32))), .val (.int (((x0.toUInt32 >>> ((4 : Int32) &&& 31).toUInt32).toInt32) &&& (3 : Int32))), .val (.int (((x0.toUInt32 >>> ((6 : Int32) &&& 31).toUInt32).toInt32) &&& (3 : Int32))), .val (.int (0 : Int32)), .val (.int (1 : Int32)), .val (.int (0 : Int32)), .val (.int (1 : Int32)), .val (.int (0 : Int32)), .val (.int (1 : Int32)), .unset, .unset, .unset, .unset, .unset, .unset, .unset, .unset]) C at_88 rfl rfl ?_
          refine w_iload (pc' := 92) C at_90 rfl rfl ?_
          refine w_if_eq (pcT := 104) (pcF := 95) C at_92 (by decide) (by decide) rfl (fun q92 => ?_) (fun q => absurd q (by decide))
          refine w_iconst (pc' := 105) (x := (0 : Int32)) C at_104 rfl rfl ?_
          refine w_istore (pc' := 107) (Ls' := #[.val (.int x0), .val (.int (x0 &&& (3 : Int32))), .val (.int (((x0.toUInt32 >>> ((2 : Int32) &&& 31).toUInt32).toInt32) &&& (3 : Int32))), .val (.int (((x0.toUInt32 >>> ((4 : Int32) &&& 31).toUInt32).toInt32) &&& (3 : Int32))), .val (.int (((x0.toUInt32 >>> ((6 : Int32) &&& 31).toUInt32).toInt32) &&& (3 : Int32))), .val (.int (0 : Int32)), .val (.int (1 : Int32)), .val (.int (0 : Int32)), .val (.int (1 : Int32)), .val (.int (0 : Int32)), .val (.int (1 : Int32)), .val (.int (0 : Int32)), .unset, .unset, .unset, .unset, .unset, .unset, .unset]) C at_105 rfl rfl ?_
          refine w_iload (pc' := 109) C at_107 rfl rfl ?_
          refine w_if_eq (pcT := 126) (pcF := 112) C at_109 (by decide) (by decide) rfl (fun q => absurd q (by decide)) (fun q109 => ?_)
          refine w_iload (pc' := 114) C at_112 rfl rfl ?_
          refine w_if_ne (pcT := 126) (pcF := 117) C at_114 (by decide) (by decide) rfl (fun q => absurd q (by decide)) (fun q114 => ?_)
          refine w_iload (pc' := 119) C at_117 rfl rfl ?_
          refine w_if_ne (pcT := 126) (pcF := 122) C at_119 (by decide) (by decide) rfl (fun q => absurd q (by decide)) (fun q119 => ?_)
          refine w_iconst (pc' := 123) (x := (1 : Int32)) C at_122 rfl rfl ?_
          refine w_goto (pc' := 127) C at_123 (by decide) (by decide) ?_
          refine w_istore (pc' := 129) (Ls' := #[.val (.int x0), .val (.int (x0 &&& (3 : Int32))), .val (.int (((x0.toUInt32 >>> ((2 : Int32) &&& 31).toUInt32).toInt32) &&& (3 : Int32))), .val (.int (((x0.toUInt32 >>> ((4 : Int32) &&& 31).toUInt32).toInt32) &&& (3 : Int32))), .val (.int (((x0.toUInt32 >>> ((6 : Int32) &&& 31).toUInt32).toInt32) &&& (3 : Int32))), .val (.int (0 : Int32)), .val (.int (1 : Int32)), .val (.int (0 : Int32)), .val (.int (1 : Int32)), .val (.int (0 : Int32)), .val (.int (1 : Int32)), .val (.int (0 : Int32)), .val (.int (1 : Int32)), .unset, .unset, .unset, .unset, .unset, .unset]) C at_127 rfl rfl ?_
          exact K129 (x0 &&& (3 : Int32)) (((x0.toUInt32 >>> ((2 : Int32) &&& 31).toUInt32).toInt32) &&& (3 : Int32)) (((x0.toUInt32 >>> ((4 : Int32) &&& 31).toUInt32).toInt32) &&& (3 : Int32)) (((x0.toUInt32 >>> ((6 : Int32) &&& 31).toUInt32).toInt32) &&& (3 : Int32)) (0 : Int32) (1 : Int32) (0 : Int32) (1 : Int32) (1 : Int32) (0 : Int32) (1 : Int32) (four _) (four _) (four _) (four _) (if_neg q25).symm (if_pos q36).symm (if_neg q47).symm (if_pos q59).symm (by decide) (by decide) (by decide)
      · skip
        refine w_iconst (pc' := 51) (x := (1 : Int32)) C at_50 rfl rfl ?_
        refine w_goto (pc' := 55) C at_51 (by decide) (by decide) ?_
        refine w_istore (pc' := 57) (Ls' := #[.val (.int x0), .val (.int (x0 &&& (3 : Int32))), .val (.int (((x0.toUInt32 >>> ((2 : Int32) &&& 31).toUInt32).toInt32) &&& (3 : Int32))), .val (.int (((x0.toUInt32 >>> ((4 : Int32) &&& 31).toUInt32).toInt32) &&& (3 : Int32))), .val (.int (((x0.toUInt32 >>> ((6 : Int32) &&& 31).toUInt32).toInt32) &&& (3 : Int32))), .val (.int (0 : Int32)), .val (.int (1 : Int32)), .val (.int (1 : Int32)), .unset, .unset, .unset, .unset, .unset, .unset, .unset, .unset, .unset, .unset, .unset]) C at_55 rfl rfl ?_
        refine w_iload (pc' := 59) C at_57 rfl rfl ?_
        refine w_if_ne (pcT := 66) (pcF := 62) C at_59 (by decide) (by decide) rfl (fun q59 => ?_) (fun q59 => ?_)
        · skip
          refine w_iconst (pc' := 67) (x := (0 : Int32)) C at_66 rfl rfl ?_
          refine w_istore (pc' := 69) (Ls' := #[.val (.int x0), .val (.int (x0 &&& (3 : Int32))), .val (.int (((x0.toUInt32 >>> ((2 : Int32) &&& 31).toUInt32).toInt32) &&& (3 : Int32))), .val (.int (((x0.toUInt32 >>> ((4 : Int32) &&& 31).toUInt32).toInt32) &&& (3 : Int32))), .val (.int (((x0.toUInt32 >>> ((6 : Int32) &&& 31).toUInt32).toInt32) &&& (3 : Int32))), .val (.int (0 : Int32)), .val (.int (1 : Int32)), .val (.int (1 : Int32)), .val (.int (0 : Int32)), .unset, .unset, .unset, .unset, .unset, .unset, .unset, .unset, .unset, .unset]) C at_67 rfl rfl ?_
          refine w_iload (pc' := 71) C at_69 rfl rfl ?_
          refine w_istore (pc' := 73) (Ls' := #[.val (.int x0), .val (.int (x0 &&& (3 : Int32))), .val (.int (((x0.toUInt32 >>> ((2 : Int32) &&& 31).toUInt32).toInt32) &&& (3 : Int32))), .val (.int (((x0.toUInt32 >>> ((4 : Int32) &&& 31).toUInt32).toInt32) &&& (3 : Int32))), .val (.int (((x0.toUInt32 >>> ((6 : Int32) &&& 31).toUInt32).toInt32) &&& (3 : Int32))), .val (.int (0 : Int32)), .val (.int (1 : Int32)), .val (.int (1 : Int32)), .val (.int (0 : Int32)), .val (.int (0 : Int32)), .unset, .unset, .unset, .unset, .unset, .unset, .unset, .unset, .unset]) C at_71 rfl rfl ?_
          refine w_iload (pc' := 75) C at_73 rfl rfl ?_
          refine w_if_eq (pcT := 87) (pcF := 78) C at_75 (by decide) (by decide) rfl (fun q => absurd q (by decide)) (fun q75 => ?_)
          refine w_iload (pc' := 80) C at_78 rfl rfl ?_
          refine w_if_ne (pcT := 87) (pcF := 83) C at_80 (by decide) (by decide) rfl (fun q => absurd q (by decide)) (fun q80 => ?_)
          refine w_iconst (pc' := 84) (x := (1 : Int32)) C at_83 rfl rfl ?_
          refine w_goto (pc' := 88) C at_84 (by decide) (by decide) ?_
          refine w_istore (pc' := 90) (Ls' := #[.val (.int x0), .val (.int (x0 &&& (3 : Int32))), .val (.int (((x0.toUInt32 >>> ((2 : Int32) &&& 31).toUInt32).toInt32) &&& (3 : Int32))), .val (.int (((x0.toUInt32 >>> ((4 : Int32) &&& 31).toUInt32).toInt32) &&& (3 : Int32))), .val (.int (((x0.toUInt32 >>> ((6 : Int32) &&& 31).toUInt32).toInt32) &&& (3 : Int32))), .val (.int (0 : Int32)), .val (.int (1 : Int32)), .val (.int (1 : Int32)), .val (.int (0 : Int32)), .val (.int (0 : Int32)), .val (.int (1 : Int32)), .unset, .unset, .unset, .unset, .unset, .unset, .unset, .unset]) C at_88 rfl rfl ?_
          refine w_iload (pc' := 92) C at_90 rfl rfl ?_
          refine w_if_eq (pcT := 104) (pcF := 95) C at_92 (by decide) (by decide) rfl (fun q => absurd q (by decide)) (fun q92 => ?_)
          refine w_iload (pc' := 97) C at_95 rfl rfl ?_
          refine w_if_ne (pcT := 104) (pcF := 100) C at_97 (by decide) (by decide) rfl (fun q => absurd q (by decide)) (fun q97 => ?_)
          refine w_iconst (pc' := 101) (x := (1 : Int32)) C at_100 rfl rfl ?_
          refine w_goto (pc' := 105) C at_101 (by decide) (by decide) ?_
          refine w_istore (pc' := 107) (Ls' := #[.val (.int x0), .val (.int (x0 &&& (3 : Int32))), .val (.int (((x0.toUInt32 >>> ((2 : Int32) &&& 31).toUInt32).toInt32) &&& (3 : Int32))), .val (.int (((x0.toUInt32 >>> ((4 : Int32) &&& 31).toUInt32).toInt32) &&& (3 : Int32))), .val (.int (((x0.toUInt32 >>> ((6 : Int32) &&& 31).toUInt32).toInt32) &&& (3 : Int32))), .val (.int (0 : Int32)), .val (.int (1 : Int32)), .val (.int (1 : Int32)), .val (.int (0 : Int32)), .val (.int (0 : Int32)), .val (.int (1 : Int32)), .val (.int (1 : Int32)), .unset, .unset, .unset, .unset, .unset, .unset, .unset]) C at_105 rfl rfl ?_
          refine w_iload (pc' := 109) C at_107 rfl rfl ?_
          refine w_if_eq (pcT := 126) (pcF := 112) C at_109 (by decide) (by decide) rfl (fun q109 => ?_) (fun q => absurd q (by decide))
          refine w_iconst (pc' := 127) (x := (0 : Int32)) C at_126 rfl rfl ?_
          refine w_istore (pc' := 129) (Ls' := #[.val (.int x0), .val (.int (x0 &&& (3 : Int32))), .val (.int (((x0.toUInt32 >>> ((2 : Int32) &&& 31).toUInt32).toInt32) &&& (3 : Int32))), .val (.int (((x0.toUInt32 >>> ((4 : Int32) &&& 31).toUInt32).toInt32) &&& (3 : Int32))), .val (.int (((x0.toUInt32 >>> ((6 : Int32) &&& 31).toUInt32).toInt32) &&& (3 : Int32))), .val (.int (0 : Int32)), .val (.int (1 : Int32)), .val (.int (1 : Int32)), .val (.int (0 : Int32)), .val (.int (0 : Int32)), .val (.int (1 : Int32)), .val (.int (1 : Int32)), .val (.int (0 : Int32)), .unset, .unset, .unset, .unset, .unset, .unset]) C at_127 rfl rfl ?_
          exact K129 (x0 &&& (3 : Int32)) (((x0.toUInt32 >>> ((2 : Int32) &&& 31).toUInt32).toInt32) &&& (3 : Int32)) (((x0.toUInt32 >>> ((4 : Int32) &&& 31).toUInt32).toInt32) &&& (3 : Int32)) (((x0.toUInt32 >>> ((6 : Int32) &&& 31).toUInt32).toInt32) &&& (3 : Int32)) (0 : Int32) (1 : Int32) (1 : Int32) (0 : Int32) (1 : Int32) (1 : Int32) (0 : Int32) (four _) (four _) (four _) (four _) (if_neg q25).symm (if_pos q36).symm (if_pos q47).symm (if_neg q59).symm (by decide) (by decide) (by decide)
        · skip
          refine w_iconst (pc' := 63) (x := (1 : Int32)) C at_62 rfl rfl ?_
          refine w_goto (pc' := 67) C at_63 (by decide) (by decide) ?_
          refine w_istore (pc' := 69) (Ls' := #[.val (.int x0), .val (.int (x0 &&& (3 : Int32))), .val (.int (((x0.toUInt32 >>> ((2 : Int32) &&& 31).toUInt32).toInt32) &&& (3 : Int32))), .val (.int (((x0.toUInt32 >>> ((4 : Int32) &&& 31).toUInt32).toInt32) &&& (3 : Int32))), .val (.int (((x0.toUInt32 >>> ((6 : Int32) &&& 31).toUInt32).toInt32) &&& (3 : Int32))), .val (.int (0 : Int32)), .val (.int (1 : Int32)), .val (.int (1 : Int32)), .val (.int (1 : Int32)), .unset, .unset, .unset, .unset, .unset, .unset, .unset, .unset, .unset, .unset]) C at_67 rfl rfl ?_
          refine w_iload (pc' := 71) C at_69 rfl rfl ?_
          refine w_istore (pc' := 73) (Ls' := #[.val (.int x0), .val (.int (x0 &&& (3 : Int32))), .val (.int (((x0.toUInt32 >>> ((2 : Int32) &&& 31).toUInt32).toInt32) &&& (3 : Int32))), .val (.int (((x0.toUInt32 >>> ((4 : Int32) &&& 31).toUInt32).toInt32) &&& (3 : Int32))), .val (.int (((x0.toUInt32 >>> ((6 : Int32) &&& 31).toUInt32).toInt32) &&& (3 : Int32))), .val (.int (0 : Int32)), .val (.int (1 : Int32)), .val (.int (1 : Int32)), .val (.int (1 : Int32)), .val (.int (0 : Int32)), .unset, .unset, .unset, .unset, .unset, .unset, .unset, .unset, .unset]) C at_71 rfl rfl ?_
          refine w_iload (pc' := 75) C at_73 rfl rfl ?_
          refine w_if_eq (pcT := 87) (pcF := 78) C at_75 (by decide) (by decide) rfl (fun q => absurd q (by decide)) (fun q75 => ?_)
          refine w_iload (pc' := 80) C at_78 rfl rfl ?_
          refine w_if_ne (pcT := 87) (pcF := 83) C at_80 (by decide) (by decide) rfl (fun q => absurd q (by decide)) (fun q80 => ?_)
          refine w_iconst (pc' := 84) (x := (1 : Int32)) C at_83 rfl rfl ?_
          refine w_goto (pc' := 88) C at_84 (by decide) (by decide) ?_
          refine w_istore (pc' := 90) (Ls' := #[.val (.int x0), .val (.int (x0 &&& (3 : Int32))), .val (.int (((x0.toUInt32 >>> ((2 : Int32) &&& 31).toUInt32).toInt32) &&& (3 : Int32))), .val (.int (((x0.toUInt32 >>> ((4 : Int32) &&& 31).toUInt32).toInt32) &&& (3 : Int32))), .val (.int (((x0.toUInt32 >>> ((6 : Int32) &&& 31).toUInt32).toInt32) &&& (3 : Int32))), .val (.int (0 : Int32)), .val (.int (1 : Int32)), .val (.int (1 : Int32)), .val (.int (1 : Int32)), .val (.int (0 : Int32)), .val (.int (1 : Int32)), .unset, .unset, .unset, .unset, .unset, .unset, .unset, .unset]) C at_88 rfl rfl ?_
          refine w_iload (pc' := 92) C at_90 rfl rfl ?_
          refine w_if_eq (pcT := 104) (pcF := 95) C at_92 (by decide) (by decide) rfl (fun q => absurd q (by decide)) (fun q92 => ?_)
          refine w_iload (pc' := 97) C at_95 rfl rfl ?_
          refine w_if_ne (pcT := 104) (pcF := 100) C at_97 (by decide) (by decide) rfl (fun q => absurd q (by decide)) (fun q97 => ?_)
          refine w_iconst (pc' := 101) (x := (1 : Int32)) C at_100 rfl rfl ?_
          refine w_goto (pc' := 105) C at_101 (by decide) (by decide) ?_
          refine w_istore (pc' := 107) (Ls' := #[.val (.int x0), .val (.int (x0 &&& (3 : Int32))), .val (.int (((x0.toUInt32 >>> ((2 : Int32) &&& 31).toUInt32).toInt32) &&& (3 : Int32))), .val (.int (((x0.toUInt32 >>> ((4 : Int32) &&& 31).toUInt32).toInt32) &&& (3 : Int32))), .val (.int (((x0.toUInt32 >>> ((6 : Int32) &&& 31).toUInt32).toInt32) &&& (3 : Int32))), .val (.int (0 : Int32)), .val (.int (1 : Int32)), .val (.int (1 : Int32)), .val (.int (1 : Int32)), .val (.int (0 : Int32)), .val (.int (1 : Int32)), .val (.int (1 : Int32)), .unset, .unset, .unset, .unset, .unset, .unset, .unset]) C at_105 rfl rfl ?_
          refine w_iload (pc' := 109) C at_107 rfl rfl ?_
          refine w_if_eq (pcT := 126) (pcF := 112) C at_109 (by decide) (by decide) rfl (fun q => absurd q (by decide)) (fun q109 => ?_)
          refine w_iload (pc' := 114) C at_112 rfl rfl ?_
          refine w_if_ne (pcT := 126) (pcF := 117) C at_114 (by decide) (by decide) rfl (fun q => absurd q (by decide)) (fun q114 => ?_)
          refine w_iload (pc' := 119) C at_117 rfl rfl ?_
          refine w_if_ne (pcT := 126) (pcF := 122) C at_119 (by decide) (by decide) rfl (fun q119 => ?_) (fun q => absurd q (by decide))
          refine w_iconst (pc' := 127) (x := (0 : Int32)) C at_126 rfl rfl ?_
          refine w_istore (pc' := 129) (Ls' := #[.val (.int x0), .val (.int (x0 &&& (3 : Int32))), .val (.int (((x0.toUInt32 >>> ((2 : Int32) &&& 31).toUInt32).toInt32) &&& (3 : Int32))), .val (.int (((x0.toUInt32 >>> ((4 : Int32) &&& 31).toUInt32).toInt32) &&& (3 : Int32))), .val (.int (((x0.toUInt32 >>> ((6 : Int32) &&& 31).toUInt32).toInt32) &&& (3 : Int32))), .val (.int (0 : Int32)), .val (.int (1 : Int32)), .val (.int (1 : Int32)), .val (.int (1 : Int32)), .val (.int (0 : Int32)), .val (.int (1 : Int32)), .val (.int (1 : Int32)), .val (.int (0 : Int32)), .unset, .unset, .unset, .unset, .unset, .unset]) C at_127 rfl rfl ?_
          exact K129 (x0 &&& (3 : Int32)) (((x0.toUInt32 >>> ((2 : Int32) &&& 31).toUInt32).toInt32) &&& (3 : Int32)) (((x0.toUInt32 >>> ((4 : Int32) &&& 31).toUInt32).toInt32) &&& (3 : Int32)) (((x0.toUInt32 >>> ((6 : Int32) &&& 31).toUInt32).toInt32) &&& (3 : Int32)) (0 : Int32) (1 : Int32) (1 : Int32) (1 : Int32) (1 : Int32) (1 : Int32) (0 : Int32) (four _) (four _) (four _) (four _) (if_neg q25).symm (if_pos q36).symm (if_pos q47).symm (if_pos q59).symm (by decide) (by decide) (by decide)
  · skip
    refine w_iconst (pc' := 29) (x := (1 : Int32)) C at_28 rfl rfl ?_
    refine w_goto (pc' := 33) C at_29 (by decide) (by decide) ?_
    refine w_istore (pc' := 35) (Ls' := #[.val (.int x0), .val (.int (x0 &&& (3 : Int32))), .val (.int (((x0.toUInt32 >>> ((2 : Int32) &&& 31).toUInt32).toInt32) &&& (3 : Int32))), .val (.int (((x0.toUInt32 >>> ((4 : Int32) &&& 31).toUInt32).toInt32) &&& (3 : Int32))), .val (.int (((x0.toUInt32 >>> ((6 : Int32) &&& 31).toUInt32).toInt32) &&& (3 : Int32))), .val (.int (1 : Int32)), .unset, .unset, .unset, .unset, .unset, .unset, .unset, .unset, .unset, .unset, .unset, .unset, .unset]) C at_33 rfl rfl ?_
    refine w_iloadN (pc' := 36) C at_35 rfl rfl ?_
    refine w_if_ne (pcT := 43) (pcF := 39) C at_36 (by decide) (by decide) rfl (fun q36 => ?_) (fun q36 => ?_)
    · skip
      refine w_iconst (pc' := 44) (x := (0 : Int32)) C at_43 rfl rfl ?_
      refine w_istore (pc' := 46) (Ls' := #[.val (.int x0), .val (.int (x0 &&& (3 : Int32))), .val (.int (((x0.toUInt32 >>> ((2 : Int32) &&& 31).toUInt32).toInt32) &&& (3 : Int32))), .val (.int (((x0.toUInt32 >>> ((4 : Int32) &&& 31).toUInt32).toInt32) &&& (3 : Int32))), .val (.int (((x0.toUInt32 >>> ((6 : Int32) &&& 31).toUInt32).toInt32) &&& (3 : Int32))), .val (.int (1 : Int32)), .val (.int (0 : Int32)), .unset, .unset, .unset, .unset, .unset, .unset, .unset, .unset, .unset, .unset, .unset, .unset]) C at_44 rfl rfl ?_
      refine w_iloadN (pc' := 47) C at_46 rfl rfl ?_
      refine w_if_ne (pcT := 54) (pcF := 50) C at_47 (by decide) (by decide) rfl (fun q47 => ?_) (fun q47 => ?_)
      · skip
        refine w_iconst (pc' := 55) (x := (0 : Int32)) C at_54 rfl rfl ?_
        refine w_istore (pc' := 57) (Ls' := #[.val (.int x0), .val (.int (x0 &&& (3 : Int32))), .val (.int (((x0.toUInt32 >>> ((2 : Int32) &&& 31).toUInt32).toInt32) &&& (3 : Int32))), .val (.int (((x0.toUInt32 >>> ((4 : Int32) &&& 31).toUInt32).toInt32) &&& (3 : Int32))), .val (.int (((x0.toUInt32 >>> ((6 : Int32) &&& 31).toUInt32).toInt32) &&& (3 : Int32))), .val (.int (1 : Int32)), .val (.int (0 : Int32)), .val (.int (0 : Int32)), .unset, .unset, .unset, .unset, .unset, .unset, .unset, .unset, .unset, .unset, .unset]) C at_55 rfl rfl ?_
        refine w_iload (pc' := 59) C at_57 rfl rfl ?_
        refine w_if_ne (pcT := 66) (pcF := 62) C at_59 (by decide) (by decide) rfl (fun q59 => ?_) (fun q59 => ?_)
        · skip
          refine w_iconst (pc' := 67) (x := (0 : Int32)) C at_66 rfl rfl ?_
          refine w_istore (pc' := 69) (Ls' := #[.val (.int x0), .val (.int (x0 &&& (3 : Int32))), .val (.int (((x0.toUInt32 >>> ((2 : Int32) &&& 31).toUInt32).toInt32) &&& (3 : Int32))), .val (.int (((x0.toUInt32 >>> ((4 : Int32) &&& 31).toUInt32).toInt32) &&& (3 : Int32))), .val (.int (((x0.toUInt32 >>> ((6 : Int32) &&& 31).toUInt32).toInt32) &&& (3 : Int32))), .val (.int (1 : Int32)), .val (.int (0 : Int32)), .val (.int (0 : Int32)), .val (.int (0 : Int32)), .unset, .unset, .unset, .unset, .unset, .unset, .unset, .unset, .unset, .unset]) C at_67 rfl rfl ?_
          refine w_iload (pc' := 71) C at_69 rfl rfl ?_
          refine w_istore (pc' := 73) (Ls' := #[.val (.int x0), .val (.int (x0 &&& (3 : Int32))), .val (.int (((x0.toUInt32 >>> ((2 : Int32) &&& 31).toUInt32).toInt32) &&& (3 : Int32))), .val (.int (((x0.toUInt32 >>> ((4 : Int32) &&& 31).toUInt32).toInt32) &&& (3 : Int32))), .val (.int (((x0.toUInt32 >>> ((6 : Int32) &&& 31).toUInt32).toInt32) &&& (3 : Int32))), .val (.int (1 : Int32)), .val (.int (0 : Int32)), .val (.int (0 : Int32)), .val (.int (0 : Int32)), .val (.int (1 : Int32)), .unset, .unset, .unset, .unset, .unset, .unset, .unset, .unset, .unset]) C at_71 rfl rfl ?_
          refine w_iload (pc' := 75) C at_73 rfl rfl ?_
          refine w_if_eq (pcT := 87) (pcF := 78) C at_75 (by decide) (by decide) rfl (fun q75 => ?_) (fun q => absurd q (by decide))
          refine w_iconst (pc' := 88) (x := (0 : Int32)) C at_87 rfl rfl ?_
          refine w_istore (pc' := 90) (Ls' := #[.val (.int x0), .val (.int (x0 &&& (3 : Int32))), .val (.int (((x0.toUInt32 >>> ((2 : Int32) &&& 31).toUInt32).toInt32) &&& (3 : Int32))), .val (.int (((x0.toUInt32 >>> ((4 : Int32) &&& 31).toUInt32).toInt32) &&& (3 : Int32))), .val (.int (((x0.toUInt32 >>> ((6 : Int32) &&& 31).toUInt32).toInt32) &&& (3 : Int32))), .val (.int (1 : Int32)), .val (.int (0 : Int32)), .val (.int (0 : Int32)), .val (.int (0 : Int32)), .val (.int (1 : Int32)), .val (.int (0 : Int32)), .unset, .unset, .unset, .unset, .unset, .unset, .unset, .unset]) C at_88 rfl rfl ?_
          refine w_iload (pc' := 92) C at_90 rfl rfl ?_
          refine w_if_eq (pcT := 104) (pcF := 95) C at_92 (by decide) (by decide) rfl (fun q92 => ?_) (fun q => absurd q (by decide))
          refine w_iconst (pc' := 105) (x := (0 : Int32)) C at_104 rfl rfl ?_
          refine w_istore (pc' := 107) (Ls' := #[.val (.int x0), .val (.int (x0 &&& (3 : Int32))), .val (.int (((x0.toUInt32 >>> ((2 : Int32) &&& 31).toUInt32).toInt32) &&& (3 : Int32))), .val (.int (((x0.toUInt32 >>> ((4 : Int32) &&& 31).toUInt32).toInt32) &&& (3 : Int32))), .val (.int (((x0.toUInt32 >>> ((6 : Int32) &&& 31).toUInt32).toInt32) &&& (3 : Int32))), .val (.int (1 : Int32)), .val (.int (0 : Int32)), .val (.int (0 : Int32)), .val (.int (0 : Int32)), .val (.int (1 : Int32)), .val (.int (0 : Int32)), .val (.int (0 : Int32)), .unset, .unset, .unset, .unset, .unset, .unset, .unset]) C at_105 rfl rfl ?_
          refine w_iload (pc' := 109) C at_107 rfl rfl ?_
          refine w_if_eq (pcT := 126) (pcF := 112) C at_109 (by decide) (by decide) rfl (fun q109 => ?_) (fun q => absurd q (by decide))
          refine w_iconst (pc' := 127) (x := (0 : Int32)) C at_126 rfl rfl ?_
          refine w_istore (pc' := 129) (Ls' := #[.val (.int x0), .val (.int (x0 &&& (3 : Int32))), .val (.int (((x0.toUInt32 >>> ((2 : Int32) &&& 31).toUInt32).toInt32) &&& (3 : Int32))), .val (.int (((x0.toUInt32 >>> ((4 : Int32) &&& 31).toUInt32).toInt32) &&& (3 : Int32))), .val (.int (((x0.toUInt32 >>> ((6 : Int32) &&& 31).toUInt32).toInt32) &&& (3 : Int32))), .val (.int (1 : Int32)), .val (.int (0 : Int32)), .val (.int (0 : Int32)), .val (.int (0 : Int32)), .val (.int (1 : Int32)), .val (.int (0 : Int32)), .val (.int (0 : Int32)), .val (.int (0 : Int32)), .unset, .unset, .unset, .unset, .unset, .unset]) C at_127 rfl rfl ?_
          exact K129 (x0 &&& (3 : Int32)) (((x0.toUInt32 >>> ((2 : Int32) &&& 31).toUInt32).toInt32) &&& (3 : Int32)) (((x0.toUInt32 >>> ((4 : Int32) &&& 31).toUInt32).toInt32) &&& (3 : Int32)) (((x0.toUInt32 >>> ((6 : Int32) &&& 31).toUInt32).toInt32) &&& (3 : Int32)) (1 : Int32) (0 : Int32) (0 : Int32) (0 : Int32) (0 : Int32) (0 : Int32) (0 : Int32) (four _) (four _) (four _) (four _) (if_pos q25).symm (if_neg q36).symm (if_neg q47).symm (if_neg q59).symm (by decide) (by decide) (by decide)
        · skip
          refine w_iconst (pc' := 63) (x := (1 : Int32)) C at_62 rfl rfl ?_
          refine w_goto (pc' := 67) C at_63 (by decide) (by decide) ?_
          refine w_istore (pc' := 69) (Ls' := #[.val (.int x0), .val (.int (x0 &&& (3 : Int32))), .val (.int (((x0.toUInt32 >>> ((2 : Int32) &&& 31).toUInt32).toInt32) &&& (3 : Int32))), .val (.int (((x0.toUInt32 >>> ((4 : Int32) &&& 31).toUInt32).toInt32) &&& (3 : Int32))), .val (.int (((x0.toUInt32 >>> ((6 : Int32) &&& 31).toUInt32).toInt32) &&& (3 : Int32))), .val (.int (1 : Int32)), .val (.int (0 : Int32)), .val (.int (0 : Int32)), .val (.int (1 : Int32)), .unset, .unset, .unset, .unset, .unset, .unset, .unset, .unset, .unset, .unset]) C at_67 rfl rfl ?_
          refine w_iload (pc' := 71) C at_69 rfl rfl ?_
          refine w_istore (pc' := 73) (Ls' := #[.val (.int x0), .val (.int (x0 &&& (3 : Int32))), .val (.int (((x0.toUInt32 >>> ((2 : Int32) &&& 31).toUInt32).toInt32) &&& (3 : Int32))), .val (.int (((x0.toUInt32 >>> ((4 : Int32) &&& 31).toUInt32).toInt32) &&& (3 : Int32))), .val (.int (((x0.toUInt32 >>> ((6 : Int32) &&& 31).toUInt32).toInt32) &&& (3 : Int32))), .val (.int (1 : Int32)), .val (.int (0 : Int32)), .val (.int (0 : Int32)), .val (.int (1 : Int32)), .val (.int (1 : Int32)), .unset, .unset, .unset, .unset, .unset, .unset, .unset, .unset, .unset]) C at_71 rfl rfl ?_
          refine w_iload (pc' := 75) C at_73 rfl rfl ?_
          refine w_if_eq (pcT := 87) (pcF := 78) C at_75 (by decide) (by decide) rfl (fun q75 => ?_) (fun q => absurd q (by decide))
          refine w_iconst (pc' := 88) (x := (0 : Int32)) C at_87 rfl rfl ?_
          refine w_istore (pc' := 90) (Ls' := #[.val (.int x0), .val (.int (x0 &&& (3 : Int32))), .val (.int (((x0.toUInt32 >>> ((2 : Int32) &&& 31).toUInt32).toInt32) &&& (3 : Int32))), .val (.int (((x0.toUInt32 >>> ((4 : Int32) &&& 31).toUInt32).toInt32) &&& (3 : Int32))), .val (.int (((x0.toUInt32 >>> ((6 : Int32) &&& 31).toUInt32).toInt32) &&& (3 : Int32))), .val (.int (1 : Int32)), .val (.int (0 : Int32)), .val (.int (0 : Int32)), .val (.int (1 : Int32)), .val (.int (1 : Int32)), .val (.int (0 : Int32)), .unset, .unset, .unset, .unset, .unset, .unset, .unset, .unset]) C at_88 rfl rfl ?_
          refine w_iload (pc' := 92) C at_90 rfl rfl ?_
          refine w_if_eq (pcT := 104) (pcF := 95) C at_92 (by decide) (by decide) rfl (fun q92 => ?_) (fun q => absurd q (by decide))
          refine w_iconst (pc' := 105) (x := (0 : Int32)) C at_104 rfl rfl ?_
          refine w_istore (pc' := 107) (Ls' := #[.val (.int x0), .val (.int (x0 &&& (3 : Int32))), .val (.int (((x0.toUInt32 >>> ((2 : Int32) &&& 31).toUInt32).toInt32) &&& (3 : Int32))), .val (.int (((x0.toUInt32 >>> ((4 : Int32) &&& 31).toUInt32).toInt32) &&& (3 : Int32))), .val (.int (((x0.toUInt32 >>> ((6 : Int32) &&& 31).toUInt32).toInt32) &&& (3 : Int32))), .val (.int (1 : Int32)), .val (.int (0 : Int32)), .val (.int (0 : Int32)), .val (.int (1 : Int32)), .val (.int (1 : Int32)), .val (.int (0 : Int32)), .val (.int (0 : Int32)), .unset, .unset, .unset, .unset, .unset, .unset, .unset]) C at_105 rfl rfl ?_
          refine w_iload (pc' := 109) C at_107 rfl rfl ?_
          refine w_if_eq (pcT := 126) (pcF := 112) C at_109 (by decide) (by decide) rfl (fun q => absurd q (by decide)) (fun q109 => ?_)
          refine w_iload (pc' := 114) C at_112 rfl rfl ?_
          refine w_if_ne (pcT := 126) (pcF := 117) C at_114 (by decide) (by decide) rfl (fun q114 => ?_) (fun q => absurd q (by decide))
          refine w_iconst (pc' := 127) (x := (0 : Int32)) C at_126 rfl rfl ?_
          refine w_istore (pc' := 129) (Ls' := #[.val (.int x0), .val (.int (x0 &&& (3 : Int32))), .val (.int (((x0.toUInt32 >>> ((2 : Int32) &&& 31).toUInt32).toInt32) &&& (3 : Int32))), .val (.int (((x0.toUInt32 >>> ((4 : Int32) &&& 31).toUInt32).toInt32) &&& (3 : Int32))), .val (.int (((x0.toUInt32 >>> ((6 : Int32) &&& 31).toUInt32).toInt32) &&& (3 : Int32))), .val (.int (1 : Int32)), .val (.int (0 : Int32)), .val (.int (0 : Int32)), .val (.int (1 : Int32)), .val (.int (1 : Int32)), .val (.int (0 : Int32)), .val (.int (0 : Int32)), .val (.int (0 : Int32)), .unset, .unset, .unset, .unset, .unset, .unset]) C at_127 rfl rfl ?_
          exact K129 (x0 &&& (3 : Int32)) (((x0.toUInt32 >>> ((2 : Int32) &&& 31).toUInt32).toInt32) &&& (3 : Int32)) (((x0.toUInt32 >>> ((4 : Int32) &&& 31).toUInt32).toInt32) &&& (3 : Int32)) (((x0.toUInt32 >>> ((6 : Int32) &&& 31).toUInt32).toInt32) &&& (3 : Int32)) (1 : Int32) (0 : Int32) (0 : Int32) (1 : Int32) (0 : Int32) (0 : Int32) (0 : Int32) (four _) (four _) (four _) (four _) (if_pos q25).symm (if_neg q36).symm (if_neg q47).symm (if_pos q59).symm (by decide) (by decide) (by decide)
      · skip
        refine w_iconst (pc' := 51) (x := (1 : Int32)) C at_50 rfl rfl ?_
        refine w_goto (pc' := 55) C at_51 (by decide) (by decide) ?_
        refine w_istore (pc' := 57) (Ls' := #[.val (.int x0), .val (.int (x0 &&& (3 : Int32))), .val (.int (((x0.toUInt32 >>> ((2 : Int32) &&& 31).toUInt32).toInt32) &&& (3 : Int32))), .val (.int (((x0.toUInt32 >>> ((4 : Int32) &&& 31).toUInt32).toInt32) &&& (3 : Int32))), .val (.int (((x0.toUInt32 >>> ((6 : Int32) &&& 31).toUInt32).toInt32) &&& (3 : Int32))), .val (.int (1 : Int32)), .val (.int (0 : Int32)), .val (.int (1 : Int32)), .unset, .unset, .unset, .unset, .unset, .unset, .unset, .unset, .unset, .unset, .unset]) C at_55 rfl rfl ?_
        refine w_iload (pc' := 59) C at_57 rfl rfl ?_
        refine w_if_ne (pcT := 66) (pcF := 62) C at_59 (by decide) (by decide) rfl (fun q59 => ?_) (fun q59 => ?_)
        · skip
          refine w_iconst (pc' := 67) (x := (0 : Int32)) C at_66 rfl rfl ?_
          refine w_istore (pc' := 69) (Ls' := #[.val (.int x0), .val (.int (x0 &&& (3 : Int32))), .val (.int (((x0.toUInt32 >>> ((2 : Int32) &&& 31).toUInt32).toInt32) &&& (3 : Int32))), .val (.int (((x0.toUInt32 >>> ((4 : Int32) &&& 31).toUInt32).toInt32) &&& (3 : Int32))), .val (.int (((x0.toUInt32 >>> ((6 : Int32) &&& 31).toUInt32).toInt32) &&& (3 : Int32))), .val (.int (1 : Int32)), .val (.int (0 : Int32)), .val (.int (1 : Int32)), .val (.int (0 : Int32)), .unset, .unset, .unset, .unset, .unset, .unset, .unset, .unset, .unset, .unset]) C at_67 rfl rfl ?_
          refine w_iload (pc' := 71) C at_69 rfl rfl ?_
          refine w_istore (pc' := 73) (Ls' := #[.val (.int x0), .val (.int (x0 &&& (3 : Int32))), .val (.int (((x0.toUInt32 >>> ((2 : Int32) &&& 31).toUInt32).toInt32) &&& (3 : Int32))), .val (.int (((x0.toUInt32 >>> ((4 : Int32) &&& 31).toUInt32).toInt32) &&& (3 : Int32))), .val (.int (((x0.toUInt32 >>> ((6 : Int32) &&& 31).toUInt32).toInt32) &&& (3 : Int32))), .val (.int (1 : Int32)), .val (.int (0 : Int32)), .val (.int (1 : Int32)), .val (.int (0 : Int32)), .val (.int (1 : Int32)), .unset, .unset, .unset, .unset, .unset, .unset, .unset, .unset, .unset]) C at_71 rfl rfl ?_
          refine w_iload (pc' := 75) C at_73 rfl rfl ?_
          refine w_if_eq (pcT := 87) (pcF := 78) C at_75 (by decide) (by decide) rfl (fun q75 => ?_) (fun q => absurd q (by decide))
          refine w_iconst (pc' := 88) (x := (0 : Int32)) C at_87 rfl rfl ?_
          refine w_istore (pc' := 90) (Ls' := #[.val (.int x0), .val (.int (x0 &&& (3 : Int32))), .val (.int (((x0.toUInt32 >>> ((2 : Int32) &&& 31).toUInt32).toInt32) &&& (3 : Int32))), .val (.int (((x0.toUInt32 >>> ((4 : Int32) &&& 31).toUInt32).toInt32) &&& (3 : Int32))), .val (.int (((x0.toUInt32 >>> ((6 : Int32) &&& 31).toUInt32).toInt32) &&& (3 : Int32))), .val (.int (1 : Int32)), .val (.int (0 : Int32)), .val (.int (1 : Int32)), .val (.int (0 : Int32)), .val (.int (1 : Int32)), .val (.int (0 : Int32)), .unset, .unset, .unset, .unset, .unset, .unset, .unset, .unset]) C at_88 rfl rfl ?_
          refine w_iload (pc' := 92) C at_90 rfl rfl ?_
          refine w_if_eq (pcT := 104) (pcF := 95) C at_92 (by decide) (by decide) rfl (fun q => absurd q (by decide)) (fun q92 => ?_)
          refine w_iload (pc' := 97) C at_95 rfl rfl ?_
          refine w_if_ne (pcT := 104) (pcF := 100) C at_97 (by decide) (by decide) rfl (fun q97 => ?_) (fun q => absurd q (by decide))
          refine w_iconst (pc' := 105) (x := (0 : Int32)) C at_104 rfl rfl ?_
          refine w_istore (pc' := 107) (Ls' := #[.val (.int x0), .val (.int (x0 &&& (3 : Int32))), .val (.int (((x0.toUInt32 >>> ((2 : Int32) &&& 31).toUInt32).toInt32) &&& (3 : Int32))), .val (.int (((x0.toUInt32 >>> ((4 : Int32) &&& 31).toUInt32).toInt32) &&& (3 : Int32))), .val (.int (((x0.toUInt32 >>> ((6 : Int32) &&& 31).toUInt32).toInt32) &&& (3 : Int32))), .val (.int (1 : Int32)), .val (.int (0 : Int32)), .val (.int (1 : Int32)), .val (.int (0 : Int32)), .val (.int (1 : Int32)), .val (.int (0 : Int32)), .val (.int (0 : Int32)), .unset, .unset, .unset, .unset, .unset, .unset, .unset]) C at_105 rfl rfl ?_
          refine w_iload (pc' := 109) C at_107 rfl rfl ?_
          refine w_if_eq (pcT := 126) (pcF := 112) C at_109 (by decide) (by decide) rfl (fun q109 => ?_) (fun q => absurd q (by decide))
          refine w_iconst (pc' := 127) (x := (0 : Int32)) C at_126 rfl rfl ?_
          refine w_istore (pc' := 129) (Ls' := #[.val (.int x0), .val (.int (x0 &&& (3 : Int32))), .val (.int (((x0.toUInt32 >>> ((2 : Int32) &&& 31).toUInt32).toInt32) &&& (3 : Int32))), .val (.int (((x0.toUInt32 >>> ((4 : Int32) &&& 31).toUInt32).toInt32) &&& (3 : Int32))), .val (.int (((x0.toUInt32 >>> ((6 : Int32) &&& 31).toUInt32).toInt32) &&& (3 : Int32))), .val (.int (1 : Int32)), .val (.int (0 : Int32)), .val (.int (1 : Int32)), .val (.int (0 : Int32)), .val (.int (1 : Int32)), .val (.int (0 : Int32)), .val (.int (0 : Int32)), .val (.int (0 : Int32)), .unset, .unset, .unset, .unset, .unset, .unset]) C at_127 rfl rfl ?_
          exact K129 (x0 &&& (3 : Int32)) (((x0.toUInt32 >>> ((2 : Int32) &&& 31).toUInt32).toInt32) &&& (3 : Int32)) (((x0.toUInt32 >>> ((4 : Int32) &&& 31).toUInt32).toInt32) &&& (3 : Int32)) (((x0.toUInt32 >>> ((6 : Int32) &&& 31).toUInt32).toInt32) &&& (3 : Int32)) (1 : Int32) (0 : Int32) (1 : Int32) (0 : Int32) (0 : Int32) (0 : Int32) (0 : Int32) (four _) (four _) (four _) (four _) (if_pos q25).symm (if_neg q36).symm (if_pos q47).symm (if_neg q59).symm (by decide) (by decide) (by decide)
        · skip
          refine w_iconst (pc' := 63) (x := (1 : Int32)) C at_62 rfl rfl ?_
          refine w_goto (pc' := 67) C at_63 (by decide) (by decide) ?_
          refine w_istore (pc' := 69) (Ls' := #[.val (.int x0), .val (.int (x0 &&& (3 : Int32))), .val (.int (((x0.toUInt32 >>> ((2 : Int32) &&& 31).toUInt32).toInt32) &&& (3 : Int32))), .val (.int (((x0.toUInt32 >>> ((4 : Int32) &&& 31).toUInt32).toInt32) &&& (3 : Int32))), .val (.int (((x0.toUInt32 >>> ((6 : Int32) &&& 31).toUInt32).toInt32) &&& (3 : Int32))), .val (.int (1 : Int32)), .val (.int (0 : Int32)), .val (.int (1 : Int32)), .val (.int (1 : Int32)), .unset, .unset, .unset, .unset, .unset, .unset, .unset, .unset, .unset, .unset]) C at_67 rfl rfl ?_
          refine w_iload (pc' := 71) C at_69 rfl rfl ?_
          refine w_istore (pc' := 73) (Ls' := #[.val (.int x0), .val (.int (x0 &&& (3 : Int32))), .val (.int (((x0.toUInt32 >>> ((2 : Int32) &&& 31).toUInt32).toInt32) &&& (3 : Int32))), .val (.int (((x0.toUInt32 >>> ((4 : Int32) &&& 31).toUInt32).toInt32) &&& (3 : Int32))), .val (.int (((x0.toUInt32 >>> ((6 : Int32) &&& 31).toUInt32).toInt32) &&& (3 : Int32))), .val (.int (1 : Int32)), .val (.int (0 : Int32)), .val (.int (1 : Int32)), .val (.int (1 : Int32)), .val (.int (1 : Int32)), .unset, .unset, .unset, .unset, .unset, .unset, .unset, .unset, .unset]) C at_71 rfl rfl ?_
          refine w_iload (pc' := 75) C at_73 rfl rfl ?_
          refine w_if_eq (pcT := 87) (pcF := 78) C at_75 (by decide) (by decide) rfl (fun q75 => ?_) (fun q => absurd q (by decide))
          refine w_iconst (pc' := 88) (x := (0 : Int32)) C at_87 rfl rfl ?_
          refine w_istore (pc' := 90) (Ls' := #[.val (.int x0), .val (.int (x0 &&& (3 : Int32))), .val (.int (((x0.toUInt32 >>> ((2 : Int32) &&& 31).toUInt32).toInt32) &&& (3 : Int32))), .val (.int (((x0.toUInt32 >>> ((4 : Int32) &&& 31).toUInt32).toInt32) &&& (3 : Int32))), .val (.int (((x0.toUInt32 >>> ((6 : Int32) &&& 31).toUInt32).toInt32) &&& (3 : Int32))), .val (.int (1 : Int32)), .val (.int (0 : Int32)), .val (.int (1 : Int32)), .val (.int (1 : Int32)), .val (.int (1 : Int32)), .val (.int (0 : Int32)), .unset, .unset, .unset, .unset, .unset, .unset, .unset, .unset]) C at_88 rfl rfl ?_
          refine w_iload (pc' := 92) C at_90 rfl rfl ?_
          refine w_if_eq (pcT := 104) (pcF := 95) C at_92 (by decide) (by decide) rfl (fun q => absurd q (by decide)) (fun q92 => ?_)
          refine w_iload (pc' := 97) C at_95 rfl rfl ?_
          refine w_if_ne (pcT := 104) (pcF := 100) C at_97 (by decide) (by decide) rfl (fun q97 => ?_) (fun q => absurd q (by decide))
          refine w_iconst (pc' := 105) (x := (0 : Int32)) C at_104 rfl rfl ?_
          refine w_istore (pc' := 107) (Ls' := #[.val (.int x0), .val (.int (x0 &&& (3 : Int32))), .val (.int (((x0.toUInt32 >>> ((2 : Int32) &&& 31).toUInt32).toInt32) &&& (3 : Int32))), .val (.int (((x0.toUInt32 >>> ((4 : Int32) &&& 31).toUInt32).toInt32) &&& (3 : Int32))), .val (.int (((x0.toUInt32 >>> ((6 : Int32) &&& 31).toUInt32).toInt32) &&& (3 : Int32))), .val (.int (1 : Int32)), .val (.int (0 : Int32)), .val (.int (1 : Int32)), .val (.int (1 : Int32)), .val (.int (1 : Int32)), .val (.int (0 : Int32)), .val (.int (0 : Int32)), .unset, .unset, .unset, .unset, .unset, .unset, .unset]) C at_105 rfl rfl ?_
          refine w_iload (pc' := 109) C at_107 rfl rfl ?_
          refine w_if_eq (pcT := 126) (pcF := 112) C at_109 (by decide) (by decide) rfl (fun q => absurd q (by decide)) (fun q109 => ?_)
          refine w_iload (pc' := 114) C at_112 rfl rfl ?_
          refine w_if_ne (pcT := 126) (pcF := 117) C at_114 (by decide) (by decide) rfl (fun q114 => ?_) (fun q => absurd q (by decide))
          refine w_iconst (pc' := 127) (x := (0 : Int32)) C at_126 rfl rfl ?_
          refine w_istore (pc' := 129) (Ls' := #[.val (.int x0), .val (.int (x0 &&& (3 : Int32))), .val (.int (((x0.toUInt32 >>> ((2 : Int32) &&& 31).toUInt32).toInt32) &&& (3 : Int32))), .val (.int (((x0.toUInt32 >>> ((4 : Int32) &&& 31).toUInt32).toInt32) &&& (3 : Int32))), .val (.int (((x0.toUInt32 >>> ((6 : Int32) &&& 31).toUInt32).toInt32) &&& (3 : Int32))), .val (.int (1 : Int32)), .val (.int (0 : Int32)), .val (.int (1 : Int32)), .val (.int (1 : Int32)), .val (.int (1 : Int32)), .val (.int (0 : Int32)), .val (.int (0 : Int32)), .val (.int (0 : Int32)), .unset, .unset, .unset, .unset, .unset, .unset]) C at_127 rfl rfl ?_
          exact K129 (x0 &&& (3 : Int32)) (((x0.toUInt32 >>> ((2 : Int32) &&& 31).toUInt32).toInt32) &&& (3 : Int32)) (((x0.toUInt32 >>> ((4 : Int32) &&& 31).toUInt32).toInt32) &&& (3 : Int32)) (((x0.toUInt32 >>> ((6 : Int32) &&& 31).toUInt32).toInt32) &&& (3 : Int32)) (1 : Int32) (0 : Int32) (1 : Int32) (1 : Int32) (0 : Int32) (0 : Int32) (0 : Int32) (four _) (four _) (four _) (four _) (if_pos q25).symm (if_neg q36).symm (if_pos q47).symm (if_pos q59).symm (by decide) (by decide) (by decide)
    · skip
      refine w_iconst (pc' := 40) (x := (1 : Int32)) C at_39 rfl rfl ?_
      refine w_goto (pc' := 44) C at_40 (by decide) (by decide) ?_
      refine w_istore (pc' := 46) (Ls' := #[.val (.int x0), .val (.int (x0 &&& (3 : Int32))), .val (.int (((x0.toUInt32 >>> ((2 : Int32) &&& 31).toUInt32).toInt32) &&& (3 : Int32))), .val (.int (((x0.toUInt32 >>> ((4 : Int32) &&& 31).toUInt32).toInt32) &&& (3 : Int32))), .val (.int (((x0.toUInt32 >>> ((6 : Int32) &&& 31).toUInt32).toInt32) &&& (3 : Int32))), .val (.int (1 : Int32)), .val (.int (1 : Int32)), .unset, .unset, .unset, .unset, .unset, .unset, .unset, .unset, .unset, .unset, .unset, .unset]) C at_44 rfl rfl ?_
      refine w_iloadN (pc' := 47) C at_46 rfl rfl ?_
      refine w_if_ne (pcT := 54) (pcF := 50) C at_47 (by decide) (by decide) rfl (fun q47 => ?_) (fun q47 => ?_)
      · skip
        refine w_iconst (pc' := 55) (x := (0 : Int32)) C at_54 rfl rfl ?_
        refine w_istore (pc' := 57) (Ls' := #[.val (.int x0), .val (.int (x0 &&& (3 : Int32))), .val (.int (((x0.toUInt32 >>> ((2 : Int32) &&& 31).toUInt32).toInt32) &&& (3 : Int32))), .val (.int (((x0.toUInt32 >>> ((4 : Int32) &&& 31).toUInt32).toInt32) &&& (3 : Int32))), .val (.int (((x0.toUInt32 >>> ((6 : Int32) &&& 31).toUInt32).toInt32) &&& (3 : Int32))), .val (.int (1 : Int32)), .val (.int (1 : Int32)), .val (.int (0 : Int32)), .unset, .unset, .unset, .unset, .unset, .unset, .unset, .unset, .unset, .unset, .unset]) C at_55 rfl rfl ?_
        refine w_iload (pc' := 59) C at_57 rfl rfl ?_
        refine w_if_ne (pcT := 66) (pcF := 62) C at_59 (by decide) (by decide) rfl (fun q59 => ?_) (fun q59 => ?_)
        · skip
          refine w_iconst (pc' := 67) (x := (0 : Int32)) C at_66 rfl rfl ?_
          refine w_istore (pc' := 69) (Ls' := #[.val (.int x0), .val (.int (x0 &&& (3 : Int32))), .val (.int (((x0.toUInt32 >>> ((2 : Int32) &&& 31).toUInt32).toInt32) &&& (3 : Int32))), .val (.int (((x0.toUInt32 >>> ((4 : Int32) &&& 31).toUInt32).toInt32) &&& (3 : Int32))), .val (.int (((x0.toUInt32 >>> ((6 : Int32) &&& 31).toUInt32).toInt32) &&& (3 : Int32))), .val (.int (1 : Int32)), .val (.int (1 : Int32)), .val (.int (0 : Int32)), .val (.int (0 : Int32)), .unset, .unset, .unset, .unset, .unset, .unset, .unset, .unset, .unset, .unset]) C at_67 rfl rfl ?_
          refine w_iload (pc' := 71) C at_69 rfl rfl ?_
          refine w_istore (pc' := 73) (Ls' := #[.val (.int x0), .val (.int (x0 &&& (3 : Int32))), .val (.int (((x0.toUInt32 >>> ((2 : Int32) &&& 31).toUInt32).toInt32) &&& (3 : Int32))), .val (.int (((x0.toUInt32 >>> ((4 : Int32) &&& 31).toUInt32).toInt32) &&& (3 : Int32))), .val (.int (((x0.toUInt32 >>> ((6 : Int32) &&& 31).toUInt32).toInt32) &&& (3 : Int32))), .val (.int (1 : Int32)), .val (.int (1 : Int32)), .val (.int (0 : Int32)), .val (.int (0 : Int32)), .val (.int (1 : Int32)), .unset, .unset, .unset, .unset, .unset, .unset, .unset, .unset, .unset]) C at_71 rfl rfl ?_
          refine w_iload (pc' := 75) C at_73 rfl rfl ?_
          refine w_if_eq (pcT := 87) (pcF := 78) C at_75 (by decide) (by decide) rfl (fun q => absurd q (by decide)) (fun q75 => ?_)
          refine w_iload (pc' := 80) C at_78 rfl rfl ?_
          refine w_if_ne (pcT := 87) (pcF := 83) C at_80 (by decide) (by decide) rfl (fun q80 => ?_) (fun q => absurd q (by decide))
          refine w_iconst (pc' := 88) (x := (0 : Int32)) C at_87 rfl rfl ?_
          refine w_istore (pc' := 90) (Ls' := #[.val (.int x0), .val (.int (x0 &&& (3 : Int32))), .val (.int (((x0.toUInt32 >>> ((2 : Int32) &&& 31).toUInt32).toInt32) &&& (3 : Int32))), .val (.int (((x0.toUInt32 >>> ((4 : Int32) &&& 31).toUInt32).toInt32) &&& (3 : Int32))), .val (.int (((x0.toUInt32 >>> ((6 : Int32) &&& 31).toUInt32).toInt32) &&& (3 : Int32))), .val (.int (1 : Int32)), .val (.int (1 : Int32)), .val (.int (0 : Int32)), .val (.int (0 : Int32)), .val (.int (1 : Int32)), .val (.int (0 : Int32)), .unset, .unset, .unset, .unset, .unset, .unset, .unset, .unset]) C at_88 rfl rfl ?_
          refine w_iload (pc' := 92) C at_90 rfl rfl ?_
          refine w_if_eq (pcT := 104) (pcF := 95) C at_92 (by decide) (by decide) rfl (fun q92 => ?_) (fun q => absurd q (by decide))
          refine w_iconst (pc' := 105) (x := (0 : Int32)) C at_104 rfl rfl ?_
          refine w_istore (pc' := 107) (Ls' := #[.val (.int x0), .val (.int (x0 &&& (3 : Int32))), .val (.int (((x0.toUInt32 >>> ((2 : Int32) &&& 31).toUInt32).toInt32) &&& (3 : Int32))), .val (.int (((x0.toUInt32 >>> ((4 : Int32) &&& 31).toUInt32).toInt32) &&& (3 : Int32))), .val (.int (((x0.toUInt32 >>> ((6 : Int32) &&& 31).toUInt32).toInt32) &&& (3 : Int32))), .val (.int (1 : Int32)), .val (.int (1 : Int32)), .val (.int (0 : Int32)), .val (.int (0 : Int32)), .val (.int (1 : Int32)), .val (.int (0 : Int32)), .val (.int (0 : Int32)), .unset, .unset, .unset, .unset, .unset, .unset, .unset]) C at_105 rfl rfl ?_
          refine w_iload (pc' := 109) C at_107 rfl rfl ?_
          refine w_if_eq (pcT := 126) (pcF := 112) C at_109 (by decide) (by decide) rfl (fun q109 => ?_) (fun q => absurd q (by decide))
          refine w_iconst (pc' := 127) (x := (0 : Int32)) C at_126 rfl rfl ?_
          refine w_istore (pc' := 129) (Ls' := #[.val (.int x0), .val (.int (x0 &&& (3 : Int32))), .val (.int (((x0.toUInt32 >>> ((2 : Int32) &&& 31).toUInt32).toInt32) &&& (3 : Int32))), .val (.int (((x0.toUInt32 >>> ((4 : Int32) &&& 31).toUInt32).toInt32) &&& (3 : Int32))), .val (.int (((x0.toUInt32 >>> ((6 : Int32) &&& 31).toUInt32).toInt32) &&& (3 : Int32))), .val (.int (1 : Int32)), .val (.int (1 : Int32)), .val (.int (0 : Int32)), .val (.int (0 : Int32)), .val (.int (1 : Int32)), .val (.int (0 : Int32)), .val (.int (0 : Int32)), .val (.int (0 : Int32)), .unset, .unset, .unset, .unset, .unset, .unset]) C at_127 rfl rfl ?_
          exact K129 (x0 &&& (3 : Int32)) (((x0.toUInt32 >>> ((2 : Int32) &&& 31).toUInt32).toInt32) &&& (3 : Int32)) (((x0.toUInt32 >>> ((4 : Int32) &&& 31).toUInt32).toInt32) &&& (3 : Int32)) (((x0.toUInt32 >>> ((6 : Int32) &&& 31).toUInt32).toInt32) &&& (3 : Int32)) (1 : Int32) (1 : Int32) (0 : Int32) (0 : Int32) (0 : Int32) (0 : Int32) (0 : Int32) (four _) (four _) (four _) (four _) (if_pos q25).symm (if_pos q36).symm (if_neg q47).symm (if_neg q59).symm (by decide) (by decide) (by decide)
        · skip
          refine w_iconst (pc' := 63) (x := (1 : Int32)) C at_62 rfl rfl ?_
          refine w_goto (pc' := 67) C at_63 (by decide) (by decide) ?_
          refine w_istore (pc' := 69) (Ls' := #[.val (.int x0), .val (.int (x0 &&& (3 : Int32))), .val (.int (((x0.toUInt32 >>> ((2 : Int32) &&& 31).toUInt32).toInt32) &&& (3 : Int32))), .val (.int (((x0.toUInt32 >>> ((4 : Int32) &&& 31).toUInt32).toInt32) &&& (3 : Int32))), .val (.int (((x0.toUInt32 >>> ((6 : Int32) &&& 31).toUInt32).toInt32) &&& (3 : Int32))), .val (.int (1 : Int32)), .val (.int (1 : Int32)), .val (.int (0 : Int32)), .val (.int (1 : Int32)), .unset, .unset, .unset, .unset, .unset, .unset, .unset, .unset, .unset, .unset]) C at_67 rfl rfl ?_
          refine w_iload (pc' := 71) C at_69 rfl rfl ?_
          refine w_istore (pc' := 73) (Ls' := #[.val (.int x0), .val (.int (x0 &&& (3 : Int32))), .val (.int (((x0.toUInt32 >>> ((2 : Int32) &&& 31).toUInt32).toInt32) &&& (3 : Int32))), .val (.int (((x0.toUInt32 >>> ((4 : Int32) &&& 31).toUInt32).toInt32) &&& (3 : Int32))), .val (.int (((x0.toUInt32 >>> ((6 : Int32) &&& 31).toUInt32).toInt32) &&& (3 : Int32))), .val (.int (1 : Int32)), .val (.int (1 : Int32)), .val (.int (0 : Int32)), .val (.int (1 : Int32)), .val (.int (1 : Int32)), .unset, .unset, .unset, .unset, .unset, .unset, .unset, .unset, .unset]) C at_71 rfl rfl ?_
          refine w_iload (pc' := 75) C at_73 rfl rfl ?_
          refine w_if_eq (pcT := 87) (pcF := 78) C at_75 (by decide) (by decide) rfl (fun q => absurd q (by decide)) (fun q75 => ?_)
          refine w_iload (pc' := 80) C at_78 rfl rfl ?_
          refine w_if_ne (pcT := 87) (pcF := 83) C at_80 (by decide) (by decide) rfl (fun q80 => ?_) (fun q => absurd q (by decide))
          refine w_iconst (pc' := 88) (x := (0 : Int32)) C at_87 rfl rfl ?_
          refine w_istore (pc' := 90) (Ls' := #[.val (.int x0), .val (.int (x0 &&& (3 : Int32))), .val (.int (((x0.toUInt32 >>> ((2 : Int32) &&& 31).toUInt32).toInt32) &&& (3 : Int32))), .val (.int (((x0.toUInt32 >>> ((4 : Int32) &&& 31).toUInt32).toInt32) &&& (3 : Int32))), .val (.int (((x0.toUInt32 >>> ((6 : Int32) &&& 31).toUInt32).toInt32) &&& (3 : Int32))), .val (.int (1 : Int32)), .val (.int (1 : Int32)), .val (.int (0 : Int32)), .val (.int (1 : Int32)), .val (.int (1 : Int32)), .val (.int (0 : Int32)), .unset, .unset, .unset, .unset, .unset, .unset, .unset, .unset]) C at_88 rfl rfl ?_
          refine w_iload (pc' := 92) C at_90 rfl rfl ?_
          refine w_if_eq (pcT := 104) (pcF := 95) C at_92 (by decide) (by decide) rfl (fun q92 => ?_) (fun q => absurd q (by decide))
          refine w_iconst (pc' := 105) (x := (0 : Int32)) C at_104 rfl rfl ?_
          refine w_istore (pc' := 107) (Ls' := #[.val (.int x0), .val (.int (x0 &&& (3 : Int32))), .val (.int (((x0.toUInt32 >>> ((2 : Int32) &&& 31).toUInt32).toInt32) &&& (3 : Int32))), .val (.int (((x0.toUInt32 >>> ((4 : Int32) &&& 31).toUInt32).toInt32) &&& (3 : Int32))), .val (.int (((x0.toUInt32 >>> ((6 : Int32) &&& 31).toUInt32).toInt32) &&& (3 : Int32))), .val (.int (1 : Int32)), .val (.int (1 : Int32)), .val (.int (0 : Int32)), .val (.int (1 : Int32)), .val (.int (1 : Int32)), .val (.int (0 : Int32)), .val (.int (0 : Int32)), .unset, .unset, .unset, .unset, .unset, .unset, .unset]) C at_105 rfl rfl ?_
          refine w_iload (pc' := 109) C at_107 rfl rfl ?_
          refine w_if_eq (pcT := 126) (pcF := 112) C at_109 (by decide) (by decide) rfl (fun q => absurd q (by decide)) (fun q109 => ?_)
          refine w_iload (pc' := 114) C at_112 rfl rfl ?_
          refine w_if_ne (pcT := 126) (pcF := 117) C at_114 (by decide) (by decide) rfl (fun q114 => ?_) (fun q => absurd q (by decide))
          refine w_iconst (pc' := 127) (x := (0 : Int32)) C at_126 rfl rfl ?_
          refine w_istore (pc' := 129) (Ls' := #[.val (.int x0), .val (.int (x0 &&& (3 : Int32))), .val (.int (((x0.toUInt32 >>> ((2 : Int32) &&& 31).toUInt32).toInt32) &&& (3 : Int32))), .val (.int (((x0.toUInt32 >>> ((4 : Int32) &&& 31).toUInt32).toInt32) &&& (3 : Int32))), .val (.int (((x0.toUInt32 >>> ((6 : Int32) &&& 31).toUInt32).toInt32) &&& (3 : Int32))), .val (.int (1 : Int32)), .val (.int (1 : Int32)), .val (.int (0 : Int32)), .val (.int (1 : Int32)), .val (.int (1 : Int32)), .val (.int (0 : Int32)), .val (.int (0 : Int32)), .val (.int (0 : Int32)), .unset, .unset, .unset, .unset, .unset, .unset]) C at_127 rfl rfl ?_
          exact K129 (x0 &&& (3 : Int32)) (((x0.toUInt32 >>> ((2 : Int32) &&& 31).toUInt32).toInt32) &&& (3 : Int32)) (((x0.toUInt32 >>> ((4 : Int32) &&& 31).toUInt32).toInt32) &&& (3 : Int32)) (((x0.toUInt32 >>> ((6 : Int32) &&& 31).toUInt32).toInt32) &&& (3 : Int32)) (1 : Int32) (1 : Int32) (0 : Int32) (1 : Int32) (0 : Int32) (0 : Int32) (0 : Int32) (four _) (four _) (four _) (four _) (if_pos q25).symm (if_pos q36).symm (if_neg q47).symm (if_pos q59).symm (by decide) (by decide) (by decide)
      · skip
        refine w_iconst (pc' := 51) (x := (1 : Int32)) C at_50 rfl rfl ?_
        refine w_goto (pc' := 55) C at_51 (by decide) (by decide) ?_
        refine w_istore (pc' := 57) (Ls' := #[.val (.int x0), .val (.int (x0 &&& (3 : Int32))), .val (.int (((x0.toUInt32 >>> ((2 : Int32) &&& 31).toUInt32).toInt32) &&& (3 : Int32))), .val (.int (((x0.toUInt32 >>> ((4 : Int32) &&& 31).toUInt32).toInt32) &&& (3 : Int32))), .val (.int (((x0.toUInt32 >>> ((6 : Int32) &&& 31).toUInt32).toInt32) &&& (3 : Int32))), .val (.int (1 : Int32)), .val (.int (1 : Int32)), .val (.int (1 : Int32)), .unset, .unset, .unset, .unset, .unset, .unset, .unset, .unset, .unset, .unset, .unset]) C at_55 rfl rfl ?_
        refine w_iload (pc' := 59) C at_57 rfl rfl ?_
        refine w_if_ne (pcT := 66) (pcF := 62) C at_59 (by decide) (by decide) rfl (fun q59 => ?_) (fun q59 => ?_)
        · skip
          refine w_iconst (pc' := 67) (x := (0 : Int32)) C at_66 rfl rfl ?_
          refine w_istore (pc' := 69) (Ls' := #[.val (.int x0), .val (.int (x0 &&& (3 : Int32))), .val (.int (((x0.toUInt32 >>> ((2 : Int32) &&& 31).toUInt32).toInt32) &&& (3 : Int32))), .val (.int (((x0.toUInt32 >>> ((4 : Int32) &&& 31).toUInt32).toInt32) &&& (3 : Int32))), .val (.int (((x0.toUInt32 >>> ((6 : Int32) &&& 31).toUInt32).toInt32) &&& (3 : Int32))), .val (.int (1 : Int32)), .val (.int (1 : Int32)), .val (.int (1 : Int32)), .val (.int (0 : Int32)), .unset, .unset, .unset, .unset, .unset, .unset, .unset, .unset, .unset, .unset]) C at_67 rfl rfl ?_
          refine w_iload (pc' := 71) C at_69 rfl rfl ?_
          refine w_istore (pc' := 73) (Ls' := #[.val (.int x0), .val (.int (x0 &&& (3 : Int32))), .val (.int (((x0.toUInt32 >>> ((2 : Int32) &&& 31).toUInt32).toInt32) &&& (3 : Int32))), .val (.int (((x0.toUInt32 >>> ((4 : Int32) &&& 31).toUInt32).toInt32) &&& (3 : Int32))), .val (.int (((x0.toUInt32 >>> ((6 : Int32) &&& 31).toUInt32).toInt32) &&& (3 : Int32))), .val (.int (1 : Int32)), .val (.int (1 : Int32)), .val (.int (1 : Int32)), .val (.int (0 : Int32)), .val (.int (1 : Int32)), .unset, .unset, .unset, .unset, .unset, .unset, .unset, .unset, .unset]) C at_71 rfl rfl ?_
          refine w_iload (pc' := 75) C at_73 rfl rfl ?_
          refine w_if_eq (pcT := 87) (pcF := 78) C at_75 (by decide) (by decide) rfl (fun q => absurd q (by decide)) (fun q75 => ?_)
          refine w_iload (pc' := 80) C at_78 rfl rfl ?_
          refine w_if_ne (pcT := 87) (pcF := 83) C at_80 (by decide) (by decide) rfl (fun q80 => ?_) (fun q => absurd q (by decide))
          refine w_iconst (pc' := 88) (x := (0 : Int32)) C at_87 rfl rfl ?_
          refine w_istore (pc' := 90) (Ls' := #[.val (.int x0), .val (.int (x0 &&& (3 : Int32))), .val (.int (((x0.toUInt32 >>> ((2 : Int32) &&& 31).toUInt32).toInt32) &&& (3 : Int32))), .val (.int (((x0.toUInt32 >>> ((4 : Int32) &&& 31).toUInt32).toInt32) &&& (3 : Int32))), .val (.int (((x0.toUInt32 >>> ((6 : Int32) &&& 31).toUInt32).toInt32) &&& (3 : Int32))), .val (.int (1 : Int32)), .val (.int (1 : Int32)), .val (.int (1 : Int32)), .val (.int (0 : Int32)), .val (.int (1 : Int32)), .val (.int (0 : Int32)), .unset, .unset, .unset, .unset, .unset, .unset, .unset, .unset]) C at_88 rfl rfl ?_
          refine w_iload (pc' := 92) C at_90 rfl rfl ?_
          refine w_if_eq (pcT := 104) (pcF := 95) C at_92 (by decide) (by decide) rfl (fun q => absurd q (by decide)) (fun q92 => ?_)
          refine w_iload (pc' := 97) C at_95 rfl rfl ?_
          refine w_if_ne (pcT := 104) (pcF := 100) C at_97 (by decide) (by decide) rfl (fun q97 => ?_) (fun q => absurd q (by decide))
          refine w_iconst (pc' := 105) (x := (0 : Int32)) C at_104 rfl rfl ?_
          refine w_istore (pc' := 107) (Ls' := #[.val (.int x0), .val (.int (x0 &&& (3 : Int32))), .val (.int (((x0.toUInt32 >>> ((2 : Int32) &&& 31).toUInt32).toInt32) &&& (3 : Int32))), .val (.int (((x0.toUInt32 >>> ((4 : Int32) &&& 31).toUInt32).toInt32) &&& (3 : Int32))), .val (.int (((x0.toUInt32 >>> ((6 : Int32) &&& 31).toUInt32).toInt32) &&& (3 : Int32))), .val (.int (1 : Int32)), .val (.int (1 : Int32)), .val (.int (1 : Int32)), .val (.int (0 : Int32)), .val (.int (1 : Int32)), .val (.int (0 : Int32)), .val (.int (0 : Int32)), .unset, .unset, .unset, .unset, .unset, .unset, .unset]) C at_105 rfl rfl ?_
          refine w_iload (pc' := 109) C at_107 rfl rfl ?_
          refine w_if_eq (pcT := 126) (pcF := 112) C at_109 (by decide) (by decide) rfl (fun q109 => ?_) (fun q => absurd q (by decide))
          refine w_iconst (pc' := 127) (x := (0 : Int32)) C at_126 rfl rfl ?_
          refine w_istore (pc' := 129) (Ls' := #[.val (.int x0), .val (.int (x0 &&& (3 : Int32))), .val (.int (((x0.toUInt32 >>> ((2 : Int32) &&& 31).toUInt32).toInt32) &&& (3 : Int32))), .val (.int (((x0.toUInt32 >>> ((4 : Int32) &&& 31).toUInt32).toInt32) &&& (3 : Int32))), .val (.int (((x0.toUInt32 >>> ((6 : Int32) &&& 31).toUInt32).toInt32) &&& (3 : Int32))), .val (.int (1 : Int32)), .val (.int (1 : Int32)), .val (.int (1 : Int32)), .val (.int (0 : Int32)), .val (.int (1 : Int32)), .val (.int (0 : Int32)), .val (.int (0 : Int32)), .val (.int (0 : Int32)), .unset, .unset, .unset, .unset, .unset, .unset]) C at_127 rfl rfl ?_
          exact K129 (x0 &&& (3 : Int32)) (((x0.toUInt32 >>> ((2 : Int32) &&& 31).toUInt32).toInt32) &&& (3 : Int32)) (((x0.toUInt32 >>> ((4 : Int32) &&& 31).toUInt32).toInt32) &&& (3 : Int32)) (((x0.toUInt32 >>> ((6 : Int32) &&& 31).toUInt32).toInt32) &&& (3 : Int32)) (1 : Int32) (1 : Int32) (1 : Int32) (0 : Int32) (0 : Int32) (0 : Int32) (0 : Int32) (four _) (four _) (four _) (four _) (if_pos q25).symm (if_pos q36).symm (if_pos q47).symm (if_neg q59).symm (by decide) (by decide) (by decide)
        · skip
          refine w_iconst (pc' := 63) (x := (1 : Int32)) C at_62 rfl rfl ?_
          refine w_goto (pc' := 67) C at_63 (by decide) (by decide) ?_
          refine w_istore (pc' := 69) (Ls' := #[.val (.int x0), .val (.int (x0 &&& (3 : Int32))), .val (.int (((x0.toUInt32 >>> ((2 : Int32) &&& 31).toUInt32).toInt32) &&& (3 : Int32))), .val (.int (((x0.toUInt32 >>> ((4 : Int32) &&& 31).toUInt32).toInt32) &&& (3 : Int32))), .val (.int (((x0.toUInt32 >>> ((6 : Int32) &&& 31).toUInt32).toInt32) &&& (3 : Int32))), .val (.int (1 : Int32)), .val (.int (1 : Int32)), .val (.int (1 : Int32)), .val (.int (1 : Int32)), .unset, .unset, .unset, .unset, .unset, .unset, .unset, .unset, .unset, .unset]) C at_67 rfl rfl ?_
          refine w_iload (pc' := 71) C at_69 rfl rfl ?_
          refine w_istore (pc' := 73) (Ls' := #[.val (.int x0), .val (.int (x0 &&& (3 : Int32))), .val (.int (((x0.toUInt32 >>> ((2 : Int32) &&& 31).toUInt32).toInt32) &&& (3 : Int32))), .val (.int (((x0.toUInt32 >>> ((4 : Int32) &&& 31).toUInt32).toInt32) &&& (3 : Int32))), .val (.int (((x0.toUInt32 >>> ((6 : Int32) &&& 31).toUInt32).toInt32) &&& (3 : Int32))), .val (.int (1 : Int32)), .val (.int (1 : Int32)), .val (.int (1 : Int32)), .val (.int (1 : Int32)), .val (.int (1 : Int32)), .unset, .unset, .unset, .unset, .unset, .unset, .unset, .unset, .unset]) C at_71 rfl rfl ?_
          refine w_iload (pc' := 75) C at_73 rfl rfl ?_
          refine w_if_eq (pcT := 87) (pcF := 78) C at_75 (by decide) (by decide) rfl (fun q => absurd q (by decide)) (fun q75 => ?_)
          refine w_iload (pc' := 80) C at_78 rfl rfl ?_
          refine w_if_ne (pcT := 87) (pcF := 83) C at_80 (by decide) (by decide) rfl (fun q80 => ?_) (fun q => absurd q (by decide))
          refine w_iconst (pc' := 88) (x := (0 : Int32)) C at_87 rfl rfl ?_
          refine w_istore (pc' := 90) (Ls' := #[.val (.int x0), .val (.int (x0 &&& (3 : Int32))), .val (.int (((x0.toUInt32 >>> ((2 : Int32) &&& 31).toUInt32).toInt32) &&& (3 : Int32))), .val (.int (((x0.toUInt32 >>> ((4 : Int32) &&& 31).toUInt32).toInt32) &&& (3 : Int32))), .val (.int (((x0.toUInt32 >>> ((6 : Int32) &&& 31).toUInt32).toInt32) &&& (3 : Int32))), .val (.int (1 : Int32)), .val (.int (1 : Int32)), .val (.int (1 : Int32)), .val (.int (1 : Int32)), .val (.int (1 : Int32)), .val (.int (0 : Int32)), .unset, .unset, .unset, .unset, .unset, .unset, .unset, .unset]) C at_88 rfl rfl ?_
          refine w_iload (pc' := 92) C at_90 rfl rfl ?_
          refine w_if_eq (pcT := 104) (pcF := 95) C at_92 (by decide) (by decide) rfl (fun q => absurd q (by decide)) (fun q92 => ?_)
          refine w_iload (pc' := 97) C at_95 rfl rfl ?_
          refine w_if_ne (pcT := 104) (pcF := 100) C at_97 (by decide) (by decide) rfl (fun q97 => ?_) (fun q => absurd q (by decide))
          refine w_iconst (pc' := 105) (x := (0 : Int32)) C at_104 rfl rfl ?_
          refine w_istore (pc' := 107) (Ls' := #[.val (.int x0), .val (.int (x0 &&& (3 : Int32))), .val (.int (((x0.toUInt32 >>> ((2 : Int32) &&& 31).toUInt32).toInt32) &&& (3 : Int32))), .val (.int (((x0.toUInt32 >>> ((4 : Int32) &&& 31).toUInt32).toInt32) &&& (3 : Int32))), .val (.int (((x0.toUInt32 >>> ((6 : Int32) &&& 31).toUInt32).toInt32) &&& (3 : Int32))), .val (.int (1 : Int32)), .val (.int (1 : Int32)), .val (.int (1 : Int32)), .val (.int (1 : Int32)), .val (.int (1 : Int32)), .val (.int (0 : Int32)), .val (.int (0 : Int32)), .unset, .unset, .unset, .unset, .unset, .unset, .unset]) C at_105 rfl rfl ?_
          refine w_iload (pc' := 109) C at_107 rfl rfl ?_
          refine w_if_eq (pcT := 126) (pcF := 112) C at_109 (by decide) (by decide) rfl (fun q => absurd q (by decide)) (fun q109 => ?_)
          refine w_iload (pc' := 114) C at_112 rfl rfl ?_
          refine w_if_ne (pcT := 126) (pcF := 117) C at_114 (by decide) (by decide) rfl (fun q114 => ?_) (fun q => absurd q (by decide))
          refine w_iconst (pc' := 127) (x := (0 : Int32)) C at_126 rfl rfl ?_
          refine w_istore (pc' := 129) (Ls' := #[.val (.int x0), .val (.int (x0 &&& (3 : Int32))), .val (.int (((x0.toUInt32 >>> ((2 : Int32) &&& 31).toUInt32).toInt32) &&& (3 : Int32))), .val (.int (((x0.toUInt32 >>> ((4 : Int32) &&& 31).toUInt32).toInt32) &&& (3 : Int32))), .val (.int (((x0.toUInt32 >>> ((6 : Int32) &&& 31).toUInt32).toInt32) &&& (3 : Int32))), .val (.int (1 : Int32)), .val (.int (1 : Int32)), .val (.int (1 : Int32)), .val (.int (1 : Int32)), .val (.int (1 : Int32)), .val (.int (0 : Int32)), .val (.int (0 : Int32)), .val (.int (0 : Int32)), .unset, .unset, .unset, .unset, .unset, .unset]) C at_127 rfl rfl ?_
          exact K129 (x0 &&& (3 : Int32)) (((x0.toUInt32 >>> ((2 : Int32) &&& 31).toUInt32).toInt32) &&& (3 : Int32)) (((x0.toUInt32 >>> ((4 : Int32) &&& 31).toUInt32).toInt32) &&& (3 : Int32)) (((x0.toUInt32 >>> ((6 : Int32) &&& 31).toUInt32).toInt32) &&& (3 : Int32)) (1 : Int32) (1 : Int32) (1 : Int32) (1 : Int32) (0 : Int32) (0 : Int32) (0 : Int32) (four _) (four _) (four _) (four _) (if_pos q25).symm (if_pos q36).symm (if_pos q47).symm (if_pos q59).symm (by decide) (by decide) (by decide)
theorem q_law {v : Option Value} (q : v = some (.int 1)) : v = some (.int 1) := q
theorem mem_c : ∀ p ∈ EL, p ∈ consts_1 := by decide +kernel
set_option maxRecDepth 65536 in
set_option maxHeartbeats 40000000 in
theorem comes_1 {Post : Tables → Env → Array Value → State → Outcome → State → Prop} (hpost : ∀ tb e args s v u, (limb_1_1.after args s (.returned v) u = true ∧ limb_1_2.after args s (.returned v) u = true ∧ True) → ReturnedEndW s (.returned v) u (Jvm.fieldLocs frame_1_writes args s ++ Jvm.arrayLocs frame_1_arrays args s ++ Jvm.staticLocs frame_1_statics s) 24 7296 → Post tb e args s (.returned v) u) :
    ArmFor flags0 classFile x code maxLocals ret World_1 tables_1 room_1 Calls_1 rest_1 Pre_1 Post := by
  intro l hfl _ _ p e ha hc hk s m args below hf hA hF happ hP
  obtain ⟨hcalls, hrest, hpre⟩ := hP
  obtain ⟨-, -, -, hnamed, -, -, -, hat⟩ := (Spec.applies_iff hf).mp happ
  obtain ⟨hg, hn⟩ := and_e (Cond.before_iff.mp (show (Jvm.Cond.and given_1 narrow_1).before args s = true from hpre))
  obtain ⟨h1, hr0⟩ := and_e hg
  obtain ⟨w0, rfl⟩ : ∃ w0 : Value, args = #[w0] := by
    have hs : args.size = 1 := by simpa [Cond.value, given_1] using h1
    obtain ⟨L⟩ := args
    match L, hs with
    | [w0], _ => exact ⟨w0, rfl⟩
  have hw := fun d (hd : d ∈ tables_1) => atoms_spec (ws := Jvm.Cond.code x code maxLocals ret :: tables_1) hat d (List.mem_cons_of_mem _ hd)
  obtain ⟨hsets, hown0⟩ := atoms_of _ (rest_1_c_eq ▸ (show rest_1_c.before _ s = true from hrest))
  have hi0 := hr0
  obtain ⟨i0, e0⟩ := is_v hi0
  obtain rfl : w0 = (.int i0) := Option.some.inj e0
  obtain ⟨zc, ez⟩ := is_v (Cond.before_iff.mp (hsets _ (List.mem_of_getElem? (i := 1) rfl)))
  have S1 : Sta s s.heap "java/lang/String" "COMPACT_STRINGS" "Z" (.int zc) := Sta.start ez (Or.inl (hsets _ (List.mem_of_getElem? (i := 0) rfl)))
  have hzc : ¬ zc = 0 := gotF (Cond.eq_ints ez (Term.int_eval (0))) (not_v (Cond.before_iff.mp (hsets _ (List.mem_of_getElem? (i := 2) rfl))))
  obtain ⟨fv, ef, hfv⟩ := isR_v (Cond.before_iff.mp (hsets _ (List.mem_of_getElem? (i := 8) rfl)))
  have S2 : Sta s s.heap "jdk/internal/util/Preconditions" "SIOOBE_FORMATTER" "Ljava/util/function/BiFunction;" fv := Sta.start ef (Or.inl (hsets _ (List.mem_of_getElem? (i := 7) rfl)))
  have hC : CHv s EL s.vm s.heap := CHv.start (hEL_ok hw) (fun p hp => hcalls.1 p (mem_c p hp)) (hsets _ (List.mem_of_getElem? (i := 2) rfl)) (tw hw 16 rfl) (tw hw 15 rfl)
  obtain ⟨n, o, h1, h2, h3, _, L, rfl, ⟨q, N⟩, -, w, -, hwb, hq⟩ := ct_law (l := l) (Z := s) (a0 := _) hw tables_1 s.heap s.heap.size i0 zc fv (Nat.le_refl _) hzc hfv S1 S2 p e ha hc hk s m _ below hf ((Spec.applies_iff_loose hf).mp happ).1 ⟨rfl, State.Warmed39.refl s, rfl, hC⟩ trivial
  have q1 := q_law q
  subst q1
  refine ⟨n, _, h1, h2, h3, hpost _ _ _ _ _ _ ⟨Cond.after_iff.mpr rfl, Cond.after_iff.mpr (eq_i res_at (Term.int_eval (1)) rfl), trivial⟩ ⟨hq.1, hq.2.1, hq.2.2.1, (hq.2.2.2.sift fun y hy => Or.inr (N y hy)).mono (by omega) (by omega)⟩⟩
theorem main_1_1 : Claimed_1_1 := comes_1 fun _ _ _ _ _ _ h hF => ⟨h.1, hF⟩
theorem main_1_2 : Claimed_1_2 := comes_1 fun _ _ _ _ _ _ h hF => ⟨h.2.1, hF⟩
end Jvm.Pilot.@@N@@
namespace Jvm.Pilot.@@N@@
open Jvm Jvm.ClassFile Sem Op Lib Jvm.Free Jvm.Stand Jvm.Pilot.@@N@@.Jvm.D
/-! MADE BY PROGRAM (witnessworld.py) out of the Statement's table words and the real class files: 17 classes; the members and pool entries that the words name. The judged class is class 1, her method 3. -/
namespace start1
open Jvm.ClassFile
def u (s : String) : CpInfo := .utf8 (stringToUtf16 s)
/-- a pool by its gaps: so many unusable entries, then the entry; so many at the end -/
def gap : Nat → List CpInfo → List CpInfo
  | 0, r => r
  | n + 1, r => .unusable :: gap n r
def poolList (es : List (Nat × CpInfo)) (last : Nat) : List CpInfo := es.foldr (fun e r => gap e.1 (e.2 :: r)) (gap last [])
def pool (es : List (Nat × CpInfo)) (last : Nat) : Array CpInfo := ⟨poolList es last⟩
def fileOf (pool : Array CpInfo) (this : Nat) (attrs : Array Attribute := #[]) (ms : Array MethodInfo := #[]) (fl : Nat := 33) (sup : Nat := 0) (ifs : Array Nat := #[]) (fds : Array FieldInfo := #[]) : ClassFile where
  minorVersion := 0
  majorVersion := 65
  constantPool := pool
  accessFlags := fl
  thisClass := this
  superClass := sup
  interfaces := ifs
  fields := fds
  methods := ms
  attributes := attrs
def plain (name : String) (sup : Option ClassId) : Class where
  name := name
  kind := .ordinary
  loader := none
  accessFlags := 33
  super := sup
  interfaces := #[]
  cf := none
  fields := #[]
  methods := #[]
  instanceTypes := #[]
  staticTypes := #[]
  resolved := #[]
  callSites := []
  init := .initialized
  statics := none
  mirror := none

def pool0 : Array CpInfo := pool [(5, u "<init>"), (0, u "()V"), (1, .class_ 10), (1, u "java/lang/Object")] 113

def k0c0 : Code := { maxStack := 0, maxLocals := 1, code := object_method_1_code, exceptionTable := #[], attributes := #[] }
def k0m0 : Method := { name := "<init>", desc := "()V", sig := { parameters := [], returnType := none }, accessFlags := 1, code := some k0c0 }
/-- java/lang/Object -/
def k0 : Class := { plain "java/lang/Object" none with
  accessFlags := 33
  interfaces := #[]
  cf := some (fileOf pool0 8 #[] #[{ accessFlags := 1, nameIndex := 5, descriptorIndex := 6, attributes := #[] }] 33 0 #[] #[])
  fields := #[]
  methods := #[k0m0]
  instanceTypes := #[]
  staticTypes := #[]
  resolved := Array.replicate 124 none
  statics := none }

def pool1 : Array CpInfo := pool [(2, .class_ 4), (0, .nameAndType 5 6), (0, u "java/lang/Object"), (0, u "<init>"), (0, u "()V"), (0, .string 8), (0, u "http://www.w3.org/2000/09/xmldsig-more#"), (0, .string 10), (0, u ""), (0, .string 12), (0, u "http://www.w3.org/2000/09/xmldsig#"), (0, .string 14), (0, u "X509Data"), (0, .string 16), (0, u "X509Certificate"), (0, .class_ 18), (0, u "com/example/fedlint/fedlint/CertificateText"), (0, .methodref 17 3), (0, .methodref 21 22), (0, .class_ 23), (0, .nameAndType 24 25), (0, u "com/example/fedlint/fedlint/CertificateTextEndPinLaw"), (0, u "uri"), (0, u "(I)Ljava/lang/String;"), (0, .methodref 21 27), (0, .nameAndType 28 25), (0, u "name"), (0, .methodref 17 30), (0, .nameAndType 31 32), (0, u "start"), (0, u "(Ljava/lang/String;Ljava/lang/String;)Z"), (0, .methodref 17 34), (0, .nameAndType 35 36), (0, u "end"), (0, u "()Z"), (0, .methodref 17 38), (0, .nameAndType 39 36), (0, u "open"), (3, u "law"), (0, u "(I)Z")] 2

def k1m0 : Method := { name := "<init>", desc := "()V", sig := { parameters := [], returnType := none }, accessFlags := 1, code := none }
def k1c1 : Code := { maxStack := 2, maxLocals := 1, code := method_2_code, exceptionTable := #[], attributes := #[] }
def k1m1 : Method := { name := "uri", desc := "(I)Ljava/lang/String;", sig := { parameters := [.int], returnType := some (.object "java/lang/String") }, accessFlags := 10, code := some k1c1 }
def k1c2 : Code := { maxStack := 2, maxLocals := 1, code := method_3_code, exceptionTable := #[], attributes := #[] }
def k1m2 : Method := { name := "name", desc := "(I)Ljava/lang/String;", sig := { parameters := [.int], returnType := some (.object "java/lang/String") }, accessFlags := 10, code := some k1c2 }
def k1c3 : Code := { maxStack := 3, maxLocals := 19, code := code, exceptionTable := #[], attributes := #[] }
def k1m3 : Method := { name := "law", desc := "(I)Z", sig := { parameters := [.int], returnType := some .boolean }, accessFlags := 9, code := some k1c3 }
/-- com/example/fedlint/fedlint/CertificateTextEndPinLaw -/
def k1 : Class := { plain "com/example/fedlint/fedlint/CertificateTextEndPinLaw" (some 0) with
  accessFlags := 49
  interfaces := #[]
  cf := some (fileOf pool1 21 #[] #[{ accessFlags := 1, nameIndex := 5, descriptorIndex := 6, attributes := #[] }, { accessFlags := 10, nameIndex := 24, descriptorIndex := 25, attributes := #[] }, { accessFlags := 10, nameIndex := 28, descriptorIndex := 25, attributes := #[] }, { accessFlags := 9, nameIndex := 43, descriptorIndex := 44, attributes := #[] }] 49 2 #[] #[])
  fields := #[]
  methods := #[k1m0, k1m1, k1m2, k1m3]
  instanceTypes := #[]
  staticTypes := #[]
  resolved := Array.replicate 47 none
  statics := none }

def pool2 : Array CpInfo := pool [(1, .methodref 2 3), (0, .class_ 4), (0, .nameAndType 5 6), (0, u "java/lang/Object"), (0, u "<init>"), (0, u "()V"), (0, .fieldref 8 9), (0, .class_ 10), (0, .nameAndType 11 12), (0, u "com/example/fedlint/fedlint/CertificateText"), (0, u "depth"), (0, u "I"), (2, u "markedDepth"), (0, .fieldref 8 17), (0, .nameAndType 18 12), (0, u "certificateDepth"), (0, .fieldref 8 20), (0, .nameAndType 21 12), (0, u "kept"), (2, .string 25), (0, u "http://www.w3.org/2000/09/xmldsig#"), (0, .methodref 27 28), (0, .class_ 29), (0, .nameAndType 30 31), (0, u "java/lang/String"), (0, u "equals"), (0, u "(Ljava/lang/Object;)Z"), (0, .string 33), (0, u "X509Certificate"), (13, u "start"), (0, u "(Ljava/lang/String;Ljava/lang/String;)Z"), (1, u "end"), (0, u "()Z"), (0, u "open")] 4

def k2c0 : Code := { maxStack := 1, maxLocals := 1, code := prog_3_method_1_code, exceptionTable := #[], attributes := #[] }
def k2m0 : Method := { name := "<init>", desc := "()V", sig := { parameters := [], returnType := none }, accessFlags := 0, code := some k2c0 }
def k2c1 : Code := { maxStack := 3, maxLocals := 3, code := prog_3_method_4_code, exceptionTable := #[], attributes := #[] }
def k2m1 : Method := { name := "start", desc := "(Ljava/lang/String;Ljava/lang/String;)Z", sig := { parameters := [(.object "java/lang/String"), (.object "java/lang/String")], returnType := some .boolean }, accessFlags := 0, code := some k2c1 }
def k2c2 : Code := { maxStack := 4, maxLocals := 1, code := prog_3_method_5_code, exceptionTable := #[], attributes := #[] }
def k2m2 : Method := { name := "end", desc := "()Z", sig := { parameters := [], returnType := some .boolean }, accessFlags := 0, code := some k2c2 }
def k2c3 : Code := { maxStack := 1, maxLocals := 1, code := prog_3_method_6_code, exceptionTable := #[], attributes := #[] }
def k2m3 : Method := { name := "open", desc := "()Z", sig := { parameters := [], returnType := some .boolean }, accessFlags := 0, code := some k2c3 }
/-- com/example/fedlint/fedlint/CertificateText -/
def k2 : Class := { plain "com/example/fedlint/fedlint/CertificateText" (some 0) with
  accessFlags := 48
  interfaces := #[]
  cf := some (fileOf pool2 8 #[] #[{ accessFlags := 0, nameIndex := 5, descriptorIndex := 6, attributes := #[] }, { accessFlags := 0, nameIndex := 47, descriptorIndex := 48, attributes := #[] }, { accessFlags := 0, nameIndex := 50, descriptorIndex := 51, attributes := #[] }, { accessFlags := 0, nameIndex := 52, descriptorIndex := 51, attributes := #[] }] 48 2 #[] #[{ accessFlags := 2, nameIndex := 11, descriptorIndex := 12, attributes := #[] }, { accessFlags := 2, nameIndex := 18, descriptorIndex := 12, attributes := #[] }, { accessFlags := 2, nameIndex := 21, descriptorIndex := 12, attributes := #[] }, { accessFlags := 2, nameIndex := 15, descriptorIndex := 12, attributes := #[] }])
  fields := #[{ name := "depth", type := .int, accessFlags := 2, slot := 0, constantValue := 0 }, { name := "certificateDepth", type := .int, accessFlags := 2, slot := 1, constantValue := 0 }, { name := "kept", type := .int, accessFlags := 2, slot := 2, constantValue := 0 }, { name := "markedDepth", type := .int, accessFlags := 2, slot := 3, constantValue := 0 }]
  methods := #[k2m0, k2m1, k2m2, k2m3]
  instanceTypes := #[.int, .int, .int, .int]
  staticTypes := #[]
  resolved := Array.replicate 57 none
  statics := none }

def pool3 : Array CpInfo := pool [(1, .class_ 2), (0, u "java/io/Serializable"), (0, .class_ 4), (0, u "java/lang/Object")] 2

/-- java/io/Serializable -/
def k3 : Class := { plain "java/io/Serializable" (some 0) with
  accessFlags := 1537
  interfaces := #[]
  cf := some (fileOf pool3 1 #[] #[] 1537 3 #[] #[])
  fields := #[]
  methods := #[]
  instanceTypes := #[]
  staticTypes := #[]
  resolved := Array.replicate 7 none
  statics := none }

def pool4 : Array CpInfo := pool [(1, .class_ 2), (0, u "java/lang/Comparable"), (0, .class_ 4), (0, u "java/lang/Object")] 7

/-- java/lang/Comparable -/
def k4 : Class := { plain "java/lang/Comparable" (some 0) with
  accessFlags := 1537
  interfaces := #[]
  cf := some (fileOf pool4 1 #[] #[] 1537 3 #[] #[])
  fields := #[]
  methods := #[]
  instanceTypes := #[]
  staticTypes := #[]
  resolved := Array.replicate 12 none
  statics := none }

def pool5 : Array CpInfo := pool [(2, .class_ 4), (1, u "java/lang/CharSequence"), (42, .class_ 48), (0, u "java/lang/CharSequence$1CodePointIterator"), (10, .class_ 60), (0, u "java/lang/CharSequence$1CharIterator"), (5, .class_ 67), (0, u "java/lang/Object")] 63

/-- java/lang/CharSequence -/
def k5 : Class := { plain "java/lang/CharSequence" (some 0) with
  accessFlags := 1537
  interfaces := #[]
  cf := some (fileOf pool5 2 #[.nestMembers #[47, 59]] #[] 1537 66 #[] #[])
  fields := #[]
  methods := #[]
  instanceTypes := #[]
  staticTypes := #[]
  resolved := Array.replicate 131 none
  statics := none }

def pool6 : Array CpInfo := pool [(1, .class_ 2), (0, u "java/lang/constant/Constable"), (0, .class_ 4), (0, u "java/lang/Object")] 6

/-- java/lang/constant/Constable -/
def k6 : Class := { plain "java/lang/constant/Constable" (some 0) with
  accessFlags := 1537
  interfaces := #[]
  cf := some (fileOf pool6 1 #[] #[] 1537 3 #[] #[])
  fields := #[]
  methods := #[]
  instanceTypes := #[]
  staticTypes := #[]
  resolved := Array.replicate 11 none
  statics := none }

def pool7 : Array CpInfo := pool [(1, .class_ 2), (0, u "java/lang/constant/ConstantDesc"), (0, .class_ 4), (0, u "java/lang/Object")] 32

/-- java/lang/constant/ConstantDesc -/
def k7 : Class := { plain "java/lang/constant/ConstantDesc" (some 0) with
  accessFlags := 1537
  interfaces := #[]
  cf := some (fileOf pool7 1 #[] #[] 1537 3 #[] #[])
  fields := #[]
  methods := #[]
  instanceTypes := #[]
  staticTypes := #[]
  resolved := Array.replicate 37 none
  statics := none }

def pool8 : Array CpInfo := pool [(2, .class_ 4), (1, u "java/lang/Object"), (0, u "<init>"), (0, u "()V"), (2, .fieldref 10 11), (0, .class_ 12), (0, .nameAndType 13 14), (0, u "java/lang/String"), (0, u "value"), (0, u "[B"), (0, .fieldref 10 16), (0, .nameAndType 17 18), (0, u "coder"), (0, u "B"), (2, u "hash"), (0, u "I"), (2, u "hashIsZero"), (0, u "Z"), (11, .fieldref 10 39), (0, .nameAndType 40 26), (0, u "COMPACT_STRINGS"), (66, .class_ 109), (1, u "java/lang/StringLatin1"), (431, .methodref 107 542), (0, .nameAndType 543 544), (0, u "equals"), (0, u "([B[B)Z"), (28, u "(Ljava/lang/Object;)Z"), (1, .class_ 576), (0, u "java/lang/CharSequence"), (22, u "CASE_INSENSITIVE_ORDER"), (0, u "Ljava/util/Comparator;"), (500, u "serialPersistentFields"), (0, u "[Ljava/io/ObjectStreamField;"), (0, .class_ 1104), (0, u "java/lang/String$CaseInsensitiveComparator"), (1, .class_ 1107), (0, u "java/io/Serializable"), (0, .class_ 1109), (0, u "java/lang/Comparable"), (0, .class_ 1111), (0, u "java/lang/constant/Constable"), (0, .class_ 1113), (0, u "java/lang/constant/ConstantDesc"), (2, u "serialVersionUID"), (0, u "J"), (3, u "REPL"), (0, u "C"), (2, u "LATIN1"), (1, u "UTF16")] 323

def k8m0 : Method := { name := "<init>", desc := "()V", sig := { parameters := [], returnType := none }, accessFlags := 1, code := none }
def k8c1 : Code := { maxStack := 2, maxLocals := 3, code := jdk_42_method_66_code, exceptionTable := #[], attributes := #[] }
def k8m1 : Method := { name := "equals", desc := "(Ljava/lang/Object;)Z", sig := { parameters := [(.object "java/lang/Object")], returnType := some .boolean }, accessFlags := 1, code := some k8c1 }
/-- java/lang/String -/
def k8 : Class := { plain "java/lang/String" (some 0) with
  accessFlags := 49
  interfaces := #[3, 4, 5, 6, 7]
  cf := some (fileOf pool8 10 #[.nestMembers #[1103]] #[{ accessFlags := 1, nameIndex := 5, descriptorIndex := 6, attributes := #[] }, { accessFlags := 1, nameIndex := 543, descriptorIndex := 573, attributes := #[] }] 49 2 #[1106, 1108, 575, 1110, 1112] #[{ accessFlags := 18, nameIndex := 13, descriptorIndex := 14, attributes := #[] }, { accessFlags := 18, nameIndex := 17, descriptorIndex := 18, attributes := #[] }, { accessFlags := 2, nameIndex := 21, descriptorIndex := 22, attributes := #[] }, { accessFlags := 2, nameIndex := 25, descriptorIndex := 26, attributes := #[] }, { accessFlags := 26, nameIndex := 1116, descriptorIndex := 1117, attributes := #[] }, { accessFlags := 24, nameIndex := 40, descriptorIndex := 26, attributes := #[] }, { accessFlags := 26, nameIndex := 1101, descriptorIndex := 1102, attributes := #[] }, { accessFlags := 26, nameIndex := 1121, descriptorIndex := 1122, attributes := #[] }, { accessFlags := 25, nameIndex := 599, descriptorIndex := 600, attributes := #[] }, { accessFlags := 24, nameIndex := 1125, descriptorIndex := 18, attributes := #[] }, { accessFlags := 24, nameIndex := 1127, descriptorIndex := 18, attributes := #[] }])
  fields := #[{ name := "value", type := (.array .byte), accessFlags := 18, slot := 0, constantValue := 0 }, { name := "coder", type := .byte, accessFlags := 18, slot := 1, constantValue := 0 }, { name := "hash", type := .int, accessFlags := 2, slot := 2, constantValue := 0 }, { name := "hashIsZero", type := .boolean, accessFlags := 2, slot := 3, constantValue := 0 }, { name := "serialVersionUID", type := .long, accessFlags := 26, slot := 0, constantValue := 0 }, { name := "COMPACT_STRINGS", type := .boolean, accessFlags := 24, slot := 1, constantValue := 0 }, { name := "serialPersistentFields", type := (.array (.object "java/io/ObjectStreamField")), accessFlags := 26, slot := 2, constantValue := 0 }, { name := "REPL", type := .char, accessFlags := 26, slot := 3, constantValue := 0 }, { name := "CASE_INSENSITIVE_ORDER", type := (.object "java/util/Comparator"), accessFlags := 25, slot := 4, constantValue := 0 }, { name := "LATIN1", type := .byte, accessFlags := 24, slot := 5, constantValue := 0 }, { name := "UTF16", type := .byte, accessFlags := 24, slot := 6, constantValue := 0 }]
  methods := #[k8m0, k8m1]
  instanceTypes := #[(.array .byte), .byte, .int, .boolean]
  staticTypes := #[.long, .boolean, (.array (.object "java/io/ObjectStreamField")), .char, (.object "java/util/Comparator"), .byte, .byte]
  resolved := Array.replicate 1451 none
  statics := some 0 }

def pool9 : Array CpInfo := pool [(4, .class_ 6), (1, u "java/lang/Object"), (0, u "<init>"), (0, u "()V"), (5, .class_ 16), (1, u "java/lang/StringLatin1"), (104, u "$assertionsDisabled"), (0, u "Z"), (98, .class_ 223), (1, u "java/lang/StringLatin1$LinesSpliterator"), (57, u "equals"), (0, u "([B[B)Z"), (107, .class_ 391), (0, u "java/lang/StringLatin1$CharsSpliterator")] 3

def k9m0 : Method := { name := "<init>", desc := "()V", sig := { parameters := [], returnType := none }, accessFlags := 0, code := none }
def k9c1 : Code := { maxStack := 3, maxLocals := 3, code := jdk_43_method_13_code, exceptionTable := #[], attributes := #[] }
def k9m1 : Method := { name := "equals", desc := "([B[B)Z", sig := { parameters := [(.array .byte), (.array .byte)], returnType := some .boolean }, accessFlags := 9, code := some k9c1 }
/-- java/lang/StringLatin1 -/
def k9 : Class := { plain "java/lang/StringLatin1" (some 0) with
  accessFlags := 48
  interfaces := #[]
  cf := some (fileOf pool9 14 #[.nestMembers #[390, 221]] #[{ accessFlags := 0, nameIndex := 7, descriptorIndex := 8, attributes := #[] }, { accessFlags := 9, nameIndex := 281, descriptorIndex := 282, attributes := #[] }] 48 4 #[] #[{ accessFlags := 4120, nameIndex := 121, descriptorIndex := 122, attributes := #[] }])
  fields := #[{ name := "$assertionsDisabled", type := .boolean, accessFlags := 4120, slot := 0, constantValue := 0 }]
  methods := #[k9m0, k9m1]
  instanceTypes := #[]
  staticTypes := #[.boolean]
  resolved := Array.replicate 395 none
  statics := none }

def pool10 : Array CpInfo := pool [(2, .class_ 4), (1, u "java/lang/Object"), (0, u "<init>"), (0, u "()V"), (17, .class_ 26), (1, u "jdk/internal/util/Preconditions"), (28, .class_ 56), (0, u "jdk/internal/util/Preconditions$4"), (57, .class_ 115), (0, u "jdk/internal/util/Preconditions$1"), (7, u "SIOOBE_FORMATTER"), (0, u "Ljava/util/function/BiFunction;"), (0, .class_ 126), (0, u "jdk/internal/util/Preconditions$2"), (3, u "AIOOBE_FORMATTER"), (0, .class_ 132), (0, u "jdk/internal/util/Preconditions$3"), (3, u "IOOBE_FORMATTER")] 57

def k10m0 : Method := { name := "<init>", desc := "()V", sig := { parameters := [], returnType := none }, accessFlags := 1, code := none }
/-- jdk/internal/util/Preconditions -/
def k10 : Class := { plain "jdk/internal/util/Preconditions" (some 0) with
  accessFlags := 33
  interfaces := #[]
  cf := some (fileOf pool10 24 #[.nestMembers #[55, 131, 125, 114]] #[{ accessFlags := 1, nameIndex := 5, descriptorIndex := 6, attributes := #[] }] 33 2 #[] #[{ accessFlags := 25, nameIndex := 123, descriptorIndex := 124, attributes := #[] }, { accessFlags := 25, nameIndex := 130, descriptorIndex := 124, attributes := #[] }, { accessFlags := 25, nameIndex := 136, descriptorIndex := 124, attributes := #[] }])
  fields := #[{ name := "SIOOBE_FORMATTER", type := (.object "java/util/function/BiFunction"), accessFlags := 25, slot := 0, constantValue := 0 }, { name := "AIOOBE_FORMATTER", type := (.object "java/util/function/BiFunction"), accessFlags := 25, slot := 1, constantValue := 0 }, { name := "IOOBE_FORMATTER", type := (.object "java/util/function/BiFunction"), accessFlags := 25, slot := 2, constantValue := 0 }]
  methods := #[k10m0]
  instanceTypes := #[]
  staticTypes := #[(.object "java/util/function/BiFunction"), (.object "java/util/function/BiFunction"), (.object "java/util/function/BiFunction")]
  resolved := Array.replicate 194 none
  statics := some 1 }

def pool11 : Array CpInfo := pool [(9, u "<init>"), (6, .class_ 18), (1, u "java/lang/Object"), (0, u "()V"), (1, .class_ 23), (1, u "jdk/internal/util/ArraysSupport"), (0, u "LOG2_ARRAY_LONG_INDEX_SCALE"), (0, u "I"), (2, u "U"), (0, u "Ljdk/internal/misc/Unsafe;"), (8, u "BIG_ENDIAN"), (0, u "Z"), (8, u "LOG2_BYTE_BIT_SIZE"), (4, u "LOG2_ARRAY_INT_INDEX_SCALE"), (54, u "JLA"), (0, u "Ljdk/internal/access/JavaLangAccess;"), (11, u "LOG2_ARRAY_BOOLEAN_INDEX_SCALE"), (9, u "LOG2_ARRAY_BYTE_INDEX_SCALE"), (5, u "LOG2_ARRAY_CHAR_INDEX_SCALE"), (5, u "LOG2_ARRAY_SHORT_INDEX_SCALE"), (18, u "LOG2_ARRAY_FLOAT_INDEX_SCALE"), (24, u "LOG2_ARRAY_DOUBLE_INDEX_SCALE"), (89, u "T_BOOLEAN"), (2, u "T_CHAR"), (1, u "T_FLOAT"), (1, u "T_DOUBLE"), (1, u "T_BYTE"), (1, u "T_SHORT"), (1, u "T_INT"), (1, u "T_LONG"), (1, u "SOFT_MAX_ARRAY_LENGTH")] 83

def k11m0 : Method := { name := "<init>", desc := "()V", sig := { parameters := [], returnType := none }, accessFlags := 2, code := none }
/-- jdk/internal/util/ArraysSupport -/
def k11 : Class := { plain "jdk/internal/util/ArraysSupport" (some 0) with
  accessFlags := 33
  interfaces := #[]
  cf := some (fileOf pool11 21 #[] #[{ accessFlags := 2, nameIndex := 9, descriptorIndex := 19, attributes := #[] }] 33 16 #[] #[{ accessFlags := 24, nameIndex := 28, descriptorIndex := 29, attributes := #[] }, { accessFlags := 26, nameIndex := 38, descriptorIndex := 39, attributes := #[] }, { accessFlags := 25, nameIndex := 121, descriptorIndex := 25, attributes := #[] }, { accessFlags := 25, nameIndex := 131, descriptorIndex := 25, attributes := #[] }, { accessFlags := 25, nameIndex := 137, descriptorIndex := 25, attributes := #[] }, { accessFlags := 25, nameIndex := 143, descriptorIndex := 25, attributes := #[] }, { accessFlags := 25, nameIndex := 53, descriptorIndex := 25, attributes := #[] }, { accessFlags := 25, nameIndex := 24, descriptorIndex := 25, attributes := #[] }, { accessFlags := 25, nameIndex := 162, descriptorIndex := 25, attributes := #[] }, { accessFlags := 25, nameIndex := 187, descriptorIndex := 25, attributes := #[] }, { accessFlags := 26, nameIndex := 48, descriptorIndex := 25, attributes := #[] }, { accessFlags := 25, nameIndex := 277, descriptorIndex := 25, attributes := #[] }, { accessFlags := 25, nameIndex := 280, descriptorIndex := 25, attributes := #[] }, { accessFlags := 25, nameIndex := 282, descriptorIndex := 25, attributes := #[] }, { accessFlags := 25, nameIndex := 284, descriptorIndex := 25, attributes := #[] }, { accessFlags := 25, nameIndex := 286, descriptorIndex := 25, attributes := #[] }, { accessFlags := 25, nameIndex := 288, descriptorIndex := 25, attributes := #[] }, { accessFlags := 25, nameIndex := 290, descriptorIndex := 25, attributes := #[] }, { accessFlags := 25, nameIndex := 292, descriptorIndex := 25, attributes := #[] }, { accessFlags := 26, nameIndex := 108, descriptorIndex := 109, attributes := #[] }, { accessFlags := 25, nameIndex := 294, descriptorIndex := 25, attributes := #[] }])
  fields := #[{ name := "U", type := (.object "jdk/internal/misc/Unsafe"), accessFlags := 24, slot := 0, constantValue := 0 }, { name := "BIG_ENDIAN", type := .boolean, accessFlags := 26, slot := 1, constantValue := 0 }, { name := "LOG2_ARRAY_BOOLEAN_INDEX_SCALE", type := .int, accessFlags := 25, slot := 2, constantValue := 0 }, { name := "LOG2_ARRAY_BYTE_INDEX_SCALE", type := .int, accessFlags := 25, slot := 3, constantValue := 0 }, { name := "LOG2_ARRAY_CHAR_INDEX_SCALE", type := .int, accessFlags := 25, slot := 4, constantValue := 0 }, { name := "LOG2_ARRAY_SHORT_INDEX_SCALE", type := .int, accessFlags := 25, slot := 5, constantValue := 0 }, { name := "LOG2_ARRAY_INT_INDEX_SCALE", type := .int, accessFlags := 25, slot := 6, constantValue := 0 }, { name := "LOG2_ARRAY_LONG_INDEX_SCALE", type := .int, accessFlags := 25, slot := 7, constantValue := 0 }, { name := "LOG2_ARRAY_FLOAT_INDEX_SCALE", type := .int, accessFlags := 25, slot := 8, constantValue := 0 }, { name := "LOG2_ARRAY_DOUBLE_INDEX_SCALE", type := .int, accessFlags := 25, slot := 9, constantValue := 0 }, { name := "LOG2_BYTE_BIT_SIZE", type := .int, accessFlags := 26, slot := 10, constantValue := 0 }, { name := "T_BOOLEAN", type := .int, accessFlags := 25, slot := 11, constantValue := 0 }, { name := "T_CHAR", type := .int, accessFlags := 25, slot := 12, constantValue := 0 }, { name := "T_FLOAT", type := .int, accessFlags := 25, slot := 13, constantValue := 0 }, { name := "T_DOUBLE", type := .int, accessFlags := 25, slot := 14, constantValue := 0 }, { name := "T_BYTE", type := .int, accessFlags := 25, slot := 15, constantValue := 0 }, { name := "T_SHORT", type := .int, accessFlags := 25, slot := 16, constantValue := 0 }, { name := "T_INT", type := .int, accessFlags := 25, slot := 17, constantValue := 0 }, { name := "T_LONG", type := .int, accessFlags := 25, slot := 18, constantValue := 0 }, { name := "JLA", type := (.object "jdk/internal/access/JavaLangAccess"), accessFlags := 26, slot := 19, constantValue := 0 }, { name := "SOFT_MAX_ARRAY_LENGTH", type := .int, accessFlags := 25, slot := 20, constantValue := 0 }]
  methods := #[k11m0]
  instanceTypes := #[]
  staticTypes := #[(.object "jdk/internal/misc/Unsafe"), .boolean, .int, .int, .int, .int, .int, .int, .int, .int, .int, .int, .int, .int, .int, .int, .int, .int, .int, (.object "jdk/internal/access/JavaLangAccess"), .int]
  resolved := Array.replicate 378 none
  statics := none }

def pool12 : Array CpInfo := pool [(1, u "java/lang/Cloneable"), (0, .class_ 1), (0, u "java/lang/Object"), (0, .class_ 3)] 3

/-- java/lang/Cloneable -/
def k12 : Class := { plain "java/lang/Cloneable" (some 0) with
  accessFlags := 1537
  interfaces := #[]
  cf := some (fileOf pool12 2 #[] #[] 1537 4 #[] #[])
  fields := #[]
  methods := #[]
  instanceTypes := #[]
  staticTypes := #[]
  resolved := Array.replicate 8 none
  statics := none }

/-- the primitive byte -/
def k13 : Class := { plain "byte" none with kind := .primitive 'B', accessFlags := 0x411 }
/-- [B -/
def k14 : Class := { plain "[B" (some 0) with kind := .array 13 .byte, interfaces := #[12, 3], accessFlags := 1041 }

/-- the primitive int -/
def k15 : Class := { plain "int" none with kind := .primitive 'I', accessFlags := 0x411 }
/-- [I -/
def k16 : Class := { plain "[I" (some 0) with kind := .array 15 .int, interfaces := #[12, 3], accessFlags := 1041 }

def heap : Heap := #[{ cls := 8, slots := #[.long 0, .int 1, .null, .int 0, .null, .int 0, .int 0], vm := .statics 8 },
  { cls := 10, slots := #[.null, .null, .null], vm := .statics 10 }]
def classes : Array Class := #[k0, k1, k2, k3, k4, k5, k6, k7, k8, k9, k10, k11, k12, k13, k14, k15, k16]
def interned : List (Array UInt16 × Addr) := []
def slotsUsed : Nat := 10
def theMethod : MethodId := ⟨1, 3⟩
def args0 : Array Value := #[.int 5]
def aboutOver (below : List Frame) : State where
  vm := { classes := classes, interned := interned.toArray }
  heap := heap
  slotsUsed := slotsUsed
  threads := #[{ frames := .invoking theMethod args0 :: below }]
def below0 : List Frame := [.native { method := ⟨0, 0⟩, args := #[] }]
def about1 : State := aboutOver below0
def p0 : Program := .bare "" "" ""
def e0 : Env := launch0.env 0 0 0
theorem w_frames : about1.frames = Frame.invoking theMethod args0 :: below0 := rfl
set_option maxRecDepth 65536 in
theorem w_args : argsFit about1.vm theMethod args0 = true := by decide +kernel
set_option maxRecDepth 65536 in
theorem w_heap : heapFits about1 = true := by decide +kernel
set_option maxRecDepth 65536 in
theorem w_runnable : about1.curStatus? = some .runnable := by decide +kernel
set_option maxRecDepth 65536 in
theorem w_alone : about1.alone = true := by decide +kernel
set_option maxRecDepth 65536 in
theorem w_named : about1.methodNamed? x = some theMethod := by decide +kernel
set_option maxRecDepth 65536 in
theorem w_hears : about1.hears theMethod below0 = true := by decide +kernel
set_option maxRecDepth 65536 in
theorem w_ripe : about1.ripe theMethod args0 below0 = true := by decide +kernel
theorem w_running : about1.status = .running := rfl
set_option maxRecDepth 65536 in
theorem w_room : about1.hasRoom e0.platform room_1 = true :=
  launch0.hasRoom_least _ room_1 (by decide +kernel) (by decide +kernel) (by decide +kernel) (by decide +kernel) (by decide +kernel) (by decide +kernel)
theorem allAtoms_all (ts : List Jvm.Cond) (a : Array Jvm.Value) (st : Jvm.State) : (allAtoms ts).before a st = ts.all (fun c => c.before a st) := by
  induction ts with
  | nil => rfl
  | cons c t ih =>
    show (Jvm.Cond.and c (allAtoms t)).before a st = _
    rw [Jvm.Cond.before_and, ih, List.all_cons]
def words1 : List Jvm.Cond := Jvm.Cond.code x code maxLocals ret :: tables_1
/-- a 'code' word, met by the world's own term for the bytes: nothing is compared byte by byte -/
theorem code_word {y : MethodName} {bytes : ByteArray} {mx : Nat} {rt : Option FieldType} {a : Array Value} {s : State} {m : MethodId} {meth : Method} {c : Code} (h1 : s.methodNamed? y = some m) (h2 : s.vm.method? m = some meth) (h3 : meth.code = some c) (h4 : c.code = bytes)
    (h5 : (c.maxLocals == mx && c.exceptionTable.isEmpty && decide (c.maxStack ≤ mostOperands) && decide (meth.sig.returnType = rt) && !meth.locks && decide (parseMethodDescriptor y.desc = some meth.sig)) = true) : (Jvm.Cond.code y bytes mx rt).before a s = true := by
  simp only [Bool.and_eq_true, beq_iff_eq, Bool.not_eq_true', decide_eq_true_eq] at h5
  obtain ⟨⟨⟨⟨⟨g1, g2⟩, g3⟩, g4⟩, g5⟩, g6⟩ := h5
  simp [Cond.before, Cond.holds, Cond.value, h1, h2, h3, h4, g1, g2, g3, g4, g5, g6]
def isCode : Jvm.Cond → Bool
  | .code _ _ _ _ => true
  | _ => false
theorem all_split {L : List Jvm.Cond} {P : Jvm.Cond → Bool} (h1 : L.all (fun c => isCode c || P c) = true) (h2 : ∀ c ∈ L.filter isCode, P c = true) : L.all P = true := by
  refine List.all_eq_true.mpr fun c hc => ?_
  have h := List.all_eq_true.mp h1 c hc
  rcases Bool.eq_false_or_eq_true (isCode c) with hi | hi
  · exact h2 c (List.mem_filter.mpr ⟨hc, hi⟩)
  · simpa [hi] using h
set_option maxRecDepth 65536 in
theorem w_c0 : (Jvm.Cond.code x code maxLocals ret).before args0 about1 = true := code_word (m := ⟨1, 3⟩) (meth := k1m3) (c := k1c3) (by decide +kernel) rfl rfl rfl (by decide +kernel)
set_option maxRecDepth 65536 in
theorem w_c1 : (Jvm.Cond.code ({ cls := "com/example/fedlint/fedlint/CertificateText", name := "<init>", desc := "()V" } : Jvm.MethodName) prog_3_method_1_code (1 : Nat) (Option.none : Option Jvm.ClassFile.FieldType)).before args0 about1 = true := code_word (m := ⟨2, 0⟩) (meth := k2m0) (c := k2c0) (by decide +kernel) rfl rfl rfl (by decide +kernel)
set_option maxRecDepth 65536 in
theorem w_c2 : (Jvm.Cond.code ({ cls := "java/lang/Object", name := "<init>", desc := "()V" } : Jvm.MethodName) object_method_1_code (1 : Nat) (Option.none : Option Jvm.ClassFile.FieldType)).before args0 about1 = true := code_word (m := ⟨0, 0⟩) (meth := k0m0) (c := k0c0) (by decide +kernel) rfl rfl rfl (by decide +kernel)
set_option maxRecDepth 65536 in
theorem w_c3 : (Jvm.Cond.code ({ cls := "com/example/fedlint/fedlint/CertificateTextEndPinLaw", name := "uri", desc := "(I)Ljava/lang/String;" } : Jvm.MethodName) method_2_code (1 : Nat) (Option.some (Jvm.ClassFile.FieldType.object "java/lang/String"))).before args0 about1 = true := code_word (m := ⟨1, 1⟩) (meth := k1m1) (c := k1c1) (by decide +kernel) rfl rfl rfl (by decide +kernel)
set_option maxRecDepth 65536 in
theorem w_c4 : (Jvm.Cond.code ({ cls := "com/example/fedlint/fedlint/CertificateTextEndPinLaw", name := "name", desc := "(I)Ljava/lang/String;" } : Jvm.MethodName) method_3_code (1 : Nat) (Option.some (Jvm.ClassFile.FieldType.object "java/lang/String"))).before args0 about1 = true := code_word (m := ⟨1, 2⟩) (meth := k1m2) (c := k1c2) (by decide +kernel) rfl rfl rfl (by decide +kernel)
set_option maxRecDepth 65536 in
theorem w_c5 : (Jvm.Cond.code ({ cls := "com/example/fedlint/fedlint/CertificateText", name := "start", desc := "(Ljava/lang/String;Ljava/lang/String;)Z" } : Jvm.MethodName) prog_3_method_4_code (3 : Nat) (Option.some Jvm.ClassFile.FieldType.boolean)).before args0 about1 = true := code_word (m := ⟨2, 1⟩) (meth := k2m1) (c := k2c1) (by decide +kernel) rfl rfl rfl (by decide +kernel)
set_option maxRecDepth 65536 in
theorem w_c6 : (Jvm.Cond.code ({ cls := "java/lang/String", name := "equals", desc := "(Ljava/lang/Object;)Z" } : Jvm.MethodName) jdk_42_method_66_code (3 : Nat) (Option.some Jvm.ClassFile.FieldType.boolean)).before args0 about1 = true := code_word (m := ⟨8, 1⟩) (meth := k8m1) (c := k8c1) (by decide +kernel) rfl rfl rfl (by decide +kernel)
set_option maxRecDepth 65536 in
theorem w_c7 : (Jvm.Cond.code ({ cls := "com/example/fedlint/fedlint/CertificateText", name := "end", desc := "()Z" } : Jvm.MethodName) prog_3_method_5_code (1 : Nat) (Option.some Jvm.ClassFile.FieldType.boolean)).before args0 about1 = true := code_word (m := ⟨2, 2⟩) (meth := k2m2) (c := k2c2) (by decide +kernel) rfl rfl rfl (by decide +kernel)
set_option maxRecDepth 65536 in
theorem w_c8 : (Jvm.Cond.code ({ cls := "com/example/fedlint/fedlint/CertificateText", name := "open", desc := "()Z" } : Jvm.MethodName) prog_3_method_6_code (1 : Nat) (Option.some Jvm.ClassFile.FieldType.boolean)).before args0 about1 = true := code_word (m := ⟨2, 3⟩) (meth := k2m3) (c := k2c3) (by decide +kernel) rfl rfl rfl (by decide +kernel)
set_option maxRecDepth 65536 in
theorem w_c9 : (Jvm.Cond.code ({ cls := "java/lang/StringLatin1", name := "equals", desc := "([B[B)Z" } : Jvm.MethodName) jdk_43_method_13_code (3 : Nat) (Option.some Jvm.ClassFile.FieldType.boolean)).before args0 about1 = true := code_word (m := ⟨9, 1⟩) (meth := k9m1) (c := k9c1) (by decide +kernel) rfl rfl rfl (by decide +kernel)
def codes1 : List Jvm.Cond := [Jvm.Cond.code x code maxLocals ret, Jvm.Cond.code ({ cls := "com/example/fedlint/fedlint/CertificateText", name := "<init>", desc := "()V" } : Jvm.MethodName) prog_3_method_1_code (1 : Nat) (Option.none : Option Jvm.ClassFile.FieldType), Jvm.Cond.code ({ cls := "java/lang/Object", name := "<init>", desc := "()V" } : Jvm.MethodName) object_method_1_code (1 : Nat) (Option.none : Option Jvm.ClassFile.FieldType), Jvm.Cond.code ({ cls := "com/example/fedlint/fedlint/CertificateTextEndPinLaw", name := "uri", desc := "(I)Ljava/lang/String;" } : Jvm.MethodName) method_2_code (1 : Nat) (Option.some (Jvm.ClassFile.FieldType.object "java/lang/String")), Jvm.Cond.code ({ cls := "com/example/fedlint/fedlint/CertificateTextEndPinLaw", name := "name", desc := "(I)Ljava/lang/String;" } : Jvm.MethodName) method_3_code (1 : Nat) (Option.some (Jvm.ClassFile.FieldType.object "java/lang/String")), Jvm.Cond.code ({ cls := "com/example/fedlint/fedlint/CertificateText", name := "start", desc := "(Ljava/lang/String;Ljava/lang/String;)Z" } : Jvm.MethodName) prog_3_method_4_code (3 : Nat) (Option.some Jvm.ClassFile.FieldType.boolean), Jvm.Cond.code ({ cls := "java/lang/String", name := "equals", desc := "(Ljava/lang/Object;)Z" } : Jvm.MethodName) jdk_42_method_66_code (3 : Nat) (Option.some Jvm.ClassFile.FieldType.boolean), Jvm.Cond.code ({ cls := "com/example/fedlint/fedlint/CertificateText", name := "end", desc := "()Z" } : Jvm.MethodName) prog_3_method_5_code (1 : Nat) (Option.some Jvm.ClassFile.FieldType.boolean), Jvm.Cond.code ({ cls := "com/example/fedlint/fedlint/CertificateText", name := "open", desc := "()Z" } : Jvm.MethodName) prog_3_method_6_code (1 : Nat) (Option.some Jvm.ClassFile.FieldType.boolean), Jvm.Cond.code ({ cls := "java/lang/StringLatin1", name := "equals", desc := "([B[B)Z" } : Jvm.MethodName) jdk_43_method_13_code (3 : Nat) (Option.some Jvm.ClassFile.FieldType.boolean)]
set_option maxRecDepth 65536 in
theorem codes_eq : words1.filter isCode = codes1 := rfl
theorem w_codes : ∀ c ∈ words1.filter isCode, c.before args0 about1 = true := by
  rw [codes_eq]
  intro c hc
  simp only [codes1, List.mem_cons, List.not_mem_nil, or_false] at hc
  rcases hc with rfl | rfl | rfl | rfl | rfl | rfl | rfl | rfl | rfl | rfl
  · exact w_c0
  · exact w_c1
  · exact w_c2
  · exact w_c3
  · exact w_c4
  · exact w_c5
  · exact w_c6
  · exact w_c7
  · exact w_c8
  · exact w_c9
set_option maxRecDepth 65536 in
theorem w_t1 : (words1.take 24).all (fun c => isCode c || c.before args0 about1) = true := by decide +kernel
set_option maxRecDepth 65536 in
theorem w_t2 : ((words1.drop 24).take 24).all (fun c => isCode c || c.before args0 about1) = true := by decide +kernel
set_option maxRecDepth 65536 in
theorem w_t3 : ((words1.drop 24).drop 24).all (fun c => isCode c || c.before args0 about1) = true := by decide +kernel
theorem w_tables : (allAtoms (Jvm.Cond.code x code maxLocals ret :: tables_1)).before args0 about1 = true := by
  rw [allAtoms_all]
  show words1.all (fun c => c.before args0 about1) = true
  refine all_split ?_ w_codes
  rw [← List.take_append_drop 24 words1, List.all_append, w_t1, ← List.take_append_drop 24 (words1.drop 24), List.all_append, w_t2, w_t3]
  rfl
set_option maxRecDepth 65536 in
theorem w_rest : rest_1_c.before args0 about1 = true := by decide +kernel
set_option maxRecDepth 65536 in
theorem w_case : (Jvm.Cond.and given_1 narrow_1).before args0 about1 = true := by decide +kernel
set_option maxRecDepth 65536 in
theorem w_consts : constsHeld consts_1 about1 := Jvm.Lit.constsHeldB_iff.mp (by decide +kernel)
theorem w_applies : (headSpec (Jvm.Cond.code x code maxLocals ret :: tables_1) room_1).applies x e0.platform about1 = true :=
  (Spec.applies_iff w_frames).mpr ⟨w_running, w_runnable, w_alone, w_named, w_hears, w_ripe, w_room, w_tables⟩
theorem atStart : AtStart classFile x code maxLocals ret World_1 tables_1 room_1 Calls_1 rest_1 Pre_1 launch0 p0 e0 about1 theMethod args0 below0 :=
  ⟨lists_1, trivial, launch0.admits_env _ _ _, launch0.least_env, fairChoices_fair.cas, fairChoices_fair.clock, w_frames, w_args, w_heap, w_applies, ⟨w_consts, trivial⟩, w_rest, w_case⟩
end start1
theorem witness_1 : WitnessClaimed_1 := ⟨start1.p0, start1.e0, start1.about1, start1.theMethod, start1.args0, start1.below0, start1.atStart⟩
end Jvm.Pilot.@@N@@
