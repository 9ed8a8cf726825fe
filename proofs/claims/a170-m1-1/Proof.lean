import JvmDerived
import JvmDerived.Pilot.@@N@@Statement
import JvmDerived.Pilot.@@N@@Code
set_option linter.unusedVariables false
set_option linter.unusedSimpArgs false
namespace Jvm.Pilot.@@N@@.Own
open Jvm Jvm.ClassFile Sem Op Lib Jvm.Free Jvm.Stand Jvm.LawKit Jvm.RoadKit Bundle
/-! The walk's own logic: a judgement on a frame, one rule a step. -/
def Goes (p : Program) (e : Env) (below : List Frame) (PQ : Outcome → State → Prop) (t : State) : Prop :=
  ∃ s₂ o, Steps p.tables e below t s₂ ∧ s₂.status = .running ∧ Ended s₂ below o ∧ PQ o s₂
def EndP (wd : Bool) (s Z : State) (EL : List (String × Nat)) (n0 : Nat) (h0 : Heap) (ws : List Addr) (k n : Nat) (Q : Option Value → Heap → Prop) (o : Outcome) (u : State) : Prop :=
  ∃ v L, o = .returned v ∧ (Fr n0 L ∧ Old Z n0 u.heap ∧ Keep h0 u.heap ws ∧ Q v u.heap) ∧
    (match wd with | true => CHr Z EL s.vm s.heap u.vm u.heap ∧ ReturnedEndW s o u L k n | false => FrameEnd s o u L k n)
/-- the contract of one body: from the heap h0, with these arguments, it returns and Q holds; what lay in h0 stands but for ws -/
def Con (wd : Bool) (l : Launch) (Z : State) (EL : List (String × Nat)) (n0 : Nat) (y : MethodName) (bytes : ByteArray) (maxL : Nat) (ret : Option FieldType) (rm : Room) (as' : Array Value) (h0 : Heap) (ws : List Addr) (Q : Option Value → Heap → Prop) : Prop :=
  ∀ wds : List Jvm.Cond, MetFree l y (head1 (Jvm.Cond.code y bytes maxL ret :: wds) rm) (fun a U => a = as' ∧ Z.Warmed39 U.vm ∧ U.heap = h0 ∧ (wd = true → CHv Z EL U.vm h0)) (fun _ _ _ _ _ => True)
    (fun _ U o U' => EndP wd U Z EL n0 h0 ws rm.cells rm.slots Q o U')
def Good (p : Program) (meth : Method) (c : Code) (code : ByteArray) (maxL : Nat) (ret : Option FieldType) (nm : String) : Prop :=
  p.tables.exec = Jvm.exec ∧ c.code = code ∧ c.maxLocals = maxL ∧ meth.sig.returnType = ret ∧ meth.locks = false ∧ meth.name = nm
def Wk (p : Program) (l : Launch) (e : Env) (R : Room) (s : State) (m : MethodId) (args : Array Value) (below : List Frame) (meth : Method) (c : Code)
    (own : String) (Z : State) (a0 : Array Value) (EL : List (String × Nat)) (n0 : Nat) (h0 : Heap) (ws : List Addr) (wd : Bool)
    (sf : List Addr) (vm : Vm) (T : State) (h : Heap) (locs : List Loc) (cells slots : Nat) : Prop :=
  Stand p l e R (s.setVm vm) m args below meth c T locs cells slots ∧ T.heap = h ∧ Z.Warmed39 vm ∧ vm.findClass own = some m.cls ∧ s.Since vm h.size ∧ s.heap = h0 ∧
    Fr n0 locs ∧ Old Z n0 h ∧ Keep h0 h ws ∧ (wd = false → vm = s.vm) ∧
    (wd = true → EW Z a0 EL ∧ CHr Z EL s.vm h0 vm h ∧ ∀ x ∈ sf, x < h.size ∧ Safe Z EL vm h x)
def Ok (p : Program) (l : Launch) (e : Env) (R : Room) (s : State) (m : MethodId) (args : Array Value) (below : List Frame) (meth : Method) (c : Code)
    (own : String) (Z : State) (a0 : Array Value) (EL : List (String × Nat)) (n0 : Nat) (h0 : Heap) (ws : List Addr) (wd : Bool) (Q : Option Value → Heap → Prop)
    (sf : List Addr) (h : Heap) (cells slots : Nat) (g : JFrame) : Prop :=
  ∀ vm T locs, Wk p l e R s m args below meth c own Z a0 EL n0 h0 ws wd sf vm T h locs cells slots → Goes p e below (EndP wd s Z EL n0 h0 ws R.cells R.slots Q) (T.setTop g)
def SafeFor (wd : Bool) (Z : State) (EL : List (String × Nat)) (sf : List Addr) (h : Heap) (a : Addr) : Prop := wd = true → (a ∈ sf ∨ ∀ vm, Z.vm.Alike vm → Safe Z EL vm h a)
section Core
variable {p : Program} {l : Launch} {e : Env} {R : Room} {s : State} {m : MethodId} {args : Array Value} {below : List Frame} {meth : Method} {c : Code}
  {own : String} {Z : State} {a0 : Array Value} {EL : List (String × Nat)} {n0 : Nat} {h0 : Heap} {ws : List Addr} {wd : Bool} {Q : Option Value → Heap → Prop}
  {sf : List Addr} {h : Heap} {cells slots : Nat} {g g' : JFrame} {code : ByteArray} {maxL : Nat} {ret : Option FieldType} {nm : String} {a : Addr}
theorem SafeFor.narrow : SafeFor false Z EL sf h a := fun q => nomatch q
theorem SafeFor.mem (q : a ∈ sf) : SafeFor wd Z EL sf h a := fun _ => Or.inl q
theorem SafeFor.exa {C : String} (E : Exa Z h a C) (h1 : C ≠ "java/lang/String") (h2 : C ≠ "[B") : SafeFor wd Z EL sf h a := fun _ => Or.inr fun _ hal => Safe.exa hal E h1 h2
theorem SafeFor.arv {k : ClassId} {ty : FieldType} {z : Int32} {vs : List Value} {dv : Value} (F : Arv Z h a k ty z vs dv) (ht : ty ≠ .byte) : SafeFor wd Z EL sf h a := fun _ => Or.inr fun _ hal => Safe.arv hal F ht
/-- entering -/
theorem Con.intro {y : MethodName} {rm : Room} {as' : Array Value} (hp : plainFor y = true) (hO : Old Z n0 h0) (hE : wd = true → EW Z a0 EL)
    (body : ∀ (p : Program) (e : Env) (s : State) (m : MethodId) (below : List Frame) (meth : Method) (c : Code), Good p meth c code maxL ret y.name →
      Ok p l e rm s m as' below meth c y.cls Z a0 EL n0 h0 ws wd Q [] h0 0 0 (entryFrame m as' maxL)) : Con wd l Z EL n0 y code maxL ret rm as' h0 ws Q := by
  intro wds
  refine MetFree.of_bodySF hp hisR ?_
  intro p e s m args below meth c s₁ Bd hml hP hK
  obtain ⟨rfl, hZ, hh, hC⟩ := hP
  have hown := findClass_of_methodNamed Bd.named
  have hnm := (name_of_methodNamed Bd.named Bd.method).1
  have X0 : Stand p l e rm s m _ below meth c s₁ [] 0 0 := Stand.of_body Bd
  have e0 : s₁.heap = h0 := by rw [← hh, Bd.state]; rfl
  exact body p e s m below meth c ⟨Bd.exec, Bd.bytes, hml, Bd.returns, Bd.notSynchronized, hnm⟩ s.vm s₁ []
    ⟨X0, e0, hZ, hown, (State.WarmedH.refl s).since _, hh, Fr.nil _, hO, Keep.refl _ _, fun _ => rfl, fun q => ⟨hE q, CHr.refl (hC q), fun _ z => nomatch z⟩⟩
/-- a step that leaves tables and heap -/
theorem ok_step (st : ∀ T target, At T m c below → Steps p.tables e below (T.setTop g') target → Steps p.tables e below (T.setTop g) target)
    (k : Ok p l e R s m args below meth c own Z a0 EL n0 h0 ws wd Q sf h cells slots g') : Ok p l e R s m args below meth c own Z a0 EL n0 h0 ws wd Q sf h cells slots g := by
  intro vm T locs W
  obtain ⟨s₂, o, h1, h2⟩ := k vm T locs W
  exact ⟨s₂, o, st T s₂ W.1.here h1, h2⟩
/-- a step that leaves the heap and may warm the tables -/
theorem ok_stepT (st : ∀ vm T locs, Stand p l e R (s.setVm vm) m args below meth c T locs cells slots → T.heap = h → Z.Warmed39 vm → vm.findClass own = some m.cls → Old Z n0 h →
      ∃ T', Stand p l e R (s.setVm vm) m args below meth c T' locs cells slots ∧ T'.heap = h ∧ ∀ target, Steps p.tables e below (T'.setTop g') target → Steps p.tables e below (T.setTop g) target)
    (k : Ok p l e R s m args below meth c own Z a0 EL n0 h0 ws wd Q sf h cells slots g') : Ok p l e R s m args below meth c own Z a0 EL n0 h0 ws wd Q sf h cells slots g := by
  intro vm T locs W
  obtain ⟨X, e0, hZ, hown, hS, hh, N, O, K, r⟩ := W
  obtain ⟨T', X', e1, st'⟩ := st vm T locs X e0 hZ hown O
  obtain ⟨s₂, o, h1, h2⟩ := k vm T' locs ⟨X', e1, hZ, hown, hS, hh, N, O, K, r⟩
  exact ⟨s₂, o, st' s₂ h1, h2⟩
/-- a step that makes cells at the heap's end -/
theorem ok_stepE {cells' slots' : Nat} {sf' : List Addr} {P : Heap → Prop} (hg : ∀ x ∈ sf', x ∈ sf ∨ x = h.size)
    (st : ∀ vm T locs, Stand p l e R (s.setVm vm) m args below meth c T locs cells slots → T.heap = h → Z.Warmed39 vm → vm.findClass own = some m.cls → Old Z n0 h →
      ∃ T' h', Stand p l e R (s.setVm vm) m args below meth c T' locs cells' slots' ∧ T'.heap = h' ∧ Ext h h' ∧ h.size < h'.size ∧ P h' ∧ ∀ target, Steps p.tables e below (T'.setTop g') target → Steps p.tables e below (T.setTop g) target)
    (k : ∀ h', Keep h h' [] → n0 ≤ h.size → h0.size ≤ h.size → P h' → Ok p l e R s m args below meth c own Z a0 EL n0 h0 ws wd Q sf' h' cells' slots' g') :
    Ok p l e R s m args below meth c own Z a0 EL n0 h0 ws wd Q sf h cells slots g := by
  intro vm T locs W
  obtain ⟨X, e0, hZ, hown, hS, hh, N, O, K, r, r'⟩ := W
  obtain ⟨T', h', X', e1, E, hlt, hP, st'⟩ := st vm T locs X e0 hZ hown O
  have hsz : n0 ≤ h.size := O.1 ▸ O.2.1
  obtain ⟨s₂, o, h1, h2⟩ := k h' ((Keep.refl h []).ext E) hsz K.1 hP vm T' locs ⟨X', e1, hZ, hown, ⟨hS.1, fun j q hj hq => ⟨(hS.2 j q hj hq).1, Nat.lt_of_lt_of_le (hS.2 j q hj hq).2 E.1⟩⟩, hh, N, O.ext E, K.ext E, r, fun q => by
    obtain ⟨hE, hC, hs⟩ := r' q
    refine ⟨hE, hC.trans (CHr.ext E hC.1), fun x hx => ?_⟩
    rcases hg x hx with z | rfl
    · exact ⟨Nat.lt_of_lt_of_le (hs x z).1 E.1, Safe.ext E hC.1 (hs x z).2⟩
    · exact ⟨hlt, Safe.ext E hC.1 (Safe.new (Nat.le_refl _))⟩⟩
  exact ⟨s₂, o, st' s₂ h1, h2⟩
/-- a step that writes one place -/
theorem ok_stepW {sl : Nat} {v : Value} (hn : n0 ≤ a) (hw : a ∈ ws ∨ h0.size ≤ a) (hs : SafeFor wd Z EL sf h a)
    (st : ∀ vm T locs, Stand p l e R (s.setVm vm) m args below meth c T locs cells slots → T.heap = h → Z.Warmed39 vm → vm.findClass own = some m.cls → Old Z n0 h →
      ∃ T' h', Stand p l e R (s.setVm vm) m args below meth c T' (locs ++ [⟨a, sl⟩]) cells slots ∧ T'.heap = h' ∧ Wr h h' a sl v ∧ ∀ target, Steps p.tables e below (T'.setTop g') target → Steps p.tables e below (T.setTop g) target)
    (k : ∀ h', Keep h h' [a] → Wr h h' a sl v → Ok p l e R s m args below meth c own Z a0 EL n0 h0 ws wd Q sf h' cells slots g') :
    Ok p l e R s m args below meth c own Z a0 EL n0 h0 ws wd Q sf h cells slots g := by
  intro vm T locs W
  obtain ⟨X, e0, hZ, hown, hS, hh, N, O, K, r, r'⟩ := W
  obtain ⟨T', h', X', e1, Wr1, st'⟩ := st vm T locs X e0 hZ hown O
  have hsz := Wr1.size
  obtain ⟨s₂, o, h1, h2⟩ := k h' (Keep.of_wr Wr1) Wr1 vm T' _ ⟨X', e1, hZ, hown, by rw [hsz]; exact hS, hh, Fr.snoc X' N hn, O.wr Wr1 hn, K.wr Wr1 hw, r, fun q => by
    obtain ⟨hE, hC, hs'⟩ := r' q
    have hsa : Safe Z EL vm h a := by
      rcases hs q with z | z
      · exact (hs' a z).2
      · exact z vm hZ.alike
    exact ⟨hE, hC.trans (CHr.wr Wr1 hsa hC.1), fun x hx => ⟨by rw [hsz]; exact (hs' x hx).1, Safe.wr Wr1 hsa hC.1 (hs' x hx).2⟩⟩⟩
  exact ⟨s₂, o, st' s₂ h1, h2⟩
/-- the same frame, said otherwise -/
theorem ok_as (g' : JFrame) (q : g = g') (k : Ok p l e R s m args below meth c own Z a0 EL n0 h0 ws wd Q sf h cells slots g') : Ok p l e R s m args below meth c own Z a0 EL n0 h0 ws wd Q sf h cells slots g := q ▸ k
/-- more cells and slots booked -/
theorem ok_book (cells' slots' : Nat) (q1 : cells ≤ cells') (q2 : slots ≤ slots') (k : Ok p l e R s m args below meth c own Z a0 EL n0 h0 ws wd Q sf h cells' slots' g) : Ok p l e R s m args below meth c own Z a0 EL n0 h0 ws wd Q sf h cells slots g := by
  intro vm T locs W
  obtain ⟨X, r⟩ := W
  exact k vm T locs ⟨{ X with same := X.same.mono q1 q2 }, r⟩
/-- another list of safe places -/
theorem ok_sf (sf' : List Addr) (q : ∀ x ∈ sf', x < h.size ∧ SafeFor wd Z EL sf h x) (k : Ok p l e R s m args below meth c own Z a0 EL n0 h0 ws wd Q sf' h cells slots g) : Ok p l e R s m args below meth c own Z a0 EL n0 h0 ws wd Q sf h cells slots g := by
  intro vm T locs W
  obtain ⟨X, e0, hZ, hown, hS, hh, N, O, K, r, r'⟩ := W
  exact k vm T locs ⟨X, e0, hZ, hown, hS, hh, N, O, K, r, fun w => by
    obtain ⟨hE, hC, hs⟩ := r' w
    refine ⟨hE, hC, fun x hx => ⟨(q x hx).1, ?_⟩⟩
    rcases (q x hx).2 w with z | z
    · exact (hs x z).2
    · exact z vm hZ.alike⟩
theorem ok_old (k : Old Z n0 h → Ok p l e R s m args below meth c own Z a0 EL n0 h0 ws wd Q sf h cells slots g) : Ok p l e R s m args below meth c own Z a0 EL n0 h0 ws wd Q sf h cells slots g := by
  intro vm T locs W
  exact k W.2.2.2.2.2.2.2.1 vm T locs W
theorem ok_keep (k : Keep h0 h ws → Ok p l e R s m args below meth c own Z a0 EL n0 h0 ws wd Q sf h cells slots g) : Ok p l e R s m args below meth c own Z a0 EL n0 h0 ws wd Q sf h cells slots g := by
  intro vm T locs W
  exact k W.2.2.2.2.2.2.2.2.1 vm T locs W
/-- the end -/
theorem ok_end {v : Option Value} (G : Good p meth c code maxL ret nm) (hv : ret = none → v = none) (hq : Q v h)
    (st : ∀ vm T locs fs, Stand p l e R (s.setVm vm) m args below meth c T locs cells slots → (∀ (f : JFrame) (acts : List Action), f.method = m → f.locked = none → f.entered = [] → (doReturn e (T.setTop f) acts v).1 = T.setFrames fs) →
      Steps p.tables e below (T.setTop g) (T.setFrames fs)) (hc : cells ≤ R.cells) (hl : slots ≤ R.slots) : Ok p l e R s m args below meth c own Z a0 EL n0 h0 ws wd Q sf h cells slots g := by
  intro vm T locs W
  obtain ⟨X, e0, hZ, hown, hS, hh, N, O, K, r, r'⟩ := W
  have hlocks : meth.locks = false := G.2.2.2.2.1
  have hv' : meth.sig.returnType = none → v = none := by rw [G.2.2.2.1]; exact hv
  subst e0
  cases wd with
  | false =>
    have e1 : vm = s.vm := r rfl
    obtain ⟨fs, hr, hrun, hended, hW, hsame⟩ := X.leave (v := v) hv' hlocks
    refine ⟨_, _, st vm T locs fs X hr, hrun, hended, v, locs, rfl, ⟨N, O, K, hq⟩, ⟨v, rfl⟩, ?_, ?_⟩
    · rw [e1] at hW; exact hW
    · rw [e1] at hsame; exact hsame.mono hc hl
  | true =>
    obtain ⟨hE, hC, hs⟩ := r' rfl
    obtain ⟨fs, hr, hrun, hended, hEnd⟩ := X.leaveW hS (Nat.le_refl _) (v := v) hv' hlocks
    refine ⟨_, _, st vm T locs fs X hr, hrun, hended, v, locs, rfl, ⟨N, O, K, hq⟩, ?_, hEnd.1, hEnd.2.1, hEnd.2.2.1, hEnd.2.2.2.mono hc hl⟩
    have q := hC.trans (CHv.at X hZ hE hC.1)
    rw [← hh] at q
    exact q
theorem ok_return (G : Good p meth c code maxL ret nm) (hret : ret = none) {pc : Nat} {L : Array Slot} (hd : decode code pc = .ok (.return_, 1)) (hq : Q none h) (hc : cells ≤ R.cells) (hl : slots ≤ R.slots) :
    Ok p l e R s m args below meth c own Z a0 EL n0 h0 ws wd Q sf h cells slots (mkF m pc L []) :=
  ok_end G (fun _ => rfl) hq (fun vm T locs fs X hr => X.returnOut G.1 (by rw [G.2.2.2.1]; exact hret) (hb G.2.1 hd) hr) hc hl
theorem ok_ret {t : FieldType} {w : Value} {i : Instr} (G : Good p meth c code maxL ret nm) (hret : ret = some t) {pc : Nat} {L : Array Slot} {S : List Value}
    (hi : (i = .ireturn ∧ (t = .int ∨ t = .boolean ∨ t = .byte ∨ t = .char ∨ t = .short) ∧ ∃ z, w = .int z) ∨ (i = .lreturn ∧ t = .long ∧ ∃ z, w = .long z) ∨ (i = .dreturn ∧ t = .double ∧ ∃ z, w = .double z) ∨ (i = .freturn ∧ t = .float ∧ ∃ z, w = .float z) ∨ (i = .areturn ∧ t.isReference = true ∧ w.isRef = true))
    (hd : decode code pc = .ok (i, 1)) (hn : narrow t w = w) (hq : Q (some w) h) (hc : cells ≤ R.cells) (hl : slots ≤ R.slots) :
    Ok p l e R s m args below meth c own Z a0 EL n0 h0 ws wd Q sf h cells slots (mkF m pc L (w :: S)) :=
  ok_end G (fun q => by rw [hret] at q; cases q) hq (fun vm T locs fs X hr => retOut X G.1 (by rw [G.2.2.2.1]; exact hret) hn hi (hb G.2.1 hd) hr) hc hl
theorem ok_retI {z : Int32} (G : Good p meth c code maxL ret nm) (hret : ret = some .int) {pc : Nat} {L : Array Slot} {S : List Value} (hd : decode code pc = .ok (.ireturn, 1)) (hq : Q (some (.int z)) h) (hc : cells ≤ R.cells) (hl : slots ≤ R.slots) :
    Ok p l e R s m args below meth c own Z a0 EL n0 h0 ws wd Q sf h cells slots (mkF m pc L (.int z :: S)) := ok_ret G hret (Or.inl ⟨rfl, Or.inl rfl, z, rfl⟩) hd rfl hq hc hl
theorem ok_retN {z : Int32} {t : FieldType} (G : Good p meth c code maxL ret nm) (hret : ret = some t) (ht : t = .boolean ∨ t = .byte ∨ t = .char ∨ t = .short) {pc : Nat} {L : Array Slot} {S : List Value} (hd : decode code pc = .ok (.ireturn, 1)) (hn : narrow t (.int z) = .int z) (hq : Q (some (.int z)) h) (hc : cells ≤ R.cells) (hl : slots ≤ R.slots) :
    Ok p l e R s m args below meth c own Z a0 EL n0 h0 ws wd Q sf h cells slots (mkF m pc L (.int z :: S)) := ok_ret G hret (Or.inl ⟨rfl, Or.inr ht, z, rfl⟩) hd hn hq hc hl
theorem ok_retJ {z : Int64} (G : Good p meth c code maxL ret nm) (hret : ret = some .long) {pc : Nat} {L : Array Slot} {S : List Value} (hd : decode code pc = .ok (.lreturn, 1)) (hq : Q (some (.long z)) h) (hc : cells ≤ R.cells) (hl : slots ≤ R.slots) :
    Ok p l e R s m args below meth c own Z a0 EL n0 h0 ws wd Q sf h cells slots (mkF m pc L (.long z :: S)) := ok_ret G hret (Or.inr (Or.inl ⟨rfl, rfl, z, rfl⟩)) hd rfl hq hc hl
theorem ok_retA {w : Value} {t : FieldType} (G : Good p meth c code maxL ret nm) (hret : ret = some t) (ht : t.isReference = true) (hw : w.isRef = true) {pc : Nat} {L : Array Slot} {S : List Value} (hd : decode code pc = .ok (.areturn, 1)) (hn : narrow t w = w) (hq : Q (some w) h) (hc : cells ≤ R.cells) (hl : slots ≤ R.slots) :
    Ok p l e R s m args below meth c own Z a0 EL n0 h0 ws wd Q sf h cells slots (mkF m pc L (w :: S)) := ok_ret G hret (Or.inr (Or.inr (Or.inr (Or.inr ⟨rfl, ht, hw⟩)))) hd hn hq hc hl
end Core
end Jvm.Pilot.@@N@@.Own
namespace Jvm.Pilot.@@N@@.Own
open Jvm Jvm.ClassFile Sem Op Lib Jvm.Free Jvm.Stand Jvm.LawKit Jvm.RoadKit Bundle
section Plain
variable {p : Program} {l : Launch} {e : Env} {R : Room} {s : State} {m : MethodId} {args : Array Value} {below : List Frame} {meth : Method} {c : Code}
  {own : String} {Z : State} {a0 : Array Value} {EL : List (String × Nat)} {n0 : Nat} {h0 : Heap} {ws : List Addr} {wd : Bool} {Q : Option Value → Heap → Prop}
  {sf : List Addr} {h : Heap} {cells slots : Nat} {code : ByteArray} {maxL : Nat} {ret : Option FieldType} {nm : String} {a : Addr}
theorem ok_aload (G : Good p meth c code maxL ret nm) {pc : Nat} {L : Array Slot} {S : List Value} {k0 : Nat} {v : Value} (hd : decode code pc = .ok (.aload k0, 2)) (hl : L[k0]? = some (.val v)) (hv : v.isRef = true) (k : Ok p l e R s m args below meth c own Z a0 EL n0 h0 ws wd Q sf h cells slots (mkF m (pc + 2) L (v :: S))) : Ok p l e R s m args below meth c own Z a0 EL n0 h0 ws wd Q sf h cells slots (mkF m pc L S) :=
  ok_step (fun T t hA k => XS.aload hA G.1 rfl (hb G.2.1 hd) hl hv k) k
theorem ok_aloadN (G : Good p meth c code maxL ret nm) {pc : Nat} {L : Array Slot} {S : List Value} {k0 : Fin 4} {v : Value} (hd : decode code pc = .ok (.aload_n k0, 1)) (hl : L[k0.val]? = some (.val v)) (hv : v.isRef = true) (k : Ok p l e R s m args below meth c own Z a0 EL n0 h0 ws wd Q sf h cells slots (mkF m (pc + 1) L (v :: S))) : Ok p l e R s m args below meth c own Z a0 EL n0 h0 ws wd Q sf h cells slots (mkF m pc L S) :=
  ok_step (fun T t hA k => XS.aloadN hA G.1 rfl (hb G.2.1 hd) hl hv k) k
theorem ok_iload (G : Good p meth c code maxL ret nm) {pc : Nat} {L : Array Slot} {S : List Value} {k0 : Nat} {v : Int32} (hd : decode code pc = .ok (.iload k0, 2)) (hl : L[k0]? = some (.val (.int v))) (k : Ok p l e R s m args below meth c own Z a0 EL n0 h0 ws wd Q sf h cells slots (mkF m (pc + 2) L ((.int v) :: S))) : Ok p l e R s m args below meth c own Z a0 EL n0 h0 ws wd Q sf h cells slots (mkF m pc L S) :=
  ok_step (fun T t hA k => XS.iload hA G.1 rfl (hb G.2.1 hd) hl k) k
theorem ok_iloadN (G : Good p meth c code maxL ret nm) {pc : Nat} {L : Array Slot} {S : List Value} {k0 : Fin 4} {v : Int32} (hd : decode code pc = .ok (.iload_n k0, 1)) (hl : L[k0.val]? = some (.val (.int v))) (k : Ok p l e R s m args below meth c own Z a0 EL n0 h0 ws wd Q sf h cells slots (mkF m (pc + 1) L ((.int v) :: S))) : Ok p l e R s m args below meth c own Z a0 EL n0 h0 ws wd Q sf h cells slots (mkF m pc L S) :=
  ok_step (fun T t hA k => XS.iloadN hA G.1 rfl (hb G.2.1 hd) hl k) k
theorem ok_lload (G : Good p meth c code maxL ret nm) {pc : Nat} {L : Array Slot} {S : List Value} {k0 : Nat} {v : Int64} (hd : decode code pc = .ok (.lload k0, 2)) (hl : L[k0]? = some (.val (.long v))) (k : Ok p l e R s m args below meth c own Z a0 EL n0 h0 ws wd Q sf h cells slots (mkF m (pc + 2) L ((.long v) :: S))) : Ok p l e R s m args below meth c own Z a0 EL n0 h0 ws wd Q sf h cells slots (mkF m pc L S) :=
  ok_step (fun T t hA k => XS.lload hA G.1 rfl (hb G.2.1 hd) hl k) k
theorem ok_lloadN (G : Good p meth c code maxL ret nm) {pc : Nat} {L : Array Slot} {S : List Value} {k0 : Fin 4} {v : Int64} (hd : decode code pc = .ok (.lload_n k0, 1)) (hl : L[k0.val]? = some (.val (.long v))) (k : Ok p l e R s m args below meth c own Z a0 EL n0 h0 ws wd Q sf h cells slots (mkF m (pc + 1) L ((.long v) :: S))) : Ok p l e R s m args below meth c own Z a0 EL n0 h0 ws wd Q sf h cells slots (mkF m pc L S) :=
  ok_step (fun T t hA k => XS.lloadN hA G.1 rfl (hb G.2.1 hd) hl k) k
theorem ok_istore (G : Good p meth c code maxL ret nm) {pc : Nat} {L : Array Slot} {S : List Value} {k0 : Nat} {v : Int32} (L' : Array Slot) (hd : decode code pc = .ok (.istore k0, 2)) (hl : storeLocals L k0 (.int v) = some L') (k : Ok p l e R s m args below meth c own Z a0 EL n0 h0 ws wd Q sf h cells slots (mkF m (pc + 2) L' S)) : Ok p l e R s m args below meth c own Z a0 EL n0 h0 ws wd Q sf h cells slots (mkF m pc L ((.int v) :: S)) :=
  ok_step (fun T t hA k => XS.istore hA G.1 rfl (hb G.2.1 hd) rfl hl k) k
theorem ok_istoreN (G : Good p meth c code maxL ret nm) {pc : Nat} {L : Array Slot} {S : List Value} {k0 : Fin 4} {v : Int32} (L' : Array Slot) (hd : decode code pc = .ok (.istore_n k0, 1)) (hl : storeLocals L k0.val (.int v) = some L') (k : Ok p l e R s m args below meth c own Z a0 EL n0 h0 ws wd Q sf h cells slots (mkF m (pc + 1) L' S)) : Ok p l e R s m args below meth c own Z a0 EL n0 h0 ws wd Q sf h cells slots (mkF m pc L ((.int v) :: S)) :=
  ok_step (fun T t hA k => XS.istoreN hA G.1 rfl (hb G.2.1 hd) rfl hl k) k
theorem ok_lstore (G : Good p meth c code maxL ret nm) {pc : Nat} {L : Array Slot} {S : List Value} {k0 : Nat} {v : Int64} (L' : Array Slot) (hd : decode code pc = .ok (.lstore k0, 2)) (hl : storeLocals L k0 (.long v) = some L') (k : Ok p l e R s m args below meth c own Z a0 EL n0 h0 ws wd Q sf h cells slots (mkF m (pc + 2) L' S)) : Ok p l e R s m args below meth c own Z a0 EL n0 h0 ws wd Q sf h cells slots (mkF m pc L ((.long v) :: S)) :=
  ok_step (fun T t hA k => XS.lstore hA G.1 rfl (hb G.2.1 hd) rfl hl k) k
theorem ok_lstoreN (G : Good p meth c code maxL ret nm) {pc : Nat} {L : Array Slot} {S : List Value} {k0 : Fin 4} {v : Int64} (L' : Array Slot) (hd : decode code pc = .ok (.lstore_n k0, 1)) (hl : storeLocals L k0.val (.long v) = some L') (k : Ok p l e R s m args below meth c own Z a0 EL n0 h0 ws wd Q sf h cells slots (mkF m (pc + 1) L' S)) : Ok p l e R s m args below meth c own Z a0 EL n0 h0 ws wd Q sf h cells slots (mkF m pc L ((.long v) :: S)) :=
  ok_step (fun T t hA k => XS.lstoreN hA G.1 rfl (hb G.2.1 hd) rfl hl k) k
theorem ok_astore (G : Good p meth c code maxL ret nm) {pc : Nat} {L : Array Slot} {S : List Value} {k0 : Nat} {v : Value} (L' : Array Slot) (hd : decode code pc = .ok (.astore k0, 2)) (hv : v.isRef = true) (hl : storeLocals L k0 v = some L') (k : Ok p l e R s m args below meth c own Z a0 EL n0 h0 ws wd Q sf h cells slots (mkF m (pc + 2) L' S)) : Ok p l e R s m args below meth c own Z a0 EL n0 h0 ws wd Q sf h cells slots (mkF m pc L (v :: S)) :=
  ok_step (fun T t hA k => XS.astore hA G.1 rfl (hb G.2.1 hd) rfl hv hl k) k
theorem ok_astoreN (G : Good p meth c code maxL ret nm) {pc : Nat} {L : Array Slot} {S : List Value} {k0 : Fin 4} {v : Value} (L' : Array Slot) (hd : decode code pc = .ok (.astore_n k0, 1)) (hv : v.isRef = true) (hl : storeLocals L k0.val v = some L') (k : Ok p l e R s m args below meth c own Z a0 EL n0 h0 ws wd Q sf h cells slots (mkF m (pc + 1) L' S)) : Ok p l e R s m args below meth c own Z a0 EL n0 h0 ws wd Q sf h cells slots (mkF m pc L (v :: S)) :=
  ok_step (fun T t hA k => XS.astoreN hA G.1 rfl (hb G.2.1 hd) rfl hv hl k) k
theorem ok_iconst (G : Good p meth c code maxL ret nm) {pc : Nat} {L : Array Slot} {S : List Value} {i : Int} (v : Int32) (hd : decode code pc = .ok (.iconst i, 1)) (hv : Int32.ofInt i = v) (k : Ok p l e R s m args below meth c own Z a0 EL n0 h0 ws wd Q sf h cells slots (mkF m (pc + 1) L (.int v :: S))) : Ok p l e R s m args below meth c own Z a0 EL n0 h0 ws wd Q sf h cells slots (mkF m pc L S) :=
  ok_step (fun T t hA k => XS.iconst hA G.1 rfl (hb G.2.1 hd) (by rw [hv]; exact k)) k
theorem ok_bipush (G : Good p meth c code maxL ret nm) {pc : Nat} {L : Array Slot} {S : List Value} {i : Int} (v : Int32) (hd : decode code pc = .ok (.bipush i, 2)) (hv : (Int8.ofInt i).toInt32 = v) (k : Ok p l e R s m args below meth c own Z a0 EL n0 h0 ws wd Q sf h cells slots (mkF m (pc + 2) L (.int v :: S))) : Ok p l e R s m args below meth c own Z a0 EL n0 h0 ws wd Q sf h cells slots (mkF m pc L S) :=
  ok_step (fun T t hA k => XS.bipush hA G.1 rfl (hb G.2.1 hd) (by rw [hv]; exact k)) k
theorem ok_sipush (G : Good p meth c code maxL ret nm) {pc : Nat} {L : Array Slot} {S : List Value} {i : Int} (v : Int32) (hd : decode code pc = .ok (.sipush i, 3)) (hv : (Int16.ofInt i).toInt32 = v) (k : Ok p l e R s m args below meth c own Z a0 EL n0 h0 ws wd Q sf h cells slots (mkF m (pc + 3) L (.int v :: S))) : Ok p l e R s m args below meth c own Z a0 EL n0 h0 ws wd Q sf h cells slots (mkF m pc L S) :=
  ok_step (fun T t hA k => XS.sipush hA G.1 rfl (hb G.2.1 hd) (by rw [hv]; exact k)) k
theorem ok_lconst0 (G : Good p meth c code maxL ret nm) {pc : Nat} {L : Array Slot} {S : List Value}  (hd : decode code pc = .ok (.lconst 0, 1)) (k : Ok p l e R s m args below meth c own Z a0 EL n0 h0 ws wd Q sf h cells slots (mkF m (pc + 1) L (.long 0 :: S))) : Ok p l e R s m args below meth c own Z a0 EL n0 h0 ws wd Q sf h cells slots (mkF m pc L S) :=
  ok_step (fun T t hA k => XS.lconst hA G.1 rfl (hb G.2.1 hd) k) k
theorem ok_lconst1 (G : Good p meth c code maxL ret nm) {pc : Nat} {L : Array Slot} {S : List Value}  (hd : decode code pc = .ok (.lconst 1, 1)) (k : Ok p l e R s m args below meth c own Z a0 EL n0 h0 ws wd Q sf h cells slots (mkF m (pc + 1) L (.long 1 :: S))) : Ok p l e R s m args below meth c own Z a0 EL n0 h0 ws wd Q sf h cells slots (mkF m pc L S) :=
  ok_step (fun T t hA k => XS.lconst hA G.1 rfl (hb G.2.1 hd) k) k
theorem ok_aconst_null (G : Good p meth c code maxL ret nm) {pc : Nat} {L : Array Slot} {S : List Value}  (hd : decode code pc = .ok (.aconst_null, 1)) (k : Ok p l e R s m args below meth c own Z a0 EL n0 h0 ws wd Q sf h cells slots (mkF m (pc + 1) L (.null :: S))) : Ok p l e R s m args below meth c own Z a0 EL n0 h0 ws wd Q sf h cells slots (mkF m pc L S) :=
  ok_step (fun T t hA k => XS.aconstNull hA G.1 rfl (hb G.2.1 hd) k) k
theorem ok_iadd (G : Good p meth c code maxL ret nm) {pc : Nat} {L : Array Slot} {S : List Value} {x y : Int32} (hd : decode code pc = .ok (.iadd, 1)) (k : Ok p l e R s m args below meth c own Z a0 EL n0 h0 ws wd Q sf h cells slots (mkF m (pc + 1) L (.int (x + y) :: S))) : Ok p l e R s m args below meth c own Z a0 EL n0 h0 ws wd Q sf h cells slots (mkF m pc L (.int y :: .int x :: S)) :=
  ok_step (fun T t hA k => XS.iadd hA G.1 rfl (hb G.2.1 hd) rfl k) k
theorem ok_isub (G : Good p meth c code maxL ret nm) {pc : Nat} {L : Array Slot} {S : List Value} {x y : Int32} (hd : decode code pc = .ok (.isub, 1)) (k : Ok p l e R s m args below meth c own Z a0 EL n0 h0 ws wd Q sf h cells slots (mkF m (pc + 1) L (.int (x - y) :: S))) : Ok p l e R s m args below meth c own Z a0 EL n0 h0 ws wd Q sf h cells slots (mkF m pc L (.int y :: .int x :: S)) :=
  ok_step (fun T t hA k => XS.isub hA G.1 rfl (hb G.2.1 hd) rfl k) k
theorem ok_imul (G : Good p meth c code maxL ret nm) {pc : Nat} {L : Array Slot} {S : List Value} {x y : Int32} (hd : decode code pc = .ok (.imul, 1)) (k : Ok p l e R s m args below meth c own Z a0 EL n0 h0 ws wd Q sf h cells slots (mkF m (pc + 1) L (.int (x * y) :: S))) : Ok p l e R s m args below meth c own Z a0 EL n0 h0 ws wd Q sf h cells slots (mkF m pc L (.int y :: .int x :: S)) :=
  ok_step (fun T t hA k => XS.imul hA G.1 rfl (hb G.2.1 hd) rfl k) k
theorem ok_iand (G : Good p meth c code maxL ret nm) {pc : Nat} {L : Array Slot} {S : List Value} {x y : Int32} (hd : decode code pc = .ok (.iand, 1)) (k : Ok p l e R s m args below meth c own Z a0 EL n0 h0 ws wd Q sf h cells slots (mkF m (pc + 1) L (.int (x &&& y) :: S))) : Ok p l e R s m args below meth c own Z a0 EL n0 h0 ws wd Q sf h cells slots (mkF m pc L (.int y :: .int x :: S)) :=
  ok_step (fun T t hA k => XS.iand hA G.1 rfl (hb G.2.1 hd) rfl k) k
theorem ok_ior (G : Good p meth c code maxL ret nm) {pc : Nat} {L : Array Slot} {S : List Value} {x y : Int32} (hd : decode code pc = .ok (.ior, 1)) (k : Ok p l e R s m args below meth c own Z a0 EL n0 h0 ws wd Q sf h cells slots (mkF m (pc + 1) L (.int (x ||| y) :: S))) : Ok p l e R s m args below meth c own Z a0 EL n0 h0 ws wd Q sf h cells slots (mkF m pc L (.int y :: .int x :: S)) :=
  ok_step (fun T t hA k => XS.ior hA G.1 rfl (hb G.2.1 hd) rfl k) k
theorem ok_ixor (G : Good p meth c code maxL ret nm) {pc : Nat} {L : Array Slot} {S : List Value} {x y : Int32} (hd : decode code pc = .ok (.ixor, 1)) (k : Ok p l e R s m args below meth c own Z a0 EL n0 h0 ws wd Q sf h cells slots (mkF m (pc + 1) L (.int (x ^^^ y) :: S))) : Ok p l e R s m args below meth c own Z a0 EL n0 h0 ws wd Q sf h cells slots (mkF m pc L (.int y :: .int x :: S)) :=
  ok_step (fun T t hA k => XS.ixor hA G.1 rfl (hb G.2.1 hd) rfl k) k
theorem ok_ishl (G : Good p meth c code maxL ret nm) {pc : Nat} {L : Array Slot} {S : List Value} {x y : Int32} (hd : decode code pc = .ok (.ishl, 1)) (k : Ok p l e R s m args below meth c own Z a0 EL n0 h0 ws wd Q sf h cells slots (mkF m (pc + 1) L (.int (x <<< (y &&& 31)) :: S))) : Ok p l e R s m args below meth c own Z a0 EL n0 h0 ws wd Q sf h cells slots (mkF m pc L (.int y :: .int x :: S)) :=
  ok_step (fun T t hA k => XS.ishl hA G.1 rfl (hb G.2.1 hd) rfl k) k
theorem ok_ishr (G : Good p meth c code maxL ret nm) {pc : Nat} {L : Array Slot} {S : List Value} {x y : Int32} (hd : decode code pc = .ok (.ishr, 1)) (k : Ok p l e R s m args below meth c own Z a0 EL n0 h0 ws wd Q sf h cells slots (mkF m (pc + 1) L (.int (x >>> (y &&& 31)) :: S))) : Ok p l e R s m args below meth c own Z a0 EL n0 h0 ws wd Q sf h cells slots (mkF m pc L (.int y :: .int x :: S)) :=
  ok_step (fun T t hA k => XS.ishr hA G.1 rfl (hb G.2.1 hd) rfl k) k
theorem ok_iushr (G : Good p meth c code maxL ret nm) {pc : Nat} {L : Array Slot} {S : List Value} {x y : Int32} (hd : decode code pc = .ok (.iushr, 1)) (k : Ok p l e R s m args below meth c own Z a0 EL n0 h0 ws wd Q sf h cells slots (mkF m (pc + 1) L (.int ((x.toUInt32 >>> (y &&& 31).toUInt32).toInt32) :: S))) : Ok p l e R s m args below meth c own Z a0 EL n0 h0 ws wd Q sf h cells slots (mkF m pc L (.int y :: .int x :: S)) :=
  ok_step (fun T t hA k => XS.iushr hA G.1 rfl (hb G.2.1 hd) rfl k) k
theorem ok_ladd (G : Good p meth c code maxL ret nm) {pc : Nat} {L : Array Slot} {S : List Value} {x y : Int64} (hd : decode code pc = .ok (.ladd, 1)) (k : Ok p l e R s m args below meth c own Z a0 EL n0 h0 ws wd Q sf h cells slots (mkF m (pc + 1) L (.long (x + y) :: S))) : Ok p l e R s m args below meth c own Z a0 EL n0 h0 ws wd Q sf h cells slots (mkF m pc L (.long y :: .long x :: S)) :=
  ok_step (fun T t hA k => XS.ladd hA G.1 rfl (hb G.2.1 hd) rfl k) k
theorem ok_lsub (G : Good p meth c code maxL ret nm) {pc : Nat} {L : Array Slot} {S : List Value} {x y : Int64} (hd : decode code pc = .ok (.lsub, 1)) (k : Ok p l e R s m args below meth c own Z a0 EL n0 h0 ws wd Q sf h cells slots (mkF m (pc + 1) L (.long (x - y) :: S))) : Ok p l e R s m args below meth c own Z a0 EL n0 h0 ws wd Q sf h cells slots (mkF m pc L (.long y :: .long x :: S)) :=
  ok_step (fun T t hA k => XS.lsub hA G.1 rfl (hb G.2.1 hd) rfl k) k
theorem ok_lmul (G : Good p meth c code maxL ret nm) {pc : Nat} {L : Array Slot} {S : List Value} {x y : Int64} (hd : decode code pc = .ok (.lmul, 1)) (k : Ok p l e R s m args below meth c own Z a0 EL n0 h0 ws wd Q sf h cells slots (mkF m (pc + 1) L (.long (x * y) :: S))) : Ok p l e R s m args below meth c own Z a0 EL n0 h0 ws wd Q sf h cells slots (mkF m pc L (.long y :: .long x :: S)) :=
  ok_step (fun T t hA k => XS.lmul hA G.1 rfl (hb G.2.1 hd) rfl k) k
theorem ok_land (G : Good p meth c code maxL ret nm) {pc : Nat} {L : Array Slot} {S : List Value} {x y : Int64} (hd : decode code pc = .ok (.land, 1)) (k : Ok p l e R s m args below meth c own Z a0 EL n0 h0 ws wd Q sf h cells slots (mkF m (pc + 1) L (.long (x &&& y) :: S))) : Ok p l e R s m args below meth c own Z a0 EL n0 h0 ws wd Q sf h cells slots (mkF m pc L (.long y :: .long x :: S)) :=
  ok_step (fun T t hA k => XS.land hA G.1 rfl (hb G.2.1 hd) rfl k) k
theorem ok_lor (G : Good p meth c code maxL ret nm) {pc : Nat} {L : Array Slot} {S : List Value} {x y : Int64} (hd : decode code pc = .ok (.lor, 1)) (k : Ok p l e R s m args below meth c own Z a0 EL n0 h0 ws wd Q sf h cells slots (mkF m (pc + 1) L (.long (x ||| y) :: S))) : Ok p l e R s m args below meth c own Z a0 EL n0 h0 ws wd Q sf h cells slots (mkF m pc L (.long y :: .long x :: S)) :=
  ok_step (fun T t hA k => XS.lor hA G.1 rfl (hb G.2.1 hd) rfl k) k
theorem ok_lxor (G : Good p meth c code maxL ret nm) {pc : Nat} {L : Array Slot} {S : List Value} {x y : Int64} (hd : decode code pc = .ok (.lxor, 1)) (k : Ok p l e R s m args below meth c own Z a0 EL n0 h0 ws wd Q sf h cells slots (mkF m (pc + 1) L (.long (x ^^^ y) :: S))) : Ok p l e R s m args below meth c own Z a0 EL n0 h0 ws wd Q sf h cells slots (mkF m pc L (.long y :: .long x :: S)) :=
  ok_step (fun T t hA k => XS.lxor hA G.1 rfl (hb G.2.1 hd) rfl k) k
theorem ok_idiv (G : Good p meth c code maxL ret nm) {pc : Nat} {L : Array Slot} {S : List Value} {x y : Int32} (hd : decode code pc = .ok (.idiv, 1)) (hy : y ≠ 0) (k : Ok p l e R s m args below meth c own Z a0 EL n0 h0 ws wd Q sf h cells slots (mkF m (pc + 1) L (.int (x / y) :: S))) : Ok p l e R s m args below meth c own Z a0 EL n0 h0 ws wd Q sf h cells slots (mkF m pc L (.int y :: .int x :: S)) :=
  ok_step (fun T t hA k => XS.idiv hA G.1 rfl (hb G.2.1 hd) rfl hy k) k
theorem ok_irem (G : Good p meth c code maxL ret nm) {pc : Nat} {L : Array Slot} {S : List Value} {x y : Int32} (hd : decode code pc = .ok (.irem, 1)) (hy : y ≠ 0) (k : Ok p l e R s m args below meth c own Z a0 EL n0 h0 ws wd Q sf h cells slots (mkF m (pc + 1) L (.int (x % y) :: S))) : Ok p l e R s m args below meth c own Z a0 EL n0 h0 ws wd Q sf h cells slots (mkF m pc L (.int y :: .int x :: S)) :=
  ok_step (fun T t hA k => XS.irem hA G.1 rfl (hb G.2.1 hd) rfl hy (by rw [irem_eq_mod x y]; exact k)) k
theorem ok_ldiv (G : Good p meth c code maxL ret nm) {pc : Nat} {L : Array Slot} {S : List Value} {x y : Int64} (hd : decode code pc = .ok (.ldiv, 1)) (hy : y ≠ 0) (k : Ok p l e R s m args below meth c own Z a0 EL n0 h0 ws wd Q sf h cells slots (mkF m (pc + 1) L (.long (x / y) :: S))) : Ok p l e R s m args below meth c own Z a0 EL n0 h0 ws wd Q sf h cells slots (mkF m pc L (.long y :: .long x :: S)) :=
  ok_step (fun T t hA k => XS.ldiv hA G.1 rfl (hb G.2.1 hd) rfl hy k) k
theorem ok_lrem (G : Good p meth c code maxL ret nm) {pc : Nat} {L : Array Slot} {S : List Value} {x y : Int64} (hd : decode code pc = .ok (.lrem, 1)) (hy : y ≠ 0) (k : Ok p l e R s m args below meth c own Z a0 EL n0 h0 ws wd Q sf h cells slots (mkF m (pc + 1) L (.long (x - x / y * y) :: S))) : Ok p l e R s m args below meth c own Z a0 EL n0 h0 ws wd Q sf h cells slots (mkF m pc L (.long y :: .long x :: S)) :=
  ok_step (fun T t hA k => XS.lrem hA G.1 rfl (hb G.2.1 hd) rfl hy k) k
theorem ok_ineg (G : Good p meth c code maxL ret nm) {pc : Nat} {L : Array Slot} {S : List Value} {x : Int32} (hd : decode code pc = .ok (.ineg, 1)) (k : Ok p l e R s m args below meth c own Z a0 EL n0 h0 ws wd Q sf h cells slots (mkF m (pc + 1) L (.int (-x) :: S))) : Ok p l e R s m args below meth c own Z a0 EL n0 h0 ws wd Q sf h cells slots (mkF m pc L (.int x :: S)) :=
  ok_step (fun T t hA k => XS.ineg hA G.1 rfl (hb G.2.1 hd) rfl k) k
theorem ok_i2b (G : Good p meth c code maxL ret nm) {pc : Nat} {L : Array Slot} {S : List Value} {x : Int32} (hd : decode code pc = .ok (.i2b, 1)) (k : Ok p l e R s m args below meth c own Z a0 EL n0 h0 ws wd Q sf h cells slots (mkF m (pc + 1) L (.int x.toInt8.toInt32 :: S))) : Ok p l e R s m args below meth c own Z a0 EL n0 h0 ws wd Q sf h cells slots (mkF m pc L (.int x :: S)) :=
  ok_step (fun T t hA k => XS.i2b hA G.1 rfl (hb G.2.1 hd) rfl k) k
theorem ok_i2c (G : Good p meth c code maxL ret nm) {pc : Nat} {L : Array Slot} {S : List Value} {x : Int32} (hd : decode code pc = .ok (.i2c, 1)) (k : Ok p l e R s m args below meth c own Z a0 EL n0 h0 ws wd Q sf h cells slots (mkF m (pc + 1) L (.int x.toUInt32.toUInt16.toUInt32.toInt32 :: S))) : Ok p l e R s m args below meth c own Z a0 EL n0 h0 ws wd Q sf h cells slots (mkF m pc L (.int x :: S)) :=
  ok_step (fun T t hA k => XS.i2c hA G.1 rfl (hb G.2.1 hd) rfl k) k
theorem ok_i2l (G : Good p meth c code maxL ret nm) {pc : Nat} {L : Array Slot} {S : List Value} {x : Int32} (hd : decode code pc = .ok (.i2l, 1)) (k : Ok p l e R s m args below meth c own Z a0 EL n0 h0 ws wd Q sf h cells slots (mkF m (pc + 1) L (.long x.toInt64 :: S))) : Ok p l e R s m args below meth c own Z a0 EL n0 h0 ws wd Q sf h cells slots (mkF m pc L (.int x :: S)) :=
  ok_step (fun T t hA k => XS.i2l hA G.1 rfl (hb G.2.1 hd) rfl k) k
theorem ok_l2i (G : Good p meth c code maxL ret nm) {pc : Nat} {L : Array Slot} {S : List Value} {x : Int64} (hd : decode code pc = .ok (.l2i, 1)) (k : Ok p l e R s m args below meth c own Z a0 EL n0 h0 ws wd Q sf h cells slots (mkF m (pc + 1) L (.int x.toInt32 :: S))) : Ok p l e R s m args below meth c own Z a0 EL n0 h0 ws wd Q sf h cells slots (mkF m pc L (.long x :: S)) :=
  ok_step (fun T t hA k => XS.l2i hA G.1 rfl (hb G.2.1 hd) rfl k) k
theorem ok_lcmp (G : Good p meth c code maxL ret nm) {pc : Nat} {L : Array Slot} {S : List Value} {x y : Int64} (hd : decode code pc = .ok (.lcmp, 1)) (k : Ok p l e R s m args below meth c own Z a0 EL n0 h0 ws wd Q sf h cells slots (mkF m (pc + 1) L (.int (lcmpW x y) :: S))) : Ok p l e R s m args below meth c own Z a0 EL n0 h0 ws wd Q sf h cells slots (mkF m pc L (.long y :: .long x :: S)) :=
  ok_step (fun T t hA k => XS.lcmp hA G.1 rfl (hb G.2.1 hd) rfl k) k
theorem ok_dup (G : Good p meth c code maxL ret nm) {pc : Nat} {L : Array Slot} {S : List Value} {v : Value} (hd : decode code pc = .ok (.dup, 1)) (hc : v.category = 1) (k : Ok p l e R s m args below meth c own Z a0 EL n0 h0 ws wd Q sf h cells slots (mkF m (pc + 1) L (v :: v :: S))) : Ok p l e R s m args below meth c own Z a0 EL n0 h0 ws wd Q sf h cells slots (mkF m pc L (v :: S)) :=
  ok_step (fun T t hA k => XS.dup hA G.1 rfl (hb G.2.1 hd) rfl hc k) k
theorem ok_pop (G : Good p meth c code maxL ret nm) {pc : Nat} {L : Array Slot} {S : List Value} {v : Value} (hd : decode code pc = .ok (.pop, 1)) (hc : v.category = 1) (k : Ok p l e R s m args below meth c own Z a0 EL n0 h0 ws wd Q sf h cells slots (mkF m (pc + 1) L S)) : Ok p l e R s m args below meth c own Z a0 EL n0 h0 ws wd Q sf h cells slots (mkF m pc L (v :: S)) :=
  ok_step (fun T t hA k => XS.pop hA G.1 rfl (hb G.2.1 hd) rfl hc k) k
theorem ok_dup_x1 (G : Good p meth c code maxL ret nm) {pc : Nat} {L : Array Slot} {S : List Value} {v w : Value} (hd : decode code pc = .ok (.dup_x1, 1)) (hc : v.category = 1) (hc2 : w.category = 1) (k : Ok p l e R s m args below meth c own Z a0 EL n0 h0 ws wd Q sf h cells slots (mkF m (pc + 1) L (v :: w :: v :: S))) : Ok p l e R s m args below meth c own Z a0 EL n0 h0 ws wd Q sf h cells slots (mkF m pc L (v :: w :: S)) :=
  ok_step (fun T t hA k => XS.dupX1 hA G.1 rfl (hb G.2.1 hd) rfl hc hc2 k) k
theorem ok_iinc (G : Good p meth c code maxL ret nm) {pc : Nat} {L : Array Slot} {S : List Value} {k0 : Nat} {cst : Int} {x : Int32} (v : Int32) (L' : Array Slot) (hd : decode code pc = .ok (.iinc k0 cst, 3)) (hl : L[k0]? = some (.val (.int x))) (hv : x + Int32.ofInt cst = v) (hl' : storeLocals L k0 (.int v) = some L') (k : Ok p l e R s m args below meth c own Z a0 EL n0 h0 ws wd Q sf h cells slots (mkF m (pc + 3) L' S)) : Ok p l e R s m args below meth c own Z a0 EL n0 h0 ws wd Q sf h cells slots (mkF m pc L S) :=
  ok_step (fun T t hA k => XS.iinc hA G.1 rfl (hb G.2.1 hd) hl (by rw [hv]; exact hl') k) k
theorem ok_goto (G : Good p meth c code maxL ret nm) {pc : Nat} {L : Array Slot} {S : List Value} {o : Int} (pc' : Nat) (hd : decode code pc = .ok (.goto o, 3)) (ho : 0 ≤ (pc : Int) + o) (hp : ((pc : Int) + o).toNat = pc') (k : Ok p l e R s m args below meth c own Z a0 EL n0 h0 ws wd Q sf h cells slots (mkF m pc' L S)) : Ok p l e R s m args below meth c own Z a0 EL n0 h0 ws wd Q sf h cells slots (mkF m pc L S) :=
  ok_step (fun T t hA k => XS.goto hA G.1 rfl rfl (hb G.2.1 hd) ho hp k) k
theorem ok_ifeq (G : Good p meth c code maxL ret nm) {pc : Nat} {L : Array Slot} {S : List Value} {x : Int32} {o : Int} (pc' : Nat) (hd : decode code pc = .ok (.ifCond .eq o, 3)) (ho : 0 ≤ (pc : Int) + o) (hp : ((pc : Int) + o).toNat = pc') (ky : x = 0 → Ok p l e R s m args below meth c own Z a0 EL n0 h0 ws wd Q sf h cells slots (mkF m pc' L S)) (kn : ¬ x = 0 → Ok p l e R s m args below meth c own Z a0 EL n0 h0 ws wd Q sf h cells slots (mkF m (pc + 3) L S)) : Ok p l e R s m args below meth c own Z a0 EL n0 h0 ws wd Q sf h cells slots (mkF m pc L (.int x :: S)) := by
  by_cases q : x = 0
  · exact ok_step (fun T t hA k => XS.ifYes hA G.1 rfl rfl (hb G.2.1 hd) rfl ((if0 _ _).trans (teq q).1) ho hp k) (ky q)
  · exact ok_step (fun T t hA k => XS.ifNo hA G.1 rfl (hb G.2.1 hd) rfl ((if0 _ _).trans (feq q).1) k) (kn q)
theorem ok_ifeqY (G : Good p meth c code maxL ret nm) {pc : Nat} {L : Array Slot} {S : List Value} {x : Int32} {o : Int} (pc' : Nat) (hd : decode code pc = .ok (.ifCond .eq o, 3)) (ho : 0 ≤ (pc : Int) + o) (hp : ((pc : Int) + o).toNat = pc') (q : x = 0) (k : Ok p l e R s m args below meth c own Z a0 EL n0 h0 ws wd Q sf h cells slots (mkF m pc' L S)) : Ok p l e R s m args below meth c own Z a0 EL n0 h0 ws wd Q sf h cells slots (mkF m pc L (.int x :: S)) := ok_ifeq G pc' hd ho hp (fun _ => k) (fun q' => absurd q q')
theorem ok_ifeqN (G : Good p meth c code maxL ret nm) {pc : Nat} {L : Array Slot} {S : List Value} {x : Int32} {o : Int} (hd : decode code pc = .ok (.ifCond .eq o, 3)) (q : ¬ x = 0) (k : Ok p l e R s m args below meth c own Z a0 EL n0 h0 ws wd Q sf h cells slots (mkF m (pc + 3) L S)) : Ok p l e R s m args below meth c own Z a0 EL n0 h0 ws wd Q sf h cells slots (mkF m pc L (.int x :: S)) :=
  ok_step (fun T t hA k => XS.ifNo hA G.1 rfl (hb G.2.1 hd) rfl ((if0 _ _).trans (feq q).1) k) k
theorem ok_icmpeq (G : Good p meth c code maxL ret nm) {pc : Nat} {L : Array Slot} {S : List Value} {x y : Int32} {o : Int} (pc' : Nat) (hd : decode code pc = .ok (.if_icmp .eq o, 3)) (ho : 0 ≤ (pc : Int) + o) (hp : ((pc : Int) + o).toNat = pc') (ky : x = y → Ok p l e R s m args below meth c own Z a0 EL n0 h0 ws wd Q sf h cells slots (mkF m pc' L S)) (kn : ¬ x = y → Ok p l e R s m args below meth c own Z a0 EL n0 h0 ws wd Q sf h cells slots (mkF m (pc + 3) L S)) : Ok p l e R s m args below meth c own Z a0 EL n0 h0 ws wd Q sf h cells slots (mkF m pc L (.int y :: .int x :: S)) := by
  by_cases q : x = y
  · exact ok_step (fun T t hA k => XS.icmpYes hA G.1 rfl rfl (hb G.2.1 hd) rfl (teq q).1 ho hp k) (ky q)
  · exact ok_step (fun T t hA k => XS.icmpNo hA G.1 rfl (hb G.2.1 hd) rfl (feq q).1 k) (kn q)
theorem ok_icmpeqY (G : Good p meth c code maxL ret nm) {pc : Nat} {L : Array Slot} {S : List Value} {x y : Int32} {o : Int} (pc' : Nat) (hd : decode code pc = .ok (.if_icmp .eq o, 3)) (ho : 0 ≤ (pc : Int) + o) (hp : ((pc : Int) + o).toNat = pc') (q : x = y) (k : Ok p l e R s m args below meth c own Z a0 EL n0 h0 ws wd Q sf h cells slots (mkF m pc' L S)) : Ok p l e R s m args below meth c own Z a0 EL n0 h0 ws wd Q sf h cells slots (mkF m pc L (.int y :: .int x :: S)) := ok_icmpeq G pc' hd ho hp (fun _ => k) (fun q' => absurd q q')
theorem ok_icmpeqN (G : Good p meth c code maxL ret nm) {pc : Nat} {L : Array Slot} {S : List Value} {x y : Int32} {o : Int} (hd : decode code pc = .ok (.if_icmp .eq o, 3)) (q : ¬ x = y) (k : Ok p l e R s m args below meth c own Z a0 EL n0 h0 ws wd Q sf h cells slots (mkF m (pc + 3) L S)) : Ok p l e R s m args below meth c own Z a0 EL n0 h0 ws wd Q sf h cells slots (mkF m pc L (.int y :: .int x :: S)) :=
  ok_step (fun T t hA k => XS.icmpNo hA G.1 rfl (hb G.2.1 hd) rfl (feq q).1 k) k
theorem ok_ifne (G : Good p meth c code maxL ret nm) {pc : Nat} {L : Array Slot} {S : List Value} {x : Int32} {o : Int} (pc' : Nat) (hd : decode code pc = .ok (.ifCond .ne o, 3)) (ho : 0 ≤ (pc : Int) + o) (hp : ((pc : Int) + o).toNat = pc') (ky : ¬ x = 0 → Ok p l e R s m args below meth c own Z a0 EL n0 h0 ws wd Q sf h cells slots (mkF m pc' L S)) (kn : x = 0 → Ok p l e R s m args below meth c own Z a0 EL n0 h0 ws wd Q sf h cells slots (mkF m (pc + 3) L S)) : Ok p l e R s m args below meth c own Z a0 EL n0 h0 ws wd Q sf h cells slots (mkF m pc L (.int x :: S)) := by
  by_cases q : x = 0
  · exact ok_step (fun T t hA k => XS.ifNo hA G.1 rfl (hb G.2.1 hd) rfl ((if0 _ _).trans (teq q).2) k) (kn q)
  · exact ok_step (fun T t hA k => XS.ifYes hA G.1 rfl rfl (hb G.2.1 hd) rfl ((if0 _ _).trans (feq q).2) ho hp k) (ky q)
theorem ok_ifneY (G : Good p meth c code maxL ret nm) {pc : Nat} {L : Array Slot} {S : List Value} {x : Int32} {o : Int} (pc' : Nat) (hd : decode code pc = .ok (.ifCond .ne o, 3)) (ho : 0 ≤ (pc : Int) + o) (hp : ((pc : Int) + o).toNat = pc') (q : ¬ x = 0) (k : Ok p l e R s m args below meth c own Z a0 EL n0 h0 ws wd Q sf h cells slots (mkF m pc' L S)) : Ok p l e R s m args below meth c own Z a0 EL n0 h0 ws wd Q sf h cells slots (mkF m pc L (.int x :: S)) := ok_ifne G pc' hd ho hp (fun _ => k) (fun q' => absurd q' q)
theorem ok_ifneN (G : Good p meth c code maxL ret nm) {pc : Nat} {L : Array Slot} {S : List Value} {x : Int32} {o : Int} (hd : decode code pc = .ok (.ifCond .ne o, 3)) (q : x = 0) (k : Ok p l e R s m args below meth c own Z a0 EL n0 h0 ws wd Q sf h cells slots (mkF m (pc + 3) L S)) : Ok p l e R s m args below meth c own Z a0 EL n0 h0 ws wd Q sf h cells slots (mkF m pc L (.int x :: S)) :=
  ok_step (fun T t hA k => XS.ifNo hA G.1 rfl (hb G.2.1 hd) rfl ((if0 _ _).trans (teq q).2) k) k
theorem ok_icmpne (G : Good p meth c code maxL ret nm) {pc : Nat} {L : Array Slot} {S : List Value} {x y : Int32} {o : Int} (pc' : Nat) (hd : decode code pc = .ok (.if_icmp .ne o, 3)) (ho : 0 ≤ (pc : Int) + o) (hp : ((pc : Int) + o).toNat = pc') (ky : ¬ x = y → Ok p l e R s m args below meth c own Z a0 EL n0 h0 ws wd Q sf h cells slots (mkF m pc' L S)) (kn : x = y → Ok p l e R s m args below meth c own Z a0 EL n0 h0 ws wd Q sf h cells slots (mkF m (pc + 3) L S)) : Ok p l e R s m args below meth c own Z a0 EL n0 h0 ws wd Q sf h cells slots (mkF m pc L (.int y :: .int x :: S)) := by
  by_cases q : x = y
  · exact ok_step (fun T t hA k => XS.icmpNo hA G.1 rfl (hb G.2.1 hd) rfl (teq q).2 k) (kn q)
  · exact ok_step (fun T t hA k => XS.icmpYes hA G.1 rfl rfl (hb G.2.1 hd) rfl (feq q).2 ho hp k) (ky q)
theorem ok_icmpneY (G : Good p meth c code maxL ret nm) {pc : Nat} {L : Array Slot} {S : List Value} {x y : Int32} {o : Int} (pc' : Nat) (hd : decode code pc = .ok (.if_icmp .ne o, 3)) (ho : 0 ≤ (pc : Int) + o) (hp : ((pc : Int) + o).toNat = pc') (q : ¬ x = y) (k : Ok p l e R s m args below meth c own Z a0 EL n0 h0 ws wd Q sf h cells slots (mkF m pc' L S)) : Ok p l e R s m args below meth c own Z a0 EL n0 h0 ws wd Q sf h cells slots (mkF m pc L (.int y :: .int x :: S)) := ok_icmpne G pc' hd ho hp (fun _ => k) (fun q' => absurd q' q)
theorem ok_icmpneN (G : Good p meth c code maxL ret nm) {pc : Nat} {L : Array Slot} {S : List Value} {x y : Int32} {o : Int} (hd : decode code pc = .ok (.if_icmp .ne o, 3)) (q : x = y) (k : Ok p l e R s m args below meth c own Z a0 EL n0 h0 ws wd Q sf h cells slots (mkF m (pc + 3) L S)) : Ok p l e R s m args below meth c own Z a0 EL n0 h0 ws wd Q sf h cells slots (mkF m pc L (.int y :: .int x :: S)) :=
  ok_step (fun T t hA k => XS.icmpNo hA G.1 rfl (hb G.2.1 hd) rfl (teq q).2 k) k
theorem ok_iflt (G : Good p meth c code maxL ret nm) {pc : Nat} {L : Array Slot} {S : List Value} {x : Int32} {o : Int} (pc' : Nat) (hd : decode code pc = .ok (.ifCond .lt o, 3)) (ho : 0 ≤ (pc : Int) + o) (hp : ((pc : Int) + o).toNat = pc') (ky : x < 0 → Ok p l e R s m args below meth c own Z a0 EL n0 h0 ws wd Q sf h cells slots (mkF m pc' L S)) (kn : ¬ x < 0 → Ok p l e R s m args below meth c own Z a0 EL n0 h0 ws wd Q sf h cells slots (mkF m (pc + 3) L S)) : Ok p l e R s m args below meth c own Z a0 EL n0 h0 ws wd Q sf h cells slots (mkF m pc L (.int x :: S)) := by
  by_cases q : x < 0
  · exact ok_step (fun T t hA k => XS.ifYes hA G.1 rfl rfl (hb G.2.1 hd) rfl ((if0 _ _).trans (tlt q).1) ho hp k) (ky q)
  · exact ok_step (fun T t hA k => XS.ifNo hA G.1 rfl (hb G.2.1 hd) rfl ((if0 _ _).trans (flt q).1) k) (kn q)
theorem ok_ifltY (G : Good p meth c code maxL ret nm) {pc : Nat} {L : Array Slot} {S : List Value} {x : Int32} {o : Int} (pc' : Nat) (hd : decode code pc = .ok (.ifCond .lt o, 3)) (ho : 0 ≤ (pc : Int) + o) (hp : ((pc : Int) + o).toNat = pc') (q : x < 0) (k : Ok p l e R s m args below meth c own Z a0 EL n0 h0 ws wd Q sf h cells slots (mkF m pc' L S)) : Ok p l e R s m args below meth c own Z a0 EL n0 h0 ws wd Q sf h cells slots (mkF m pc L (.int x :: S)) := ok_iflt G pc' hd ho hp (fun _ => k) (fun q' => absurd q q')
theorem ok_ifltN (G : Good p meth c code maxL ret nm) {pc : Nat} {L : Array Slot} {S : List Value} {x : Int32} {o : Int} (hd : decode code pc = .ok (.ifCond .lt o, 3)) (q : ¬ x < 0) (k : Ok p l e R s m args below meth c own Z a0 EL n0 h0 ws wd Q sf h cells slots (mkF m (pc + 3) L S)) : Ok p l e R s m args below meth c own Z a0 EL n0 h0 ws wd Q sf h cells slots (mkF m pc L (.int x :: S)) :=
  ok_step (fun T t hA k => XS.ifNo hA G.1 rfl (hb G.2.1 hd) rfl ((if0 _ _).trans (flt q).1) k) k
theorem ok_icmplt (G : Good p meth c code maxL ret nm) {pc : Nat} {L : Array Slot} {S : List Value} {x y : Int32} {o : Int} (pc' : Nat) (hd : decode code pc = .ok (.if_icmp .lt o, 3)) (ho : 0 ≤ (pc : Int) + o) (hp : ((pc : Int) + o).toNat = pc') (ky : x < y → Ok p l e R s m args below meth c own Z a0 EL n0 h0 ws wd Q sf h cells slots (mkF m pc' L S)) (kn : ¬ x < y → Ok p l e R s m args below meth c own Z a0 EL n0 h0 ws wd Q sf h cells slots (mkF m (pc + 3) L S)) : Ok p l e R s m args below meth c own Z a0 EL n0 h0 ws wd Q sf h cells slots (mkF m pc L (.int y :: .int x :: S)) := by
  by_cases q : x < y
  · exact ok_step (fun T t hA k => XS.icmpYes hA G.1 rfl rfl (hb G.2.1 hd) rfl (tlt q).1 ho hp k) (ky q)
  · exact ok_step (fun T t hA k => XS.icmpNo hA G.1 rfl (hb G.2.1 hd) rfl (flt q).1 k) (kn q)
theorem ok_icmpltY (G : Good p meth c code maxL ret nm) {pc : Nat} {L : Array Slot} {S : List Value} {x y : Int32} {o : Int} (pc' : Nat) (hd : decode code pc = .ok (.if_icmp .lt o, 3)) (ho : 0 ≤ (pc : Int) + o) (hp : ((pc : Int) + o).toNat = pc') (q : x < y) (k : Ok p l e R s m args below meth c own Z a0 EL n0 h0 ws wd Q sf h cells slots (mkF m pc' L S)) : Ok p l e R s m args below meth c own Z a0 EL n0 h0 ws wd Q sf h cells slots (mkF m pc L (.int y :: .int x :: S)) := ok_icmplt G pc' hd ho hp (fun _ => k) (fun q' => absurd q q')
theorem ok_icmpltN (G : Good p meth c code maxL ret nm) {pc : Nat} {L : Array Slot} {S : List Value} {x y : Int32} {o : Int} (hd : decode code pc = .ok (.if_icmp .lt o, 3)) (q : ¬ x < y) (k : Ok p l e R s m args below meth c own Z a0 EL n0 h0 ws wd Q sf h cells slots (mkF m (pc + 3) L S)) : Ok p l e R s m args below meth c own Z a0 EL n0 h0 ws wd Q sf h cells slots (mkF m pc L (.int y :: .int x :: S)) :=
  ok_step (fun T t hA k => XS.icmpNo hA G.1 rfl (hb G.2.1 hd) rfl (flt q).1 k) k
theorem ok_ifge (G : Good p meth c code maxL ret nm) {pc : Nat} {L : Array Slot} {S : List Value} {x : Int32} {o : Int} (pc' : Nat) (hd : decode code pc = .ok (.ifCond .ge o, 3)) (ho : 0 ≤ (pc : Int) + o) (hp : ((pc : Int) + o).toNat = pc') (ky : ¬ x < 0 → Ok p l e R s m args below meth c own Z a0 EL n0 h0 ws wd Q sf h cells slots (mkF m pc' L S)) (kn : x < 0 → Ok p l e R s m args below meth c own Z a0 EL n0 h0 ws wd Q sf h cells slots (mkF m (pc + 3) L S)) : Ok p l e R s m args below meth c own Z a0 EL n0 h0 ws wd Q sf h cells slots (mkF m pc L (.int x :: S)) := by
  by_cases q : x < 0
  · exact ok_step (fun T t hA k => XS.ifNo hA G.1 rfl (hb G.2.1 hd) rfl ((if0 _ _).trans (tlt q).2.1) k) (kn q)
  · exact ok_step (fun T t hA k => XS.ifYes hA G.1 rfl rfl (hb G.2.1 hd) rfl ((if0 _ _).trans (flt q).2.1) ho hp k) (ky q)
theorem ok_ifgeY (G : Good p meth c code maxL ret nm) {pc : Nat} {L : Array Slot} {S : List Value} {x : Int32} {o : Int} (pc' : Nat) (hd : decode code pc = .ok (.ifCond .ge o, 3)) (ho : 0 ≤ (pc : Int) + o) (hp : ((pc : Int) + o).toNat = pc') (q : ¬ x < 0) (k : Ok p l e R s m args below meth c own Z a0 EL n0 h0 ws wd Q sf h cells slots (mkF m pc' L S)) : Ok p l e R s m args below meth c own Z a0 EL n0 h0 ws wd Q sf h cells slots (mkF m pc L (.int x :: S)) := ok_ifge G pc' hd ho hp (fun _ => k) (fun q' => absurd q' q)
theorem ok_ifgeN (G : Good p meth c code maxL ret nm) {pc : Nat} {L : Array Slot} {S : List Value} {x : Int32} {o : Int} (hd : decode code pc = .ok (.ifCond .ge o, 3)) (q : x < 0) (k : Ok p l e R s m args below meth c own Z a0 EL n0 h0 ws wd Q sf h cells slots (mkF m (pc + 3) L S)) : Ok p l e R s m args below meth c own Z a0 EL n0 h0 ws wd Q sf h cells slots (mkF m pc L (.int x :: S)) :=
  ok_step (fun T t hA k => XS.ifNo hA G.1 rfl (hb G.2.1 hd) rfl ((if0 _ _).trans (tlt q).2.1) k) k
theorem ok_icmpge (G : Good p meth c code maxL ret nm) {pc : Nat} {L : Array Slot} {S : List Value} {x y : Int32} {o : Int} (pc' : Nat) (hd : decode code pc = .ok (.if_icmp .ge o, 3)) (ho : 0 ≤ (pc : Int) + o) (hp : ((pc : Int) + o).toNat = pc') (ky : ¬ x < y → Ok p l e R s m args below meth c own Z a0 EL n0 h0 ws wd Q sf h cells slots (mkF m pc' L S)) (kn : x < y → Ok p l e R s m args below meth c own Z a0 EL n0 h0 ws wd Q sf h cells slots (mkF m (pc + 3) L S)) : Ok p l e R s m args below meth c own Z a0 EL n0 h0 ws wd Q sf h cells slots (mkF m pc L (.int y :: .int x :: S)) := by
  by_cases q : x < y
  · exact ok_step (fun T t hA k => XS.icmpNo hA G.1 rfl (hb G.2.1 hd) rfl (tlt q).2.1 k) (kn q)
  · exact ok_step (fun T t hA k => XS.icmpYes hA G.1 rfl rfl (hb G.2.1 hd) rfl (flt q).2.1 ho hp k) (ky q)
theorem ok_icmpgeY (G : Good p meth c code maxL ret nm) {pc : Nat} {L : Array Slot} {S : List Value} {x y : Int32} {o : Int} (pc' : Nat) (hd : decode code pc = .ok (.if_icmp .ge o, 3)) (ho : 0 ≤ (pc : Int) + o) (hp : ((pc : Int) + o).toNat = pc') (q : ¬ x < y) (k : Ok p l e R s m args below meth c own Z a0 EL n0 h0 ws wd Q sf h cells slots (mkF m pc' L S)) : Ok p l e R s m args below meth c own Z a0 EL n0 h0 ws wd Q sf h cells slots (mkF m pc L (.int y :: .int x :: S)) := ok_icmpge G pc' hd ho hp (fun _ => k) (fun q' => absurd q' q)
theorem ok_icmpgeN (G : Good p meth c code maxL ret nm) {pc : Nat} {L : Array Slot} {S : List Value} {x y : Int32} {o : Int} (hd : decode code pc = .ok (.if_icmp .ge o, 3)) (q : x < y) (k : Ok p l e R s m args below meth c own Z a0 EL n0 h0 ws wd Q sf h cells slots (mkF m (pc + 3) L S)) : Ok p l e R s m args below meth c own Z a0 EL n0 h0 ws wd Q sf h cells slots (mkF m pc L (.int y :: .int x :: S)) :=
  ok_step (fun T t hA k => XS.icmpNo hA G.1 rfl (hb G.2.1 hd) rfl (tlt q).2.1 k) k
theorem ok_ifgt (G : Good p meth c code maxL ret nm) {pc : Nat} {L : Array Slot} {S : List Value} {x : Int32} {o : Int} (pc' : Nat) (hd : decode code pc = .ok (.ifCond .gt o, 3)) (ho : 0 ≤ (pc : Int) + o) (hp : ((pc : Int) + o).toNat = pc') (ky : (0 : Int32) < x → Ok p l e R s m args below meth c own Z a0 EL n0 h0 ws wd Q sf h cells slots (mkF m pc' L S)) (kn : ¬ (0 : Int32) < x → Ok p l e R s m args below meth c own Z a0 EL n0 h0 ws wd Q sf h cells slots (mkF m (pc + 3) L S)) : Ok p l e R s m args below meth c own Z a0 EL n0 h0 ws wd Q sf h cells slots (mkF m pc L (.int x :: S)) := by
  by_cases q : (0 : Int32) < x
  · exact ok_step (fun T t hA k => XS.ifYes hA G.1 rfl rfl (hb G.2.1 hd) rfl ((if0 _ _).trans (tlt q).2.2.1) ho hp k) (ky q)
  · exact ok_step (fun T t hA k => XS.ifNo hA G.1 rfl (hb G.2.1 hd) rfl ((if0 _ _).trans (flt q).2.2.1) k) (kn q)
theorem ok_ifgtY (G : Good p meth c code maxL ret nm) {pc : Nat} {L : Array Slot} {S : List Value} {x : Int32} {o : Int} (pc' : Nat) (hd : decode code pc = .ok (.ifCond .gt o, 3)) (ho : 0 ≤ (pc : Int) + o) (hp : ((pc : Int) + o).toNat = pc') (q : (0 : Int32) < x) (k : Ok p l e R s m args below meth c own Z a0 EL n0 h0 ws wd Q sf h cells slots (mkF m pc' L S)) : Ok p l e R s m args below meth c own Z a0 EL n0 h0 ws wd Q sf h cells slots (mkF m pc L (.int x :: S)) := ok_ifgt G pc' hd ho hp (fun _ => k) (fun q' => absurd q q')
theorem ok_ifgtN (G : Good p meth c code maxL ret nm) {pc : Nat} {L : Array Slot} {S : List Value} {x : Int32} {o : Int} (hd : decode code pc = .ok (.ifCond .gt o, 3)) (q : ¬ (0 : Int32) < x) (k : Ok p l e R s m args below meth c own Z a0 EL n0 h0 ws wd Q sf h cells slots (mkF m (pc + 3) L S)) : Ok p l e R s m args below meth c own Z a0 EL n0 h0 ws wd Q sf h cells slots (mkF m pc L (.int x :: S)) :=
  ok_step (fun T t hA k => XS.ifNo hA G.1 rfl (hb G.2.1 hd) rfl ((if0 _ _).trans (flt q).2.2.1) k) k
theorem ok_icmpgt (G : Good p meth c code maxL ret nm) {pc : Nat} {L : Array Slot} {S : List Value} {x y : Int32} {o : Int} (pc' : Nat) (hd : decode code pc = .ok (.if_icmp .gt o, 3)) (ho : 0 ≤ (pc : Int) + o) (hp : ((pc : Int) + o).toNat = pc') (ky : y < x → Ok p l e R s m args below meth c own Z a0 EL n0 h0 ws wd Q sf h cells slots (mkF m pc' L S)) (kn : ¬ y < x → Ok p l e R s m args below meth c own Z a0 EL n0 h0 ws wd Q sf h cells slots (mkF m (pc + 3) L S)) : Ok p l e R s m args below meth c own Z a0 EL n0 h0 ws wd Q sf h cells slots (mkF m pc L (.int y :: .int x :: S)) := by
  by_cases q : y < x
  · exact ok_step (fun T t hA k => XS.icmpYes hA G.1 rfl rfl (hb G.2.1 hd) rfl (tlt q).2.2.1 ho hp k) (ky q)
  · exact ok_step (fun T t hA k => XS.icmpNo hA G.1 rfl (hb G.2.1 hd) rfl (flt q).2.2.1 k) (kn q)
theorem ok_icmpgtY (G : Good p meth c code maxL ret nm) {pc : Nat} {L : Array Slot} {S : List Value} {x y : Int32} {o : Int} (pc' : Nat) (hd : decode code pc = .ok (.if_icmp .gt o, 3)) (ho : 0 ≤ (pc : Int) + o) (hp : ((pc : Int) + o).toNat = pc') (q : y < x) (k : Ok p l e R s m args below meth c own Z a0 EL n0 h0 ws wd Q sf h cells slots (mkF m pc' L S)) : Ok p l e R s m args below meth c own Z a0 EL n0 h0 ws wd Q sf h cells slots (mkF m pc L (.int y :: .int x :: S)) := ok_icmpgt G pc' hd ho hp (fun _ => k) (fun q' => absurd q q')
theorem ok_icmpgtN (G : Good p meth c code maxL ret nm) {pc : Nat} {L : Array Slot} {S : List Value} {x y : Int32} {o : Int} (hd : decode code pc = .ok (.if_icmp .gt o, 3)) (q : ¬ y < x) (k : Ok p l e R s m args below meth c own Z a0 EL n0 h0 ws wd Q sf h cells slots (mkF m (pc + 3) L S)) : Ok p l e R s m args below meth c own Z a0 EL n0 h0 ws wd Q sf h cells slots (mkF m pc L (.int y :: .int x :: S)) :=
  ok_step (fun T t hA k => XS.icmpNo hA G.1 rfl (hb G.2.1 hd) rfl (flt q).2.2.1 k) k
theorem ok_ifle (G : Good p meth c code maxL ret nm) {pc : Nat} {L : Array Slot} {S : List Value} {x : Int32} {o : Int} (pc' : Nat) (hd : decode code pc = .ok (.ifCond .le o, 3)) (ho : 0 ≤ (pc : Int) + o) (hp : ((pc : Int) + o).toNat = pc') (ky : ¬ (0 : Int32) < x → Ok p l e R s m args below meth c own Z a0 EL n0 h0 ws wd Q sf h cells slots (mkF m pc' L S)) (kn : (0 : Int32) < x → Ok p l e R s m args below meth c own Z a0 EL n0 h0 ws wd Q sf h cells slots (mkF m (pc + 3) L S)) : Ok p l e R s m args below meth c own Z a0 EL n0 h0 ws wd Q sf h cells slots (mkF m pc L (.int x :: S)) := by
  by_cases q : (0 : Int32) < x
  · exact ok_step (fun T t hA k => XS.ifNo hA G.1 rfl (hb G.2.1 hd) rfl ((if0 _ _).trans (tlt q).2.2.2) k) (kn q)
  · exact ok_step (fun T t hA k => XS.ifYes hA G.1 rfl rfl (hb G.2.1 hd) rfl ((if0 _ _).trans (flt q).2.2.2) ho hp k) (ky q)
theorem ok_ifleY (G : Good p meth c code maxL ret nm) {pc : Nat} {L : Array Slot} {S : List Value} {x : Int32} {o : Int} (pc' : Nat) (hd : decode code pc = .ok (.ifCond .le o, 3)) (ho : 0 ≤ (pc : Int) + o) (hp : ((pc : Int) + o).toNat = pc') (q : ¬ (0 : Int32) < x) (k : Ok p l e R s m args below meth c own Z a0 EL n0 h0 ws wd Q sf h cells slots (mkF m pc' L S)) : Ok p l e R s m args below meth c own Z a0 EL n0 h0 ws wd Q sf h cells slots (mkF m pc L (.int x :: S)) := ok_ifle G pc' hd ho hp (fun _ => k) (fun q' => absurd q' q)
theorem ok_ifleN (G : Good p meth c code maxL ret nm) {pc : Nat} {L : Array Slot} {S : List Value} {x : Int32} {o : Int} (hd : decode code pc = .ok (.ifCond .le o, 3)) (q : (0 : Int32) < x) (k : Ok p l e R s m args below meth c own Z a0 EL n0 h0 ws wd Q sf h cells slots (mkF m (pc + 3) L S)) : Ok p l e R s m args below meth c own Z a0 EL n0 h0 ws wd Q sf h cells slots (mkF m pc L (.int x :: S)) :=
  ok_step (fun T t hA k => XS.ifNo hA G.1 rfl (hb G.2.1 hd) rfl ((if0 _ _).trans (tlt q).2.2.2) k) k
theorem ok_icmple (G : Good p meth c code maxL ret nm) {pc : Nat} {L : Array Slot} {S : List Value} {x y : Int32} {o : Int} (pc' : Nat) (hd : decode code pc = .ok (.if_icmp .le o, 3)) (ho : 0 ≤ (pc : Int) + o) (hp : ((pc : Int) + o).toNat = pc') (ky : ¬ y < x → Ok p l e R s m args below meth c own Z a0 EL n0 h0 ws wd Q sf h cells slots (mkF m pc' L S)) (kn : y < x → Ok p l e R s m args below meth c own Z a0 EL n0 h0 ws wd Q sf h cells slots (mkF m (pc + 3) L S)) : Ok p l e R s m args below meth c own Z a0 EL n0 h0 ws wd Q sf h cells slots (mkF m pc L (.int y :: .int x :: S)) := by
  by_cases q : y < x
  · exact ok_step (fun T t hA k => XS.icmpNo hA G.1 rfl (hb G.2.1 hd) rfl (tlt q).2.2.2 k) (kn q)
  · exact ok_step (fun T t hA k => XS.icmpYes hA G.1 rfl rfl (hb G.2.1 hd) rfl (flt q).2.2.2 ho hp k) (ky q)
theorem ok_icmpleY (G : Good p meth c code maxL ret nm) {pc : Nat} {L : Array Slot} {S : List Value} {x y : Int32} {o : Int} (pc' : Nat) (hd : decode code pc = .ok (.if_icmp .le o, 3)) (ho : 0 ≤ (pc : Int) + o) (hp : ((pc : Int) + o).toNat = pc') (q : ¬ y < x) (k : Ok p l e R s m args below meth c own Z a0 EL n0 h0 ws wd Q sf h cells slots (mkF m pc' L S)) : Ok p l e R s m args below meth c own Z a0 EL n0 h0 ws wd Q sf h cells slots (mkF m pc L (.int y :: .int x :: S)) := ok_icmple G pc' hd ho hp (fun _ => k) (fun q' => absurd q' q)
theorem ok_icmpleN (G : Good p meth c code maxL ret nm) {pc : Nat} {L : Array Slot} {S : List Value} {x y : Int32} {o : Int} (hd : decode code pc = .ok (.if_icmp .le o, 3)) (q : y < x) (k : Ok p l e R s m args below meth c own Z a0 EL n0 h0 ws wd Q sf h cells slots (mkF m (pc + 3) L S)) : Ok p l e R s m args below meth c own Z a0 EL n0 h0 ws wd Q sf h cells slots (mkF m pc L (.int y :: .int x :: S)) :=
  ok_step (fun T t hA k => XS.icmpNo hA G.1 rfl (hb G.2.1 hd) rfl (tlt q).2.2.2 k) k
theorem ok_ifnullY (G : Good p meth c code maxL ret nm) {pc : Nat} {L : Array Slot} {S : List Value} {o : Int} (pc' : Nat) (hd : decode code pc = .ok (.ifnull o, 3)) (ho : 0 ≤ (pc : Int) + o) (hp : ((pc : Int) + o).toNat = pc') (k : Ok p l e R s m args below meth c own Z a0 EL n0 h0 ws wd Q sf h cells slots (mkF m pc' L S)) : Ok p l e R s m args below meth c own Z a0 EL n0 h0 ws wd Q sf h cells slots (mkF m pc L (.null :: S)) := ok_step (fun T t hA k => XS.ifnullYes hA G.1 rfl rfl (hb G.2.1 hd) rfl ho hp k) k
theorem ok_ifnullN (G : Good p meth c code maxL ret nm) {pc : Nat} {L : Array Slot} {S : List Value} {o : Int} {b : Addr} (hd : decode code pc = .ok (.ifnull o, 3)) (k : Ok p l e R s m args below meth c own Z a0 EL n0 h0 ws wd Q sf h cells slots (mkF m (pc + 3) L S)) : Ok p l e R s m args below meth c own Z a0 EL n0 h0 ws wd Q sf h cells slots (mkF m pc L (.ref b :: S)) := ok_step (fun T t hA k => XS.ifnullNo hA G.1 rfl (hb G.2.1 hd) rfl k) k
theorem ok_ifnonnullY (G : Good p meth c code maxL ret nm) {pc : Nat} {L : Array Slot} {S : List Value} {o : Int} {b : Addr} (pc' : Nat) (hd : decode code pc = .ok (.ifnonnull o, 3)) (ho : 0 ≤ (pc : Int) + o) (hp : ((pc : Int) + o).toNat = pc') (k : Ok p l e R s m args below meth c own Z a0 EL n0 h0 ws wd Q sf h cells slots (mkF m pc' L S)) : Ok p l e R s m args below meth c own Z a0 EL n0 h0 ws wd Q sf h cells slots (mkF m pc L (.ref b :: S)) := ok_step (fun T t hA k => XS.ifnonnullYes hA G.1 rfl rfl (hb G.2.1 hd) rfl ho hp k) k
theorem ok_ifnonnullN (G : Good p meth c code maxL ret nm) {pc : Nat} {L : Array Slot} {S : List Value} {o : Int} (hd : decode code pc = .ok (.ifnonnull o, 3)) (k : Ok p l e R s m args below meth c own Z a0 EL n0 h0 ws wd Q sf h cells slots (mkF m (pc + 3) L S)) : Ok p l e R s m args below meth c own Z a0 EL n0 h0 ws wd Q sf h cells slots (mkF m pc L (.null :: S)) := ok_step (fun T t hA k => XS.ifnonnullNo hA G.1 rfl (hb G.2.1 hd) rfl k) k
theorem ok_acmp (G : Good p meth c code maxL ret nm) {pc : Nat} {L : Array Slot} {S : List Value} {o : Int} {cd : ClassFile.ACond} {v w : Value} (same : Bool) (pc' : Nat) (hd : decode code pc = .ok (.if_acmp cd o, 3)) (h1 : v.isRef = true) (h2 : w.isRef = true) (hq : decide (v = w) = same) (ho : 0 ≤ (pc : Int) + o) (hp : pc' = if acV cd same = true then ((pc : Int) + o).toNat else pc + 3) (k : Ok p l e R s m args below meth c own Z a0 EL n0 h0 ws wd Q sf h cells slots (mkF m pc' L S)) : Ok p l e R s m args below meth c own Z a0 EL n0 h0 ws wd Q sf h cells slots (mkF m pc L (w :: v :: S)) :=
  ok_stepT (fun vm T locs X e0 hZ hown O => ⟨T, X, e0, fun t k => Jvm.RoadKit.acmp X G.1 rfl h1 h2 rfl (hb G.2.1 hd) rfl hq ho hp k⟩) k
theorem ok_ldcI (G : Good p meth c code maxL ret nm) {pc : Nat} {L : Array Slot} {S : List Value} {i : Nat} {v : Int32} (w : (Jvm.Cond.constant own i v).before a0 Z = true) (hd : decode code pc = .ok (.ldc i, 2)) (k : Ok p l e R s m args below meth c own Z a0 EL n0 h0 ws wd Q sf h cells slots (mkF m (pc + 2) L (.int v :: S))) : Ok p l e R s m args below meth c own Z a0 EL n0 h0 ws wd Q sf h cells slots (mkF m pc L S) :=
  ok_stepT (fun vm T locs X e0 hZ hown O => ⟨T, X, e0, fun t k => X.ldcInt G.1 hown (mvT (s := s.setVm vm) hZ w) (g := mkF m pc L S) rfl (hb G.2.1 hd) t k⟩) k
theorem ok_ldcJ (G : Good p meth c code maxL ret nm) {pc : Nat} {L : Array Slot} {S : List Value} {i : Nat} {v : Int64} (w : (Jvm.Cond.constantLong own i v).before a0 Z = true) (hd : decode code pc = .ok (.ldc2_w i, 3)) (k : Ok p l e R s m args below meth c own Z a0 EL n0 h0 ws wd Q sf h cells slots (mkF m (pc + 3) L (.long v :: S))) : Ok p l e R s m args below meth c own Z a0 EL n0 h0 ws wd Q sf h cells slots (mkF m pc L S) :=
  ok_stepT (fun vm T locs X e0 hZ hown O => ⟨T, X, e0, fun t k => X.ldc2Long G.1 hown (mvT (s := s.setVm vm) hZ w) (g := mkF m pc L S) rfl (hb G.2.1 hd) t k⟩) k
theorem ok_nameI {pc : Nat} {L : Array Slot} {S : List Value} {x : Int32} (k : ∀ z, z = x → Ok p l e R s m args below meth c own Z a0 EL n0 h0 ws wd Q sf h cells slots (mkF m pc L (.int z :: S))) : Ok p l e R s m args below meth c own Z a0 EL n0 h0 ws wd Q sf h cells slots (mkF m pc L (.int x :: S)) := k x rfl
theorem ok_nameJ {pc : Nat} {L : Array Slot} {S : List Value} {x : Int64} (k : ∀ z, z = x → Ok p l e R s m args below meth c own Z a0 EL n0 h0 ws wd Q sf h cells slots (mkF m pc L (.long z :: S))) : Ok p l e R s m args below meth c own Z a0 EL n0 h0 ws wd Q sf h cells slots (mkF m pc L (.long x :: S)) := k x rfl
theorem ok_sayI {pc : Nat} {L : Array Slot} {S : List Value} {x : Int32} (z : Int32) (q : x = z) (k : Ok p l e R s m args below meth c own Z a0 EL n0 h0 ws wd Q sf h cells slots (mkF m pc L (.int z :: S))) : Ok p l e R s m args below meth c own Z a0 EL n0 h0 ws wd Q sf h cells slots (mkF m pc L (.int x :: S)) := q ▸ k
theorem ok_sayJ {pc : Nat} {L : Array Slot} {S : List Value} {x : Int64} (z : Int64) (q : x = z) (k : Ok p l e R s m args below meth c own Z a0 EL n0 h0 ws wd Q sf h cells slots (mkF m pc L (.long z :: S))) : Ok p l e R s m args below meth c own Z a0 EL n0 h0 ws wd Q sf h cells slots (mkF m pc L (.long x :: S)) := q ▸ k
end Plain
end Jvm.Pilot.@@N@@.Own
namespace Jvm.Pilot.@@N@@.Own
open Jvm Jvm.ClassFile Sem Op Lib Jvm.Free Jvm.Stand Jvm.LawKit Jvm.RoadKit Bundle
section Heaps
variable {p : Program} {l : Launch} {e : Env} {R : Room} {s : State} {m : MethodId} {args : Array Value} {below : List Frame} {meth : Method} {c : Code}
  {own : String} {Z : State} {a0 : Array Value} {EL : List (String × Nat)} {n0 : Nat} {h0 : Heap} {ws : List Addr} {wd : Bool} {Q : Option Value → Heap → Prop}
  {sf : List Addr} {h : Heap} {cells slots : Nat} {code : ByteArray} {maxL : Nat} {ret : Option FieldType} {nm : String} {a : Addr}
theorem ok_getF (G : Good p meth c code maxL ret nm) {pc : Nat} {L : Array Slot} {S : List Value} {R0 O n d host : String} {index : Nat} (w : (Jvm.Cond.fieldLink own index R0 n d).before a0 Z = true ∨ (Jvm.Cond.fieldLinkNest own index R0 n d host).before a0 Z = true) (via : Via Z R0 O n d) {v : Value} (F : Fld Z h a O n d v) (hd : decode code pc = .ok (.getfield index, 3))
    (k : Ok p l e R s m args below meth c own Z a0 EL n0 h0 ws wd Q sf h cells slots (mkF m (pc + 3) L (v :: S))) : Ok p l e R s m args below meth c own Z a0 EL n0 h0 ws wd Q sf h cells slots (mkF m pc L (.ref a :: S)) :=
  ok_stepT (fun vm T locs X e0 hZ hown O => getF X G.1 hZ hown w via e0 F (g := mkF m pc L (.ref a :: S)) rfl rfl (hb G.2.1 hd)) k
theorem ok_getS (G : Good p meth c code maxL ret nm) {pc : Nat} {L : Array Slot} {S : List Value} {R0 O n d host : String} {index : Nat} (w : (Jvm.Cond.fieldLink own index R0 n d).before a0 Z = true ∨ (Jvm.Cond.fieldLinkNest own index R0 n d host).before a0 Z = true) (via : Via Z R0 O n d) {v : Value} (F : Sta Z Z.heap O n d v) (hd : decode code pc = .ok (.getstatic index, 3))
    (k : Ok p l e R s m args below meth c own Z a0 EL n0 h0 ws wd Q sf h cells slots (mkF m (pc + 3) L (v :: S))) : Ok p l e R s m args below meth c own Z a0 EL n0 h0 ws wd Q sf h cells slots (mkF m pc L S) :=
  ok_stepT (fun vm T locs X e0 hZ hown O' => getS2 X G.1 hZ hown w via e0 (F.ext O'.2) (g := mkF m pc L S) rfl (hb G.2.1 hd)) k
theorem ok_putF (G : Good p meth c code maxL ret nm) {pc : Nat} {L : Array Slot} {S : List Value} {R0 O n d host C : String} {index kk : Nat} {ty : FieldType} (w : (Jvm.Cond.fieldLink own index R0 n d).before a0 Z = true ∨ (Jvm.Cond.fieldLinkNest own index R0 n d host).before a0 Z = true) (via : Via Z R0 O n d) {v old : Value} (F : Fld Z h a O n d old) (E : Exa Z h a C)
    (Lw : (Jvm.Cond.lays C O n d).before a0 Z = true ∨ ((Jvm.Cond.laysFinal C O n d).before a0 Z = true ∧ own = O ∧ nm = "<init>")) (wi : (Jvm.Cond.instantiable C kk).before a0 Z = true) (hty : parseFieldDescriptor d = some ty) (hn : narrow ty v = v) (hf : fits ty v = true) (hd : decode code pc = .ok (.putfield index, 3))
    (hg : n0 ≤ a) (hw : a ∈ ws ∨ h0.size ≤ a) (hs : SafeFor wd Z EL sf h a)
    (k : ∀ h', Keep h h' [a] → Wr h h' a (Jvm.RoadKit.slotOf Z O n d) v → Fld Z h' a O n d v → Ok p l e R s m args below meth c own Z a0 EL n0 h0 ws wd Q sf h' cells slots (mkF m (pc + 3) L S)) : Ok p l e R s m args below meth c own Z a0 EL n0 h0 ws wd Q sf h cells slots (mkF m pc L (v :: .ref a :: S)) :=
  ok_stepW hg hw hs (fun vm T locs X e0 hZ hown O => putF X G.1 hZ hown w via e0 F E (Lw.imp id fun q => ⟨q.1, q.2.1, G.2.2.2.2.2.trans q.2.2⟩) wi hty hn hf (g := mkF m pc L (v :: .ref a :: S)) rfl rfl (hb G.2.1 hd)) (fun h' K W => k h' K W (F.same W))
theorem ok_new (G : Good p meth c code maxL ret nm) {pc : Nat} {L : Array Slot} {S : List Value} {C : String} {index n : Nat} (w : (Jvm.Cond.classLink own index C).before a0 Z = true) (wi : (Jvm.Cond.instantiable C n).before a0 Z = true) (wz : (Jvm.Cond.initialized C).before a0 Z = true) (hd : decode code pc = .ok (.new index, 3)) (hc : cells + 1 ≤ R.cells) (hl : slots + n ≤ R.slots)
    (k : ∀ h' a, a = h.size → Keep h h' [] → n0 ≤ a → h0.size ≤ a → Exa Z h' a C → (∀ (O nm d : String) (ty : FieldType), Laid Z a0 C O nm d → parseFieldDescriptor d = some ty → Fld Z h' a O nm d (defaultValue ty)) → Ok p l e R s m args below meth c own Z a0 EL n0 h0 ws wd Q (a :: sf) h' (cells + 1) (slots + n) (mkF m (pc + 3) L (.ref a :: S))) :
    Ok p l e R s m args below meth c own Z a0 EL n0 h0 ws wd Q sf h cells slots (mkF m pc L S) :=
  ok_stepE (sf' := h.size :: sf) (P := fun h' => Exa Z h' h.size C ∧ ∀ (O nm d : String) (ty : FieldType), Laid Z a0 C O nm d → parseFieldDescriptor d = some ty → Fld Z h' h.size O nm d (defaultValue ty)) (fun x hx => (List.mem_cons.mp hx).elim Or.inr Or.inl)
    (fun vm T locs X e0 hZ hown O => by
      obtain ⟨T', h', X', e1, E, A, D, -, st⟩ := newO X G.1 hZ hown w wi wz e0 (g := mkF m pc L S) rfl (hb G.2.1 hd) hc hl
      exact ⟨T', h', X', e1, E, A.lt, ⟨A, fun O nm d ty q1 q2 => D q1 q2⟩, st⟩) (fun h' K q1 q2 P => k h' h.size rfl K q1 q2 P.1 P.2)
theorem ok_newP (G : Good p meth c code maxL ret nm) {pc : Nat} {L : Array Slot} {S : List Value} {aty : ArrayType} {n : Int32} (w : (Jvm.Cond.arrayClass (newarray.typeOf aty)).before a0 Z = true) (hd : decode code pc = .ok (.newarray aty, 2)) (hn : ¬ n < 0) (cap : Nat) (hcap : n.toNatClampNeg ≤ cap) (hbig : cap * 8 ≤ 536870912) (hc : cells + 1 ≤ R.cells) (hl : slots + cap ≤ R.slots)
    (k : ∀ h' a kA, a = h.size → Keep h h' [] → n0 ≤ a → h0.size ≤ a → Arv Z h' a kA (newarray.typeOf aty) n [] (defaultValue (newarray.typeOf aty)) → Ok p l e R s m args below meth c own Z a0 EL n0 h0 ws wd Q (a :: sf) h' (cells + 1) (slots + cap) (mkF m (pc + 2) L (.ref a :: S))) :
    Ok p l e R s m args below meth c own Z a0 EL n0 h0 ws wd Q sf h cells slots (mkF m pc L (.int n :: S)) :=
  ok_stepE (sf' := h.size :: sf) (P := fun h' => ∃ kA, Arv Z h' h.size kA (newarray.typeOf aty) n [] (defaultValue (newarray.typeOf aty))) (fun x hx => (List.mem_cons.mp hx).elim Or.inr Or.inl)
    (fun vm T locs X e0 hZ hown O => by
      obtain ⟨T', h', kA, X', e1, E, A, st⟩ := newP X G.1 hZ w e0 (g := mkF m pc L (.int n :: S)) rfl (hb G.2.1 hd) rfl hn hcap hbig hc hl
      exact ⟨T', h', X', e1, E, A.lt, ⟨kA, Arv.new A hn⟩, st⟩) (fun h' K q1 q2 P => by obtain ⟨kA, P⟩ := P; exact k h' h.size kA rfl K q1 q2 P)
theorem ok_castore (G : Good p meth c code maxL ret nm) {pc : Nat} {L : Array Slot} {S : List Value} {kA : ClassId} {z j : Int32} {x : Int32} (x' : Int32) {vs : List Value} {dv : Value} (i : Nat) (F : Arv Z h a kA .char z vs dv) (hj : ¬ j < 0 ∧ j < z) (hi : j.toNatClampNeg = i) (hi' : i < vs.length) (hv : nar .char x = x') (hd : decode code pc = .ok (.castore, 1))
    (hg : n0 ≤ a) (hw : a ∈ ws ∨ h0.size ≤ a) (hs : SafeFor wd Z EL sf h a)
    (k : ∀ h', Keep h h' [a] → Arv Z h' a kA .char z (vs.set i (.int x')) dv → Ok p l e R s m args below meth c own Z a0 EL n0 h0 ws wd Q sf h' cells slots (mkF m (pc + 1) L S)) : Ok p l e R s m args below meth c own Z a0 EL n0 h0 ws wd Q sf h cells slots (mkF m pc L (.int x :: .int j :: .ref a :: S)) := by
  subst hv
  obtain ⟨cl, A, q, Sz, N, H, U⟩ := F
  exact ok_stepW hg hw hs (fun vm T locs X e0 hZ hown O => stC X G.1 hZ e0 A (inb_of Sz hj) (g := mkF m pc L (.int x :: .int j :: .ref a :: S)) rfl rfl (hb G.2.1 hd)) (fun h' K W => k h' K (Arv.set A q Sz N H U (fits_nar_char _) W i hi hi'))
theorem ok_bastore (G : Good p meth c code maxL ret nm) {pc : Nat} {L : Array Slot} {S : List Value} {kA : ClassId} {z j : Int32} {x : Int32} (x' : Int32) {vs : List Value} {dv : Value} (i : Nat) (F : Arv Z h a kA .byte z vs dv) (hj : ¬ j < 0 ∧ j < z) (hi : j.toNatClampNeg = i) (hi' : i < vs.length) (hv : nar .byte x = x') (hd : decode code pc = .ok (.bastore, 1))
    (hg : n0 ≤ a) (hw : a ∈ ws ∨ h0.size ≤ a) (hs : SafeFor wd Z EL sf h a)
    (k : ∀ h', Keep h h' [a] → Arv Z h' a kA .byte z (vs.set i (.int x')) dv → Ok p l e R s m args below meth c own Z a0 EL n0 h0 ws wd Q sf h' cells slots (mkF m (pc + 1) L S)) : Ok p l e R s m args below meth c own Z a0 EL n0 h0 ws wd Q sf h cells slots (mkF m pc L (.int x :: .int j :: .ref a :: S)) := by
  subst hv
  obtain ⟨cl, A, q, Sz, N, H, U⟩ := F
  exact ok_stepW hg hw hs (fun vm T locs X e0 hZ hown O => stB X G.1 hZ e0 A (inb_of Sz hj) (g := mkF m pc L (.int x :: .int j :: .ref a :: S)) rfl rfl (hb G.2.1 hd)) (fun h' K W => k h' K (Arv.set A q Sz N H U (fits_nar_byte _) W i hi hi'))
theorem ok_iastore (G : Good p meth c code maxL ret nm) {pc : Nat} {L : Array Slot} {S : List Value} {kA : ClassId} {z j : Int32} {x : Int32} {vs : List Value} {dv : Value} (i : Nat) (F : Arv Z h a kA .int z vs dv) (hj : ¬ j < 0 ∧ j < z) (hi : j.toNatClampNeg = i) (hi' : i < vs.length) (hd : decode code pc = .ok (.iastore, 1))
    (hg : n0 ≤ a) (hw : a ∈ ws ∨ h0.size ≤ a) (hs : SafeFor wd Z EL sf h a)
    (k : ∀ h', Keep h h' [a] → Arv Z h' a kA .int z (vs.set i (.int x)) dv → Ok p l e R s m args below meth c own Z a0 EL n0 h0 ws wd Q sf h' cells slots (mkF m (pc + 1) L S)) : Ok p l e R s m args below meth c own Z a0 EL n0 h0 ws wd Q sf h cells slots (mkF m pc L (.int x :: .int j :: .ref a :: S)) := by
  skip
  obtain ⟨cl, A, q, Sz, N, H, U⟩ := F
  exact ok_stepW hg hw hs (fun vm T locs X e0 hZ hown O => stI X G.1 hZ e0 A (inb_of Sz hj) (g := mkF m pc L (.int x :: .int j :: .ref a :: S)) rfl rfl (hb G.2.1 hd)) (fun h' K W => k h' K (Arv.set A q Sz N H U rfl W i hi hi'))
theorem ok_caload (G : Good p meth c code maxL ret nm) {pc : Nat} {L : Array Slot} {S : List Value} {kA : ClassId} {z j : Int32} {vs : List Value} {dv : Value} (v : Int32) (F : Arv Z h a kA .char z vs dv) (hj : ¬ j < 0 ∧ j < z) (hv : vs.getD j.toNatClampNeg dv = .int v) (hd : decode code pc = .ok (.caload, 1))
    (k : Ok p l e R s m args below meth c own Z a0 EL n0 h0 ws wd Q sf h cells slots (mkF m (pc + 1) L (.int v :: S))) : Ok p l e R s m args below meth c own Z a0 EL n0 h0 ws wd Q sf h cells slots (mkF m pc L (.int j :: .ref a :: S)) := by
  obtain ⟨cl, A, q, Sz, N, H, U⟩ := F
  exact ok_stepT (fun vm T locs X e0 hZ hown O => ⟨T, X, e0, fun t k => X.caload G.1 (j := j) (v := .int v) (by rw [e0]; exact A.1) (State.isArrayOf_alike hZ.alike A.2.1) A.2.2 (inb_of Sz hj) (H.at (inb_of Sz hj) hv) (g := mkF m pc L (.int j :: .ref a :: S)) rfl rfl (hb G.2.1 hd) t k⟩) k
theorem ok_baload (G : Good p meth c code maxL ret nm) {pc : Nat} {L : Array Slot} {S : List Value} {kA : ClassId} {z j : Int32} {vs : List Value} {dv : Value} (v : Int32) (F : Arv Z h a kA .byte z vs dv) (hj : ¬ j < 0 ∧ j < z) (hv : vs.getD j.toNatClampNeg dv = .int v) (hd : decode code pc = .ok (.baload, 1))
    (k : Ok p l e R s m args below meth c own Z a0 EL n0 h0 ws wd Q sf h cells slots (mkF m (pc + 1) L (.int v :: S))) : Ok p l e R s m args below meth c own Z a0 EL n0 h0 ws wd Q sf h cells slots (mkF m pc L (.int j :: .ref a :: S)) := by
  obtain ⟨cl, A, q, Sz, N, H, U⟩ := F
  exact ok_stepT (fun vm T locs X e0 hZ hown O => ⟨T, X, e0, fun t k => X.baloadBytes G.1 (j := j) (v := .int v) (by rw [e0]; exact A.1) (State.isArrayOf_alike hZ.alike A.2.1) A.2.2 (inb_of Sz hj) (H.at (inb_of Sz hj) hv) (g := mkF m pc L (.int j :: .ref a :: S)) rfl rfl (hb G.2.1 hd) t k⟩) k
theorem ok_iaload (G : Good p meth c code maxL ret nm) {pc : Nat} {L : Array Slot} {S : List Value} {kA : ClassId} {z j : Int32} {vs : List Value} {dv : Value} (v : Int32) (F : Arv Z h a kA .int z vs dv) (hj : ¬ j < 0 ∧ j < z) (hv : vs.getD j.toNatClampNeg dv = .int v) (hd : decode code pc = .ok (.iaload, 1))
    (k : Ok p l e R s m args below meth c own Z a0 EL n0 h0 ws wd Q sf h cells slots (mkF m (pc + 1) L (.int v :: S))) : Ok p l e R s m args below meth c own Z a0 EL n0 h0 ws wd Q sf h cells slots (mkF m pc L (.int j :: .ref a :: S)) := by
  obtain ⟨cl, A, q, Sz, N, H, U⟩ := F
  exact ok_stepT (fun vm T locs X e0 hZ hown O => ⟨T, X, e0, fun t k => X.iaload G.1 (j := j) (v := .int v) (by rw [e0]; exact A.1) (State.isArrayOf_alike hZ.alike A.2.1) A.2.2 (inb_of Sz hj) (H.at (inb_of Sz hj) hv) (g := mkF m pc L (.int j :: .ref a :: S)) rfl rfl (hb G.2.1 hd) t k⟩) k
theorem ok_arraylength (G : Good p meth c code maxL ret nm) {pc : Nat} {L : Array Slot} {S : List Value} {kA : ClassId} {ty : FieldType} {z : Int32} {vs : List Value} {dv : Value} (F : Arv Z h a kA ty z vs dv) (hd : decode code pc = .ok (.arraylength, 1))
    (k : Ok p l e R s m args below meth c own Z a0 EL n0 h0 ws wd Q sf h cells slots (mkF m (pc + 1) L (.int z :: S))) : Ok p l e R s m args below meth c own Z a0 EL n0 h0 ws wd Q sf h cells slots (mkF m pc L (.ref a :: S)) := by
  obtain ⟨cl, A, q, Sz, N, H, U⟩ := F
  exact ok_stepT (fun vm T locs X e0 hZ hown O => ⟨T, X, e0, fun t k => X.arraylength G.1 (by rw [e0]; exact A.1) (State.isArrayOf_alike hZ.alike A.2.1) (g := mkF m pc L (.ref a :: S)) rfl rfl (hb G.2.1 hd) t (by rw [len_of Sz N]; exact k)⟩) k
theorem ok_checkcast (G : Good p meth c code maxL ret nm) {pc : Nat} {L : Array Slot} {S : List Value} {K : String} {index : Nat} (w : (Jvm.Cond.classLink own index K).before a0 Z = true) (F : Ins Z h a K true) (hd : decode code pc = .ok (.checkcast index, 3))
    (k : Ok p l e R s m args below meth c own Z a0 EL n0 h0 ws wd Q sf h cells slots (mkF m (pc + 3) L (.ref a :: S))) : Ok p l e R s m args below meth c own Z a0 EL n0 h0 ws wd Q sf h cells slots (mkF m pc L (.ref a :: S)) :=
  ok_stepT (fun vm T locs X e0 hZ hown O => castY X G.1 hZ hown w e0 F (g := mkF m pc L (.ref a :: S)) rfl rfl (hb G.2.1 hd)) k
theorem ok_instanceof (G : Good p meth c code maxL ret nm) {pc : Nat} {L : Array Slot} {S : List Value} {K : String} {index : Nat} (w : (Jvm.Cond.classLink own index K).before a0 Z = true) (F : Ins Z h a K true) (hd : decode code pc = .ok (.instanceof index, 3))
    (k : Ok p l e R s m args below meth c own Z a0 EL n0 h0 ws wd Q sf h cells slots (mkF m (pc + 3) L (.int 1 :: S))) : Ok p l e R s m args below meth c own Z a0 EL n0 h0 ws wd Q sf h cells slots (mkF m pc L (.ref a :: S)) :=
  ok_stepT (fun vm T locs X e0 hZ hown O => instY X G.1 hZ hown w e0 F (g := mkF m pc L (.ref a :: S)) rfl rfl (hb G.2.1 hd)) k
theorem ok_instanceofNo (G : Good p meth c code maxL ret nm) {pc : Nat} {L : Array Slot} {S : List Value} {K C : String} {index : Nat} (w : (Jvm.Cond.classLink own index K).before a0 Z = true) (E : Exa Z h a C) (F : ∃ c t, Z.vm.findClass C = some c ∧ Z.vm.findClass K = some t ∧ Z.vm.assignable c t = false) (hd : decode code pc = .ok (.instanceof index, 3))
    (k : Ok p l e R s m args below meth c own Z a0 EL n0 h0 ws wd Q sf h cells slots (mkF m (pc + 3) L (.int 0 :: S))) : Ok p l e R s m args below meth c own Z a0 EL n0 h0 ws wd Q sf h cells slots (mkF m pc L (.ref a :: S)) :=
  ok_stepT (fun vm T locs X e0 hZ hown O => instNo X G.1 hZ hown w e0 E F (g := mkF m pc L (.ref a :: S)) rfl rfl (hb G.2.1 hd)) k
theorem ok_checkcastNull (G : Good p meth c code maxL ret nm) {pc : Nat} {L : Array Slot} {S : List Value} {index : Nat} (hd : decode code pc = .ok (.checkcast index, 3)) (k : Ok p l e R s m args below meth c own Z a0 EL n0 h0 ws wd Q sf h cells slots (mkF m (pc + 3) L (.null :: S))) : Ok p l e R s m args below meth c own Z a0 EL n0 h0 ws wd Q sf h cells slots (mkF m pc L (.null :: S)) :=
  ok_stepT (fun vm T locs X e0 hZ hown O => ⟨T, X, e0, fun t k => X.checkcastNull G.1 (g := mkF m pc L (.null :: S)) rfl rfl (hb G.2.1 hd) t k⟩) k
theorem ok_instanceofNull (G : Good p meth c code maxL ret nm) {pc : Nat} {L : Array Slot} {S : List Value} {index : Nat} (hd : decode code pc = .ok (.instanceof index, 3)) (k : Ok p l e R s m args below meth c own Z a0 EL n0 h0 ws wd Q sf h cells slots (mkF m (pc + 3) L (.int 0 :: S))) : Ok p l e R s m args below meth c own Z a0 EL n0 h0 ws wd Q sf h cells slots (mkF m pc L (.null :: S)) :=
  ok_stepT (fun vm T locs X e0 hZ hown O => ⟨T, X, e0, fun t k => X.instanceofNull G.1 (g := mkF m pc L (.null :: S)) rfl rfl (hb G.2.1 hd) t k⟩) k
theorem ok_initO (G : Good p meth c code maxL ret nm) {pc : Nat} {L : Array Slot} {S : List Value} {idx : Nat} (w1 : (Jvm.Cond.methodLink own idx Lib.objectInit).before a0 Z = true) (w2 : (Jvm.Cond.instanceMethod Lib.objectInit).before a0 Z = true) (w3 : (Jvm.Cond.code Lib.objectInit ⟨#[0xb1]⟩ 1 none).before a0 Z = true) (hsz : L.size = maxL) (hd : decode code pc = .ok (.invokespecial idx, 3)) (hf : 1 ≤ R.frames) (hl : (S.map fun v => v.category).sum + 12 ≤ R.locals)
    (k : Ok p l e R s m args below meth c own Z a0 EL n0 h0 ws wd Q sf h cells slots (mkF m (pc + 3) L S)) : Ok p l e R s m args below meth c own Z a0 EL n0 h0 ws wd Q sf h cells slots (mkF m pc L (.ref a :: S)) :=
  ok_stepT (fun vm T locs X e0 hZ hown O => initO X G.1 hZ hown w1 w2 w3 e0 (g := mkF m pc L (.ref a :: S)) rfl (by rw [G.2.2.1]; exact hsz) rfl (hb G.2.1 hd) hf (W := (S.map fun v => v.category).sum) (by show 2 * 0 + _ ≤ _; omega) hl) k
/-- behind a call that interned nothing -/
theorem ok_stepC {gn : Option Value → JFrame} {g : JFrame} {rc rs : Nat} {ws' : List Addr} {Q' : Option Value → Heap → Prop} (hws : ∀ x ∈ ws', (x ∈ ws ∨ h0.size ≤ x) ∧ SafeFor wd Z EL sf h x)
    (st : ∀ vm T locs, Stand p l e R (s.setVm vm) m args below meth c T locs cells slots → T.heap = h → Z.Warmed39 vm → vm.findClass own = some m.cls → Old Z n0 h →
      ∃ v T' L, Stand p l e R (s.setVm vm) m args below meth c T' (locs ++ L) (cells + rc) (slots + rs) ∧ (Fr n0 L ∧ Old Z n0 T'.heap ∧ Keep h T'.heap ws' ∧ Q' v T'.heap) ∧ ∀ target, Steps p.tables e below (T'.setTop (gn v)) target → Steps p.tables e below (T.setTop g) target)
    (k : ∀ v h', Keep h h' ws' → Q' v h' → Ok p l e R s m args below meth c own Z a0 EL n0 h0 ws wd Q sf h' (cells + rc) (slots + rs) (gn v)) : Ok p l e R s m args below meth c own Z a0 EL n0 h0 ws wd Q sf h cells slots g := by
  intro vm T locs W
  obtain ⟨X, e0, hZ, hown, hS, hh, N, O, K, r, r'⟩ := W
  obtain ⟨v, T', Ls, X', ⟨N', O', K', q⟩, st'⟩ := st vm T locs X e0 hZ hown O
  obtain ⟨s₂, o, h1, h2⟩ := k v T'.heap K' q vm T' _ ⟨X', rfl, hZ, hown, ⟨hS.1, hS.2.mono K'.1⟩, hh, N.app N', O', K.trans K' (fun x hx => (hws x hx).1), r, fun w => by
    obtain ⟨hE, hC, hs⟩ := r' w
    have hsw : ∀ x ∈ ws', Safe Z EL vm h x := fun x hx => ((hws x hx).2 w).elim (fun z => (hs x z).2) (fun z => z vm hZ.alike)
    exact ⟨hE, hC.trans (CHr.keep K' hsw hC.1), fun x hx => ⟨Nat.lt_of_lt_of_le (hs x hx).1 K'.1, Safe.keep K' hsw hC.1 (hs x hx).2⟩⟩⟩
  exact ⟨s₂, o, st' s₂ h1, h2⟩
/-- behind a step that may have interned -/
theorem ok_stepCW {gn : Option Value → JFrame} {g : JFrame} {rc rs : Nat} {ws' : List Addr} {Q' : Option Value → Heap → Vm → Prop} (hwd : wd = true) (hws : ∀ x ∈ ws', x ∈ ws ∨ h0.size ≤ x)
    (st : ∀ vm T locs, Stand p l e R (s.setVm vm) m args below meth c T locs cells slots → T.heap = h → Z.Warmed39 vm → vm.findClass own = some m.cls → s.Since vm h.size → Old Z n0 h → EW Z a0 EL → CHv Z EL vm h →
      ∃ v T' L, Stand p l e R (s.setVm T'.vm) m args below meth c T' (locs ++ L) (cells + rc) (slots + rs) ∧ s.Since T'.vm T'.heap.size ∧ Z.Warmed39 T'.vm ∧ T'.vm.findClass own = some m.cls ∧ CHr Z EL vm h T'.vm T'.heap ∧ (Fr n0 L ∧ Old Z n0 T'.heap ∧ Keep h T'.heap ws' ∧ Q' v T'.heap T'.vm) ∧ ∀ target, Steps p.tables e below (T'.setTop (gn v)) target → Steps p.tables e below (T.setTop g) target)
    (k : ∀ v h' vm', Keep h h' ws' → (∀ x ∈ sf, Safe Z EL vm' h' x) → Q' v h' vm' → Ok p l e R s m args below meth c own Z a0 EL n0 h0 ws wd Q sf h' (cells + rc) (slots + rs) (gn v)) : Ok p l e R s m args below meth c own Z a0 EL n0 h0 ws wd Q sf h cells slots g := by
  intro vm T locs W
  obtain ⟨X, e0, hZ, hown, hS, hh, N, O, K, r, r'⟩ := W
  obtain ⟨hE, hC, hs⟩ := r' hwd
  obtain ⟨v, T', Ls, X', hS', hZ', hown', hR, ⟨N', O', K', q⟩, st'⟩ := st vm T locs X e0 hZ hown hS O hE hC.1
  have hs' : ∀ x ∈ sf, x < T'.heap.size ∧ Safe Z EL T'.vm T'.heap x := fun x hx => ⟨Nat.lt_of_lt_of_le (hs x hx).1 K'.1, hR.safe (hs x hx).1 (hs x hx).2⟩
  obtain ⟨s₂, o, h1, h2⟩ := k v T'.heap T'.vm K' (fun x hx => (hs' x hx).2) q T'.vm T' _ ⟨X', rfl, hZ', hown', hS', hh, N.app N', O', K.trans K' hws, (fun w => absurd (hwd.symm.trans w) (fun z => nomatch z)), fun _ => ⟨hE, hC.trans hR, hs'⟩⟩
  exact ⟨s₂, o, st' s₂ h1, h2⟩
theorem Con.free {y : MethodName} {bytes : ByteArray} {maxL' : Nat} {ret' : Option FieldType} {rm : Room} {as' : Array Value} {ws' : List Addr} {Q' : Option Value → Heap → Prop} (hM : Con false l Z EL n0 y bytes maxL' ret' rm as' h ws' Q') :
    MetFree l y (head1 [Jvm.Cond.code y bytes maxL' ret'] rm) (fun a U => a = as' ∧ Z.Warmed39 U.vm ∧ U.heap = h) (fun _ _ _ _ _ => True) (fun _ U o U' => ∃ v L, o = .returned v ∧ (Fr n0 L ∧ Old Z n0 U'.heap ∧ Keep h U'.heap ws' ∧ Q' v U'.heap) ∧ FrameEnd U o U' L rm.cells rm.slots) :=
  fun p e ha hc hk s m args below hf happ hP hK => hM [] p e ha hc hk s m args below hf happ ⟨hP.1, hP.2.1, hP.2.2, fun q => nomatch q⟩ hK
theorem Con.freeW {y : MethodName} {bytes : ByteArray} {maxL' : Nat} {ret' : Option FieldType} {rm : Room} {as' : Array Value} {ws' : List Addr} {Q' : Option Value → Heap → Prop} (hM : Con true l Z EL n0 y bytes maxL' ret' rm as' h ws' Q') :
    MetFree l y (head1 [Jvm.Cond.code y bytes maxL' ret'] rm) (fun a U => a = as' ∧ Z.Warmed39 U.vm ∧ U.heap = h ∧ CHv Z EL U.vm h) (fun _ _ _ _ _ => True) (fun _ U o U' => ∃ v L, o = .returned v ∧ (Fr n0 L ∧ Old Z n0 U'.heap ∧ Keep h U'.heap ws' ∧ Q' v U'.heap) ∧ CHr Z EL U.vm U.heap U'.vm U'.heap ∧ ReturnedEndW U o U' L rm.cells rm.slots) :=
  fun p e ha hc hk s m args below hf happ hP hK => hM [] p e ha hc hk s m args below hf happ ⟨hP.1, hP.2.1, hP.2.2.1, fun _ => hP.2.2.2⟩ hK
theorem ok_static (G : Good p meth c code maxL ret nm) {pc : Nat} {L : Array Slot} {S : List Value} {y : MethodName} {bytes : ByteArray} {maxL' : Nat} {ret' : Option FieldType} {rm : Room} {ws' : List Addr} {Q' : Option Value → Heap → Prop} {index : Nat} {ps : List FieldType} {r : Option FieldType} {EL' : List (String × Nat)} {argsL rest : List Value} (w1 : (Jvm.Cond.methodLink own index y).before a0 Z = true) (w2 : (Jvm.Cond.static y).before a0 Z = true) (w3 : (Jvm.Cond.initialized y.cls).before a0 Z = true) (w4 : (Jvm.Cond.code y bytes maxL' ret').before a0 Z = true) (hy : y.cls ≠ "java/lang/invoke/MethodHandle" ∧ y.cls ≠ "java/lang/invoke/VarHandle") (hdesc : parseMethodDescriptor y.desc = some ⟨ps, r⟩)
    (hM : Con false l Z EL' n0 y bytes maxL' ret' rm argsL.toArray h ws' Q') (hln : argsL.length = ps.length) (hS : S = argsL.reverse ++ rest) (hsz : L.size = maxL) (hd : decode code pc = .ok (.invokestatic index, 3)) (hf : rm.frames + 1 ≤ R.frames) (hl : (rest.map fun v => v.category).sum + (maxL' + 11) + rm.locals ≤ R.locals) (hc : cells + rm.cells ≤ R.cells) (hsl : slots + rm.slots ≤ R.slots) (hws : ∀ x ∈ ws', (x ∈ ws ∨ h0.size ≤ x) ∧ SafeFor wd Z EL sf h x)
    (k : ∀ v h', Keep h h' ws' → Q' v h' → Ok p l e R s m args below meth c own Z a0 EL n0 h0 ws wd Q sf h' (cells + rm.cells) (slots + rm.slots) (mkF m (pc + 3) L (v.toList ++ rest))) : Ok p l e R s m args below meth c own Z a0 EL n0 h0 ws wd Q sf h cells slots (mkF m pc L S) := by
  subst hS
  exact ok_stepC (gn := fun v => mkF m (pc + 3) L (v.toList ++ rest)) hws (fun vm T locs X e0 hZ hown O => by
      obtain ⟨v, _, ⟨T', L', k', n'⟩, -, X', ⟨Lc, hQ, l1, y1, z1⟩, st⟩ := Jvm.LawKit.callS X G.1 (y := y) hown (mvT (s := s.setVm vm) hZ w1) (mvT (s := s.setVm vm) hZ w2) (mvT (s := s.setVm vm) hZ w3) (mvT (s := s.setVm vm) hZ w4) hy (backOf (s := s.setVm vm) (Q := fun v h' L => Fr n0 L ∧ Old Z n0 h' ∧ Keep h h' ws' ∧ Q' v h') (W := (rest.map fun v => v.category).sum) hM.free hZ w4 w3 hf hl) (g := mkF m pc L (argsL.reverse ++ rest)) rfl (by rw [G.2.2.1]; exact hsz) (argsL := argsL) (rest := rest) (lenOf hdesc hln) rfl (by show 2 * 0 + _ ≤ _; omega) (hb G.2.1 hd) (fun _ _ => ⟨rfl, e0, hc, hsl⟩)
      dsimp only [Pt.U, Pt.locs, Pt.cells, Pt.slots] at X' l1 y1 z1 st hQ
      subst l1 y1 z1
      exact ⟨v, T', Lc, X', hQ, st⟩) k
theorem ok_init (G : Good p meth c code maxL ret nm) {pc : Nat} {L : Array Slot} {S : List Value} {y : MethodName} {bytes : ByteArray} {maxL' : Nat} {rm : Room} {ws' : List Addr} {Q' : Option Value → Heap → Prop} {index : Nat} {ps : List FieldType} {r : Option FieldType} {EL' : List (String × Nat)} {argsL rest : List Value} (hy1 : y.name = "<init>") (w1 : (Jvm.Cond.methodLink own index y).before a0 Z = true) (w2 : (Jvm.Cond.instanceMethod y).before a0 Z = true) (w3 : (Jvm.Cond.initialized y.cls).before a0 Z = true) (w4 : (Jvm.Cond.code y bytes maxL' none).before a0 Z = true) (hy : y.cls ≠ "java/lang/invoke/MethodHandle" ∧ y.cls ≠ "java/lang/invoke/VarHandle") (hdesc : parseMethodDescriptor y.desc = some ⟨ps, r⟩)
    (hM : Con false l Z EL' n0 y bytes maxL' none rm (.ref a :: argsL).toArray h ws' Q') (hln : argsL.length = ps.length) (hS : S = argsL.reverse ++ .ref a :: rest) (hsz : L.size = maxL) (hd : decode code pc = .ok (.invokespecial index, 3)) (hf : rm.frames + 1 ≤ R.frames) (hl : (rest.map fun v => v.category).sum + (maxL' + 11) + rm.locals ≤ R.locals) (hc : cells + rm.cells ≤ R.cells) (hsl : slots + rm.slots ≤ R.slots) (hws : ∀ x ∈ ws', (x ∈ ws ∨ h0.size ≤ x) ∧ SafeFor wd Z EL sf h x)
    (k : ∀ v h', Keep h h' ws' → Q' v h' → Ok p l e R s m args below meth c own Z a0 EL n0 h0 ws wd Q sf h' (cells + rm.cells) (slots + rm.slots) (mkF m (pc + 3) L (v.toList ++ rest))) : Ok p l e R s m args below meth c own Z a0 EL n0 h0 ws wd Q sf h cells slots (mkF m pc L S) := by
  subst hS
  exact ok_stepC (gn := fun v => mkF m (pc + 3) L (v.toList ++ rest)) hws (fun vm T locs X e0 hZ hown O => by
      obtain ⟨v, _, ⟨T', L', k', n'⟩, -, X', ⟨Lc, hQ, l1, y1, z1⟩, st⟩ := X.specialBack G.1 (y := y) hy1 hown (mvT (s := s.setVm vm) hZ w1) (mvT (s := s.setVm vm) hZ w2) (mvT (s := s.setVm vm) hZ w4) hy (backOf (s := s.setVm vm) (Q := fun v h' L => Fr n0 L ∧ Old Z n0 h' ∧ Keep h h' ws' ∧ Q' v h') (W := (rest.map fun v => v.category).sum) hM.free hZ w4 w3 hf hl) (g := mkF m pc L (argsL.reverse ++ .ref a :: rest)) rfl (by rw [G.2.2.1]; exact hsz) (Steps.refl _) (a := a) (argsL := argsL) (rest := rest) (lenOf hdesc hln) rfl (by show 2 * 0 + _ ≤ _; omega) (hb G.2.1 hd) (fun _ _ => ⟨rfl, e0, hc, hsl⟩)
      dsimp only [Pt.U, Pt.locs, Pt.cells, Pt.slots] at X' l1 y1 z1 st hQ
      subst l1 y1 z1
      exact ⟨v, T', Lc, X', hQ, fun t k => st.trans k⟩) k
theorem ok_virtual (G : Good p meth c code maxL ret nm) {pc : Nat} {L : Array Slot} {S : List Value} {y : MethodName} {bytes : ByteArray} {maxL' : Nat} {ret' : Option FieldType} {rm : Room} {ws' : List Addr} {Q' : Option Value → Heap → Prop} {index : Nat} {ps : List FieldType} {r : Option FieldType} {EL' : List (String × Nat)} {y0 : MethodName} {C : String} {argsL rest : List Value} (E : Exa Z h a C) (w1 : (Jvm.Cond.methodLink own index y0).before a0 Z = true) (w5 : (Jvm.Cond.declares y0).before a0 Z = true) (w6 : (Jvm.Cond.selects C y0 y).before a0 Z = true) (hnf : ∀ vm, Z.Warmed39 vm → NotFace (s.setVm vm) y0) (w2 : (Jvm.Cond.instanceMethod y).before a0 Z = true) (w3 : (Jvm.Cond.initialized y.cls).before a0 Z = true) (w4 : (Jvm.Cond.code y bytes maxL' ret').before a0 Z = true) (hy : y0.cls ≠ "java/lang/invoke/MethodHandle" ∧ y0.cls ≠ "java/lang/invoke/VarHandle") (hdesc : parseMethodDescriptor y0.desc = some ⟨ps, r⟩)
    (hM : Con false l Z EL' n0 y bytes maxL' ret' rm (.ref a :: argsL).toArray h ws' Q') (hln : argsL.length = ps.length) (hS : S = argsL.reverse ++ .ref a :: rest) (hsz : L.size = maxL) (hd : decode code pc = .ok (.invokevirtual index, 3)) (hf : rm.frames + 1 ≤ R.frames) (hl : (rest.map fun v => v.category).sum + (maxL' + 11) + rm.locals ≤ R.locals) (hc : cells + rm.cells ≤ R.cells) (hsl : slots + rm.slots ≤ R.slots) (hws : ∀ x ∈ ws', (x ∈ ws ∨ h0.size ≤ x) ∧ SafeFor wd Z EL sf h x)
    (k : ∀ v h', Keep h h' ws' → Q' v h' → Ok p l e R s m args below meth c own Z a0 EL n0 h0 ws wd Q sf h' (cells + rm.cells) (slots + rm.slots) (mkF m (pc + 3) L (v.toList ++ rest))) : Ok p l e R s m args below meth c own Z a0 EL n0 h0 ws wd Q sf h cells slots (mkF m pc L S) := by
  subst hS
  exact ok_stepC (gn := fun v => mkF m (pc + 3) L (v.toList ++ rest)) hws (fun vm T locs X e0 hZ hown O => by
      obtain ⟨cq, kq, qa, qb, qc⟩ := isOf (s := s.setVm vm) hZ e0 E
      obtain ⟨v, _, ⟨T', L', k', n'⟩, -, X', ⟨Lc, hQ, l1, y1, z1⟩, st⟩ := X.virtualBack G.1 (y := y0) (z := y) hown (mvT (s := s.setVm vm) hZ w1) (mvT (s := s.setVm vm) hZ w5) (hnf vm hZ) (mvT (s := s.setVm vm) hZ w6) (mvT (s := s.setVm vm) hZ w2) hy (backOf (s := s.setVm vm) (Q := fun v h' L => Fr n0 L ∧ Old Z n0 h' ∧ Keep h h' ws' ∧ Q' v h') (W := (rest.map fun v => v.category).sum) hM.free hZ w4 w3 hf hl) qa qc (g := mkF m pc L (argsL.reverse ++ .ref a :: rest)) rfl (by rw [G.2.2.1]; exact hsz) (Steps.refl _) (argsL := argsL) (rest := rest) (lenOf hdesc hln) rfl (by show 2 * 0 + _ ≤ _; omega) (hb G.2.1 hd) (fun _ _ => ⟨rfl, e0, hc, hsl⟩)
      dsimp only [Pt.U, Pt.locs, Pt.cells, Pt.slots] at X' l1 y1 z1 st hQ
      subst l1 y1 z1
      exact ⟨v, T', Lc, X', hQ, fun t k => st.trans k⟩) k
theorem ok_interface (G : Good p meth c code maxL ret nm) {pc : Nat} {L : Array Slot} {S : List Value} {y : MethodName} {bytes : ByteArray} {maxL' : Nat} {ret' : Option FieldType} {rm : Room} {ws' : List Addr} {Q' : Option Value → Heap → Prop} {index : Nat} {ps : List FieldType} {r : Option FieldType} {EL' : List (String × Nat)} {y0 : MethodName} {C : String} {count : Nat} {argsL rest : List Value} (E : Exa Z h a C) (w1 : (Jvm.Cond.methodLink own index y0).before a0 Z = true) (w5 : (Jvm.Cond.declares y0).before a0 Z = true) (w7 : (Jvm.Cond.interfaceMethod y0.cls y0.cls y0.name y0.desc).before a0 Z = true) (hfc : ((Jvm.Cond.interfaceMethod y0.cls y0.cls y0.name y0.desc).onTables && (Jvm.Cond.interfaceMethod y0.cls y0.cls y0.name y0.desc).keepsFace) = true) (w6 : (Jvm.Cond.selects C y0 y).before a0 Z = true) (w2 : (Jvm.Cond.instanceMethod y).before a0 Z = true) (w8 : (Jvm.Cond.publicMethod y).before a0 Z = true) (w9 : (Jvm.Cond.unhidden C y0.name y0.desc).before a0 Z = true) (w10 : (Jvm.Cond.castable C y0.cls).before a0 Z = true) (w3 : (Jvm.Cond.initialized y.cls).before a0 Z = true) (w4 : (Jvm.Cond.code y bytes maxL' ret').before a0 Z = true) (hy : y0.cls ≠ "java/lang/invoke/MethodHandle" ∧ y0.cls ≠ "java/lang/invoke/VarHandle") (hdesc : parseMethodDescriptor y0.desc = some ⟨ps, r⟩)
    (hM : Con false l Z EL' n0 y bytes maxL' ret' rm (.ref a :: argsL).toArray h ws' Q') (hln : argsL.length = ps.length) (hS : S = argsL.reverse ++ .ref a :: rest) (hsz : L.size = maxL) (hd : decode code pc = .ok (.invokeinterface index count, 5)) (hf : rm.frames + 1 ≤ R.frames) (hl : (rest.map fun v => v.category).sum + (maxL' + 11) + rm.locals ≤ R.locals) (hc : cells + rm.cells ≤ R.cells) (hsl : slots + rm.slots ≤ R.slots) (hws : ∀ x ∈ ws', (x ∈ ws ∨ h0.size ≤ x) ∧ SafeFor wd Z EL sf h x)
    (k : ∀ v h', Keep h h' ws' → Q' v h' → Ok p l e R s m args below meth c own Z a0 EL n0 h0 ws wd Q sf h' (cells + rm.cells) (slots + rm.slots) (mkF m (pc + 5) L (v.toList ++ rest))) : Ok p l e R s m args below meth c own Z a0 EL n0 h0 ws wd Q sf h cells slots (mkF m pc L S) := by
  subst hS
  exact ok_stepC (gn := fun v => mkF m (pc + 5) L (v.toList ++ rest)) hws (fun vm T locs X e0 hZ hown O => by
      obtain ⟨cq, kq, qa, qb, qc⟩ := isOf (s := s.setVm vm) hZ e0 E
      obtain ⟨v, _, ⟨T', L', k', n'⟩, -, X', ⟨Lc, hQ, l1, y1, z1⟩, st⟩ := X.interfaceBack G.1 (xi := y0) (y := y) hown (mvT (s := s.setVm vm) hZ w1) (mvT (s := s.setVm vm) hZ w5) (mvT (s := s.setVm vm) hZ w7 hfc) (mvT (s := s.setVm vm) hZ w6) (mvT (s := s.setVm vm) hZ w2) (mvT (s := s.setVm vm) hZ w8) (mvT (s := s.setVm vm) hZ w9) (mvT (s := s.setVm vm) hZ w10) hy (backOf (s := s.setVm vm) (Q := fun v h' L => Fr n0 L ∧ Old Z n0 h' ∧ Keep h h' ws' ∧ Q' v h') (W := (rest.map fun v => v.category).sum) hM.free hZ w4 w3 hf hl) qa qb qc (g := mkF m pc L (argsL.reverse ++ .ref a :: rest)) rfl (by rw [G.2.2.1]; exact hsz) (Steps.refl _) (argsL := argsL) (rest := rest) (lenOf hdesc hln) rfl (by show 2 * 0 + _ ≤ _; omega) (hb G.2.1 hd) (fun _ _ => ⟨rfl, e0, hc, hsl⟩)
      dsimp only [Pt.U, Pt.locs, Pt.cells, Pt.slots] at X' l1 y1 z1 st hQ
      subst l1 y1 z1
      exact ⟨v, T', Lc, X', hQ, fun t k => st.trans k⟩) k
theorem ok_staticW (G : Good p meth c code maxL ret nm) {pc : Nat} {L : Array Slot} {S : List Value} {y : MethodName} {bytes : ByteArray} {maxL' : Nat} {ret' : Option FieldType} {rm : Room} {ws' : List Addr} {Q' : Option Value → Heap → Prop} {index : Nat} {ps : List FieldType} {r : Option FieldType} {argsL rest : List Value} (w1 : (Jvm.Cond.methodLink own index y).before a0 Z = true) (w2 : (Jvm.Cond.static y).before a0 Z = true) (w3 : (Jvm.Cond.initialized y.cls).before a0 Z = true) (w4 : (Jvm.Cond.code y bytes maxL' ret').before a0 Z = true) (hy : y.cls ≠ "java/lang/invoke/MethodHandle" ∧ y.cls ≠ "java/lang/invoke/VarHandle") (hdesc : parseMethodDescriptor y.desc = some ⟨ps, r⟩)
    (hM : Con true l Z EL n0 y bytes maxL' ret' rm argsL.toArray h ws' Q') (hln : argsL.length = ps.length) (hS : S = argsL.reverse ++ rest) (hsz : L.size = maxL) (hd : decode code pc = .ok (.invokestatic index, 3)) (hf : rm.frames + 1 ≤ R.frames) (hl : (rest.map fun v => v.category).sum + (maxL' + 11) + rm.locals ≤ R.locals) (hc : cells + rm.cells ≤ R.cells) (hsl : slots + rm.slots ≤ R.slots) (hwd : wd = true) (hws : ∀ x ∈ ws', x ∈ ws ∨ h0.size ≤ x)
    (k : ∀ v h', Keep h h' ws' → Q' v h' → Ok p l e R s m args below meth c own Z a0 EL n0 h0 ws wd Q sf h' (cells + rm.cells) (slots + rm.slots) (mkF m (pc + 3) L (v.toList ++ rest))) : Ok p l e R s m args below meth c own Z a0 EL n0 h0 ws wd Q sf h cells slots (mkF m pc L S) := by
  subst hS
  exact ok_stepCW (Q' := fun v h' _ => Q' v h') (gn := fun v => mkF m (pc + 3) L (v.toList ++ rest)) hwd hws (fun vm T locs X e0 hZ hown hSi O hE hC => by
      obtain ⟨v, _, ⟨T', L', k', n'⟩, -, X', hS2, hgr, ⟨Lc, hQ, l1, y1, z1, hR⟩, st⟩ := callSS X G.1 (y := y) hown (mvT (s := s.setVm vm) hZ w1) (mvT (s := s.setVm vm) hZ w2) (mvT (s := s.setVm vm) hZ w3) (mvT (s := s.setVm vm) hZ w4) hy (backOfSH (s := s) (Q := fun v h' L => Fr n0 L ∧ Old Z n0 h' ∧ Keep h h' ws' ∧ Q' v h') (W := (rest.map fun v => v.category).sum) hM.freeW hZ w4 w3 hf hl hE hC) (g := mkF m pc L (argsL.reverse ++ rest)) rfl (by rw [G.2.2.1]; exact hsz) (argsL := argsL) (rest := rest) (lenOf hdesc hln) rfl (by show 2 * 0 + _ ≤ _; omega) (hb G.2.1 hd) (fun _ _ => ⟨rfl, e0, hc, hsl⟩)
      dsimp only [Pt.U, Pt.locs, Pt.cells, Pt.slots] at X' l1 y1 z1 st hQ hS2 hgr hR
      subst l1 y1 z1
      obtain ⟨X2, S2, Z2, o2⟩ := rebS hSi (by rw [← e0]; exact Nat.le_refl _) X' hS2 hgr hZ hown
      exact ⟨v, T', Lc, X2, S2, Z2, o2, hR, hQ, fun t k => st.trans k⟩) (fun v h' vm' K' _ q => k v h' K' q)
theorem ok_initW (G : Good p meth c code maxL ret nm) {pc : Nat} {L : Array Slot} {S : List Value} {y : MethodName} {bytes : ByteArray} {maxL' : Nat} {rm : Room} {ws' : List Addr} {Q' : Option Value → Heap → Prop} {index : Nat} {ps : List FieldType} {r : Option FieldType} {argsL rest : List Value} (hy1 : y.name = "<init>") (w1 : (Jvm.Cond.methodLink own index y).before a0 Z = true) (w2 : (Jvm.Cond.instanceMethod y).before a0 Z = true) (w3 : (Jvm.Cond.initialized y.cls).before a0 Z = true) (w4 : (Jvm.Cond.code y bytes maxL' none).before a0 Z = true) (hy : y.cls ≠ "java/lang/invoke/MethodHandle" ∧ y.cls ≠ "java/lang/invoke/VarHandle") (hdesc : parseMethodDescriptor y.desc = some ⟨ps, r⟩)
    (hM : Con true l Z EL n0 y bytes maxL' none rm (.ref a :: argsL).toArray h ws' Q') (hln : argsL.length = ps.length) (hS : S = argsL.reverse ++ .ref a :: rest) (hsz : L.size = maxL) (hd : decode code pc = .ok (.invokespecial index, 3)) (hf : rm.frames + 1 ≤ R.frames) (hl : (rest.map fun v => v.category).sum + (maxL' + 11) + rm.locals ≤ R.locals) (hc : cells + rm.cells ≤ R.cells) (hsl : slots + rm.slots ≤ R.slots) (hwd : wd = true) (hws : ∀ x ∈ ws', x ∈ ws ∨ h0.size ≤ x)
    (k : ∀ v h', Keep h h' ws' → Q' v h' → Ok p l e R s m args below meth c own Z a0 EL n0 h0 ws wd Q sf h' (cells + rm.cells) (slots + rm.slots) (mkF m (pc + 3) L (v.toList ++ rest))) : Ok p l e R s m args below meth c own Z a0 EL n0 h0 ws wd Q sf h cells slots (mkF m pc L S) := by
  subst hS
  exact ok_stepCW (Q' := fun v h' _ => Q' v h') (gn := fun v => mkF m (pc + 3) L (v.toList ++ rest)) hwd hws (fun vm T locs X e0 hZ hown hSi O hE hC => by
      obtain ⟨v, _, ⟨T', L', k', n'⟩, -, X', hS2, hgr, ⟨Lc, hQ, l1, y1, z1, hR⟩, st⟩ := X.specialBackS G.1 (y := y) hy1 hown (mvT (s := s.setVm vm) hZ w1) (mvT (s := s.setVm vm) hZ w2) (mvT (s := s.setVm vm) hZ w4) hy (backOfSH (s := s) (Q := fun v h' L => Fr n0 L ∧ Old Z n0 h' ∧ Keep h h' ws' ∧ Q' v h') (W := (rest.map fun v => v.category).sum) hM.freeW hZ w4 w3 hf hl hE hC) (g := mkF m pc L (argsL.reverse ++ .ref a :: rest)) rfl (by rw [G.2.2.1]; exact hsz) (Steps.refl _) (a := a) (argsL := argsL) (rest := rest) (lenOf hdesc hln) rfl (by show 2 * 0 + _ ≤ _; omega) (hb G.2.1 hd) (fun _ _ => ⟨rfl, e0, hc, hsl⟩)
      dsimp only [Pt.U, Pt.locs, Pt.cells, Pt.slots] at X' l1 y1 z1 st hQ hS2 hgr hR
      subst l1 y1 z1
      obtain ⟨X2, S2, Z2, o2⟩ := rebS hSi (by rw [← e0]; exact Nat.le_refl _) X' hS2 hgr hZ hown
      exact ⟨v, T', Lc, X2, S2, Z2, o2, hR, hQ, fun t k => st.trans k⟩) (fun v h' vm' K' _ q => k v h' K' q)
theorem ok_virtualW (G : Good p meth c code maxL ret nm) {pc : Nat} {L : Array Slot} {S : List Value} {y : MethodName} {bytes : ByteArray} {maxL' : Nat} {ret' : Option FieldType} {rm : Room} {ws' : List Addr} {Q' : Option Value → Heap → Prop} {index : Nat} {ps : List FieldType} {r : Option FieldType} {y0 : MethodName} {C : String} {argsL rest : List Value} (E : Exa Z h a C) (w1 : (Jvm.Cond.methodLink own index y0).before a0 Z = true) (w5 : (Jvm.Cond.declares y0).before a0 Z = true) (w6 : (Jvm.Cond.selects C y0 y).before a0 Z = true) (hnf : ∀ vm, Z.Warmed39 vm → NotFace (s.setVm vm) y0) (w2 : (Jvm.Cond.instanceMethod y).before a0 Z = true) (w3 : (Jvm.Cond.initialized y.cls).before a0 Z = true) (w4 : (Jvm.Cond.code y bytes maxL' ret').before a0 Z = true) (hy : y0.cls ≠ "java/lang/invoke/MethodHandle" ∧ y0.cls ≠ "java/lang/invoke/VarHandle") (hdesc : parseMethodDescriptor y0.desc = some ⟨ps, r⟩)
    (hM : Con true l Z EL n0 y bytes maxL' ret' rm (.ref a :: argsL).toArray h ws' Q') (hln : argsL.length = ps.length) (hS : S = argsL.reverse ++ .ref a :: rest) (hsz : L.size = maxL) (hd : decode code pc = .ok (.invokevirtual index, 3)) (hf : rm.frames + 1 ≤ R.frames) (hl : (rest.map fun v => v.category).sum + (maxL' + 11) + rm.locals ≤ R.locals) (hc : cells + rm.cells ≤ R.cells) (hsl : slots + rm.slots ≤ R.slots) (hwd : wd = true) (hws : ∀ x ∈ ws', x ∈ ws ∨ h0.size ≤ x)
    (k : ∀ v h', Keep h h' ws' → Q' v h' → Ok p l e R s m args below meth c own Z a0 EL n0 h0 ws wd Q sf h' (cells + rm.cells) (slots + rm.slots) (mkF m (pc + 3) L (v.toList ++ rest))) : Ok p l e R s m args below meth c own Z a0 EL n0 h0 ws wd Q sf h cells slots (mkF m pc L S) := by
  subst hS
  exact ok_stepCW (Q' := fun v h' _ => Q' v h') (gn := fun v => mkF m (pc + 3) L (v.toList ++ rest)) hwd hws (fun vm T locs X e0 hZ hown hSi O hE hC => by
      obtain ⟨cq, kq, qa, qb, qc⟩ := isOf (s := s.setVm vm) hZ e0 E
      obtain ⟨v, _, ⟨T', L', k', n'⟩, -, X', hS2, hgr, ⟨Lc, hQ, l1, y1, z1, hR⟩, st⟩ := X.virtualBackS G.1 (y := y0) (z := y) hown (mvT (s := s.setVm vm) hZ w1) (mvT (s := s.setVm vm) hZ w5) (hnf vm hZ) (mvT (s := s.setVm vm) hZ w6) (mvT (s := s.setVm vm) hZ w2) hy (backOfSH (s := s) (Q := fun v h' L => Fr n0 L ∧ Old Z n0 h' ∧ Keep h h' ws' ∧ Q' v h') (W := (rest.map fun v => v.category).sum) hM.freeW hZ w4 w3 hf hl hE hC) qa qc (g := mkF m pc L (argsL.reverse ++ .ref a :: rest)) rfl (by rw [G.2.2.1]; exact hsz) (Steps.refl _) (argsL := argsL) (rest := rest) (lenOf hdesc hln) rfl (by show 2 * 0 + _ ≤ _; omega) (hb G.2.1 hd) (fun _ _ => ⟨rfl, e0, hc, hsl⟩)
      dsimp only [Pt.U, Pt.locs, Pt.cells, Pt.slots] at X' l1 y1 z1 st hQ hS2 hgr hR
      subst l1 y1 z1
      obtain ⟨X2, S2, Z2, o2⟩ := rebS hSi (by rw [← e0]; exact Nat.le_refl _) X' hS2 hgr hZ hown
      exact ⟨v, T', Lc, X2, S2, Z2, o2, hR, hQ, fun t k => st.trans k⟩) (fun v h' vm' K' _ q => k v h' K' q)
theorem ok_interfaceW (G : Good p meth c code maxL ret nm) {pc : Nat} {L : Array Slot} {S : List Value} {y : MethodName} {bytes : ByteArray} {maxL' : Nat} {ret' : Option FieldType} {rm : Room} {ws' : List Addr} {Q' : Option Value → Heap → Prop} {index : Nat} {ps : List FieldType} {r : Option FieldType} {y0 : MethodName} {C : String} {count : Nat} {argsL rest : List Value} (E : Exa Z h a C) (w1 : (Jvm.Cond.methodLink own index y0).before a0 Z = true) (w5 : (Jvm.Cond.declares y0).before a0 Z = true) (w7 : (Jvm.Cond.interfaceMethod y0.cls y0.cls y0.name y0.desc).before a0 Z = true) (hfc : ((Jvm.Cond.interfaceMethod y0.cls y0.cls y0.name y0.desc).onTables && (Jvm.Cond.interfaceMethod y0.cls y0.cls y0.name y0.desc).keepsFace) = true) (w6 : (Jvm.Cond.selects C y0 y).before a0 Z = true) (w2 : (Jvm.Cond.instanceMethod y).before a0 Z = true) (w8 : (Jvm.Cond.publicMethod y).before a0 Z = true) (w9 : (Jvm.Cond.unhidden C y0.name y0.desc).before a0 Z = true) (w10 : (Jvm.Cond.castable C y0.cls).before a0 Z = true) (w3 : (Jvm.Cond.initialized y.cls).before a0 Z = true) (w4 : (Jvm.Cond.code y bytes maxL' ret').before a0 Z = true) (hy : y0.cls ≠ "java/lang/invoke/MethodHandle" ∧ y0.cls ≠ "java/lang/invoke/VarHandle") (hdesc : parseMethodDescriptor y0.desc = some ⟨ps, r⟩)
    (hM : Con true l Z EL n0 y bytes maxL' ret' rm (.ref a :: argsL).toArray h ws' Q') (hln : argsL.length = ps.length) (hS : S = argsL.reverse ++ .ref a :: rest) (hsz : L.size = maxL) (hd : decode code pc = .ok (.invokeinterface index count, 5)) (hf : rm.frames + 1 ≤ R.frames) (hl : (rest.map fun v => v.category).sum + (maxL' + 11) + rm.locals ≤ R.locals) (hc : cells + rm.cells ≤ R.cells) (hsl : slots + rm.slots ≤ R.slots) (hwd : wd = true) (hws : ∀ x ∈ ws', x ∈ ws ∨ h0.size ≤ x)
    (k : ∀ v h', Keep h h' ws' → Q' v h' → Ok p l e R s m args below meth c own Z a0 EL n0 h0 ws wd Q sf h' (cells + rm.cells) (slots + rm.slots) (mkF m (pc + 5) L (v.toList ++ rest))) : Ok p l e R s m args below meth c own Z a0 EL n0 h0 ws wd Q sf h cells slots (mkF m pc L S) := by
  subst hS
  exact ok_stepCW (Q' := fun v h' _ => Q' v h') (gn := fun v => mkF m (pc + 5) L (v.toList ++ rest)) hwd hws (fun vm T locs X e0 hZ hown hSi O hE hC => by
      obtain ⟨cq, kq, qa, qb, qc⟩ := isOf (s := s.setVm vm) hZ e0 E
      obtain ⟨v, _, ⟨T', L', k', n'⟩, -, X', hS2, hgr, ⟨Lc, hQ, l1, y1, z1, hR⟩, st⟩ := X.interfaceBackS G.1 (xi := y0) (y := y) hown (mvT (s := s.setVm vm) hZ w1) (mvT (s := s.setVm vm) hZ w5) (mvT (s := s.setVm vm) hZ w7 hfc) (mvT (s := s.setVm vm) hZ w6) (mvT (s := s.setVm vm) hZ w2) (mvT (s := s.setVm vm) hZ w8) (mvT (s := s.setVm vm) hZ w9) (mvT (s := s.setVm vm) hZ w10) hy (backOfSH (s := s) (Q := fun v h' L => Fr n0 L ∧ Old Z n0 h' ∧ Keep h h' ws' ∧ Q' v h') (W := (rest.map fun v => v.category).sum) hM.freeW hZ w4 w3 hf hl hE hC) qa qb qc (g := mkF m pc L (argsL.reverse ++ .ref a :: rest)) rfl (by rw [G.2.2.1]; exact hsz) (Steps.refl _) (argsL := argsL) (rest := rest) (lenOf hdesc hln) rfl (by show 2 * 0 + _ ≤ _; omega) (hb G.2.1 hd) (fun _ _ => ⟨rfl, e0, hc, hsl⟩)
      dsimp only [Pt.U, Pt.locs, Pt.cells, Pt.slots] at X' l1 y1 z1 st hQ hS2 hgr hR
      subst l1 y1 z1
      obtain ⟨X2, S2, Z2, o2⟩ := rebS hSi (by rw [← e0]; exact Nat.le_refl _) X' hS2 hgr hZ hown
      exact ⟨v, T', Lc, X2, S2, Z2, o2, hR, hQ, fun t k => st.trans k⟩) (fun v h' vm' K' _ q => k v h' K' q)
theorem ok_ldcO (G : Good p meth c code maxL ret nm) {pc : Nat} {L : Array Slot} {S : List Value} {index : Nat} {text : String} (hwd : wd = true) (w : (Jvm.Cond.stringLink own index text).before a0 Z = true) (wS : ∀ a ∈ Bundle.stringAtoms, a.before a0 Z = true) (hd : decode code pc = .ok (.ldc index, 2)) (n : Nat) (hn : 4 * text.toList.length ≤ n) (hbig : n ≤ 536870912) (hc : cells + 2 ≤ R.cells) (hl : slots + (n + 4) ≤ R.slots)
    (k : ∀ a h', Keep h h' [] → Ok p l e R s m args below meth c own Z a0 EL n0 h0 ws wd Q sf h' (cells + 2) (slots + (n + 4)) (mkF m (pc + 2) L (.ref a :: S))) : Ok p l e R s m args below meth c own Z a0 EL n0 h0 ws wd Q sf h cells slots (mkF m pc L S) :=
  ok_stepCW (ws' := []) (Q' := fun v _ _ => ∃ a, v = some (.ref a)) (gn := fun v => mkF m (pc + 2) L (v.toList ++ S)) hwd (fun _ q => nomatch q) (fun vm T locs X e0 hZ hown hSi O hE hC => by
      obtain ⟨a, T', h', k1, X', e1, E, S1, hk1, hZ', hown', hR, -, st⟩ := ldcOH X G.1 hZ hown w wS e0 hSi (Nat.le_refl _) hE hC (g := mkF m pc L S) rfl (hb G.2.1 hd) hn hbig hc hl
      subst e1
      exact ⟨some (.ref a), T', [], by rw [List.append_nil]; exact X', ⟨S1.1, S1.2.mono hk1⟩, hZ', hown', hR, ⟨Fr.nil _, O.ext E, (Keep.refl h []).ext E, a, rfl⟩, st⟩) (fun v h' vm' K' _ q => by obtain ⟨a, rfl⟩ := q; exact k a h' K')
theorem ok_ldcR (G : Good p meth c code maxL ret nm) {pc : Nat} {L : Array Slot} {S : List Value} {index : Nat} {text : String} (hwd : wd = true) (w : (Jvm.Cond.stringLink own index text).before a0 Z = true) (wS : ∀ a ∈ Bundle.stringAtoms, a.before a0 Z = true) (hmem : (own, index) ∈ EL) {vs : List Value} {z : Int32} (ht : (∀ c ∈ text.toList, c.toNat < 256) ∧ text.toList.map (fun c => Value.int (Jvm.Lit.byteI c.toNat.toUInt16)) = vs) (hz : ¬ z < 0) (hzl : z.toNatClampNeg = vs.length)
    (hd : decode code pc = .ok (.ldc index, 2)) (n : Nat) (hn : 4 * text.toList.length ≤ n) (hbig : n ≤ 536870912) (hc : cells + 2 ≤ R.cells) (hl : slots + (n + 4) ≤ R.slots)
    (k : ∀ a h' b kb, Keep h h' [] → Exa Z h' a "java/lang/String" → Fld Z h' a "java/lang/String" "coder" "B" (.int 0) → Fld Z h' a "java/lang/String" "value" "[B" (.ref b) → Arv Z h' b kb .byte z vs (.int 0) → (∀ x ∈ sf, x ≠ a ∧ x ≠ b) → Ok p l e R s m args below meth c own Z a0 EL n0 h0 ws wd Q sf h' (cells + 2) (slots + (n + 4)) (mkF m (pc + 2) L (.ref a :: S))) : Ok p l e R s m args below meth c own Z a0 EL n0 h0 ws wd Q sf h cells slots (mkF m pc L S) :=
  ok_stepCW (ws' := []) (Q' := fun v h' vm' => ∃ a b kb, v = some (.ref a) ∧ Exa Z h' a "java/lang/String" ∧ Fld Z h' a "java/lang/String" "coder" "B" (.int 0) ∧ Fld Z h' a "java/lang/String" "value" "[B" (.ref b) ∧ Arv Z h' b kb .byte z vs (.int 0) ∧ ∀ x, Safe Z EL vm' h' x → x ≠ a ∧ x ≠ b) (gn := fun v => mkF m (pc + 2) L (v.toList ++ S)) hwd (fun _ q => nomatch q) (fun vm T locs X e0 hZ hown hSi O hE hC => by
      obtain ⟨a, T', h', k1, b, kb, X', e1, E, S1, hk1, hZ', hown', F1, F2, F3, F4, -, -, hR, -, hne, st⟩ := ldcCH X G.1 hZ hown w wS e0 hSi (Nat.le_refl _) hE hmem hC ht hz hzl (g := mkF m pc L S) rfl (hb G.2.1 hd) hn hbig hc hl
      subst e1
      exact ⟨some (.ref a), T', [], by rw [List.append_nil]; exact X', ⟨S1.1, S1.2.mono hk1⟩, hZ', hown', hR, ⟨Fr.nil _, O.ext E, (Keep.refl h []).ext E, a, b, kb, rfl, F1, F2, F3, F4, hne⟩, st⟩) (fun v h' vm' K' hsf q => by obtain ⟨a, b, kb, rfl, F1, F2, F3, F4, hne⟩ := q; exact k a h' b kb K' F1 F2 F3 F4 (fun x hx => hne x (hsf x hx)))
end Heaps
end Jvm.Pilot.@@N@@.Own
namespace Jvm.Pilot.@@N@@.Own
open Jvm Jvm.ClassFile Sem Op Lib Jvm.Free Jvm.Stand Jvm.LawKit Jvm.RoadKit Bundle
section Loops
variable {p : Program} {l : Launch} {e : Env} {R : Room} {s : State} {m : MethodId} {args : Array Value} {below : List Frame} {meth : Method} {c : Code}
  {own : String} {Z : State} {a0 : Array Value} {EL : List (String × Nat)} {n0 : Nat} {h0 : Heap} {ws : List Addr} {wd : Bool} {Q : Option Value → Heap → Prop}
  {sf : List Addr} {h : Heap} {cells slots : Nat} {g : JFrame}
theorem ok_loop {A : Type} (μ : A → Nat) (P : A → Prop) (hh : A → Heap) (gg : A → JFrame)
    (st : ∀ x, P x → (∀ x', μ x' < μ x → P x' → Ok p l e R s m args below meth c own Z a0 EL n0 h0 ws wd Q sf (hh x') cells slots (gg x')) → Ok p l e R s m args below meth c own Z a0 EL n0 h0 ws wd Q sf (hh x) cells slots (gg x)) (x : A) (hx : P x) :
    Ok p l e R s m args below meth c own Z a0 EL n0 h0 ws wd Q sf (hh x) cells slots (gg x) := by
  have q : ∀ k x, μ x < k → P x → Ok p l e R s m args below meth c own Z a0 EL n0 h0 ws wd Q sf (hh x) cells slots (gg x) := by
    intro k
    induction k with
    | zero => intro x hk; exact absurd hk (Nat.not_lt_zero _)
    | succ k ih => intro x hk hx; exact st x hx (fun x' h1 h2 => ih x' (Nat.lt_of_lt_of_le h1 (Nat.le_of_lt_succ hk)) h2)
  exact q (μ x + 1) x (Nat.lt_succ_self _) hx
/-- several roads meet: what is behind is walked once -/
theorem ok_meet {A : Type} (P : A → Prop) (hh : A → Heap) (sfs : A → List Addr) (cells' slots' : Nat) (gg : A → JFrame) (hk : (∀ x, P x → Ok p l e R s m args below meth c own Z a0 EL n0 h0 ws wd Q (sfs x) (hh x) cells' slots' (gg x)) → Ok p l e R s m args below meth c own Z a0 EL n0 h0 ws wd Q sf h cells slots g)
    (k : ∀ x, P x → Ok p l e R s m args below meth c own Z a0 EL n0 h0 ws wd Q (sfs x) (hh x) cells' slots' (gg x)) : Ok p l e R s m args below meth c own Z a0 EL n0 h0 ws wd Q sf h cells slots g := hk k
/-- .. where nothing but a value tells them apart -/
theorem ok_meetV {A : Type} (P : A → Prop) (gg : A → JFrame) (hk : (∀ x, P x → Ok p l e R s m args below meth c own Z a0 EL n0 h0 ws wd Q sf h cells slots (gg x)) → Ok p l e R s m args below meth c own Z a0 EL n0 h0 ws wd Q sf h cells slots g)
    (k : ∀ x, P x → Ok p l e R s m args below meth c own Z a0 EL n0 h0 ws wd Q sf h cells slots (gg x)) : Ok p l e R s m args below meth c own Z a0 EL n0 h0 ws wd Q sf h cells slots g := hk k
end Loops
/-! ints that are small naturals -/
theorem i32_int {i : Nat} (h : i < 2147483648) : (Int32.ofNat i).toInt = i := Int32.toInt_ofNat_small h
theorem i32_lt {i j : Nat} (hi : i < 2147483648) (hj : j < 2147483648) : Int32.ofNat i < Int32.ofNat j ↔ i < j := by
  rw [Int32.lt_iff_toInt_lt, i32_int hi, i32_int hj]; omega
theorem i32_nn {i : Nat} (h : i < 2147483648) : ¬ Int32.ofNat i < 0 := by
  rw [Int32.lt_iff_toInt_lt, i32_int h]; show ¬ ((i : Int) < 0); omega
theorem i32_clamp {i : Nat} (h : i < 2147483648) : (Int32.ofNat i).toNatClampNeg = i := by
  rw [Int32.toNatClampNeg, i32_int h]; omega
theorem i32_eq {i j : Nat} (hi : i < 2147483648) (hj : j < 2147483648) : Int32.ofNat i = Int32.ofNat j ↔ i = j := by
  rw [← Int32.toInt_inj, i32_int hi, i32_int hj]; omega
theorem i32_succ (i : Nat) : Int32.ofNat i + (1 : Int32) = Int32.ofNat (i + 1) := by
  rw [Int32.ofNat_add]; rfl
theorem i32_sub {i j : Nat} (h : j ≤ i) : Int32.ofNat i - Int32.ofNat j = Int32.ofNat (i - j) := by
  have e : Int32.ofNat i = Int32.ofNat (i - j) + Int32.ofNat j := by rw [← Int32.ofNat_add]; congr 1; omega
  rw [e, Int32.add_sub_cancel]
/-! chars -/
abbrev lo8 (c : Int32) : Value := .int c.toInt8.toInt32
def Lat (c : Int32) : Prop := ¬ c < 0 ∧ ¬ (255 : Int32) < c
theorem Lat.int {c : Int32} (h : Lat c) : 0 ≤ c.toInt ∧ c.toInt ≤ 255 := by
  obtain ⟨h1, h2⟩ := h
  rw [Int32.lt_iff_toInt_lt] at h1 h2
  have e1 : (0 : Int32).toInt = 0 := rfl
  have e2 : (255 : Int32).toInt = 255 := rfl
  omega
theorem lat_mask (x : Int32) : Lat ((x &&& (255 : Int32)).toUInt32.toUInt16.toUInt32.toInt32) := by
  have t : ∀ k : Fin 256, ¬ (Int32.ofNat k.val).toUInt32.toUInt16.toUInt32.toInt32 < 0 ∧ ¬ (255 : Int32) < (Int32.ofNat k.val).toUInt32.toUInt16.toUInt32.toInt32 := by decide +kernel
  have h : (x &&& 255).toBitVec.toNat < 256 := by
    simp only [Int32.toBitVec_and, BitVec.toNat_and]
    exact Nat.lt_succ_of_le Nat.and_le_right
  have e : (x &&& 255) = Int32.ofNat (x &&& 255).toBitVec.toNat := by
    apply Int32.toBitVec_inj.mp
    show _ = BitVec.ofNat 32 _
    rw [BitVec.ofNat_toNat]; simp
  rw [e]
  exact t ⟨_, h⟩
theorem nar_char {c : Int32} (h : fits .char (.int c) = true) : nar .char c = c := by
  simp only [fits, Bool.and_eq_true, decide_eq_true_eq, Int32.le_iff_toInt_le] at h
  show c.toUInt32.toUInt16.toUInt32.toInt32 = c
  have e1 : (0 : Int32).toInt = 0 := rfl
  have e2 : (65535 : Int32).toInt = 65535 := rfl
  apply Int32.toBitVec_inj.mp
  have hn : c.toBitVec.toNat < 65536 := by
    have hi := h
    have : c.toInt = c.toBitVec.toInt := rfl
    rw [BitVec.toInt_eq_toNat_cond] at this
    split at this <;> omega
  apply BitVec.eq_of_toNat_eq
  show ((c.toUInt32.toUInt16.toUInt32.toInt32).toBitVec).toNat = _
  have : ((c.toUInt32.toUInt16.toUInt32.toInt32).toBitVec).toNat = c.toBitVec.toNat % 65536 := by
    show c.toUInt32.toUInt16.toUInt32.toNat = _
    simp
    rfl
  rw [this, Nat.mod_eq_of_lt hn]
theorem Lat.fits {c : Int32} (h : Lat c) : fits .char (.int c) = true := by
  have := h.int
  simp only [Jvm.fits, Bool.and_eq_true, decide_eq_true_eq, Int32.le_iff_toInt_le]
  have e1 : (0 : Int32).toInt = 0 := rfl
  have e2 : (65535 : Int32).toInt = 65535 := rfl
  omega
theorem Lat.nar {c : Int32} (h : Lat c) : nar .char c = c := nar_char h.fits
theorem Lat.back {c : Int32} (h : Lat c) : (c.toInt8.toInt32 &&& (255 : Int32)).toUInt32.toUInt16.toUInt32.toInt32 = c := by
  have t : ∀ k : Fin 256, ((Int32.ofNat k.val).toInt8.toInt32 &&& (255 : Int32)).toUInt32.toUInt16.toUInt32.toInt32 = Int32.ofNat k.val := by decide +kernel
  have hi := h.int
  have e : c = Int32.ofNat c.toInt.toNat := by
    rw [← Int32.toInt_inj, i32_int (by omega)]; omega
  rw [e]
  exact t ⟨c.toInt.toNat, by omega⟩
theorem Lat.inj {c d : Int32} (h : Lat c) (h' : Lat d) (e : c.toInt8.toInt32 = d.toInt8.toInt32) : c = d := by rw [← h.back, ← h'.back, e]
theorem own_mid {pre p1 p2 : List Int32} {c d : Int32} (h : pre ++ c :: p1 = pre ++ d :: p2) : c = d := by
  have := List.append_cancel_left h
  exact (List.cons.inj this).1
theorem own_bool {b : Int32} (h : b = 0 ∨ b = 1) : narrow .boolean (.int b) = .int b ∧ fits .boolean (.int b) = true := by rcases h with rfl | rfl <;> exact ⟨rfl, rfl⟩
theorem own_bit {b : Int32} {P R : Prop} (h : (b = 1 ∧ P) ∨ (b = 0 ∧ R)) : b = 0 ∨ b = 1 := h.elim (fun q => Or.inr q.1) (fun q => Or.inl q.1)
theorem own_bitT {b : Int32} {P R : Prop} (h : (b = 1 ∧ P) ∨ (b = 0 ∧ R)) (q : ¬ b = 0) : P := h.elim (fun z => z.2) (fun z => absurd z.1 q)
theorem own_bitF {b : Int32} {P R : Prop} (h : (b = 1 ∧ P) ∨ (b = 0 ∧ R)) (q : b = 0) : R := h.elim (fun z => by rw [z.1] at q; cases q) (fun z => z.2)
theorem own_if0 {P : Prop} [Decidable P] (h : (if P then (1 : Int32) else 0) = 0) : ¬ P := fun q => by rw [if_pos q] at h; cases h
theorem own_if1 {P : Prop} [Decidable P] (h : ¬ (if P then (1 : Int32) else 0) = 0) : P := by
  by_cases q : P
  · exact q
  · rw [if_neg q] at h; exact absurd rfl h
theorem getD_mem {cs : List Int32} {k : Nat} {d : Int32} (h : k < cs.length) : cs.getD k d ∈ cs := by
  rw [List.getD_eq_getElem?_getD, List.getElem?_eq_getElem h]; exact List.getElem_mem h
theorem getD_map {α : Type} {f : Int32 → α} {cs : List Int32} {k : Nat} {d : α} {e : Int32} (h : k < cs.length) : (cs.map f).getD k d = f (cs.getD k e) := by
  rw [List.getD_eq_getElem?_getD, List.getD_eq_getElem?_getD, List.getElem?_map, List.getElem?_eq_getElem h]; rfl
theorem getD_mid {α : Type} (d : α) (f : Int32 → α) (pre post : List Int32) (c : Int32) : ((pre ++ c :: post).map f).getD pre.length d = f c := by simp
theorem old_le {Z : State} {n0 : Nat} {h : Heap} (O : Old Z n0 h) : n0 ≤ h.size := O.1 ▸ O.2.1
theorem allL {α : Type} {P : α → Prop} {y : α} {L : List α} (q : P y) (r : ∀ x ∈ L, P x) : ∀ x ∈ y :: L, P x := fun x z => (List.mem_cons.mp z).elim (fun u => u ▸ q) (r x)
/-- a String of Latin-1 chars -/
def LStr (Z : State) (h : Heap) (x t : Addr) (cs : List Int32) : Prop :=
  Exa Z h x "java/lang/String" ∧ Fld Z h x "java/lang/String" "coder" "B" (.int 0) ∧ Fld Z h x "java/lang/String" "value" "[B" (.ref t) ∧
    (∃ kb, Arv Z h t kb .byte (Int32.ofNat cs.length) (cs.map lo8) (.int 0)) ∧ (∀ c ∈ cs, Lat c) ∧ cs.length ≤ 16
section StrF
variable {Z : State} {h h' : Heap} {x t : Addr} {cs : List Int32} {ws : List Addr} {a0 : Array Value}
theorem LStr.keep (F : LStr Z h x t cs) (K : Keep h h' ws) (q1 : x ∉ ws) (q2 : t ∉ ws) : LStr Z h' x t cs := by
  obtain ⟨F1, F2, F3, ⟨kb, F4⟩, F5⟩ := F
  exact ⟨F1.keep K, F2.keep K q1, F3.keep K q1, ⟨kb, F4.keep K q2⟩, F5⟩
theorem LStr.exa (F : LStr Z h x t cs) : Exa Z h x "java/lang/String" := F.1
theorem LStr.lt (F : LStr Z h x t cs) : x < h.size := F.1.lt
theorem LStr.ltT (F : LStr Z h x t cs) : t < h.size := by obtain ⟨-, -, -, ⟨_, F4⟩, -⟩ := F; exact F4.lt
theorem LStr.neT {a : Addr} {C : String} {n : Nat} (F : LStr Z h x t cs) (E : Exa Z h a C) (w : (Jvm.Cond.instantiable C n).before a0 Z = true) : a ≠ t := by
  obtain ⟨-, -, -, ⟨_, F4⟩, -⟩ := F; exact E.neArv F4 w
end StrF
/-- a String whose value is null yet is no booked one -/
theorem safe_null {Z : State} {h : Heap} {x : Addr} {EL : List (String × Nat)} {wd : Bool} {sf : List Addr} (E : Exa Z h x "java/lang/String") (FV : Fld Z h x "java/lang/String" "value" "[B" .null) : SafeFor wd Z EL sf h x := fun _ => Or.inr fun vm hal B => by
  obtain ⟨q0, hq0, u, a, hb, q, hqa, F, hx⟩ := B
  obtain ⟨cell, cf, k, i, f, f1, f2, f3, f4, f5, f6, f7⟩ := FV
  obtain ⟨cell', ke, e1, e2, e3, e4, e5⟩ := E
  cases f1.symm.trans e1
  obtain ⟨cS, ⟨⟨s1, s2, s3, ⟨cv, kv, iv, s4, s4'⟩, ⟨cc, kc, ic, s5, s5'⟩, s6, s7, s8, s9, s10, s11, s12, s13, s14, s15, s16⟩, hfS, hcS⟩, ⟨kS, k1, k2, k3⟩, hB, hbyt⟩ := F
  have s1 : h[q.sa]? = some q.sC := s1
  have s10 : h[q.sd]? = some q.SA := s10
  rcases hx with rfl | rfl
  · cases f1.symm.trans s1
    obtain ⟨kv', z4⟩ := ff_back (U := Wst Z vm h) hal s4
    cases f2.symm.trans z4
    rw [s8] at f7
    cases f7
  · cases f1.symm.trans s10
    obtain ⟨hst, k9, hk9, comp, hkind9⟩ := s11
    have hfS : vm.findClass "java/lang/String" = some cS := hfS
    have hk9 : vm.classes[q.SA.cls]? = some k9 := hk9
    have k1 : vm.classes[cS]? = some kS := k1
    rw [hal.findClass] at hfS
    have ec : cS = q.SA.cls := Option.some.inj (hfS.symm.trans e2)
    rw [ec] at k1
    cases k1.symm.trans hk9
    rw [k2] at hkind9
    cases hkind9
/-- an array written behind its first values -/
theorem Arv.push {Z : State} {h h' : Heap} {a : Addr} {k : ClassId} {ty : FieldType} {z j : Int32} {vs : List Value} {dv v : Value} (F : Arv Z h a k ty z vs dv) (hv : fits ty v = true) (W : Wr h h' a j.toNatClampNeg v) (hj : j.toNatClampNeg = vs.length) : Arv Z h' a k ty z (vs ++ [v]) dv := by
  have F' := F.pad (pad_rep vs dv 1)
  obtain ⟨c, A, q, S, N, H, U⟩ := F'
  have := Arv.set A q S N H U hv W vs.length hj (by simp)
  simpa using this
section PushR
variable {p : Program} {l : Launch} {e : Env} {R : Room} {s : State} {m : MethodId} {args : Array Value} {below : List Frame} {meth : Method} {c : Code}
  {own : String} {Z : State} {a0 : Array Value} {EL : List (String × Nat)} {n0 : Nat} {h0 : Heap} {ws : List Addr} {wd : Bool} {Q : Option Value → Heap → Prop}
  {sf : List Addr} {h : Heap} {cells slots : Nat} {code : ByteArray} {maxL : Nat} {ret : Option FieldType} {nm : String} {a : Addr}
theorem ok_bastoreA (G : Good p meth c code maxL ret nm) {pc : Nat} {L : Array Slot} {S : List Value} {kA : ClassId} {z j x : Int32} (x' : Int32) {vs : List Value} {dv : Value} (F : Arv Z h a kA .byte z vs dv) (hj : ¬ j < 0 ∧ j < z) (hi : j.toNatClampNeg = vs.length) (hv : nar .byte x = x') (hd : decode code pc = .ok (.bastore, 1))
    (hg : n0 ≤ a) (hw : a ∈ ws ∨ h0.size ≤ a) (hs : SafeFor wd Z EL sf h a)
    (k : ∀ h', Keep h h' [a] → Arv Z h' a kA .byte z (vs ++ [.int x']) dv → Ok p l e R s m args below meth c own Z a0 EL n0 h0 ws wd Q sf h' cells slots (mkF m (pc + 1) L S)) : Ok p l e R s m args below meth c own Z a0 EL n0 h0 ws wd Q sf h cells slots (mkF m pc L (.int x :: .int j :: .ref a :: S)) := by
  subst hv
  obtain ⟨cl, A, q, Sz, N, H, U⟩ := id F
  exact ok_stepW hg hw hs (fun vm T locs X e0 hZ hown O => stB X G.1 hZ e0 A (inb_of Sz hj) (g := mkF m pc L (.int x :: .int j :: .ref a :: S)) rfl rfl (hb G.2.1 hd)) (fun h' K W => k h' K (Arv.push F (fits_nar_byte _) W hi))
end PushR
end Jvm.Pilot.@@N@@.Own
namespace Jvm.Pilot.@@N@@.Own
open Jvm Jvm.ClassFile Sem Op Lib Jvm.Free Jvm.Stand Jvm.LawKit Jvm.RoadKit Bundle
/-! Strings of any chars: Latin-1 or UTF-16 -/
def Chr (c : Int32) : Prop := ¬ c < 0 ∧ ¬ (65535 : Int32) < c
abbrev hi8 (c : Int32) : Value := .int (c >>> ((8 : Int32) &&& 31)).toInt8.toInt32
def u16 : List Int32 → List Value
  | [] => []
  | c :: cs => lo8 c :: hi8 c :: u16 cs
theorem u16_app (as bs : List Int32) : u16 (as ++ bs) = u16 as ++ u16 bs := by
  induction as with
  | nil => rfl
  | cons a as ih => show lo8 a :: hi8 a :: u16 (as ++ bs) = _; rw [ih]; rfl
theorem u16_len (as : List Int32) : (u16 as).length = 2 * as.length := by
  induction as with
  | nil => rfl
  | cons a as ih => show (u16 as).length + 1 + 1 = _; rw [ih, List.length_cons]; omega
theorem u16_lo (pre post : List Int32) (c : Int32) (d : Value) : (u16 (pre ++ c :: post)).getD (2 * pre.length) d = lo8 c := by
  rw [u16_app, ← u16_len]; show (u16 pre ++ lo8 c :: hi8 c :: u16 post).getD _ _ = _; simp
theorem u16_hi (pre post : List Int32) (c : Int32) (d : Value) : (u16 (pre ++ c :: post)).getD (2 * pre.length + 1) d = hi8 c := by
  rw [u16_app, ← u16_len]; show (u16 pre ++ lo8 c :: hi8 c :: u16 post).getD _ _ = _; simp
theorem Chr.int {c : Int32} (h : Chr c) : 0 ≤ c.toInt ∧ c.toInt ≤ 65535 := by
  obtain ⟨h1, h2⟩ := h
  rw [Int32.lt_iff_toInt_lt] at h1 h2
  have e1 : (0 : Int32).toInt = 0 := rfl
  have e2 : (65535 : Int32).toInt = 65535 := rfl
  omega
theorem Chr.fits {c : Int32} (h : Chr c) : fits .char (.int c) = true := by
  have := h.int
  simp only [Jvm.fits, Bool.and_eq_true, decide_eq_true_eq, Int32.le_iff_toInt_le]
  have e1 : (0 : Int32).toInt = 0 := rfl
  have e2 : (65535 : Int32).toInt = 65535 := rfl
  omega
theorem Chr.nar {c : Int32} (h : Chr c) : nar .char c = c := nar_char h.fits
theorem Lat.chr {c : Int32} (h : Lat c) : Chr c := ⟨h.1, fun q => h.2 (by rw [Int32.lt_iff_toInt_lt] at *; have e1 : (65535 : Int32).toInt = 65535 := rfl; have e2 : (255 : Int32).toInt = 255 := rfl; omega)⟩
theorem chr_i2c (x : Int32) : Chr (x.toUInt32.toUInt16.toUInt32.toInt32) := by
  have := fits_nar_char x
  simp only [Jvm.fits, Bool.and_eq_true, decide_eq_true_eq, Int32.le_iff_toInt_le] at this
  have e1 : (0 : Int32).toInt = 0 := rfl
  have e2 : (65535 : Int32).toInt = 65535 := rfl
  have e3 : nar .char x = x.toUInt32.toUInt16.toUInt32.toInt32 := rfl
  rw [e3] at this
  exact ⟨by rw [Int32.lt_iff_toInt_lt]; omega, by rw [Int32.lt_iff_toInt_lt]; omega⟩
/-- a String of UTF-16 -/
def WStr (Z : State) (h : Heap) (x t : Addr) (cs : List Int32) : Prop :=
  Exa Z h x "java/lang/String" ∧ Fld Z h x "java/lang/String" "coder" "B" (.int 1) ∧ Fld Z h x "java/lang/String" "value" "[B" (.ref t) ∧
    (∃ kb, Arv Z h t kb .byte (Int32.ofNat (2 * cs.length)) (u16 cs) (.int 0)) ∧ (∀ c ∈ cs, Chr c) ∧ cs.length ≤ 8
def GStr (Z : State) (h : Heap) (x t : Addr) (cs : List Int32) : Prop := (LStr Z h x t cs ∧ cs.length ≤ 8) ∨ WStr Z h x t cs
section StrG
variable {Z : State} {h h' : Heap} {x t : Addr} {cs : List Int32} {ws : List Addr} {a0 : Array Value}
theorem WStr.keep (F : WStr Z h x t cs) (K : Keep h h' ws) (q1 : x ∉ ws) (q2 : t ∉ ws) : WStr Z h' x t cs := by
  obtain ⟨F1, F2, F3, ⟨kb, F4⟩, F5⟩ := F
  exact ⟨F1.keep K, F2.keep K q1, F3.keep K q1, ⟨kb, F4.keep K q2⟩, F5⟩
theorem GStr.keep (F : GStr Z h x t cs) (K : Keep h h' ws) (q1 : x ∉ ws) (q2 : t ∉ ws) : GStr Z h' x t cs := F.imp (fun q => ⟨q.1.keep K q1 q2, q.2⟩) (fun q => q.keep K q1 q2)
theorem GStr.exa (F : GStr Z h x t cs) : Exa Z h x "java/lang/String" := F.elim (fun q => q.1.1) (fun q => q.1)
theorem GStr.lt (F : GStr Z h x t cs) : x < h.size := F.exa.lt
theorem GStr.ltT (F : GStr Z h x t cs) : t < h.size := F.elim (fun q => q.1.ltT) (fun q => by obtain ⟨-, -, -, ⟨_, F4⟩, -⟩ := q; exact F4.lt)
theorem GStr.neT {a : Addr} {C : String} {n : Nat} (F : GStr Z h x t cs) (E : Exa Z h a C) (w : (Jvm.Cond.instantiable C n).before a0 Z = true) : a ≠ t := F.elim (fun q => q.1.neT E w) (fun q => by obtain ⟨-, -, -, ⟨_, F4⟩, -⟩ := q; exact E.neArv F4 w)
theorem GStr.chr (F : GStr Z h x t cs) : ∀ c ∈ cs, Chr c := F.elim (fun q c hc => (q.1.2.2.2.2.1 c hc).chr) (fun q => q.2.2.2.2.1)
theorem GStr.len (F : GStr Z h x t cs) : cs.length ≤ 8 := F.elim (fun q => q.2) (fun q => q.2.2.2.2.2)
end StrG
/-! finite facts -/
theorem dbl_shl {k : Nat} (h : k ≤ 8) : Int32.ofNat k <<< ((1 : Int32) &&& 31) = Int32.ofNat (2 * k) := by
  have t : ∀ k : Fin 9, Int32.ofNat k.val <<< ((1 : Int32) &&& 31) = Int32.ofNat (2 * k.val) := by decide +kernel
  exact t ⟨k, by omega⟩
theorem dbl_shr {k : Nat} (h : k ≤ 8) : Int32.ofNat (2 * k) >>> ((1 : Int32) &&& 31) = Int32.ofNat k := by
  have t : ∀ k : Fin 9, Int32.ofNat (2 * k.val) >>> ((1 : Int32) &&& 31) = Int32.ofNat k.val := by decide +kernel
  exact t ⟨k, by omega⟩
theorem cod_one {k : Nat} (h0 : 0 < k) (h : k ≤ 8) : ((Int32.ofNat k - Int32.ofNat (2 * k)).toUInt32 >>> ((31 : Int32) &&& 31).toUInt32).toInt32.toInt8.toInt32 = 1 := by
  have t : ∀ k : Fin 8, ((Int32.ofNat (k.val + 1) - Int32.ofNat (2 * (k.val + 1))).toUInt32 >>> ((31 : Int32) &&& 31).toUInt32).toInt32.toInt8.toInt32 = 1 := by decide +kernel
  have := t ⟨k - 1, by omega⟩
  rwa [show k - 1 + 1 = k by omega] at this
theorem shr0 (c : Int32) : c >>> ((0 : Int32) &&& 31) = c := by
  have : ((0 : Int32) &&& 31) = 0 := by decide
  rw [this]; simp
theorem shl0 (c : Int32) : c <<< ((0 : Int32) &&& 31) = c := by
  have : ((0 : Int32) &&& 31) = 0 := by decide
  rw [this]; simp
theorem byte_and (x : BitVec 32) : ((x.signExtend 8).signExtend 32) &&& 255#32 = x &&& 255#32 := by
  apply BitVec.eq_of_getLsbD_eq
  intro i hi
  simp only [BitVec.getLsbD_and, BitVec.getLsbD_signExtend]
  by_cases h : i < 8
  · simp [h, hi]
  · have : (255#32).getLsbD i = false := by
      have e : ∀ i : Fin 32, ¬ i.val < 8 → (255#32).getLsbD i.val = false := by decide
      exact e ⟨i, hi⟩ h
    simp [this]
theorem m255 (i : Nat) (hi : i < 32) : (255#32).getLsbD i = decide (i < 8) := by
  have e : ∀ i : Fin 32, (255#32).getLsbD i.val = decide (i.val < 8) := by decide
  exact e ⟨i, hi⟩
theorem two_bytes (v : BitVec 32) (h : v.toNat < 65536) : ((((v &&& 255#32) ||| ((v.sshiftRight 8 &&& 255#32) <<< 8)).setWidth 16).setWidth 32) = v := by
  have hz : ∀ i, 16 ≤ i → v.getLsbD i = false := fun i hi => by
    show v.toNat.testBit i = false
    exact Nat.testBit_lt_two_pow (Nat.lt_of_lt_of_le h (Nat.pow_le_pow_right (n := 2) (by decide) hi))
  apply BitVec.eq_of_getLsbD_eq
  intro i hi
  simp only [BitVec.getLsbD_setWidth, BitVec.getLsbD_or, BitVec.getLsbD_and, BitVec.getLsbD_shiftLeft, BitVec.getLsbD_sshiftRight]
  by_cases h16 : i < 16
  · by_cases h8 : i < 8
    · simp [m255 i hi, h8, h16, hi]
    · have h3 : (255#32).getLsbD (i - 8) = true := by rw [m255 _ (by omega)]; simp; omega
      have h4 : 8 + (i - 8) = i := by omega
      have h5 : (255#32).getLsbD i = false := by rw [m255 _ hi]; simp; omega
      rw [h3, h5, h4]
      simp [h8, h16, hi]
      try omega
  · rw [hz i (by omega)]; simp [h16]
/-- two bytes make the char again -/
theorem Chr.back {c : Int32} (h : Chr c) : ((((c.toInt8.toInt32 &&& (255 : Int32)) <<< ((0 : Int32) &&& 31)) ||| (((c >>> ((8 : Int32) &&& 31)).toInt8.toInt32 &&& (255 : Int32)) <<< ((8 : Int32) &&& 31))).toUInt32.toUInt16.toUInt32.toInt32) = c := by
  apply Int32.toBitVec_inj.mp
  have hn : c.toBitVec.toNat < 65536 := by
    have hi := h.int
    have e : c.toInt = c.toBitVec.toInt := rfl
    rw [BitVec.toInt_eq_toNat_cond] at e
    split at e <;> omega
  show ((((((c.toBitVec.signExtend 8).signExtend 32) &&& 255#32) <<< 0) ||| (((((c.toBitVec.sshiftRight 8).signExtend 8).signExtend 32) &&& 255#32) <<< 8)).setWidth 16).setWidth 32 = c.toBitVec
  rw [byte_and, byte_and, BitVec.shiftLeft_zero]
  exact two_bytes _ hn
end Jvm.Pilot.@@N@@.Own
namespace Jvm.Pilot.@@N@@
open Jvm Jvm.ClassFile Sem Op Lib Jvm.Free Jvm.Stand Jvm.LawKit Jvm.RoadKit Bundle Jvm.Pilot.@@N@@.Jvm.D Jvm.Pilot.@@N@@.Own
def Cx (Z : State) (a0 : Array Value) : Prop := (∀ d ∈ tables_1, d.before a0 Z = true) ∧ (∃ cz : Int32, Sta Z Z.heap "java/lang/String" "COMPACT_STRINGS" "Z" (.int cz) ∧ ¬ cz = 0) ∧ (∃ fm : Value, Sta Z Z.heap "jdk/internal/util/Preconditions" "SIOOBE_FORMATTER" "Ljava/util/function/BiFunction;" fm ∧ (fm = .null ∨ ∃ fa, fm = .ref fa)) ∧ (Sta Z Z.heap "java/lang/StringUTF16" "$assertionsDisabled" "Z" (.int 1) ∧ Sta Z Z.heap "java/lang/StringUTF16" "HI_BYTE_SHIFT" "I" (.int 0) ∧ Sta Z Z.heap "java/lang/StringUTF16" "LO_BYTE_SHIFT" "I" (.int 8))
theorem Cx.w0 {Z : State} {a0 : Array Value} (C : Cx Z a0) : (Jvm.Cond.constant "com/example/knot1/knot1/core/KeptTextsCanKeepPinLaw" (7 : Nat) (65535 : Int32)).before a0 Z = true := C.1 _ (List.mem_of_getElem? (i := 0) rfl)
theorem Cx.w1 {Z : State} {a0 : Array Value} (C : Cx Z a0) : (Jvm.Cond.classLink "com/example/knot1/knot1/core/KeptTextsCanKeepPinLaw" (8 : Nat) "java/lang/String").before a0 Z = true := C.1 _ (List.mem_of_getElem? (i := 1) rfl)
theorem Cx.w2 {Z : State} {a0 : Array Value} (C : Cx Z a0) : (Jvm.Cond.instantiable "java/lang/String" (4 : Nat)).before a0 Z = true := C.1 _ (List.mem_of_getElem? (i := 2) rfl)
theorem Cx.w3 {Z : State} {a0 : Array Value} (C : Cx Z a0) : (Jvm.Cond.initialized "java/lang/String").before a0 Z = true := C.1 _ (List.mem_of_getElem? (i := 3) rfl)
theorem Cx.w4 {Z : State} {a0 : Array Value} (C : Cx Z a0) : (Jvm.Cond.arrayClass Jvm.ClassFile.FieldType.char).before a0 Z = true := C.1 _ (List.mem_of_getElem? (i := 4) rfl)
theorem Cx.w5 {Z : State} {a0 : Array Value} (C : Cx Z a0) : (Jvm.Cond.methodLink "com/example/knot1/knot1/core/KeptTextsCanKeepPinLaw" (10 : Nat) ({ cls := "java/lang/String", name := "<init>", desc := "([C)V" } : Jvm.MethodName)).before a0 Z = true := C.1 _ (List.mem_of_getElem? (i := 5) rfl)
theorem Cx.w6 {Z : State} {a0 : Array Value} (C : Cx Z a0) : (Jvm.Cond.instanceMethod ({ cls := "java/lang/String", name := "<init>", desc := "([C)V" } : Jvm.MethodName)).before a0 Z = true := C.1 _ (List.mem_of_getElem? (i := 6) rfl)
theorem Cx.w7 {Z : State} {a0 : Array Value} (C : Cx Z a0) : (Jvm.Cond.code ({ cls := "java/lang/String", name := "<init>", desc := "([C)V" } : Jvm.MethodName) jdk_42_method_3_code (2 : Nat) (Option.none : Option Jvm.ClassFile.FieldType)).before a0 Z = true := C.1 _ (List.mem_of_getElem? (i := 7) rfl)
theorem Cx.w8 {Z : State} {a0 : Array Value} (C : Cx Z a0) : (Jvm.Cond.methodLink "java/lang/String" (27 : Nat) ({ cls := "java/lang/String", name := "<init>", desc := "([CIILjava/lang/Void;)V" } : Jvm.MethodName)).before a0 Z = true := C.1 _ (List.mem_of_getElem? (i := 8) rfl)
theorem Cx.w9 {Z : State} {a0 : Array Value} (C : Cx Z a0) : (Jvm.Cond.instanceMethod ({ cls := "java/lang/String", name := "<init>", desc := "([CIILjava/lang/Void;)V" } : Jvm.MethodName)).before a0 Z = true := C.1 _ (List.mem_of_getElem? (i := 9) rfl)
theorem Cx.w11 {Z : State} {a0 : Array Value} (C : Cx Z a0) : (Jvm.Cond.code ({ cls := "java/lang/String", name := "<init>", desc := "([CIILjava/lang/Void;)V" } : Jvm.MethodName) jdk_42_method_149_code (6 : Nat) (Option.none : Option Jvm.ClassFile.FieldType)).before a0 Z = true := C.1 _ (List.mem_of_getElem? (i := 11) rfl)
theorem Cx.w12 {Z : State} {a0 : Array Value} (C : Cx Z a0) : (Jvm.Cond.methodLink "java/lang/String" (1 : Nat) ({ cls := "java/lang/Object", name := "<init>", desc := "()V" } : Jvm.MethodName)).before a0 Z = true := C.1 _ (List.mem_of_getElem? (i := 12) rfl)
theorem Cx.w13 {Z : State} {a0 : Array Value} (C : Cx Z a0) : (Jvm.Cond.instanceMethod ({ cls := "java/lang/Object", name := "<init>", desc := "()V" } : Jvm.MethodName)).before a0 Z = true := C.1 _ (List.mem_of_getElem? (i := 13) rfl)
theorem Cx.w14 {Z : State} {a0 : Array Value} (C : Cx Z a0) : (Jvm.Cond.code ({ cls := "java/lang/Object", name := "<init>", desc := "()V" } : Jvm.MethodName) object_method_1_code (1 : Nat) (Option.none : Option Jvm.ClassFile.FieldType)).before a0 Z = true := C.1 _ (List.mem_of_getElem? (i := 14) rfl)
theorem Cx.w15 {Z : State} {a0 : Array Value} (C : Cx Z a0) : (Jvm.Cond.stringLink "java/lang/String" (7 : Nat) "").before a0 Z = true := C.1 _ (List.mem_of_getElem? (i := 15) rfl)
theorem Cx.w16 {Z : State} {a0 : Array Value} (C : Cx Z a0) : (Jvm.Cond.arrayClass Jvm.ClassFile.FieldType.byte).before a0 Z = true := C.1 _ (List.mem_of_getElem? (i := 16) rfl)
theorem Cx.w17 {Z : State} {a0 : Array Value} (C : Cx Z a0) : (Jvm.Cond.laysFinal "java/lang/String" "java/lang/String" "value" "[B").before a0 Z = true := C.1 _ (List.mem_of_getElem? (i := 17) rfl)
theorem Cx.w18 {Z : State} {a0 : Array Value} (C : Cx Z a0) : (Jvm.Cond.laysFinal "java/lang/String" "java/lang/String" "coder" "B").before a0 Z = true := C.1 _ (List.mem_of_getElem? (i := 18) rfl)
theorem Cx.w21 {Z : State} {a0 : Array Value} (C : Cx Z a0) : (Jvm.Cond.fieldLink "java/lang/String" (9 : Nat) "java/lang/String" "value" "[B").before a0 Z = true := C.1 _ (List.mem_of_getElem? (i := 21) rfl)
theorem Cx.w22 {Z : State} {a0 : Array Value} (C : Cx Z a0) : (Jvm.Cond.fieldLink "java/lang/String" (15 : Nat) "java/lang/String" "coder" "B").before a0 Z = true := C.1 _ (List.mem_of_getElem? (i := 22) rfl)
theorem Cx.w23 {Z : State} {a0 : Array Value} (C : Cx Z a0) : (Jvm.Cond.methodLink "com/example/knot1/knot1/core/KeptTextsCanKeepPinLaw" (13 : Nat) ({ cls := "com/example/knot1/knot1/core/KeptTexts", name := "canKeep", desc := "(Ljava/lang/String;)Z" } : Jvm.MethodName)).before a0 Z = true := C.1 _ (List.mem_of_getElem? (i := 23) rfl)
theorem Cx.w24 {Z : State} {a0 : Array Value} (C : Cx Z a0) : (Jvm.Cond.static ({ cls := "com/example/knot1/knot1/core/KeptTexts", name := "canKeep", desc := "(Ljava/lang/String;)Z" } : Jvm.MethodName)).before a0 Z = true := C.1 _ (List.mem_of_getElem? (i := 24) rfl)
theorem Cx.w25 {Z : State} {a0 : Array Value} (C : Cx Z a0) : (Jvm.Cond.initialized "com/example/knot1/knot1/core/KeptTexts").before a0 Z = true := C.1 _ (List.mem_of_getElem? (i := 25) rfl)
theorem Cx.w26 {Z : State} {a0 : Array Value} (C : Cx Z a0) : (Jvm.Cond.code ({ cls := "com/example/knot1/knot1/core/KeptTexts", name := "canKeep", desc := "(Ljava/lang/String;)Z" } : Jvm.MethodName) prog_3_method_2_code (1 : Nat) (Option.some Jvm.ClassFile.FieldType.boolean)).before a0 Z = true := C.1 _ (List.mem_of_getElem? (i := 26) rfl)
theorem Cx.w27 {Z : State} {a0 : Array Value} (C : Cx Z a0) : (Jvm.Cond.methodLink "com/example/knot1/knot1/core/KeptTexts" (9 : Nat) ({ cls := "java/lang/String", name := "indexOf", desc := "(I)I" } : Jvm.MethodName)).before a0 Z = true := C.1 _ (List.mem_of_getElem? (i := 27) rfl)
theorem Cx.w28 {Z : State} {a0 : Array Value} (C : Cx Z a0) : (Jvm.Cond.declares ({ cls := "java/lang/String", name := "indexOf", desc := "(I)I" } : Jvm.MethodName)).before a0 Z = true := C.1 _ (List.mem_of_getElem? (i := 28) rfl)
theorem Cx.w29 {Z : State} {a0 : Array Value} (C : Cx Z a0) : (Jvm.Cond.instanceMethod ({ cls := "java/lang/String", name := "indexOf", desc := "(I)I" } : Jvm.MethodName)).before a0 Z = true := C.1 _ (List.mem_of_getElem? (i := 29) rfl)
theorem Cx.w30 {Z : State} {a0 : Array Value} (C : Cx Z a0) : (Jvm.Cond.selects "java/lang/String" ({ cls := "java/lang/String", name := "indexOf", desc := "(I)I" } : Jvm.MethodName) ({ cls := "java/lang/String", name := "indexOf", desc := "(I)I" } : Jvm.MethodName)).before a0 Z = true := C.1 _ (List.mem_of_getElem? (i := 30) rfl)
theorem Cx.w31 {Z : State} {a0 : Array Value} (C : Cx Z a0) : (Jvm.Cond.code ({ cls := "java/lang/String", name := "indexOf", desc := "(I)I" } : Jvm.MethodName) jdk_42_method_79_code (2 : Nat) (Option.some Jvm.ClassFile.FieldType.int)).before a0 Z = true := C.1 _ (List.mem_of_getElem? (i := 31) rfl)
theorem Cx.w32 {Z : State} {a0 : Array Value} (C : Cx Z a0) : (Jvm.Cond.methodLink "java/lang/String" (633 : Nat) ({ cls := "java/lang/String", name := "indexOf", desc := "(II)I" } : Jvm.MethodName)).before a0 Z = true := C.1 _ (List.mem_of_getElem? (i := 32) rfl)
theorem Cx.w33 {Z : State} {a0 : Array Value} (C : Cx Z a0) : (Jvm.Cond.declares ({ cls := "java/lang/String", name := "indexOf", desc := "(II)I" } : Jvm.MethodName)).before a0 Z = true := C.1 _ (List.mem_of_getElem? (i := 33) rfl)
theorem Cx.w34 {Z : State} {a0 : Array Value} (C : Cx Z a0) : (Jvm.Cond.instanceMethod ({ cls := "java/lang/String", name := "indexOf", desc := "(II)I" } : Jvm.MethodName)).before a0 Z = true := C.1 _ (List.mem_of_getElem? (i := 34) rfl)
theorem Cx.w35 {Z : State} {a0 : Array Value} (C : Cx Z a0) : (Jvm.Cond.selects "java/lang/String" ({ cls := "java/lang/String", name := "indexOf", desc := "(II)I" } : Jvm.MethodName) ({ cls := "java/lang/String", name := "indexOf", desc := "(II)I" } : Jvm.MethodName)).before a0 Z = true := C.1 _ (List.mem_of_getElem? (i := 35) rfl)
theorem Cx.w36 {Z : State} {a0 : Array Value} (C : Cx Z a0) : (Jvm.Cond.code ({ cls := "java/lang/String", name := "indexOf", desc := "(II)I" } : Jvm.MethodName) jdk_42_method_80_code (3 : Nat) (Option.some Jvm.ClassFile.FieldType.int)).before a0 Z = true := C.1 _ (List.mem_of_getElem? (i := 36) rfl)
theorem Cx.w37 {Z : State} {a0 : Array Value} (C : Cx Z a0) : (Jvm.Cond.methodLink "java/lang/String" (492 : Nat) ({ cls := "java/lang/String", name := "isLatin1", desc := "()Z" } : Jvm.MethodName)).before a0 Z = true := C.1 _ (List.mem_of_getElem? (i := 37) rfl)
theorem Cx.w38 {Z : State} {a0 : Array Value} (C : Cx Z a0) : (Jvm.Cond.declares ({ cls := "java/lang/String", name := "isLatin1", desc := "()Z" } : Jvm.MethodName)).before a0 Z = true := C.1 _ (List.mem_of_getElem? (i := 38) rfl)
theorem Cx.w39 {Z : State} {a0 : Array Value} (C : Cx Z a0) : (Jvm.Cond.instanceMethod ({ cls := "java/lang/String", name := "isLatin1", desc := "()Z" } : Jvm.MethodName)).before a0 Z = true := C.1 _ (List.mem_of_getElem? (i := 39) rfl)
theorem Cx.w40 {Z : State} {a0 : Array Value} (C : Cx Z a0) : (Jvm.Cond.selects "java/lang/String" ({ cls := "java/lang/String", name := "isLatin1", desc := "()Z" } : Jvm.MethodName) ({ cls := "java/lang/String", name := "isLatin1", desc := "()Z" } : Jvm.MethodName)).before a0 Z = true := C.1 _ (List.mem_of_getElem? (i := 40) rfl)
theorem Cx.w41 {Z : State} {a0 : Array Value} (C : Cx Z a0) : (Jvm.Cond.code ({ cls := "java/lang/String", name := "isLatin1", desc := "()Z" } : Jvm.MethodName) jdk_42_method_154_code (1 : Nat) (Option.some Jvm.ClassFile.FieldType.boolean)).before a0 Z = true := C.1 _ (List.mem_of_getElem? (i := 41) rfl)
theorem Cx.w42 {Z : State} {a0 : Array Value} (C : Cx Z a0) : (Jvm.Cond.fieldLink "java/lang/String" (38 : Nat) "java/lang/String" "COMPACT_STRINGS" "Z").before a0 Z = true := C.1 _ (List.mem_of_getElem? (i := 42) rfl)
theorem Cx.w43 {Z : State} {a0 : Array Value} (C : Cx Z a0) : (Jvm.Cond.methodLink "java/lang/String" (505 : Nat) ({ cls := "java/lang/String", name := "length", desc := "()I" } : Jvm.MethodName)).before a0 Z = true := C.1 _ (List.mem_of_getElem? (i := 43) rfl)
theorem Cx.w44 {Z : State} {a0 : Array Value} (C : Cx Z a0) : (Jvm.Cond.declares ({ cls := "java/lang/String", name := "length", desc := "()I" } : Jvm.MethodName)).before a0 Z = true := C.1 _ (List.mem_of_getElem? (i := 44) rfl)
theorem Cx.w45 {Z : State} {a0 : Array Value} (C : Cx Z a0) : (Jvm.Cond.instanceMethod ({ cls := "java/lang/String", name := "length", desc := "()I" } : Jvm.MethodName)).before a0 Z = true := C.1 _ (List.mem_of_getElem? (i := 45) rfl)
theorem Cx.w46 {Z : State} {a0 : Array Value} (C : Cx Z a0) : (Jvm.Cond.selects "java/lang/String" ({ cls := "java/lang/String", name := "length", desc := "()I" } : Jvm.MethodName) ({ cls := "java/lang/String", name := "length", desc := "()I" } : Jvm.MethodName)).before a0 Z = true := C.1 _ (List.mem_of_getElem? (i := 46) rfl)
theorem Cx.w47 {Z : State} {a0 : Array Value} (C : Cx Z a0) : (Jvm.Cond.code ({ cls := "java/lang/String", name := "length", desc := "()I" } : Jvm.MethodName) jdk_42_method_54_code (1 : Nat) (Option.some Jvm.ClassFile.FieldType.int)).before a0 Z = true := C.1 _ (List.mem_of_getElem? (i := 47) rfl)
theorem Cx.w48 {Z : State} {a0 : Array Value} (C : Cx Z a0) : (Jvm.Cond.methodLink "java/lang/String" (335 : Nat) ({ cls := "java/lang/String", name := "coder", desc := "()B" } : Jvm.MethodName)).before a0 Z = true := C.1 _ (List.mem_of_getElem? (i := 48) rfl)
theorem Cx.w49 {Z : State} {a0 : Array Value} (C : Cx Z a0) : (Jvm.Cond.declares ({ cls := "java/lang/String", name := "coder", desc := "()B" } : Jvm.MethodName)).before a0 Z = true := C.1 _ (List.mem_of_getElem? (i := 49) rfl)
theorem Cx.w50 {Z : State} {a0 : Array Value} (C : Cx Z a0) : (Jvm.Cond.instanceMethod ({ cls := "java/lang/String", name := "coder", desc := "()B" } : Jvm.MethodName)).before a0 Z = true := C.1 _ (List.mem_of_getElem? (i := 50) rfl)
theorem Cx.w51 {Z : State} {a0 : Array Value} (C : Cx Z a0) : (Jvm.Cond.selects "java/lang/String" ({ cls := "java/lang/String", name := "coder", desc := "()B" } : Jvm.MethodName) ({ cls := "java/lang/String", name := "coder", desc := "()B" } : Jvm.MethodName)).before a0 Z = true := C.1 _ (List.mem_of_getElem? (i := 51) rfl)
theorem Cx.w52 {Z : State} {a0 : Array Value} (C : Cx Z a0) : (Jvm.Cond.code ({ cls := "java/lang/String", name := "coder", desc := "()B" } : Jvm.MethodName) jdk_42_method_152_code (1 : Nat) (Option.some Jvm.ClassFile.FieldType.byte)).before a0 Z = true := C.1 _ (List.mem_of_getElem? (i := 52) rfl)
theorem Cx.w53 {Z : State} {a0 : Array Value} (C : Cx Z a0) : (Jvm.Cond.methodLink "java/lang/String" (637 : Nat) ({ cls := "java/lang/StringLatin1", name := "indexOf", desc := "([BIII)I" } : Jvm.MethodName)).before a0 Z = true := C.1 _ (List.mem_of_getElem? (i := 53) rfl)
theorem Cx.w54 {Z : State} {a0 : Array Value} (C : Cx Z a0) : (Jvm.Cond.static ({ cls := "java/lang/StringLatin1", name := "indexOf", desc := "([BIII)I" } : Jvm.MethodName)).before a0 Z = true := C.1 _ (List.mem_of_getElem? (i := 54) rfl)
theorem Cx.w55 {Z : State} {a0 : Array Value} (C : Cx Z a0) : (Jvm.Cond.initialized "java/lang/StringLatin1").before a0 Z = true := C.1 _ (List.mem_of_getElem? (i := 55) rfl)
theorem Cx.w56 {Z : State} {a0 : Array Value} (C : Cx Z a0) : (Jvm.Cond.code ({ cls := "java/lang/StringLatin1", name := "indexOf", desc := "([BIII)I" } : Jvm.MethodName) jdk_43_method_22_code (4 : Nat) (Option.some Jvm.ClassFile.FieldType.int)).before a0 Z = true := C.1 _ (List.mem_of_getElem? (i := 56) rfl)
theorem Cx.w57 {Z : State} {a0 : Array Value} (C : Cx Z a0) : (Jvm.Cond.methodLink "java/lang/StringLatin1" (88 : Nat) ({ cls := "java/lang/StringLatin1", name := "canEncode", desc := "(I)Z" } : Jvm.MethodName)).before a0 Z = true := C.1 _ (List.mem_of_getElem? (i := 57) rfl)
theorem Cx.w58 {Z : State} {a0 : Array Value} (C : Cx Z a0) : (Jvm.Cond.static ({ cls := "java/lang/StringLatin1", name := "canEncode", desc := "(I)Z" } : Jvm.MethodName)).before a0 Z = true := C.1 _ (List.mem_of_getElem? (i := 58) rfl)
theorem Cx.w59 {Z : State} {a0 : Array Value} (C : Cx Z a0) : (Jvm.Cond.code ({ cls := "java/lang/StringLatin1", name := "canEncode", desc := "(I)Z" } : Jvm.MethodName) jdk_43_method_4_code (1 : Nat) (Option.some Jvm.ClassFile.FieldType.boolean)).before a0 Z = true := C.1 _ (List.mem_of_getElem? (i := 59) rfl)
theorem Cx.w60 {Z : State} {a0 : Array Value} (C : Cx Z a0) : (Jvm.Cond.methodLink "java/lang/StringLatin1" (92 : Nat) ({ cls := "java/lang/Math", name := "max", desc := "(II)I" } : Jvm.MethodName)).before a0 Z = true := C.1 _ (List.mem_of_getElem? (i := 60) rfl)
theorem Cx.w61 {Z : State} {a0 : Array Value} (C : Cx Z a0) : (Jvm.Cond.static ({ cls := "java/lang/Math", name := "max", desc := "(II)I" } : Jvm.MethodName)).before a0 Z = true := C.1 _ (List.mem_of_getElem? (i := 61) rfl)
theorem Cx.w62 {Z : State} {a0 : Array Value} (C : Cx Z a0) : (Jvm.Cond.initialized "java/lang/Math").before a0 Z = true := C.1 _ (List.mem_of_getElem? (i := 62) rfl)
theorem Cx.w63 {Z : State} {a0 : Array Value} (C : Cx Z a0) : (Jvm.Cond.code ({ cls := "java/lang/Math", name := "max", desc := "(II)I" } : Jvm.MethodName) jdk_29_method_65_code (2 : Nat) (Option.some Jvm.ClassFile.FieldType.int)).before a0 Z = true := C.1 _ (List.mem_of_getElem? (i := 63) rfl)
theorem Cx.w64 {Z : State} {a0 : Array Value} (C : Cx Z a0) : (Jvm.Cond.methodLink "java/lang/StringLatin1" (38 : Nat) ({ cls := "java/lang/Math", name := "min", desc := "(II)I" } : Jvm.MethodName)).before a0 Z = true := C.1 _ (List.mem_of_getElem? (i := 64) rfl)
theorem Cx.w65 {Z : State} {a0 : Array Value} (C : Cx Z a0) : (Jvm.Cond.static ({ cls := "java/lang/Math", name := "min", desc := "(II)I" } : Jvm.MethodName)).before a0 Z = true := C.1 _ (List.mem_of_getElem? (i := 65) rfl)
theorem Cx.w66 {Z : State} {a0 : Array Value} (C : Cx Z a0) : (Jvm.Cond.code ({ cls := "java/lang/Math", name := "min", desc := "(II)I" } : Jvm.MethodName) jdk_29_method_69_code (2 : Nat) (Option.some Jvm.ClassFile.FieldType.int)).before a0 Z = true := C.1 _ (List.mem_of_getElem? (i := 66) rfl)
theorem Cx.w67 {Z : State} {a0 : Array Value} (C : Cx Z a0) : (Jvm.Cond.methodLink "java/lang/String" (177 : Nat) ({ cls := "java/lang/StringUTF16", name := "compress", desc := "([CII)[B" } : Jvm.MethodName)).before a0 Z = true := C.1 _ (List.mem_of_getElem? (i := 67) rfl)
theorem Cx.w68 {Z : State} {a0 : Array Value} (C : Cx Z a0) : (Jvm.Cond.static ({ cls := "java/lang/StringUTF16", name := "compress", desc := "([CII)[B" } : Jvm.MethodName)).before a0 Z = true := C.1 _ (List.mem_of_getElem? (i := 68) rfl)
theorem Cx.w69 {Z : State} {a0 : Array Value} (C : Cx Z a0) : (Jvm.Cond.initialized "java/lang/StringUTF16").before a0 Z = true := C.1 _ (List.mem_of_getElem? (i := 69) rfl)
theorem Cx.w70 {Z : State} {a0 : Array Value} (C : Cx Z a0) : (Jvm.Cond.code ({ cls := "java/lang/StringUTF16", name := "compress", desc := "([CII)[B" } : Jvm.MethodName) jdk_52_method_16_code (6 : Nat) (Option.some (Jvm.ClassFile.FieldType.array Jvm.ClassFile.FieldType.byte))).before a0 Z = true := C.1 _ (List.mem_of_getElem? (i := 70) rfl)
theorem Cx.w71 {Z : State} {a0 : Array Value} (C : Cx Z a0) : (Jvm.Cond.methodLink "java/lang/StringUTF16" (115 : Nat) ({ cls := "java/lang/StringUTF16", name := "compress", desc := "([CI[BII)I" } : Jvm.MethodName)).before a0 Z = true := C.1 _ (List.mem_of_getElem? (i := 71) rfl)
theorem Cx.w72 {Z : State} {a0 : Array Value} (C : Cx Z a0) : (Jvm.Cond.static ({ cls := "java/lang/StringUTF16", name := "compress", desc := "([CI[BII)I" } : Jvm.MethodName)).before a0 Z = true := C.1 _ (List.mem_of_getElem? (i := 72) rfl)
theorem Cx.w73 {Z : State} {a0 : Array Value} (C : Cx Z a0) : (Jvm.Cond.code ({ cls := "java/lang/StringUTF16", name := "compress", desc := "([CI[BII)I" } : Jvm.MethodName) jdk_52_method_21_code (7 : Nat) (Option.some Jvm.ClassFile.FieldType.int)).before a0 Z = true := C.1 _ (List.mem_of_getElem? (i := 73) rfl)
theorem Cx.w74 {Z : State} {a0 : Array Value} (C : Cx Z a0) : (Jvm.Cond.methodLink "java/lang/StringUTF16" (119 : Nat) ({ cls := "java/lang/StringUTF16", name := "toBytes", desc := "([CII)[B" } : Jvm.MethodName)).before a0 Z = true := C.1 _ (List.mem_of_getElem? (i := 74) rfl)
theorem Cx.w75 {Z : State} {a0 : Array Value} (C : Cx Z a0) : (Jvm.Cond.static ({ cls := "java/lang/StringUTF16", name := "toBytes", desc := "([CII)[B" } : Jvm.MethodName)).before a0 Z = true := C.1 _ (List.mem_of_getElem? (i := 75) rfl)
theorem Cx.w76 {Z : State} {a0 : Array Value} (C : Cx Z a0) : (Jvm.Cond.code ({ cls := "java/lang/StringUTF16", name := "toBytes", desc := "([CII)[B" } : Jvm.MethodName) jdk_52_method_14_code (5 : Nat) (Option.some (Jvm.ClassFile.FieldType.array Jvm.ClassFile.FieldType.byte))).before a0 Z = true := C.1 _ (List.mem_of_getElem? (i := 76) rfl)
theorem Cx.w77 {Z : State} {a0 : Array Value} (C : Cx Z a0) : (Jvm.Cond.methodLink "java/lang/StringUTF16" (107 : Nat) ({ cls := "java/lang/StringUTF16", name := "newBytesFor", desc := "(I)[B" } : Jvm.MethodName)).before a0 Z = true := C.1 _ (List.mem_of_getElem? (i := 77) rfl)
theorem Cx.w78 {Z : State} {a0 : Array Value} (C : Cx Z a0) : (Jvm.Cond.static ({ cls := "java/lang/StringUTF16", name := "newBytesFor", desc := "(I)[B" } : Jvm.MethodName)).before a0 Z = true := C.1 _ (List.mem_of_getElem? (i := 78) rfl)
theorem Cx.w79 {Z : State} {a0 : Array Value} (C : Cx Z a0) : (Jvm.Cond.code ({ cls := "java/lang/StringUTF16", name := "newBytesFor", desc := "(I)[B" } : Jvm.MethodName) jdk_52_method_2_code (1 : Nat) (Option.some (Jvm.ClassFile.FieldType.array Jvm.ClassFile.FieldType.byte))).before a0 Z = true := C.1 _ (List.mem_of_getElem? (i := 79) rfl)
theorem Cx.w80 {Z : State} {a0 : Array Value} (C : Cx Z a0) : (Jvm.Cond.methodLink "java/lang/StringUTF16" (11 : Nat) ({ cls := "java/lang/StringUTF16", name := "newBytesLength", desc := "(I)I" } : Jvm.MethodName)).before a0 Z = true := C.1 _ (List.mem_of_getElem? (i := 80) rfl)
theorem Cx.w81 {Z : State} {a0 : Array Value} (C : Cx Z a0) : (Jvm.Cond.static ({ cls := "java/lang/StringUTF16", name := "newBytesLength", desc := "(I)I" } : Jvm.MethodName)).before a0 Z = true := C.1 _ (List.mem_of_getElem? (i := 81) rfl)
theorem Cx.w82 {Z : State} {a0 : Array Value} (C : Cx Z a0) : (Jvm.Cond.code ({ cls := "java/lang/StringUTF16", name := "newBytesLength", desc := "(I)I" } : Jvm.MethodName) jdk_52_method_3_code (1 : Nat) (Option.some Jvm.ClassFile.FieldType.int)).before a0 Z = true := C.1 _ (List.mem_of_getElem? (i := 82) rfl)
theorem Cx.w83 {Z : State} {a0 : Array Value} (C : Cx Z a0) : (Jvm.Cond.constant "java/lang/StringUTF16" (20 : Nat) (1073741823 : Int32)).before a0 Z = true := C.1 _ (List.mem_of_getElem? (i := 83) rfl)
theorem Cx.w84 {Z : State} {a0 : Array Value} (C : Cx Z a0) : (Jvm.Cond.methodLink "java/lang/StringUTF16" (111 : Nat) ({ cls := "java/lang/StringUTF16", name := "putChar", desc := "([BII)V" } : Jvm.MethodName)).before a0 Z = true := C.1 _ (List.mem_of_getElem? (i := 84) rfl)
theorem Cx.w85 {Z : State} {a0 : Array Value} (C : Cx Z a0) : (Jvm.Cond.static ({ cls := "java/lang/StringUTF16", name := "putChar", desc := "([BII)V" } : Jvm.MethodName)).before a0 Z = true := C.1 _ (List.mem_of_getElem? (i := 85) rfl)
theorem Cx.w86 {Z : State} {a0 : Array Value} (C : Cx Z a0) : (Jvm.Cond.code ({ cls := "java/lang/StringUTF16", name := "putChar", desc := "([BII)V" } : Jvm.MethodName) jdk_52_method_4_code (3 : Nat) (Option.none : Option Jvm.ClassFile.FieldType)).before a0 Z = true := C.1 _ (List.mem_of_getElem? (i := 86) rfl)
theorem Cx.w87 {Z : State} {a0 : Array Value} (C : Cx Z a0) : (Jvm.Cond.fieldLink "java/lang/StringUTF16" (44 : Nat) "java/lang/StringUTF16" "$assertionsDisabled" "Z").before a0 Z = true := C.1 _ (List.mem_of_getElem? (i := 87) rfl)
theorem Cx.w88 {Z : State} {a0 : Array Value} (C : Cx Z a0) : (Jvm.Cond.fieldLink "java/lang/StringUTF16" (59 : Nat) "java/lang/StringUTF16" "HI_BYTE_SHIFT" "I").before a0 Z = true := C.1 _ (List.mem_of_getElem? (i := 88) rfl)
theorem Cx.w89 {Z : State} {a0 : Array Value} (C : Cx Z a0) : (Jvm.Cond.fieldLink "java/lang/StringUTF16" (63 : Nat) "java/lang/StringUTF16" "LO_BYTE_SHIFT" "I").before a0 Z = true := C.1 _ (List.mem_of_getElem? (i := 89) rfl)
theorem Cx.w90 {Z : State} {a0 : Array Value} (C : Cx Z a0) : (Jvm.Cond.methodLink "java/lang/StringUTF16" (71 : Nat) ({ cls := "java/lang/StringUTF16", name := "getChar", desc := "([BI)C" } : Jvm.MethodName)).before a0 Z = true := C.1 _ (List.mem_of_getElem? (i := 90) rfl)
theorem Cx.w91 {Z : State} {a0 : Array Value} (C : Cx Z a0) : (Jvm.Cond.static ({ cls := "java/lang/StringUTF16", name := "getChar", desc := "([BI)C" } : Jvm.MethodName)).before a0 Z = true := C.1 _ (List.mem_of_getElem? (i := 91) rfl)
theorem Cx.w92 {Z : State} {a0 : Array Value} (C : Cx Z a0) : (Jvm.Cond.code ({ cls := "java/lang/StringUTF16", name := "getChar", desc := "([BI)C" } : Jvm.MethodName) jdk_52_method_5_code (2 : Nat) (Option.some Jvm.ClassFile.FieldType.char)).before a0 Z = true := C.1 _ (List.mem_of_getElem? (i := 92) rfl)
theorem Cx.w93 {Z : State} {a0 : Array Value} (C : Cx Z a0) : (Jvm.Cond.methodLink "java/lang/String" (47 : Nat) ({ cls := "java/lang/StringUTF16", name := "coderFromArrayLen", desc := "([BI)B" } : Jvm.MethodName)).before a0 Z = true := C.1 _ (List.mem_of_getElem? (i := 93) rfl)
theorem Cx.w94 {Z : State} {a0 : Array Value} (C : Cx Z a0) : (Jvm.Cond.static ({ cls := "java/lang/StringUTF16", name := "coderFromArrayLen", desc := "([BI)B" } : Jvm.MethodName)).before a0 Z = true := C.1 _ (List.mem_of_getElem? (i := 94) rfl)
theorem Cx.w95 {Z : State} {a0 : Array Value} (C : Cx Z a0) : (Jvm.Cond.code ({ cls := "java/lang/StringUTF16", name := "coderFromArrayLen", desc := "([BI)B" } : Jvm.MethodName) jdk_52_method_15_code (2 : Nat) (Option.some Jvm.ClassFile.FieldType.byte)).before a0 Z = true := C.1 _ (List.mem_of_getElem? (i := 95) rfl)
theorem Cx.w96 {Z : State} {a0 : Array Value} (C : Cx Z a0) : (Jvm.Cond.methodLink "java/lang/String" (640 : Nat) ({ cls := "java/lang/StringUTF16", name := "indexOf", desc := "([BIII)I" } : Jvm.MethodName)).before a0 Z = true := C.1 _ (List.mem_of_getElem? (i := 96) rfl)
theorem Cx.w97 {Z : State} {a0 : Array Value} (C : Cx Z a0) : (Jvm.Cond.static ({ cls := "java/lang/StringUTF16", name := "indexOf", desc := "([BIII)I" } : Jvm.MethodName)).before a0 Z = true := C.1 _ (List.mem_of_getElem? (i := 97) rfl)
theorem Cx.w98 {Z : State} {a0 : Array Value} (C : Cx Z a0) : (Jvm.Cond.code ({ cls := "java/lang/StringUTF16", name := "indexOf", desc := "([BIII)I" } : Jvm.MethodName) jdk_52_method_40_code (4 : Nat) (Option.some Jvm.ClassFile.FieldType.int)).before a0 Z = true := C.1 _ (List.mem_of_getElem? (i := 98) rfl)
theorem Cx.w99 {Z : State} {a0 : Array Value} (C : Cx Z a0) : (Jvm.Cond.methodLink "java/lang/StringUTF16" (224 : Nat) ({ cls := "java/lang/Math", name := "max", desc := "(II)I" } : Jvm.MethodName)).before a0 Z = true := C.1 _ (List.mem_of_getElem? (i := 99) rfl)
theorem Cx.w100 {Z : State} {a0 : Array Value} (C : Cx Z a0) : (Jvm.Cond.methodLink "java/lang/StringUTF16" (183 : Nat) ({ cls := "java/lang/Math", name := "min", desc := "(II)I" } : Jvm.MethodName)).before a0 Z = true := C.1 _ (List.mem_of_getElem? (i := 100) rfl)
theorem Cx.w101 {Z : State} {a0 : Array Value} (C : Cx Z a0) : (Jvm.Cond.constant "java/lang/StringUTF16" (227 : Nat) (65536 : Int32)).before a0 Z = true := C.1 _ (List.mem_of_getElem? (i := 101) rfl)
theorem Cx.w102 {Z : State} {a0 : Array Value} (C : Cx Z a0) : (Jvm.Cond.methodLink "java/lang/StringUTF16" (228 : Nat) ({ cls := "java/lang/StringUTF16", name := "indexOfChar", desc := "([BIII)I" } : Jvm.MethodName)).before a0 Z = true := C.1 _ (List.mem_of_getElem? (i := 102) rfl)
theorem Cx.w103 {Z : State} {a0 : Array Value} (C : Cx Z a0) : (Jvm.Cond.static ({ cls := "java/lang/StringUTF16", name := "indexOfChar", desc := "([BIII)I" } : Jvm.MethodName)).before a0 Z = true := C.1 _ (List.mem_of_getElem? (i := 103) rfl)
theorem Cx.w104 {Z : State} {a0 : Array Value} (C : Cx Z a0) : (Jvm.Cond.code ({ cls := "java/lang/StringUTF16", name := "indexOfChar", desc := "([BIII)I" } : Jvm.MethodName) jdk_52_method_47_code (4 : Nat) (Option.some Jvm.ClassFile.FieldType.int)).before a0 Z = true := C.1 _ (List.mem_of_getElem? (i := 104) rfl)
theorem Cx.w105 {Z : State} {a0 : Array Value} (C : Cx Z a0) : (Jvm.Cond.methodLink "java/lang/StringUTF16" (96 : Nat) ({ cls := "java/lang/StringUTF16", name := "checkBoundsBeginEnd", desc := "(II[B)V" } : Jvm.MethodName)).before a0 Z = true := C.1 _ (List.mem_of_getElem? (i := 105) rfl)
theorem Cx.w106 {Z : State} {a0 : Array Value} (C : Cx Z a0) : (Jvm.Cond.static ({ cls := "java/lang/StringUTF16", name := "checkBoundsBeginEnd", desc := "(II[B)V" } : Jvm.MethodName)).before a0 Z = true := C.1 _ (List.mem_of_getElem? (i := 106) rfl)
theorem Cx.w107 {Z : State} {a0 : Array Value} (C : Cx Z a0) : (Jvm.Cond.code ({ cls := "java/lang/StringUTF16", name := "checkBoundsBeginEnd", desc := "(II[B)V" } : Jvm.MethodName) jdk_52_method_93_code (3 : Nat) (Option.none : Option Jvm.ClassFile.FieldType)).before a0 Z = true := C.1 _ (List.mem_of_getElem? (i := 107) rfl)
theorem Cx.w108 {Z : State} {a0 : Array Value} (C : Cx Z a0) : (Jvm.Cond.methodLink "java/lang/StringUTF16" (48 : Nat) ({ cls := "java/lang/StringUTF16", name := "length", desc := "([B)I" } : Jvm.MethodName)).before a0 Z = true := C.1 _ (List.mem_of_getElem? (i := 108) rfl)
theorem Cx.w109 {Z : State} {a0 : Array Value} (C : Cx Z a0) : (Jvm.Cond.static ({ cls := "java/lang/StringUTF16", name := "length", desc := "([B)I" } : Jvm.MethodName)).before a0 Z = true := C.1 _ (List.mem_of_getElem? (i := 109) rfl)
theorem Cx.w110 {Z : State} {a0 : Array Value} (C : Cx Z a0) : (Jvm.Cond.code ({ cls := "java/lang/StringUTF16", name := "length", desc := "([B)I" } : Jvm.MethodName) jdk_52_method_6_code (1 : Nat) (Option.some Jvm.ClassFile.FieldType.int)).before a0 Z = true := C.1 _ (List.mem_of_getElem? (i := 110) rfl)
theorem Cx.w111 {Z : State} {a0 : Array Value} (C : Cx Z a0) : (Jvm.Cond.methodLink "java/lang/StringUTF16" (241 : Nat) ({ cls := "java/lang/String", name := "checkBoundsBeginEnd", desc := "(III)V" } : Jvm.MethodName)).before a0 Z = true := C.1 _ (List.mem_of_getElem? (i := 111) rfl)
theorem Cx.w112 {Z : State} {a0 : Array Value} (C : Cx Z a0) : (Jvm.Cond.static ({ cls := "java/lang/String", name := "checkBoundsBeginEnd", desc := "(III)V" } : Jvm.MethodName)).before a0 Z = true := C.1 _ (List.mem_of_getElem? (i := 112) rfl)
theorem Cx.w113 {Z : State} {a0 : Array Value} (C : Cx Z a0) : (Jvm.Cond.code ({ cls := "java/lang/String", name := "checkBoundsBeginEnd", desc := "(III)V" } : Jvm.MethodName) jdk_42_method_158_code (3 : Nat) (Option.none : Option Jvm.ClassFile.FieldType)).before a0 Z = true := C.1 _ (List.mem_of_getElem? (i := 113) rfl)
theorem Cx.w114 {Z : State} {a0 : Array Value} (C : Cx Z a0) : (Jvm.Cond.fieldLink "java/lang/String" (1053 : Nat) "jdk/internal/util/Preconditions" "SIOOBE_FORMATTER" "Ljava/util/function/BiFunction;").before a0 Z = true := C.1 _ (List.mem_of_getElem? (i := 114) rfl)
theorem Cx.w115 {Z : State} {a0 : Array Value} (C : Cx Z a0) : (Jvm.Cond.initialized "jdk/internal/util/Preconditions").before a0 Z = true := C.1 _ (List.mem_of_getElem? (i := 115) rfl)
theorem Cx.w116 {Z : State} {a0 : Array Value} (C : Cx Z a0) : (Jvm.Cond.methodLink "java/lang/String" (1062 : Nat) ({ cls := "jdk/internal/util/Preconditions", name := "checkFromToIndex", desc := "(IIILjava/util/function/BiFunction;)I" } : Jvm.MethodName)).before a0 Z = true := C.1 _ (List.mem_of_getElem? (i := 116) rfl)
theorem Cx.w117 {Z : State} {a0 : Array Value} (C : Cx Z a0) : (Jvm.Cond.static ({ cls := "jdk/internal/util/Preconditions", name := "checkFromToIndex", desc := "(IIILjava/util/function/BiFunction;)I" } : Jvm.MethodName)).before a0 Z = true := C.1 _ (List.mem_of_getElem? (i := 117) rfl)
theorem Cx.w118 {Z : State} {a0 : Array Value} (C : Cx Z a0) : (Jvm.Cond.code ({ cls := "jdk/internal/util/Preconditions", name := "checkFromToIndex", desc := "(IIILjava/util/function/BiFunction;)I" } : Jvm.MethodName) jdk_41_method_12_code (4 : Nat) (Option.some Jvm.ClassFile.FieldType.int)).before a0 Z = true := C.1 _ (List.mem_of_getElem? (i := 118) rfl)
theorem Cx.w119 {Z : State} {a0 : Array Value} (C : Cx Z a0) : (Jvm.Cond.methodLink "java/lang/StringUTF16" (244 : Nat) ({ cls := "java/lang/StringUTF16", name := "indexOfCharUnsafe", desc := "([BIII)I" } : Jvm.MethodName)).before a0 Z = true := C.1 _ (List.mem_of_getElem? (i := 119) rfl)
theorem Cx.w120 {Z : State} {a0 : Array Value} (C : Cx Z a0) : (Jvm.Cond.static ({ cls := "java/lang/StringUTF16", name := "indexOfCharUnsafe", desc := "([BIII)I" } : Jvm.MethodName)).before a0 Z = true := C.1 _ (List.mem_of_getElem? (i := 120) rfl)
theorem Cx.w121 {Z : State} {a0 : Array Value} (C : Cx Z a0) : (Jvm.Cond.code ({ cls := "java/lang/StringUTF16", name := "indexOfCharUnsafe", desc := "([BIII)I" } : Jvm.MethodName) jdk_52_method_48_code (5 : Nat) (Option.some Jvm.ClassFile.FieldType.int)).before a0 Z = true := C.1 _ (List.mem_of_getElem? (i := 121) rfl)
theorem Cx.w122 {Z : State} {a0 : Array Value} (C : Cx Z a0) : (Jvm.Cond.methodLink "java/lang/StringLatin1" (95 : Nat) ({ cls := "java/lang/StringLatin1", name := "indexOfChar", desc := "([BIII)I" } : Jvm.MethodName)).before a0 Z = true := C.1 _ (List.mem_of_getElem? (i := 122) rfl)
theorem Cx.w123 {Z : State} {a0 : Array Value} (C : Cx Z a0) : (Jvm.Cond.static ({ cls := "java/lang/StringLatin1", name := "indexOfChar", desc := "([BIII)I" } : Jvm.MethodName)).before a0 Z = true := C.1 _ (List.mem_of_getElem? (i := 123) rfl)
theorem Cx.w124 {Z : State} {a0 : Array Value} (C : Cx Z a0) : (Jvm.Cond.code ({ cls := "java/lang/StringLatin1", name := "indexOfChar", desc := "([BIII)I" } : Jvm.MethodName) jdk_43_method_23_code (6 : Nat) (Option.some Jvm.ClassFile.FieldType.int)).before a0 Z = true := C.1 _ (List.mem_of_getElem? (i := 124) rfl)
theorem Cx.compact {Z : State} {a0 : Array Value} (C : Cx Z a0) : (∃ cz : Int32, Sta Z Z.heap "java/lang/String" "COMPACT_STRINGS" "Z" (.int cz) ∧ ¬ cz = 0) := C.2.1
theorem Cx.sio {Z : State} {a0 : Array Value} (C : Cx Z a0) : (∃ fm : Value, Sta Z Z.heap "jdk/internal/util/Preconditions" "SIOOBE_FORMATTER" "Ljava/util/function/BiFunction;" fm ∧ (fm = .null ∨ ∃ fa, fm = .ref fa)) := C.2.2.1
theorem Cx.u16 {Z : State} {a0 : Array Value} (C : Cx Z a0) : (Sta Z Z.heap "java/lang/StringUTF16" "$assertionsDisabled" "Z" (.int 1) ∧ Sta Z Z.heap "java/lang/StringUTF16" "HI_BYTE_SHIFT" "I" (.int 0) ∧ Sta Z Z.heap "java/lang/StringUTF16" "LO_BYTE_SHIFT" "I" (.int 8)) := C.2.2.2
theorem Cx.strs {Z : State} {a0 : Array Value} (C : Cx Z a0) : ∀ a ∈ Bundle.stringAtoms, a.before a0 Z = true := fun d hd => C.1 d ((by decide +kernel : ∀ d ∈ Bundle.stringAtoms, d ∈ tables_1) d hd)
theorem own_nilall {cs : List Int32} {k : Int32} (h : ¬ (0 : Int32) < Int32.ofNat cs.length) (hl : cs.length ≤ 8 := by omega) : ∀ c ∈ cs, ¬ c = k := by
  have : ¬ (0 : Nat) < cs.length := fun q => h ((i32_lt (i := 0) (by omega) (by omega)).mpr q)
  have e : cs = [] := List.eq_nil_of_length_eq_zero (by omega)
  subst e
  exact fun _ q => nomatch q
theorem own_in0 {a : Int32} {l : List Int32} (h : a = 0) : (0 : Int32) ∈ a :: l := by rw [h]; simp
theorem own_in1 {a b : Int32} {l : List Int32} (h : b = 0) : (0 : Int32) ∈ a :: b :: l := by rw [h]; simp
theorem own_in2 {a b c : Int32} {l : List Int32} (h : c = 0) : (0 : Int32) ∈ a :: b :: c :: l := by rw [h]; simp
theorem own_three {x : Int32} (h0 : ¬ x &&& (3 : Int32) = 0) (h1 : ¬ x &&& (3 : Int32) = 1) (h2 : ¬ x &&& (3 : Int32) = 2) : x &&& (3 : Int32) = 3 := by
  have t : ∀ k : Fin 4, Int32.ofNat k.val = 0 ∨ Int32.ofNat k.val = 1 ∨ Int32.ofNat k.val = 2 ∨ Int32.ofNat k.val = 3 := by decide +kernel
  have hlt : (x &&& 3).toBitVec.toNat < 4 := by
    simp only [Int32.toBitVec_and, BitVec.toNat_and]
    exact Nat.lt_succ_of_le Nat.and_le_right
  have e : (x &&& 3) = Int32.ofNat (x &&& 3).toBitVec.toNat := by
    apply Int32.toBitVec_inj.mp
    show _ = BitVec.ofNat 32 _
    rw [BitVec.ofNat_toNat]; simp
  rw [e] at h0 h1 h2 ⊢
  exact ((t ⟨_, hlt⟩).resolve_left h0 |>.resolve_left h1).resolve_left h2
theorem d_jdk_52_method_6_code_0 : decode jdk_52_method_6_code 0 = .ok (.aload_n 0, 1) := by decide +kernel
theorem d_jdk_52_method_6_code_1 : decode jdk_52_method_6_code 1 = .ok (.arraylength, 1) := by decide +kernel
theorem d_jdk_52_method_6_code_2 : decode jdk_52_method_6_code 2 = .ok (.iconst 1, 1) := by decide +kernel
theorem d_jdk_52_method_6_code_3 : decode jdk_52_method_6_code 3 = .ok (.ishr, 1) := by decide +kernel
theorem d_jdk_52_method_6_code_4 : decode jdk_52_method_6_code 4 = .ok (.ireturn, 1) := by decide +kernel
def R_d_len : Room := { frames := 0, cells := 0, slots := 0, locals := 0 }
theorem pl_b25 : plainFor (⟨"java/lang/StringUTF16", "length", "([B)I"⟩ : MethodName) = true := plainFor_of_name (by first | (simp [plainName, overriddenIn]; done) | decide +kernel)
set_option maxRecDepth 65536 in
set_option maxHeartbeats 40000000 in
theorem d_len {l : Launch} {Z : State} {a0 : Array Value} {n0 : Nat} {h0 : Heap} (C : Cx Z a0) (hO : Old Z n0 h0) {t : Addr} {kb : ClassId} {k : Nat} {vs : List Value} {dv : Value} (V : Arv Z h0 t kb .byte (Int32.ofNat (2 * k)) vs dv) (hk : k ≤ 8) :
    Con false l Z [] n0 (⟨"java/lang/StringUTF16", "length", "([B)I"⟩ : MethodName) jdk_52_method_6_code 1 (some .int) R_d_len #[(.ref t)] h0 [] (fun v h => v = some (.int (Int32.ofNat k)) ∧ h0 = h) := by
  refine Con.intro (a0 := a0) pl_b25 hO (fun q => nomatch q) ?_
  intro p e s m below meth c G
  refine ok_as (mkF m 0 #[.val (.ref t)] []) (by first | rfl | (simp [entryFrame, mkF, argsToLocals, Value.category]; done)) ?_
  refine ok_aloadN G d_jdk_52_method_6_code_0 rfl rfl ?_
  refine ok_arraylength G V d_jdk_52_method_6_code_1 ?_
  refine ok_iconst G (1 : Int32) d_jdk_52_method_6_code_2 rfl ?_
  refine ok_ishr G d_jdk_52_method_6_code_3 ?_
  refine ok_sayI (Int32.ofNat k) (dbl_shr hk) ?_
  exact ok_retI G rfl d_jdk_52_method_6_code_4 ⟨rfl, rfl⟩ (Nat.le_of_ble_eq_true rfl) (Nat.le_of_ble_eq_true rfl)
theorem d_jdk_52_method_4_code_0 : decode jdk_52_method_4_code 0 = .ok (.getstatic 44, 3) := by decide +kernel
theorem d_jdk_52_method_4_code_3 : decode jdk_52_method_4_code 3 = .ok (.ifCond .ne 25, 3) := by decide +kernel
theorem d_jdk_52_method_4_code_28 : decode jdk_52_method_4_code 28 = .ok (.iload_n 1, 1) := by decide +kernel
theorem d_jdk_52_method_4_code_29 : decode jdk_52_method_4_code 29 = .ok (.iconst 1, 1) := by decide +kernel
theorem d_jdk_52_method_4_code_30 : decode jdk_52_method_4_code 30 = .ok (.ishl, 1) := by decide +kernel
theorem d_jdk_52_method_4_code_31 : decode jdk_52_method_4_code 31 = .ok (.istore_n 1, 1) := by decide +kernel
theorem d_jdk_52_method_4_code_32 : decode jdk_52_method_4_code 32 = .ok (.aload_n 0, 1) := by decide +kernel
theorem d_jdk_52_method_4_code_33 : decode jdk_52_method_4_code 33 = .ok (.iload_n 1, 1) := by decide +kernel
theorem d_jdk_52_method_4_code_34 : decode jdk_52_method_4_code 34 = .ok (.iinc 1 1, 3) := by decide +kernel
theorem d_jdk_52_method_4_code_37 : decode jdk_52_method_4_code 37 = .ok (.iload_n 2, 1) := by decide +kernel
theorem d_jdk_52_method_4_code_38 : decode jdk_52_method_4_code 38 = .ok (.getstatic 59, 3) := by decide +kernel
theorem d_jdk_52_method_4_code_41 : decode jdk_52_method_4_code 41 = .ok (.ishr, 1) := by decide +kernel
theorem d_jdk_52_method_4_code_42 : decode jdk_52_method_4_code 42 = .ok (.i2b, 1) := by decide +kernel
theorem d_jdk_52_method_4_code_43 : decode jdk_52_method_4_code 43 = .ok (.bastore, 1) := by decide +kernel
theorem d_jdk_52_method_4_code_44 : decode jdk_52_method_4_code 44 = .ok (.aload_n 0, 1) := by decide +kernel
theorem d_jdk_52_method_4_code_45 : decode jdk_52_method_4_code 45 = .ok (.iload_n 1, 1) := by decide +kernel
theorem d_jdk_52_method_4_code_46 : decode jdk_52_method_4_code 46 = .ok (.iload_n 2, 1) := by decide +kernel
theorem d_jdk_52_method_4_code_47 : decode jdk_52_method_4_code 47 = .ok (.getstatic 63, 3) := by decide +kernel
theorem d_jdk_52_method_4_code_50 : decode jdk_52_method_4_code 50 = .ok (.ishr, 1) := by decide +kernel
theorem d_jdk_52_method_4_code_51 : decode jdk_52_method_4_code 51 = .ok (.i2b, 1) := by decide +kernel
theorem d_jdk_52_method_4_code_52 : decode jdk_52_method_4_code 52 = .ok (.bastore, 1) := by decide +kernel
theorem d_jdk_52_method_4_code_53 : decode jdk_52_method_4_code 53 = .ok (.return_, 1) := by decide +kernel
def R_d_put : Room := { frames := 0, cells := 0, slots := 0, locals := 0 }
theorem pl_b19 : plainFor (⟨"java/lang/StringUTF16", "putChar", "([BII)V"⟩ : MethodName) = true := plainFor_of_name (by first | (simp [plainName, overriddenIn]; done) | decide +kernel)
set_option maxRecDepth 65536 in
set_option maxHeartbeats 40000000 in
theorem d_put {l : Launch} {Z : State} {a0 : Array Value} {n0 : Nat} {h0 : Heap} (C : Cx Z a0) (hO : Old Z n0 h0) {b : Addr} {kb : ClassId} {k NN : Nat} {ch : Int32} {vs : List Value} {dv : Value} (B : Arv Z h0 b kb .byte (Int32.ofNat NN) vs dv) (hvs : vs.length = 2 * k) (hk : 2 * k + 1 < NN) (hN : NN ≤ 16) (g_b : n0 ≤ b) :
    Con false l Z [] n0 (⟨"java/lang/StringUTF16", "putChar", "([BII)V"⟩ : MethodName) jdk_52_method_4_code 3 none R_d_put #[(.ref b), (.int (Int32.ofNat k)), (.int ch)] h0 [b] (fun v h => v = none ∧ Arv Z h b kb .byte (Int32.ofNat NN) (vs ++ [lo8 ch, hi8 ch]) dv) := by
  refine Con.intro (a0 := a0) pl_b19 hO (fun q => nomatch q) ?_
  intro p e s m below meth c G
  refine ok_as (mkF m 0 #[.val (.ref b), .val (.int (Int32.ofNat k)), .val (.int ch)] []) (by first | rfl | (simp [entryFrame, mkF, argsToLocals, Value.category]; done)) ?_
  refine ok_getS G (host := "") (Or.inl (C.w87)) Via.refl C.u16.1 d_jdk_52_method_4_code_0 ?_
  refine ok_ifneY G 28 d_jdk_52_method_4_code_3 (by decide) (by decide) (by decide) ?_
  refine ok_iloadN G d_jdk_52_method_4_code_28 rfl ?_
  refine ok_iconst G (1 : Int32) d_jdk_52_method_4_code_29 rfl ?_
  refine ok_ishl G d_jdk_52_method_4_code_30 ?_
  refine ok_sayI (Int32.ofNat (2 * k)) (dbl_shl (by omega)) ?_
  refine ok_istoreN G #[.val (.ref b), .val (.int (Int32.ofNat (2 * k))), .val (.int ch)] d_jdk_52_method_4_code_31 rfl ?_
  refine ok_aloadN G d_jdk_52_method_4_code_32 rfl rfl ?_
  refine ok_iloadN G d_jdk_52_method_4_code_33 rfl ?_
  refine ok_iinc G ((Int32.ofNat (2 * k)) + (1 : Int32)) #[.val (.ref b), .val (.int ((Int32.ofNat (2 * k)) + (1 : Int32))), .val (.int ch)] d_jdk_52_method_4_code_34 rfl rfl rfl ?_
  refine ok_iloadN G d_jdk_52_method_4_code_37 rfl ?_
  refine ok_getS G (host := "") (Or.inl (C.w88)) Via.refl C.u16.2.1 d_jdk_52_method_4_code_38 ?_
  refine ok_ishr G d_jdk_52_method_4_code_41 ?_
  refine ok_sayI ch (shr0 ch) ?_
  refine ok_i2b G d_jdk_52_method_4_code_42 ?_
  refine ok_bastoreA G ch.toInt8.toInt32 B ⟨i32_nn (by omega), (i32_lt (by omega) (by omega)).mpr (by omega)⟩ (by rw [i32_clamp (by omega)]; simp [hvs]) (by simp [nar]) d_jdk_52_method_4_code_43 g_b (Or.inl (List.mem_of_getElem? (i := 0) rfl)) SafeFor.narrow ?_
  intro hp1 K2 Bn
  replace B := Bn
  clear Bn
  refine ok_aloadN G d_jdk_52_method_4_code_44 rfl rfl ?_
  refine ok_iloadN G d_jdk_52_method_4_code_45 rfl ?_
  refine ok_sayI (Int32.ofNat (2 * k + 1)) (i32_succ _) ?_
  refine ok_iloadN G d_jdk_52_method_4_code_46 rfl ?_
  refine ok_getS G (host := "") (Or.inl (C.w89)) Via.refl C.u16.2.2 d_jdk_52_method_4_code_47 ?_
  refine ok_ishr G d_jdk_52_method_4_code_50 ?_
  refine ok_i2b G d_jdk_52_method_4_code_51 ?_
  refine ok_bastoreA G (ch >>> ((8 : Int32) &&& 31)).toInt8.toInt32 B ⟨i32_nn (by omega), (i32_lt (by omega) (by omega)).mpr (by omega)⟩ (by rw [i32_clamp (by omega)]; simp [hvs]) (by simp [nar]) d_jdk_52_method_4_code_52 g_b (Or.inl (List.mem_of_getElem? (i := 0) rfl)) SafeFor.narrow ?_
  intro hp3 K4 Bn
  replace B := Bn
  clear Bn
  exact ok_return G rfl d_jdk_52_method_4_code_53 ⟨rfl, by simpa using B⟩ (Nat.le_of_ble_eq_true rfl) (Nat.le_of_ble_eq_true rfl)
theorem d_jdk_52_method_5_code_0 : decode jdk_52_method_5_code 0 = .ok (.getstatic 44, 3) := by decide +kernel
theorem d_jdk_52_method_5_code_3 : decode jdk_52_method_5_code 3 = .ok (.ifCond .ne 25, 3) := by decide +kernel
theorem d_jdk_52_method_5_code_28 : decode jdk_52_method_5_code 28 = .ok (.iload_n 1, 1) := by decide +kernel
theorem d_jdk_52_method_5_code_29 : decode jdk_52_method_5_code 29 = .ok (.iconst 1, 1) := by decide +kernel
theorem d_jdk_52_method_5_code_30 : decode jdk_52_method_5_code 30 = .ok (.ishl, 1) := by decide +kernel
theorem d_jdk_52_method_5_code_31 : decode jdk_52_method_5_code 31 = .ok (.istore_n 1, 1) := by decide +kernel
theorem d_jdk_52_method_5_code_32 : decode jdk_52_method_5_code 32 = .ok (.aload_n 0, 1) := by decide +kernel
theorem d_jdk_52_method_5_code_33 : decode jdk_52_method_5_code 33 = .ok (.iload_n 1, 1) := by decide +kernel
theorem d_jdk_52_method_5_code_34 : decode jdk_52_method_5_code 34 = .ok (.iinc 1 1, 3) := by decide +kernel
theorem d_jdk_52_method_5_code_37 : decode jdk_52_method_5_code 37 = .ok (.baload, 1) := by decide +kernel
theorem d_jdk_52_method_5_code_38 : decode jdk_52_method_5_code 38 = .ok (.sipush 255, 3) := by decide +kernel
theorem d_jdk_52_method_5_code_41 : decode jdk_52_method_5_code 41 = .ok (.iand, 1) := by decide +kernel
theorem d_jdk_52_method_5_code_42 : decode jdk_52_method_5_code 42 = .ok (.getstatic 59, 3) := by decide +kernel
theorem d_jdk_52_method_5_code_45 : decode jdk_52_method_5_code 45 = .ok (.ishl, 1) := by decide +kernel
theorem d_jdk_52_method_5_code_46 : decode jdk_52_method_5_code 46 = .ok (.aload_n 0, 1) := by decide +kernel
theorem d_jdk_52_method_5_code_47 : decode jdk_52_method_5_code 47 = .ok (.iload_n 1, 1) := by decide +kernel
theorem d_jdk_52_method_5_code_48 : decode jdk_52_method_5_code 48 = .ok (.baload, 1) := by decide +kernel
theorem d_jdk_52_method_5_code_49 : decode jdk_52_method_5_code 49 = .ok (.sipush 255, 3) := by decide +kernel
theorem d_jdk_52_method_5_code_52 : decode jdk_52_method_5_code 52 = .ok (.iand, 1) := by decide +kernel
theorem d_jdk_52_method_5_code_53 : decode jdk_52_method_5_code 53 = .ok (.getstatic 63, 3) := by decide +kernel
theorem d_jdk_52_method_5_code_56 : decode jdk_52_method_5_code 56 = .ok (.ishl, 1) := by decide +kernel
theorem d_jdk_52_method_5_code_57 : decode jdk_52_method_5_code 57 = .ok (.ior, 1) := by decide +kernel
theorem d_jdk_52_method_5_code_58 : decode jdk_52_method_5_code 58 = .ok (.i2c, 1) := by decide +kernel
theorem d_jdk_52_method_5_code_59 : decode jdk_52_method_5_code 59 = .ok (.ireturn, 1) := by decide +kernel
def R_d_get : Room := { frames := 0, cells := 0, slots := 0, locals := 0 }
theorem pl_b20 : plainFor (⟨"java/lang/StringUTF16", "getChar", "([BI)C"⟩ : MethodName) = true := plainFor_of_name (by first | (simp [plainName, overriddenIn]; done) | decide +kernel)
set_option maxRecDepth 65536 in
set_option maxHeartbeats 40000000 in
theorem d_get {l : Launch} {Z : State} {a0 : Array Value} {n0 : Nat} {h0 : Heap} (C : Cx Z a0) (hO : Old Z n0 h0) {b : Addr} {kb : ClassId} {k NN : Nat} {ch : Int32} {vs : List Value} {dv : Value} (B : Arv Z h0 b kb .byte (Int32.ofNat NN) vs dv) (hlo : vs.getD (2 * k) dv = lo8 ch) (hhi : vs.getD (2 * k + 1) dv = hi8 ch) (hk : 2 * k + 1 < NN) (hN : NN ≤ 16) (hch : Chr ch) :
    Con false l Z [] n0 (⟨"java/lang/StringUTF16", "getChar", "([BI)C"⟩ : MethodName) jdk_52_method_5_code 2 (some .char) R_d_get #[(.ref b), (.int (Int32.ofNat k))] h0 [] (fun v h => v = some (.int ch) ∧ h0 = h) := by
  refine Con.intro (a0 := a0) pl_b20 hO (fun q => nomatch q) ?_
  intro p e s m below meth c G
  refine ok_as (mkF m 0 #[.val (.ref b), .val (.int (Int32.ofNat k))] []) (by first | rfl | (simp [entryFrame, mkF, argsToLocals, Value.category]; done)) ?_
  refine ok_getS G (host := "") (Or.inl (C.w87)) Via.refl C.u16.1 d_jdk_52_method_5_code_0 ?_
  refine ok_ifneY G 28 d_jdk_52_method_5_code_3 (by decide) (by decide) (by decide) ?_
  refine ok_iloadN G d_jdk_52_method_5_code_28 rfl ?_
  refine ok_iconst G (1 : Int32) d_jdk_52_method_5_code_29 rfl ?_
  refine ok_ishl G d_jdk_52_method_5_code_30 ?_
  refine ok_sayI (Int32.ofNat (2 * k)) (dbl_shl (by omega)) ?_
  refine ok_istoreN G #[.val (.ref b), .val (.int (Int32.ofNat (2 * k)))] d_jdk_52_method_5_code_31 rfl ?_
  refine ok_aloadN G d_jdk_52_method_5_code_32 rfl rfl ?_
  refine ok_iloadN G d_jdk_52_method_5_code_33 rfl ?_
  refine ok_iinc G ((Int32.ofNat (2 * k)) + (1 : Int32)) #[.val (.ref b), .val (.int ((Int32.ofNat (2 * k)) + (1 : Int32)))] d_jdk_52_method_5_code_34 rfl rfl rfl ?_
  refine ok_baload G ch.toInt8.toInt32 B ⟨i32_nn (by omega), (i32_lt (by omega) (by omega)).mpr (by omega)⟩ (by rw [i32_clamp (by omega)]; exact hlo) d_jdk_52_method_5_code_37 ?_
  refine ok_sipush G (255 : Int32) d_jdk_52_method_5_code_38 rfl ?_
  refine ok_iand G d_jdk_52_method_5_code_41 ?_
  refine ok_getS G (host := "") (Or.inl (C.w88)) Via.refl C.u16.2.1 d_jdk_52_method_5_code_42 ?_
  refine ok_ishl G d_jdk_52_method_5_code_45 ?_
  refine ok_aloadN G d_jdk_52_method_5_code_46 rfl rfl ?_
  refine ok_iloadN G d_jdk_52_method_5_code_47 rfl ?_
  refine ok_sayI (Int32.ofNat (2 * k + 1)) (i32_succ _) ?_
  refine ok_baload G (ch >>> ((8 : Int32) &&& 31)).toInt8.toInt32 B ⟨i32_nn (by omega), (i32_lt (by omega) (by omega)).mpr (by omega)⟩ (by rw [i32_clamp (by omega)]; exact hhi) d_jdk_52_method_5_code_48 ?_
  refine ok_sipush G (255 : Int32) d_jdk_52_method_5_code_49 rfl ?_
  refine ok_iand G d_jdk_52_method_5_code_52 ?_
  refine ok_getS G (host := "") (Or.inl (C.w89)) Via.refl C.u16.2.2 d_jdk_52_method_5_code_53 ?_
  refine ok_ishl G d_jdk_52_method_5_code_56 ?_
  refine ok_ior G d_jdk_52_method_5_code_57 ?_
  refine ok_i2c G d_jdk_52_method_5_code_58 ?_
  refine ok_sayI ch hch.back ?_
  exact ok_retN G rfl (by simp) d_jdk_52_method_5_code_59 (congrArg Value.int hch.nar) ⟨rfl, rfl⟩ (Nat.le_of_ble_eq_true rfl) (Nat.le_of_ble_eq_true rfl)
theorem d_jdk_52_method_3_code_0 : decode jdk_52_method_3_code 0 = .ok (.iload_n 0, 1) := by decide +kernel
theorem d_jdk_52_method_3_code_1 : decode jdk_52_method_3_code 1 = .ok (.ifCond .ge 11, 3) := by decide +kernel
theorem d_jdk_52_method_3_code_12 : decode jdk_52_method_3_code 12 = .ok (.iload_n 0, 1) := by decide +kernel
theorem d_jdk_52_method_3_code_13 : decode jdk_52_method_3_code 13 = .ok (.ldc 20, 2) := by decide +kernel
theorem d_jdk_52_method_3_code_15 : decode jdk_52_method_3_code 15 = .ok (.if_icmp .lt 40, 3) := by decide +kernel
theorem d_jdk_52_method_3_code_55 : decode jdk_52_method_3_code 55 = .ok (.iload_n 0, 1) := by decide +kernel
theorem d_jdk_52_method_3_code_56 : decode jdk_52_method_3_code 56 = .ok (.iconst 1, 1) := by decide +kernel
theorem d_jdk_52_method_3_code_57 : decode jdk_52_method_3_code 57 = .ok (.ishl, 1) := by decide +kernel
theorem d_jdk_52_method_3_code_58 : decode jdk_52_method_3_code 58 = .ok (.ireturn, 1) := by decide +kernel
def R_d_nbl : Room := { frames := 0, cells := 0, slots := 0, locals := 0 }
theorem pl_b18 : plainFor (⟨"java/lang/StringUTF16", "newBytesLength", "(I)I"⟩ : MethodName) = true := plainFor_of_name (by first | (simp [plainName, overriddenIn]; done) | decide +kernel)
set_option maxRecDepth 65536 in
set_option maxHeartbeats 40000000 in
theorem d_nbl {l : Launch} {Z : State} {a0 : Array Value} {n0 : Nat} {h0 : Heap} (C : Cx Z a0) (hO : Old Z n0 h0) {k : Nat} (hk : k ≤ 8) :
    Con false l Z [] n0 (⟨"java/lang/StringUTF16", "newBytesLength", "(I)I"⟩ : MethodName) jdk_52_method_3_code 1 (some .int) R_d_nbl #[(.int (Int32.ofNat k))] h0 [] (fun v h => v = some (.int (Int32.ofNat (2 * k))) ∧ h0 = h) := by
  refine Con.intro (a0 := a0) pl_b18 hO (fun q => nomatch q) ?_
  intro p e s m below meth c G
  refine ok_as (mkF m 0 #[.val (.int (Int32.ofNat k))] []) (by first | rfl | (simp [entryFrame, mkF, argsToLocals, Value.category]; done)) ?_
  refine ok_iloadN G d_jdk_52_method_3_code_0 rfl ?_
  refine ok_ifgeY G 12 d_jdk_52_method_3_code_1 (by decide) (by decide) (i32_nn (by omega)) ?_
  refine ok_iloadN G d_jdk_52_method_3_code_12 rfl ?_
  refine ok_ldcI G (C.w83) d_jdk_52_method_3_code_13 ?_
  refine ok_icmpltY G 55 d_jdk_52_method_3_code_15 (by decide) (by decide) (show Int32.ofNat k < Int32.ofNat 1073741823 from (i32_lt (by omega) (by omega)).mpr (by omega)) ?_
  refine ok_iloadN G d_jdk_52_method_3_code_55 rfl ?_
  refine ok_iconst G (1 : Int32) d_jdk_52_method_3_code_56 rfl ?_
  refine ok_ishl G d_jdk_52_method_3_code_57 ?_
  refine ok_sayI (Int32.ofNat (2 * k)) (dbl_shl hk) ?_
  exact ok_retI G rfl d_jdk_52_method_3_code_58 ⟨rfl, rfl⟩ (Nat.le_of_ble_eq_true rfl) (Nat.le_of_ble_eq_true rfl)
theorem d_jdk_52_method_2_code_0 : decode jdk_52_method_2_code 0 = .ok (.iload_n 0, 1) := by decide +kernel
theorem d_jdk_52_method_2_code_1 : decode jdk_52_method_2_code 1 = .ok (.invokestatic 11, 3) := by decide +kernel
theorem pd0 : parseMethodDescriptor "(I)I" = some ⟨[.int], some .int⟩ := by decide +kernel
theorem d_jdk_52_method_2_code_4 : decode jdk_52_method_2_code 4 = .ok (.newarray .byte, 2) := by decide +kernel
theorem d_jdk_52_method_2_code_6 : decode jdk_52_method_2_code 6 = .ok (.areturn, 1) := by decide +kernel
def R_d_nbf : Room := { frames := 1, cells := 1, slots := 16, locals := 12 }
theorem pl_b17 : plainFor (⟨"java/lang/StringUTF16", "newBytesFor", "(I)[B"⟩ : MethodName) = true := plainFor_of_name (by first | (simp [plainName, overriddenIn]; done) | decide +kernel)
set_option maxRecDepth 65536 in
set_option maxHeartbeats 40000000 in
theorem d_nbf {l : Launch} {Z : State} {a0 : Array Value} {n0 : Nat} {h0 : Heap} (C : Cx Z a0) (hO : Old Z n0 h0) {k : Nat} (hk : k ≤ 8) :
    Con false l Z [] n0 (⟨"java/lang/StringUTF16", "newBytesFor", "(I)[B"⟩ : MethodName) jdk_52_method_2_code 1 (some (.array .byte)) R_d_nbf #[(.int (Int32.ofNat k))] h0 [] (fun v h => ∃ t kb, v = some (.ref t) ∧ h0.size ≤ t ∧ Arv Z h t kb .byte (Int32.ofNat (2 * k)) [] (.int 0)) := by
  refine Con.intro (a0 := a0) pl_b17 hO (fun q => nomatch q) ?_
  intro p e s m below meth c G
  refine ok_as (mkF m 0 #[.val (.int (Int32.ofNat k))] []) (by first | rfl | (simp [entryFrame, mkF, argsToLocals, Value.category]; done)) ?_
  refine ok_iloadN G d_jdk_52_method_2_code_0 rfl ?_
  refine ok_static G (argsL := [(.int (Int32.ofNat k))]) (rest := []) (C.w80) (C.w81) (C.w69) (C.w82) (by decide) pd0 (d_nbl C hO hk) rfl rfl rfl d_jdk_52_method_2_code_1 (Nat.le_of_ble_eq_true rfl) (Nat.le_of_ble_eq_true rfl) (Nat.le_of_ble_eq_true rfl) (Nat.le_of_ble_eq_true rfl) (fun _ q => nomatch q) ?_
  rintro _ _ _ ⟨rfl, rfl⟩
  refine ok_as (mkF m 4 #[.val (.int (Int32.ofNat k))] [(.int (Int32.ofNat (2 * k)))]) rfl ?_
  refine ok_newP G (aty := .byte) (C.w16) d_jdk_52_method_2_code_4 (i32_nn (by omega)) 16 (by rw [i32_clamp (by omega)]; omega) (by decide) (Nat.le_of_ble_eq_true rfl) (Nat.le_of_ble_eq_true rfl) ?_
  intro hp4 ob3 k_ob3 eq_ob3 K5 g_ob3 lb_ob3 V_ob3
  exact ok_retA G rfl rfl rfl d_jdk_52_method_2_code_6 rfl ⟨_, _, rfl, lb_ob3, V_ob3⟩ (Nat.le_of_ble_eq_true rfl) (Nat.le_of_ble_eq_true rfl)
theorem d_jdk_52_method_14_code_0 : decode jdk_52_method_14_code 0 = .ok (.iload_n 2, 1) := by decide +kernel
theorem d_jdk_52_method_14_code_1 : decode jdk_52_method_14_code 1 = .ok (.invokestatic 107, 3) := by decide +kernel
theorem pd1 : parseMethodDescriptor "(I)[B" = some ⟨[.int], some (.array .byte)⟩ := by decide +kernel
theorem d_jdk_52_method_14_code_4 : decode jdk_52_method_14_code 4 = .ok (.astore_n 3, 1) := by decide +kernel
theorem d_jdk_52_method_14_code_5 : decode jdk_52_method_14_code 5 = .ok (.iconst 0, 1) := by decide +kernel
theorem d_jdk_52_method_14_code_6 : decode jdk_52_method_14_code 6 = .ok (.istore 4, 2) := by decide +kernel
theorem d_jdk_52_method_14_code_8 : decode jdk_52_method_14_code 8 = .ok (.iload 4, 2) := by decide +kernel
theorem d_jdk_52_method_14_code_10 : decode jdk_52_method_14_code 10 = .ok (.iload_n 2, 1) := by decide +kernel
theorem d_jdk_52_method_14_code_11 : decode jdk_52_method_14_code 11 = .ok (.if_icmp .ge 21, 3) := by decide +kernel
theorem d_jdk_52_method_14_code_32 : decode jdk_52_method_14_code 32 = .ok (.aload_n 3, 1) := by decide +kernel
theorem d_jdk_52_method_14_code_33 : decode jdk_52_method_14_code 33 = .ok (.areturn, 1) := by decide +kernel
theorem d_jdk_52_method_14_code_14 : decode jdk_52_method_14_code 14 = .ok (.aload_n 3, 1) := by decide +kernel
theorem d_jdk_52_method_14_code_15 : decode jdk_52_method_14_code 15 = .ok (.iload 4, 2) := by decide +kernel
theorem d_jdk_52_method_14_code_17 : decode jdk_52_method_14_code 17 = .ok (.aload_n 0, 1) := by decide +kernel
theorem d_jdk_52_method_14_code_18 : decode jdk_52_method_14_code 18 = .ok (.iload_n 1, 1) := by decide +kernel
theorem d_jdk_52_method_14_code_19 : decode jdk_52_method_14_code 19 = .ok (.caload, 1) := by decide +kernel
theorem d_jdk_52_method_14_code_20 : decode jdk_52_method_14_code 20 = .ok (.invokestatic 111, 3) := by decide +kernel
theorem pd2 : parseMethodDescriptor "([BII)V" = some ⟨[(.array .byte), .int, .int], none⟩ := by decide +kernel
theorem d_jdk_52_method_14_code_23 : decode jdk_52_method_14_code 23 = .ok (.iinc 1 1, 3) := by decide +kernel
theorem d_jdk_52_method_14_code_26 : decode jdk_52_method_14_code 26 = .ok (.iinc 4 1, 3) := by decide +kernel
theorem d_jdk_52_method_14_code_29 : decode jdk_52_method_14_code 29 = .ok (.goto (-21), 3) := by decide +kernel
def R_d_toB : Room := { frames := 2, cells := 1, slots := 16, locals := 24 }
theorem pl_b16 : plainFor (⟨"java/lang/StringUTF16", "toBytes", "([CII)[B"⟩ : MethodName) = true := plainFor_of_name (by first | (simp [plainName, overriddenIn]; done) | decide +kernel)
set_option maxRecDepth 65536 in
set_option maxHeartbeats 40000000 in
theorem d_toB {l : Launch} {Z : State} {a0 : Array Value} {n0 : Nat} {h0 : Heap} (C : Cx Z a0) (hO : Old Z n0 h0) {a : Addr} {ka : ClassId} {cs : List Int32} {dv : Value} (A : Arv Z h0 a ka .char (Int32.ofNat cs.length) (cs.map Value.int) dv) (hl : cs.length ≤ 8) :
    Con false l Z [] n0 (⟨"java/lang/StringUTF16", "toBytes", "([CII)[B"⟩ : MethodName) jdk_52_method_14_code 5 (some (.array .byte)) R_d_toB #[(.ref a), (.int (0 : Int32)), (.int (Int32.ofNat cs.length))] h0 [] (fun v h => ∃ t kb, v = some (.ref t) ∧ h0.size ≤ t ∧ Arv Z h t kb .byte (Int32.ofNat (2 * cs.length)) (u16 cs) (.int 0)) := by
  refine Con.intro (a0 := a0) pl_b16 hO (fun q => nomatch q) ?_
  intro p e s m below meth c G
  refine ok_as (mkF m 0 #[.val (.ref a), .val (.int (0 : Int32)), .val (.int (Int32.ofNat cs.length)), .unset, .unset] []) (by first | rfl | (simp [entryFrame, mkF, argsToLocals, Value.category]; done)) ?_
  refine ok_iloadN G d_jdk_52_method_14_code_0 rfl ?_
  refine ok_static G (argsL := [(.int (Int32.ofNat cs.length))]) (rest := []) (C.w77) (C.w78) (C.w69) (C.w79) (by decide) pd1 (d_nbf (k := cs.length) C hO hl) rfl rfl rfl d_jdk_52_method_14_code_1 (Nat.le_of_ble_eq_true rfl) (Nat.le_of_ble_eq_true rfl) (Nat.le_of_ble_eq_true rfl) (Nat.le_of_ble_eq_true rfl) (fun _ q => nomatch q) ?_
  rintro _ hp1 K2 ⟨b, kb, rfl, lbq_b, B⟩
  have lbh_b := lbq_b
  have ne_a_b : a ≠ b := Nat.ne_of_lt (Nat.lt_of_lt_of_le A.lt lbh_b)
  have lb_b : h0.size ≤ b := lbh_b
  have g_b : n0 ≤ b := Nat.le_trans (old_le hO) lbh_b
  replace A := A.keep K2 nin0
  refine ok_as (mkF m 4 #[.val (.ref a), .val (.int (0 : Int32)), .val (.int (Int32.ofNat cs.length)), .unset, .unset] [(.ref b)]) rfl ?_
  refine ok_astoreN G #[.val (.ref a), .val (.int (0 : Int32)), .val (.int (Int32.ofNat cs.length)), .val (.ref b), .unset] d_jdk_52_method_14_code_4 rfl rfl ?_
  refine ok_iconst G (0 : Int32) d_jdk_52_method_14_code_5 rfl ?_
  refine ok_istore G #[.val (.ref a), .val (.int (0 : Int32)), .val (.int (Int32.ofNat cs.length)), .val (.ref b), .val (.int (0 : Int32))] d_jdk_52_method_14_code_6 rfl ?_
  refine ok_loop (A := List Int32 × List Int32 × Heap) (fun q => q.2.1.length) (fun q => q.1 ++ q.2.1 = cs ∧ Arv Z q.2.2 a ka .char (Int32.ofNat cs.length) (cs.map Value.int) dv ∧ Arv Z q.2.2 b kb .byte (Int32.ofNat (2 * cs.length)) (u16 q.1) (.int 0)) (fun q => q.2.2) (fun q => mkF m 8 #[.val (.ref a), .val (.int (Int32.ofNat q.1.length)), .val (.int (Int32.ofNat cs.length)), .val (.ref b), .val (.int (Int32.ofNat q.1.length))] []) ?_ ([], cs, hp1) ⟨rfl, A, B⟩
  clear A B
  rintro ⟨pre, post, h⟩ ⟨hcs, A, B⟩ ih
  dsimp only at hcs A B ih ⊢
  cases post with
  | nil =>
    rw [List.append_nil] at hcs
    have hge : ¬ pre.length < cs.length := by rw [hcs]; omega
    have hpc : pre.length ≤ cs.length := by rw [hcs]; omega
    refine ok_iload G d_jdk_52_method_14_code_8 rfl ?_
    refine ok_iloadN G d_jdk_52_method_14_code_10 rfl ?_
    refine ok_icmpgeY G 32 d_jdk_52_method_14_code_11 (by decide) (by decide) (by rw [i32_lt (by omega) (by omega)]; exact hge) ?_
    refine ok_aloadN G d_jdk_52_method_14_code_32 rfl rfl ?_
    exact ok_retA G rfl rfl rfl d_jdk_52_method_14_code_33 rfl ⟨_, _, rfl, lb_b, by rw [← hcs]; rw [← hcs] at B; exact B⟩ (Nat.le_of_ble_eq_true rfl) (Nat.le_of_ble_eq_true rfl)
  | cons ch post =>
    have hlt : pre.length < cs.length := by rw [← hcs]; simp
    refine ok_iload G d_jdk_52_method_14_code_8 rfl ?_
    refine ok_iloadN G d_jdk_52_method_14_code_10 rfl ?_
    refine ok_icmpgeN G d_jdk_52_method_14_code_11 ((i32_lt (by omega) (by omega)).mpr hlt) ?_
    refine ok_aloadN G d_jdk_52_method_14_code_14 rfl rfl ?_
    refine ok_iload G d_jdk_52_method_14_code_15 rfl ?_
    refine ok_aloadN G d_jdk_52_method_14_code_17 rfl rfl ?_
    refine ok_iloadN G d_jdk_52_method_14_code_18 rfl ?_
    refine ok_caload G ch A ⟨i32_nn (by omega), (i32_lt (by omega) (by omega)).mpr hlt⟩ (by rw [i32_clamp (by omega), ← hcs]; exact getD_mid _ _ _ _ _) d_jdk_52_method_14_code_19 ?_
    refine ok_old (fun hO_h => ?_)
    refine ok_static G (argsL := [(.ref b), (.int (Int32.ofNat pre.length)), (.int ch)]) (rest := []) (C.w84) (C.w85) (C.w69) (C.w86) (by decide) pd2 (d_put (k := pre.length) C hO_h B (u16_len pre) (by omega) (by omega) g_b) rfl rfl rfl d_jdk_52_method_14_code_20 (Nat.le_of_ble_eq_true rfl) (Nat.le_of_ble_eq_true rfl) (Nat.le_of_ble_eq_true rfl) (Nat.le_of_ble_eq_true rfl) (allS ⟨(Or.inr lb_b), SafeFor.narrow⟩ (fun _ q => nomatch q)) ?_
    rintro _ hp3 K4 ⟨rfl, B⟩
    replace A := A.keep K4 (ninS ne_a_b nin0)
    refine ok_as (mkF m 23 #[.val (.ref a), .val (.int (Int32.ofNat pre.length)), .val (.int (Int32.ofNat cs.length)), .val (.ref b), .val (.int (Int32.ofNat pre.length))] []) rfl ?_
    refine ok_iinc G ((Int32.ofNat pre.length) + (1 : Int32)) #[.val (.ref a), .val (.int ((Int32.ofNat pre.length) + (1 : Int32))), .val (.int (Int32.ofNat cs.length)), .val (.ref b), .val (.int (Int32.ofNat pre.length))] d_jdk_52_method_14_code_23 rfl rfl rfl ?_
    refine ok_iinc G ((Int32.ofNat pre.length) + (1 : Int32)) #[.val (.ref a), .val (.int ((Int32.ofNat pre.length) + (1 : Int32))), .val (.int (Int32.ofNat cs.length)), .val (.ref b), .val (.int ((Int32.ofNat pre.length) + (1 : Int32)))] d_jdk_52_method_14_code_26 rfl rfl rfl ?_
    refine ok_goto G 8 d_jdk_52_method_14_code_29 (by decide) (by decide) ?_
    have e1 : Int32.ofNat pre.length + (1 : Int32) = Int32.ofNat (pre ++ [ch]).length := by rw [i32_succ]; simp
    rw [e1]
    exact ih (pre ++ [ch], post, hp3) (by simp) ⟨by simpa using hcs, A, by rw [u16_app]; exact B⟩
theorem d_jdk_52_method_21_code_0 : decode jdk_52_method_21_code 0 = .ok (.iconst 0, 1) := by decide +kernel
theorem d_jdk_52_method_21_code_1 : decode jdk_52_method_21_code 1 = .ok (.istore 5, 2) := by decide +kernel
theorem d_jdk_52_method_21_code_3 : decode jdk_52_method_21_code 3 = .ok (.iload 5, 2) := by decide +kernel
theorem d_jdk_52_method_21_code_5 : decode jdk_52_method_21_code 5 = .ok (.iload 4, 2) := by decide +kernel
theorem d_jdk_52_method_21_code_7 : decode jdk_52_method_21_code 7 = .ok (.if_icmp .ge 37, 3) := by decide +kernel
theorem d_jdk_52_method_21_code_44 : decode jdk_52_method_21_code 44 = .ok (.iload 4, 2) := by decide +kernel
theorem d_jdk_52_method_21_code_46 : decode jdk_52_method_21_code 46 = .ok (.ireturn, 1) := by decide +kernel
theorem d_jdk_52_method_21_code_10 : decode jdk_52_method_21_code 10 = .ok (.aload_n 0, 1) := by decide +kernel
theorem d_jdk_52_method_21_code_11 : decode jdk_52_method_21_code 11 = .ok (.iload_n 1, 1) := by decide +kernel
theorem d_jdk_52_method_21_code_12 : decode jdk_52_method_21_code 12 = .ok (.caload, 1) := by decide +kernel
theorem d_jdk_52_method_21_code_13 : decode jdk_52_method_21_code 13 = .ok (.istore 6, 2) := by decide +kernel
theorem d_jdk_52_method_21_code_15 : decode jdk_52_method_21_code 15 = .ok (.iload 6, 2) := by decide +kernel
theorem d_jdk_52_method_21_code_17 : decode jdk_52_method_21_code 17 = .ok (.sipush 255, 3) := by decide +kernel
theorem d_jdk_52_method_21_code_20 : decode jdk_52_method_21_code 20 = .ok (.if_icmp .le 6, 3) := by decide +kernel
theorem d_jdk_52_method_21_code_26 : decode jdk_52_method_21_code 26 = .ok (.aload_n 2, 1) := by decide +kernel
theorem d_jdk_52_method_21_code_27 : decode jdk_52_method_21_code 27 = .ok (.iload_n 3, 1) := by decide +kernel
theorem d_jdk_52_method_21_code_28 : decode jdk_52_method_21_code 28 = .ok (.iload 6, 2) := by decide +kernel
theorem d_jdk_52_method_21_code_30 : decode jdk_52_method_21_code 30 = .ok (.i2b, 1) := by decide +kernel
theorem d_jdk_52_method_21_code_31 : decode jdk_52_method_21_code 31 = .ok (.bastore, 1) := by decide +kernel
theorem d_jdk_52_method_21_code_32 : decode jdk_52_method_21_code 32 = .ok (.iinc 1 1, 3) := by decide +kernel
theorem d_jdk_52_method_21_code_35 : decode jdk_52_method_21_code 35 = .ok (.iinc 3 1, 3) := by decide +kernel
theorem d_jdk_52_method_21_code_38 : decode jdk_52_method_21_code 38 = .ok (.iinc 5 1, 3) := by decide +kernel
theorem d_jdk_52_method_21_code_41 : decode jdk_52_method_21_code 41 = .ok (.goto (-38), 3) := by decide +kernel
theorem d_jdk_52_method_21_code_23 : decode jdk_52_method_21_code 23 = .ok (.iload 5, 2) := by decide +kernel
theorem d_jdk_52_method_21_code_25 : decode jdk_52_method_21_code 25 = .ok (.ireturn, 1) := by decide +kernel
def R_d_comp5 : Room := { frames := 0, cells := 0, slots := 0, locals := 0 }
theorem pl_b15 : plainFor (⟨"java/lang/StringUTF16", "compress", "([CI[BII)I"⟩ : MethodName) = true := plainFor_of_name (by first | (simp [plainName, overriddenIn]; done) | decide +kernel)
set_option maxRecDepth 65536 in
set_option maxHeartbeats 40000000 in
theorem d_comp5 {l : Launch} {Z : State} {a0 : Array Value} {n0 : Nat} {h0 : Heap} (C : Cx Z a0) (hO : Old Z n0 h0) {a b : Addr} {ka kb : ClassId} {cs : List Int32} {dv : Value} (A : Arv Z h0 a ka .char (Int32.ofNat cs.length) (cs.map Value.int) dv) (B : Arv Z h0 b kb .byte (Int32.ofNat cs.length) [] (.int 0)) (hab : a ≠ b) (hl : cs.length ≤ 8) (hc : ∀ c ∈ cs, Chr c) (g_b : n0 ≤ b) :
    Con false l Z [] n0 (⟨"java/lang/StringUTF16", "compress", "([CI[BII)I"⟩ : MethodName) jdk_52_method_21_code 7 (some .int) R_d_comp5 #[(.ref a), (.int (0 : Int32)), (.ref b), (.int (0 : Int32)), (.int (Int32.ofNat cs.length))] h0 [b] (fun v h => ∃ k, v = some (.int (Int32.ofNat k)) ∧ k ≤ cs.length ∧ (k = cs.length → (∀ c ∈ cs, Lat c) ∧ Arv Z h b kb .byte (Int32.ofNat cs.length) (cs.map lo8) (.int 0)) ∧ (k < cs.length → ∃ pre ch post, cs = pre ++ ch :: post ∧ pre.length = k ∧ (255 : Int32) < ch)) := by
  refine Con.intro (a0 := a0) pl_b15 hO (fun q => nomatch q) ?_
  intro p e s m below meth c G
  refine ok_as (mkF m 0 #[.val (.ref a), .val (.int (0 : Int32)), .val (.ref b), .val (.int (0 : Int32)), .val (.int (Int32.ofNat cs.length)), .unset, .unset] []) (by first | rfl | (simp [entryFrame, mkF, argsToLocals, Value.category]; done)) ?_
  refine ok_iconst G (0 : Int32) d_jdk_52_method_21_code_0 rfl ?_
  refine ok_istore G #[.val (.ref a), .val (.int (0 : Int32)), .val (.ref b), .val (.int (0 : Int32)), .val (.int (Int32.ofNat cs.length)), .val (.int (0 : Int32)), .unset] d_jdk_52_method_21_code_1 rfl ?_
  refine ok_loop (A := List Int32 × List Int32 × Heap × Slot) (fun q => q.2.1.length) (fun q => q.1 ++ q.2.1 = cs ∧ One q.2.2.2 ∧ (∀ c ∈ q.1, Lat c) ∧ Arv Z q.2.2.1 a ka .char (Int32.ofNat cs.length) (cs.map Value.int) dv ∧ Arv Z q.2.2.1 b kb .byte (Int32.ofNat cs.length) (q.1.map lo8) (.int 0)) (fun q => q.2.2.1) (fun q => mkF m 3 #[.val (.ref a), .val (.int (Int32.ofNat q.1.length)), .val (.ref b), .val (.int (Int32.ofNat q.1.length)), .val (.int (Int32.ofNat cs.length)), .val (.int (Int32.ofNat q.1.length)), q.2.2.2] []) ?_ ([], cs, h0, .unset) ⟨rfl, One.u, (fun _ q => nomatch q), A, B⟩
  clear A B
  rintro ⟨pre, post, h, sl⟩ ⟨hcs, hsl, hpl, A, B⟩ ih
  dsimp only at hcs hsl hpl A B ih ⊢
  cases post with
  | nil =>
    rw [List.append_nil] at hcs
    have hge : ¬ pre.length < cs.length := by rw [hcs]; omega
    have hpc : pre.length ≤ cs.length := by rw [hcs]; omega
    refine ok_iload G d_jdk_52_method_21_code_3 rfl ?_
    refine ok_iload G d_jdk_52_method_21_code_5 rfl ?_
    refine ok_icmpgeY G 44 d_jdk_52_method_21_code_7 (by decide) (by decide) (by rw [i32_lt (by omega) (by omega)]; exact hge) ?_
    refine ok_iload G d_jdk_52_method_21_code_44 rfl ?_
    exact ok_retI G rfl d_jdk_52_method_21_code_46 ⟨cs.length, rfl, Nat.le_refl _, fun _ => ⟨by rw [← hcs]; exact hpl, by rw [← hcs] at B ⊢; exact B⟩, fun q => absurd q (Nat.lt_irrefl _)⟩ (Nat.le_of_ble_eq_true rfl) (Nat.le_of_ble_eq_true rfl)
  | cons ch post =>
    have hlt : pre.length < cs.length := by rw [← hcs]; simp
    have hch : Chr ch := hc ch (by rw [← hcs]; simp)
    refine ok_iload G d_jdk_52_method_21_code_3 rfl ?_
    refine ok_iload G d_jdk_52_method_21_code_5 rfl ?_
    refine ok_icmpgeN G d_jdk_52_method_21_code_7 ((i32_lt (by omega) (by omega)).mpr hlt) ?_
    refine ok_aloadN G d_jdk_52_method_21_code_10 rfl rfl ?_
    refine ok_iloadN G d_jdk_52_method_21_code_11 rfl ?_
    refine ok_caload G ch A ⟨i32_nn (by omega), (i32_lt (by omega) (by omega)).mpr hlt⟩ (by rw [i32_clamp (by omega), ← hcs]; exact getD_mid _ _ _ _ _) d_jdk_52_method_21_code_12 ?_
    refine ok_istore G #[.val (.ref a), .val (.int (Int32.ofNat pre.length)), .val (.ref b), .val (.int (Int32.ofNat pre.length)), .val (.int (Int32.ofNat cs.length)), .val (.int (Int32.ofNat pre.length)), .val (.int ch)] d_jdk_52_method_21_code_13 (XS.store1 rfl hsl rfl) ?_
    refine ok_iload G d_jdk_52_method_21_code_15 rfl ?_
    refine ok_sipush G (255 : Int32) d_jdk_52_method_21_code_17 rfl ?_
    refine ok_icmple G 26 d_jdk_52_method_21_code_20 (by decide) (by decide) (fun cq1 => ?_) (fun cq1 => ?_)
    · skip
      refine ok_aloadN G d_jdk_52_method_21_code_26 rfl rfl ?_
      refine ok_iloadN G d_jdk_52_method_21_code_27 rfl ?_
      refine ok_iload G d_jdk_52_method_21_code_28 rfl ?_
      refine ok_i2b G d_jdk_52_method_21_code_30 ?_
      refine ok_bastoreA G ch.toInt8.toInt32 B ⟨i32_nn (by omega), (i32_lt (by omega) (by omega)).mpr hlt⟩ (by rw [i32_clamp (by omega)]; simp) (by simp [nar]) d_jdk_52_method_21_code_31 g_b (Or.inl (List.mem_of_getElem? (i := 0) rfl)) SafeFor.narrow ?_
      intro hp2 K3 Bn
      replace A := A.keep K3 (ninS hab nin0)
      replace B := Bn
      clear Bn
      refine ok_iinc G ((Int32.ofNat pre.length) + (1 : Int32)) #[.val (.ref a), .val (.int ((Int32.ofNat pre.length) + (1 : Int32))), .val (.ref b), .val (.int (Int32.ofNat pre.length)), .val (.int (Int32.ofNat cs.length)), .val (.int (Int32.ofNat pre.length)), .val (.int ch)] d_jdk_52_method_21_code_32 rfl rfl rfl ?_
      refine ok_iinc G ((Int32.ofNat pre.length) + (1 : Int32)) #[.val (.ref a), .val (.int ((Int32.ofNat pre.length) + (1 : Int32))), .val (.ref b), .val (.int ((Int32.ofNat pre.length) + (1 : Int32))), .val (.int (Int32.ofNat cs.length)), .val (.int (Int32.ofNat pre.length)), .val (.int ch)] d_jdk_52_method_21_code_35 rfl rfl rfl ?_
      refine ok_iinc G ((Int32.ofNat pre.length) + (1 : Int32)) #[.val (.ref a), .val (.int ((Int32.ofNat pre.length) + (1 : Int32))), .val (.ref b), .val (.int ((Int32.ofNat pre.length) + (1 : Int32))), .val (.int (Int32.ofNat cs.length)), .val (.int ((Int32.ofNat pre.length) + (1 : Int32))), .val (.int ch)] d_jdk_52_method_21_code_38 rfl rfl rfl ?_
      refine ok_goto G 3 d_jdk_52_method_21_code_41 (by decide) (by decide) ?_
      have e1 : Int32.ofNat pre.length + (1 : Int32) = Int32.ofNat (pre ++ [ch]).length := by rw [i32_succ]; simp
      rw [e1]
      exact ih (pre ++ [ch], post, hp2, .val (.int ch)) (by simp) ⟨by simpa using hcs, One.val rfl, (fun c q => (List.mem_append.mp q).elim (hpl c) (fun z => by rw [List.mem_singleton.mp z]; exact ⟨hch.1, cq1⟩)), A, by simpa using B⟩
    · skip
      refine ok_iload G d_jdk_52_method_21_code_23 rfl ?_
      exact ok_retI G rfl d_jdk_52_method_21_code_25 ⟨pre.length, rfl, Nat.le_of_lt hlt, fun q => absurd q (Nat.ne_of_lt hlt), fun _ => ⟨pre, ch, post, hcs.symm, rfl, cq1⟩⟩ (Nat.le_of_ble_eq_true rfl) (Nat.le_of_ble_eq_true rfl)
theorem d_jdk_52_method_16_code_0 : decode jdk_52_method_16_code 0 = .ok (.iload_n 2, 1) := by decide +kernel
theorem d_jdk_52_method_16_code_1 : decode jdk_52_method_16_code 1 = .ok (.newarray .byte, 2) := by decide +kernel
theorem d_jdk_52_method_16_code_3 : decode jdk_52_method_16_code 3 = .ok (.astore_n 3, 1) := by decide +kernel
theorem d_jdk_52_method_16_code_4 : decode jdk_52_method_16_code 4 = .ok (.aload_n 0, 1) := by decide +kernel
theorem d_jdk_52_method_16_code_5 : decode jdk_52_method_16_code 5 = .ok (.iload_n 1, 1) := by decide +kernel
theorem d_jdk_52_method_16_code_6 : decode jdk_52_method_16_code 6 = .ok (.aload_n 3, 1) := by decide +kernel
theorem d_jdk_52_method_16_code_7 : decode jdk_52_method_16_code 7 = .ok (.iconst 0, 1) := by decide +kernel
theorem d_jdk_52_method_16_code_8 : decode jdk_52_method_16_code 8 = .ok (.iload_n 2, 1) := by decide +kernel
theorem d_jdk_52_method_16_code_9 : decode jdk_52_method_16_code 9 = .ok (.invokestatic 115, 3) := by decide +kernel
theorem pd3 : parseMethodDescriptor "([CI[BII)I" = some ⟨[(.array .char), .int, (.array .byte), .int, .int], some .int⟩ := by decide +kernel
theorem d_jdk_52_method_16_code_12 : decode jdk_52_method_16_code 12 = .ok (.istore 4, 2) := by decide +kernel
theorem d_jdk_52_method_16_code_14 : decode jdk_52_method_16_code 14 = .ok (.iload 4, 2) := by decide +kernel
theorem d_jdk_52_method_16_code_16 : decode jdk_52_method_16_code 16 = .ok (.iload_n 2, 1) := by decide +kernel
theorem d_jdk_52_method_16_code_17 : decode jdk_52_method_16_code 17 = .ok (.if_icmp .eq 40, 3) := by decide +kernel
theorem d_jdk_52_method_16_code_57 : decode jdk_52_method_16_code 57 = .ok (.aload_n 3, 1) := by decide +kernel
theorem d_jdk_52_method_16_code_58 : decode jdk_52_method_16_code 58 = .ok (.areturn, 1) := by decide +kernel
theorem d_jdk_52_method_16_code_20 : decode jdk_52_method_16_code 20 = .ok (.aload_n 0, 1) := by decide +kernel
theorem d_jdk_52_method_16_code_21 : decode jdk_52_method_16_code 21 = .ok (.iload_n 1, 1) := by decide +kernel
theorem d_jdk_52_method_16_code_22 : decode jdk_52_method_16_code 22 = .ok (.iload_n 2, 1) := by decide +kernel
theorem d_jdk_52_method_16_code_23 : decode jdk_52_method_16_code 23 = .ok (.invokestatic 119, 3) := by decide +kernel
theorem pd4 : parseMethodDescriptor "([CII)[B" = some ⟨[(.array .char), .int, .int], some (.array .byte)⟩ := by decide +kernel
theorem d_jdk_52_method_16_code_26 : decode jdk_52_method_16_code 26 = .ok (.astore 5, 2) := by decide +kernel
theorem d_jdk_52_method_16_code_28 : decode jdk_52_method_16_code 28 = .ok (.aload 5, 2) := by decide +kernel
theorem d_jdk_52_method_16_code_30 : decode jdk_52_method_16_code 30 = .ok (.iload 4, 2) := by decide +kernel
theorem d_jdk_52_method_16_code_32 : decode jdk_52_method_16_code 32 = .ok (.invokestatic 71, 3) := by decide +kernel
theorem pd5 : parseMethodDescriptor "([BI)C" = some ⟨[(.array .byte), .int], some .char⟩ := by decide +kernel
theorem d_jdk_52_method_16_code_35 : decode jdk_52_method_16_code 35 = .ok (.sipush 255, 3) := by decide +kernel
theorem d_jdk_52_method_16_code_38 : decode jdk_52_method_16_code 38 = .ok (.if_icmp .gt 16, 3) := by decide +kernel
theorem d_jdk_52_method_16_code_54 : decode jdk_52_method_16_code 54 = .ok (.aload 5, 2) := by decide +kernel
theorem d_jdk_52_method_16_code_56 : decode jdk_52_method_16_code 56 = .ok (.areturn, 1) := by decide +kernel
def R_d_comp3 : Room := { frames := 3, cells := 2, slots := 32, locals := 40 }
theorem pl_b14 : plainFor (⟨"java/lang/StringUTF16", "compress", "([CII)[B"⟩ : MethodName) = true := plainFor_of_name (by first | (simp [plainName, overriddenIn]; done) | decide +kernel)
set_option maxRecDepth 65536 in
set_option maxHeartbeats 40000000 in
theorem d_comp3 {l : Launch} {Z : State} {a0 : Array Value} {n0 : Nat} {h0 : Heap} (C : Cx Z a0) (hO : Old Z n0 h0) {a : Addr} {ka : ClassId} {cs : List Int32} {dv : Value} (A : Arv Z h0 a ka .char (Int32.ofNat cs.length) (cs.map Value.int) dv) (hl : cs.length ≤ 8) (hc : ∀ c ∈ cs, Chr c) :
    Con false l Z [] n0 (⟨"java/lang/StringUTF16", "compress", "([CII)[B"⟩ : MethodName) jdk_52_method_16_code 6 (some (.array .byte)) R_d_comp3 #[(.ref a), (.int (0 : Int32)), (.int (Int32.ofNat cs.length))] h0 [] (fun v h => ∃ t kb, v = some (.ref t) ∧ h0.size ≤ t ∧ (((∀ c ∈ cs, Lat c) ∧ Arv Z h t kb .byte (Int32.ofNat cs.length) (cs.map lo8) (.int 0)) ∨ Arv Z h t kb .byte (Int32.ofNat (2 * cs.length)) (u16 cs) (.int 0))) := by
  refine Con.intro (a0 := a0) pl_b14 hO (fun q => nomatch q) ?_
  intro p e s m below meth c G
  refine ok_as (mkF m 0 #[.val (.ref a), .val (.int (0 : Int32)), .val (.int (Int32.ofNat cs.length)), .unset, .unset, .unset] []) (by first | rfl | (simp [entryFrame, mkF, argsToLocals, Value.category]; done)) ?_
  refine ok_iloadN G d_jdk_52_method_16_code_0 rfl ?_
  refine ok_newP G (aty := .byte) (C.w16) d_jdk_52_method_16_code_1 (i32_nn (by omega)) 16 (by rw [i32_clamp (by omega)]; omega) (by decide) (Nat.le_of_ble_eq_true rfl) (Nat.le_of_ble_eq_true rfl) ?_
  intro hp2 ob1 k_ob1 eq_ob1 K3 g_ob1 lb_ob1 V_ob1
  have ne_a_ob1 : a ≠ ob1 := Nat.ne_of_lt (Nat.lt_of_lt_of_le A.lt (Nat.le_of_eq eq_ob1.symm))
  replace A := A.keep K3 nin0
  refine ok_astoreN G #[.val (.ref a), .val (.int (0 : Int32)), .val (.int (Int32.ofNat cs.length)), .val (.ref ob1), .unset, .unset] d_jdk_52_method_16_code_3 rfl rfl ?_
  refine ok_aloadN G d_jdk_52_method_16_code_4 rfl rfl ?_
  refine ok_iloadN G d_jdk_52_method_16_code_5 rfl ?_
  refine ok_aloadN G d_jdk_52_method_16_code_6 rfl rfl ?_
  refine ok_iconst G (0 : Int32) d_jdk_52_method_16_code_7 rfl ?_
  refine ok_iloadN G d_jdk_52_method_16_code_8 rfl ?_
  refine ok_old (fun hO_hp2 => ?_)
  refine ok_static G (argsL := [(.ref a), (.int (0 : Int32)), (.ref ob1), (.int (0 : Int32)), (.int (Int32.ofNat cs.length))]) (rest := []) (C.w71) (C.w72) (C.w69) (C.w73) (by decide) pd3 (d_comp5 C hO_hp2 A V_ob1 ne_a_ob1 hl hc g_ob1) rfl rfl rfl d_jdk_52_method_16_code_9 (Nat.le_of_ble_eq_true rfl) (Nat.le_of_ble_eq_true rfl) (Nat.le_of_ble_eq_true rfl) (Nat.le_of_ble_eq_true rfl) (allS ⟨(Or.inr lb_ob1), SafeFor.narrow⟩ (fun _ q => nomatch q)) ?_
  rintro _ hp4 K5 ⟨kk, rfl, hkn, hfull, hpart⟩
  replace A := A.keep K5 (ninS ne_a_ob1 nin0)
  refine ok_as (mkF m 12 #[.val (.ref a), .val (.int (0 : Int32)), .val (.int (Int32.ofNat cs.length)), .val (.ref ob1), .unset, .unset] [(.int (Int32.ofNat kk))]) rfl ?_
  refine ok_istore G #[.val (.ref a), .val (.int (0 : Int32)), .val (.int (Int32.ofNat cs.length)), .val (.ref ob1), .val (.int (Int32.ofNat kk)), .unset] d_jdk_52_method_16_code_12 rfl ?_
  refine ok_iload G d_jdk_52_method_16_code_14 rfl ?_
  refine ok_iloadN G d_jdk_52_method_16_code_16 rfl ?_
  refine ok_icmpeq G 57 d_jdk_52_method_16_code_17 (by decide) (by decide) (fun cq6 => ?_) (fun cq6 => ?_)
  · skip
    have hkq := (i32_eq (by omega) (by omega)).mp cq6
    refine ok_aloadN G d_jdk_52_method_16_code_57 rfl rfl ?_
    exact ok_retA G rfl rfl rfl d_jdk_52_method_16_code_58 rfl ⟨_, _, rfl, lb_ob1, Or.inl ⟨(hfull hkq).1, (hfull hkq).2⟩⟩ (Nat.le_of_ble_eq_true rfl) (Nat.le_of_ble_eq_true rfl)
  · skip
    have hkq : ¬ kk = cs.length := fun q => cq6 (by rw [q])
    obtain ⟨pre, ch, post, hcs, hpre, h255⟩ := hpart (by omega)
    have hchr : Chr ch := hc ch (by rw [hcs]; simp)
    subst hpre
    refine ok_aloadN G d_jdk_52_method_16_code_20 rfl rfl ?_
    refine ok_iloadN G d_jdk_52_method_16_code_21 rfl ?_
    refine ok_iloadN G d_jdk_52_method_16_code_22 rfl ?_
    refine ok_old (fun hO_hp4 => ?_)
    refine ok_keep (fun hKp_hp4 => ?_)
    refine ok_static G (argsL := [(.ref a), (.int (0 : Int32)), (.int (Int32.ofNat cs.length))]) (rest := []) (C.w74) (C.w75) (C.w69) (C.w76) (by decide) pd4 (d_toB C hO_hp4 A hl) rfl rfl rfl d_jdk_52_method_16_code_23 (Nat.le_of_ble_eq_true rfl) (Nat.le_of_ble_eq_true rfl) (Nat.le_of_ble_eq_true rfl) (Nat.le_of_ble_eq_true rfl) (fun _ q => nomatch q) ?_
    rintro _ hp7 K8 ⟨tw, kw, rfl, lbq_tw, V_tw⟩
    have lbh_tw := lbq_tw
    have ne_a_tw : a ≠ tw := Nat.ne_of_lt (Nat.lt_of_lt_of_le A.lt lbh_tw)
    have lb_tw : h0.size ≤ tw := Nat.le_trans hKp_hp4.1 lbh_tw
    have g_tw : n0 ≤ tw := Nat.le_trans (old_le hO_hp4) lbh_tw
    replace A := A.keep K8 nin0
    refine ok_as (mkF m 26 #[.val (.ref a), .val (.int (0 : Int32)), .val (.int (Int32.ofNat cs.length)), .val (.ref ob1), .val (.int (Int32.ofNat pre.length)), .unset] [(.ref tw)]) rfl ?_
    refine ok_astore G #[.val (.ref a), .val (.int (0 : Int32)), .val (.int (Int32.ofNat cs.length)), .val (.ref ob1), .val (.int (Int32.ofNat pre.length)), .val (.ref tw)] d_jdk_52_method_16_code_26 rfl rfl ?_
    refine ok_aload G d_jdk_52_method_16_code_28 rfl rfl ?_
    refine ok_iload G d_jdk_52_method_16_code_30 rfl ?_
    refine ok_old (fun hO_hp7 => ?_)
    refine ok_static G (argsL := [(.ref tw), (.int (Int32.ofNat pre.length))]) (rest := []) (C.w90) (C.w91) (C.w69) (C.w92) (by decide) pd5 (d_get (ch := ch) (k := pre.length) C hO_hp7 V_tw (by rw [hcs]; exact u16_lo _ _ _ _) (by rw [hcs]; exact u16_hi _ _ _ _) (by rw [hcs] at hl ⊢; simp; omega) (by omega) hchr) rfl rfl rfl d_jdk_52_method_16_code_32 (Nat.le_of_ble_eq_true rfl) (Nat.le_of_ble_eq_true rfl) (Nat.le_of_ble_eq_true rfl) (Nat.le_of_ble_eq_true rfl) (fun _ q => nomatch q) ?_
    rintro _ _ _ ⟨rfl, rfl⟩
    refine ok_as (mkF m 35 #[.val (.ref a), .val (.int (0 : Int32)), .val (.int (Int32.ofNat cs.length)), .val (.ref ob1), .val (.int (Int32.ofNat pre.length)), .val (.ref tw)] [(.int ch)]) rfl ?_
    refine ok_sipush G (255 : Int32) d_jdk_52_method_16_code_35 rfl ?_
    refine ok_icmpgtY G 54 d_jdk_52_method_16_code_38 (by decide) (by decide) h255 ?_
    refine ok_aload G d_jdk_52_method_16_code_54 rfl rfl ?_
    exact ok_retA G rfl rfl rfl d_jdk_52_method_16_code_56 rfl ⟨_, _, rfl, lb_tw, Or.inr V_tw⟩ (Nat.le_of_ble_eq_true rfl) (Nat.le_of_ble_eq_true rfl)
theorem d_jdk_52_method_15_code_0 : decode jdk_52_method_15_code 0 = .ok (.iload_n 1, 1) := by decide +kernel
theorem d_jdk_52_method_15_code_1 : decode jdk_52_method_15_code 1 = .ok (.aload_n 0, 1) := by decide +kernel
theorem d_jdk_52_method_15_code_2 : decode jdk_52_method_15_code 2 = .ok (.arraylength, 1) := by decide +kernel
theorem d_jdk_52_method_15_code_3 : decode jdk_52_method_15_code 3 = .ok (.isub, 1) := by decide +kernel
theorem d_jdk_52_method_15_code_4 : decode jdk_52_method_15_code 4 = .ok (.bipush 31, 2) := by decide +kernel
theorem d_jdk_52_method_15_code_6 : decode jdk_52_method_15_code 6 = .ok (.iushr, 1) := by decide +kernel
theorem d_jdk_52_method_15_code_7 : decode jdk_52_method_15_code 7 = .ok (.i2b, 1) := by decide +kernel
theorem d_jdk_52_method_15_code_8 : decode jdk_52_method_15_code 8 = .ok (.ireturn, 1) := by decide +kernel
def R_d_cod1 : Room := { frames := 0, cells := 0, slots := 0, locals := 0 }
theorem pl_b21 : plainFor (⟨"java/lang/StringUTF16", "coderFromArrayLen", "([BI)B"⟩ : MethodName) = true := plainFor_of_name (by first | (simp [plainName, overriddenIn]; done) | decide +kernel)
set_option maxRecDepth 65536 in
set_option maxHeartbeats 40000000 in
theorem d_cod1 {l : Launch} {Z : State} {a0 : Array Value} {n0 : Nat} {h0 : Heap} (C : Cx Z a0) (hO : Old Z n0 h0) {b : Addr} {kb : ClassId} {k : Nat} {vs : List Value} {dv : Value} (B : Arv Z h0 b kb .byte (Int32.ofNat (2 * k)) vs dv) (h1 : 0 < k) (hk : k ≤ 8) :
    Con false l Z [] n0 (⟨"java/lang/StringUTF16", "coderFromArrayLen", "([BI)B"⟩ : MethodName) jdk_52_method_15_code 2 (some .byte) R_d_cod1 #[(.ref b), (.int (Int32.ofNat k))] h0 [] (fun v h => v = some (.int 1) ∧ h0 = h) := by
  refine Con.intro (a0 := a0) pl_b21 hO (fun q => nomatch q) ?_
  intro p e s m below meth c G
  refine ok_as (mkF m 0 #[.val (.ref b), .val (.int (Int32.ofNat k))] []) (by first | rfl | (simp [entryFrame, mkF, argsToLocals, Value.category]; done)) ?_
  refine ok_iloadN G d_jdk_52_method_15_code_0 rfl ?_
  refine ok_aloadN G d_jdk_52_method_15_code_1 rfl rfl ?_
  refine ok_arraylength G B d_jdk_52_method_15_code_2 ?_
  refine ok_isub G d_jdk_52_method_15_code_3 ?_
  refine ok_bipush G (31 : Int32) d_jdk_52_method_15_code_4 rfl ?_
  refine ok_iushr G d_jdk_52_method_15_code_6 ?_
  refine ok_i2b G d_jdk_52_method_15_code_7 ?_
  refine ok_sayI (1 : Int32) (cod_one h1 hk) ?_
  exact ok_retN G rfl (by simp) d_jdk_52_method_15_code_8 rfl ⟨rfl, rfl⟩ (Nat.le_of_ble_eq_true rfl) (Nat.le_of_ble_eq_true rfl)
def R_c_cod : Room := { frames := 0, cells := 0, slots := 0, locals := 0 }
set_option maxRecDepth 65536 in
set_option maxHeartbeats 40000000 in
theorem c_cod {l : Launch} {Z : State} {a0 : Array Value} {n0 : Nat} {h0 : Heap} (C : Cx Z a0) (hO : Old Z n0 h0) {b : Addr} {kb : ClassId} {n : Int32} {vs : List Value} {dv : Value} (B : Arv Z h0 b kb .byte n vs dv) :
    Con false l Z [] n0 (⟨"java/lang/StringUTF16", "coderFromArrayLen", "([BI)B"⟩ : MethodName) jdk_52_method_15_code 2 (some .byte) R_c_cod #[(.ref b), (.int n)] h0 [] (fun v h => v = some (.int 0) ∧ h0 = h) := by
  refine Con.intro (a0 := a0) pl_b21 hO (fun q => nomatch q) ?_
  intro p e s m below meth c G
  refine ok_as (mkF m 0 #[.val (.ref b), .val (.int n)] []) (by first | rfl | (simp [entryFrame, mkF, argsToLocals, Value.category]; done)) ?_
  refine ok_iloadN G d_jdk_52_method_15_code_0 rfl ?_
  refine ok_aloadN G d_jdk_52_method_15_code_1 rfl rfl ?_
  refine ok_arraylength G B d_jdk_52_method_15_code_2 ?_
  refine ok_isub G d_jdk_52_method_15_code_3 ?_
  refine ok_bipush G (31 : Int32) d_jdk_52_method_15_code_4 rfl ?_
  refine ok_iushr G d_jdk_52_method_15_code_6 ?_
  refine ok_i2b G d_jdk_52_method_15_code_7 ?_
  refine ok_sayI (0 : Int32) (by rw [Int32.sub_self]; rfl) ?_
  exact ok_retN G rfl (by simp) d_jdk_52_method_15_code_8 rfl ⟨rfl, rfl⟩ (Nat.le_of_ble_eq_true rfl) (Nat.le_of_ble_eq_true rfl)
theorem d_jdk_42_method_149_code_0 : decode jdk_42_method_149_code 0 = .ok (.aload_n 0, 1) := by decide +kernel
theorem d_jdk_42_method_149_code_1 : decode jdk_42_method_149_code 1 = .ok (.invokespecial 1, 3) := by decide +kernel
theorem d_jdk_42_method_149_code_4 : decode jdk_42_method_149_code 4 = .ok (.iload_n 3, 1) := by decide +kernel
theorem d_jdk_42_method_149_code_5 : decode jdk_42_method_149_code 5 = .ok (.ifCond .ne 22, 3) := by decide +kernel
theorem d_jdk_42_method_149_code_27 : decode jdk_42_method_149_code 27 = .ok (.getstatic 38, 3) := by decide +kernel
theorem d_jdk_42_method_149_code_30 : decode jdk_42_method_149_code 30 = .ok (.ifCond .eq 28, 3) := by decide +kernel
theorem d_jdk_42_method_149_code_33 : decode jdk_42_method_149_code 33 = .ok (.aload_n 1, 1) := by decide +kernel
theorem d_jdk_42_method_149_code_34 : decode jdk_42_method_149_code 34 = .ok (.iload_n 2, 1) := by decide +kernel
theorem d_jdk_42_method_149_code_35 : decode jdk_42_method_149_code 35 = .ok (.iload_n 3, 1) := by decide +kernel
theorem d_jdk_42_method_149_code_36 : decode jdk_42_method_149_code 36 = .ok (.invokestatic 177, 3) := by decide +kernel
theorem d_jdk_42_method_149_code_39 : decode jdk_42_method_149_code 39 = .ok (.astore 5, 2) := by decide +kernel
theorem d_jdk_42_method_149_code_41 : decode jdk_42_method_149_code 41 = .ok (.aload_n 0, 1) := by decide +kernel
theorem d_jdk_42_method_149_code_42 : decode jdk_42_method_149_code 42 = .ok (.aload 5, 2) := by decide +kernel
theorem d_jdk_42_method_149_code_44 : decode jdk_42_method_149_code 44 = .ok (.iload_n 3, 1) := by decide +kernel
theorem d_jdk_42_method_149_code_45 : decode jdk_42_method_149_code 45 = .ok (.invokestatic 47, 3) := by decide +kernel
theorem pd6 : parseMethodDescriptor "([BI)B" = some ⟨[(.array .byte), .int], some .byte⟩ := by decide +kernel
theorem d_jdk_42_method_149_code_48 : decode jdk_42_method_149_code 48 = .ok (.putfield 15, 3) := by decide +kernel
theorem d_jdk_42_method_149_code_51 : decode jdk_42_method_149_code 51 = .ok (.aload_n 0, 1) := by decide +kernel
theorem d_jdk_42_method_149_code_52 : decode jdk_42_method_149_code 52 = .ok (.aload 5, 2) := by decide +kernel
theorem d_jdk_42_method_149_code_54 : decode jdk_42_method_149_code 54 = .ok (.putfield 9, 3) := by decide +kernel
theorem d_jdk_42_method_149_code_57 : decode jdk_42_method_149_code 57 = .ok (.return_, 1) := by decide +kernel
def R_d_init4 : Room := { frames := 4, cells := 2, slots := 32, locals := 57 }
theorem pl_b2 : plainFor (⟨"java/lang/String", "<init>", "([CIILjava/lang/Void;)V"⟩ : MethodName) = true := plainFor_of_name (by first | (simp [plainName, overriddenIn]; done) | decide +kernel)
set_option maxRecDepth 65536 in
set_option maxHeartbeats 40000000 in
theorem d_init4 {l : Launch} {Z : State} {a0 : Array Value} {n0 : Nat} {h0 : Heap} (C : Cx Z a0) (hO : Old Z n0 h0) {x a : Addr} {ka : ClassId} {cs : List Int32} {dv : Value} (E : Exa Z h0 x "java/lang/String") (FV : Fld Z h0 x "java/lang/String" "value" "[B" .null) (FC : Fld Z h0 x "java/lang/String" "coder" "B" (.int (0 : Int32))) (g_x : n0 ≤ x) (A : Arv Z h0 a ka .char (Int32.ofNat cs.length) (cs.map Value.int) dv) (h1 : 0 < cs.length) (hl : cs.length ≤ 8) (hc : ∀ c ∈ cs, Chr c) (hxa : x ≠ a) :
    Con false l Z [] n0 (⟨"java/lang/String", "<init>", "([CIILjava/lang/Void;)V"⟩ : MethodName) jdk_42_method_149_code 6 none R_d_init4 #[(.ref x), (.ref a), (.int (0 : Int32)), (.int (Int32.ofNat cs.length)), .null] h0 [x] (fun v h => v = none ∧ ∃ t, GStr Z h x t cs) := by
  refine Con.intro (a0 := a0) pl_b2 hO (fun q => nomatch q) ?_
  intro p e s m below meth c G
  refine ok_as (mkF m 0 #[.val (.ref x), .val (.ref a), .val (.int (0 : Int32)), .val (.int (Int32.ofNat cs.length)), .val .null, .unset] []) (by first | rfl | (simp [entryFrame, mkF, argsToLocals, Value.category]; done)) ?_
  refine ok_aloadN G d_jdk_42_method_149_code_0 rfl rfl ?_
  refine ok_initO G (C.w12) (C.w13) (C.w14) rfl d_jdk_42_method_149_code_1 (Nat.le_of_ble_eq_true rfl) (Nat.le_of_ble_eq_true rfl) ?_
  refine ok_iloadN G d_jdk_42_method_149_code_4 rfl ?_
  refine ok_ifneY G 27 d_jdk_42_method_149_code_5 (by decide) (by decide) (by rw [show (0 : Int32) = Int32.ofNat 0 from rfl, i32_eq (by omega) (by omega)]; omega) ?_
  obtain ⟨cz, hCS, hcz⟩ := C.compact
  refine ok_getS G (host := "") (Or.inl (C.w42)) Via.refl hCS d_jdk_42_method_149_code_27 ?_
  refine ok_ifeqN G d_jdk_42_method_149_code_30 hcz ?_
  refine ok_aloadN G d_jdk_42_method_149_code_33 rfl rfl ?_
  refine ok_iloadN G d_jdk_42_method_149_code_34 rfl ?_
  refine ok_iloadN G d_jdk_42_method_149_code_35 rfl ?_
  refine ok_static G (argsL := [(.ref a), (.int (0 : Int32)), (.int (Int32.ofNat cs.length))]) (rest := []) (C.w67) (C.w68) (C.w69) (C.w70) (by decide) pd4 (d_comp3 C hO A hl hc) rfl rfl rfl d_jdk_42_method_149_code_36 (Nat.le_of_ble_eq_true rfl) (Nat.le_of_ble_eq_true rfl) (Nat.le_of_ble_eq_true rfl) (Nat.le_of_ble_eq_true rfl) (fun _ q => nomatch q) ?_
  rintro _ hp1 K2 ⟨tq, kq, rfl, lbq_tq, hV⟩
  have lbh_tq := lbq_tq
  have ne_x_tq : x ≠ tq := Nat.ne_of_lt (Nat.lt_of_lt_of_le E.lt lbh_tq)
  have ne_a_tq : a ≠ tq := Nat.ne_of_lt (Nat.lt_of_lt_of_le A.lt lbh_tq)
  have lb_tq : h0.size ≤ tq := lbh_tq
  have g_tq : n0 ≤ tq := Nat.le_trans (old_le hO) lbh_tq
  replace E := E.keep K2
  replace FV := FV.keep K2 nin0
  replace FC := FC.keep K2 nin0
  replace A := A.keep K2 nin0
  refine ok_as (mkF m 39 #[.val (.ref x), .val (.ref a), .val (.int (0 : Int32)), .val (.int (Int32.ofNat cs.length)), .val .null, .unset] [(.ref tq)]) rfl ?_
  rcases hV with ⟨hla, V_tq⟩ | V_tq
  · skip
    refine ok_astore G #[.val (.ref x), .val (.ref a), .val (.int (0 : Int32)), .val (.int (Int32.ofNat cs.length)), .val .null, .val (.ref tq)] d_jdk_42_method_149_code_39 rfl rfl ?_
    refine ok_aloadN G d_jdk_42_method_149_code_41 rfl rfl ?_
    refine ok_aload G d_jdk_42_method_149_code_42 rfl rfl ?_
    refine ok_iloadN G d_jdk_42_method_149_code_44 rfl ?_
    refine ok_old (fun hO_hp1 => ?_)
    refine ok_static G (argsL := [(.ref tq), (.int (Int32.ofNat cs.length))]) (rest := [(.ref x)]) (C.w93) (C.w94) (C.w69) (C.w95) (by decide) pd6 (c_cod C hO_hp1 V_tq) rfl rfl rfl d_jdk_42_method_149_code_45 (Nat.le_of_ble_eq_true rfl) (Nat.le_of_ble_eq_true rfl) (Nat.le_of_ble_eq_true rfl) (Nat.le_of_ble_eq_true rfl) (fun _ q => nomatch q) ?_
    rintro _ _ _ ⟨rfl, rfl⟩
    refine ok_as (mkF m 48 #[.val (.ref x), .val (.ref a), .val (.int (0 : Int32)), .val (.int (Int32.ofNat cs.length)), .val .null, .val (.ref tq)] [(.int (0 : Int32)), (.ref x)]) rfl ?_
    refine ok_putF G (host := "") (Or.inl (C.w22)) Via.refl FC E (Or.inr ⟨(C.w18), rfl, rfl⟩) (C.w2) (ty := .byte) (by decide) rfl rfl d_jdk_42_method_149_code_48 g_x (Or.inl (List.mem_of_getElem? (i := 0) rfl)) SafeFor.narrow ?_
    intro hp5 K6 Wn Fn
    replace FV := FV.other Wn (Or.inr (slot_ne (Or.inr (C.w17)) (Or.inr (C.w18)) (by decide) (t := (.array .byte)) (t' := .byte) (by decide) (by decide)))
    replace E := E.keep K6
    replace A := A.keep K6 (ninS (Ne.symm hxa) nin0)
    replace V_tq := V_tq.keep K6 (ninS (Ne.symm ne_x_tq) nin0)
    replace FC : Fld Z hp5 x "java/lang/String" "coder" "B" (.int (0 : Int32)) := Fn
    clear Wn Fn
    refine ok_aloadN G d_jdk_42_method_149_code_51 rfl rfl ?_
    refine ok_aload G d_jdk_42_method_149_code_52 rfl rfl ?_
    refine ok_putF G (host := "") (Or.inl (C.w21)) Via.refl FV E (Or.inr ⟨(C.w17), rfl, rfl⟩) (C.w2) (ty := (.array .byte)) (by decide) rfl rfl d_jdk_42_method_149_code_54 g_x (Or.inl (List.mem_of_getElem? (i := 0) rfl)) SafeFor.narrow ?_
    intro hp7 K8 Wn Fn
    replace FC := FC.other Wn (Or.inr (slot_ne (Or.inr (C.w18)) (Or.inr (C.w17)) (by decide) (t := .byte) (t' := (.array .byte)) (by decide) (by decide)))
    replace E := E.keep K8
    replace A := A.keep K8 (ninS (Ne.symm hxa) nin0)
    replace V_tq := V_tq.keep K8 (ninS (Ne.symm ne_x_tq) nin0)
    replace FV : Fld Z hp7 x "java/lang/String" "value" "[B" (.ref tq) := Fn
    clear Wn Fn
    exact ok_return G rfl d_jdk_42_method_149_code_57 ⟨rfl, _, Or.inl ⟨⟨E, FC, FV, ⟨_, V_tq⟩, hla, by omega⟩, hl⟩⟩ (Nat.le_of_ble_eq_true rfl) (Nat.le_of_ble_eq_true rfl)
  · skip
    refine ok_astore G #[.val (.ref x), .val (.ref a), .val (.int (0 : Int32)), .val (.int (Int32.ofNat cs.length)), .val .null, .val (.ref tq)] d_jdk_42_method_149_code_39 rfl rfl ?_
    refine ok_aloadN G d_jdk_42_method_149_code_41 rfl rfl ?_
    refine ok_aload G d_jdk_42_method_149_code_42 rfl rfl ?_
    refine ok_iloadN G d_jdk_42_method_149_code_44 rfl ?_
    refine ok_old (fun hO_hp1 => ?_)
    refine ok_static G (argsL := [(.ref tq), (.int (Int32.ofNat cs.length))]) (rest := [(.ref x)]) (C.w93) (C.w94) (C.w69) (C.w95) (by decide) pd6 (d_cod1 (k := cs.length) C hO_hp1 V_tq h1 hl) rfl rfl rfl d_jdk_42_method_149_code_45 (Nat.le_of_ble_eq_true rfl) (Nat.le_of_ble_eq_true rfl) (Nat.le_of_ble_eq_true rfl) (Nat.le_of_ble_eq_true rfl) (fun _ q => nomatch q) ?_
    rintro _ _ _ ⟨rfl, rfl⟩
    refine ok_as (mkF m 48 #[.val (.ref x), .val (.ref a), .val (.int (0 : Int32)), .val (.int (Int32.ofNat cs.length)), .val .null, .val (.ref tq)] [(.int (1 : Int32)), (.ref x)]) rfl ?_
    refine ok_putF G (host := "") (Or.inl (C.w22)) Via.refl FC E (Or.inr ⟨(C.w18), rfl, rfl⟩) (C.w2) (ty := .byte) (by decide) rfl rfl d_jdk_42_method_149_code_48 g_x (Or.inl (List.mem_of_getElem? (i := 0) rfl)) SafeFor.narrow ?_
    intro hp11 K12 Wn Fn
    replace FV := FV.other Wn (Or.inr (slot_ne (Or.inr (C.w17)) (Or.inr (C.w18)) (by decide) (t := (.array .byte)) (t' := .byte) (by decide) (by decide)))
    replace E := E.keep K12
    replace A := A.keep K12 (ninS (Ne.symm hxa) nin0)
    replace V_tq := V_tq.keep K12 (ninS (Ne.symm ne_x_tq) nin0)
    replace FC : Fld Z hp11 x "java/lang/String" "coder" "B" (.int (1 : Int32)) := Fn
    clear Wn Fn
    refine ok_aloadN G d_jdk_42_method_149_code_51 rfl rfl ?_
    refine ok_aload G d_jdk_42_method_149_code_52 rfl rfl ?_
    refine ok_putF G (host := "") (Or.inl (C.w21)) Via.refl FV E (Or.inr ⟨(C.w17), rfl, rfl⟩) (C.w2) (ty := (.array .byte)) (by decide) rfl rfl d_jdk_42_method_149_code_54 g_x (Or.inl (List.mem_of_getElem? (i := 0) rfl)) SafeFor.narrow ?_
    intro hp13 K14 Wn Fn
    replace FC := FC.other Wn (Or.inr (slot_ne (Or.inr (C.w18)) (Or.inr (C.w17)) (by decide) (t := .byte) (t' := (.array .byte)) (by decide) (by decide)))
    replace E := E.keep K14
    replace A := A.keep K14 (ninS (Ne.symm hxa) nin0)
    replace V_tq := V_tq.keep K14 (ninS (Ne.symm ne_x_tq) nin0)
    replace FV : Fld Z hp13 x "java/lang/String" "value" "[B" (.ref tq) := Fn
    clear Wn Fn
    exact ok_return G rfl d_jdk_42_method_149_code_57 ⟨rfl, _, Or.inr ⟨E, FC, FV, ⟨_, V_tq⟩, hc, hl⟩⟩ (Nat.le_of_ble_eq_true rfl) (Nat.le_of_ble_eq_true rfl)
theorem d_jdk_42_method_3_code_0 : decode jdk_42_method_3_code 0 = .ok (.aload_n 0, 1) := by decide +kernel
theorem d_jdk_42_method_3_code_1 : decode jdk_42_method_3_code 1 = .ok (.aload_n 1, 1) := by decide +kernel
theorem d_jdk_42_method_3_code_2 : decode jdk_42_method_3_code 2 = .ok (.iconst 0, 1) := by decide +kernel
theorem d_jdk_42_method_3_code_3 : decode jdk_42_method_3_code 3 = .ok (.aload_n 1, 1) := by decide +kernel
theorem d_jdk_42_method_3_code_4 : decode jdk_42_method_3_code 4 = .ok (.arraylength, 1) := by decide +kernel
theorem d_jdk_42_method_3_code_5 : decode jdk_42_method_3_code 5 = .ok (.aconst_null, 1) := by decide +kernel
theorem d_jdk_42_method_3_code_6 : decode jdk_42_method_3_code 6 = .ok (.invokespecial 27, 3) := by decide +kernel
theorem pd7 : parseMethodDescriptor "([CIILjava/lang/Void;)V" = some ⟨[(.array .char), .int, .int, (.object "java/lang/Void")], none⟩ := by decide +kernel
theorem d_jdk_42_method_3_code_9 : decode jdk_42_method_3_code 9 = .ok (.return_, 1) := by decide +kernel
def R_d_init1 : Room := { frames := 5, cells := 2, slots := 32, locals := 74 }
theorem pl_b1 : plainFor (⟨"java/lang/String", "<init>", "([C)V"⟩ : MethodName) = true := plainFor_of_name (by first | (simp [plainName, overriddenIn]; done) | decide +kernel)
set_option maxRecDepth 65536 in
set_option maxHeartbeats 40000000 in
theorem d_init1 {l : Launch} {Z : State} {a0 : Array Value} {n0 : Nat} {h0 : Heap} (C : Cx Z a0) (hO : Old Z n0 h0) {x a : Addr} {ka : ClassId} {cs : List Int32} {dv : Value} (E : Exa Z h0 x "java/lang/String") (FV : Fld Z h0 x "java/lang/String" "value" "[B" .null) (FC : Fld Z h0 x "java/lang/String" "coder" "B" (.int (0 : Int32))) (g_x : n0 ≤ x) (A : Arv Z h0 a ka .char (Int32.ofNat cs.length) (cs.map Value.int) dv) (h1 : 0 < cs.length) (hl : cs.length ≤ 8) (hc : ∀ c ∈ cs, Chr c) (hxa : x ≠ a) :
    Con false l Z [] n0 (⟨"java/lang/String", "<init>", "([C)V"⟩ : MethodName) jdk_42_method_3_code 2 none R_d_init1 #[(.ref x), (.ref a)] h0 [x] (fun v h => v = none ∧ ∃ t, GStr Z h x t cs) := by
  refine Con.intro (a0 := a0) pl_b1 hO (fun q => nomatch q) ?_
  intro p e s m below meth c G
  refine ok_as (mkF m 0 #[.val (.ref x), .val (.ref a)] []) (by first | rfl | (simp [entryFrame, mkF, argsToLocals, Value.category]; done)) ?_
  refine ok_aloadN G d_jdk_42_method_3_code_0 rfl rfl ?_
  refine ok_aloadN G d_jdk_42_method_3_code_1 rfl rfl ?_
  refine ok_iconst G (0 : Int32) d_jdk_42_method_3_code_2 rfl ?_
  refine ok_aloadN G d_jdk_42_method_3_code_3 rfl rfl ?_
  refine ok_arraylength G A d_jdk_42_method_3_code_4 ?_
  refine ok_aconst_null G d_jdk_42_method_3_code_5 ?_
  refine ok_init G (a := x) (argsL := [(.ref a), (.int (0 : Int32)), (.int (Int32.ofNat cs.length)), .null]) (rest := []) rfl (C.w8) (C.w9) (C.w3) (C.w11) (by decide) pd7 (d_init4 C hO E FV FC g_x A h1 hl hc hxa) rfl rfl rfl d_jdk_42_method_3_code_6 (Nat.le_of_ble_eq_true rfl) (Nat.le_of_ble_eq_true rfl) (Nat.le_of_ble_eq_true rfl) (Nat.le_of_ble_eq_true rfl) (allS ⟨(Or.inl (List.mem_of_getElem? (i := 0) rfl)), SafeFor.narrow⟩ (fun _ q => nomatch q)) ?_
  rintro _ hp1 K2 ⟨rfl, tt, S_x⟩
  replace E := E.keep K2
  replace A := A.keep K2 (ninS (Ne.symm hxa) nin0)
  refine ok_as (mkF m 9 #[.val (.ref x), .val (.ref a)] []) rfl ?_
  exact ok_return G rfl d_jdk_42_method_3_code_9 ⟨rfl, _, S_x⟩ (Nat.le_of_ble_eq_true rfl) (Nat.le_of_ble_eq_true rfl)
theorem d_jdk_42_method_149_code_8 : decode jdk_42_method_149_code 8 = .ok (.aload_n 0, 1) := by decide +kernel
theorem d_jdk_42_method_149_code_9 : decode jdk_42_method_149_code 9 = .ok (.ldc 7, 2) := by decide +kernel
theorem d_jdk_42_method_149_code_11 : decode jdk_42_method_149_code 11 = .ok (.getfield 9, 3) := by decide +kernel
theorem d_jdk_42_method_149_code_14 : decode jdk_42_method_149_code 14 = .ok (.putfield 9, 3) := by decide +kernel
theorem d_jdk_42_method_149_code_17 : decode jdk_42_method_149_code 17 = .ok (.aload_n 0, 1) := by decide +kernel
theorem d_jdk_42_method_149_code_18 : decode jdk_42_method_149_code 18 = .ok (.ldc 7, 2) := by decide +kernel
theorem d_jdk_42_method_149_code_20 : decode jdk_42_method_149_code 20 = .ok (.getfield 15, 3) := by decide +kernel
theorem d_jdk_42_method_149_code_23 : decode jdk_42_method_149_code 23 = .ok (.putfield 15, 3) := by decide +kernel
theorem d_jdk_42_method_149_code_26 : decode jdk_42_method_149_code 26 = .ok (.return_, 1) := by decide +kernel
def R_c_init4e : Room := { frames := 1, cells := 4, slots := 8, locals := 12 }
set_option maxRecDepth 65536 in
set_option maxHeartbeats 40000000 in
theorem c_init4e {l : Launch} {Z : State} {a0 : Array Value} {n0 : Nat} {h0 : Heap} (C : Cx Z a0) (hO : Old Z n0 h0) (hE : EW Z a0 consts_1) {x a : Addr} (E : Exa Z h0 x "java/lang/String") (FV : Fld Z h0 x "java/lang/String" "value" "[B" .null) (FC : Fld Z h0 x "java/lang/String" "coder" "B" (.int (0 : Int32))) (g_x : n0 ≤ x) :
    Con true l Z consts_1 n0 (⟨"java/lang/String", "<init>", "([CIILjava/lang/Void;)V"⟩ : MethodName) jdk_42_method_149_code 6 none R_c_init4e #[(.ref x), (.ref a), (.int (0 : Int32)), (.int (0 : Int32)), .null] h0 [x] (fun v h => v = none ∧ ∃ t, LStr Z h x t []) := by
  refine Con.intro (a0 := a0) pl_b2 hO (fun _ => hE) ?_
  intro p e s m below meth c G
  refine ok_as (mkF m 0 #[.val (.ref x), .val (.ref a), .val (.int (0 : Int32)), .val (.int (0 : Int32)), .val .null, .unset] []) (by first | rfl | (simp [entryFrame, mkF, argsToLocals, Value.category]; done)) ?_
  refine ok_sf [x] (allS ⟨E.lt, safe_null E FV⟩ all0) ?_
  refine ok_aloadN G d_jdk_42_method_149_code_0 rfl rfl ?_
  refine ok_initO G (C.w12) (C.w13) (C.w14) rfl d_jdk_42_method_149_code_1 (Nat.le_of_ble_eq_true rfl) (Nat.le_of_ble_eq_true rfl) ?_
  refine ok_iloadN G d_jdk_42_method_149_code_4 rfl ?_
  refine ok_ifneN G d_jdk_42_method_149_code_5 (by decide) ?_
  refine ok_aloadN G d_jdk_42_method_149_code_8 rfl rfl ?_
  refine ok_ldcR G (vs := ([] : List Int32).map lo8) (z := (0 : Int32)) rfl (C.w15) C.strs (List.mem_of_getElem? (i := 0) rfl) ⟨by decide, rfl⟩ (by decide) rfl d_jdk_42_method_149_code_9 0 (by decide) (by decide) (Nat.le_of_ble_eq_true rfl) (Nat.le_of_ble_eq_true rfl) ?_
  intro yl3 hp1 tr4 kb5 K2 E_yl3 FC_yl3 FV_yl3 V_tr4 hne
  have ne_x_yl3 := (hne x (List.mem_of_getElem? (i := 0) rfl)).1
  have ne_x_tr4 := (hne x (List.mem_of_getElem? (i := 0) rfl)).2
  replace E := E.keep K2
  replace FV := FV.keep K2 nin0
  replace FC := FC.keep K2 nin0
  refine ok_getF G (host := "") (Or.inl (C.w21)) Via.refl FV_yl3 d_jdk_42_method_149_code_11 ?_
  refine ok_putF G (host := "") (Or.inl (C.w21)) Via.refl FV E (Or.inr ⟨(C.w17), rfl, rfl⟩) (C.w2) (ty := (.array .byte)) (by decide) rfl rfl d_jdk_42_method_149_code_14 g_x (Or.inl (List.mem_of_getElem? (i := 0) rfl)) (SafeFor.mem (List.mem_of_getElem? (i := 0) rfl)) ?_
  intro hp6 K7 Wn Fn
  replace FC := FC.other Wn (Or.inr (slot_ne (Or.inr (C.w18)) (Or.inr (C.w17)) (by decide) (t := .byte) (t' := (.array .byte)) (by decide) (by decide)))
  replace E := E.keep K7
  replace E_yl3 := E_yl3.keep K7
  replace FC_yl3 := FC_yl3.keep K7 (ninS (Ne.symm ne_x_yl3) nin0)
  replace FV_yl3 := FV_yl3.keep K7 (ninS (Ne.symm ne_x_yl3) nin0)
  replace V_tr4 := V_tr4.keep K7 (ninS (Ne.symm ne_x_tr4) nin0)
  replace FV : Fld Z hp6 x "java/lang/String" "value" "[B" (.ref tr4) := Fn
  clear Wn Fn
  refine ok_aloadN G d_jdk_42_method_149_code_17 rfl rfl ?_
  refine ok_ldcR G (vs := ([] : List Int32).map lo8) (z := (0 : Int32)) rfl (C.w15) C.strs (List.mem_of_getElem? (i := 0) rfl) ⟨by decide, rfl⟩ (by decide) rfl d_jdk_42_method_149_code_18 0 (by decide) (by decide) (Nat.le_of_ble_eq_true rfl) (Nat.le_of_ble_eq_true rfl) ?_
  intro yl10 hp8 tr11 kb12 K9 E_yl10 FC_yl10 FV_yl10 V_tr11 hne
  have ne_x_yl10 := (hne x (List.mem_of_getElem? (i := 0) rfl)).1
  have ne_x_tr11 := (hne x (List.mem_of_getElem? (i := 0) rfl)).2
  replace E := E.keep K9
  replace FV := FV.keep K9 nin0
  replace FC := FC.keep K9 nin0
  replace E_yl3 := E_yl3.keep K9
  replace FC_yl3 := FC_yl3.keep K9 nin0
  replace FV_yl3 := FV_yl3.keep K9 nin0
  replace V_tr4 := V_tr4.keep K9 nin0
  refine ok_getF G (host := "") (Or.inl (C.w22)) Via.refl FC_yl10 d_jdk_42_method_149_code_20 ?_
  refine ok_putF G (host := "") (Or.inl (C.w22)) Via.refl FC E (Or.inr ⟨(C.w18), rfl, rfl⟩) (C.w2) (ty := .byte) (by decide) rfl rfl d_jdk_42_method_149_code_23 g_x (Or.inl (List.mem_of_getElem? (i := 0) rfl)) (SafeFor.mem (List.mem_of_getElem? (i := 0) rfl)) ?_
  intro hp13 K14 Wn Fn
  replace FV := FV.other Wn (Or.inr (slot_ne (Or.inr (C.w17)) (Or.inr (C.w18)) (by decide) (t := (.array .byte)) (t' := .byte) (by decide) (by decide)))
  replace E := E.keep K14
  replace E_yl3 := E_yl3.keep K14
  replace FC_yl3 := FC_yl3.keep K14 (ninS (Ne.symm ne_x_yl3) nin0)
  replace FV_yl3 := FV_yl3.keep K14 (ninS (Ne.symm ne_x_yl3) nin0)
  replace V_tr4 := V_tr4.keep K14 (ninS (Ne.symm ne_x_tr4) nin0)
  replace E_yl10 := E_yl10.keep K14
  replace FC_yl10 := FC_yl10.keep K14 (ninS (Ne.symm ne_x_yl10) nin0)
  replace FV_yl10 := FV_yl10.keep K14 (ninS (Ne.symm ne_x_yl10) nin0)
  replace V_tr11 := V_tr11.keep K14 (ninS (Ne.symm ne_x_tr11) nin0)
  replace FC : Fld Z hp13 x "java/lang/String" "coder" "B" (.int (0 : Int32)) := Fn
  clear Wn Fn
  exact ok_return G rfl d_jdk_42_method_149_code_26 ⟨rfl, _, E, FC, FV, ⟨_, V_tr4⟩, (fun _ q => nomatch q), (Nat.le_of_ble_eq_true rfl)⟩ (Nat.le_of_ble_eq_true rfl) (Nat.le_of_ble_eq_true rfl)
def R_c_init1e : Room := { frames := 2, cells := 4, slots := 8, locals := 29 }
set_option maxRecDepth 65536 in
set_option maxHeartbeats 40000000 in
theorem c_init1e {l : Launch} {Z : State} {a0 : Array Value} {n0 : Nat} {h0 : Heap} (C : Cx Z a0) (hO : Old Z n0 h0) (hE : EW Z a0 consts_1) {x a : Addr} {ka : ClassId} {vs : List Value} {dv : Value} (E : Exa Z h0 x "java/lang/String") (FV : Fld Z h0 x "java/lang/String" "value" "[B" .null) (FC : Fld Z h0 x "java/lang/String" "coder" "B" (.int (0 : Int32))) (g_x : n0 ≤ x) (A : Arv Z h0 a ka .char (0 : Int32) vs dv) (hxa : x ≠ a) :
    Con true l Z consts_1 n0 (⟨"java/lang/String", "<init>", "([C)V"⟩ : MethodName) jdk_42_method_3_code 2 none R_c_init1e #[(.ref x), (.ref a)] h0 [x] (fun v h => v = none ∧ ∃ t, LStr Z h x t []) := by
  refine Con.intro (a0 := a0) pl_b1 hO (fun _ => hE) ?_
  intro p e s m below meth c G
  refine ok_as (mkF m 0 #[.val (.ref x), .val (.ref a)] []) (by first | rfl | (simp [entryFrame, mkF, argsToLocals, Value.category]; done)) ?_
  refine ok_aloadN G d_jdk_42_method_3_code_0 rfl rfl ?_
  refine ok_aloadN G d_jdk_42_method_3_code_1 rfl rfl ?_
  refine ok_iconst G (0 : Int32) d_jdk_42_method_3_code_2 rfl ?_
  refine ok_aloadN G d_jdk_42_method_3_code_3 rfl rfl ?_
  refine ok_arraylength G A d_jdk_42_method_3_code_4 ?_
  refine ok_aconst_null G d_jdk_42_method_3_code_5 ?_
  refine ok_initW G (a := x) (argsL := [(.ref a), (.int (0 : Int32)), (.int (0 : Int32)), .null]) (rest := []) rfl (C.w8) (C.w9) (C.w3) (C.w11) (by decide) pd7 (c_init4e (a := a) C hO hE E FV FC g_x) rfl rfl rfl d_jdk_42_method_3_code_6 (Nat.le_of_ble_eq_true rfl) (Nat.le_of_ble_eq_true rfl) (Nat.le_of_ble_eq_true rfl) (Nat.le_of_ble_eq_true rfl) rfl (allS (Or.inl (List.mem_of_getElem? (i := 0) rfl)) (fun _ q => nomatch q)) ?_
  rintro _ hp2 K3 ⟨rfl, tr1, S_x⟩
  replace E := E.keep K3
  replace A := A.keep K3 (ninS (Ne.symm hxa) nin0)
  refine ok_as (mkF m 9 #[.val (.ref x), .val (.ref a)] []) rfl ?_
  exact ok_return G rfl d_jdk_42_method_3_code_9 ⟨rfl, _, S_x⟩ (Nat.le_of_ble_eq_true rfl) (Nat.le_of_ble_eq_true rfl)
theorem d_jdk_42_method_152_code_0 : decode jdk_42_method_152_code 0 = .ok (.getstatic 38, 3) := by decide +kernel
theorem d_jdk_42_method_152_code_3 : decode jdk_42_method_152_code 3 = .ok (.ifCond .eq 10, 3) := by decide +kernel
theorem d_jdk_42_method_152_code_6 : decode jdk_42_method_152_code 6 = .ok (.aload_n 0, 1) := by decide +kernel
theorem d_jdk_42_method_152_code_7 : decode jdk_42_method_152_code 7 = .ok (.getfield 15, 3) := by decide +kernel
theorem d_jdk_42_method_152_code_10 : decode jdk_42_method_152_code 10 = .ok (.goto 4, 3) := by decide +kernel
theorem d_jdk_42_method_152_code_14 : decode jdk_42_method_152_code 14 = .ok (.ireturn, 1) := by decide +kernel
def R_c_coder : Room := { frames := 0, cells := 0, slots := 0, locals := 0 }
theorem pl_b9 : plainFor (⟨"java/lang/String", "coder", "()B"⟩ : MethodName) = true := plainFor_of_name (by first | (simp [plainName, overriddenIn]; done) | decide +kernel)
set_option maxRecDepth 65536 in
set_option maxHeartbeats 40000000 in
theorem c_coder {l : Launch} {Z : State} {a0 : Array Value} {n0 : Nat} {h0 : Heap} (C : Cx Z a0) (hO : Old Z n0 h0) {x t : Addr} {cs : List Int32} (S : LStr Z h0 x t cs) :
    Con false l Z [] n0 (⟨"java/lang/String", "coder", "()B"⟩ : MethodName) jdk_42_method_152_code 1 (some .byte) R_c_coder #[(.ref x)] h0 [] (fun v h => v = some (.int 0) ∧ h0 = h) := by
  refine Con.intro (a0 := a0) pl_b9 hO (fun q => nomatch q) ?_
  intro p e s m below meth c G
  refine ok_as (mkF m 0 #[.val (.ref x)] []) (by first | rfl | (simp [entryFrame, mkF, argsToLocals, Value.category]; done)) ?_
  obtain ⟨E, FC, FV, ⟨kb, V⟩, hla, hle⟩ := S
  obtain ⟨cz, hCS, hcz⟩ := C.compact
  refine ok_getS G (host := "") (Or.inl (C.w42)) Via.refl hCS d_jdk_42_method_152_code_0 ?_
  refine ok_ifeqN G d_jdk_42_method_152_code_3 hcz ?_
  refine ok_aloadN G d_jdk_42_method_152_code_6 rfl rfl ?_
  refine ok_getF G (host := "") (Or.inl (C.w22)) Via.refl FC d_jdk_42_method_152_code_7 ?_
  refine ok_goto G 14 d_jdk_42_method_152_code_10 (by decide) (by decide) ?_
  exact ok_retN G rfl (by simp) d_jdk_42_method_152_code_14 rfl ⟨rfl, rfl⟩ (Nat.le_of_ble_eq_true rfl) (Nat.le_of_ble_eq_true rfl)
theorem d_jdk_42_method_54_code_0 : decode jdk_42_method_54_code 0 = .ok (.aload_n 0, 1) := by decide +kernel
theorem d_jdk_42_method_54_code_1 : decode jdk_42_method_54_code 1 = .ok (.getfield 9, 3) := by decide +kernel
theorem d_jdk_42_method_54_code_4 : decode jdk_42_method_54_code 4 = .ok (.arraylength, 1) := by decide +kernel
theorem d_jdk_42_method_54_code_5 : decode jdk_42_method_54_code 5 = .ok (.aload_n 0, 1) := by decide +kernel
theorem d_jdk_42_method_54_code_6 : decode jdk_42_method_54_code 6 = .ok (.invokevirtual 335, 3) := by decide +kernel
theorem pd8 : parseMethodDescriptor "()B" = some ⟨[], some .byte⟩ := by decide +kernel
theorem d_jdk_42_method_54_code_9 : decode jdk_42_method_54_code 9 = .ok (.ishr, 1) := by decide +kernel
theorem d_jdk_42_method_54_code_10 : decode jdk_42_method_54_code 10 = .ok (.ireturn, 1) := by decide +kernel
def R_c_length : Room := { frames := 1, cells := 0, slots := 0, locals := 13 }
theorem pl_b8 : plainFor (⟨"java/lang/String", "length", "()I"⟩ : MethodName) = true := plainFor_of_name (by first | (simp [plainName, overriddenIn]; done) | decide +kernel)
set_option maxRecDepth 65536 in
set_option maxHeartbeats 40000000 in
theorem c_length {l : Launch} {Z : State} {a0 : Array Value} {n0 : Nat} {h0 : Heap} (C : Cx Z a0) (hO : Old Z n0 h0) {x t : Addr} {cs : List Int32} (S : LStr Z h0 x t cs) :
    Con false l Z [] n0 (⟨"java/lang/String", "length", "()I"⟩ : MethodName) jdk_42_method_54_code 1 (some .int) R_c_length #[(.ref x)] h0 [] (fun v h => v = some (.int (Int32.ofNat cs.length)) ∧ h0 = h) := by
  refine Con.intro (a0 := a0) pl_b8 hO (fun q => nomatch q) ?_
  intro p e s m below meth c G
  refine ok_as (mkF m 0 #[.val (.ref x)] []) (by first | rfl | (simp [entryFrame, mkF, argsToLocals, Value.category]; done)) ?_
  obtain ⟨E, FC, FV, ⟨kb, V⟩, hla, hle⟩ := id S
  refine ok_aloadN G d_jdk_42_method_54_code_0 rfl rfl ?_
  refine ok_getF G (host := "") (Or.inl (C.w21)) Via.refl FV d_jdk_42_method_54_code_1 ?_
  refine ok_arraylength G V d_jdk_42_method_54_code_4 ?_
  refine ok_aloadN G d_jdk_42_method_54_code_5 rfl rfl ?_
  refine ok_virtual G (a := x) (y0 := (⟨"java/lang/String", "coder", "()B"⟩ : MethodName)) (y := (⟨"java/lang/String", "coder", "()B"⟩ : MethodName)) (argsL := []) (rest := [(.int (Int32.ofNat cs.length))]) E (C.w48) (C.w49) (C.w51) (fun vm hZ => notFace_of_selects (args := #[]) (mvT (s := s.setVm vm) hZ (C.w51))) (C.w50) (C.w3) (C.w52) (by decide) pd8 (c_coder C hO S) rfl rfl rfl d_jdk_42_method_54_code_6 (Nat.le_of_ble_eq_true rfl) (Nat.le_of_ble_eq_true rfl) (Nat.le_of_ble_eq_true rfl) (Nat.le_of_ble_eq_true rfl) (fun _ q => nomatch q) ?_
  rintro _ _ _ ⟨rfl, rfl⟩
  refine ok_as (mkF m 9 #[.val (.ref x)] [(.int (0 : Int32)), (.int (Int32.ofNat cs.length))]) rfl ?_
  refine ok_ishr G d_jdk_42_method_54_code_9 ?_
  refine ok_sayI (Int32.ofNat cs.length) (by simp) ?_
  exact ok_retI G rfl d_jdk_42_method_54_code_10 ⟨rfl, rfl⟩ (Nat.le_of_ble_eq_true rfl) (Nat.le_of_ble_eq_true rfl)
def R_d_coder : Room := { frames := 0, cells := 0, slots := 0, locals := 0 }
set_option maxRecDepth 65536 in
set_option maxHeartbeats 40000000 in
theorem d_coder {l : Launch} {Z : State} {a0 : Array Value} {n0 : Nat} {h0 : Heap} (C : Cx Z a0) (hO : Old Z n0 h0) {x t : Addr} {cs : List Int32} (S : WStr Z h0 x t cs) :
    Con false l Z [] n0 (⟨"java/lang/String", "coder", "()B"⟩ : MethodName) jdk_42_method_152_code 1 (some .byte) R_d_coder #[(.ref x)] h0 [] (fun v h => v = some (.int 1) ∧ h0 = h) := by
  refine Con.intro (a0 := a0) pl_b9 hO (fun q => nomatch q) ?_
  intro p e s m below meth c G
  refine ok_as (mkF m 0 #[.val (.ref x)] []) (by first | rfl | (simp [entryFrame, mkF, argsToLocals, Value.category]; done)) ?_
  obtain ⟨E, FC, FV, ⟨kb, V⟩, hcw, hlw⟩ := id S
  obtain ⟨cz, hCS, hcz⟩ := C.compact
  refine ok_getS G (host := "") (Or.inl (C.w42)) Via.refl hCS d_jdk_42_method_152_code_0 ?_
  refine ok_ifeqN G d_jdk_42_method_152_code_3 hcz ?_
  refine ok_aloadN G d_jdk_42_method_152_code_6 rfl rfl ?_
  refine ok_getF G (host := "") (Or.inl (C.w22)) Via.refl FC d_jdk_42_method_152_code_7 ?_
  refine ok_goto G 14 d_jdk_42_method_152_code_10 (by decide) (by decide) ?_
  exact ok_retN G rfl (by simp) d_jdk_42_method_152_code_14 rfl ⟨rfl, rfl⟩ (Nat.le_of_ble_eq_true rfl) (Nat.le_of_ble_eq_true rfl)
def R_d_length : Room := { frames := 1, cells := 0, slots := 0, locals := 13 }
set_option maxRecDepth 65536 in
set_option maxHeartbeats 40000000 in
theorem d_length {l : Launch} {Z : State} {a0 : Array Value} {n0 : Nat} {h0 : Heap} (C : Cx Z a0) (hO : Old Z n0 h0) {x t : Addr} {cs : List Int32} (SG : GStr Z h0 x t cs) :
    Con false l Z [] n0 (⟨"java/lang/String", "length", "()I"⟩ : MethodName) jdk_42_method_54_code 1 (some .int) R_d_length #[(.ref x)] h0 [] (fun v h => v = some (.int (Int32.ofNat cs.length)) ∧ h0 = h) := by
  refine Con.intro (a0 := a0) pl_b8 hO (fun q => nomatch q) ?_
  intro p e s m below meth c G
  refine ok_as (mkF m 0 #[.val (.ref x)] []) (by first | rfl | (simp [entryFrame, mkF, argsToLocals, Value.category]; done)) ?_
  rcases SG with ⟨S, h8⟩ | S
  · skip
    obtain ⟨E, FC, FV, ⟨kb, V⟩, hla, hle⟩ := id S
    refine ok_aloadN G d_jdk_42_method_54_code_0 rfl rfl ?_
    refine ok_getF G (host := "") (Or.inl (C.w21)) Via.refl FV d_jdk_42_method_54_code_1 ?_
    refine ok_arraylength G V d_jdk_42_method_54_code_4 ?_
    refine ok_aloadN G d_jdk_42_method_54_code_5 rfl rfl ?_
    refine ok_virtual G (a := x) (y0 := (⟨"java/lang/String", "coder", "()B"⟩ : MethodName)) (y := (⟨"java/lang/String", "coder", "()B"⟩ : MethodName)) (argsL := []) (rest := [(.int (Int32.ofNat cs.length))]) E (C.w48) (C.w49) (C.w51) (fun vm hZ => notFace_of_selects (args := #[]) (mvT (s := s.setVm vm) hZ (C.w51))) (C.w50) (C.w3) (C.w52) (by decide) pd8 (c_coder C hO S) rfl rfl rfl d_jdk_42_method_54_code_6 (Nat.le_of_ble_eq_true rfl) (Nat.le_of_ble_eq_true rfl) (Nat.le_of_ble_eq_true rfl) (Nat.le_of_ble_eq_true rfl) (fun _ q => nomatch q) ?_
    rintro _ _ _ ⟨rfl, rfl⟩
    refine ok_as (mkF m 9 #[.val (.ref x)] [(.int (0 : Int32)), (.int (Int32.ofNat cs.length))]) rfl ?_
    refine ok_ishr G d_jdk_42_method_54_code_9 ?_
    refine ok_sayI (Int32.ofNat cs.length) (by simp) ?_
    exact ok_retI G rfl d_jdk_42_method_54_code_10 ⟨rfl, rfl⟩ (Nat.le_of_ble_eq_true rfl) (Nat.le_of_ble_eq_true rfl)
  · skip
    obtain ⟨E, FC, FV, ⟨kb, V⟩, hcw, hlw⟩ := id S
    refine ok_aloadN G d_jdk_42_method_54_code_0 rfl rfl ?_
    refine ok_getF G (host := "") (Or.inl (C.w21)) Via.refl FV d_jdk_42_method_54_code_1 ?_
    refine ok_arraylength G V d_jdk_42_method_54_code_4 ?_
    refine ok_aloadN G d_jdk_42_method_54_code_5 rfl rfl ?_
    refine ok_virtual G (a := x) (y0 := (⟨"java/lang/String", "coder", "()B"⟩ : MethodName)) (y := (⟨"java/lang/String", "coder", "()B"⟩ : MethodName)) (argsL := []) (rest := [(.int (Int32.ofNat (2 * cs.length)))]) E (C.w48) (C.w49) (C.w51) (fun vm hZ => notFace_of_selects (args := #[]) (mvT (s := s.setVm vm) hZ (C.w51))) (C.w50) (C.w3) (C.w52) (by decide) pd8 (d_coder C hO S) rfl rfl rfl d_jdk_42_method_54_code_6 (Nat.le_of_ble_eq_true rfl) (Nat.le_of_ble_eq_true rfl) (Nat.le_of_ble_eq_true rfl) (Nat.le_of_ble_eq_true rfl) (fun _ q => nomatch q) ?_
    rintro _ _ _ ⟨rfl, rfl⟩
    refine ok_as (mkF m 9 #[.val (.ref x)] [(.int (1 : Int32)), (.int (Int32.ofNat (2 * cs.length)))]) rfl ?_
    refine ok_ishr G d_jdk_42_method_54_code_9 ?_
    refine ok_sayI (Int32.ofNat cs.length) (dbl_shr hlw) ?_
    exact ok_retI G rfl d_jdk_42_method_54_code_10 ⟨rfl, rfl⟩ (Nat.le_of_ble_eq_true rfl) (Nat.le_of_ble_eq_true rfl)
theorem d_jdk_42_method_154_code_0 : decode jdk_42_method_154_code 0 = .ok (.getstatic 38, 3) := by decide +kernel
theorem d_jdk_42_method_154_code_3 : decode jdk_42_method_154_code 3 = .ok (.ifCond .eq 14, 3) := by decide +kernel
theorem d_jdk_42_method_154_code_6 : decode jdk_42_method_154_code 6 = .ok (.aload_n 0, 1) := by decide +kernel
theorem d_jdk_42_method_154_code_7 : decode jdk_42_method_154_code 7 = .ok (.getfield 15, 3) := by decide +kernel
theorem d_jdk_42_method_154_code_10 : decode jdk_42_method_154_code 10 = .ok (.ifCond .ne 7, 3) := by decide +kernel
theorem d_jdk_42_method_154_code_13 : decode jdk_42_method_154_code 13 = .ok (.iconst 1, 1) := by decide +kernel
theorem d_jdk_42_method_154_code_14 : decode jdk_42_method_154_code 14 = .ok (.goto 4, 3) := by decide +kernel
theorem d_jdk_42_method_154_code_18 : decode jdk_42_method_154_code 18 = .ok (.ireturn, 1) := by decide +kernel
def R_c_isL1 : Room := { frames := 0, cells := 0, slots := 0, locals := 0 }
theorem pl_b7 : plainFor (⟨"java/lang/String", "isLatin1", "()Z"⟩ : MethodName) = true := plainFor_of_name (by first | (simp [plainName, overriddenIn]; done) | decide +kernel)
set_option maxRecDepth 65536 in
set_option maxHeartbeats 40000000 in
theorem c_isL1 {l : Launch} {Z : State} {a0 : Array Value} {n0 : Nat} {h0 : Heap} (C : Cx Z a0) (hO : Old Z n0 h0) {x t : Addr} {cs : List Int32} (S : LStr Z h0 x t cs) :
    Con false l Z [] n0 (⟨"java/lang/String", "isLatin1", "()Z"⟩ : MethodName) jdk_42_method_154_code 1 (some .boolean) R_c_isL1 #[(.ref x)] h0 [] (fun v h => v = some (.int 1) ∧ h0 = h) := by
  refine Con.intro (a0 := a0) pl_b7 hO (fun q => nomatch q) ?_
  intro p e s m below meth c G
  refine ok_as (mkF m 0 #[.val (.ref x)] []) (by first | rfl | (simp [entryFrame, mkF, argsToLocals, Value.category]; done)) ?_
  obtain ⟨E, FC, FV, ⟨kb, V⟩, hla, hle⟩ := S
  obtain ⟨cz, hCS, hcz⟩ := C.compact
  refine ok_getS G (host := "") (Or.inl (C.w42)) Via.refl hCS d_jdk_42_method_154_code_0 ?_
  refine ok_ifeqN G d_jdk_42_method_154_code_3 hcz ?_
  refine ok_aloadN G d_jdk_42_method_154_code_6 rfl rfl ?_
  refine ok_getF G (host := "") (Or.inl (C.w22)) Via.refl FC d_jdk_42_method_154_code_7 ?_
  refine ok_ifneN G d_jdk_42_method_154_code_10 (by decide) ?_
  refine ok_iconst G (1 : Int32) d_jdk_42_method_154_code_13 rfl ?_
  refine ok_goto G 18 d_jdk_42_method_154_code_14 (by decide) (by decide) ?_
  exact ok_retN G rfl (by simp) d_jdk_42_method_154_code_18 rfl ⟨rfl, rfl⟩ (Nat.le_of_ble_eq_true rfl) (Nat.le_of_ble_eq_true rfl)
theorem d_jdk_42_method_154_code_17 : decode jdk_42_method_154_code 17 = .ok (.iconst 0, 1) := by decide +kernel
def R_d_isL1 : Room := { frames := 0, cells := 0, slots := 0, locals := 0 }
set_option maxRecDepth 65536 in
set_option maxHeartbeats 40000000 in
theorem d_isL1 {l : Launch} {Z : State} {a0 : Array Value} {n0 : Nat} {h0 : Heap} (C : Cx Z a0) (hO : Old Z n0 h0) {x t : Addr} {cs : List Int32} (S : WStr Z h0 x t cs) :
    Con false l Z [] n0 (⟨"java/lang/String", "isLatin1", "()Z"⟩ : MethodName) jdk_42_method_154_code 1 (some .boolean) R_d_isL1 #[(.ref x)] h0 [] (fun v h => v = some (.int 0) ∧ h0 = h) := by
  refine Con.intro (a0 := a0) pl_b7 hO (fun q => nomatch q) ?_
  intro p e s m below meth c G
  refine ok_as (mkF m 0 #[.val (.ref x)] []) (by first | rfl | (simp [entryFrame, mkF, argsToLocals, Value.category]; done)) ?_
  obtain ⟨E, FC, FV, ⟨kb, V⟩, hcw, hlw⟩ := id S
  obtain ⟨cz, hCS, hcz⟩ := C.compact
  refine ok_getS G (host := "") (Or.inl (C.w42)) Via.refl hCS d_jdk_42_method_154_code_0 ?_
  refine ok_ifeqN G d_jdk_42_method_154_code_3 hcz ?_
  refine ok_aloadN G d_jdk_42_method_154_code_6 rfl rfl ?_
  refine ok_getF G (host := "") (Or.inl (C.w22)) Via.refl FC d_jdk_42_method_154_code_7 ?_
  refine ok_ifneY G 17 d_jdk_42_method_154_code_10 (by decide) (by decide) (by decide) ?_
  refine ok_iconst G (0 : Int32) d_jdk_42_method_154_code_17 rfl ?_
  exact ok_retN G rfl (by simp) d_jdk_42_method_154_code_18 rfl ⟨rfl, rfl⟩ (Nat.le_of_ble_eq_true rfl) (Nat.le_of_ble_eq_true rfl)
theorem d_jdk_43_method_23_code_0 : decode jdk_43_method_23_code 0 = .ok (.iload_n 1, 1) := by decide +kernel
theorem d_jdk_43_method_23_code_1 : decode jdk_43_method_23_code 1 = .ok (.i2b, 1) := by decide +kernel
theorem d_jdk_43_method_23_code_2 : decode jdk_43_method_23_code 2 = .ok (.istore 4, 2) := by decide +kernel
theorem d_jdk_43_method_23_code_4 : decode jdk_43_method_23_code 4 = .ok (.iload_n 2, 1) := by decide +kernel
theorem d_jdk_43_method_23_code_5 : decode jdk_43_method_23_code 5 = .ok (.istore 5, 2) := by decide +kernel
theorem d_jdk_43_method_23_code_7 : decode jdk_43_method_23_code 7 = .ok (.iload 5, 2) := by decide +kernel
theorem d_jdk_43_method_23_code_9 : decode jdk_43_method_23_code 9 = .ok (.iload_n 3, 1) := by decide +kernel
theorem d_jdk_43_method_23_code_10 : decode jdk_43_method_23_code 10 = .ok (.if_icmp .ge 21, 3) := by decide +kernel
theorem d_jdk_43_method_23_code_31 : decode jdk_43_method_23_code 31 = .ok (.iconst (-1), 1) := by decide +kernel
theorem d_jdk_43_method_23_code_32 : decode jdk_43_method_23_code 32 = .ok (.ireturn, 1) := by decide +kernel
theorem d_jdk_43_method_23_code_13 : decode jdk_43_method_23_code 13 = .ok (.aload_n 0, 1) := by decide +kernel
theorem d_jdk_43_method_23_code_14 : decode jdk_43_method_23_code 14 = .ok (.iload 5, 2) := by decide +kernel
theorem d_jdk_43_method_23_code_16 : decode jdk_43_method_23_code 16 = .ok (.baload, 1) := by decide +kernel
theorem d_jdk_43_method_23_code_17 : decode jdk_43_method_23_code 17 = .ok (.iload 4, 2) := by decide +kernel
theorem d_jdk_43_method_23_code_19 : decode jdk_43_method_23_code 19 = .ok (.if_icmp .ne 6, 3) := by decide +kernel
theorem d_jdk_43_method_23_code_25 : decode jdk_43_method_23_code 25 = .ok (.iinc 5 1, 3) := by decide +kernel
theorem d_jdk_43_method_23_code_28 : decode jdk_43_method_23_code 28 = .ok (.goto (-21), 3) := by decide +kernel
theorem d_jdk_43_method_23_code_22 : decode jdk_43_method_23_code 22 = .ok (.iload 5, 2) := by decide +kernel
theorem d_jdk_43_method_23_code_24 : decode jdk_43_method_23_code 24 = .ok (.ireturn, 1) := by decide +kernel
def R_e_ixc : Room := { frames := 0, cells := 0, slots := 0, locals := 0 }
theorem pl_b29 : plainFor (⟨"java/lang/StringLatin1", "indexOfChar", "([BIII)I"⟩ : MethodName) = true := plainFor_of_name (by first | (simp [plainName, overriddenIn]; done) | decide +kernel)
set_option maxRecDepth 65536 in
set_option maxHeartbeats 40000000 in
theorem e_ixc {l : Launch} {Z : State} {a0 : Array Value} {n0 : Nat} {h0 : Heap} (C : Cx Z a0) (hO : Old Z n0 h0) {t : Addr} {kb : ClassId} {cs : List Int32} {k : Int32} (V : Arv Z h0 t kb .byte (Int32.ofNat cs.length) (cs.map lo8) (.int 0)) (hc : ∀ c ∈ cs, Lat c) (hle : cs.length ≤ 8) (hk : Lat k) :
    Con false l Z [] n0 (⟨"java/lang/StringLatin1", "indexOfChar", "([BIII)I"⟩ : MethodName) jdk_43_method_23_code 6 (some .int) R_e_ixc #[(.ref t), (.int k), (.int (0 : Int32)), (.int (Int32.ofNat cs.length))] h0 [] (fun v h => (∃ r, v = some (.int r) ∧ ((r = -1 ∧ ∀ c ∈ cs, ¬ c = k) ∨ (¬ r < 0 ∧ k ∈ cs))) ∧ h0 = h) := by
  refine Con.intro (a0 := a0) pl_b29 hO (fun q => nomatch q) ?_
  intro p e s m below meth c G
  refine ok_as (mkF m 0 #[.val (.ref t), .val (.int k), .val (.int (0 : Int32)), .val (.int (Int32.ofNat cs.length)), .unset, .unset] []) (by first | rfl | (simp [entryFrame, mkF, argsToLocals, Value.category]; done)) ?_
  refine ok_iloadN G d_jdk_43_method_23_code_0 rfl ?_
  refine ok_i2b G d_jdk_43_method_23_code_1 ?_
  refine ok_istore G #[.val (.ref t), .val (.int k), .val (.int (0 : Int32)), .val (.int (Int32.ofNat cs.length)), .val (.int (k.toInt8.toInt32)), .unset] d_jdk_43_method_23_code_2 rfl ?_
  refine ok_iloadN G d_jdk_43_method_23_code_4 rfl ?_
  refine ok_istore G #[.val (.ref t), .val (.int k), .val (.int (0 : Int32)), .val (.int (Int32.ofNat cs.length)), .val (.int (k.toInt8.toInt32)), .val (.int (0 : Int32))] d_jdk_43_method_23_code_5 rfl ?_
  refine ok_loop (A := List Int32 × List Int32) (fun q => q.2.length) (fun q => q.1 ++ q.2 = cs ∧ ∀ c ∈ q.1, ¬ c = k) (fun _ => h0) (fun q => mkF m 7 #[.val (.ref t), .val (.int k), .val (.int (0 : Int32)), .val (.int (Int32.ofNat cs.length)), .val (.int k.toInt8.toInt32), .val (.int (Int32.ofNat q.1.length))] []) ?_ ([], cs) ⟨rfl, fun _ q => nomatch q⟩
  rintro ⟨pre, post⟩ ⟨hcs, hpk⟩ ih
  dsimp only at hcs hpk ih ⊢
  cases post with
  | nil =>
    rw [List.append_nil] at hcs
    have hge : ¬ pre.length < cs.length := by rw [hcs]; omega
    have hpc : pre.length ≤ cs.length := by rw [hcs]; omega
    refine ok_iload G d_jdk_43_method_23_code_7 rfl ?_
    refine ok_iloadN G d_jdk_43_method_23_code_9 rfl ?_
    refine ok_icmpgeY G 31 d_jdk_43_method_23_code_10 (by decide) (by decide) (by rw [i32_lt (by omega) (by omega)]; exact hge) ?_
    refine ok_iconst G (-1 : Int32) d_jdk_43_method_23_code_31 rfl ?_
    exact ok_retI G rfl d_jdk_43_method_23_code_32 ⟨⟨_, rfl, Or.inl ⟨rfl, by rw [← hcs]; exact hpk⟩⟩, rfl⟩ (Nat.le_of_ble_eq_true rfl) (Nat.le_of_ble_eq_true rfl)
  | cons ch post =>
    have hlt : pre.length < cs.length := by rw [← hcs]; simp
    have hlc := hc ch (by rw [← hcs]; simp)
    refine ok_iload G d_jdk_43_method_23_code_7 rfl ?_
    refine ok_iloadN G d_jdk_43_method_23_code_9 rfl ?_
    refine ok_icmpgeN G d_jdk_43_method_23_code_10 ((i32_lt (by omega) (by omega)).mpr hlt) ?_
    refine ok_aloadN G d_jdk_43_method_23_code_13 rfl rfl ?_
    refine ok_iload G d_jdk_43_method_23_code_14 rfl ?_
    refine ok_baload G ch.toInt8.toInt32 V ⟨i32_nn (by omega), (i32_lt (by omega) (by omega)).mpr hlt⟩ (by rw [i32_clamp (by omega), ← hcs]; exact getD_mid _ _ _ _ _) d_jdk_43_method_23_code_16 ?_
    refine ok_iload G d_jdk_43_method_23_code_17 rfl ?_
    refine ok_icmpne G 25 d_jdk_43_method_23_code_19 (by decide) (by decide) (fun cq1 => ?_) (fun cq1 => ?_)
    · skip
      have hnek : ¬ ch = k := fun q => cq1 (by rw [q])
      refine ok_iinc G ((Int32.ofNat pre.length) + (1 : Int32)) #[.val (.ref t), .val (.int k), .val (.int (0 : Int32)), .val (.int (Int32.ofNat cs.length)), .val (.int k.toInt8.toInt32), .val (.int ((Int32.ofNat pre.length) + (1 : Int32)))] d_jdk_43_method_23_code_25 rfl rfl rfl ?_
      refine ok_goto G 7 d_jdk_43_method_23_code_28 (by decide) (by decide) ?_
      have e1 : Int32.ofNat pre.length + (1 : Int32) = Int32.ofNat (pre ++ [ch]).length := by rw [i32_succ]; simp
      rw [e1]
      exact ih (pre ++ [ch], post) (by simp) ⟨by simpa using hcs, fun c q => (List.mem_append.mp q).elim (hpk c) (fun z => by rw [List.mem_singleton.mp z]; exact hnek)⟩
    · skip
      have heqk : k = ch := (hlc.inj hk cq1).symm
      refine ok_iload G d_jdk_43_method_23_code_22 rfl ?_
      exact ok_retI G rfl d_jdk_43_method_23_code_24 ⟨⟨_, rfl, Or.inr ⟨i32_nn (by omega), by rw [← hcs, heqk]; simp⟩⟩, rfl⟩ (Nat.le_of_ble_eq_true rfl) (Nat.le_of_ble_eq_true rfl)
theorem d_jdk_43_method_4_code_0 : decode jdk_43_method_4_code 0 = .ok (.iload_n 0, 1) := by decide +kernel
theorem d_jdk_43_method_4_code_1 : decode jdk_43_method_4_code 1 = .ok (.ifCond .lt 14, 3) := by decide +kernel
theorem d_jdk_43_method_4_code_4 : decode jdk_43_method_4_code 4 = .ok (.iload_n 0, 1) := by decide +kernel
theorem d_jdk_43_method_4_code_5 : decode jdk_43_method_4_code 5 = .ok (.sipush 255, 3) := by decide +kernel
theorem d_jdk_43_method_4_code_8 : decode jdk_43_method_4_code 8 = .ok (.if_icmp .gt 7, 3) := by decide +kernel
theorem d_jdk_43_method_4_code_11 : decode jdk_43_method_4_code 11 = .ok (.iconst 1, 1) := by decide +kernel
theorem d_jdk_43_method_4_code_12 : decode jdk_43_method_4_code 12 = .ok (.goto 4, 3) := by decide +kernel
theorem d_jdk_43_method_4_code_16 : decode jdk_43_method_4_code 16 = .ok (.ireturn, 1) := by decide +kernel
def R_c_canI : Room := { frames := 0, cells := 0, slots := 0, locals := 0 }
theorem pl_b11 : plainFor (⟨"java/lang/StringLatin1", "canEncode", "(I)Z"⟩ : MethodName) = true := plainFor_of_name (by first | (simp [plainName, overriddenIn]; done) | decide +kernel)
set_option maxRecDepth 65536 in
set_option maxHeartbeats 40000000 in
theorem c_canI {l : Launch} {Z : State} {a0 : Array Value} {n0 : Nat} {h0 : Heap} (C : Cx Z a0) (hO : Old Z n0 h0) {k : Int32} (hk : Lat k) :
    Con false l Z [] n0 (⟨"java/lang/StringLatin1", "canEncode", "(I)Z"⟩ : MethodName) jdk_43_method_4_code 1 (some .boolean) R_c_canI #[(.int k)] h0 [] (fun v h => v = some (.int 1) ∧ h0 = h) := by
  refine Con.intro (a0 := a0) pl_b11 hO (fun q => nomatch q) ?_
  intro p e s m below meth c G
  refine ok_as (mkF m 0 #[.val (.int k)] []) (by first | rfl | (simp [entryFrame, mkF, argsToLocals, Value.category]; done)) ?_
  refine ok_iloadN G d_jdk_43_method_4_code_0 rfl ?_
  refine ok_ifltN G d_jdk_43_method_4_code_1 hk.1 ?_
  refine ok_iloadN G d_jdk_43_method_4_code_4 rfl ?_
  refine ok_sipush G (255 : Int32) d_jdk_43_method_4_code_5 rfl ?_
  refine ok_icmpgtN G d_jdk_43_method_4_code_8 hk.2 ?_
  refine ok_iconst G (1 : Int32) d_jdk_43_method_4_code_11 rfl ?_
  refine ok_goto G 16 d_jdk_43_method_4_code_12 (by decide) (by decide) ?_
  exact ok_retN G rfl (by simp) d_jdk_43_method_4_code_16 rfl ⟨rfl, rfl⟩ (Nat.le_of_ble_eq_true rfl) (Nat.le_of_ble_eq_true rfl)
theorem d_jdk_29_method_65_code_0 : decode jdk_29_method_65_code 0 = .ok (.iload_n 0, 1) := by decide +kernel
theorem d_jdk_29_method_65_code_1 : decode jdk_29_method_65_code 1 = .ok (.iload_n 1, 1) := by decide +kernel
theorem d_jdk_29_method_65_code_2 : decode jdk_29_method_65_code 2 = .ok (.if_icmp .lt 7, 3) := by decide +kernel
theorem d_jdk_29_method_65_code_5 : decode jdk_29_method_65_code 5 = .ok (.iload_n 0, 1) := by decide +kernel
theorem d_jdk_29_method_65_code_6 : decode jdk_29_method_65_code 6 = .ok (.goto 4, 3) := by decide +kernel
theorem d_jdk_29_method_65_code_10 : decode jdk_29_method_65_code 10 = .ok (.ireturn, 1) := by decide +kernel
def R_c_max00 : Room := { frames := 0, cells := 0, slots := 0, locals := 0 }
theorem pl_b12 : plainFor (⟨"java/lang/Math", "max", "(II)I"⟩ : MethodName) = true := Jvm.Free.JP.mathPlain rfl (by decide +kernel)
set_option maxRecDepth 65536 in
set_option maxHeartbeats 40000000 in
theorem c_max00 {l : Launch} {Z : State} {a0 : Array Value} {n0 : Nat} {h0 : Heap} (C : Cx Z a0) (hO : Old Z n0 h0) :
    Con false l Z [] n0 (⟨"java/lang/Math", "max", "(II)I"⟩ : MethodName) jdk_29_method_65_code 2 (some .int) R_c_max00 #[(.int (0 : Int32)), (.int (0 : Int32))] h0 [] (fun v h => v = some (.int 0) ∧ h0 = h) := by
  refine Con.intro (a0 := a0) pl_b12 hO (fun q => nomatch q) ?_
  intro p e s m below meth c G
  refine ok_as (mkF m 0 #[.val (.int (0 : Int32)), .val (.int (0 : Int32))] []) (by first | rfl | (simp [entryFrame, mkF, argsToLocals, Value.category]; done)) ?_
  refine ok_iloadN G d_jdk_29_method_65_code_0 rfl ?_
  refine ok_iloadN G d_jdk_29_method_65_code_1 rfl ?_
  refine ok_icmpltN G d_jdk_29_method_65_code_2 (by decide) ?_
  refine ok_iloadN G d_jdk_29_method_65_code_5 rfl ?_
  refine ok_goto G 10 d_jdk_29_method_65_code_6 (by decide) (by decide) ?_
  exact ok_retI G rfl d_jdk_29_method_65_code_10 ⟨rfl, rfl⟩ (Nat.le_of_ble_eq_true rfl) (Nat.le_of_ble_eq_true rfl)
theorem d_jdk_29_method_69_code_0 : decode jdk_29_method_69_code 0 = .ok (.iload_n 0, 1) := by decide +kernel
theorem d_jdk_29_method_69_code_1 : decode jdk_29_method_69_code 1 = .ok (.iload_n 1, 1) := by decide +kernel
theorem d_jdk_29_method_69_code_2 : decode jdk_29_method_69_code 2 = .ok (.if_icmp .gt 7, 3) := by decide +kernel
theorem d_jdk_29_method_69_code_5 : decode jdk_29_method_69_code 5 = .ok (.iload_n 0, 1) := by decide +kernel
theorem d_jdk_29_method_69_code_6 : decode jdk_29_method_69_code 6 = .ok (.goto 4, 3) := by decide +kernel
theorem d_jdk_29_method_69_code_10 : decode jdk_29_method_69_code 10 = .ok (.ireturn, 1) := by decide +kernel
def R_c_minnn : Room := { frames := 0, cells := 0, slots := 0, locals := 0 }
theorem pl_b13 : plainFor (⟨"java/lang/Math", "min", "(II)I"⟩ : MethodName) = true := Jvm.Free.JP.mathPlain rfl (by decide +kernel)
set_option maxRecDepth 65536 in
set_option maxHeartbeats 40000000 in
theorem c_minnn {l : Launch} {Z : State} {a0 : Array Value} {n0 : Nat} {h0 : Heap} (C : Cx Z a0) (hO : Old Z n0 h0) {n : Int32} :
    Con false l Z [] n0 (⟨"java/lang/Math", "min", "(II)I"⟩ : MethodName) jdk_29_method_69_code 2 (some .int) R_c_minnn #[(.int n), (.int n)] h0 [] (fun v h => v = some (.int n) ∧ h0 = h) := by
  refine Con.intro (a0 := a0) pl_b13 hO (fun q => nomatch q) ?_
  intro p e s m below meth c G
  refine ok_as (mkF m 0 #[.val (.int n), .val (.int n)] []) (by first | rfl | (simp [entryFrame, mkF, argsToLocals, Value.category]; done)) ?_
  refine ok_iloadN G d_jdk_29_method_69_code_0 rfl ?_
  refine ok_iloadN G d_jdk_29_method_69_code_1 rfl ?_
  refine ok_icmpgtN G d_jdk_29_method_69_code_2 Int32.lt_irrefl ?_
  refine ok_iloadN G d_jdk_29_method_69_code_5 rfl ?_
  refine ok_goto G 10 d_jdk_29_method_69_code_6 (by decide) (by decide) ?_
  exact ok_retI G rfl d_jdk_29_method_69_code_10 ⟨rfl, rfl⟩ (Nat.le_of_ble_eq_true rfl) (Nat.le_of_ble_eq_true rfl)
theorem d_jdk_43_method_22_code_0 : decode jdk_43_method_22_code 0 = .ok (.iload_n 1, 1) := by decide +kernel
theorem d_jdk_43_method_22_code_1 : decode jdk_43_method_22_code 1 = .ok (.invokestatic 88, 3) := by decide +kernel
theorem pd9 : parseMethodDescriptor "(I)Z" = some ⟨[.int], some .boolean⟩ := by decide +kernel
theorem d_jdk_43_method_22_code_4 : decode jdk_43_method_22_code 4 = .ok (.ifCond .ne 5, 3) := by decide +kernel
theorem d_jdk_43_method_22_code_9 : decode jdk_43_method_22_code 9 = .ok (.iload_n 2, 1) := by decide +kernel
theorem d_jdk_43_method_22_code_10 : decode jdk_43_method_22_code 10 = .ok (.iconst 0, 1) := by decide +kernel
theorem d_jdk_43_method_22_code_11 : decode jdk_43_method_22_code 11 = .ok (.invokestatic 92, 3) := by decide +kernel
theorem pd10 : parseMethodDescriptor "(II)I" = some ⟨[.int, .int], some .int⟩ := by decide +kernel
theorem d_jdk_43_method_22_code_14 : decode jdk_43_method_22_code 14 = .ok (.istore_n 2, 1) := by decide +kernel
theorem d_jdk_43_method_22_code_15 : decode jdk_43_method_22_code 15 = .ok (.iload_n 3, 1) := by decide +kernel
theorem d_jdk_43_method_22_code_16 : decode jdk_43_method_22_code 16 = .ok (.aload_n 0, 1) := by decide +kernel
theorem d_jdk_43_method_22_code_17 : decode jdk_43_method_22_code 17 = .ok (.arraylength, 1) := by decide +kernel
theorem d_jdk_43_method_22_code_18 : decode jdk_43_method_22_code 18 = .ok (.invokestatic 38, 3) := by decide +kernel
theorem d_jdk_43_method_22_code_21 : decode jdk_43_method_22_code 21 = .ok (.istore_n 3, 1) := by decide +kernel
theorem d_jdk_43_method_22_code_22 : decode jdk_43_method_22_code 22 = .ok (.iload_n 2, 1) := by decide +kernel
theorem d_jdk_43_method_22_code_23 : decode jdk_43_method_22_code 23 = .ok (.iload_n 3, 1) := by decide +kernel
theorem d_jdk_43_method_22_code_24 : decode jdk_43_method_22_code 24 = .ok (.if_icmp .lt 5, 3) := by decide +kernel
theorem d_jdk_43_method_22_code_29 : decode jdk_43_method_22_code 29 = .ok (.aload_n 0, 1) := by decide +kernel
theorem d_jdk_43_method_22_code_30 : decode jdk_43_method_22_code 30 = .ok (.iload_n 1, 1) := by decide +kernel
theorem d_jdk_43_method_22_code_31 : decode jdk_43_method_22_code 31 = .ok (.iload_n 2, 1) := by decide +kernel
theorem d_jdk_43_method_22_code_32 : decode jdk_43_method_22_code 32 = .ok (.iload_n 3, 1) := by decide +kernel
theorem d_jdk_43_method_22_code_33 : decode jdk_43_method_22_code 33 = .ok (.invokestatic 95, 3) := by decide +kernel
theorem pd11 : parseMethodDescriptor "([BIII)I" = some ⟨[(.array .byte), .int, .int, .int], some .int⟩ := by decide +kernel
theorem d_jdk_43_method_22_code_36 : decode jdk_43_method_22_code 36 = .ok (.ireturn, 1) := by decide +kernel
theorem d_jdk_43_method_22_code_27 : decode jdk_43_method_22_code 27 = .ok (.iconst (-1), 1) := by decide +kernel
theorem d_jdk_43_method_22_code_28 : decode jdk_43_method_22_code 28 = .ok (.ireturn, 1) := by decide +kernel
def R_e_l1ix : Room := { frames := 1, cells := 0, slots := 0, locals := 17 }
theorem pl_b10 : plainFor (⟨"java/lang/StringLatin1", "indexOf", "([BIII)I"⟩ : MethodName) = true := plainFor_of_name (by first | (simp [plainName, overriddenIn]; done) | decide +kernel)
set_option maxRecDepth 65536 in
set_option maxHeartbeats 40000000 in
theorem e_l1ix {l : Launch} {Z : State} {a0 : Array Value} {n0 : Nat} {h0 : Heap} (C : Cx Z a0) (hO : Old Z n0 h0) {t : Addr} {kb : ClassId} {cs : List Int32} {k : Int32} (V : Arv Z h0 t kb .byte (Int32.ofNat cs.length) (cs.map lo8) (.int 0)) (hc : ∀ c ∈ cs, Lat c) (hle : cs.length ≤ 8) (hk : Lat k) :
    Con false l Z [] n0 (⟨"java/lang/StringLatin1", "indexOf", "([BIII)I"⟩ : MethodName) jdk_43_method_22_code 4 (some .int) R_e_l1ix #[(.ref t), (.int k), (.int (0 : Int32)), (.int (Int32.ofNat cs.length))] h0 [] (fun v h => (∃ r, v = some (.int r) ∧ ((r = -1 ∧ ∀ c ∈ cs, ¬ c = k) ∨ (¬ r < 0 ∧ k ∈ cs))) ∧ h0 = h) := by
  refine Con.intro (a0 := a0) pl_b10 hO (fun q => nomatch q) ?_
  intro p e s m below meth c G
  refine ok_as (mkF m 0 #[.val (.ref t), .val (.int k), .val (.int (0 : Int32)), .val (.int (Int32.ofNat cs.length))] []) (by first | rfl | (simp [entryFrame, mkF, argsToLocals, Value.category]; done)) ?_
  refine ok_iloadN G d_jdk_43_method_22_code_0 rfl ?_
  refine ok_static G (argsL := [(.int k)]) (rest := []) (C.w57) (C.w58) (C.w55) (C.w59) (by decide) pd9 (c_canI C hO hk) rfl rfl rfl d_jdk_43_method_22_code_1 (Nat.le_of_ble_eq_true rfl) (Nat.le_of_ble_eq_true rfl) (Nat.le_of_ble_eq_true rfl) (Nat.le_of_ble_eq_true rfl) (fun _ q => nomatch q) ?_
  rintro _ _ _ ⟨rfl, rfl⟩
  refine ok_as (mkF m 4 #[.val (.ref t), .val (.int k), .val (.int (0 : Int32)), .val (.int (Int32.ofNat cs.length))] [(.int (1 : Int32))]) rfl ?_
  refine ok_ifneY G 9 d_jdk_43_method_22_code_4 (by decide) (by decide) (by decide) ?_
  refine ok_iloadN G d_jdk_43_method_22_code_9 rfl ?_
  refine ok_iconst G (0 : Int32) d_jdk_43_method_22_code_10 rfl ?_
  refine ok_static G (argsL := [(.int (0 : Int32)), (.int (0 : Int32))]) (rest := []) (C.w60) (C.w61) (C.w62) (C.w63) (by decide) pd10 (c_max00 C hO) rfl rfl rfl d_jdk_43_method_22_code_11 (Nat.le_of_ble_eq_true rfl) (Nat.le_of_ble_eq_true rfl) (Nat.le_of_ble_eq_true rfl) (Nat.le_of_ble_eq_true rfl) (fun _ q => nomatch q) ?_
  rintro _ _ _ ⟨rfl, rfl⟩
  refine ok_as (mkF m 14 #[.val (.ref t), .val (.int k), .val (.int (0 : Int32)), .val (.int (Int32.ofNat cs.length))] [(.int (0 : Int32))]) rfl ?_
  refine ok_istoreN G #[.val (.ref t), .val (.int k), .val (.int (0 : Int32)), .val (.int (Int32.ofNat cs.length))] d_jdk_43_method_22_code_14 rfl ?_
  refine ok_iloadN G d_jdk_43_method_22_code_15 rfl ?_
  refine ok_aloadN G d_jdk_43_method_22_code_16 rfl rfl ?_
  refine ok_arraylength G V d_jdk_43_method_22_code_17 ?_
  refine ok_static G (argsL := [(.int (Int32.ofNat cs.length)), (.int (Int32.ofNat cs.length))]) (rest := []) (C.w64) (C.w65) (C.w62) (C.w66) (by decide) pd10 (c_minnn C hO) rfl rfl rfl d_jdk_43_method_22_code_18 (Nat.le_of_ble_eq_true rfl) (Nat.le_of_ble_eq_true rfl) (Nat.le_of_ble_eq_true rfl) (Nat.le_of_ble_eq_true rfl) (fun _ q => nomatch q) ?_
  rintro _ _ _ ⟨rfl, rfl⟩
  refine ok_as (mkF m 21 #[.val (.ref t), .val (.int k), .val (.int (0 : Int32)), .val (.int (Int32.ofNat cs.length))] [(.int (Int32.ofNat cs.length))]) rfl ?_
  refine ok_istoreN G #[.val (.ref t), .val (.int k), .val (.int (0 : Int32)), .val (.int (Int32.ofNat cs.length))] d_jdk_43_method_22_code_21 rfl ?_
  refine ok_iloadN G d_jdk_43_method_22_code_22 rfl ?_
  refine ok_iloadN G d_jdk_43_method_22_code_23 rfl ?_
  refine ok_icmplt G 29 d_jdk_43_method_22_code_24 (by decide) (by decide) (fun cq7 => ?_) (fun cq7 => ?_)
  · skip
    refine ok_aloadN G d_jdk_43_method_22_code_29 rfl rfl ?_
    refine ok_iloadN G d_jdk_43_method_22_code_30 rfl ?_
    refine ok_iloadN G d_jdk_43_method_22_code_31 rfl ?_
    refine ok_iloadN G d_jdk_43_method_22_code_32 rfl ?_
    refine ok_static G (argsL := [(.ref t), (.int k), (.int (0 : Int32)), (.int (Int32.ofNat cs.length))]) (rest := []) (C.w122) (C.w123) (C.w55) (C.w124) (by decide) pd11 (e_ixc C hO V hc hle hk) rfl rfl rfl d_jdk_43_method_22_code_33 (Nat.le_of_ble_eq_true rfl) (Nat.le_of_ble_eq_true rfl) (Nat.le_of_ble_eq_true rfl) (Nat.le_of_ble_eq_true rfl) (fun _ q => nomatch q) ?_
    rintro _ _ _ ⟨⟨ri, rfl, hri⟩, rfl⟩
    refine ok_as (mkF m 36 #[.val (.ref t), .val (.int k), .val (.int (0 : Int32)), .val (.int (Int32.ofNat cs.length))] [(.int ri)]) rfl ?_
    exact ok_retI G rfl d_jdk_43_method_22_code_36 ⟨⟨_, rfl, hri⟩, rfl⟩ (Nat.le_of_ble_eq_true rfl) (Nat.le_of_ble_eq_true rfl)
  · skip
    refine ok_iconst G (-1 : Int32) d_jdk_43_method_22_code_27 rfl ?_
    exact ok_retI G rfl d_jdk_43_method_22_code_28 ⟨⟨_, rfl, Or.inl ⟨rfl, own_nilall cq7⟩⟩, rfl⟩ (Nat.le_of_ble_eq_true rfl) (Nat.le_of_ble_eq_true rfl)
theorem d_jdk_52_method_48_code_0 : decode jdk_52_method_48_code 0 = .ok (.iload_n 2, 1) := by decide +kernel
theorem d_jdk_52_method_48_code_1 : decode jdk_52_method_48_code 1 = .ok (.istore 4, 2) := by decide +kernel
theorem d_jdk_52_method_48_code_3 : decode jdk_52_method_48_code 3 = .ok (.iload 4, 2) := by decide +kernel
theorem d_jdk_52_method_48_code_5 : decode jdk_52_method_48_code 5 = .ok (.iload_n 3, 1) := by decide +kernel
theorem d_jdk_52_method_48_code_6 : decode jdk_52_method_48_code 6 = .ok (.if_icmp .ge 22, 3) := by decide +kernel
theorem d_jdk_52_method_48_code_28 : decode jdk_52_method_48_code 28 = .ok (.iconst (-1), 1) := by decide +kernel
theorem d_jdk_52_method_48_code_29 : decode jdk_52_method_48_code 29 = .ok (.ireturn, 1) := by decide +kernel
theorem d_jdk_52_method_48_code_9 : decode jdk_52_method_48_code 9 = .ok (.aload_n 0, 1) := by decide +kernel
theorem d_jdk_52_method_48_code_10 : decode jdk_52_method_48_code 10 = .ok (.iload 4, 2) := by decide +kernel
theorem d_jdk_52_method_48_code_12 : decode jdk_52_method_48_code 12 = .ok (.invokestatic 71, 3) := by decide +kernel
theorem d_jdk_52_method_48_code_15 : decode jdk_52_method_48_code 15 = .ok (.iload_n 1, 1) := by decide +kernel
theorem d_jdk_52_method_48_code_16 : decode jdk_52_method_48_code 16 = .ok (.if_icmp .ne 6, 3) := by decide +kernel
theorem d_jdk_52_method_48_code_22 : decode jdk_52_method_48_code 22 = .ok (.iinc 4 1, 3) := by decide +kernel
theorem d_jdk_52_method_48_code_25 : decode jdk_52_method_48_code 25 = .ok (.goto (-22), 3) := by decide +kernel
theorem d_jdk_52_method_48_code_19 : decode jdk_52_method_48_code 19 = .ok (.iload 4, 2) := by decide +kernel
theorem d_jdk_52_method_48_code_21 : decode jdk_52_method_48_code 21 = .ok (.ireturn, 1) := by decide +kernel
def R_e_ixu : Room := { frames := 1, cells := 0, slots := 0, locals := 13 }
theorem pl_b28 : plainFor (⟨"java/lang/StringUTF16", "indexOfCharUnsafe", "([BIII)I"⟩ : MethodName) = true := plainFor_of_name (by first | (simp [plainName, overriddenIn]; done) | decide +kernel)
set_option maxRecDepth 65536 in
set_option maxHeartbeats 40000000 in
theorem e_ixu {l : Launch} {Z : State} {a0 : Array Value} {n0 : Nat} {h0 : Heap} (C : Cx Z a0) (hO : Old Z n0 h0) {t : Addr} {kb : ClassId} {cs : List Int32} {k : Int32} (V : Arv Z h0 t kb .byte (Int32.ofNat (2 * cs.length)) (u16 cs) (.int 0)) (hc : ∀ c ∈ cs, Chr c) (hle : cs.length ≤ 8) :
    Con false l Z [] n0 (⟨"java/lang/StringUTF16", "indexOfCharUnsafe", "([BIII)I"⟩ : MethodName) jdk_52_method_48_code 5 (some .int) R_e_ixu #[(.ref t), (.int k), (.int (0 : Int32)), (.int (Int32.ofNat cs.length))] h0 [] (fun v h => (∃ r, v = some (.int r) ∧ ((r = -1 ∧ ∀ c ∈ cs, ¬ c = k) ∨ (¬ r < 0 ∧ k ∈ cs))) ∧ h0 = h) := by
  refine Con.intro (a0 := a0) pl_b28 hO (fun q => nomatch q) ?_
  intro p e s m below meth c G
  refine ok_as (mkF m 0 #[.val (.ref t), .val (.int k), .val (.int (0 : Int32)), .val (.int (Int32.ofNat cs.length)), .unset] []) (by first | rfl | (simp [entryFrame, mkF, argsToLocals, Value.category]; done)) ?_
  refine ok_iloadN G d_jdk_52_method_48_code_0 rfl ?_
  refine ok_istore G #[.val (.ref t), .val (.int k), .val (.int (0 : Int32)), .val (.int (Int32.ofNat cs.length)), .val (.int (0 : Int32))] d_jdk_52_method_48_code_1 rfl ?_
  refine ok_loop (A := List Int32 × List Int32) (fun q => q.2.length) (fun q => q.1 ++ q.2 = cs ∧ ∀ c ∈ q.1, ¬ c = k) (fun _ => h0) (fun q => mkF m 3 #[.val (.ref t), .val (.int k), .val (.int (0 : Int32)), .val (.int (Int32.ofNat cs.length)), .val (.int (Int32.ofNat q.1.length))] []) ?_ ([], cs) ⟨rfl, fun _ q => nomatch q⟩
  rintro ⟨pre, post⟩ ⟨hcs, hpk⟩ ih
  dsimp only at hcs hpk ih ⊢
  cases post with
  | nil =>
    rw [List.append_nil] at hcs
    have hge : ¬ pre.length < cs.length := by rw [hcs]; omega
    have hpc : pre.length ≤ cs.length := by rw [hcs]; omega
    refine ok_iload G d_jdk_52_method_48_code_3 rfl ?_
    refine ok_iloadN G d_jdk_52_method_48_code_5 rfl ?_
    refine ok_icmpgeY G 28 d_jdk_52_method_48_code_6 (by decide) (by decide) (by rw [i32_lt (by omega) (by omega)]; exact hge) ?_
    refine ok_iconst G (-1 : Int32) d_jdk_52_method_48_code_28 rfl ?_
    exact ok_retI G rfl d_jdk_52_method_48_code_29 ⟨⟨_, rfl, Or.inl ⟨rfl, by rw [← hcs]; exact hpk⟩⟩, rfl⟩ (Nat.le_of_ble_eq_true rfl) (Nat.le_of_ble_eq_true rfl)
  | cons ch post =>
    have hlt : pre.length < cs.length := by rw [← hcs]; simp
    have hlc := hc ch (by rw [← hcs]; simp)
    refine ok_iload G d_jdk_52_method_48_code_3 rfl ?_
    refine ok_iloadN G d_jdk_52_method_48_code_5 rfl ?_
    refine ok_icmpgeN G d_jdk_52_method_48_code_6 ((i32_lt (by omega) (by omega)).mpr hlt) ?_
    refine ok_aloadN G d_jdk_52_method_48_code_9 rfl rfl ?_
    refine ok_iload G d_jdk_52_method_48_code_10 rfl ?_
    refine ok_static G (argsL := [(.ref t), (.int (Int32.ofNat pre.length))]) (rest := []) (C.w90) (C.w91) (C.w69) (C.w92) (by decide) pd5 (d_get (ch := ch) (k := pre.length) C hO V (by rw [← hcs]; exact u16_lo _ _ _ _) (by rw [← hcs]; exact u16_hi _ _ _ _) (by omega) (by omega) hlc) rfl rfl rfl d_jdk_52_method_48_code_12 (Nat.le_of_ble_eq_true rfl) (Nat.le_of_ble_eq_true rfl) (Nat.le_of_ble_eq_true rfl) (Nat.le_of_ble_eq_true rfl) (fun _ q => nomatch q) ?_
    rintro _ _ _ ⟨rfl, rfl⟩
    refine ok_as (mkF m 15 #[.val (.ref t), .val (.int k), .val (.int (0 : Int32)), .val (.int (Int32.ofNat cs.length)), .val (.int (Int32.ofNat pre.length))] [(.int ch)]) rfl ?_
    refine ok_iloadN G d_jdk_52_method_48_code_15 rfl ?_
    refine ok_icmpne G 22 d_jdk_52_method_48_code_16 (by decide) (by decide) (fun cq3 => ?_) (fun cq3 => ?_)
    · skip
      refine ok_iinc G ((Int32.ofNat pre.length) + (1 : Int32)) #[.val (.ref t), .val (.int k), .val (.int (0 : Int32)), .val (.int (Int32.ofNat cs.length)), .val (.int ((Int32.ofNat pre.length) + (1 : Int32)))] d_jdk_52_method_48_code_22 rfl rfl rfl ?_
      refine ok_goto G 3 d_jdk_52_method_48_code_25 (by decide) (by decide) ?_
      have e1 : Int32.ofNat pre.length + (1 : Int32) = Int32.ofNat (pre ++ [ch]).length := by rw [i32_succ]; simp
      rw [e1]
      exact ih (pre ++ [ch], post) (by simp) ⟨by simpa using hcs, fun c q => (List.mem_append.mp q).elim (hpk c) (fun z => by rw [List.mem_singleton.mp z]; exact cq3)⟩
    · skip
      refine ok_iload G d_jdk_52_method_48_code_19 rfl ?_
      exact ok_retI G rfl d_jdk_52_method_48_code_21 ⟨⟨_, rfl, Or.inr ⟨i32_nn (by omega), by rw [← hcs, ← cq3]; simp⟩⟩, rfl⟩ (Nat.le_of_ble_eq_true rfl) (Nat.le_of_ble_eq_true rfl)
theorem d_jdk_41_method_12_code_0 : decode jdk_41_method_12_code 0 = .ok (.iload_n 0, 1) := by decide +kernel
theorem d_jdk_41_method_12_code_1 : decode jdk_41_method_12_code 1 = .ok (.ifCond .lt 13, 3) := by decide +kernel
theorem d_jdk_41_method_12_code_4 : decode jdk_41_method_12_code 4 = .ok (.iload_n 0, 1) := by decide +kernel
theorem d_jdk_41_method_12_code_5 : decode jdk_41_method_12_code 5 = .ok (.iload_n 1, 1) := by decide +kernel
theorem d_jdk_41_method_12_code_6 : decode jdk_41_method_12_code 6 = .ok (.if_icmp .gt 8, 3) := by decide +kernel
theorem d_jdk_41_method_12_code_9 : decode jdk_41_method_12_code 9 = .ok (.iload_n 1, 1) := by decide +kernel
theorem d_jdk_41_method_12_code_10 : decode jdk_41_method_12_code 10 = .ok (.iload_n 2, 1) := by decide +kernel
theorem d_jdk_41_method_12_code_11 : decode jdk_41_method_12_code 11 = .ok (.if_icmp .le 11, 3) := by decide +kernel
theorem d_jdk_41_method_12_code_22 : decode jdk_41_method_12_code 22 = .ok (.iload_n 0, 1) := by decide +kernel
theorem d_jdk_41_method_12_code_23 : decode jdk_41_method_12_code 23 = .ok (.ireturn, 1) := by decide +kernel
def R_c_pft_n : Room := { frames := 0, cells := 0, slots := 0, locals := 0 }
theorem pl_b27 : plainFor (⟨"jdk/internal/util/Preconditions", "checkFromToIndex", "(IIILjava/util/function/BiFunction;)I"⟩ : MethodName) = true := plainFor_of_name (by first | (simp [plainName, overriddenIn]; done) | decide +kernel)
set_option maxRecDepth 65536 in
set_option maxHeartbeats 40000000 in
theorem c_pft_n {l : Launch} {Z : State} {a0 : Array Value} {n0 : Nat} {h0 : Heap} (C : Cx Z a0) (hO : Old Z n0 h0) {i j n : Int32} (hi : ¬ i < 0 ∧ ¬ j < i ∧ ¬ n < j) :
    Con false l Z [] n0 (⟨"jdk/internal/util/Preconditions", "checkFromToIndex", "(IIILjava/util/function/BiFunction;)I"⟩ : MethodName) jdk_41_method_12_code 4 (some .int) R_c_pft_n #[(.int i), (.int j), (.int n), .null] h0 [] (fun v h => v = some (.int i) ∧ h0 = h) := by
  refine Con.intro (a0 := a0) pl_b27 hO (fun q => nomatch q) ?_
  intro p e s m below meth c G
  refine ok_as (mkF m 0 #[.val (.int i), .val (.int j), .val (.int n), .val .null] []) (by first | rfl | (simp [entryFrame, mkF, argsToLocals, Value.category]; done)) ?_
  refine ok_iloadN G d_jdk_41_method_12_code_0 rfl ?_
  refine ok_ifltN G d_jdk_41_method_12_code_1 hi.1 ?_
  refine ok_iloadN G d_jdk_41_method_12_code_4 rfl ?_
  refine ok_iloadN G d_jdk_41_method_12_code_5 rfl ?_
  refine ok_icmpgtN G d_jdk_41_method_12_code_6 hi.2.1 ?_
  refine ok_iloadN G d_jdk_41_method_12_code_9 rfl ?_
  refine ok_iloadN G d_jdk_41_method_12_code_10 rfl ?_
  refine ok_icmpleY G 22 d_jdk_41_method_12_code_11 (by decide) (by decide) hi.2.2 ?_
  refine ok_iloadN G d_jdk_41_method_12_code_22 rfl ?_
  exact ok_retI G rfl d_jdk_41_method_12_code_23 ⟨rfl, rfl⟩ (Nat.le_of_ble_eq_true rfl) (Nat.le_of_ble_eq_true rfl)
def R_c_pft_r : Room := { frames := 0, cells := 0, slots := 0, locals := 0 }
set_option maxRecDepth 65536 in
set_option maxHeartbeats 40000000 in
theorem c_pft_r {l : Launch} {Z : State} {a0 : Array Value} {n0 : Nat} {h0 : Heap} (C : Cx Z a0) (hO : Old Z n0 h0) {i j n : Int32} {fa : Addr} (hi : ¬ i < 0 ∧ ¬ j < i ∧ ¬ n < j) :
    Con false l Z [] n0 (⟨"jdk/internal/util/Preconditions", "checkFromToIndex", "(IIILjava/util/function/BiFunction;)I"⟩ : MethodName) jdk_41_method_12_code 4 (some .int) R_c_pft_r #[(.int i), (.int j), (.int n), (.ref fa)] h0 [] (fun v h => v = some (.int i) ∧ h0 = h) := by
  refine Con.intro (a0 := a0) pl_b27 hO (fun q => nomatch q) ?_
  intro p e s m below meth c G
  refine ok_as (mkF m 0 #[.val (.int i), .val (.int j), .val (.int n), .val (.ref fa)] []) (by first | rfl | (simp [entryFrame, mkF, argsToLocals, Value.category]; done)) ?_
  refine ok_iloadN G d_jdk_41_method_12_code_0 rfl ?_
  refine ok_ifltN G d_jdk_41_method_12_code_1 hi.1 ?_
  refine ok_iloadN G d_jdk_41_method_12_code_4 rfl ?_
  refine ok_iloadN G d_jdk_41_method_12_code_5 rfl ?_
  refine ok_icmpgtN G d_jdk_41_method_12_code_6 hi.2.1 ?_
  refine ok_iloadN G d_jdk_41_method_12_code_9 rfl ?_
  refine ok_iloadN G d_jdk_41_method_12_code_10 rfl ?_
  refine ok_icmpleY G 22 d_jdk_41_method_12_code_11 (by decide) (by decide) hi.2.2 ?_
  refine ok_iloadN G d_jdk_41_method_12_code_22 rfl ?_
  exact ok_retI G rfl d_jdk_41_method_12_code_23 ⟨rfl, rfl⟩ (Nat.le_of_ble_eq_true rfl) (Nat.le_of_ble_eq_true rfl)
theorem d_jdk_42_method_158_code_0 : decode jdk_42_method_158_code 0 = .ok (.iload_n 0, 1) := by decide +kernel
theorem d_jdk_42_method_158_code_1 : decode jdk_42_method_158_code 1 = .ok (.iload_n 1, 1) := by decide +kernel
theorem d_jdk_42_method_158_code_2 : decode jdk_42_method_158_code 2 = .ok (.iload_n 2, 1) := by decide +kernel
theorem d_jdk_42_method_158_code_3 : decode jdk_42_method_158_code 3 = .ok (.getstatic 1053, 3) := by decide +kernel
theorem d_jdk_42_method_158_code_6 : decode jdk_42_method_158_code 6 = .ok (.invokestatic 1062, 3) := by decide +kernel
theorem pd12 : parseMethodDescriptor "(IIILjava/util/function/BiFunction;)I" = some ⟨[.int, .int, .int, (.object "java/util/function/BiFunction")], some .int⟩ := by decide +kernel
theorem d_jdk_42_method_158_code_9 : decode jdk_42_method_158_code 9 = .ok (.pop, 1) := by decide +kernel
theorem d_jdk_42_method_158_code_10 : decode jdk_42_method_158_code 10 = .ok (.return_, 1) := by decide +kernel
def R_c_sbe : Room := { frames := 1, cells := 0, slots := 0, locals := 15 }
theorem pl_b26 : plainFor (⟨"java/lang/String", "checkBoundsBeginEnd", "(III)V"⟩ : MethodName) = true := plainFor_of_name (by first | (simp [plainName, overriddenIn]; done) | decide +kernel)
set_option maxRecDepth 65536 in
set_option maxHeartbeats 40000000 in
theorem c_sbe {l : Launch} {Z : State} {a0 : Array Value} {n0 : Nat} {h0 : Heap} (C : Cx Z a0) (hO : Old Z n0 h0) {i j n : Int32} (hi : ¬ i < 0 ∧ ¬ j < i ∧ ¬ n < j) :
    Con false l Z [] n0 (⟨"java/lang/String", "checkBoundsBeginEnd", "(III)V"⟩ : MethodName) jdk_42_method_158_code 3 none R_c_sbe #[(.int i), (.int j), (.int n)] h0 [] (fun v h => v = none ∧ h0 = h) := by
  refine Con.intro (a0 := a0) pl_b26 hO (fun q => nomatch q) ?_
  intro p e s m below meth c G
  refine ok_as (mkF m 0 #[.val (.int i), .val (.int j), .val (.int n)] []) (by first | rfl | (simp [entryFrame, mkF, argsToLocals, Value.category]; done)) ?_
  refine ok_iloadN G d_jdk_42_method_158_code_0 rfl ?_
  refine ok_iloadN G d_jdk_42_method_158_code_1 rfl ?_
  refine ok_iloadN G d_jdk_42_method_158_code_2 rfl ?_
  obtain ⟨fm, hfm, hr⟩ := C.sio
  rcases hr with rfl | ⟨fa, rfl⟩
  · skip
    refine ok_getS G (host := "") (Or.inl (C.w114)) Via.refl hfm d_jdk_42_method_158_code_3 ?_
    refine ok_static G (argsL := [(.int i), (.int j), (.int n), .null]) (rest := []) (C.w116) (C.w117) (C.w115) (C.w118) (by decide) pd12 (c_pft_n C hO hi) rfl rfl rfl d_jdk_42_method_158_code_6 (Nat.le_of_ble_eq_true rfl) (Nat.le_of_ble_eq_true rfl) (Nat.le_of_ble_eq_true rfl) (Nat.le_of_ble_eq_true rfl) (fun _ q => nomatch q) ?_
    rintro _ _ _ ⟨rfl, rfl⟩
    refine ok_as (mkF m 9 #[.val (.int i), .val (.int j), .val (.int n)] [(.int i)]) rfl ?_
    refine ok_pop G d_jdk_42_method_158_code_9 rfl ?_
    exact ok_return G rfl d_jdk_42_method_158_code_10 ⟨rfl, rfl⟩ (Nat.le_of_ble_eq_true rfl) (Nat.le_of_ble_eq_true rfl)
  · skip
    refine ok_getS G (host := "") (Or.inl (C.w114)) Via.refl hfm d_jdk_42_method_158_code_3 ?_
    refine ok_static G (argsL := [(.int i), (.int j), (.int n), (.ref fa)]) (rest := []) (C.w116) (C.w117) (C.w115) (C.w118) (by decide) pd12 (c_pft_r C hO hi) rfl rfl rfl d_jdk_42_method_158_code_6 (Nat.le_of_ble_eq_true rfl) (Nat.le_of_ble_eq_true rfl) (Nat.le_of_ble_eq_true rfl) (Nat.le_of_ble_eq_true rfl) (fun _ q => nomatch q) ?_
    rintro _ _ _ ⟨rfl, rfl⟩
    refine ok_as (mkF m 9 #[.val (.int i), .val (.int j), .val (.int n)] [(.int i)]) rfl ?_
    refine ok_pop G d_jdk_42_method_158_code_9 rfl ?_
    exact ok_return G rfl d_jdk_42_method_158_code_10 ⟨rfl, rfl⟩ (Nat.le_of_ble_eq_true rfl) (Nat.le_of_ble_eq_true rfl)
theorem d_jdk_52_method_93_code_0 : decode jdk_52_method_93_code 0 = .ok (.iload_n 0, 1) := by decide +kernel
theorem d_jdk_52_method_93_code_1 : decode jdk_52_method_93_code 1 = .ok (.iload_n 1, 1) := by decide +kernel
theorem d_jdk_52_method_93_code_2 : decode jdk_52_method_93_code 2 = .ok (.aload_n 2, 1) := by decide +kernel
theorem d_jdk_52_method_93_code_3 : decode jdk_52_method_93_code 3 = .ok (.invokestatic 48, 3) := by decide +kernel
theorem pd13 : parseMethodDescriptor "([B)I" = some ⟨[(.array .byte)], some .int⟩ := by decide +kernel
theorem d_jdk_52_method_93_code_6 : decode jdk_52_method_93_code 6 = .ok (.invokestatic 241, 3) := by decide +kernel
theorem pd14 : parseMethodDescriptor "(III)V" = some ⟨[.int, .int, .int], none⟩ := by decide +kernel
theorem d_jdk_52_method_93_code_9 : decode jdk_52_method_93_code 9 = .ok (.return_, 1) := by decide +kernel
def R_e_ube : Room := { frames := 2, cells := 0, slots := 0, locals := 29 }
theorem pl_b24 : plainFor (⟨"java/lang/StringUTF16", "checkBoundsBeginEnd", "(II[B)V"⟩ : MethodName) = true := plainFor_of_name (by first | (simp [plainName, overriddenIn]; done) | decide +kernel)
set_option maxRecDepth 65536 in
set_option maxHeartbeats 40000000 in
theorem e_ube {l : Launch} {Z : State} {a0 : Array Value} {n0 : Nat} {h0 : Heap} (C : Cx Z a0) (hO : Old Z n0 h0) {t : Addr} {kb : ClassId} {cs : List Int32} (V : Arv Z h0 t kb .byte (Int32.ofNat (2 * cs.length)) (u16 cs) (.int 0)) (hle : cs.length ≤ 8) :
    Con false l Z [] n0 (⟨"java/lang/StringUTF16", "checkBoundsBeginEnd", "(II[B)V"⟩ : MethodName) jdk_52_method_93_code 3 none R_e_ube #[(.int (0 : Int32)), (.int (Int32.ofNat cs.length)), (.ref t)] h0 [] (fun v h => v = none ∧ h0 = h) := by
  refine Con.intro (a0 := a0) pl_b24 hO (fun q => nomatch q) ?_
  intro p e s m below meth c G
  refine ok_as (mkF m 0 #[.val (.int (0 : Int32)), .val (.int (Int32.ofNat cs.length)), .val (.ref t)] []) (by first | rfl | (simp [entryFrame, mkF, argsToLocals, Value.category]; done)) ?_
  have hi : ¬ (0 : Int32) < 0 ∧ ¬ (Int32.ofNat cs.length) < (0 : Int32) ∧ ¬ (Int32.ofNat cs.length) < (Int32.ofNat cs.length) := ⟨by decide, i32_nn (by omega), Int32.lt_irrefl⟩
  refine ok_iloadN G d_jdk_52_method_93_code_0 rfl ?_
  refine ok_iloadN G d_jdk_52_method_93_code_1 rfl ?_
  refine ok_aloadN G d_jdk_52_method_93_code_2 rfl rfl ?_
  refine ok_static G (argsL := [(.ref t)]) (rest := [(.int (Int32.ofNat cs.length)), (.int (0 : Int32))]) (C.w108) (C.w109) (C.w69) (C.w110) (by decide) pd13 (d_len (k := cs.length) C hO V hle) rfl rfl rfl d_jdk_52_method_93_code_3 (Nat.le_of_ble_eq_true rfl) (Nat.le_of_ble_eq_true rfl) (Nat.le_of_ble_eq_true rfl) (Nat.le_of_ble_eq_true rfl) (fun _ q => nomatch q) ?_
  rintro _ _ _ ⟨rfl, rfl⟩
  refine ok_as (mkF m 6 #[.val (.int (0 : Int32)), .val (.int (Int32.ofNat cs.length)), .val (.ref t)] [(.int (Int32.ofNat cs.length)), (.int (Int32.ofNat cs.length)), (.int (0 : Int32))]) rfl ?_
  refine ok_static G (argsL := [(.int (0 : Int32)), (.int (Int32.ofNat cs.length)), (.int (Int32.ofNat cs.length))]) (rest := []) (C.w111) (C.w112) (C.w3) (C.w113) (by decide) pd14 (c_sbe C hO hi) rfl rfl rfl d_jdk_52_method_93_code_6 (Nat.le_of_ble_eq_true rfl) (Nat.le_of_ble_eq_true rfl) (Nat.le_of_ble_eq_true rfl) (Nat.le_of_ble_eq_true rfl) (fun _ q => nomatch q) ?_
  rintro _ _ _ ⟨rfl, rfl⟩
  refine ok_as (mkF m 9 #[.val (.int (0 : Int32)), .val (.int (Int32.ofNat cs.length)), .val (.ref t)] []) rfl ?_
  exact ok_return G rfl d_jdk_52_method_93_code_9 ⟨rfl, rfl⟩ (Nat.le_of_ble_eq_true rfl) (Nat.le_of_ble_eq_true rfl)
theorem d_jdk_52_method_47_code_0 : decode jdk_52_method_47_code 0 = .ok (.iload_n 2, 1) := by decide +kernel
theorem d_jdk_52_method_47_code_1 : decode jdk_52_method_47_code 1 = .ok (.iload_n 3, 1) := by decide +kernel
theorem d_jdk_52_method_47_code_2 : decode jdk_52_method_47_code 2 = .ok (.aload_n 0, 1) := by decide +kernel
theorem d_jdk_52_method_47_code_3 : decode jdk_52_method_47_code 3 = .ok (.invokestatic 96, 3) := by decide +kernel
theorem pd15 : parseMethodDescriptor "(II[B)V" = some ⟨[.int, .int, (.array .byte)], none⟩ := by decide +kernel
theorem d_jdk_52_method_47_code_6 : decode jdk_52_method_47_code 6 = .ok (.aload_n 0, 1) := by decide +kernel
theorem d_jdk_52_method_47_code_7 : decode jdk_52_method_47_code 7 = .ok (.iload_n 1, 1) := by decide +kernel
theorem d_jdk_52_method_47_code_8 : decode jdk_52_method_47_code 8 = .ok (.iload_n 2, 1) := by decide +kernel
theorem d_jdk_52_method_47_code_9 : decode jdk_52_method_47_code 9 = .ok (.iload_n 3, 1) := by decide +kernel
theorem d_jdk_52_method_47_code_10 : decode jdk_52_method_47_code 10 = .ok (.invokestatic 244, 3) := by decide +kernel
theorem d_jdk_52_method_47_code_13 : decode jdk_52_method_47_code 13 = .ok (.ireturn, 1) := by decide +kernel
def R_e_uixc : Room := { frames := 3, cells := 0, slots := 0, locals := 43 }
theorem pl_b23 : plainFor (⟨"java/lang/StringUTF16", "indexOfChar", "([BIII)I"⟩ : MethodName) = true := plainFor_of_name (by first | (simp [plainName, overriddenIn]; done) | decide +kernel)
set_option maxRecDepth 65536 in
set_option maxHeartbeats 40000000 in
theorem e_uixc {l : Launch} {Z : State} {a0 : Array Value} {n0 : Nat} {h0 : Heap} (C : Cx Z a0) (hO : Old Z n0 h0) {t : Addr} {kb : ClassId} {cs : List Int32} {k : Int32} (V : Arv Z h0 t kb .byte (Int32.ofNat (2 * cs.length)) (u16 cs) (.int 0)) (hc : ∀ c ∈ cs, Chr c) (hle : cs.length ≤ 8) :
    Con false l Z [] n0 (⟨"java/lang/StringUTF16", "indexOfChar", "([BIII)I"⟩ : MethodName) jdk_52_method_47_code 4 (some .int) R_e_uixc #[(.ref t), (.int k), (.int (0 : Int32)), (.int (Int32.ofNat cs.length))] h0 [] (fun v h => (∃ r, v = some (.int r) ∧ ((r = -1 ∧ ∀ c ∈ cs, ¬ c = k) ∨ (¬ r < 0 ∧ k ∈ cs))) ∧ h0 = h) := by
  refine Con.intro (a0 := a0) pl_b23 hO (fun q => nomatch q) ?_
  intro p e s m below meth c G
  refine ok_as (mkF m 0 #[.val (.ref t), .val (.int k), .val (.int (0 : Int32)), .val (.int (Int32.ofNat cs.length))] []) (by first | rfl | (simp [entryFrame, mkF, argsToLocals, Value.category]; done)) ?_
  refine ok_iloadN G d_jdk_52_method_47_code_0 rfl ?_
  refine ok_iloadN G d_jdk_52_method_47_code_1 rfl ?_
  refine ok_aloadN G d_jdk_52_method_47_code_2 rfl rfl ?_
  refine ok_static G (argsL := [(.int (0 : Int32)), (.int (Int32.ofNat cs.length)), (.ref t)]) (rest := []) (C.w105) (C.w106) (C.w69) (C.w107) (by decide) pd15 (e_ube C hO V hle) rfl rfl rfl d_jdk_52_method_47_code_3 (Nat.le_of_ble_eq_true rfl) (Nat.le_of_ble_eq_true rfl) (Nat.le_of_ble_eq_true rfl) (Nat.le_of_ble_eq_true rfl) (fun _ q => nomatch q) ?_
  rintro _ _ _ ⟨rfl, rfl⟩
  refine ok_as (mkF m 6 #[.val (.ref t), .val (.int k), .val (.int (0 : Int32)), .val (.int (Int32.ofNat cs.length))] []) rfl ?_
  refine ok_aloadN G d_jdk_52_method_47_code_6 rfl rfl ?_
  refine ok_iloadN G d_jdk_52_method_47_code_7 rfl ?_
  refine ok_iloadN G d_jdk_52_method_47_code_8 rfl ?_
  refine ok_iloadN G d_jdk_52_method_47_code_9 rfl ?_
  refine ok_static G (argsL := [(.ref t), (.int k), (.int (0 : Int32)), (.int (Int32.ofNat cs.length))]) (rest := []) (C.w119) (C.w120) (C.w69) (C.w121) (by decide) pd11 (e_ixu C hO V hc hle) rfl rfl rfl d_jdk_52_method_47_code_10 (Nat.le_of_ble_eq_true rfl) (Nat.le_of_ble_eq_true rfl) (Nat.le_of_ble_eq_true rfl) (Nat.le_of_ble_eq_true rfl) (fun _ q => nomatch q) ?_
  rintro _ _ _ ⟨⟨ri, rfl, hri⟩, rfl⟩
  refine ok_as (mkF m 13 #[.val (.ref t), .val (.int k), .val (.int (0 : Int32)), .val (.int (Int32.ofNat cs.length))] [(.int ri)]) rfl ?_
  exact ok_retI G rfl d_jdk_52_method_47_code_13 ⟨⟨_, rfl, hri⟩, rfl⟩ (Nat.le_of_ble_eq_true rfl) (Nat.le_of_ble_eq_true rfl)
theorem d_jdk_52_method_40_code_0 : decode jdk_52_method_40_code 0 = .ok (.iload_n 2, 1) := by decide +kernel
theorem d_jdk_52_method_40_code_1 : decode jdk_52_method_40_code 1 = .ok (.iconst 0, 1) := by decide +kernel
theorem d_jdk_52_method_40_code_2 : decode jdk_52_method_40_code 2 = .ok (.invokestatic 224, 3) := by decide +kernel
theorem d_jdk_52_method_40_code_5 : decode jdk_52_method_40_code 5 = .ok (.istore_n 2, 1) := by decide +kernel
theorem d_jdk_52_method_40_code_6 : decode jdk_52_method_40_code 6 = .ok (.iload_n 3, 1) := by decide +kernel
theorem d_jdk_52_method_40_code_7 : decode jdk_52_method_40_code 7 = .ok (.aload_n 0, 1) := by decide +kernel
theorem d_jdk_52_method_40_code_8 : decode jdk_52_method_40_code 8 = .ok (.arraylength, 1) := by decide +kernel
theorem d_jdk_52_method_40_code_9 : decode jdk_52_method_40_code 9 = .ok (.iconst 1, 1) := by decide +kernel
theorem d_jdk_52_method_40_code_10 : decode jdk_52_method_40_code 10 = .ok (.ishr, 1) := by decide +kernel
theorem d_jdk_52_method_40_code_11 : decode jdk_52_method_40_code 11 = .ok (.invokestatic 183, 3) := by decide +kernel
theorem d_jdk_52_method_40_code_14 : decode jdk_52_method_40_code 14 = .ok (.istore_n 3, 1) := by decide +kernel
theorem d_jdk_52_method_40_code_15 : decode jdk_52_method_40_code 15 = .ok (.iload_n 2, 1) := by decide +kernel
theorem d_jdk_52_method_40_code_16 : decode jdk_52_method_40_code 16 = .ok (.iload_n 3, 1) := by decide +kernel
theorem d_jdk_52_method_40_code_17 : decode jdk_52_method_40_code 17 = .ok (.if_icmp .lt 5, 3) := by decide +kernel
theorem d_jdk_52_method_40_code_22 : decode jdk_52_method_40_code 22 = .ok (.iload_n 1, 1) := by decide +kernel
theorem d_jdk_52_method_40_code_23 : decode jdk_52_method_40_code 23 = .ok (.ldc 227, 2) := by decide +kernel
theorem d_jdk_52_method_40_code_25 : decode jdk_52_method_40_code 25 = .ok (.if_icmp .ge 11, 3) := by decide +kernel
theorem d_jdk_52_method_40_code_28 : decode jdk_52_method_40_code 28 = .ok (.aload_n 0, 1) := by decide +kernel
theorem d_jdk_52_method_40_code_29 : decode jdk_52_method_40_code 29 = .ok (.iload_n 1, 1) := by decide +kernel
theorem d_jdk_52_method_40_code_30 : decode jdk_52_method_40_code 30 = .ok (.iload_n 2, 1) := by decide +kernel
theorem d_jdk_52_method_40_code_31 : decode jdk_52_method_40_code 31 = .ok (.iload_n 3, 1) := by decide +kernel
theorem d_jdk_52_method_40_code_32 : decode jdk_52_method_40_code 32 = .ok (.invokestatic 228, 3) := by decide +kernel
theorem d_jdk_52_method_40_code_35 : decode jdk_52_method_40_code 35 = .ok (.ireturn, 1) := by decide +kernel
theorem d_jdk_52_method_40_code_20 : decode jdk_52_method_40_code 20 = .ok (.iconst (-1), 1) := by decide +kernel
theorem d_jdk_52_method_40_code_21 : decode jdk_52_method_40_code 21 = .ok (.ireturn, 1) := by decide +kernel
def R_e_uix : Room := { frames := 4, cells := 0, slots := 0, locals := 58 }
theorem pl_b22 : plainFor (⟨"java/lang/StringUTF16", "indexOf", "([BIII)I"⟩ : MethodName) = true := plainFor_of_name (by first | (simp [plainName, overriddenIn]; done) | decide +kernel)
set_option maxRecDepth 65536 in
set_option maxHeartbeats 40000000 in
theorem e_uix {l : Launch} {Z : State} {a0 : Array Value} {n0 : Nat} {h0 : Heap} (C : Cx Z a0) (hO : Old Z n0 h0) {t : Addr} {kb : ClassId} {cs : List Int32} {k : Int32} (V : Arv Z h0 t kb .byte (Int32.ofNat (2 * cs.length)) (u16 cs) (.int 0)) (hc : ∀ c ∈ cs, Chr c) (hle : cs.length ≤ 8) (hkb : k < 65536) :
    Con false l Z [] n0 (⟨"java/lang/StringUTF16", "indexOf", "([BIII)I"⟩ : MethodName) jdk_52_method_40_code 4 (some .int) R_e_uix #[(.ref t), (.int k), (.int (0 : Int32)), (.int (Int32.ofNat cs.length))] h0 [] (fun v h => (∃ r, v = some (.int r) ∧ ((r = -1 ∧ ∀ c ∈ cs, ¬ c = k) ∨ (¬ r < 0 ∧ k ∈ cs))) ∧ h0 = h) := by
  refine Con.intro (a0 := a0) pl_b22 hO (fun q => nomatch q) ?_
  intro p e s m below meth c G
  refine ok_as (mkF m 0 #[.val (.ref t), .val (.int k), .val (.int (0 : Int32)), .val (.int (Int32.ofNat cs.length))] []) (by first | rfl | (simp [entryFrame, mkF, argsToLocals, Value.category]; done)) ?_
  refine ok_iloadN G d_jdk_52_method_40_code_0 rfl ?_
  refine ok_iconst G (0 : Int32) d_jdk_52_method_40_code_1 rfl ?_
  refine ok_static G (argsL := [(.int (0 : Int32)), (.int (0 : Int32))]) (rest := []) (C.w99) (C.w61) (C.w62) (C.w63) (by decide) pd10 (c_max00 C hO) rfl rfl rfl d_jdk_52_method_40_code_2 (Nat.le_of_ble_eq_true rfl) (Nat.le_of_ble_eq_true rfl) (Nat.le_of_ble_eq_true rfl) (Nat.le_of_ble_eq_true rfl) (fun _ q => nomatch q) ?_
  rintro _ _ _ ⟨rfl, rfl⟩
  refine ok_as (mkF m 5 #[.val (.ref t), .val (.int k), .val (.int (0 : Int32)), .val (.int (Int32.ofNat cs.length))] [(.int (0 : Int32))]) rfl ?_
  refine ok_istoreN G #[.val (.ref t), .val (.int k), .val (.int (0 : Int32)), .val (.int (Int32.ofNat cs.length))] d_jdk_52_method_40_code_5 rfl ?_
  refine ok_iloadN G d_jdk_52_method_40_code_6 rfl ?_
  refine ok_aloadN G d_jdk_52_method_40_code_7 rfl rfl ?_
  refine ok_arraylength G V d_jdk_52_method_40_code_8 ?_
  refine ok_iconst G (1 : Int32) d_jdk_52_method_40_code_9 rfl ?_
  refine ok_ishr G d_jdk_52_method_40_code_10 ?_
  refine ok_sayI (Int32.ofNat cs.length) (dbl_shr hle) ?_
  refine ok_static G (argsL := [(.int (Int32.ofNat cs.length)), (.int (Int32.ofNat cs.length))]) (rest := []) (C.w100) (C.w65) (C.w62) (C.w66) (by decide) pd10 (c_minnn C hO) rfl rfl rfl d_jdk_52_method_40_code_11 (Nat.le_of_ble_eq_true rfl) (Nat.le_of_ble_eq_true rfl) (Nat.le_of_ble_eq_true rfl) (Nat.le_of_ble_eq_true rfl) (fun _ q => nomatch q) ?_
  rintro _ _ _ ⟨rfl, rfl⟩
  refine ok_as (mkF m 14 #[.val (.ref t), .val (.int k), .val (.int (0 : Int32)), .val (.int (Int32.ofNat cs.length))] [(.int (Int32.ofNat cs.length))]) rfl ?_
  refine ok_istoreN G #[.val (.ref t), .val (.int k), .val (.int (0 : Int32)), .val (.int (Int32.ofNat cs.length))] d_jdk_52_method_40_code_14 rfl ?_
  refine ok_iloadN G d_jdk_52_method_40_code_15 rfl ?_
  refine ok_iloadN G d_jdk_52_method_40_code_16 rfl ?_
  refine ok_icmplt G 22 d_jdk_52_method_40_code_17 (by decide) (by decide) (fun cq5 => ?_) (fun cq5 => ?_)
  · skip
    refine ok_iloadN G d_jdk_52_method_40_code_22 rfl ?_
    refine ok_ldcI G (C.w101) d_jdk_52_method_40_code_23 ?_
    refine ok_icmpgeN G d_jdk_52_method_40_code_25 hkb ?_
    refine ok_aloadN G d_jdk_52_method_40_code_28 rfl rfl ?_
    refine ok_iloadN G d_jdk_52_method_40_code_29 rfl ?_
    refine ok_iloadN G d_jdk_52_method_40_code_30 rfl ?_
    refine ok_iloadN G d_jdk_52_method_40_code_31 rfl ?_
    refine ok_static G (argsL := [(.ref t), (.int k), (.int (0 : Int32)), (.int (Int32.ofNat cs.length))]) (rest := []) (C.w102) (C.w103) (C.w69) (C.w104) (by decide) pd11 (e_uixc C hO V hc hle) rfl rfl rfl d_jdk_52_method_40_code_32 (Nat.le_of_ble_eq_true rfl) (Nat.le_of_ble_eq_true rfl) (Nat.le_of_ble_eq_true rfl) (Nat.le_of_ble_eq_true rfl) (fun _ q => nomatch q) ?_
    rintro _ _ _ ⟨⟨ri, rfl, hri⟩, rfl⟩
    refine ok_as (mkF m 35 #[.val (.ref t), .val (.int k), .val (.int (0 : Int32)), .val (.int (Int32.ofNat cs.length))] [(.int ri)]) rfl ?_
    exact ok_retI G rfl d_jdk_52_method_40_code_35 ⟨⟨_, rfl, hri⟩, rfl⟩ (Nat.le_of_ble_eq_true rfl) (Nat.le_of_ble_eq_true rfl)
  · skip
    refine ok_iconst G (-1 : Int32) d_jdk_52_method_40_code_20 rfl ?_
    exact ok_retI G rfl d_jdk_52_method_40_code_21 ⟨⟨_, rfl, Or.inl ⟨rfl, own_nilall cq5⟩⟩, rfl⟩ (Nat.le_of_ble_eq_true rfl) (Nat.le_of_ble_eq_true rfl)
theorem d_jdk_42_method_80_code_0 : decode jdk_42_method_80_code 0 = .ok (.aload_n 0, 1) := by decide +kernel
theorem d_jdk_42_method_80_code_1 : decode jdk_42_method_80_code 1 = .ok (.invokevirtual 492, 3) := by decide +kernel
theorem pd16 : parseMethodDescriptor "()Z" = some ⟨[], some .boolean⟩ := by decide +kernel
theorem d_jdk_42_method_80_code_4 : decode jdk_42_method_80_code 4 = .ok (.ifCond .eq 19, 3) := by decide +kernel
theorem d_jdk_42_method_80_code_7 : decode jdk_42_method_80_code 7 = .ok (.aload_n 0, 1) := by decide +kernel
theorem d_jdk_42_method_80_code_8 : decode jdk_42_method_80_code 8 = .ok (.getfield 9, 3) := by decide +kernel
theorem d_jdk_42_method_80_code_11 : decode jdk_42_method_80_code 11 = .ok (.iload_n 1, 1) := by decide +kernel
theorem d_jdk_42_method_80_code_12 : decode jdk_42_method_80_code 12 = .ok (.iload_n 2, 1) := by decide +kernel
theorem d_jdk_42_method_80_code_13 : decode jdk_42_method_80_code 13 = .ok (.aload_n 0, 1) := by decide +kernel
theorem d_jdk_42_method_80_code_14 : decode jdk_42_method_80_code 14 = .ok (.invokevirtual 505, 3) := by decide +kernel
theorem pd17 : parseMethodDescriptor "()I" = some ⟨[], some .int⟩ := by decide +kernel
theorem d_jdk_42_method_80_code_17 : decode jdk_42_method_80_code 17 = .ok (.invokestatic 637, 3) := by decide +kernel
theorem d_jdk_42_method_80_code_20 : decode jdk_42_method_80_code 20 = .ok (.goto 16, 3) := by decide +kernel
theorem d_jdk_42_method_80_code_36 : decode jdk_42_method_80_code 36 = .ok (.ireturn, 1) := by decide +kernel
theorem d_jdk_42_method_80_code_23 : decode jdk_42_method_80_code 23 = .ok (.aload_n 0, 1) := by decide +kernel
theorem d_jdk_42_method_80_code_24 : decode jdk_42_method_80_code 24 = .ok (.getfield 9, 3) := by decide +kernel
theorem d_jdk_42_method_80_code_27 : decode jdk_42_method_80_code 27 = .ok (.iload_n 1, 1) := by decide +kernel
theorem d_jdk_42_method_80_code_28 : decode jdk_42_method_80_code 28 = .ok (.iload_n 2, 1) := by decide +kernel
theorem d_jdk_42_method_80_code_29 : decode jdk_42_method_80_code 29 = .ok (.aload_n 0, 1) := by decide +kernel
theorem d_jdk_42_method_80_code_30 : decode jdk_42_method_80_code 30 = .ok (.invokevirtual 505, 3) := by decide +kernel
theorem d_jdk_42_method_80_code_33 : decode jdk_42_method_80_code 33 = .ok (.invokestatic 640, 3) := by decide +kernel
def R_e_ix2 : Room := { frames := 5, cells := 0, slots := 0, locals := 73 }
theorem pl_b6 : plainFor (⟨"java/lang/String", "indexOf", "(II)I"⟩ : MethodName) = true := plainFor_of_name (by first | (simp [plainName, overriddenIn]; done) | decide +kernel)
set_option maxRecDepth 65536 in
set_option maxHeartbeats 40000000 in
theorem e_ix2 {l : Launch} {Z : State} {a0 : Array Value} {n0 : Nat} {h0 : Heap} (C : Cx Z a0) (hO : Old Z n0 h0) {x t : Addr} {cs : List Int32} {k : Int32} (SG : GStr Z h0 x t cs) (hk : Lat k) (hkb : k < 65536) :
    Con false l Z [] n0 (⟨"java/lang/String", "indexOf", "(II)I"⟩ : MethodName) jdk_42_method_80_code 3 (some .int) R_e_ix2 #[(.ref x), (.int k), (.int (0 : Int32))] h0 [] (fun v h => (∃ r, v = some (.int r) ∧ ((r = -1 ∧ ∀ c ∈ cs, ¬ c = k) ∨ (¬ r < 0 ∧ k ∈ cs))) ∧ h0 = h) := by
  refine Con.intro (a0 := a0) pl_b6 hO (fun q => nomatch q) ?_
  intro p e s m below meth c G
  refine ok_as (mkF m 0 #[.val (.ref x), .val (.int k), .val (.int (0 : Int32))] []) (by first | rfl | (simp [entryFrame, mkF, argsToLocals, Value.category]; done)) ?_
  rcases SG with ⟨S, h8⟩ | S
  · skip
    obtain ⟨E, FC, FV, ⟨kb, V⟩, hla, hle⟩ := id S
    refine ok_aloadN G d_jdk_42_method_80_code_0 rfl rfl ?_
    refine ok_virtual G (a := x) (y0 := (⟨"java/lang/String", "isLatin1", "()Z"⟩ : MethodName)) (y := (⟨"java/lang/String", "isLatin1", "()Z"⟩ : MethodName)) (argsL := []) (rest := []) E (C.w37) (C.w38) (C.w40) (fun vm hZ => notFace_of_selects (args := #[]) (mvT (s := s.setVm vm) hZ (C.w40))) (C.w39) (C.w3) (C.w41) (by decide) pd16 (c_isL1 C hO S) rfl rfl rfl d_jdk_42_method_80_code_1 (Nat.le_of_ble_eq_true rfl) (Nat.le_of_ble_eq_true rfl) (Nat.le_of_ble_eq_true rfl) (Nat.le_of_ble_eq_true rfl) (fun _ q => nomatch q) ?_
    rintro _ _ _ ⟨rfl, rfl⟩
    refine ok_as (mkF m 4 #[.val (.ref x), .val (.int k), .val (.int (0 : Int32))] [(.int (1 : Int32))]) rfl ?_
    refine ok_ifeqN G d_jdk_42_method_80_code_4 (by decide) ?_
    refine ok_aloadN G d_jdk_42_method_80_code_7 rfl rfl ?_
    refine ok_getF G (host := "") (Or.inl (C.w21)) Via.refl FV d_jdk_42_method_80_code_8 ?_
    refine ok_iloadN G d_jdk_42_method_80_code_11 rfl ?_
    refine ok_iloadN G d_jdk_42_method_80_code_12 rfl ?_
    refine ok_aloadN G d_jdk_42_method_80_code_13 rfl rfl ?_
    refine ok_virtual G (a := x) (y0 := (⟨"java/lang/String", "length", "()I"⟩ : MethodName)) (y := (⟨"java/lang/String", "length", "()I"⟩ : MethodName)) (argsL := []) (rest := [(.int (0 : Int32)), (.int k), (.ref t)]) E (C.w43) (C.w44) (C.w46) (fun vm hZ => notFace_of_selects (args := #[]) (mvT (s := s.setVm vm) hZ (C.w46))) (C.w45) (C.w3) (C.w47) (by decide) pd17 (d_length C hO (Or.inl ⟨S, h8⟩)) rfl rfl rfl d_jdk_42_method_80_code_14 (Nat.le_of_ble_eq_true rfl) (Nat.le_of_ble_eq_true rfl) (Nat.le_of_ble_eq_true rfl) (Nat.le_of_ble_eq_true rfl) (fun _ q => nomatch q) ?_
    rintro _ _ _ ⟨rfl, rfl⟩
    refine ok_as (mkF m 17 #[.val (.ref x), .val (.int k), .val (.int (0 : Int32))] [(.int (Int32.ofNat cs.length)), (.int (0 : Int32)), (.int k), (.ref t)]) rfl ?_
    refine ok_static G (argsL := [(.ref t), (.int k), (.int (0 : Int32)), (.int (Int32.ofNat cs.length))]) (rest := []) (C.w53) (C.w54) (C.w55) (C.w56) (by decide) pd11 (e_l1ix C hO V hla h8 hk) rfl rfl rfl d_jdk_42_method_80_code_17 (Nat.le_of_ble_eq_true rfl) (Nat.le_of_ble_eq_true rfl) (Nat.le_of_ble_eq_true rfl) (Nat.le_of_ble_eq_true rfl) (fun _ q => nomatch q) ?_
    rintro _ _ _ ⟨⟨ri, rfl, hri⟩, rfl⟩
    refine ok_as (mkF m 20 #[.val (.ref x), .val (.int k), .val (.int (0 : Int32))] [(.int ri)]) rfl ?_
    refine ok_goto G 36 d_jdk_42_method_80_code_20 (by decide) (by decide) ?_
    exact ok_retI G rfl d_jdk_42_method_80_code_36 ⟨⟨_, rfl, hri⟩, rfl⟩ (Nat.le_of_ble_eq_true rfl) (Nat.le_of_ble_eq_true rfl)
  · skip
    obtain ⟨E, FC, FV, ⟨kb, V⟩, hcw, hlw⟩ := id S
    refine ok_aloadN G d_jdk_42_method_80_code_0 rfl rfl ?_
    refine ok_virtual G (a := x) (y0 := (⟨"java/lang/String", "isLatin1", "()Z"⟩ : MethodName)) (y := (⟨"java/lang/String", "isLatin1", "()Z"⟩ : MethodName)) (argsL := []) (rest := []) E (C.w37) (C.w38) (C.w40) (fun vm hZ => notFace_of_selects (args := #[]) (mvT (s := s.setVm vm) hZ (C.w40))) (C.w39) (C.w3) (C.w41) (by decide) pd16 (d_isL1 C hO S) rfl rfl rfl d_jdk_42_method_80_code_1 (Nat.le_of_ble_eq_true rfl) (Nat.le_of_ble_eq_true rfl) (Nat.le_of_ble_eq_true rfl) (Nat.le_of_ble_eq_true rfl) (fun _ q => nomatch q) ?_
    rintro _ _ _ ⟨rfl, rfl⟩
    refine ok_as (mkF m 4 #[.val (.ref x), .val (.int k), .val (.int (0 : Int32))] [(.int (0 : Int32))]) rfl ?_
    refine ok_ifeqY G 23 d_jdk_42_method_80_code_4 (by decide) (by decide) (by decide) ?_
    refine ok_aloadN G d_jdk_42_method_80_code_23 rfl rfl ?_
    refine ok_getF G (host := "") (Or.inl (C.w21)) Via.refl FV d_jdk_42_method_80_code_24 ?_
    refine ok_iloadN G d_jdk_42_method_80_code_27 rfl ?_
    refine ok_iloadN G d_jdk_42_method_80_code_28 rfl ?_
    refine ok_aloadN G d_jdk_42_method_80_code_29 rfl rfl ?_
    refine ok_virtual G (a := x) (y0 := (⟨"java/lang/String", "length", "()I"⟩ : MethodName)) (y := (⟨"java/lang/String", "length", "()I"⟩ : MethodName)) (argsL := []) (rest := [(.int (0 : Int32)), (.int k), (.ref t)]) E (C.w43) (C.w44) (C.w46) (fun vm hZ => notFace_of_selects (args := #[]) (mvT (s := s.setVm vm) hZ (C.w46))) (C.w45) (C.w3) (C.w47) (by decide) pd17 (d_length C hO (Or.inr S)) rfl rfl rfl d_jdk_42_method_80_code_30 (Nat.le_of_ble_eq_true rfl) (Nat.le_of_ble_eq_true rfl) (Nat.le_of_ble_eq_true rfl) (Nat.le_of_ble_eq_true rfl) (fun _ q => nomatch q) ?_
    rintro _ _ _ ⟨rfl, rfl⟩
    refine ok_as (mkF m 33 #[.val (.ref x), .val (.int k), .val (.int (0 : Int32))] [(.int (Int32.ofNat cs.length)), (.int (0 : Int32)), (.int k), (.ref t)]) rfl ?_
    refine ok_static G (argsL := [(.ref t), (.int k), (.int (0 : Int32)), (.int (Int32.ofNat cs.length))]) (rest := []) (C.w96) (C.w97) (C.w69) (C.w98) (by decide) pd11 (e_uix C hO V hcw hlw hkb) rfl rfl rfl d_jdk_42_method_80_code_33 (Nat.le_of_ble_eq_true rfl) (Nat.le_of_ble_eq_true rfl) (Nat.le_of_ble_eq_true rfl) (Nat.le_of_ble_eq_true rfl) (fun _ q => nomatch q) ?_
    rintro _ _ _ ⟨⟨ri, rfl, hri⟩, rfl⟩
    refine ok_as (mkF m 36 #[.val (.ref x), .val (.int k), .val (.int (0 : Int32))] [(.int ri)]) rfl ?_
    exact ok_retI G rfl d_jdk_42_method_80_code_36 ⟨⟨_, rfl, hri⟩, rfl⟩ (Nat.le_of_ble_eq_true rfl) (Nat.le_of_ble_eq_true rfl)
theorem d_jdk_42_method_79_code_0 : decode jdk_42_method_79_code 0 = .ok (.aload_n 0, 1) := by decide +kernel
theorem d_jdk_42_method_79_code_1 : decode jdk_42_method_79_code 1 = .ok (.iload_n 1, 1) := by decide +kernel
theorem d_jdk_42_method_79_code_2 : decode jdk_42_method_79_code 2 = .ok (.iconst 0, 1) := by decide +kernel
theorem d_jdk_42_method_79_code_3 : decode jdk_42_method_79_code 3 = .ok (.invokevirtual 633, 3) := by decide +kernel
theorem d_jdk_42_method_79_code_6 : decode jdk_42_method_79_code 6 = .ok (.ireturn, 1) := by decide +kernel
def R_e_ix1 : Room := { frames := 6, cells := 0, slots := 0, locals := 87 }
theorem pl_b5 : plainFor (⟨"java/lang/String", "indexOf", "(I)I"⟩ : MethodName) = true := plainFor_of_name (by first | (simp [plainName, overriddenIn]; done) | decide +kernel)
set_option maxRecDepth 65536 in
set_option maxHeartbeats 40000000 in
theorem e_ix1 {l : Launch} {Z : State} {a0 : Array Value} {n0 : Nat} {h0 : Heap} (C : Cx Z a0) (hO : Old Z n0 h0) {x t : Addr} {cs : List Int32} {k : Int32} (SG : GStr Z h0 x t cs) (hk : Lat k) (hkb : k < 65536) :
    Con false l Z [] n0 (⟨"java/lang/String", "indexOf", "(I)I"⟩ : MethodName) jdk_42_method_79_code 2 (some .int) R_e_ix1 #[(.ref x), (.int k)] h0 [] (fun v h => (∃ r, v = some (.int r) ∧ ((r = -1 ∧ ∀ c ∈ cs, ¬ c = k) ∨ (¬ r < 0 ∧ k ∈ cs))) ∧ h0 = h) := by
  refine Con.intro (a0 := a0) pl_b5 hO (fun q => nomatch q) ?_
  intro p e s m below meth c G
  refine ok_as (mkF m 0 #[.val (.ref x), .val (.int k)] []) (by first | rfl | (simp [entryFrame, mkF, argsToLocals, Value.category]; done)) ?_
  refine ok_aloadN G d_jdk_42_method_79_code_0 rfl rfl ?_
  refine ok_iloadN G d_jdk_42_method_79_code_1 rfl ?_
  refine ok_iconst G (0 : Int32) d_jdk_42_method_79_code_2 rfl ?_
  refine ok_virtual G (a := x) (y0 := (⟨"java/lang/String", "indexOf", "(II)I"⟩ : MethodName)) (y := (⟨"java/lang/String", "indexOf", "(II)I"⟩ : MethodName)) (argsL := [(.int k), (.int (0 : Int32))]) (rest := []) SG.exa (C.w32) (C.w33) (C.w35) (fun vm hZ => notFace_of_selects (args := #[]) (mvT (s := s.setVm vm) hZ (C.w35))) (C.w34) (C.w3) (C.w36) (by decide) pd10 (e_ix2 C hO SG hk hkb) rfl rfl rfl d_jdk_42_method_79_code_3 (Nat.le_of_ble_eq_true rfl) (Nat.le_of_ble_eq_true rfl) (Nat.le_of_ble_eq_true rfl) (Nat.le_of_ble_eq_true rfl) (fun _ q => nomatch q) ?_
  rintro _ _ _ ⟨⟨ri, rfl, hri⟩, rfl⟩
  refine ok_as (mkF m 6 #[.val (.ref x), .val (.int k)] [(.int ri)]) rfl ?_
  exact ok_retI G rfl d_jdk_42_method_79_code_6 ⟨⟨_, rfl, hri⟩, rfl⟩ (Nat.le_of_ble_eq_true rfl) (Nat.le_of_ble_eq_true rfl)
theorem d_prog_3_method_2_code_0 : decode prog_3_method_2_code 0 = .ok (.aload_n 0, 1) := by decide +kernel
theorem d_prog_3_method_2_code_1 : decode prog_3_method_2_code 1 = .ok (.ifnull 11, 3) := by decide +kernel
theorem d_prog_3_method_2_code_12 : decode prog_3_method_2_code 12 = .ok (.iconst 1, 1) := by decide +kernel
theorem d_prog_3_method_2_code_13 : decode prog_3_method_2_code 13 = .ok (.goto 4, 3) := by decide +kernel
theorem d_prog_3_method_2_code_17 : decode prog_3_method_2_code 17 = .ok (.ireturn, 1) := by decide +kernel
def R_c_ck_n : Room := { frames := 0, cells := 0, slots := 0, locals := 0 }
theorem pl_b4 : plainFor (⟨"com/example/knot1/knot1/core/KeptTexts", "canKeep", "(Ljava/lang/String;)Z"⟩ : MethodName) = true := plainFor_of_name (by first | (simp [plainName, overriddenIn]; done) | decide +kernel)
set_option maxRecDepth 65536 in
set_option maxHeartbeats 40000000 in
theorem c_ck_n {l : Launch} {Z : State} {a0 : Array Value} {n0 : Nat} {h0 : Heap} (C : Cx Z a0) (hO : Old Z n0 h0) :
    Con false l Z [] n0 (⟨"com/example/knot1/knot1/core/KeptTexts", "canKeep", "(Ljava/lang/String;)Z"⟩ : MethodName) prog_3_method_2_code 1 (some .boolean) R_c_ck_n #[.null] h0 [] (fun v h => v = some (.int 1) ∧ h0 = h) := by
  refine Con.intro (a0 := a0) pl_b4 hO (fun q => nomatch q) ?_
  intro p e s m below meth c G
  refine ok_as (mkF m 0 #[.val .null] []) (by first | rfl | (simp [entryFrame, mkF, argsToLocals, Value.category]; done)) ?_
  refine ok_aloadN G d_prog_3_method_2_code_0 rfl rfl ?_
  refine ok_ifnullY G 12 d_prog_3_method_2_code_1 (by decide) (by decide) ?_
  refine ok_iconst G (1 : Int32) d_prog_3_method_2_code_12 rfl ?_
  refine ok_goto G 17 d_prog_3_method_2_code_13 (by decide) (by decide) ?_
  exact ok_retN G rfl (by simp) d_prog_3_method_2_code_17 rfl ⟨rfl, rfl⟩ (Nat.le_of_ble_eq_true rfl) (Nat.le_of_ble_eq_true rfl)
theorem d_prog_3_method_2_code_4 : decode prog_3_method_2_code 4 = .ok (.aload_n 0, 1) := by decide +kernel
theorem d_prog_3_method_2_code_5 : decode prog_3_method_2_code 5 = .ok (.iconst 0, 1) := by decide +kernel
theorem d_prog_3_method_2_code_6 : decode prog_3_method_2_code 6 = .ok (.invokevirtual 9, 3) := by decide +kernel
theorem d_prog_3_method_2_code_9 : decode prog_3_method_2_code 9 = .ok (.ifCond .ge 7, 3) := by decide +kernel
def R_c_ck_y : Room := { frames := 7, cells := 0, slots := 0, locals := 100 }
set_option maxRecDepth 65536 in
set_option maxHeartbeats 40000000 in
theorem c_ck_y {l : Launch} {Z : State} {a0 : Array Value} {n0 : Nat} {h0 : Heap} (C : Cx Z a0) (hO : Old Z n0 h0) {x t : Addr} {cs : List Int32} (SG : GStr Z h0 x t cs) (hz : ∀ c ∈ cs, ¬ c = 0) :
    Con false l Z [] n0 (⟨"com/example/knot1/knot1/core/KeptTexts", "canKeep", "(Ljava/lang/String;)Z"⟩ : MethodName) prog_3_method_2_code 1 (some .boolean) R_c_ck_y #[(.ref x)] h0 [] (fun v h => v = some (.int 1) ∧ h0 = h) := by
  refine Con.intro (a0 := a0) pl_b4 hO (fun q => nomatch q) ?_
  intro p e s m below meth c G
  refine ok_as (mkF m 0 #[.val (.ref x)] []) (by first | rfl | (simp [entryFrame, mkF, argsToLocals, Value.category]; done)) ?_
  refine ok_aloadN G d_prog_3_method_2_code_0 rfl rfl ?_
  refine ok_ifnullN G d_prog_3_method_2_code_1 ?_
  refine ok_aloadN G d_prog_3_method_2_code_4 rfl rfl ?_
  refine ok_iconst G (0 : Int32) d_prog_3_method_2_code_5 rfl ?_
  refine ok_virtual G (a := x) (y0 := (⟨"java/lang/String", "indexOf", "(I)I"⟩ : MethodName)) (y := (⟨"java/lang/String", "indexOf", "(I)I"⟩ : MethodName)) (argsL := [(.int (0 : Int32))]) (rest := []) SG.exa (C.w27) (C.w28) (C.w30) (fun vm hZ => notFace_of_selects (args := #[]) (mvT (s := s.setVm vm) hZ (C.w30))) (C.w29) (C.w3) (C.w31) (by decide) pd0 (e_ix1 C hO SG ⟨by decide, by decide⟩ (by decide)) rfl rfl rfl d_prog_3_method_2_code_6 (Nat.le_of_ble_eq_true rfl) (Nat.le_of_ble_eq_true rfl) (Nat.le_of_ble_eq_true rfl) (Nat.le_of_ble_eq_true rfl) (fun _ q => nomatch q) ?_
  rintro _ _ _ ⟨⟨ri, rfl, hri⟩, rfl⟩
  refine ok_as (mkF m 9 #[.val (.ref x)] [(.int ri)]) rfl ?_
  refine ok_ifgeN G d_prog_3_method_2_code_9 (hri.elim (fun q => by rw [q.1]; decide) (fun q => absurd rfl (hz 0 q.2))) ?_
  refine ok_iconst G (1 : Int32) d_prog_3_method_2_code_12 rfl ?_
  refine ok_goto G 17 d_prog_3_method_2_code_13 (by decide) (by decide) ?_
  exact ok_retN G rfl (by simp) d_prog_3_method_2_code_17 rfl ⟨rfl, rfl⟩ (Nat.le_of_ble_eq_true rfl) (Nat.le_of_ble_eq_true rfl)
theorem d_prog_3_method_2_code_16 : decode prog_3_method_2_code 16 = .ok (.iconst 0, 1) := by decide +kernel
def R_c_ck_z : Room := { frames := 7, cells := 0, slots := 0, locals := 100 }
set_option maxRecDepth 65536 in
set_option maxHeartbeats 40000000 in
theorem c_ck_z {l : Launch} {Z : State} {a0 : Array Value} {n0 : Nat} {h0 : Heap} (C : Cx Z a0) (hO : Old Z n0 h0) {x t : Addr} {cs : List Int32} (SG : GStr Z h0 x t cs) (hz : (0 : Int32) ∈ cs) :
    Con false l Z [] n0 (⟨"com/example/knot1/knot1/core/KeptTexts", "canKeep", "(Ljava/lang/String;)Z"⟩ : MethodName) prog_3_method_2_code 1 (some .boolean) R_c_ck_z #[(.ref x)] h0 [] (fun v h => v = some (.int 0) ∧ h0 = h) := by
  refine Con.intro (a0 := a0) pl_b4 hO (fun q => nomatch q) ?_
  intro p e s m below meth c G
  refine ok_as (mkF m 0 #[.val (.ref x)] []) (by first | rfl | (simp [entryFrame, mkF, argsToLocals, Value.category]; done)) ?_
  refine ok_aloadN G d_prog_3_method_2_code_0 rfl rfl ?_
  refine ok_ifnullN G d_prog_3_method_2_code_1 ?_
  refine ok_aloadN G d_prog_3_method_2_code_4 rfl rfl ?_
  refine ok_iconst G (0 : Int32) d_prog_3_method_2_code_5 rfl ?_
  refine ok_virtual G (a := x) (y0 := (⟨"java/lang/String", "indexOf", "(I)I"⟩ : MethodName)) (y := (⟨"java/lang/String", "indexOf", "(I)I"⟩ : MethodName)) (argsL := [(.int (0 : Int32))]) (rest := []) SG.exa (C.w27) (C.w28) (C.w30) (fun vm hZ => notFace_of_selects (args := #[]) (mvT (s := s.setVm vm) hZ (C.w30))) (C.w29) (C.w3) (C.w31) (by decide) pd0 (e_ix1 C hO SG ⟨by decide, by decide⟩ (by decide)) rfl rfl rfl d_prog_3_method_2_code_6 (Nat.le_of_ble_eq_true rfl) (Nat.le_of_ble_eq_true rfl) (Nat.le_of_ble_eq_true rfl) (Nat.le_of_ble_eq_true rfl) (fun _ q => nomatch q) ?_
  rintro _ _ _ ⟨⟨ri, rfl, hri⟩, rfl⟩
  refine ok_as (mkF m 9 #[.val (.ref x)] [(.int ri)]) rfl ?_
  refine ok_ifgeY G 16 d_prog_3_method_2_code_9 (by decide) (by decide) (hri.elim (fun q => absurd rfl (q.2 0 hz)) (fun q => q.1)) ?_
  refine ok_iconst G (0 : Int32) d_prog_3_method_2_code_16 rfl ?_
  exact ok_retN G rfl (by simp) d_prog_3_method_2_code_17 rfl ⟨rfl, rfl⟩ (Nat.le_of_ble_eq_true rfl) (Nat.le_of_ble_eq_true rfl)
theorem pd18 : parseMethodDescriptor "([C)V" = some ⟨[(.array .char)], none⟩ := by decide +kernel
theorem pd19 : parseMethodDescriptor "(Ljava/lang/String;)Z" = some ⟨[(.object "java/lang/String")], some .boolean⟩ := by decide +kernel
theorem pl_b0 : plainFor x = true := plainFor_of_name (show plainName "com/example/knot1/knot1/core/KeptTextsCanKeepPinLaw" = true by first | (simp [plainName, overriddenIn]; done) | decide +kernel)
set_option maxRecDepth 65536 in
set_option maxHeartbeats 40000000 in
theorem c_law {l : Launch} {Z : State} {a0 : Array Value} {n0 : Nat} {h0 : Heap} (C : Cx Z a0) (hO : Old Z n0 h0) (hE : EW Z a0 consts_1) {len a b c' : Int32} :
    Con true l Z consts_1 n0 x code maxLocals ret room_1 #[(.int len), (.int a), (.int b), (.int c')] h0 [] (fun v h => v = some (.int 1)) := by
  refine Con.intro (a0 := a0) pl_b0 hO (fun _ => hE) ?_
  intro p e s m below meth c G
  refine ok_as (mkF m 0 #[.val (.int len), .val (.int a), .val (.int b), .val (.int c'), .unset, .unset, .unset, .unset, .unset, .unset, .unset, .unset, .unset, .unset] []) (by first | rfl | (simp [entryFrame, mkF, argsToLocals, Value.category, maxLocals]; done)) ?_
  refine ok_iloadN G at_0 rfl ?_
  refine ok_ldcI G (C.w0) at_1 ?_
  refine ok_iand G at_3 ?_
  refine ok_i2c G at_4 ?_
  refine ok_nameI ?_
  intro chr1 qchr1
  have lchr1 : Chr chr1 := by rw [qchr1]; exact chr_i2c _
  refine ok_istore G #[.val (.int len), .val (.int a), .val (.int b), .val (.int c'), .val (.int chr1), .unset, .unset, .unset, .unset, .unset, .unset, .unset, .unset, .unset] at_5 rfl ?_
  refine ok_iloadN G at_7 rfl ?_
  refine ok_ldcI G (C.w0) at_8 ?_
  refine ok_iand G at_10 ?_
  refine ok_i2c G at_11 ?_
  refine ok_nameI ?_
  intro chr2 qchr2
  have lchr2 : Chr chr2 := by rw [qchr2]; exact chr_i2c _
  refine ok_istore G #[.val (.int len), .val (.int a), .val (.int b), .val (.int c'), .val (.int chr1), .val (.int chr2), .unset, .unset, .unset, .unset, .unset, .unset, .unset, .unset] at_12 rfl ?_
  refine ok_iloadN G at_14 rfl ?_
  refine ok_ldcI G (C.w0) at_15 ?_
  refine ok_iand G at_17 ?_
  refine ok_i2c G at_18 ?_
  refine ok_nameI ?_
  intro chr3 qchr3
  have lchr3 : Chr chr3 := by rw [qchr3]; exact chr_i2c _
  refine ok_istore G #[.val (.int len), .val (.int a), .val (.int b), .val (.int c'), .val (.int chr1), .val (.int chr2), .val (.int chr3), .unset, .unset, .unset, .unset, .unset, .unset, .unset] at_19 rfl ?_
  refine ok_iloadN G at_21 rfl ?_
  refine ok_iconst G (3 : Int32) at_22 rfl ?_
  refine ok_iand G at_23 ?_
  refine ok_istore G #[.val (.int len), .val (.int a), .val (.int b), .val (.int c'), .val (.int chr1), .val (.int chr2), .val (.int chr3), .val (.int (len &&& (3 : Int32))), .unset, .unset, .unset, .unset, .unset, .unset] at_24 rfl ?_
  refine ok_iloadN G at_26 rfl ?_
  refine ok_iconst G (4 : Int32) at_27 rfl ?_
  refine ok_iand G at_28 ?_
  refine ok_meetV (A := Int32) (fun bz => (bz = 1 ∧ ¬ ((len &&& (4 : Int32)) = (0 : Int32))) ∨ (bz = 0 ∧ ((len &&& (4 : Int32)) = (0 : Int32)))) (fun bz => (mkF m 37 #[.val (.int len), .val (.int a), .val (.int b), .val (.int c'), .val (.int chr1), .val (.int chr2), .val (.int chr3), .val (.int (len &&& (3 : Int32))), .unset, .unset, .unset, .unset, .unset, .unset] [(.int bz)])) (fun dm => ?_) ?_
  · refine ok_ifeq G 36 at_29 (by decide) (by decide) (fun cq5 => ?_) (fun cq5 => ?_)
    · refine ok_iconst G (0 : Int32) at_36 rfl ?_
      exact dm 0 (Or.inr ⟨rfl, cq5⟩)
    · refine ok_iconst G (1 : Int32) at_32 rfl ?_
      refine ok_goto G 37 at_33 (by decide) (by decide) ?_
      exact dm 1 (Or.inl ⟨rfl, cq5⟩)
  intro bb4 hbb4
  try dsimp only at hbb4 ⊢
  refine ok_istore G #[.val (.int len), .val (.int a), .val (.int b), .val (.int c'), .val (.int chr1), .val (.int chr2), .val (.int chr3), .val (.int (len &&& (3 : Int32))), .val (.int bb4), .unset, .unset, .unset, .unset, .unset] at_37 rfl ?_
  refine ok_iload G at_39 rfl ?_
  refine ok_ifeq G 50 at_41 (by decide) (by decide) (fun cq6 => ?_) (fun cq6 => ?_)
  · skip
    refine ok_iload G at_50 rfl ?_
    refine ok_ifne G 70 at_52 (by decide) (by decide) (fun cq7 => ?_) (fun cq7 => ?_)
    · skip
      refine ok_iload G at_70 rfl ?_
      refine ok_iconst G (1 : Int32) at_72 rfl ?_
      refine ok_icmpne G 96 at_73 (by decide) (by decide) (fun cq8 => ?_) (fun cq8 => ?_)
      · skip
        refine ok_iload G at_96 rfl ?_
        refine ok_iconst G (2 : Int32) at_98 rfl ?_
        refine ok_icmpne G 127 at_99 (by decide) (by decide) (fun cq9 => ?_) (fun cq9 => ?_)
        · skip
          have hn3 := own_three cq7 cq8 cq9
          refine ok_new G (C.w1) (C.w2) (C.w3) at_127 (Nat.le_of_ble_eq_true rfl) (Nat.le_of_ble_eq_true rfl) ?_
          intro hp11 ob10 eq_ob10 K12 g_ob10 lb_ob10 E_ob10 D_ob10
          have F_ob10_value : Fld Z hp11 ob10 "java/lang/String" "value" "[B" .null := D_ob10 _ _ _ (.array .byte) (Or.inr (C.w17)) (by decide)
          have F_ob10_coder : Fld Z hp11 ob10 "java/lang/String" "coder" "B" (.int (0 : Int32)) := D_ob10 _ _ _ .byte (Or.inr (C.w18)) (by decide)
          refine ok_dup G at_130 rfl ?_
          refine ok_iconst G (3 : Int32) at_131 rfl ?_
          refine ok_newP G (aty := .char) (C.w4) at_132 (by decide) 3 (by decide) (by decide) (Nat.le_of_ble_eq_true rfl) (Nat.le_of_ble_eq_true rfl) ?_
          intro hp14 ob13 k_ob13 eq_ob13 K15 g_ob13 lb_ob13 V_ob13
          have ne_ob10_ob13 : ob10 ≠ ob13 := Nat.ne_of_lt (Nat.lt_of_lt_of_le E_ob10.lt (Nat.le_of_eq eq_ob13.symm))
          replace E_ob10 := E_ob10.keep K15
          replace F_ob10_value := F_ob10_value.keep K15 nin0
          replace F_ob10_coder := F_ob10_coder.keep K15 nin0
          replace V_ob13 : Arv Z hp14 ob13 k_ob13 .char (3 : Int32) [(.int (0 : Int32)), (.int (0 : Int32)), (.int (0 : Int32))] (.int (0 : Int32)) := V_ob13.pad (pad_rep [] (.int (0 : Int32)) 3)
          refine ok_dup G at_134 rfl ?_
          refine ok_iconst G (0 : Int32) at_135 rfl ?_
          refine ok_iload G at_136 rfl ?_
          refine ok_castore G chr1 0 V_ob13 ⟨by decide, by decide⟩ rfl (Nat.le_of_ble_eq_true rfl) (Chr.nar lchr1) at_138 g_ob13 (Or.inr lb_ob13) (SafeFor.mem (List.mem_of_getElem? (i := 0) rfl)) ?_
          intro hp16 K17 Vn
          replace E_ob10 := E_ob10.keep K17
          replace F_ob10_value := F_ob10_value.keep K17 (ninS ne_ob10_ob13 nin0)
          replace F_ob10_coder := F_ob10_coder.keep K17 (ninS ne_ob10_ob13 nin0)
          replace V_ob13 : Arv Z hp16 ob13 k_ob13 .char (3 : Int32) [(.int chr1), (.int (0 : Int32)), (.int (0 : Int32))] (.int (0 : Int32)) := Vn
          clear Vn
          refine ok_dup G at_139 rfl ?_
          refine ok_iconst G (1 : Int32) at_140 rfl ?_
          refine ok_iload G at_141 rfl ?_
          refine ok_castore G chr2 1 V_ob13 ⟨by decide, by decide⟩ rfl (Nat.le_of_ble_eq_true rfl) (Chr.nar lchr2) at_143 g_ob13 (Or.inr lb_ob13) (SafeFor.mem (List.mem_of_getElem? (i := 0) rfl)) ?_
          intro hp18 K19 Vn
          replace E_ob10 := E_ob10.keep K19
          replace F_ob10_value := F_ob10_value.keep K19 (ninS ne_ob10_ob13 nin0)
          replace F_ob10_coder := F_ob10_coder.keep K19 (ninS ne_ob10_ob13 nin0)
          replace V_ob13 : Arv Z hp18 ob13 k_ob13 .char (3 : Int32) [(.int chr1), (.int chr2), (.int (0 : Int32))] (.int (0 : Int32)) := Vn
          clear Vn
          refine ok_dup G at_144 rfl ?_
          refine ok_iconst G (2 : Int32) at_145 rfl ?_
          refine ok_iload G at_146 rfl ?_
          refine ok_castore G chr3 2 V_ob13 ⟨by decide, by decide⟩ rfl (Nat.le_of_ble_eq_true rfl) (Chr.nar lchr3) at_148 g_ob13 (Or.inr lb_ob13) (SafeFor.mem (List.mem_of_getElem? (i := 0) rfl)) ?_
          intro hp20 K21 Vn
          replace E_ob10 := E_ob10.keep K21
          replace F_ob10_value := F_ob10_value.keep K21 (ninS ne_ob10_ob13 nin0)
          replace F_ob10_coder := F_ob10_coder.keep K21 (ninS ne_ob10_ob13 nin0)
          replace V_ob13 : Arv Z hp20 ob13 k_ob13 .char (3 : Int32) [(.int chr1), (.int chr2), (.int chr3)] (.int (0 : Int32)) := Vn
          clear Vn
          refine ok_old (fun hO_hp20 => ?_)
          refine ok_init G (a := ob10) (argsL := [(.ref ob13)]) (rest := [(.ref ob10)]) rfl (C.w5) (C.w6) (C.w3) (C.w7) (by decide) pd18 (d_init1 (cs := [chr1, chr2, chr3]) C hO_hp20 E_ob10 F_ob10_value F_ob10_coder g_ob10 V_ob13 (Nat.le_of_ble_eq_true rfl) (Nat.le_of_ble_eq_true rfl) (allL lchr1 (allL lchr2 (allL lchr3 (fun _ q => nomatch q)))) ne_ob10_ob13) rfl rfl rfl at_149 (Nat.le_of_ble_eq_true rfl) (Nat.le_of_ble_eq_true rfl) (Nat.le_of_ble_eq_true rfl) (Nat.le_of_ble_eq_true rfl) (allS ⟨(Or.inr lb_ob10), (SafeFor.mem (List.mem_of_getElem? (i := 1) rfl))⟩ (fun _ q => nomatch q)) ?_
          rintro _ hp23 K24 ⟨rfl, tr22, S_ob10⟩
          replace E_ob10 := E_ob10.keep K24
          replace V_ob13 := V_ob13.keep K24 (ninS (Ne.symm ne_ob10_ob13) nin0)
          refine ok_as (mkF m 152 #[.val (.int len), .val (.int a), .val (.int b), .val (.int c'), .val (.int chr1), .val (.int chr2), .val (.int chr3), .val (.int (len &&& (3 : Int32))), .val (.int bb4), .unset, .unset, .unset, .unset, .unset] [(.ref ob10)]) rfl ?_
          refine ok_astore G #[.val (.int len), .val (.int a), .val (.int b), .val (.int c'), .val (.int chr1), .val (.int chr2), .val (.int chr3), .val (.int (len &&& (3 : Int32))), .val (.int bb4), .val (.ref ob10), .unset, .unset, .unset, .unset] at_152 rfl rfl ?_
          refine ok_iload G at_154 rfl ?_
          refine ok_ifeqY G 165 at_156 (by decide) (by decide) cq6 ?_
          refine ok_iload G at_165 rfl ?_
          refine ok_iconst G (1 : Int32) at_167 rfl ?_
          refine ok_icmpltN G at_168 (by rw [hn3]; decide) ?_
          refine ok_iload G at_171 rfl ?_
          refine ok_ifne G 180 at_173 (by decide) (by decide) (fun cq25 => ?_) (fun cq25 => ?_)
          · skip
            refine ok_iconst G (0 : Int32) at_180 rfl ?_
            refine ok_istore G #[.val (.int len), .val (.int a), .val (.int b), .val (.int c'), .val (.int chr1), .val (.int chr2), .val (.int chr3), .val (.int (len &&& (3 : Int32))), .val (.int bb4), .val (.ref ob10), .unset, .val (.int (0 : Int32)), .unset, .unset] at_181 rfl ?_
            refine ok_iload G at_183 rfl ?_
            refine ok_iconst G (2 : Int32) at_185 rfl ?_
            refine ok_icmpltN G at_186 (by rw [hn3]; decide) ?_
            refine ok_iload G at_189 rfl ?_
            refine ok_ifne G 198 at_191 (by decide) (by decide) (fun cq26 => ?_) (fun cq26 => ?_)
            · skip
              refine ok_iconst G (0 : Int32) at_198 rfl ?_
              refine ok_istore G #[.val (.int len), .val (.int a), .val (.int b), .val (.int c'), .val (.int chr1), .val (.int chr2), .val (.int chr3), .val (.int (len &&& (3 : Int32))), .val (.int bb4), .val (.ref ob10), .unset, .val (.int (0 : Int32)), .val (.int (0 : Int32)), .unset] at_199 rfl ?_
              refine ok_iload G at_201 rfl ?_
              refine ok_iconst G (3 : Int32) at_203 rfl ?_
              refine ok_icmpltN G at_204 (by rw [hn3]; decide) ?_
              refine ok_iload G at_207 rfl ?_
              refine ok_ifne G 216 at_209 (by decide) (by decide) (fun cq27 => ?_) (fun cq27 => ?_)
              · skip
                refine ok_iconst G (0 : Int32) at_216 rfl ?_
                refine ok_istore G #[.val (.int len), .val (.int a), .val (.int b), .val (.int c'), .val (.int chr1), .val (.int chr2), .val (.int chr3), .val (.int (len &&& (3 : Int32))), .val (.int bb4), .val (.ref ob10), .unset, .val (.int (0 : Int32)), .val (.int (0 : Int32)), .val (.int (0 : Int32))] at_217 rfl ?_
                refine ok_iload G at_219 rfl ?_
                refine ok_ifneN G at_221 (by decide) ?_
                refine ok_iload G at_224 rfl ?_
                refine ok_ifneN G at_226 (by decide) ?_
                refine ok_iload G at_229 rfl ?_
                refine ok_ifneN G at_231 (by decide) ?_
                refine ok_iconst G (1 : Int32) at_234 rfl ?_
                refine ok_goto G 239 at_235 (by decide) (by decide) ?_
                refine ok_istore G #[.val (.int len), .val (.int a), .val (.int b), .val (.int c'), .val (.int chr1), .val (.int chr2), .val (.int chr3), .val (.int (len &&& (3 : Int32))), .val (.int bb4), .val (.ref ob10), .val (.int (1 : Int32)), .val (.int (0 : Int32)), .val (.int (0 : Int32)), .val (.int (0 : Int32))] at_239 rfl ?_
                refine ok_aload G at_241 rfl rfl ?_
                refine ok_old (fun hO_hp23 => ?_)
                refine ok_static G (argsL := [(.ref ob10)]) (rest := []) (C.w23) (C.w24) (C.w25) (C.w26) (by decide) pd19 (c_ck_y C hO_hp23 S_ob10 (allL cq25 (allL cq26 (allL cq27 (fun _ q => nomatch q))))) rfl rfl rfl at_243 (Nat.le_of_ble_eq_true rfl) (Nat.le_of_ble_eq_true rfl) (Nat.le_of_ble_eq_true rfl) (Nat.le_of_ble_eq_true rfl) (fun _ q => nomatch q) ?_
                rintro _ _ _ ⟨rfl, rfl⟩
                refine ok_as (mkF m 246 #[.val (.int len), .val (.int a), .val (.int b), .val (.int c'), .val (.int chr1), .val (.int chr2), .val (.int chr3), .val (.int (len &&& (3 : Int32))), .val (.int bb4), .val (.ref ob10), .val (.int (1 : Int32)), .val (.int (0 : Int32)), .val (.int (0 : Int32)), .val (.int (0 : Int32))] [(.int (1 : Int32))]) rfl ?_
                refine ok_iload G at_246 rfl ?_
                refine ok_icmpneN G at_248 (by decide) ?_
                refine ok_iconst G (1 : Int32) at_251 rfl ?_
                refine ok_goto G 256 at_252 (by decide) (by decide) ?_
                exact ok_retN G rfl (by simp) at_256 rfl rfl (Nat.le_of_ble_eq_true rfl) (Nat.le_of_ble_eq_true rfl)
              · skip
                refine ok_iconst G (1 : Int32) at_212 rfl ?_
                refine ok_goto G 217 at_213 (by decide) (by decide) ?_
                refine ok_istore G #[.val (.int len), .val (.int a), .val (.int b), .val (.int c'), .val (.int chr1), .val (.int chr2), .val (.int chr3), .val (.int (len &&& (3 : Int32))), .val (.int bb4), .val (.ref ob10), .unset, .val (.int (0 : Int32)), .val (.int (0 : Int32)), .val (.int (1 : Int32))] at_217 rfl ?_
                refine ok_iload G at_219 rfl ?_
                refine ok_ifneN G at_221 (by decide) ?_
                refine ok_iload G at_224 rfl ?_
                refine ok_ifneN G at_226 (by decide) ?_
                refine ok_iload G at_229 rfl ?_
                refine ok_ifneY G 238 at_231 (by decide) (by decide) (by decide) ?_
                refine ok_iconst G (0 : Int32) at_238 rfl ?_
                refine ok_istore G #[.val (.int len), .val (.int a), .val (.int b), .val (.int c'), .val (.int chr1), .val (.int chr2), .val (.int chr3), .val (.int (len &&& (3 : Int32))), .val (.int bb4), .val (.ref ob10), .val (.int (0 : Int32)), .val (.int (0 : Int32)), .val (.int (0 : Int32)), .val (.int (1 : Int32))] at_239 rfl ?_
                refine ok_aload G at_241 rfl rfl ?_
                refine ok_old (fun hO_hp23 => ?_)
                refine ok_static G (argsL := [(.ref ob10)]) (rest := []) (C.w23) (C.w24) (C.w25) (C.w26) (by decide) pd19 (c_ck_z C hO_hp23 S_ob10 (own_in2 cq27)) rfl rfl rfl at_243 (Nat.le_of_ble_eq_true rfl) (Nat.le_of_ble_eq_true rfl) (Nat.le_of_ble_eq_true rfl) (Nat.le_of_ble_eq_true rfl) (fun _ q => nomatch q) ?_
                rintro _ _ _ ⟨rfl, rfl⟩
                refine ok_as (mkF m 246 #[.val (.int len), .val (.int a), .val (.int b), .val (.int c'), .val (.int chr1), .val (.int chr2), .val (.int chr3), .val (.int (len &&& (3 : Int32))), .val (.int bb4), .val (.ref ob10), .val (.int (0 : Int32)), .val (.int (0 : Int32)), .val (.int (0 : Int32)), .val (.int (1 : Int32))] [(.int (0 : Int32))]) rfl ?_
                refine ok_iload G at_246 rfl ?_
                refine ok_icmpneN G at_248 (by decide) ?_
                refine ok_iconst G (1 : Int32) at_251 rfl ?_
                refine ok_goto G 256 at_252 (by decide) (by decide) ?_
                exact ok_retN G rfl (by simp) at_256 rfl rfl (Nat.le_of_ble_eq_true rfl) (Nat.le_of_ble_eq_true rfl)
            · skip
              refine ok_iconst G (1 : Int32) at_194 rfl ?_
              refine ok_goto G 199 at_195 (by decide) (by decide) ?_
              refine ok_istore G #[.val (.int len), .val (.int a), .val (.int b), .val (.int c'), .val (.int chr1), .val (.int chr2), .val (.int chr3), .val (.int (len &&& (3 : Int32))), .val (.int bb4), .val (.ref ob10), .unset, .val (.int (0 : Int32)), .val (.int (1 : Int32)), .unset] at_199 rfl ?_
              refine ok_iload G at_201 rfl ?_
              refine ok_iconst G (3 : Int32) at_203 rfl ?_
              refine ok_icmpltN G at_204 (by rw [hn3]; decide) ?_
              refine ok_iload G at_207 rfl ?_
              refine ok_ifne G 216 at_209 (by decide) (by decide) (fun cq32 => ?_) (fun cq32 => ?_)
              · skip
                refine ok_iconst G (0 : Int32) at_216 rfl ?_
                refine ok_istore G #[.val (.int len), .val (.int a), .val (.int b), .val (.int c'), .val (.int chr1), .val (.int chr2), .val (.int chr3), .val (.int (len &&& (3 : Int32))), .val (.int bb4), .val (.ref ob10), .unset, .val (.int (0 : Int32)), .val (.int (1 : Int32)), .val (.int (0 : Int32))] at_217 rfl ?_
                refine ok_iload G at_219 rfl ?_
                refine ok_ifneN G at_221 (by decide) ?_
                refine ok_iload G at_224 rfl ?_
                refine ok_ifneY G 238 at_226 (by decide) (by decide) (by decide) ?_
                refine ok_iconst G (0 : Int32) at_238 rfl ?_
                refine ok_istore G #[.val (.int len), .val (.int a), .val (.int b), .val (.int c'), .val (.int chr1), .val (.int chr2), .val (.int chr3), .val (.int (len &&& (3 : Int32))), .val (.int bb4), .val (.ref ob10), .val (.int (0 : Int32)), .val (.int (0 : Int32)), .val (.int (1 : Int32)), .val (.int (0 : Int32))] at_239 rfl ?_
                refine ok_aload G at_241 rfl rfl ?_
                refine ok_old (fun hO_hp23 => ?_)
                refine ok_static G (argsL := [(.ref ob10)]) (rest := []) (C.w23) (C.w24) (C.w25) (C.w26) (by decide) pd19 (c_ck_z C hO_hp23 S_ob10 (own_in1 cq26)) rfl rfl rfl at_243 (Nat.le_of_ble_eq_true rfl) (Nat.le_of_ble_eq_true rfl) (Nat.le_of_ble_eq_true rfl) (Nat.le_of_ble_eq_true rfl) (fun _ q => nomatch q) ?_
                rintro _ _ _ ⟨rfl, rfl⟩
                refine ok_as (mkF m 246 #[.val (.int len), .val (.int a), .val (.int b), .val (.int c'), .val (.int chr1), .val (.int chr2), .val (.int chr3), .val (.int (len &&& (3 : Int32))), .val (.int bb4), .val (.ref ob10), .val (.int (0 : Int32)), .val (.int (0 : Int32)), .val (.int (1 : Int32)), .val (.int (0 : Int32))] [(.int (0 : Int32))]) rfl ?_
                refine ok_iload G at_246 rfl ?_
                refine ok_icmpneN G at_248 (by decide) ?_
                refine ok_iconst G (1 : Int32) at_251 rfl ?_
                refine ok_goto G 256 at_252 (by decide) (by decide) ?_
                exact ok_retN G rfl (by simp) at_256 rfl rfl (Nat.le_of_ble_eq_true rfl) (Nat.le_of_ble_eq_true rfl)
              · skip
                refine ok_iconst G (1 : Int32) at_212 rfl ?_
                refine ok_goto G 217 at_213 (by decide) (by decide) ?_
                refine ok_istore G #[.val (.int len), .val (.int a), .val (.int b), .val (.int c'), .val (.int chr1), .val (.int chr2), .val (.int chr3), .val (.int (len &&& (3 : Int32))), .val (.int bb4), .val (.ref ob10), .unset, .val (.int (0 : Int32)), .val (.int (1 : Int32)), .val (.int (1 : Int32))] at_217 rfl ?_
                refine ok_iload G at_219 rfl ?_
                refine ok_ifneN G at_221 (by decide) ?_
                refine ok_iload G at_224 rfl ?_
                refine ok_ifneY G 238 at_226 (by decide) (by decide) (by decide) ?_
                refine ok_iconst G (0 : Int32) at_238 rfl ?_
                refine ok_istore G #[.val (.int len), .val (.int a), .val (.int b), .val (.int c'), .val (.int chr1), .val (.int chr2), .val (.int chr3), .val (.int (len &&& (3 : Int32))), .val (.int bb4), .val (.ref ob10), .val (.int (0 : Int32)), .val (.int (0 : Int32)), .val (.int (1 : Int32)), .val (.int (1 : Int32))] at_239 rfl ?_
                refine ok_aload G at_241 rfl rfl ?_
                refine ok_old (fun hO_hp23 => ?_)
                refine ok_static G (argsL := [(.ref ob10)]) (rest := []) (C.w23) (C.w24) (C.w25) (C.w26) (by decide) pd19 (c_ck_z C hO_hp23 S_ob10 (own_in1 cq26)) rfl rfl rfl at_243 (Nat.le_of_ble_eq_true rfl) (Nat.le_of_ble_eq_true rfl) (Nat.le_of_ble_eq_true rfl) (Nat.le_of_ble_eq_true rfl) (fun _ q => nomatch q) ?_
                rintro _ _ _ ⟨rfl, rfl⟩
                refine ok_as (mkF m 246 #[.val (.int len), .val (.int a), .val (.int b), .val (.int c'), .val (.int chr1), .val (.int chr2), .val (.int chr3), .val (.int (len &&& (3 : Int32))), .val (.int bb4), .val (.ref ob10), .val (.int (0 : Int32)), .val (.int (0 : Int32)), .val (.int (1 : Int32)), .val (.int (1 : Int32))] [(.int (0 : Int32))]) rfl ?_
                refine ok_iload G at_246 rfl ?_
                refine ok_icmpneN G at_248 (by decide) ?_
                refine ok_iconst G (1 : Int32) at_251 rfl ?_
                refine ok_goto G 256 at_252 (by decide) (by decide) ?_
                exact ok_retN G rfl (by simp) at_256 rfl rfl (Nat.le_of_ble_eq_true rfl) (Nat.le_of_ble_eq_true rfl)
          · skip
            refine ok_iconst G (1 : Int32) at_176 rfl ?_
            refine ok_goto G 181 at_177 (by decide) (by decide) ?_
            refine ok_istore G #[.val (.int len), .val (.int a), .val (.int b), .val (.int c'), .val (.int chr1), .val (.int chr2), .val (.int chr3), .val (.int (len &&& (3 : Int32))), .val (.int bb4), .val (.ref ob10), .unset, .val (.int (1 : Int32)), .unset, .unset] at_181 rfl ?_
            refine ok_iload G at_183 rfl ?_
            refine ok_iconst G (2 : Int32) at_185 rfl ?_
            refine ok_icmpltN G at_186 (by rw [hn3]; decide) ?_
            refine ok_iload G at_189 rfl ?_
            refine ok_ifne G 198 at_191 (by decide) (by decide) (fun cq37 => ?_) (fun cq37 => ?_)
            · skip
              refine ok_iconst G (0 : Int32) at_198 rfl ?_
              refine ok_istore G #[.val (.int len), .val (.int a), .val (.int b), .val (.int c'), .val (.int chr1), .val (.int chr2), .val (.int chr3), .val (.int (len &&& (3 : Int32))), .val (.int bb4), .val (.ref ob10), .unset, .val (.int (1 : Int32)), .val (.int (0 : Int32)), .unset] at_199 rfl ?_
              refine ok_iload G at_201 rfl ?_
              refine ok_iconst G (3 : Int32) at_203 rfl ?_
              refine ok_icmpltN G at_204 (by rw [hn3]; decide) ?_
              refine ok_iload G at_207 rfl ?_
              refine ok_ifne G 216 at_209 (by decide) (by decide) (fun cq38 => ?_) (fun cq38 => ?_)
              · skip
                refine ok_iconst G (0 : Int32) at_216 rfl ?_
                refine ok_istore G #[.val (.int len), .val (.int a), .val (.int b), .val (.int c'), .val (.int chr1), .val (.int chr2), .val (.int chr3), .val (.int (len &&& (3 : Int32))), .val (.int bb4), .val (.ref ob10), .unset, .val (.int (1 : Int32)), .val (.int (0 : Int32)), .val (.int (0 : Int32))] at_217 rfl ?_
                refine ok_iload G at_219 rfl ?_
                refine ok_ifneY G 238 at_221 (by decide) (by decide) (by decide) ?_
                refine ok_iconst G (0 : Int32) at_238 rfl ?_
                refine ok_istore G #[.val (.int len), .val (.int a), .val (.int b), .val (.int c'), .val (.int chr1), .val (.int chr2), .val (.int chr3), .val (.int (len &&& (3 : Int32))), .val (.int bb4), .val (.ref ob10), .val (.int (0 : Int32)), .val (.int (1 : Int32)), .val (.int (0 : Int32)), .val (.int (0 : Int32))] at_239 rfl ?_
                refine ok_aload G at_241 rfl rfl ?_
                refine ok_old (fun hO_hp23 => ?_)
                refine ok_static G (argsL := [(.ref ob10)]) (rest := []) (C.w23) (C.w24) (C.w25) (C.w26) (by decide) pd19 (c_ck_z C hO_hp23 S_ob10 (own_in0 cq25)) rfl rfl rfl at_243 (Nat.le_of_ble_eq_true rfl) (Nat.le_of_ble_eq_true rfl) (Nat.le_of_ble_eq_true rfl) (Nat.le_of_ble_eq_true rfl) (fun _ q => nomatch q) ?_
                rintro _ _ _ ⟨rfl, rfl⟩
                refine ok_as (mkF m 246 #[.val (.int len), .val (.int a), .val (.int b), .val (.int c'), .val (.int chr1), .val (.int chr2), .val (.int chr3), .val (.int (len &&& (3 : Int32))), .val (.int bb4), .val (.ref ob10), .val (.int (0 : Int32)), .val (.int (1 : Int32)), .val (.int (0 : Int32)), .val (.int (0 : Int32))] [(.int (0 : Int32))]) rfl ?_
                refine ok_iload G at_246 rfl ?_
                refine ok_icmpneN G at_248 (by decide) ?_
                refine ok_iconst G (1 : Int32) at_251 rfl ?_
                refine ok_goto G 256 at_252 (by decide) (by decide) ?_
                exact ok_retN G rfl (by simp) at_256 rfl rfl (Nat.le_of_ble_eq_true rfl) (Nat.le_of_ble_eq_true rfl)
              · skip
                refine ok_iconst G (1 : Int32) at_212 rfl ?_
                refine ok_goto G 217 at_213 (by decide) (by decide) ?_
                refine ok_istore G #[.val (.int len), .val (.int a), .val (.int b), .val (.int c'), .val (.int chr1), .val (.int chr2), .val (.int chr3), .val (.int (len &&& (3 : Int32))), .val (.int bb4), .val (.ref ob10), .unset, .val (.int (1 : Int32)), .val (.int (0 : Int32)), .val (.int (1 : Int32))] at_217 rfl ?_
                refine ok_iload G at_219 rfl ?_
                refine ok_ifneY G 238 at_221 (by decide) (by decide) (by decide) ?_
                refine ok_iconst G (0 : Int32) at_238 rfl ?_
                refine ok_istore G #[.val (.int len), .val (.int a), .val (.int b), .val (.int c'), .val (.int chr1), .val (.int chr2), .val (.int chr3), .val (.int (len &&& (3 : Int32))), .val (.int bb4), .val (.ref ob10), .val (.int (0 : Int32)), .val (.int (1 : Int32)), .val (.int (0 : Int32)), .val (.int (1 : Int32))] at_239 rfl ?_
                refine ok_aload G at_241 rfl rfl ?_
                refine ok_old (fun hO_hp23 => ?_)
                refine ok_static G (argsL := [(.ref ob10)]) (rest := []) (C.w23) (C.w24) (C.w25) (C.w26) (by decide) pd19 (c_ck_z C hO_hp23 S_ob10 (own_in0 cq25)) rfl rfl rfl at_243 (Nat.le_of_ble_eq_true rfl) (Nat.le_of_ble_eq_true rfl) (Nat.le_of_ble_eq_true rfl) (Nat.le_of_ble_eq_true rfl) (fun _ q => nomatch q) ?_
                rintro _ _ _ ⟨rfl, rfl⟩
                refine ok_as (mkF m 246 #[.val (.int len), .val (.int a), .val (.int b), .val (.int c'), .val (.int chr1), .val (.int chr2), .val (.int chr3), .val (.int (len &&& (3 : Int32))), .val (.int bb4), .val (.ref ob10), .val (.int (0 : Int32)), .val (.int (1 : Int32)), .val (.int (0 : Int32)), .val (.int (1 : Int32))] [(.int (0 : Int32))]) rfl ?_
                refine ok_iload G at_246 rfl ?_
                refine ok_icmpneN G at_248 (by decide) ?_
                refine ok_iconst G (1 : Int32) at_251 rfl ?_
                refine ok_goto G 256 at_252 (by decide) (by decide) ?_
                exact ok_retN G rfl (by simp) at_256 rfl rfl (Nat.le_of_ble_eq_true rfl) (Nat.le_of_ble_eq_true rfl)
            · skip
              refine ok_iconst G (1 : Int32) at_194 rfl ?_
              refine ok_goto G 199 at_195 (by decide) (by decide) ?_
              refine ok_istore G #[.val (.int len), .val (.int a), .val (.int b), .val (.int c'), .val (.int chr1), .val (.int chr2), .val (.int chr3), .val (.int (len &&& (3 : Int32))), .val (.int bb4), .val (.ref ob10), .unset, .val (.int (1 : Int32)), .val (.int (1 : Int32)), .unset] at_199 rfl ?_
              refine ok_iload G at_201 rfl ?_
              refine ok_iconst G (3 : Int32) at_203 rfl ?_
              refine ok_icmpltN G at_204 (by rw [hn3]; decide) ?_
              refine ok_iload G at_207 rfl ?_
              refine ok_ifne G 216 at_209 (by decide) (by decide) (fun cq43 => ?_) (fun cq43 => ?_)
              · skip
                refine ok_iconst G (0 : Int32) at_216 rfl ?_
                refine ok_istore G #[.val (.int len), .val (.int a), .val (.int b), .val (.int c'), .val (.int chr1), .val (.int chr2), .val (.int chr3), .val (.int (len &&& (3 : Int32))), .val (.int bb4), .val (.ref ob10), .unset, .val (.int (1 : Int32)), .val (.int (1 : Int32)), .val (.int (0 : Int32))] at_217 rfl ?_
                refine ok_iload G at_219 rfl ?_
                refine ok_ifneY G 238 at_221 (by decide) (by decide) (by decide) ?_
                refine ok_iconst G (0 : Int32) at_238 rfl ?_
                refine ok_istore G #[.val (.int len), .val (.int a), .val (.int b), .val (.int c'), .val (.int chr1), .val (.int chr2), .val (.int chr3), .val (.int (len &&& (3 : Int32))), .val (.int bb4), .val (.ref ob10), .val (.int (0 : Int32)), .val (.int (1 : Int32)), .val (.int (1 : Int32)), .val (.int (0 : Int32))] at_239 rfl ?_
                refine ok_aload G at_241 rfl rfl ?_
                refine ok_old (fun hO_hp23 => ?_)
                refine ok_static G (argsL := [(.ref ob10)]) (rest := []) (C.w23) (C.w24) (C.w25) (C.w26) (by decide) pd19 (c_ck_z C hO_hp23 S_ob10 (own_in0 cq25)) rfl rfl rfl at_243 (Nat.le_of_ble_eq_true rfl) (Nat.le_of_ble_eq_true rfl) (Nat.le_of_ble_eq_true rfl) (Nat.le_of_ble_eq_true rfl) (fun _ q => nomatch q) ?_
                rintro _ _ _ ⟨rfl, rfl⟩
                refine ok_as (mkF m 246 #[.val (.int len), .val (.int a), .val (.int b), .val (.int c'), .val (.int chr1), .val (.int chr2), .val (.int chr3), .val (.int (len &&& (3 : Int32))), .val (.int bb4), .val (.ref ob10), .val (.int (0 : Int32)), .val (.int (1 : Int32)), .val (.int (1 : Int32)), .val (.int (0 : Int32))] [(.int (0 : Int32))]) rfl ?_
                refine ok_iload G at_246 rfl ?_
                refine ok_icmpneN G at_248 (by decide) ?_
                refine ok_iconst G (1 : Int32) at_251 rfl ?_
                refine ok_goto G 256 at_252 (by decide) (by decide) ?_
                exact ok_retN G rfl (by simp) at_256 rfl rfl (Nat.le_of_ble_eq_true rfl) (Nat.le_of_ble_eq_true rfl)
              · skip
                refine ok_iconst G (1 : Int32) at_212 rfl ?_
                refine ok_goto G 217 at_213 (by decide) (by decide) ?_
                refine ok_istore G #[.val (.int len), .val (.int a), .val (.int b), .val (.int c'), .val (.int chr1), .val (.int chr2), .val (.int chr3), .val (.int (len &&& (3 : Int32))), .val (.int bb4), .val (.ref ob10), .unset, .val (.int (1 : Int32)), .val (.int (1 : Int32)), .val (.int (1 : Int32))] at_217 rfl ?_
                refine ok_iload G at_219 rfl ?_
                refine ok_ifneY G 238 at_221 (by decide) (by decide) (by decide) ?_
                refine ok_iconst G (0 : Int32) at_238 rfl ?_
                refine ok_istore G #[.val (.int len), .val (.int a), .val (.int b), .val (.int c'), .val (.int chr1), .val (.int chr2), .val (.int chr3), .val (.int (len &&& (3 : Int32))), .val (.int bb4), .val (.ref ob10), .val (.int (0 : Int32)), .val (.int (1 : Int32)), .val (.int (1 : Int32)), .val (.int (1 : Int32))] at_239 rfl ?_
                refine ok_aload G at_241 rfl rfl ?_
                refine ok_old (fun hO_hp23 => ?_)
                refine ok_static G (argsL := [(.ref ob10)]) (rest := []) (C.w23) (C.w24) (C.w25) (C.w26) (by decide) pd19 (c_ck_z C hO_hp23 S_ob10 (own_in0 cq25)) rfl rfl rfl at_243 (Nat.le_of_ble_eq_true rfl) (Nat.le_of_ble_eq_true rfl) (Nat.le_of_ble_eq_true rfl) (Nat.le_of_ble_eq_true rfl) (fun _ q => nomatch q) ?_
                rintro _ _ _ ⟨rfl, rfl⟩
                refine ok_as (mkF m 246 #[.val (.int len), .val (.int a), .val (.int b), .val (.int c'), .val (.int chr1), .val (.int chr2), .val (.int chr3), .val (.int (len &&& (3 : Int32))), .val (.int bb4), .val (.ref ob10), .val (.int (0 : Int32)), .val (.int (1 : Int32)), .val (.int (1 : Int32)), .val (.int (1 : Int32))] [(.int (0 : Int32))]) rfl ?_
                refine ok_iload G at_246 rfl ?_
                refine ok_icmpneN G at_248 (by decide) ?_
                refine ok_iconst G (1 : Int32) at_251 rfl ?_
                refine ok_goto G 256 at_252 (by decide) (by decide) ?_
                exact ok_retN G rfl (by simp) at_256 rfl rfl (Nat.le_of_ble_eq_true rfl) (Nat.le_of_ble_eq_true rfl)
        · skip
          refine ok_new G (C.w1) (C.w2) (C.w3) at_102 (Nat.le_of_ble_eq_true rfl) (Nat.le_of_ble_eq_true rfl) ?_
          intro hp49 ob48 eq_ob48 K50 g_ob48 lb_ob48 E_ob48 D_ob48
          have F_ob48_value : Fld Z hp49 ob48 "java/lang/String" "value" "[B" .null := D_ob48 _ _ _ (.array .byte) (Or.inr (C.w17)) (by decide)
          have F_ob48_coder : Fld Z hp49 ob48 "java/lang/String" "coder" "B" (.int (0 : Int32)) := D_ob48 _ _ _ .byte (Or.inr (C.w18)) (by decide)
          refine ok_dup G at_105 rfl ?_
          refine ok_iconst G (2 : Int32) at_106 rfl ?_
          refine ok_newP G (aty := .char) (C.w4) at_107 (by decide) 2 (by decide) (by decide) (Nat.le_of_ble_eq_true rfl) (Nat.le_of_ble_eq_true rfl) ?_
          intro hp52 ob51 k_ob51 eq_ob51 K53 g_ob51 lb_ob51 V_ob51
          have ne_ob48_ob51 : ob48 ≠ ob51 := Nat.ne_of_lt (Nat.lt_of_lt_of_le E_ob48.lt (Nat.le_of_eq eq_ob51.symm))
          replace E_ob48 := E_ob48.keep K53
          replace F_ob48_value := F_ob48_value.keep K53 nin0
          replace F_ob48_coder := F_ob48_coder.keep K53 nin0
          replace V_ob51 : Arv Z hp52 ob51 k_ob51 .char (2 : Int32) [(.int (0 : Int32)), (.int (0 : Int32))] (.int (0 : Int32)) := V_ob51.pad (pad_rep [] (.int (0 : Int32)) 2)
          refine ok_dup G at_109 rfl ?_
          refine ok_iconst G (0 : Int32) at_110 rfl ?_
          refine ok_iload G at_111 rfl ?_
          refine ok_castore G chr1 0 V_ob51 ⟨by decide, by decide⟩ rfl (Nat.le_of_ble_eq_true rfl) (Chr.nar lchr1) at_113 g_ob51 (Or.inr lb_ob51) (SafeFor.mem (List.mem_of_getElem? (i := 0) rfl)) ?_
          intro hp54 K55 Vn
          replace E_ob48 := E_ob48.keep K55
          replace F_ob48_value := F_ob48_value.keep K55 (ninS ne_ob48_ob51 nin0)
          replace F_ob48_coder := F_ob48_coder.keep K55 (ninS ne_ob48_ob51 nin0)
          replace V_ob51 : Arv Z hp54 ob51 k_ob51 .char (2 : Int32) [(.int chr1), (.int (0 : Int32))] (.int (0 : Int32)) := Vn
          clear Vn
          refine ok_dup G at_114 rfl ?_
          refine ok_iconst G (1 : Int32) at_115 rfl ?_
          refine ok_iload G at_116 rfl ?_
          refine ok_castore G chr2 1 V_ob51 ⟨by decide, by decide⟩ rfl (Nat.le_of_ble_eq_true rfl) (Chr.nar lchr2) at_118 g_ob51 (Or.inr lb_ob51) (SafeFor.mem (List.mem_of_getElem? (i := 0) rfl)) ?_
          intro hp56 K57 Vn
          replace E_ob48 := E_ob48.keep K57
          replace F_ob48_value := F_ob48_value.keep K57 (ninS ne_ob48_ob51 nin0)
          replace F_ob48_coder := F_ob48_coder.keep K57 (ninS ne_ob48_ob51 nin0)
          replace V_ob51 : Arv Z hp56 ob51 k_ob51 .char (2 : Int32) [(.int chr1), (.int chr2)] (.int (0 : Int32)) := Vn
          clear Vn
          refine ok_old (fun hO_hp56 => ?_)
          refine ok_init G (a := ob48) (argsL := [(.ref ob51)]) (rest := [(.ref ob48)]) rfl (C.w5) (C.w6) (C.w3) (C.w7) (by decide) pd18 (d_init1 (cs := [chr1, chr2]) C hO_hp56 E_ob48 F_ob48_value F_ob48_coder g_ob48 V_ob51 (Nat.le_of_ble_eq_true rfl) (Nat.le_of_ble_eq_true rfl) (allL lchr1 (allL lchr2 (fun _ q => nomatch q))) ne_ob48_ob51) rfl rfl rfl at_119 (Nat.le_of_ble_eq_true rfl) (Nat.le_of_ble_eq_true rfl) (Nat.le_of_ble_eq_true rfl) (Nat.le_of_ble_eq_true rfl) (allS ⟨(Or.inr lb_ob48), (SafeFor.mem (List.mem_of_getElem? (i := 1) rfl))⟩ (fun _ q => nomatch q)) ?_
          rintro _ hp59 K60 ⟨rfl, tr58, S_ob48⟩
          replace E_ob48 := E_ob48.keep K60
          replace V_ob51 := V_ob51.keep K60 (ninS (Ne.symm ne_ob48_ob51) nin0)
          refine ok_as (mkF m 122 #[.val (.int len), .val (.int a), .val (.int b), .val (.int c'), .val (.int chr1), .val (.int chr2), .val (.int chr3), .val (.int (len &&& (3 : Int32))), .val (.int bb4), .unset, .unset, .unset, .unset, .unset] [(.ref ob48)]) rfl ?_
          refine ok_astore G #[.val (.int len), .val (.int a), .val (.int b), .val (.int c'), .val (.int chr1), .val (.int chr2), .val (.int chr3), .val (.int (len &&& (3 : Int32))), .val (.int bb4), .val (.ref ob48), .unset, .unset, .unset, .unset] at_122 rfl rfl ?_
          refine ok_goto G 154 at_124 (by decide) (by decide) ?_
          refine ok_iload G at_154 rfl ?_
          refine ok_ifeqY G 165 at_156 (by decide) (by decide) cq6 ?_
          refine ok_iload G at_165 rfl ?_
          refine ok_iconst G (1 : Int32) at_167 rfl ?_
          refine ok_icmpltN G at_168 (by rw [cq9]; decide) ?_
          refine ok_iload G at_171 rfl ?_
          refine ok_ifne G 180 at_173 (by decide) (by decide) (fun cq61 => ?_) (fun cq61 => ?_)
          · skip
            refine ok_iconst G (0 : Int32) at_180 rfl ?_
            refine ok_istore G #[.val (.int len), .val (.int a), .val (.int b), .val (.int c'), .val (.int chr1), .val (.int chr2), .val (.int chr3), .val (.int (len &&& (3 : Int32))), .val (.int bb4), .val (.ref ob48), .unset, .val (.int (0 : Int32)), .unset, .unset] at_181 rfl ?_
            refine ok_iload G at_183 rfl ?_
            refine ok_iconst G (2 : Int32) at_185 rfl ?_
            refine ok_icmpltN G at_186 (by rw [cq9]; decide) ?_
            refine ok_iload G at_189 rfl ?_
            refine ok_ifne G 198 at_191 (by decide) (by decide) (fun cq62 => ?_) (fun cq62 => ?_)
            · skip
              refine ok_iconst G (0 : Int32) at_198 rfl ?_
              refine ok_istore G #[.val (.int len), .val (.int a), .val (.int b), .val (.int c'), .val (.int chr1), .val (.int chr2), .val (.int chr3), .val (.int (len &&& (3 : Int32))), .val (.int bb4), .val (.ref ob48), .unset, .val (.int (0 : Int32)), .val (.int (0 : Int32)), .unset] at_199 rfl ?_
              refine ok_iload G at_201 rfl ?_
              refine ok_iconst G (3 : Int32) at_203 rfl ?_
              refine ok_icmpltY G 216 at_204 (by decide) (by decide) (by rw [cq9]; decide) ?_
              refine ok_iconst G (0 : Int32) at_216 rfl ?_
              refine ok_istore G #[.val (.int len), .val (.int a), .val (.int b), .val (.int c'), .val (.int chr1), .val (.int chr2), .val (.int chr3), .val (.int (len &&& (3 : Int32))), .val (.int bb4), .val (.ref ob48), .unset, .val (.int (0 : Int32)), .val (.int (0 : Int32)), .val (.int (0 : Int32))] at_217 rfl ?_
              refine ok_iload G at_219 rfl ?_
              refine ok_ifneN G at_221 (by decide) ?_
              refine ok_iload G at_224 rfl ?_
              refine ok_ifneN G at_226 (by decide) ?_
              refine ok_iload G at_229 rfl ?_
              refine ok_ifneN G at_231 (by decide) ?_
              refine ok_iconst G (1 : Int32) at_234 rfl ?_
              refine ok_goto G 239 at_235 (by decide) (by decide) ?_
              refine ok_istore G #[.val (.int len), .val (.int a), .val (.int b), .val (.int c'), .val (.int chr1), .val (.int chr2), .val (.int chr3), .val (.int (len &&& (3 : Int32))), .val (.int bb4), .val (.ref ob48), .val (.int (1 : Int32)), .val (.int (0 : Int32)), .val (.int (0 : Int32)), .val (.int (0 : Int32))] at_239 rfl ?_
              refine ok_aload G at_241 rfl rfl ?_
              refine ok_old (fun hO_hp59 => ?_)
              refine ok_static G (argsL := [(.ref ob48)]) (rest := []) (C.w23) (C.w24) (C.w25) (C.w26) (by decide) pd19 (c_ck_y C hO_hp59 S_ob48 (allL cq61 (allL cq62 (fun _ q => nomatch q)))) rfl rfl rfl at_243 (Nat.le_of_ble_eq_true rfl) (Nat.le_of_ble_eq_true rfl) (Nat.le_of_ble_eq_true rfl) (Nat.le_of_ble_eq_true rfl) (fun _ q => nomatch q) ?_
              rintro _ _ _ ⟨rfl, rfl⟩
              refine ok_as (mkF m 246 #[.val (.int len), .val (.int a), .val (.int b), .val (.int c'), .val (.int chr1), .val (.int chr2), .val (.int chr3), .val (.int (len &&& (3 : Int32))), .val (.int bb4), .val (.ref ob48), .val (.int (1 : Int32)), .val (.int (0 : Int32)), .val (.int (0 : Int32)), .val (.int (0 : Int32))] [(.int (1 : Int32))]) rfl ?_
              refine ok_iload G at_246 rfl ?_
              refine ok_icmpneN G at_248 (by decide) ?_
              refine ok_iconst G (1 : Int32) at_251 rfl ?_
              refine ok_goto G 256 at_252 (by decide) (by decide) ?_
              exact ok_retN G rfl (by simp) at_256 rfl rfl (Nat.le_of_ble_eq_true rfl) (Nat.le_of_ble_eq_true rfl)
            · skip
              refine ok_iconst G (1 : Int32) at_194 rfl ?_
              refine ok_goto G 199 at_195 (by decide) (by decide) ?_
              refine ok_istore G #[.val (.int len), .val (.int a), .val (.int b), .val (.int c'), .val (.int chr1), .val (.int chr2), .val (.int chr3), .val (.int (len &&& (3 : Int32))), .val (.int bb4), .val (.ref ob48), .unset, .val (.int (0 : Int32)), .val (.int (1 : Int32)), .unset] at_199 rfl ?_
              refine ok_iload G at_201 rfl ?_
              refine ok_iconst G (3 : Int32) at_203 rfl ?_
              refine ok_icmpltY G 216 at_204 (by decide) (by decide) (by rw [cq9]; decide) ?_
              refine ok_iconst G (0 : Int32) at_216 rfl ?_
              refine ok_istore G #[.val (.int len), .val (.int a), .val (.int b), .val (.int c'), .val (.int chr1), .val (.int chr2), .val (.int chr3), .val (.int (len &&& (3 : Int32))), .val (.int bb4), .val (.ref ob48), .unset, .val (.int (0 : Int32)), .val (.int (1 : Int32)), .val (.int (0 : Int32))] at_217 rfl ?_
              refine ok_iload G at_219 rfl ?_
              refine ok_ifneN G at_221 (by decide) ?_
              refine ok_iload G at_224 rfl ?_
              refine ok_ifneY G 238 at_226 (by decide) (by decide) (by decide) ?_
              refine ok_iconst G (0 : Int32) at_238 rfl ?_
              refine ok_istore G #[.val (.int len), .val (.int a), .val (.int b), .val (.int c'), .val (.int chr1), .val (.int chr2), .val (.int chr3), .val (.int (len &&& (3 : Int32))), .val (.int bb4), .val (.ref ob48), .val (.int (0 : Int32)), .val (.int (0 : Int32)), .val (.int (1 : Int32)), .val (.int (0 : Int32))] at_239 rfl ?_
              refine ok_aload G at_241 rfl rfl ?_
              refine ok_old (fun hO_hp59 => ?_)
              refine ok_static G (argsL := [(.ref ob48)]) (rest := []) (C.w23) (C.w24) (C.w25) (C.w26) (by decide) pd19 (c_ck_z C hO_hp59 S_ob48 (own_in1 cq62)) rfl rfl rfl at_243 (Nat.le_of_ble_eq_true rfl) (Nat.le_of_ble_eq_true rfl) (Nat.le_of_ble_eq_true rfl) (Nat.le_of_ble_eq_true rfl) (fun _ q => nomatch q) ?_
              rintro _ _ _ ⟨rfl, rfl⟩
              refine ok_as (mkF m 246 #[.val (.int len), .val (.int a), .val (.int b), .val (.int c'), .val (.int chr1), .val (.int chr2), .val (.int chr3), .val (.int (len &&& (3 : Int32))), .val (.int bb4), .val (.ref ob48), .val (.int (0 : Int32)), .val (.int (0 : Int32)), .val (.int (1 : Int32)), .val (.int (0 : Int32))] [(.int (0 : Int32))]) rfl ?_
              refine ok_iload G at_246 rfl ?_
              refine ok_icmpneN G at_248 (by decide) ?_
              refine ok_iconst G (1 : Int32) at_251 rfl ?_
              refine ok_goto G 256 at_252 (by decide) (by decide) ?_
              exact ok_retN G rfl (by simp) at_256 rfl rfl (Nat.le_of_ble_eq_true rfl) (Nat.le_of_ble_eq_true rfl)
          · skip
            refine ok_iconst G (1 : Int32) at_176 rfl ?_
            refine ok_goto G 181 at_177 (by decide) (by decide) ?_
            refine ok_istore G #[.val (.int len), .val (.int a), .val (.int b), .val (.int c'), .val (.int chr1), .val (.int chr2), .val (.int chr3), .val (.int (len &&& (3 : Int32))), .val (.int bb4), .val (.ref ob48), .unset, .val (.int (1 : Int32)), .unset, .unset] at_181 rfl ?_
            refine ok_iload G at_183 rfl ?_
            refine ok_iconst G (2 : Int32) at_185 rfl ?_
            refine ok_icmpltN G at_186 (by rw [cq9]; decide) ?_
            refine ok_iload G at_189 rfl ?_
            refine ok_ifne G 198 at_191 (by decide) (by decide) (fun cq67 => ?_) (fun cq67 => ?_)
            · skip
              refine ok_iconst G (0 : Int32) at_198 rfl ?_
              refine ok_istore G #[.val (.int len), .val (.int a), .val (.int b), .val (.int c'), .val (.int chr1), .val (.int chr2), .val (.int chr3), .val (.int (len &&& (3 : Int32))), .val (.int bb4), .val (.ref ob48), .unset, .val (.int (1 : Int32)), .val (.int (0 : Int32)), .unset] at_199 rfl ?_
              refine ok_iload G at_201 rfl ?_
              refine ok_iconst G (3 : Int32) at_203 rfl ?_
              refine ok_icmpltY G 216 at_204 (by decide) (by decide) (by rw [cq9]; decide) ?_
              refine ok_iconst G (0 : Int32) at_216 rfl ?_
              refine ok_istore G #[.val (.int len), .val (.int a), .val (.int b), .val (.int c'), .val (.int chr1), .val (.int chr2), .val (.int chr3), .val (.int (len &&& (3 : Int32))), .val (.int bb4), .val (.ref ob48), .unset, .val (.int (1 : Int32)), .val (.int (0 : Int32)), .val (.int (0 : Int32))] at_217 rfl ?_
              refine ok_iload G at_219 rfl ?_
              refine ok_ifneY G 238 at_221 (by decide) (by decide) (by decide) ?_
              refine ok_iconst G (0 : Int32) at_238 rfl ?_
              refine ok_istore G #[.val (.int len), .val (.int a), .val (.int b), .val (.int c'), .val (.int chr1), .val (.int chr2), .val (.int chr3), .val (.int (len &&& (3 : Int32))), .val (.int bb4), .val (.ref ob48), .val (.int (0 : Int32)), .val (.int (1 : Int32)), .val (.int (0 : Int32)), .val (.int (0 : Int32))] at_239 rfl ?_
              refine ok_aload G at_241 rfl rfl ?_
              refine ok_old (fun hO_hp59 => ?_)
              refine ok_static G (argsL := [(.ref ob48)]) (rest := []) (C.w23) (C.w24) (C.w25) (C.w26) (by decide) pd19 (c_ck_z C hO_hp59 S_ob48 (own_in0 cq61)) rfl rfl rfl at_243 (Nat.le_of_ble_eq_true rfl) (Nat.le_of_ble_eq_true rfl) (Nat.le_of_ble_eq_true rfl) (Nat.le_of_ble_eq_true rfl) (fun _ q => nomatch q) ?_
              rintro _ _ _ ⟨rfl, rfl⟩
              refine ok_as (mkF m 246 #[.val (.int len), .val (.int a), .val (.int b), .val (.int c'), .val (.int chr1), .val (.int chr2), .val (.int chr3), .val (.int (len &&& (3 : Int32))), .val (.int bb4), .val (.ref ob48), .val (.int (0 : Int32)), .val (.int (1 : Int32)), .val (.int (0 : Int32)), .val (.int (0 : Int32))] [(.int (0 : Int32))]) rfl ?_
              refine ok_iload G at_246 rfl ?_
              refine ok_icmpneN G at_248 (by decide) ?_
              refine ok_iconst G (1 : Int32) at_251 rfl ?_
              refine ok_goto G 256 at_252 (by decide) (by decide) ?_
              exact ok_retN G rfl (by simp) at_256 rfl rfl (Nat.le_of_ble_eq_true rfl) (Nat.le_of_ble_eq_true rfl)
            · skip
              refine ok_iconst G (1 : Int32) at_194 rfl ?_
              refine ok_goto G 199 at_195 (by decide) (by decide) ?_
              refine ok_istore G #[.val (.int len), .val (.int a), .val (.int b), .val (.int c'), .val (.int chr1), .val (.int chr2), .val (.int chr3), .val (.int (len &&& (3 : Int32))), .val (.int bb4), .val (.ref ob48), .unset, .val (.int (1 : Int32)), .val (.int (1 : Int32)), .unset] at_199 rfl ?_
              refine ok_iload G at_201 rfl ?_
              refine ok_iconst G (3 : Int32) at_203 rfl ?_
              refine ok_icmpltY G 216 at_204 (by decide) (by decide) (by rw [cq9]; decide) ?_
              refine ok_iconst G (0 : Int32) at_216 rfl ?_
              refine ok_istore G #[.val (.int len), .val (.int a), .val (.int b), .val (.int c'), .val (.int chr1), .val (.int chr2), .val (.int chr3), .val (.int (len &&& (3 : Int32))), .val (.int bb4), .val (.ref ob48), .unset, .val (.int (1 : Int32)), .val (.int (1 : Int32)), .val (.int (0 : Int32))] at_217 rfl ?_
              refine ok_iload G at_219 rfl ?_
              refine ok_ifneY G 238 at_221 (by decide) (by decide) (by decide) ?_
              refine ok_iconst G (0 : Int32) at_238 rfl ?_
              refine ok_istore G #[.val (.int len), .val (.int a), .val (.int b), .val (.int c'), .val (.int chr1), .val (.int chr2), .val (.int chr3), .val (.int (len &&& (3 : Int32))), .val (.int bb4), .val (.ref ob48), .val (.int (0 : Int32)), .val (.int (1 : Int32)), .val (.int (1 : Int32)), .val (.int (0 : Int32))] at_239 rfl ?_
              refine ok_aload G at_241 rfl rfl ?_
              refine ok_old (fun hO_hp59 => ?_)
              refine ok_static G (argsL := [(.ref ob48)]) (rest := []) (C.w23) (C.w24) (C.w25) (C.w26) (by decide) pd19 (c_ck_z C hO_hp59 S_ob48 (own_in0 cq61)) rfl rfl rfl at_243 (Nat.le_of_ble_eq_true rfl) (Nat.le_of_ble_eq_true rfl) (Nat.le_of_ble_eq_true rfl) (Nat.le_of_ble_eq_true rfl) (fun _ q => nomatch q) ?_
              rintro _ _ _ ⟨rfl, rfl⟩
              refine ok_as (mkF m 246 #[.val (.int len), .val (.int a), .val (.int b), .val (.int c'), .val (.int chr1), .val (.int chr2), .val (.int chr3), .val (.int (len &&& (3 : Int32))), .val (.int bb4), .val (.ref ob48), .val (.int (0 : Int32)), .val (.int (1 : Int32)), .val (.int (1 : Int32)), .val (.int (0 : Int32))] [(.int (0 : Int32))]) rfl ?_
              refine ok_iload G at_246 rfl ?_
              refine ok_icmpneN G at_248 (by decide) ?_
              refine ok_iconst G (1 : Int32) at_251 rfl ?_
              refine ok_goto G 256 at_252 (by decide) (by decide) ?_
              exact ok_retN G rfl (by simp) at_256 rfl rfl (Nat.le_of_ble_eq_true rfl) (Nat.le_of_ble_eq_true rfl)
      · skip
        refine ok_new G (C.w1) (C.w2) (C.w3) at_76 (Nat.le_of_ble_eq_true rfl) (Nat.le_of_ble_eq_true rfl) ?_
        intro hp73 ob72 eq_ob72 K74 g_ob72 lb_ob72 E_ob72 D_ob72
        have F_ob72_value : Fld Z hp73 ob72 "java/lang/String" "value" "[B" .null := D_ob72 _ _ _ (.array .byte) (Or.inr (C.w17)) (by decide)
        have F_ob72_coder : Fld Z hp73 ob72 "java/lang/String" "coder" "B" (.int (0 : Int32)) := D_ob72 _ _ _ .byte (Or.inr (C.w18)) (by decide)
        refine ok_dup G at_79 rfl ?_
        refine ok_iconst G (1 : Int32) at_80 rfl ?_
        refine ok_newP G (aty := .char) (C.w4) at_81 (by decide) 1 (by decide) (by decide) (Nat.le_of_ble_eq_true rfl) (Nat.le_of_ble_eq_true rfl) ?_
        intro hp76 ob75 k_ob75 eq_ob75 K77 g_ob75 lb_ob75 V_ob75
        have ne_ob72_ob75 : ob72 ≠ ob75 := Nat.ne_of_lt (Nat.lt_of_lt_of_le E_ob72.lt (Nat.le_of_eq eq_ob75.symm))
        replace E_ob72 := E_ob72.keep K77
        replace F_ob72_value := F_ob72_value.keep K77 nin0
        replace F_ob72_coder := F_ob72_coder.keep K77 nin0
        replace V_ob75 : Arv Z hp76 ob75 k_ob75 .char (1 : Int32) [(.int (0 : Int32))] (.int (0 : Int32)) := V_ob75.pad (pad_rep [] (.int (0 : Int32)) 1)
        refine ok_dup G at_83 rfl ?_
        refine ok_iconst G (0 : Int32) at_84 rfl ?_
        refine ok_iload G at_85 rfl ?_
        refine ok_castore G chr1 0 V_ob75 ⟨by decide, by decide⟩ rfl (Nat.le_of_ble_eq_true rfl) (Chr.nar lchr1) at_87 g_ob75 (Or.inr lb_ob75) (SafeFor.mem (List.mem_of_getElem? (i := 0) rfl)) ?_
        intro hp78 K79 Vn
        replace E_ob72 := E_ob72.keep K79
        replace F_ob72_value := F_ob72_value.keep K79 (ninS ne_ob72_ob75 nin0)
        replace F_ob72_coder := F_ob72_coder.keep K79 (ninS ne_ob72_ob75 nin0)
        replace V_ob75 : Arv Z hp78 ob75 k_ob75 .char (1 : Int32) [(.int chr1)] (.int (0 : Int32)) := Vn
        clear Vn
        refine ok_old (fun hO_hp78 => ?_)
        refine ok_init G (a := ob72) (argsL := [(.ref ob75)]) (rest := [(.ref ob72)]) rfl (C.w5) (C.w6) (C.w3) (C.w7) (by decide) pd18 (d_init1 (cs := [chr1]) C hO_hp78 E_ob72 F_ob72_value F_ob72_coder g_ob72 V_ob75 (Nat.le_of_ble_eq_true rfl) (Nat.le_of_ble_eq_true rfl) (allL lchr1 (fun _ q => nomatch q)) ne_ob72_ob75) rfl rfl rfl at_88 (Nat.le_of_ble_eq_true rfl) (Nat.le_of_ble_eq_true rfl) (Nat.le_of_ble_eq_true rfl) (Nat.le_of_ble_eq_true rfl) (allS ⟨(Or.inr lb_ob72), (SafeFor.mem (List.mem_of_getElem? (i := 1) rfl))⟩ (fun _ q => nomatch q)) ?_
        rintro _ hp81 K82 ⟨rfl, tr80, S_ob72⟩
        replace E_ob72 := E_ob72.keep K82
        replace V_ob75 := V_ob75.keep K82 (ninS (Ne.symm ne_ob72_ob75) nin0)
        refine ok_as (mkF m 91 #[.val (.int len), .val (.int a), .val (.int b), .val (.int c'), .val (.int chr1), .val (.int chr2), .val (.int chr3), .val (.int (len &&& (3 : Int32))), .val (.int bb4), .unset, .unset, .unset, .unset, .unset] [(.ref ob72)]) rfl ?_
        refine ok_astore G #[.val (.int len), .val (.int a), .val (.int b), .val (.int c'), .val (.int chr1), .val (.int chr2), .val (.int chr3), .val (.int (len &&& (3 : Int32))), .val (.int bb4), .val (.ref ob72), .unset, .unset, .unset, .unset] at_91 rfl rfl ?_
        refine ok_goto G 154 at_93 (by decide) (by decide) ?_
        refine ok_iload G at_154 rfl ?_
        refine ok_ifeqY G 165 at_156 (by decide) (by decide) cq6 ?_
        refine ok_iload G at_165 rfl ?_
        refine ok_iconst G (1 : Int32) at_167 rfl ?_
        refine ok_icmpltN G at_168 (by rw [cq8]; decide) ?_
        refine ok_iload G at_171 rfl ?_
        refine ok_ifne G 180 at_173 (by decide) (by decide) (fun cq83 => ?_) (fun cq83 => ?_)
        · skip
          refine ok_iconst G (0 : Int32) at_180 rfl ?_
          refine ok_istore G #[.val (.int len), .val (.int a), .val (.int b), .val (.int c'), .val (.int chr1), .val (.int chr2), .val (.int chr3), .val (.int (len &&& (3 : Int32))), .val (.int bb4), .val (.ref ob72), .unset, .val (.int (0 : Int32)), .unset, .unset] at_181 rfl ?_
          refine ok_iload G at_183 rfl ?_
          refine ok_iconst G (2 : Int32) at_185 rfl ?_
          refine ok_icmpltY G 198 at_186 (by decide) (by decide) (by rw [cq8]; decide) ?_
          refine ok_iconst G (0 : Int32) at_198 rfl ?_
          refine ok_istore G #[.val (.int len), .val (.int a), .val (.int b), .val (.int c'), .val (.int chr1), .val (.int chr2), .val (.int chr3), .val (.int (len &&& (3 : Int32))), .val (.int bb4), .val (.ref ob72), .unset, .val (.int (0 : Int32)), .val (.int (0 : Int32)), .unset] at_199 rfl ?_
          refine ok_iload G at_201 rfl ?_
          refine ok_iconst G (3 : Int32) at_203 rfl ?_
          refine ok_icmpltY G 216 at_204 (by decide) (by decide) (by rw [cq8]; decide) ?_
          refine ok_iconst G (0 : Int32) at_216 rfl ?_
          refine ok_istore G #[.val (.int len), .val (.int a), .val (.int b), .val (.int c'), .val (.int chr1), .val (.int chr2), .val (.int chr3), .val (.int (len &&& (3 : Int32))), .val (.int bb4), .val (.ref ob72), .unset, .val (.int (0 : Int32)), .val (.int (0 : Int32)), .val (.int (0 : Int32))] at_217 rfl ?_
          refine ok_iload G at_219 rfl ?_
          refine ok_ifneN G at_221 (by decide) ?_
          refine ok_iload G at_224 rfl ?_
          refine ok_ifneN G at_226 (by decide) ?_
          refine ok_iload G at_229 rfl ?_
          refine ok_ifneN G at_231 (by decide) ?_
          refine ok_iconst G (1 : Int32) at_234 rfl ?_
          refine ok_goto G 239 at_235 (by decide) (by decide) ?_
          refine ok_istore G #[.val (.int len), .val (.int a), .val (.int b), .val (.int c'), .val (.int chr1), .val (.int chr2), .val (.int chr3), .val (.int (len &&& (3 : Int32))), .val (.int bb4), .val (.ref ob72), .val (.int (1 : Int32)), .val (.int (0 : Int32)), .val (.int (0 : Int32)), .val (.int (0 : Int32))] at_239 rfl ?_
          refine ok_aload G at_241 rfl rfl ?_
          refine ok_old (fun hO_hp81 => ?_)
          refine ok_static G (argsL := [(.ref ob72)]) (rest := []) (C.w23) (C.w24) (C.w25) (C.w26) (by decide) pd19 (c_ck_y C hO_hp81 S_ob72 (allL cq83 (fun _ q => nomatch q))) rfl rfl rfl at_243 (Nat.le_of_ble_eq_true rfl) (Nat.le_of_ble_eq_true rfl) (Nat.le_of_ble_eq_true rfl) (Nat.le_of_ble_eq_true rfl) (fun _ q => nomatch q) ?_
          rintro _ _ _ ⟨rfl, rfl⟩
          refine ok_as (mkF m 246 #[.val (.int len), .val (.int a), .val (.int b), .val (.int c'), .val (.int chr1), .val (.int chr2), .val (.int chr3), .val (.int (len &&& (3 : Int32))), .val (.int bb4), .val (.ref ob72), .val (.int (1 : Int32)), .val (.int (0 : Int32)), .val (.int (0 : Int32)), .val (.int (0 : Int32))] [(.int (1 : Int32))]) rfl ?_
          refine ok_iload G at_246 rfl ?_
          refine ok_icmpneN G at_248 (by decide) ?_
          refine ok_iconst G (1 : Int32) at_251 rfl ?_
          refine ok_goto G 256 at_252 (by decide) (by decide) ?_
          exact ok_retN G rfl (by simp) at_256 rfl rfl (Nat.le_of_ble_eq_true rfl) (Nat.le_of_ble_eq_true rfl)
        · skip
          refine ok_iconst G (1 : Int32) at_176 rfl ?_
          refine ok_goto G 181 at_177 (by decide) (by decide) ?_
          refine ok_istore G #[.val (.int len), .val (.int a), .val (.int b), .val (.int c'), .val (.int chr1), .val (.int chr2), .val (.int chr3), .val (.int (len &&& (3 : Int32))), .val (.int bb4), .val (.ref ob72), .unset, .val (.int (1 : Int32)), .unset, .unset] at_181 rfl ?_
          refine ok_iload G at_183 rfl ?_
          refine ok_iconst G (2 : Int32) at_185 rfl ?_
          refine ok_icmpltY G 198 at_186 (by decide) (by decide) (by rw [cq8]; decide) ?_
          refine ok_iconst G (0 : Int32) at_198 rfl ?_
          refine ok_istore G #[.val (.int len), .val (.int a), .val (.int b), .val (.int c'), .val (.int chr1), .val (.int chr2), .val (.int chr3), .val (.int (len &&& (3 : Int32))), .val (.int bb4), .val (.ref ob72), .unset, .val (.int (1 : Int32)), .val (.int (0 : Int32)), .unset] at_199 rfl ?_
          refine ok_iload G at_201 rfl ?_
          refine ok_iconst G (3 : Int32) at_203 rfl ?_
          refine ok_icmpltY G 216 at_204 (by decide) (by decide) (by rw [cq8]; decide) ?_
          refine ok_iconst G (0 : Int32) at_216 rfl ?_
          refine ok_istore G #[.val (.int len), .val (.int a), .val (.int b), .val (.int c'), .val (.int chr1), .val (.int chr2), .val (.int chr3), .val (.int (len &&& (3 : Int32))), .val (.int bb4), .val (.ref ob72), .unset, .val (.int (1 : Int32)), .val (.int (0 : Int32)), .val (.int (0 : Int32))] at_217 rfl ?_
          refine ok_iload G at_219 rfl ?_
          refine ok_ifneY G 238 at_221 (by decide) (by decide) (by decide) ?_
          refine ok_iconst G (0 : Int32) at_238 rfl ?_
          refine ok_istore G #[.val (.int len), .val (.int a), .val (.int b), .val (.int c'), .val (.int chr1), .val (.int chr2), .val (.int chr3), .val (.int (len &&& (3 : Int32))), .val (.int bb4), .val (.ref ob72), .val (.int (0 : Int32)), .val (.int (1 : Int32)), .val (.int (0 : Int32)), .val (.int (0 : Int32))] at_239 rfl ?_
          refine ok_aload G at_241 rfl rfl ?_
          refine ok_old (fun hO_hp81 => ?_)
          refine ok_static G (argsL := [(.ref ob72)]) (rest := []) (C.w23) (C.w24) (C.w25) (C.w26) (by decide) pd19 (c_ck_z C hO_hp81 S_ob72 (own_in0 cq83)) rfl rfl rfl at_243 (Nat.le_of_ble_eq_true rfl) (Nat.le_of_ble_eq_true rfl) (Nat.le_of_ble_eq_true rfl) (Nat.le_of_ble_eq_true rfl) (fun _ q => nomatch q) ?_
          rintro _ _ _ ⟨rfl, rfl⟩
          refine ok_as (mkF m 246 #[.val (.int len), .val (.int a), .val (.int b), .val (.int c'), .val (.int chr1), .val (.int chr2), .val (.int chr3), .val (.int (len &&& (3 : Int32))), .val (.int bb4), .val (.ref ob72), .val (.int (0 : Int32)), .val (.int (1 : Int32)), .val (.int (0 : Int32)), .val (.int (0 : Int32))] [(.int (0 : Int32))]) rfl ?_
          refine ok_iload G at_246 rfl ?_
          refine ok_icmpneN G at_248 (by decide) ?_
          refine ok_iconst G (1 : Int32) at_251 rfl ?_
          refine ok_goto G 256 at_252 (by decide) (by decide) ?_
          exact ok_retN G rfl (by simp) at_256 rfl rfl (Nat.le_of_ble_eq_true rfl) (Nat.le_of_ble_eq_true rfl)
    · skip
      refine ok_new G (C.w1) (C.w2) (C.w3) at_55 (Nat.le_of_ble_eq_true rfl) (Nat.le_of_ble_eq_true rfl) ?_
      intro hp89 ob88 eq_ob88 K90 g_ob88 lb_ob88 E_ob88 D_ob88
      have F_ob88_value : Fld Z hp89 ob88 "java/lang/String" "value" "[B" .null := D_ob88 _ _ _ (.array .byte) (Or.inr (C.w17)) (by decide)
      have F_ob88_coder : Fld Z hp89 ob88 "java/lang/String" "coder" "B" (.int (0 : Int32)) := D_ob88 _ _ _ .byte (Or.inr (C.w18)) (by decide)
      refine ok_dup G at_58 rfl ?_
      refine ok_iconst G (0 : Int32) at_59 rfl ?_
      refine ok_newP G (aty := .char) (C.w4) at_60 (by decide) 0 (by decide) (by decide) (Nat.le_of_ble_eq_true rfl) (Nat.le_of_ble_eq_true rfl) ?_
      intro hp92 ob91 k_ob91 eq_ob91 K93 g_ob91 lb_ob91 V_ob91
      have ne_ob88_ob91 : ob88 ≠ ob91 := Nat.ne_of_lt (Nat.lt_of_lt_of_le E_ob88.lt (Nat.le_of_eq eq_ob91.symm))
      replace E_ob88 := E_ob88.keep K93
      replace F_ob88_value := F_ob88_value.keep K93 nin0
      replace F_ob88_coder := F_ob88_coder.keep K93 nin0
      replace V_ob91 : Arv Z hp92 ob91 k_ob91 .char (0 : Int32) [] (.int (0 : Int32)) := V_ob91.pad (pad_rep [] (.int (0 : Int32)) 0)
      refine ok_old (fun hO_hp92 => ?_)
      refine ok_initW G (a := ob88) (argsL := [(.ref ob91)]) (rest := [(.ref ob88)]) rfl (C.w5) (C.w6) (C.w3) (C.w7) (by decide) pd18 (c_init1e C hO_hp92 hE E_ob88 F_ob88_value F_ob88_coder g_ob88 V_ob91 ne_ob88_ob91) rfl rfl rfl at_62 (Nat.le_of_ble_eq_true rfl) (Nat.le_of_ble_eq_true rfl) (Nat.le_of_ble_eq_true rfl) (Nat.le_of_ble_eq_true rfl) rfl (allS (Or.inr lb_ob88) (fun _ q => nomatch q)) ?_
      rintro _ hp95 K96 ⟨rfl, tr94, S_ob88⟩
      replace E_ob88 := E_ob88.keep K96
      replace V_ob91 := V_ob91.keep K96 (ninS (Ne.symm ne_ob88_ob91) nin0)
      refine ok_as (mkF m 65 #[.val (.int len), .val (.int a), .val (.int b), .val (.int c'), .val (.int chr1), .val (.int chr2), .val (.int chr3), .val (.int (len &&& (3 : Int32))), .val (.int bb4), .unset, .unset, .unset, .unset, .unset] [(.ref ob88)]) rfl ?_
      refine ok_astore G #[.val (.int len), .val (.int a), .val (.int b), .val (.int c'), .val (.int chr1), .val (.int chr2), .val (.int chr3), .val (.int (len &&& (3 : Int32))), .val (.int bb4), .val (.ref ob88), .unset, .unset, .unset, .unset] at_65 rfl rfl ?_
      refine ok_goto G 154 at_67 (by decide) (by decide) ?_
      refine ok_iload G at_154 rfl ?_
      refine ok_ifeqY G 165 at_156 (by decide) (by decide) cq6 ?_
      refine ok_iload G at_165 rfl ?_
      refine ok_iconst G (1 : Int32) at_167 rfl ?_
      refine ok_icmpltY G 180 at_168 (by decide) (by decide) (by rw [cq7]; decide) ?_
      refine ok_iconst G (0 : Int32) at_180 rfl ?_
      refine ok_istore G #[.val (.int len), .val (.int a), .val (.int b), .val (.int c'), .val (.int chr1), .val (.int chr2), .val (.int chr3), .val (.int (len &&& (3 : Int32))), .val (.int bb4), .val (.ref ob88), .unset, .val (.int (0 : Int32)), .unset, .unset] at_181 rfl ?_
      refine ok_iload G at_183 rfl ?_
      refine ok_iconst G (2 : Int32) at_185 rfl ?_
      refine ok_icmpltY G 198 at_186 (by decide) (by decide) (by rw [cq7]; decide) ?_
      refine ok_iconst G (0 : Int32) at_198 rfl ?_
      refine ok_istore G #[.val (.int len), .val (.int a), .val (.int b), .val (.int c'), .val (.int chr1), .val (.int chr2), .val (.int chr3), .val (.int (len &&& (3 : Int32))), .val (.int bb4), .val (.ref ob88), .unset, .val (.int (0 : Int32)), .val (.int (0 : Int32)), .unset] at_199 rfl ?_
      refine ok_iload G at_201 rfl ?_
      refine ok_iconst G (3 : Int32) at_203 rfl ?_
      refine ok_icmpltY G 216 at_204 (by decide) (by decide) (by rw [cq7]; decide) ?_
      refine ok_iconst G (0 : Int32) at_216 rfl ?_
      refine ok_istore G #[.val (.int len), .val (.int a), .val (.int b), .val (.int c'), .val (.int chr1), .val (.int chr2), .val (.int chr3), .val (.int (len &&& (3 : Int32))), .val (.int bb4), .val (.ref ob88), .unset, .val (.int (0 : Int32)), .val (.int (0 : Int32)), .val (.int (0 : Int32))] at_217 rfl ?_
      refine ok_iload G at_219 rfl ?_
      refine ok_ifneN G at_221 (by decide) ?_
      refine ok_iload G at_224 rfl ?_
      refine ok_ifneN G at_226 (by decide) ?_
      refine ok_iload G at_229 rfl ?_
      refine ok_ifneN G at_231 (by decide) ?_
      refine ok_iconst G (1 : Int32) at_234 rfl ?_
      refine ok_goto G 239 at_235 (by decide) (by decide) ?_
      refine ok_istore G #[.val (.int len), .val (.int a), .val (.int b), .val (.int c'), .val (.int chr1), .val (.int chr2), .val (.int chr3), .val (.int (len &&& (3 : Int32))), .val (.int bb4), .val (.ref ob88), .val (.int (1 : Int32)), .val (.int (0 : Int32)), .val (.int (0 : Int32)), .val (.int (0 : Int32))] at_239 rfl ?_
      refine ok_aload G at_241 rfl rfl ?_
      refine ok_old (fun hO_hp95 => ?_)
      refine ok_static G (argsL := [(.ref ob88)]) (rest := []) (C.w23) (C.w24) (C.w25) (C.w26) (by decide) pd19 (c_ck_y C hO_hp95 (Or.inl ⟨S_ob88, (Nat.le_of_ble_eq_true rfl)⟩) (fun _ q => nomatch q)) rfl rfl rfl at_243 (Nat.le_of_ble_eq_true rfl) (Nat.le_of_ble_eq_true rfl) (Nat.le_of_ble_eq_true rfl) (Nat.le_of_ble_eq_true rfl) (fun _ q => nomatch q) ?_
      rintro _ _ _ ⟨rfl, rfl⟩
      refine ok_as (mkF m 246 #[.val (.int len), .val (.int a), .val (.int b), .val (.int c'), .val (.int chr1), .val (.int chr2), .val (.int chr3), .val (.int (len &&& (3 : Int32))), .val (.int bb4), .val (.ref ob88), .val (.int (1 : Int32)), .val (.int (0 : Int32)), .val (.int (0 : Int32)), .val (.int (0 : Int32))] [(.int (1 : Int32))]) rfl ?_
      refine ok_iload G at_246 rfl ?_
      refine ok_icmpneN G at_248 (by decide) ?_
      refine ok_iconst G (1 : Int32) at_251 rfl ?_
      refine ok_goto G 256 at_252 (by decide) (by decide) ?_
      exact ok_retN G rfl (by simp) at_256 rfl rfl (Nat.le_of_ble_eq_true rfl) (Nat.le_of_ble_eq_true rfl)
  · skip
    refine ok_aconst_null G at_44 ?_
    refine ok_astore G #[.val (.int len), .val (.int a), .val (.int b), .val (.int c'), .val (.int chr1), .val (.int chr2), .val (.int chr3), .val (.int (len &&& (3 : Int32))), .val (.int bb4), .val .null, .unset, .unset, .unset, .unset] at_45 rfl rfl ?_
    refine ok_goto G 154 at_47 (by decide) (by decide) ?_
    refine ok_iload G at_154 rfl ?_
    refine ok_ifeqN G at_156 cq6 ?_
    refine ok_iconst G (1 : Int32) at_159 rfl ?_
    refine ok_istore G #[.val (.int len), .val (.int a), .val (.int b), .val (.int c'), .val (.int chr1), .val (.int chr2), .val (.int chr3), .val (.int (len &&& (3 : Int32))), .val (.int bb4), .val .null, .val (.int (1 : Int32)), .unset, .unset, .unset] at_160 rfl ?_
    refine ok_goto G 241 at_162 (by decide) (by decide) ?_
    refine ok_aload G at_241 rfl rfl ?_
    refine ok_static G (argsL := [.null]) (rest := []) (C.w23) (C.w24) (C.w25) (C.w26) (by decide) pd19 (c_ck_n C hO) rfl rfl rfl at_243 (Nat.le_of_ble_eq_true rfl) (Nat.le_of_ble_eq_true rfl) (Nat.le_of_ble_eq_true rfl) (Nat.le_of_ble_eq_true rfl) (fun _ q => nomatch q) ?_
    rintro _ _ _ ⟨rfl, rfl⟩
    refine ok_as (mkF m 246 #[.val (.int len), .val (.int a), .val (.int b), .val (.int c'), .val (.int chr1), .val (.int chr2), .val (.int chr3), .val (.int (len &&& (3 : Int32))), .val (.int bb4), .val .null, .val (.int (1 : Int32)), .unset, .unset, .unset] [(.int (1 : Int32))]) rfl ?_
    refine ok_iload G at_246 rfl ?_
    refine ok_icmpneN G at_248 (by decide) ?_
    refine ok_iconst G (1 : Int32) at_251 rfl ?_
    refine ok_goto G 256 at_252 (by decide) (by decide) ?_
    exact ok_retN G rfl (by simp) at_256 rfl rfl (Nat.le_of_ble_eq_true rfl) (Nat.le_of_ble_eq_true rfl)
theorem own_ord {args : Array Value} {s : State} {t : Term} {x : Addr} {k : Int32} {C n d : String} (ht : t.eval args s none [] s = some (.ref x)) (h : (Jvm.Cond.eq (Term.field t C n d) (Term.int k)).value args s none s [] = some true) : s.fieldOf? x C n d = some (.int k) := by
  rw [← fld_at (first := s) (o := none) (idx := []) (args := args) ht]
  have e2 : (Term.int k).eval args s none [] s = some (.int k) := rfl
  cases he : (Term.field t C n d).eval args s none [] s with
  | none => simp [Cond.value, he] at h
  | some v => cases v <;> simp [Cond.value, he, e2] at h ⊢ <;> first | exact h | (cases h)
theorem own_compact {args : Array Value} {s : State} (hsets : ∀ w ∈ jdkStatics_1, w.before args s = true) : ∃ cz : Int32, Sta s s.heap "java/lang/String" "COMPACT_STRINGS" "Z" (.int cz) ∧ ¬ cz = 0 := by
  have h0 := hsets _ (List.mem_of_getElem? (i := 0) rfl)
  obtain ⟨cz, ez⟩ := is_v (Cond.before_iff.mp (hsets _ (List.mem_of_getElem? (i := 1) rfl)))
  have h2 := not_v (Cond.before_iff.mp (hsets _ (List.mem_of_getElem? (i := 2) rfl)))
  refine ⟨cz, Sta.start ez (Or.inl h0), fun q => ?_⟩
  subst q
  have e2 : (Term.int 0).eval args s none [] s = some (.int 0) := rfl
  simp [Cond.value, ez, e2] at h2
theorem own_sio {args : Array Value} {s : State} (hsets : ∀ w ∈ jdkStatics_1, w.before args s = true) : ∃ fm : Value, Sta s s.heap "jdk/internal/util/Preconditions" "SIOOBE_FORMATTER" "Ljava/util/function/BiFunction;" fm ∧ (fm = .null ∨ ∃ fa, fm = .ref fa) := by
  obtain ⟨fm, e1, e2⟩ := isR_v (Cond.before_iff.mp (hsets _ (List.mem_of_getElem? (i := 8) rfl)))
  exact ⟨fm, Sta.start e1 (Or.inl (hsets _ (List.mem_of_getElem? (i := 7) rfl))), ref_cases e2⟩
theorem own_stv {args : Array Value} {s : State} {C n d : String} {k : Int32} (h : (Jvm.Cond.eq (Term.static C n d) (Term.int k)).before args s = true) (hi : (Jvm.Cond.initializedFor C n d).before args s = true) : Sta s s.heap C n d (.int k) := by
  have h := Cond.before_iff.mp h
  refine Sta.start ?_ (Or.inl hi)
  have e2 : (Term.int k).eval args s none [] s = some (.int k) := rfl
  cases he : (Term.static C n d).eval args s none [] s with
  | none => simp [Cond.value, he] at h
  | some v => cases v <;> simp [Cond.value, he, e2] at h ⊢ <;> first | exact h | (cases h)
theorem own_u16 {args : Array Value} {Z : State} (hsets : ∀ w ∈ jdkStatics_1, w.before args Z = true) : (Sta Z Z.heap "java/lang/StringUTF16" "$assertionsDisabled" "Z" (.int 1) ∧ Sta Z Z.heap "java/lang/StringUTF16" "HI_BYTE_SHIFT" "I" (.int 0) ∧ Sta Z Z.heap "java/lang/StringUTF16" "LO_BYTE_SHIFT" "I" (.int 8)) :=
  ⟨own_stv (hsets _ (List.mem_of_getElem? (i := 12) rfl)) (hsets _ (List.mem_of_getElem? (i := 11) rfl)), own_stv (hsets _ (List.mem_of_getElem? (i := 15) rfl)) (hsets _ (List.mem_of_getElem? (i := 14) rfl)), own_stv (hsets _ (List.mem_of_getElem? (i := 18) rfl)) (hsets _ (List.mem_of_getElem? (i := 17) rfl))⟩
set_option maxRecDepth 65536 in
set_option maxHeartbeats 40000000 in
theorem comes_1 {Post : Tables → Env → Array Value → State → Outcome → State → Prop} (hpost : ∀ tb e args s v u, (limb_1_1.after args s (.returned v) u = true ∧ limb_1_2.after args s (.returned v) u = true ∧ True) → Jvm.D.FramedW s (.returned v) u (Jvm.fieldLocs frame_1_writes args s ++ Jvm.arrayLocs frame_1_arrays args s ++ Jvm.staticLocs frame_1_statics s) 24 1152 → Post tb e args s (.returned v) u) :
    ArmFor flags0 classFile x code maxLocals ret World_1 tables_1 room_1 Calls_1 rest_1 Pre_1 Post := by
  intro l hfl _ _ p e ha hc hk s m args below hf hA hF happ hP
  obtain ⟨hcalls, hrest, hpre⟩ := hP
  obtain ⟨-, -, -, hnamed, -, -, -, hat⟩ := (Spec.applies_iff hf).mp happ
  obtain ⟨hg, hn⟩ := and_e (Cond.before_iff.mp (show (Jvm.Cond.and given_1 narrow_1).before args s = true from hpre))
  obtain ⟨gv1, gv2⟩ := and_e hg
  obtain ⟨gv3, gv4⟩ := and_e gv2
  obtain ⟨gv5, gv6⟩ := and_e gv4
  obtain ⟨gv7, gv8⟩ := and_e gv6
  obtain ⟨w0, w1, w2, w3, rfl⟩ : ∃ w0 w1 w2 w3 : Value, args = #[w0, w1, w2, w3] := by
    have hs : args.size = 4 := by simpa [Cond.value, given_1] using gv1
    obtain ⟨L⟩ := args
    match L, hs with
    | [w0, w1, w2, w3], _ => exact ⟨w0, w1, w2, w3, rfl⟩
  have hw := fun d (hd : d ∈ tables_1) => atoms_spec (ws := Jvm.Cond.code x code maxLocals ret :: tables_1) hat d (List.mem_cons_of_mem _ hd)
  obtain ⟨hsets, hown0⟩ := atoms_of _ (rest_1_c_eq ▸ (show rest_1_c.before _ s = true from hrest))
  obtain ⟨i0, ei0⟩ := is_v gv3
  obtain rfl : w0 = (.int i0) := Option.some.inj ei0
  obtain ⟨i1, ei1⟩ := is_v gv5
  obtain rfl : w1 = (.int i1) := Option.some.inj ei1
  obtain ⟨i2, ei2⟩ := is_v gv7
  obtain rfl : w2 = (.int i2) := Option.some.inj ei2
  obtain ⟨i3, ei3⟩ := is_v gv8
  obtain rfl : w3 = (.int i3) := Option.some.inj ei3
  have O := Old.start s
  have hcz := own_compact hsets
  have hsio := own_sio hsets
  have hu16 := own_u16 hsets
  have hE : EW s #[(.int i0), (.int i1), (.int i2), (.int i3)] consts_1 := (EW.cons (hw _ (List.mem_of_getElem? (i := 15) rfl)) (by decide) EW.nil)
  have hCH : CHv s consts_1 s.vm s.heap := CHv.start hE hcalls.1 (hsets _ (List.mem_of_getElem? (i := 2) rfl)) (hw _ (List.mem_of_getElem? (i := 16) rfl)) (hw _ (List.mem_of_getElem? (i := 2) rfl))
  obtain ⟨n, o, h1, h2, h3, _, L, rfl, ⟨N, -, -, rfl⟩, hq⟩ := c_law (n0 := s.heap.size) ⟨hw, hcz, hsio, hu16⟩ O hE tables_1 p e ha hc hk s m _ below hf ((Spec.applies_iff_loose hf).mp happ).1 ⟨rfl, State.Warmed39.refl s, rfl, fun _ => hCH⟩ trivial
  refine ⟨n, _, h1, h2, h3, hpost _ _ _ _ _ _ ⟨Cond.after_iff.mpr rfl, Cond.after_iff.mpr (eq_i res_at (Term.int_eval (1)) rfl), trivial⟩ ⟨hq.2.1, hq.2.2.1, hq.2.2.2.1, (hq.2.2.2.2.sift fun y hy => Or.inr (N y hy)).mono (Nat.le_of_ble_eq_true rfl) (Nat.le_of_ble_eq_true rfl)⟩⟩
theorem main_1_1 : Claimed_1_1 := comes_1 fun _ _ _ _ _ _ h hF => ⟨h.1, hF⟩
theorem main_1_2 : Claimed_1_2 := comes_1 fun _ _ _ _ _ _ h hF => ⟨h.2.1, hF⟩
end Jvm.Pilot.@@N@@
namespace Jvm.Pilot.@@N@@
open Jvm Jvm.ClassFile Sem Op Lib Jvm.Free Jvm.Stand Jvm.Pilot.@@N@@.Jvm.D
/-! MADE BY PROGRAM (witnessworld.py) out of the Statement's table words and the real class files: 21 classes; the members and pool entries that the words name. The judged class is class 1, her method 1. -/
namespace start1
open Jvm.ClassFile
def u (s : String) : CpInfo := .utf8 (stringToUtf16 s)
/-- a pool by its gaps: so many unusable entries, then the entry; so many at the end -/
def gap : Nat → List CpInfo → List CpInfo
  | 0, r => r
  | n + 1, r => .unusable :: gap n r
def poolList (es : List (Nat × CpInfo)) (last : Nat) : List CpInfo := es.foldr (fun e r => gap e.1 (e.2 :: r)) (gap last [])
def pool (es : List (Nat × CpInfo)) (last : Nat) : Array CpInfo := ⟨poolList es last⟩
def fileOf (pool : Array CpInfo) (this : Nat) (attrs : Array Attribute := #[]) (ms : Array MethodInfo := #[]) (fl : Nat := 33) (sup : Nat := 0) (ifs : Array Nat := #[]) (fds : Array FieldInfo := #[]) : ClassFile where
  minorVersion := 0
  majorVersion := 65
  constantPool := pool
  accessFlags := fl
  thisClass := this
  superClass := sup
  interfaces := ifs
  fields := fds
  methods := ms
  attributes := attrs
def plain (name : String) (sup : Option ClassId) : Class where
  name := name
  kind := .ordinary
  loader := none
  accessFlags := 33
  super := sup
  interfaces := #[]
  cf := none
  fields := #[]
  methods := #[]
  instanceTypes := #[]
  staticTypes := #[]
  resolved := #[]
  callSites := []
  init := .initialized
  statics := none
  mirror := none

def pool0 : Array CpInfo := pool [(5, u "<init>"), (0, u "()V"), (1, .class_ 10), (1, u "java/lang/Object")] 113

def k0c0 : Code := { maxStack := 0, maxLocals := 1, code := object_method_1_code, exceptionTable := #[], attributes := #[] }
def k0m0 : Method := { name := "<init>", desc := "()V", sig := { parameters := [], returnType := none }, accessFlags := 1, code := some k0c0 }
/-- java/lang/Object -/
def k0 : Class := { plain "java/lang/Object" none with
  accessFlags := 33
  interfaces := #[]
  cf := some (fileOf pool0 8 #[] #[{ accessFlags := 1, nameIndex := 5, descriptorIndex := 6, attributes := #[] }] 33 0 #[] #[])
  fields := #[]
  methods := #[k0m0]
  instanceTypes := #[]
  staticTypes := #[]
  resolved := Array.replicate 124 none
  statics := none }

def pool1 : Array CpInfo := pool [(2, .class_ 4), (1, u "java/lang/Object"), (0, u "<init>"), (0, u "()V"), (0, .integer 65535), (0, .class_ 9), (0, u "java/lang/String"), (0, .methodref 8 11), (0, .nameAndType 5 12), (0, u "([C)V"), (0, .methodref 14 15), (0, .class_ 16), (0, .nameAndType 17 18), (0, u "com/example/knot1/knot1/core/KeptTexts"), (0, u "canKeep"), (0, u "(Ljava/lang/String;)Z"), (0, .class_ 20), (0, u "com/example/knot1/knot1/core/KeptTextsCanKeepPinLaw"), (2, u "law"), (0, u "(IIII)Z")] 3

def k1m0 : Method := { name := "<init>", desc := "()V", sig := { parameters := [], returnType := none }, accessFlags := 2, code := none }
def k1c1 : Code := { maxStack := 6, maxLocals := 14, code := code, exceptionTable := #[], attributes := #[] }
def k1m1 : Method := { name := "law", desc := "(IIII)Z", sig := { parameters := [.int, .int, .int, .int], returnType := some .boolean }, accessFlags := 9, code := some k1c1 }
/-- com/example/knot1/knot1/core/KeptTextsCanKeepPinLaw -/
def k1 : Class := { plain "com/example/knot1/knot1/core/KeptTextsCanKeepPinLaw" (some 0) with
  accessFlags := 49
  interfaces := #[]
  cf := some (fileOf pool1 19 #[] #[{ accessFlags := 2, nameIndex := 5, descriptorIndex := 6, attributes := #[] }, { accessFlags := 9, nameIndex := 23, descriptorIndex := 24, attributes := #[] }] 49 2 #[] #[])
  fields := #[]
  methods := #[k1m0, k1m1]
  instanceTypes := #[]
  staticTypes := #[]
  resolved := Array.replicate 28 none
  statics := none }

def pool2 : Array CpInfo := pool [(1, .class_ 2), (0, u "java/io/Serializable"), (0, .class_ 4), (0, u "java/lang/Object")] 2

/-- java/io/Serializable -/
def k2 : Class := { plain "java/io/Serializable" (some 0) with
  accessFlags := 1537
  interfaces := #[]
  cf := some (fileOf pool2 1 #[] #[] 1537 3 #[] #[])
  fields := #[]
  methods := #[]
  instanceTypes := #[]
  staticTypes := #[]
  resolved := Array.replicate 7 none
  statics := none }

def pool3 : Array CpInfo := pool [(1, .class_ 2), (0, u "java/lang/Comparable"), (0, .class_ 4), (0, u "java/lang/Object")] 7

/-- java/lang/Comparable -/
def k3 : Class := { plain "java/lang/Comparable" (some 0) with
  accessFlags := 1537
  interfaces := #[]
  cf := some (fileOf pool3 1 #[] #[] 1537 3 #[] #[])
  fields := #[]
  methods := #[]
  instanceTypes := #[]
  staticTypes := #[]
  resolved := Array.replicate 12 none
  statics := none }

def pool4 : Array CpInfo := pool [(2, .class_ 4), (1, u "java/lang/CharSequence"), (42, .class_ 48), (0, u "java/lang/CharSequence$1CodePointIterator"), (10, .class_ 60), (0, u "java/lang/CharSequence$1CharIterator"), (5, .class_ 67), (0, u "java/lang/Object")] 63

/-- java/lang/CharSequence -/
def k4 : Class := { plain "java/lang/CharSequence" (some 0) with
  accessFlags := 1537
  interfaces := #[]
  cf := some (fileOf pool4 2 #[.nestMembers #[47, 59]] #[] 1537 66 #[] #[])
  fields := #[]
  methods := #[]
  instanceTypes := #[]
  staticTypes := #[]
  resolved := Array.replicate 131 none
  statics := none }

def pool5 : Array CpInfo := pool [(1, .class_ 2), (0, u "java/lang/constant/Constable"), (0, .class_ 4), (0, u "java/lang/Object")] 6

/-- java/lang/constant/Constable -/
def k5 : Class := { plain "java/lang/constant/Constable" (some 0) with
  accessFlags := 1537
  interfaces := #[]
  cf := some (fileOf pool5 1 #[] #[] 1537 3 #[] #[])
  fields := #[]
  methods := #[]
  instanceTypes := #[]
  staticTypes := #[]
  resolved := Array.replicate 11 none
  statics := none }

def pool6 : Array CpInfo := pool [(1, .class_ 2), (0, u "java/lang/constant/ConstantDesc"), (0, .class_ 4), (0, u "java/lang/Object")] 32

/-- java/lang/constant/ConstantDesc -/
def k6 : Class := { plain "java/lang/constant/ConstantDesc" (some 0) with
  accessFlags := 1537
  interfaces := #[]
  cf := some (fileOf pool6 1 #[] #[] 1537 3 #[] #[])
  fields := #[]
  methods := #[]
  instanceTypes := #[]
  staticTypes := #[]
  resolved := Array.replicate 37 none
  statics := none }

def pool7 : Array CpInfo := pool [(1, .methodref 2 3), (0, .class_ 4), (0, .nameAndType 5 6), (0, u "java/lang/Object"), (0, u "<init>"), (0, u "()V"), (0, .string 8), (0, u ""), (0, .fieldref 10 11), (0, .class_ 12), (0, .nameAndType 13 14), (0, u "java/lang/String"), (0, u "value"), (0, u "[B"), (0, .fieldref 10 16), (0, .nameAndType 17 18), (0, u "coder"), (0, u "B"), (2, u "hash"), (0, u "I"), (2, u "hashIsZero"), (0, u "Z"), (0, .methodref 10 28), (0, .nameAndType 5 29), (0, u "([CIILjava/lang/Void;)V"), (8, .fieldref 10 39), (0, .nameAndType 40 26), (0, u "COMPACT_STRINGS"), (1, .class_ 44), (1, u "java/lang/StringUTF16"), (0, u "compress"), (1, .methodref 42 48), (0, .nameAndType 49 50), (0, u "coderFromArrayLen"), (0, u "([BI)B"), (56, .class_ 109), (1, u "java/lang/StringLatin1"), (32, u "()Z"), (34, .methodref 42 178), (0, .nameAndType 45 179), (0, u "([CII)[B"), (154, u "()I"), (0, .methodref 10 336), (0, .nameAndType 17 337), (0, u "()B"), (154, .methodref 10 493), (0, .nameAndType 494 142), (0, u "isLatin1"), (10, .methodref 10 506), (0, .nameAndType 507 334), (0, u "length"), (5, u "checkFromToIndex"), (9, u "checkBoundsBeginEnd"), (0, u "(III)V"), (50, .class_ 576), (0, u "java/lang/CharSequence"), (22, u "CASE_INSENSITIVE_ORDER"), (0, u "Ljava/util/Comparator;"), (32, .methodref 10 634), (0, .nameAndType 635 636), (0, u "indexOf"), (0, u "(II)I"), (0, .methodref 107 638), (0, .nameAndType 635 639), (0, u "([BIII)I"), (0, .methodref 42 638), (124, u "(I)I"), (244, u "([C)V"), (42, .fieldref 1054 1055), (0, .class_ 1056), (0, .nameAndType 1057 1058), (0, u "jdk/internal/util/Preconditions"), (0, u "SIOOBE_FORMATTER"), (0, u "Ljava/util/function/BiFunction;"), (3, .methodref 1054 1063), (0, .nameAndType 513 1064), (0, u "(IIILjava/util/function/BiFunction;)I"), (36, u "serialPersistentFields"), (0, u "[Ljava/io/ObjectStreamField;"), (0, .class_ 1104), (0, u "java/lang/String$CaseInsensitiveComparator"), (1, .class_ 1107), (0, u "java/io/Serializable"), (0, .class_ 1109), (0, u "java/lang/Comparable"), (0, .class_ 1111), (0, u "java/lang/constant/Constable"), (0, .class_ 1113), (0, u "java/lang/constant/ConstantDesc"), (2, u "serialVersionUID"), (0, u "J"), (3, u "REPL"), (0, u "C"), (2, u "LATIN1"), (1, u "UTF16")] 323

def k7m0 : Method := { name := "<init>", desc := "()V", sig := { parameters := [], returnType := none }, accessFlags := 1, code := none }
def k7c1 : Code := { maxStack := 5, maxLocals := 2, code := jdk_42_method_3_code, exceptionTable := #[], attributes := #[] }
def k7m1 : Method := { name := "<init>", desc := "([C)V", sig := { parameters := [(.array .char)], returnType := none }, accessFlags := 1, code := some k7c1 }
def k7c2 : Code := { maxStack := 2, maxLocals := 1, code := jdk_42_method_54_code, exceptionTable := #[], attributes := #[] }
def k7m2 : Method := { name := "length", desc := "()I", sig := { parameters := [], returnType := some .int }, accessFlags := 1, code := some k7c2 }
def k7c3 : Code := { maxStack := 3, maxLocals := 2, code := jdk_42_method_79_code, exceptionTable := #[], attributes := #[] }
def k7m3 : Method := { name := "indexOf", desc := "(I)I", sig := { parameters := [.int], returnType := some .int }, accessFlags := 1, code := some k7c3 }
def k7c4 : Code := { maxStack := 4, maxLocals := 3, code := jdk_42_method_80_code, exceptionTable := #[], attributes := #[] }
def k7m4 : Method := { name := "indexOf", desc := "(II)I", sig := { parameters := [.int, .int], returnType := some .int }, accessFlags := 1, code := some k7c4 }
def k7c5 : Code := { maxStack := 4, maxLocals := 6, code := jdk_42_method_149_code, exceptionTable := #[], attributes := #[] }
def k7m5 : Method := { name := "<init>", desc := "([CIILjava/lang/Void;)V", sig := { parameters := [(.array .char), .int, .int, (.object "java/lang/Void")], returnType := none }, accessFlags := 2, code := some k7c5 }
def k7c6 : Code := { maxStack := 1, maxLocals := 1, code := jdk_42_method_152_code, exceptionTable := #[], attributes := #[] }
def k7m6 : Method := { name := "coder", desc := "()B", sig := { parameters := [], returnType := some .byte }, accessFlags := 0, code := some k7c6 }
def k7c7 : Code := { maxStack := 1, maxLocals := 1, code := jdk_42_method_154_code, exceptionTable := #[], attributes := #[] }
def k7m7 : Method := { name := "isLatin1", desc := "()Z", sig := { parameters := [], returnType := some .boolean }, accessFlags := 0, code := some k7c7 }
def k7c8 : Code := { maxStack := 4, maxLocals := 3, code := jdk_42_method_158_code, exceptionTable := #[], attributes := #[] }
def k7m8 : Method := { name := "checkBoundsBeginEnd", desc := "(III)V", sig := { parameters := [.int, .int, .int], returnType := none }, accessFlags := 8, code := some k7c8 }
/-- java/lang/String -/
def k7 : Class := { plain "java/lang/String" (some 0) with
  accessFlags := 49
  interfaces := #[2, 3, 4, 5, 6]
  cf := some (fileOf pool7 10 #[.nestMembers #[1103]] #[{ accessFlags := 1, nameIndex := 5, descriptorIndex := 6, attributes := #[] }, { accessFlags := 1, nameIndex := 5, descriptorIndex := 1010, attributes := #[] }, { accessFlags := 1, nameIndex := 507, descriptorIndex := 334, attributes := #[] }, { accessFlags := 1, nameIndex := 635, descriptorIndex := 765, attributes := #[] }, { accessFlags := 1, nameIndex := 635, descriptorIndex := 636, attributes := #[] }, { accessFlags := 2, nameIndex := 5, descriptorIndex := 29, attributes := #[] }, { accessFlags := 0, nameIndex := 17, descriptorIndex := 337, attributes := #[] }, { accessFlags := 0, nameIndex := 494, descriptorIndex := 142, attributes := #[] }, { accessFlags := 8, nameIndex := 523, descriptorIndex := 524, attributes := #[] }] 49 2 #[1106, 1108, 575, 1110, 1112] #[{ accessFlags := 18, nameIndex := 13, descriptorIndex := 14, attributes := #[] }, { accessFlags := 18, nameIndex := 17, descriptorIndex := 18, attributes := #[] }, { accessFlags := 2, nameIndex := 21, descriptorIndex := 22, attributes := #[] }, { accessFlags := 2, nameIndex := 25, descriptorIndex := 26, attributes := #[] }, { accessFlags := 26, nameIndex := 1116, descriptorIndex := 1117, attributes := #[] }, { accessFlags := 24, nameIndex := 40, descriptorIndex := 26, attributes := #[] }, { accessFlags := 26, nameIndex := 1101, descriptorIndex := 1102, attributes := #[] }, { accessFlags := 26, nameIndex := 1121, descriptorIndex := 1122, attributes := #[] }, { accessFlags := 25, nameIndex := 599, descriptorIndex := 600, attributes := #[] }, { accessFlags := 24, nameIndex := 1125, descriptorIndex := 18, attributes := #[] }, { accessFlags := 24, nameIndex := 1127, descriptorIndex := 18, attributes := #[] }])
  fields := #[{ name := "value", type := (.array .byte), accessFlags := 18, slot := 0, constantValue := 0 }, { name := "coder", type := .byte, accessFlags := 18, slot := 1, constantValue := 0 }, { name := "hash", type := .int, accessFlags := 2, slot := 2, constantValue := 0 }, { name := "hashIsZero", type := .boolean, accessFlags := 2, slot := 3, constantValue := 0 }, { name := "serialVersionUID", type := .long, accessFlags := 26, slot := 0, constantValue := 0 }, { name := "COMPACT_STRINGS", type := .boolean, accessFlags := 24, slot := 1, constantValue := 0 }, { name := "serialPersistentFields", type := (.array (.object "java/io/ObjectStreamField")), accessFlags := 26, slot := 2, constantValue := 0 }, { name := "REPL", type := .char, accessFlags := 26, slot := 3, constantValue := 0 }, { name := "CASE_INSENSITIVE_ORDER", type := (.object "java/util/Comparator"), accessFlags := 25, slot := 4, constantValue := 0 }, { name := "LATIN1", type := .byte, accessFlags := 24, slot := 5, constantValue := 0 }, { name := "UTF16", type := .byte, accessFlags := 24, slot := 6, constantValue := 0 }]
  methods := #[k7m0, k7m1, k7m2, k7m3, k7m4, k7m5, k7m6, k7m7, k7m8]
  instanceTypes := #[(.array .byte), .byte, .int, .boolean]
  staticTypes := #[.long, .boolean, (.array (.object "java/io/ObjectStreamField")), .char, (.object "java/util/Comparator"), .byte, .byte]
  resolved := Array.replicate 1451 none
  statics := some 0 }

def pool8 : Array CpInfo := pool [(2, .class_ 4), (1, u "java/lang/Object"), (0, u "<init>"), (0, u "()V"), (0, .class_ 8), (0, u "com/example/knot1/knot1/core/KeptTexts"), (0, .methodref 10 11), (0, .class_ 12), (0, .nameAndType 13 14), (0, u "java/lang/String"), (0, u "indexOf"), (0, u "(I)I"), (0, u "NUL"), (0, u "C"), (4, u "canKeep"), (0, u "(Ljava/lang/String;)Z")] 3

def k8m0 : Method := { name := "<init>", desc := "()V", sig := { parameters := [], returnType := none }, accessFlags := 2, code := none }
def k8c1 : Code := { maxStack := 2, maxLocals := 1, code := prog_3_method_2_code, exceptionTable := #[], attributes := #[] }
def k8m1 : Method := { name := "canKeep", desc := "(Ljava/lang/String;)Z", sig := { parameters := [(.object "java/lang/String")], returnType := some .boolean }, accessFlags := 9, code := some k8c1 }
/-- com/example/knot1/knot1/core/KeptTexts -/
def k8 : Class := { plain "com/example/knot1/knot1/core/KeptTexts" (some 0) with
  accessFlags := 49
  interfaces := #[]
  cf := some (fileOf pool8 7 #[] #[{ accessFlags := 2, nameIndex := 5, descriptorIndex := 6, attributes := #[] }, { accessFlags := 9, nameIndex := 21, descriptorIndex := 22, attributes := #[] }] 49 2 #[] #[{ accessFlags := 26, nameIndex := 15, descriptorIndex := 16, attributes := #[] }])
  fields := #[{ name := "NUL", type := .char, accessFlags := 26, slot := 0, constantValue := 0 }]
  methods := #[k8m0, k8m1]
  instanceTypes := #[]
  staticTypes := #[.char]
  resolved := Array.replicate 26 none
  statics := none }

def pool9 : Array CpInfo := pool [(4, .class_ 6), (1, u "java/lang/Object"), (0, u "<init>"), (0, u "()V"), (5, .class_ 16), (1, u "java/lang/StringLatin1"), (21, .methodref 39 40), (0, .class_ 41), (0, .nameAndType 42 43), (0, u "java/lang/Math"), (0, u "min"), (0, u "(II)I"), (44, .methodref 14 89), (0, .nameAndType 90 91), (0, u "canEncode"), (0, u "(I)Z"), (0, .methodref 39 93), (0, .nameAndType 94 43), (0, u "max"), (0, .methodref 14 96), (0, .nameAndType 97 98), (0, u "indexOfChar"), (0, u "([BIII)I"), (2, u "indexOf"), (19, u "$assertionsDisabled"), (0, u "Z"), (98, .class_ 223), (1, u "java/lang/StringLatin1$LinesSpliterator"), (166, .class_ 391), (0, u "java/lang/StringLatin1$CharsSpliterator")] 3

def k9m0 : Method := { name := "<init>", desc := "()V", sig := { parameters := [], returnType := none }, accessFlags := 0, code := none }
def k9c1 : Code := { maxStack := 2, maxLocals := 1, code := jdk_43_method_4_code, exceptionTable := #[], attributes := #[] }
def k9m1 : Method := { name := "canEncode", desc := "(I)Z", sig := { parameters := [.int], returnType := some .boolean }, accessFlags := 9, code := some k9c1 }
def k9c2 : Code := { maxStack := 4, maxLocals := 4, code := jdk_43_method_22_code, exceptionTable := #[], attributes := #[] }
def k9m2 : Method := { name := "indexOf", desc := "([BIII)I", sig := { parameters := [(.array .byte), .int, .int, .int], returnType := some .int }, accessFlags := 9, code := some k9c2 }
def k9c3 : Code := { maxStack := 2, maxLocals := 6, code := jdk_43_method_23_code, exceptionTable := #[], attributes := #[] }
def k9m3 : Method := { name := "indexOfChar", desc := "([BIII)I", sig := { parameters := [(.array .byte), .int, .int, .int], returnType := some .int }, accessFlags := 10, code := some k9c3 }
/-- java/lang/StringLatin1 -/
def k9 : Class := { plain "java/lang/StringLatin1" (some 0) with
  accessFlags := 48
  interfaces := #[]
  cf := some (fileOf pool9 14 #[.nestMembers #[390, 221]] #[{ accessFlags := 0, nameIndex := 7, descriptorIndex := 8, attributes := #[] }, { accessFlags := 9, nameIndex := 90, descriptorIndex := 91, attributes := #[] }, { accessFlags := 9, nameIndex := 101, descriptorIndex := 98, attributes := #[] }, { accessFlags := 10, nameIndex := 97, descriptorIndex := 98, attributes := #[] }] 48 4 #[] #[{ accessFlags := 4120, nameIndex := 121, descriptorIndex := 122, attributes := #[] }])
  fields := #[{ name := "$assertionsDisabled", type := .boolean, accessFlags := 4120, slot := 0, constantValue := 0 }]
  methods := #[k9m0, k9m1, k9m2, k9m3]
  instanceTypes := #[]
  staticTypes := #[.boolean]
  resolved := Array.replicate 395 none
  statics := none }

def pool10 : Array CpInfo := pool [(1, .class_ 2), (0, u "java/lang/Math"), (1, .class_ 6), (1, u "java/lang/Object"), (0, u "<init>"), (0, u "()V"), (89, .class_ 100), (1, u "java/lang/Math$RandomNumberGeneratorHolder"), (71, u "negativeZeroFloatBits"), (0, u "J"), (2, u "negativeZeroDoubleBits"), (21, u "max"), (2, u "min"), (43, u "$assertionsDisabled"), (0, u "Z"), (88, u "(II)I"), (2, u "twoToTheDoubleScaleDown"), (0, u "D"), (4, u "twoToTheDoubleScaleUp"), (9, u "E"), (3, u "PI"), (2, u "TAU"), (2, u "DEGREES_TO_RADIANS"), (0, u "RADIANS_TO_DEGREES")] 94

def k10m0 : Method := { name := "<init>", desc := "()V", sig := { parameters := [], returnType := none }, accessFlags := 2, code := none }
def k10c1 : Code := { maxStack := 2, maxLocals := 2, code := jdk_29_method_65_code, exceptionTable := #[], attributes := #[] }
def k10m1 : Method := { name := "max", desc := "(II)I", sig := { parameters := [.int, .int], returnType := some .int }, accessFlags := 9, code := some k10c1 }
def k10c2 : Code := { maxStack := 2, maxLocals := 2, code := jdk_29_method_69_code, exceptionTable := #[], attributes := #[] }
def k10m2 : Method := { name := "min", desc := "(II)I", sig := { parameters := [.int, .int], returnType := some .int }, accessFlags := 9, code := some k10c2 }
/-- java/lang/Math -/
def k10 : Class := { plain "java/lang/Math" (some 0) with
  accessFlags := 49
  interfaces := #[]
  cf := some (fileOf pool10 1 #[.nestMembers #[98]] #[{ accessFlags := 2, nameIndex := 7, descriptorIndex := 8, attributes := #[] }, { accessFlags := 9, nameIndex := 198, descriptorIndex := 335, attributes := #[] }, { accessFlags := 9, nameIndex := 201, descriptorIndex := 335, attributes := #[] }] 49 4 #[] #[{ accessFlags := 25, nameIndex := 354, descriptorIndex := 339, attributes := #[] }, { accessFlags := 25, nameIndex := 358, descriptorIndex := 339, attributes := #[] }, { accessFlags := 25, nameIndex := 361, descriptorIndex := 339, attributes := #[] }, { accessFlags := 26, nameIndex := 364, descriptorIndex := 339, attributes := #[] }, { accessFlags := 26, nameIndex := 365, descriptorIndex := 339, attributes := #[] }, { accessFlags := 26, nameIndex := 172, descriptorIndex := 173, attributes := #[] }, { accessFlags := 26, nameIndex := 176, descriptorIndex := 173, attributes := #[] }, { accessFlags := 8, nameIndex := 344, descriptorIndex := 339, attributes := #[] }, { accessFlags := 8, nameIndex := 338, descriptorIndex := 339, attributes := #[] }, { accessFlags := 4120, nameIndex := 245, descriptorIndex := 246, attributes := #[] }])
  fields := #[{ name := "E", type := .double, accessFlags := 25, slot := 0, constantValue := 0 }, { name := "PI", type := .double, accessFlags := 25, slot := 1, constantValue := 0 }, { name := "TAU", type := .double, accessFlags := 25, slot := 2, constantValue := 0 }, { name := "DEGREES_TO_RADIANS", type := .double, accessFlags := 26, slot := 3, constantValue := 0 }, { name := "RADIANS_TO_DEGREES", type := .double, accessFlags := 26, slot := 4, constantValue := 0 }, { name := "negativeZeroFloatBits", type := .long, accessFlags := 26, slot := 5, constantValue := 0 }, { name := "negativeZeroDoubleBits", type := .long, accessFlags := 26, slot := 6, constantValue := 0 }, { name := "twoToTheDoubleScaleUp", type := .double, accessFlags := 8, slot := 7, constantValue := 0 }, { name := "twoToTheDoubleScaleDown", type := .double, accessFlags := 8, slot := 8, constantValue := 0 }, { name := "$assertionsDisabled", type := .boolean, accessFlags := 4120, slot := 9, constantValue := 0 }]
  methods := #[k10m0, k10m1, k10m2]
  instanceTypes := #[]
  staticTypes := #[.double, .double, .double, .double, .double, .long, .long, .double, .double, .boolean]
  resolved := Array.replicate 460 none
  statics := none }

def pool11 : Array CpInfo := pool [(3, .class_ 4), (0, u "java/lang/String"), (1, .class_ 8), (1, u "java/lang/Object"), (0, u "<init>"), (0, u "()V"), (0, .methodref 12 13), (0, .class_ 14), (0, .nameAndType 15 16), (0, u "java/lang/StringUTF16"), (0, u "newBytesLength"), (0, u "(I)I"), (3, .integer 1073741823), (23, .fieldref 12 45), (0, .nameAndType 46 47), (0, u "$assertionsDisabled"), (0, u "Z"), (0, .methodref 12 49), (0, .nameAndType 50 51), (0, u "length"), (0, u "([B)I"), (7, .fieldref 12 60), (0, .nameAndType 61 62), (0, u "HI_BYTE_SHIFT"), (0, u "I"), (0, .fieldref 12 64), (0, .nameAndType 65 62), (0, u "LO_BYTE_SHIFT"), (5, .methodref 12 72), (0, .nameAndType 73 74), (0, u "getChar"), (0, u "([BI)C"), (21, .methodref 12 97), (0, .nameAndType 98 99), (0, u "checkBoundsBeginEnd"), (0, u "(II[B)V"), (7, .methodref 12 108), (0, .nameAndType 109 110), (0, u "newBytesFor"), (0, u "(I)[B"), (0, .methodref 12 112), (0, .nameAndType 113 114), (0, u "putChar"), (0, u "([BII)V"), (0, .methodref 12 116), (0, .nameAndType 117 118), (0, u "compress"), (0, u "([CI[BII)I"), (0, .methodref 12 120), (0, .nameAndType 121 122), (0, u "toBytes"), (0, u "([CII)[B"), (60, .methodref 184 185), (0, .class_ 186), (0, .nameAndType 187 188), (0, u "java/lang/Math"), (0, u "min"), (0, u "(II)I"), (35, .methodref 184 225), (0, .nameAndType 226 188), (0, u "max"), (0, .integer 65536), (0, .methodref 12 229), (0, .nameAndType 230 231), (0, u "indexOfChar"), (0, u "([BIII)I"), (9, .methodref 3 242), (0, .nameAndType 98 243), (0, u "(III)V"), (0, .methodref 12 245), (0, .nameAndType 246 231), (0, u "indexOfCharUnsafe"), (14, u "coderFromArrayLen"), (0, u "([BI)B"), (5, u "indexOf"), (100, .class_ 371), (1, u "java/lang/StringUTF16$LinesSpliterator"), (58, u "MAX_LENGTH"), (196, .class_ 628), (0, u "java/lang/StringUTF16$CodePointsSpliterator"), (0, .class_ 630), (0, u "java/lang/StringUTF16$CharsSpliterator")] 4

def k11m0 : Method := { name := "<init>", desc := "()V", sig := { parameters := [], returnType := none }, accessFlags := 0, code := none }
def k11c1 : Code := { maxStack := 1, maxLocals := 1, code := jdk_52_method_2_code, exceptionTable := #[], attributes := #[] }
def k11m1 : Method := { name := "newBytesFor", desc := "(I)[B", sig := { parameters := [.int], returnType := some (.array .byte) }, accessFlags := 9, code := some k11c1 }
def k11c2 : Code := { maxStack := 4, maxLocals := 1, code := jdk_52_method_3_code, exceptionTable := #[], attributes := #[] }
def k11m2 : Method := { name := "newBytesLength", desc := "(I)I", sig := { parameters := [.int], returnType := some .int }, accessFlags := 9, code := some k11c2 }
def k11c3 : Code := { maxStack := 4, maxLocals := 3, code := jdk_52_method_4_code, exceptionTable := #[], attributes := #[] }
def k11m3 : Method := { name := "putChar", desc := "([BII)V", sig := { parameters := [(.array .byte), .int, .int], returnType := none }, accessFlags := 8, code := some k11c3 }
def k11c4 : Code := { maxStack := 3, maxLocals := 2, code := jdk_52_method_5_code, exceptionTable := #[], attributes := #[] }
def k11m4 : Method := { name := "getChar", desc := "([BI)C", sig := { parameters := [(.array .byte), .int], returnType := some .char }, accessFlags := 8, code := some k11c4 }
def k11c5 : Code := { maxStack := 2, maxLocals := 1, code := jdk_52_method_6_code, exceptionTable := #[], attributes := #[] }
def k11m5 : Method := { name := "length", desc := "([B)I", sig := { parameters := [(.array .byte)], returnType := some .int }, accessFlags := 9, code := some k11c5 }
def k11c6 : Code := { maxStack := 4, maxLocals := 5, code := jdk_52_method_14_code, exceptionTable := #[], attributes := #[] }
def k11m6 : Method := { name := "toBytes", desc := "([CII)[B", sig := { parameters := [(.array .char), .int, .int], returnType := some (.array .byte) }, accessFlags := 9, code := some k11c6 }
def k11c7 : Code := { maxStack := 2, maxLocals := 2, code := jdk_52_method_15_code, exceptionTable := #[], attributes := #[] }
def k11m7 : Method := { name := "coderFromArrayLen", desc := "([BI)B", sig := { parameters := [(.array .byte), .int], returnType := some .byte }, accessFlags := 8, code := some k11c7 }
def k11c8 : Code := { maxStack := 5, maxLocals := 6, code := jdk_52_method_16_code, exceptionTable := #[], attributes := #[] }
def k11m8 : Method := { name := "compress", desc := "([CII)[B", sig := { parameters := [(.array .char), .int, .int], returnType := some (.array .byte) }, accessFlags := 9, code := some k11c8 }
def k11c9 : Code := { maxStack := 3, maxLocals := 7, code := jdk_52_method_21_code, exceptionTable := #[], attributes := #[] }
def k11m9 : Method := { name := "compress", desc := "([CI[BII)I", sig := { parameters := [(.array .char), .int, (.array .byte), .int, .int], returnType := some .int }, accessFlags := 9, code := some k11c9 }
def k11c10 : Code := { maxStack := 4, maxLocals := 4, code := jdk_52_method_40_code, exceptionTable := #[], attributes := #[] }
def k11m10 : Method := { name := "indexOf", desc := "([BIII)I", sig := { parameters := [(.array .byte), .int, .int, .int], returnType := some .int }, accessFlags := 9, code := some k11c10 }
def k11c11 : Code := { maxStack := 4, maxLocals := 4, code := jdk_52_method_47_code, exceptionTable := #[], attributes := #[] }
def k11m11 : Method := { name := "indexOfChar", desc := "([BIII)I", sig := { parameters := [(.array .byte), .int, .int, .int], returnType := some .int }, accessFlags := 10, code := some k11c11 }
def k11c12 : Code := { maxStack := 2, maxLocals := 5, code := jdk_52_method_48_code, exceptionTable := #[], attributes := #[] }
def k11m12 : Method := { name := "indexOfCharUnsafe", desc := "([BIII)I", sig := { parameters := [(.array .byte), .int, .int, .int], returnType := some .int }, accessFlags := 10, code := some k11c12 }
def k11c13 : Code := { maxStack := 3, maxLocals := 3, code := jdk_52_method_93_code, exceptionTable := #[], attributes := #[] }
def k11m13 : Method := { name := "checkBoundsBeginEnd", desc := "(II[B)V", sig := { parameters := [.int, .int, (.array .byte)], returnType := none }, accessFlags := 9, code := some k11c13 }
/-- java/lang/StringUTF16 -/
def k11 : Class := { plain "java/lang/StringUTF16" (some 0) with
  accessFlags := 48
  interfaces := #[]
  cf := some (fileOf pool11 12 #[.nestMembers #[627, 629, 369]] #[{ accessFlags := 0, nameIndex := 9, descriptorIndex := 10, attributes := #[] }, { accessFlags := 9, nameIndex := 109, descriptorIndex := 110, attributes := #[] }, { accessFlags := 9, nameIndex := 15, descriptorIndex := 16, attributes := #[] }, { accessFlags := 8, nameIndex := 113, descriptorIndex := 114, attributes := #[] }, { accessFlags := 8, nameIndex := 73, descriptorIndex := 74, attributes := #[] }, { accessFlags := 9, nameIndex := 50, descriptorIndex := 51, attributes := #[] }, { accessFlags := 9, nameIndex := 121, descriptorIndex := 122, attributes := #[] }, { accessFlags := 8, nameIndex := 261, descriptorIndex := 262, attributes := #[] }, { accessFlags := 9, nameIndex := 117, descriptorIndex := 122, attributes := #[] }, { accessFlags := 9, nameIndex := 117, descriptorIndex := 118, attributes := #[] }, { accessFlags := 9, nameIndex := 268, descriptorIndex := 231, attributes := #[] }, { accessFlags := 10, nameIndex := 230, descriptorIndex := 231, attributes := #[] }, { accessFlags := 10, nameIndex := 246, descriptorIndex := 231, attributes := #[] }, { accessFlags := 9, nameIndex := 98, descriptorIndex := 99, attributes := #[] }] 48 6 #[] #[{ accessFlags := 26, nameIndex := 61, descriptorIndex := 62, attributes := #[] }, { accessFlags := 26, nameIndex := 65, descriptorIndex := 62, attributes := #[] }, { accessFlags := 24, nameIndex := 430, descriptorIndex := 62, attributes := #[] }, { accessFlags := 4120, nameIndex := 46, descriptorIndex := 47, attributes := #[] }])
  fields := #[{ name := "HI_BYTE_SHIFT", type := .int, accessFlags := 26, slot := 0, constantValue := 0 }, { name := "LO_BYTE_SHIFT", type := .int, accessFlags := 26, slot := 1, constantValue := 0 }, { name := "MAX_LENGTH", type := .int, accessFlags := 24, slot := 2, constantValue := 0 }, { name := "$assertionsDisabled", type := .boolean, accessFlags := 4120, slot := 3, constantValue := 0 }]
  methods := #[k11m0, k11m1, k11m2, k11m3, k11m4, k11m5, k11m6, k11m7, k11m8, k11m9, k11m10, k11m11, k11m12, k11m13]
  instanceTypes := #[]
  staticTypes := #[.int, .int, .int, .boolean]
  resolved := Array.replicate 635 none
  statics := some 1 }

def pool12 : Array CpInfo := pool [(2, .class_ 4), (1, u "java/lang/Object"), (0, u "<init>"), (0, u "()V"), (17, .class_ 26), (1, u "jdk/internal/util/Preconditions"), (20, u "checkFromToIndex"), (7, .class_ 56), (0, u "jdk/internal/util/Preconditions$4"), (57, .class_ 115), (0, u "jdk/internal/util/Preconditions$1"), (7, u "SIOOBE_FORMATTER"), (0, u "Ljava/util/function/BiFunction;"), (0, .class_ 126), (0, u "jdk/internal/util/Preconditions$2"), (3, u "AIOOBE_FORMATTER"), (0, .class_ 132), (0, u "jdk/internal/util/Preconditions$3"), (3, u "IOOBE_FORMATTER"), (46, u "(IIILjava/util/function/BiFunction;)I")] 10

def k12m0 : Method := { name := "<init>", desc := "()V", sig := { parameters := [], returnType := none }, accessFlags := 1, code := none }
def k12c1 : Code := { maxStack := 4, maxLocals := 4, code := jdk_41_method_12_code, exceptionTable := #[], attributes := #[] }
def k12m1 : Method := { name := "checkFromToIndex", desc := "(IIILjava/util/function/BiFunction;)I", sig := { parameters := [.int, .int, .int, (.object "java/util/function/BiFunction")], returnType := some .int }, accessFlags := 9, code := some k12c1 }
/-- jdk/internal/util/Preconditions -/
def k12 : Class := { plain "jdk/internal/util/Preconditions" (some 0) with
  accessFlags := 33
  interfaces := #[]
  cf := some (fileOf pool12 24 #[.nestMembers #[55, 131, 125, 114]] #[{ accessFlags := 1, nameIndex := 5, descriptorIndex := 6, attributes := #[] }, { accessFlags := 9, nameIndex := 47, descriptorIndex := 183, attributes := #[] }] 33 2 #[] #[{ accessFlags := 25, nameIndex := 123, descriptorIndex := 124, attributes := #[] }, { accessFlags := 25, nameIndex := 130, descriptorIndex := 124, attributes := #[] }, { accessFlags := 25, nameIndex := 136, descriptorIndex := 124, attributes := #[] }])
  fields := #[{ name := "SIOOBE_FORMATTER", type := (.object "java/util/function/BiFunction"), accessFlags := 25, slot := 0, constantValue := 0 }, { name := "AIOOBE_FORMATTER", type := (.object "java/util/function/BiFunction"), accessFlags := 25, slot := 1, constantValue := 0 }, { name := "IOOBE_FORMATTER", type := (.object "java/util/function/BiFunction"), accessFlags := 25, slot := 2, constantValue := 0 }]
  methods := #[k12m0, k12m1]
  instanceTypes := #[]
  staticTypes := #[(.object "java/util/function/BiFunction"), (.object "java/util/function/BiFunction"), (.object "java/util/function/BiFunction")]
  resolved := Array.replicate 194 none
  statics := some 2 }

def pool13 : Array CpInfo := pool [(9, u "<init>"), (6, .class_ 18), (1, u "java/lang/Object"), (0, u "()V"), (1, .class_ 23), (1, u "jdk/internal/util/ArraysSupport"), (0, u "LOG2_ARRAY_LONG_INDEX_SCALE"), (0, u "I"), (2, u "U"), (0, u "Ljdk/internal/misc/Unsafe;"), (8, u "BIG_ENDIAN"), (0, u "Z"), (8, u "LOG2_BYTE_BIT_SIZE"), (4, u "LOG2_ARRAY_INT_INDEX_SCALE"), (54, u "JLA"), (0, u "Ljdk/internal/access/JavaLangAccess;"), (11, u "LOG2_ARRAY_BOOLEAN_INDEX_SCALE"), (9, u "LOG2_ARRAY_BYTE_INDEX_SCALE"), (5, u "LOG2_ARRAY_CHAR_INDEX_SCALE"), (5, u "LOG2_ARRAY_SHORT_INDEX_SCALE"), (18, u "LOG2_ARRAY_FLOAT_INDEX_SCALE"), (24, u "LOG2_ARRAY_DOUBLE_INDEX_SCALE"), (89, u "T_BOOLEAN"), (2, u "T_CHAR"), (1, u "T_FLOAT"), (1, u "T_DOUBLE"), (1, u "T_BYTE"), (1, u "T_SHORT"), (1, u "T_INT"), (1, u "T_LONG"), (1, u "SOFT_MAX_ARRAY_LENGTH")] 83

def k13m0 : Method := { name := "<init>", desc := "()V", sig := { parameters := [], returnType := none }, accessFlags := 2, code := none }
/-- jdk/internal/util/ArraysSupport -/
def k13 : Class := { plain "jdk/internal/util/ArraysSupport" (some 0) with
  accessFlags := 33
  interfaces := #[]
  cf := some (fileOf pool13 21 #[] #[{ accessFlags := 2, nameIndex := 9, descriptorIndex := 19, attributes := #[] }] 33 16 #[] #[{ accessFlags := 24, nameIndex := 28, descriptorIndex := 29, attributes := #[] }, { accessFlags := 26, nameIndex := 38, descriptorIndex := 39, attributes := #[] }, { accessFlags := 25, nameIndex := 121, descriptorIndex := 25, attributes := #[] }, { accessFlags := 25, nameIndex := 131, descriptorIndex := 25, attributes := #[] }, { accessFlags := 25, nameIndex := 137, descriptorIndex := 25, attributes := #[] }, { accessFlags := 25, nameIndex := 143, descriptorIndex := 25, attributes := #[] }, { accessFlags := 25, nameIndex := 53, descriptorIndex := 25, attributes := #[] }, { accessFlags := 25, nameIndex := 24, descriptorIndex := 25, attributes := #[] }, { accessFlags := 25, nameIndex := 162, descriptorIndex := 25, attributes := #[] }, { accessFlags := 25, nameIndex := 187, descriptorIndex := 25, attributes := #[] }, { accessFlags := 26, nameIndex := 48, descriptorIndex := 25, attributes := #[] }, { accessFlags := 25, nameIndex := 277, descriptorIndex := 25, attributes := #[] }, { accessFlags := 25, nameIndex := 280, descriptorIndex := 25, attributes := #[] }, { accessFlags := 25, nameIndex := 282, descriptorIndex := 25, attributes := #[] }, { accessFlags := 25, nameIndex := 284, descriptorIndex := 25, attributes := #[] }, { accessFlags := 25, nameIndex := 286, descriptorIndex := 25, attributes := #[] }, { accessFlags := 25, nameIndex := 288, descriptorIndex := 25, attributes := #[] }, { accessFlags := 25, nameIndex := 290, descriptorIndex := 25, attributes := #[] }, { accessFlags := 25, nameIndex := 292, descriptorIndex := 25, attributes := #[] }, { accessFlags := 26, nameIndex := 108, descriptorIndex := 109, attributes := #[] }, { accessFlags := 25, nameIndex := 294, descriptorIndex := 25, attributes := #[] }])
  fields := #[{ name := "U", type := (.object "jdk/internal/misc/Unsafe"), accessFlags := 24, slot := 0, constantValue := 0 }, { name := "BIG_ENDIAN", type := .boolean, accessFlags := 26, slot := 1, constantValue := 0 }, { name := "LOG2_ARRAY_BOOLEAN_INDEX_SCALE", type := .int, accessFlags := 25, slot := 2, constantValue := 0 }, { name := "LOG2_ARRAY_BYTE_INDEX_SCALE", type := .int, accessFlags := 25, slot := 3, constantValue := 0 }, { name := "LOG2_ARRAY_CHAR_INDEX_SCALE", type := .int, accessFlags := 25, slot := 4, constantValue := 0 }, { name := "LOG2_ARRAY_SHORT_INDEX_SCALE", type := .int, accessFlags := 25, slot := 5, constantValue := 0 }, { name := "LOG2_ARRAY_INT_INDEX_SCALE", type := .int, accessFlags := 25, slot := 6, constantValue := 0 }, { name := "LOG2_ARRAY_LONG_INDEX_SCALE", type := .int, accessFlags := 25, slot := 7, constantValue := 0 }, { name := "LOG2_ARRAY_FLOAT_INDEX_SCALE", type := .int, accessFlags := 25, slot := 8, constantValue := 0 }, { name := "LOG2_ARRAY_DOUBLE_INDEX_SCALE", type := .int, accessFlags := 25, slot := 9, constantValue := 0 }, { name := "LOG2_BYTE_BIT_SIZE", type := .int, accessFlags := 26, slot := 10, constantValue := 0 }, { name := "T_BOOLEAN", type := .int, accessFlags := 25, slot := 11, constantValue := 0 }, { name := "T_CHAR", type := .int, accessFlags := 25, slot := 12, constantValue := 0 }, { name := "T_FLOAT", type := .int, accessFlags := 25, slot := 13, constantValue := 0 }, { name := "T_DOUBLE", type := .int, accessFlags := 25, slot := 14, constantValue := 0 }, { name := "T_BYTE", type := .int, accessFlags := 25, slot := 15, constantValue := 0 }, { name := "T_SHORT", type := .int, accessFlags := 25, slot := 16, constantValue := 0 }, { name := "T_INT", type := .int, accessFlags := 25, slot := 17, constantValue := 0 }, { name := "T_LONG", type := .int, accessFlags := 25, slot := 18, constantValue := 0 }, { name := "JLA", type := (.object "jdk/internal/access/JavaLangAccess"), accessFlags := 26, slot := 19, constantValue := 0 }, { name := "SOFT_MAX_ARRAY_LENGTH", type := .int, accessFlags := 25, slot := 20, constantValue := 0 }]
  methods := #[k13m0]
  instanceTypes := #[]
  staticTypes := #[(.object "jdk/internal/misc/Unsafe"), .boolean, .int, .int, .int, .int, .int, .int, .int, .int, .int, .int, .int, .int, .int, .int, .int, .int, .int, (.object "jdk/internal/access/JavaLangAccess"), .int]
  resolved := Array.replicate 378 none
  statics := none }

def pool14 : Array CpInfo := pool [(1, u "java/lang/Cloneable"), (0, .class_ 1), (0, u "java/lang/Object"), (0, .class_ 3)] 3

/-- java/lang/Cloneable -/
def k14 : Class := { plain "java/lang/Cloneable" (some 0) with
  accessFlags := 1537
  interfaces := #[]
  cf := some (fileOf pool14 2 #[] #[] 1537 4 #[] #[])
  fields := #[]
  methods := #[]
  instanceTypes := #[]
  staticTypes := #[]
  resolved := Array.replicate 8 none
  statics := none }

/-- the primitive byte -/
def k15 : Class := { plain "byte" none with kind := .primitive 'B', accessFlags := 0x411 }
/-- [B -/
def k16 : Class := { plain "[B" (some 0) with kind := .array 15 .byte, interfaces := #[14, 2], accessFlags := 1041 }

/-- the primitive char -/
def k17 : Class := { plain "char" none with kind := .primitive 'C', accessFlags := 0x411 }
/-- [C -/
def k18 : Class := { plain "[C" (some 0) with kind := .array 17 .char, interfaces := #[14, 2], accessFlags := 1041 }

/-- the primitive int -/
def k19 : Class := { plain "int" none with kind := .primitive 'I', accessFlags := 0x411 }
/-- [I -/
def k20 : Class := { plain "[I" (some 0) with kind := .array 19 .int, interfaces := #[14, 2], accessFlags := 1041 }

def heap : Heap := #[{ cls := 7, slots := #[.long 0, .int 1, .null, .int 0, .null, .int 0, .int 0], vm := .statics 7 },
  { cls := 11, slots := #[.int 0, .int 8, .int 0, .int 1], vm := .statics 11 },
  { cls := 12, slots := #[.null, .null, .null], vm := .statics 12 }]
def classes : Array Class := #[k0, k1, k2, k3, k4, k5, k6, k7, k8, k9, k10, k11, k12, k13, k14, k15, k16, k17, k18, k19, k20]
def interned : List (Array UInt16 × Addr) := []
def slotsUsed : Nat := 14
def theMethod : MethodId := ⟨1, 1⟩
def args0 : Array Value := #[.int 5, .int 6, .int 7, .int 8]
def aboutOver (below : List Frame) : State where
  vm := { classes := classes, interned := interned.toArray }
  heap := heap
  slotsUsed := slotsUsed
  threads := #[{ frames := .invoking theMethod args0 :: below }]
def below0 : List Frame := [.native { method := ⟨0, 0⟩, args := #[] }]
def about1 : State := aboutOver below0
def p0 : Program := .bare "" "" ""
def e0 : Env := launch0.env 0 0 0
theorem w_frames : about1.frames = Frame.invoking theMethod args0 :: below0 := rfl
set_option maxRecDepth 65536 in
theorem w_args : argsFit about1.vm theMethod args0 = true := by decide +kernel
set_option maxRecDepth 65536 in
theorem w_heap : heapFits about1 = true := by decide +kernel
set_option maxRecDepth 65536 in
theorem w_runnable : about1.curStatus? = some .runnable := by decide +kernel
set_option maxRecDepth 65536 in
theorem w_alone : about1.alone = true := by decide +kernel
set_option maxRecDepth 65536 in
theorem w_named : about1.methodNamed? x = some theMethod := by decide +kernel
set_option maxRecDepth 65536 in
theorem w_hears : about1.hears theMethod below0 = true := by decide +kernel
set_option maxRecDepth 65536 in
theorem w_ripe : about1.ripe theMethod args0 below0 = true := by decide +kernel
theorem w_running : about1.status = .running := rfl
set_option maxRecDepth 65536 in
theorem w_room : about1.hasRoom e0.platform room_1 = true :=
  launch0.hasRoom_least _ room_1 (by decide +kernel) (by decide +kernel) (by decide +kernel) (by decide +kernel) (by decide +kernel) (by decide +kernel)
theorem allAtoms_all (ts : List Jvm.Cond) (a : Array Jvm.Value) (st : Jvm.State) : (allAtoms ts).before a st = ts.all (fun c => c.before a st) := by
  induction ts with
  | nil => rfl
  | cons c t ih =>
    show (Jvm.Cond.and c (allAtoms t)).before a st = _
    rw [Jvm.Cond.before_and, ih, List.all_cons]
def words1 : List Jvm.Cond := Jvm.Cond.code x code maxLocals ret :: tables_1
/-- a 'code' word, met by the world's own term for the bytes: nothing is compared byte by byte -/
theorem code_word {y : MethodName} {bytes : ByteArray} {mx : Nat} {rt : Option FieldType} {a : Array Value} {s : State} {m : MethodId} {meth : Method} {c : Code} (h1 : s.methodNamed? y = some m) (h2 : s.vm.method? m = some meth) (h3 : meth.code = some c) (h4 : c.code = bytes)
    (h5 : (c.maxLocals == mx && c.exceptionTable.isEmpty && decide (c.maxStack ≤ mostOperands) && decide (meth.sig.returnType = rt) && !meth.locks && decide (parseMethodDescriptor y.desc = some meth.sig)) = true) : (Jvm.Cond.code y bytes mx rt).before a s = true := by
  simp only [Bool.and_eq_true, beq_iff_eq, Bool.not_eq_true', decide_eq_true_eq] at h5
  obtain ⟨⟨⟨⟨⟨g1, g2⟩, g3⟩, g4⟩, g5⟩, g6⟩ := h5
  simp [Cond.before, Cond.holds, Cond.value, h1, h2, h3, h4, g1, g2, g3, g4, g5, g6]
def isCode : Jvm.Cond → Bool
  | .code _ _ _ _ => true
  | _ => false
theorem all_split {L : List Jvm.Cond} {P : Jvm.Cond → Bool} (h1 : L.all (fun c => isCode c || P c) = true) (h2 : ∀ c ∈ L.filter isCode, P c = true) : L.all P = true := by
  refine List.all_eq_true.mpr fun c hc => ?_
  have h := List.all_eq_true.mp h1 c hc
  rcases Bool.eq_false_or_eq_true (isCode c) with hi | hi
  · exact h2 c (List.mem_filter.mpr ⟨hc, hi⟩)
  · simpa [hi] using h
set_option maxRecDepth 65536 in
theorem w_c0 : (Jvm.Cond.code x code maxLocals ret).before args0 about1 = true := code_word (m := ⟨1, 1⟩) (meth := k1m1) (c := k1c1) (by decide +kernel) rfl rfl rfl (by decide +kernel)
set_option maxRecDepth 65536 in
theorem w_c1 : (Jvm.Cond.code ({ cls := "java/lang/String", name := "<init>", desc := "([C)V" } : Jvm.MethodName) jdk_42_method_3_code (2 : Nat) (Option.none : Option Jvm.ClassFile.FieldType)).before args0 about1 = true := code_word (m := ⟨7, 1⟩) (meth := k7m1) (c := k7c1) (by decide +kernel) rfl rfl rfl (by decide +kernel)
set_option maxRecDepth 65536 in
theorem w_c2 : (Jvm.Cond.code ({ cls := "java/lang/String", name := "<init>", desc := "([CIILjava/lang/Void;)V" } : Jvm.MethodName) jdk_42_method_149_code (6 : Nat) (Option.none : Option Jvm.ClassFile.FieldType)).before args0 about1 = true := code_word (m := ⟨7, 5⟩) (meth := k7m5) (c := k7c5) (by decide +kernel) rfl rfl rfl (by decide +kernel)
set_option maxRecDepth 65536 in
theorem w_c3 : (Jvm.Cond.code ({ cls := "java/lang/Object", name := "<init>", desc := "()V" } : Jvm.MethodName) object_method_1_code (1 : Nat) (Option.none : Option Jvm.ClassFile.FieldType)).before args0 about1 = true := code_word (m := ⟨0, 0⟩) (meth := k0m0) (c := k0c0) (by decide +kernel) rfl rfl rfl (by decide +kernel)
set_option maxRecDepth 65536 in
theorem w_c4 : (Jvm.Cond.code ({ cls := "com/example/knot1/knot1/core/KeptTexts", name := "canKeep", desc := "(Ljava/lang/String;)Z" } : Jvm.MethodName) prog_3_method_2_code (1 : Nat) (Option.some Jvm.ClassFile.FieldType.boolean)).before args0 about1 = true := code_word (m := ⟨8, 1⟩) (meth := k8m1) (c := k8c1) (by decide +kernel) rfl rfl rfl (by decide +kernel)
set_option maxRecDepth 65536 in
theorem w_c5 : (Jvm.Cond.code ({ cls := "java/lang/String", name := "indexOf", desc := "(I)I" } : Jvm.MethodName) jdk_42_method_79_code (2 : Nat) (Option.some Jvm.ClassFile.FieldType.int)).before args0 about1 = true := code_word (m := ⟨7, 3⟩) (meth := k7m3) (c := k7c3) (by decide +kernel) rfl rfl rfl (by decide +kernel)
set_option maxRecDepth 65536 in
theorem w_c6 : (Jvm.Cond.code ({ cls := "java/lang/String", name := "indexOf", desc := "(II)I" } : Jvm.MethodName) jdk_42_method_80_code (3 : Nat) (Option.some Jvm.ClassFile.FieldType.int)).before args0 about1 = true := code_word (m := ⟨7, 4⟩) (meth := k7m4) (c := k7c4) (by decide +kernel) rfl rfl rfl (by decide +kernel)
set_option maxRecDepth 65536 in
theorem w_c7 : (Jvm.Cond.code ({ cls := "java/lang/String", name := "isLatin1", desc := "()Z" } : Jvm.MethodName) jdk_42_method_154_code (1 : Nat) (Option.some Jvm.ClassFile.FieldType.boolean)).before args0 about1 = true := code_word (m := ⟨7, 7⟩) (meth := k7m7) (c := k7c7) (by decide +kernel) rfl rfl rfl (by decide +kernel)
set_option maxRecDepth 65536 in
theorem w_c8 : (Jvm.Cond.code ({ cls := "java/lang/String", name := "length", desc := "()I" } : Jvm.MethodName) jdk_42_method_54_code (1 : Nat) (Option.some Jvm.ClassFile.FieldType.int)).before args0 about1 = true := code_word (m := ⟨7, 2⟩) (meth := k7m2) (c := k7c2) (by decide +kernel) rfl rfl rfl (by decide +kernel)
set_option maxRecDepth 65536 in
theorem w_c9 : (Jvm.Cond.code ({ cls := "java/lang/String", name := "coder", desc := "()B" } : Jvm.MethodName) jdk_42_method_152_code (1 : Nat) (Option.some Jvm.ClassFile.FieldType.byte)).before args0 about1 = true := code_word (m := ⟨7, 6⟩) (meth := k7m6) (c := k7c6) (by decide +kernel) rfl rfl rfl (by decide +kernel)
set_option maxRecDepth 65536 in
theorem w_c10 : (Jvm.Cond.code ({ cls := "java/lang/StringLatin1", name := "indexOf", desc := "([BIII)I" } : Jvm.MethodName) jdk_43_method_22_code (4 : Nat) (Option.some Jvm.ClassFile.FieldType.int)).before args0 about1 = true := code_word (m := ⟨9, 2⟩) (meth := k9m2) (c := k9c2) (by decide +kernel) rfl rfl rfl (by decide +kernel)
set_option maxRecDepth 65536 in
theorem w_c11 : (Jvm.Cond.code ({ cls := "java/lang/StringLatin1", name := "canEncode", desc := "(I)Z" } : Jvm.MethodName) jdk_43_method_4_code (1 : Nat) (Option.some Jvm.ClassFile.FieldType.boolean)).before args0 about1 = true := code_word (m := ⟨9, 1⟩) (meth := k9m1) (c := k9c1) (by decide +kernel) rfl rfl rfl (by decide +kernel)
set_option maxRecDepth 65536 in
theorem w_c12 : (Jvm.Cond.code ({ cls := "java/lang/Math", name := "max", desc := "(II)I" } : Jvm.MethodName) jdk_29_method_65_code (2 : Nat) (Option.some Jvm.ClassFile.FieldType.int)).before args0 about1 = true := code_word (m := ⟨10, 1⟩) (meth := k10m1) (c := k10c1) (by decide +kernel) rfl rfl rfl (by decide +kernel)
set_option maxRecDepth 65536 in
theorem w_c13 : (Jvm.Cond.code ({ cls := "java/lang/Math", name := "min", desc := "(II)I" } : Jvm.MethodName) jdk_29_method_69_code (2 : Nat) (Option.some Jvm.ClassFile.FieldType.int)).before args0 about1 = true := code_word (m := ⟨10, 2⟩) (meth := k10m2) (c := k10c2) (by decide +kernel) rfl rfl rfl (by decide +kernel)
set_option maxRecDepth 65536 in
theorem w_c14 : (Jvm.Cond.code ({ cls := "java/lang/StringUTF16", name := "compress", desc := "([CII)[B" } : Jvm.MethodName) jdk_52_method_16_code (6 : Nat) (Option.some (Jvm.ClassFile.FieldType.array Jvm.ClassFile.FieldType.byte))).before args0 about1 = true := code_word (m := ⟨11, 8⟩) (meth := k11m8) (c := k11c8) (by decide +kernel) rfl rfl rfl (by decide +kernel)
set_option maxRecDepth 65536 in
theorem w_c15 : (Jvm.Cond.code ({ cls := "java/lang/StringUTF16", name := "compress", desc := "([CI[BII)I" } : Jvm.MethodName) jdk_52_method_21_code (7 : Nat) (Option.some Jvm.ClassFile.FieldType.int)).before args0 about1 = true := code_word (m := ⟨11, 9⟩) (meth := k11m9) (c := k11c9) (by decide +kernel) rfl rfl rfl (by decide +kernel)
set_option maxRecDepth 65536 in
theorem w_c16 : (Jvm.Cond.code ({ cls := "java/lang/StringUTF16", name := "toBytes", desc := "([CII)[B" } : Jvm.MethodName) jdk_52_method_14_code (5 : Nat) (Option.some (Jvm.ClassFile.FieldType.array Jvm.ClassFile.FieldType.byte))).before args0 about1 = true := code_word (m := ⟨11, 6⟩) (meth := k11m6) (c := k11c6) (by decide +kernel) rfl rfl rfl (by decide +kernel)
set_option maxRecDepth 65536 in
theorem w_c17 : (Jvm.Cond.code ({ cls := "java/lang/StringUTF16", name := "newBytesFor", desc := "(I)[B" } : Jvm.MethodName) jdk_52_method_2_code (1 : Nat) (Option.some (Jvm.ClassFile.FieldType.array Jvm.ClassFile.FieldType.byte))).before args0 about1 = true := code_word (m := ⟨11, 1⟩) (meth := k11m1) (c := k11c1) (by decide +kernel) rfl rfl rfl (by decide +kernel)
set_option maxRecDepth 65536 in
theorem w_c18 : (Jvm.Cond.code ({ cls := "java/lang/StringUTF16", name := "newBytesLength", desc := "(I)I" } : Jvm.MethodName) jdk_52_method_3_code (1 : Nat) (Option.some Jvm.ClassFile.FieldType.int)).before args0 about1 = true := code_word (m := ⟨11, 2⟩) (meth := k11m2) (c := k11c2) (by decide +kernel) rfl rfl rfl (by decide +kernel)
set_option maxRecDepth 65536 in
theorem w_c19 : (Jvm.Cond.code ({ cls := "java/lang/StringUTF16", name := "putChar", desc := "([BII)V" } : Jvm.MethodName) jdk_52_method_4_code (3 : Nat) (Option.none : Option Jvm.ClassFile.FieldType)).before args0 about1 = true := code_word (m := ⟨11, 3⟩) (meth := k11m3) (c := k11c3) (by decide +kernel) rfl rfl rfl (by decide +kernel)
set_option maxRecDepth 65536 in
theorem w_c20 : (Jvm.Cond.code ({ cls := "java/lang/StringUTF16", name := "getChar", desc := "([BI)C" } : Jvm.MethodName) jdk_52_method_5_code (2 : Nat) (Option.some Jvm.ClassFile.FieldType.char)).before args0 about1 = true := code_word (m := ⟨11, 4⟩) (meth := k11m4) (c := k11c4) (by decide +kernel) rfl rfl rfl (by decide +kernel)
set_option maxRecDepth 65536 in
theorem w_c21 : (Jvm.Cond.code ({ cls := "java/lang/StringUTF16", name := "coderFromArrayLen", desc := "([BI)B" } : Jvm.MethodName) jdk_52_method_15_code (2 : Nat) (Option.some Jvm.ClassFile.FieldType.byte)).before args0 about1 = true := code_word (m := ⟨11, 7⟩) (meth := k11m7) (c := k11c7) (by decide +kernel) rfl rfl rfl (by decide +kernel)
set_option maxRecDepth 65536 in
theorem w_c22 : (Jvm.Cond.code ({ cls := "java/lang/StringUTF16", name := "indexOf", desc := "([BIII)I" } : Jvm.MethodName) jdk_52_method_40_code (4 : Nat) (Option.some Jvm.ClassFile.FieldType.int)).before args0 about1 = true := code_word (m := ⟨11, 10⟩) (meth := k11m10) (c := k11c10) (by decide +kernel) rfl rfl rfl (by decide +kernel)
set_option maxRecDepth 65536 in
theorem w_c23 : (Jvm.Cond.code ({ cls := "java/lang/StringUTF16", name := "indexOfChar", desc := "([BIII)I" } : Jvm.MethodName) jdk_52_method_47_code (4 : Nat) (Option.some Jvm.ClassFile.FieldType.int)).before args0 about1 = true := code_word (m := ⟨11, 11⟩) (meth := k11m11) (c := k11c11) (by decide +kernel) rfl rfl rfl (by decide +kernel)
set_option maxRecDepth 65536 in
theorem w_c24 : (Jvm.Cond.code ({ cls := "java/lang/StringUTF16", name := "checkBoundsBeginEnd", desc := "(II[B)V" } : Jvm.MethodName) jdk_52_method_93_code (3 : Nat) (Option.none : Option Jvm.ClassFile.FieldType)).before args0 about1 = true := code_word (m := ⟨11, 13⟩) (meth := k11m13) (c := k11c13) (by decide +kernel) rfl rfl rfl (by decide +kernel)
set_option maxRecDepth 65536 in
theorem w_c25 : (Jvm.Cond.code ({ cls := "java/lang/StringUTF16", name := "length", desc := "([B)I" } : Jvm.MethodName) jdk_52_method_6_code (1 : Nat) (Option.some Jvm.ClassFile.FieldType.int)).before args0 about1 = true := code_word (m := ⟨11, 5⟩) (meth := k11m5) (c := k11c5) (by decide +kernel) rfl rfl rfl (by decide +kernel)
set_option maxRecDepth 65536 in
theorem w_c26 : (Jvm.Cond.code ({ cls := "java/lang/String", name := "checkBoundsBeginEnd", desc := "(III)V" } : Jvm.MethodName) jdk_42_method_158_code (3 : Nat) (Option.none : Option Jvm.ClassFile.FieldType)).before args0 about1 = true := code_word (m := ⟨7, 8⟩) (meth := k7m8) (c := k7c8) (by decide +kernel) rfl rfl rfl (by decide +kernel)
set_option maxRecDepth 65536 in
theorem w_c27 : (Jvm.Cond.code ({ cls := "jdk/internal/util/Preconditions", name := "checkFromToIndex", desc := "(IIILjava/util/function/BiFunction;)I" } : Jvm.MethodName) jdk_41_method_12_code (4 : Nat) (Option.some Jvm.ClassFile.FieldType.int)).before args0 about1 = true := code_word (m := ⟨12, 1⟩) (meth := k12m1) (c := k12c1) (by decide +kernel) rfl rfl rfl (by decide +kernel)
set_option maxRecDepth 65536 in
theorem w_c28 : (Jvm.Cond.code ({ cls := "java/lang/StringUTF16", name := "indexOfCharUnsafe", desc := "([BIII)I" } : Jvm.MethodName) jdk_52_method_48_code (5 : Nat) (Option.some Jvm.ClassFile.FieldType.int)).before args0 about1 = true := code_word (m := ⟨11, 12⟩) (meth := k11m12) (c := k11c12) (by decide +kernel) rfl rfl rfl (by decide +kernel)
set_option maxRecDepth 65536 in
theorem w_c29 : (Jvm.Cond.code ({ cls := "java/lang/StringLatin1", name := "indexOfChar", desc := "([BIII)I" } : Jvm.MethodName) jdk_43_method_23_code (6 : Nat) (Option.some Jvm.ClassFile.FieldType.int)).before args0 about1 = true := code_word (m := ⟨9, 3⟩) (meth := k9m3) (c := k9c3) (by decide +kernel) rfl rfl rfl (by decide +kernel)
def codes1 : List Jvm.Cond := [Jvm.Cond.code x code maxLocals ret, Jvm.Cond.code ({ cls := "java/lang/String", name := "<init>", desc := "([C)V" } : Jvm.MethodName) jdk_42_method_3_code (2 : Nat) (Option.none : Option Jvm.ClassFile.FieldType), Jvm.Cond.code ({ cls := "java/lang/String", name := "<init>", desc := "([CIILjava/lang/Void;)V" } : Jvm.MethodName) jdk_42_method_149_code (6 : Nat) (Option.none : Option Jvm.ClassFile.FieldType), Jvm.Cond.code ({ cls := "java/lang/Object", name := "<init>", desc := "()V" } : Jvm.MethodName) object_method_1_code (1 : Nat) (Option.none : Option Jvm.ClassFile.FieldType), Jvm.Cond.code ({ cls := "com/example/knot1/knot1/core/KeptTexts", name := "canKeep", desc := "(Ljava/lang/String;)Z" } : Jvm.MethodName) prog_3_method_2_code (1 : Nat) (Option.some Jvm.ClassFile.FieldType.boolean), Jvm.Cond.code ({ cls := "java/lang/String", name := "indexOf", desc := "(I)I" } : Jvm.MethodName) jdk_42_method_79_code (2 : Nat) (Option.some Jvm.ClassFile.FieldType.int), Jvm.Cond.code ({ cls := "java/lang/String", name := "indexOf", desc := "(II)I" } : Jvm.MethodName) jdk_42_method_80_code (3 : Nat) (Option.some Jvm.ClassFile.FieldType.int), Jvm.Cond.code ({ cls := "java/lang/String", name := "isLatin1", desc := "()Z" } : Jvm.MethodName) jdk_42_method_154_code (1 : Nat) (Option.some Jvm.ClassFile.FieldType.boolean), Jvm.Cond.code ({ cls := "java/lang/String", name := "length", desc := "()I" } : Jvm.MethodName) jdk_42_method_54_code (1 : Nat) (Option.some Jvm.ClassFile.FieldType.int), Jvm.Cond.code ({ cls := "java/lang/String", name := "coder", desc := "()B" } : Jvm.MethodName) jdk_42_method_152_code (1 : Nat) (Option.some Jvm.ClassFile.FieldType.byte), Jvm.Cond.code ({ cls := "java/lang/StringLatin1", name := "indexOf", desc := "([BIII)I" } : Jvm.MethodName) jdk_43_method_22_code (4 : Nat) (Option.some Jvm.ClassFile.FieldType.int), Jvm.Cond.code ({ cls := "java/lang/StringLatin1", name := "canEncode", desc := "(I)Z" } : Jvm.MethodName) jdk_43_method_4_code (1 : Nat) (Option.some Jvm.ClassFile.FieldType.boolean), Jvm.Cond.code ({ cls := "java/lang/Math", name := "max", desc := "(II)I" } : Jvm.MethodName) jdk_29_method_65_code (2 : Nat) (Option.some Jvm.ClassFile.FieldType.int), Jvm.Cond.code ({ cls := "java/lang/Math", name := "min", desc := "(II)I" } : Jvm.MethodName) jdk_29_method_69_code (2 : Nat) (Option.some Jvm.ClassFile.FieldType.int), Jvm.Cond.code ({ cls := "java/lang/StringUTF16", name := "compress", desc := "([CII)[B" } : Jvm.MethodName) jdk_52_method_16_code (6 : Nat) (Option.some (Jvm.ClassFile.FieldType.array Jvm.ClassFile.FieldType.byte)), Jvm.Cond.code ({ cls := "java/lang/StringUTF16", name := "compress", desc := "([CI[BII)I" } : Jvm.MethodName) jdk_52_method_21_code (7 : Nat) (Option.some Jvm.ClassFile.FieldType.int), Jvm.Cond.code ({ cls := "java/lang/StringUTF16", name := "toBytes", desc := "([CII)[B" } : Jvm.MethodName) jdk_52_method_14_code (5 : Nat) (Option.some (Jvm.ClassFile.FieldType.array Jvm.ClassFile.FieldType.byte)), Jvm.Cond.code ({ cls := "java/lang/StringUTF16", name := "newBytesFor", desc := "(I)[B" } : Jvm.MethodName) jdk_52_method_2_code (1 : Nat) (Option.some (Jvm.ClassFile.FieldType.array Jvm.ClassFile.FieldType.byte)), Jvm.Cond.code ({ cls := "java/lang/StringUTF16", name := "newBytesLength", desc := "(I)I" } : Jvm.MethodName) jdk_52_method_3_code (1 : Nat) (Option.some Jvm.ClassFile.FieldType.int), Jvm.Cond.code ({ cls := "java/lang/StringUTF16", name := "putChar", desc := "([BII)V" } : Jvm.MethodName) jdk_52_method_4_code (3 : Nat) (Option.none : Option Jvm.ClassFile.FieldType), Jvm.Cond.code ({ cls := "java/lang/StringUTF16", name := "getChar", desc := "([BI)C" } : Jvm.MethodName) jdk_52_method_5_code (2 : Nat) (Option.some Jvm.ClassFile.FieldType.char), Jvm.Cond.code ({ cls := "java/lang/StringUTF16", name := "coderFromArrayLen", desc := "([BI)B" } : Jvm.MethodName) jdk_52_method_15_code (2 : Nat) (Option.some Jvm.ClassFile.FieldType.byte), Jvm.Cond.code ({ cls := "java/lang/StringUTF16", name := "indexOf", desc := "([BIII)I" } : Jvm.MethodName) jdk_52_method_40_code (4 : Nat) (Option.some Jvm.ClassFile.FieldType.int), Jvm.Cond.code ({ cls := "java/lang/StringUTF16", name := "indexOfChar", desc := "([BIII)I" } : Jvm.MethodName) jdk_52_method_47_code (4 : Nat) (Option.some Jvm.ClassFile.FieldType.int), Jvm.Cond.code ({ cls := "java/lang/StringUTF16", name := "checkBoundsBeginEnd", desc := "(II[B)V" } : Jvm.MethodName) jdk_52_method_93_code (3 : Nat) (Option.none : Option Jvm.ClassFile.FieldType), Jvm.Cond.code ({ cls := "java/lang/StringUTF16", name := "length", desc := "([B)I" } : Jvm.MethodName) jdk_52_method_6_code (1 : Nat) (Option.some Jvm.ClassFile.FieldType.int), Jvm.Cond.code ({ cls := "java/lang/String", name := "checkBoundsBeginEnd", desc := "(III)V" } : Jvm.MethodName) jdk_42_method_158_code (3 : Nat) (Option.none : Option Jvm.ClassFile.FieldType), Jvm.Cond.code ({ cls := "jdk/internal/util/Preconditions", name := "checkFromToIndex", desc := "(IIILjava/util/function/BiFunction;)I" } : Jvm.MethodName) jdk_41_method_12_code (4 : Nat) (Option.some Jvm.ClassFile.FieldType.int), Jvm.Cond.code ({ cls := "java/lang/StringUTF16", name := "indexOfCharUnsafe", desc := "([BIII)I" } : Jvm.MethodName) jdk_52_method_48_code (5 : Nat) (Option.some Jvm.ClassFile.FieldType.int), Jvm.Cond.code ({ cls := "java/lang/StringLatin1", name := "indexOfChar", desc := "([BIII)I" } : Jvm.MethodName) jdk_43_method_23_code (6 : Nat) (Option.some Jvm.ClassFile.FieldType.int)]
set_option maxRecDepth 65536 in
theorem codes_eq : words1.filter isCode = codes1 := rfl
theorem w_codes : ∀ c ∈ words1.filter isCode, c.before args0 about1 = true := by
  rw [codes_eq]
  intro c hc
  simp only [codes1, List.mem_cons, List.not_mem_nil, or_false] at hc
  rcases hc with rfl | rfl | rfl | rfl | rfl | rfl | rfl | rfl | rfl | rfl | rfl | rfl | rfl | rfl | rfl | rfl | rfl | rfl | rfl | rfl | rfl | rfl | rfl | rfl | rfl | rfl | rfl | rfl | rfl | rfl
  · exact w_c0
  · exact w_c1
  · exact w_c2
  · exact w_c3
  · exact w_c4
  · exact w_c5
  · exact w_c6
  · exact w_c7
  · exact w_c8
  · exact w_c9
  · exact w_c10
  · exact w_c11
  · exact w_c12
  · exact w_c13
  · exact w_c14
  · exact w_c15
  · exact w_c16
  · exact w_c17
  · exact w_c18
  · exact w_c19
  · exact w_c20
  · exact w_c21
  · exact w_c22
  · exact w_c23
  · exact w_c24
  · exact w_c25
  · exact w_c26
  · exact w_c27
  · exact w_c28
  · exact w_c29
set_option maxRecDepth 65536 in
theorem w_t1 : (words1.take 24).all (fun c => isCode c || c.before args0 about1) = true := by decide +kernel
set_option maxRecDepth 65536 in
theorem w_t2 : ((words1.drop 24).take 24).all (fun c => isCode c || c.before args0 about1) = true := by decide +kernel
set_option maxRecDepth 65536 in
theorem w_t3 : (((words1.drop 24).drop 24).take 24).all (fun c => isCode c || c.before args0 about1) = true := by decide +kernel
set_option maxRecDepth 65536 in
theorem w_t4 : ((((words1.drop 24).drop 24).drop 24).take 24).all (fun c => isCode c || c.before args0 about1) = true := by decide +kernel
set_option maxRecDepth 65536 in
theorem w_t5 : (((((words1.drop 24).drop 24).drop 24).drop 24).take 24).all (fun c => isCode c || c.before args0 about1) = true := by decide +kernel
set_option maxRecDepth 65536 in
theorem w_t6 : (((((words1.drop 24).drop 24).drop 24).drop 24).drop 24).all (fun c => isCode c || c.before args0 about1) = true := by decide +kernel
theorem w_tables : (allAtoms (Jvm.Cond.code x code maxLocals ret :: tables_1)).before args0 about1 = true := by
  rw [allAtoms_all]
  show words1.all (fun c => c.before args0 about1) = true
  refine all_split ?_ w_codes
  rw [← List.take_append_drop 24 words1, List.all_append, w_t1, ← List.take_append_drop 24 (words1.drop 24), List.all_append, w_t2, ← List.take_append_drop 24 ((words1.drop 24).drop 24), List.all_append, w_t3, ← List.take_append_drop 24 (((words1.drop 24).drop 24).drop 24), List.all_append, w_t4, ← List.take_append_drop 24 ((((words1.drop 24).drop 24).drop 24).drop 24), List.all_append, w_t5, w_t6]
  rfl
set_option maxRecDepth 65536 in
theorem w_rest : rest_1_c.before args0 about1 = true := by decide +kernel
set_option maxRecDepth 65536 in
theorem w_case : (Jvm.Cond.and given_1 narrow_1).before args0 about1 = true := by decide +kernel
set_option maxRecDepth 65536 in
theorem w_consts : constsHeld consts_1 about1 := Jvm.Lit.constsHeldB_iff.mp (by decide +kernel)
theorem w_applies : (headSpec (Jvm.Cond.code x code maxLocals ret :: tables_1) room_1).applies x e0.platform about1 = true :=
  (Spec.applies_iff w_frames).mpr ⟨w_running, w_runnable, w_alone, w_named, w_hears, w_ripe, w_room, w_tables⟩
theorem atStart : AtStart classFile x code maxLocals ret World_1 tables_1 room_1 Calls_1 rest_1 Pre_1 launch0 p0 e0 about1 theMethod args0 below0 :=
  ⟨lists_1, trivial, launch0.admits_env _ _ _, launch0.least_env, fairChoices_fair.cas, fairChoices_fair.clock, w_frames, w_args, w_heap, w_applies, ⟨w_consts, trivial⟩, w_rest, w_case⟩
end start1
theorem witness_1 : WitnessClaimed_1 := ⟨start1.p0, start1.e0, start1.about1, start1.theMethod, start1.args0, start1.below0, start1.atStart⟩
end Jvm.Pilot.@@N@@
