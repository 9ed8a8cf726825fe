import JvmDerived
import JvmDerived.Pilot.@@N@@Statement
import JvmDerived.Pilot.@@N@@Code
set_option linter.unusedVariables false
set_option linter.unusedSimpArgs false
namespace Jvm.Pilot.@@N@@.Own
open Jvm Jvm.ClassFile Sem Op Lib Jvm.Free Jvm.Stand Jvm.LawKit Jvm.RoadKit Bundle
/-! The walk's own logic: a judgement on a frame, one rule a step. -/
def Goes (p : Program) (e : Env) (below : List Frame) (PQ : Outcome → State → Prop) (t : State) : Prop :=
  ∃ s₂ o, Steps p.tables e below t s₂ ∧ s₂.status = .running ∧ Ended s₂ below o ∧ PQ o s₂
def EndP (wd : Bool) (s Z : State) (EL : List (String × Nat)) (n0 : Nat) (h0 : Heap) (ws : List Addr) (k n : Nat) (Q : Option Value → Heap → Prop) (o : Outcome) (u : State) : Prop :=
  ∃ v L, o = .returned v ∧ (Fr n0 L ∧ Old Z n0 u.heap ∧ Keep h0 u.heap ws ∧ Q v u.heap) ∧
    (match wd with | true => CHr Z EL s.vm s.heap u.vm u.heap ∧ ReturnedEndW s o u L k n | false => FrameEnd s o u L k n)
/-- the contract of one body: from the heap h0, with these arguments, it returns and Q holds; what lay in h0 stands but for ws -/
def Con (wd : Bool) (l : Launch) (Z : State) (EL : List (String × Nat)) (n0 : Nat) (y : MethodName) (bytes : ByteArray) (maxL : Nat) (ret : Option FieldType) (rm : Room) (as' : Array Value) (h0 : Heap) (ws : List Addr) (Q : Option Value → Heap → Prop) : Prop :=
  ∀ wds : List Jvm.Cond, MetFree l y (head1 (Jvm.Cond.code y bytes maxL ret :: wds) rm) (fun a U => a = as' ∧ Z.Warmed39 U.vm ∧ U.heap = h0 ∧ (wd = true → CHv Z EL U.vm h0)) (fun _ _ _ _ _ => True)
    (fun _ U o U' => EndP wd U Z EL n0 h0 ws rm.cells rm.slots Q o U')
def Good (p : Program) (meth : Method) (c : Code) (code : ByteArray) (maxL : Nat) (ret : Option FieldType) (nm : String) : Prop :=
  p.tables.exec = Jvm.exec ∧ c.code = code ∧ c.maxLocals = maxL ∧ meth.sig.returnType = ret ∧ meth.locks = false ∧ meth.name = nm
def Wk (p : Program) (l : Launch) (e : Env) (R : Room) (s : State) (m : MethodId) (args : Array Value) (below : List Frame) (meth : Method) (c : Code)
    (own : String) (Z : State) (a0 : Array Value) (EL : List (String × Nat)) (n0 : Nat) (h0 : Heap) (ws : List Addr) (wd : Bool)
    (sf : List Addr) (vm : Vm) (T : State) (h : Heap) (locs : List Loc) (cells slots : Nat) : Prop :=
  Stand p l e R (s.setVm vm) m args below meth c T locs cells slots ∧ T.heap = h ∧ Z.Warmed39 vm ∧ vm.findClass own = some m.cls ∧ s.Since vm h.size ∧ s.heap = h0 ∧
    Fr n0 locs ∧ Old Z n0 h ∧ Keep h0 h ws ∧ (wd = false → vm = s.vm) ∧
    (wd = true → EW Z a0 EL ∧ CHr Z EL s.vm h0 vm h ∧ ∀ x ∈ sf, x < h.size ∧ Safe Z EL vm h x)
def Ok (p : Program) (l : Launch) (e : Env) (R : Room) (s : State) (m : MethodId) (args : Array Value) (below : List Frame) (meth : Method) (c : Code)
    (own : String) (Z : State) (a0 : Array Value) (EL : List (String × Nat)) (n0 : Nat) (h0 : Heap) (ws : List Addr) (wd : Bool) (Q : Option Value → Heap → Prop)
    (sf : List Addr) (h : Heap) (cells slots : Nat) (g : JFrame) : Prop :=
  ∀ vm T locs, Wk p l e R s m args below meth c own Z a0 EL n0 h0 ws wd sf vm T h locs cells slots → Goes p e below (EndP wd s Z EL n0 h0 ws R.cells R.slots Q) (T.setTop g)
def SafeFor (wd : Bool) (Z : State) (EL : List (String × Nat)) (sf : List Addr) (h : Heap) (a : Addr) : Prop := wd = true → (a ∈ sf ∨ ∀ vm, Z.vm.Alike vm → Safe Z EL vm h a)
section Core
variable {p : Program} {l : Launch} {e : Env} {R : Room} {s : State} {m : MethodId} {args : Array Value} {below : List Frame} {meth : Method} {c : Code}
  {own : String} {Z : State} {a0 : Array Value} {EL : List (String × Nat)} {n0 : Nat} {h0 : Heap} {ws : List Addr} {wd : Bool} {Q : Option Value → Heap → Prop}
  {sf : List Addr} {h : Heap} {cells slots : Nat} {g g' : JFrame} {code : ByteArray} {maxL : Nat} {ret : Option FieldType} {nm : String} {a : Addr}
theorem SafeFor.narrow : SafeFor false Z EL sf h a := fun q => nomatch q
theorem SafeFor.mem (q : a ∈ sf) : SafeFor wd Z EL sf h a := fun _ => Or.inl q
theorem SafeFor.exa {C : String} (E : Exa Z h a C) (h1 : C ≠ "java/lang/String") (h2 : C ≠ "[B") : SafeFor wd Z EL sf h a := fun _ => Or.inr fun _ hal => Safe.exa hal E h1 h2
theorem SafeFor.arv {k : ClassId} {ty : FieldType} {z : Int32} {vs : List Value} {dv : Value} (F : Arv Z h a k ty z vs dv) (ht : ty ≠ .byte) : SafeFor wd Z EL sf h a := fun _ => Or.inr fun _ hal => Safe.arv hal F ht
/-- entering -/
theorem Con.intro {y : MethodName} {rm : Room} {as' : Array Value} (hp : plainFor y = true) (hO : Old Z n0 h0) (hE : wd = true → EW Z a0 EL)
    (body : ∀ (p : Program) (e : Env) (s : State) (m : MethodId) (below : List Frame) (meth : Method) (c : Code), Good p meth c code maxL ret y.name →
      Ok p l e rm s m as' below meth c y.cls Z a0 EL n0 h0 ws wd Q [] h0 0 0 (entryFrame m as' maxL)) : Con wd l Z EL n0 y code maxL ret rm as' h0 ws Q := by
  intro wds
  refine MetFree.of_bodySF hp hisR ?_
  intro p e s m args below meth c s₁ Bd hml hP hK
  obtain ⟨rfl, hZ, hh, hC⟩ := hP
  have hown := findClass_of_methodNamed Bd.named
  have hnm := (name_of_methodNamed Bd.named Bd.method).1
  have X0 : Stand p l e rm s m _ below meth c s₁ [] 0 0 := Stand.of_body Bd
  have e0 : s₁.heap = h0 := by rw [← hh, Bd.state]; rfl
  exact body p e s m below meth c ⟨Bd.exec, Bd.bytes, hml, Bd.returns, Bd.notSynchronized, hnm⟩ s.vm s₁ []
    ⟨X0, e0, hZ, hown, (State.WarmedH.refl s).since _, hh, Fr.nil _, hO, Keep.refl _ _, fun _ => rfl, fun q => ⟨hE q, CHr.refl (hC q), fun _ z => nomatch z⟩⟩
/-- a step that leaves tables and heap -/
theorem ok_step (st : ∀ T target, At T m c below → Steps p.tables e below (T.setTop g') target → Steps p.tables e below (T.setTop g) target)
    (k : Ok p l e R s m args below meth c own Z a0 EL n0 h0 ws wd Q sf h cells slots g') : Ok p l e R s m args below meth c own Z a0 EL n0 h0 ws wd Q sf h cells slots g := by
  intro vm T locs W
  obtain ⟨s₂, o, h1, h2⟩ := k vm T locs W
  exact ⟨s₂, o, st T s₂ W.1.here h1, h2⟩
/-- a step that leaves the heap and may warm the tables -/
theorem ok_stepT (st : ∀ vm T locs, Stand p l e R (s.setVm vm) m args below meth c T locs cells slots → T.heap = h → Z.Warmed39 vm → vm.findClass own = some m.cls → Old Z n0 h →
      ∃ T', Stand p l e R (s.setVm vm) m args below meth c T' locs cells slots ∧ T'.heap = h ∧ ∀ target, Steps p.tables e below (T'.setTop g') target → Steps p.tables e below (T.setTop g) target)
    (k : Ok p l e R s m args below meth c own Z a0 EL n0 h0 ws wd Q sf h cells slots g') : Ok p l e R s m args below meth c own Z a0 EL n0 h0 ws wd Q sf h cells slots g := by
  intro vm T locs W
  obtain ⟨X, e0, hZ, hown, hS, hh, N, O, K, r⟩ := W
  obtain ⟨T', X', e1, st'⟩ := st vm T locs X e0 hZ hown O
  obtain ⟨s₂, o, h1, h2⟩ := k vm T' locs ⟨X', e1, hZ, hown, hS, hh, N, O, K, r⟩
  exact ⟨s₂, o, st' s₂ h1, h2⟩
/-- a step that makes cells at the heap's end -/
theorem ok_stepE {cells' slots' : Nat} {sf' : List Addr} {P : Heap → Prop} (hg : ∀ x ∈ sf', x ∈ sf ∨ x = h.size)
    (st : ∀ vm T locs, Stand p l e R (s.setVm vm) m args below meth c T locs cells slots → T.heap = h → Z.Warmed39 vm → vm.findClass own = some m.cls → Old Z n0 h →
      ∃ T' h', Stand p l e R (s.setVm vm) m args below meth c T' locs cells' slots' ∧ T'.heap = h' ∧ Ext h h' ∧ h.size < h'.size ∧ P h' ∧ ∀ target, Steps p.tables e below (T'.setTop g') target → Steps p.tables e below (T.setTop g) target)
    (k : ∀ h', Keep h h' [] → n0 ≤ h.size → h0.size ≤ h.size → P h' → Ok p l e R s m args below meth c own Z a0 EL n0 h0 ws wd Q sf' h' cells' slots' g') :
    Ok p l e R s m args below meth c own Z a0 EL n0 h0 ws wd Q sf h cells slots g := by
  intro vm T locs W
  obtain ⟨X, e0, hZ, hown, hS, hh, N, O, K, r, r'⟩ := W
  obtain ⟨T', h', X', e1, E, hlt, hP, st'⟩ := st vm T locs X e0 hZ hown O
  have hsz : n0 ≤ h.size := O.1 ▸ O.2.1
  obtain ⟨s₂, o, h1, h2⟩ := k h' ((Keep.refl h []).ext E) hsz K.1 hP vm T' locs ⟨X', e1, hZ, hown, ⟨hS.1, fun j q hj hq => ⟨(hS.2 j q hj hq).1, Nat.lt_of_lt_of_le (hS.2 j q hj hq).2 E.1⟩⟩, hh, N, O.ext E, K.ext E, r, fun q => by
    obtain ⟨hE, hC, hs⟩ := r' q
    refine ⟨hE, hC.trans (CHr.ext E hC.1), fun x hx => ?_⟩
    rcases hg x hx with z | rfl
    · exact ⟨Nat.lt_of_lt_of_le (hs x z).1 E.1, Safe.ext E hC.1 (hs x z).2⟩
    · exact ⟨hlt, Safe.ext E hC.1 (Safe.new (Nat.le_refl _))⟩⟩
  exact ⟨s₂, o, st' s₂ h1, h2⟩
/-- a step that writes one place -/
theorem ok_stepW {sl : Nat} {v : Value} (hn : n0 ≤ a) (hw : a ∈ ws ∨ h0.size ≤ a) (hs : SafeFor wd Z EL sf h a)
    (st : ∀ vm T locs, Stand p l e R (s.setVm vm) m args below meth c T locs cells slots → T.heap = h → Z.Warmed39 vm → vm.findClass own = some m.cls → Old Z n0 h →
      ∃ T' h', Stand p l e R (s.setVm vm) m args below meth c T' (locs ++ [⟨a, sl⟩]) cells slots ∧ T'.heap = h' ∧ Wr h h' a sl v ∧ ∀ target, Steps p.tables e below (T'.setTop g') target → Steps p.tables e below (T.setTop g) target)
    (k : ∀ h', Keep h h' [a] → Wr h h' a sl v → Ok p l e R s m args below meth c own Z a0 EL n0 h0 ws wd Q sf h' cells slots g') :
    Ok p l e R s m args below meth c own Z a0 EL n0 h0 ws wd Q sf h cells slots g := by
  intro vm T locs W
  obtain ⟨X, e0, hZ, hown, hS, hh, N, O, K, r, r'⟩ := W
  obtain ⟨T', h', X', e1, Wr1, st'⟩ := st vm T locs X e0 hZ hown O
  have hsz := Wr1.size
  obtain ⟨s₂, o, h1, h2⟩ := k h' (Keep.of_wr Wr1) Wr1 vm T' _ ⟨X', e1, hZ, hown, by rw [hsz]; exact hS, hh, Fr.snoc X' N hn, O.wr Wr1 hn, K.wr Wr1 hw, r, fun q => by
    obtain ⟨hE, hC, hs'⟩ := r' q
    have hsa : Safe Z EL vm h a := by
      rcases hs q with z | z
      · exact (hs' a z).2
      · exact z vm hZ.alike
    exact ⟨hE, hC.trans (CHr.wr Wr1 hsa hC.1), fun x hx => ⟨by rw [hsz]; exact (hs' x hx).1, Safe.wr Wr1 hsa hC.1 (hs' x hx).2⟩⟩⟩
  exact ⟨s₂, o, st' s₂ h1, h2⟩
/-- the same frame, said otherwise -/
theorem ok_as (g' : JFrame) (q : g = g') (k : Ok p l e R s m args below meth c own Z a0 EL n0 h0 ws wd Q sf h cells slots g') : Ok p l e R s m args below meth c own Z a0 EL n0 h0 ws wd Q sf h cells slots g := q ▸ k
/-- more cells and slots booked -/
theorem ok_book (cells' slots' : Nat) (q1 : cells ≤ cells') (q2 : slots ≤ slots') (k : Ok p l e R s m args below meth c own Z a0 EL n0 h0 ws wd Q sf h cells' slots' g) : Ok p l e R s m args below meth c own Z a0 EL n0 h0 ws wd Q sf h cells slots g := by
  intro vm T locs W
  obtain ⟨X, r⟩ := W
  exact k vm T locs ⟨{ X with same := X.same.mono q1 q2 }, r⟩
/-- another list of safe places -/
theorem ok_sf (sf' : List Addr) (q : ∀ x ∈ sf', x < h.size ∧ SafeFor wd Z EL sf h x) (k : Ok p l e R s m args below meth c own Z a0 EL n0 h0 ws wd Q sf' h cells slots g) : Ok p l e R s m args below meth c own Z a0 EL n0 h0 ws wd Q sf h cells slots g := by
  intro vm T locs W
  obtain ⟨X, e0, hZ, hown, hS, hh, N, O, K, r, r'⟩ := W
  exact k vm T locs ⟨X, e0, hZ, hown, hS, hh, N, O, K, r, fun w => by
    obtain ⟨hE, hC, hs⟩ := r' w
    refine ⟨hE, hC, fun x hx => ⟨(q x hx).1, ?_⟩⟩
    rcases (q x hx).2 w with z | z
    · exact (hs x z).2
    · exact z vm hZ.alike⟩
theorem ok_old (k : Old Z n0 h → Ok p l e R s m args below meth c own Z a0 EL n0 h0 ws wd Q sf h cells slots g) : Ok p l e R s m args below meth c own Z a0 EL n0 h0 ws wd Q sf h cells slots g := by
  intro vm T locs W
  exact k W.2.2.2.2.2.2.2.1 vm T locs W
theorem ok_keep (k : Keep h0 h ws → Ok p l e R s m args below meth c own Z a0 EL n0 h0 ws wd Q sf h cells slots g) : Ok p l e R s m args below meth c own Z a0 EL n0 h0 ws wd Q sf h cells slots g := by
  intro vm T locs W
  exact k W.2.2.2.2.2.2.2.2.1 vm T locs W
/-- the end -/
theorem ok_end {v : Option Value} (G : Good p meth c code maxL ret nm) (hv : ret = none → v = none) (hq : Q v h)
    (st : ∀ vm T locs fs, Stand p l e R (s.setVm vm) m args below meth c T locs cells slots → (∀ (f : JFrame) (acts : List Action), f.method = m → f.locked = none → f.entered = [] → (doReturn e (T.setTop f) acts v).1 = T.setFrames fs) →
      Steps p.tables e below (T.setTop g) (T.setFrames fs)) (hc : cells ≤ R.cells) (hl : slots ≤ R.slots) : Ok p l e R s m args below meth c own Z a0 EL n0 h0 ws wd Q sf h cells slots g := by
  intro vm T locs W
  obtain ⟨X, e0, hZ, hown, hS, hh, N, O, K, r, r'⟩ := W
  have hlocks : meth.locks = false := G.2.2.2.2.1
  have hv' : meth.sig.returnType = none → v = none := by rw [G.2.2.2.1]; exact hv
  subst e0
  cases wd with
  | false =>
    have e1 : vm = s.vm := r rfl
    obtain ⟨fs, hr, hrun, hended, hW, hsame⟩ := X.leave (v := v) hv' hlocks
    refine ⟨_, _, st vm T locs fs X hr, hrun, hended, v, locs, rfl, ⟨N, O, K, hq⟩, ⟨v, rfl⟩, ?_, ?_⟩
    · rw [e1] at hW; exact hW
    · rw [e1] at hsame; exact hsame.mono hc hl
  | true =>
    obtain ⟨hE, hC, hs⟩ := r' rfl
    obtain ⟨fs, hr, hrun, hended, hEnd⟩ := X.leaveW hS (Nat.le_refl _) (v := v) hv' hlocks
    refine ⟨_, _, st vm T locs fs X hr, hrun, hended, v, locs, rfl, ⟨N, O, K, hq⟩, ?_, hEnd.1, hEnd.2.1, hEnd.2.2.1, hEnd.2.2.2.mono hc hl⟩
    have q := hC.trans (CHv.at X hZ hE hC.1)
    rw [← hh] at q
    exact q
theorem ok_return (G : Good p meth c code maxL ret nm) (hret : ret = none) {pc : Nat} {L : Array Slot} (hd : decode code pc = .ok (.return_, 1)) (hq : Q none h) (hc : cells ≤ R.cells) (hl : slots ≤ R.slots) :
    Ok p l e R s m args below meth c own Z a0 EL n0 h0 ws wd Q sf h cells slots (mkF m pc L []) :=
  ok_end G (fun _ => rfl) hq (fun vm T locs fs X hr => X.returnOut G.1 (by rw [G.2.2.2.1]; exact hret) (hb G.2.1 hd) hr) hc hl
theorem ok_ret {t : FieldType} {w : Value} {i : Instr} (G : Good p meth c code maxL ret nm) (hret : ret = some t) {pc : Nat} {L : Array Slot} {S : List Value}
    (hi : (i = .ireturn ∧ (t = .int ∨ t = .boolean ∨ t = .byte ∨ t = .char ∨ t = .short) ∧ ∃ z, w = .int z) ∨ (i = .lreturn ∧ t = .long ∧ ∃ z, w = .long z) ∨ (i = .dreturn ∧ t = .double ∧ ∃ z, w = .double z) ∨ (i = .freturn ∧ t = .float ∧ ∃ z, w = .float z) ∨ (i = .areturn ∧ t.isReference = true ∧ w.isRef = true))
    (hd : decode code pc = .ok (i, 1)) (hn : narrow t w = w) (hq : Q (some w) h) (hc : cells ≤ R.cells) (hl : slots ≤ R.slots) :
    Ok p l e R s m args below meth c own Z a0 EL n0 h0 ws wd Q sf h cells slots (mkF m pc L (w :: S)) :=
  ok_end G (fun q => by rw [hret] at q; cases q) hq (fun vm T locs fs X hr => retOut X G.1 (by rw [G.2.2.2.1]; exact hret) hn hi (hb G.2.1 hd) hr) hc hl
theorem ok_retI {z : Int32} (G : Good p meth c code maxL ret nm) (hret : ret = some .int) {pc : Nat} {L : Array Slot} {S : List Value} (hd : decode code pc = .ok (.ireturn, 1)) (hq : Q (some (.int z)) h) (hc : cells ≤ R.cells) (hl : slots ≤ R.slots) :
    Ok p l e R s m args below meth c own Z a0 EL n0 h0 ws wd Q sf h cells slots (mkF m pc L (.int z :: S)) := ok_ret G hret (Or.inl ⟨rfl, Or.inl rfl, z, rfl⟩) hd rfl hq hc hl
theorem ok_retN {z : Int32} {t : FieldType} (G : Good p meth c code maxL ret nm) (hret : ret = some t) (ht : t = .boolean ∨ t = .byte ∨ t = .char ∨ t = .short) {pc : Nat} {L : Array Slot} {S : List Value} (hd : decode code pc = .ok (.ireturn, 1)) (hn : narrow t (.int z) = .int z) (hq : Q (some (.int z)) h) (hc : cells ≤ R.cells) (hl : slots ≤ R.slots) :
    Ok p l e R s m args below meth c own Z a0 EL n0 h0 ws wd Q sf h cells slots (mkF m pc L (.int z :: S)) := ok_ret G hret (Or.inl ⟨rfl, Or.inr ht, z, rfl⟩) hd hn hq hc hl
theorem ok_retJ {z : Int64} (G : Good p meth c code maxL ret nm) (hret : ret = some .long) {pc : Nat} {L : Array Slot} {S : List Value} (hd : decode code pc = .ok (.lreturn, 1)) (hq : Q (some (.long z)) h) (hc : cells ≤ R.cells) (hl : slots ≤ R.slots) :
    Ok p l e R s m args below meth c own Z a0 EL n0 h0 ws wd Q sf h cells slots (mkF m pc L (.long z :: S)) := ok_ret G hret (Or.inr (Or.inl ⟨rfl, rfl, z, rfl⟩)) hd rfl hq hc hl
theorem ok_retA {w : Value} {t : FieldType} (G : Good p meth c code maxL ret nm) (hret : ret = some t) (ht : t.isReference = true) (hw : w.isRef = true) {pc : Nat} {L : Array Slot} {S : List Value} (hd : decode code pc = .ok (.areturn, 1)) (hn : narrow t w = w) (hq : Q (some w) h) (hc : cells ≤ R.cells) (hl : slots ≤ R.slots) :
    Ok p l e R s m args below meth c own Z a0 EL n0 h0 ws wd Q sf h cells slots (mkF m pc L (w :: S)) := ok_ret G hret (Or.inr (Or.inr (Or.inr (Or.inr ⟨rfl, ht, hw⟩)))) hd hn hq hc hl
end Core
end Jvm.Pilot.@@N@@.Own
namespace Jvm.Pilot.@@N@@.Own
open Jvm Jvm.ClassFile Sem Op Lib Jvm.Free Jvm.Stand Jvm.LawKit Jvm.RoadKit Bundle
section Plain
variable {p : Program} {l : Launch} {e : Env} {R : Room} {s : State} {m : MethodId} {args : Array Value} {below : List Frame} {meth : Method} {c : Code}
  {own : String} {Z : State} {a0 : Array Value} {EL : List (String × Nat)} {n0 : Nat} {h0 : Heap} {ws : List Addr} {wd : Bool} {Q : Option Value → Heap → Prop}
  {sf : List Addr} {h : Heap} {cells slots : Nat} {code : ByteArray} {maxL : Nat} {ret : Option FieldType} {nm : String} {a : Addr}
theorem ok_aload (G : Good p meth c code maxL ret nm) {pc : Nat} {L : Array Slot} {S : List Value} {k0 : Nat} {v : Value} (hd : decode code pc = .ok (.aload k0, 2)) (hl : L[k0]? = some (.val v)) (hv : v.isRef = true) (k : Ok p l e R s m args below meth c own Z a0 EL n0 h0 ws wd Q sf h cells slots (mkF m (pc + 2) L (v :: S))) : Ok p l e R s m args below meth c own Z a0 EL n0 h0 ws wd Q sf h cells slots (mkF m pc L S) :=
  ok_step (fun T t hA k => XS.aload hA G.1 rfl (hb G.2.1 hd) hl hv k) k
theorem ok_aloadN (G : Good p meth c code maxL ret nm) {pc : Nat} {L : Array Slot} {S : List Value} {k0 : Fin 4} {v : Value} (hd : decode code pc = .ok (.aload_n k0, 1)) (hl : L[k0.val]? = some (.val v)) (hv : v.isRef = true) (k : Ok p l e R s m args below meth c own Z a0 EL n0 h0 ws wd Q sf h cells slots (mkF m (pc + 1) L (v :: S))) : Ok p l e R s m args below meth c own Z a0 EL n0 h0 ws wd Q sf h cells slots (mkF m pc L S) :=
  ok_step (fun T t hA k => XS.aloadN hA G.1 rfl (hb G.2.1 hd) hl hv k) k
theorem ok_iload (G : Good p meth c code maxL ret nm) {pc : Nat} {L : Array Slot} {S : List Value} {k0 : Nat} {v : Int32} (hd : decode code pc = .ok (.iload k0, 2)) (hl : L[k0]? = some (.val (.int v))) (k : Ok p l e R s m args below meth c own Z a0 EL n0 h0 ws wd Q sf h cells slots (mkF m (pc + 2) L ((.int v) :: S))) : Ok p l e R s m args below meth c own Z a0 EL n0 h0 ws wd Q sf h cells slots (mkF m pc L S) :=
  ok_step (fun T t hA k => XS.iload hA G.1 rfl (hb G.2.1 hd) hl k) k
theorem ok_iloadN (G : Good p meth c code maxL ret nm) {pc : Nat} {L : Array Slot} {S : List Value} {k0 : Fin 4} {v : Int32} (hd : decode code pc = .ok (.iload_n k0, 1)) (hl : L[k0.val]? = some (.val (.int v))) (k : Ok p l e R s m args below meth c own Z a0 EL n0 h0 ws wd Q sf h cells slots (mkF m (pc + 1) L ((.int v) :: S))) : Ok p l e R s m args below meth c own Z a0 EL n0 h0 ws wd Q sf h cells slots (mkF m pc L S) :=
  ok_step (fun T t hA k => XS.iloadN hA G.1 rfl (hb G.2.1 hd) hl k) k
theorem ok_lload (G : Good p meth c code maxL ret nm) {pc : Nat} {L : Array Slot} {S : List Value} {k0 : Nat} {v : Int64} (hd : decode code pc = .ok (.lload k0, 2)) (hl : L[k0]? = some (.val (.long v))) (k : Ok p l e R s m args below meth c own Z a0 EL n0 h0 ws wd Q sf h cells slots (mkF m (pc + 2) L ((.long v) :: S))) : Ok p l e R s m args below meth c own Z a0 EL n0 h0 ws wd Q sf h cells slots (mkF m pc L S) :=
  ok_step (fun T t hA k => XS.lload hA G.1 rfl (hb G.2.1 hd) hl k) k
theorem ok_lloadN (G : Good p meth c code maxL ret nm) {pc : Nat} {L : Array Slot} {S : List Value} {k0 : Fin 4} {v : Int64} (hd : decode code pc = .ok (.lload_n k0, 1)) (hl : L[k0.val]? = some (.val (.long v))) (k : Ok p l e R s m args below meth c own Z a0 EL n0 h0 ws wd Q sf h cells slots (mkF m (pc + 1) L ((.long v) :: S))) : Ok p l e R s m args below meth c own Z a0 EL n0 h0 ws wd Q sf h cells slots (mkF m pc L S) :=
  ok_step (fun T t hA k => XS.lloadN hA G.1 rfl (hb G.2.1 hd) hl k) k
theorem ok_istore (G : Good p meth c code maxL ret nm) {pc : Nat} {L : Array Slot} {S : List Value} {k0 : Nat} {v : Int32} (L' : Array Slot) (hd : decode code pc = .ok (.istore k0, 2)) (hl : storeLocals L k0 (.int v) = some L') (k : Ok p l e R s m args below meth c own Z a0 EL n0 h0 ws wd Q sf h cells slots (mkF m (pc + 2) L' S)) : Ok p l e R s m args below meth c own Z a0 EL n0 h0 ws wd Q sf h cells slots (mkF m pc L ((.int v) :: S)) :=
  ok_step (fun T t hA k => XS.istore hA G.1 rfl (hb G.2.1 hd) rfl hl k) k
theorem ok_istoreN (G : Good p meth c code maxL ret nm) {pc : Nat} {L : Array Slot} {S : List Value} {k0 : Fin 4} {v : Int32} (L' : Array Slot) (hd : decode code pc = .ok (.istore_n k0, 1)) (hl : storeLocals L k0.val (.int v) = some L') (k : Ok p l e R s m args below meth c own Z a0 EL n0 h0 ws wd Q sf h cells slots (mkF m (pc + 1) L' S)) : Ok p l e R s m args below meth c own Z a0 EL n0 h0 ws wd Q sf h cells slots (mkF m pc L ((.int v) :: S)) :=
  ok_step (fun T t hA k => XS.istoreN hA G.1 rfl (hb G.2.1 hd) rfl hl k) k
theorem ok_lstore (G : Good p meth c code maxL ret nm) {pc : Nat} {L : Array Slot} {S : List Value} {k0 : Nat} {v : Int64} (L' : Array Slot) (hd : decode code pc = .ok (.lstore k0, 2)) (hl : storeLocals L k0 (.long v) = some L') (k : Ok p l e R s m args below meth c own Z a0 EL n0 h0 ws wd Q sf h cells slots (mkF m (pc + 2) L' S)) : Ok p l e R s m args below meth c own Z a0 EL n0 h0 ws wd Q sf h cells slots (mkF m pc L ((.long v) :: S)) :=
  ok_step (fun T t hA k => XS.lstore hA G.1 rfl (hb G.2.1 hd) rfl hl k) k
theorem ok_lstoreN (G : Good p meth c code maxL ret nm) {pc : Nat} {L : Array Slot} {S : List Value} {k0 : Fin 4} {v : Int64} (L' : Array Slot) (hd : decode code pc = .ok (.lstore_n k0, 1)) (hl : storeLocals L k0.val (.long v) = some L') (k : Ok p l e R s m args below meth c own Z a0 EL n0 h0 ws wd Q sf h cells slots (mkF m (pc + 1) L' S)) : Ok p l e R s m args below meth c own Z a0 EL n0 h0 ws wd Q sf h cells slots (mkF m pc L ((.long v) :: S)) :=
  ok_step (fun T t hA k => XS.lstoreN hA G.1 rfl (hb G.2.1 hd) rfl hl k) k
theorem ok_astore (G : Good p meth c code maxL ret nm) {pc : Nat} {L : Array Slot} {S : List Value} {k0 : Nat} {v : Value} (L' : Array Slot) (hd : decode code pc = .ok (.astore k0, 2)) (hv : v.isRef = true) (hl : storeLocals L k0 v = some L') (k : Ok p l e R s m args below meth c own Z a0 EL n0 h0 ws wd Q sf h cells slots (mkF m (pc + 2) L' S)) : Ok p l e R s m args below meth c own Z a0 EL n0 h0 ws wd Q sf h cells slots (mkF m pc L (v :: S)) :=
  ok_step (fun T t hA k => XS.astore hA G.1 rfl (hb G.2.1 hd) rfl hv hl k) k
theorem ok_astoreN (G : Good p meth c code maxL ret nm) {pc : Nat} {L : Array Slot} {S : List Value} {k0 : Fin 4} {v : Value} (L' : Array Slot) (hd : decode code pc = .ok (.astore_n k0, 1)) (hv : v.isRef = true) (hl : storeLocals L k0.val v = some L') (k : Ok p l e R s m args below meth c own Z a0 EL n0 h0 ws wd Q sf h cells slots (mkF m (pc + 1) L' S)) : Ok p l e R s m args below meth c own Z a0 EL n0 h0 ws wd Q sf h cells slots (mkF m pc L (v :: S)) :=
  ok_step (fun T t hA k => XS.astoreN hA G.1 rfl (hb G.2.1 hd) rfl hv hl k) k
theorem ok_iconst (G : Good p meth c code maxL ret nm) {pc : Nat} {L : Array Slot} {S : List Value} {i : Int} (v : Int32) (hd : decode code pc = .ok (.iconst i, 1)) (hv : Int32.ofInt i = v) (k : Ok p l e R s m args below meth c own Z a0 EL n0 h0 ws wd Q sf h cells slots (mkF m (pc + 1) L (.int v :: S))) : Ok p l e R s m args below meth c own Z a0 EL n0 h0 ws wd Q sf h cells slots (mkF m pc L S) :=
  ok_step (fun T t hA k => XS.iconst hA G.1 rfl (hb G.2.1 hd) (by rw [hv]; exact k)) k
theorem ok_bipush (G : Good p meth c code maxL ret nm) {pc : Nat} {L : Array Slot} {S : List Value} {i : Int} (v : Int32) (hd : decode code pc = .ok (.bipush i, 2)) (hv : (Int8.ofInt i).toInt32 = v) (k : Ok p l e R s m args below meth c own Z a0 EL n0 h0 ws wd Q sf h cells slots (mkF m (pc + 2) L (.int v :: S))) : Ok p l e R s m args below meth c own Z a0 EL n0 h0 ws wd Q sf h cells slots (mkF m pc L S) :=
  ok_step (fun T t hA k => XS.bipush hA G.1 rfl (hb G.2.1 hd) (by rw [hv]; exact k)) k
theorem ok_sipush (G : Good p meth c code maxL ret nm) {pc : Nat} {L : Array Slot} {S : List Value} {i : Int} (v : Int32) (hd : decode code pc = .ok (.sipush i, 3)) (hv : (Int16.ofInt i).toInt32 = v) (k : Ok p l e R s m args below meth c own Z a0 EL n0 h0 ws wd Q sf h cells slots (mkF m (pc + 3) L (.int v :: S))) : Ok p l e R s m args below meth c own Z a0 EL n0 h0 ws wd Q sf h cells slots (mkF m pc L S) :=
  ok_step (fun T t hA k => XS.sipush hA G.1 rfl (hb G.2.1 hd) (by rw [hv]; exact k)) k
theorem ok_lconst0 (G : Good p meth c code maxL ret nm) {pc : Nat} {L : Array Slot} {S : List Value}  (hd : decode code pc = .ok (.lconst 0, 1)) (k : Ok p l e R s m args below meth c own Z a0 EL n0 h0 ws wd Q sf h cells slots (mkF m (pc + 1) L (.long 0 :: S))) : Ok p l e R s m args below meth c own Z a0 EL n0 h0 ws wd Q sf h cells slots (mkF m pc L S) :=
  ok_step (fun T t hA k => XS.lconst hA G.1 rfl (hb G.2.1 hd) k) k
theorem ok_lconst1 (G : Good p meth c code maxL ret nm) {pc : Nat} {L : Array Slot} {S : List Value}  (hd : decode code pc = .ok (.lconst 1, 1)) (k : Ok p l e R s m args below meth c own Z a0 EL n0 h0 ws wd Q sf h cells slots (mkF m (pc + 1) L (.long 1 :: S))) : Ok p l e R s m args below meth c own Z a0 EL n0 h0 ws wd Q sf h cells slots (mkF m pc L S) :=
  ok_step (fun T t hA k => XS.lconst hA G.1 rfl (hb G.2.1 hd) k) k
theorem ok_aconst_null (G : Good p meth c code maxL ret nm) {pc : Nat} {L : Array Slot} {S : List Value}  (hd : decode code pc = .ok (.aconst_null, 1)) (k : Ok p l e R s m args below meth c own Z a0 EL n0 h0 ws wd Q sf h cells slots (mkF m (pc + 1) L (.null :: S))) : Ok p l e R s m args below meth c own Z a0 EL n0 h0 ws wd Q sf h cells slots (mkF m pc L S) :=
  ok_step (fun T t hA k => XS.aconstNull hA G.1 rfl (hb G.2.1 hd) k) k
theorem ok_iadd (G : Good p meth c code maxL ret nm) {pc : Nat} {L : Array Slot} {S : List Value} {x y : Int32} (hd : decode code pc = .ok (.iadd, 1)) (k : Ok p l e R s m args below meth c own Z a0 EL n0 h0 ws wd Q sf h cells slots (mkF m (pc + 1) L (.int (x + y) :: S))) : Ok p l e R s m args below meth c own Z a0 EL n0 h0 ws wd Q sf h cells slots (mkF m pc L (.int y :: .int x :: S)) :=
  ok_step (fun T t hA k => XS.iadd hA G.1 rfl (hb G.2.1 hd) rfl k) k
theorem ok_isub (G : Good p meth c code maxL ret nm) {pc : Nat} {L : Array Slot} {S : List Value} {x y : Int32} (hd : decode code pc = .ok (.isub, 1)) (k : Ok p l e R s m args below meth c own Z a0 EL n0 h0 ws wd Q sf h cells slots (mkF m (pc + 1) L (.int (x - y) :: S))) : Ok p l e R s m args below meth c own Z a0 EL n0 h0 ws wd Q sf h cells slots (mkF m pc L (.int y :: .int x :: S)) :=
  ok_step (fun T t hA k => XS.isub hA G.1 rfl (hb G.2.1 hd) rfl k) k
theorem ok_imul (G : Good p meth c code maxL ret nm) {pc : Nat} {L : Array Slot} {S : List Value} {x y : Int32} (hd : decode code pc = .ok (.imul, 1)) (k : Ok p l e R s m args below meth c own Z a0 EL n0 h0 ws wd Q sf h cells slots (mkF m (pc + 1) L (.int (x * y) :: S))) : Ok p l e R s m args below meth c own Z a0 EL n0 h0 ws wd Q sf h cells slots (mkF m pc L (.int y :: .int x :: S)) :=
  ok_step (fun T t hA k => XS.imul hA G.1 rfl (hb G.2.1 hd) rfl k) k
theorem ok_iand (G : Good p meth c code maxL ret nm) {pc : Nat} {L : Array Slot} {S : List Value} {x y : Int32} (hd : decode code pc = .ok (.iand, 1)) (k : Ok p l e R s m args below meth c own Z a0 EL n0 h0 ws wd Q sf h cells slots (mkF m (pc + 1) L (.int (x &&& y) :: S))) : Ok p l e R s m args below meth c own Z a0 EL n0 h0 ws wd Q sf h cells slots (mkF m pc L (.int y :: .int x :: S)) :=
  ok_step (fun T t hA k => XS.iand hA G.1 rfl (hb G.2.1 hd) rfl k) k
theorem ok_ior (G : Good p meth c code maxL ret nm) {pc : Nat} {L : Array Slot} {S : List Value} {x y : Int32} (hd : decode code pc = .ok (.ior, 1)) (k : Ok p l e R s m args below meth c own Z a0 EL n0 h0 ws wd Q sf h cells slots (mkF m (pc + 1) L (.int (x ||| y) :: S))) : Ok p l e R s m args below meth c own Z a0 EL n0 h0 ws wd Q sf h cells slots (mkF m pc L (.int y :: .int x :: S)) :=
  ok_step (fun T t hA k => XS.ior hA G.1 rfl (hb G.2.1 hd) rfl k) k
theorem ok_ixor (G : Good p meth c code maxL ret nm) {pc : Nat} {L : Array Slot} {S : List Value} {x y : Int32} (hd : decode code pc = .ok (.ixor, 1)) (k : Ok p l e R s m args below meth c own Z a0 EL n0 h0 ws wd Q sf h cells slots (mkF m (pc + 1) L (.int (x ^^^ y) :: S))) : Ok p l e R s m args below meth c own Z a0 EL n0 h0 ws wd Q sf h cells slots (mkF m pc L (.int y :: .int x :: S)) :=
  ok_step (fun T t hA k => XS.ixor hA G.1 rfl (hb G.2.1 hd) rfl k) k
theorem ok_ishl (G : Good p meth c code maxL ret nm) {pc : Nat} {L : Array Slot} {S : List Value} {x y : Int32} (hd : decode code pc = .ok (.ishl, 1)) (k : Ok p l e R s m args below meth c own Z a0 EL n0 h0 ws wd Q sf h cells slots (mkF m (pc + 1) L (.int (x <<< (y &&& 31)) :: S))) : Ok p l e R s m args below meth c own Z a0 EL n0 h0 ws wd Q sf h cells slots (mkF m pc L (.int y :: .int x :: S)) :=
  ok_step (fun T t hA k => XS.ishl hA G.1 rfl (hb G.2.1 hd) rfl k) k
theorem ok_ishr (G : Good p meth c code maxL ret nm) {pc : Nat} {L : Array Slot} {S : List Value} {x y : Int32} (hd : decode code pc = .ok (.ishr, 1)) (k : Ok p l e R s m args below meth c own Z a0 EL n0 h0 ws wd Q sf h cells slots (mkF m (pc + 1) L (.int (x >>> (y &&& 31)) :: S))) : Ok p l e R s m args below meth c own Z a0 EL n0 h0 ws wd Q sf h cells slots (mkF m pc L (.int y :: .int x :: S)) :=
  ok_step (fun T t hA k => XS.ishr hA G.1 rfl (hb G.2.1 hd) rfl k) k
theorem ok_iushr (G : Good p meth c code maxL ret nm) {pc : Nat} {L : Array Slot} {S : List Value} {x y : Int32} (hd : decode code pc = .ok (.iushr, 1)) (k : Ok p l e R s m args below meth c own Z a0 EL n0 h0 ws wd Q sf h cells slots (mkF m (pc + 1) L (.int ((x.toUInt32 >>> (y &&& 31).toUInt32).toInt32) :: S))) : Ok p l e R s m args below meth c own Z a0 EL n0 h0 ws wd Q sf h cells slots (mkF m pc L (.int y :: .int x :: S)) :=
  ok_step (fun T t hA k => XS.iushr hA G.1 rfl (hb G.2.1 hd) rfl k) k
theorem ok_ladd (G : Good p meth c code maxL ret nm) {pc : Nat} {L : Array Slot} {S : List Value} {x y : Int64} (hd : decode code pc = .ok (.ladd, 1)) (k : Ok p l e R s m args below meth c own Z a0 EL n0 h0 ws wd Q sf h cells slots (mkF m (pc + 1) L (.long (x + y) :: S))) : Ok p l e R s m args below meth c own Z a0 EL n0 h0 ws wd Q sf h cells slots (mkF m pc L (.long y :: .long x :: S)) :=
  ok_step (fun T t hA k => XS.ladd hA G.1 rfl (hb G.2.1 hd) rfl k) k
theorem ok_lsub (G : Good p meth c code maxL ret nm) {pc : Nat} {L : Array Slot} {S : List Value} {x y : Int64} (hd : decode code pc = .ok (.lsub, 1)) (k : Ok p l e R s m args below meth c own Z a0 EL n0 h0 ws wd Q sf h cells slots (mkF m (pc + 1) L (.long (x - y) :: S))) : Ok p l e R s m args below meth c own Z a0 EL n0 h0 ws wd Q sf h cells slots (mkF m pc L (.long y :: .long x :: S)) :=
  ok_step (fun T t hA k => XS.lsub hA G.1 rfl (hb G.2.1 hd) rfl k) k
theorem ok_lmul (G : Good p meth c code maxL ret nm) {pc : Nat} {L : Array Slot} {S : List Value} {x y : Int64} (hd : decode code pc = .ok (.lmul, 1)) (k : Ok p l e R s m args below meth c own Z a0 EL n0 h0 ws wd Q sf h cells slots (mkF m (pc + 1) L (.long (x * y) :: S))) : Ok p l e R s m args below meth c own Z a0 EL n0 h0 ws wd Q sf h cells slots (mkF m pc L (.long y :: .long x :: S)) :=
  ok_step (fun T t hA k => XS.lmul hA G.1 rfl (hb G.2.1 hd) rfl k) k
theorem ok_land (G : Good p meth c code maxL ret nm) {pc : Nat} {L : Array Slot} {S : List Value} {x y : Int64} (hd : decode code pc = .ok (.land, 1)) (k : Ok p l e R s m args below meth c own Z a0 EL n0 h0 ws wd Q sf h cells slots (mkF m (pc + 1) L (.long (x &&& y) :: S))) : Ok p l e R s m args below meth c own Z a0 EL n0 h0 ws wd Q sf h cells slots (mkF m pc L (.long y :: .long x :: S)) :=
  ok_step (fun T t hA k => XS.land hA G.1 rfl (hb G.2.1 hd) rfl k) k
theorem ok_lor (G : Good p meth c code maxL ret nm) {pc : Nat} {L : Array Slot} {S : List Value} {x y : Int64} (hd : decode code pc = .ok (.lor, 1)) (k : Ok p l e R s m args below meth c own Z a0 EL n0 h0 ws wd Q sf h cells slots (mkF m (pc + 1) L (.long (x ||| y) :: S))) : Ok p l e R s m args below meth c own Z a0 EL n0 h0 ws wd Q sf h cells slots (mkF m pc L (.long y :: .long x :: S)) :=
  ok_step (fun T t hA k => XS.lor hA G.1 rfl (hb G.2.1 hd) rfl k) k
theorem ok_lxor (G : Good p meth c code maxL ret nm) {pc : Nat} {L : Array Slot} {S : List Value} {x y : Int64} (hd : decode code pc = .ok (.lxor, 1)) (k : Ok p l e R s m args below meth c own Z a0 EL n0 h0 ws wd Q sf h cells slots (mkF m (pc + 1) L (.long (x ^^^ y) :: S))) : Ok p l e R s m args below meth c own Z a0 EL n0 h0 ws wd Q sf h cells slots (mkF m pc L (.long y :: .long x :: S)) :=
  ok_step (fun T t hA k => XS.lxor hA G.1 rfl (hb G.2.1 hd) rfl k) k
theorem ok_idiv (G : Good p meth c code maxL ret nm) {pc : Nat} {L : Array Slot} {S : List Value} {x y : Int32} (hd : decode code pc = .ok (.idiv, 1)) (hy : y ≠ 0) (k : Ok p l e R s m args below meth c own Z a0 EL n0 h0 ws wd Q sf h cells slots (mkF m (pc + 1) L (.int (x / y) :: S))) : Ok p l e R s m args below meth c own Z a0 EL n0 h0 ws wd Q sf h cells slots (mkF m pc L (.int y :: .int x :: S)) :=
  ok_step (fun T t hA k => XS.idiv hA G.1 rfl (hb G.2.1 hd) rfl hy k) k
theorem ok_irem (G : Good p meth c code maxL ret nm) {pc : Nat} {L : Array Slot} {S : List Value} {x y : Int32} (hd : decode code pc = .ok (.irem, 1)) (hy : y ≠ 0) (k : Ok p l e R s m args below meth c own Z a0 EL n0 h0 ws wd Q sf h cells slots (mkF m (pc + 1) L (.int (x % y) :: S))) : Ok p l e R s m args below meth c own Z a0 EL n0 h0 ws wd Q sf h cells slots (mkF m pc L (.int y :: .int x :: S)) :=
  ok_step (fun T t hA k => XS.irem hA G.1 rfl (hb G.2.1 hd) rfl hy (by rw [irem_eq_mod x y]; exact k)) k
theorem ok_ldiv (G : Good p meth c code maxL ret nm) {pc : Nat} {L : Array Slot} {S : List Value} {x y : Int64} (hd : decode code pc = .ok (.ldiv, 1)) (hy : y ≠ 0) (k : Ok p l e R s m args below meth c own Z a0 EL n0 h0 ws wd Q sf h cells slots (mkF m (pc + 1) L (.long (x / y) :: S))) : Ok p l e R s m args below meth c own Z a0 EL n0 h0 ws wd Q sf h cells slots (mkF m pc L (.long y :: .long x :: S)) :=
  ok_step (fun T t hA k => XS.ldiv hA G.1 rfl (hb G.2.1 hd) rfl hy k) k
theorem ok_lrem (G : Good p meth c code maxL ret nm) {pc : Nat} {L : Array Slot} {S : List Value} {x y : Int64} (hd : decode code pc = .ok (.lrem, 1)) (hy : y ≠ 0) (k : Ok p l e R s m args below meth c own Z a0 EL n0 h0 ws wd Q sf h cells slots (mkF m (pc + 1) L (.long (x - x / y * y) :: S))) : Ok p l e R s m args below meth c own Z a0 EL n0 h0 ws wd Q sf h cells slots (mkF m pc L (.long y :: .long x :: S)) :=
  ok_step (fun T t hA k => XS.lrem hA G.1 rfl (hb G.2.1 hd) rfl hy k) k
theorem ok_ineg (G : Good p meth c code maxL ret nm) {pc : Nat} {L : Array Slot} {S : List Value} {x : Int32} (hd : decode code pc = .ok (.ineg, 1)) (k : Ok p l e R s m args below meth c own Z a0 EL n0 h0 ws wd Q sf h cells slots (mkF m (pc + 1) L (.int (-x) :: S))) : Ok p l e R s m args below meth c own Z a0 EL n0 h0 ws wd Q sf h cells slots (mkF m pc L (.int x :: S)) :=
  ok_step (fun T t hA k => XS.ineg hA G.1 rfl (hb G.2.1 hd) rfl k) k
theorem ok_i2b (G : Good p meth c code maxL ret nm) {pc : Nat} {L : Array Slot} {S : List Value} {x : Int32} (hd : decode code pc = .ok (.i2b, 1)) (k : Ok p l e R s m args below meth c own Z a0 EL n0 h0 ws wd Q sf h cells slots (mkF m (pc + 1) L (.int x.toInt8.toInt32 :: S))) : Ok p l e R s m args below meth c own Z a0 EL n0 h0 ws wd Q sf h cells slots (mkF m pc L (.int x :: S)) :=
  ok_step (fun T t hA k => XS.i2b hA G.1 rfl (hb G.2.1 hd) rfl k) k
theorem ok_i2c (G : Good p meth c code maxL ret nm) {pc : Nat} {L : Array Slot} {S : List Value} {x : Int32} (hd : decode code pc = .ok (.i2c, 1)) (k : Ok p l e R s m args below meth c own Z a0 EL n0 h0 ws wd Q sf h cells slots (mkF m (pc + 1) L (.int x.toUInt32.toUInt16.toUInt32.toInt32 :: S))) : Ok p l e R s m args below meth c own Z a0 EL n0 h0 ws wd Q sf h cells slots (mkF m pc L (.int x :: S)) :=
  ok_step (fun T t hA k => XS.i2c hA G.1 rfl (hb G.2.1 hd) rfl k) k
theorem ok_i2l (G : Good p meth c code maxL ret nm) {pc : Nat} {L : Array Slot} {S : List Value} {x : Int32} (hd : decode code pc = .ok (.i2l, 1)) (k : Ok p l e R s m args below meth c own Z a0 EL n0 h0 ws wd Q sf h cells slots (mkF m (pc + 1) L (.long x.toInt64 :: S))) : Ok p l e R s m args below meth c own Z a0 EL n0 h0 ws wd Q sf h cells slots (mkF m pc L (.int x :: S)) :=
  ok_step (fun T t hA k => XS.i2l hA G.1 rfl (hb G.2.1 hd) rfl k) k
theorem ok_l2i (G : Good p meth c code maxL ret nm) {pc : Nat} {L : Array Slot} {S : List Value} {x : Int64} (hd : decode code pc = .ok (.l2i, 1)) (k : Ok p l e R s m args below meth c own Z a0 EL n0 h0 ws wd Q sf h cells slots (mkF m (pc + 1) L (.int x.toInt32 :: S))) : Ok p l e R s m args below meth c own Z a0 EL n0 h0 ws wd Q sf h cells slots (mkF m pc L (.long x :: S)) :=
  ok_step (fun T t hA k => XS.l2i hA G.1 rfl (hb G.2.1 hd) rfl k) k
theorem ok_lcmp (G : Good p meth c code maxL ret nm) {pc : Nat} {L : Array Slot} {S : List Value} {x y : Int64} (hd : decode code pc = .ok (.lcmp, 1)) (k : Ok p l e R s m args below meth c own Z a0 EL n0 h0 ws wd Q sf h cells slots (mkF m (pc + 1) L (.int (lcmpW x y) :: S))) : Ok p l e R s m args below meth c own Z a0 EL n0 h0 ws wd Q sf h cells slots (mkF m pc L (.long y :: .long x :: S)) :=
  ok_step (fun T t hA k => XS.lcmp hA G.1 rfl (hb G.2.1 hd) rfl k) k
theorem ok_dup (G : Good p meth c code maxL ret nm) {pc : Nat} {L : Array Slot} {S : List Value} {v : Value} (hd : decode code pc = .ok (.dup, 1)) (hc : v.category = 1) (k : Ok p l e R s m args below meth c own Z a0 EL n0 h0 ws wd Q sf h cells slots (mkF m (pc + 1) L (v :: v :: S))) : Ok p l e R s m args below meth c own Z a0 EL n0 h0 ws wd Q sf h cells slots (mkF m pc L (v :: S)) :=
  ok_step (fun T t hA k => XS.dup hA G.1 rfl (hb G.2.1 hd) rfl hc k) k
theorem ok_pop (G : Good p meth c code maxL ret nm) {pc : Nat} {L : Array Slot} {S : List Value} {v : Value} (hd : decode code pc = .ok (.pop, 1)) (hc : v.category = 1) (k : Ok p l e R s m args below meth c own Z a0 EL n0 h0 ws wd Q sf h cells slots (mkF m (pc + 1) L S)) : Ok p l e R s m args below meth c own Z a0 EL n0 h0 ws wd Q sf h cells slots (mkF m pc L (v :: S)) :=
  ok_step (fun T t hA k => XS.pop hA G.1 rfl (hb G.2.1 hd) rfl hc k) k
theorem ok_dup_x1 (G : Good p meth c code maxL ret nm) {pc : Nat} {L : Array Slot} {S : List Value} {v w : Value} (hd : decode code pc = .ok (.dup_x1, 1)) (hc : v.category = 1) (hc2 : w.category = 1) (k : Ok p l e R s m args below meth c own Z a0 EL n0 h0 ws wd Q sf h cells slots (mkF m (pc + 1) L (v :: w :: v :: S))) : Ok p l e R s m args below meth c own Z a0 EL n0 h0 ws wd Q sf h cells slots (mkF m pc L (v :: w :: S)) :=
  ok_step (fun T t hA k => XS.dupX1 hA G.1 rfl (hb G.2.1 hd) rfl hc hc2 k) k
theorem ok_iinc (G : Good p meth c code maxL ret nm) {pc : Nat} {L : Array Slot} {S : List Value} {k0 : Nat} {cst : Int} {x : Int32} (v : Int32) (L' : Array Slot) (hd : decode code pc = .ok (.iinc k0 cst, 3)) (hl : L[k0]? = some (.val (.int x))) (hv : x + Int32.ofInt cst = v) (hl' : storeLocals L k0 (.int v) = some L') (k : Ok p l e R s m args below meth c own Z a0 EL n0 h0 ws wd Q sf h cells slots (mkF m (pc + 3) L' S)) : Ok p l e R s m args below meth c own Z a0 EL n0 h0 ws wd Q sf h cells slots (mkF m pc L S) :=
  ok_step (fun T t hA k => XS.iinc hA G.1 rfl (hb G.2.1 hd) hl (by rw [hv]; exact hl') k) k
theorem ok_goto (G : Good p meth c code maxL ret nm) {pc : Nat} {L : Array Slot} {S : List Value} {o : Int} (pc' : Nat) (hd : decode code pc = .ok (.goto o, 3)) (ho : 0 ≤ (pc : Int) + o) (hp : ((pc : Int) + o).toNat = pc') (k : Ok p l e R s m args below meth c own Z a0 EL n0 h0 ws wd Q sf h cells slots (mkF m pc' L S)) : Ok p l e R s m args below meth c own Z a0 EL n0 h0 ws wd Q sf h cells slots (mkF m pc L S) :=
  ok_step (fun T t hA k => XS.goto hA G.1 rfl rfl (hb G.2.1 hd) ho hp k) k
theorem ok_ifeq (G : Good p meth c code maxL ret nm) {pc : Nat} {L : Array Slot} {S : List Value} {x : Int32} {o : Int} (pc' : Nat) (hd : decode code pc = .ok (.ifCond .eq o, 3)) (ho : 0 ≤ (pc : Int) + o) (hp : ((pc : Int) + o).toNat = pc') (ky : x = 0 → Ok p l e R s m args below meth c own Z a0 EL n0 h0 ws wd Q sf h cells slots (mkF m pc' L S)) (kn : ¬ x = 0 → Ok p l e R s m args below meth c own Z a0 EL n0 h0 ws wd Q sf h cells slots (mkF m (pc + 3) L S)) : Ok p l e R s m args below meth c own Z a0 EL n0 h0 ws wd Q sf h cells slots (mkF m pc L (.int x :: S)) := by
  by_cases q : x = 0
  · exact ok_step (fun T t hA k => XS.ifYes hA G.1 rfl rfl (hb G.2.1 hd) rfl ((if0 _ _).trans (teq q).1) ho hp k) (ky q)
  · exact ok_step (fun T t hA k => XS.ifNo hA G.1 rfl (hb G.2.1 hd) rfl ((if0 _ _).trans (feq q).1) k) (kn q)
theorem ok_ifeqY (G : Good p meth c code maxL ret nm) {pc : Nat} {L : Array Slot} {S : List Value} {x : Int32} {o : Int} (pc' : Nat) (hd : decode code pc = .ok (.ifCond .eq o, 3)) (ho : 0 ≤ (pc : Int) + o) (hp : ((pc : Int) + o).toNat = pc') (q : x = 0) (k : Ok p l e R s m args below meth c own Z a0 EL n0 h0 ws wd Q sf h cells slots (mkF m pc' L S)) : Ok p l e R s m args below meth c own Z a0 EL n0 h0 ws wd Q sf h cells slots (mkF m pc L (.int x :: S)) := ok_ifeq G pc' hd ho hp (fun _ => k) (fun q' => absurd q q')
theorem ok_ifeqN (G : Good p meth c code maxL ret nm) {pc : Nat} {L : Array Slot} {S : List Value} {x : Int32} {o : Int} (hd : decode code pc = .ok (.ifCond .eq o, 3)) (q : ¬ x = 0) (k : Ok p l e R s m args below meth c own Z a0 EL n0 h0 ws wd Q sf h cells slots (mkF m (pc + 3) L S)) : Ok p l e R s m args below meth c own Z a0 EL n0 h0 ws wd Q sf h cells slots (mkF m pc L (.int x :: S)) :=
  ok_step (fun T t hA k => XS.ifNo hA G.1 rfl (hb G.2.1 hd) rfl ((if0 _ _).trans (feq q).1) k) k
theorem ok_icmpeq (G : Good p meth c code maxL ret nm) {pc : Nat} {L : Array Slot} {S : List Value} {x y : Int32} {o : Int} (pc' : Nat) (hd : decode code pc = .ok (.if_icmp .eq o, 3)) (ho : 0 ≤ (pc : Int) + o) (hp : ((pc : Int) + o).toNat = pc') (ky : x = y → Ok p l e R s m args below meth c own Z a0 EL n0 h0 ws wd Q sf h cells slots (mkF m pc' L S)) (kn : ¬ x = y → Ok p l e R s m args below meth c own Z a0 EL n0 h0 ws wd Q sf h cells slots (mkF m (pc + 3) L S)) : Ok p l e R s m args below meth c own Z a0 EL n0 h0 ws wd Q sf h cells slots (mkF m pc L (.int y :: .int x :: S)) := by
  by_cases q : x = y
  · exact ok_step (fun T t hA k => XS.icmpYes hA G.1 rfl rfl (hb G.2.1 hd) rfl (teq q).1 ho hp k) (ky q)
  · exact ok_step (fun T t hA k => XS.icmpNo hA G.1 rfl (hb G.2.1 hd) rfl (feq q).1 k) (kn q)
theorem ok_icmpeqY (G : Good p meth c code maxL ret nm) {pc : Nat} {L : Array Slot} {S : List Value} {x y : Int32} {o : Int} (pc' : Nat) (hd : decode code pc = .ok (.if_icmp .eq o, 3)) (ho : 0 ≤ (pc : Int) + o) (hp : ((pc : Int) + o).toNat = pc') (q : x = y) (k : Ok p l e R s m args below meth c own Z a0 EL n0 h0 ws wd Q sf h cells slots (mkF m pc' L S)) : Ok p l e R s m args below meth c own Z a0 EL n0 h0 ws wd Q sf h cells slots (mkF m pc L (.int y :: .int x :: S)) := ok_icmpeq G pc' hd ho hp (fun _ => k) (fun q' => absurd q q')
theorem ok_icmpeqN (G : Good p meth c code maxL ret nm) {pc : Nat} {L : Array Slot} {S : List Value} {x y : Int32} {o : Int} (hd : decode code pc = .ok (.if_icmp .eq o, 3)) (q : ¬ x = y) (k : Ok p l e R s m args below meth c own Z a0 EL n0 h0 ws wd Q sf h cells slots (mkF m (pc + 3) L S)) : Ok p l e R s m args below meth c own Z a0 EL n0 h0 ws wd Q sf h cells slots (mkF m pc L (.int y :: .int x :: S)) :=
  ok_step (fun T t hA k => XS.icmpNo hA G.1 rfl (hb G.2.1 hd) rfl (feq q).1 k) k
theorem ok_ifne (G : Good p meth c code maxL ret nm) {pc : Nat} {L : Array Slot} {S : List Value} {x : Int32} {o : Int} (pc' : Nat) (hd : decode code pc = .ok (.ifCond .ne o, 3)) (ho : 0 ≤ (pc : Int) + o) (hp : ((pc : Int) + o).toNat = pc') (ky : ¬ x = 0 → Ok p l e R s m args below meth c own Z a0 EL n0 h0 ws wd Q sf h cells slots (mkF m pc' L S)) (kn : x = 0 → Ok p l e R s m args below meth c own Z a0 EL n0 h0 ws wd Q sf h cells slots (mkF m (pc + 3) L S)) : Ok p l e R s m args below meth c own Z a0 EL n0 h0 ws wd Q sf h cells slots (mkF m pc L (.int x :: S)) := by
  by_cases q : x = 0
  · exact ok_step (fun T t hA k => XS.ifNo hA G.1 rfl (hb G.2.1 hd) rfl ((if0 _ _).trans (teq q).2) k) (kn q)
  · exact ok_step (fun T t hA k => XS.ifYes hA G.1 rfl rfl (hb G.2.1 hd) rfl ((if0 _ _).trans (feq q).2) ho hp k) (ky q)
theorem ok_ifneY (G : Good p meth c code maxL ret nm) {pc : Nat} {L : Array Slot} {S : List Value} {x : Int32} {o : Int} (pc' : Nat) (hd : decode code pc = .ok (.ifCond .ne o, 3)) (ho : 0 ≤ (pc : Int) + o) (hp : ((pc : Int) + o).toNat = pc') (q : ¬ x = 0) (k : Ok p l e R s m args below meth c own Z a0 EL n0 h0 ws wd Q sf h cells slots (mkF m pc' L S)) : Ok p l e R s m args below meth c own Z a0 EL n0 h0 ws wd Q sf h cells slots (mkF m pc L (.int x :: S)) := ok_ifne G pc' hd ho hp (fun _ => k) (fun q' => absurd q' q)
theorem ok_ifneN (G : Good p meth c code maxL ret nm) {pc : Nat} {L : Array Slot} {S : List Value} {x : Int32} {o : Int} (hd : decode code pc = .ok (.ifCond .ne o, 3)) (q : x = 0) (k : Ok p l e R s m args below meth c own Z a0 EL n0 h0 ws wd Q sf h cells slots (mkF m (pc + 3) L S)) : Ok p l e R s m args below meth c own Z a0 EL n0 h0 ws wd Q sf h cells slots (mkF m pc L (.int x :: S)) :=
  ok_step (fun T t hA k => XS.ifNo hA G.1 rfl (hb G.2.1 hd) rfl ((if0 _ _).trans (teq q).2) k) k
theorem ok_icmpne (G : Good p meth c code maxL ret nm) {pc : Nat} {L : Array Slot} {S : List Value} {x y : Int32} {o : Int} (pc' : Nat) (hd : decode code pc = .ok (.if_icmp .ne o, 3)) (ho : 0 ≤ (pc : Int) + o) (hp : ((pc : Int) + o).toNat = pc') (ky : ¬ x = y → Ok p l e R s m args below meth c own Z a0 EL n0 h0 ws wd Q sf h cells slots (mkF m pc' L S)) (kn : x = y → Ok p l e R s m args below meth c own Z a0 EL n0 h0 ws wd Q sf h cells slots (mkF m (pc + 3) L S)) : Ok p l e R s m args below meth c own Z a0 EL n0 h0 ws wd Q sf h cells slots (mkF m pc L (.int y :: .int x :: S)) := by
  by_cases q : x = y
  · exact ok_step (fun T t hA k => XS.icmpNo hA G.1 rfl (hb G.2.1 hd) rfl (teq q).2 k) (kn q)
  · exact ok_step (fun T t hA k => XS.icmpYes hA G.1 rfl rfl (hb G.2.1 hd) rfl (feq q).2 ho hp k) (ky q)
theorem ok_icmpneY (G : Good p meth c code maxL ret nm) {pc : Nat} {L : Array Slot} {S : List Value} {x y : Int32} {o : Int} (pc' : Nat) (hd : decode code pc = .ok (.if_icmp .ne o, 3)) (ho : 0 ≤ (pc : Int) + o) (hp : ((pc : Int) + o).toNat = pc') (q : ¬ x = y) (k : Ok p l e R s m args below meth c own Z a0 EL n0 h0 ws wd Q sf h cells slots (mkF m pc' L S)) : Ok p l e R s m args below meth c own Z a0 EL n0 h0 ws wd Q sf h cells slots (mkF m pc L (.int y :: .int x :: S)) := ok_icmpne G pc' hd ho hp (fun _ => k) (fun q' => absurd q' q)
theorem ok_icmpneN (G : Good p meth c code maxL ret nm) {pc : Nat} {L : Array Slot} {S : List Value} {x y : Int32} {o : Int} (hd : decode code pc = .ok (.if_icmp .ne o, 3)) (q : x = y) (k : Ok p l e R s m args below meth c own Z a0 EL n0 h0 ws wd Q sf h cells slots (mkF m (pc + 3) L S)) : Ok p l e R s m args below meth c own Z a0 EL n0 h0 ws wd Q sf h cells slots (mkF m pc L (.int y :: .int x :: S)) :=
  ok_step (fun T t hA k => XS.icmpNo hA G.1 rfl (hb G.2.1 hd) rfl (teq q).2 k) k
theorem ok_iflt (G : Good p meth c code maxL ret nm) {pc : Nat} {L : Array Slot} {S : List Value} {x : Int32} {o : Int} (pc' : Nat) (hd : decode code pc = .ok (.ifCond .lt o, 3)) (ho : 0 ≤ (pc : Int) + o) (hp : ((pc : Int) + o).toNat = pc') (ky : x < 0 → Ok p l e R s m args below meth c own Z a0 EL n0 h0 ws wd Q sf h cells slots (mkF m pc' L S)) (kn : ¬ x < 0 → Ok p l e R s m args below meth c own Z a0 EL n0 h0 ws wd Q sf h cells slots (mkF m (pc + 3) L S)) : Ok p l e R s m args below meth c own Z a0 EL n0 h0 ws wd Q sf h cells slots (mkF m pc L (.int x :: S)) := by
  by_cases q : x < 0
  · exact ok_step (fun T t hA k => XS.ifYes hA G.1 rfl rfl (hb G.2.1 hd) rfl ((if0 _ _).trans (tlt q).1) ho hp k) (ky q)
  · exact ok_step (fun T t hA k => XS.ifNo hA G.1 rfl (hb G.2.1 hd) rfl ((if0 _ _).trans (flt q).1) k) (kn q)
theorem ok_ifltY (G : Good p meth c code maxL ret nm) {pc : Nat} {L : Array Slot} {S : List Value} {x : Int32} {o : Int} (pc' : Nat) (hd : decode code pc = .ok (.ifCond .lt o, 3)) (ho : 0 ≤ (pc : Int) + o) (hp : ((pc : Int) + o).toNat = pc') (q : x < 0) (k : Ok p l e R s m args below meth c own Z a0 EL n0 h0 ws wd Q sf h cells slots (mkF m pc' L S)) : Ok p l e R s m args below meth c own Z a0 EL n0 h0 ws wd Q sf h cells slots (mkF m pc L (.int x :: S)) := ok_iflt G pc' hd ho hp (fun _ => k) (fun q' => absurd q q')
theorem ok_ifltN (G : Good p meth c code maxL ret nm) {pc : Nat} {L : Array Slot} {S : List Value} {x : Int32} {o : Int} (hd : decode code pc = .ok (.ifCond .lt o, 3)) (q : ¬ x < 0) (k : Ok p l e R s m args below meth c own Z a0 EL n0 h0 ws wd Q sf h cells slots (mkF m (pc + 3) L S)) : Ok p l e R s m args below meth c own Z a0 EL n0 h0 ws wd Q sf h cells slots (mkF m pc L (.int x :: S)) :=
  ok_step (fun T t hA k => XS.ifNo hA G.1 rfl (hb G.2.1 hd) rfl ((if0 _ _).trans (flt q).1) k) k
theorem ok_icmplt (G : Good p meth c code maxL ret nm) {pc : Nat} {L : Array Slot} {S : List Value} {x y : Int32} {o : Int} (pc' : Nat) (hd : decode code pc = .ok (.if_icmp .lt o, 3)) (ho : 0 ≤ (pc : Int) + o) (hp : ((pc : Int) + o).toNat = pc') (ky : x < y → Ok p l e R s m args below meth c own Z a0 EL n0 h0 ws wd Q sf h cells slots (mkF m pc' L S)) (kn : ¬ x < y → Ok p l e R s m args below meth c own Z a0 EL n0 h0 ws wd Q sf h cells slots (mkF m (pc + 3) L S)) : Ok p l e R s m args below meth c own Z a0 EL n0 h0 ws wd Q sf h cells slots (mkF m pc L (.int y :: .int x :: S)) := by
  by_cases q : x < y
  · exact ok_step (fun T t hA k => XS.icmpYes hA G.1 rfl rfl (hb G.2.1 hd) rfl (tlt q).1 ho hp k) (ky q)
  · exact ok_step (fun T t hA k => XS.icmpNo hA G.1 rfl (hb G.2.1 hd) rfl (flt q).1 k) (kn q)
theorem ok_icmpltY (G : Good p meth c code maxL ret nm) {pc : Nat} {L : Array Slot} {S : List Value} {x y : Int32} {o : Int} (pc' : Nat) (hd : decode code pc = .ok (.if_icmp .lt o, 3)) (ho : 0 ≤ (pc : Int) + o) (hp : ((pc : Int) + o).toNat = pc') (q : x < y) (k : Ok p l e R s m args below meth c own Z a0 EL n0 h0 ws wd Q sf h cells slots (mkF m pc' L S)) : Ok p l e R s m args below meth c own Z a0 EL n0 h0 ws wd Q sf h cells slots (mkF m pc L (.int y :: .int x :: S)) := ok_icmplt G pc' hd ho hp (fun _ => k) (fun q' => absurd q q')
theorem ok_icmpltN (G : Good p meth c code maxL ret nm) {pc : Nat} {L : Array Slot} {S : List Value} {x y : Int32} {o : Int} (hd : decode code pc = .ok (.if_icmp .lt o, 3)) (q : ¬ x < y) (k : Ok p l e R s m args below meth c own Z a0 EL n0 h0 ws wd Q sf h cells slots (mkF m (pc + 3) L S)) : Ok p l e R s m args below meth c own Z a0 EL n0 h0 ws wd Q sf h cells slots (mkF m pc L (.int y :: .int x :: S)) :=
  ok_step (fun T t hA k => XS.icmpNo hA G.1 rfl (hb G.2.1 hd) rfl (flt q).1 k) k
theorem ok_ifge (G : Good p meth c code maxL ret nm) {pc : Nat} {L : Array Slot} {S : List Value} {x : Int32} {o : Int} (pc' : Nat) (hd : decode code pc = .ok (.ifCond .ge o, 3)) (ho : 0 ≤ (pc : Int) + o) (hp : ((pc : Int) + o).toNat = pc') (ky : ¬ x < 0 → Ok p l e R s m args below meth c own Z a0 EL n0 h0 ws wd Q sf h cells slots (mkF m pc' L S)) (kn : x < 0 → Ok p l e R s m args below meth c own Z a0 EL n0 h0 ws wd Q sf h cells slots (mkF m (pc + 3) L S)) : Ok p l e R s m args below meth c own Z a0 EL n0 h0 ws wd Q sf h cells slots (mkF m pc L (.int x :: S)) := by
  by_cases q : x < 0
  · exact ok_step (fun T t hA k => XS.ifNo hA G.1 rfl (hb G.2.1 hd) rfl ((if0 _ _).trans (tlt q).2.1) k) (kn q)
  · exact ok_step (fun T t hA k => XS.ifYes hA G.1 rfl rfl (hb G.2.1 hd) rfl ((if0 _ _).trans (flt q).2.1) ho hp k) (ky q)
theorem ok_ifgeY (G : Good p meth c code maxL ret nm) {pc : Nat} {L : Array Slot} {S : List Value} {x : Int32} {o : Int} (pc' : Nat) (hd : decode code pc = .ok (.ifCond .ge o, 3)) (ho : 0 ≤ (pc : Int) + o) (hp : ((pc : Int) + o).toNat = pc') (q : ¬ x < 0) (k : Ok p l e R s m args below meth c own Z a0 EL n0 h0 ws wd Q sf h cells slots (mkF m pc' L S)) : Ok p l e R s m args below meth c own Z a0 EL n0 h0 ws wd Q sf h cells slots (mkF m pc L (.int x :: S)) := ok_ifge G pc' hd ho hp (fun _ => k) (fun q' => absurd q' q)
theorem ok_ifgeN (G : Good p meth c code maxL ret nm) {pc : Nat} {L : Array Slot} {S : List Value} {x : Int32} {o : Int} (hd : decode code pc = .ok (.ifCond .ge o, 3)) (q : x < 0) (k : Ok p l e R s m args below meth c own Z a0 EL n0 h0 ws wd Q sf h cells slots (mkF m (pc + 3) L S)) : Ok p l e R s m args below meth c own Z a0 EL n0 h0 ws wd Q sf h cells slots (mkF m pc L (.int x :: S)) :=
  ok_step (fun T t hA k => XS.ifNo hA G.1 rfl (hb G.2.1 hd) rfl ((if0 _ _).trans (tlt q).2.1) k) k
theorem ok_icmpge (G : Good p meth c code maxL ret nm) {pc : Nat} {L : Array Slot} {S : List Value} {x y : Int32} {o : Int} (pc' : Nat) (hd : decode code pc = .ok (.if_icmp .ge o, 3)) (ho : 0 ≤ (pc : Int) + o) (hp : ((pc : Int) + o).toNat = pc') (ky : ¬ x < y → Ok p l e R s m args below meth c own Z a0 EL n0 h0 ws wd Q sf h cells slots (mkF m pc' L S)) (kn : x < y → Ok p l e R s m args below meth c own Z a0 EL n0 h0 ws wd Q sf h cells slots (mkF m (pc + 3) L S)) : Ok p l e R s m args below meth c own Z a0 EL n0 h0 ws wd Q sf h cells slots (mkF m pc L (.int y :: .int x :: S)) := by
  by_cases q : x < y
  · exact ok_step (fun T t hA k => XS.icmpNo hA G.1 rfl (hb G.2.1 hd) rfl (tlt q).2.1 k) (kn q)
  · exact ok_step (fun T t hA k => XS.icmpYes hA G.1 rfl rfl (hb G.2.1 hd) rfl (flt q).2.1 ho hp k) (ky q)
theorem ok_icmpgeY (G : Good p meth c code maxL ret nm) {pc : Nat} {L : Array Slot} {S : List Value} {x y : Int32} {o : Int} (pc' : Nat) (hd : decode code pc = .ok (.if_icmp .ge o, 3)) (ho : 0 ≤ (pc : Int) + o) (hp : ((pc : Int) + o).toNat = pc') (q : ¬ x < y) (k : Ok p l e R s m args below meth c own Z a0 EL n0 h0 ws wd Q sf h cells slots (mkF m pc' L S)) : Ok p l e R s m args below meth c own Z a0 EL n0 h0 ws wd Q sf h cells slots (mkF m pc L (.int y :: .int x :: S)) := ok_icmpge G pc' hd ho hp (fun _ => k) (fun q' => absurd q' q)
theorem ok_icmpgeN (G : Good p meth c code maxL ret nm) {pc : Nat} {L : Array Slot} {S : List Value} {x y : Int32} {o : Int} (hd : decode code pc = .ok (.if_icmp .ge o, 3)) (q : x < y) (k : Ok p l e R s m args below meth c own Z a0 EL n0 h0 ws wd Q sf h cells slots (mkF m (pc + 3) L S)) : Ok p l e R s m args below meth c own Z a0 EL n0 h0 ws wd Q sf h cells slots (mkF m pc L (.int y :: .int x :: S)) :=
  ok_step (fun T t hA k => XS.icmpNo hA G.1 rfl (hb G.2.1 hd) rfl (tlt q).2.1 k) k
theorem ok_ifgt (G : Good p meth c code maxL ret nm) {pc : Nat} {L : Array Slot} {S : List Value} {x : Int32} {o : Int} (pc' : Nat) (hd : decode code pc = .ok (.ifCond .gt o, 3)) (ho : 0 ≤ (pc : Int) + o) (hp : ((pc : Int) + o).toNat = pc') (ky : (0 : Int32) < x → Ok p l e R s m args below meth c own Z a0 EL n0 h0 ws wd Q sf h cells slots (mkF m pc' L S)) (kn : ¬ (0 : Int32) < x → Ok p l e R s m args below meth c own Z a0 EL n0 h0 ws wd Q sf h cells slots (mkF m (pc + 3) L S)) : Ok p l e R s m args below meth c own Z a0 EL n0 h0 ws wd Q sf h cells slots (mkF m pc L (.int x :: S)) := by
  by_cases q : (0 : Int32) < x
  · exact ok_step (fun T t hA k => XS.ifYes hA G.1 rfl rfl (hb G.2.1 hd) rfl ((if0 _ _).trans (tlt q).2.2.1) ho hp k) (ky q)
  · exact ok_step (fun T t hA k => XS.ifNo hA G.1 rfl (hb G.2.1 hd) rfl ((if0 _ _).trans (flt q).2.2.1) k) (kn q)
theorem ok_ifgtY (G : Good p meth c code maxL ret nm) {pc : Nat} {L : Array Slot} {S : List Value} {x : Int32} {o : Int} (pc' : Nat) (hd : decode code pc = .ok (.ifCond .gt o, 3)) (ho : 0 ≤ (pc : Int) + o) (hp : ((pc : Int) + o).toNat = pc') (q : (0 : Int32) < x) (k : Ok p l e R s m args below meth c own Z a0 EL n0 h0 ws wd Q sf h cells slots (mkF m pc' L S)) : Ok p l e R s m args below meth c own Z a0 EL n0 h0 ws wd Q sf h cells slots (mkF m pc L (.int x :: S)) := ok_ifgt G pc' hd ho hp (fun _ => k) (fun q' => absurd q q')
theorem ok_ifgtN (G : Good p meth c code maxL ret nm) {pc : Nat} {L : Array Slot} {S : List Value} {x : Int32} {o : Int} (hd : decode code pc = .ok (.ifCond .gt o, 3)) (q : ¬ (0 : Int32) < x) (k : Ok p l e R s m args below meth c own Z a0 EL n0 h0 ws wd Q sf h cells slots (mkF m (pc + 3) L S)) : Ok p l e R s m args below meth c own Z a0 EL n0 h0 ws wd Q sf h cells slots (mkF m pc L (.int x :: S)) :=
  ok_step (fun T t hA k => XS.ifNo hA G.1 rfl (hb G.2.1 hd) rfl ((if0 _ _).trans (flt q).2.2.1) k) k
theorem ok_icmpgt (G : Good p meth c code maxL ret nm) {pc : Nat} {L : Array Slot} {S : List Value} {x y : Int32} {o : Int} (pc' : Nat) (hd : decode code pc = .ok (.if_icmp .gt o, 3)) (ho : 0 ≤ (pc : Int) + o) (hp : ((pc : Int) + o).toNat = pc') (ky : y < x → Ok p l e R s m args below meth c own Z a0 EL n0 h0 ws wd Q sf h cells slots (mkF m pc' L S)) (kn : ¬ y < x → Ok p l e R s m args below meth c own Z a0 EL n0 h0 ws wd Q sf h cells slots (mkF m (pc + 3) L S)) : Ok p l e R s m args below meth c own Z a0 EL n0 h0 ws wd Q sf h cells slots (mkF m pc L (.int y :: .int x :: S)) := by
  by_cases q : y < x
  · exact ok_step (fun T t hA k => XS.icmpYes hA G.1 rfl rfl (hb G.2.1 hd) rfl (tlt q).2.2.1 ho hp k) (ky q)
  · exact ok_step (fun T t hA k => XS.icmpNo hA G.1 rfl (hb G.2.1 hd) rfl (flt q).2.2.1 k) (kn q)
theorem ok_icmpgtY (G : Good p meth c code maxL ret nm) {pc : Nat} {L : Array Slot} {S : List Value} {x y : Int32} {o : Int} (pc' : Nat) (hd : decode code pc = .ok (.if_icmp .gt o, 3)) (ho : 0 ≤ (pc : Int) + o) (hp : ((pc : Int) + o).toNat = pc') (q : y < x) (k : Ok p l e R s m args below meth c own Z a0 EL n0 h0 ws wd Q sf h cells slots (mkF m pc' L S)) : Ok p l e R s m args below meth c own Z a0 EL n0 h0 ws wd Q sf h cells slots (mkF m pc L (.int y :: .int x :: S)) := ok_icmpgt G pc' hd ho hp (fun _ => k) (fun q' => absurd q q')
theorem ok_icmpgtN (G : Good p meth c code maxL ret nm) {pc : Nat} {L : Array Slot} {S : List Value} {x y : Int32} {o : Int} (hd : decode code pc = .ok (.if_icmp .gt o, 3)) (q : ¬ y < x) (k : Ok p l e R s m args below meth c own Z a0 EL n0 h0 ws wd Q sf h cells slots (mkF m (pc + 3) L S)) : Ok p l e R s m args below meth c own Z a0 EL n0 h0 ws wd Q sf h cells slots (mkF m pc L (.int y :: .int x :: S)) :=
  ok_step (fun T t hA k => XS.icmpNo hA G.1 rfl (hb G.2.1 hd) rfl (flt q).2.2.1 k) k
theorem ok_ifle (G : Good p meth c code maxL ret nm) {pc : Nat} {L : Array Slot} {S : List Value} {x : Int32} {o : Int} (pc' : Nat) (hd : decode code pc = .ok (.ifCond .le o, 3)) (ho : 0 ≤ (pc : Int) + o) (hp : ((pc : Int) + o).toNat = pc') (ky : ¬ (0 : Int32) < x → Ok p l e R s m args below meth c own Z a0 EL n0 h0 ws wd Q sf h cells slots (mkF m pc' L S)) (kn : (0 : Int32) < x → Ok p l e R s m args below meth c own Z a0 EL n0 h0 ws wd Q sf h cells slots (mkF m (pc + 3) L S)) : Ok p l e R s m args below meth c own Z a0 EL n0 h0 ws wd Q sf h cells slots (mkF m pc L (.int x :: S)) := by
  by_cases q : (0 : Int32) < x
  · exact ok_step (fun T t hA k => XS.ifNo hA G.1 rfl (hb G.2.1 hd) rfl ((if0 _ _).trans (tlt q).2.2.2) k) (kn q)
  · exact ok_step (fun T t hA k => XS.ifYes hA G.1 rfl rfl (hb G.2.1 hd) rfl ((if0 _ _).trans (flt q).2.2.2) ho hp k) (ky q)
theorem ok_ifleY (G : Good p meth c code maxL ret nm) {pc : Nat} {L : Array Slot} {S : List Value} {x : Int32} {o : Int} (pc' : Nat) (hd : decode code pc = .ok (.ifCond .le o, 3)) (ho : 0 ≤ (pc : Int) + o) (hp : ((pc : Int) + o).toNat = pc') (q : ¬ (0 : Int32) < x) (k : Ok p l e R s m args below meth c own Z a0 EL n0 h0 ws wd Q sf h cells slots (mkF m pc' L S)) : Ok p l e R s m args below meth c own Z a0 EL n0 h0 ws wd Q sf h cells slots (mkF m pc L (.int x :: S)) := ok_ifle G pc' hd ho hp (fun _ => k) (fun q' => absurd q' q)
theorem ok_ifleN (G : Good p meth c code maxL ret nm) {pc : Nat} {L : Array Slot} {S : List Value} {x : Int32} {o : Int} (hd : decode code pc = .ok (.ifCond .le o, 3)) (q : (0 : Int32) < x) (k : Ok p l e R s m args below meth c own Z a0 EL n0 h0 ws wd Q sf h cells slots (mkF m (pc + 3) L S)) : Ok p l e R s m args below meth c own Z a0 EL n0 h0 ws wd Q sf h cells slots (mkF m pc L (.int x :: S)) :=
  ok_step (fun T t hA k => XS.ifNo hA G.1 rfl (hb G.2.1 hd) rfl ((if0 _ _).trans (tlt q).2.2.2) k) k
theorem ok_icmple (G : Good p meth c code maxL ret nm) {pc : Nat} {L : Array Slot} {S : List Value} {x y : Int32} {o : Int} (pc' : Nat) (hd : decode code pc = .ok (.if_icmp .le o, 3)) (ho : 0 ≤ (pc : Int) + o) (hp : ((pc : Int) + o).toNat = pc') (ky : ¬ y < x → Ok p l e R s m args below meth c own Z a0 EL n0 h0 ws wd Q sf h cells slots (mkF m pc' L S)) (kn : y < x → Ok p l e R s m args below meth c own Z a0 EL n0 h0 ws wd Q sf h cells slots (mkF m (pc + 3) L S)) : Ok p l e R s m args below meth c own Z a0 EL n0 h0 ws wd Q sf h cells slots (mkF m pc L (.int y :: .int x :: S)) := by
  by_cases q : y < x
  · exact ok_step (fun T t hA k => XS.icmpNo hA G.1 rfl (hb G.2.1 hd) rfl (tlt q).2.2.2 k) (kn q)
  · exact ok_step (fun T t hA k => XS.icmpYes hA G.1 rfl rfl (hb G.2.1 hd) rfl (flt q).2.2.2 ho hp k) (ky q)
theorem ok_icmpleY (G : Good p meth c code maxL ret nm) {pc : Nat} {L : Array Slot} {S : List Value} {x y : Int32} {o : Int} (pc' : Nat) (hd : decode code pc = .ok (.if_icmp .le o, 3)) (ho : 0 ≤ (pc : Int) + o) (hp : ((pc : Int) + o).toNat = pc') (q : ¬ y < x) (k : Ok p l e R s m args below meth c own Z a0 EL n0 h0 ws wd Q sf h cells slots (mkF m pc' L S)) : Ok p l e R s m args below meth c own Z a0 EL n0 h0 ws wd Q sf h cells slots (mkF m pc L (.int y :: .int x :: S)) := ok_icmple G pc' hd ho hp (fun _ => k) (fun q' => absurd q' q)
theorem ok_icmpleN (G : Good p meth c code maxL ret nm) {pc : Nat} {L : Array Slot} {S : List Value} {x y : Int32} {o : Int} (hd : decode code pc = .ok (.if_icmp .le o, 3)) (q : y < x) (k : Ok p l e R s m args below meth c own Z a0 EL n0 h0 ws wd Q sf h cells slots (mkF m (pc + 3) L S)) : Ok p l e R s m args below meth c own Z a0 EL n0 h0 ws wd Q sf h cells slots (mkF m pc L (.int y :: .int x :: S)) :=
  ok_step (fun T t hA k => XS.icmpNo hA G.1 rfl (hb G.2.1 hd) rfl (tlt q).2.2.2 k) k
theorem ok_ifnullY (G : Good p meth c code maxL ret nm) {pc : Nat} {L : Array Slot} {S : List Value} {o : Int} (pc' : Nat) (hd : decode code pc = .ok (.ifnull o, 3)) (ho : 0 ≤ (pc : Int) + o) (hp : ((pc : Int) + o).toNat = pc') (k : Ok p l e R s m args below meth c own Z a0 EL n0 h0 ws wd Q sf h cells slots (mkF m pc' L S)) : Ok p l e R s m args below meth c own Z a0 EL n0 h0 ws wd Q sf h cells slots (mkF m pc L (.null :: S)) := ok_step (fun T t hA k => XS.ifnullYes hA G.1 rfl rfl (hb G.2.1 hd) rfl ho hp k) k
theorem ok_ifnullN (G : Good p meth c code maxL ret nm) {pc : Nat} {L : Array Slot} {S : List Value} {o : Int} {b : Addr} (hd : decode code pc = .ok (.ifnull o, 3)) (k : Ok p l e R s m args below meth c own Z a0 EL n0 h0 ws wd Q sf h cells slots (mkF m (pc + 3) L S)) : Ok p l e R s m args below meth c own Z a0 EL n0 h0 ws wd Q sf h cells slots (mkF m pc L (.ref b :: S)) := ok_step (fun T t hA k => XS.ifnullNo hA G.1 rfl (hb G.2.1 hd) rfl k) k
theorem ok_ifnonnullY (G : Good p meth c code maxL ret nm) {pc : Nat} {L : Array Slot} {S : List Value} {o : Int} {b : Addr} (pc' : Nat) (hd : decode code pc = .ok (.ifnonnull o, 3)) (ho : 0 ≤ (pc : Int) + o) (hp : ((pc : Int) + o).toNat = pc') (k : Ok p l e R s m args below meth c own Z a0 EL n0 h0 ws wd Q sf h cells slots (mkF m pc' L S)) : Ok p l e R s m args below meth c own Z a0 EL n0 h0 ws wd Q sf h cells slots (mkF m pc L (.ref b :: S)) := ok_step (fun T t hA k => XS.ifnonnullYes hA G.1 rfl rfl (hb G.2.1 hd) rfl ho hp k) k
theorem ok_ifnonnullN (G : Good p meth c code maxL ret nm) {pc : Nat} {L : Array Slot} {S : List Value} {o : Int} (hd : decode code pc = .ok (.ifnonnull o, 3)) (k : Ok p l e R s m args below meth c own Z a0 EL n0 h0 ws wd Q sf h cells slots (mkF m (pc + 3) L S)) : Ok p l e R s m args below meth c own Z a0 EL n0 h0 ws wd Q sf h cells slots (mkF m pc L (.null :: S)) := ok_step (fun T t hA k => XS.ifnonnullNo hA G.1 rfl (hb G.2.1 hd) rfl k) k
theorem ok_acmp (G : Good p meth c code maxL ret nm) {pc : Nat} {L : Array Slot} {S : List Value} {o : Int} {cd : ClassFile.ACond} {v w : Value} (same : Bool) (pc' : Nat) (hd : decode code pc = .ok (.if_acmp cd o, 3)) (h1 : v.isRef = true) (h2 : w.isRef = true) (hq : decide (v = w) = same) (ho : 0 ≤ (pc : Int) + o) (hp : pc' = if acV cd same = true then ((pc : Int) + o).toNat else pc + 3) (k : Ok p l e R s m args below meth c own Z a0 EL n0 h0 ws wd Q sf h cells slots (mkF m pc' L S)) : Ok p l e R s m args below meth c own Z a0 EL n0 h0 ws wd Q sf h cells slots (mkF m pc L (w :: v :: S)) :=
  ok_stepT (fun vm T locs X e0 hZ hown O => ⟨T, X, e0, fun t k => Jvm.RoadKit.acmp X G.1 rfl h1 h2 rfl (hb G.2.1 hd) rfl hq ho hp k⟩) k
theorem ok_ldcI (G : Good p meth c code maxL ret nm) {pc : Nat} {L : Array Slot} {S : List Value} {i : Nat} {v : Int32} (w : (Jvm.Cond.constant own i v).before a0 Z = true) (hd : decode code pc = .ok (.ldc i, 2)) (k : Ok p l e R s m args below meth c own Z a0 EL n0 h0 ws wd Q sf h cells slots (mkF m (pc + 2) L (.int v :: S))) : Ok p l e R s m args below meth c own Z a0 EL n0 h0 ws wd Q sf h cells slots (mkF m pc L S) :=
  ok_stepT (fun vm T locs X e0 hZ hown O => ⟨T, X, e0, fun t k => X.ldcInt G.1 hown (mvT (s := s.setVm vm) hZ w) (g := mkF m pc L S) rfl (hb G.2.1 hd) t k⟩) k
theorem ok_ldcJ (G : Good p meth c code maxL ret nm) {pc : Nat} {L : Array Slot} {S : List Value} {i : Nat} {v : Int64} (w : (Jvm.Cond.constantLong own i v).before a0 Z = true) (hd : decode code pc = .ok (.ldc2_w i, 3)) (k : Ok p l e R s m args below meth c own Z a0 EL n0 h0 ws wd Q sf h cells slots (mkF m (pc + 3) L (.long v :: S))) : Ok p l e R s m args below meth c own Z a0 EL n0 h0 ws wd Q sf h cells slots (mkF m pc L S) :=
  ok_stepT (fun vm T locs X e0 hZ hown O => ⟨T, X, e0, fun t k => X.ldc2Long G.1 hown (mvT (s := s.setVm vm) hZ w) (g := mkF m pc L S) rfl (hb G.2.1 hd) t k⟩) k
theorem ok_nameI {pc : Nat} {L : Array Slot} {S : List Value} {x : Int32} (k : ∀ z, z = x → Ok p l e R s m args below meth c own Z a0 EL n0 h0 ws wd Q sf h cells slots (mkF m pc L (.int z :: S))) : Ok p l e R s m args below meth c own Z a0 EL n0 h0 ws wd Q sf h cells slots (mkF m pc L (.int x :: S)) := k x rfl
theorem ok_nameJ {pc : Nat} {L : Array Slot} {S : List Value} {x : Int64} (k : ∀ z, z = x → Ok p l e R s m args below meth c own Z a0 EL n0 h0 ws wd Q sf h cells slots (mkF m pc L (.long z :: S))) : Ok p l e R s m args below meth c own Z a0 EL n0 h0 ws wd Q sf h cells slots (mkF m pc L (.long x :: S)) := k x rfl
theorem ok_sayI {pc : Nat} {L : Array Slot} {S : List Value} {x : Int32} (z : Int32) (q : x = z) (k : Ok p l e R s m args below meth c own Z a0 EL n0 h0 ws wd Q sf h cells slots (mkF m pc L (.int z :: S))) : Ok p l e R s m args below meth c own Z a0 EL n0 h0 ws wd Q sf h cells slots (mkF m pc L (.int x :: S)) := q ▸ k
theorem ok_sayJ {pc : Nat} {L : Array Slot} {S : List Value} {x : Int64} (z : Int64) (q : x = z) (k : Ok p l e R s m args below meth c own Z a0 EL n0 h0 ws wd Q sf h cells slots (mkF m pc L (.long z :: S))) : Ok p l e R s m args below meth c own Z a0 EL n0 h0 ws wd Q sf h cells slots (mkF m pc L (.long x :: S)) := q ▸ k
end Plain
end Jvm.Pilot.@@N@@.Own
namespace Jvm.Pilot.@@N@@.Own
open Jvm Jvm.ClassFile Sem Op Lib Jvm.Free Jvm.Stand Jvm.LawKit Jvm.RoadKit Bundle
section Heaps
variable {p : Program} {l : Launch} {e : Env} {R : Room} {s : State} {m : MethodId} {args : Array Value} {below : List Frame} {meth : Method} {c : Code}
  {own : String} {Z : State} {a0 : Array Value} {EL : List (String × Nat)} {n0 : Nat} {h0 : Heap} {ws : List Addr} {wd : Bool} {Q : Option Value → Heap → Prop}
  {sf : List Addr} {h : Heap} {cells slots : Nat} {code : ByteArray} {maxL : Nat} {ret : Option FieldType} {nm : String} {a : Addr}
theorem ok_getF (G : Good p meth c code maxL ret nm) {pc : Nat} {L : Array Slot} {S : List Value} {R0 O n d host : String} {index : Nat} (w : (Jvm.Cond.fieldLink own index R0 n d).before a0 Z = true ∨ (Jvm.Cond.fieldLinkNest own index R0 n d host).before a0 Z = true) (via : Via Z R0 O n d) {v : Value} (F : Fld Z h a O n d v) (hd : decode code pc = .ok (.getfield index, 3))
    (k : Ok p l e R s m args below meth c own Z a0 EL n0 h0 ws wd Q sf h cells slots (mkF m (pc + 3) L (v :: S))) : Ok p l e R s m args below meth c own Z a0 EL n0 h0 ws wd Q sf h cells slots (mkF m pc L (.ref a :: S)) :=
  ok_stepT (fun vm T locs X e0 hZ hown O => getF X G.1 hZ hown w via e0 F (g := mkF m pc L (.ref a :: S)) rfl rfl (hb G.2.1 hd)) k
theorem ok_getS (G : Good p meth c code maxL ret nm) {pc : Nat} {L : Array Slot} {S : List Value} {R0 O n d host : String} {index : Nat} (w : (Jvm.Cond.fieldLink own index R0 n d).before a0 Z = true ∨ (Jvm.Cond.fieldLinkNest own index R0 n d host).before a0 Z = true) (via : Via Z R0 O n d) {v : Value} (F : Sta Z Z.heap O n d v) (hd : decode code pc = .ok (.getstatic index, 3))
    (k : Ok p l e R s m args below meth c own Z a0 EL n0 h0 ws wd Q sf h cells slots (mkF m (pc + 3) L (v :: S))) : Ok p l e R s m args below meth c own Z a0 EL n0 h0 ws wd Q sf h cells slots (mkF m pc L S) :=
  ok_stepT (fun vm T locs X e0 hZ hown O' => getS2 X G.1 hZ hown w via e0 (F.ext O'.2) (g := mkF m pc L S) rfl (hb G.2.1 hd)) k
theorem ok_putF (G : Good p meth c code maxL ret nm) {pc : Nat} {L : Array Slot} {S : List Value} {R0 O n d host C : String} {index kk : Nat} {ty : FieldType} (w : (Jvm.Cond.fieldLink own index R0 n d).before a0 Z = true ∨ (Jvm.Cond.fieldLinkNest own index R0 n d host).before a0 Z = true) (via : Via Z R0 O n d) {v old : Value} (F : Fld Z h a O n d old) (E : Exa Z h a C)
    (Lw : (Jvm.Cond.lays C O n d).before a0 Z = true ∨ ((Jvm.Cond.laysFinal C O n d).before a0 Z = true ∧ own = O ∧ nm = "<init>")) (wi : (Jvm.Cond.instantiable C kk).before a0 Z = true) (hty : parseFieldDescriptor d = some ty) (hn : narrow ty v = v) (hf : fits ty v = true) (hd : decode code pc = .ok (.putfield index, 3))
    (hg : n0 ≤ a) (hw : a ∈ ws ∨ h0.size ≤ a) (hs : SafeFor wd Z EL sf h a)
    (k : ∀ h', Keep h h' [a] → Wr h h' a (Jvm.RoadKit.slotOf Z O n d) v → Fld Z h' a O n d v → Ok p l e R s m args below meth c own Z a0 EL n0 h0 ws wd Q sf h' cells slots (mkF m (pc + 3) L S)) : Ok p l e R s m args below meth c own Z a0 EL n0 h0 ws wd Q sf h cells slots (mkF m pc L (v :: .ref a :: S)) :=
  ok_stepW hg hw hs (fun vm T locs X e0 hZ hown O => putF X G.1 hZ hown w via e0 F E (Lw.imp id fun q => ⟨q.1, q.2.1, G.2.2.2.2.2.trans q.2.2⟩) wi hty hn hf (g := mkF m pc L (v :: .ref a :: S)) rfl rfl (hb G.2.1 hd)) (fun h' K W => k h' K W (F.same W))
theorem ok_new (G : Good p meth c code maxL ret nm) {pc : Nat} {L : Array Slot} {S : List Value} {C : String} {index n : Nat} (w : (Jvm.Cond.classLink own index C).before a0 Z = true) (wi : (Jvm.Cond.instantiable C n).before a0 Z = true) (wz : (Jvm.Cond.initialized C).before a0 Z = true) (hd : decode code pc = .ok (.new index, 3)) (hc : cells + 1 ≤ R.cells) (hl : slots + n ≤ R.slots)
    (k : ∀ h' a, a = h.size → Keep h h' [] → n0 ≤ a → h0.size ≤ a → Exa Z h' a C → (∀ (O nm d : String) (ty : FieldType), Laid Z a0 C O nm d → parseFieldDescriptor d = some ty → Fld Z h' a O nm d (defaultValue ty)) → Ok p l e R s m args below meth c own Z a0 EL n0 h0 ws wd Q (a :: sf) h' (cells + 1) (slots + n) (mkF m (pc + 3) L (.ref a :: S))) :
    Ok p l e R s m args below meth c own Z a0 EL n0 h0 ws wd Q sf h cells slots (mkF m pc L S) :=
  ok_stepE (sf' := h.size :: sf) (P := fun h' => Exa Z h' h.size C ∧ ∀ (O nm d : String) (ty : FieldType), Laid Z a0 C O nm d → parseFieldDescriptor d = some ty → Fld Z h' h.size O nm d (defaultValue ty)) (fun x hx => (List.mem_cons.mp hx).elim Or.inr Or.inl)
    (fun vm T locs X e0 hZ hown O => by
      obtain ⟨T', h', X', e1, E, A, D, -, st⟩ := newO X G.1 hZ hown w wi wz e0 (g := mkF m pc L S) rfl (hb G.2.1 hd) hc hl
      exact ⟨T', h', X', e1, E, A.lt, ⟨A, fun O nm d ty q1 q2 => D q1 q2⟩, st⟩) (fun h' K q1 q2 P => k h' h.size rfl K q1 q2 P.1 P.2)
theorem ok_newP (G : Good p meth c code maxL ret nm) {pc : Nat} {L : Array Slot} {S : List Value} {aty : ArrayType} {n : Int32} (w : (Jvm.Cond.arrayClass (newarray.typeOf aty)).before a0 Z = true) (hd : decode code pc = .ok (.newarray aty, 2)) (hn : ¬ n < 0) (cap : Nat) (hcap : n.toNatClampNeg ≤ cap) (hbig : cap * 8 ≤ 536870912) (hc : cells + 1 ≤ R.cells) (hl : slots + cap ≤ R.slots)
    (k : ∀ h' a kA, a = h.size → Keep h h' [] → n0 ≤ a → h0.size ≤ a → Arv Z h' a kA (newarray.typeOf aty) n [] (defaultValue (newarray.typeOf aty)) → Ok p l e R s m args below meth c own Z a0 EL n0 h0 ws wd Q (a :: sf) h' (cells + 1) (slots + cap) (mkF m (pc + 2) L (.ref a :: S))) :
    Ok p l e R s m args below meth c own Z a0 EL n0 h0 ws wd Q sf h cells slots (mkF m pc L (.int n :: S)) :=
  ok_stepE (sf' := h.size :: sf) (P := fun h' => ∃ kA, Arv Z h' h.size kA (newarray.typeOf aty) n [] (defaultValue (newarray.typeOf aty))) (fun x hx => (List.mem_cons.mp hx).elim Or.inr Or.inl)
    (fun vm T locs X e0 hZ hown O => by
      obtain ⟨T', h', kA, X', e1, E, A, st⟩ := newP X G.1 hZ w e0 (g := mkF m pc L (.int n :: S)) rfl (hb G.2.1 hd) rfl hn hcap hbig hc hl
      exact ⟨T', h', X', e1, E, A.lt, ⟨kA, Arv.new A hn⟩, st⟩) (fun h' K q1 q2 P => by obtain ⟨kA, P⟩ := P; exact k h' h.size kA rfl K q1 q2 P)
theorem ok_castore (G : Good p meth c code maxL ret nm) {pc : Nat} {L : Array Slot} {S : List Value} {kA : ClassId} {z j : Int32} {x : Int32} (x' : Int32) {vs : List Value} {dv : Value} (i : Nat) (F : Arv Z h a kA .char z vs dv) (hj : ¬ j < 0 ∧ j < z) (hi : j.toNatClampNeg = i) (hi' : i < vs.length) (hv : nar .char x = x') (hd : decode code pc = .ok (.castore, 1))
    (hg : n0 ≤ a) (hw : a ∈ ws ∨ h0.size ≤ a) (hs : SafeFor wd Z EL sf h a)
    (k : ∀ h', Keep h h' [a] → Arv Z h' a kA .char z (vs.set i (.int x')) dv → Ok p l e R s m args below meth c own Z a0 EL n0 h0 ws wd Q sf h' cells slots (mkF m (pc + 1) L S)) : Ok p l e R s m args below meth c own Z a0 EL n0 h0 ws wd Q sf h cells slots (mkF m pc L (.int x :: .int j :: .ref a :: S)) := by
  subst hv
  obtain ⟨cl, A, q, Sz, N, H, U⟩ := F
  exact ok_stepW hg hw hs (fun vm T locs X e0 hZ hown O => stC X G.1 hZ e0 A (inb_of Sz hj) (g := mkF m pc L (.int x :: .int j :: .ref a :: S)) rfl rfl (hb G.2.1 hd)) (fun h' K W => k h' K (Arv.set A q Sz N H U (fits_nar_char _) W i hi hi'))
theorem ok_bastore (G : Good p meth c code maxL ret nm) {pc : Nat} {L : Array Slot} {S : List Value} {kA : ClassId} {z j : Int32} {x : Int32} (x' : Int32) {vs : List Value} {dv : Value} (i : Nat) (F : Arv Z h a kA .byte z vs dv) (hj : ¬ j < 0 ∧ j < z) (hi : j.toNatClampNeg = i) (hi' : i < vs.length) (hv : nar .byte x = x') (hd : decode code pc = .ok (.bastore, 1))
    (hg : n0 ≤ a) (hw : a ∈ ws ∨ h0.size ≤ a) (hs : SafeFor wd Z EL sf h a)
    (k : ∀ h', Keep h h' [a] → Arv Z h' a kA .byte z (vs.set i (.int x')) dv → Ok p l e R s m args below meth c own Z a0 EL n0 h0 ws wd Q sf h' cells slots (mkF m (pc + 1) L S)) : Ok p l e R s m args below meth c own Z a0 EL n0 h0 ws wd Q sf h cells slots (mkF m pc L (.int x :: .int j :: .ref a :: S)) := by
  subst hv
  obtain ⟨cl, A, q, Sz, N, H, U⟩ := F
  exact ok_stepW hg hw hs (fun vm T locs X e0 hZ hown O => stB X G.1 hZ e0 A (inb_of Sz hj) (g := mkF m pc L (.int x :: .int j :: .ref a :: S)) rfl rfl (hb G.2.1 hd)) (fun h' K W => k h' K (Arv.set A q Sz N H U (fits_nar_byte _) W i hi hi'))
theorem ok_iastore (G : Good p meth c code maxL ret nm) {pc : Nat} {L : Array Slot} {S : List Value} {kA : ClassId} {z j : Int32} {x : Int32} {vs : List Value} {dv : Value} (i : Nat) (F : Arv Z h a kA .int z vs dv) (hj : ¬ j < 0 ∧ j < z) (hi : j.toNatClampNeg = i) (hi' : i < vs.length) (hd : decode code pc = .ok (.iastore, 1))
    (hg : n0 ≤ a) (hw : a ∈ ws ∨ h0.size ≤ a) (hs : SafeFor wd Z EL sf h a)
    (k : ∀ h', Keep h h' [a] → Arv Z h' a kA .int z (vs.set i (.int x)) dv → Ok p l e R s m args below meth c own Z a0 EL n0 h0 ws wd Q sf h' cells slots (mkF m (pc + 1) L S)) : Ok p l e R s m args below meth c own Z a0 EL n0 h0 ws wd Q sf h cells slots (mkF m pc L (.int x :: .int j :: .ref a :: S)) := by
  skip
  obtain ⟨cl, A, q, Sz, N, H, U⟩ := F
  exact ok_stepW hg hw hs (fun vm T locs X e0 hZ hown O => stI X G.1 hZ e0 A (inb_of Sz hj) (g := mkF m pc L (.int x :: .int j :: .ref a :: S)) rfl rfl (hb G.2.1 hd)) (fun h' K W => k h' K (Arv.set A q Sz N H U rfl W i hi hi'))
theorem ok_caload (G : Good p meth c code maxL ret nm) {pc : Nat} {L : Array Slot} {S : List Value} {kA : ClassId} {z j : Int32} {vs : List Value} {dv : Value} (v : Int32) (F : Arv Z h a kA .char z vs dv) (hj : ¬ j < 0 ∧ j < z) (hv : vs.getD j.toNatClampNeg dv = .int v) (hd : decode code pc = .ok (.caload, 1))
    (k : Ok p l e R s m args below meth c own Z a0 EL n0 h0 ws wd Q sf h cells slots (mkF m (pc + 1) L (.int v :: S))) : Ok p l e R s m args below meth c own Z a0 EL n0 h0 ws wd Q sf h cells slots (mkF m pc L (.int j :: .ref a :: S)) := by
  obtain ⟨cl, A, q, Sz, N, H, U⟩ := F
  exact ok_stepT (fun vm T locs X e0 hZ hown O => ⟨T, X, e0, fun t k => X.caload G.1 (j := j) (v := .int v) (by rw [e0]; exact A.1) (State.isArrayOf_alike hZ.alike A.2.1) A.2.2 (inb_of Sz hj) (H.at (inb_of Sz hj) hv) (g := mkF m pc L (.int j :: .ref a :: S)) rfl rfl (hb G.2.1 hd) t k⟩) k
theorem ok_baload (G : Good p meth c code maxL ret nm) {pc : Nat} {L : Array Slot} {S : List Value} {kA : ClassId} {z j : Int32} {vs : List Value} {dv : Value} (v : Int32) (F : Arv Z h a kA .byte z vs dv) (hj : ¬ j < 0 ∧ j < z) (hv : vs.getD j.toNatClampNeg dv = .int v) (hd : decode code pc = .ok (.baload, 1))
    (k : Ok p l e R s m args below meth c own Z a0 EL n0 h0 ws wd Q sf h cells slots (mkF m (pc + 1) L (.int v :: S))) : Ok p l e R s m args below meth c own Z a0 EL n0 h0 ws wd Q sf h cells slots (mkF m pc L (.int j :: .ref a :: S)) := by
  obtain ⟨cl, A, q, Sz, N, H, U⟩ := F
  exact ok_stepT (fun vm T locs X e0 hZ hown O => ⟨T, X, e0, fun t k => X.baloadBytes G.1 (j := j) (v := .int v) (by rw [e0]; exact A.1) (State.isArrayOf_alike hZ.alike A.2.1) A.2.2 (inb_of Sz hj) (H.at (inb_of Sz hj) hv) (g := mkF m pc L (.int j :: .ref a :: S)) rfl rfl (hb G.2.1 hd) t k⟩) k
theorem ok_iaload (G : Good p meth c code maxL ret nm) {pc : Nat} {L : Array Slot} {S : List Value} {kA : ClassId} {z j : Int32} {vs : List Value} {dv : Value} (v : Int32) (F : Arv Z h a kA .int z vs dv) (hj : ¬ j < 0 ∧ j < z) (hv : vs.getD j.toNatClampNeg dv = .int v) (hd : decode code pc = .ok (.iaload, 1))
    (k : Ok p l e R s m args below meth c own Z a0 EL n0 h0 ws wd Q sf h cells slots (mkF m (pc + 1) L (.int v :: S))) : Ok p l e R s m args below meth c own Z a0 EL n0 h0 ws wd Q sf h cells slots (mkF m pc L (.int j :: .ref a :: S)) := by
  obtain ⟨cl, A, q, Sz, N, H, U⟩ := F
  exact ok_stepT (fun vm T locs X e0 hZ hown O => ⟨T, X, e0, fun t k => X.iaload G.1 (j := j) (v := .int v) (by rw [e0]; exact A.1) (State.isArrayOf_alike hZ.alike A.2.1) A.2.2 (inb_of Sz hj) (H.at (inb_of Sz hj) hv) (g := mkF m pc L (.int j :: .ref a :: S)) rfl rfl (hb G.2.1 hd) t k⟩) k
theorem ok_arraylength (G : Good p meth c code maxL ret nm) {pc : Nat} {L : Array Slot} {S : List Value} {kA : ClassId} {ty : FieldType} {z : Int32} {vs : List Value} {dv : Value} (F : Arv Z h a kA ty z vs dv) (hd : decode code pc = .ok (.arraylength, 1))
    (k : Ok p l e R s m args below meth c own Z a0 EL n0 h0 ws wd Q sf h cells slots (mkF m (pc + 1) L (.int z :: S))) : Ok p l e R s m args below meth c own Z a0 EL n0 h0 ws wd Q sf h cells slots (mkF m pc L (.ref a :: S)) := by
  obtain ⟨cl, A, q, Sz, N, H, U⟩ := F
  exact ok_stepT (fun vm T locs X e0 hZ hown O => ⟨T, X, e0, fun t k => X.arraylength G.1 (by rw [e0]; exact A.1) (State.isArrayOf_alike hZ.alike A.2.1) (g := mkF m pc L (.ref a :: S)) rfl rfl (hb G.2.1 hd) t (by rw [len_of Sz N]; exact k)⟩) k
theorem ok_checkcast (G : Good p meth c code maxL ret nm) {pc : Nat} {L : Array Slot} {S : List Value} {K : String} {index : Nat} (w : (Jvm.Cond.classLink own index K).before a0 Z = true) (F : Ins Z h a K true) (hd : decode code pc = .ok (.checkcast index, 3))
    (k : Ok p l e R s m args below meth c own Z a0 EL n0 h0 ws wd Q sf h cells slots (mkF m (pc + 3) L (.ref a :: S))) : Ok p l e R s m args below meth c own Z a0 EL n0 h0 ws wd Q sf h cells slots (mkF m pc L (.ref a :: S)) :=
  ok_stepT (fun vm T locs X e0 hZ hown O => castY X G.1 hZ hown w e0 F (g := mkF m pc L (.ref a :: S)) rfl rfl (hb G.2.1 hd)) k
theorem ok_instanceof (G : Good p meth c code maxL ret nm) {pc : Nat} {L : Array Slot} {S : List Value} {K : String} {index : Nat} (w : (Jvm.Cond.classLink own index K).before a0 Z = true) (F : Ins Z h a K true) (hd : decode code pc = .ok (.instanceof index, 3))
    (k : Ok p l e R s m args below meth c own Z a0 EL n0 h0 ws wd Q sf h cells slots (mkF m (pc + 3) L (.int 1 :: S))) : Ok p l e R s m args below meth c own Z a0 EL n0 h0 ws wd Q sf h cells slots (mkF m pc L (.ref a :: S)) :=
  ok_stepT (fun vm T locs X e0 hZ hown O => instY X G.1 hZ hown w e0 F (g := mkF m pc L (.ref a :: S)) rfl rfl (hb G.2.1 hd)) k
theorem ok_instanceofNo (G : Good p meth c code maxL ret nm) {pc : Nat} {L : Array Slot} {S : List Value} {K C : String} {index : Nat} (w : (Jvm.Cond.classLink own index K).before a0 Z = true) (E : Exa Z h a C) (F : ∃ c t, Z.vm.findClass C = some c ∧ Z.vm.findClass K = some t ∧ Z.vm.assignable c t = false) (hd : decode code pc = .ok (.instanceof index, 3))
    (k : Ok p l e R s m args below meth c own Z a0 EL n0 h0 ws wd Q sf h cells slots (mkF m (pc + 3) L (.int 0 :: S))) : Ok p l e R s m args below meth c own Z a0 EL n0 h0 ws wd Q sf h cells slots (mkF m pc L (.ref a :: S)) :=
  ok_stepT (fun vm T locs X e0 hZ hown O => instNo X G.1 hZ hown w e0 E F (g := mkF m pc L (.ref a :: S)) rfl rfl (hb G.2.1 hd)) k
theorem ok_checkcastNull (G : Good p meth c code maxL ret nm) {pc : Nat} {L : Array Slot} {S : List Value} {index : Nat} (hd : decode code pc = .ok (.checkcast index, 3)) (k : Ok p l e R s m args below meth c own Z a0 EL n0 h0 ws wd Q sf h cells slots (mkF m (pc + 3) L (.null :: S))) : Ok p l e R s m args below meth c own Z a0 EL n0 h0 ws wd Q sf h cells slots (mkF m pc L (.null :: S)) :=
  ok_stepT (fun vm T locs X e0 hZ hown O => ⟨T, X, e0, fun t k => X.checkcastNull G.1 (g := mkF m pc L (.null :: S)) rfl rfl (hb G.2.1 hd) t k⟩) k
theorem ok_instanceofNull (G : Good p meth c code maxL ret nm) {pc : Nat} {L : Array Slot} {S : List Value} {index : Nat} (hd : decode code pc = .ok (.instanceof index, 3)) (k : Ok p l e R s m args below meth c own Z a0 EL n0 h0 ws wd Q sf h cells slots (mkF m (pc + 3) L (.int 0 :: S))) : Ok p l e R s m args below meth c own Z a0 EL n0 h0 ws wd Q sf h cells slots (mkF m pc L (.null :: S)) :=
  ok_stepT (fun vm T locs X e0 hZ hown O => ⟨T, X, e0, fun t k => X.instanceofNull G.1 (g := mkF m pc L (.null :: S)) rfl rfl (hb G.2.1 hd) t k⟩) k
theorem ok_initO (G : Good p meth c code maxL ret nm) {pc : Nat} {L : Array Slot} {S : List Value} {idx : Nat} (w1 : (Jvm.Cond.methodLink own idx Lib.objectInit).before a0 Z = true) (w2 : (Jvm.Cond.instanceMethod Lib.objectInit).before a0 Z = true) (w3 : (Jvm.Cond.code Lib.objectInit ⟨#[0xb1]⟩ 1 none).before a0 Z = true) (hsz : L.size = maxL) (hd : decode code pc = .ok (.invokespecial idx, 3)) (hf : 1 ≤ R.frames) (hl : (S.map fun v => v.category).sum + 12 ≤ R.locals)
    (k : Ok p l e R s m args below meth c own Z a0 EL n0 h0 ws wd Q sf h cells slots (mkF m (pc + 3) L S)) : Ok p l e R s m args below meth c own Z a0 EL n0 h0 ws wd Q sf h cells slots (mkF m pc L (.ref a :: S)) :=
  ok_stepT (fun vm T locs X e0 hZ hown O => initO X G.1 hZ hown w1 w2 w3 e0 (g := mkF m pc L (.ref a :: S)) rfl (by rw [G.2.2.1]; exact hsz) rfl (hb G.2.1 hd) hf (W := (S.map fun v => v.category).sum) (by show 2 * 0 + _ ≤ _; omega) hl) k
/-- behind a call that interned nothing -/
theorem ok_stepC {gn : Option Value → JFrame} {g : JFrame} {rc rs : Nat} {ws' : List Addr} {Q' : Option Value → Heap → Prop} (hws : ∀ x ∈ ws', (x ∈ ws ∨ h0.size ≤ x) ∧ SafeFor wd Z EL sf h x)
    (st : ∀ vm T locs, Stand p l e R (s.setVm vm) m args below meth c T locs cells slots → T.heap = h → Z.Warmed39 vm → vm.findClass own = some m.cls → Old Z n0 h →
      ∃ v T' L, Stand p l e R (s.setVm vm) m args below meth c T' (locs ++ L) (cells + rc) (slots + rs) ∧ (Fr n0 L ∧ Old Z n0 T'.heap ∧ Keep h T'.heap ws' ∧ Q' v T'.heap) ∧ ∀ target, Steps p.tables e below (T'.setTop (gn v)) target → Steps p.tables e below (T.setTop g) target)
    (k : ∀ v h', Keep h h' ws' → Q' v h' → Ok p l e R s m args below meth c own Z a0 EL n0 h0 ws wd Q sf h' (cells + rc) (slots + rs) (gn v)) : Ok p l e R s m args below meth c own Z a0 EL n0 h0 ws wd Q sf h cells slots g := by
  intro vm T locs W
  obtain ⟨X, e0, hZ, hown, hS, hh, N, O, K, r, r'⟩ := W
  obtain ⟨v, T', Ls, X', ⟨N', O', K', q⟩, st'⟩ := st vm T locs X e0 hZ hown O
  obtain ⟨s₂, o, h1, h2⟩ := k v T'.heap K' q vm T' _ ⟨X', rfl, hZ, hown, ⟨hS.1, hS.2.mono K'.1⟩, hh, N.app N', O', K.trans K' (fun x hx => (hws x hx).1), r, fun w => by
    obtain ⟨hE, hC, hs⟩ := r' w
    have hsw : ∀ x ∈ ws', Safe Z EL vm h x := fun x hx => ((hws x hx).2 w).elim (fun z => (hs x z).2) (fun z => z vm hZ.alike)
    exact ⟨hE, hC.trans (CHr.keep K' hsw hC.1), fun x hx => ⟨Nat.lt_of_lt_of_le (hs x hx).1 K'.1, Safe.keep K' hsw hC.1 (hs x hx).2⟩⟩⟩
  exact ⟨s₂, o, st' s₂ h1, h2⟩
/-- behind a step that may have interned -/
theorem ok_stepCW {gn : Option Value → JFrame} {g : JFrame} {rc rs : Nat} {ws' : List Addr} {Q' : Option Value → Heap → Vm → Prop} (hwd : wd = true) (hws : ∀ x ∈ ws', x ∈ ws ∨ h0.size ≤ x)
    (st : ∀ vm T locs, Stand p l e R (s.setVm vm) m args below meth c T locs cells slots → T.heap = h → Z.Warmed39 vm → vm.findClass own = some m.cls → s.Since vm h.size → Old Z n0 h → EW Z a0 EL → CHv Z EL vm h →
      ∃ v T' L, Stand p l e R (s.setVm T'.vm) m args below meth c T' (locs ++ L) (cells + rc) (slots + rs) ∧ s.Since T'.vm T'.heap.size ∧ Z.Warmed39 T'.vm ∧ T'.vm.findClass own = some m.cls ∧ CHr Z EL vm h T'.vm T'.heap ∧ (Fr n0 L ∧ Old Z n0 T'.heap ∧ Keep h T'.heap ws' ∧ Q' v T'.heap T'.vm) ∧ ∀ target, Steps p.tables e below (T'.setTop (gn v)) target → Steps p.tables e below (T.setTop g) target)
    (k : ∀ v h' vm', Keep h h' ws' → (∀ x ∈ sf, Safe Z EL vm' h' x) → Q' v h' vm' → Ok p l e R s m args below meth c own Z a0 EL n0 h0 ws wd Q sf h' (cells + rc) (slots + rs) (gn v)) : Ok p l e R s m args below meth c own Z a0 EL n0 h0 ws wd Q sf h cells slots g := by
  intro vm T locs W
  obtain ⟨X, e0, hZ, hown, hS, hh, N, O, K, r, r'⟩ := W
  obtain ⟨hE, hC, hs⟩ := r' hwd
  obtain ⟨v, T', Ls, X', hS', hZ', hown', hR, ⟨N', O', K', q⟩, st'⟩ := st vm T locs X e0 hZ hown hS O hE hC.1
  have hs' : ∀ x ∈ sf, x < T'.heap.size ∧ Safe Z EL T'.vm T'.heap x := fun x hx => ⟨Nat.lt_of_lt_of_le (hs x hx).1 K'.1, hR.safe (hs x hx).1 (hs x hx).2⟩
  obtain ⟨s₂, o, h1, h2⟩ := k v T'.heap T'.vm K' (fun x hx => (hs' x hx).2) q T'.vm T' _ ⟨X', rfl, hZ', hown', hS', hh, N.app N', O', K.trans K' hws, (fun w => absurd (hwd.symm.trans w) (fun z => nomatch z)), fun _ => ⟨hE, hC.trans hR, hs'⟩⟩
  exact ⟨s₂, o, st' s₂ h1, h2⟩
theorem Con.free {y : MethodName} {bytes : ByteArray} {maxL' : Nat} {ret' : Option FieldType} {rm : Room} {as' : Array Value} {ws' : List Addr} {Q' : Option Value → Heap → Prop} (hM : Con false l Z EL n0 y bytes maxL' ret' rm as' h ws' Q') :
    MetFree l y (head1 [Jvm.Cond.code y bytes maxL' ret'] rm) (fun a U => a = as' ∧ Z.Warmed39 U.vm ∧ U.heap = h) (fun _ _ _ _ _ => True) (fun _ U o U' => ∃ v L, o = .returned v ∧ (Fr n0 L ∧ Old Z n0 U'.heap ∧ Keep h U'.heap ws' ∧ Q' v U'.heap) ∧ FrameEnd U o U' L rm.cells rm.slots) :=
  fun p e ha hc hk s m args below hf happ hP hK => hM [] p e ha hc hk s m args below hf happ ⟨hP.1, hP.2.1, hP.2.2, fun q => nomatch q⟩ hK
theorem Con.freeW {y : MethodName} {bytes : ByteArray} {maxL' : Nat} {ret' : Option FieldType} {rm : Room} {as' : Array Value} {ws' : List Addr} {Q' : Option Value → Heap → Prop} (hM : Con true l Z EL n0 y bytes maxL' ret' rm as' h ws' Q') :
    MetFree l y (head1 [Jvm.Cond.code y bytes maxL' ret'] rm) (fun a U => a = as' ∧ Z.Warmed39 U.vm ∧ U.heap = h ∧ CHv Z EL U.vm h) (fun _ _ _ _ _ => True) (fun _ U o U' => ∃ v L, o = .returned v ∧ (Fr n0 L ∧ Old Z n0 U'.heap ∧ Keep h U'.heap ws' ∧ Q' v U'.heap) ∧ CHr Z EL U.vm U.heap U'.vm U'.heap ∧ ReturnedEndW U o U' L rm.cells rm.slots) :=
  fun p e ha hc hk s m args below hf happ hP hK => hM [] p e ha hc hk s m args below hf happ ⟨hP.1, hP.2.1, hP.2.2.1, fun _ => hP.2.2.2⟩ hK
theorem ok_static (G : Good p meth c code maxL ret nm) {pc : Nat} {L : Array Slot} {S : List Value} {y : MethodName} {bytes : ByteArray} {maxL' : Nat} {ret' : Option FieldType} {rm : Room} {ws' : List Addr} {Q' : Option Value → Heap → Prop} {index : Nat} {ps : List FieldType} {r : Option FieldType} {EL' : List (String × Nat)} {argsL rest : List Value} (w1 : (Jvm.Cond.methodLink own index y).before a0 Z = true) (w2 : (Jvm.Cond.static y).before a0 Z = true) (w3 : (Jvm.Cond.initialized y.cls).before a0 Z = true) (w4 : (Jvm.Cond.code y bytes maxL' ret').before a0 Z = true) (hy : y.cls ≠ "java/lang/invoke/MethodHandle" ∧ y.cls ≠ "java/lang/invoke/VarHandle") (hdesc : parseMethodDescriptor y.desc = some ⟨ps, r⟩)
    (hM : Con false l Z EL' n0 y bytes maxL' ret' rm argsL.toArray h ws' Q') (hln : argsL.length = ps.length) (hS : S = argsL.reverse ++ rest) (hsz : L.size = maxL) (hd : decode code pc = .ok (.invokestatic index, 3)) (hf : rm.frames + 1 ≤ R.frames) (hl : (rest.map fun v => v.category).sum + (maxL' + 11) + rm.locals ≤ R.locals) (hc : cells + rm.cells ≤ R.cells) (hsl : slots + rm.slots ≤ R.slots) (hws : ∀ x ∈ ws', (x ∈ ws ∨ h0.size ≤ x) ∧ SafeFor wd Z EL sf h x)
    (k : ∀ v h', Keep h h' ws' → Q' v h' → Ok p l e R s m args below meth c own Z a0 EL n0 h0 ws wd Q sf h' (cells + rm.cells) (slots + rm.slots) (mkF m (pc + 3) L (v.toList ++ rest))) : Ok p l e R s m args below meth c own Z a0 EL n0 h0 ws wd Q sf h cells slots (mkF m pc L S) := by
  subst hS
  exact ok_stepC (gn := fun v => mkF m (pc + 3) L (v.toList ++ rest)) hws (fun vm T locs X e0 hZ hown O => by
      obtain ⟨v, _, ⟨T', L', k', n'⟩, -, X', ⟨Lc, hQ, l1, y1, z1⟩, st⟩ := Jvm.LawKit.callS X G.1 (y := y) hown (mvT (s := s.setVm vm) hZ w1) (mvT (s := s.setVm vm) hZ w2) (mvT (s := s.setVm vm) hZ w3) (mvT (s := s.setVm vm) hZ w4) hy (backOf (s := s.setVm vm) (Q := fun v h' L => Fr n0 L ∧ Old Z n0 h' ∧ Keep h h' ws' ∧ Q' v h') (W := (rest.map fun v => v.category).sum) hM.free hZ w4 w3 hf hl) (g := mkF m pc L (argsL.reverse ++ rest)) rfl (by rw [G.2.2.1]; exact hsz) (argsL := argsL) (rest := rest) (lenOf hdesc hln) rfl (by show 2 * 0 + _ ≤ _; omega) (hb G.2.1 hd) (fun _ _ => ⟨rfl, e0, hc, hsl⟩)
      dsimp only [Pt.U, Pt.locs, Pt.cells, Pt.slots] at X' l1 y1 z1 st hQ
      subst l1 y1 z1
      exact ⟨v, T', Lc, X', hQ, st⟩) k
theorem ok_init (G : Good p meth c code maxL ret nm) {pc : Nat} {L : Array Slot} {S : List Value} {y : MethodName} {bytes : ByteArray} {maxL' : Nat} {rm : Room} {ws' : List Addr} {Q' : Option Value → Heap → Prop} {index : Nat} {ps : List FieldType} {r : Option FieldType} {EL' : List (String × Nat)} {argsL rest : List Value} (hy1 : y.name = "<init>") (w1 : (Jvm.Cond.methodLink own index y).before a0 Z = true) (w2 : (Jvm.Cond.instanceMethod y).before a0 Z = true) (w3 : (Jvm.Cond.initialized y.cls).before a0 Z = true) (w4 : (Jvm.Cond.code y bytes maxL' none).before a0 Z = true) (hy : y.cls ≠ "java/lang/invoke/MethodHandle" ∧ y.cls ≠ "java/lang/invoke/VarHandle") (hdesc : parseMethodDescriptor y.desc = some ⟨ps, r⟩)
    (hM : Con false l Z EL' n0 y bytes maxL' none rm (.ref a :: argsL).toArray h ws' Q') (hln : argsL.length = ps.length) (hS : S = argsL.reverse ++ .ref a :: rest) (hsz : L.size = maxL) (hd : decode code pc = .ok (.invokespecial index, 3)) (hf : rm.frames + 1 ≤ R.frames) (hl : (rest.map fun v => v.category).sum + (maxL' + 11) + rm.locals ≤ R.locals) (hc : cells + rm.cells ≤ R.cells) (hsl : slots + rm.slots ≤ R.slots) (hws : ∀ x ∈ ws', (x ∈ ws ∨ h0.size ≤ x) ∧ SafeFor wd Z EL sf h x)
    (k : ∀ v h', Keep h h' ws' → Q' v h' → Ok p l e R s m args below meth c own Z a0 EL n0 h0 ws wd Q sf h' (cells + rm.cells) (slots + rm.slots) (mkF m (pc + 3) L (v.toList ++ rest))) : Ok p l e R s m args below meth c own Z a0 EL n0 h0 ws wd Q sf h cells slots (mkF m pc L S) := by
  subst hS
  exact ok_stepC (gn := fun v => mkF m (pc + 3) L (v.toList ++ rest)) hws (fun vm T locs X e0 hZ hown O => by
      obtain ⟨v, _, ⟨T', L', k', n'⟩, -, X', ⟨Lc, hQ, l1, y1, z1⟩, st⟩ := X.specialBack G.1 (y := y) hy1 hown (mvT (s := s.setVm vm) hZ w1) (mvT (s := s.setVm vm) hZ w2) (mvT (s := s.setVm vm) hZ w4) hy (backOf (s := s.setVm vm) (Q := fun v h' L => Fr n0 L ∧ Old Z n0 h' ∧ Keep h h' ws' ∧ Q' v h') (W := (rest.map fun v => v.category).sum) hM.free hZ w4 w3 hf hl) (g := mkF m pc L (argsL.reverse ++ .ref a :: rest)) rfl (by rw [G.2.2.1]; exact hsz) (Steps.refl _) (a := a) (argsL := argsL) (rest := rest) (lenOf hdesc hln) rfl (by show 2 * 0 + _ ≤ _; omega) (hb G.2.1 hd) (fun _ _ => ⟨rfl, e0, hc, hsl⟩)
      dsimp only [Pt.U, Pt.locs, Pt.cells, Pt.slots] at X' l1 y1 z1 st hQ
      subst l1 y1 z1
      exact ⟨v, T', Lc, X', hQ, fun t k => st.trans k⟩) k
theorem ok_virtual (G : Good p meth c code maxL ret nm) {pc : Nat} {L : Array Slot} {S : List Value} {y : MethodName} {bytes : ByteArray} {maxL' : Nat} {ret' : Option FieldType} {rm : Room} {ws' : List Addr} {Q' : Option Value → Heap → Prop} {index : Nat} {ps : List FieldType} {r : Option FieldType} {EL' : List (String × Nat)} {y0 : MethodName} {C : String} {argsL rest : List Value} (E : Exa Z h a C) (w1 : (Jvm.Cond.methodLink own index y0).before a0 Z = true) (w5 : (Jvm.Cond.declares y0).before a0 Z = true) (w6 : (Jvm.Cond.selects C y0 y).before a0 Z = true) (hnf : ∀ vm, Z.Warmed39 vm → NotFace (s.setVm vm) y0) (w2 : (Jvm.Cond.instanceMethod y).before a0 Z = true) (w3 : (Jvm.Cond.initialized y.cls).before a0 Z = true) (w4 : (Jvm.Cond.code y bytes maxL' ret').before a0 Z = true) (hy : y0.cls ≠ "java/lang/invoke/MethodHandle" ∧ y0.cls ≠ "java/lang/invoke/VarHandle") (hdesc : parseMethodDescriptor y0.desc = some ⟨ps, r⟩)
    (hM : Con false l Z EL' n0 y bytes maxL' ret' rm (.ref a :: argsL).toArray h ws' Q') (hln : argsL.length = ps.length) (hS : S = argsL.reverse ++ .ref a :: rest) (hsz : L.size = maxL) (hd : decode code pc = .ok (.invokevirtual index, 3)) (hf : rm.frames + 1 ≤ R.frames) (hl : (rest.map fun v => v.category).sum + (maxL' + 11) + rm.locals ≤ R.locals) (hc : cells + rm.cells ≤ R.cells) (hsl : slots + rm.slots ≤ R.slots) (hws : ∀ x ∈ ws', (x ∈ ws ∨ h0.size ≤ x) ∧ SafeFor wd Z EL sf h x)
    (k : ∀ v h', Keep h h' ws' → Q' v h' → Ok p l e R s m args below meth c own Z a0 EL n0 h0 ws wd Q sf h' (cells + rm.cells) (slots + rm.slots) (mkF m (pc + 3) L (v.toList ++ rest))) : Ok p l e R s m args below meth c own Z a0 EL n0 h0 ws wd Q sf h cells slots (mkF m pc L S) := by
  subst hS
  exact ok_stepC (gn := fun v => mkF m (pc + 3) L (v.toList ++ rest)) hws (fun vm T locs X e0 hZ hown O => by
      obtain ⟨cq, kq, qa, qb, qc⟩ := isOf (s := s.setVm vm) hZ e0 E
      obtain ⟨v, _, ⟨T', L', k', n'⟩, -, X', ⟨Lc, hQ, l1, y1, z1⟩, st⟩ := X.virtualBack G.1 (y := y0) (z := y) hown (mvT (s := s.setVm vm) hZ w1) (mvT (s := s.setVm vm) hZ w5) (hnf vm hZ) (mvT (s := s.setVm vm) hZ w6) (mvT (s := s.setVm vm) hZ w2) hy (backOf (s := s.setVm vm) (Q := fun v h' L => Fr n0 L ∧ Old Z n0 h' ∧ Keep h h' ws' ∧ Q' v h') (W := (rest.map fun v => v.category).sum) hM.free hZ w4 w3 hf hl) qa qc (g := mkF m pc L (argsL.reverse ++ .ref a :: rest)) rfl (by rw [G.2.2.1]; exact hsz) (Steps.refl _) (argsL := argsL) (rest := rest) (lenOf hdesc hln) rfl (by show 2 * 0 + _ ≤ _; omega) (hb G.2.1 hd) (fun _ _ => ⟨rfl, e0, hc, hsl⟩)
      dsimp only [Pt.U, Pt.locs, Pt.cells, Pt.slots] at X' l1 y1 z1 st hQ
      subst l1 y1 z1
      exact ⟨v, T', Lc, X', hQ, fun t k => st.trans k⟩) k
theorem ok_virtualUp (G : Good p meth c code maxL ret nm) {pc : Nat} {L : Array Slot} {S : List Value} {y : MethodName} {bytes : ByteArray} {maxL' : Nat} {ret' : Option FieldType} {rm : Room} {ws' : List Addr} {Q' : Option Value → Heap → Prop} {index : Nat} {ps : List FieldType} {r : Option FieldType} {EL' : List (String × Nat)} {y0 : MethodName} {C owner : String} {argsL rest : List Value} (E : Exa Z h a C) (w1 : (Jvm.Cond.methodLink own index y0).before a0 Z = true) (w7 : (Jvm.Cond.sameMethod y0.cls owner y0.name y0.desc).before a0 Z = true) (w5 : (Jvm.Cond.declares ⟨owner, y0.name, y0.desc⟩).before a0 Z = true) (w6 : (Jvm.Cond.selects C y0 y).before a0 Z = true) (w2 : (Jvm.Cond.instanceMethod y).before a0 Z = true) (w3 : (Jvm.Cond.initialized y.cls).before a0 Z = true) (w4 : (Jvm.Cond.code y bytes maxL' ret').before a0 Z = true) (how : owner ≠ "java/lang/invoke/MethodHandle" ∧ owner ≠ "java/lang/invoke/VarHandle") (hdesc : parseMethodDescriptor y0.desc = some ⟨ps, r⟩)
    (hM : Con false l Z EL' n0 y bytes maxL' ret' rm (.ref a :: argsL).toArray h ws' Q') (hln : argsL.length = ps.length) (hS : S = argsL.reverse ++ .ref a :: rest) (hsz : L.size = maxL) (hd : decode code pc = .ok (.invokevirtual index, 3)) (hf : rm.frames + 1 ≤ R.frames) (hl : (rest.map fun v => v.category).sum + (maxL' + 11) + rm.locals ≤ R.locals) (hc : cells + rm.cells ≤ R.cells) (hsl : slots + rm.slots ≤ R.slots) (hws : ∀ x ∈ ws', (x ∈ ws ∨ h0.size ≤ x) ∧ SafeFor wd Z EL sf h x)
    (k : ∀ v h', Keep h h' ws' → Q' v h' → Ok p l e R s m args below meth c own Z a0 EL n0 h0 ws wd Q sf h' (cells + rm.cells) (slots + rm.slots) (mkF m (pc + 3) L (v.toList ++ rest))) : Ok p l e R s m args below meth c own Z a0 EL n0 h0 ws wd Q sf h cells slots (mkF m pc L S) := by
  subst hS
  exact ok_stepC (gn := fun v => mkF m (pc + 3) L (v.toList ++ rest)) hws (fun vm T locs X e0 hZ hown O => by
      obtain ⟨cq, kq, qa, qb, qc⟩ := isOf (s := s.setVm vm) hZ e0 E
      obtain ⟨v, _, ⟨T', L', k', n'⟩, -, X', ⟨Lc, hQ, l1, y1, z1⟩, st⟩ := X.virtualBackUp G.1 (x := y0) (owner := owner) (y := y) hown (mvT (s := s.setVm vm) hZ w1) (mvT (s := s.setVm vm) hZ w7) (mvT (s := s.setVm vm) hZ w5) how (mvT (s := s.setVm vm) hZ w6) (mvT (s := s.setVm vm) hZ w2) (backOf (s := s.setVm vm) (Q := fun v h' L => Fr n0 L ∧ Old Z n0 h' ∧ Keep h h' ws' ∧ Q' v h') (W := (rest.map fun v => v.category).sum) hM.free hZ w4 w3 hf hl) qa qc (g := mkF m pc L (argsL.reverse ++ .ref a :: rest)) rfl (by rw [G.2.2.1]; exact hsz) (Steps.refl _) (argsL := argsL) (rest := rest) (lenOf hdesc hln) rfl (by show 2 * 0 + _ ≤ _; omega) (hb G.2.1 hd) (fun _ _ => ⟨rfl, e0, hc, hsl⟩)
      dsimp only [Pt.U, Pt.locs, Pt.cells, Pt.slots] at X' l1 y1 z1 st hQ
      subst l1 y1 z1
      exact ⟨v, T', Lc, X', hQ, fun t k => st.trans k⟩) k
theorem ok_interface (G : Good p meth c code maxL ret nm) {pc : Nat} {L : Array Slot} {S : List Value} {y : MethodName} {bytes : ByteArray} {maxL' : Nat} {ret' : Option FieldType} {rm : Room} {ws' : List Addr} {Q' : Option Value → Heap → Prop} {index : Nat} {ps : List FieldType} {r : Option FieldType} {EL' : List (String × Nat)} {y0 : MethodName} {C : String} {count : Nat} {argsL rest : List Value} (E : Exa Z h a C) (w1 : (Jvm.Cond.methodLink own index y0).before a0 Z = true) (w5 : (Jvm.Cond.declares y0).before a0 Z = true) (w7 : (Jvm.Cond.interfaceMethod y0.cls y0.cls y0.name y0.desc).before a0 Z = true) (hfc : ((Jvm.Cond.interfaceMethod y0.cls y0.cls y0.name y0.desc).onTables && (Jvm.Cond.interfaceMethod y0.cls y0.cls y0.name y0.desc).keepsFace) = true) (w6 : (Jvm.Cond.selects C y0 y).before a0 Z = true) (w2 : (Jvm.Cond.instanceMethod y).before a0 Z = true) (w8 : (Jvm.Cond.publicMethod y).before a0 Z = true) (w9 : (Jvm.Cond.unhidden C y0.name y0.desc).before a0 Z = true) (w10 : (Jvm.Cond.castable C y0.cls).before a0 Z = true) (w3 : (Jvm.Cond.initialized y.cls).before a0 Z = true) (w4 : (Jvm.Cond.code y bytes maxL' ret').before a0 Z = true) (hy : y0.cls ≠ "java/lang/invoke/MethodHandle" ∧ y0.cls ≠ "java/lang/invoke/VarHandle") (hdesc : parseMethodDescriptor y0.desc = some ⟨ps, r⟩)
    (hM : Con false l Z EL' n0 y bytes maxL' ret' rm (.ref a :: argsL).toArray h ws' Q') (hln : argsL.length = ps.length) (hS : S = argsL.reverse ++ .ref a :: rest) (hsz : L.size = maxL) (hd : decode code pc = .ok (.invokeinterface index count, 5)) (hf : rm.frames + 1 ≤ R.frames) (hl : (rest.map fun v => v.category).sum + (maxL' + 11) + rm.locals ≤ R.locals) (hc : cells + rm.cells ≤ R.cells) (hsl : slots + rm.slots ≤ R.slots) (hws : ∀ x ∈ ws', (x ∈ ws ∨ h0.size ≤ x) ∧ SafeFor wd Z EL sf h x)
    (k : ∀ v h', Keep h h' ws' → Q' v h' → Ok p l e R s m args below meth c own Z a0 EL n0 h0 ws wd Q sf h' (cells + rm.cells) (slots + rm.slots) (mkF m (pc + 5) L (v.toList ++ rest))) : Ok p l e R s m args below meth c own Z a0 EL n0 h0 ws wd Q sf h cells slots (mkF m pc L S) := by
  subst hS
  exact ok_stepC (gn := fun v => mkF m (pc + 5) L (v.toList ++ rest)) hws (fun vm T locs X e0 hZ hown O => by
      obtain ⟨cq, kq, qa, qb, qc⟩ := isOf (s := s.setVm vm) hZ e0 E
      obtain ⟨v, _, ⟨T', L', k', n'⟩, -, X', ⟨Lc, hQ, l1, y1, z1⟩, st⟩ := X.interfaceBack G.1 (xi := y0) (y := y) hown (mvT (s := s.setVm vm) hZ w1) (mvT (s := s.setVm vm) hZ w5) (mvT (s := s.setVm vm) hZ w7 hfc) (mvT (s := s.setVm vm) hZ w6) (mvT (s := s.setVm vm) hZ w2) (mvT (s := s.setVm vm) hZ w8) (mvT (s := s.setVm vm) hZ w9) (mvT (s := s.setVm vm) hZ w10) hy (backOf (s := s.setVm vm) (Q := fun v h' L => Fr n0 L ∧ Old Z n0 h' ∧ Keep h h' ws' ∧ Q' v h') (W := (rest.map fun v => v.category).sum) hM.free hZ w4 w3 hf hl) qa qb qc (g := mkF m pc L (argsL.reverse ++ .ref a :: rest)) rfl (by rw [G.2.2.1]; exact hsz) (Steps.refl _) (argsL := argsL) (rest := rest) (lenOf hdesc hln) rfl (by show 2 * 0 + _ ≤ _; omega) (hb G.2.1 hd) (fun _ _ => ⟨rfl, e0, hc, hsl⟩)
      dsimp only [Pt.U, Pt.locs, Pt.cells, Pt.slots] at X' l1 y1 z1 st hQ
      subst l1 y1 z1
      exact ⟨v, T', Lc, X', hQ, fun t k => st.trans k⟩) k
theorem ok_staticW (G : Good p meth c code maxL ret nm) {pc : Nat} {L : Array Slot} {S : List Value} {y : MethodName} {bytes : ByteArray} {maxL' : Nat} {ret' : Option FieldType} {rm : Room} {ws' : List Addr} {Q' : Option Value → Heap → Prop} {index : Nat} {ps : List FieldType} {r : Option FieldType} {argsL rest : List Value} (w1 : (Jvm.Cond.methodLink own index y).before a0 Z = true) (w2 : (Jvm.Cond.static y).before a0 Z = true) (w3 : (Jvm.Cond.initialized y.cls).before a0 Z = true) (w4 : (Jvm.Cond.code y bytes maxL' ret').before a0 Z = true) (hy : y.cls ≠ "java/lang/invoke/MethodHandle" ∧ y.cls ≠ "java/lang/invoke/VarHandle") (hdesc : parseMethodDescriptor y.desc = some ⟨ps, r⟩)
    (hM : Con true l Z EL n0 y bytes maxL' ret' rm argsL.toArray h ws' Q') (hln : argsL.length = ps.length) (hS : S = argsL.reverse ++ rest) (hsz : L.size = maxL) (hd : decode code pc = .ok (.invokestatic index, 3)) (hf : rm.frames + 1 ≤ R.frames) (hl : (rest.map fun v => v.category).sum + (maxL' + 11) + rm.locals ≤ R.locals) (hc : cells + rm.cells ≤ R.cells) (hsl : slots + rm.slots ≤ R.slots) (hwd : wd = true) (hws : ∀ x ∈ ws', x ∈ ws ∨ h0.size ≤ x)
    (k : ∀ v h', Keep h h' ws' → Q' v h' → Ok p l e R s m args below meth c own Z a0 EL n0 h0 ws wd Q sf h' (cells + rm.cells) (slots + rm.slots) (mkF m (pc + 3) L (v.toList ++ rest))) : Ok p l e R s m args below meth c own Z a0 EL n0 h0 ws wd Q sf h cells slots (mkF m pc L S) := by
  subst hS
  exact ok_stepCW (Q' := fun v h' _ => Q' v h') (gn := fun v => mkF m (pc + 3) L (v.toList ++ rest)) hwd hws (fun vm T locs X e0 hZ hown hSi O hE hC => by
      obtain ⟨v, _, ⟨T', L', k', n'⟩, -, X', hS2, hgr, ⟨Lc, hQ, l1, y1, z1, hR⟩, st⟩ := callSS X G.1 (y := y) hown (mvT (s := s.setVm vm) hZ w1) (mvT (s := s.setVm vm) hZ w2) (mvT (s := s.setVm vm) hZ w3) (mvT (s := s.setVm vm) hZ w4) hy (backOfSH (s := s) (Q := fun v h' L => Fr n0 L ∧ Old Z n0 h' ∧ Keep h h' ws' ∧ Q' v h') (W := (rest.map fun v => v.category).sum) hM.freeW hZ w4 w3 hf hl hE hC) (g := mkF m pc L (argsL.reverse ++ rest)) rfl (by rw [G.2.2.1]; exact hsz) (argsL := argsL) (rest := rest) (lenOf hdesc hln) rfl (by show 2 * 0 + _ ≤ _; omega) (hb G.2.1 hd) (fun _ _ => ⟨rfl, e0, hc, hsl⟩)
      dsimp only [Pt.U, Pt.locs, Pt.cells, Pt.slots] at X' l1 y1 z1 st hQ hS2 hgr hR
      subst l1 y1 z1
      obtain ⟨X2, S2, Z2, o2⟩ := rebS hSi (by rw [← e0]; exact Nat.le_refl _) X' hS2 hgr hZ hown
      exact ⟨v, T', Lc, X2, S2, Z2, o2, hR, hQ, fun t k => st.trans k⟩) (fun v h' vm' K' _ q => k v h' K' q)
theorem ok_initW (G : Good p meth c code maxL ret nm) {pc : Nat} {L : Array Slot} {S : List Value} {y : MethodName} {bytes : ByteArray} {maxL' : Nat} {rm : Room} {ws' : List Addr} {Q' : Option Value → Heap → Prop} {index : Nat} {ps : List FieldType} {r : Option FieldType} {argsL rest : List Value} (hy1 : y.name = "<init>") (w1 : (Jvm.Cond.methodLink own index y).before a0 Z = true) (w2 : (Jvm.Cond.instanceMethod y).before a0 Z = true) (w3 : (Jvm.Cond.initialized y.cls).before a0 Z = true) (w4 : (Jvm.Cond.code y bytes maxL' none).before a0 Z = true) (hy : y.cls ≠ "java/lang/invoke/MethodHandle" ∧ y.cls ≠ "java/lang/invoke/VarHandle") (hdesc : parseMethodDescriptor y.desc = some ⟨ps, r⟩)
    (hM : Con true l Z EL n0 y bytes maxL' none rm (.ref a :: argsL).toArray h ws' Q') (hln : argsL.length = ps.length) (hS : S = argsL.reverse ++ .ref a :: rest) (hsz : L.size = maxL) (hd : decode code pc = .ok (.invokespecial index, 3)) (hf : rm.frames + 1 ≤ R.frames) (hl : (rest.map fun v => v.category).sum + (maxL' + 11) + rm.locals ≤ R.locals) (hc : cells + rm.cells ≤ R.cells) (hsl : slots + rm.slots ≤ R.slots) (hwd : wd = true) (hws : ∀ x ∈ ws', x ∈ ws ∨ h0.size ≤ x)
    (k : ∀ v h', Keep h h' ws' → Q' v h' → Ok p l e R s m args below meth c own Z a0 EL n0 h0 ws wd Q sf h' (cells + rm.cells) (slots + rm.slots) (mkF m (pc + 3) L (v.toList ++ rest))) : Ok p l e R s m args below meth c own Z a0 EL n0 h0 ws wd Q sf h cells slots (mkF m pc L S) := by
  subst hS
  exact ok_stepCW (Q' := fun v h' _ => Q' v h') (gn := fun v => mkF m (pc + 3) L (v.toList ++ rest)) hwd hws (fun vm T locs X e0 hZ hown hSi O hE hC => by
      obtain ⟨v, _, ⟨T', L', k', n'⟩, -, X', hS2, hgr, ⟨Lc, hQ, l1, y1, z1, hR⟩, st⟩ := X.specialBackS G.1 (y := y) hy1 hown (mvT (s := s.setVm vm) hZ w1) (mvT (s := s.setVm vm) hZ w2) (mvT (s := s.setVm vm) hZ w4) hy (backOfSH (s := s) (Q := fun v h' L => Fr n0 L ∧ Old Z n0 h' ∧ Keep h h' ws' ∧ Q' v h') (W := (rest.map fun v => v.category).sum) hM.freeW hZ w4 w3 hf hl hE hC) (g := mkF m pc L (argsL.reverse ++ .ref a :: rest)) rfl (by rw [G.2.2.1]; exact hsz) (Steps.refl _) (a := a) (argsL := argsL) (rest := rest) (lenOf hdesc hln) rfl (by show 2 * 0 + _ ≤ _; omega) (hb G.2.1 hd) (fun _ _ => ⟨rfl, e0, hc, hsl⟩)
      dsimp only [Pt.U, Pt.locs, Pt.cells, Pt.slots] at X' l1 y1 z1 st hQ hS2 hgr hR
      subst l1 y1 z1
      obtain ⟨X2, S2, Z2, o2⟩ := rebS hSi (by rw [← e0]; exact Nat.le_refl _) X' hS2 hgr hZ hown
      exact ⟨v, T', Lc, X2, S2, Z2, o2, hR, hQ, fun t k => st.trans k⟩) (fun v h' vm' K' _ q => k v h' K' q)
theorem ok_virtualW (G : Good p meth c code maxL ret nm) {pc : Nat} {L : Array Slot} {S : List Value} {y : MethodName} {bytes : ByteArray} {maxL' : Nat} {ret' : Option FieldType} {rm : Room} {ws' : List Addr} {Q' : Option Value → Heap → Prop} {index : Nat} {ps : List FieldType} {r : Option FieldType} {y0 : MethodName} {C : String} {argsL rest : List Value} (E : Exa Z h a C) (w1 : (Jvm.Cond.methodLink own index y0).before a0 Z = true) (w5 : (Jvm.Cond.declares y0).before a0 Z = true) (w6 : (Jvm.Cond.selects C y0 y).before a0 Z = true) (hnf : ∀ vm, Z.Warmed39 vm → NotFace (s.setVm vm) y0) (w2 : (Jvm.Cond.instanceMethod y).before a0 Z = true) (w3 : (Jvm.Cond.initialized y.cls).before a0 Z = true) (w4 : (Jvm.Cond.code y bytes maxL' ret').before a0 Z = true) (hy : y0.cls ≠ "java/lang/invoke/MethodHandle" ∧ y0.cls ≠ "java/lang/invoke/VarHandle") (hdesc : parseMethodDescriptor y0.desc = some ⟨ps, r⟩)
    (hM : Con true l Z EL n0 y bytes maxL' ret' rm (.ref a :: argsL).toArray h ws' Q') (hln : argsL.length = ps.length) (hS : S = argsL.reverse ++ .ref a :: rest) (hsz : L.size = maxL) (hd : decode code pc = .ok (.invokevirtual index, 3)) (hf : rm.frames + 1 ≤ R.frames) (hl : (rest.map fun v => v.category).sum + (maxL' + 11) + rm.locals ≤ R.locals) (hc : cells + rm.cells ≤ R.cells) (hsl : slots + rm.slots ≤ R.slots) (hwd : wd = true) (hws : ∀ x ∈ ws', x ∈ ws ∨ h0.size ≤ x)
    (k : ∀ v h', Keep h h' ws' → Q' v h' → Ok p l e R s m args below meth c own Z a0 EL n0 h0 ws wd Q sf h' (cells + rm.cells) (slots + rm.slots) (mkF m (pc + 3) L (v.toList ++ rest))) : Ok p l e R s m args below meth c own Z a0 EL n0 h0 ws wd Q sf h cells slots (mkF m pc L S) := by
  subst hS
  exact ok_stepCW (Q' := fun v h' _ => Q' v h') (gn := fun v => mkF m (pc + 3) L (v.toList ++ rest)) hwd hws (fun vm T locs X e0 hZ hown hSi O hE hC => by
      obtain ⟨cq, kq, qa, qb, qc⟩ := isOf (s := s.setVm vm) hZ e0 E
      obtain ⟨v, _, ⟨T', L', k', n'⟩, -, X', hS2, hgr, ⟨Lc, hQ, l1, y1, z1, hR⟩, st⟩ := X.virtualBackS G.1 (y := y0) (z := y) hown (mvT (s := s.setVm vm) hZ w1) (mvT (s := s.setVm vm) hZ w5) (hnf vm hZ) (mvT (s := s.setVm vm) hZ w6) (mvT (s := s.setVm vm) hZ w2) hy (backOfSH (s := s) (Q := fun v h' L => Fr n0 L ∧ Old Z n0 h' ∧ Keep h h' ws' ∧ Q' v h') (W := (rest.map fun v => v.category).sum) hM.freeW hZ w4 w3 hf hl hE hC) qa qc (g := mkF m pc L (argsL.reverse ++ .ref a :: rest)) rfl (by rw [G.2.2.1]; exact hsz) (Steps.refl _) (argsL := argsL) (rest := rest) (lenOf hdesc hln) rfl (by show 2 * 0 + _ ≤ _; omega) (hb G.2.1 hd) (fun _ _ => ⟨rfl, e0, hc, hsl⟩)
      dsimp only [Pt.U, Pt.locs, Pt.cells, Pt.slots] at X' l1 y1 z1 st hQ hS2 hgr hR
      subst l1 y1 z1
      obtain ⟨X2, S2, Z2, o2⟩ := rebS hSi (by rw [← e0]; exact Nat.le_refl _) X' hS2 hgr hZ hown
      exact ⟨v, T', Lc, X2, S2, Z2, o2, hR, hQ, fun t k => st.trans k⟩) (fun v h' vm' K' _ q => k v h' K' q)
theorem ok_virtualUpW (G : Good p meth c code maxL ret nm) {pc : Nat} {L : Array Slot} {S : List Value} {y : MethodName} {bytes : ByteArray} {maxL' : Nat} {ret' : Option FieldType} {rm : Room} {ws' : List Addr} {Q' : Option Value → Heap → Prop} {index : Nat} {ps : List FieldType} {r : Option FieldType} {y0 : MethodName} {C owner : String} {argsL rest : List Value} (E : Exa Z h a C) (w1 : (Jvm.Cond.methodLink own index y0).before a0 Z = true) (w7 : (Jvm.Cond.sameMethod y0.cls owner y0.name y0.desc).before a0 Z = true) (w5 : (Jvm.Cond.declares ⟨owner, y0.name, y0.desc⟩).before a0 Z = true) (w6 : (Jvm.Cond.selects C y0 y).before a0 Z = true) (w2 : (Jvm.Cond.instanceMethod y).before a0 Z = true) (w3 : (Jvm.Cond.initialized y.cls).before a0 Z = true) (w4 : (Jvm.Cond.code y bytes maxL' ret').before a0 Z = true) (how : owner ≠ "java/lang/invoke/MethodHandle" ∧ owner ≠ "java/lang/invoke/VarHandle") (hdesc : parseMethodDescriptor y0.desc = some ⟨ps, r⟩)
    (hM : Con true l Z EL n0 y bytes maxL' ret' rm (.ref a :: argsL).toArray h ws' Q') (hln : argsL.length = ps.length) (hS : S = argsL.reverse ++ .ref a :: rest) (hsz : L.size = maxL) (hd : decode code pc = .ok (.invokevirtual index, 3)) (hf : rm.frames + 1 ≤ R.frames) (hl : (rest.map fun v => v.category).sum + (maxL' + 11) + rm.locals ≤ R.locals) (hc : cells + rm.cells ≤ R.cells) (hsl : slots + rm.slots ≤ R.slots) (hwd : wd = true) (hws : ∀ x ∈ ws', x ∈ ws ∨ h0.size ≤ x)
    (k : ∀ v h', Keep h h' ws' → Q' v h' → Ok p l e R s m args below meth c own Z a0 EL n0 h0 ws wd Q sf h' (cells + rm.cells) (slots + rm.slots) (mkF m (pc + 3) L (v.toList ++ rest))) : Ok p l e R s m args below meth c own Z a0 EL n0 h0 ws wd Q sf h cells slots (mkF m pc L S) := by
  subst hS
  exact ok_stepCW (Q' := fun v h' _ => Q' v h') (gn := fun v => mkF m (pc + 3) L (v.toList ++ rest)) hwd hws (fun vm T locs X e0 hZ hown hSi O hE hC => by
      obtain ⟨cq, kq, qa, qb, qc⟩ := isOf (s := s.setVm vm) hZ e0 E
      obtain ⟨v, _, ⟨T', L', k', n'⟩, -, X', hS2, hgr, ⟨Lc, hQ, l1, y1, z1, hR⟩, st⟩ := X.virtualBackUpS G.1 (x := y0) (owner := owner) (y := y) hown (mvT (s := s.setVm vm) hZ w1) (mvT (s := s.setVm vm) hZ w7) (mvT (s := s.setVm vm) hZ w5) how (mvT (s := s.setVm vm) hZ w6) (mvT (s := s.setVm vm) hZ w2) (backOfSH (s := s) (Q := fun v h' L => Fr n0 L ∧ Old Z n0 h' ∧ Keep h h' ws' ∧ Q' v h') (W := (rest.map fun v => v.category).sum) hM.freeW hZ w4 w3 hf hl hE hC) qa qc (g := mkF m pc L (argsL.reverse ++ .ref a :: rest)) rfl (by rw [G.2.2.1]; exact hsz) (Steps.refl _) (argsL := argsL) (rest := rest) (lenOf hdesc hln) rfl (by show 2 * 0 + _ ≤ _; omega) (hb G.2.1 hd) (fun _ _ => ⟨rfl, e0, hc, hsl⟩)
      dsimp only [Pt.U, Pt.locs, Pt.cells, Pt.slots] at X' l1 y1 z1 st hQ hS2 hgr hR
      subst l1 y1 z1
      obtain ⟨X2, S2, Z2, o2⟩ := rebS hSi (by rw [← e0]; exact Nat.le_refl _) X' hS2 hgr hZ hown
      exact ⟨v, T', Lc, X2, S2, Z2, o2, hR, hQ, fun t k => st.trans k⟩) (fun v h' vm' K' _ q => k v h' K' q)
theorem ok_interfaceW (G : Good p meth c code maxL ret nm) {pc : Nat} {L : Array Slot} {S : List Value} {y : MethodName} {bytes : ByteArray} {maxL' : Nat} {ret' : Option FieldType} {rm : Room} {ws' : List Addr} {Q' : Option Value → Heap → Prop} {index : Nat} {ps : List FieldType} {r : Option FieldType} {y0 : MethodName} {C : String} {count : Nat} {argsL rest : List Value} (E : Exa Z h a C) (w1 : (Jvm.Cond.methodLink own index y0).before a0 Z = true) (w5 : (Jvm.Cond.declares y0).before a0 Z = true) (w7 : (Jvm.Cond.interfaceMethod y0.cls y0.cls y0.name y0.desc).before a0 Z = true) (hfc : ((Jvm.Cond.interfaceMethod y0.cls y0.cls y0.name y0.desc).onTables && (Jvm.Cond.interfaceMethod y0.cls y0.cls y0.name y0.desc).keepsFace) = true) (w6 : (Jvm.Cond.selects C y0 y).before a0 Z = true) (w2 : (Jvm.Cond.instanceMethod y).before a0 Z = true) (w8 : (Jvm.Cond.publicMethod y).before a0 Z = true) (w9 : (Jvm.Cond.unhidden C y0.name y0.desc).before a0 Z = true) (w10 : (Jvm.Cond.castable C y0.cls).before a0 Z = true) (w3 : (Jvm.Cond.initialized y.cls).before a0 Z = true) (w4 : (Jvm.Cond.code y bytes maxL' ret').before a0 Z = true) (hy : y0.cls ≠ "java/lang/invoke/MethodHandle" ∧ y0.cls ≠ "java/lang/invoke/VarHandle") (hdesc : parseMethodDescriptor y0.desc = some ⟨ps, r⟩)
    (hM : Con true l Z EL n0 y bytes maxL' ret' rm (.ref a :: argsL).toArray h ws' Q') (hln : argsL.length = ps.length) (hS : S = argsL.reverse ++ .ref a :: rest) (hsz : L.size = maxL) (hd : decode code pc = .ok (.invokeinterface index count, 5)) (hf : rm.frames + 1 ≤ R.frames) (hl : (rest.map fun v => v.category).sum + (maxL' + 11) + rm.locals ≤ R.locals) (hc : cells + rm.cells ≤ R.cells) (hsl : slots + rm.slots ≤ R.slots) (hwd : wd = true) (hws : ∀ x ∈ ws', x ∈ ws ∨ h0.size ≤ x)
    (k : ∀ v h', Keep h h' ws' → Q' v h' → Ok p l e R s m args below meth c own Z a0 EL n0 h0 ws wd Q sf h' (cells + rm.cells) (slots + rm.slots) (mkF m (pc + 5) L (v.toList ++ rest))) : Ok p l e R s m args below meth c own Z a0 EL n0 h0 ws wd Q sf h cells slots (mkF m pc L S) := by
  subst hS
  exact ok_stepCW (Q' := fun v h' _ => Q' v h') (gn := fun v => mkF m (pc + 5) L (v.toList ++ rest)) hwd hws (fun vm T locs X e0 hZ hown hSi O hE hC => by
      obtain ⟨cq, kq, qa, qb, qc⟩ := isOf (s := s.setVm vm) hZ e0 E
      obtain ⟨v, _, ⟨T', L', k', n'⟩, -, X', hS2, hgr, ⟨Lc, hQ, l1, y1, z1, hR⟩, st⟩ := X.interfaceBackS G.1 (xi := y0) (y := y) hown (mvT (s := s.setVm vm) hZ w1) (mvT (s := s.setVm vm) hZ w5) (mvT (s := s.setVm vm) hZ w7 hfc) (mvT (s := s.setVm vm) hZ w6) (mvT (s := s.setVm vm) hZ w2) (mvT (s := s.setVm vm) hZ w8) (mvT (s := s.setVm vm) hZ w9) (mvT (s := s.setVm vm) hZ w10) hy (backOfSH (s := s) (Q := fun v h' L => Fr n0 L ∧ Old Z n0 h' ∧ Keep h h' ws' ∧ Q' v h') (W := (rest.map fun v => v.category).sum) hM.freeW hZ w4 w3 hf hl hE hC) qa qb qc (g := mkF m pc L (argsL.reverse ++ .ref a :: rest)) rfl (by rw [G.2.2.1]; exact hsz) (Steps.refl _) (argsL := argsL) (rest := rest) (lenOf hdesc hln) rfl (by show 2 * 0 + _ ≤ _; omega) (hb G.2.1 hd) (fun _ _ => ⟨rfl, e0, hc, hsl⟩)
      dsimp only [Pt.U, Pt.locs, Pt.cells, Pt.slots] at X' l1 y1 z1 st hQ hS2 hgr hR
      subst l1 y1 z1
      obtain ⟨X2, S2, Z2, o2⟩ := rebS hSi (by rw [← e0]; exact Nat.le_refl _) X' hS2 hgr hZ hown
      exact ⟨v, T', Lc, X2, S2, Z2, o2, hR, hQ, fun t k => st.trans k⟩) (fun v h' vm' K' _ q => k v h' K' q)
theorem ok_ldcO (G : Good p meth c code maxL ret nm) {pc : Nat} {L : Array Slot} {S : List Value} {index : Nat} {text : String} (hwd : wd = true) (w : (Jvm.Cond.stringLink own index text).before a0 Z = true) (wS : ∀ a ∈ Bundle.stringAtoms, a.before a0 Z = true) (hd : decode code pc = .ok (.ldc index, 2)) (n : Nat) (hn : 4 * text.toList.length ≤ n) (hbig : n ≤ 536870912) (hc : cells + 2 ≤ R.cells) (hl : slots + (n + 4) ≤ R.slots)
    (k : ∀ a h', Keep h h' [] → Ok p l e R s m args below meth c own Z a0 EL n0 h0 ws wd Q sf h' (cells + 2) (slots + (n + 4)) (mkF m (pc + 2) L (.ref a :: S))) : Ok p l e R s m args below meth c own Z a0 EL n0 h0 ws wd Q sf h cells slots (mkF m pc L S) :=
  ok_stepCW (ws' := []) (Q' := fun v _ _ => ∃ a, v = some (.ref a)) (gn := fun v => mkF m (pc + 2) L (v.toList ++ S)) hwd (fun _ q => nomatch q) (fun vm T locs X e0 hZ hown hSi O hE hC => by
      obtain ⟨a, T', h', k1, X', e1, E, S1, hk1, hZ', hown', hR, -, st⟩ := ldcOH X G.1 hZ hown w wS e0 hSi (Nat.le_refl _) hE hC (g := mkF m pc L S) rfl (hb G.2.1 hd) hn hbig hc hl
      subst e1
      exact ⟨some (.ref a), T', [], by rw [List.append_nil]; exact X', ⟨S1.1, S1.2.mono hk1⟩, hZ', hown', hR, ⟨Fr.nil _, O.ext E, (Keep.refl h []).ext E, a, rfl⟩, st⟩) (fun v h' vm' K' _ q => by obtain ⟨a, rfl⟩ := q; exact k a h' K')
theorem ok_ldcR (G : Good p meth c code maxL ret nm) {pc : Nat} {L : Array Slot} {S : List Value} {index : Nat} {text : String} (hwd : wd = true) (w : (Jvm.Cond.stringLink own index text).before a0 Z = true) (wS : ∀ a ∈ Bundle.stringAtoms, a.before a0 Z = true) (hmem : (own, index) ∈ EL) {vs : List Value} {z : Int32} (ht : (∀ c ∈ text.toList, c.toNat < 256) ∧ text.toList.map (fun c => Value.int (Jvm.Lit.byteI c.toNat.toUInt16)) = vs) (hz : ¬ z < 0) (hzl : z.toNatClampNeg = vs.length)
    (hd : decode code pc = .ok (.ldc index, 2)) (n : Nat) (hn : 4 * text.toList.length ≤ n) (hbig : n ≤ 536870912) (hc : cells + 2 ≤ R.cells) (hl : slots + (n + 4) ≤ R.slots)
    (k : ∀ a h' b kb, Keep h h' [] → Exa Z h' a "java/lang/String" → Fld Z h' a "java/lang/String" "coder" "B" (.int 0) → Fld Z h' a "java/lang/String" "value" "[B" (.ref b) → Arv Z h' b kb .byte z vs (.int 0) → (∀ x ∈ sf, x ≠ a ∧ x ≠ b) → Ok p l e R s m args below meth c own Z a0 EL n0 h0 ws wd Q sf h' (cells + 2) (slots + (n + 4)) (mkF m (pc + 2) L (.ref a :: S))) : Ok p l e R s m args below meth c own Z a0 EL n0 h0 ws wd Q sf h cells slots (mkF m pc L S) :=
  ok_stepCW (ws' := []) (Q' := fun v h' vm' => ∃ a b kb, v = some (.ref a) ∧ Exa Z h' a "java/lang/String" ∧ Fld Z h' a "java/lang/String" "coder" "B" (.int 0) ∧ Fld Z h' a "java/lang/String" "value" "[B" (.ref b) ∧ Arv Z h' b kb .byte z vs (.int 0) ∧ ∀ x, Safe Z EL vm' h' x → x ≠ a ∧ x ≠ b) (gn := fun v => mkF m (pc + 2) L (v.toList ++ S)) hwd (fun _ q => nomatch q) (fun vm T locs X e0 hZ hown hSi O hE hC => by
      obtain ⟨a, T', h', k1, b, kb, X', e1, E, S1, hk1, hZ', hown', F1, F2, F3, F4, -, -, hR, -, hne, st⟩ := ldcCH X G.1 hZ hown w wS e0 hSi (Nat.le_refl _) hE hmem hC ht hz hzl (g := mkF m pc L S) rfl (hb G.2.1 hd) hn hbig hc hl
      subst e1
      exact ⟨some (.ref a), T', [], by rw [List.append_nil]; exact X', ⟨S1.1, S1.2.mono hk1⟩, hZ', hown', hR, ⟨Fr.nil _, O.ext E, (Keep.refl h []).ext E, a, b, kb, rfl, F1, F2, F3, F4, hne⟩, st⟩) (fun v h' vm' K' hsf q => by obtain ⟨a, b, kb, rfl, F1, F2, F3, F4, hne⟩ := q; exact k a h' b kb K' F1 F2 F3 F4 (fun x hx => hne x (hsf x hx)))
end Heaps
end Jvm.Pilot.@@N@@.Own
namespace Jvm.Pilot.@@N@@.Own
open Jvm Jvm.ClassFile Sem Op Lib Jvm.Free Jvm.Stand Jvm.LawKit Jvm.RoadKit Bundle
section Loops
variable {p : Program} {l : Launch} {e : Env} {R : Room} {s : State} {m : MethodId} {args : Array Value} {below : List Frame} {meth : Method} {c : Code}
  {own : String} {Z : State} {a0 : Array Value} {EL : List (String × Nat)} {n0 : Nat} {h0 : Heap} {ws : List Addr} {wd : Bool} {Q : Option Value → Heap → Prop}
  {sf : List Addr} {h : Heap} {cells slots : Nat} {g : JFrame}
theorem ok_loop {A : Type} (μ : A → Nat) (P : A → Prop) (hh : A → Heap) (gg : A → JFrame)
    (st : ∀ x, P x → (∀ x', μ x' < μ x → P x' → Ok p l e R s m args below meth c own Z a0 EL n0 h0 ws wd Q sf (hh x') cells slots (gg x')) → Ok p l e R s m args below meth c own Z a0 EL n0 h0 ws wd Q sf (hh x) cells slots (gg x)) (x : A) (hx : P x) :
    Ok p l e R s m args below meth c own Z a0 EL n0 h0 ws wd Q sf (hh x) cells slots (gg x) := by
  have q : ∀ k x, μ x < k → P x → Ok p l e R s m args below meth c own Z a0 EL n0 h0 ws wd Q sf (hh x) cells slots (gg x) := by
    intro k
    induction k with
    | zero => intro x hk; exact absurd hk (Nat.not_lt_zero _)
    | succ k ih => intro x hk hx; exact st x hx (fun x' h1 h2 => ih x' (Nat.lt_of_lt_of_le h1 (Nat.le_of_lt_succ hk)) h2)
  exact q (μ x + 1) x (Nat.lt_succ_self _) hx
/-- several roads meet: what is behind is walked once -/
theorem ok_meet {A : Type} (P : A → Prop) (hh : A → Heap) (sfs : A → List Addr) (cells' slots' : Nat) (gg : A → JFrame) (hk : (∀ x, P x → Ok p l e R s m args below meth c own Z a0 EL n0 h0 ws wd Q (sfs x) (hh x) cells' slots' (gg x)) → Ok p l e R s m args below meth c own Z a0 EL n0 h0 ws wd Q sf h cells slots g)
    (k : ∀ x, P x → Ok p l e R s m args below meth c own Z a0 EL n0 h0 ws wd Q (sfs x) (hh x) cells' slots' (gg x)) : Ok p l e R s m args below meth c own Z a0 EL n0 h0 ws wd Q sf h cells slots g := hk k
/-- .. where nothing but a value tells them apart -/
theorem ok_meetV {A : Type} (P : A → Prop) (gg : A → JFrame) (hk : (∀ x, P x → Ok p l e R s m args below meth c own Z a0 EL n0 h0 ws wd Q sf h cells slots (gg x)) → Ok p l e R s m args below meth c own Z a0 EL n0 h0 ws wd Q sf h cells slots g)
    (k : ∀ x, P x → Ok p l e R s m args below meth c own Z a0 EL n0 h0 ws wd Q sf h cells slots (gg x)) : Ok p l e R s m args below meth c own Z a0 EL n0 h0 ws wd Q sf h cells slots g := hk k
end Loops
/-! ints that are small naturals -/
theorem i32_int {i : Nat} (h : i < 2147483648) : (Int32.ofNat i).toInt = i := Int32.toInt_ofNat_small h
theorem i32_lt {i j : Nat} (hi : i < 2147483648) (hj : j < 2147483648) : Int32.ofNat i < Int32.ofNat j ↔ i < j := by
  rw [Int32.lt_iff_toInt_lt, i32_int hi, i32_int hj]; omega
theorem i32_nn {i : Nat} (h : i < 2147483648) : ¬ Int32.ofNat i < 0 := by
  rw [Int32.lt_iff_toInt_lt, i32_int h]; show ¬ ((i : Int) < 0); omega
theorem i32_clamp {i : Nat} (h : i < 2147483648) : (Int32.ofNat i).toNatClampNeg = i := by
  rw [Int32.toNatClampNeg, i32_int h]; omega
theorem i32_eq {i j : Nat} (hi : i < 2147483648) (hj : j < 2147483648) : Int32.ofNat i = Int32.ofNat j ↔ i = j := by
  rw [← Int32.toInt_inj, i32_int hi, i32_int hj]; omega
theorem i32_succ (i : Nat) : Int32.ofNat i + (1 : Int32) = Int32.ofNat (i + 1) := by
  rw [Int32.ofNat_add]; rfl
theorem i32_sub {i j : Nat} (h : j ≤ i) : Int32.ofNat i - Int32.ofNat j = Int32.ofNat (i - j) := by
  have e : Int32.ofNat i = Int32.ofNat (i - j) + Int32.ofNat j := by rw [← Int32.ofNat_add]; congr 1; omega
  rw [e, Int32.add_sub_cancel]
/-! chars -/
abbrev lo8 (c : Int32) : Value := .int c.toInt8.toInt32
def Lat (c : Int32) : Prop := ¬ c < 0 ∧ ¬ (255 : Int32) < c
theorem Lat.int {c : Int32} (h : Lat c) : 0 ≤ c.toInt ∧ c.toInt ≤ 255 := by
  obtain ⟨h1, h2⟩ := h
  rw [Int32.lt_iff_toInt_lt] at h1 h2
  have e1 : (0 : Int32).toInt = 0 := rfl
  have e2 : (255 : Int32).toInt = 255 := rfl
  omega
theorem lat_mask (x : Int32) : Lat ((x &&& (255 : Int32)).toUInt32.toUInt16.toUInt32.toInt32) := by
  have t : ∀ k : Fin 256, ¬ (Int32.ofNat k.val).toUInt32.toUInt16.toUInt32.toInt32 < 0 ∧ ¬ (255 : Int32) < (Int32.ofNat k.val).toUInt32.toUInt16.toUInt32.toInt32 := by decide +kernel
  have h : (x &&& 255).toBitVec.toNat < 256 := by
    simp only [Int32.toBitVec_and, BitVec.toNat_and]
    exact Nat.lt_succ_of_le Nat.and_le_right
  have e : (x &&& 255) = Int32.ofNat (x &&& 255).toBitVec.toNat := by
    apply Int32.toBitVec_inj.mp
    show _ = BitVec.ofNat 32 _
    rw [BitVec.ofNat_toNat]; simp
  rw [e]
  exact t ⟨_, h⟩
theorem nar_char {c : Int32} (h : fits .char (.int c) = true) : nar .char c = c := by
  simp only [fits, Bool.and_eq_true, decide_eq_true_eq, Int32.le_iff_toInt_le] at h
  show c.toUInt32.toUInt16.toUInt32.toInt32 = c
  have e1 : (0 : Int32).toInt = 0 := rfl
  have e2 : (65535 : Int32).toInt = 65535 := rfl
  apply Int32.toBitVec_inj.mp
  have hn : c.toBitVec.toNat < 65536 := by
    have hi := h
    have : c.toInt = c.toBitVec.toInt := rfl
    rw [BitVec.toInt_eq_toNat_cond] at this
    split at this <;> omega
  apply BitVec.eq_of_toNat_eq
  show ((c.toUInt32.toUInt16.toUInt32.toInt32).toBitVec).toNat = _
  have : ((c.toUInt32.toUInt16.toUInt32.toInt32).toBitVec).toNat = c.toBitVec.toNat % 65536 := by
    show c.toUInt32.toUInt16.toUInt32.toNat = _
    simp
    rfl
  rw [this, Nat.mod_eq_of_lt hn]
theorem Lat.fits {c : Int32} (h : Lat c) : fits .char (.int c) = true := by
  have := h.int
  simp only [Jvm.fits, Bool.and_eq_true, decide_eq_true_eq, Int32.le_iff_toInt_le]
  have e1 : (0 : Int32).toInt = 0 := rfl
  have e2 : (65535 : Int32).toInt = 65535 := rfl
  omega
theorem Lat.nar {c : Int32} (h : Lat c) : nar .char c = c := nar_char h.fits
theorem Lat.back {c : Int32} (h : Lat c) : (c.toInt8.toInt32 &&& (255 : Int32)).toUInt32.toUInt16.toUInt32.toInt32 = c := by
  have t : ∀ k : Fin 256, ((Int32.ofNat k.val).toInt8.toInt32 &&& (255 : Int32)).toUInt32.toUInt16.toUInt32.toInt32 = Int32.ofNat k.val := by decide +kernel
  have hi := h.int
  have e : c = Int32.ofNat c.toInt.toNat := by
    rw [← Int32.toInt_inj, i32_int (by omega)]; omega
  rw [e]
  exact t ⟨c.toInt.toNat, by omega⟩
theorem Lat.inj {c d : Int32} (h : Lat c) (h' : Lat d) (e : c.toInt8.toInt32 = d.toInt8.toInt32) : c = d := by rw [← h.back, ← h'.back, e]
theorem own_mid {pre p1 p2 : List Int32} {c d : Int32} (h : pre ++ c :: p1 = pre ++ d :: p2) : c = d := by
  have := List.append_cancel_left h
  exact (List.cons.inj this).1
theorem own_bool {b : Int32} (h : b = 0 ∨ b = 1) : narrow .boolean (.int b) = .int b ∧ fits .boolean (.int b) = true := by rcases h with rfl | rfl <;> exact ⟨rfl, rfl⟩
theorem own_bit {b : Int32} {P R : Prop} (h : (b = 1 ∧ P) ∨ (b = 0 ∧ R)) : b = 0 ∨ b = 1 := h.elim (fun q => Or.inr q.1) (fun q => Or.inl q.1)
theorem own_bitT {b : Int32} {P R : Prop} (h : (b = 1 ∧ P) ∨ (b = 0 ∧ R)) (q : ¬ b = 0) : P := h.elim (fun z => z.2) (fun z => absurd z.1 q)
theorem own_bitF {b : Int32} {P R : Prop} (h : (b = 1 ∧ P) ∨ (b = 0 ∧ R)) (q : b = 0) : R := h.elim (fun z => by rw [z.1] at q; cases q) (fun z => z.2)
theorem own_if0 {P : Prop} [Decidable P] (h : (if P then (1 : Int32) else 0) = 0) : ¬ P := fun q => by rw [if_pos q] at h; cases h
theorem own_if1 {P : Prop} [Decidable P] (h : ¬ (if P then (1 : Int32) else 0) = 0) : P := by
  by_cases q : P
  · exact q
  · rw [if_neg q] at h; exact absurd rfl h
theorem getD_mem {cs : List Int32} {k : Nat} {d : Int32} (h : k < cs.length) : cs.getD k d ∈ cs := by
  rw [List.getD_eq_getElem?_getD, List.getElem?_eq_getElem h]; exact List.getElem_mem h
theorem getD_map {α : Type} {f : Int32 → α} {cs : List Int32} {k : Nat} {d : α} {e : Int32} (h : k < cs.length) : (cs.map f).getD k d = f (cs.getD k e) := by
  rw [List.getD_eq_getElem?_getD, List.getD_eq_getElem?_getD, List.getElem?_map, List.getElem?_eq_getElem h]; rfl
theorem getD_mid {α : Type} (d : α) (f : Int32 → α) (pre post : List Int32) (c : Int32) : ((pre ++ c :: post).map f).getD pre.length d = f c := by simp
theorem old_le {Z : State} {n0 : Nat} {h : Heap} (O : Old Z n0 h) : n0 ≤ h.size := O.1 ▸ O.2.1
theorem allL {α : Type} {P : α → Prop} {y : α} {L : List α} (q : P y) (r : ∀ x ∈ L, P x) : ∀ x ∈ y :: L, P x := fun x z => (List.mem_cons.mp z).elim (fun u => u ▸ q) (r x)
/-- a String of Latin-1 chars -/
def LStr (Z : State) (h : Heap) (x t : Addr) (cs : List Int32) : Prop :=
  Exa Z h x "java/lang/String" ∧ Fld Z h x "java/lang/String" "coder" "B" (.int 0) ∧ Fld Z h x "java/lang/String" "value" "[B" (.ref t) ∧
    (∃ kb, Arv Z h t kb .byte (Int32.ofNat cs.length) (cs.map lo8) (.int 0)) ∧ (∀ c ∈ cs, Lat c) ∧ cs.length ≤ 16
section StrF
variable {Z : State} {h h' : Heap} {x t : Addr} {cs : List Int32} {ws : List Addr} {a0 : Array Value}
theorem LStr.keep (F : LStr Z h x t cs) (K : Keep h h' ws) (q1 : x ∉ ws) (q2 : t ∉ ws) : LStr Z h' x t cs := by
  obtain ⟨F1, F2, F3, ⟨kb, F4⟩, F5⟩ := F
  exact ⟨F1.keep K, F2.keep K q1, F3.keep K q1, ⟨kb, F4.keep K q2⟩, F5⟩
theorem LStr.exa (F : LStr Z h x t cs) : Exa Z h x "java/lang/String" := F.1
theorem LStr.lt (F : LStr Z h x t cs) : x < h.size := F.1.lt
theorem LStr.ltT (F : LStr Z h x t cs) : t < h.size := by obtain ⟨-, -, -, ⟨_, F4⟩, -⟩ := F; exact F4.lt
theorem LStr.neT {a : Addr} {C : String} {n : Nat} (F : LStr Z h x t cs) (E : Exa Z h a C) (w : (Jvm.Cond.instantiable C n).before a0 Z = true) : a ≠ t := by
  obtain ⟨-, -, -, ⟨_, F4⟩, -⟩ := F; exact E.neArv F4 w
end StrF
/-- a String whose value is null yet is no booked one -/
theorem safe_null {Z : State} {h : Heap} {x : Addr} {EL : List (String × Nat)} {wd : Bool} {sf : List Addr} (E : Exa Z h x "java/lang/String") (FV : Fld Z h x "java/lang/String" "value" "[B" .null) : SafeFor wd Z EL sf h x := fun _ => Or.inr fun vm hal B => by
  obtain ⟨q0, hq0, u, a, hb, q, hqa, F, hx⟩ := B
  obtain ⟨cell, cf, k, i, f, f1, f2, f3, f4, f5, f6, f7⟩ := FV
  obtain ⟨cell', ke, e1, e2, e3, e4, e5⟩ := E
  cases f1.symm.trans e1
  obtain ⟨cS, ⟨⟨s1, s2, s3, ⟨cv, kv, iv, s4, s4'⟩, ⟨cc, kc, ic, s5, s5'⟩, s6, s7, s8, s9, s10, s11, s12, s13, s14, s15, s16⟩, hfS, hcS⟩, ⟨kS, k1, k2, k3⟩, hB, hbyt⟩ := F
  have s1 : h[q.sa]? = some q.sC := s1
  have s10 : h[q.sd]? = some q.SA := s10
  rcases hx with rfl | rfl
  · cases f1.symm.trans s1
    obtain ⟨kv', z4⟩ := ff_back (U := Wst Z vm h) hal s4
    cases f2.symm.trans z4
    rw [s8] at f7
    cases f7
  · cases f1.symm.trans s10
    obtain ⟨hst, k9, hk9, comp, hkind9⟩ := s11
    have hfS : vm.findClass "java/lang/String" = some cS := hfS
    have hk9 : vm.classes[q.SA.cls]? = some k9 := hk9
    have k1 : vm.classes[cS]? = some kS := k1
    rw [hal.findClass] at hfS
    have ec : cS = q.SA.cls := Option.some.inj (hfS.symm.trans e2)
    rw [ec] at k1
    cases k1.symm.trans hk9
    rw [k2] at hkind9
    cases hkind9
/-- an array written behind its first values -/
theorem Arv.push {Z : State} {h h' : Heap} {a : Addr} {k : ClassId} {ty : FieldType} {z j : Int32} {vs : List Value} {dv v : Value} (F : Arv Z h a k ty z vs dv) (hv : fits ty v = true) (W : Wr h h' a j.toNatClampNeg v) (hj : j.toNatClampNeg = vs.length) : Arv Z h' a k ty z (vs ++ [v]) dv := by
  have F' := F.pad (pad_rep vs dv 1)
  obtain ⟨c, A, q, S, N, H, U⟩ := F'
  have := Arv.set A q S N H U hv W vs.length hj (by simp)
  simpa using this
section PushR
variable {p : Program} {l : Launch} {e : Env} {R : Room} {s : State} {m : MethodId} {args : Array Value} {below : List Frame} {meth : Method} {c : Code}
  {own : String} {Z : State} {a0 : Array Value} {EL : List (String × Nat)} {n0 : Nat} {h0 : Heap} {ws : List Addr} {wd : Bool} {Q : Option Value → Heap → Prop}
  {sf : List Addr} {h : Heap} {cells slots : Nat} {code : ByteArray} {maxL : Nat} {ret : Option FieldType} {nm : String} {a : Addr}
theorem ok_bastoreA (G : Good p meth c code maxL ret nm) {pc : Nat} {L : Array Slot} {S : List Value} {kA : ClassId} {z j x : Int32} (x' : Int32) {vs : List Value} {dv : Value} (F : Arv Z h a kA .byte z vs dv) (hj : ¬ j < 0 ∧ j < z) (hi : j.toNatClampNeg = vs.length) (hv : nar .byte x = x') (hd : decode code pc = .ok (.bastore, 1))
    (hg : n0 ≤ a) (hw : a ∈ ws ∨ h0.size ≤ a) (hs : SafeFor wd Z EL sf h a)
    (k : ∀ h', Keep h h' [a] → Arv Z h' a kA .byte z (vs ++ [.int x']) dv → Ok p l e R s m args below meth c own Z a0 EL n0 h0 ws wd Q sf h' cells slots (mkF m (pc + 1) L S)) : Ok p l e R s m args below meth c own Z a0 EL n0 h0 ws wd Q sf h cells slots (mkF m pc L (.int x :: .int j :: .ref a :: S)) := by
  subst hv
  obtain ⟨cl, A, q, Sz, N, H, U⟩ := id F
  exact ok_stepW hg hw hs (fun vm T locs X e0 hZ hown O => stB X G.1 hZ e0 A (inb_of Sz hj) (g := mkF m pc L (.int x :: .int j :: .ref a :: S)) rfl rfl (hb G.2.1 hd)) (fun h' K W => k h' K (Arv.push F (fits_nar_byte _) W hi))
end PushR
end Jvm.Pilot.@@N@@.Own
namespace Jvm.Pilot.@@N@@.Own
open Jvm Jvm.ClassFile Sem Op Lib Jvm.Free Jvm.Stand Jvm.LawKit Jvm.RoadKit Bundle
section Copies
variable {p : Program} {l : Launch} {e : Env} {R : Room} {s : State} {m : MethodId} {args : Array Value} {below : List Frame} {meth : Method} {c : Code}
  {own : String} {Z : State} {a0 : Array Value} {EL : List (String × Nat)} {n0 : Nat} {h0 : Heap} {ws : List Addr} {wd : Bool} {Q : Option Value → Heap → Prop}
  {sf : List Addr} {h : Heap} {cells slots : Nat} {code : ByteArray} {maxL : Nat} {ret : Option FieldType} {nm : String} {a b : Addr}
/-- System.arraycopy between arrays of one primitive kind (or of references, each storable) -/
theorem ok_copy (G : Good p meth c code maxL ret nm) {pc : Nat} {L : Array Slot} {S : List Value} {index : Nat} {k k' : ClassId} {ty ty' : FieldType} {z z' sp dp nn : Int32} {vs vd : List Value} {dv dd : Value} (us : List Value)
    (w1 : (Jvm.Cond.methodLink own index Jvm.Stand.acN).before a0 Z = true) (w2 : (Jvm.Cond.native Jvm.Stand.acN).before a0 Z = true) (w3 : (Jvm.Cond.static Jvm.Stand.acN).before a0 Z = true) (w4 : (Jvm.Cond.initialized "java/lang/System").before a0 Z = true)
    (A : Arv Z h a k ty z vs dv) (B : Arv Z h b k' ty' z' vd dd) (hty : (ty = ty' ∧ refKind ty = false) ∨ (refKind ty = true ∧ refKind ty' = true ∧ StoL Z h b us))
    (h1 : ¬ sp < 0) (h2 : ¬ dp < 0) (h3 : ¬ nn < 0) (h4 : sp.toNatClampNeg + nn.toNatClampNeg ≤ z.toNatClampNeg) (h5 : dp.toNatClampNeg + nn.toNatClampNeg ≤ z'.toNatClampNeg)
    (hus : us = (List.range nn.toNatClampNeg).map fun i => vs.getD (sp.toNatClampNeg + i) dv) (hl : dp.toNatClampNeg + nn.toNatClampNeg ≤ vd.length)
    (hsz : L.size = maxL) (hd : decode code pc = .ok (.invokestatic index, 3)) (hf : 1 ≤ R.frames) (hlo : (S.map fun v => v.category).sum + 18 ≤ R.locals)
    (hg : n0 ≤ b) (hw : b ∈ ws ∨ h0.size ≤ b) (hs : SafeFor wd Z EL sf h b)
    (kk : ∀ h', Keep h h' [b] → Arv Z h' b k' ty' z' (vd.take dp.toNatClampNeg ++ us ++ vd.drop (dp.toNatClampNeg + nn.toNatClampNeg)) dd → Ok p l e R s m args below meth c own Z a0 EL n0 h0 ws wd Q sf h' cells slots (mkF m (pc + 3) L S)) :
    Ok p l e R s m args below meth c own Z a0 EL n0 h0 ws wd Q sf h cells slots (mkF m pc L (.int nn :: .int dp :: .ref b :: .int sp :: .ref a :: S)) := by
  intro vm T locs W
  obtain ⟨X, e0, hZ, hown, hS, hh, N, O, K, r, r'⟩ := W
  obtain ⟨T', h', L', X', e1, N', K', B', st⟩ := cpA X G.1 hZ hown w1 w2 w3 w4 e0 A B hty h1 h2 h3 h4 h5 hus hl N hg (g := mkF m pc L (.int nn :: .int dp :: .ref b :: .int sp :: .ref a :: S)) rfl (by rw [G.2.2.1]; exact hsz) rfl (hb G.2.1 hd) hf (W := (S.map fun v => v.category).sum) (by show 2 * 0 + _ ≤ _; omega) (by simpa [nativeFrameWords] using hlo)
  obtain ⟨s₂, o, g1, g2⟩ := kk h' K' B' vm T' L' ⟨X', e1, hZ, hown, ⟨hS.1, hS.2.mono K'.1⟩, hh, N', O.keep K' (fun x hx => by rw [List.mem_singleton.mp hx]; exact hg), K.trans K' (fun x hx => by rw [List.mem_singleton.mp hx]; exact hw), r, fun w => by
    obtain ⟨hE, hC, hsf⟩ := r' w
    have hsw : ∀ x ∈ [b], Safe Z EL vm h x := fun x hx => by
      rw [List.mem_singleton.mp hx]
      exact (hs w).elim (fun z => (hsf b z).2) (fun z => z vm hZ.alike)
    exact ⟨hE, hC.trans (CHr.keep K' hsw hC.1), fun x hx => ⟨Nat.lt_of_lt_of_le (hsf x hx).1 K'.1, Safe.keep K' hsw hC.1 (hsf x hx).2⟩⟩⟩
  exact ⟨s₂, o, st s₂ g1, g2⟩
end Copies
theorem own_snoc {α : Type} (l : List α) : l = [] ∨ ∃ p c, l = p ++ [c] := by
  rcases List.eq_nil_or_concat l with h | ⟨p, c, h⟩
  · exact Or.inl h
  · exact Or.inr ⟨p, c, by rw [h, List.concat_eq_append]⟩
theorem own_min {i j n : Nat} (h1 : i ≤ j) (h2 : j ≤ n) (hn : n ≤ 16) : (if Int32.ofNat (j - i) < Int32.ofNat n - Int32.ofNat i then Int32.ofNat (j - i) else Int32.ofNat n - Int32.ofNat i) = Int32.ofNat (j - i) := by
  rw [i32_sub (by omega)]
  by_cases q : Int32.ofNat (j - i) < Int32.ofNat (n - i)
  · rw [if_pos q]
  · rw [if_neg q]
    rw [i32_lt (by omega) (by omega)] at q
    congr 1
    omega
theorem range_mid {α : Type} (f : Int32 → α) (d : α) (cs : List Int32) (i n : Nat) (h : i + n ≤ cs.length) : ((cs.drop i).take n).map f = (List.range n).map fun j => (cs.map f).getD (i + j) d := by
  apply List.ext_getElem
  · simp; omega
  · intro k h1 h2
    simp at h1 h2
    have : i + k < cs.length := by omega
    simp [List.getD_eq_getElem?_getD, List.getElem?_eq_getElem this]
end Jvm.Pilot.@@N@@.Own
namespace Jvm.Pilot.@@N@@.Own
open Jvm Jvm.ClassFile Sem Op Lib Jvm.Free Jvm.Stand Jvm.LawKit Jvm.RoadKit Bundle
theorem SafeFor.nil {Z : State} {h : Heap} {x : Addr} {wd : Bool} {sf : List Addr} : SafeFor wd Z [] sf h x := fun _ => Or.inr fun vm _ B => by
  obtain ⟨q0, hq0, -⟩ := B
  exact nomatch hq0
/-- an array of a known length -/
def Len (Z : State) (h : Heap) (a : Addr) (z : Int32) : Prop := ∃ (c : Cell) (ty : FieldType), Arr Z h a c ty ∧ c.slots.size.toInt32 = z
theorem Len.ext {Z : State} {h h' : Heap} {a : Addr} {z : Int32} (F : Len Z h a z) (E : Ext h h') : Len Z h' a z := by obtain ⟨c, ty, A, q⟩ := F; exact ⟨c, ty, A.ext E, q⟩
theorem Len.lt {Z : State} {h : Heap} {a : Addr} {z : Int32} (F : Len Z h a z) : a < h.size := by obtain ⟨c, ty, A, q⟩ := F; exact A.lt
theorem Len.keep {Z : State} {h h' : Heap} {a : Addr} {z : Int32} {ws : List Addr} (F : Len Z h a z) (K : Keep h h' ws) (q : a ∉ ws) : Len Z h' a z := by obtain ⟨c, ty, A, r⟩ := F; exact ⟨c, ty, ⟨K.2.1 a c A.1 q, A.2⟩, r⟩
section More
variable {p : Program} {l : Launch} {e : Env} {R : Room} {s : State} {m : MethodId} {args : Array Value} {below : List Frame} {meth : Method} {c : Code}
  {own : String} {Z : State} {a0 : Array Value} {EL : List (String × Nat)} {n0 : Nat} {h0 : Heap} {ws : List Addr} {wd : Bool} {Q : Option Value → Heap → Prop}
  {sf : List Addr} {h : Heap} {cells slots : Nat} {code : ByteArray} {maxL : Nat} {ret : Option FieldType} {nm : String} {a : Addr}
theorem own_lookup {tb : Tables} [Ours tb] {e : Env} {below : List Frame} {T target : State} {m : MethodId} {c : Code} {g : JFrame} (h : At T m c below) (hx : tb.exec = Jvm.exec) (hg : g.method = m) {d : Int} {ps : Array (Int × Int)} {ln : Nat} {k : Int32} {rest : List Value} {pc0 pc' : Nat} (hpc : g.pc = pc0)
    (hd : decode c.code g.pc = .ok (.lookupswitch d ps, ln)) (hs : g.stack = .int k :: rest) (ha : (ps.toList.zip (ps.toList.drop 1)).all (fun (a, next) => a.1 < next.1) = true) (ho : 0 ≤ (pc0 : Int) + lookupswitch.offset ps.toList d k.toInt) (hp : ((pc0 : Int) + lookupswitch.offset ps.toList d k.toInt).toNat = pc')
    (hr : Steps tb e below (T.setTop { g with pc := pc', stack := rest }) target) : Steps tb e below (T.setTop g) target := by
  subst hg hpc hp
  jvm_step h [h.top, hx, hd, hs, lookupswitch.wp_chain, ho]
  exact ⟨by simpa using ha, hr⟩
theorem ok_lookup (G : Good p meth c code maxL ret nm) {pc : Nat} {L : Array Slot} {S : List Value} {d : Int} {ps : Array (Int × Int)} {ln : Nat} {k : Int32} (pc' : Nat) (hd : decode code pc = .ok (.lookupswitch d ps, ln)) (ha : (ps.toList.zip (ps.toList.drop 1)).all (fun (a, next) => a.1 < next.1) = true)
    (ho : 0 ≤ (pc : Int) + lookupswitch.offset ps.toList d k.toInt) (hp : ((pc : Int) + lookupswitch.offset ps.toList d k.toInt).toNat = pc') (kk : Ok p l e R s m args below meth c own Z a0 EL n0 h0 ws wd Q sf h cells slots (mkF m pc' L S)) : Ok p l e R s m args below meth c own Z a0 EL n0 h0 ws wd Q sf h cells slots (mkF m pc L (.int k :: S)) :=
  ok_step (fun T t hA k => own_lookup hA G.1 rfl rfl (hb G.2.1 hd) rfl ha ho hp k) kk
theorem ok_arraylengthL (G : Good p meth c code maxL ret nm) {pc : Nat} {L : Array Slot} {S : List Value} {z : Int32} (F : Len Z h a z) (hd : decode code pc = .ok (.arraylength, 1))
    (k : Ok p l e R s m args below meth c own Z a0 EL n0 h0 ws wd Q sf h cells slots (mkF m (pc + 1) L (.int z :: S))) : Ok p l e R s m args below meth c own Z a0 EL n0 h0 ws wd Q sf h cells slots (mkF m pc L (.ref a :: S)) := by
  obtain ⟨cl, ty, A, Sz⟩ := F
  exact ok_stepT (fun vm T locs X e0 hZ hown O => ⟨T, X, e0, fun t k => X.arraylength G.1 (by rw [e0]; exact A.1) (State.isArrayOf_alike hZ.alike A.2.1) (g := mkF m pc L (.ref a :: S)) rfl rfl (hb G.2.1 hd) t (by rw [Sz]; exact k)⟩) k
/-- instanceof, whatever it says -/
theorem ok_instanceofAny (G : Good p meth c code maxL ret nm) {pc : Nat} {L : Array Slot} {S : List Value} {K C : String} {index : Nat} (w : (Jvm.Cond.classLink own index K).before a0 Z = true) (E : Exa Z h a C) (hd : decode code pc = .ok (.instanceof index, 3))
    (k : ∀ z : Int32, Ok p l e R s m args below meth c own Z a0 EL n0 h0 ws wd Q sf h cells slots (mkF m (pc + 3) L (.int z :: S))) : Ok p l e R s m args below meth c own Z a0 EL n0 h0 ws wd Q sf h cells slots (mkF m pc L (.ref a :: S)) := by
  intro vm T locs W
  have hZ := W.2.2.1
  have hown := W.2.2.2.1
  rw [hZ.alike.findClass] at hown
  obtain ⟨t, ft, -⟩ := Cond.classLink_spec hown w ({} : Platform) rfl
  obtain ⟨cell, kk, e1, e2, e3, e4, e5⟩ := id E
  cases hA : Z.vm.assignable cell.cls t with
  | true => exact ok_instanceof G w ⟨cell, t, e1, ft, by simp [e4, hA]⟩ hd (k 1) vm T locs W
  | false => exact ok_instanceofNo G w E ⟨_, t, e2, ft, hA⟩ hd (k 0) vm T locs W
end More
end Jvm.Pilot.@@N@@.Own
namespace Jvm.Pilot.@@N@@.Own
open Jvm Jvm.ClassFile Sem Op Lib Jvm.Free Jvm.Stand Jvm.LawKit Jvm.RoadKit Bundle
section Refs
variable {p : Program} {l : Launch} {e : Env} {R : Room} {s : State} {m : MethodId} {args : Array Value} {below : List Frame} {meth : Method} {c : Code}
  {own : String} {Z : State} {a0 : Array Value} {EL : List (String × Nat)} {n0 : Nat} {h0 : Heap} {ws : List Addr} {wd : Bool} {Q : Option Value → Heap → Prop}
  {sf : List Addr} {h : Heap} {cells slots : Nat} {code : ByteArray} {maxL : Nat} {ret : Option FieldType} {nm : String} {a : Addr}
theorem ok_aaload (G : Good p meth c code maxL ret nm) {pc : Nat} {L : Array Slot} {S : List Value} {kA : ClassId} {ty : FieldType} {z j : Int32} {vs : List Value} {dv : Value} (v : Value) (F : Arv Z h a kA ty z vs dv) (ht : ty.isReference = true) (hj : ¬ j < 0 ∧ j < z) (hv : vs.getD j.toNatClampNeg dv = v) (hd : decode code pc = .ok (.aaload, 1))
    (k : Ok p l e R s m args below meth c own Z a0 EL n0 h0 ws wd Q sf h cells slots (mkF m (pc + 1) L (v :: S))) : Ok p l e R s m args below meth c own Z a0 EL n0 h0 ws wd Q sf h cells slots (mkF m pc L (.int j :: .ref a :: S)) := by
  obtain ⟨cl, A, q, Sz, N, H, U⟩ := F
  exact ok_stepT (fun vm T locs X e0 hZ hown O => ⟨T, X, e0, fun t k => X.aaload G.1 (j := j) (v := v) (by rw [e0]; exact A.1) (State.isArrayOf_alike hZ.alike A.2.1) ht A.2.2 (inb_of Sz hj) (H.at (inb_of Sz hj) hv) (g := mkF m pc L (.int j :: .ref a :: S)) rfl rfl (hb G.2.1 hd) t k⟩) k
/-- clone of an array -/
theorem ok_clone (G : Good p meth c code maxL ret nm) {pc : Nat} {L : Array Slot} {S : List Value} {index : Nat} {ad : String} {kA : ClassId} {ty : FieldType} {z : Int32} {vs : List Value} {dv : Value} (cap : Nat)
    (w1 : (Jvm.Cond.methodLink own index ⟨ad, "clone", "()Ljava/lang/Object;"⟩).before a0 Z = true) (w2 : (Jvm.Cond.sameMethod ad "java/lang/Object" "clone" "()Ljava/lang/Object;").before a0 Z = true) (w3 : (Jvm.Cond.native ⟨"java/lang/Object", "clone", "()Ljava/lang/Object;"⟩).before a0 Z = true)
    (w4 : (Jvm.Cond.instanceMethod ⟨"java/lang/Object", "clone", "()Ljava/lang/Object;"⟩).before a0 Z = true) (w5 : (Jvm.Cond.selects ad ⟨ad, "clone", "()Ljava/lang/Object;"⟩ ⟨"java/lang/Object", "clone", "()Ljava/lang/Object;"⟩).before a0 Z = true) (w6 : (Jvm.Cond.castable ad "java/lang/Cloneable").before a0 Z = true)
    (F : Arv Z h a kA ty z vs dv) (E : Exa Z h a ad) (hsz : L.size = maxL) (hd : decode code pc = .ok (.invokevirtual index, 3)) (hf : 1 ≤ R.frames) (hlo : (S.map fun v => v.category).sum + 14 ≤ R.locals) (hcap : z.toNatClampNeg ≤ cap) (hc : cells + 1 ≤ R.cells) (hl : slots + cap ≤ R.slots)
    (k : ∀ h' b, b = h.size → Keep h h' [] → n0 ≤ b → h0.size ≤ b → Arv Z h' b kA ty z vs dv → Exa Z h' b ad → Ok p l e R s m args below meth c own Z a0 EL n0 h0 ws wd Q (b :: sf) h' (cells + 1) (slots + cap) (mkF m (pc + 3) L (.ref b :: S))) :
    Ok p l e R s m args below meth c own Z a0 EL n0 h0 ws wd Q sf h cells slots (mkF m pc L (.ref a :: S)) :=
  ok_stepE (sf' := h.size :: sf) (P := fun h' => Arv Z h' h.size kA ty z vs dv ∧ Exa Z h' h.size ad) (fun x hx => (List.mem_cons.mp hx).elim Or.inr Or.inl)
    (fun vm T locs X e0 hZ hown O => by
      obtain ⟨T', h', X', e1, Ex, A, E', st⟩ := cloneH X G.1 hZ hown w1 w2 w3 w4 w5 w6 e0 F.arh E (g := mkF m pc L (.ref a :: S)) rfl (by rw [G.2.2.1]; exact hsz) rfl (hb G.2.1 hd) hf (W := (S.map fun v => v.category).sum) (by show 2 * 0 + _ ≤ _; omega) hlo hcap hc hl
      exact ⟨T', h', X', e1, Ex, E'.lt, ⟨A, E'⟩, st⟩) (fun h' K q1 q2 P => k h' h.size rfl K q1 q2 P.1 P.2)
end Refs
theorem Fld.det {Z : State} {h : Heap} {a : Addr} {C n d : String} {v w : Value} (F : Fld Z h a C n d v) (G : Fld Z h a C n d w) : v = w := by
  by_cases q : v = w
  · exact q
  · exact absurd rfl (Fld.ne F G q)
theorem LStr.det {Z : State} {h : Heap} {x t u : Addr} {cs ds : List Int32} (F : LStr Z h x t cs) (G : LStr Z h x u ds) : cs = ds := by
  obtain ⟨-, -, F3, ⟨k1, c1, A1, q1, S1, N1, H1, U1⟩, F5, F6⟩ := F
  obtain ⟨-, -, G3, ⟨k2, c2, A2, q2, S2, N2, H2, U2⟩, G5, G6⟩ := G
  obtain rfl : t = u := Value.ref.inj (Fld.det F3 G3)
  cases A1.1.symm.trans A2.1
  rw [i32_clamp (by omega)] at S1 S2
  have hlen : cs.length = ds.length := S1.symm.trans S2
  apply List.ext_getElem hlen
  intro i hi hi'
  have e1 := H1 i (by omega)
  have e2 := H2 i (by omega)
  have e3 := Option.some.inj (e1.symm.trans e2)
  rw [getD_map (e := 0) hi, getD_map (e := 0) hi'] at e3
  have e4 := (Value.int.inj e3)
  have l1 : Lat (cs.getD i 0) := F5 _ (getD_mem hi)
  have l2 : Lat (ds.getD i 0) := G5 _ (getD_mem hi')
  have e5 := l1.inj l2 e4
  simpa [List.getD_eq_getElem?_getD, hi, hi'] using e5
end Jvm.Pilot.@@N@@.Own
namespace Jvm.Pilot.@@N@@
open Jvm Jvm.ClassFile Sem Op Lib Jvm.Free Jvm.Stand Jvm.LawKit Jvm.RoadKit Bundle Jvm.Pilot.@@N@@.Jvm.D Jvm.Pilot.@@N@@.Own
def Cx (Z : State) (a0 : Array Value) : Prop := (∀ d ∈ tables_1, d.before a0 Z = true) ∧ (∃ cz : Int32, Sta Z Z.heap "java/lang/String" "COMPACT_STRINGS" "Z" (.int cz) ∧ ¬ cz = 0) ∧ (∃ fm : Value, Sta Z Z.heap "jdk/internal/util/Preconditions" "SIOOBE_FORMATTER" "Ljava/util/function/BiFunction;" fm ∧ (fm = .null ∨ ∃ fa, fm = .ref fa))
theorem Cx.w0 {Z : State} {a0 : Array Value} (C : Cx Z a0) : (Jvm.Cond.stringLink "com/example/tenon/tenon/model/TypeNamedPinLaw" (19 : Nat) "java").before a0 Z = true := C.1 _ (List.mem_of_getElem? (i := 0) rfl)
theorem Cx.w1 {Z : State} {a0 : Array Value} (C : Cx Z a0) : (Jvm.Cond.initialized "java/lang/String").before a0 Z = true := C.1 _ (List.mem_of_getElem? (i := 1) rfl)
theorem Cx.w2 {Z : State} {a0 : Array Value} (C : Cx Z a0) : (Jvm.Cond.instantiable "java/lang/String" (4 : Nat)).before a0 Z = true := C.1 _ (List.mem_of_getElem? (i := 2) rfl)
theorem Cx.w3 {Z : State} {a0 : Array Value} (C : Cx Z a0) : (Jvm.Cond.arrayClass Jvm.ClassFile.FieldType.byte).before a0 Z = true := C.1 _ (List.mem_of_getElem? (i := 3) rfl)
theorem Cx.w4 {Z : State} {a0 : Array Value} (C : Cx Z a0) : (Jvm.Cond.laysFinal "java/lang/String" "java/lang/String" "value" "[B").before a0 Z = true := C.1 _ (List.mem_of_getElem? (i := 4) rfl)
theorem Cx.w5 {Z : State} {a0 : Array Value} (C : Cx Z a0) : (Jvm.Cond.laysFinal "java/lang/String" "java/lang/String" "coder" "B").before a0 Z = true := C.1 _ (List.mem_of_getElem? (i := 5) rfl)
theorem Cx.w8 {Z : State} {a0 : Array Value} (C : Cx Z a0) : (Jvm.Cond.methodLink "com/example/tenon/tenon/model/TypeNamedPinLaw" (7 : Nat) ({ cls := "java/lang/String", name := "length", desc := "()I" } : Jvm.MethodName)).before a0 Z = true := C.1 _ (List.mem_of_getElem? (i := 8) rfl)
theorem Cx.w9 {Z : State} {a0 : Array Value} (C : Cx Z a0) : (Jvm.Cond.declares ({ cls := "java/lang/String", name := "length", desc := "()I" } : Jvm.MethodName)).before a0 Z = true := C.1 _ (List.mem_of_getElem? (i := 9) rfl)
theorem Cx.w10 {Z : State} {a0 : Array Value} (C : Cx Z a0) : (Jvm.Cond.instanceMethod ({ cls := "java/lang/String", name := "length", desc := "()I" } : Jvm.MethodName)).before a0 Z = true := C.1 _ (List.mem_of_getElem? (i := 10) rfl)
theorem Cx.w11 {Z : State} {a0 : Array Value} (C : Cx Z a0) : (Jvm.Cond.selects "java/lang/String" ({ cls := "java/lang/String", name := "length", desc := "()I" } : Jvm.MethodName) ({ cls := "java/lang/String", name := "length", desc := "()I" } : Jvm.MethodName)).before a0 Z = true := C.1 _ (List.mem_of_getElem? (i := 11) rfl)
theorem Cx.w12 {Z : State} {a0 : Array Value} (C : Cx Z a0) : (Jvm.Cond.code ({ cls := "java/lang/String", name := "length", desc := "()I" } : Jvm.MethodName) jdk_42_method_54_code (1 : Nat) (Option.some Jvm.ClassFile.FieldType.int)).before a0 Z = true := C.1 _ (List.mem_of_getElem? (i := 12) rfl)
theorem Cx.w13 {Z : State} {a0 : Array Value} (C : Cx Z a0) : (Jvm.Cond.fieldLink "java/lang/String" (9 : Nat) "java/lang/String" "value" "[B").before a0 Z = true := C.1 _ (List.mem_of_getElem? (i := 13) rfl)
theorem Cx.w14 {Z : State} {a0 : Array Value} (C : Cx Z a0) : (Jvm.Cond.methodLink "java/lang/String" (335 : Nat) ({ cls := "java/lang/String", name := "coder", desc := "()B" } : Jvm.MethodName)).before a0 Z = true := C.1 _ (List.mem_of_getElem? (i := 14) rfl)
theorem Cx.w15 {Z : State} {a0 : Array Value} (C : Cx Z a0) : (Jvm.Cond.declares ({ cls := "java/lang/String", name := "coder", desc := "()B" } : Jvm.MethodName)).before a0 Z = true := C.1 _ (List.mem_of_getElem? (i := 15) rfl)
theorem Cx.w16 {Z : State} {a0 : Array Value} (C : Cx Z a0) : (Jvm.Cond.instanceMethod ({ cls := "java/lang/String", name := "coder", desc := "()B" } : Jvm.MethodName)).before a0 Z = true := C.1 _ (List.mem_of_getElem? (i := 16) rfl)
theorem Cx.w17 {Z : State} {a0 : Array Value} (C : Cx Z a0) : (Jvm.Cond.selects "java/lang/String" ({ cls := "java/lang/String", name := "coder", desc := "()B" } : Jvm.MethodName) ({ cls := "java/lang/String", name := "coder", desc := "()B" } : Jvm.MethodName)).before a0 Z = true := C.1 _ (List.mem_of_getElem? (i := 17) rfl)
theorem Cx.w18 {Z : State} {a0 : Array Value} (C : Cx Z a0) : (Jvm.Cond.code ({ cls := "java/lang/String", name := "coder", desc := "()B" } : Jvm.MethodName) jdk_42_method_152_code (1 : Nat) (Option.some Jvm.ClassFile.FieldType.byte)).before a0 Z = true := C.1 _ (List.mem_of_getElem? (i := 18) rfl)
theorem Cx.w19 {Z : State} {a0 : Array Value} (C : Cx Z a0) : (Jvm.Cond.fieldLink "java/lang/String" (38 : Nat) "java/lang/String" "COMPACT_STRINGS" "Z").before a0 Z = true := C.1 _ (List.mem_of_getElem? (i := 19) rfl)
theorem Cx.w20 {Z : State} {a0 : Array Value} (C : Cx Z a0) : (Jvm.Cond.fieldLink "java/lang/String" (15 : Nat) "java/lang/String" "coder" "B").before a0 Z = true := C.1 _ (List.mem_of_getElem? (i := 20) rfl)
theorem Cx.w21 {Z : State} {a0 : Array Value} (C : Cx Z a0) : (Jvm.Cond.constant "com/example/tenon/tenon/model/TypeNamedPinLaw" (21 : Nat) (2147483647 : Int32)).before a0 Z = true := C.1 _ (List.mem_of_getElem? (i := 21) rfl)
theorem Cx.w22 {Z : State} {a0 : Array Value} (C : Cx Z a0) : (Jvm.Cond.classLink "com/example/tenon/tenon/model/TypeNamedPinLaw" (8 : Nat) "java/lang/String").before a0 Z = true := C.1 _ (List.mem_of_getElem? (i := 22) rfl)
theorem Cx.w23 {Z : State} {a0 : Array Value} (C : Cx Z a0) : (Jvm.Cond.arrayClass Jvm.ClassFile.FieldType.char).before a0 Z = true := C.1 _ (List.mem_of_getElem? (i := 23) rfl)
theorem Cx.w24 {Z : State} {a0 : Array Value} (C : Cx Z a0) : (Jvm.Cond.methodLink "com/example/tenon/tenon/model/TypeNamedPinLaw" (28 : Nat) ({ cls := "com/example/tenon/tenon/model/TypeNamedPinLaw", name := "pick", desc := "(Ljava/lang/String;IICC)C" } : Jvm.MethodName)).before a0 Z = true := C.1 _ (List.mem_of_getElem? (i := 24) rfl)
theorem Cx.w25 {Z : State} {a0 : Array Value} (C : Cx Z a0) : (Jvm.Cond.static ({ cls := "com/example/tenon/tenon/model/TypeNamedPinLaw", name := "pick", desc := "(Ljava/lang/String;IICC)C" } : Jvm.MethodName)).before a0 Z = true := C.1 _ (List.mem_of_getElem? (i := 25) rfl)
theorem Cx.w26 {Z : State} {a0 : Array Value} (C : Cx Z a0) : (Jvm.Cond.initialized "com/example/tenon/tenon/model/TypeNamedPinLaw").before a0 Z = true := C.1 _ (List.mem_of_getElem? (i := 26) rfl)
theorem Cx.w27 {Z : State} {a0 : Array Value} (C : Cx Z a0) : (Jvm.Cond.code ({ cls := "com/example/tenon/tenon/model/TypeNamedPinLaw", name := "pick", desc := "(Ljava/lang/String;IICC)C" } : Jvm.MethodName) method_2_code (5 : Nat) (Option.some Jvm.ClassFile.FieldType.char)).before a0 Z = true := C.1 _ (List.mem_of_getElem? (i := 27) rfl)
theorem Cx.w28 {Z : State} {a0 : Array Value} (C : Cx Z a0) : (Jvm.Cond.methodLink "com/example/tenon/tenon/model/TypeNamedPinLaw" (13 : Nat) ({ cls := "java/lang/String", name := "charAt", desc := "(I)C" } : Jvm.MethodName)).before a0 Z = true := C.1 _ (List.mem_of_getElem? (i := 28) rfl)
theorem Cx.w29 {Z : State} {a0 : Array Value} (C : Cx Z a0) : (Jvm.Cond.declares ({ cls := "java/lang/String", name := "charAt", desc := "(I)C" } : Jvm.MethodName)).before a0 Z = true := C.1 _ (List.mem_of_getElem? (i := 29) rfl)
theorem Cx.w30 {Z : State} {a0 : Array Value} (C : Cx Z a0) : (Jvm.Cond.instanceMethod ({ cls := "java/lang/String", name := "charAt", desc := "(I)C" } : Jvm.MethodName)).before a0 Z = true := C.1 _ (List.mem_of_getElem? (i := 30) rfl)
theorem Cx.w31 {Z : State} {a0 : Array Value} (C : Cx Z a0) : (Jvm.Cond.selects "java/lang/String" ({ cls := "java/lang/String", name := "charAt", desc := "(I)C" } : Jvm.MethodName) ({ cls := "java/lang/String", name := "charAt", desc := "(I)C" } : Jvm.MethodName)).before a0 Z = true := C.1 _ (List.mem_of_getElem? (i := 31) rfl)
theorem Cx.w32 {Z : State} {a0 : Array Value} (C : Cx Z a0) : (Jvm.Cond.code ({ cls := "java/lang/String", name := "charAt", desc := "(I)C" } : Jvm.MethodName) jdk_42_method_56_code (2 : Nat) (Option.some Jvm.ClassFile.FieldType.char)).before a0 Z = true := C.1 _ (List.mem_of_getElem? (i := 32) rfl)
theorem Cx.w33 {Z : State} {a0 : Array Value} (C : Cx Z a0) : (Jvm.Cond.methodLink "java/lang/String" (492 : Nat) ({ cls := "java/lang/String", name := "isLatin1", desc := "()Z" } : Jvm.MethodName)).before a0 Z = true := C.1 _ (List.mem_of_getElem? (i := 33) rfl)
theorem Cx.w34 {Z : State} {a0 : Array Value} (C : Cx Z a0) : (Jvm.Cond.declares ({ cls := "java/lang/String", name := "isLatin1", desc := "()Z" } : Jvm.MethodName)).before a0 Z = true := C.1 _ (List.mem_of_getElem? (i := 34) rfl)
theorem Cx.w35 {Z : State} {a0 : Array Value} (C : Cx Z a0) : (Jvm.Cond.instanceMethod ({ cls := "java/lang/String", name := "isLatin1", desc := "()Z" } : Jvm.MethodName)).before a0 Z = true := C.1 _ (List.mem_of_getElem? (i := 35) rfl)
theorem Cx.w36 {Z : State} {a0 : Array Value} (C : Cx Z a0) : (Jvm.Cond.selects "java/lang/String" ({ cls := "java/lang/String", name := "isLatin1", desc := "()Z" } : Jvm.MethodName) ({ cls := "java/lang/String", name := "isLatin1", desc := "()Z" } : Jvm.MethodName)).before a0 Z = true := C.1 _ (List.mem_of_getElem? (i := 36) rfl)
theorem Cx.w37 {Z : State} {a0 : Array Value} (C : Cx Z a0) : (Jvm.Cond.code ({ cls := "java/lang/String", name := "isLatin1", desc := "()Z" } : Jvm.MethodName) jdk_42_method_154_code (1 : Nat) (Option.some Jvm.ClassFile.FieldType.boolean)).before a0 Z = true := C.1 _ (List.mem_of_getElem? (i := 37) rfl)
theorem Cx.w38 {Z : State} {a0 : Array Value} (C : Cx Z a0) : (Jvm.Cond.methodLink "java/lang/String" (495 : Nat) ({ cls := "java/lang/StringLatin1", name := "charAt", desc := "([BI)C" } : Jvm.MethodName)).before a0 Z = true := C.1 _ (List.mem_of_getElem? (i := 38) rfl)
theorem Cx.w39 {Z : State} {a0 : Array Value} (C : Cx Z a0) : (Jvm.Cond.static ({ cls := "java/lang/StringLatin1", name := "charAt", desc := "([BI)C" } : Jvm.MethodName)).before a0 Z = true := C.1 _ (List.mem_of_getElem? (i := 39) rfl)
theorem Cx.w40 {Z : State} {a0 : Array Value} (C : Cx Z a0) : (Jvm.Cond.initialized "java/lang/StringLatin1").before a0 Z = true := C.1 _ (List.mem_of_getElem? (i := 40) rfl)
theorem Cx.w41 {Z : State} {a0 : Array Value} (C : Cx Z a0) : (Jvm.Cond.code ({ cls := "java/lang/StringLatin1", name := "charAt", desc := "([BI)C" } : Jvm.MethodName) jdk_43_method_2_code (2 : Nat) (Option.some Jvm.ClassFile.FieldType.char)).before a0 Z = true := C.1 _ (List.mem_of_getElem? (i := 41) rfl)
theorem Cx.w42 {Z : State} {a0 : Array Value} (C : Cx Z a0) : (Jvm.Cond.methodLink "java/lang/StringLatin1" (9 : Nat) ({ cls := "java/lang/String", name := "checkIndex", desc := "(II)V" } : Jvm.MethodName)).before a0 Z = true := C.1 _ (List.mem_of_getElem? (i := 42) rfl)
theorem Cx.w43 {Z : State} {a0 : Array Value} (C : Cx Z a0) : (Jvm.Cond.static ({ cls := "java/lang/String", name := "checkIndex", desc := "(II)V" } : Jvm.MethodName)).before a0 Z = true := C.1 _ (List.mem_of_getElem? (i := 43) rfl)
theorem Cx.w44 {Z : State} {a0 : Array Value} (C : Cx Z a0) : (Jvm.Cond.code ({ cls := "java/lang/String", name := "checkIndex", desc := "(II)V" } : Jvm.MethodName) jdk_42_method_155_code (2 : Nat) (Option.none : Option Jvm.ClassFile.FieldType)).before a0 Z = true := C.1 _ (List.mem_of_getElem? (i := 44) rfl)
theorem Cx.w45 {Z : State} {a0 : Array Value} (C : Cx Z a0) : (Jvm.Cond.fieldLink "java/lang/String" (1053 : Nat) "jdk/internal/util/Preconditions" "SIOOBE_FORMATTER" "Ljava/util/function/BiFunction;").before a0 Z = true := C.1 _ (List.mem_of_getElem? (i := 45) rfl)
theorem Cx.w46 {Z : State} {a0 : Array Value} (C : Cx Z a0) : (Jvm.Cond.initialized "jdk/internal/util/Preconditions").before a0 Z = true := C.1 _ (List.mem_of_getElem? (i := 46) rfl)
theorem Cx.w47 {Z : State} {a0 : Array Value} (C : Cx Z a0) : (Jvm.Cond.methodLink "java/lang/String" (1059 : Nat) ({ cls := "jdk/internal/util/Preconditions", name := "checkIndex", desc := "(IILjava/util/function/BiFunction;)I" } : Jvm.MethodName)).before a0 Z = true := C.1 _ (List.mem_of_getElem? (i := 47) rfl)
theorem Cx.w48 {Z : State} {a0 : Array Value} (C : Cx Z a0) : (Jvm.Cond.static ({ cls := "jdk/internal/util/Preconditions", name := "checkIndex", desc := "(IILjava/util/function/BiFunction;)I" } : Jvm.MethodName)).before a0 Z = true := C.1 _ (List.mem_of_getElem? (i := 48) rfl)
theorem Cx.w49 {Z : State} {a0 : Array Value} (C : Cx Z a0) : (Jvm.Cond.code ({ cls := "jdk/internal/util/Preconditions", name := "checkIndex", desc := "(IILjava/util/function/BiFunction;)I" } : Jvm.MethodName) jdk_41_method_11_code (3 : Nat) (Option.some Jvm.ClassFile.FieldType.int)).before a0 Z = true := C.1 _ (List.mem_of_getElem? (i := 49) rfl)
theorem Cx.w50 {Z : State} {a0 : Array Value} (C : Cx Z a0) : (Jvm.Cond.methodLink "com/example/tenon/tenon/model/TypeNamedPinLaw" (34 : Nat) ({ cls := "java/lang/String", name := "<init>", desc := "([C)V" } : Jvm.MethodName)).before a0 Z = true := C.1 _ (List.mem_of_getElem? (i := 50) rfl)
theorem Cx.w51 {Z : State} {a0 : Array Value} (C : Cx Z a0) : (Jvm.Cond.instanceMethod ({ cls := "java/lang/String", name := "<init>", desc := "([C)V" } : Jvm.MethodName)).before a0 Z = true := C.1 _ (List.mem_of_getElem? (i := 51) rfl)
theorem Cx.w52 {Z : State} {a0 : Array Value} (C : Cx Z a0) : (Jvm.Cond.code ({ cls := "java/lang/String", name := "<init>", desc := "([C)V" } : Jvm.MethodName) jdk_42_method_3_code (2 : Nat) (Option.none : Option Jvm.ClassFile.FieldType)).before a0 Z = true := C.1 _ (List.mem_of_getElem? (i := 52) rfl)
theorem Cx.w53 {Z : State} {a0 : Array Value} (C : Cx Z a0) : (Jvm.Cond.methodLink "java/lang/String" (27 : Nat) ({ cls := "java/lang/String", name := "<init>", desc := "([CIILjava/lang/Void;)V" } : Jvm.MethodName)).before a0 Z = true := C.1 _ (List.mem_of_getElem? (i := 53) rfl)
theorem Cx.w54 {Z : State} {a0 : Array Value} (C : Cx Z a0) : (Jvm.Cond.instanceMethod ({ cls := "java/lang/String", name := "<init>", desc := "([CIILjava/lang/Void;)V" } : Jvm.MethodName)).before a0 Z = true := C.1 _ (List.mem_of_getElem? (i := 54) rfl)
theorem Cx.w56 {Z : State} {a0 : Array Value} (C : Cx Z a0) : (Jvm.Cond.code ({ cls := "java/lang/String", name := "<init>", desc := "([CIILjava/lang/Void;)V" } : Jvm.MethodName) jdk_42_method_149_code (6 : Nat) (Option.none : Option Jvm.ClassFile.FieldType)).before a0 Z = true := C.1 _ (List.mem_of_getElem? (i := 56) rfl)
theorem Cx.w57 {Z : State} {a0 : Array Value} (C : Cx Z a0) : (Jvm.Cond.methodLink "java/lang/String" (1 : Nat) ({ cls := "java/lang/Object", name := "<init>", desc := "()V" } : Jvm.MethodName)).before a0 Z = true := C.1 _ (List.mem_of_getElem? (i := 57) rfl)
theorem Cx.w58 {Z : State} {a0 : Array Value} (C : Cx Z a0) : (Jvm.Cond.instanceMethod ({ cls := "java/lang/Object", name := "<init>", desc := "()V" } : Jvm.MethodName)).before a0 Z = true := C.1 _ (List.mem_of_getElem? (i := 58) rfl)
theorem Cx.w59 {Z : State} {a0 : Array Value} (C : Cx Z a0) : (Jvm.Cond.code ({ cls := "java/lang/Object", name := "<init>", desc := "()V" } : Jvm.MethodName) object_method_1_code (1 : Nat) (Option.none : Option Jvm.ClassFile.FieldType)).before a0 Z = true := C.1 _ (List.mem_of_getElem? (i := 59) rfl)
theorem Cx.w60 {Z : State} {a0 : Array Value} (C : Cx Z a0) : (Jvm.Cond.methodLink "java/lang/String" (177 : Nat) ({ cls := "java/lang/StringUTF16", name := "compress", desc := "([CII)[B" } : Jvm.MethodName)).before a0 Z = true := C.1 _ (List.mem_of_getElem? (i := 60) rfl)
theorem Cx.w61 {Z : State} {a0 : Array Value} (C : Cx Z a0) : (Jvm.Cond.static ({ cls := "java/lang/StringUTF16", name := "compress", desc := "([CII)[B" } : Jvm.MethodName)).before a0 Z = true := C.1 _ (List.mem_of_getElem? (i := 61) rfl)
theorem Cx.w62 {Z : State} {a0 : Array Value} (C : Cx Z a0) : (Jvm.Cond.initialized "java/lang/StringUTF16").before a0 Z = true := C.1 _ (List.mem_of_getElem? (i := 62) rfl)
theorem Cx.w63 {Z : State} {a0 : Array Value} (C : Cx Z a0) : (Jvm.Cond.code ({ cls := "java/lang/StringUTF16", name := "compress", desc := "([CII)[B" } : Jvm.MethodName) jdk_52_method_16_code (6 : Nat) (Option.some (Jvm.ClassFile.FieldType.array Jvm.ClassFile.FieldType.byte))).before a0 Z = true := C.1 _ (List.mem_of_getElem? (i := 63) rfl)
theorem Cx.w64 {Z : State} {a0 : Array Value} (C : Cx Z a0) : (Jvm.Cond.methodLink "java/lang/StringUTF16" (115 : Nat) ({ cls := "java/lang/StringUTF16", name := "compress", desc := "([CI[BII)I" } : Jvm.MethodName)).before a0 Z = true := C.1 _ (List.mem_of_getElem? (i := 64) rfl)
theorem Cx.w65 {Z : State} {a0 : Array Value} (C : Cx Z a0) : (Jvm.Cond.static ({ cls := "java/lang/StringUTF16", name := "compress", desc := "([CI[BII)I" } : Jvm.MethodName)).before a0 Z = true := C.1 _ (List.mem_of_getElem? (i := 65) rfl)
theorem Cx.w66 {Z : State} {a0 : Array Value} (C : Cx Z a0) : (Jvm.Cond.code ({ cls := "java/lang/StringUTF16", name := "compress", desc := "([CI[BII)I" } : Jvm.MethodName) jdk_52_method_21_code (7 : Nat) (Option.some Jvm.ClassFile.FieldType.int)).before a0 Z = true := C.1 _ (List.mem_of_getElem? (i := 66) rfl)
theorem Cx.w67 {Z : State} {a0 : Array Value} (C : Cx Z a0) : (Jvm.Cond.methodLink "java/lang/String" (47 : Nat) ({ cls := "java/lang/StringUTF16", name := "coderFromArrayLen", desc := "([BI)B" } : Jvm.MethodName)).before a0 Z = true := C.1 _ (List.mem_of_getElem? (i := 67) rfl)
theorem Cx.w68 {Z : State} {a0 : Array Value} (C : Cx Z a0) : (Jvm.Cond.static ({ cls := "java/lang/StringUTF16", name := "coderFromArrayLen", desc := "([BI)B" } : Jvm.MethodName)).before a0 Z = true := C.1 _ (List.mem_of_getElem? (i := 68) rfl)
theorem Cx.w69 {Z : State} {a0 : Array Value} (C : Cx Z a0) : (Jvm.Cond.code ({ cls := "java/lang/StringUTF16", name := "coderFromArrayLen", desc := "([BI)B" } : Jvm.MethodName) jdk_52_method_15_code (2 : Nat) (Option.some Jvm.ClassFile.FieldType.byte)).before a0 Z = true := C.1 _ (List.mem_of_getElem? (i := 69) rfl)
theorem Cx.w70 {Z : State} {a0 : Array Value} (C : Cx Z a0) : (Jvm.Cond.methodLink "com/example/tenon/tenon/model/TypeNamedPinLaw" (46 : Nat) ({ cls := "com/example/tenon/tenon/model/SourceSet$Type", name := "named", desc := "(Ljava/lang/String;)Ljava/util/Optional;" } : Jvm.MethodName)).before a0 Z = true := C.1 _ (List.mem_of_getElem? (i := 70) rfl)
theorem Cx.w71 {Z : State} {a0 : Array Value} (C : Cx Z a0) : (Jvm.Cond.static ({ cls := "com/example/tenon/tenon/model/SourceSet$Type", name := "named", desc := "(Ljava/lang/String;)Ljava/util/Optional;" } : Jvm.MethodName)).before a0 Z = true := C.1 _ (List.mem_of_getElem? (i := 71) rfl)
theorem Cx.w72 {Z : State} {a0 : Array Value} (C : Cx Z a0) : (Jvm.Cond.initialized "com/example/tenon/tenon/model/SourceSet$Type").before a0 Z = true := C.1 _ (List.mem_of_getElem? (i := 72) rfl)
theorem Cx.w73 {Z : State} {a0 : Array Value} (C : Cx Z a0) : (Jvm.Cond.code ({ cls := "com/example/tenon/tenon/model/SourceSet$Type", name := "named", desc := "(Ljava/lang/String;)Ljava/util/Optional;" } : Jvm.MethodName) prog_25_method_4_code (5 : Nat) (Option.some (Jvm.ClassFile.FieldType.object "java/util/Optional"))).before a0 Z = true := C.1 _ (List.mem_of_getElem? (i := 73) rfl)
theorem Cx.w74 {Z : State} {a0 : Array Value} (C : Cx Z a0) : (Jvm.Cond.methodLink "com/example/tenon/tenon/model/SourceSet$Type" (33 : Nat) ({ cls := "com/example/tenon/tenon/model/SourceSet$Type", name := "values", desc := "()[Lcom/example/tenon/tenon/model/SourceSet$Type;" } : Jvm.MethodName)).before a0 Z = true := C.1 _ (List.mem_of_getElem? (i := 74) rfl)
theorem Cx.w75 {Z : State} {a0 : Array Value} (C : Cx Z a0) : (Jvm.Cond.static ({ cls := "com/example/tenon/tenon/model/SourceSet$Type", name := "values", desc := "()[Lcom/example/tenon/tenon/model/SourceSet$Type;" } : Jvm.MethodName)).before a0 Z = true := C.1 _ (List.mem_of_getElem? (i := 75) rfl)
theorem Cx.w76 {Z : State} {a0 : Array Value} (C : Cx Z a0) : (Jvm.Cond.code ({ cls := "com/example/tenon/tenon/model/SourceSet$Type", name := "values", desc := "()[Lcom/example/tenon/tenon/model/SourceSet$Type;" } : Jvm.MethodName) prog_25_method_1_code (0 : Nat) (Option.some (Jvm.ClassFile.FieldType.array (Jvm.ClassFile.FieldType.object "com/example/tenon/tenon/model/SourceSet$Type")))).before a0 Z = true := C.1 _ (List.mem_of_getElem? (i := 76) rfl)
theorem Cx.w77 {Z : State} {a0 : Array Value} (C : Cx Z a0) : (Jvm.Cond.fieldLink "com/example/tenon/tenon/model/SourceSet$Type" (10 : Nat) "com/example/tenon/tenon/model/SourceSet$Type" "$VALUES" "[Lcom/example/tenon/tenon/model/SourceSet$Type;").before a0 Z = true := C.1 _ (List.mem_of_getElem? (i := 77) rfl)
theorem Cx.w79 {Z : State} {a0 : Array Value} (C : Cx Z a0) : (Jvm.Cond.methodLink "com/example/tenon/tenon/model/SourceSet$Type" (14 : Nat) ({ cls := "[Lcom/example/tenon/tenon/model/SourceSet$Type;", name := "clone", desc := "()Ljava/lang/Object;" } : Jvm.MethodName)).before a0 Z = true := C.1 _ (List.mem_of_getElem? (i := 79) rfl)
theorem Cx.w80 {Z : State} {a0 : Array Value} (C : Cx Z a0) : (Jvm.Cond.sameMethod "[Lcom/example/tenon/tenon/model/SourceSet$Type;" "java/lang/Object" "clone" "()Ljava/lang/Object;").before a0 Z = true := C.1 _ (List.mem_of_getElem? (i := 80) rfl)
theorem Cx.w82 {Z : State} {a0 : Array Value} (C : Cx Z a0) : (Jvm.Cond.instanceMethod ({ cls := "java/lang/Object", name := "clone", desc := "()Ljava/lang/Object;" } : Jvm.MethodName)).before a0 Z = true := C.1 _ (List.mem_of_getElem? (i := 82) rfl)
theorem Cx.w83 {Z : State} {a0 : Array Value} (C : Cx Z a0) : (Jvm.Cond.selects "[Lcom/example/tenon/tenon/model/SourceSet$Type;" ({ cls := "[Lcom/example/tenon/tenon/model/SourceSet$Type;", name := "clone", desc := "()Ljava/lang/Object;" } : Jvm.MethodName) ({ cls := "java/lang/Object", name := "clone", desc := "()Ljava/lang/Object;" } : Jvm.MethodName)).before a0 Z = true := C.1 _ (List.mem_of_getElem? (i := 83) rfl)
theorem Cx.w84 {Z : State} {a0 : Array Value} (C : Cx Z a0) : (Jvm.Cond.native ({ cls := "java/lang/Object", name := "clone", desc := "()Ljava/lang/Object;" } : Jvm.MethodName)).before a0 Z = true := C.1 _ (List.mem_of_getElem? (i := 84) rfl)
theorem Cx.w85 {Z : State} {a0 : Array Value} (C : Cx Z a0) : (Jvm.Cond.castable "[Lcom/example/tenon/tenon/model/SourceSet$Type;" "java/lang/Cloneable").before a0 Z = true := C.1 _ (List.mem_of_getElem? (i := 85) rfl)
theorem Cx.w89 {Z : State} {a0 : Array Value} (C : Cx Z a0) : (Jvm.Cond.classLink "com/example/tenon/tenon/model/SourceSet$Type" (15 : Nat) "[Lcom/example/tenon/tenon/model/SourceSet$Type;").before a0 Z = true := C.1 _ (List.mem_of_getElem? (i := 89) rfl)
theorem Cx.w91 {Z : State} {a0 : Array Value} (C : Cx Z a0) : (Jvm.Cond.fieldLink "com/example/tenon/tenon/model/SourceSet$Type" (29 : Nat) "com/example/tenon/tenon/model/SourceSet$Type" "word" "Ljava/lang/String;").before a0 Z = true := C.1 _ (List.mem_of_getElem? (i := 91) rfl)
theorem Cx.w93 {Z : State} {a0 : Array Value} (C : Cx Z a0) : (Jvm.Cond.methodLink "com/example/tenon/tenon/model/SourceSet$Type" (37 : Nat) ({ cls := "java/lang/String", name := "equals", desc := "(Ljava/lang/Object;)Z" } : Jvm.MethodName)).before a0 Z = true := C.1 _ (List.mem_of_getElem? (i := 93) rfl)
theorem Cx.w94 {Z : State} {a0 : Array Value} (C : Cx Z a0) : (Jvm.Cond.declares ({ cls := "java/lang/String", name := "equals", desc := "(Ljava/lang/Object;)Z" } : Jvm.MethodName)).before a0 Z = true := C.1 _ (List.mem_of_getElem? (i := 94) rfl)
theorem Cx.w95 {Z : State} {a0 : Array Value} (C : Cx Z a0) : (Jvm.Cond.instanceMethod ({ cls := "java/lang/String", name := "equals", desc := "(Ljava/lang/Object;)Z" } : Jvm.MethodName)).before a0 Z = true := C.1 _ (List.mem_of_getElem? (i := 95) rfl)
theorem Cx.w96 {Z : State} {a0 : Array Value} (C : Cx Z a0) : (Jvm.Cond.selects "java/lang/String" ({ cls := "java/lang/String", name := "equals", desc := "(Ljava/lang/Object;)Z" } : Jvm.MethodName) ({ cls := "java/lang/String", name := "equals", desc := "(Ljava/lang/Object;)Z" } : Jvm.MethodName)).before a0 Z = true := C.1 _ (List.mem_of_getElem? (i := 96) rfl)
theorem Cx.w97 {Z : State} {a0 : Array Value} (C : Cx Z a0) : (Jvm.Cond.code ({ cls := "java/lang/String", name := "equals", desc := "(Ljava/lang/Object;)Z" } : Jvm.MethodName) jdk_42_method_66_code (3 : Nat) (Option.some Jvm.ClassFile.FieldType.boolean)).before a0 Z = true := C.1 _ (List.mem_of_getElem? (i := 97) rfl)
theorem Cx.w98 {Z : State} {a0 : Array Value} (C : Cx Z a0) : (Jvm.Cond.classLink "java/lang/String" (10 : Nat) "java/lang/String").before a0 Z = true := C.1 _ (List.mem_of_getElem? (i := 98) rfl)
theorem Cx.w99 {Z : State} {a0 : Array Value} (C : Cx Z a0) : (Jvm.Cond.methodLink "java/lang/String" (541 : Nat) ({ cls := "java/lang/StringLatin1", name := "equals", desc := "([B[B)Z" } : Jvm.MethodName)).before a0 Z = true := C.1 _ (List.mem_of_getElem? (i := 99) rfl)
theorem Cx.w100 {Z : State} {a0 : Array Value} (C : Cx Z a0) : (Jvm.Cond.static ({ cls := "java/lang/StringLatin1", name := "equals", desc := "([B[B)Z" } : Jvm.MethodName)).before a0 Z = true := C.1 _ (List.mem_of_getElem? (i := 100) rfl)
theorem Cx.w101 {Z : State} {a0 : Array Value} (C : Cx Z a0) : (Jvm.Cond.code ({ cls := "java/lang/StringLatin1", name := "equals", desc := "([B[B)Z" } : Jvm.MethodName) jdk_43_method_13_code (3 : Nat) (Option.some Jvm.ClassFile.FieldType.boolean)).before a0 Z = true := C.1 _ (List.mem_of_getElem? (i := 101) rfl)
theorem Cx.w102 {Z : State} {a0 : Array Value} (C : Cx Z a0) : (Jvm.Cond.methodLink "com/example/tenon/tenon/model/SourceSet$Type" (49 : Nat) ({ cls := "java/util/Optional", name := "empty", desc := "()Ljava/util/Optional;" } : Jvm.MethodName)).before a0 Z = true := C.1 _ (List.mem_of_getElem? (i := 102) rfl)
theorem Cx.w103 {Z : State} {a0 : Array Value} (C : Cx Z a0) : (Jvm.Cond.static ({ cls := "java/util/Optional", name := "empty", desc := "()Ljava/util/Optional;" } : Jvm.MethodName)).before a0 Z = true := C.1 _ (List.mem_of_getElem? (i := 103) rfl)
theorem Cx.w104 {Z : State} {a0 : Array Value} (C : Cx Z a0) : (Jvm.Cond.initialized "java/util/Optional").before a0 Z = true := C.1 _ (List.mem_of_getElem? (i := 104) rfl)
theorem Cx.w105 {Z : State} {a0 : Array Value} (C : Cx Z a0) : (Jvm.Cond.code ({ cls := "java/util/Optional", name := "empty", desc := "()Ljava/util/Optional;" } : Jvm.MethodName) jdk_32_method_1_code (1 : Nat) (Option.some (Jvm.ClassFile.FieldType.object "java/util/Optional"))).before a0 Z = true := C.1 _ (List.mem_of_getElem? (i := 105) rfl)
theorem Cx.w106 {Z : State} {a0 : Array Value} (C : Cx Z a0) : (Jvm.Cond.fieldLink "java/util/Optional" (1 : Nat) "java/util/Optional" "EMPTY" "Ljava/util/Optional;").before a0 Z = true := C.1 _ (List.mem_of_getElem? (i := 106) rfl)
theorem Cx.w107 {Z : State} {a0 : Array Value} (C : Cx Z a0) : (Jvm.Cond.methodLink "com/example/tenon/tenon/model/TypeNamedPinLaw" (50 : Nat) ({ cls := "java/util/Optional", name := "orElse", desc := "(Ljava/lang/Object;)Ljava/lang/Object;" } : Jvm.MethodName)).before a0 Z = true := C.1 _ (List.mem_of_getElem? (i := 107) rfl)
theorem Cx.w108 {Z : State} {a0 : Array Value} (C : Cx Z a0) : (Jvm.Cond.declares ({ cls := "java/util/Optional", name := "orElse", desc := "(Ljava/lang/Object;)Ljava/lang/Object;" } : Jvm.MethodName)).before a0 Z = true := C.1 _ (List.mem_of_getElem? (i := 108) rfl)
theorem Cx.w109 {Z : State} {a0 : Array Value} (C : Cx Z a0) : (Jvm.Cond.instanceMethod ({ cls := "java/util/Optional", name := "orElse", desc := "(Ljava/lang/Object;)Ljava/lang/Object;" } : Jvm.MethodName)).before a0 Z = true := C.1 _ (List.mem_of_getElem? (i := 109) rfl)
theorem Cx.w110 {Z : State} {a0 : Array Value} (C : Cx Z a0) : (Jvm.Cond.selects "java/util/Optional" ({ cls := "java/util/Optional", name := "orElse", desc := "(Ljava/lang/Object;)Ljava/lang/Object;" } : Jvm.MethodName) ({ cls := "java/util/Optional", name := "orElse", desc := "(Ljava/lang/Object;)Ljava/lang/Object;" } : Jvm.MethodName)).before a0 Z = true := C.1 _ (List.mem_of_getElem? (i := 110) rfl)
theorem Cx.w111 {Z : State} {a0 : Array Value} (C : Cx Z a0) : (Jvm.Cond.code ({ cls := "java/util/Optional", name := "orElse", desc := "(Ljava/lang/Object;)Ljava/lang/Object;" } : Jvm.MethodName) jdk_32_method_15_code (2 : Nat) (Option.some (Jvm.ClassFile.FieldType.object "java/lang/Object"))).before a0 Z = true := C.1 _ (List.mem_of_getElem? (i := 111) rfl)
theorem Cx.w112 {Z : State} {a0 : Array Value} (C : Cx Z a0) : (Jvm.Cond.fieldLink "java/util/Optional" (13 : Nat) "java/util/Optional" "value" "Ljava/lang/Object;").before a0 Z = true := C.1 _ (List.mem_of_getElem? (i := 112) rfl)
theorem Cx.w113 {Z : State} {a0 : Array Value} (C : Cx Z a0) : (Jvm.Cond.laysFinal "java/util/Optional" "java/util/Optional" "value" "Ljava/lang/Object;").before a0 Z = true := C.1 _ (List.mem_of_getElem? (i := 113) rfl)
theorem Cx.w114 {Z : State} {a0 : Array Value} (C : Cx Z a0) : (Jvm.Cond.stringLink "com/example/tenon/tenon/model/TypeNamedPinLaw" (17 : Nat) "resources").before a0 Z = true := C.1 _ (List.mem_of_getElem? (i := 114) rfl)
theorem Cx.w115 {Z : State} {a0 : Array Value} (C : Cx Z a0) : (Jvm.Cond.stringLink "com/example/tenon/tenon/model/TypeNamedPinLaw" (22 : Nat) "").before a0 Z = true := C.1 _ (List.mem_of_getElem? (i := 115) rfl)
theorem Cx.w116 {Z : State} {a0 : Array Value} (C : Cx Z a0) : (Jvm.Cond.fieldLink "com/example/tenon/tenon/model/TypeNamedPinLaw" (43 : Nat) "com/example/tenon/tenon/model/SourceSet$Type" "JAVA" "Lcom/example/tenon/tenon/model/SourceSet$Type;").before a0 Z = true := C.1 _ (List.mem_of_getElem? (i := 116) rfl)
theorem Cx.w117 {Z : State} {a0 : Array Value} (C : Cx Z a0) : (Jvm.Cond.methodLink "com/example/tenon/tenon/model/SourceSet$Type" (43 : Nat) ({ cls := "java/util/Optional", name := "of", desc := "(Ljava/lang/Object;)Ljava/util/Optional;" } : Jvm.MethodName)).before a0 Z = true := C.1 _ (List.mem_of_getElem? (i := 117) rfl)
theorem Cx.w118 {Z : State} {a0 : Array Value} (C : Cx Z a0) : (Jvm.Cond.static ({ cls := "java/util/Optional", name := "of", desc := "(Ljava/lang/Object;)Ljava/util/Optional;" } : Jvm.MethodName)).before a0 Z = true := C.1 _ (List.mem_of_getElem? (i := 118) rfl)
theorem Cx.w119 {Z : State} {a0 : Array Value} (C : Cx Z a0) : (Jvm.Cond.code ({ cls := "java/util/Optional", name := "of", desc := "(Ljava/lang/Object;)Ljava/util/Optional;" } : Jvm.MethodName) jdk_32_method_3_code (1 : Nat) (Option.some (Jvm.ClassFile.FieldType.object "java/util/Optional"))).before a0 Z = true := C.1 _ (List.mem_of_getElem? (i := 119) rfl)
theorem Cx.w120 {Z : State} {a0 : Array Value} (C : Cx Z a0) : (Jvm.Cond.classLink "java/util/Optional" (2 : Nat) "java/util/Optional").before a0 Z = true := C.1 _ (List.mem_of_getElem? (i := 120) rfl)
theorem Cx.w121 {Z : State} {a0 : Array Value} (C : Cx Z a0) : (Jvm.Cond.instantiable "java/util/Optional" (1 : Nat)).before a0 Z = true := C.1 _ (List.mem_of_getElem? (i := 121) rfl)
theorem Cx.w122 {Z : State} {a0 : Array Value} (C : Cx Z a0) : (Jvm.Cond.methodLink "java/util/Optional" (17 : Nat) ({ cls := "java/util/Objects", name := "requireNonNull", desc := "(Ljava/lang/Object;)Ljava/lang/Object;" } : Jvm.MethodName)).before a0 Z = true := C.1 _ (List.mem_of_getElem? (i := 122) rfl)
theorem Cx.w123 {Z : State} {a0 : Array Value} (C : Cx Z a0) : (Jvm.Cond.static ({ cls := "java/util/Objects", name := "requireNonNull", desc := "(Ljava/lang/Object;)Ljava/lang/Object;" } : Jvm.MethodName)).before a0 Z = true := C.1 _ (List.mem_of_getElem? (i := 123) rfl)
theorem Cx.w124 {Z : State} {a0 : Array Value} (C : Cx Z a0) : (Jvm.Cond.initialized "java/util/Objects").before a0 Z = true := C.1 _ (List.mem_of_getElem? (i := 124) rfl)
theorem Cx.w125 {Z : State} {a0 : Array Value} (C : Cx Z a0) : (Jvm.Cond.code ({ cls := "java/util/Objects", name := "requireNonNull", desc := "(Ljava/lang/Object;)Ljava/lang/Object;" } : Jvm.MethodName) jdk_31_method_10_code (1 : Nat) (Option.some (Jvm.ClassFile.FieldType.object "java/lang/Object"))).before a0 Z = true := C.1 _ (List.mem_of_getElem? (i := 125) rfl)
theorem Cx.w126 {Z : State} {a0 : Array Value} (C : Cx Z a0) : (Jvm.Cond.methodLink "java/util/Optional" (23 : Nat) ({ cls := "java/util/Optional", name := "<init>", desc := "(Ljava/lang/Object;)V" } : Jvm.MethodName)).before a0 Z = true := C.1 _ (List.mem_of_getElem? (i := 126) rfl)
theorem Cx.w127 {Z : State} {a0 : Array Value} (C : Cx Z a0) : (Jvm.Cond.instanceMethod ({ cls := "java/util/Optional", name := "<init>", desc := "(Ljava/lang/Object;)V" } : Jvm.MethodName)).before a0 Z = true := C.1 _ (List.mem_of_getElem? (i := 127) rfl)
theorem Cx.w129 {Z : State} {a0 : Array Value} (C : Cx Z a0) : (Jvm.Cond.code ({ cls := "java/util/Optional", name := "<init>", desc := "(Ljava/lang/Object;)V" } : Jvm.MethodName) jdk_32_method_2_code (2 : Nat) (Option.none : Option Jvm.ClassFile.FieldType)).before a0 Z = true := C.1 _ (List.mem_of_getElem? (i := 129) rfl)
theorem Cx.w130 {Z : State} {a0 : Array Value} (C : Cx Z a0) : (Jvm.Cond.methodLink "java/util/Optional" (7 : Nat) ({ cls := "java/lang/Object", name := "<init>", desc := "()V" } : Jvm.MethodName)).before a0 Z = true := C.1 _ (List.mem_of_getElem? (i := 130) rfl)
theorem Cx.w131 {Z : State} {a0 : Array Value} (C : Cx Z a0) : (Jvm.Cond.methodLink "com/example/tenon/tenon/model/TypeNamedPinLaw" (24 : Nat) ({ cls := "java/lang/String", name := "valueOf", desc := "(C)Ljava/lang/String;" } : Jvm.MethodName)).before a0 Z = true := C.1 _ (List.mem_of_getElem? (i := 131) rfl)
theorem Cx.w132 {Z : State} {a0 : Array Value} (C : Cx Z a0) : (Jvm.Cond.static ({ cls := "java/lang/String", name := "valueOf", desc := "(C)Ljava/lang/String;" } : Jvm.MethodName)).before a0 Z = true := C.1 _ (List.mem_of_getElem? (i := 132) rfl)
theorem Cx.w133 {Z : State} {a0 : Array Value} (C : Cx Z a0) : (Jvm.Cond.code ({ cls := "java/lang/String", name := "valueOf", desc := "(C)Ljava/lang/String;" } : Jvm.MethodName) jdk_42_method_139_code (1 : Nat) (Option.some (Jvm.ClassFile.FieldType.object "java/lang/String"))).before a0 Z = true := C.1 _ (List.mem_of_getElem? (i := 133) rfl)
theorem Cx.w134 {Z : State} {a0 : Array Value} (C : Cx Z a0) : (Jvm.Cond.methodLink "java/lang/String" (1015 : Nat) ({ cls := "java/lang/StringLatin1", name := "canEncode", desc := "(C)Z" } : Jvm.MethodName)).before a0 Z = true := C.1 _ (List.mem_of_getElem? (i := 134) rfl)
theorem Cx.w135 {Z : State} {a0 : Array Value} (C : Cx Z a0) : (Jvm.Cond.static ({ cls := "java/lang/StringLatin1", name := "canEncode", desc := "(C)Z" } : Jvm.MethodName)).before a0 Z = true := C.1 _ (List.mem_of_getElem? (i := 135) rfl)
theorem Cx.w136 {Z : State} {a0 : Array Value} (C : Cx Z a0) : (Jvm.Cond.code ({ cls := "java/lang/StringLatin1", name := "canEncode", desc := "(C)Z" } : Jvm.MethodName) jdk_43_method_3_code (1 : Nat) (Option.some Jvm.ClassFile.FieldType.boolean)).before a0 Z = true := C.1 _ (List.mem_of_getElem? (i := 136) rfl)
theorem Cx.w137 {Z : State} {a0 : Array Value} (C : Cx Z a0) : (Jvm.Cond.methodLink "java/lang/String" (1018 : Nat) ({ cls := "java/lang/StringLatin1", name := "toBytes", desc := "(C)[B" } : Jvm.MethodName)).before a0 Z = true := C.1 _ (List.mem_of_getElem? (i := 137) rfl)
theorem Cx.w138 {Z : State} {a0 : Array Value} (C : Cx Z a0) : (Jvm.Cond.static ({ cls := "java/lang/StringLatin1", name := "toBytes", desc := "(C)[B" } : Jvm.MethodName)).before a0 Z = true := C.1 _ (List.mem_of_getElem? (i := 138) rfl)
theorem Cx.w139 {Z : State} {a0 : Array Value} (C : Cx Z a0) : (Jvm.Cond.code ({ cls := "java/lang/StringLatin1", name := "toBytes", desc := "(C)[B" } : Jvm.MethodName) jdk_43_method_46_code (1 : Nat) (Option.some (Jvm.ClassFile.FieldType.array Jvm.ClassFile.FieldType.byte))).before a0 Z = true := C.1 _ (List.mem_of_getElem? (i := 139) rfl)
theorem Cx.w140 {Z : State} {a0 : Array Value} (C : Cx Z a0) : (Jvm.Cond.methodLink "java/lang/String" (209 : Nat) ({ cls := "java/lang/String", name := "<init>", desc := "([BB)V" } : Jvm.MethodName)).before a0 Z = true := C.1 _ (List.mem_of_getElem? (i := 140) rfl)
theorem Cx.w141 {Z : State} {a0 : Array Value} (C : Cx Z a0) : (Jvm.Cond.instanceMethod ({ cls := "java/lang/String", name := "<init>", desc := "([BB)V" } : Jvm.MethodName)).before a0 Z = true := C.1 _ (List.mem_of_getElem? (i := 141) rfl)
theorem Cx.w142 {Z : State} {a0 : Array Value} (C : Cx Z a0) : (Jvm.Cond.code ({ cls := "java/lang/String", name := "<init>", desc := "([BB)V" } : Jvm.MethodName) jdk_42_method_151_code (3 : Nat) (Option.none : Option Jvm.ClassFile.FieldType)).before a0 Z = true := C.1 _ (List.mem_of_getElem? (i := 142) rfl)
theorem Cx.w143 {Z : State} {a0 : Array Value} (C : Cx Z a0) : (Jvm.Cond.fieldLink "com/example/tenon/tenon/model/TypeNamedPinLaw" (37 : Nat) "com/example/tenon/tenon/model/SourceSet$Type" "RESOURCES" "Lcom/example/tenon/tenon/model/SourceSet$Type;").before a0 Z = true := C.1 _ (List.mem_of_getElem? (i := 143) rfl)
theorem Cx.compact {Z : State} {a0 : Array Value} (C : Cx Z a0) : (∃ cz : Int32, Sta Z Z.heap "java/lang/String" "COMPACT_STRINGS" "Z" (.int cz) ∧ ¬ cz = 0) := C.2.1
theorem Cx.sio {Z : State} {a0 : Array Value} (C : Cx Z a0) : (∃ fm : Value, Sta Z Z.heap "jdk/internal/util/Preconditions" "SIOOBE_FORMATTER" "Ljava/util/function/BiFunction;" fm ∧ (fm = .null ∨ ∃ fa, fm = .ref fa)) := C.2.2
theorem Cx.strs {Z : State} {a0 : Array Value} (C : Cx Z a0) : ∀ a ∈ Bundle.stringAtoms, a.before a0 Z = true := fun d hd => C.1 d ((by decide +kernel : ∀ d ∈ Bundle.stringAtoms, d ∈ tables_1) d hd)
def Typ (Z : State) (va ja re jw jt rw rt oe : Addr) : Prop := (Sta Z Z.heap "com/example/tenon/tenon/model/SourceSet$Type" "$VALUES" "[Lcom/example/tenon/tenon/model/SourceSet$Type;" (.ref va) ∧ Sta Z Z.heap "com/example/tenon/tenon/model/SourceSet$Type" "JAVA" "Lcom/example/tenon/tenon/model/SourceSet$Type;" (.ref ja) ∧ Sta Z Z.heap "com/example/tenon/tenon/model/SourceSet$Type" "RESOURCES" "Lcom/example/tenon/tenon/model/SourceSet$Type;" (.ref re) ∧ Sta Z Z.heap "java/util/Optional" "EMPTY" "Ljava/util/Optional;" (.ref oe)) ∧
  (∃ kv, Arv Z Z.heap va kv (.object "com/example/tenon/tenon/model/SourceSet$Type") (2 : Int32) [.ref ja, .ref re] .null) ∧ Exa Z Z.heap va "[Lcom/example/tenon/tenon/model/SourceSet$Type;" ∧ Exa Z Z.heap ja "com/example/tenon/tenon/model/SourceSet$Type" ∧ Exa Z Z.heap re "com/example/tenon/tenon/model/SourceSet$Type" ∧ Fld Z Z.heap ja "com/example/tenon/tenon/model/SourceSet$Type" "word" "Ljava/lang/String;" (.ref jw) ∧ Fld Z Z.heap re "com/example/tenon/tenon/model/SourceSet$Type" "word" "Ljava/lang/String;" (.ref rw) ∧ LStr Z Z.heap jw jt [(106 : Int32), (97 : Int32), (118 : Int32), (97 : Int32)] ∧ LStr Z Z.heap rw rt [(114 : Int32), (101 : Int32), (115 : Int32), (111 : Int32), (117 : Int32), (114 : Int32), (99 : Int32), (101 : Int32), (115 : Int32)] ∧ Exa Z Z.heap oe "java/util/Optional" ∧ Fld Z Z.heap oe "java/util/Optional" "value" "Ljava/lang/Object;" .null
theorem own_far {cs : List Int32} {j : Nat} {d : Int32} (h : cs.length ≤ j) : cs.getD j d = d := by
  rw [List.getD_eq_getElem?_getD, List.getElem?_eq_none h]; rfl
theorem own_near {cs : List Int32} {j : Nat} {d : Int32} (h : j < cs.length) : cs.getD j d = cs.getD j 0 := by
  rw [List.getD_eq_getElem?_getD, List.getD_eq_getElem?_getD, List.getElem?_eq_getElem h]; rfl
theorem own_mask (x : Int32) : 0 ≤ (x &&& (2147483647 : Int32)).toInt := by
  have h0 : (x &&& (2147483647 : Int32)).toBitVec.toNat < 2147483648 := by
    simp only [Int32.toBitVec_and, BitVec.toNat_and]
    exact Nat.lt_succ_of_le Nat.and_le_right
  generalize x &&& (2147483647 : Int32) = y at h0
  have : y.toInt = y.toBitVec.toInt := rfl
  rw [this, BitVec.toInt_eq_toNat_cond]; split <;> omega
theorem own_remk {x : Int32} {n : Nat} {m : Int32} (hx : 0 ≤ x.toInt) (hn : n < 100) (hm : m.toInt = (n : Int) + 1) : ∃ k, k ≤ n ∧ x % m = Int32.ofNat k := by
  have e : (x % m).toInt = x.toInt.tmod ((n : Int) + 1) := by rw [Int32.toInt_mod, hm]
  have h1 := Int.tmod_nonneg ((n : Int) + 1) hx
  have h2 := Int.tmod_lt_of_pos x.toInt (show (0 : Int) < (n : Int) + 1 by omega)
  refine ⟨(x % m).toInt.toNat, by omega, ?_⟩
  rw [← Int32.toInt_inj, i32_int (by omega)]; omega
theorem own_four (x : Int32) : ((x.toUInt32 >>> ((1 : Int32) &&& 31).toUInt32).toInt32 &&& (3 : Int32)) = 0 ∨ ((x.toUInt32 >>> ((1 : Int32) &&& 31).toUInt32).toInt32 &&& (3 : Int32)) = 1 ∨ ((x.toUInt32 >>> ((1 : Int32) &&& 31).toUInt32).toInt32 &&& (3 : Int32)) = 2 ∨ ((x.toUInt32 >>> ((1 : Int32) &&& 31).toUInt32).toInt32 &&& (3 : Int32)) = 3 := by
  generalize (x.toUInt32 >>> ((1 : Int32) &&& 31).toUInt32).toInt32 = z
  have t : ∀ k : Fin 4, Int32.ofNat k.val = 0 ∨ Int32.ofNat k.val = 1 ∨ Int32.ofNat k.val = 2 ∨ Int32.ofNat k.val = 3 := by decide +kernel
  have hlt : (z &&& 3).toBitVec.toNat < 4 := by
    simp only [Int32.toBitVec_and, BitVec.toNat_and]
    exact Nat.lt_succ_of_le Nat.and_le_right
  have e : (z &&& 3) = Int32.ofNat (z &&& 3).toBitVec.toNat := by
    apply Int32.toBitVec_inj.mp
    show _ = BitVec.ofNat 32 _
    rw [BitVec.ofNat_toNat]; simp
  rw [e]
  exact t ⟨_, hlt⟩
theorem own_java {kp : Nat} (hkp : kp ≤ 4) {c1 d1 x0 x1 x2 x3 : Int32} (h0 : x0 = (if (0 : Int32) = Int32.ofNat kp then c1 else [(106 : Int32), (97 : Int32), (118 : Int32), (97 : Int32)].getD 0 d1)) (h1 : x1 = (if (1 : Int32) = Int32.ofNat kp then c1 else [(106 : Int32), (97 : Int32), (118 : Int32), (97 : Int32)].getD 1 d1)) (h2 : x2 = (if (2 : Int32) = Int32.ofNat kp then c1 else [(106 : Int32), (97 : Int32), (118 : Int32), (97 : Int32)].getD 2 d1)) (h3 : x3 = (if (3 : Int32) = Int32.ofNat kp then c1 else [(106 : Int32), (97 : Int32), (118 : Int32), (97 : Int32)].getD 3 d1)) : ([(106 : Int32), (97 : Int32), (118 : Int32), (97 : Int32)] = [x0, x1, x2, x3]) ↔ (kp = 4 ∨ c1 = [(106 : Int32), (97 : Int32), (118 : Int32), (97 : Int32)].getD kp 0) := by
  have hc : kp = 0 ∨ kp = 1 ∨ kp = 2 ∨ kp = 3 ∨ kp = 4 := by omega
  rcases hc with rfl | rfl | rfl | rfl | rfl
  · have e0 := h0.trans (if_pos rfl); have e1 := h1.trans (if_neg (by decide)); have e2 := h2.trans (if_neg (by decide)); have e3 := h3.trans (if_neg (by decide))
    rw [e0, e1, e2, e3]
    refine ⟨fun q => Or.inr ?_, fun q => ?_⟩
    · have q2 := congrArg (fun l => l.getD 0 0) q
      exact q2.symm
    · have q2 : c1 = (106 : Int32) := q.elim (fun z => absurd z (by decide)) (fun z => z)
      rw [q2]
      rfl
  · have e0 := h0.trans (if_neg (by decide)); have e1 := h1.trans (if_pos rfl); have e2 := h2.trans (if_neg (by decide)); have e3 := h3.trans (if_neg (by decide))
    rw [e0, e1, e2, e3]
    refine ⟨fun q => Or.inr ?_, fun q => ?_⟩
    · have q2 := congrArg (fun l => l.getD 1 0) q
      exact q2.symm
    · have q2 : c1 = (97 : Int32) := q.elim (fun z => absurd z (by decide)) (fun z => z)
      rw [q2]
      rfl
  · have e0 := h0.trans (if_neg (by decide)); have e1 := h1.trans (if_neg (by decide)); have e2 := h2.trans (if_pos rfl); have e3 := h3.trans (if_neg (by decide))
    rw [e0, e1, e2, e3]
    refine ⟨fun q => Or.inr ?_, fun q => ?_⟩
    · have q2 := congrArg (fun l => l.getD 2 0) q
      exact q2.symm
    · have q2 : c1 = (118 : Int32) := q.elim (fun z => absurd z (by decide)) (fun z => z)
      rw [q2]
      rfl
  · have e0 := h0.trans (if_neg (by decide)); have e1 := h1.trans (if_neg (by decide)); have e2 := h2.trans (if_neg (by decide)); have e3 := h3.trans (if_pos rfl)
    rw [e0, e1, e2, e3]
    refine ⟨fun q => Or.inr ?_, fun q => ?_⟩
    · have q2 := congrArg (fun l => l.getD 3 0) q
      exact q2.symm
    · have q2 : c1 = (97 : Int32) := q.elim (fun z => absurd z (by decide)) (fun z => z)
      rw [q2]
      rfl
  · have e0 := h0.trans (if_neg (by decide)); have e1 := h1.trans (if_neg (by decide)); have e2 := h2.trans (if_neg (by decide)); have e3 := h3.trans (if_neg (by decide))
    rw [e0, e1, e2, e3]
    exact ⟨fun _ => Or.inl rfl, fun _ => rfl⟩
theorem own_resources {kp : Nat} (hkp : kp ≤ 9) {c1 d1 x0 x1 x2 x3 x4 x5 x6 x7 x8 : Int32} (h0 : x0 = (if (0 : Int32) = Int32.ofNat kp then c1 else [(114 : Int32), (101 : Int32), (115 : Int32), (111 : Int32), (117 : Int32), (114 : Int32), (99 : Int32), (101 : Int32), (115 : Int32)].getD 0 d1)) (h1 : x1 = (if (1 : Int32) = Int32.ofNat kp then c1 else [(114 : Int32), (101 : Int32), (115 : Int32), (111 : Int32), (117 : Int32), (114 : Int32), (99 : Int32), (101 : Int32), (115 : Int32)].getD 1 d1)) (h2 : x2 = (if (2 : Int32) = Int32.ofNat kp then c1 else [(114 : Int32), (101 : Int32), (115 : Int32), (111 : Int32), (117 : Int32), (114 : Int32), (99 : Int32), (101 : Int32), (115 : Int32)].getD 2 d1)) (h3 : x3 = (if (3 : Int32) = Int32.ofNat kp then c1 else [(114 : Int32), (101 : Int32), (115 : Int32), (111 : Int32), (117 : Int32), (114 : Int32), (99 : Int32), (101 : Int32), (115 : Int32)].getD 3 d1)) (h4 : x4 = (if (4 : Int32) = Int32.ofNat kp then c1 else [(114 : Int32), (101 : Int32), (115 : Int32), (111 : Int32), (117 : Int32), (114 : Int32), (99 : Int32), (101 : Int32), (115 : Int32)].getD 4 d1)) (h5 : x5 = (if (5 : Int32) = Int32.ofNat kp then c1 else [(114 : Int32), (101 : Int32), (115 : Int32), (111 : Int32), (117 : Int32), (114 : Int32), (99 : Int32), (101 : Int32), (115 : Int32)].getD 5 d1)) (h6 : x6 = (if (6 : Int32) = Int32.ofNat kp then c1 else [(114 : Int32), (101 : Int32), (115 : Int32), (111 : Int32), (117 : Int32), (114 : Int32), (99 : Int32), (101 : Int32), (115 : Int32)].getD 6 d1)) (h7 : x7 = (if (7 : Int32) = Int32.ofNat kp then c1 else [(114 : Int32), (101 : Int32), (115 : Int32), (111 : Int32), (117 : Int32), (114 : Int32), (99 : Int32), (101 : Int32), (115 : Int32)].getD 7 d1)) (h8 : x8 = (if (8 : Int32) = Int32.ofNat kp then c1 else [(114 : Int32), (101 : Int32), (115 : Int32), (111 : Int32), (117 : Int32), (114 : Int32), (99 : Int32), (101 : Int32), (115 : Int32)].getD 8 d1)) : ([(114 : Int32), (101 : Int32), (115 : Int32), (111 : Int32), (117 : Int32), (114 : Int32), (99 : Int32), (101 : Int32), (115 : Int32)] = [x0, x1, x2, x3, x4, x5, x6, x7, x8]) ↔ (kp = 9 ∨ c1 = [(114 : Int32), (101 : Int32), (115 : Int32), (111 : Int32), (117 : Int32), (114 : Int32), (99 : Int32), (101 : Int32), (115 : Int32)].getD kp 0) := by
  have hc : kp = 0 ∨ kp = 1 ∨ kp = 2 ∨ kp = 3 ∨ kp = 4 ∨ kp = 5 ∨ kp = 6 ∨ kp = 7 ∨ kp = 8 ∨ kp = 9 := by omega
  rcases hc with rfl | rfl | rfl | rfl | rfl | rfl | rfl | rfl | rfl | rfl
  · have e0 := h0.trans (if_pos rfl); have e1 := h1.trans (if_neg (by decide)); have e2 := h2.trans (if_neg (by decide)); have e3 := h3.trans (if_neg (by decide)); have e4 := h4.trans (if_neg (by decide)); have e5 := h5.trans (if_neg (by decide)); have e6 := h6.trans (if_neg (by decide)); have e7 := h7.trans (if_neg (by decide)); have e8 := h8.trans (if_neg (by decide))
    rw [e0, e1, e2, e3, e4, e5, e6, e7, e8]
    refine ⟨fun q => Or.inr ?_, fun q => ?_⟩
    · have q2 := congrArg (fun l => l.getD 0 0) q
      exact q2.symm
    · have q2 : c1 = (114 : Int32) := q.elim (fun z => absurd z (by decide)) (fun z => z)
      rw [q2]
      rfl
  · have e0 := h0.trans (if_neg (by decide)); have e1 := h1.trans (if_pos rfl); have e2 := h2.trans (if_neg (by decide)); have e3 := h3.trans (if_neg (by decide)); have e4 := h4.trans (if_neg (by decide)); have e5 := h5.trans (if_neg (by decide)); have e6 := h6.trans (if_neg (by decide)); have e7 := h7.trans (if_neg (by decide)); have e8 := h8.trans (if_neg (by decide))
    rw [e0, e1, e2, e3, e4, e5, e6, e7, e8]
    refine ⟨fun q => Or.inr ?_, fun q => ?_⟩
    · have q2 := congrArg (fun l => l.getD 1 0) q
      exact q2.symm
    · have q2 : c1 = (101 : Int32) := q.elim (fun z => absurd z (by decide)) (fun z => z)
      rw [q2]
      rfl
  · have e0 := h0.trans (if_neg (by decide)); have e1 := h1.trans (if_neg (by decide)); have e2 := h2.trans (if_pos rfl); have e3 := h3.trans (if_neg (by decide)); have e4 := h4.trans (if_neg (by decide)); have e5 := h5.trans (if_neg (by decide)); have e6 := h6.trans (if_neg (by decide)); have e7 := h7.trans (if_neg (by decide)); have e8 := h8.trans (if_neg (by decide))
    rw [e0, e1, e2, e3, e4, e5, e6, e7, e8]
    refine ⟨fun q => Or.inr ?_, fun q => ?_⟩
    · have q2 := congrArg (fun l => l.getD 2 0) q
      exact q2.symm
    · have q2 : c1 = (115 : Int32) := q.elim (fun z => absurd z (by decide)) (fun z => z)
      rw [q2]
      rfl
  · have e0 := h0.trans (if_neg (by decide)); have e1 := h1.trans (if_neg (by decide)); have e2 := h2.trans (if_neg (by decide)); have e3 := h3.trans (if_pos rfl); have e4 := h4.trans (if_neg (by decide)); have e5 := h5.trans (if_neg (by decide)); have e6 := h6.trans (if_neg (by decide)); have e7 := h7.trans (if_neg (by decide)); have e8 := h8.trans (if_neg (by decide))
    rw [e0, e1, e2, e3, e4, e5, e6, e7, e8]
    refine ⟨fun q => Or.inr ?_, fun q => ?_⟩
    · have q2 := congrArg (fun l => l.getD 3 0) q
      exact q2.symm
    · have q2 : c1 = (111 : Int32) := q.elim (fun z => absurd z (by decide)) (fun z => z)
      rw [q2]
      rfl
  · have e0 := h0.trans (if_neg (by decide)); have e1 := h1.trans (if_neg (by decide)); have e2 := h2.trans (if_neg (by decide)); have e3 := h3.trans (if_neg (by decide)); have e4 := h4.trans (if_pos rfl); have e5 := h5.trans (if_neg (by decide)); have e6 := h6.trans (if_neg (by decide)); have e7 := h7.trans (if_neg (by decide)); have e8 := h8.trans (if_neg (by decide))
    rw [e0, e1, e2, e3, e4, e5, e6, e7, e8]
    refine ⟨fun q => Or.inr ?_, fun q => ?_⟩
    · have q2 := congrArg (fun l => l.getD 4 0) q
      exact q2.symm
    · have q2 : c1 = (117 : Int32) := q.elim (fun z => absurd z (by decide)) (fun z => z)
      rw [q2]
      rfl
  · have e0 := h0.trans (if_neg (by decide)); have e1 := h1.trans (if_neg (by decide)); have e2 := h2.trans (if_neg (by decide)); have e3 := h3.trans (if_neg (by decide)); have e4 := h4.trans (if_neg (by decide)); have e5 := h5.trans (if_pos rfl); have e6 := h6.trans (if_neg (by decide)); have e7 := h7.trans (if_neg (by decide)); have e8 := h8.trans (if_neg (by decide))
    rw [e0, e1, e2, e3, e4, e5, e6, e7, e8]
    refine ⟨fun q => Or.inr ?_, fun q => ?_⟩
    · have q2 := congrArg (fun l => l.getD 5 0) q
      exact q2.symm
    · have q2 : c1 = (114 : Int32) := q.elim (fun z => absurd z (by decide)) (fun z => z)
      rw [q2]
      rfl
  · have e0 := h0.trans (if_neg (by decide)); have e1 := h1.trans (if_neg (by decide)); have e2 := h2.trans (if_neg (by decide)); have e3 := h3.trans (if_neg (by decide)); have e4 := h4.trans (if_neg (by decide)); have e5 := h5.trans (if_neg (by decide)); have e6 := h6.trans (if_pos rfl); have e7 := h7.trans (if_neg (by decide)); have e8 := h8.trans (if_neg (by decide))
    rw [e0, e1, e2, e3, e4, e5, e6, e7, e8]
    refine ⟨fun q => Or.inr ?_, fun q => ?_⟩
    · have q2 := congrArg (fun l => l.getD 6 0) q
      exact q2.symm
    · have q2 : c1 = (99 : Int32) := q.elim (fun z => absurd z (by decide)) (fun z => z)
      rw [q2]
      rfl
  · have e0 := h0.trans (if_neg (by decide)); have e1 := h1.trans (if_neg (by decide)); have e2 := h2.trans (if_neg (by decide)); have e3 := h3.trans (if_neg (by decide)); have e4 := h4.trans (if_neg (by decide)); have e5 := h5.trans (if_neg (by decide)); have e6 := h6.trans (if_neg (by decide)); have e7 := h7.trans (if_pos rfl); have e8 := h8.trans (if_neg (by decide))
    rw [e0, e1, e2, e3, e4, e5, e6, e7, e8]
    refine ⟨fun q => Or.inr ?_, fun q => ?_⟩
    · have q2 := congrArg (fun l => l.getD 7 0) q
      exact q2.symm
    · have q2 : c1 = (101 : Int32) := q.elim (fun z => absurd z (by decide)) (fun z => z)
      rw [q2]
      rfl
  · have e0 := h0.trans (if_neg (by decide)); have e1 := h1.trans (if_neg (by decide)); have e2 := h2.trans (if_neg (by decide)); have e3 := h3.trans (if_neg (by decide)); have e4 := h4.trans (if_neg (by decide)); have e5 := h5.trans (if_neg (by decide)); have e6 := h6.trans (if_neg (by decide)); have e7 := h7.trans (if_neg (by decide)); have e8 := h8.trans (if_pos rfl)
    rw [e0, e1, e2, e3, e4, e5, e6, e7, e8]
    refine ⟨fun q => Or.inr ?_, fun q => ?_⟩
    · have q2 := congrArg (fun l => l.getD 8 0) q
      exact q2.symm
    · have q2 : c1 = (115 : Int32) := q.elim (fun z => absurd z (by decide)) (fun z => z)
      rw [q2]
      rfl
  · have e0 := h0.trans (if_neg (by decide)); have e1 := h1.trans (if_neg (by decide)); have e2 := h2.trans (if_neg (by decide)); have e3 := h3.trans (if_neg (by decide)); have e4 := h4.trans (if_neg (by decide)); have e5 := h5.trans (if_neg (by decide)); have e6 := h6.trans (if_neg (by decide)); have e7 := h7.trans (if_neg (by decide)); have e8 := h8.trans (if_neg (by decide))
    rw [e0, e1, e2, e3, e4, e5, e6, e7, e8]
    exact ⟨fun _ => Or.inl rfl, fun _ => rfl⟩
theorem d_jdk_52_method_21_code_0 : decode jdk_52_method_21_code 0 = .ok (.iconst 0, 1) := by decide +kernel
theorem d_jdk_52_method_21_code_1 : decode jdk_52_method_21_code 1 = .ok (.istore 5, 2) := by decide +kernel
theorem d_jdk_52_method_21_code_3 : decode jdk_52_method_21_code 3 = .ok (.iload 5, 2) := by decide +kernel
theorem d_jdk_52_method_21_code_5 : decode jdk_52_method_21_code 5 = .ok (.iload 4, 2) := by decide +kernel
theorem d_jdk_52_method_21_code_7 : decode jdk_52_method_21_code 7 = .ok (.if_icmp .ge 37, 3) := by decide +kernel
theorem d_jdk_52_method_21_code_44 : decode jdk_52_method_21_code 44 = .ok (.iload 4, 2) := by decide +kernel
theorem d_jdk_52_method_21_code_46 : decode jdk_52_method_21_code 46 = .ok (.ireturn, 1) := by decide +kernel
theorem d_jdk_52_method_21_code_10 : decode jdk_52_method_21_code 10 = .ok (.aload_n 0, 1) := by decide +kernel
theorem d_jdk_52_method_21_code_11 : decode jdk_52_method_21_code 11 = .ok (.iload_n 1, 1) := by decide +kernel
theorem d_jdk_52_method_21_code_12 : decode jdk_52_method_21_code 12 = .ok (.caload, 1) := by decide +kernel
theorem d_jdk_52_method_21_code_13 : decode jdk_52_method_21_code 13 = .ok (.istore 6, 2) := by decide +kernel
theorem d_jdk_52_method_21_code_15 : decode jdk_52_method_21_code 15 = .ok (.iload 6, 2) := by decide +kernel
theorem d_jdk_52_method_21_code_17 : decode jdk_52_method_21_code 17 = .ok (.sipush 255, 3) := by decide +kernel
theorem d_jdk_52_method_21_code_20 : decode jdk_52_method_21_code 20 = .ok (.if_icmp .le 6, 3) := by decide +kernel
theorem d_jdk_52_method_21_code_26 : decode jdk_52_method_21_code 26 = .ok (.aload_n 2, 1) := by decide +kernel
theorem d_jdk_52_method_21_code_27 : decode jdk_52_method_21_code 27 = .ok (.iload_n 3, 1) := by decide +kernel
theorem d_jdk_52_method_21_code_28 : decode jdk_52_method_21_code 28 = .ok (.iload 6, 2) := by decide +kernel
theorem d_jdk_52_method_21_code_30 : decode jdk_52_method_21_code 30 = .ok (.i2b, 1) := by decide +kernel
theorem d_jdk_52_method_21_code_31 : decode jdk_52_method_21_code 31 = .ok (.bastore, 1) := by decide +kernel
theorem d_jdk_52_method_21_code_32 : decode jdk_52_method_21_code 32 = .ok (.iinc 1 1, 3) := by decide +kernel
theorem d_jdk_52_method_21_code_35 : decode jdk_52_method_21_code 35 = .ok (.iinc 3 1, 3) := by decide +kernel
theorem d_jdk_52_method_21_code_38 : decode jdk_52_method_21_code 38 = .ok (.iinc 5 1, 3) := by decide +kernel
theorem d_jdk_52_method_21_code_41 : decode jdk_52_method_21_code 41 = .ok (.goto (-38), 3) := by decide +kernel
def R_c_comp5 : Room := { frames := 0, cells := 0, slots := 0, locals := 0 }
theorem pl_b13 : plainFor (⟨"java/lang/StringUTF16", "compress", "([CI[BII)I"⟩ : MethodName) = true := plainFor_of_name (by first | (simp [plainName, overriddenIn]; done) | decide +kernel)
set_option maxRecDepth 65536 in
set_option maxHeartbeats 40000000 in
theorem c_comp5 {l : Launch} {Z : State} {a0 : Array Value} {n0 : Nat} {h0 : Heap} (C : Cx Z a0) (hO : Old Z n0 h0) {a b : Addr} {ka kb : ClassId} {cs : List Int32} {dv : Value} (A : Arv Z h0 a ka .char (Int32.ofNat cs.length) (cs.map Value.int) dv) (B : Arv Z h0 b kb .byte (Int32.ofNat cs.length) [] (.int 0)) (hab : a ≠ b) (hl : cs.length ≤ 16) (hc : ∀ c ∈ cs, Lat c) (g_b : n0 ≤ b) :
    Con false l Z [] n0 (⟨"java/lang/StringUTF16", "compress", "([CI[BII)I"⟩ : MethodName) jdk_52_method_21_code 7 (some .int) R_c_comp5 #[(.ref a), (.int (0 : Int32)), (.ref b), (.int (0 : Int32)), (.int (Int32.ofNat cs.length))] h0 [b] (fun v h => v = some (.int (Int32.ofNat cs.length)) ∧ Arv Z h b kb .byte (Int32.ofNat cs.length) (cs.map lo8) (.int 0)) := by
  refine Con.intro (a0 := a0) pl_b13 hO (fun q => nomatch q) ?_
  intro p e s m below meth c G
  refine ok_as (mkF m 0 #[.val (.ref a), .val (.int (0 : Int32)), .val (.ref b), .val (.int (0 : Int32)), .val (.int (Int32.ofNat cs.length)), .unset, .unset] []) (by first | rfl | (simp [entryFrame, mkF, argsToLocals, Value.category]; done)) ?_
  refine ok_iconst G (0 : Int32) d_jdk_52_method_21_code_0 rfl ?_
  refine ok_istore G #[.val (.ref a), .val (.int (0 : Int32)), .val (.ref b), .val (.int (0 : Int32)), .val (.int (Int32.ofNat cs.length)), .val (.int (0 : Int32)), .unset] d_jdk_52_method_21_code_1 rfl ?_
  refine ok_loop (A := List Int32 × List Int32 × Heap × Slot) (fun q => q.2.1.length) (fun q => q.1 ++ q.2.1 = cs ∧ One q.2.2.2 ∧ Arv Z q.2.2.1 a ka .char (Int32.ofNat cs.length) (cs.map Value.int) dv ∧ Arv Z q.2.2.1 b kb .byte (Int32.ofNat cs.length) (q.1.map lo8) (.int 0)) (fun q => q.2.2.1) (fun q => mkF m 3 #[.val (.ref a), .val (.int (Int32.ofNat q.1.length)), .val (.ref b), .val (.int (Int32.ofNat q.1.length)), .val (.int (Int32.ofNat cs.length)), .val (.int (Int32.ofNat q.1.length)), q.2.2.2] []) ?_ ([], cs, h0, .unset) ⟨rfl, One.u, A, B⟩
  clear A B
  rintro ⟨pre, post, h, sl⟩ ⟨hcs, hsl, A, B⟩ ih
  dsimp only at hcs hsl A B ih ⊢
  cases post with
  | nil =>
    rw [List.append_nil] at hcs
    subst hcs
    refine ok_iload G d_jdk_52_method_21_code_3 rfl ?_
    refine ok_iload G d_jdk_52_method_21_code_5 rfl ?_
    refine ok_icmpgeY G 44 d_jdk_52_method_21_code_7 (by decide) (by decide) (by rw [i32_lt (by omega) (by omega)]; omega) ?_
    refine ok_iload G d_jdk_52_method_21_code_44 rfl ?_
    exact ok_retI G rfl d_jdk_52_method_21_code_46 ⟨rfl, B⟩ (Nat.le_of_ble_eq_true rfl) (Nat.le_of_ble_eq_true rfl)
  | cons ch post =>
    have hlt : pre.length < cs.length := by rw [← hcs]; simp
    have hch : Lat ch := hc ch (by rw [← hcs]; simp)
    refine ok_iload G d_jdk_52_method_21_code_3 rfl ?_
    refine ok_iload G d_jdk_52_method_21_code_5 rfl ?_
    refine ok_icmpgeN G d_jdk_52_method_21_code_7 ((i32_lt (by omega) (by omega)).mpr hlt) ?_
    refine ok_aloadN G d_jdk_52_method_21_code_10 rfl rfl ?_
    refine ok_iloadN G d_jdk_52_method_21_code_11 rfl ?_
    refine ok_caload G ch A ⟨i32_nn (by omega), (i32_lt (by omega) (by omega)).mpr hlt⟩ (by rw [i32_clamp (by omega), ← hcs]; exact getD_mid _ _ _ _ _) d_jdk_52_method_21_code_12 ?_
    refine ok_istore G #[.val (.ref a), .val (.int (Int32.ofNat pre.length)), .val (.ref b), .val (.int (Int32.ofNat pre.length)), .val (.int (Int32.ofNat cs.length)), .val (.int (Int32.ofNat pre.length)), .val (.int ch)] d_jdk_52_method_21_code_13 (XS.store1 rfl hsl rfl) ?_
    refine ok_iload G d_jdk_52_method_21_code_15 rfl ?_
    refine ok_sipush G (255 : Int32) d_jdk_52_method_21_code_17 rfl ?_
    refine ok_icmpleY G 26 d_jdk_52_method_21_code_20 (by decide) (by decide) hch.2 ?_
    refine ok_aloadN G d_jdk_52_method_21_code_26 rfl rfl ?_
    refine ok_iloadN G d_jdk_52_method_21_code_27 rfl ?_
    refine ok_iload G d_jdk_52_method_21_code_28 rfl ?_
    refine ok_i2b G d_jdk_52_method_21_code_30 ?_
    refine ok_bastoreA G ch.toInt8.toInt32 B ⟨i32_nn (by omega), (i32_lt (by omega) (by omega)).mpr hlt⟩ (by rw [i32_clamp (by omega)]; simp) (by simp [nar]) d_jdk_52_method_21_code_31 g_b (Or.inl (List.mem_of_getElem? (i := 0) rfl)) SafeFor.narrow ?_
    intro hp1 K2 Bn
    replace A := A.keep K2 (ninS hab nin0)
    replace B := Bn
    clear Bn
    refine ok_iinc G ((Int32.ofNat pre.length) + (1 : Int32)) #[.val (.ref a), .val (.int ((Int32.ofNat pre.length) + (1 : Int32))), .val (.ref b), .val (.int (Int32.ofNat pre.length)), .val (.int (Int32.ofNat cs.length)), .val (.int (Int32.ofNat pre.length)), .val (.int ch)] d_jdk_52_method_21_code_32 rfl rfl rfl ?_
    refine ok_iinc G ((Int32.ofNat pre.length) + (1 : Int32)) #[.val (.ref a), .val (.int ((Int32.ofNat pre.length) + (1 : Int32))), .val (.ref b), .val (.int ((Int32.ofNat pre.length) + (1 : Int32))), .val (.int (Int32.ofNat cs.length)), .val (.int (Int32.ofNat pre.length)), .val (.int ch)] d_jdk_52_method_21_code_35 rfl rfl rfl ?_
    refine ok_iinc G ((Int32.ofNat pre.length) + (1 : Int32)) #[.val (.ref a), .val (.int ((Int32.ofNat pre.length) + (1 : Int32))), .val (.ref b), .val (.int ((Int32.ofNat pre.length) + (1 : Int32))), .val (.int (Int32.ofNat cs.length)), .val (.int ((Int32.ofNat pre.length) + (1 : Int32))), .val (.int ch)] d_jdk_52_method_21_code_38 rfl rfl rfl ?_
    refine ok_goto G 3 d_jdk_52_method_21_code_41 (by decide) (by decide) ?_
    have e1 : Int32.ofNat pre.length + (1 : Int32) = Int32.ofNat (pre ++ [ch]).length := by rw [i32_succ]; simp
    rw [e1]
    exact ih (pre ++ [ch], post, hp1, .val (.int ch)) (by simp) ⟨by simpa using hcs, One.val rfl, A, by simpa using B⟩
theorem d_jdk_52_method_16_code_0 : decode jdk_52_method_16_code 0 = .ok (.iload_n 2, 1) := by decide +kernel
theorem d_jdk_52_method_16_code_1 : decode jdk_52_method_16_code 1 = .ok (.newarray .byte, 2) := by decide +kernel
theorem d_jdk_52_method_16_code_3 : decode jdk_52_method_16_code 3 = .ok (.astore_n 3, 1) := by decide +kernel
theorem d_jdk_52_method_16_code_4 : decode jdk_52_method_16_code 4 = .ok (.aload_n 0, 1) := by decide +kernel
theorem d_jdk_52_method_16_code_5 : decode jdk_52_method_16_code 5 = .ok (.iload_n 1, 1) := by decide +kernel
theorem d_jdk_52_method_16_code_6 : decode jdk_52_method_16_code 6 = .ok (.aload_n 3, 1) := by decide +kernel
theorem d_jdk_52_method_16_code_7 : decode jdk_52_method_16_code 7 = .ok (.iconst 0, 1) := by decide +kernel
theorem d_jdk_52_method_16_code_8 : decode jdk_52_method_16_code 8 = .ok (.iload_n 2, 1) := by decide +kernel
theorem d_jdk_52_method_16_code_9 : decode jdk_52_method_16_code 9 = .ok (.invokestatic 115, 3) := by decide +kernel
theorem pd0 : parseMethodDescriptor "([CI[BII)I" = some ⟨[(.array .char), .int, (.array .byte), .int, .int], some .int⟩ := by decide +kernel
theorem d_jdk_52_method_16_code_12 : decode jdk_52_method_16_code 12 = .ok (.istore 4, 2) := by decide +kernel
theorem d_jdk_52_method_16_code_14 : decode jdk_52_method_16_code 14 = .ok (.iload 4, 2) := by decide +kernel
theorem d_jdk_52_method_16_code_16 : decode jdk_52_method_16_code 16 = .ok (.iload_n 2, 1) := by decide +kernel
theorem d_jdk_52_method_16_code_17 : decode jdk_52_method_16_code 17 = .ok (.if_icmp .eq 40, 3) := by decide +kernel
theorem d_jdk_52_method_16_code_57 : decode jdk_52_method_16_code 57 = .ok (.aload_n 3, 1) := by decide +kernel
theorem d_jdk_52_method_16_code_58 : decode jdk_52_method_16_code 58 = .ok (.areturn, 1) := by decide +kernel
def R_c_comp3 : Room := { frames := 1, cells := 1, slots := 16, locals := 18 }
theorem pl_b12 : plainFor (⟨"java/lang/StringUTF16", "compress", "([CII)[B"⟩ : MethodName) = true := plainFor_of_name (by first | (simp [plainName, overriddenIn]; done) | decide +kernel)
set_option maxRecDepth 65536 in
set_option maxHeartbeats 40000000 in
theorem c_comp3 {l : Launch} {Z : State} {a0 : Array Value} {n0 : Nat} {h0 : Heap} (C : Cx Z a0) (hO : Old Z n0 h0) {a : Addr} {ka : ClassId} {cs : List Int32} {dv : Value} (A : Arv Z h0 a ka .char (Int32.ofNat cs.length) (cs.map Value.int) dv) (hl : cs.length ≤ 16) (hc : ∀ c ∈ cs, Lat c) :
    Con false l Z [] n0 (⟨"java/lang/StringUTF16", "compress", "([CII)[B"⟩ : MethodName) jdk_52_method_16_code 6 (some (.array .byte)) R_c_comp3 #[(.ref a), (.int (0 : Int32)), (.int (Int32.ofNat cs.length))] h0 [] (fun v h => ∃ t kb, v = some (.ref t) ∧ h0.size ≤ t ∧ Arv Z h t kb .byte (Int32.ofNat cs.length) (cs.map lo8) (.int 0)) := by
  refine Con.intro (a0 := a0) pl_b12 hO (fun q => nomatch q) ?_
  intro p e s m below meth c G
  refine ok_as (mkF m 0 #[.val (.ref a), .val (.int (0 : Int32)), .val (.int (Int32.ofNat cs.length)), .unset, .unset, .unset] []) (by first | rfl | (simp [entryFrame, mkF, argsToLocals, Value.category]; done)) ?_
  refine ok_iloadN G d_jdk_52_method_16_code_0 rfl ?_
  refine ok_newP G (aty := .byte) (C.w3) d_jdk_52_method_16_code_1 (i32_nn (by omega)) 16 (by rw [i32_clamp (by omega)]; exact hl) (by decide) (Nat.le_of_ble_eq_true rfl) (Nat.le_of_ble_eq_true rfl) ?_
  intro hp2 ob1 k_ob1 eq_ob1 K3 g_ob1 lb_ob1 V_ob1
  have ne_a_ob1 : a ≠ ob1 := Nat.ne_of_lt (Nat.lt_of_lt_of_le A.lt (Nat.le_of_eq eq_ob1.symm))
  replace A := A.keep K3 nin0
  refine ok_astoreN G #[.val (.ref a), .val (.int (0 : Int32)), .val (.int (Int32.ofNat cs.length)), .val (.ref ob1), .unset, .unset] d_jdk_52_method_16_code_3 rfl rfl ?_
  refine ok_aloadN G d_jdk_52_method_16_code_4 rfl rfl ?_
  refine ok_iloadN G d_jdk_52_method_16_code_5 rfl ?_
  refine ok_aloadN G d_jdk_52_method_16_code_6 rfl rfl ?_
  refine ok_iconst G (0 : Int32) d_jdk_52_method_16_code_7 rfl ?_
  refine ok_iloadN G d_jdk_52_method_16_code_8 rfl ?_
  refine ok_old (fun hO_hp2 => ?_)
  refine ok_static G (argsL := [(.ref a), (.int (0 : Int32)), (.ref ob1), (.int (0 : Int32)), (.int (Int32.ofNat cs.length))]) (rest := []) (C.w64) (C.w65) (C.w62) (C.w66) (by decide) pd0 (c_comp5 C hO_hp2 A V_ob1 ne_a_ob1 hl hc g_ob1) rfl rfl rfl d_jdk_52_method_16_code_9 (Nat.le_of_ble_eq_true rfl) (Nat.le_of_ble_eq_true rfl) (Nat.le_of_ble_eq_true rfl) (Nat.le_of_ble_eq_true rfl) (allS ⟨(Or.inr lb_ob1), SafeFor.narrow⟩ (fun _ q => nomatch q)) ?_
  rintro _ hp4 K5 ⟨rfl, V_ob1⟩
  replace A := A.keep K5 (ninS ne_a_ob1 nin0)
  refine ok_as (mkF m 12 #[.val (.ref a), .val (.int (0 : Int32)), .val (.int (Int32.ofNat cs.length)), .val (.ref ob1), .unset, .unset] [(.int (Int32.ofNat cs.length))]) rfl ?_
  refine ok_istore G #[.val (.ref a), .val (.int (0 : Int32)), .val (.int (Int32.ofNat cs.length)), .val (.ref ob1), .val (.int (Int32.ofNat cs.length)), .unset] d_jdk_52_method_16_code_12 rfl ?_
  refine ok_iload G d_jdk_52_method_16_code_14 rfl ?_
  refine ok_iloadN G d_jdk_52_method_16_code_16 rfl ?_
  refine ok_icmpeqY G 57 d_jdk_52_method_16_code_17 (by decide) (by decide) rfl ?_
  refine ok_aloadN G d_jdk_52_method_16_code_57 rfl rfl ?_
  exact ok_retA G rfl rfl rfl d_jdk_52_method_16_code_58 rfl ⟨_, _, rfl, lb_ob1, V_ob1⟩ (Nat.le_of_ble_eq_true rfl) (Nat.le_of_ble_eq_true rfl)
theorem d_jdk_52_method_15_code_0 : decode jdk_52_method_15_code 0 = .ok (.iload_n 1, 1) := by decide +kernel
theorem d_jdk_52_method_15_code_1 : decode jdk_52_method_15_code 1 = .ok (.aload_n 0, 1) := by decide +kernel
theorem d_jdk_52_method_15_code_2 : decode jdk_52_method_15_code 2 = .ok (.arraylength, 1) := by decide +kernel
theorem d_jdk_52_method_15_code_3 : decode jdk_52_method_15_code 3 = .ok (.isub, 1) := by decide +kernel
theorem d_jdk_52_method_15_code_4 : decode jdk_52_method_15_code 4 = .ok (.bipush 31, 2) := by decide +kernel
theorem d_jdk_52_method_15_code_6 : decode jdk_52_method_15_code 6 = .ok (.iushr, 1) := by decide +kernel
theorem d_jdk_52_method_15_code_7 : decode jdk_52_method_15_code 7 = .ok (.i2b, 1) := by decide +kernel
theorem d_jdk_52_method_15_code_8 : decode jdk_52_method_15_code 8 = .ok (.ireturn, 1) := by decide +kernel
def R_c_cod : Room := { frames := 0, cells := 0, slots := 0, locals := 0 }
theorem pl_b14 : plainFor (⟨"java/lang/StringUTF16", "coderFromArrayLen", "([BI)B"⟩ : MethodName) = true := plainFor_of_name (by first | (simp [plainName, overriddenIn]; done) | decide +kernel)
set_option maxRecDepth 65536 in
set_option maxHeartbeats 40000000 in
theorem c_cod {l : Launch} {Z : State} {a0 : Array Value} {n0 : Nat} {h0 : Heap} (C : Cx Z a0) (hO : Old Z n0 h0) {b : Addr} {kb : ClassId} {n : Int32} {vs : List Value} {dv : Value} (B : Arv Z h0 b kb .byte n vs dv) :
    Con false l Z [] n0 (⟨"java/lang/StringUTF16", "coderFromArrayLen", "([BI)B"⟩ : MethodName) jdk_52_method_15_code 2 (some .byte) R_c_cod #[(.ref b), (.int n)] h0 [] (fun v h => v = some (.int 0) ∧ h0 = h) := by
  refine Con.intro (a0 := a0) pl_b14 hO (fun q => nomatch q) ?_
  intro p e s m below meth c G
  refine ok_as (mkF m 0 #[.val (.ref b), .val (.int n)] []) (by first | rfl | (simp [entryFrame, mkF, argsToLocals, Value.category]; done)) ?_
  refine ok_iloadN G d_jdk_52_method_15_code_0 rfl ?_
  refine ok_aloadN G d_jdk_52_method_15_code_1 rfl rfl ?_
  refine ok_arraylength G B d_jdk_52_method_15_code_2 ?_
  refine ok_isub G d_jdk_52_method_15_code_3 ?_
  refine ok_bipush G (31 : Int32) d_jdk_52_method_15_code_4 rfl ?_
  refine ok_iushr G d_jdk_52_method_15_code_6 ?_
  refine ok_i2b G d_jdk_52_method_15_code_7 ?_
  refine ok_sayI (0 : Int32) (by rw [Int32.sub_self]; rfl) ?_
  exact ok_retN G rfl (by simp) d_jdk_52_method_15_code_8 rfl ⟨rfl, rfl⟩ (Nat.le_of_ble_eq_true rfl) (Nat.le_of_ble_eq_true rfl)
theorem d_jdk_42_method_149_code_0 : decode jdk_42_method_149_code 0 = .ok (.aload_n 0, 1) := by decide +kernel
theorem d_jdk_42_method_149_code_1 : decode jdk_42_method_149_code 1 = .ok (.invokespecial 1, 3) := by decide +kernel
theorem d_jdk_42_method_149_code_4 : decode jdk_42_method_149_code 4 = .ok (.iload_n 3, 1) := by decide +kernel
theorem d_jdk_42_method_149_code_5 : decode jdk_42_method_149_code 5 = .ok (.ifCond .ne 22, 3) := by decide +kernel
theorem d_jdk_42_method_149_code_27 : decode jdk_42_method_149_code 27 = .ok (.getstatic 38, 3) := by decide +kernel
theorem d_jdk_42_method_149_code_30 : decode jdk_42_method_149_code 30 = .ok (.ifCond .eq 28, 3) := by decide +kernel
theorem d_jdk_42_method_149_code_33 : decode jdk_42_method_149_code 33 = .ok (.aload_n 1, 1) := by decide +kernel
theorem d_jdk_42_method_149_code_34 : decode jdk_42_method_149_code 34 = .ok (.iload_n 2, 1) := by decide +kernel
theorem d_jdk_42_method_149_code_35 : decode jdk_42_method_149_code 35 = .ok (.iload_n 3, 1) := by decide +kernel
theorem d_jdk_42_method_149_code_36 : decode jdk_42_method_149_code 36 = .ok (.invokestatic 177, 3) := by decide +kernel
theorem pd1 : parseMethodDescriptor "([CII)[B" = some ⟨[(.array .char), .int, .int], some (.array .byte)⟩ := by decide +kernel
theorem d_jdk_42_method_149_code_39 : decode jdk_42_method_149_code 39 = .ok (.astore 5, 2) := by decide +kernel
theorem d_jdk_42_method_149_code_41 : decode jdk_42_method_149_code 41 = .ok (.aload_n 0, 1) := by decide +kernel
theorem d_jdk_42_method_149_code_42 : decode jdk_42_method_149_code 42 = .ok (.aload 5, 2) := by decide +kernel
theorem d_jdk_42_method_149_code_44 : decode jdk_42_method_149_code 44 = .ok (.iload_n 3, 1) := by decide +kernel
theorem d_jdk_42_method_149_code_45 : decode jdk_42_method_149_code 45 = .ok (.invokestatic 47, 3) := by decide +kernel
theorem pd2 : parseMethodDescriptor "([BI)B" = some ⟨[(.array .byte), .int], some .byte⟩ := by decide +kernel
theorem d_jdk_42_method_149_code_48 : decode jdk_42_method_149_code 48 = .ok (.putfield 15, 3) := by decide +kernel
theorem d_jdk_42_method_149_code_51 : decode jdk_42_method_149_code 51 = .ok (.aload_n 0, 1) := by decide +kernel
theorem d_jdk_42_method_149_code_52 : decode jdk_42_method_149_code 52 = .ok (.aload 5, 2) := by decide +kernel
theorem d_jdk_42_method_149_code_54 : decode jdk_42_method_149_code 54 = .ok (.putfield 9, 3) := by decide +kernel
theorem d_jdk_42_method_149_code_57 : decode jdk_42_method_149_code 57 = .ok (.return_, 1) := by decide +kernel
def R_c_init4 : Room := { frames := 2, cells := 1, slots := 16, locals := 35 }
theorem pl_b10 : plainFor (⟨"java/lang/String", "<init>", "([CIILjava/lang/Void;)V"⟩ : MethodName) = true := plainFor_of_name (by first | (simp [plainName, overriddenIn]; done) | decide +kernel)
set_option maxRecDepth 65536 in
set_option maxHeartbeats 40000000 in
theorem c_init4 {l : Launch} {Z : State} {a0 : Array Value} {n0 : Nat} {h0 : Heap} (C : Cx Z a0) (hO : Old Z n0 h0) {x a : Addr} {ka : ClassId} {cs : List Int32} {dv : Value} (E : Exa Z h0 x "java/lang/String") (FV : Fld Z h0 x "java/lang/String" "value" "[B" .null) (FC : Fld Z h0 x "java/lang/String" "coder" "B" (.int (0 : Int32))) (g_x : n0 ≤ x) (A : Arv Z h0 a ka .char (Int32.ofNat cs.length) (cs.map Value.int) dv) (h1 : 0 < cs.length) (hl : cs.length ≤ 16) (hc : ∀ c ∈ cs, Lat c) (hxa : x ≠ a) :
    Con false l Z [] n0 (⟨"java/lang/String", "<init>", "([CIILjava/lang/Void;)V"⟩ : MethodName) jdk_42_method_149_code 6 none R_c_init4 #[(.ref x), (.ref a), (.int (0 : Int32)), (.int (Int32.ofNat cs.length)), .null] h0 [x] (fun v h => v = none ∧ ∃ t, h0.size ≤ t ∧ LStr Z h x t cs) := by
  refine Con.intro (a0 := a0) pl_b10 hO (fun q => nomatch q) ?_
  intro p e s m below meth c G
  refine ok_as (mkF m 0 #[.val (.ref x), .val (.ref a), .val (.int (0 : Int32)), .val (.int (Int32.ofNat cs.length)), .val .null, .unset] []) (by first | rfl | (simp [entryFrame, mkF, argsToLocals, Value.category]; done)) ?_
  refine ok_aloadN G d_jdk_42_method_149_code_0 rfl rfl ?_
  refine ok_initO G (C.w57) (C.w58) (C.w59) rfl d_jdk_42_method_149_code_1 (Nat.le_of_ble_eq_true rfl) (Nat.le_of_ble_eq_true rfl) ?_
  refine ok_iloadN G d_jdk_42_method_149_code_4 rfl ?_
  refine ok_ifneY G 27 d_jdk_42_method_149_code_5 (by decide) (by decide) (by rw [show (0 : Int32) = Int32.ofNat 0 from rfl, i32_eq (by omega) (by omega)]; omega) ?_
  obtain ⟨cz, hCS, hcz⟩ := C.compact
  refine ok_getS G (host := "") (Or.inl (C.w19)) Via.refl hCS d_jdk_42_method_149_code_27 ?_
  refine ok_ifeqN G d_jdk_42_method_149_code_30 hcz ?_
  refine ok_aloadN G d_jdk_42_method_149_code_33 rfl rfl ?_
  refine ok_iloadN G d_jdk_42_method_149_code_34 rfl ?_
  refine ok_iloadN G d_jdk_42_method_149_code_35 rfl ?_
  refine ok_static G (argsL := [(.ref a), (.int (0 : Int32)), (.int (Int32.ofNat cs.length))]) (rest := []) (C.w60) (C.w61) (C.w62) (C.w63) (by decide) pd1 (c_comp3 C hO A hl hc) rfl rfl rfl d_jdk_42_method_149_code_36 (Nat.le_of_ble_eq_true rfl) (Nat.le_of_ble_eq_true rfl) (Nat.le_of_ble_eq_true rfl) (Nat.le_of_ble_eq_true rfl) (fun _ q => nomatch q) ?_
  rintro _ hp3 K4 ⟨tr1, kb2, rfl, lbq_tr1, V_tr1⟩
  have lbh_tr1 := lbq_tr1
  have ne_x_tr1 : x ≠ tr1 := Nat.ne_of_lt (Nat.lt_of_lt_of_le E.lt lbh_tr1)
  have ne_a_tr1 : a ≠ tr1 := Nat.ne_of_lt (Nat.lt_of_lt_of_le A.lt lbh_tr1)
  have lb_tr1 : h0.size ≤ tr1 := lbh_tr1
  have g_tr1 : n0 ≤ tr1 := Nat.le_trans (old_le hO) lbh_tr1
  replace E := E.keep K4
  replace FV := FV.keep K4 nin0
  replace FC := FC.keep K4 nin0
  replace A := A.keep K4 nin0
  refine ok_as (mkF m 39 #[.val (.ref x), .val (.ref a), .val (.int (0 : Int32)), .val (.int (Int32.ofNat cs.length)), .val .null, .unset] [(.ref tr1)]) rfl ?_
  refine ok_astore G #[.val (.ref x), .val (.ref a), .val (.int (0 : Int32)), .val (.int (Int32.ofNat cs.length)), .val .null, .val (.ref tr1)] d_jdk_42_method_149_code_39 rfl rfl ?_
  refine ok_aloadN G d_jdk_42_method_149_code_41 rfl rfl ?_
  refine ok_aload G d_jdk_42_method_149_code_42 rfl rfl ?_
  refine ok_iloadN G d_jdk_42_method_149_code_44 rfl ?_
  refine ok_old (fun hO_hp3 => ?_)
  refine ok_static G (argsL := [(.ref tr1), (.int (Int32.ofNat cs.length))]) (rest := [(.ref x)]) (C.w67) (C.w68) (C.w62) (C.w69) (by decide) pd2 (c_cod C hO_hp3 V_tr1) rfl rfl rfl d_jdk_42_method_149_code_45 (Nat.le_of_ble_eq_true rfl) (Nat.le_of_ble_eq_true rfl) (Nat.le_of_ble_eq_true rfl) (Nat.le_of_ble_eq_true rfl) (fun _ q => nomatch q) ?_
  rintro _ _ _ ⟨rfl, rfl⟩
  refine ok_as (mkF m 48 #[.val (.ref x), .val (.ref a), .val (.int (0 : Int32)), .val (.int (Int32.ofNat cs.length)), .val .null, .val (.ref tr1)] [(.int (0 : Int32)), (.ref x)]) rfl ?_
  refine ok_putF G (host := "") (Or.inl (C.w20)) Via.refl FC E (Or.inr ⟨(C.w5), rfl, rfl⟩) (C.w2) (ty := .byte) (by decide) rfl rfl d_jdk_42_method_149_code_48 g_x (Or.inl (List.mem_of_getElem? (i := 0) rfl)) SafeFor.narrow ?_
  intro hp7 K8 Wn Fn
  replace FV := FV.other Wn (Or.inr (slot_ne (Or.inr (C.w4)) (Or.inr (C.w5)) (by decide) (t := (.array .byte)) (t' := .byte) (by decide) (by decide)))
  replace E := E.keep K8
  replace A := A.keep K8 (ninS (Ne.symm hxa) nin0)
  replace V_tr1 := V_tr1.keep K8 (ninS (Ne.symm ne_x_tr1) nin0)
  replace FC : Fld Z hp7 x "java/lang/String" "coder" "B" (.int (0 : Int32)) := Fn
  clear Wn Fn
  refine ok_aloadN G d_jdk_42_method_149_code_51 rfl rfl ?_
  refine ok_aload G d_jdk_42_method_149_code_52 rfl rfl ?_
  refine ok_putF G (host := "") (Or.inl (C.w13)) Via.refl FV E (Or.inr ⟨(C.w4), rfl, rfl⟩) (C.w2) (ty := (.array .byte)) (by decide) rfl rfl d_jdk_42_method_149_code_54 g_x (Or.inl (List.mem_of_getElem? (i := 0) rfl)) SafeFor.narrow ?_
  intro hp9 K10 Wn Fn
  replace FC := FC.other Wn (Or.inr (slot_ne (Or.inr (C.w5)) (Or.inr (C.w4)) (by decide) (t := .byte) (t' := (.array .byte)) (by decide) (by decide)))
  replace E := E.keep K10
  replace A := A.keep K10 (ninS (Ne.symm hxa) nin0)
  replace V_tr1 := V_tr1.keep K10 (ninS (Ne.symm ne_x_tr1) nin0)
  replace FV : Fld Z hp9 x "java/lang/String" "value" "[B" (.ref tr1) := Fn
  clear Wn Fn
  exact ok_return G rfl d_jdk_42_method_149_code_57 ⟨rfl, _, lb_tr1, E, FC, FV, ⟨_, V_tr1⟩, hc, hl⟩ (Nat.le_of_ble_eq_true rfl) (Nat.le_of_ble_eq_true rfl)
theorem d_jdk_42_method_3_code_0 : decode jdk_42_method_3_code 0 = .ok (.aload_n 0, 1) := by decide +kernel
theorem d_jdk_42_method_3_code_1 : decode jdk_42_method_3_code 1 = .ok (.aload_n 1, 1) := by decide +kernel
theorem d_jdk_42_method_3_code_2 : decode jdk_42_method_3_code 2 = .ok (.iconst 0, 1) := by decide +kernel
theorem d_jdk_42_method_3_code_3 : decode jdk_42_method_3_code 3 = .ok (.aload_n 1, 1) := by decide +kernel
theorem d_jdk_42_method_3_code_4 : decode jdk_42_method_3_code 4 = .ok (.arraylength, 1) := by decide +kernel
theorem d_jdk_42_method_3_code_5 : decode jdk_42_method_3_code 5 = .ok (.aconst_null, 1) := by decide +kernel
theorem d_jdk_42_method_3_code_6 : decode jdk_42_method_3_code 6 = .ok (.invokespecial 27, 3) := by decide +kernel
theorem pd3 : parseMethodDescriptor "([CIILjava/lang/Void;)V" = some ⟨[(.array .char), .int, .int, (.object "java/lang/Void")], none⟩ := by decide +kernel
theorem d_jdk_42_method_3_code_9 : decode jdk_42_method_3_code 9 = .ok (.return_, 1) := by decide +kernel
def R_c_init1 : Room := { frames := 3, cells := 1, slots := 16, locals := 52 }
theorem pl_b9 : plainFor (⟨"java/lang/String", "<init>", "([C)V"⟩ : MethodName) = true := plainFor_of_name (by first | (simp [plainName, overriddenIn]; done) | decide +kernel)
set_option maxRecDepth 65536 in
set_option maxHeartbeats 40000000 in
theorem c_init1 {l : Launch} {Z : State} {a0 : Array Value} {n0 : Nat} {h0 : Heap} (C : Cx Z a0) (hO : Old Z n0 h0) {x a : Addr} {ka : ClassId} {cs : List Int32} {dv : Value} (E : Exa Z h0 x "java/lang/String") (FV : Fld Z h0 x "java/lang/String" "value" "[B" .null) (FC : Fld Z h0 x "java/lang/String" "coder" "B" (.int (0 : Int32))) (g_x : n0 ≤ x) (A : Arv Z h0 a ka .char (Int32.ofNat cs.length) (cs.map Value.int) dv) (h1 : 0 < cs.length) (hl : cs.length ≤ 16) (hc : ∀ c ∈ cs, Lat c) (hxa : x ≠ a) :
    Con false l Z [] n0 (⟨"java/lang/String", "<init>", "([C)V"⟩ : MethodName) jdk_42_method_3_code 2 none R_c_init1 #[(.ref x), (.ref a)] h0 [x] (fun v h => v = none ∧ ∃ t, h0.size ≤ t ∧ LStr Z h x t cs) := by
  refine Con.intro (a0 := a0) pl_b9 hO (fun q => nomatch q) ?_
  intro p e s m below meth c G
  refine ok_as (mkF m 0 #[.val (.ref x), .val (.ref a)] []) (by first | rfl | (simp [entryFrame, mkF, argsToLocals, Value.category]; done)) ?_
  refine ok_aloadN G d_jdk_42_method_3_code_0 rfl rfl ?_
  refine ok_aloadN G d_jdk_42_method_3_code_1 rfl rfl ?_
  refine ok_iconst G (0 : Int32) d_jdk_42_method_3_code_2 rfl ?_
  refine ok_aloadN G d_jdk_42_method_3_code_3 rfl rfl ?_
  refine ok_arraylength G A d_jdk_42_method_3_code_4 ?_
  refine ok_aconst_null G d_jdk_42_method_3_code_5 ?_
  refine ok_init G (a := x) (argsL := [(.ref a), (.int (0 : Int32)), (.int (Int32.ofNat cs.length)), .null]) (rest := []) rfl (C.w53) (C.w54) (C.w1) (C.w56) (by decide) pd3 (c_init4 C hO E FV FC g_x A h1 hl hc hxa) rfl rfl rfl d_jdk_42_method_3_code_6 (Nat.le_of_ble_eq_true rfl) (Nat.le_of_ble_eq_true rfl) (Nat.le_of_ble_eq_true rfl) (Nat.le_of_ble_eq_true rfl) (allS ⟨(Or.inl (List.mem_of_getElem? (i := 0) rfl)), SafeFor.narrow⟩ (fun _ q => nomatch q)) ?_
  rintro _ hp2 K3 ⟨rfl, tr1, lbq_tr1, S_x⟩
  have lbh_tr1 := lbq_tr1
  have ne_x_tr1 : x ≠ tr1 := Nat.ne_of_lt (Nat.lt_of_lt_of_le E.lt lbh_tr1)
  have ne_a_tr1 : a ≠ tr1 := Nat.ne_of_lt (Nat.lt_of_lt_of_le A.lt lbh_tr1)
  have lb_tr1 : h0.size ≤ tr1 := lbh_tr1
  have g_tr1 : n0 ≤ tr1 := Nat.le_trans (old_le hO) lbh_tr1
  replace E := E.keep K3
  replace A := A.keep K3 (ninS (Ne.symm hxa) nin0)
  refine ok_as (mkF m 9 #[.val (.ref x), .val (.ref a)] []) rfl ?_
  exact ok_return G rfl d_jdk_42_method_3_code_9 ⟨rfl, _, lb_tr1, S_x⟩ (Nat.le_of_ble_eq_true rfl) (Nat.le_of_ble_eq_true rfl)
theorem d_jdk_43_method_3_code_0 : decode jdk_43_method_3_code 0 = .ok (.iload_n 0, 1) := by decide +kernel
theorem d_jdk_43_method_3_code_1 : decode jdk_43_method_3_code 1 = .ok (.sipush 255, 3) := by decide +kernel
theorem d_jdk_43_method_3_code_4 : decode jdk_43_method_3_code 4 = .ok (.if_icmp .gt 7, 3) := by decide +kernel
theorem d_jdk_43_method_3_code_7 : decode jdk_43_method_3_code 7 = .ok (.iconst 1, 1) := by decide +kernel
theorem d_jdk_43_method_3_code_8 : decode jdk_43_method_3_code 8 = .ok (.goto 4, 3) := by decide +kernel
theorem d_jdk_43_method_3_code_12 : decode jdk_43_method_3_code 12 = .ok (.ireturn, 1) := by decide +kernel
def R_c_canE : Room := { frames := 0, cells := 0, slots := 0, locals := 0 }
theorem pl_b25 : plainFor (⟨"java/lang/StringLatin1", "canEncode", "(C)Z"⟩ : MethodName) = true := plainFor_of_name (by first | (simp [plainName, overriddenIn]; done) | decide +kernel)
set_option maxRecDepth 65536 in
set_option maxHeartbeats 40000000 in
theorem c_canE {l : Launch} {Z : State} {a0 : Array Value} {n0 : Nat} {h0 : Heap} (C : Cx Z a0) (hO : Old Z n0 h0) {ch : Int32} (hch : Lat ch) :
    Con false l Z [] n0 (⟨"java/lang/StringLatin1", "canEncode", "(C)Z"⟩ : MethodName) jdk_43_method_3_code 1 (some .boolean) R_c_canE #[(.int ch)] h0 [] (fun v h => v = some (.int 1) ∧ h0 = h) := by
  refine Con.intro (a0 := a0) pl_b25 hO (fun q => nomatch q) ?_
  intro p e s m below meth c G
  refine ok_as (mkF m 0 #[.val (.int ch)] []) (by first | rfl | (simp [entryFrame, mkF, argsToLocals, Value.category]; done)) ?_
  refine ok_iloadN G d_jdk_43_method_3_code_0 rfl ?_
  refine ok_sipush G (255 : Int32) d_jdk_43_method_3_code_1 rfl ?_
  refine ok_icmpgtN G d_jdk_43_method_3_code_4 hch.2 ?_
  refine ok_iconst G (1 : Int32) d_jdk_43_method_3_code_7 rfl ?_
  refine ok_goto G 12 d_jdk_43_method_3_code_8 (by decide) (by decide) ?_
  exact ok_retN G rfl (by simp) d_jdk_43_method_3_code_12 rfl ⟨rfl, rfl⟩ (Nat.le_of_ble_eq_true rfl) (Nat.le_of_ble_eq_true rfl)
theorem d_jdk_43_method_46_code_0 : decode jdk_43_method_46_code 0 = .ok (.iconst 1, 1) := by decide +kernel
theorem d_jdk_43_method_46_code_1 : decode jdk_43_method_46_code 1 = .ok (.newarray .byte, 2) := by decide +kernel
theorem d_jdk_43_method_46_code_3 : decode jdk_43_method_46_code 3 = .ok (.dup, 1) := by decide +kernel
theorem d_jdk_43_method_46_code_4 : decode jdk_43_method_46_code 4 = .ok (.iconst 0, 1) := by decide +kernel
theorem d_jdk_43_method_46_code_5 : decode jdk_43_method_46_code 5 = .ok (.iload_n 0, 1) := by decide +kernel
theorem d_jdk_43_method_46_code_6 : decode jdk_43_method_46_code 6 = .ok (.i2b, 1) := by decide +kernel
theorem d_jdk_43_method_46_code_7 : decode jdk_43_method_46_code 7 = .ok (.bastore, 1) := by decide +kernel
theorem d_jdk_43_method_46_code_8 : decode jdk_43_method_46_code 8 = .ok (.areturn, 1) := by decide +kernel
def R_c_toB1 : Room := { frames := 0, cells := 1, slots := 1, locals := 0 }
theorem pl_b26 : plainFor (⟨"java/lang/StringLatin1", "toBytes", "(C)[B"⟩ : MethodName) = true := plainFor_of_name (by first | (simp [plainName, overriddenIn]; done) | decide +kernel)
set_option maxRecDepth 65536 in
set_option maxHeartbeats 40000000 in
theorem c_toB1 {l : Launch} {Z : State} {a0 : Array Value} {n0 : Nat} {h0 : Heap} (C : Cx Z a0) (hO : Old Z n0 h0) {ch : Int32} :
    Con false l Z [] n0 (⟨"java/lang/StringLatin1", "toBytes", "(C)[B"⟩ : MethodName) jdk_43_method_46_code 1 (some (.array .byte)) R_c_toB1 #[(.int ch)] h0 [] (fun v h => ∃ t kb, v = some (.ref t) ∧ h0.size ≤ t ∧ Arv Z h t kb .byte (1 : Int32) [lo8 ch] (.int 0)) := by
  refine Con.intro (a0 := a0) pl_b26 hO (fun q => nomatch q) ?_
  intro p e s m below meth c G
  refine ok_as (mkF m 0 #[.val (.int ch)] []) (by first | rfl | (simp [entryFrame, mkF, argsToLocals, Value.category]; done)) ?_
  refine ok_iconst G (1 : Int32) d_jdk_43_method_46_code_0 rfl ?_
  refine ok_newP G (aty := .byte) (C.w3) d_jdk_43_method_46_code_1 (by decide) 1 (by decide) (by decide) (Nat.le_of_ble_eq_true rfl) (Nat.le_of_ble_eq_true rfl) ?_
  intro hp2 ob1 k_ob1 eq_ob1 K3 g_ob1 lb_ob1 V_ob1
  replace V_ob1 : Arv Z hp2 ob1 k_ob1 .byte (1 : Int32) [(.int (0 : Int32))] (.int (0 : Int32)) := V_ob1.pad (pad_rep [] (.int (0 : Int32)) 1)
  refine ok_dup G d_jdk_43_method_46_code_3 rfl ?_
  refine ok_iconst G (0 : Int32) d_jdk_43_method_46_code_4 rfl ?_
  refine ok_iloadN G d_jdk_43_method_46_code_5 rfl ?_
  refine ok_i2b G d_jdk_43_method_46_code_6 ?_
  refine ok_bastore G (ch.toInt8.toInt32) 0 V_ob1 ⟨by decide, by decide⟩ rfl (Nat.le_of_ble_eq_true rfl) (by simp [nar]) d_jdk_43_method_46_code_7 g_ob1 (Or.inr lb_ob1) SafeFor.narrow ?_
  intro hp4 K5 Vn
  replace V_ob1 : Arv Z hp4 ob1 k_ob1 .byte (1 : Int32) [(.int (ch.toInt8.toInt32))] (.int (0 : Int32)) := Vn
  clear Vn
  exact ok_retA G rfl rfl rfl d_jdk_43_method_46_code_8 rfl ⟨_, _, rfl, lb_ob1, V_ob1⟩ (Nat.le_of_ble_eq_true rfl) (Nat.le_of_ble_eq_true rfl)
theorem d_jdk_42_method_151_code_0 : decode jdk_42_method_151_code 0 = .ok (.aload_n 0, 1) := by decide +kernel
theorem d_jdk_42_method_151_code_1 : decode jdk_42_method_151_code 1 = .ok (.invokespecial 1, 3) := by decide +kernel
theorem d_jdk_42_method_151_code_4 : decode jdk_42_method_151_code 4 = .ok (.aload_n 0, 1) := by decide +kernel
theorem d_jdk_42_method_151_code_5 : decode jdk_42_method_151_code 5 = .ok (.aload_n 1, 1) := by decide +kernel
theorem d_jdk_42_method_151_code_6 : decode jdk_42_method_151_code 6 = .ok (.putfield 9, 3) := by decide +kernel
theorem d_jdk_42_method_151_code_9 : decode jdk_42_method_151_code 9 = .ok (.aload_n 0, 1) := by decide +kernel
theorem d_jdk_42_method_151_code_10 : decode jdk_42_method_151_code 10 = .ok (.iload_n 2, 1) := by decide +kernel
theorem d_jdk_42_method_151_code_11 : decode jdk_42_method_151_code 11 = .ok (.putfield 15, 3) := by decide +kernel
theorem d_jdk_42_method_151_code_14 : decode jdk_42_method_151_code 14 = .ok (.return_, 1) := by decide +kernel
def R_c_initBB : Room := { frames := 1, cells := 0, slots := 0, locals := 12 }
theorem pl_b27 : plainFor (⟨"java/lang/String", "<init>", "([BB)V"⟩ : MethodName) = true := plainFor_of_name (by first | (simp [plainName, overriddenIn]; done) | decide +kernel)
set_option maxRecDepth 65536 in
set_option maxHeartbeats 40000000 in
theorem c_initBB {l : Launch} {Z : State} {a0 : Array Value} {n0 : Nat} {h0 : Heap} (C : Cx Z a0) (hO : Old Z n0 h0) {x t : Addr} (E : Exa Z h0 x "java/lang/String") (FV : Fld Z h0 x "java/lang/String" "value" "[B" .null) (FC : Fld Z h0 x "java/lang/String" "coder" "B" (.int (0 : Int32))) (g_x : n0 ≤ x) :
    Con false l Z [] n0 (⟨"java/lang/String", "<init>", "([BB)V"⟩ : MethodName) jdk_42_method_151_code 3 none R_c_initBB #[(.ref x), (.ref t), (.int (0 : Int32))] h0 [x] (fun v h => v = none ∧ Fld Z h x "java/lang/String" "coder" "B" (.int 0) ∧ Fld Z h x "java/lang/String" "value" "[B" (.ref t)) := by
  refine Con.intro (a0 := a0) pl_b27 hO (fun q => nomatch q) ?_
  intro p e s m below meth c G
  refine ok_as (mkF m 0 #[.val (.ref x), .val (.ref t), .val (.int (0 : Int32))] []) (by first | rfl | (simp [entryFrame, mkF, argsToLocals, Value.category]; done)) ?_
  refine ok_aloadN G d_jdk_42_method_151_code_0 rfl rfl ?_
  refine ok_initO G (C.w57) (C.w58) (C.w59) rfl d_jdk_42_method_151_code_1 (Nat.le_of_ble_eq_true rfl) (Nat.le_of_ble_eq_true rfl) ?_
  refine ok_aloadN G d_jdk_42_method_151_code_4 rfl rfl ?_
  refine ok_aloadN G d_jdk_42_method_151_code_5 rfl rfl ?_
  refine ok_putF G (host := "") (Or.inl (C.w13)) Via.refl FV E (Or.inr ⟨(C.w4), rfl, rfl⟩) (C.w2) (ty := (.array .byte)) (by decide) rfl rfl d_jdk_42_method_151_code_6 g_x (Or.inl (List.mem_of_getElem? (i := 0) rfl)) SafeFor.narrow ?_
  intro hp1 K2 Wn Fn
  replace FC := FC.other Wn (Or.inr (slot_ne (Or.inr (C.w5)) (Or.inr (C.w4)) (by decide) (t := .byte) (t' := (.array .byte)) (by decide) (by decide)))
  replace E := E.keep K2
  replace FV : Fld Z hp1 x "java/lang/String" "value" "[B" (.ref t) := Fn
  clear Wn Fn
  refine ok_aloadN G d_jdk_42_method_151_code_9 rfl rfl ?_
  refine ok_iloadN G d_jdk_42_method_151_code_10 rfl ?_
  refine ok_putF G (host := "") (Or.inl (C.w20)) Via.refl FC E (Or.inr ⟨(C.w5), rfl, rfl⟩) (C.w2) (ty := .byte) (by decide) rfl rfl d_jdk_42_method_151_code_11 g_x (Or.inl (List.mem_of_getElem? (i := 0) rfl)) SafeFor.narrow ?_
  intro hp3 K4 Wn Fn
  replace FV := FV.other Wn (Or.inr (slot_ne (Or.inr (C.w4)) (Or.inr (C.w5)) (by decide) (t := (.array .byte)) (t' := .byte) (by decide) (by decide)))
  replace E := E.keep K4
  replace FC : Fld Z hp3 x "java/lang/String" "coder" "B" (.int (0 : Int32)) := Fn
  clear Wn Fn
  exact ok_return G rfl d_jdk_42_method_151_code_14 ⟨rfl, FC, FV⟩ (Nat.le_of_ble_eq_true rfl) (Nat.le_of_ble_eq_true rfl)
theorem d_jdk_42_method_139_code_0 : decode jdk_42_method_139_code 0 = .ok (.getstatic 38, 3) := by decide +kernel
theorem d_jdk_42_method_139_code_3 : decode jdk_42_method_139_code 3 = .ok (.ifCond .eq 23, 3) := by decide +kernel
theorem d_jdk_42_method_139_code_6 : decode jdk_42_method_139_code 6 = .ok (.iload_n 0, 1) := by decide +kernel
theorem d_jdk_42_method_139_code_7 : decode jdk_42_method_139_code 7 = .ok (.invokestatic 1015, 3) := by decide +kernel
theorem pd4 : parseMethodDescriptor "(C)Z" = some ⟨[.char], some .boolean⟩ := by decide +kernel
theorem d_jdk_42_method_139_code_10 : decode jdk_42_method_139_code 10 = .ok (.ifCond .eq 16, 3) := by decide +kernel
theorem d_jdk_42_method_139_code_13 : decode jdk_42_method_139_code 13 = .ok (.new 10, 3) := by decide +kernel
theorem d_jdk_42_method_139_code_16 : decode jdk_42_method_139_code 16 = .ok (.dup, 1) := by decide +kernel
theorem d_jdk_42_method_139_code_17 : decode jdk_42_method_139_code 17 = .ok (.iload_n 0, 1) := by decide +kernel
theorem d_jdk_42_method_139_code_18 : decode jdk_42_method_139_code 18 = .ok (.invokestatic 1018, 3) := by decide +kernel
theorem pd5 : parseMethodDescriptor "(C)[B" = some ⟨[.char], some (.array .byte)⟩ := by decide +kernel
theorem d_jdk_42_method_139_code_21 : decode jdk_42_method_139_code 21 = .ok (.iconst 0, 1) := by decide +kernel
theorem d_jdk_42_method_139_code_22 : decode jdk_42_method_139_code 22 = .ok (.invokespecial 209, 3) := by decide +kernel
theorem pd6 : parseMethodDescriptor "([BB)V" = some ⟨[(.array .byte), .byte], none⟩ := by decide +kernel
theorem d_jdk_42_method_139_code_25 : decode jdk_42_method_139_code 25 = .ok (.areturn, 1) := by decide +kernel
def R_c_valueOf : Room := { frames := 2, cells := 2, slots := 5, locals := 27 }
theorem pl_b24 : plainFor (⟨"java/lang/String", "valueOf", "(C)Ljava/lang/String;"⟩ : MethodName) = true := plainFor_of_name (by first | (simp [plainName, overriddenIn]; done) | decide +kernel)
set_option maxRecDepth 65536 in
set_option maxHeartbeats 40000000 in
theorem c_valueOf {l : Launch} {Z : State} {a0 : Array Value} {n0 : Nat} {h0 : Heap} (C : Cx Z a0) (hO : Old Z n0 h0) {ch : Int32} (hch : Lat ch) :
    Con false l Z [] n0 (⟨"java/lang/String", "valueOf", "(C)Ljava/lang/String;"⟩ : MethodName) jdk_42_method_139_code 1 (some (.object "java/lang/String")) R_c_valueOf #[(.int ch)] h0 [] (fun v h => ∃ x t, v = some (.ref x) ∧ h0.size ≤ x ∧ LStr Z h x t [ch]) := by
  refine Con.intro (a0 := a0) pl_b24 hO (fun q => nomatch q) ?_
  intro p e s m below meth c G
  refine ok_as (mkF m 0 #[.val (.int ch)] []) (by first | rfl | (simp [entryFrame, mkF, argsToLocals, Value.category]; done)) ?_
  obtain ⟨cz, hCS, hcz⟩ := C.compact
  refine ok_getS G (host := "") (Or.inl (C.w19)) Via.refl hCS d_jdk_42_method_139_code_0 ?_
  refine ok_ifeqN G d_jdk_42_method_139_code_3 hcz ?_
  refine ok_iloadN G d_jdk_42_method_139_code_6 rfl ?_
  refine ok_static G (argsL := [(.int ch)]) (rest := []) (C.w134) (C.w135) (C.w40) (C.w136) (by decide) pd4 (c_canE C hO hch) rfl rfl rfl d_jdk_42_method_139_code_7 (Nat.le_of_ble_eq_true rfl) (Nat.le_of_ble_eq_true rfl) (Nat.le_of_ble_eq_true rfl) (Nat.le_of_ble_eq_true rfl) (fun _ q => nomatch q) ?_
  rintro _ _ _ ⟨rfl, rfl⟩
  refine ok_as (mkF m 10 #[.val (.int ch)] [(.int (1 : Int32))]) rfl ?_
  refine ok_ifeqN G d_jdk_42_method_139_code_10 (by decide) ?_
  refine ok_new G (C.w98) (C.w2) (C.w1) d_jdk_42_method_139_code_13 (Nat.le_of_ble_eq_true rfl) (Nat.le_of_ble_eq_true rfl) ?_
  intro hp4 ob3 eq_ob3 K5 g_ob3 lb_ob3 E_ob3 D_ob3
  have F_ob3_value : Fld Z hp4 ob3 "java/lang/String" "value" "[B" .null := D_ob3 _ _ _ (.array .byte) (Or.inr (C.w4)) (by decide)
  have F_ob3_coder : Fld Z hp4 ob3 "java/lang/String" "coder" "B" (.int (0 : Int32)) := D_ob3 _ _ _ .byte (Or.inr (C.w5)) (by decide)
  refine ok_dup G d_jdk_42_method_139_code_16 rfl ?_
  refine ok_iloadN G d_jdk_42_method_139_code_17 rfl ?_
  refine ok_old (fun hO_hp4 => ?_)
  refine ok_keep (fun hKp_hp4 => ?_)
  refine ok_static G (argsL := [(.int ch)]) (rest := [(.ref ob3), (.ref ob3)]) (C.w137) (C.w138) (C.w40) (C.w139) (by decide) pd5 (c_toB1 C hO_hp4) rfl rfl rfl d_jdk_42_method_139_code_18 (Nat.le_of_ble_eq_true rfl) (Nat.le_of_ble_eq_true rfl) (Nat.le_of_ble_eq_true rfl) (Nat.le_of_ble_eq_true rfl) (fun _ q => nomatch q) ?_
  rintro _ hp8 K9 ⟨tr6, kb7, rfl, lbq_tr6, V_tr6⟩
  have lbh_tr6 := lbq_tr6
  have ne_ob3_tr6 : ob3 ≠ tr6 := Nat.ne_of_lt (Nat.lt_of_lt_of_le E_ob3.lt lbh_tr6)
  have lb_tr6 : h0.size ≤ tr6 := Nat.le_trans hKp_hp4.1 lbh_tr6
  have g_tr6 : n0 ≤ tr6 := Nat.le_trans (old_le hO_hp4) lbh_tr6
  replace E_ob3 := E_ob3.keep K9
  replace F_ob3_value := F_ob3_value.keep K9 nin0
  replace F_ob3_coder := F_ob3_coder.keep K9 nin0
  refine ok_as (mkF m 21 #[.val (.int ch)] [(.ref tr6), (.ref ob3), (.ref ob3)]) rfl ?_
  refine ok_iconst G (0 : Int32) d_jdk_42_method_139_code_21 rfl ?_
  refine ok_old (fun hO_hp8 => ?_)
  refine ok_init G (a := ob3) (argsL := [(.ref tr6), (.int (0 : Int32))]) (rest := [(.ref ob3)]) rfl (C.w140) (C.w141) (C.w1) (C.w142) (by decide) pd6 (c_initBB C hO_hp8 E_ob3 F_ob3_value F_ob3_coder g_ob3) rfl rfl rfl d_jdk_42_method_139_code_22 (Nat.le_of_ble_eq_true rfl) (Nat.le_of_ble_eq_true rfl) (Nat.le_of_ble_eq_true rfl) (Nat.le_of_ble_eq_true rfl) (allS ⟨(Or.inr lb_ob3), SafeFor.narrow⟩ (fun _ q => nomatch q)) ?_
  rintro _ hp10 K11 ⟨rfl, FC_ob3, FV_ob3⟩
  replace E_ob3 := E_ob3.keep K11
  replace V_tr6 := V_tr6.keep K11 (ninS (Ne.symm ne_ob3_tr6) nin0)
  refine ok_as (mkF m 25 #[.val (.int ch)] [(.ref ob3)]) rfl ?_
  exact ok_retA G rfl rfl rfl d_jdk_42_method_139_code_25 rfl ⟨_, _, rfl, lb_ob3, E_ob3, FC_ob3, FV_ob3, ⟨_, V_tr6⟩, allL hch (fun _ q => nomatch q), (Nat.le_of_ble_eq_true rfl)⟩ (Nat.le_of_ble_eq_true rfl) (Nat.le_of_ble_eq_true rfl)
theorem d_jdk_42_method_152_code_0 : decode jdk_42_method_152_code 0 = .ok (.getstatic 38, 3) := by decide +kernel
theorem d_jdk_42_method_152_code_3 : decode jdk_42_method_152_code 3 = .ok (.ifCond .eq 10, 3) := by decide +kernel
theorem d_jdk_42_method_152_code_6 : decode jdk_42_method_152_code 6 = .ok (.aload_n 0, 1) := by decide +kernel
theorem d_jdk_42_method_152_code_7 : decode jdk_42_method_152_code 7 = .ok (.getfield 15, 3) := by decide +kernel
theorem d_jdk_42_method_152_code_10 : decode jdk_42_method_152_code 10 = .ok (.goto 4, 3) := by decide +kernel
theorem d_jdk_42_method_152_code_14 : decode jdk_42_method_152_code 14 = .ok (.ireturn, 1) := by decide +kernel
def R_c_coder : Room := { frames := 0, cells := 0, slots := 0, locals := 0 }
theorem pl_b2 : plainFor (⟨"java/lang/String", "coder", "()B"⟩ : MethodName) = true := plainFor_of_name (by first | (simp [plainName, overriddenIn]; done) | decide +kernel)
set_option maxRecDepth 65536 in
set_option maxHeartbeats 40000000 in
theorem c_coder {l : Launch} {Z : State} {a0 : Array Value} {n0 : Nat} {h0 : Heap} (C : Cx Z a0) (hO : Old Z n0 h0) {x t : Addr} {cs : List Int32} (S : LStr Z h0 x t cs) :
    Con false l Z [] n0 (⟨"java/lang/String", "coder", "()B"⟩ : MethodName) jdk_42_method_152_code 1 (some .byte) R_c_coder #[(.ref x)] h0 [] (fun v h => v = some (.int 0) ∧ h0 = h) := by
  refine Con.intro (a0 := a0) pl_b2 hO (fun q => nomatch q) ?_
  intro p e s m below meth c G
  refine ok_as (mkF m 0 #[.val (.ref x)] []) (by first | rfl | (simp [entryFrame, mkF, argsToLocals, Value.category]; done)) ?_
  obtain ⟨E, FC, FV, ⟨kb, V⟩, hla, hle⟩ := S
  obtain ⟨cz, hCS, hcz⟩ := C.compact
  refine ok_getS G (host := "") (Or.inl (C.w19)) Via.refl hCS d_jdk_42_method_152_code_0 ?_
  refine ok_ifeqN G d_jdk_42_method_152_code_3 hcz ?_
  refine ok_aloadN G d_jdk_42_method_152_code_6 rfl rfl ?_
  refine ok_getF G (host := "") (Or.inl (C.w20)) Via.refl FC d_jdk_42_method_152_code_7 ?_
  refine ok_goto G 14 d_jdk_42_method_152_code_10 (by decide) (by decide) ?_
  exact ok_retN G rfl (by simp) d_jdk_42_method_152_code_14 rfl ⟨rfl, rfl⟩ (Nat.le_of_ble_eq_true rfl) (Nat.le_of_ble_eq_true rfl)
theorem d_jdk_42_method_54_code_0 : decode jdk_42_method_54_code 0 = .ok (.aload_n 0, 1) := by decide +kernel
theorem d_jdk_42_method_54_code_1 : decode jdk_42_method_54_code 1 = .ok (.getfield 9, 3) := by decide +kernel
theorem d_jdk_42_method_54_code_4 : decode jdk_42_method_54_code 4 = .ok (.arraylength, 1) := by decide +kernel
theorem d_jdk_42_method_54_code_5 : decode jdk_42_method_54_code 5 = .ok (.aload_n 0, 1) := by decide +kernel
theorem d_jdk_42_method_54_code_6 : decode jdk_42_method_54_code 6 = .ok (.invokevirtual 335, 3) := by decide +kernel
theorem pd7 : parseMethodDescriptor "()B" = some ⟨[], some .byte⟩ := by decide +kernel
theorem d_jdk_42_method_54_code_9 : decode jdk_42_method_54_code 9 = .ok (.ishr, 1) := by decide +kernel
theorem d_jdk_42_method_54_code_10 : decode jdk_42_method_54_code 10 = .ok (.ireturn, 1) := by decide +kernel
def R_c_length : Room := { frames := 1, cells := 0, slots := 0, locals := 13 }
theorem pl_b1 : plainFor (⟨"java/lang/String", "length", "()I"⟩ : MethodName) = true := plainFor_of_name (by first | (simp [plainName, overriddenIn]; done) | decide +kernel)
set_option maxRecDepth 65536 in
set_option maxHeartbeats 40000000 in
theorem c_length {l : Launch} {Z : State} {a0 : Array Value} {n0 : Nat} {h0 : Heap} (C : Cx Z a0) (hO : Old Z n0 h0) {x t : Addr} {cs : List Int32} (S : LStr Z h0 x t cs) :
    Con false l Z [] n0 (⟨"java/lang/String", "length", "()I"⟩ : MethodName) jdk_42_method_54_code 1 (some .int) R_c_length #[(.ref x)] h0 [] (fun v h => v = some (.int (Int32.ofNat cs.length)) ∧ h0 = h) := by
  refine Con.intro (a0 := a0) pl_b1 hO (fun q => nomatch q) ?_
  intro p e s m below meth c G
  refine ok_as (mkF m 0 #[.val (.ref x)] []) (by first | rfl | (simp [entryFrame, mkF, argsToLocals, Value.category]; done)) ?_
  obtain ⟨E, FC, FV, ⟨kb, V⟩, hla, hle⟩ := id S
  refine ok_aloadN G d_jdk_42_method_54_code_0 rfl rfl ?_
  refine ok_getF G (host := "") (Or.inl (C.w13)) Via.refl FV d_jdk_42_method_54_code_1 ?_
  refine ok_arraylength G V d_jdk_42_method_54_code_4 ?_
  refine ok_aloadN G d_jdk_42_method_54_code_5 rfl rfl ?_
  refine ok_virtual G (a := x) (y0 := (⟨"java/lang/String", "coder", "()B"⟩ : MethodName)) (y := (⟨"java/lang/String", "coder", "()B"⟩ : MethodName)) (argsL := []) (rest := [(.int (Int32.ofNat cs.length))]) E (C.w14) (C.w15) (C.w17) (fun vm hZ => notFace_of_selects (args := #[]) (mvT (s := s.setVm vm) hZ (C.w17))) (C.w16) (C.w1) (C.w18) (by decide) pd7 (c_coder C hO S) rfl rfl rfl d_jdk_42_method_54_code_6 (Nat.le_of_ble_eq_true rfl) (Nat.le_of_ble_eq_true rfl) (Nat.le_of_ble_eq_true rfl) (Nat.le_of_ble_eq_true rfl) (fun _ q => nomatch q) ?_
  rintro _ _ _ ⟨rfl, rfl⟩
  refine ok_as (mkF m 9 #[.val (.ref x)] [(.int (0 : Int32)), (.int (Int32.ofNat cs.length))]) rfl ?_
  refine ok_ishr G d_jdk_42_method_54_code_9 ?_
  refine ok_sayI (Int32.ofNat cs.length) (by simp) ?_
  exact ok_retI G rfl d_jdk_42_method_54_code_10 ⟨rfl, rfl⟩ (Nat.le_of_ble_eq_true rfl) (Nat.le_of_ble_eq_true rfl)
theorem d_jdk_41_method_11_code_0 : decode jdk_41_method_11_code 0 = .ok (.iload_n 0, 1) := by decide +kernel
theorem d_jdk_41_method_11_code_1 : decode jdk_41_method_11_code 1 = .ok (.ifCond .lt 8, 3) := by decide +kernel
theorem d_jdk_41_method_11_code_4 : decode jdk_41_method_11_code 4 = .ok (.iload_n 0, 1) := by decide +kernel
theorem d_jdk_41_method_11_code_5 : decode jdk_41_method_11_code 5 = .ok (.iload_n 1, 1) := by decide +kernel
theorem d_jdk_41_method_11_code_6 : decode jdk_41_method_11_code 6 = .ok (.if_icmp .lt 10, 3) := by decide +kernel
theorem d_jdk_41_method_11_code_16 : decode jdk_41_method_11_code 16 = .ok (.iload_n 0, 1) := by decide +kernel
theorem d_jdk_41_method_11_code_17 : decode jdk_41_method_11_code 17 = .ok (.ireturn, 1) := by decide +kernel
def R_c_pci_n : Room := { frames := 0, cells := 0, slots := 0, locals := 0 }
theorem pl_b8 : plainFor (⟨"jdk/internal/util/Preconditions", "checkIndex", "(IILjava/util/function/BiFunction;)I"⟩ : MethodName) = true := plainFor_of_name (by first | (simp [plainName, overriddenIn]; done) | decide +kernel)
set_option maxRecDepth 65536 in
set_option maxHeartbeats 40000000 in
theorem c_pci_n {l : Launch} {Z : State} {a0 : Array Value} {n0 : Nat} {h0 : Heap} (C : Cx Z a0) (hO : Old Z n0 h0) {i n : Int32} (hi : ¬ i < 0 ∧ i < n) :
    Con false l Z [] n0 (⟨"jdk/internal/util/Preconditions", "checkIndex", "(IILjava/util/function/BiFunction;)I"⟩ : MethodName) jdk_41_method_11_code 3 (some .int) R_c_pci_n #[(.int i), (.int n), .null] h0 [] (fun v h => v = some (.int i) ∧ h0 = h) := by
  refine Con.intro (a0 := a0) pl_b8 hO (fun q => nomatch q) ?_
  intro p e s m below meth c G
  refine ok_as (mkF m 0 #[.val (.int i), .val (.int n), .val .null] []) (by first | rfl | (simp [entryFrame, mkF, argsToLocals, Value.category]; done)) ?_
  refine ok_iloadN G d_jdk_41_method_11_code_0 rfl ?_
  refine ok_ifltN G d_jdk_41_method_11_code_1 hi.1 ?_
  refine ok_iloadN G d_jdk_41_method_11_code_4 rfl ?_
  refine ok_iloadN G d_jdk_41_method_11_code_5 rfl ?_
  refine ok_icmpltY G 16 d_jdk_41_method_11_code_6 (by decide) (by decide) hi.2 ?_
  refine ok_iloadN G d_jdk_41_method_11_code_16 rfl ?_
  exact ok_retI G rfl d_jdk_41_method_11_code_17 ⟨rfl, rfl⟩ (Nat.le_of_ble_eq_true rfl) (Nat.le_of_ble_eq_true rfl)
def R_c_pci_r : Room := { frames := 0, cells := 0, slots := 0, locals := 0 }
set_option maxRecDepth 65536 in
set_option maxHeartbeats 40000000 in
theorem c_pci_r {l : Launch} {Z : State} {a0 : Array Value} {n0 : Nat} {h0 : Heap} (C : Cx Z a0) (hO : Old Z n0 h0) {i n : Int32} {fa : Addr} (hi : ¬ i < 0 ∧ i < n) :
    Con false l Z [] n0 (⟨"jdk/internal/util/Preconditions", "checkIndex", "(IILjava/util/function/BiFunction;)I"⟩ : MethodName) jdk_41_method_11_code 3 (some .int) R_c_pci_r #[(.int i), (.int n), (.ref fa)] h0 [] (fun v h => v = some (.int i) ∧ h0 = h) := by
  refine Con.intro (a0 := a0) pl_b8 hO (fun q => nomatch q) ?_
  intro p e s m below meth c G
  refine ok_as (mkF m 0 #[.val (.int i), .val (.int n), .val (.ref fa)] []) (by first | rfl | (simp [entryFrame, mkF, argsToLocals, Value.category]; done)) ?_
  refine ok_iloadN G d_jdk_41_method_11_code_0 rfl ?_
  refine ok_ifltN G d_jdk_41_method_11_code_1 hi.1 ?_
  refine ok_iloadN G d_jdk_41_method_11_code_4 rfl ?_
  refine ok_iloadN G d_jdk_41_method_11_code_5 rfl ?_
  refine ok_icmpltY G 16 d_jdk_41_method_11_code_6 (by decide) (by decide) hi.2 ?_
  refine ok_iloadN G d_jdk_41_method_11_code_16 rfl ?_
  exact ok_retI G rfl d_jdk_41_method_11_code_17 ⟨rfl, rfl⟩ (Nat.le_of_ble_eq_true rfl) (Nat.le_of_ble_eq_true rfl)
theorem d_jdk_42_method_155_code_0 : decode jdk_42_method_155_code 0 = .ok (.iload_n 0, 1) := by decide +kernel
theorem d_jdk_42_method_155_code_1 : decode jdk_42_method_155_code 1 = .ok (.iload_n 1, 1) := by decide +kernel
theorem d_jdk_42_method_155_code_2 : decode jdk_42_method_155_code 2 = .ok (.getstatic 1053, 3) := by decide +kernel
theorem d_jdk_42_method_155_code_5 : decode jdk_42_method_155_code 5 = .ok (.invokestatic 1059, 3) := by decide +kernel
theorem pd8 : parseMethodDescriptor "(IILjava/util/function/BiFunction;)I" = some ⟨[.int, .int, (.object "java/util/function/BiFunction")], some .int⟩ := by decide +kernel
theorem d_jdk_42_method_155_code_8 : decode jdk_42_method_155_code 8 = .ok (.pop, 1) := by decide +kernel
theorem d_jdk_42_method_155_code_9 : decode jdk_42_method_155_code 9 = .ok (.return_, 1) := by decide +kernel
def R_c_sci : Room := { frames := 1, cells := 0, slots := 0, locals := 14 }
theorem pl_b7 : plainFor (⟨"java/lang/String", "checkIndex", "(II)V"⟩ : MethodName) = true := plainFor_of_name (by first | (simp [plainName, overriddenIn]; done) | decide +kernel)
set_option maxRecDepth 65536 in
set_option maxHeartbeats 40000000 in
theorem c_sci {l : Launch} {Z : State} {a0 : Array Value} {n0 : Nat} {h0 : Heap} (C : Cx Z a0) (hO : Old Z n0 h0) {i n : Int32} (hi : ¬ i < 0 ∧ i < n) :
    Con false l Z [] n0 (⟨"java/lang/String", "checkIndex", "(II)V"⟩ : MethodName) jdk_42_method_155_code 2 none R_c_sci #[(.int i), (.int n)] h0 [] (fun v h => v = none ∧ h0 = h) := by
  refine Con.intro (a0 := a0) pl_b7 hO (fun q => nomatch q) ?_
  intro p e s m below meth c G
  refine ok_as (mkF m 0 #[.val (.int i), .val (.int n)] []) (by first | rfl | (simp [entryFrame, mkF, argsToLocals, Value.category]; done)) ?_
  refine ok_iloadN G d_jdk_42_method_155_code_0 rfl ?_
  refine ok_iloadN G d_jdk_42_method_155_code_1 rfl ?_
  obtain ⟨fm, hfm, hr⟩ := C.sio
  rcases hr with rfl | ⟨fa, rfl⟩
  · skip
    refine ok_getS G (host := "") (Or.inl (C.w45)) Via.refl hfm d_jdk_42_method_155_code_2 ?_
    refine ok_static G (argsL := [(.int i), (.int n), .null]) (rest := []) (C.w47) (C.w48) (C.w46) (C.w49) (by decide) pd8 (c_pci_n C hO hi) rfl rfl rfl d_jdk_42_method_155_code_5 (Nat.le_of_ble_eq_true rfl) (Nat.le_of_ble_eq_true rfl) (Nat.le_of_ble_eq_true rfl) (Nat.le_of_ble_eq_true rfl) (fun _ q => nomatch q) ?_
    rintro _ _ _ ⟨rfl, rfl⟩
    refine ok_as (mkF m 8 #[.val (.int i), .val (.int n)] [(.int i)]) rfl ?_
    refine ok_pop G d_jdk_42_method_155_code_8 rfl ?_
    exact ok_return G rfl d_jdk_42_method_155_code_9 ⟨rfl, rfl⟩ (Nat.le_of_ble_eq_true rfl) (Nat.le_of_ble_eq_true rfl)
  · skip
    refine ok_getS G (host := "") (Or.inl (C.w45)) Via.refl hfm d_jdk_42_method_155_code_2 ?_
    refine ok_static G (argsL := [(.int i), (.int n), (.ref fa)]) (rest := []) (C.w47) (C.w48) (C.w46) (C.w49) (by decide) pd8 (c_pci_r C hO hi) rfl rfl rfl d_jdk_42_method_155_code_5 (Nat.le_of_ble_eq_true rfl) (Nat.le_of_ble_eq_true rfl) (Nat.le_of_ble_eq_true rfl) (Nat.le_of_ble_eq_true rfl) (fun _ q => nomatch q) ?_
    rintro _ _ _ ⟨rfl, rfl⟩
    refine ok_as (mkF m 8 #[.val (.int i), .val (.int n)] [(.int i)]) rfl ?_
    refine ok_pop G d_jdk_42_method_155_code_8 rfl ?_
    exact ok_return G rfl d_jdk_42_method_155_code_9 ⟨rfl, rfl⟩ (Nat.le_of_ble_eq_true rfl) (Nat.le_of_ble_eq_true rfl)
theorem d_jdk_43_method_2_code_0 : decode jdk_43_method_2_code 0 = .ok (.iload_n 1, 1) := by decide +kernel
theorem d_jdk_43_method_2_code_1 : decode jdk_43_method_2_code 1 = .ok (.aload_n 0, 1) := by decide +kernel
theorem d_jdk_43_method_2_code_2 : decode jdk_43_method_2_code 2 = .ok (.arraylength, 1) := by decide +kernel
theorem d_jdk_43_method_2_code_3 : decode jdk_43_method_2_code 3 = .ok (.invokestatic 9, 3) := by decide +kernel
theorem pd9 : parseMethodDescriptor "(II)V" = some ⟨[.int, .int], none⟩ := by decide +kernel
theorem d_jdk_43_method_2_code_6 : decode jdk_43_method_2_code 6 = .ok (.aload_n 0, 1) := by decide +kernel
theorem d_jdk_43_method_2_code_7 : decode jdk_43_method_2_code 7 = .ok (.iload_n 1, 1) := by decide +kernel
theorem d_jdk_43_method_2_code_8 : decode jdk_43_method_2_code 8 = .ok (.baload, 1) := by decide +kernel
theorem d_jdk_43_method_2_code_9 : decode jdk_43_method_2_code 9 = .ok (.sipush 255, 3) := by decide +kernel
theorem d_jdk_43_method_2_code_12 : decode jdk_43_method_2_code 12 = .ok (.iand, 1) := by decide +kernel
theorem d_jdk_43_method_2_code_13 : decode jdk_43_method_2_code 13 = .ok (.i2c, 1) := by decide +kernel
theorem d_jdk_43_method_2_code_14 : decode jdk_43_method_2_code 14 = .ok (.ireturn, 1) := by decide +kernel
def R_c_l1at : Room := { frames := 2, cells := 0, slots := 0, locals := 27 }
theorem pl_b6 : plainFor (⟨"java/lang/StringLatin1", "charAt", "([BI)C"⟩ : MethodName) = true := plainFor_of_name (by first | (simp [plainName, overriddenIn]; done) | decide +kernel)
set_option maxRecDepth 65536 in
set_option maxHeartbeats 40000000 in
theorem c_l1at {l : Launch} {Z : State} {a0 : Array Value} {n0 : Nat} {h0 : Heap} (C : Cx Z a0) (hO : Old Z n0 h0) {t : Addr} {kb : ClassId} {i n ch : Int32} {vs : List Value} {dv : Value} (V : Arv Z h0 t kb .byte n vs dv) (hi : ¬ i < 0 ∧ i < n) (hv : vs.getD i.toNatClampNeg dv = lo8 ch) (hch : Lat ch) :
    Con false l Z [] n0 (⟨"java/lang/StringLatin1", "charAt", "([BI)C"⟩ : MethodName) jdk_43_method_2_code 2 (some .char) R_c_l1at #[(.ref t), (.int i)] h0 [] (fun v h => v = some (.int ch) ∧ h0 = h) := by
  refine Con.intro (a0 := a0) pl_b6 hO (fun q => nomatch q) ?_
  intro p e s m below meth c G
  refine ok_as (mkF m 0 #[.val (.ref t), .val (.int i)] []) (by first | rfl | (simp [entryFrame, mkF, argsToLocals, Value.category]; done)) ?_
  refine ok_iloadN G d_jdk_43_method_2_code_0 rfl ?_
  refine ok_aloadN G d_jdk_43_method_2_code_1 rfl rfl ?_
  refine ok_arraylength G V d_jdk_43_method_2_code_2 ?_
  refine ok_static G (argsL := [(.int i), (.int n)]) (rest := []) (C.w42) (C.w43) (C.w1) (C.w44) (by decide) pd9 (c_sci C hO hi) rfl rfl rfl d_jdk_43_method_2_code_3 (Nat.le_of_ble_eq_true rfl) (Nat.le_of_ble_eq_true rfl) (Nat.le_of_ble_eq_true rfl) (Nat.le_of_ble_eq_true rfl) (fun _ q => nomatch q) ?_
  rintro _ _ _ ⟨rfl, rfl⟩
  refine ok_as (mkF m 6 #[.val (.ref t), .val (.int i)] []) rfl ?_
  refine ok_aloadN G d_jdk_43_method_2_code_6 rfl rfl ?_
  refine ok_iloadN G d_jdk_43_method_2_code_7 rfl ?_
  refine ok_baload G ch.toInt8.toInt32 V hi hv d_jdk_43_method_2_code_8 ?_
  refine ok_sipush G (255 : Int32) d_jdk_43_method_2_code_9 rfl ?_
  refine ok_iand G d_jdk_43_method_2_code_12 ?_
  refine ok_i2c G d_jdk_43_method_2_code_13 ?_
  refine ok_sayI ch hch.back ?_
  exact ok_retN G rfl (by simp) d_jdk_43_method_2_code_14 (congrArg Value.int hch.nar) ⟨rfl, rfl⟩ (Nat.le_of_ble_eq_true rfl) (Nat.le_of_ble_eq_true rfl)
theorem d_jdk_42_method_154_code_0 : decode jdk_42_method_154_code 0 = .ok (.getstatic 38, 3) := by decide +kernel
theorem d_jdk_42_method_154_code_3 : decode jdk_42_method_154_code 3 = .ok (.ifCond .eq 14, 3) := by decide +kernel
theorem d_jdk_42_method_154_code_6 : decode jdk_42_method_154_code 6 = .ok (.aload_n 0, 1) := by decide +kernel
theorem d_jdk_42_method_154_code_7 : decode jdk_42_method_154_code 7 = .ok (.getfield 15, 3) := by decide +kernel
theorem d_jdk_42_method_154_code_10 : decode jdk_42_method_154_code 10 = .ok (.ifCond .ne 7, 3) := by decide +kernel
theorem d_jdk_42_method_154_code_13 : decode jdk_42_method_154_code 13 = .ok (.iconst 1, 1) := by decide +kernel
theorem d_jdk_42_method_154_code_14 : decode jdk_42_method_154_code 14 = .ok (.goto 4, 3) := by decide +kernel
theorem d_jdk_42_method_154_code_18 : decode jdk_42_method_154_code 18 = .ok (.ireturn, 1) := by decide +kernel
def R_c_isL1 : Room := { frames := 0, cells := 0, slots := 0, locals := 0 }
theorem pl_b5 : plainFor (⟨"java/lang/String", "isLatin1", "()Z"⟩ : MethodName) = true := plainFor_of_name (by first | (simp [plainName, overriddenIn]; done) | decide +kernel)
set_option maxRecDepth 65536 in
set_option maxHeartbeats 40000000 in
theorem c_isL1 {l : Launch} {Z : State} {a0 : Array Value} {n0 : Nat} {h0 : Heap} (C : Cx Z a0) (hO : Old Z n0 h0) {x t : Addr} {cs : List Int32} (S : LStr Z h0 x t cs) :
    Con false l Z [] n0 (⟨"java/lang/String", "isLatin1", "()Z"⟩ : MethodName) jdk_42_method_154_code 1 (some .boolean) R_c_isL1 #[(.ref x)] h0 [] (fun v h => v = some (.int 1) ∧ h0 = h) := by
  refine Con.intro (a0 := a0) pl_b5 hO (fun q => nomatch q) ?_
  intro p e s m below meth c G
  refine ok_as (mkF m 0 #[.val (.ref x)] []) (by first | rfl | (simp [entryFrame, mkF, argsToLocals, Value.category]; done)) ?_
  obtain ⟨E, FC, FV, ⟨kb, V⟩, hla, hle⟩ := S
  obtain ⟨cz, hCS, hcz⟩ := C.compact
  refine ok_getS G (host := "") (Or.inl (C.w19)) Via.refl hCS d_jdk_42_method_154_code_0 ?_
  refine ok_ifeqN G d_jdk_42_method_154_code_3 hcz ?_
  refine ok_aloadN G d_jdk_42_method_154_code_6 rfl rfl ?_
  refine ok_getF G (host := "") (Or.inl (C.w20)) Via.refl FC d_jdk_42_method_154_code_7 ?_
  refine ok_ifneN G d_jdk_42_method_154_code_10 (by decide) ?_
  refine ok_iconst G (1 : Int32) d_jdk_42_method_154_code_13 rfl ?_
  refine ok_goto G 18 d_jdk_42_method_154_code_14 (by decide) (by decide) ?_
  exact ok_retN G rfl (by simp) d_jdk_42_method_154_code_18 rfl ⟨rfl, rfl⟩ (Nat.le_of_ble_eq_true rfl) (Nat.le_of_ble_eq_true rfl)
theorem d_jdk_42_method_56_code_0 : decode jdk_42_method_56_code 0 = .ok (.aload_n 0, 1) := by decide +kernel
theorem d_jdk_42_method_56_code_1 : decode jdk_42_method_56_code 1 = .ok (.invokevirtual 492, 3) := by decide +kernel
theorem pd10 : parseMethodDescriptor "()Z" = some ⟨[], some .boolean⟩ := by decide +kernel
theorem d_jdk_42_method_56_code_4 : decode jdk_42_method_56_code 4 = .ok (.ifCond .eq 12, 3) := by decide +kernel
theorem d_jdk_42_method_56_code_7 : decode jdk_42_method_56_code 7 = .ok (.aload_n 0, 1) := by decide +kernel
theorem d_jdk_42_method_56_code_8 : decode jdk_42_method_56_code 8 = .ok (.getfield 9, 3) := by decide +kernel
theorem d_jdk_42_method_56_code_11 : decode jdk_42_method_56_code 11 = .ok (.iload_n 1, 1) := by decide +kernel
theorem d_jdk_42_method_56_code_12 : decode jdk_42_method_56_code 12 = .ok (.invokestatic 495, 3) := by decide +kernel
theorem pd11 : parseMethodDescriptor "([BI)C" = some ⟨[(.array .byte), .int], some .char⟩ := by decide +kernel
theorem d_jdk_42_method_56_code_15 : decode jdk_42_method_56_code 15 = .ok (.ireturn, 1) := by decide +kernel
def R_c_charAt : Room := { frames := 3, cells := 0, slots := 0, locals := 40 }
theorem pl_b4 : plainFor (⟨"java/lang/String", "charAt", "(I)C"⟩ : MethodName) = true := plainFor_of_name (by first | (simp [plainName, overriddenIn]; done) | decide +kernel)
set_option maxRecDepth 65536 in
set_option maxHeartbeats 40000000 in
theorem c_charAt {l : Launch} {Z : State} {a0 : Array Value} {n0 : Nat} {h0 : Heap} (C : Cx Z a0) (hO : Old Z n0 h0) {x t : Addr} {i ch : Int32} {cs : List Int32} (S : LStr Z h0 x t cs) (k : Nat) (hk : k < cs.length) (hki : i = Int32.ofNat k) (hck : cs.getD k 0 = ch) :
    Con false l Z [] n0 (⟨"java/lang/String", "charAt", "(I)C"⟩ : MethodName) jdk_42_method_56_code 2 (some .char) R_c_charAt #[(.ref x), (.int i)] h0 [] (fun v h => v = some (.int ch) ∧ h0 = h) := by
  refine Con.intro (a0 := a0) pl_b4 hO (fun q => nomatch q) ?_
  intro p e s m below meth c G
  refine ok_as (mkF m 0 #[.val (.ref x), .val (.int i)] []) (by first | rfl | (simp [entryFrame, mkF, argsToLocals, Value.category]; done)) ?_
  obtain ⟨E, FC, FV, ⟨kb, V⟩, hla, hle⟩ := id S
  have hch : Lat ch := by rw [← hck]; exact hla _ (getD_mem hk)
  have hi : ¬ i < 0 ∧ i < Int32.ofNat cs.length := by subst hki; exact ⟨i32_nn (by omega), (i32_lt (by omega) (by omega)).mpr hk⟩
  have hv : (cs.map lo8).getD i.toNatClampNeg (.int 0) = lo8 ch := by subst hki hck; rw [i32_clamp (by omega)]; exact getD_map hk
  refine ok_aloadN G d_jdk_42_method_56_code_0 rfl rfl ?_
  refine ok_virtual G (a := x) (y0 := (⟨"java/lang/String", "isLatin1", "()Z"⟩ : MethodName)) (y := (⟨"java/lang/String", "isLatin1", "()Z"⟩ : MethodName)) (argsL := []) (rest := []) E (C.w33) (C.w34) (C.w36) (fun vm hZ => notFace_of_selects (args := #[]) (mvT (s := s.setVm vm) hZ (C.w36))) (C.w35) (C.w1) (C.w37) (by decide) pd10 (c_isL1 C hO S) rfl rfl rfl d_jdk_42_method_56_code_1 (Nat.le_of_ble_eq_true rfl) (Nat.le_of_ble_eq_true rfl) (Nat.le_of_ble_eq_true rfl) (Nat.le_of_ble_eq_true rfl) (fun _ q => nomatch q) ?_
  rintro _ _ _ ⟨rfl, rfl⟩
  refine ok_as (mkF m 4 #[.val (.ref x), .val (.int i)] [(.int (1 : Int32))]) rfl ?_
  refine ok_ifeqN G d_jdk_42_method_56_code_4 (by decide) ?_
  refine ok_aloadN G d_jdk_42_method_56_code_7 rfl rfl ?_
  refine ok_getF G (host := "") (Or.inl (C.w13)) Via.refl FV d_jdk_42_method_56_code_8 ?_
  refine ok_iloadN G d_jdk_42_method_56_code_11 rfl ?_
  refine ok_static G (argsL := [(.ref t), (.int i)]) (rest := []) (C.w38) (C.w39) (C.w40) (C.w41) (by decide) pd11 (c_l1at (ch := ch) C hO V hi hv hch) rfl rfl rfl d_jdk_42_method_56_code_12 (Nat.le_of_ble_eq_true rfl) (Nat.le_of_ble_eq_true rfl) (Nat.le_of_ble_eq_true rfl) (Nat.le_of_ble_eq_true rfl) (fun _ q => nomatch q) ?_
  rintro _ _ _ ⟨rfl, rfl⟩
  refine ok_as (mkF m 15 #[.val (.ref x), .val (.int i)] [(.int ch)]) rfl ?_
  exact ok_retN G rfl (by simp) d_jdk_42_method_56_code_15 (congrArg Value.int hch.nar) ⟨rfl, rfl⟩ (Nat.le_of_ble_eq_true rfl) (Nat.le_of_ble_eq_true rfl)
theorem d_jdk_43_method_13_code_0 : decode jdk_43_method_13_code 0 = .ok (.aload_n 0, 1) := by decide +kernel
theorem d_jdk_43_method_13_code_1 : decode jdk_43_method_13_code 1 = .ok (.arraylength, 1) := by decide +kernel
theorem d_jdk_43_method_13_code_2 : decode jdk_43_method_13_code 2 = .ok (.aload_n 1, 1) := by decide +kernel
theorem d_jdk_43_method_13_code_3 : decode jdk_43_method_13_code 3 = .ok (.arraylength, 1) := by decide +kernel
theorem d_jdk_43_method_13_code_4 : decode jdk_43_method_13_code 4 = .ok (.if_icmp .ne 30, 3) := by decide +kernel
theorem d_jdk_43_method_13_code_34 : decode jdk_43_method_13_code 34 = .ok (.iconst 0, 1) := by decide +kernel
theorem d_jdk_43_method_13_code_35 : decode jdk_43_method_13_code 35 = .ok (.ireturn, 1) := by decide +kernel
theorem d_jdk_43_method_13_code_7 : decode jdk_43_method_13_code 7 = .ok (.iconst 0, 1) := by decide +kernel
theorem d_jdk_43_method_13_code_8 : decode jdk_43_method_13_code 8 = .ok (.istore_n 2, 1) := by decide +kernel
theorem d_jdk_43_method_13_code_9 : decode jdk_43_method_13_code 9 = .ok (.iload_n 2, 1) := by decide +kernel
theorem d_jdk_43_method_13_code_10 : decode jdk_43_method_13_code 10 = .ok (.aload_n 0, 1) := by decide +kernel
theorem d_jdk_43_method_13_code_11 : decode jdk_43_method_13_code 11 = .ok (.arraylength, 1) := by decide +kernel
theorem d_jdk_43_method_13_code_12 : decode jdk_43_method_13_code 12 = .ok (.if_icmp .ge 20, 3) := by decide +kernel
theorem d_jdk_43_method_13_code_32 : decode jdk_43_method_13_code 32 = .ok (.iconst 1, 1) := by decide +kernel
theorem d_jdk_43_method_13_code_33 : decode jdk_43_method_13_code 33 = .ok (.ireturn, 1) := by decide +kernel
theorem d_jdk_43_method_13_code_15 : decode jdk_43_method_13_code 15 = .ok (.aload_n 0, 1) := by decide +kernel
theorem d_jdk_43_method_13_code_16 : decode jdk_43_method_13_code 16 = .ok (.iload_n 2, 1) := by decide +kernel
theorem d_jdk_43_method_13_code_17 : decode jdk_43_method_13_code 17 = .ok (.baload, 1) := by decide +kernel
theorem d_jdk_43_method_13_code_18 : decode jdk_43_method_13_code 18 = .ok (.aload_n 1, 1) := by decide +kernel
theorem d_jdk_43_method_13_code_19 : decode jdk_43_method_13_code 19 = .ok (.iload_n 2, 1) := by decide +kernel
theorem d_jdk_43_method_13_code_20 : decode jdk_43_method_13_code 20 = .ok (.baload, 1) := by decide +kernel
theorem d_jdk_43_method_13_code_21 : decode jdk_43_method_13_code 21 = .ok (.if_icmp .eq 5, 3) := by decide +kernel
theorem d_jdk_43_method_13_code_26 : decode jdk_43_method_13_code 26 = .ok (.iinc 2 1, 3) := by decide +kernel
theorem d_jdk_43_method_13_code_29 : decode jdk_43_method_13_code 29 = .ok (.goto (-20), 3) := by decide +kernel
theorem d_jdk_43_method_13_code_24 : decode jdk_43_method_13_code 24 = .ok (.iconst 0, 1) := by decide +kernel
theorem d_jdk_43_method_13_code_25 : decode jdk_43_method_13_code 25 = .ok (.ireturn, 1) := by decide +kernel
def R_c_leq : Room := { frames := 0, cells := 0, slots := 0, locals := 0 }
theorem pl_b18 : plainFor (⟨"java/lang/StringLatin1", "equals", "([B[B)Z"⟩ : MethodName) = true := plainFor_of_name (by first | (simp [plainName, overriddenIn]; done) | decide +kernel)
set_option maxRecDepth 65536 in
set_option maxHeartbeats 40000000 in
theorem c_leq {l : Launch} {Z : State} {a0 : Array Value} {n0 : Nat} {h0 : Heap} (C : Cx Z a0) (hO : Old Z n0 h0) {t u : Addr} {kb ku : ClassId} {cs ds : List Int32} (V : Arv Z h0 t kb .byte (Int32.ofNat cs.length) (cs.map lo8) (.int 0)) (U : Arv Z h0 u ku .byte (Int32.ofNat ds.length) (ds.map lo8) (.int 0)) (hc : ∀ c ∈ cs, Lat c) (hd : ∀ c ∈ ds, Lat c) (hle : cs.length ≤ 16) (hle2 : ds.length ≤ 16) :
    Con false l Z [] n0 (⟨"java/lang/StringLatin1", "equals", "([B[B)Z"⟩ : MethodName) jdk_43_method_13_code 3 (some .boolean) R_c_leq #[(.ref t), (.ref u)] h0 [] (fun v h => v = some (.int (if cs = ds then 1 else 0)) ∧ h0 = h) := by
  refine Con.intro (a0 := a0) pl_b18 hO (fun q => nomatch q) ?_
  intro p e s m below meth c G
  refine ok_as (mkF m 0 #[.val (.ref t), .val (.ref u), .unset] []) (by first | rfl | (simp [entryFrame, mkF, argsToLocals, Value.category]; done)) ?_
  refine ok_aloadN G d_jdk_43_method_13_code_0 rfl rfl ?_
  refine ok_arraylength G V d_jdk_43_method_13_code_1 ?_
  refine ok_aloadN G d_jdk_43_method_13_code_2 rfl rfl ?_
  refine ok_arraylength G U d_jdk_43_method_13_code_3 ?_
  refine ok_icmpne G 34 d_jdk_43_method_13_code_4 (by decide) (by decide) (fun cq1 => ?_) (fun cq1 => ?_)
  · skip
    refine ok_iconst G (0 : Int32) d_jdk_43_method_13_code_34 rfl ?_
    exact ok_retN G rfl (by simp) d_jdk_43_method_13_code_35 rfl ⟨by rw [if_neg (fun q => cq1 (by rw [q]))], rfl⟩ (Nat.le_of_ble_eq_true rfl) (Nat.le_of_ble_eq_true rfl)
  · skip
    refine ok_iconst G (0 : Int32) d_jdk_43_method_13_code_7 rfl ?_
    refine ok_istoreN G #[.val (.ref t), .val (.ref u), .val (.int (0 : Int32))] d_jdk_43_method_13_code_8 rfl ?_
    have hcd : cs.length = ds.length := (i32_eq (by omega) (by omega)).mp cq1
    refine ok_loop (A := List Int32 × List Int32 × List Int32) (fun q => q.2.1.length) (fun q => q.1 ++ q.2.1 = cs ∧ q.1 ++ q.2.2 = ds) (fun _ => h0) (fun q => mkF m 9 #[.val (.ref t), .val (.ref u), .val (.int (Int32.ofNat q.1.length))] []) ?_ ([], cs, ds) ⟨rfl, rfl⟩
    rintro ⟨pre, p1, p2⟩ ⟨hcs, hds⟩ ih
    dsimp only at hcs hds ih ⊢
    cases p1 with
    | nil =>
      have hp2 : p2 = [] := by cases p2 with | nil => rfl | cons d p2 => (exfalso; rw [← hcs, ← hds] at hcd; simp at hcd)
      subst hp2
      have hcd2 : cs = ds := by rw [← hcs, ← hds]
      have hge : ¬ pre.length < cs.length := by rw [← hcs]; simp
      have hpc : pre.length ≤ cs.length := by rw [← hcs]; simp
      refine ok_iloadN G d_jdk_43_method_13_code_9 rfl ?_
      refine ok_aloadN G d_jdk_43_method_13_code_10 rfl rfl ?_
      refine ok_arraylength G V d_jdk_43_method_13_code_11 ?_
      refine ok_icmpgeY G 32 d_jdk_43_method_13_code_12 (by decide) (by decide) (by rw [i32_lt (by omega) (by omega)]; exact hge) ?_
      refine ok_iconst G (1 : Int32) d_jdk_43_method_13_code_32 rfl ?_
      exact ok_retN G rfl (by simp) d_jdk_43_method_13_code_33 rfl ⟨by rw [if_pos hcd2], rfl⟩ (Nat.le_of_ble_eq_true rfl) (Nat.le_of_ble_eq_true rfl)
    | cons ch p1 =>
      obtain ⟨dh, p2, rfl⟩ : ∃ dh q, p2 = dh :: q := by cases p2 with | nil => (exfalso; rw [← hcs, ← hds] at hcd; simp at hcd) | cons d p2 => exact ⟨d, p2, rfl⟩
      have hlt : pre.length < cs.length := by rw [← hcs]; simp
      have hlc : Lat ch := hc ch (by rw [← hcs]; simp)
      have hld : Lat dh := hd dh (by rw [← hds]; simp)
      refine ok_iloadN G d_jdk_43_method_13_code_9 rfl ?_
      refine ok_aloadN G d_jdk_43_method_13_code_10 rfl rfl ?_
      refine ok_arraylength G V d_jdk_43_method_13_code_11 ?_
      refine ok_icmpgeN G d_jdk_43_method_13_code_12 ((i32_lt (by omega) (by omega)).mpr hlt) ?_
      refine ok_aloadN G d_jdk_43_method_13_code_15 rfl rfl ?_
      refine ok_iloadN G d_jdk_43_method_13_code_16 rfl ?_
      refine ok_baload G ch.toInt8.toInt32 V ⟨i32_nn (by omega), (i32_lt (by omega) (by omega)).mpr hlt⟩ (by rw [i32_clamp (by omega), ← hcs]; exact getD_mid _ _ _ _ _) d_jdk_43_method_13_code_17 ?_
      refine ok_aloadN G d_jdk_43_method_13_code_18 rfl rfl ?_
      refine ok_iloadN G d_jdk_43_method_13_code_19 rfl ?_
      refine ok_baload G dh.toInt8.toInt32 U ⟨i32_nn (by omega), (i32_lt (by omega) (by omega)).mpr (by omega)⟩ (by rw [i32_clamp (by omega), ← hds]; exact getD_mid _ _ _ _ _) d_jdk_43_method_13_code_20 ?_
      refine ok_icmpeq G 26 d_jdk_43_method_13_code_21 (by decide) (by decide) (fun cq2 => ?_) (fun cq2 => ?_)
      · skip
        refine ok_iinc G ((Int32.ofNat pre.length) + (1 : Int32)) #[.val (.ref t), .val (.ref u), .val (.int ((Int32.ofNat pre.length) + (1 : Int32)))] d_jdk_43_method_13_code_26 rfl rfl rfl ?_
        refine ok_goto G 9 d_jdk_43_method_13_code_29 (by decide) (by decide) ?_
        have hcd3 : ch = dh := hlc.inj hld cq2
        subst hcd3
        have e1 : Int32.ofNat pre.length + (1 : Int32) = Int32.ofNat (pre ++ [ch]).length := by rw [i32_succ]; simp
        rw [e1]
        exact ih (pre ++ [ch], p1, p2) (by simp) ⟨by simpa using hcs, by simpa using hds⟩
      · skip
        refine ok_iconst G (0 : Int32) d_jdk_43_method_13_code_24 rfl ?_
        exact ok_retN G rfl (by simp) d_jdk_43_method_13_code_25 rfl ⟨by rw [if_neg (fun q => cq2 (by rw [show ch = dh from own_mid (hcs.trans (q.trans hds.symm))]))], rfl⟩ (Nat.le_of_ble_eq_true rfl) (Nat.le_of_ble_eq_true rfl)
theorem d_jdk_42_method_66_code_0 : decode jdk_42_method_66_code 0 = .ok (.aload_n 0, 1) := by decide +kernel
theorem d_jdk_42_method_66_code_1 : decode jdk_42_method_66_code 1 = .ok (.aload_n 1, 1) := by decide +kernel
theorem d_jdk_42_method_66_code_2 : decode jdk_42_method_66_code 2 = .ok (.if_acmp .ne 5, 3) := by decide +kernel
theorem d_jdk_42_method_66_code_7 : decode jdk_42_method_66_code 7 = .ok (.aload_n 1, 1) := by decide +kernel
theorem d_jdk_42_method_66_code_8 : decode jdk_42_method_66_code 8 = .ok (.instanceof 10, 3) := by decide +kernel
theorem d_jdk_42_method_66_code_11 : decode jdk_42_method_66_code 11 = .ok (.ifCond .eq 43, 3) := by decide +kernel
theorem d_jdk_42_method_66_code_14 : decode jdk_42_method_66_code 14 = .ok (.aload_n 1, 1) := by decide +kernel
theorem d_jdk_42_method_66_code_15 : decode jdk_42_method_66_code 15 = .ok (.checkcast 10, 3) := by decide +kernel
theorem d_jdk_42_method_66_code_18 : decode jdk_42_method_66_code 18 = .ok (.astore_n 2, 1) := by decide +kernel
theorem d_jdk_42_method_66_code_19 : decode jdk_42_method_66_code 19 = .ok (.getstatic 38, 3) := by decide +kernel
theorem d_jdk_42_method_66_code_22 : decode jdk_42_method_66_code 22 = .ok (.ifCond .eq 14, 3) := by decide +kernel
theorem d_jdk_42_method_66_code_25 : decode jdk_42_method_66_code 25 = .ok (.aload_n 0, 1) := by decide +kernel
theorem d_jdk_42_method_66_code_26 : decode jdk_42_method_66_code 26 = .ok (.getfield 15, 3) := by decide +kernel
theorem d_jdk_42_method_66_code_29 : decode jdk_42_method_66_code 29 = .ok (.aload_n 2, 1) := by decide +kernel
theorem d_jdk_42_method_66_code_30 : decode jdk_42_method_66_code 30 = .ok (.getfield 15, 3) := by decide +kernel
theorem d_jdk_42_method_66_code_33 : decode jdk_42_method_66_code 33 = .ok (.if_icmp .ne 21, 3) := by decide +kernel
theorem d_jdk_42_method_66_code_36 : decode jdk_42_method_66_code 36 = .ok (.aload_n 0, 1) := by decide +kernel
theorem d_jdk_42_method_66_code_37 : decode jdk_42_method_66_code 37 = .ok (.getfield 9, 3) := by decide +kernel
theorem d_jdk_42_method_66_code_40 : decode jdk_42_method_66_code 40 = .ok (.aload_n 2, 1) := by decide +kernel
theorem d_jdk_42_method_66_code_41 : decode jdk_42_method_66_code 41 = .ok (.getfield 9, 3) := by decide +kernel
theorem d_jdk_42_method_66_code_44 : decode jdk_42_method_66_code 44 = .ok (.invokestatic 541, 3) := by decide +kernel
theorem pd12 : parseMethodDescriptor "([B[B)Z" = some ⟨[(.array .byte), (.array .byte)], some .boolean⟩ := by decide +kernel
theorem d_jdk_42_method_66_code_47 : decode jdk_42_method_66_code 47 = .ok (.ifCond .eq 7, 3) := by decide +kernel
theorem d_jdk_42_method_66_code_54 : decode jdk_42_method_66_code 54 = .ok (.iconst 0, 1) := by decide +kernel
theorem d_jdk_42_method_66_code_55 : decode jdk_42_method_66_code 55 = .ok (.ireturn, 1) := by decide +kernel
theorem d_jdk_42_method_66_code_50 : decode jdk_42_method_66_code 50 = .ok (.iconst 1, 1) := by decide +kernel
theorem d_jdk_42_method_66_code_51 : decode jdk_42_method_66_code 51 = .ok (.goto 4, 3) := by decide +kernel
def R_c_eqne : Room := { frames := 1, cells := 0, slots := 0, locals := 14 }
theorem pl_b17 : plainFor (⟨"java/lang/String", "equals", "(Ljava/lang/Object;)Z"⟩ : MethodName) = true := plainFor_of_name (by first | (simp [plainName, overriddenIn]; done) | decide +kernel)
set_option maxRecDepth 65536 in
set_option maxHeartbeats 40000000 in
theorem c_eqne {l : Launch} {Z : State} {a0 : Array Value} {n0 : Nat} {h0 : Heap} (C : Cx Z a0) (hO : Old Z n0 h0) {x y t u : Addr} {cs ds : List Int32} (S : LStr Z h0 x t cs) (S2 : LStr Z h0 y u ds) (hxy : x ≠ y) :
    Con false l Z [] n0 (⟨"java/lang/String", "equals", "(Ljava/lang/Object;)Z"⟩ : MethodName) jdk_42_method_66_code 3 (some .boolean) R_c_eqne #[(.ref x), (.ref y)] h0 [] (fun v h => v = some (.int (if cs = ds then 1 else 0)) ∧ h0 = h) := by
  refine Con.intro (a0 := a0) pl_b17 hO (fun q => nomatch q) ?_
  intro p e s m below meth c G
  refine ok_as (mkF m 0 #[.val (.ref x), .val (.ref y), .unset] []) (by first | rfl | (simp [entryFrame, mkF, argsToLocals, Value.category]; done)) ?_
  obtain ⟨E, FC, FV, ⟨kb, V⟩, hla, hle⟩ := S
  obtain ⟨E2, FC2, FV2, ⟨kb2, V2⟩, hla2, hle2⟩ := S2
  refine ok_aloadN G d_jdk_42_method_66_code_0 rfl rfl ?_
  refine ok_aloadN G d_jdk_42_method_66_code_1 rfl rfl ?_
  refine ok_acmp G false 7 d_jdk_42_method_66_code_2 rfl rfl (decide_eq_false fun q => hxy (Value.ref.inj q)) (by decide) (by decide) ?_
  refine ok_aloadN G d_jdk_42_method_66_code_7 rfl rfl ?_
  refine ok_instanceof G (C.w98) (Ins.self E2) d_jdk_42_method_66_code_8 ?_
  refine ok_ifeqN G d_jdk_42_method_66_code_11 (by decide) ?_
  refine ok_aloadN G d_jdk_42_method_66_code_14 rfl rfl ?_
  refine ok_checkcast G (C.w98) (Ins.self E2) d_jdk_42_method_66_code_15 ?_
  refine ok_astoreN G #[.val (.ref x), .val (.ref y), .val (.ref y)] d_jdk_42_method_66_code_18 rfl rfl ?_
  obtain ⟨cz, hCS, hcz⟩ := C.compact
  refine ok_getS G (host := "") (Or.inl (C.w19)) Via.refl hCS d_jdk_42_method_66_code_19 ?_
  refine ok_ifeqN G d_jdk_42_method_66_code_22 hcz ?_
  refine ok_aloadN G d_jdk_42_method_66_code_25 rfl rfl ?_
  refine ok_getF G (host := "") (Or.inl (C.w20)) Via.refl FC d_jdk_42_method_66_code_26 ?_
  refine ok_aloadN G d_jdk_42_method_66_code_29 rfl rfl ?_
  refine ok_getF G (host := "") (Or.inl (C.w20)) Via.refl FC2 d_jdk_42_method_66_code_30 ?_
  refine ok_icmpneN G d_jdk_42_method_66_code_33 (by decide) ?_
  refine ok_aloadN G d_jdk_42_method_66_code_36 rfl rfl ?_
  refine ok_getF G (host := "") (Or.inl (C.w13)) Via.refl FV d_jdk_42_method_66_code_37 ?_
  refine ok_aloadN G d_jdk_42_method_66_code_40 rfl rfl ?_
  refine ok_getF G (host := "") (Or.inl (C.w13)) Via.refl FV2 d_jdk_42_method_66_code_41 ?_
  refine ok_static G (argsL := [(.ref t), (.ref u)]) (rest := []) (C.w99) (C.w100) (C.w40) (C.w101) (by decide) pd12 (c_leq C hO V V2 hla hla2 hle hle2) rfl rfl rfl d_jdk_42_method_66_code_44 (Nat.le_of_ble_eq_true rfl) (Nat.le_of_ble_eq_true rfl) (Nat.le_of_ble_eq_true rfl) (Nat.le_of_ble_eq_true rfl) (fun _ q => nomatch q) ?_
  rintro _ _ _ ⟨rfl, rfl⟩
  refine ok_as (mkF m 47 #[.val (.ref x), .val (.ref y), .val (.ref y)] [(.int (if cs = ds then (1 : Int32) else 0))]) rfl ?_
  refine ok_ifeq G 54 d_jdk_42_method_66_code_47 (by decide) (by decide) (fun cq3 => ?_) (fun cq3 => ?_)
  · skip
    refine ok_iconst G (0 : Int32) d_jdk_42_method_66_code_54 rfl ?_
    exact ok_retN G rfl (by simp) d_jdk_42_method_66_code_55 rfl ⟨by rw [if_neg (own_if0 cq3)], rfl⟩ (Nat.le_of_ble_eq_true rfl) (Nat.le_of_ble_eq_true rfl)
  · skip
    refine ok_iconst G (1 : Int32) d_jdk_42_method_66_code_50 rfl ?_
    refine ok_goto G 55 d_jdk_42_method_66_code_51 (by decide) (by decide) ?_
    exact ok_retN G rfl (by simp) d_jdk_42_method_66_code_55 rfl ⟨by rw [if_pos (own_if1 cq3)], rfl⟩ (Nat.le_of_ble_eq_true rfl) (Nat.le_of_ble_eq_true rfl)
theorem d_jdk_42_method_66_code_5 : decode jdk_42_method_66_code 5 = .ok (.iconst 1, 1) := by decide +kernel
theorem d_jdk_42_method_66_code_6 : decode jdk_42_method_66_code 6 = .ok (.ireturn, 1) := by decide +kernel
set_option maxRecDepth 65536 in
set_option maxHeartbeats 40000000 in
theorem c_eqs {l : Launch} {Z : State} {a0 : Array Value} {n0 : Nat} {h0 : Heap} (C : Cx Z a0) (hO : Old Z n0 h0) {x : Addr} :
    Con false l Z [] n0 (⟨"java/lang/String", "equals", "(Ljava/lang/Object;)Z"⟩ : MethodName) jdk_42_method_66_code 3 (some .boolean) R_c_eqne #[(.ref x), (.ref x)] h0 [] (fun v h => v = some (.int 1) ∧ h0 = h) := by
  refine Con.intro (a0 := a0) pl_b17 hO (fun q => nomatch q) ?_
  intro p e s m below meth c G
  refine ok_as (mkF m 0 #[.val (.ref x), .val (.ref x), .unset] []) (by first | rfl | (simp [entryFrame, mkF, argsToLocals, Value.category]; done)) ?_
  refine ok_aloadN G d_jdk_42_method_66_code_0 rfl rfl ?_
  refine ok_aloadN G d_jdk_42_method_66_code_1 rfl rfl ?_
  refine ok_acmp G true 5 d_jdk_42_method_66_code_2 rfl rfl (decide_eq_true rfl) (by decide) (by decide) ?_
  refine ok_iconst G (1 : Int32) d_jdk_42_method_66_code_5 rfl ?_
  exact ok_retN G rfl (by simp) d_jdk_42_method_66_code_6 rfl ⟨rfl, rfl⟩ (Nat.le_of_ble_eq_true rfl) (Nat.le_of_ble_eq_true rfl)
theorem c_eq {l : Launch} {Z : State} {a0 : Array Value} {n0 : Nat} {h0 : Heap} (C : Cx Z a0) (hO : Old Z n0 h0) {x y t u : Addr} {cs ds : List Int32} (S : LStr Z h0 x t cs) (S2 : LStr Z h0 y u ds) :
    Con false l Z [] n0 (⟨"java/lang/String", "equals", "(Ljava/lang/Object;)Z"⟩ : MethodName) jdk_42_method_66_code 3 (some .boolean) R_c_eqne #[(.ref x), (.ref y)] h0 [] (fun v h => v = some (.int (if cs = ds then 1 else 0)) ∧ h0 = h) := by
  by_cases hxy : x = y
  · subst hxy
    have e := S.det S2
    subst e
    rw [if_pos rfl]
    exact c_eqs C hO
  · exact c_eqne C hO S S2 hxy
theorem d_prog_25_method_1_code_0 : decode prog_25_method_1_code 0 = .ok (.getstatic 10, 3) := by decide +kernel
theorem d_prog_25_method_1_code_3 : decode prog_25_method_1_code 3 = .ok (.invokevirtual 14, 3) := by decide +kernel
theorem d_prog_25_method_1_code_6 : decode prog_25_method_1_code 6 = .ok (.checkcast 15, 3) := by decide +kernel
theorem d_prog_25_method_1_code_9 : decode prog_25_method_1_code 9 = .ok (.areturn, 1) := by decide +kernel
def R_c_values : Room := { frames := 1, cells := 1, slots := 2, locals := 14 }
theorem pl_b16 : plainFor (⟨"com/example/tenon/tenon/model/SourceSet$Type", "values", "()[Lcom/example/tenon/tenon/model/SourceSet$Type;"⟩ : MethodName) = true := plainFor_of_name (by first | (simp [plainName, overriddenIn]; done) | decide +kernel)
set_option maxRecDepth 65536 in
set_option maxHeartbeats 40000000 in
theorem c_values {l : Launch} {Z : State} {a0 : Array Value} {n0 : Nat} {h0 : Heap} (C : Cx Z a0) (hO : Old Z n0 h0) {va ja re jw jt rw rt oe : Addr} (HT : Typ Z va ja re jw jt rw rt oe) :
    Con false l Z [] n0 (⟨"com/example/tenon/tenon/model/SourceSet$Type", "values", "()[Lcom/example/tenon/tenon/model/SourceSet$Type;"⟩ : MethodName) prog_25_method_1_code 0 (some (.array (.object "com/example/tenon/tenon/model/SourceSet$Type"))) R_c_values #[] h0 [] (fun v h => ∃ b kb, v = some (.ref b) ∧ h0.size ≤ b ∧ Arv Z h b kb (.object "com/example/tenon/tenon/model/SourceSet$Type") (2 : Int32) [.ref ja, .ref re] .null) := by
  refine Con.intro (a0 := a0) pl_b16 hO (fun q => nomatch q) ?_
  intro p e s m below meth c G
  refine ok_as (mkF m 0 #[] []) (by first | rfl | (simp [entryFrame, mkF, argsToLocals, Value.category]; done)) ?_
  obtain ⟨⟨sV, sJ, sR, sO⟩, ⟨kv, VA0⟩, EV0, EJ0, ER0, FJ0, FR0, SJ0, SR0, EO0, FO0⟩ := id HT
  have VA := VA0.ext hO.2
  have EV := EV0.ext hO.2
  have EJ := EJ0.ext hO.2
  have ER := ER0.ext hO.2
  have FJ := FJ0.ext hO.2
  have FR := FR0.ext hO.2
  have EO := EO0.ext hO.2
  have FO := FO0.ext hO.2
  have SJ := SJ0.keep ((Keep.refl _ []).ext hO.2) nin0 nin0
  have SR := SR0.keep ((Keep.refl _ []).ext hO.2) nin0 nin0
  refine ok_getS G (host := "") (Or.inl (C.w77)) Via.refl sV d_prog_25_method_1_code_0 ?_
  refine ok_clone G 2 (C.w79) (C.w80) (C.w84) (C.w82) (C.w83) (C.w85) VA EV rfl d_prog_25_method_1_code_3 (Nat.le_of_ble_eq_true rfl) (Nat.le_of_ble_eq_true rfl) (by decide) (Nat.le_of_ble_eq_true rfl) (Nat.le_of_ble_eq_true rfl) ?_
  intro hp1 ob3 eq_ob3 K2 g_ob3 lb_ob3 V_ob3 E_ob3
  refine ok_checkcast G (C.w89) (Ins.self E_ob3) d_prog_25_method_1_code_6 ?_
  exact ok_retA G rfl rfl rfl d_prog_25_method_1_code_9 rfl ⟨_, _, rfl, lb_ob3, V_ob3⟩ (Nat.le_of_ble_eq_true rfl) (Nat.le_of_ble_eq_true rfl)
theorem d_jdk_32_method_2_code_0 : decode jdk_32_method_2_code 0 = .ok (.aload_n 0, 1) := by decide +kernel
theorem d_jdk_32_method_2_code_1 : decode jdk_32_method_2_code 1 = .ok (.invokespecial 7, 3) := by decide +kernel
theorem d_jdk_32_method_2_code_4 : decode jdk_32_method_2_code 4 = .ok (.aload_n 0, 1) := by decide +kernel
theorem d_jdk_32_method_2_code_5 : decode jdk_32_method_2_code 5 = .ok (.aload_n 1, 1) := by decide +kernel
theorem d_jdk_32_method_2_code_6 : decode jdk_32_method_2_code 6 = .ok (.putfield 13, 3) := by decide +kernel
theorem d_jdk_32_method_2_code_9 : decode jdk_32_method_2_code 9 = .ok (.return_, 1) := by decide +kernel
def R_c_oini : Room := { frames := 1, cells := 0, slots := 0, locals := 12 }
theorem pl_b23 : plainFor (⟨"java/util/Optional", "<init>", "(Ljava/lang/Object;)V"⟩ : MethodName) = true := plainFor_of_name (by first | (simp [plainName, overriddenIn]; done) | decide +kernel)
set_option maxRecDepth 65536 in
set_option maxHeartbeats 40000000 in
theorem c_oini {l : Launch} {Z : State} {a0 : Array Value} {n0 : Nat} {h0 : Heap} (C : Cx Z a0) (hO : Old Z n0 h0) {x d : Addr} (E : Exa Z h0 x "java/util/Optional") (F : Fld Z h0 x "java/util/Optional" "value" "Ljava/lang/Object;" .null) (g_x : n0 ≤ x) :
    Con false l Z [] n0 (⟨"java/util/Optional", "<init>", "(Ljava/lang/Object;)V"⟩ : MethodName) jdk_32_method_2_code 2 none R_c_oini #[(.ref x), (.ref d)] h0 [x] (fun v h => v = none ∧ Fld Z h x "java/util/Optional" "value" "Ljava/lang/Object;" (.ref d)) := by
  refine Con.intro (a0 := a0) pl_b23 hO (fun q => nomatch q) ?_
  intro p e s m below meth c G
  refine ok_as (mkF m 0 #[.val (.ref x), .val (.ref d)] []) (by first | rfl | (simp [entryFrame, mkF, argsToLocals, Value.category]; done)) ?_
  refine ok_aloadN G d_jdk_32_method_2_code_0 rfl rfl ?_
  refine ok_initO G (C.w130) (C.w58) (C.w59) rfl d_jdk_32_method_2_code_1 (Nat.le_of_ble_eq_true rfl) (Nat.le_of_ble_eq_true rfl) ?_
  refine ok_aloadN G d_jdk_32_method_2_code_4 rfl rfl ?_
  refine ok_aloadN G d_jdk_32_method_2_code_5 rfl rfl ?_
  refine ok_putF G (host := "") (Or.inl (C.w112)) Via.refl F E (Or.inr ⟨(C.w113), rfl, rfl⟩) (C.w121) (ty := (.object "java/lang/Object")) (by decide) rfl rfl d_jdk_32_method_2_code_6 g_x (Or.inl (List.mem_of_getElem? (i := 0) rfl)) SafeFor.narrow ?_
  intro hp1 K2 Wn Fn
  replace E := E.keep K2
  replace F : Fld Z hp1 x "java/util/Optional" "value" "Ljava/lang/Object;" (.ref d) := Fn
  clear Wn Fn
  exact ok_return G rfl d_jdk_32_method_2_code_9 ⟨rfl, F⟩ (Nat.le_of_ble_eq_true rfl) (Nat.le_of_ble_eq_true rfl)
theorem d_jdk_31_method_10_code_0 : decode jdk_31_method_10_code 0 = .ok (.aload_n 0, 1) := by decide +kernel
theorem d_jdk_31_method_10_code_1 : decode jdk_31_method_10_code 1 = .ok (.ifnonnull 11, 3) := by decide +kernel
theorem d_jdk_31_method_10_code_12 : decode jdk_31_method_10_code 12 = .ok (.aload_n 0, 1) := by decide +kernel
theorem d_jdk_31_method_10_code_13 : decode jdk_31_method_10_code 13 = .ok (.areturn, 1) := by decide +kernel
def R_c_rnn1 : Room := { frames := 0, cells := 0, slots := 0, locals := 0 }
theorem pl_b22 : plainFor (⟨"java/util/Objects", "requireNonNull", "(Ljava/lang/Object;)Ljava/lang/Object;"⟩ : MethodName) = true := plainFor_of_name (by first | (simp [plainName, overriddenIn]; done) | decide +kernel)
set_option maxRecDepth 65536 in
set_option maxHeartbeats 40000000 in
theorem c_rnn1 {l : Launch} {Z : State} {a0 : Array Value} {n0 : Nat} {h0 : Heap} (C : Cx Z a0) (hO : Old Z n0 h0) {x : Addr} :
    Con false l Z [] n0 (⟨"java/util/Objects", "requireNonNull", "(Ljava/lang/Object;)Ljava/lang/Object;"⟩ : MethodName) jdk_31_method_10_code 1 (some (.object "java/lang/Object")) R_c_rnn1 #[(.ref x)] h0 [] (fun v h => v = some (.ref x) ∧ h0 = h) := by
  refine Con.intro (a0 := a0) pl_b22 hO (fun q => nomatch q) ?_
  intro p e s m below meth c G
  refine ok_as (mkF m 0 #[.val (.ref x)] []) (by first | rfl | (simp [entryFrame, mkF, argsToLocals, Value.category]; done)) ?_
  refine ok_aloadN G d_jdk_31_method_10_code_0 rfl rfl ?_
  refine ok_ifnonnullY G 12 d_jdk_31_method_10_code_1 (by decide) (by decide) ?_
  refine ok_aloadN G d_jdk_31_method_10_code_12 rfl rfl ?_
  exact ok_retA G rfl rfl rfl d_jdk_31_method_10_code_13 rfl ⟨rfl, rfl⟩ (Nat.le_of_ble_eq_true rfl) (Nat.le_of_ble_eq_true rfl)
theorem d_jdk_32_method_3_code_0 : decode jdk_32_method_3_code 0 = .ok (.new 2, 3) := by decide +kernel
theorem d_jdk_32_method_3_code_3 : decode jdk_32_method_3_code 3 = .ok (.dup, 1) := by decide +kernel
theorem d_jdk_32_method_3_code_4 : decode jdk_32_method_3_code 4 = .ok (.aload_n 0, 1) := by decide +kernel
theorem d_jdk_32_method_3_code_5 : decode jdk_32_method_3_code 5 = .ok (.invokestatic 17, 3) := by decide +kernel
theorem pd13 : parseMethodDescriptor "(Ljava/lang/Object;)Ljava/lang/Object;" = some ⟨[(.object "java/lang/Object")], some (.object "java/lang/Object")⟩ := by decide +kernel
theorem d_jdk_32_method_3_code_8 : decode jdk_32_method_3_code 8 = .ok (.invokespecial 23, 3) := by decide +kernel
theorem pd14 : parseMethodDescriptor "(Ljava/lang/Object;)V" = some ⟨[(.object "java/lang/Object")], none⟩ := by decide +kernel
theorem d_jdk_32_method_3_code_11 : decode jdk_32_method_3_code 11 = .ok (.areturn, 1) := by decide +kernel
def R_c_oof : Room := { frames := 2, cells := 1, slots := 1, locals := 26 }
theorem pl_b21 : plainFor (⟨"java/util/Optional", "of", "(Ljava/lang/Object;)Ljava/util/Optional;"⟩ : MethodName) = true := plainFor_of_name (by first | (simp [plainName, overriddenIn]; done) | decide +kernel)
set_option maxRecDepth 65536 in
set_option maxHeartbeats 40000000 in
theorem c_oof {l : Launch} {Z : State} {a0 : Array Value} {n0 : Nat} {h0 : Heap} (C : Cx Z a0) (hO : Old Z n0 h0) {d : Addr} :
    Con false l Z [] n0 (⟨"java/util/Optional", "of", "(Ljava/lang/Object;)Ljava/util/Optional;"⟩ : MethodName) jdk_32_method_3_code 1 (some (.object "java/util/Optional")) R_c_oof #[(.ref d)] h0 [] (fun v h => ∃ x, v = some (.ref x) ∧ h0.size ≤ x ∧ Exa Z h x "java/util/Optional" ∧ Fld Z h x "java/util/Optional" "value" "Ljava/lang/Object;" (.ref d)) := by
  refine Con.intro (a0 := a0) pl_b21 hO (fun q => nomatch q) ?_
  intro p e s m below meth c G
  refine ok_as (mkF m 0 #[.val (.ref d)] []) (by first | rfl | (simp [entryFrame, mkF, argsToLocals, Value.category]; done)) ?_
  refine ok_new G (C.w120) (C.w121) (C.w104) d_jdk_32_method_3_code_0 (Nat.le_of_ble_eq_true rfl) (Nat.le_of_ble_eq_true rfl) ?_
  intro hp2 ob1 eq_ob1 K3 g_ob1 lb_ob1 E_ob1 D_ob1
  have F_ob1_value : Fld Z hp2 ob1 "java/util/Optional" "value" "Ljava/lang/Object;" .null := D_ob1 _ _ _ (.object "java/lang/Object") (Or.inr (C.w113)) (by decide)
  refine ok_dup G d_jdk_32_method_3_code_3 rfl ?_
  refine ok_aloadN G d_jdk_32_method_3_code_4 rfl rfl ?_
  refine ok_old (fun hO_hp2 => ?_)
  refine ok_static G (argsL := [(.ref d)]) (rest := [(.ref ob1), (.ref ob1)]) (C.w122) (C.w123) (C.w124) (C.w125) (by decide) pd13 (c_rnn1 C hO_hp2) rfl rfl rfl d_jdk_32_method_3_code_5 (Nat.le_of_ble_eq_true rfl) (Nat.le_of_ble_eq_true rfl) (Nat.le_of_ble_eq_true rfl) (Nat.le_of_ble_eq_true rfl) (fun _ q => nomatch q) ?_
  rintro _ _ _ ⟨rfl, rfl⟩
  refine ok_as (mkF m 8 #[.val (.ref d)] [(.ref d), (.ref ob1), (.ref ob1)]) rfl ?_
  refine ok_init G (a := ob1) (argsL := [(.ref d)]) (rest := [(.ref ob1)]) rfl (C.w126) (C.w127) (C.w104) (C.w129) (by decide) pd14 (c_oini C hO_hp2 E_ob1 F_ob1_value g_ob1) rfl rfl rfl d_jdk_32_method_3_code_8 (Nat.le_of_ble_eq_true rfl) (Nat.le_of_ble_eq_true rfl) (Nat.le_of_ble_eq_true rfl) (Nat.le_of_ble_eq_true rfl) (allS ⟨(Or.inr lb_ob1), SafeFor.narrow⟩ (fun _ q => nomatch q)) ?_
  rintro _ hp6 K7 ⟨rfl, FV_ob1⟩
  replace E_ob1 := E_ob1.keep K7
  refine ok_as (mkF m 11 #[.val (.ref d)] [(.ref ob1)]) rfl ?_
  exact ok_retA G rfl rfl rfl d_jdk_32_method_3_code_11 rfl ⟨_, rfl, lb_ob1, E_ob1, FV_ob1⟩ (Nat.le_of_ble_eq_true rfl) (Nat.le_of_ble_eq_true rfl)
theorem d_jdk_32_method_1_code_0 : decode jdk_32_method_1_code 0 = .ok (.getstatic 1, 3) := by decide +kernel
theorem d_jdk_32_method_1_code_3 : decode jdk_32_method_1_code 3 = .ok (.astore_n 0, 1) := by decide +kernel
theorem d_jdk_32_method_1_code_4 : decode jdk_32_method_1_code 4 = .ok (.aload_n 0, 1) := by decide +kernel
theorem d_jdk_32_method_1_code_5 : decode jdk_32_method_1_code 5 = .ok (.areturn, 1) := by decide +kernel
def R_c_oem : Room := { frames := 0, cells := 0, slots := 0, locals := 0 }
theorem pl_b19 : plainFor (⟨"java/util/Optional", "empty", "()Ljava/util/Optional;"⟩ : MethodName) = true := plainFor_of_name (by first | (simp [plainName, overriddenIn]; done) | decide +kernel)
set_option maxRecDepth 65536 in
set_option maxHeartbeats 40000000 in
theorem c_oem {l : Launch} {Z : State} {a0 : Array Value} {n0 : Nat} {h0 : Heap} (C : Cx Z a0) (hO : Old Z n0 h0) {va ja re jw jt rw rt oe : Addr} (HT : Typ Z va ja re jw jt rw rt oe) :
    Con false l Z [] n0 (⟨"java/util/Optional", "empty", "()Ljava/util/Optional;"⟩ : MethodName) jdk_32_method_1_code 1 (some (.object "java/util/Optional")) R_c_oem #[] h0 [] (fun v h => v = some (.ref oe) ∧ h0 = h) := by
  refine Con.intro (a0 := a0) pl_b19 hO (fun q => nomatch q) ?_
  intro p e s m below meth c G
  refine ok_as (mkF m 0 #[.unset] []) (by first | rfl | (simp [entryFrame, mkF, argsToLocals, Value.category]; done)) ?_
  obtain ⟨⟨sV, sJ, sR, sO⟩, ⟨kv, VA0⟩, EV0, EJ0, ER0, FJ0, FR0, SJ0, SR0, EO0, FO0⟩ := id HT
  refine ok_getS G (host := "") (Or.inl (C.w106)) Via.refl sO d_jdk_32_method_1_code_0 ?_
  refine ok_astoreN G #[.val (.ref oe)] d_jdk_32_method_1_code_3 rfl rfl ?_
  refine ok_aloadN G d_jdk_32_method_1_code_4 rfl rfl ?_
  exact ok_retA G rfl rfl rfl d_jdk_32_method_1_code_5 rfl ⟨rfl, rfl⟩ (Nat.le_of_ble_eq_true rfl) (Nat.le_of_ble_eq_true rfl)
theorem d_jdk_32_method_15_code_0 : decode jdk_32_method_15_code 0 = .ok (.aload_n 0, 1) := by decide +kernel
theorem d_jdk_32_method_15_code_1 : decode jdk_32_method_15_code 1 = .ok (.getfield 13, 3) := by decide +kernel
theorem d_jdk_32_method_15_code_4 : decode jdk_32_method_15_code 4 = .ok (.ifnull 10, 3) := by decide +kernel
theorem d_jdk_32_method_15_code_7 : decode jdk_32_method_15_code 7 = .ok (.aload_n 0, 1) := by decide +kernel
theorem d_jdk_32_method_15_code_8 : decode jdk_32_method_15_code 8 = .ok (.getfield 13, 3) := by decide +kernel
theorem d_jdk_32_method_15_code_11 : decode jdk_32_method_15_code 11 = .ok (.goto 4, 3) := by decide +kernel
theorem d_jdk_32_method_15_code_15 : decode jdk_32_method_15_code 15 = .ok (.areturn, 1) := by decide +kernel
def R_c_orR : Room := { frames := 0, cells := 0, slots := 0, locals := 0 }
theorem pl_b20 : plainFor (⟨"java/util/Optional", "orElse", "(Ljava/lang/Object;)Ljava/lang/Object;"⟩ : MethodName) = true := plainFor_of_name (by first | (simp [plainName, overriddenIn]; done) | decide +kernel)
set_option maxRecDepth 65536 in
set_option maxHeartbeats 40000000 in
theorem c_orR {l : Launch} {Z : State} {a0 : Array Value} {n0 : Nat} {h0 : Heap} (C : Cx Z a0) (hO : Old Z n0 h0) {x d : Addr} (F : Fld Z h0 x "java/util/Optional" "value" "Ljava/lang/Object;" (.ref d)) :
    Con false l Z [] n0 (⟨"java/util/Optional", "orElse", "(Ljava/lang/Object;)Ljava/lang/Object;"⟩ : MethodName) jdk_32_method_15_code 2 (some (.object "java/lang/Object")) R_c_orR #[(.ref x), .null] h0 [] (fun v h => v = some (.ref d) ∧ h0 = h) := by
  refine Con.intro (a0 := a0) pl_b20 hO (fun q => nomatch q) ?_
  intro p e s m below meth c G
  refine ok_as (mkF m 0 #[.val (.ref x), .val .null] []) (by first | rfl | (simp [entryFrame, mkF, argsToLocals, Value.category]; done)) ?_
  refine ok_aloadN G d_jdk_32_method_15_code_0 rfl rfl ?_
  refine ok_getF G (host := "") (Or.inl (C.w112)) Via.refl F d_jdk_32_method_15_code_1 ?_
  refine ok_ifnullN G d_jdk_32_method_15_code_4 ?_
  refine ok_aloadN G d_jdk_32_method_15_code_7 rfl rfl ?_
  refine ok_getF G (host := "") (Or.inl (C.w112)) Via.refl F d_jdk_32_method_15_code_8 ?_
  refine ok_goto G 15 d_jdk_32_method_15_code_11 (by decide) (by decide) ?_
  exact ok_retA G rfl rfl rfl d_jdk_32_method_15_code_15 rfl ⟨rfl, rfl⟩ (Nat.le_of_ble_eq_true rfl) (Nat.le_of_ble_eq_true rfl)
theorem d_jdk_32_method_15_code_14 : decode jdk_32_method_15_code 14 = .ok (.aload_n 1, 1) := by decide +kernel
def R_c_orN : Room := { frames := 0, cells := 0, slots := 0, locals := 0 }
set_option maxRecDepth 65536 in
set_option maxHeartbeats 40000000 in
theorem c_orN {l : Launch} {Z : State} {a0 : Array Value} {n0 : Nat} {h0 : Heap} (C : Cx Z a0) (hO : Old Z n0 h0) {x : Addr} (F : Fld Z h0 x "java/util/Optional" "value" "Ljava/lang/Object;" .null) :
    Con false l Z [] n0 (⟨"java/util/Optional", "orElse", "(Ljava/lang/Object;)Ljava/lang/Object;"⟩ : MethodName) jdk_32_method_15_code 2 (some (.object "java/lang/Object")) R_c_orN #[(.ref x), .null] h0 [] (fun v h => v = some .null ∧ h0 = h) := by
  refine Con.intro (a0 := a0) pl_b20 hO (fun q => nomatch q) ?_
  intro p e s m below meth c G
  refine ok_as (mkF m 0 #[.val (.ref x), .val .null] []) (by first | rfl | (simp [entryFrame, mkF, argsToLocals, Value.category]; done)) ?_
  refine ok_aloadN G d_jdk_32_method_15_code_0 rfl rfl ?_
  refine ok_getF G (host := "") (Or.inl (C.w112)) Via.refl F d_jdk_32_method_15_code_1 ?_
  refine ok_ifnullY G 14 d_jdk_32_method_15_code_4 (by decide) (by decide) ?_
  refine ok_aloadN G d_jdk_32_method_15_code_14 rfl rfl ?_
  exact ok_retA G rfl rfl rfl d_jdk_32_method_15_code_15 rfl ⟨rfl, rfl⟩ (Nat.le_of_ble_eq_true rfl) (Nat.le_of_ble_eq_true rfl)
theorem d_prog_25_method_4_code_0 : decode prog_25_method_4_code 0 = .ok (.invokestatic 33, 3) := by decide +kernel
theorem pd15 : parseMethodDescriptor "()[Lcom/example/tenon/tenon/model/SourceSet$Type;" = some ⟨[], some (.array (.object "com/example/tenon/tenon/model/SourceSet$Type"))⟩ := by decide +kernel
theorem d_prog_25_method_4_code_3 : decode prog_25_method_4_code 3 = .ok (.astore_n 1, 1) := by decide +kernel
theorem d_prog_25_method_4_code_4 : decode prog_25_method_4_code 4 = .ok (.aload_n 1, 1) := by decide +kernel
theorem d_prog_25_method_4_code_5 : decode prog_25_method_4_code 5 = .ok (.arraylength, 1) := by decide +kernel
theorem d_prog_25_method_4_code_6 : decode prog_25_method_4_code 6 = .ok (.istore_n 2, 1) := by decide +kernel
theorem d_prog_25_method_4_code_7 : decode prog_25_method_4_code 7 = .ok (.iconst 0, 1) := by decide +kernel
theorem d_prog_25_method_4_code_8 : decode prog_25_method_4_code 8 = .ok (.istore_n 3, 1) := by decide +kernel
theorem d_prog_25_method_4_code_9 : decode prog_25_method_4_code 9 = .ok (.iload_n 3, 1) := by decide +kernel
theorem d_prog_25_method_4_code_10 : decode prog_25_method_4_code 10 = .ok (.iload_n 2, 1) := by decide +kernel
theorem d_prog_25_method_4_code_11 : decode prog_25_method_4_code 11 = .ok (.if_icmp .ge 32, 3) := by decide +kernel
theorem d_prog_25_method_4_code_14 : decode prog_25_method_4_code 14 = .ok (.aload_n 1, 1) := by decide +kernel
theorem d_prog_25_method_4_code_15 : decode prog_25_method_4_code 15 = .ok (.iload_n 3, 1) := by decide +kernel
theorem d_prog_25_method_4_code_16 : decode prog_25_method_4_code 16 = .ok (.aaload, 1) := by decide +kernel
theorem d_prog_25_method_4_code_17 : decode prog_25_method_4_code 17 = .ok (.astore 4, 2) := by decide +kernel
theorem d_prog_25_method_4_code_19 : decode prog_25_method_4_code 19 = .ok (.aload 4, 2) := by decide +kernel
theorem d_prog_25_method_4_code_21 : decode prog_25_method_4_code 21 = .ok (.getfield 29, 3) := by decide +kernel
theorem d_prog_25_method_4_code_24 : decode prog_25_method_4_code 24 = .ok (.aload_n 0, 1) := by decide +kernel
theorem d_prog_25_method_4_code_25 : decode prog_25_method_4_code 25 = .ok (.invokevirtual 37, 3) := by decide +kernel
theorem pd16 : parseMethodDescriptor "(Ljava/lang/Object;)Z" = some ⟨[(.object "java/lang/Object")], some .boolean⟩ := by decide +kernel
theorem d_prog_25_method_4_code_28 : decode prog_25_method_4_code 28 = .ok (.ifCond .eq 9, 3) := by decide +kernel
theorem d_prog_25_method_4_code_37 : decode prog_25_method_4_code 37 = .ok (.iinc 3 1, 3) := by decide +kernel
theorem d_prog_25_method_4_code_40 : decode prog_25_method_4_code 40 = .ok (.goto (-31), 3) := by decide +kernel
theorem d_prog_25_method_4_code_43 : decode prog_25_method_4_code 43 = .ok (.invokestatic 49, 3) := by decide +kernel
theorem pd17 : parseMethodDescriptor "()Ljava/util/Optional;" = some ⟨[], some (.object "java/util/Optional")⟩ := by decide +kernel
theorem d_prog_25_method_4_code_46 : decode prog_25_method_4_code 46 = .ok (.areturn, 1) := by decide +kernel
theorem d_prog_25_method_4_code_31 : decode prog_25_method_4_code 31 = .ok (.aload 4, 2) := by decide +kernel
theorem d_prog_25_method_4_code_33 : decode prog_25_method_4_code 33 = .ok (.invokestatic 43, 3) := by decide +kernel
theorem pd18 : parseMethodDescriptor "(Ljava/lang/Object;)Ljava/util/Optional;" = some ⟨[(.object "java/lang/Object")], some (.object "java/util/Optional")⟩ := by decide +kernel
theorem d_prog_25_method_4_code_36 : decode prog_25_method_4_code 36 = .ok (.areturn, 1) := by decide +kernel
def R_c_named : Room := { frames := 3, cells := 2, slots := 3, locals := 38 }
theorem pl_b15 : plainFor (⟨"com/example/tenon/tenon/model/SourceSet$Type", "named", "(Ljava/lang/String;)Ljava/util/Optional;"⟩ : MethodName) = true := plainFor_of_name (by first | (simp [plainName, overriddenIn]; done) | decide +kernel)
set_option maxRecDepth 65536 in
set_option maxHeartbeats 40000000 in
theorem c_named {l : Launch} {Z : State} {a0 : Array Value} {n0 : Nat} {h0 : Heap} (C : Cx Z a0) (hO : Old Z n0 h0) {x t : Addr} {cs : List Int32} {va ja re jw jt rw rt oe : Addr} (S : LStr Z h0 x t cs) (HT : Typ Z va ja re jw jt rw rt oe) :
    Con false l Z [] n0 (⟨"com/example/tenon/tenon/model/SourceSet$Type", "named", "(Ljava/lang/String;)Ljava/util/Optional;"⟩ : MethodName) prog_25_method_4_code 5 (some (.object "java/util/Optional")) R_c_named #[(.ref x)] h0 [] (fun v h => ∃ o, v = some (.ref o) ∧ Exa Z h o "java/util/Optional" ∧ (([(106 : Int32), (97 : Int32), (118 : Int32), (97 : Int32)] = cs ∧ Fld Z h o "java/util/Optional" "value" "Ljava/lang/Object;" (.ref ja)) ∨ (¬ [(106 : Int32), (97 : Int32), (118 : Int32), (97 : Int32)] = cs ∧ [(114 : Int32), (101 : Int32), (115 : Int32), (111 : Int32), (117 : Int32), (114 : Int32), (99 : Int32), (101 : Int32), (115 : Int32)] = cs ∧ Fld Z h o "java/util/Optional" "value" "Ljava/lang/Object;" (.ref re)) ∨ (¬ [(106 : Int32), (97 : Int32), (118 : Int32), (97 : Int32)] = cs ∧ ¬ [(114 : Int32), (101 : Int32), (115 : Int32), (111 : Int32), (117 : Int32), (114 : Int32), (99 : Int32), (101 : Int32), (115 : Int32)] = cs ∧ Fld Z h o "java/util/Optional" "value" "Ljava/lang/Object;" .null))) := by
  refine Con.intro (a0 := a0) pl_b15 hO (fun q => nomatch q) ?_
  intro p e s m below meth c G
  refine ok_as (mkF m 0 #[.val (.ref x), .unset, .unset, .unset, .unset] []) (by first | rfl | (simp [entryFrame, mkF, argsToLocals, Value.category]; done)) ?_
  obtain ⟨⟨sV, sJ, sR, sO⟩, ⟨kv, VA0⟩, EV0, EJ0, ER0, FJ0, FR0, SJ0, SR0, EO0, FO0⟩ := id HT
  have VA := VA0.ext hO.2
  have EV := EV0.ext hO.2
  have EJ := EJ0.ext hO.2
  have ER := ER0.ext hO.2
  have FJ := FJ0.ext hO.2
  have FR := FR0.ext hO.2
  have EO := EO0.ext hO.2
  have FO := FO0.ext hO.2
  have SJ := SJ0.keep ((Keep.refl _ []).ext hO.2) nin0 nin0
  have SR := SR0.keep ((Keep.refl _ []).ext hO.2) nin0 nin0
  refine ok_static G (argsL := []) (rest := []) (C.w74) (C.w75) (C.w72) (C.w76) (by decide) pd15 (c_values C hO HT) rfl rfl rfl d_prog_25_method_4_code_0 (Nat.le_of_ble_eq_true rfl) (Nat.le_of_ble_eq_true rfl) (Nat.le_of_ble_eq_true rfl) (Nat.le_of_ble_eq_true rfl) (fun _ q => nomatch q) ?_
  rintro _ hp3 K4 ⟨xr1, kb2, rfl, lbq_xr1, V_xr1⟩
  have lbh_xr1 := lbq_xr1
  have ne_x_xr1 : x ≠ xr1 := Nat.ne_of_lt (Nat.lt_of_lt_of_le S.lt lbh_xr1)
  have ne_t_xr1 : t ≠ xr1 := Nat.ne_of_lt (Nat.lt_of_lt_of_le S.ltT lbh_xr1)
  have ne_va_xr1 : va ≠ xr1 := Nat.ne_of_lt (Nat.lt_of_lt_of_le VA.lt lbh_xr1)
  have ne_ja_xr1 : ja ≠ xr1 := Nat.ne_of_lt (Nat.lt_of_lt_of_le EJ.lt lbh_xr1)
  have ne_re_xr1 : re ≠ xr1 := Nat.ne_of_lt (Nat.lt_of_lt_of_le ER.lt lbh_xr1)
  have ne_jw_xr1 : jw ≠ xr1 := Nat.ne_of_lt (Nat.lt_of_lt_of_le SJ.lt lbh_xr1)
  have ne_jt_xr1 : jt ≠ xr1 := Nat.ne_of_lt (Nat.lt_of_lt_of_le SJ.ltT lbh_xr1)
  have ne_rw_xr1 : rw ≠ xr1 := Nat.ne_of_lt (Nat.lt_of_lt_of_le SR.lt lbh_xr1)
  have ne_rt_xr1 : rt ≠ xr1 := Nat.ne_of_lt (Nat.lt_of_lt_of_le SR.ltT lbh_xr1)
  have ne_oe_xr1 : oe ≠ xr1 := Nat.ne_of_lt (Nat.lt_of_lt_of_le EO.lt lbh_xr1)
  have lb_xr1 : h0.size ≤ xr1 := lbh_xr1
  have g_xr1 : n0 ≤ xr1 := Nat.le_trans (old_le hO) lbh_xr1
  replace S := S.keep K4 nin0 nin0
  replace VA := VA.keep K4 nin0
  replace EV := EV.keep K4
  replace EJ := EJ.keep K4
  replace ER := ER.keep K4
  replace FJ := FJ.keep K4 nin0
  replace FR := FR.keep K4 nin0
  replace SJ := SJ.keep K4 nin0 nin0
  replace SR := SR.keep K4 nin0 nin0
  replace EO := EO.keep K4
  replace FO := FO.keep K4 nin0
  refine ok_as (mkF m 3 #[.val (.ref x), .unset, .unset, .unset, .unset] [(.ref xr1)]) rfl ?_
  refine ok_astoreN G #[.val (.ref x), .val (.ref xr1), .unset, .unset, .unset] d_prog_25_method_4_code_3 rfl rfl ?_
  refine ok_aloadN G d_prog_25_method_4_code_4 rfl rfl ?_
  refine ok_arraylength G V_xr1 d_prog_25_method_4_code_5 ?_
  refine ok_istoreN G #[.val (.ref x), .val (.ref xr1), .val (.int (2 : Int32)), .unset, .unset] d_prog_25_method_4_code_6 rfl ?_
  refine ok_iconst G (0 : Int32) d_prog_25_method_4_code_7 rfl ?_
  refine ok_istoreN G #[.val (.ref x), .val (.ref xr1), .val (.int (2 : Int32)), .val (.int (0 : Int32)), .unset] d_prog_25_method_4_code_8 rfl ?_
  refine ok_iloadN G d_prog_25_method_4_code_9 rfl ?_
  refine ok_iloadN G d_prog_25_method_4_code_10 rfl ?_
  refine ok_icmpgeN G d_prog_25_method_4_code_11 (by decide) ?_
  refine ok_aloadN G d_prog_25_method_4_code_14 rfl rfl ?_
  refine ok_iloadN G d_prog_25_method_4_code_15 rfl ?_
  refine ok_aaload G (.ref ja) V_xr1 rfl ⟨by decide, by decide⟩ rfl d_prog_25_method_4_code_16 ?_
  refine ok_astore G #[.val (.ref x), .val (.ref xr1), .val (.int (2 : Int32)), .val (.int (0 : Int32)), .val (.ref ja)] d_prog_25_method_4_code_17 rfl rfl ?_
  refine ok_aload G d_prog_25_method_4_code_19 rfl rfl ?_
  refine ok_getF G (host := "") (Or.inl (C.w91)) Via.refl FJ d_prog_25_method_4_code_21 ?_
  refine ok_aloadN G d_prog_25_method_4_code_24 rfl rfl ?_
  refine ok_old (fun hO_hp3 => ?_)
  refine ok_virtual G (a := jw) (y0 := (⟨"java/lang/String", "equals", "(Ljava/lang/Object;)Z"⟩ : MethodName)) (y := (⟨"java/lang/String", "equals", "(Ljava/lang/Object;)Z"⟩ : MethodName)) (argsL := [(.ref x)]) (rest := []) SJ.exa (C.w93) (C.w94) (C.w96) (fun vm hZ => notFace_of_selects (args := #[]) (mvT (s := s.setVm vm) hZ (C.w96))) (C.w95) (C.w1) (C.w97) (by decide) pd16 (c_eq C hO_hp3 SJ S) rfl rfl rfl d_prog_25_method_4_code_25 (Nat.le_of_ble_eq_true rfl) (Nat.le_of_ble_eq_true rfl) (Nat.le_of_ble_eq_true rfl) (Nat.le_of_ble_eq_true rfl) (fun _ q => nomatch q) ?_
  rintro _ _ _ ⟨rfl, rfl⟩
  refine ok_as (mkF m 28 #[.val (.ref x), .val (.ref xr1), .val (.int (2 : Int32)), .val (.int (0 : Int32)), .val (.ref ja)] [(.int (if [(106 : Int32), (97 : Int32), (118 : Int32), (97 : Int32)] = cs then (1 : Int32) else 0))]) rfl ?_
  refine ok_ifeq G 37 d_prog_25_method_4_code_28 (by decide) (by decide) (fun cq7 => ?_) (fun cq7 => ?_)
  · skip
    refine ok_iinc G ((0 : Int32) + (1 : Int32)) #[.val (.ref x), .val (.ref xr1), .val (.int (2 : Int32)), .val (.int ((0 : Int32) + (1 : Int32))), .val (.ref ja)] d_prog_25_method_4_code_37 rfl rfl rfl ?_
    refine ok_goto G 9 d_prog_25_method_4_code_40 (by decide) (by decide) ?_
    refine ok_as (mkF m 9 #[.val (.ref x), .val (.ref xr1), .val (.int (2 : Int32)), .val (.int (1 : Int32)), .val (.ref ja)] []) (by rfl) ?_
    refine ok_iloadN G d_prog_25_method_4_code_9 rfl ?_
    refine ok_iloadN G d_prog_25_method_4_code_10 rfl ?_
    refine ok_icmpgeN G d_prog_25_method_4_code_11 (by decide) ?_
    refine ok_aloadN G d_prog_25_method_4_code_14 rfl rfl ?_
    refine ok_iloadN G d_prog_25_method_4_code_15 rfl ?_
    refine ok_aaload G (.ref re) V_xr1 rfl ⟨by decide, by decide⟩ rfl d_prog_25_method_4_code_16 ?_
    refine ok_astore G #[.val (.ref x), .val (.ref xr1), .val (.int (2 : Int32)), .val (.int (1 : Int32)), .val (.ref re)] d_prog_25_method_4_code_17 rfl rfl ?_
    refine ok_aload G d_prog_25_method_4_code_19 rfl rfl ?_
    refine ok_getF G (host := "") (Or.inl (C.w91)) Via.refl FR d_prog_25_method_4_code_21 ?_
    refine ok_aloadN G d_prog_25_method_4_code_24 rfl rfl ?_
    refine ok_virtual G (a := rw) (y0 := (⟨"java/lang/String", "equals", "(Ljava/lang/Object;)Z"⟩ : MethodName)) (y := (⟨"java/lang/String", "equals", "(Ljava/lang/Object;)Z"⟩ : MethodName)) (argsL := [(.ref x)]) (rest := []) SR.exa (C.w93) (C.w94) (C.w96) (fun vm hZ => notFace_of_selects (args := #[]) (mvT (s := s.setVm vm) hZ (C.w96))) (C.w95) (C.w1) (C.w97) (by decide) pd16 (c_eq C hO_hp3 SR S) rfl rfl rfl d_prog_25_method_4_code_25 (Nat.le_of_ble_eq_true rfl) (Nat.le_of_ble_eq_true rfl) (Nat.le_of_ble_eq_true rfl) (Nat.le_of_ble_eq_true rfl) (fun _ q => nomatch q) ?_
    rintro _ _ _ ⟨rfl, rfl⟩
    refine ok_as (mkF m 28 #[.val (.ref x), .val (.ref xr1), .val (.int (2 : Int32)), .val (.int (1 : Int32)), .val (.ref re)] [(.int (if [(114 : Int32), (101 : Int32), (115 : Int32), (111 : Int32), (117 : Int32), (114 : Int32), (99 : Int32), (101 : Int32), (115 : Int32)] = cs then (1 : Int32) else 0))]) rfl ?_
    refine ok_ifeq G 37 d_prog_25_method_4_code_28 (by decide) (by decide) (fun cq10 => ?_) (fun cq10 => ?_)
    · skip
      refine ok_iinc G ((1 : Int32) + (1 : Int32)) #[.val (.ref x), .val (.ref xr1), .val (.int (2 : Int32)), .val (.int ((1 : Int32) + (1 : Int32))), .val (.ref re)] d_prog_25_method_4_code_37 rfl rfl rfl ?_
      refine ok_goto G 9 d_prog_25_method_4_code_40 (by decide) (by decide) ?_
      refine ok_as (mkF m 9 #[.val (.ref x), .val (.ref xr1), .val (.int (2 : Int32)), .val (.int (2 : Int32)), .val (.ref re)] []) (by rfl) ?_
      refine ok_iloadN G d_prog_25_method_4_code_9 rfl ?_
      refine ok_iloadN G d_prog_25_method_4_code_10 rfl ?_
      refine ok_icmpgeY G 43 d_prog_25_method_4_code_11 (by decide) (by decide) (by decide) ?_
      refine ok_static G (argsL := []) (rest := []) (C.w102) (C.w103) (C.w104) (C.w105) (by decide) pd17 (c_oem C hO_hp3 HT) rfl rfl rfl d_prog_25_method_4_code_43 (Nat.le_of_ble_eq_true rfl) (Nat.le_of_ble_eq_true rfl) (Nat.le_of_ble_eq_true rfl) (Nat.le_of_ble_eq_true rfl) (fun _ q => nomatch q) ?_
      rintro _ _ _ ⟨rfl, rfl⟩
      refine ok_as (mkF m 46 #[.val (.ref x), .val (.ref xr1), .val (.int (2 : Int32)), .val (.int (2 : Int32)), .val (.ref re)] [(.ref oe)]) rfl ?_
      exact ok_retA G rfl rfl rfl d_prog_25_method_4_code_46 rfl ⟨_, rfl, EO, Or.inr (Or.inr ⟨own_if0 cq7, own_if0 cq10, FO⟩)⟩ (Nat.le_of_ble_eq_true rfl) (Nat.le_of_ble_eq_true rfl)
    · skip
      refine ok_aload G d_prog_25_method_4_code_31 rfl rfl ?_
      refine ok_keep (fun hKp_hp3 => ?_)
      refine ok_static G (argsL := [(.ref re)]) (rest := []) (C.w117) (C.w118) (C.w104) (C.w119) (by decide) pd18 (c_oof C hO_hp3) rfl rfl rfl d_prog_25_method_4_code_33 (Nat.le_of_ble_eq_true rfl) (Nat.le_of_ble_eq_true rfl) (Nat.le_of_ble_eq_true rfl) (Nat.le_of_ble_eq_true rfl) (fun _ q => nomatch q) ?_
      rintro _ hp14 K15 ⟨xr13, rfl, lbq_xr13, E_xr13, FV_xr13⟩
      have lbh_xr13 := lbq_xr13
      have ne_x_xr13 : x ≠ xr13 := Nat.ne_of_lt (Nat.lt_of_lt_of_le S.lt lbh_xr13)
      have ne_t_xr13 : t ≠ xr13 := Nat.ne_of_lt (Nat.lt_of_lt_of_le S.ltT lbh_xr13)
      have ne_va_xr13 : va ≠ xr13 := Nat.ne_of_lt (Nat.lt_of_lt_of_le VA.lt lbh_xr13)
      have ne_ja_xr13 : ja ≠ xr13 := Nat.ne_of_lt (Nat.lt_of_lt_of_le EJ.lt lbh_xr13)
      have ne_re_xr13 : re ≠ xr13 := Nat.ne_of_lt (Nat.lt_of_lt_of_le ER.lt lbh_xr13)
      have ne_jw_xr13 : jw ≠ xr13 := Nat.ne_of_lt (Nat.lt_of_lt_of_le SJ.lt lbh_xr13)
      have ne_jt_xr13 : jt ≠ xr13 := Nat.ne_of_lt (Nat.lt_of_lt_of_le SJ.ltT lbh_xr13)
      have ne_rw_xr13 : rw ≠ xr13 := Nat.ne_of_lt (Nat.lt_of_lt_of_le SR.lt lbh_xr13)
      have ne_rt_xr13 : rt ≠ xr13 := Nat.ne_of_lt (Nat.lt_of_lt_of_le SR.ltT lbh_xr13)
      have ne_oe_xr13 : oe ≠ xr13 := Nat.ne_of_lt (Nat.lt_of_lt_of_le EO.lt lbh_xr13)
      have ne_xr1_xr13 : xr1 ≠ xr13 := Nat.ne_of_lt (Nat.lt_of_lt_of_le V_xr1.lt lbh_xr13)
      have lb_xr13 : h0.size ≤ xr13 := Nat.le_trans hKp_hp3.1 lbh_xr13
      have g_xr13 : n0 ≤ xr13 := Nat.le_trans (old_le hO_hp3) lbh_xr13
      replace S := S.keep K15 nin0 nin0
      replace VA := VA.keep K15 nin0
      replace EV := EV.keep K15
      replace EJ := EJ.keep K15
      replace ER := ER.keep K15
      replace FJ := FJ.keep K15 nin0
      replace FR := FR.keep K15 nin0
      replace SJ := SJ.keep K15 nin0 nin0
      replace SR := SR.keep K15 nin0 nin0
      replace EO := EO.keep K15
      replace FO := FO.keep K15 nin0
      replace V_xr1 := V_xr1.keep K15 nin0
      refine ok_as (mkF m 36 #[.val (.ref x), .val (.ref xr1), .val (.int (2 : Int32)), .val (.int (1 : Int32)), .val (.ref re)] [(.ref xr13)]) rfl ?_
      exact ok_retA G rfl rfl rfl d_prog_25_method_4_code_36 rfl ⟨_, rfl, E_xr13, Or.inr (Or.inl ⟨own_if0 cq7, own_if1 cq10, FV_xr13⟩)⟩ (Nat.le_of_ble_eq_true rfl) (Nat.le_of_ble_eq_true rfl)
  · skip
    refine ok_aload G d_prog_25_method_4_code_31 rfl rfl ?_
    refine ok_keep (fun hKp_hp3 => ?_)
    refine ok_static G (argsL := [(.ref ja)]) (rest := []) (C.w117) (C.w118) (C.w104) (C.w119) (by decide) pd18 (c_oof C hO_hp3) rfl rfl rfl d_prog_25_method_4_code_33 (Nat.le_of_ble_eq_true rfl) (Nat.le_of_ble_eq_true rfl) (Nat.le_of_ble_eq_true rfl) (Nat.le_of_ble_eq_true rfl) (fun _ q => nomatch q) ?_
    rintro _ hp17 K18 ⟨xr16, rfl, lbq_xr16, E_xr16, FV_xr16⟩
    have lbh_xr16 := lbq_xr16
    have ne_x_xr16 : x ≠ xr16 := Nat.ne_of_lt (Nat.lt_of_lt_of_le S.lt lbh_xr16)
    have ne_t_xr16 : t ≠ xr16 := Nat.ne_of_lt (Nat.lt_of_lt_of_le S.ltT lbh_xr16)
    have ne_va_xr16 : va ≠ xr16 := Nat.ne_of_lt (Nat.lt_of_lt_of_le VA.lt lbh_xr16)
    have ne_ja_xr16 : ja ≠ xr16 := Nat.ne_of_lt (Nat.lt_of_lt_of_le EJ.lt lbh_xr16)
    have ne_re_xr16 : re ≠ xr16 := Nat.ne_of_lt (Nat.lt_of_lt_of_le ER.lt lbh_xr16)
    have ne_jw_xr16 : jw ≠ xr16 := Nat.ne_of_lt (Nat.lt_of_lt_of_le SJ.lt lbh_xr16)
    have ne_jt_xr16 : jt ≠ xr16 := Nat.ne_of_lt (Nat.lt_of_lt_of_le SJ.ltT lbh_xr16)
    have ne_rw_xr16 : rw ≠ xr16 := Nat.ne_of_lt (Nat.lt_of_lt_of_le SR.lt lbh_xr16)
    have ne_rt_xr16 : rt ≠ xr16 := Nat.ne_of_lt (Nat.lt_of_lt_of_le SR.ltT lbh_xr16)
    have ne_oe_xr16 : oe ≠ xr16 := Nat.ne_of_lt (Nat.lt_of_lt_of_le EO.lt lbh_xr16)
    have ne_xr1_xr16 : xr1 ≠ xr16 := Nat.ne_of_lt (Nat.lt_of_lt_of_le V_xr1.lt lbh_xr16)
    have lb_xr16 : h0.size ≤ xr16 := Nat.le_trans hKp_hp3.1 lbh_xr16
    have g_xr16 : n0 ≤ xr16 := Nat.le_trans (old_le hO_hp3) lbh_xr16
    replace S := S.keep K18 nin0 nin0
    replace VA := VA.keep K18 nin0
    replace EV := EV.keep K18
    replace EJ := EJ.keep K18
    replace ER := ER.keep K18
    replace FJ := FJ.keep K18 nin0
    replace FR := FR.keep K18 nin0
    replace SJ := SJ.keep K18 nin0 nin0
    replace SR := SR.keep K18 nin0 nin0
    replace EO := EO.keep K18
    replace FO := FO.keep K18 nin0
    replace V_xr1 := V_xr1.keep K18 nin0
    refine ok_as (mkF m 36 #[.val (.ref x), .val (.ref xr1), .val (.int (2 : Int32)), .val (.int (0 : Int32)), .val (.ref ja)] [(.ref xr16)]) rfl ?_
    exact ok_retA G rfl rfl rfl d_prog_25_method_4_code_36 rfl ⟨_, rfl, E_xr16, Or.inl ⟨own_if1 cq7, FV_xr16⟩⟩ (Nat.le_of_ble_eq_true rfl) (Nat.le_of_ble_eq_true rfl)
theorem d_method_2_code_0 : decode method_2_code 0 = .ok (.iload_n 1, 1) := by decide +kernel
theorem d_method_2_code_1 : decode method_2_code 1 = .ok (.iload_n 2, 1) := by decide +kernel
theorem d_method_2_code_2 : decode method_2_code 2 = .ok (.if_icmp .ne 5, 3) := by decide +kernel
theorem d_method_2_code_7 : decode method_2_code 7 = .ok (.iload_n 1, 1) := by decide +kernel
theorem d_method_2_code_8 : decode method_2_code 8 = .ok (.aload_n 0, 1) := by decide +kernel
theorem d_method_2_code_9 : decode method_2_code 9 = .ok (.invokevirtual 7, 3) := by decide +kernel
theorem pd19 : parseMethodDescriptor "()I" = some ⟨[], some .int⟩ := by decide +kernel
theorem d_method_2_code_12 : decode method_2_code 12 = .ok (.if_icmp .ge 9, 3) := by decide +kernel
theorem d_method_2_code_21 : decode method_2_code 21 = .ok (.iload 4, 2) := by decide +kernel
theorem d_method_2_code_23 : decode method_2_code 23 = .ok (.ireturn, 1) := by decide +kernel
theorem d_method_2_code_15 : decode method_2_code 15 = .ok (.aload_n 0, 1) := by decide +kernel
theorem d_method_2_code_16 : decode method_2_code 16 = .ok (.iload_n 1, 1) := by decide +kernel
theorem d_method_2_code_17 : decode method_2_code 17 = .ok (.invokevirtual 13, 3) := by decide +kernel
theorem pd20 : parseMethodDescriptor "(I)C" = some ⟨[.int], some .char⟩ := by decide +kernel
theorem d_method_2_code_20 : decode method_2_code 20 = .ok (.ireturn, 1) := by decide +kernel
theorem d_method_2_code_5 : decode method_2_code 5 = .ok (.iload_n 3, 1) := by decide +kernel
theorem d_method_2_code_6 : decode method_2_code 6 = .ok (.ireturn, 1) := by decide +kernel
def R_c_pick : Room := { frames := 4, cells := 0, slots := 0, locals := 53 }
theorem pl_b3 : plainFor (⟨"com/example/tenon/tenon/model/TypeNamedPinLaw", "pick", "(Ljava/lang/String;IICC)C"⟩ : MethodName) = true := plainFor_of_name (by first | (simp [plainName, overriddenIn]; done) | decide +kernel)
set_option maxRecDepth 65536 in
set_option maxHeartbeats 40000000 in
theorem c_pick {l : Launch} {Z : State} {a0 : Array Value} {n0 : Nat} {h0 : Heap} (C : Cx Z a0) (hO : Old Z n0 h0) {x t : Addr} {i ps c1 d1 : Int32} {cs : List Int32} (S : LStr Z h0 x t cs) (jn : Nat) (hj16 : jn ≤ 16) (hi : i = Int32.ofNat jn) (l1 : Lat c1) (l2 : Lat d1) :
    Con false l Z [] n0 (⟨"com/example/tenon/tenon/model/TypeNamedPinLaw", "pick", "(Ljava/lang/String;IICC)C"⟩ : MethodName) method_2_code 5 (some .char) R_c_pick #[(.ref x), (.int i), (.int ps), (.int c1), (.int d1)] h0 [] (fun v h => ∃ ch, v = some (.int ch) ∧ Lat ch ∧ ch = (if i = ps then c1 else cs.getD jn d1) ∧ h0 = h) := by
  refine Con.intro (a0 := a0) pl_b3 hO (fun q => nomatch q) ?_
  intro p e s m below meth c G
  refine ok_as (mkF m 0 #[.val (.ref x), .val (.int i), .val (.int ps), .val (.int c1), .val (.int d1)] []) (by first | rfl | (simp [entryFrame, mkF, argsToLocals, Value.category]; done)) ?_
  refine ok_iloadN G d_method_2_code_0 rfl ?_
  refine ok_iloadN G d_method_2_code_1 rfl ?_
  refine ok_icmpne G 7 d_method_2_code_2 (by decide) (by decide) (fun cq1 => ?_) (fun cq1 => ?_)
  · skip
    refine ok_iloadN G d_method_2_code_7 rfl ?_
    refine ok_aloadN G d_method_2_code_8 rfl rfl ?_
    refine ok_virtual G (a := x) (y0 := (⟨"java/lang/String", "length", "()I"⟩ : MethodName)) (y := (⟨"java/lang/String", "length", "()I"⟩ : MethodName)) (argsL := []) (rest := [(.int i)]) S.exa (C.w8) (C.w9) (C.w11) (fun vm hZ => notFace_of_selects (args := #[]) (mvT (s := s.setVm vm) hZ (C.w11))) (C.w10) (C.w1) (C.w12) (by decide) pd19 (c_length C hO S) rfl rfl rfl d_method_2_code_9 (Nat.le_of_ble_eq_true rfl) (Nat.le_of_ble_eq_true rfl) (Nat.le_of_ble_eq_true rfl) (Nat.le_of_ble_eq_true rfl) (fun _ q => nomatch q) ?_
    rintro _ _ _ ⟨rfl, rfl⟩
    refine ok_as (mkF m 12 #[.val (.ref x), .val (.int i), .val (.int ps), .val (.int c1), .val (.int d1)] [(.int (Int32.ofNat cs.length)), (.int i)]) rfl ?_
    refine ok_icmpge G 21 d_method_2_code_12 (by decide) (by decide) (fun cq4 => ?_) (fun cq4 => ?_)
    · skip
      refine ok_iload G d_method_2_code_21 rfl ?_
      exact ok_retN G rfl (by simp) d_method_2_code_23 (congrArg Value.int (Lat.nar l2)) ⟨_, rfl, l2, by rw [if_neg cq1, own_far (by have h16 := S.2.2.2.2.2; have h9 := cq4; rw [hi] at h9; rw [i32_lt (by omega) (by omega)] at h9; omega)], rfl⟩ (Nat.le_of_ble_eq_true rfl) (Nat.le_of_ble_eq_true rfl)
    · skip
      have hjl : jn < cs.length := by have h16 := S.2.2.2.2.2; have h9 := cq4; rw [hi] at h9; exact (i32_lt (by omega) (by omega)).mp h9
      have hla' := S.2.2.2.2.1
      refine ok_aloadN G d_method_2_code_15 rfl rfl ?_
      refine ok_iloadN G d_method_2_code_16 rfl ?_
      refine ok_virtual G (a := x) (y0 := (⟨"java/lang/String", "charAt", "(I)C"⟩ : MethodName)) (y := (⟨"java/lang/String", "charAt", "(I)C"⟩ : MethodName)) (argsL := [(.int i)]) (rest := []) S.exa (C.w28) (C.w29) (C.w31) (fun vm hZ => notFace_of_selects (args := #[]) (mvT (s := s.setVm vm) hZ (C.w31))) (C.w30) (C.w1) (C.w32) (by decide) pd20 (c_charAt (ch := (cs.getD jn 0)) C hO S jn hjl hi rfl) rfl rfl rfl d_method_2_code_17 (Nat.le_of_ble_eq_true rfl) (Nat.le_of_ble_eq_true rfl) (Nat.le_of_ble_eq_true rfl) (Nat.le_of_ble_eq_true rfl) (fun _ q => nomatch q) ?_
      rintro _ _ _ ⟨rfl, rfl⟩
      refine ok_as (mkF m 20 #[.val (.ref x), .val (.int i), .val (.int ps), .val (.int c1), .val (.int d1)] [(.int (cs.getD jn 0))]) rfl ?_
      exact ok_retN G rfl (by simp) d_method_2_code_20 (congrArg Value.int (Lat.nar (hla' _ (getD_mem hjl)))) ⟨_, rfl, hla' _ (getD_mem hjl), by rw [if_neg cq1]; exact (own_near hjl).symm, rfl⟩ (Nat.le_of_ble_eq_true rfl) (Nat.le_of_ble_eq_true rfl)
  · skip
    refine ok_iloadN G d_method_2_code_5 rfl ?_
    exact ok_retN G rfl (by simp) d_method_2_code_6 (congrArg Value.int (Lat.nar l1)) ⟨_, rfl, l1, by rw [if_pos cq1], rfl⟩ (Nat.le_of_ble_eq_true rfl) (Nat.le_of_ble_eq_true rfl)
theorem pd21 : parseMethodDescriptor "(Ljava/lang/String;IICC)C" = some ⟨[(.object "java/lang/String"), .int, .int, .char, .char], some .char⟩ := by decide +kernel
theorem pd22 : parseMethodDescriptor "([C)V" = some ⟨[(.array .char)], none⟩ := by decide +kernel
theorem pd23 : parseMethodDescriptor "(Ljava/lang/String;)Ljava/util/Optional;" = some ⟨[(.object "java/lang/String")], some (.object "java/util/Optional")⟩ := by decide +kernel
theorem pd24 : parseMethodDescriptor "(C)Ljava/lang/String;" = some ⟨[.char], some (.object "java/lang/String")⟩ := by decide +kernel
theorem pl_b0 : plainFor x = true := plainFor_of_name (show plainName "com/example/tenon/tenon/model/TypeNamedPinLaw" = true by first | (simp [plainName, overriddenIn]; done) | decide +kernel)
set_option maxRecDepth 65536 in
set_option maxHeartbeats 40000000 in
theorem c_law {l : Launch} {Z : State} {a0 : Array Value} {n0 : Nat} {h0 : Heap} (C : Cx Z a0) (hO : Old Z n0 h0) (hE : EW Z a0 consts_1) {i0 i1 i2 i3 : Int32} {va ja re jw jt rw rt oe : Addr} (HT : Typ Z va ja re jw jt rw rt oe) :
    Con true l Z consts_1 n0 x code maxLocals ret room_1 #[(.int i0), (.int i1), (.int i2), (.int i3)] h0 [] (fun v h => v = some (.int 1)) := by
  refine Con.intro (a0 := a0) pl_b0 hO (fun _ => hE) ?_
  intro p e s m below meth c G
  refine ok_as (mkF m 0 #[.val (.int i0), .val (.int i1), .val (.int i2), .val (.int i3), .unset, .unset, .unset, .unset, .unset, .unset, .unset, .unset, .unset, .unset, .unset] []) (by first | rfl | (simp [entryFrame, mkF, argsToLocals, Value.category, maxLocals]; done)) ?_
  obtain ⟨⟨sV, sJ, sR, sO⟩, ⟨kv, VA0⟩, EV0, EJ0, ER0, FJ0, FR0, SJ0, SR0, EO0, FO0⟩ := id HT
  refine ok_iloadN G at_0 rfl ?_
  refine ok_iconst G (1 : Int32) at_1 rfl ?_
  refine ok_iand G at_2 ?_
  refine ok_ifeq G 10 at_3 (by decide) (by decide) (fun cq1 => ?_) (fun cq1 => ?_)
  · skip
    refine ok_iconst G (0 : Int32) at_10 rfl ?_
    refine ok_istore G #[.val (.int i0), .val (.int i1), .val (.int i2), .val (.int i3), .val (.int (0 : Int32)), .unset, .unset, .unset, .unset, .unset, .unset, .unset, .unset, .unset, .unset] at_11 rfl ?_
    refine ok_iload G at_13 rfl ?_
    refine ok_ifeqY G 23 at_15 (by decide) (by decide) (by decide) ?_
    refine ok_ldcR G (vs := ([(106 : Int32), (97 : Int32), (118 : Int32), (97 : Int32)] : List Int32).map lo8) (z := (4 : Int32)) rfl (C.w0) C.strs (List.mem_of_getElem? (i := 1) rfl) ⟨by decide +kernel, by rfl⟩ (by decide) rfl at_23 16 (by decide +kernel) (by decide) (Nat.le_of_ble_eq_true rfl) (Nat.le_of_ble_eq_true rfl) ?_
    intro yl4 hp2 tr5 kb6 K3 E_yl4 FC_yl4 FV_yl4 V_tr5 hne
    have S_yl4 : LStr Z hp2 yl4 tr5 [(106 : Int32), (97 : Int32), (118 : Int32), (97 : Int32)] := ⟨E_yl4, FC_yl4, FV_yl4, ⟨_, V_tr5⟩, (allL ⟨by decide, by decide⟩ (allL ⟨by decide, by decide⟩ (allL ⟨by decide, by decide⟩ (allL ⟨by decide, by decide⟩ (fun _ q => nomatch q))))), (Nat.le_of_ble_eq_true rfl)⟩
    refine ok_astore G #[.val (.int i0), .val (.int i1), .val (.int i2), .val (.int i3), .val (.int (0 : Int32)), .val (.ref yl4), .unset, .unset, .unset, .unset, .unset, .unset, .unset, .unset, .unset] at_25 rfl rfl ?_
    refine ok_iloadN G at_27 rfl ?_
    refine ok_iconst G (1 : Int32) at_28 rfl ?_
    refine ok_iushr G at_29 ?_
    refine ok_iconst G (3 : Int32) at_30 rfl ?_
    refine ok_iand G at_31 ?_
    rcases own_four i0 with hk4 | hk4 | hk4 | hk4
    · skip
      rw [hk4]
      refine ok_istore G #[.val (.int i0), .val (.int i1), .val (.int i2), .val (.int i3), .val (.int (0 : Int32)), .val (.ref yl4), .val (.int (0 : Int32)), .unset, .unset, .unset, .unset, .unset, .unset, .unset, .unset] at_32 rfl ?_
      refine ok_iloadN G at_34 rfl ?_
      refine ok_sipush G (255 : Int32) at_35 rfl ?_
      refine ok_iand G at_38 ?_
      refine ok_i2c G at_39 ?_
      refine ok_nameI ?_
      intro chr7 qchr7
      have lchr7 : Lat chr7 := by rw [qchr7]; exact lat_mask _
      refine ok_istore G #[.val (.int i0), .val (.int i1), .val (.int i2), .val (.int i3), .val (.int (0 : Int32)), .val (.ref yl4), .val (.int (0 : Int32)), .val (.int chr7), .unset, .unset, .unset, .unset, .unset, .unset, .unset] at_40 rfl ?_
      refine ok_iloadN G at_42 rfl ?_
      refine ok_sipush G (255 : Int32) at_43 rfl ?_
      refine ok_iand G at_46 ?_
      refine ok_i2c G at_47 ?_
      refine ok_nameI ?_
      intro chr8 qchr8
      have lchr8 : Lat chr8 := by rw [qchr8]; exact lat_mask _
      refine ok_istore G #[.val (.int i0), .val (.int i1), .val (.int i2), .val (.int i3), .val (.int (0 : Int32)), .val (.ref yl4), .val (.int (0 : Int32)), .val (.int chr7), .val (.int chr8), .unset, .unset, .unset, .unset, .unset, .unset] at_48 rfl ?_
      refine ok_aload G at_50 rfl rfl ?_
      refine ok_old (fun hO_hp2 => ?_)
      refine ok_virtual G (a := yl4) (y0 := (⟨"java/lang/String", "length", "()I"⟩ : MethodName)) (y := (⟨"java/lang/String", "length", "()I"⟩ : MethodName)) (argsL := []) (rest := []) S_yl4.exa (C.w8) (C.w9) (C.w11) (fun vm hZ => notFace_of_selects (args := #[]) (mvT (s := s.setVm vm) hZ (C.w11))) (C.w10) (C.w1) (C.w12) (by decide) pd19 (c_length C hO_hp2 S_yl4) rfl rfl rfl at_52 (Nat.le_of_ble_eq_true rfl) (Nat.le_of_ble_eq_true rfl) (Nat.le_of_ble_eq_true rfl) (Nat.le_of_ble_eq_true rfl) (fun _ q => nomatch q) ?_
      rintro _ _ _ ⟨rfl, rfl⟩
      refine ok_as (mkF m 55 #[.val (.int i0), .val (.int i1), .val (.int i2), .val (.int i3), .val (.int (0 : Int32)), .val (.ref yl4), .val (.int (0 : Int32)), .val (.int chr7), .val (.int chr8), .unset, .unset, .unset, .unset, .unset, .unset] [(.int (4 : Int32))]) rfl ?_
      refine ok_istore G #[.val (.int i0), .val (.int i1), .val (.int i2), .val (.int i3), .val (.int (0 : Int32)), .val (.ref yl4), .val (.int (0 : Int32)), .val (.int chr7), .val (.int chr8), .val (.int (4 : Int32)), .unset, .unset, .unset, .unset, .unset] at_55 rfl ?_
      refine ok_iload G at_57 rfl ?_
      refine ok_ifneN G at_59 (by decide) ?_
      refine ok_iload G at_62 rfl ?_
      refine ok_goto G 94 at_64 (by decide) (by decide) ?_
      refine ok_istore G #[.val (.int i0), .val (.int i1), .val (.int i2), .val (.int i3), .val (.int (0 : Int32)), .val (.ref yl4), .val (.int (0 : Int32)), .val (.int chr7), .val (.int chr8), .val (.int (4 : Int32)), .val (.int (4 : Int32)), .unset, .unset, .unset, .unset] at_94 rfl ?_
      refine ok_iloadN G at_96 rfl ?_
      refine ok_ldcI G (C.w21) at_97 ?_
      refine ok_iand G at_99 ?_
      refine ok_iload G at_100 rfl ?_
      refine ok_iconst G (1 : Int32) at_102 rfl ?_
      refine ok_iadd G at_103 ?_
      refine ok_sayI (5 : Int32) (by decide) ?_
      refine ok_irem G at_104 (by decide) ?_
      refine ok_nameI ?_
      intro ps qps
      obtain ⟨kp, hkp, hpk⟩ := own_remk (x := (i2 &&& (2147483647 : Int32))) (n := 4) (m := (5 : Int32)) (own_mask _) (by decide) (by decide)
      replace hpk : ps = Int32.ofNat kp := qps.trans hpk
      subst hpk
      refine ok_istore G #[.val (.int i0), .val (.int i1), .val (.int i2), .val (.int i3), .val (.int (0 : Int32)), .val (.ref yl4), .val (.int (0 : Int32)), .val (.int chr7), .val (.int chr8), .val (.int (4 : Int32)), .val (.int (4 : Int32)), .val (.int (Int32.ofNat kp)), .unset, .unset, .unset] at_105 rfl ?_
      refine ok_iload G at_107 rfl ?_
      refine ok_iconst G (3 : Int32) at_109 rfl ?_
      refine ok_icmpneY G 136 at_110 (by decide) (by decide) (by decide) ?_
      refine ok_iload G at_136 rfl ?_
      refine ok_ifneN G at_138 (by decide) ?_
      refine ok_iload G at_141 rfl ?_
      refine ok_iconst G (3 : Int32) at_143 rfl ?_
      refine ok_icmpneY G 207 at_144 (by decide) (by decide) (by decide) ?_
      refine ok_iload G at_207 rfl ?_
      refine ok_iconst G (4 : Int32) at_209 rfl ?_
      refine ok_icmpneN G at_210 (by decide) ?_
      refine ok_new G (C.w22) (C.w2) (C.w1) at_213 (Nat.le_of_ble_eq_true rfl) (Nat.le_of_ble_eq_true rfl) ?_
      intro hp12 ob11 eq_ob11 K13 g_ob11 lb_ob11 E_ob11 D_ob11
      have ne_yl4_ob11 : yl4 ≠ ob11 := Nat.ne_of_lt (Nat.lt_of_lt_of_le S_yl4.lt (Nat.le_of_eq eq_ob11.symm))
      have ne_tr5_ob11 : tr5 ≠ ob11 := Nat.ne_of_lt (Nat.lt_of_lt_of_le S_yl4.ltT (Nat.le_of_eq eq_ob11.symm))
      replace S_yl4 := S_yl4.keep K13 nin0 nin0
      have F_ob11_value : Fld Z hp12 ob11 "java/lang/String" "value" "[B" .null := D_ob11 _ _ _ (.array .byte) (Or.inr (C.w4)) (by decide)
      have F_ob11_coder : Fld Z hp12 ob11 "java/lang/String" "coder" "B" (.int (0 : Int32)) := D_ob11 _ _ _ .byte (Or.inr (C.w5)) (by decide)
      refine ok_dup G at_216 rfl ?_
      refine ok_iconst G (4 : Int32) at_217 rfl ?_
      refine ok_newP G (aty := .char) (C.w23) at_218 (by decide) 4 (by decide) (by decide) (Nat.le_of_ble_eq_true rfl) (Nat.le_of_ble_eq_true rfl) ?_
      intro hp15 ob14 k_ob14 eq_ob14 K16 g_ob14 lb_ob14 V_ob14
      have ne_yl4_ob14 : yl4 ≠ ob14 := Nat.ne_of_lt (Nat.lt_of_lt_of_le S_yl4.lt (Nat.le_of_eq eq_ob14.symm))
      have ne_tr5_ob14 : tr5 ≠ ob14 := Nat.ne_of_lt (Nat.lt_of_lt_of_le S_yl4.ltT (Nat.le_of_eq eq_ob14.symm))
      have ne_ob11_ob14 : ob11 ≠ ob14 := Nat.ne_of_lt (Nat.lt_of_lt_of_le E_ob11.lt (Nat.le_of_eq eq_ob14.symm))
      replace S_yl4 := S_yl4.keep K16 nin0 nin0
      replace E_ob11 := E_ob11.keep K16
      replace F_ob11_value := F_ob11_value.keep K16 nin0
      replace F_ob11_coder := F_ob11_coder.keep K16 nin0
      replace V_ob14 : Arv Z hp15 ob14 k_ob14 .char (4 : Int32) [(.int (0 : Int32)), (.int (0 : Int32)), (.int (0 : Int32)), (.int (0 : Int32))] (.int (0 : Int32)) := V_ob14.pad (pad_rep [] (.int (0 : Int32)) 4)
      refine ok_dup G at_220 rfl ?_
      refine ok_iconst G (0 : Int32) at_221 rfl ?_
      refine ok_aload G at_222 rfl rfl ?_
      refine ok_iconst G (0 : Int32) at_224 rfl ?_
      refine ok_iload G at_225 rfl ?_
      refine ok_iload G at_227 rfl ?_
      refine ok_iload G at_229 rfl ?_
      refine ok_old (fun hO_hp15 => ?_)
      refine ok_static G (argsL := [(.ref yl4), (.int (0 : Int32)), (.int (Int32.ofNat kp)), (.int chr7), (.int chr8)]) (rest := [(.int (0 : Int32)), (.ref ob14), (.ref ob14), (.ref ob11), (.ref ob11)]) (C.w24) (C.w25) (C.w26) (C.w27) (by decide) pd21 (c_pick C hO_hp15 S_yl4 0 (by decide) rfl lchr7 lchr8) rfl rfl rfl at_231 (Nat.le_of_ble_eq_true rfl) (Nat.le_of_ble_eq_true rfl) (Nat.le_of_ble_eq_true rfl) (Nat.le_of_ble_eq_true rfl) (fun _ q => nomatch q) ?_
      rintro _ _ _ ⟨chr17, rfl, lchr17, qchr17, rfl⟩
      refine ok_as (mkF m 234 #[.val (.int i0), .val (.int i1), .val (.int i2), .val (.int i3), .val (.int (0 : Int32)), .val (.ref yl4), .val (.int (0 : Int32)), .val (.int chr7), .val (.int chr8), .val (.int (4 : Int32)), .val (.int (4 : Int32)), .val (.int (Int32.ofNat kp)), .unset, .unset, .unset] [(.int chr17), (.int (0 : Int32)), (.ref ob14), (.ref ob14), (.ref ob11), (.ref ob11)]) rfl ?_
      refine ok_castore G chr17 0 V_ob14 ⟨by decide, by decide⟩ rfl (Nat.le_of_ble_eq_true rfl) (Lat.nar lchr17) at_234 g_ob14 (Or.inr lb_ob14) (SafeFor.mem (List.mem_of_getElem? (i := 0) rfl)) ?_
      intro hp20 K21 Vn
      replace S_yl4 := S_yl4.keep K21 (ninS ne_yl4_ob14 nin0) (ninS ne_tr5_ob14 nin0)
      replace E_ob11 := E_ob11.keep K21
      replace F_ob11_value := F_ob11_value.keep K21 (ninS ne_ob11_ob14 nin0)
      replace F_ob11_coder := F_ob11_coder.keep K21 (ninS ne_ob11_ob14 nin0)
      replace V_ob14 : Arv Z hp20 ob14 k_ob14 .char (4 : Int32) [(.int chr17), (.int (0 : Int32)), (.int (0 : Int32)), (.int (0 : Int32))] (.int (0 : Int32)) := Vn
      clear Vn
      refine ok_dup G at_235 rfl ?_
      refine ok_iconst G (1 : Int32) at_236 rfl ?_
      refine ok_aload G at_237 rfl rfl ?_
      refine ok_iconst G (1 : Int32) at_239 rfl ?_
      refine ok_iload G at_240 rfl ?_
      refine ok_iload G at_242 rfl ?_
      refine ok_iload G at_244 rfl ?_
      refine ok_old (fun hO_hp20 => ?_)
      refine ok_static G (argsL := [(.ref yl4), (.int (1 : Int32)), (.int (Int32.ofNat kp)), (.int chr7), (.int chr8)]) (rest := [(.int (1 : Int32)), (.ref ob14), (.ref ob14), (.ref ob11), (.ref ob11)]) (C.w24) (C.w25) (C.w26) (C.w27) (by decide) pd21 (c_pick C hO_hp20 S_yl4 1 (by decide) rfl lchr7 lchr8) rfl rfl rfl at_246 (Nat.le_of_ble_eq_true rfl) (Nat.le_of_ble_eq_true rfl) (Nat.le_of_ble_eq_true rfl) (Nat.le_of_ble_eq_true rfl) (fun _ q => nomatch q) ?_
      rintro _ _ _ ⟨chr22, rfl, lchr22, qchr22, rfl⟩
      refine ok_as (mkF m 249 #[.val (.int i0), .val (.int i1), .val (.int i2), .val (.int i3), .val (.int (0 : Int32)), .val (.ref yl4), .val (.int (0 : Int32)), .val (.int chr7), .val (.int chr8), .val (.int (4 : Int32)), .val (.int (4 : Int32)), .val (.int (Int32.ofNat kp)), .unset, .unset, .unset] [(.int chr22), (.int (1 : Int32)), (.ref ob14), (.ref ob14), (.ref ob11), (.ref ob11)]) rfl ?_
      refine ok_castore G chr22 1 V_ob14 ⟨by decide, by decide⟩ rfl (Nat.le_of_ble_eq_true rfl) (Lat.nar lchr22) at_249 g_ob14 (Or.inr lb_ob14) (SafeFor.mem (List.mem_of_getElem? (i := 0) rfl)) ?_
      intro hp25 K26 Vn
      replace S_yl4 := S_yl4.keep K26 (ninS ne_yl4_ob14 nin0) (ninS ne_tr5_ob14 nin0)
      replace E_ob11 := E_ob11.keep K26
      replace F_ob11_value := F_ob11_value.keep K26 (ninS ne_ob11_ob14 nin0)
      replace F_ob11_coder := F_ob11_coder.keep K26 (ninS ne_ob11_ob14 nin0)
      replace V_ob14 : Arv Z hp25 ob14 k_ob14 .char (4 : Int32) [(.int chr17), (.int chr22), (.int (0 : Int32)), (.int (0 : Int32))] (.int (0 : Int32)) := Vn
      clear Vn
      refine ok_dup G at_250 rfl ?_
      refine ok_iconst G (2 : Int32) at_251 rfl ?_
      refine ok_aload G at_252 rfl rfl ?_
      refine ok_iconst G (2 : Int32) at_254 rfl ?_
      refine ok_iload G at_255 rfl ?_
      refine ok_iload G at_257 rfl ?_
      refine ok_iload G at_259 rfl ?_
      refine ok_old (fun hO_hp25 => ?_)
      refine ok_static G (argsL := [(.ref yl4), (.int (2 : Int32)), (.int (Int32.ofNat kp)), (.int chr7), (.int chr8)]) (rest := [(.int (2 : Int32)), (.ref ob14), (.ref ob14), (.ref ob11), (.ref ob11)]) (C.w24) (C.w25) (C.w26) (C.w27) (by decide) pd21 (c_pick C hO_hp25 S_yl4 2 (by decide) rfl lchr7 lchr8) rfl rfl rfl at_261 (Nat.le_of_ble_eq_true rfl) (Nat.le_of_ble_eq_true rfl) (Nat.le_of_ble_eq_true rfl) (Nat.le_of_ble_eq_true rfl) (fun _ q => nomatch q) ?_
      rintro _ _ _ ⟨chr27, rfl, lchr27, qchr27, rfl⟩
      refine ok_as (mkF m 264 #[.val (.int i0), .val (.int i1), .val (.int i2), .val (.int i3), .val (.int (0 : Int32)), .val (.ref yl4), .val (.int (0 : Int32)), .val (.int chr7), .val (.int chr8), .val (.int (4 : Int32)), .val (.int (4 : Int32)), .val (.int (Int32.ofNat kp)), .unset, .unset, .unset] [(.int chr27), (.int (2 : Int32)), (.ref ob14), (.ref ob14), (.ref ob11), (.ref ob11)]) rfl ?_
      refine ok_castore G chr27 2 V_ob14 ⟨by decide, by decide⟩ rfl (Nat.le_of_ble_eq_true rfl) (Lat.nar lchr27) at_264 g_ob14 (Or.inr lb_ob14) (SafeFor.mem (List.mem_of_getElem? (i := 0) rfl)) ?_
      intro hp30 K31 Vn
      replace S_yl4 := S_yl4.keep K31 (ninS ne_yl4_ob14 nin0) (ninS ne_tr5_ob14 nin0)
      replace E_ob11 := E_ob11.keep K31
      replace F_ob11_value := F_ob11_value.keep K31 (ninS ne_ob11_ob14 nin0)
      replace F_ob11_coder := F_ob11_coder.keep K31 (ninS ne_ob11_ob14 nin0)
      replace V_ob14 : Arv Z hp30 ob14 k_ob14 .char (4 : Int32) [(.int chr17), (.int chr22), (.int chr27), (.int (0 : Int32))] (.int (0 : Int32)) := Vn
      clear Vn
      refine ok_dup G at_265 rfl ?_
      refine ok_iconst G (3 : Int32) at_266 rfl ?_
      refine ok_aload G at_267 rfl rfl ?_
      refine ok_iconst G (3 : Int32) at_269 rfl ?_
      refine ok_iload G at_270 rfl ?_
      refine ok_iload G at_272 rfl ?_
      refine ok_iload G at_274 rfl ?_
      refine ok_old (fun hO_hp30 => ?_)
      refine ok_static G (argsL := [(.ref yl4), (.int (3 : Int32)), (.int (Int32.ofNat kp)), (.int chr7), (.int chr8)]) (rest := [(.int (3 : Int32)), (.ref ob14), (.ref ob14), (.ref ob11), (.ref ob11)]) (C.w24) (C.w25) (C.w26) (C.w27) (by decide) pd21 (c_pick C hO_hp30 S_yl4 3 (by decide) rfl lchr7 lchr8) rfl rfl rfl at_276 (Nat.le_of_ble_eq_true rfl) (Nat.le_of_ble_eq_true rfl) (Nat.le_of_ble_eq_true rfl) (Nat.le_of_ble_eq_true rfl) (fun _ q => nomatch q) ?_
      rintro _ _ _ ⟨chr32, rfl, lchr32, qchr32, rfl⟩
      refine ok_as (mkF m 279 #[.val (.int i0), .val (.int i1), .val (.int i2), .val (.int i3), .val (.int (0 : Int32)), .val (.ref yl4), .val (.int (0 : Int32)), .val (.int chr7), .val (.int chr8), .val (.int (4 : Int32)), .val (.int (4 : Int32)), .val (.int (Int32.ofNat kp)), .unset, .unset, .unset] [(.int chr32), (.int (3 : Int32)), (.ref ob14), (.ref ob14), (.ref ob11), (.ref ob11)]) rfl ?_
      refine ok_castore G chr32 3 V_ob14 ⟨by decide, by decide⟩ rfl (Nat.le_of_ble_eq_true rfl) (Lat.nar lchr32) at_279 g_ob14 (Or.inr lb_ob14) (SafeFor.mem (List.mem_of_getElem? (i := 0) rfl)) ?_
      intro hp35 K36 Vn
      replace S_yl4 := S_yl4.keep K36 (ninS ne_yl4_ob14 nin0) (ninS ne_tr5_ob14 nin0)
      replace E_ob11 := E_ob11.keep K36
      replace F_ob11_value := F_ob11_value.keep K36 (ninS ne_ob11_ob14 nin0)
      replace F_ob11_coder := F_ob11_coder.keep K36 (ninS ne_ob11_ob14 nin0)
      replace V_ob14 : Arv Z hp35 ob14 k_ob14 .char (4 : Int32) [(.int chr17), (.int chr22), (.int chr27), (.int chr32)] (.int (0 : Int32)) := Vn
      clear Vn
      refine ok_old (fun hO_hp35 => ?_)
      refine ok_keep (fun hKp_hp35 => ?_)
      refine ok_init G (a := ob11) (argsL := [(.ref ob14)]) (rest := [(.ref ob11)]) rfl (C.w50) (C.w51) (C.w1) (C.w52) (by decide) pd22 (c_init1 (cs := [chr17, chr22, chr27, chr32]) C hO_hp35 E_ob11 F_ob11_value F_ob11_coder g_ob11 V_ob14 (Nat.le_of_ble_eq_true rfl) (Nat.le_of_ble_eq_true rfl) (allL lchr17 (allL lchr22 (allL lchr27 (allL lchr32 (fun _ q => nomatch q))))) ne_ob11_ob14) rfl rfl rfl at_280 (Nat.le_of_ble_eq_true rfl) (Nat.le_of_ble_eq_true rfl) (Nat.le_of_ble_eq_true rfl) (Nat.le_of_ble_eq_true rfl) (allS ⟨(Or.inr lb_ob11), (SafeFor.mem (List.mem_of_getElem? (i := 1) rfl))⟩ (fun _ q => nomatch q)) ?_
      rintro _ hp38 K39 ⟨rfl, tr37, lbq_tr37, S_ob11⟩
      have lbh_tr37 := lbq_tr37
      have ne_yl4_tr37 : yl4 ≠ tr37 := Nat.ne_of_lt (Nat.lt_of_lt_of_le S_yl4.lt lbh_tr37)
      have ne_tr5_tr37 : tr5 ≠ tr37 := Nat.ne_of_lt (Nat.lt_of_lt_of_le S_yl4.ltT lbh_tr37)
      have ne_ob11_tr37 : ob11 ≠ tr37 := Nat.ne_of_lt (Nat.lt_of_lt_of_le E_ob11.lt lbh_tr37)
      have ne_ob14_tr37 : ob14 ≠ tr37 := Nat.ne_of_lt (Nat.lt_of_lt_of_le V_ob14.lt lbh_tr37)
      have lb_tr37 : h0.size ≤ tr37 := Nat.le_trans hKp_hp35.1 lbh_tr37
      have g_tr37 : n0 ≤ tr37 := Nat.le_trans (old_le hO_hp35) lbh_tr37
      replace S_yl4 := S_yl4.keep K39 (ninS ne_yl4_ob11 nin0) (ninS ne_tr5_ob11 nin0)
      replace E_ob11 := E_ob11.keep K39
      replace V_ob14 := V_ob14.keep K39 (ninS (Ne.symm ne_ob11_ob14) nin0)
      refine ok_as (mkF m 283 #[.val (.int i0), .val (.int i1), .val (.int i2), .val (.int i3), .val (.int (0 : Int32)), .val (.ref yl4), .val (.int (0 : Int32)), .val (.int chr7), .val (.int chr8), .val (.int (4 : Int32)), .val (.int (4 : Int32)), .val (.int (Int32.ofNat kp)), .unset, .unset, .unset] [(.ref ob11)]) rfl ?_
      refine ok_astore G #[.val (.int i0), .val (.int i1), .val (.int i2), .val (.int i3), .val (.int (0 : Int32)), .val (.ref yl4), .val (.int (0 : Int32)), .val (.int chr7), .val (.int chr8), .val (.int (4 : Int32)), .val (.int (4 : Int32)), .val (.int (Int32.ofNat kp)), .val (.ref ob11), .unset, .unset] at_283 rfl rfl ?_
      refine ok_goto G 860 at_285 (by decide) (by decide) ?_
      refine ok_aconst_null G at_860 ?_
      refine ok_astore G #[.val (.int i0), .val (.int i1), .val (.int i2), .val (.int i3), .val (.int (0 : Int32)), .val (.ref yl4), .val (.int (0 : Int32)), .val (.int chr7), .val (.int chr8), .val (.int (4 : Int32)), .val (.int (4 : Int32)), .val (.int (Int32.ofNat kp)), .val (.ref ob11), .val .null, .unset] at_861 rfl rfl ?_
      refine ok_iload G at_863 rfl ?_
      refine ok_ifneN G at_865 (by decide) ?_
      refine ok_iload G at_868 rfl ?_
      refine ok_iload G at_870 rfl ?_
      refine ok_icmpeq G 887 at_872 (by decide) (by decide) (fun cq40 => ?_) (fun cq40 => ?_)
      · skip
        have hke : kp = 4 := (i32_eq (j := 4) (by omega) (by omega)).mp cq40
        refine ok_iload G at_887 rfl ?_
        refine ok_ifeqY G 898 at_889 (by decide) (by decide) (by decide) ?_
        refine ok_getS G (host := "") (Or.inl (C.w116)) Via.refl sJ at_898 ?_
        refine ok_astore G #[.val (.int i0), .val (.int i1), .val (.int i2), .val (.int i3), .val (.int (0 : Int32)), .val (.ref yl4), .val (.int (0 : Int32)), .val (.int chr7), .val (.int chr8), .val (.int (4 : Int32)), .val (.int (4 : Int32)), .val (.int (Int32.ofNat kp)), .val (.ref ob11), .val (.ref ja), .unset] at_901 rfl rfl ?_
        refine ok_aload G at_903 rfl rfl ?_
        refine ok_old (fun hO_hp38 => ?_)
        refine ok_static G (argsL := [(.ref ob11)]) (rest := []) (C.w70) (C.w71) (C.w72) (C.w73) (by decide) pd23 (c_named C hO_hp38 S_ob11 HT) rfl rfl rfl at_905 (Nat.le_of_ble_eq_true rfl) (Nat.le_of_ble_eq_true rfl) (Nat.le_of_ble_eq_true rfl) (Nat.le_of_ble_eq_true rfl) (fun _ q => nomatch q) ?_
        rintro _ hp42 K43 ⟨xr41, rfl, EO_xr41, hv_xr41⟩
        replace S_yl4 := S_yl4.keep K43 nin0 nin0
        replace E_ob11 := E_ob11.keep K43
        replace V_ob14 := V_ob14.keep K43 nin0
        replace S_ob11 := S_ob11.keep K43 nin0 nin0
        refine ok_as (mkF m 908 #[.val (.int i0), .val (.int i1), .val (.int i2), .val (.int i3), .val (.int (0 : Int32)), .val (.ref yl4), .val (.int (0 : Int32)), .val (.int chr7), .val (.int chr8), .val (.int (4 : Int32)), .val (.int (4 : Int32)), .val (.int (Int32.ofNat kp)), .val (.ref ob11), .val (.ref ja), .unset] [(.ref xr41)]) rfl ?_
        rcases hv_xr41 with ⟨e1, FO_xr41⟩ | ⟨e1, e2, FO_xr41⟩ | ⟨e1, e2, FO_xr41⟩
        · skip
          refine ok_astore G #[.val (.int i0), .val (.int i1), .val (.int i2), .val (.int i3), .val (.int (0 : Int32)), .val (.ref yl4), .val (.int (0 : Int32)), .val (.int chr7), .val (.int chr8), .val (.int (4 : Int32)), .val (.int (4 : Int32)), .val (.int (Int32.ofNat kp)), .val (.ref ob11), .val (.ref ja), .val (.ref xr41)] at_908 rfl rfl ?_
          refine ok_aload G at_910 rfl rfl ?_
          refine ok_aconst_null G at_912 ?_
          refine ok_old (fun hO_hp42 => ?_)
          refine ok_virtual G (a := xr41) (y0 := (⟨"java/util/Optional", "orElse", "(Ljava/lang/Object;)Ljava/lang/Object;"⟩ : MethodName)) (y := (⟨"java/util/Optional", "orElse", "(Ljava/lang/Object;)Ljava/lang/Object;"⟩ : MethodName)) (argsL := [.null]) (rest := []) EO_xr41 (C.w107) (C.w108) (C.w110) (fun vm hZ => notFace_of_selects (args := #[]) (mvT (s := s.setVm vm) hZ (C.w110))) (C.w109) (C.w104) (C.w111) (by decide) pd13 (c_orR C hO_hp42 FO_xr41) rfl rfl rfl at_913 (Nat.le_of_ble_eq_true rfl) (Nat.le_of_ble_eq_true rfl) (Nat.le_of_ble_eq_true rfl) (Nat.le_of_ble_eq_true rfl) (fun _ q => nomatch q) ?_
          rintro _ _ _ ⟨rfl, rfl⟩
          refine ok_as (mkF m 916 #[.val (.int i0), .val (.int i1), .val (.int i2), .val (.int i3), .val (.int (0 : Int32)), .val (.ref yl4), .val (.int (0 : Int32)), .val (.int chr7), .val (.int chr8), .val (.int (4 : Int32)), .val (.int (4 : Int32)), .val (.int (Int32.ofNat kp)), .val (.ref ob11), .val (.ref ja), .val (.ref xr41)] [(.ref ja)]) rfl ?_
          refine ok_aload G at_916 rfl rfl ?_
          refine ok_acmp G true 921 at_918 rfl rfl (decide_eq_true rfl) (by decide) (by decide) ?_
          refine ok_iconst G (1 : Int32) at_921 rfl ?_
          refine ok_goto G 926 at_922 (by decide) (by decide) ?_
          exact ok_retN G rfl (by simp) at_926 rfl rfl (Nat.le_of_ble_eq_true rfl) (Nat.le_of_ble_eq_true rfl)
        · skip
          exact absurd (show (9 : Nat) = 4 from congrArg List.length e2) (by decide)
        · skip
          exact absurd ((own_java hkp qchr17 qchr22 qchr27 qchr32).mpr (Or.inl hke)) e1
      · skip
        have hke : ¬ kp = 4 := fun q => cq40 (by rw [q]; rfl)
        refine ok_iload G at_875 rfl ?_
        refine ok_aload G at_877 rfl rfl ?_
        refine ok_iload G at_879 rfl ?_
        refine ok_old (fun hO_hp38 => ?_)
        refine ok_virtual G (a := yl4) (y0 := (⟨"java/lang/String", "charAt", "(I)C"⟩ : MethodName)) (y := (⟨"java/lang/String", "charAt", "(I)C"⟩ : MethodName)) (argsL := [(.int (Int32.ofNat kp))]) (rest := [(.int chr7)]) S_yl4.exa (C.w28) (C.w29) (C.w31) (fun vm hZ => notFace_of_selects (args := #[]) (mvT (s := s.setVm vm) hZ (C.w31))) (C.w30) (C.w1) (C.w32) (by decide) pd20 (c_charAt (ch := ([(106 : Int32), (97 : Int32), (118 : Int32), (97 : Int32)].getD kp 0)) C hO_hp38 S_yl4 kp (show kp < 4 by omega) rfl rfl) rfl rfl rfl at_881 (Nat.le_of_ble_eq_true rfl) (Nat.le_of_ble_eq_true rfl) (Nat.le_of_ble_eq_true rfl) (Nat.le_of_ble_eq_true rfl) (fun _ q => nomatch q) ?_
        rintro _ _ _ ⟨rfl, rfl⟩
        refine ok_as (mkF m 884 #[.val (.int i0), .val (.int i1), .val (.int i2), .val (.int i3), .val (.int (0 : Int32)), .val (.ref yl4), .val (.int (0 : Int32)), .val (.int chr7), .val (.int chr8), .val (.int (4 : Int32)), .val (.int (4 : Int32)), .val (.int (Int32.ofNat kp)), .val (.ref ob11), .val .null, .unset] [(.int ([(106 : Int32), (97 : Int32), (118 : Int32), (97 : Int32)].getD kp 0)), (.int chr7)]) rfl ?_
        refine ok_icmpne G 903 at_884 (by decide) (by decide) (fun cq48 => ?_) (fun cq48 => ?_)
        · skip
          refine ok_aload G at_903 rfl rfl ?_
          refine ok_static G (argsL := [(.ref ob11)]) (rest := []) (C.w70) (C.w71) (C.w72) (C.w73) (by decide) pd23 (c_named C hO_hp38 S_ob11 HT) rfl rfl rfl at_905 (Nat.le_of_ble_eq_true rfl) (Nat.le_of_ble_eq_true rfl) (Nat.le_of_ble_eq_true rfl) (Nat.le_of_ble_eq_true rfl) (fun _ q => nomatch q) ?_
          rintro _ hp50 K51 ⟨xr49, rfl, EO_xr49, hv_xr49⟩
          replace S_yl4 := S_yl4.keep K51 nin0 nin0
          replace E_ob11 := E_ob11.keep K51
          replace V_ob14 := V_ob14.keep K51 nin0
          replace S_ob11 := S_ob11.keep K51 nin0 nin0
          refine ok_as (mkF m 908 #[.val (.int i0), .val (.int i1), .val (.int i2), .val (.int i3), .val (.int (0 : Int32)), .val (.ref yl4), .val (.int (0 : Int32)), .val (.int chr7), .val (.int chr8), .val (.int (4 : Int32)), .val (.int (4 : Int32)), .val (.int (Int32.ofNat kp)), .val (.ref ob11), .val .null, .unset] [(.ref xr49)]) rfl ?_
          rcases hv_xr49 with ⟨e1, FO_xr49⟩ | ⟨e1, e2, FO_xr49⟩ | ⟨e1, e2, FO_xr49⟩
          · skip
            rcases (own_java hkp qchr17 qchr22 qchr27 qchr32).mp e1 with q | q
            · exact absurd q hke
            · exact absurd q cq48
          · skip
            exact absurd (show (9 : Nat) = 4 from congrArg List.length e2) (by decide)
          · skip
            refine ok_astore G #[.val (.int i0), .val (.int i1), .val (.int i2), .val (.int i3), .val (.int (0 : Int32)), .val (.ref yl4), .val (.int (0 : Int32)), .val (.int chr7), .val (.int chr8), .val (.int (4 : Int32)), .val (.int (4 : Int32)), .val (.int (Int32.ofNat kp)), .val (.ref ob11), .val .null, .val (.ref xr49)] at_908 rfl rfl ?_
            refine ok_aload G at_910 rfl rfl ?_
            refine ok_aconst_null G at_912 ?_
            refine ok_old (fun hO_hp50 => ?_)
            refine ok_virtual G (a := xr49) (y0 := (⟨"java/util/Optional", "orElse", "(Ljava/lang/Object;)Ljava/lang/Object;"⟩ : MethodName)) (y := (⟨"java/util/Optional", "orElse", "(Ljava/lang/Object;)Ljava/lang/Object;"⟩ : MethodName)) (argsL := [.null]) (rest := []) EO_xr49 (C.w107) (C.w108) (C.w110) (fun vm hZ => notFace_of_selects (args := #[]) (mvT (s := s.setVm vm) hZ (C.w110))) (C.w109) (C.w104) (C.w111) (by decide) pd13 (c_orN C hO_hp50 FO_xr49) rfl rfl rfl at_913 (Nat.le_of_ble_eq_true rfl) (Nat.le_of_ble_eq_true rfl) (Nat.le_of_ble_eq_true rfl) (Nat.le_of_ble_eq_true rfl) (fun _ q => nomatch q) ?_
            rintro _ _ _ ⟨rfl, rfl⟩
            refine ok_as (mkF m 916 #[.val (.int i0), .val (.int i1), .val (.int i2), .val (.int i3), .val (.int (0 : Int32)), .val (.ref yl4), .val (.int (0 : Int32)), .val (.int chr7), .val (.int chr8), .val (.int (4 : Int32)), .val (.int (4 : Int32)), .val (.int (Int32.ofNat kp)), .val (.ref ob11), .val .null, .val (.ref xr49)] [.null]) rfl ?_
            refine ok_aload G at_916 rfl rfl ?_
            refine ok_acmp G true 921 at_918 rfl rfl (decide_eq_true rfl) (by decide) (by decide) ?_
            refine ok_iconst G (1 : Int32) at_921 rfl ?_
            refine ok_goto G 926 at_922 (by decide) (by decide) ?_
            exact ok_retN G rfl (by simp) at_926 rfl rfl (Nat.le_of_ble_eq_true rfl) (Nat.le_of_ble_eq_true rfl)
        · skip
          refine ok_iload G at_887 rfl ?_
          refine ok_ifeqY G 898 at_889 (by decide) (by decide) (by decide) ?_
          refine ok_getS G (host := "") (Or.inl (C.w116)) Via.refl sJ at_898 ?_
          refine ok_astore G #[.val (.int i0), .val (.int i1), .val (.int i2), .val (.int i3), .val (.int (0 : Int32)), .val (.ref yl4), .val (.int (0 : Int32)), .val (.int chr7), .val (.int chr8), .val (.int (4 : Int32)), .val (.int (4 : Int32)), .val (.int (Int32.ofNat kp)), .val (.ref ob11), .val (.ref ja), .unset] at_901 rfl rfl ?_
          refine ok_aload G at_903 rfl rfl ?_
          refine ok_static G (argsL := [(.ref ob11)]) (rest := []) (C.w70) (C.w71) (C.w72) (C.w73) (by decide) pd23 (c_named C hO_hp38 S_ob11 HT) rfl rfl rfl at_905 (Nat.le_of_ble_eq_true rfl) (Nat.le_of_ble_eq_true rfl) (Nat.le_of_ble_eq_true rfl) (Nat.le_of_ble_eq_true rfl) (fun _ q => nomatch q) ?_
          rintro _ hp55 K56 ⟨xr54, rfl, EO_xr54, hv_xr54⟩
          replace S_yl4 := S_yl4.keep K56 nin0 nin0
          replace E_ob11 := E_ob11.keep K56
          replace V_ob14 := V_ob14.keep K56 nin0
          replace S_ob11 := S_ob11.keep K56 nin0 nin0
          refine ok_as (mkF m 908 #[.val (.int i0), .val (.int i1), .val (.int i2), .val (.int i3), .val (.int (0 : Int32)), .val (.ref yl4), .val (.int (0 : Int32)), .val (.int chr7), .val (.int chr8), .val (.int (4 : Int32)), .val (.int (4 : Int32)), .val (.int (Int32.ofNat kp)), .val (.ref ob11), .val (.ref ja), .unset] [(.ref xr54)]) rfl ?_
          rcases hv_xr54 with ⟨e1, FO_xr54⟩ | ⟨e1, e2, FO_xr54⟩ | ⟨e1, e2, FO_xr54⟩
          · skip
            refine ok_astore G #[.val (.int i0), .val (.int i1), .val (.int i2), .val (.int i3), .val (.int (0 : Int32)), .val (.ref yl4), .val (.int (0 : Int32)), .val (.int chr7), .val (.int chr8), .val (.int (4 : Int32)), .val (.int (4 : Int32)), .val (.int (Int32.ofNat kp)), .val (.ref ob11), .val (.ref ja), .val (.ref xr54)] at_908 rfl rfl ?_
            refine ok_aload G at_910 rfl rfl ?_
            refine ok_aconst_null G at_912 ?_
            refine ok_old (fun hO_hp55 => ?_)
            refine ok_virtual G (a := xr54) (y0 := (⟨"java/util/Optional", "orElse", "(Ljava/lang/Object;)Ljava/lang/Object;"⟩ : MethodName)) (y := (⟨"java/util/Optional", "orElse", "(Ljava/lang/Object;)Ljava/lang/Object;"⟩ : MethodName)) (argsL := [.null]) (rest := []) EO_xr54 (C.w107) (C.w108) (C.w110) (fun vm hZ => notFace_of_selects (args := #[]) (mvT (s := s.setVm vm) hZ (C.w110))) (C.w109) (C.w104) (C.w111) (by decide) pd13 (c_orR C hO_hp55 FO_xr54) rfl rfl rfl at_913 (Nat.le_of_ble_eq_true rfl) (Nat.le_of_ble_eq_true rfl) (Nat.le_of_ble_eq_true rfl) (Nat.le_of_ble_eq_true rfl) (fun _ q => nomatch q) ?_
            rintro _ _ _ ⟨rfl, rfl⟩
            refine ok_as (mkF m 916 #[.val (.int i0), .val (.int i1), .val (.int i2), .val (.int i3), .val (.int (0 : Int32)), .val (.ref yl4), .val (.int (0 : Int32)), .val (.int chr7), .val (.int chr8), .val (.int (4 : Int32)), .val (.int (4 : Int32)), .val (.int (Int32.ofNat kp)), .val (.ref ob11), .val (.ref ja), .val (.ref xr54)] [(.ref ja)]) rfl ?_
            refine ok_aload G at_916 rfl rfl ?_
            refine ok_acmp G true 921 at_918 rfl rfl (decide_eq_true rfl) (by decide) (by decide) ?_
            refine ok_iconst G (1 : Int32) at_921 rfl ?_
            refine ok_goto G 926 at_922 (by decide) (by decide) ?_
            exact ok_retN G rfl (by simp) at_926 rfl rfl (Nat.le_of_ble_eq_true rfl) (Nat.le_of_ble_eq_true rfl)
          · skip
            exact absurd (show (9 : Nat) = 4 from congrArg List.length e2) (by decide)
          · skip
            exact absurd ((own_java hkp qchr17 qchr22 qchr27 qchr32).mpr (Or.inr cq48)) e1
    · skip
      rw [hk4]
      refine ok_istore G #[.val (.int i0), .val (.int i1), .val (.int i2), .val (.int i3), .val (.int (0 : Int32)), .val (.ref yl4), .val (.int (1 : Int32)), .unset, .unset, .unset, .unset, .unset, .unset, .unset, .unset] at_32 rfl ?_
      refine ok_iloadN G at_34 rfl ?_
      refine ok_sipush G (255 : Int32) at_35 rfl ?_
      refine ok_iand G at_38 ?_
      refine ok_i2c G at_39 ?_
      refine ok_nameI ?_
      intro chr59 qchr59
      have lchr59 : Lat chr59 := by rw [qchr59]; exact lat_mask _
      refine ok_istore G #[.val (.int i0), .val (.int i1), .val (.int i2), .val (.int i3), .val (.int (0 : Int32)), .val (.ref yl4), .val (.int (1 : Int32)), .val (.int chr59), .unset, .unset, .unset, .unset, .unset, .unset, .unset] at_40 rfl ?_
      refine ok_iloadN G at_42 rfl ?_
      refine ok_sipush G (255 : Int32) at_43 rfl ?_
      refine ok_iand G at_46 ?_
      refine ok_i2c G at_47 ?_
      refine ok_nameI ?_
      intro chr60 qchr60
      have lchr60 : Lat chr60 := by rw [qchr60]; exact lat_mask _
      refine ok_istore G #[.val (.int i0), .val (.int i1), .val (.int i2), .val (.int i3), .val (.int (0 : Int32)), .val (.ref yl4), .val (.int (1 : Int32)), .val (.int chr59), .val (.int chr60), .unset, .unset, .unset, .unset, .unset, .unset] at_48 rfl ?_
      refine ok_aload G at_50 rfl rfl ?_
      refine ok_old (fun hO_hp2 => ?_)
      refine ok_virtual G (a := yl4) (y0 := (⟨"java/lang/String", "length", "()I"⟩ : MethodName)) (y := (⟨"java/lang/String", "length", "()I"⟩ : MethodName)) (argsL := []) (rest := []) S_yl4.exa (C.w8) (C.w9) (C.w11) (fun vm hZ => notFace_of_selects (args := #[]) (mvT (s := s.setVm vm) hZ (C.w11))) (C.w10) (C.w1) (C.w12) (by decide) pd19 (c_length C hO_hp2 S_yl4) rfl rfl rfl at_52 (Nat.le_of_ble_eq_true rfl) (Nat.le_of_ble_eq_true rfl) (Nat.le_of_ble_eq_true rfl) (Nat.le_of_ble_eq_true rfl) (fun _ q => nomatch q) ?_
      rintro _ _ _ ⟨rfl, rfl⟩
      refine ok_as (mkF m 55 #[.val (.int i0), .val (.int i1), .val (.int i2), .val (.int i3), .val (.int (0 : Int32)), .val (.ref yl4), .val (.int (1 : Int32)), .val (.int chr59), .val (.int chr60), .unset, .unset, .unset, .unset, .unset, .unset] [(.int (4 : Int32))]) rfl ?_
      refine ok_istore G #[.val (.int i0), .val (.int i1), .val (.int i2), .val (.int i3), .val (.int (0 : Int32)), .val (.ref yl4), .val (.int (1 : Int32)), .val (.int chr59), .val (.int chr60), .val (.int (4 : Int32)), .unset, .unset, .unset, .unset, .unset] at_55 rfl ?_
      refine ok_iload G at_57 rfl ?_
      refine ok_ifneY G 67 at_59 (by decide) (by decide) (by decide) ?_
      refine ok_iload G at_67 rfl ?_
      refine ok_iconst G (1 : Int32) at_69 rfl ?_
      refine ok_icmpneN G at_70 (by decide) ?_
      refine ok_iload G at_73 rfl ?_
      refine ok_iconst G (1 : Int32) at_75 rfl ?_
      refine ok_isub G at_76 ?_
      refine ok_goto G 94 at_77 (by decide) (by decide) ?_
      refine ok_sayI (3 : Int32) (by decide) ?_
      refine ok_istore G #[.val (.int i0), .val (.int i1), .val (.int i2), .val (.int i3), .val (.int (0 : Int32)), .val (.ref yl4), .val (.int (1 : Int32)), .val (.int chr59), .val (.int chr60), .val (.int (4 : Int32)), .val (.int (3 : Int32)), .unset, .unset, .unset, .unset] at_94 rfl ?_
      refine ok_iloadN G at_96 rfl ?_
      refine ok_ldcI G (C.w21) at_97 ?_
      refine ok_iand G at_99 ?_
      refine ok_iload G at_100 rfl ?_
      refine ok_iconst G (1 : Int32) at_102 rfl ?_
      refine ok_iadd G at_103 ?_
      refine ok_sayI (4 : Int32) (by decide) ?_
      refine ok_irem G at_104 (by decide) ?_
      refine ok_nameI ?_
      intro ps qps
      obtain ⟨kp, hkp, hpk⟩ := own_remk (x := (i2 &&& (2147483647 : Int32))) (n := 3) (m := (4 : Int32)) (own_mask _) (by decide) (by decide)
      replace hpk : ps = Int32.ofNat kp := qps.trans hpk
      subst hpk
      refine ok_istore G #[.val (.int i0), .val (.int i1), .val (.int i2), .val (.int i3), .val (.int (0 : Int32)), .val (.ref yl4), .val (.int (1 : Int32)), .val (.int chr59), .val (.int chr60), .val (.int (4 : Int32)), .val (.int (3 : Int32)), .val (.int (Int32.ofNat kp)), .unset, .unset, .unset] at_105 rfl ?_
      refine ok_iload G at_107 rfl ?_
      refine ok_iconst G (3 : Int32) at_109 rfl ?_
      refine ok_icmpneY G 136 at_110 (by decide) (by decide) (by decide) ?_
      refine ok_iload G at_136 rfl ?_
      refine ok_ifneN G at_138 (by decide) ?_
      refine ok_iload G at_141 rfl ?_
      refine ok_iconst G (3 : Int32) at_143 rfl ?_
      refine ok_icmpneN G at_144 (by decide) ?_
      refine ok_new G (C.w22) (C.w2) (C.w1) at_147 (Nat.le_of_ble_eq_true rfl) (Nat.le_of_ble_eq_true rfl) ?_
      intro hp64 ob63 eq_ob63 K65 g_ob63 lb_ob63 E_ob63 D_ob63
      have ne_yl4_ob63 : yl4 ≠ ob63 := Nat.ne_of_lt (Nat.lt_of_lt_of_le S_yl4.lt (Nat.le_of_eq eq_ob63.symm))
      have ne_tr5_ob63 : tr5 ≠ ob63 := Nat.ne_of_lt (Nat.lt_of_lt_of_le S_yl4.ltT (Nat.le_of_eq eq_ob63.symm))
      replace S_yl4 := S_yl4.keep K65 nin0 nin0
      have F_ob63_value : Fld Z hp64 ob63 "java/lang/String" "value" "[B" .null := D_ob63 _ _ _ (.array .byte) (Or.inr (C.w4)) (by decide)
      have F_ob63_coder : Fld Z hp64 ob63 "java/lang/String" "coder" "B" (.int (0 : Int32)) := D_ob63 _ _ _ .byte (Or.inr (C.w5)) (by decide)
      refine ok_dup G at_150 rfl ?_
      refine ok_iconst G (3 : Int32) at_151 rfl ?_
      refine ok_newP G (aty := .char) (C.w23) at_152 (by decide) 3 (by decide) (by decide) (Nat.le_of_ble_eq_true rfl) (Nat.le_of_ble_eq_true rfl) ?_
      intro hp67 ob66 k_ob66 eq_ob66 K68 g_ob66 lb_ob66 V_ob66
      have ne_yl4_ob66 : yl4 ≠ ob66 := Nat.ne_of_lt (Nat.lt_of_lt_of_le S_yl4.lt (Nat.le_of_eq eq_ob66.symm))
      have ne_tr5_ob66 : tr5 ≠ ob66 := Nat.ne_of_lt (Nat.lt_of_lt_of_le S_yl4.ltT (Nat.le_of_eq eq_ob66.symm))
      have ne_ob63_ob66 : ob63 ≠ ob66 := Nat.ne_of_lt (Nat.lt_of_lt_of_le E_ob63.lt (Nat.le_of_eq eq_ob66.symm))
      replace S_yl4 := S_yl4.keep K68 nin0 nin0
      replace E_ob63 := E_ob63.keep K68
      replace F_ob63_value := F_ob63_value.keep K68 nin0
      replace F_ob63_coder := F_ob63_coder.keep K68 nin0
      replace V_ob66 : Arv Z hp67 ob66 k_ob66 .char (3 : Int32) [(.int (0 : Int32)), (.int (0 : Int32)), (.int (0 : Int32))] (.int (0 : Int32)) := V_ob66.pad (pad_rep [] (.int (0 : Int32)) 3)
      refine ok_dup G at_154 rfl ?_
      refine ok_iconst G (0 : Int32) at_155 rfl ?_
      refine ok_aload G at_156 rfl rfl ?_
      refine ok_iconst G (0 : Int32) at_158 rfl ?_
      refine ok_iload G at_159 rfl ?_
      refine ok_iload G at_161 rfl ?_
      refine ok_iload G at_163 rfl ?_
      refine ok_old (fun hO_hp67 => ?_)
      refine ok_static G (argsL := [(.ref yl4), (.int (0 : Int32)), (.int (Int32.ofNat kp)), (.int chr59), (.int chr60)]) (rest := [(.int (0 : Int32)), (.ref ob66), (.ref ob66), (.ref ob63), (.ref ob63)]) (C.w24) (C.w25) (C.w26) (C.w27) (by decide) pd21 (c_pick C hO_hp67 S_yl4 0 (by decide) rfl lchr59 lchr60) rfl rfl rfl at_165 (Nat.le_of_ble_eq_true rfl) (Nat.le_of_ble_eq_true rfl) (Nat.le_of_ble_eq_true rfl) (Nat.le_of_ble_eq_true rfl) (fun _ q => nomatch q) ?_
      rintro _ _ _ ⟨chr69, rfl, lchr69, qchr69, rfl⟩
      refine ok_as (mkF m 168 #[.val (.int i0), .val (.int i1), .val (.int i2), .val (.int i3), .val (.int (0 : Int32)), .val (.ref yl4), .val (.int (1 : Int32)), .val (.int chr59), .val (.int chr60), .val (.int (4 : Int32)), .val (.int (3 : Int32)), .val (.int (Int32.ofNat kp)), .unset, .unset, .unset] [(.int chr69), (.int (0 : Int32)), (.ref ob66), (.ref ob66), (.ref ob63), (.ref ob63)]) rfl ?_
      refine ok_castore G chr69 0 V_ob66 ⟨by decide, by decide⟩ rfl (Nat.le_of_ble_eq_true rfl) (Lat.nar lchr69) at_168 g_ob66 (Or.inr lb_ob66) (SafeFor.mem (List.mem_of_getElem? (i := 0) rfl)) ?_
      intro hp72 K73 Vn
      replace S_yl4 := S_yl4.keep K73 (ninS ne_yl4_ob66 nin0) (ninS ne_tr5_ob66 nin0)
      replace E_ob63 := E_ob63.keep K73
      replace F_ob63_value := F_ob63_value.keep K73 (ninS ne_ob63_ob66 nin0)
      replace F_ob63_coder := F_ob63_coder.keep K73 (ninS ne_ob63_ob66 nin0)
      replace V_ob66 : Arv Z hp72 ob66 k_ob66 .char (3 : Int32) [(.int chr69), (.int (0 : Int32)), (.int (0 : Int32))] (.int (0 : Int32)) := Vn
      clear Vn
      refine ok_dup G at_169 rfl ?_
      refine ok_iconst G (1 : Int32) at_170 rfl ?_
      refine ok_aload G at_171 rfl rfl ?_
      refine ok_iconst G (1 : Int32) at_173 rfl ?_
      refine ok_iload G at_174 rfl ?_
      refine ok_iload G at_176 rfl ?_
      refine ok_iload G at_178 rfl ?_
      refine ok_old (fun hO_hp72 => ?_)
      refine ok_static G (argsL := [(.ref yl4), (.int (1 : Int32)), (.int (Int32.ofNat kp)), (.int chr59), (.int chr60)]) (rest := [(.int (1 : Int32)), (.ref ob66), (.ref ob66), (.ref ob63), (.ref ob63)]) (C.w24) (C.w25) (C.w26) (C.w27) (by decide) pd21 (c_pick C hO_hp72 S_yl4 1 (by decide) rfl lchr59 lchr60) rfl rfl rfl at_180 (Nat.le_of_ble_eq_true rfl) (Nat.le_of_ble_eq_true rfl) (Nat.le_of_ble_eq_true rfl) (Nat.le_of_ble_eq_true rfl) (fun _ q => nomatch q) ?_
      rintro _ _ _ ⟨chr74, rfl, lchr74, qchr74, rfl⟩
      refine ok_as (mkF m 183 #[.val (.int i0), .val (.int i1), .val (.int i2), .val (.int i3), .val (.int (0 : Int32)), .val (.ref yl4), .val (.int (1 : Int32)), .val (.int chr59), .val (.int chr60), .val (.int (4 : Int32)), .val (.int (3 : Int32)), .val (.int (Int32.ofNat kp)), .unset, .unset, .unset] [(.int chr74), (.int (1 : Int32)), (.ref ob66), (.ref ob66), (.ref ob63), (.ref ob63)]) rfl ?_
      refine ok_castore G chr74 1 V_ob66 ⟨by decide, by decide⟩ rfl (Nat.le_of_ble_eq_true rfl) (Lat.nar lchr74) at_183 g_ob66 (Or.inr lb_ob66) (SafeFor.mem (List.mem_of_getElem? (i := 0) rfl)) ?_
      intro hp77 K78 Vn
      replace S_yl4 := S_yl4.keep K78 (ninS ne_yl4_ob66 nin0) (ninS ne_tr5_ob66 nin0)
      replace E_ob63 := E_ob63.keep K78
      replace F_ob63_value := F_ob63_value.keep K78 (ninS ne_ob63_ob66 nin0)
      replace F_ob63_coder := F_ob63_coder.keep K78 (ninS ne_ob63_ob66 nin0)
      replace V_ob66 : Arv Z hp77 ob66 k_ob66 .char (3 : Int32) [(.int chr69), (.int chr74), (.int (0 : Int32))] (.int (0 : Int32)) := Vn
      clear Vn
      refine ok_dup G at_184 rfl ?_
      refine ok_iconst G (2 : Int32) at_185 rfl ?_
      refine ok_aload G at_186 rfl rfl ?_
      refine ok_iconst G (2 : Int32) at_188 rfl ?_
      refine ok_iload G at_189 rfl ?_
      refine ok_iload G at_191 rfl ?_
      refine ok_iload G at_193 rfl ?_
      refine ok_old (fun hO_hp77 => ?_)
      refine ok_static G (argsL := [(.ref yl4), (.int (2 : Int32)), (.int (Int32.ofNat kp)), (.int chr59), (.int chr60)]) (rest := [(.int (2 : Int32)), (.ref ob66), (.ref ob66), (.ref ob63), (.ref ob63)]) (C.w24) (C.w25) (C.w26) (C.w27) (by decide) pd21 (c_pick C hO_hp77 S_yl4 2 (by decide) rfl lchr59 lchr60) rfl rfl rfl at_195 (Nat.le_of_ble_eq_true rfl) (Nat.le_of_ble_eq_true rfl) (Nat.le_of_ble_eq_true rfl) (Nat.le_of_ble_eq_true rfl) (fun _ q => nomatch q) ?_
      rintro _ _ _ ⟨chr79, rfl, lchr79, qchr79, rfl⟩
      refine ok_as (mkF m 198 #[.val (.int i0), .val (.int i1), .val (.int i2), .val (.int i3), .val (.int (0 : Int32)), .val (.ref yl4), .val (.int (1 : Int32)), .val (.int chr59), .val (.int chr60), .val (.int (4 : Int32)), .val (.int (3 : Int32)), .val (.int (Int32.ofNat kp)), .unset, .unset, .unset] [(.int chr79), (.int (2 : Int32)), (.ref ob66), (.ref ob66), (.ref ob63), (.ref ob63)]) rfl ?_
      refine ok_castore G chr79 2 V_ob66 ⟨by decide, by decide⟩ rfl (Nat.le_of_ble_eq_true rfl) (Lat.nar lchr79) at_198 g_ob66 (Or.inr lb_ob66) (SafeFor.mem (List.mem_of_getElem? (i := 0) rfl)) ?_
      intro hp82 K83 Vn
      replace S_yl4 := S_yl4.keep K83 (ninS ne_yl4_ob66 nin0) (ninS ne_tr5_ob66 nin0)
      replace E_ob63 := E_ob63.keep K83
      replace F_ob63_value := F_ob63_value.keep K83 (ninS ne_ob63_ob66 nin0)
      replace F_ob63_coder := F_ob63_coder.keep K83 (ninS ne_ob63_ob66 nin0)
      replace V_ob66 : Arv Z hp82 ob66 k_ob66 .char (3 : Int32) [(.int chr69), (.int chr74), (.int chr79)] (.int (0 : Int32)) := Vn
      clear Vn
      refine ok_old (fun hO_hp82 => ?_)
      refine ok_keep (fun hKp_hp82 => ?_)
      refine ok_init G (a := ob63) (argsL := [(.ref ob66)]) (rest := [(.ref ob63)]) rfl (C.w50) (C.w51) (C.w1) (C.w52) (by decide) pd22 (c_init1 (cs := [chr69, chr74, chr79]) C hO_hp82 E_ob63 F_ob63_value F_ob63_coder g_ob63 V_ob66 (Nat.le_of_ble_eq_true rfl) (Nat.le_of_ble_eq_true rfl) (allL lchr69 (allL lchr74 (allL lchr79 (fun _ q => nomatch q)))) ne_ob63_ob66) rfl rfl rfl at_199 (Nat.le_of_ble_eq_true rfl) (Nat.le_of_ble_eq_true rfl) (Nat.le_of_ble_eq_true rfl) (Nat.le_of_ble_eq_true rfl) (allS ⟨(Or.inr lb_ob63), (SafeFor.mem (List.mem_of_getElem? (i := 1) rfl))⟩ (fun _ q => nomatch q)) ?_
      rintro _ hp85 K86 ⟨rfl, tr84, lbq_tr84, S_ob63⟩
      have lbh_tr84 := lbq_tr84
      have ne_yl4_tr84 : yl4 ≠ tr84 := Nat.ne_of_lt (Nat.lt_of_lt_of_le S_yl4.lt lbh_tr84)
      have ne_tr5_tr84 : tr5 ≠ tr84 := Nat.ne_of_lt (Nat.lt_of_lt_of_le S_yl4.ltT lbh_tr84)
      have ne_ob63_tr84 : ob63 ≠ tr84 := Nat.ne_of_lt (Nat.lt_of_lt_of_le E_ob63.lt lbh_tr84)
      have ne_ob66_tr84 : ob66 ≠ tr84 := Nat.ne_of_lt (Nat.lt_of_lt_of_le V_ob66.lt lbh_tr84)
      have lb_tr84 : h0.size ≤ tr84 := Nat.le_trans hKp_hp82.1 lbh_tr84
      have g_tr84 : n0 ≤ tr84 := Nat.le_trans (old_le hO_hp82) lbh_tr84
      replace S_yl4 := S_yl4.keep K86 (ninS ne_yl4_ob63 nin0) (ninS ne_tr5_ob63 nin0)
      replace E_ob63 := E_ob63.keep K86
      replace V_ob66 := V_ob66.keep K86 (ninS (Ne.symm ne_ob63_ob66) nin0)
      refine ok_as (mkF m 202 #[.val (.int i0), .val (.int i1), .val (.int i2), .val (.int i3), .val (.int (0 : Int32)), .val (.ref yl4), .val (.int (1 : Int32)), .val (.int chr59), .val (.int chr60), .val (.int (4 : Int32)), .val (.int (3 : Int32)), .val (.int (Int32.ofNat kp)), .unset, .unset, .unset] [(.ref ob63)]) rfl ?_
      refine ok_astore G #[.val (.int i0), .val (.int i1), .val (.int i2), .val (.int i3), .val (.int (0 : Int32)), .val (.ref yl4), .val (.int (1 : Int32)), .val (.int chr59), .val (.int chr60), .val (.int (4 : Int32)), .val (.int (3 : Int32)), .val (.int (Int32.ofNat kp)), .val (.ref ob63), .unset, .unset] at_202 rfl rfl ?_
      refine ok_goto G 860 at_204 (by decide) (by decide) ?_
      refine ok_aconst_null G at_860 ?_
      refine ok_astore G #[.val (.int i0), .val (.int i1), .val (.int i2), .val (.int i3), .val (.int (0 : Int32)), .val (.ref yl4), .val (.int (1 : Int32)), .val (.int chr59), .val (.int chr60), .val (.int (4 : Int32)), .val (.int (3 : Int32)), .val (.int (Int32.ofNat kp)), .val (.ref ob63), .val .null, .unset] at_861 rfl rfl ?_
      refine ok_iload G at_863 rfl ?_
      refine ok_ifneY G 903 at_865 (by decide) (by decide) (by decide) ?_
      refine ok_aload G at_903 rfl rfl ?_
      refine ok_old (fun hO_hp85 => ?_)
      refine ok_static G (argsL := [(.ref ob63)]) (rest := []) (C.w70) (C.w71) (C.w72) (C.w73) (by decide) pd23 (c_named C hO_hp85 S_ob63 HT) rfl rfl rfl at_905 (Nat.le_of_ble_eq_true rfl) (Nat.le_of_ble_eq_true rfl) (Nat.le_of_ble_eq_true rfl) (Nat.le_of_ble_eq_true rfl) (fun _ q => nomatch q) ?_
      rintro _ hp88 K89 ⟨xr87, rfl, EO_xr87, hv_xr87⟩
      replace S_yl4 := S_yl4.keep K89 nin0 nin0
      replace E_ob63 := E_ob63.keep K89
      replace V_ob66 := V_ob66.keep K89 nin0
      replace S_ob63 := S_ob63.keep K89 nin0 nin0
      refine ok_as (mkF m 908 #[.val (.int i0), .val (.int i1), .val (.int i2), .val (.int i3), .val (.int (0 : Int32)), .val (.ref yl4), .val (.int (1 : Int32)), .val (.int chr59), .val (.int chr60), .val (.int (4 : Int32)), .val (.int (3 : Int32)), .val (.int (Int32.ofNat kp)), .val (.ref ob63), .val .null, .unset] [(.ref xr87)]) rfl ?_
      rcases hv_xr87 with ⟨e1, FO_xr87⟩ | ⟨e1, e2, FO_xr87⟩ | ⟨e1, e2, FO_xr87⟩
      · skip
        exact absurd (show (4 : Nat) = 3 from congrArg List.length e1) (by decide)
      · skip
        exact absurd (show (9 : Nat) = 3 from congrArg List.length e2) (by decide)
      · skip
        refine ok_astore G #[.val (.int i0), .val (.int i1), .val (.int i2), .val (.int i3), .val (.int (0 : Int32)), .val (.ref yl4), .val (.int (1 : Int32)), .val (.int chr59), .val (.int chr60), .val (.int (4 : Int32)), .val (.int (3 : Int32)), .val (.int (Int32.ofNat kp)), .val (.ref ob63), .val .null, .val (.ref xr87)] at_908 rfl rfl ?_
        refine ok_aload G at_910 rfl rfl ?_
        refine ok_aconst_null G at_912 ?_
        refine ok_old (fun hO_hp88 => ?_)
        refine ok_virtual G (a := xr87) (y0 := (⟨"java/util/Optional", "orElse", "(Ljava/lang/Object;)Ljava/lang/Object;"⟩ : MethodName)) (y := (⟨"java/util/Optional", "orElse", "(Ljava/lang/Object;)Ljava/lang/Object;"⟩ : MethodName)) (argsL := [.null]) (rest := []) EO_xr87 (C.w107) (C.w108) (C.w110) (fun vm hZ => notFace_of_selects (args := #[]) (mvT (s := s.setVm vm) hZ (C.w110))) (C.w109) (C.w104) (C.w111) (by decide) pd13 (c_orN C hO_hp88 FO_xr87) rfl rfl rfl at_913 (Nat.le_of_ble_eq_true rfl) (Nat.le_of_ble_eq_true rfl) (Nat.le_of_ble_eq_true rfl) (Nat.le_of_ble_eq_true rfl) (fun _ q => nomatch q) ?_
        rintro _ _ _ ⟨rfl, rfl⟩
        refine ok_as (mkF m 916 #[.val (.int i0), .val (.int i1), .val (.int i2), .val (.int i3), .val (.int (0 : Int32)), .val (.ref yl4), .val (.int (1 : Int32)), .val (.int chr59), .val (.int chr60), .val (.int (4 : Int32)), .val (.int (3 : Int32)), .val (.int (Int32.ofNat kp)), .val (.ref ob63), .val .null, .val (.ref xr87)] [.null]) rfl ?_
        refine ok_aload G at_916 rfl rfl ?_
        refine ok_acmp G true 921 at_918 rfl rfl (decide_eq_true rfl) (by decide) (by decide) ?_
        refine ok_iconst G (1 : Int32) at_921 rfl ?_
        refine ok_goto G 926 at_922 (by decide) (by decide) ?_
        exact ok_retN G rfl (by simp) at_926 rfl rfl (Nat.le_of_ble_eq_true rfl) (Nat.le_of_ble_eq_true rfl)
    · skip
      rw [hk4]
      refine ok_istore G #[.val (.int i0), .val (.int i1), .val (.int i2), .val (.int i3), .val (.int (0 : Int32)), .val (.ref yl4), .val (.int (2 : Int32)), .unset, .unset, .unset, .unset, .unset, .unset, .unset, .unset] at_32 rfl ?_
      refine ok_iloadN G at_34 rfl ?_
      refine ok_sipush G (255 : Int32) at_35 rfl ?_
      refine ok_iand G at_38 ?_
      refine ok_i2c G at_39 ?_
      refine ok_nameI ?_
      intro chr92 qchr92
      have lchr92 : Lat chr92 := by rw [qchr92]; exact lat_mask _
      refine ok_istore G #[.val (.int i0), .val (.int i1), .val (.int i2), .val (.int i3), .val (.int (0 : Int32)), .val (.ref yl4), .val (.int (2 : Int32)), .val (.int chr92), .unset, .unset, .unset, .unset, .unset, .unset, .unset] at_40 rfl ?_
      refine ok_iloadN G at_42 rfl ?_
      refine ok_sipush G (255 : Int32) at_43 rfl ?_
      refine ok_iand G at_46 ?_
      refine ok_i2c G at_47 ?_
      refine ok_nameI ?_
      intro chr93 qchr93
      have lchr93 : Lat chr93 := by rw [qchr93]; exact lat_mask _
      refine ok_istore G #[.val (.int i0), .val (.int i1), .val (.int i2), .val (.int i3), .val (.int (0 : Int32)), .val (.ref yl4), .val (.int (2 : Int32)), .val (.int chr92), .val (.int chr93), .unset, .unset, .unset, .unset, .unset, .unset] at_48 rfl ?_
      refine ok_aload G at_50 rfl rfl ?_
      refine ok_old (fun hO_hp2 => ?_)
      refine ok_virtual G (a := yl4) (y0 := (⟨"java/lang/String", "length", "()I"⟩ : MethodName)) (y := (⟨"java/lang/String", "length", "()I"⟩ : MethodName)) (argsL := []) (rest := []) S_yl4.exa (C.w8) (C.w9) (C.w11) (fun vm hZ => notFace_of_selects (args := #[]) (mvT (s := s.setVm vm) hZ (C.w11))) (C.w10) (C.w1) (C.w12) (by decide) pd19 (c_length C hO_hp2 S_yl4) rfl rfl rfl at_52 (Nat.le_of_ble_eq_true rfl) (Nat.le_of_ble_eq_true rfl) (Nat.le_of_ble_eq_true rfl) (Nat.le_of_ble_eq_true rfl) (fun _ q => nomatch q) ?_
      rintro _ _ _ ⟨rfl, rfl⟩
      refine ok_as (mkF m 55 #[.val (.int i0), .val (.int i1), .val (.int i2), .val (.int i3), .val (.int (0 : Int32)), .val (.ref yl4), .val (.int (2 : Int32)), .val (.int chr92), .val (.int chr93), .unset, .unset, .unset, .unset, .unset, .unset] [(.int (4 : Int32))]) rfl ?_
      refine ok_istore G #[.val (.int i0), .val (.int i1), .val (.int i2), .val (.int i3), .val (.int (0 : Int32)), .val (.ref yl4), .val (.int (2 : Int32)), .val (.int chr92), .val (.int chr93), .val (.int (4 : Int32)), .unset, .unset, .unset, .unset, .unset] at_55 rfl ?_
      refine ok_iload G at_57 rfl ?_
      refine ok_ifneY G 67 at_59 (by decide) (by decide) (by decide) ?_
      refine ok_iload G at_67 rfl ?_
      refine ok_iconst G (1 : Int32) at_69 rfl ?_
      refine ok_icmpneY G 80 at_70 (by decide) (by decide) (by decide) ?_
      refine ok_iload G at_80 rfl ?_
      refine ok_iconst G (2 : Int32) at_82 rfl ?_
      refine ok_icmpneN G at_83 (by decide) ?_
      refine ok_iload G at_86 rfl ?_
      refine ok_iconst G (1 : Int32) at_88 rfl ?_
      refine ok_iadd G at_89 ?_
      refine ok_goto G 94 at_90 (by decide) (by decide) ?_
      refine ok_sayI (5 : Int32) (by decide) ?_
      refine ok_istore G #[.val (.int i0), .val (.int i1), .val (.int i2), .val (.int i3), .val (.int (0 : Int32)), .val (.ref yl4), .val (.int (2 : Int32)), .val (.int chr92), .val (.int chr93), .val (.int (4 : Int32)), .val (.int (5 : Int32)), .unset, .unset, .unset, .unset] at_94 rfl ?_
      refine ok_iloadN G at_96 rfl ?_
      refine ok_ldcI G (C.w21) at_97 ?_
      refine ok_iand G at_99 ?_
      refine ok_iload G at_100 rfl ?_
      refine ok_iconst G (1 : Int32) at_102 rfl ?_
      refine ok_iadd G at_103 ?_
      refine ok_sayI (6 : Int32) (by decide) ?_
      refine ok_irem G at_104 (by decide) ?_
      refine ok_nameI ?_
      intro ps qps
      obtain ⟨kp, hkp, hpk⟩ := own_remk (x := (i2 &&& (2147483647 : Int32))) (n := 5) (m := (6 : Int32)) (own_mask _) (by decide) (by decide)
      replace hpk : ps = Int32.ofNat kp := qps.trans hpk
      subst hpk
      refine ok_istore G #[.val (.int i0), .val (.int i1), .val (.int i2), .val (.int i3), .val (.int (0 : Int32)), .val (.ref yl4), .val (.int (2 : Int32)), .val (.int chr92), .val (.int chr93), .val (.int (4 : Int32)), .val (.int (5 : Int32)), .val (.int (Int32.ofNat kp)), .unset, .unset, .unset] at_105 rfl ?_
      refine ok_iload G at_107 rfl ?_
      refine ok_iconst G (3 : Int32) at_109 rfl ?_
      refine ok_icmpneY G 136 at_110 (by decide) (by decide) (by decide) ?_
      refine ok_iload G at_136 rfl ?_
      refine ok_ifneN G at_138 (by decide) ?_
      refine ok_iload G at_141 rfl ?_
      refine ok_iconst G (3 : Int32) at_143 rfl ?_
      refine ok_icmpneY G 207 at_144 (by decide) (by decide) (by decide) ?_
      refine ok_iload G at_207 rfl ?_
      refine ok_iconst G (4 : Int32) at_209 rfl ?_
      refine ok_icmpneY G 288 at_210 (by decide) (by decide) (by decide) ?_
      refine ok_new G (C.w22) (C.w2) (C.w1) at_288 (Nat.le_of_ble_eq_true rfl) (Nat.le_of_ble_eq_true rfl) ?_
      intro hp97 ob96 eq_ob96 K98 g_ob96 lb_ob96 E_ob96 D_ob96
      have ne_yl4_ob96 : yl4 ≠ ob96 := Nat.ne_of_lt (Nat.lt_of_lt_of_le S_yl4.lt (Nat.le_of_eq eq_ob96.symm))
      have ne_tr5_ob96 : tr5 ≠ ob96 := Nat.ne_of_lt (Nat.lt_of_lt_of_le S_yl4.ltT (Nat.le_of_eq eq_ob96.symm))
      replace S_yl4 := S_yl4.keep K98 nin0 nin0
      have F_ob96_value : Fld Z hp97 ob96 "java/lang/String" "value" "[B" .null := D_ob96 _ _ _ (.array .byte) (Or.inr (C.w4)) (by decide)
      have F_ob96_coder : Fld Z hp97 ob96 "java/lang/String" "coder" "B" (.int (0 : Int32)) := D_ob96 _ _ _ .byte (Or.inr (C.w5)) (by decide)
      refine ok_dup G at_291 rfl ?_
      refine ok_iconst G (5 : Int32) at_292 rfl ?_
      refine ok_newP G (aty := .char) (C.w23) at_293 (by decide) 5 (by decide) (by decide) (Nat.le_of_ble_eq_true rfl) (Nat.le_of_ble_eq_true rfl) ?_
      intro hp100 ob99 k_ob99 eq_ob99 K101 g_ob99 lb_ob99 V_ob99
      have ne_yl4_ob99 : yl4 ≠ ob99 := Nat.ne_of_lt (Nat.lt_of_lt_of_le S_yl4.lt (Nat.le_of_eq eq_ob99.symm))
      have ne_tr5_ob99 : tr5 ≠ ob99 := Nat.ne_of_lt (Nat.lt_of_lt_of_le S_yl4.ltT (Nat.le_of_eq eq_ob99.symm))
      have ne_ob96_ob99 : ob96 ≠ ob99 := Nat.ne_of_lt (Nat.lt_of_lt_of_le E_ob96.lt (Nat.le_of_eq eq_ob99.symm))
      replace S_yl4 := S_yl4.keep K101 nin0 nin0
      replace E_ob96 := E_ob96.keep K101
      replace F_ob96_value := F_ob96_value.keep K101 nin0
      replace F_ob96_coder := F_ob96_coder.keep K101 nin0
      replace V_ob99 : Arv Z hp100 ob99 k_ob99 .char (5 : Int32) [(.int (0 : Int32)), (.int (0 : Int32)), (.int (0 : Int32)), (.int (0 : Int32)), (.int (0 : Int32))] (.int (0 : Int32)) := V_ob99.pad (pad_rep [] (.int (0 : Int32)) 5)
      refine ok_dup G at_295 rfl ?_
      refine ok_iconst G (0 : Int32) at_296 rfl ?_
      refine ok_aload G at_297 rfl rfl ?_
      refine ok_iconst G (0 : Int32) at_299 rfl ?_
      refine ok_iload G at_300 rfl ?_
      refine ok_iload G at_302 rfl ?_
      refine ok_iload G at_304 rfl ?_
      refine ok_old (fun hO_hp100 => ?_)
      refine ok_static G (argsL := [(.ref yl4), (.int (0 : Int32)), (.int (Int32.ofNat kp)), (.int chr92), (.int chr93)]) (rest := [(.int (0 : Int32)), (.ref ob99), (.ref ob99), (.ref ob96), (.ref ob96)]) (C.w24) (C.w25) (C.w26) (C.w27) (by decide) pd21 (c_pick C hO_hp100 S_yl4 0 (by decide) rfl lchr92 lchr93) rfl rfl rfl at_306 (Nat.le_of_ble_eq_true rfl) (Nat.le_of_ble_eq_true rfl) (Nat.le_of_ble_eq_true rfl) (Nat.le_of_ble_eq_true rfl) (fun _ q => nomatch q) ?_
      rintro _ _ _ ⟨chr102, rfl, lchr102, qchr102, rfl⟩
      refine ok_as (mkF m 309 #[.val (.int i0), .val (.int i1), .val (.int i2), .val (.int i3), .val (.int (0 : Int32)), .val (.ref yl4), .val (.int (2 : Int32)), .val (.int chr92), .val (.int chr93), .val (.int (4 : Int32)), .val (.int (5 : Int32)), .val (.int (Int32.ofNat kp)), .unset, .unset, .unset] [(.int chr102), (.int (0 : Int32)), (.ref ob99), (.ref ob99), (.ref ob96), (.ref ob96)]) rfl ?_
      refine ok_castore G chr102 0 V_ob99 ⟨by decide, by decide⟩ rfl (Nat.le_of_ble_eq_true rfl) (Lat.nar lchr102) at_309 g_ob99 (Or.inr lb_ob99) (SafeFor.mem (List.mem_of_getElem? (i := 0) rfl)) ?_
      intro hp105 K106 Vn
      replace S_yl4 := S_yl4.keep K106 (ninS ne_yl4_ob99 nin0) (ninS ne_tr5_ob99 nin0)
      replace E_ob96 := E_ob96.keep K106
      replace F_ob96_value := F_ob96_value.keep K106 (ninS ne_ob96_ob99 nin0)
      replace F_ob96_coder := F_ob96_coder.keep K106 (ninS ne_ob96_ob99 nin0)
      replace V_ob99 : Arv Z hp105 ob99 k_ob99 .char (5 : Int32) [(.int chr102), (.int (0 : Int32)), (.int (0 : Int32)), (.int (0 : Int32)), (.int (0 : Int32))] (.int (0 : Int32)) := Vn
      clear Vn
      refine ok_dup G at_310 rfl ?_
      refine ok_iconst G (1 : Int32) at_311 rfl ?_
      refine ok_aload G at_312 rfl rfl ?_
      refine ok_iconst G (1 : Int32) at_314 rfl ?_
      refine ok_iload G at_315 rfl ?_
      refine ok_iload G at_317 rfl ?_
      refine ok_iload G at_319 rfl ?_
      refine ok_old (fun hO_hp105 => ?_)
      refine ok_static G (argsL := [(.ref yl4), (.int (1 : Int32)), (.int (Int32.ofNat kp)), (.int chr92), (.int chr93)]) (rest := [(.int (1 : Int32)), (.ref ob99), (.ref ob99), (.ref ob96), (.ref ob96)]) (C.w24) (C.w25) (C.w26) (C.w27) (by decide) pd21 (c_pick C hO_hp105 S_yl4 1 (by decide) rfl lchr92 lchr93) rfl rfl rfl at_321 (Nat.le_of_ble_eq_true rfl) (Nat.le_of_ble_eq_true rfl) (Nat.le_of_ble_eq_true rfl) (Nat.le_of_ble_eq_true rfl) (fun _ q => nomatch q) ?_
      rintro _ _ _ ⟨chr107, rfl, lchr107, qchr107, rfl⟩
      refine ok_as (mkF m 324 #[.val (.int i0), .val (.int i1), .val (.int i2), .val (.int i3), .val (.int (0 : Int32)), .val (.ref yl4), .val (.int (2 : Int32)), .val (.int chr92), .val (.int chr93), .val (.int (4 : Int32)), .val (.int (5 : Int32)), .val (.int (Int32.ofNat kp)), .unset, .unset, .unset] [(.int chr107), (.int (1 : Int32)), (.ref ob99), (.ref ob99), (.ref ob96), (.ref ob96)]) rfl ?_
      refine ok_castore G chr107 1 V_ob99 ⟨by decide, by decide⟩ rfl (Nat.le_of_ble_eq_true rfl) (Lat.nar lchr107) at_324 g_ob99 (Or.inr lb_ob99) (SafeFor.mem (List.mem_of_getElem? (i := 0) rfl)) ?_
      intro hp110 K111 Vn
      replace S_yl4 := S_yl4.keep K111 (ninS ne_yl4_ob99 nin0) (ninS ne_tr5_ob99 nin0)
      replace E_ob96 := E_ob96.keep K111
      replace F_ob96_value := F_ob96_value.keep K111 (ninS ne_ob96_ob99 nin0)
      replace F_ob96_coder := F_ob96_coder.keep K111 (ninS ne_ob96_ob99 nin0)
      replace V_ob99 : Arv Z hp110 ob99 k_ob99 .char (5 : Int32) [(.int chr102), (.int chr107), (.int (0 : Int32)), (.int (0 : Int32)), (.int (0 : Int32))] (.int (0 : Int32)) := Vn
      clear Vn
      refine ok_dup G at_325 rfl ?_
      refine ok_iconst G (2 : Int32) at_326 rfl ?_
      refine ok_aload G at_327 rfl rfl ?_
      refine ok_iconst G (2 : Int32) at_329 rfl ?_
      refine ok_iload G at_330 rfl ?_
      refine ok_iload G at_332 rfl ?_
      refine ok_iload G at_334 rfl ?_
      refine ok_old (fun hO_hp110 => ?_)
      refine ok_static G (argsL := [(.ref yl4), (.int (2 : Int32)), (.int (Int32.ofNat kp)), (.int chr92), (.int chr93)]) (rest := [(.int (2 : Int32)), (.ref ob99), (.ref ob99), (.ref ob96), (.ref ob96)]) (C.w24) (C.w25) (C.w26) (C.w27) (by decide) pd21 (c_pick C hO_hp110 S_yl4 2 (by decide) rfl lchr92 lchr93) rfl rfl rfl at_336 (Nat.le_of_ble_eq_true rfl) (Nat.le_of_ble_eq_true rfl) (Nat.le_of_ble_eq_true rfl) (Nat.le_of_ble_eq_true rfl) (fun _ q => nomatch q) ?_
      rintro _ _ _ ⟨chr112, rfl, lchr112, qchr112, rfl⟩
      refine ok_as (mkF m 339 #[.val (.int i0), .val (.int i1), .val (.int i2), .val (.int i3), .val (.int (0 : Int32)), .val (.ref yl4), .val (.int (2 : Int32)), .val (.int chr92), .val (.int chr93), .val (.int (4 : Int32)), .val (.int (5 : Int32)), .val (.int (Int32.ofNat kp)), .unset, .unset, .unset] [(.int chr112), (.int (2 : Int32)), (.ref ob99), (.ref ob99), (.ref ob96), (.ref ob96)]) rfl ?_
      refine ok_castore G chr112 2 V_ob99 ⟨by decide, by decide⟩ rfl (Nat.le_of_ble_eq_true rfl) (Lat.nar lchr112) at_339 g_ob99 (Or.inr lb_ob99) (SafeFor.mem (List.mem_of_getElem? (i := 0) rfl)) ?_
      intro hp115 K116 Vn
      replace S_yl4 := S_yl4.keep K116 (ninS ne_yl4_ob99 nin0) (ninS ne_tr5_ob99 nin0)
      replace E_ob96 := E_ob96.keep K116
      replace F_ob96_value := F_ob96_value.keep K116 (ninS ne_ob96_ob99 nin0)
      replace F_ob96_coder := F_ob96_coder.keep K116 (ninS ne_ob96_ob99 nin0)
      replace V_ob99 : Arv Z hp115 ob99 k_ob99 .char (5 : Int32) [(.int chr102), (.int chr107), (.int chr112), (.int (0 : Int32)), (.int (0 : Int32))] (.int (0 : Int32)) := Vn
      clear Vn
      refine ok_dup G at_340 rfl ?_
      refine ok_iconst G (3 : Int32) at_341 rfl ?_
      refine ok_aload G at_342 rfl rfl ?_
      refine ok_iconst G (3 : Int32) at_344 rfl ?_
      refine ok_iload G at_345 rfl ?_
      refine ok_iload G at_347 rfl ?_
      refine ok_iload G at_349 rfl ?_
      refine ok_old (fun hO_hp115 => ?_)
      refine ok_static G (argsL := [(.ref yl4), (.int (3 : Int32)), (.int (Int32.ofNat kp)), (.int chr92), (.int chr93)]) (rest := [(.int (3 : Int32)), (.ref ob99), (.ref ob99), (.ref ob96), (.ref ob96)]) (C.w24) (C.w25) (C.w26) (C.w27) (by decide) pd21 (c_pick C hO_hp115 S_yl4 3 (by decide) rfl lchr92 lchr93) rfl rfl rfl at_351 (Nat.le_of_ble_eq_true rfl) (Nat.le_of_ble_eq_true rfl) (Nat.le_of_ble_eq_true rfl) (Nat.le_of_ble_eq_true rfl) (fun _ q => nomatch q) ?_
      rintro _ _ _ ⟨chr117, rfl, lchr117, qchr117, rfl⟩
      refine ok_as (mkF m 354 #[.val (.int i0), .val (.int i1), .val (.int i2), .val (.int i3), .val (.int (0 : Int32)), .val (.ref yl4), .val (.int (2 : Int32)), .val (.int chr92), .val (.int chr93), .val (.int (4 : Int32)), .val (.int (5 : Int32)), .val (.int (Int32.ofNat kp)), .unset, .unset, .unset] [(.int chr117), (.int (3 : Int32)), (.ref ob99), (.ref ob99), (.ref ob96), (.ref ob96)]) rfl ?_
      refine ok_castore G chr117 3 V_ob99 ⟨by decide, by decide⟩ rfl (Nat.le_of_ble_eq_true rfl) (Lat.nar lchr117) at_354 g_ob99 (Or.inr lb_ob99) (SafeFor.mem (List.mem_of_getElem? (i := 0) rfl)) ?_
      intro hp120 K121 Vn
      replace S_yl4 := S_yl4.keep K121 (ninS ne_yl4_ob99 nin0) (ninS ne_tr5_ob99 nin0)
      replace E_ob96 := E_ob96.keep K121
      replace F_ob96_value := F_ob96_value.keep K121 (ninS ne_ob96_ob99 nin0)
      replace F_ob96_coder := F_ob96_coder.keep K121 (ninS ne_ob96_ob99 nin0)
      replace V_ob99 : Arv Z hp120 ob99 k_ob99 .char (5 : Int32) [(.int chr102), (.int chr107), (.int chr112), (.int chr117), (.int (0 : Int32))] (.int (0 : Int32)) := Vn
      clear Vn
      refine ok_dup G at_355 rfl ?_
      refine ok_iconst G (4 : Int32) at_356 rfl ?_
      refine ok_aload G at_357 rfl rfl ?_
      refine ok_iconst G (4 : Int32) at_359 rfl ?_
      refine ok_iload G at_360 rfl ?_
      refine ok_iload G at_362 rfl ?_
      refine ok_iload G at_364 rfl ?_
      refine ok_old (fun hO_hp120 => ?_)
      refine ok_static G (argsL := [(.ref yl4), (.int (4 : Int32)), (.int (Int32.ofNat kp)), (.int chr92), (.int chr93)]) (rest := [(.int (4 : Int32)), (.ref ob99), (.ref ob99), (.ref ob96), (.ref ob96)]) (C.w24) (C.w25) (C.w26) (C.w27) (by decide) pd21 (c_pick C hO_hp120 S_yl4 4 (by decide) rfl lchr92 lchr93) rfl rfl rfl at_366 (Nat.le_of_ble_eq_true rfl) (Nat.le_of_ble_eq_true rfl) (Nat.le_of_ble_eq_true rfl) (Nat.le_of_ble_eq_true rfl) (fun _ q => nomatch q) ?_
      rintro _ _ _ ⟨chr122, rfl, lchr122, qchr122, rfl⟩
      refine ok_as (mkF m 369 #[.val (.int i0), .val (.int i1), .val (.int i2), .val (.int i3), .val (.int (0 : Int32)), .val (.ref yl4), .val (.int (2 : Int32)), .val (.int chr92), .val (.int chr93), .val (.int (4 : Int32)), .val (.int (5 : Int32)), .val (.int (Int32.ofNat kp)), .unset, .unset, .unset] [(.int chr122), (.int (4 : Int32)), (.ref ob99), (.ref ob99), (.ref ob96), (.ref ob96)]) rfl ?_
      refine ok_castore G chr122 4 V_ob99 ⟨by decide, by decide⟩ rfl (Nat.le_of_ble_eq_true rfl) (Lat.nar lchr122) at_369 g_ob99 (Or.inr lb_ob99) (SafeFor.mem (List.mem_of_getElem? (i := 0) rfl)) ?_
      intro hp125 K126 Vn
      replace S_yl4 := S_yl4.keep K126 (ninS ne_yl4_ob99 nin0) (ninS ne_tr5_ob99 nin0)
      replace E_ob96 := E_ob96.keep K126
      replace F_ob96_value := F_ob96_value.keep K126 (ninS ne_ob96_ob99 nin0)
      replace F_ob96_coder := F_ob96_coder.keep K126 (ninS ne_ob96_ob99 nin0)
      replace V_ob99 : Arv Z hp125 ob99 k_ob99 .char (5 : Int32) [(.int chr102), (.int chr107), (.int chr112), (.int chr117), (.int chr122)] (.int (0 : Int32)) := Vn
      clear Vn
      refine ok_old (fun hO_hp125 => ?_)
      refine ok_keep (fun hKp_hp125 => ?_)
      refine ok_init G (a := ob96) (argsL := [(.ref ob99)]) (rest := [(.ref ob96)]) rfl (C.w50) (C.w51) (C.w1) (C.w52) (by decide) pd22 (c_init1 (cs := [chr102, chr107, chr112, chr117, chr122]) C hO_hp125 E_ob96 F_ob96_value F_ob96_coder g_ob96 V_ob99 (Nat.le_of_ble_eq_true rfl) (Nat.le_of_ble_eq_true rfl) (allL lchr102 (allL lchr107 (allL lchr112 (allL lchr117 (allL lchr122 (fun _ q => nomatch q)))))) ne_ob96_ob99) rfl rfl rfl at_370 (Nat.le_of_ble_eq_true rfl) (Nat.le_of_ble_eq_true rfl) (Nat.le_of_ble_eq_true rfl) (Nat.le_of_ble_eq_true rfl) (allS ⟨(Or.inr lb_ob96), (SafeFor.mem (List.mem_of_getElem? (i := 1) rfl))⟩ (fun _ q => nomatch q)) ?_
      rintro _ hp128 K129 ⟨rfl, tr127, lbq_tr127, S_ob96⟩
      have lbh_tr127 := lbq_tr127
      have ne_yl4_tr127 : yl4 ≠ tr127 := Nat.ne_of_lt (Nat.lt_of_lt_of_le S_yl4.lt lbh_tr127)
      have ne_tr5_tr127 : tr5 ≠ tr127 := Nat.ne_of_lt (Nat.lt_of_lt_of_le S_yl4.ltT lbh_tr127)
      have ne_ob96_tr127 : ob96 ≠ tr127 := Nat.ne_of_lt (Nat.lt_of_lt_of_le E_ob96.lt lbh_tr127)
      have ne_ob99_tr127 : ob99 ≠ tr127 := Nat.ne_of_lt (Nat.lt_of_lt_of_le V_ob99.lt lbh_tr127)
      have lb_tr127 : h0.size ≤ tr127 := Nat.le_trans hKp_hp125.1 lbh_tr127
      have g_tr127 : n0 ≤ tr127 := Nat.le_trans (old_le hO_hp125) lbh_tr127
      replace S_yl4 := S_yl4.keep K129 (ninS ne_yl4_ob96 nin0) (ninS ne_tr5_ob96 nin0)
      replace E_ob96 := E_ob96.keep K129
      replace V_ob99 := V_ob99.keep K129 (ninS (Ne.symm ne_ob96_ob99) nin0)
      refine ok_as (mkF m 373 #[.val (.int i0), .val (.int i1), .val (.int i2), .val (.int i3), .val (.int (0 : Int32)), .val (.ref yl4), .val (.int (2 : Int32)), .val (.int chr92), .val (.int chr93), .val (.int (4 : Int32)), .val (.int (5 : Int32)), .val (.int (Int32.ofNat kp)), .unset, .unset, .unset] [(.ref ob96)]) rfl ?_
      refine ok_astore G #[.val (.int i0), .val (.int i1), .val (.int i2), .val (.int i3), .val (.int (0 : Int32)), .val (.ref yl4), .val (.int (2 : Int32)), .val (.int chr92), .val (.int chr93), .val (.int (4 : Int32)), .val (.int (5 : Int32)), .val (.int (Int32.ofNat kp)), .val (.ref ob96), .unset, .unset] at_373 rfl rfl ?_
      refine ok_goto G 860 at_375 (by decide) (by decide) ?_
      refine ok_aconst_null G at_860 ?_
      refine ok_astore G #[.val (.int i0), .val (.int i1), .val (.int i2), .val (.int i3), .val (.int (0 : Int32)), .val (.ref yl4), .val (.int (2 : Int32)), .val (.int chr92), .val (.int chr93), .val (.int (4 : Int32)), .val (.int (5 : Int32)), .val (.int (Int32.ofNat kp)), .val (.ref ob96), .val .null, .unset] at_861 rfl rfl ?_
      refine ok_iload G at_863 rfl ?_
      refine ok_ifneY G 903 at_865 (by decide) (by decide) (by decide) ?_
      refine ok_aload G at_903 rfl rfl ?_
      refine ok_old (fun hO_hp128 => ?_)
      refine ok_static G (argsL := [(.ref ob96)]) (rest := []) (C.w70) (C.w71) (C.w72) (C.w73) (by decide) pd23 (c_named C hO_hp128 S_ob96 HT) rfl rfl rfl at_905 (Nat.le_of_ble_eq_true rfl) (Nat.le_of_ble_eq_true rfl) (Nat.le_of_ble_eq_true rfl) (Nat.le_of_ble_eq_true rfl) (fun _ q => nomatch q) ?_
      rintro _ hp131 K132 ⟨xr130, rfl, EO_xr130, hv_xr130⟩
      replace S_yl4 := S_yl4.keep K132 nin0 nin0
      replace E_ob96 := E_ob96.keep K132
      replace V_ob99 := V_ob99.keep K132 nin0
      replace S_ob96 := S_ob96.keep K132 nin0 nin0
      refine ok_as (mkF m 908 #[.val (.int i0), .val (.int i1), .val (.int i2), .val (.int i3), .val (.int (0 : Int32)), .val (.ref yl4), .val (.int (2 : Int32)), .val (.int chr92), .val (.int chr93), .val (.int (4 : Int32)), .val (.int (5 : Int32)), .val (.int (Int32.ofNat kp)), .val (.ref ob96), .val .null, .unset] [(.ref xr130)]) rfl ?_
      rcases hv_xr130 with ⟨e1, FO_xr130⟩ | ⟨e1, e2, FO_xr130⟩ | ⟨e1, e2, FO_xr130⟩
      · skip
        exact absurd (show (4 : Nat) = 5 from congrArg List.length e1) (by decide)
      · skip
        exact absurd (show (9 : Nat) = 5 from congrArg List.length e2) (by decide)
      · skip
        refine ok_astore G #[.val (.int i0), .val (.int i1), .val (.int i2), .val (.int i3), .val (.int (0 : Int32)), .val (.ref yl4), .val (.int (2 : Int32)), .val (.int chr92), .val (.int chr93), .val (.int (4 : Int32)), .val (.int (5 : Int32)), .val (.int (Int32.ofNat kp)), .val (.ref ob96), .val .null, .val (.ref xr130)] at_908 rfl rfl ?_
        refine ok_aload G at_910 rfl rfl ?_
        refine ok_aconst_null G at_912 ?_
        refine ok_old (fun hO_hp131 => ?_)
        refine ok_virtual G (a := xr130) (y0 := (⟨"java/util/Optional", "orElse", "(Ljava/lang/Object;)Ljava/lang/Object;"⟩ : MethodName)) (y := (⟨"java/util/Optional", "orElse", "(Ljava/lang/Object;)Ljava/lang/Object;"⟩ : MethodName)) (argsL := [.null]) (rest := []) EO_xr130 (C.w107) (C.w108) (C.w110) (fun vm hZ => notFace_of_selects (args := #[]) (mvT (s := s.setVm vm) hZ (C.w110))) (C.w109) (C.w104) (C.w111) (by decide) pd13 (c_orN C hO_hp131 FO_xr130) rfl rfl rfl at_913 (Nat.le_of_ble_eq_true rfl) (Nat.le_of_ble_eq_true rfl) (Nat.le_of_ble_eq_true rfl) (Nat.le_of_ble_eq_true rfl) (fun _ q => nomatch q) ?_
        rintro _ _ _ ⟨rfl, rfl⟩
        refine ok_as (mkF m 916 #[.val (.int i0), .val (.int i1), .val (.int i2), .val (.int i3), .val (.int (0 : Int32)), .val (.ref yl4), .val (.int (2 : Int32)), .val (.int chr92), .val (.int chr93), .val (.int (4 : Int32)), .val (.int (5 : Int32)), .val (.int (Int32.ofNat kp)), .val (.ref ob96), .val .null, .val (.ref xr130)] [.null]) rfl ?_
        refine ok_aload G at_916 rfl rfl ?_
        refine ok_acmp G true 921 at_918 rfl rfl (decide_eq_true rfl) (by decide) (by decide) ?_
        refine ok_iconst G (1 : Int32) at_921 rfl ?_
        refine ok_goto G 926 at_922 (by decide) (by decide) ?_
        exact ok_retN G rfl (by simp) at_926 rfl rfl (Nat.le_of_ble_eq_true rfl) (Nat.le_of_ble_eq_true rfl)
    · skip
      rw [hk4]
      refine ok_istore G #[.val (.int i0), .val (.int i1), .val (.int i2), .val (.int i3), .val (.int (0 : Int32)), .val (.ref yl4), .val (.int (3 : Int32)), .unset, .unset, .unset, .unset, .unset, .unset, .unset, .unset] at_32 rfl ?_
      refine ok_iloadN G at_34 rfl ?_
      refine ok_sipush G (255 : Int32) at_35 rfl ?_
      refine ok_iand G at_38 ?_
      refine ok_i2c G at_39 ?_
      refine ok_nameI ?_
      intro chr135 qchr135
      have lchr135 : Lat chr135 := by rw [qchr135]; exact lat_mask _
      refine ok_istore G #[.val (.int i0), .val (.int i1), .val (.int i2), .val (.int i3), .val (.int (0 : Int32)), .val (.ref yl4), .val (.int (3 : Int32)), .val (.int chr135), .unset, .unset, .unset, .unset, .unset, .unset, .unset] at_40 rfl ?_
      refine ok_iloadN G at_42 rfl ?_
      refine ok_sipush G (255 : Int32) at_43 rfl ?_
      refine ok_iand G at_46 ?_
      refine ok_i2c G at_47 ?_
      refine ok_nameI ?_
      intro chr136 qchr136
      have lchr136 : Lat chr136 := by rw [qchr136]; exact lat_mask _
      refine ok_istore G #[.val (.int i0), .val (.int i1), .val (.int i2), .val (.int i3), .val (.int (0 : Int32)), .val (.ref yl4), .val (.int (3 : Int32)), .val (.int chr135), .val (.int chr136), .unset, .unset, .unset, .unset, .unset, .unset] at_48 rfl ?_
      refine ok_aload G at_50 rfl rfl ?_
      refine ok_old (fun hO_hp2 => ?_)
      refine ok_virtual G (a := yl4) (y0 := (⟨"java/lang/String", "length", "()I"⟩ : MethodName)) (y := (⟨"java/lang/String", "length", "()I"⟩ : MethodName)) (argsL := []) (rest := []) S_yl4.exa (C.w8) (C.w9) (C.w11) (fun vm hZ => notFace_of_selects (args := #[]) (mvT (s := s.setVm vm) hZ (C.w11))) (C.w10) (C.w1) (C.w12) (by decide) pd19 (c_length C hO_hp2 S_yl4) rfl rfl rfl at_52 (Nat.le_of_ble_eq_true rfl) (Nat.le_of_ble_eq_true rfl) (Nat.le_of_ble_eq_true rfl) (Nat.le_of_ble_eq_true rfl) (fun _ q => nomatch q) ?_
      rintro _ _ _ ⟨rfl, rfl⟩
      refine ok_as (mkF m 55 #[.val (.int i0), .val (.int i1), .val (.int i2), .val (.int i3), .val (.int (0 : Int32)), .val (.ref yl4), .val (.int (3 : Int32)), .val (.int chr135), .val (.int chr136), .unset, .unset, .unset, .unset, .unset, .unset] [(.int (4 : Int32))]) rfl ?_
      refine ok_istore G #[.val (.int i0), .val (.int i1), .val (.int i2), .val (.int i3), .val (.int (0 : Int32)), .val (.ref yl4), .val (.int (3 : Int32)), .val (.int chr135), .val (.int chr136), .val (.int (4 : Int32)), .unset, .unset, .unset, .unset, .unset] at_55 rfl ?_
      refine ok_iload G at_57 rfl ?_
      refine ok_ifneY G 67 at_59 (by decide) (by decide) (by decide) ?_
      refine ok_iload G at_67 rfl ?_
      refine ok_iconst G (1 : Int32) at_69 rfl ?_
      refine ok_icmpneY G 80 at_70 (by decide) (by decide) (by decide) ?_
      refine ok_iload G at_80 rfl ?_
      refine ok_iconst G (2 : Int32) at_82 rfl ?_
      refine ok_icmpneY G 93 at_83 (by decide) (by decide) (by decide) ?_
      refine ok_iconst G (1 : Int32) at_93 rfl ?_
      refine ok_istore G #[.val (.int i0), .val (.int i1), .val (.int i2), .val (.int i3), .val (.int (0 : Int32)), .val (.ref yl4), .val (.int (3 : Int32)), .val (.int chr135), .val (.int chr136), .val (.int (4 : Int32)), .val (.int (1 : Int32)), .unset, .unset, .unset, .unset] at_94 rfl ?_
      refine ok_iloadN G at_96 rfl ?_
      refine ok_ldcI G (C.w21) at_97 ?_
      refine ok_iand G at_99 ?_
      refine ok_iload G at_100 rfl ?_
      refine ok_iconst G (1 : Int32) at_102 rfl ?_
      refine ok_iadd G at_103 ?_
      refine ok_sayI (2 : Int32) (by decide) ?_
      refine ok_irem G at_104 (by decide) ?_
      refine ok_nameI ?_
      intro ps qps
      obtain ⟨kp, hkp, hpk⟩ := own_remk (x := (i2 &&& (2147483647 : Int32))) (n := 1) (m := (2 : Int32)) (own_mask _) (by decide) (by decide)
      replace hpk : ps = Int32.ofNat kp := qps.trans hpk
      subst hpk
      refine ok_istore G #[.val (.int i0), .val (.int i1), .val (.int i2), .val (.int i3), .val (.int (0 : Int32)), .val (.ref yl4), .val (.int (3 : Int32)), .val (.int chr135), .val (.int chr136), .val (.int (4 : Int32)), .val (.int (1 : Int32)), .val (.int (Int32.ofNat kp)), .unset, .unset, .unset] at_105 rfl ?_
      refine ok_iload G at_107 rfl ?_
      refine ok_iconst G (3 : Int32) at_109 rfl ?_
      refine ok_icmpneN G at_110 (by decide) ?_
      refine ok_iloadN G at_113 rfl ?_
      refine ok_sipush G (256 : Int32) at_114 rfl ?_
      refine ok_iand G at_117 ?_
      refine ok_ifne G 126 at_118 (by decide) (by decide) (fun cq139 => ?_) (fun cq139 => ?_)
      · skip
        refine ok_iload G at_126 rfl ?_
        refine ok_keep (fun hKp_hp2 => ?_)
        refine ok_static G (argsL := [(.int chr135)]) (rest := []) (C.w131) (C.w132) (C.w1) (C.w133) (by decide) pd24 (c_valueOf C hO_hp2 lchr135) rfl rfl rfl at_128 (Nat.le_of_ble_eq_true rfl) (Nat.le_of_ble_eq_true rfl) (Nat.le_of_ble_eq_true rfl) (Nat.le_of_ble_eq_true rfl) (fun _ q => nomatch q) ?_
        rintro _ hp142 K143 ⟨xr140, tr141, rfl, lbq_xr140, S_xr140⟩
        have lbh_xr140 := lbq_xr140
        have ne_yl4_xr140 : yl4 ≠ xr140 := Nat.ne_of_lt (Nat.lt_of_lt_of_le S_yl4.lt lbh_xr140)
        have ne_tr5_xr140 : tr5 ≠ xr140 := Nat.ne_of_lt (Nat.lt_of_lt_of_le S_yl4.ltT lbh_xr140)
        have lb_xr140 : h0.size ≤ xr140 := Nat.le_trans hKp_hp2.1 lbh_xr140
        have g_xr140 : n0 ≤ xr140 := Nat.le_trans (old_le hO_hp2) lbh_xr140
        replace S_yl4 := S_yl4.keep K143 nin0 nin0
        refine ok_as (mkF m 131 #[.val (.int i0), .val (.int i1), .val (.int i2), .val (.int i3), .val (.int (0 : Int32)), .val (.ref yl4), .val (.int (3 : Int32)), .val (.int chr135), .val (.int chr136), .val (.int (4 : Int32)), .val (.int (1 : Int32)), .val (.int (Int32.ofNat kp)), .unset, .unset, .unset] [(.ref xr140)]) rfl ?_
        refine ok_astore G #[.val (.int i0), .val (.int i1), .val (.int i2), .val (.int i3), .val (.int (0 : Int32)), .val (.ref yl4), .val (.int (3 : Int32)), .val (.int chr135), .val (.int chr136), .val (.int (4 : Int32)), .val (.int (1 : Int32)), .val (.int (Int32.ofNat kp)), .val (.ref xr140), .unset, .unset] at_131 rfl rfl ?_
        refine ok_goto G 860 at_133 (by decide) (by decide) ?_
        refine ok_aconst_null G at_860 ?_
        refine ok_astore G #[.val (.int i0), .val (.int i1), .val (.int i2), .val (.int i3), .val (.int (0 : Int32)), .val (.ref yl4), .val (.int (3 : Int32)), .val (.int chr135), .val (.int chr136), .val (.int (4 : Int32)), .val (.int (1 : Int32)), .val (.int (Int32.ofNat kp)), .val (.ref xr140), .val .null, .unset] at_861 rfl rfl ?_
        refine ok_iload G at_863 rfl ?_
        refine ok_ifneY G 903 at_865 (by decide) (by decide) (by decide) ?_
        refine ok_aload G at_903 rfl rfl ?_
        refine ok_old (fun hO_hp142 => ?_)
        refine ok_static G (argsL := [(.ref xr140)]) (rest := []) (C.w70) (C.w71) (C.w72) (C.w73) (by decide) pd23 (c_named C hO_hp142 S_xr140 HT) rfl rfl rfl at_905 (Nat.le_of_ble_eq_true rfl) (Nat.le_of_ble_eq_true rfl) (Nat.le_of_ble_eq_true rfl) (Nat.le_of_ble_eq_true rfl) (fun _ q => nomatch q) ?_
        rintro _ hp145 K146 ⟨xr144, rfl, EO_xr144, hv_xr144⟩
        replace S_yl4 := S_yl4.keep K146 nin0 nin0
        replace S_xr140 := S_xr140.keep K146 nin0 nin0
        refine ok_as (mkF m 908 #[.val (.int i0), .val (.int i1), .val (.int i2), .val (.int i3), .val (.int (0 : Int32)), .val (.ref yl4), .val (.int (3 : Int32)), .val (.int chr135), .val (.int chr136), .val (.int (4 : Int32)), .val (.int (1 : Int32)), .val (.int (Int32.ofNat kp)), .val (.ref xr140), .val .null, .unset] [(.ref xr144)]) rfl ?_
        rcases hv_xr144 with ⟨e1, FO_xr144⟩ | ⟨e1, e2, FO_xr144⟩ | ⟨e1, e2, FO_xr144⟩
        · skip
          exact absurd (show (4 : Nat) = 1 from congrArg List.length e1) (by decide)
        · skip
          exact absurd (show (9 : Nat) = 1 from congrArg List.length e2) (by decide)
        · skip
          refine ok_astore G #[.val (.int i0), .val (.int i1), .val (.int i2), .val (.int i3), .val (.int (0 : Int32)), .val (.ref yl4), .val (.int (3 : Int32)), .val (.int chr135), .val (.int chr136), .val (.int (4 : Int32)), .val (.int (1 : Int32)), .val (.int (Int32.ofNat kp)), .val (.ref xr140), .val .null, .val (.ref xr144)] at_908 rfl rfl ?_
          refine ok_aload G at_910 rfl rfl ?_
          refine ok_aconst_null G at_912 ?_
          refine ok_old (fun hO_hp145 => ?_)
          refine ok_virtual G (a := xr144) (y0 := (⟨"java/util/Optional", "orElse", "(Ljava/lang/Object;)Ljava/lang/Object;"⟩ : MethodName)) (y := (⟨"java/util/Optional", "orElse", "(Ljava/lang/Object;)Ljava/lang/Object;"⟩ : MethodName)) (argsL := [.null]) (rest := []) EO_xr144 (C.w107) (C.w108) (C.w110) (fun vm hZ => notFace_of_selects (args := #[]) (mvT (s := s.setVm vm) hZ (C.w110))) (C.w109) (C.w104) (C.w111) (by decide) pd13 (c_orN C hO_hp145 FO_xr144) rfl rfl rfl at_913 (Nat.le_of_ble_eq_true rfl) (Nat.le_of_ble_eq_true rfl) (Nat.le_of_ble_eq_true rfl) (Nat.le_of_ble_eq_true rfl) (fun _ q => nomatch q) ?_
          rintro _ _ _ ⟨rfl, rfl⟩
          refine ok_as (mkF m 916 #[.val (.int i0), .val (.int i1), .val (.int i2), .val (.int i3), .val (.int (0 : Int32)), .val (.ref yl4), .val (.int (3 : Int32)), .val (.int chr135), .val (.int chr136), .val (.int (4 : Int32)), .val (.int (1 : Int32)), .val (.int (Int32.ofNat kp)), .val (.ref xr140), .val .null, .val (.ref xr144)] [.null]) rfl ?_
          refine ok_aload G at_916 rfl rfl ?_
          refine ok_acmp G true 921 at_918 rfl rfl (decide_eq_true rfl) (by decide) (by decide) ?_
          refine ok_iconst G (1 : Int32) at_921 rfl ?_
          refine ok_goto G 926 at_922 (by decide) (by decide) ?_
          exact ok_retN G rfl (by simp) at_926 rfl rfl (Nat.le_of_ble_eq_true rfl) (Nat.le_of_ble_eq_true rfl)
      · skip
        refine ok_ldcR G (vs := ([] : List Int32).map lo8) (z := (0 : Int32)) rfl (C.w115) C.strs (List.mem_of_getElem? (i := 2) rfl) ⟨by decide, rfl⟩ (by decide) rfl at_121 0 (by decide) (by decide) (Nat.le_of_ble_eq_true rfl) (Nat.le_of_ble_eq_true rfl) ?_
        intro yl151 hp149 tr152 kb153 K150 E_yl151 FC_yl151 FV_yl151 V_tr152 hne
        replace S_yl4 := S_yl4.keep K150 nin0 nin0
        have S_yl151 : LStr Z hp149 yl151 tr152 [] := ⟨E_yl151, FC_yl151, FV_yl151, ⟨_, V_tr152⟩, (fun _ q => nomatch q), (Nat.le_of_ble_eq_true rfl)⟩
        refine ok_goto G 131 at_123 (by decide) (by decide) ?_
        refine ok_astore G #[.val (.int i0), .val (.int i1), .val (.int i2), .val (.int i3), .val (.int (0 : Int32)), .val (.ref yl4), .val (.int (3 : Int32)), .val (.int chr135), .val (.int chr136), .val (.int (4 : Int32)), .val (.int (1 : Int32)), .val (.int (Int32.ofNat kp)), .val (.ref yl151), .unset, .unset] at_131 rfl rfl ?_
        refine ok_goto G 860 at_133 (by decide) (by decide) ?_
        refine ok_aconst_null G at_860 ?_
        refine ok_astore G #[.val (.int i0), .val (.int i1), .val (.int i2), .val (.int i3), .val (.int (0 : Int32)), .val (.ref yl4), .val (.int (3 : Int32)), .val (.int chr135), .val (.int chr136), .val (.int (4 : Int32)), .val (.int (1 : Int32)), .val (.int (Int32.ofNat kp)), .val (.ref yl151), .val .null, .unset] at_861 rfl rfl ?_
        refine ok_iload G at_863 rfl ?_
        refine ok_ifneY G 903 at_865 (by decide) (by decide) (by decide) ?_
        refine ok_aload G at_903 rfl rfl ?_
        refine ok_old (fun hO_hp149 => ?_)
        refine ok_static G (argsL := [(.ref yl151)]) (rest := []) (C.w70) (C.w71) (C.w72) (C.w73) (by decide) pd23 (c_named C hO_hp149 S_yl151 HT) rfl rfl rfl at_905 (Nat.le_of_ble_eq_true rfl) (Nat.le_of_ble_eq_true rfl) (Nat.le_of_ble_eq_true rfl) (Nat.le_of_ble_eq_true rfl) (fun _ q => nomatch q) ?_
        rintro _ hp155 K156 ⟨xr154, rfl, EO_xr154, hv_xr154⟩
        replace S_yl4 := S_yl4.keep K156 nin0 nin0
        replace S_yl151 := S_yl151.keep K156 nin0 nin0
        refine ok_as (mkF m 908 #[.val (.int i0), .val (.int i1), .val (.int i2), .val (.int i3), .val (.int (0 : Int32)), .val (.ref yl4), .val (.int (3 : Int32)), .val (.int chr135), .val (.int chr136), .val (.int (4 : Int32)), .val (.int (1 : Int32)), .val (.int (Int32.ofNat kp)), .val (.ref yl151), .val .null, .unset] [(.ref xr154)]) rfl ?_
        rcases hv_xr154 with ⟨e1, FO_xr154⟩ | ⟨e1, e2, FO_xr154⟩ | ⟨e1, e2, FO_xr154⟩
        · skip
          exact absurd (show (4 : Nat) = 0 from congrArg List.length e1) (by decide)
        · skip
          exact absurd (show (9 : Nat) = 0 from congrArg List.length e2) (by decide)
        · skip
          refine ok_astore G #[.val (.int i0), .val (.int i1), .val (.int i2), .val (.int i3), .val (.int (0 : Int32)), .val (.ref yl4), .val (.int (3 : Int32)), .val (.int chr135), .val (.int chr136), .val (.int (4 : Int32)), .val (.int (1 : Int32)), .val (.int (Int32.ofNat kp)), .val (.ref yl151), .val .null, .val (.ref xr154)] at_908 rfl rfl ?_
          refine ok_aload G at_910 rfl rfl ?_
          refine ok_aconst_null G at_912 ?_
          refine ok_old (fun hO_hp155 => ?_)
          refine ok_virtual G (a := xr154) (y0 := (⟨"java/util/Optional", "orElse", "(Ljava/lang/Object;)Ljava/lang/Object;"⟩ : MethodName)) (y := (⟨"java/util/Optional", "orElse", "(Ljava/lang/Object;)Ljava/lang/Object;"⟩ : MethodName)) (argsL := [.null]) (rest := []) EO_xr154 (C.w107) (C.w108) (C.w110) (fun vm hZ => notFace_of_selects (args := #[]) (mvT (s := s.setVm vm) hZ (C.w110))) (C.w109) (C.w104) (C.w111) (by decide) pd13 (c_orN C hO_hp155 FO_xr154) rfl rfl rfl at_913 (Nat.le_of_ble_eq_true rfl) (Nat.le_of_ble_eq_true rfl) (Nat.le_of_ble_eq_true rfl) (Nat.le_of_ble_eq_true rfl) (fun _ q => nomatch q) ?_
          rintro _ _ _ ⟨rfl, rfl⟩
          refine ok_as (mkF m 916 #[.val (.int i0), .val (.int i1), .val (.int i2), .val (.int i3), .val (.int (0 : Int32)), .val (.ref yl4), .val (.int (3 : Int32)), .val (.int chr135), .val (.int chr136), .val (.int (4 : Int32)), .val (.int (1 : Int32)), .val (.int (Int32.ofNat kp)), .val (.ref yl151), .val .null, .val (.ref xr154)] [.null]) rfl ?_
          refine ok_aload G at_916 rfl rfl ?_
          refine ok_acmp G true 921 at_918 rfl rfl (decide_eq_true rfl) (by decide) (by decide) ?_
          refine ok_iconst G (1 : Int32) at_921 rfl ?_
          refine ok_goto G 926 at_922 (by decide) (by decide) ?_
          exact ok_retN G rfl (by simp) at_926 rfl rfl (Nat.le_of_ble_eq_true rfl) (Nat.le_of_ble_eq_true rfl)
  · skip
    refine ok_iconst G (1 : Int32) at_6 rfl ?_
    refine ok_goto G 11 at_7 (by decide) (by decide) ?_
    refine ok_istore G #[.val (.int i0), .val (.int i1), .val (.int i2), .val (.int i3), .val (.int (1 : Int32)), .unset, .unset, .unset, .unset, .unset, .unset, .unset, .unset, .unset, .unset] at_11 rfl ?_
    refine ok_iload G at_13 rfl ?_
    refine ok_ifeqN G at_15 (by decide) ?_
    refine ok_ldcR G (vs := ([(114 : Int32), (101 : Int32), (115 : Int32), (111 : Int32), (117 : Int32), (114 : Int32), (99 : Int32), (101 : Int32), (115 : Int32)] : List Int32).map lo8) (z := (9 : Int32)) rfl (C.w114) C.strs (List.mem_of_getElem? (i := 0) rfl) ⟨by decide +kernel, by rfl⟩ (by decide) rfl at_18 36 (by decide +kernel) (by decide) (Nat.le_of_ble_eq_true rfl) (Nat.le_of_ble_eq_true rfl) ?_
    intro yl161 hp159 tr162 kb163 K160 E_yl161 FC_yl161 FV_yl161 V_tr162 hne
    have S_yl161 : LStr Z hp159 yl161 tr162 [(114 : Int32), (101 : Int32), (115 : Int32), (111 : Int32), (117 : Int32), (114 : Int32), (99 : Int32), (101 : Int32), (115 : Int32)] := ⟨E_yl161, FC_yl161, FV_yl161, ⟨_, V_tr162⟩, (allL ⟨by decide, by decide⟩ (allL ⟨by decide, by decide⟩ (allL ⟨by decide, by decide⟩ (allL ⟨by decide, by decide⟩ (allL ⟨by decide, by decide⟩ (allL ⟨by decide, by decide⟩ (allL ⟨by decide, by decide⟩ (allL ⟨by decide, by decide⟩ (allL ⟨by decide, by decide⟩ (fun _ q => nomatch q)))))))))), (Nat.le_of_ble_eq_true rfl)⟩
    refine ok_goto G 25 at_20 (by decide) (by decide) ?_
    refine ok_astore G #[.val (.int i0), .val (.int i1), .val (.int i2), .val (.int i3), .val (.int (1 : Int32)), .val (.ref yl161), .unset, .unset, .unset, .unset, .unset, .unset, .unset, .unset, .unset] at_25 rfl rfl ?_
    refine ok_iloadN G at_27 rfl ?_
    refine ok_iconst G (1 : Int32) at_28 rfl ?_
    refine ok_iushr G at_29 ?_
    refine ok_iconst G (3 : Int32) at_30 rfl ?_
    refine ok_iand G at_31 ?_
    rcases own_four i0 with hk4 | hk4 | hk4 | hk4
    · skip
      rw [hk4]
      refine ok_istore G #[.val (.int i0), .val (.int i1), .val (.int i2), .val (.int i3), .val (.int (1 : Int32)), .val (.ref yl161), .val (.int (0 : Int32)), .unset, .unset, .unset, .unset, .unset, .unset, .unset, .unset] at_32 rfl ?_
      refine ok_iloadN G at_34 rfl ?_
      refine ok_sipush G (255 : Int32) at_35 rfl ?_
      refine ok_iand G at_38 ?_
      refine ok_i2c G at_39 ?_
      refine ok_nameI ?_
      intro chr164 qchr164
      have lchr164 : Lat chr164 := by rw [qchr164]; exact lat_mask _
      refine ok_istore G #[.val (.int i0), .val (.int i1), .val (.int i2), .val (.int i3), .val (.int (1 : Int32)), .val (.ref yl161), .val (.int (0 : Int32)), .val (.int chr164), .unset, .unset, .unset, .unset, .unset, .unset, .unset] at_40 rfl ?_
      refine ok_iloadN G at_42 rfl ?_
      refine ok_sipush G (255 : Int32) at_43 rfl ?_
      refine ok_iand G at_46 ?_
      refine ok_i2c G at_47 ?_
      refine ok_nameI ?_
      intro chr165 qchr165
      have lchr165 : Lat chr165 := by rw [qchr165]; exact lat_mask _
      refine ok_istore G #[.val (.int i0), .val (.int i1), .val (.int i2), .val (.int i3), .val (.int (1 : Int32)), .val (.ref yl161), .val (.int (0 : Int32)), .val (.int chr164), .val (.int chr165), .unset, .unset, .unset, .unset, .unset, .unset] at_48 rfl ?_
      refine ok_aload G at_50 rfl rfl ?_
      refine ok_old (fun hO_hp159 => ?_)
      refine ok_virtual G (a := yl161) (y0 := (⟨"java/lang/String", "length", "()I"⟩ : MethodName)) (y := (⟨"java/lang/String", "length", "()I"⟩ : MethodName)) (argsL := []) (rest := []) S_yl161.exa (C.w8) (C.w9) (C.w11) (fun vm hZ => notFace_of_selects (args := #[]) (mvT (s := s.setVm vm) hZ (C.w11))) (C.w10) (C.w1) (C.w12) (by decide) pd19 (c_length C hO_hp159 S_yl161) rfl rfl rfl at_52 (Nat.le_of_ble_eq_true rfl) (Nat.le_of_ble_eq_true rfl) (Nat.le_of_ble_eq_true rfl) (Nat.le_of_ble_eq_true rfl) (fun _ q => nomatch q) ?_
      rintro _ _ _ ⟨rfl, rfl⟩
      refine ok_as (mkF m 55 #[.val (.int i0), .val (.int i1), .val (.int i2), .val (.int i3), .val (.int (1 : Int32)), .val (.ref yl161), .val (.int (0 : Int32)), .val (.int chr164), .val (.int chr165), .unset, .unset, .unset, .unset, .unset, .unset] [(.int (9 : Int32))]) rfl ?_
      refine ok_istore G #[.val (.int i0), .val (.int i1), .val (.int i2), .val (.int i3), .val (.int (1 : Int32)), .val (.ref yl161), .val (.int (0 : Int32)), .val (.int chr164), .val (.int chr165), .val (.int (9 : Int32)), .unset, .unset, .unset, .unset, .unset] at_55 rfl ?_
      refine ok_iload G at_57 rfl ?_
      refine ok_ifneN G at_59 (by decide) ?_
      refine ok_iload G at_62 rfl ?_
      refine ok_goto G 94 at_64 (by decide) (by decide) ?_
      refine ok_istore G #[.val (.int i0), .val (.int i1), .val (.int i2), .val (.int i3), .val (.int (1 : Int32)), .val (.ref yl161), .val (.int (0 : Int32)), .val (.int chr164), .val (.int chr165), .val (.int (9 : Int32)), .val (.int (9 : Int32)), .unset, .unset, .unset, .unset] at_94 rfl ?_
      refine ok_iloadN G at_96 rfl ?_
      refine ok_ldcI G (C.w21) at_97 ?_
      refine ok_iand G at_99 ?_
      refine ok_iload G at_100 rfl ?_
      refine ok_iconst G (1 : Int32) at_102 rfl ?_
      refine ok_iadd G at_103 ?_
      refine ok_sayI (10 : Int32) (by decide) ?_
      refine ok_irem G at_104 (by decide) ?_
      refine ok_nameI ?_
      intro ps qps
      obtain ⟨kp, hkp, hpk⟩ := own_remk (x := (i2 &&& (2147483647 : Int32))) (n := 9) (m := (10 : Int32)) (own_mask _) (by decide) (by decide)
      replace hpk : ps = Int32.ofNat kp := qps.trans hpk
      subst hpk
      refine ok_istore G #[.val (.int i0), .val (.int i1), .val (.int i2), .val (.int i3), .val (.int (1 : Int32)), .val (.ref yl161), .val (.int (0 : Int32)), .val (.int chr164), .val (.int chr165), .val (.int (9 : Int32)), .val (.int (9 : Int32)), .val (.int (Int32.ofNat kp)), .unset, .unset, .unset] at_105 rfl ?_
      refine ok_iload G at_107 rfl ?_
      refine ok_iconst G (3 : Int32) at_109 rfl ?_
      refine ok_icmpneY G 136 at_110 (by decide) (by decide) (by decide) ?_
      refine ok_iload G at_136 rfl ?_
      refine ok_ifneY G 378 at_138 (by decide) (by decide) (by decide) ?_
      refine ok_iload G at_378 rfl ?_
      refine ok_bipush G (8 : Int32) at_380 rfl ?_
      refine ok_icmpneY G 525 at_382 (by decide) (by decide) (by decide) ?_
      refine ok_iload G at_525 rfl ?_
      refine ok_bipush G (9 : Int32) at_527 rfl ?_
      refine ok_icmpneN G at_529 (by decide) ?_
      refine ok_new G (C.w22) (C.w2) (C.w1) at_532 (Nat.le_of_ble_eq_true rfl) (Nat.le_of_ble_eq_true rfl) ?_
      intro hp169 ob168 eq_ob168 K170 g_ob168 lb_ob168 E_ob168 D_ob168
      have ne_yl161_ob168 : yl161 ≠ ob168 := Nat.ne_of_lt (Nat.lt_of_lt_of_le S_yl161.lt (Nat.le_of_eq eq_ob168.symm))
      have ne_tr162_ob168 : tr162 ≠ ob168 := Nat.ne_of_lt (Nat.lt_of_lt_of_le S_yl161.ltT (Nat.le_of_eq eq_ob168.symm))
      replace S_yl161 := S_yl161.keep K170 nin0 nin0
      have F_ob168_value : Fld Z hp169 ob168 "java/lang/String" "value" "[B" .null := D_ob168 _ _ _ (.array .byte) (Or.inr (C.w4)) (by decide)
      have F_ob168_coder : Fld Z hp169 ob168 "java/lang/String" "coder" "B" (.int (0 : Int32)) := D_ob168 _ _ _ .byte (Or.inr (C.w5)) (by decide)
      refine ok_dup G at_535 rfl ?_
      refine ok_bipush G (9 : Int32) at_536 rfl ?_
      refine ok_newP G (aty := .char) (C.w23) at_538 (by decide) 9 (by decide) (by decide) (Nat.le_of_ble_eq_true rfl) (Nat.le_of_ble_eq_true rfl) ?_
      intro hp172 ob171 k_ob171 eq_ob171 K173 g_ob171 lb_ob171 V_ob171
      have ne_yl161_ob171 : yl161 ≠ ob171 := Nat.ne_of_lt (Nat.lt_of_lt_of_le S_yl161.lt (Nat.le_of_eq eq_ob171.symm))
      have ne_tr162_ob171 : tr162 ≠ ob171 := Nat.ne_of_lt (Nat.lt_of_lt_of_le S_yl161.ltT (Nat.le_of_eq eq_ob171.symm))
      have ne_ob168_ob171 : ob168 ≠ ob171 := Nat.ne_of_lt (Nat.lt_of_lt_of_le E_ob168.lt (Nat.le_of_eq eq_ob171.symm))
      replace S_yl161 := S_yl161.keep K173 nin0 nin0
      replace E_ob168 := E_ob168.keep K173
      replace F_ob168_value := F_ob168_value.keep K173 nin0
      replace F_ob168_coder := F_ob168_coder.keep K173 nin0
      replace V_ob171 : Arv Z hp172 ob171 k_ob171 .char (9 : Int32) [(.int (0 : Int32)), (.int (0 : Int32)), (.int (0 : Int32)), (.int (0 : Int32)), (.int (0 : Int32)), (.int (0 : Int32)), (.int (0 : Int32)), (.int (0 : Int32)), (.int (0 : Int32))] (.int (0 : Int32)) := V_ob171.pad (pad_rep [] (.int (0 : Int32)) 9)
      refine ok_dup G at_540 rfl ?_
      refine ok_iconst G (0 : Int32) at_541 rfl ?_
      refine ok_aload G at_542 rfl rfl ?_
      refine ok_iconst G (0 : Int32) at_544 rfl ?_
      refine ok_iload G at_545 rfl ?_
      refine ok_iload G at_547 rfl ?_
      refine ok_iload G at_549 rfl ?_
      refine ok_old (fun hO_hp172 => ?_)
      refine ok_static G (argsL := [(.ref yl161), (.int (0 : Int32)), (.int (Int32.ofNat kp)), (.int chr164), (.int chr165)]) (rest := [(.int (0 : Int32)), (.ref ob171), (.ref ob171), (.ref ob168), (.ref ob168)]) (C.w24) (C.w25) (C.w26) (C.w27) (by decide) pd21 (c_pick C hO_hp172 S_yl161 0 (by decide) rfl lchr164 lchr165) rfl rfl rfl at_551 (Nat.le_of_ble_eq_true rfl) (Nat.le_of_ble_eq_true rfl) (Nat.le_of_ble_eq_true rfl) (Nat.le_of_ble_eq_true rfl) (fun _ q => nomatch q) ?_
      rintro _ _ _ ⟨chr174, rfl, lchr174, qchr174, rfl⟩
      refine ok_as (mkF m 554 #[.val (.int i0), .val (.int i1), .val (.int i2), .val (.int i3), .val (.int (1 : Int32)), .val (.ref yl161), .val (.int (0 : Int32)), .val (.int chr164), .val (.int chr165), .val (.int (9 : Int32)), .val (.int (9 : Int32)), .val (.int (Int32.ofNat kp)), .unset, .unset, .unset] [(.int chr174), (.int (0 : Int32)), (.ref ob171), (.ref ob171), (.ref ob168), (.ref ob168)]) rfl ?_
      refine ok_castore G chr174 0 V_ob171 ⟨by decide, by decide⟩ rfl (Nat.le_of_ble_eq_true rfl) (Lat.nar lchr174) at_554 g_ob171 (Or.inr lb_ob171) (SafeFor.mem (List.mem_of_getElem? (i := 0) rfl)) ?_
      intro hp177 K178 Vn
      replace S_yl161 := S_yl161.keep K178 (ninS ne_yl161_ob171 nin0) (ninS ne_tr162_ob171 nin0)
      replace E_ob168 := E_ob168.keep K178
      replace F_ob168_value := F_ob168_value.keep K178 (ninS ne_ob168_ob171 nin0)
      replace F_ob168_coder := F_ob168_coder.keep K178 (ninS ne_ob168_ob171 nin0)
      replace V_ob171 : Arv Z hp177 ob171 k_ob171 .char (9 : Int32) [(.int chr174), (.int (0 : Int32)), (.int (0 : Int32)), (.int (0 : Int32)), (.int (0 : Int32)), (.int (0 : Int32)), (.int (0 : Int32)), (.int (0 : Int32)), (.int (0 : Int32))] (.int (0 : Int32)) := Vn
      clear Vn
      refine ok_dup G at_555 rfl ?_
      refine ok_iconst G (1 : Int32) at_556 rfl ?_
      refine ok_aload G at_557 rfl rfl ?_
      refine ok_iconst G (1 : Int32) at_559 rfl ?_
      refine ok_iload G at_560 rfl ?_
      refine ok_iload G at_562 rfl ?_
      refine ok_iload G at_564 rfl ?_
      refine ok_old (fun hO_hp177 => ?_)
      refine ok_static G (argsL := [(.ref yl161), (.int (1 : Int32)), (.int (Int32.ofNat kp)), (.int chr164), (.int chr165)]) (rest := [(.int (1 : Int32)), (.ref ob171), (.ref ob171), (.ref ob168), (.ref ob168)]) (C.w24) (C.w25) (C.w26) (C.w27) (by decide) pd21 (c_pick C hO_hp177 S_yl161 1 (by decide) rfl lchr164 lchr165) rfl rfl rfl at_566 (Nat.le_of_ble_eq_true rfl) (Nat.le_of_ble_eq_true rfl) (Nat.le_of_ble_eq_true rfl) (Nat.le_of_ble_eq_true rfl) (fun _ q => nomatch q) ?_
      rintro _ _ _ ⟨chr179, rfl, lchr179, qchr179, rfl⟩
      refine ok_as (mkF m 569 #[.val (.int i0), .val (.int i1), .val (.int i2), .val (.int i3), .val (.int (1 : Int32)), .val (.ref yl161), .val (.int (0 : Int32)), .val (.int chr164), .val (.int chr165), .val (.int (9 : Int32)), .val (.int (9 : Int32)), .val (.int (Int32.ofNat kp)), .unset, .unset, .unset] [(.int chr179), (.int (1 : Int32)), (.ref ob171), (.ref ob171), (.ref ob168), (.ref ob168)]) rfl ?_
      refine ok_castore G chr179 1 V_ob171 ⟨by decide, by decide⟩ rfl (Nat.le_of_ble_eq_true rfl) (Lat.nar lchr179) at_569 g_ob171 (Or.inr lb_ob171) (SafeFor.mem (List.mem_of_getElem? (i := 0) rfl)) ?_
      intro hp182 K183 Vn
      replace S_yl161 := S_yl161.keep K183 (ninS ne_yl161_ob171 nin0) (ninS ne_tr162_ob171 nin0)
      replace E_ob168 := E_ob168.keep K183
      replace F_ob168_value := F_ob168_value.keep K183 (ninS ne_ob168_ob171 nin0)
      replace F_ob168_coder := F_ob168_coder.keep K183 (ninS ne_ob168_ob171 nin0)
      replace V_ob171 : Arv Z hp182 ob171 k_ob171 .char (9 : Int32) [(.int chr174), (.int chr179), (.int (0 : Int32)), (.int (0 : Int32)), (.int (0 : Int32)), (.int (0 : Int32)), (.int (0 : Int32)), (.int (0 : Int32)), (.int (0 : Int32))] (.int (0 : Int32)) := Vn
      clear Vn
      refine ok_dup G at_570 rfl ?_
      refine ok_iconst G (2 : Int32) at_571 rfl ?_
      refine ok_aload G at_572 rfl rfl ?_
      refine ok_iconst G (2 : Int32) at_574 rfl ?_
      refine ok_iload G at_575 rfl ?_
      refine ok_iload G at_577 rfl ?_
      refine ok_iload G at_579 rfl ?_
      refine ok_old (fun hO_hp182 => ?_)
      refine ok_static G (argsL := [(.ref yl161), (.int (2 : Int32)), (.int (Int32.ofNat kp)), (.int chr164), (.int chr165)]) (rest := [(.int (2 : Int32)), (.ref ob171), (.ref ob171), (.ref ob168), (.ref ob168)]) (C.w24) (C.w25) (C.w26) (C.w27) (by decide) pd21 (c_pick C hO_hp182 S_yl161 2 (by decide) rfl lchr164 lchr165) rfl rfl rfl at_581 (Nat.le_of_ble_eq_true rfl) (Nat.le_of_ble_eq_true rfl) (Nat.le_of_ble_eq_true rfl) (Nat.le_of_ble_eq_true rfl) (fun _ q => nomatch q) ?_
      rintro _ _ _ ⟨chr184, rfl, lchr184, qchr184, rfl⟩
      refine ok_as (mkF m 584 #[.val (.int i0), .val (.int i1), .val (.int i2), .val (.int i3), .val (.int (1 : Int32)), .val (.ref yl161), .val (.int (0 : Int32)), .val (.int chr164), .val (.int chr165), .val (.int (9 : Int32)), .val (.int (9 : Int32)), .val (.int (Int32.ofNat kp)), .unset, .unset, .unset] [(.int chr184), (.int (2 : Int32)), (.ref ob171), (.ref ob171), (.ref ob168), (.ref ob168)]) rfl ?_
      refine ok_castore G chr184 2 V_ob171 ⟨by decide, by decide⟩ rfl (Nat.le_of_ble_eq_true rfl) (Lat.nar lchr184) at_584 g_ob171 (Or.inr lb_ob171) (SafeFor.mem (List.mem_of_getElem? (i := 0) rfl)) ?_
      intro hp187 K188 Vn
      replace S_yl161 := S_yl161.keep K188 (ninS ne_yl161_ob171 nin0) (ninS ne_tr162_ob171 nin0)
      replace E_ob168 := E_ob168.keep K188
      replace F_ob168_value := F_ob168_value.keep K188 (ninS ne_ob168_ob171 nin0)
      replace F_ob168_coder := F_ob168_coder.keep K188 (ninS ne_ob168_ob171 nin0)
      replace V_ob171 : Arv Z hp187 ob171 k_ob171 .char (9 : Int32) [(.int chr174), (.int chr179), (.int chr184), (.int (0 : Int32)), (.int (0 : Int32)), (.int (0 : Int32)), (.int (0 : Int32)), (.int (0 : Int32)), (.int (0 : Int32))] (.int (0 : Int32)) := Vn
      clear Vn
      refine ok_dup G at_585 rfl ?_
      refine ok_iconst G (3 : Int32) at_586 rfl ?_
      refine ok_aload G at_587 rfl rfl ?_
      refine ok_iconst G (3 : Int32) at_589 rfl ?_
      refine ok_iload G at_590 rfl ?_
      refine ok_iload G at_592 rfl ?_
      refine ok_iload G at_594 rfl ?_
      refine ok_old (fun hO_hp187 => ?_)
      refine ok_static G (argsL := [(.ref yl161), (.int (3 : Int32)), (.int (Int32.ofNat kp)), (.int chr164), (.int chr165)]) (rest := [(.int (3 : Int32)), (.ref ob171), (.ref ob171), (.ref ob168), (.ref ob168)]) (C.w24) (C.w25) (C.w26) (C.w27) (by decide) pd21 (c_pick C hO_hp187 S_yl161 3 (by decide) rfl lchr164 lchr165) rfl rfl rfl at_596 (Nat.le_of_ble_eq_true rfl) (Nat.le_of_ble_eq_true rfl) (Nat.le_of_ble_eq_true rfl) (Nat.le_of_ble_eq_true rfl) (fun _ q => nomatch q) ?_
      rintro _ _ _ ⟨chr189, rfl, lchr189, qchr189, rfl⟩
      refine ok_as (mkF m 599 #[.val (.int i0), .val (.int i1), .val (.int i2), .val (.int i3), .val (.int (1 : Int32)), .val (.ref yl161), .val (.int (0 : Int32)), .val (.int chr164), .val (.int chr165), .val (.int (9 : Int32)), .val (.int (9 : Int32)), .val (.int (Int32.ofNat kp)), .unset, .unset, .unset] [(.int chr189), (.int (3 : Int32)), (.ref ob171), (.ref ob171), (.ref ob168), (.ref ob168)]) rfl ?_
      refine ok_castore G chr189 3 V_ob171 ⟨by decide, by decide⟩ rfl (Nat.le_of_ble_eq_true rfl) (Lat.nar lchr189) at_599 g_ob171 (Or.inr lb_ob171) (SafeFor.mem (List.mem_of_getElem? (i := 0) rfl)) ?_
      intro hp192 K193 Vn
      replace S_yl161 := S_yl161.keep K193 (ninS ne_yl161_ob171 nin0) (ninS ne_tr162_ob171 nin0)
      replace E_ob168 := E_ob168.keep K193
      replace F_ob168_value := F_ob168_value.keep K193 (ninS ne_ob168_ob171 nin0)
      replace F_ob168_coder := F_ob168_coder.keep K193 (ninS ne_ob168_ob171 nin0)
      replace V_ob171 : Arv Z hp192 ob171 k_ob171 .char (9 : Int32) [(.int chr174), (.int chr179), (.int chr184), (.int chr189), (.int (0 : Int32)), (.int (0 : Int32)), (.int (0 : Int32)), (.int (0 : Int32)), (.int (0 : Int32))] (.int (0 : Int32)) := Vn
      clear Vn
      refine ok_dup G at_600 rfl ?_
      refine ok_iconst G (4 : Int32) at_601 rfl ?_
      refine ok_aload G at_602 rfl rfl ?_
      refine ok_iconst G (4 : Int32) at_604 rfl ?_
      refine ok_iload G at_605 rfl ?_
      refine ok_iload G at_607 rfl ?_
      refine ok_iload G at_609 rfl ?_
      refine ok_old (fun hO_hp192 => ?_)
      refine ok_static G (argsL := [(.ref yl161), (.int (4 : Int32)), (.int (Int32.ofNat kp)), (.int chr164), (.int chr165)]) (rest := [(.int (4 : Int32)), (.ref ob171), (.ref ob171), (.ref ob168), (.ref ob168)]) (C.w24) (C.w25) (C.w26) (C.w27) (by decide) pd21 (c_pick C hO_hp192 S_yl161 4 (by decide) rfl lchr164 lchr165) rfl rfl rfl at_611 (Nat.le_of_ble_eq_true rfl) (Nat.le_of_ble_eq_true rfl) (Nat.le_of_ble_eq_true rfl) (Nat.le_of_ble_eq_true rfl) (fun _ q => nomatch q) ?_
      rintro _ _ _ ⟨chr194, rfl, lchr194, qchr194, rfl⟩
      refine ok_as (mkF m 614 #[.val (.int i0), .val (.int i1), .val (.int i2), .val (.int i3), .val (.int (1 : Int32)), .val (.ref yl161), .val (.int (0 : Int32)), .val (.int chr164), .val (.int chr165), .val (.int (9 : Int32)), .val (.int (9 : Int32)), .val (.int (Int32.ofNat kp)), .unset, .unset, .unset] [(.int chr194), (.int (4 : Int32)), (.ref ob171), (.ref ob171), (.ref ob168), (.ref ob168)]) rfl ?_
      refine ok_castore G chr194 4 V_ob171 ⟨by decide, by decide⟩ rfl (Nat.le_of_ble_eq_true rfl) (Lat.nar lchr194) at_614 g_ob171 (Or.inr lb_ob171) (SafeFor.mem (List.mem_of_getElem? (i := 0) rfl)) ?_
      intro hp197 K198 Vn
      replace S_yl161 := S_yl161.keep K198 (ninS ne_yl161_ob171 nin0) (ninS ne_tr162_ob171 nin0)
      replace E_ob168 := E_ob168.keep K198
      replace F_ob168_value := F_ob168_value.keep K198 (ninS ne_ob168_ob171 nin0)
      replace F_ob168_coder := F_ob168_coder.keep K198 (ninS ne_ob168_ob171 nin0)
      replace V_ob171 : Arv Z hp197 ob171 k_ob171 .char (9 : Int32) [(.int chr174), (.int chr179), (.int chr184), (.int chr189), (.int chr194), (.int (0 : Int32)), (.int (0 : Int32)), (.int (0 : Int32)), (.int (0 : Int32))] (.int (0 : Int32)) := Vn
      clear Vn
      refine ok_dup G at_615 rfl ?_
      refine ok_iconst G (5 : Int32) at_616 rfl ?_
      refine ok_aload G at_617 rfl rfl ?_
      refine ok_iconst G (5 : Int32) at_619 rfl ?_
      refine ok_iload G at_620 rfl ?_
      refine ok_iload G at_622 rfl ?_
      refine ok_iload G at_624 rfl ?_
      refine ok_old (fun hO_hp197 => ?_)
      refine ok_static G (argsL := [(.ref yl161), (.int (5 : Int32)), (.int (Int32.ofNat kp)), (.int chr164), (.int chr165)]) (rest := [(.int (5 : Int32)), (.ref ob171), (.ref ob171), (.ref ob168), (.ref ob168)]) (C.w24) (C.w25) (C.w26) (C.w27) (by decide) pd21 (c_pick C hO_hp197 S_yl161 5 (by decide) rfl lchr164 lchr165) rfl rfl rfl at_626 (Nat.le_of_ble_eq_true rfl) (Nat.le_of_ble_eq_true rfl) (Nat.le_of_ble_eq_true rfl) (Nat.le_of_ble_eq_true rfl) (fun _ q => nomatch q) ?_
      rintro _ _ _ ⟨chr199, rfl, lchr199, qchr199, rfl⟩
      refine ok_as (mkF m 629 #[.val (.int i0), .val (.int i1), .val (.int i2), .val (.int i3), .val (.int (1 : Int32)), .val (.ref yl161), .val (.int (0 : Int32)), .val (.int chr164), .val (.int chr165), .val (.int (9 : Int32)), .val (.int (9 : Int32)), .val (.int (Int32.ofNat kp)), .unset, .unset, .unset] [(.int chr199), (.int (5 : Int32)), (.ref ob171), (.ref ob171), (.ref ob168), (.ref ob168)]) rfl ?_
      refine ok_castore G chr199 5 V_ob171 ⟨by decide, by decide⟩ rfl (Nat.le_of_ble_eq_true rfl) (Lat.nar lchr199) at_629 g_ob171 (Or.inr lb_ob171) (SafeFor.mem (List.mem_of_getElem? (i := 0) rfl)) ?_
      intro hp202 K203 Vn
      replace S_yl161 := S_yl161.keep K203 (ninS ne_yl161_ob171 nin0) (ninS ne_tr162_ob171 nin0)
      replace E_ob168 := E_ob168.keep K203
      replace F_ob168_value := F_ob168_value.keep K203 (ninS ne_ob168_ob171 nin0)
      replace F_ob168_coder := F_ob168_coder.keep K203 (ninS ne_ob168_ob171 nin0)
      replace V_ob171 : Arv Z hp202 ob171 k_ob171 .char (9 : Int32) [(.int chr174), (.int chr179), (.int chr184), (.int chr189), (.int chr194), (.int chr199), (.int (0 : Int32)), (.int (0 : Int32)), (.int (0 : Int32))] (.int (0 : Int32)) := Vn
      clear Vn
      refine ok_dup G at_630 rfl ?_
      refine ok_bipush G (6 : Int32) at_631 rfl ?_
      refine ok_aload G at_633 rfl rfl ?_
      refine ok_bipush G (6 : Int32) at_635 rfl ?_
      refine ok_iload G at_637 rfl ?_
      refine ok_iload G at_639 rfl ?_
      refine ok_iload G at_641 rfl ?_
      refine ok_old (fun hO_hp202 => ?_)
      refine ok_static G (argsL := [(.ref yl161), (.int (6 : Int32)), (.int (Int32.ofNat kp)), (.int chr164), (.int chr165)]) (rest := [(.int (6 : Int32)), (.ref ob171), (.ref ob171), (.ref ob168), (.ref ob168)]) (C.w24) (C.w25) (C.w26) (C.w27) (by decide) pd21 (c_pick C hO_hp202 S_yl161 6 (by decide) rfl lchr164 lchr165) rfl rfl rfl at_643 (Nat.le_of_ble_eq_true rfl) (Nat.le_of_ble_eq_true rfl) (Nat.le_of_ble_eq_true rfl) (Nat.le_of_ble_eq_true rfl) (fun _ q => nomatch q) ?_
      rintro _ _ _ ⟨chr204, rfl, lchr204, qchr204, rfl⟩
      refine ok_as (mkF m 646 #[.val (.int i0), .val (.int i1), .val (.int i2), .val (.int i3), .val (.int (1 : Int32)), .val (.ref yl161), .val (.int (0 : Int32)), .val (.int chr164), .val (.int chr165), .val (.int (9 : Int32)), .val (.int (9 : Int32)), .val (.int (Int32.ofNat kp)), .unset, .unset, .unset] [(.int chr204), (.int (6 : Int32)), (.ref ob171), (.ref ob171), (.ref ob168), (.ref ob168)]) rfl ?_
      refine ok_castore G chr204 6 V_ob171 ⟨by decide, by decide⟩ rfl (Nat.le_of_ble_eq_true rfl) (Lat.nar lchr204) at_646 g_ob171 (Or.inr lb_ob171) (SafeFor.mem (List.mem_of_getElem? (i := 0) rfl)) ?_
      intro hp207 K208 Vn
      replace S_yl161 := S_yl161.keep K208 (ninS ne_yl161_ob171 nin0) (ninS ne_tr162_ob171 nin0)
      replace E_ob168 := E_ob168.keep K208
      replace F_ob168_value := F_ob168_value.keep K208 (ninS ne_ob168_ob171 nin0)
      replace F_ob168_coder := F_ob168_coder.keep K208 (ninS ne_ob168_ob171 nin0)
      replace V_ob171 : Arv Z hp207 ob171 k_ob171 .char (9 : Int32) [(.int chr174), (.int chr179), (.int chr184), (.int chr189), (.int chr194), (.int chr199), (.int chr204), (.int (0 : Int32)), (.int (0 : Int32))] (.int (0 : Int32)) := Vn
      clear Vn
      refine ok_dup G at_647 rfl ?_
      refine ok_bipush G (7 : Int32) at_648 rfl ?_
      refine ok_aload G at_650 rfl rfl ?_
      refine ok_bipush G (7 : Int32) at_652 rfl ?_
      refine ok_iload G at_654 rfl ?_
      refine ok_iload G at_656 rfl ?_
      refine ok_iload G at_658 rfl ?_
      refine ok_old (fun hO_hp207 => ?_)
      refine ok_static G (argsL := [(.ref yl161), (.int (7 : Int32)), (.int (Int32.ofNat kp)), (.int chr164), (.int chr165)]) (rest := [(.int (7 : Int32)), (.ref ob171), (.ref ob171), (.ref ob168), (.ref ob168)]) (C.w24) (C.w25) (C.w26) (C.w27) (by decide) pd21 (c_pick C hO_hp207 S_yl161 7 (by decide) rfl lchr164 lchr165) rfl rfl rfl at_660 (Nat.le_of_ble_eq_true rfl) (Nat.le_of_ble_eq_true rfl) (Nat.le_of_ble_eq_true rfl) (Nat.le_of_ble_eq_true rfl) (fun _ q => nomatch q) ?_
      rintro _ _ _ ⟨chr209, rfl, lchr209, qchr209, rfl⟩
      refine ok_as (mkF m 663 #[.val (.int i0), .val (.int i1), .val (.int i2), .val (.int i3), .val (.int (1 : Int32)), .val (.ref yl161), .val (.int (0 : Int32)), .val (.int chr164), .val (.int chr165), .val (.int (9 : Int32)), .val (.int (9 : Int32)), .val (.int (Int32.ofNat kp)), .unset, .unset, .unset] [(.int chr209), (.int (7 : Int32)), (.ref ob171), (.ref ob171), (.ref ob168), (.ref ob168)]) rfl ?_
      refine ok_castore G chr209 7 V_ob171 ⟨by decide, by decide⟩ rfl (Nat.le_of_ble_eq_true rfl) (Lat.nar lchr209) at_663 g_ob171 (Or.inr lb_ob171) (SafeFor.mem (List.mem_of_getElem? (i := 0) rfl)) ?_
      intro hp212 K213 Vn
      replace S_yl161 := S_yl161.keep K213 (ninS ne_yl161_ob171 nin0) (ninS ne_tr162_ob171 nin0)
      replace E_ob168 := E_ob168.keep K213
      replace F_ob168_value := F_ob168_value.keep K213 (ninS ne_ob168_ob171 nin0)
      replace F_ob168_coder := F_ob168_coder.keep K213 (ninS ne_ob168_ob171 nin0)
      replace V_ob171 : Arv Z hp212 ob171 k_ob171 .char (9 : Int32) [(.int chr174), (.int chr179), (.int chr184), (.int chr189), (.int chr194), (.int chr199), (.int chr204), (.int chr209), (.int (0 : Int32))] (.int (0 : Int32)) := Vn
      clear Vn
      refine ok_dup G at_664 rfl ?_
      refine ok_bipush G (8 : Int32) at_665 rfl ?_
      refine ok_aload G at_667 rfl rfl ?_
      refine ok_bipush G (8 : Int32) at_669 rfl ?_
      refine ok_iload G at_671 rfl ?_
      refine ok_iload G at_673 rfl ?_
      refine ok_iload G at_675 rfl ?_
      refine ok_old (fun hO_hp212 => ?_)
      refine ok_static G (argsL := [(.ref yl161), (.int (8 : Int32)), (.int (Int32.ofNat kp)), (.int chr164), (.int chr165)]) (rest := [(.int (8 : Int32)), (.ref ob171), (.ref ob171), (.ref ob168), (.ref ob168)]) (C.w24) (C.w25) (C.w26) (C.w27) (by decide) pd21 (c_pick C hO_hp212 S_yl161 8 (by decide) rfl lchr164 lchr165) rfl rfl rfl at_677 (Nat.le_of_ble_eq_true rfl) (Nat.le_of_ble_eq_true rfl) (Nat.le_of_ble_eq_true rfl) (Nat.le_of_ble_eq_true rfl) (fun _ q => nomatch q) ?_
      rintro _ _ _ ⟨chr214, rfl, lchr214, qchr214, rfl⟩
      refine ok_as (mkF m 680 #[.val (.int i0), .val (.int i1), .val (.int i2), .val (.int i3), .val (.int (1 : Int32)), .val (.ref yl161), .val (.int (0 : Int32)), .val (.int chr164), .val (.int chr165), .val (.int (9 : Int32)), .val (.int (9 : Int32)), .val (.int (Int32.ofNat kp)), .unset, .unset, .unset] [(.int chr214), (.int (8 : Int32)), (.ref ob171), (.ref ob171), (.ref ob168), (.ref ob168)]) rfl ?_
      refine ok_castore G chr214 8 V_ob171 ⟨by decide, by decide⟩ rfl (Nat.le_of_ble_eq_true rfl) (Lat.nar lchr214) at_680 g_ob171 (Or.inr lb_ob171) (SafeFor.mem (List.mem_of_getElem? (i := 0) rfl)) ?_
      intro hp217 K218 Vn
      replace S_yl161 := S_yl161.keep K218 (ninS ne_yl161_ob171 nin0) (ninS ne_tr162_ob171 nin0)
      replace E_ob168 := E_ob168.keep K218
      replace F_ob168_value := F_ob168_value.keep K218 (ninS ne_ob168_ob171 nin0)
      replace F_ob168_coder := F_ob168_coder.keep K218 (ninS ne_ob168_ob171 nin0)
      replace V_ob171 : Arv Z hp217 ob171 k_ob171 .char (9 : Int32) [(.int chr174), (.int chr179), (.int chr184), (.int chr189), (.int chr194), (.int chr199), (.int chr204), (.int chr209), (.int chr214)] (.int (0 : Int32)) := Vn
      clear Vn
      refine ok_old (fun hO_hp217 => ?_)
      refine ok_keep (fun hKp_hp217 => ?_)
      refine ok_init G (a := ob168) (argsL := [(.ref ob171)]) (rest := [(.ref ob168)]) rfl (C.w50) (C.w51) (C.w1) (C.w52) (by decide) pd22 (c_init1 (cs := [chr174, chr179, chr184, chr189, chr194, chr199, chr204, chr209, chr214]) C hO_hp217 E_ob168 F_ob168_value F_ob168_coder g_ob168 V_ob171 (Nat.le_of_ble_eq_true rfl) (Nat.le_of_ble_eq_true rfl) (allL lchr174 (allL lchr179 (allL lchr184 (allL lchr189 (allL lchr194 (allL lchr199 (allL lchr204 (allL lchr209 (allL lchr214 (fun _ q => nomatch q)))))))))) ne_ob168_ob171) rfl rfl rfl at_681 (Nat.le_of_ble_eq_true rfl) (Nat.le_of_ble_eq_true rfl) (Nat.le_of_ble_eq_true rfl) (Nat.le_of_ble_eq_true rfl) (allS ⟨(Or.inr lb_ob168), (SafeFor.mem (List.mem_of_getElem? (i := 1) rfl))⟩ (fun _ q => nomatch q)) ?_
      rintro _ hp220 K221 ⟨rfl, tr219, lbq_tr219, S_ob168⟩
      have lbh_tr219 := lbq_tr219
      have ne_yl161_tr219 : yl161 ≠ tr219 := Nat.ne_of_lt (Nat.lt_of_lt_of_le S_yl161.lt lbh_tr219)
      have ne_tr162_tr219 : tr162 ≠ tr219 := Nat.ne_of_lt (Nat.lt_of_lt_of_le S_yl161.ltT lbh_tr219)
      have ne_ob168_tr219 : ob168 ≠ tr219 := Nat.ne_of_lt (Nat.lt_of_lt_of_le E_ob168.lt lbh_tr219)
      have ne_ob171_tr219 : ob171 ≠ tr219 := Nat.ne_of_lt (Nat.lt_of_lt_of_le V_ob171.lt lbh_tr219)
      have lb_tr219 : h0.size ≤ tr219 := Nat.le_trans hKp_hp217.1 lbh_tr219
      have g_tr219 : n0 ≤ tr219 := Nat.le_trans (old_le hO_hp217) lbh_tr219
      replace S_yl161 := S_yl161.keep K221 (ninS ne_yl161_ob168 nin0) (ninS ne_tr162_ob168 nin0)
      replace E_ob168 := E_ob168.keep K221
      replace V_ob171 := V_ob171.keep K221 (ninS (Ne.symm ne_ob168_ob171) nin0)
      refine ok_as (mkF m 684 #[.val (.int i0), .val (.int i1), .val (.int i2), .val (.int i3), .val (.int (1 : Int32)), .val (.ref yl161), .val (.int (0 : Int32)), .val (.int chr164), .val (.int chr165), .val (.int (9 : Int32)), .val (.int (9 : Int32)), .val (.int (Int32.ofNat kp)), .unset, .unset, .unset] [(.ref ob168)]) rfl ?_
      refine ok_astore G #[.val (.int i0), .val (.int i1), .val (.int i2), .val (.int i3), .val (.int (1 : Int32)), .val (.ref yl161), .val (.int (0 : Int32)), .val (.int chr164), .val (.int chr165), .val (.int (9 : Int32)), .val (.int (9 : Int32)), .val (.int (Int32.ofNat kp)), .val (.ref ob168), .unset, .unset] at_684 rfl rfl ?_
      refine ok_goto G 860 at_686 (by decide) (by decide) ?_
      refine ok_aconst_null G at_860 ?_
      refine ok_astore G #[.val (.int i0), .val (.int i1), .val (.int i2), .val (.int i3), .val (.int (1 : Int32)), .val (.ref yl161), .val (.int (0 : Int32)), .val (.int chr164), .val (.int chr165), .val (.int (9 : Int32)), .val (.int (9 : Int32)), .val (.int (Int32.ofNat kp)), .val (.ref ob168), .val .null, .unset] at_861 rfl rfl ?_
      refine ok_iload G at_863 rfl ?_
      refine ok_ifneN G at_865 (by decide) ?_
      refine ok_iload G at_868 rfl ?_
      refine ok_iload G at_870 rfl ?_
      refine ok_icmpeq G 887 at_872 (by decide) (by decide) (fun cq222 => ?_) (fun cq222 => ?_)
      · skip
        have hke : kp = 9 := (i32_eq (j := 9) (by omega) (by omega)).mp cq222
        refine ok_iload G at_887 rfl ?_
        refine ok_ifeqN G at_889 (by decide) ?_
        refine ok_getS G (host := "") (Or.inl (C.w143)) Via.refl sR at_892 ?_
        refine ok_goto G 901 at_895 (by decide) (by decide) ?_
        refine ok_astore G #[.val (.int i0), .val (.int i1), .val (.int i2), .val (.int i3), .val (.int (1 : Int32)), .val (.ref yl161), .val (.int (0 : Int32)), .val (.int chr164), .val (.int chr165), .val (.int (9 : Int32)), .val (.int (9 : Int32)), .val (.int (Int32.ofNat kp)), .val (.ref ob168), .val (.ref re), .unset] at_901 rfl rfl ?_
        refine ok_aload G at_903 rfl rfl ?_
        refine ok_old (fun hO_hp220 => ?_)
        refine ok_static G (argsL := [(.ref ob168)]) (rest := []) (C.w70) (C.w71) (C.w72) (C.w73) (by decide) pd23 (c_named C hO_hp220 S_ob168 HT) rfl rfl rfl at_905 (Nat.le_of_ble_eq_true rfl) (Nat.le_of_ble_eq_true rfl) (Nat.le_of_ble_eq_true rfl) (Nat.le_of_ble_eq_true rfl) (fun _ q => nomatch q) ?_
        rintro _ hp224 K225 ⟨xr223, rfl, EO_xr223, hv_xr223⟩
        replace S_yl161 := S_yl161.keep K225 nin0 nin0
        replace E_ob168 := E_ob168.keep K225
        replace V_ob171 := V_ob171.keep K225 nin0
        replace S_ob168 := S_ob168.keep K225 nin0 nin0
        refine ok_as (mkF m 908 #[.val (.int i0), .val (.int i1), .val (.int i2), .val (.int i3), .val (.int (1 : Int32)), .val (.ref yl161), .val (.int (0 : Int32)), .val (.int chr164), .val (.int chr165), .val (.int (9 : Int32)), .val (.int (9 : Int32)), .val (.int (Int32.ofNat kp)), .val (.ref ob168), .val (.ref re), .unset] [(.ref xr223)]) rfl ?_
        rcases hv_xr223 with ⟨e1, FO_xr223⟩ | ⟨e1, e2, FO_xr223⟩ | ⟨e1, e2, FO_xr223⟩
        · skip
          exact absurd (show (4 : Nat) = 9 from congrArg List.length e1) (by decide)
        · skip
          refine ok_astore G #[.val (.int i0), .val (.int i1), .val (.int i2), .val (.int i3), .val (.int (1 : Int32)), .val (.ref yl161), .val (.int (0 : Int32)), .val (.int chr164), .val (.int chr165), .val (.int (9 : Int32)), .val (.int (9 : Int32)), .val (.int (Int32.ofNat kp)), .val (.ref ob168), .val (.ref re), .val (.ref xr223)] at_908 rfl rfl ?_
          refine ok_aload G at_910 rfl rfl ?_
          refine ok_aconst_null G at_912 ?_
          refine ok_old (fun hO_hp224 => ?_)
          refine ok_virtual G (a := xr223) (y0 := (⟨"java/util/Optional", "orElse", "(Ljava/lang/Object;)Ljava/lang/Object;"⟩ : MethodName)) (y := (⟨"java/util/Optional", "orElse", "(Ljava/lang/Object;)Ljava/lang/Object;"⟩ : MethodName)) (argsL := [.null]) (rest := []) EO_xr223 (C.w107) (C.w108) (C.w110) (fun vm hZ => notFace_of_selects (args := #[]) (mvT (s := s.setVm vm) hZ (C.w110))) (C.w109) (C.w104) (C.w111) (by decide) pd13 (c_orR C hO_hp224 FO_xr223) rfl rfl rfl at_913 (Nat.le_of_ble_eq_true rfl) (Nat.le_of_ble_eq_true rfl) (Nat.le_of_ble_eq_true rfl) (Nat.le_of_ble_eq_true rfl) (fun _ q => nomatch q) ?_
          rintro _ _ _ ⟨rfl, rfl⟩
          refine ok_as (mkF m 916 #[.val (.int i0), .val (.int i1), .val (.int i2), .val (.int i3), .val (.int (1 : Int32)), .val (.ref yl161), .val (.int (0 : Int32)), .val (.int chr164), .val (.int chr165), .val (.int (9 : Int32)), .val (.int (9 : Int32)), .val (.int (Int32.ofNat kp)), .val (.ref ob168), .val (.ref re), .val (.ref xr223)] [(.ref re)]) rfl ?_
          refine ok_aload G at_916 rfl rfl ?_
          refine ok_acmp G true 921 at_918 rfl rfl (decide_eq_true rfl) (by decide) (by decide) ?_
          refine ok_iconst G (1 : Int32) at_921 rfl ?_
          refine ok_goto G 926 at_922 (by decide) (by decide) ?_
          exact ok_retN G rfl (by simp) at_926 rfl rfl (Nat.le_of_ble_eq_true rfl) (Nat.le_of_ble_eq_true rfl)
        · skip
          exact absurd ((own_resources hkp qchr174 qchr179 qchr184 qchr189 qchr194 qchr199 qchr204 qchr209 qchr214).mpr (Or.inl hke)) e2
      · skip
        have hke : ¬ kp = 9 := fun q => cq222 (by rw [q]; rfl)
        refine ok_iload G at_875 rfl ?_
        refine ok_aload G at_877 rfl rfl ?_
        refine ok_iload G at_879 rfl ?_
        refine ok_old (fun hO_hp220 => ?_)
        refine ok_virtual G (a := yl161) (y0 := (⟨"java/lang/String", "charAt", "(I)C"⟩ : MethodName)) (y := (⟨"java/lang/String", "charAt", "(I)C"⟩ : MethodName)) (argsL := [(.int (Int32.ofNat kp))]) (rest := [(.int chr164)]) S_yl161.exa (C.w28) (C.w29) (C.w31) (fun vm hZ => notFace_of_selects (args := #[]) (mvT (s := s.setVm vm) hZ (C.w31))) (C.w30) (C.w1) (C.w32) (by decide) pd20 (c_charAt (ch := ([(114 : Int32), (101 : Int32), (115 : Int32), (111 : Int32), (117 : Int32), (114 : Int32), (99 : Int32), (101 : Int32), (115 : Int32)].getD kp 0)) C hO_hp220 S_yl161 kp (show kp < 9 by omega) rfl rfl) rfl rfl rfl at_881 (Nat.le_of_ble_eq_true rfl) (Nat.le_of_ble_eq_true rfl) (Nat.le_of_ble_eq_true rfl) (Nat.le_of_ble_eq_true rfl) (fun _ q => nomatch q) ?_
        rintro _ _ _ ⟨rfl, rfl⟩
        refine ok_as (mkF m 884 #[.val (.int i0), .val (.int i1), .val (.int i2), .val (.int i3), .val (.int (1 : Int32)), .val (.ref yl161), .val (.int (0 : Int32)), .val (.int chr164), .val (.int chr165), .val (.int (9 : Int32)), .val (.int (9 : Int32)), .val (.int (Int32.ofNat kp)), .val (.ref ob168), .val .null, .unset] [(.int ([(114 : Int32), (101 : Int32), (115 : Int32), (111 : Int32), (117 : Int32), (114 : Int32), (99 : Int32), (101 : Int32), (115 : Int32)].getD kp 0)), (.int chr164)]) rfl ?_
        refine ok_icmpne G 903 at_884 (by decide) (by decide) (fun cq230 => ?_) (fun cq230 => ?_)
        · skip
          refine ok_aload G at_903 rfl rfl ?_
          refine ok_static G (argsL := [(.ref ob168)]) (rest := []) (C.w70) (C.w71) (C.w72) (C.w73) (by decide) pd23 (c_named C hO_hp220 S_ob168 HT) rfl rfl rfl at_905 (Nat.le_of_ble_eq_true rfl) (Nat.le_of_ble_eq_true rfl) (Nat.le_of_ble_eq_true rfl) (Nat.le_of_ble_eq_true rfl) (fun _ q => nomatch q) ?_
          rintro _ hp232 K233 ⟨xr231, rfl, EO_xr231, hv_xr231⟩
          replace S_yl161 := S_yl161.keep K233 nin0 nin0
          replace E_ob168 := E_ob168.keep K233
          replace V_ob171 := V_ob171.keep K233 nin0
          replace S_ob168 := S_ob168.keep K233 nin0 nin0
          refine ok_as (mkF m 908 #[.val (.int i0), .val (.int i1), .val (.int i2), .val (.int i3), .val (.int (1 : Int32)), .val (.ref yl161), .val (.int (0 : Int32)), .val (.int chr164), .val (.int chr165), .val (.int (9 : Int32)), .val (.int (9 : Int32)), .val (.int (Int32.ofNat kp)), .val (.ref ob168), .val .null, .unset] [(.ref xr231)]) rfl ?_
          rcases hv_xr231 with ⟨e1, FO_xr231⟩ | ⟨e1, e2, FO_xr231⟩ | ⟨e1, e2, FO_xr231⟩
          · skip
            exact absurd (show (4 : Nat) = 9 from congrArg List.length e1) (by decide)
          · skip
            rcases (own_resources hkp qchr174 qchr179 qchr184 qchr189 qchr194 qchr199 qchr204 qchr209 qchr214).mp e2 with q | q
            · exact absurd q hke
            · exact absurd q cq230
          · skip
            refine ok_astore G #[.val (.int i0), .val (.int i1), .val (.int i2), .val (.int i3), .val (.int (1 : Int32)), .val (.ref yl161), .val (.int (0 : Int32)), .val (.int chr164), .val (.int chr165), .val (.int (9 : Int32)), .val (.int (9 : Int32)), .val (.int (Int32.ofNat kp)), .val (.ref ob168), .val .null, .val (.ref xr231)] at_908 rfl rfl ?_
            refine ok_aload G at_910 rfl rfl ?_
            refine ok_aconst_null G at_912 ?_
            refine ok_old (fun hO_hp232 => ?_)
            refine ok_virtual G (a := xr231) (y0 := (⟨"java/util/Optional", "orElse", "(Ljava/lang/Object;)Ljava/lang/Object;"⟩ : MethodName)) (y := (⟨"java/util/Optional", "orElse", "(Ljava/lang/Object;)Ljava/lang/Object;"⟩ : MethodName)) (argsL := [.null]) (rest := []) EO_xr231 (C.w107) (C.w108) (C.w110) (fun vm hZ => notFace_of_selects (args := #[]) (mvT (s := s.setVm vm) hZ (C.w110))) (C.w109) (C.w104) (C.w111) (by decide) pd13 (c_orN C hO_hp232 FO_xr231) rfl rfl rfl at_913 (Nat.le_of_ble_eq_true rfl) (Nat.le_of_ble_eq_true rfl) (Nat.le_of_ble_eq_true rfl) (Nat.le_of_ble_eq_true rfl) (fun _ q => nomatch q) ?_
            rintro _ _ _ ⟨rfl, rfl⟩
            refine ok_as (mkF m 916 #[.val (.int i0), .val (.int i1), .val (.int i2), .val (.int i3), .val (.int (1 : Int32)), .val (.ref yl161), .val (.int (0 : Int32)), .val (.int chr164), .val (.int chr165), .val (.int (9 : Int32)), .val (.int (9 : Int32)), .val (.int (Int32.ofNat kp)), .val (.ref ob168), .val .null, .val (.ref xr231)] [.null]) rfl ?_
            refine ok_aload G at_916 rfl rfl ?_
            refine ok_acmp G true 921 at_918 rfl rfl (decide_eq_true rfl) (by decide) (by decide) ?_
            refine ok_iconst G (1 : Int32) at_921 rfl ?_
            refine ok_goto G 926 at_922 (by decide) (by decide) ?_
            exact ok_retN G rfl (by simp) at_926 rfl rfl (Nat.le_of_ble_eq_true rfl) (Nat.le_of_ble_eq_true rfl)
        · skip
          refine ok_iload G at_887 rfl ?_
          refine ok_ifeqN G at_889 (by decide) ?_
          refine ok_getS G (host := "") (Or.inl (C.w143)) Via.refl sR at_892 ?_
          refine ok_goto G 901 at_895 (by decide) (by decide) ?_
          refine ok_astore G #[.val (.int i0), .val (.int i1), .val (.int i2), .val (.int i3), .val (.int (1 : Int32)), .val (.ref yl161), .val (.int (0 : Int32)), .val (.int chr164), .val (.int chr165), .val (.int (9 : Int32)), .val (.int (9 : Int32)), .val (.int (Int32.ofNat kp)), .val (.ref ob168), .val (.ref re), .unset] at_901 rfl rfl ?_
          refine ok_aload G at_903 rfl rfl ?_
          refine ok_static G (argsL := [(.ref ob168)]) (rest := []) (C.w70) (C.w71) (C.w72) (C.w73) (by decide) pd23 (c_named C hO_hp220 S_ob168 HT) rfl rfl rfl at_905 (Nat.le_of_ble_eq_true rfl) (Nat.le_of_ble_eq_true rfl) (Nat.le_of_ble_eq_true rfl) (Nat.le_of_ble_eq_true rfl) (fun _ q => nomatch q) ?_
          rintro _ hp237 K238 ⟨xr236, rfl, EO_xr236, hv_xr236⟩
          replace S_yl161 := S_yl161.keep K238 nin0 nin0
          replace E_ob168 := E_ob168.keep K238
          replace V_ob171 := V_ob171.keep K238 nin0
          replace S_ob168 := S_ob168.keep K238 nin0 nin0
          refine ok_as (mkF m 908 #[.val (.int i0), .val (.int i1), .val (.int i2), .val (.int i3), .val (.int (1 : Int32)), .val (.ref yl161), .val (.int (0 : Int32)), .val (.int chr164), .val (.int chr165), .val (.int (9 : Int32)), .val (.int (9 : Int32)), .val (.int (Int32.ofNat kp)), .val (.ref ob168), .val (.ref re), .unset] [(.ref xr236)]) rfl ?_
          rcases hv_xr236 with ⟨e1, FO_xr236⟩ | ⟨e1, e2, FO_xr236⟩ | ⟨e1, e2, FO_xr236⟩
          · skip
            exact absurd (show (4 : Nat) = 9 from congrArg List.length e1) (by decide)
          · skip
            refine ok_astore G #[.val (.int i0), .val (.int i1), .val (.int i2), .val (.int i3), .val (.int (1 : Int32)), .val (.ref yl161), .val (.int (0 : Int32)), .val (.int chr164), .val (.int chr165), .val (.int (9 : Int32)), .val (.int (9 : Int32)), .val (.int (Int32.ofNat kp)), .val (.ref ob168), .val (.ref re), .val (.ref xr236)] at_908 rfl rfl ?_
            refine ok_aload G at_910 rfl rfl ?_
            refine ok_aconst_null G at_912 ?_
            refine ok_old (fun hO_hp237 => ?_)
            refine ok_virtual G (a := xr236) (y0 := (⟨"java/util/Optional", "orElse", "(Ljava/lang/Object;)Ljava/lang/Object;"⟩ : MethodName)) (y := (⟨"java/util/Optional", "orElse", "(Ljava/lang/Object;)Ljava/lang/Object;"⟩ : MethodName)) (argsL := [.null]) (rest := []) EO_xr236 (C.w107) (C.w108) (C.w110) (fun vm hZ => notFace_of_selects (args := #[]) (mvT (s := s.setVm vm) hZ (C.w110))) (C.w109) (C.w104) (C.w111) (by decide) pd13 (c_orR C hO_hp237 FO_xr236) rfl rfl rfl at_913 (Nat.le_of_ble_eq_true rfl) (Nat.le_of_ble_eq_true rfl) (Nat.le_of_ble_eq_true rfl) (Nat.le_of_ble_eq_true rfl) (fun _ q => nomatch q) ?_
            rintro _ _ _ ⟨rfl, rfl⟩
            refine ok_as (mkF m 916 #[.val (.int i0), .val (.int i1), .val (.int i2), .val (.int i3), .val (.int (1 : Int32)), .val (.ref yl161), .val (.int (0 : Int32)), .val (.int chr164), .val (.int chr165), .val (.int (9 : Int32)), .val (.int (9 : Int32)), .val (.int (Int32.ofNat kp)), .val (.ref ob168), .val (.ref re), .val (.ref xr236)] [(.ref re)]) rfl ?_
            refine ok_aload G at_916 rfl rfl ?_
            refine ok_acmp G true 921 at_918 rfl rfl (decide_eq_true rfl) (by decide) (by decide) ?_
            refine ok_iconst G (1 : Int32) at_921 rfl ?_
            refine ok_goto G 926 at_922 (by decide) (by decide) ?_
            exact ok_retN G rfl (by simp) at_926 rfl rfl (Nat.le_of_ble_eq_true rfl) (Nat.le_of_ble_eq_true rfl)
          · skip
            exact absurd ((own_resources hkp qchr174 qchr179 qchr184 qchr189 qchr194 qchr199 qchr204 qchr209 qchr214).mpr (Or.inr cq230)) e2
    · skip
      rw [hk4]
      refine ok_istore G #[.val (.int i0), .val (.int i1), .val (.int i2), .val (.int i3), .val (.int (1 : Int32)), .val (.ref yl161), .val (.int (1 : Int32)), .unset, .unset, .unset, .unset, .unset, .unset, .unset, .unset] at_32 rfl ?_
      refine ok_iloadN G at_34 rfl ?_
      refine ok_sipush G (255 : Int32) at_35 rfl ?_
      refine ok_iand G at_38 ?_
      refine ok_i2c G at_39 ?_
      refine ok_nameI ?_
      intro chr241 qchr241
      have lchr241 : Lat chr241 := by rw [qchr241]; exact lat_mask _
      refine ok_istore G #[.val (.int i0), .val (.int i1), .val (.int i2), .val (.int i3), .val (.int (1 : Int32)), .val (.ref yl161), .val (.int (1 : Int32)), .val (.int chr241), .unset, .unset, .unset, .unset, .unset, .unset, .unset] at_40 rfl ?_
      refine ok_iloadN G at_42 rfl ?_
      refine ok_sipush G (255 : Int32) at_43 rfl ?_
      refine ok_iand G at_46 ?_
      refine ok_i2c G at_47 ?_
      refine ok_nameI ?_
      intro chr242 qchr242
      have lchr242 : Lat chr242 := by rw [qchr242]; exact lat_mask _
      refine ok_istore G #[.val (.int i0), .val (.int i1), .val (.int i2), .val (.int i3), .val (.int (1 : Int32)), .val (.ref yl161), .val (.int (1 : Int32)), .val (.int chr241), .val (.int chr242), .unset, .unset, .unset, .unset, .unset, .unset] at_48 rfl ?_
      refine ok_aload G at_50 rfl rfl ?_
      refine ok_old (fun hO_hp159 => ?_)
      refine ok_virtual G (a := yl161) (y0 := (⟨"java/lang/String", "length", "()I"⟩ : MethodName)) (y := (⟨"java/lang/String", "length", "()I"⟩ : MethodName)) (argsL := []) (rest := []) S_yl161.exa (C.w8) (C.w9) (C.w11) (fun vm hZ => notFace_of_selects (args := #[]) (mvT (s := s.setVm vm) hZ (C.w11))) (C.w10) (C.w1) (C.w12) (by decide) pd19 (c_length C hO_hp159 S_yl161) rfl rfl rfl at_52 (Nat.le_of_ble_eq_true rfl) (Nat.le_of_ble_eq_true rfl) (Nat.le_of_ble_eq_true rfl) (Nat.le_of_ble_eq_true rfl) (fun _ q => nomatch q) ?_
      rintro _ _ _ ⟨rfl, rfl⟩
      refine ok_as (mkF m 55 #[.val (.int i0), .val (.int i1), .val (.int i2), .val (.int i3), .val (.int (1 : Int32)), .val (.ref yl161), .val (.int (1 : Int32)), .val (.int chr241), .val (.int chr242), .unset, .unset, .unset, .unset, .unset, .unset] [(.int (9 : Int32))]) rfl ?_
      refine ok_istore G #[.val (.int i0), .val (.int i1), .val (.int i2), .val (.int i3), .val (.int (1 : Int32)), .val (.ref yl161), .val (.int (1 : Int32)), .val (.int chr241), .val (.int chr242), .val (.int (9 : Int32)), .unset, .unset, .unset, .unset, .unset] at_55 rfl ?_
      refine ok_iload G at_57 rfl ?_
      refine ok_ifneY G 67 at_59 (by decide) (by decide) (by decide) ?_
      refine ok_iload G at_67 rfl ?_
      refine ok_iconst G (1 : Int32) at_69 rfl ?_
      refine ok_icmpneN G at_70 (by decide) ?_
      refine ok_iload G at_73 rfl ?_
      refine ok_iconst G (1 : Int32) at_75 rfl ?_
      refine ok_isub G at_76 ?_
      refine ok_goto G 94 at_77 (by decide) (by decide) ?_
      refine ok_sayI (8 : Int32) (by decide) ?_
      refine ok_istore G #[.val (.int i0), .val (.int i1), .val (.int i2), .val (.int i3), .val (.int (1 : Int32)), .val (.ref yl161), .val (.int (1 : Int32)), .val (.int chr241), .val (.int chr242), .val (.int (9 : Int32)), .val (.int (8 : Int32)), .unset, .unset, .unset, .unset] at_94 rfl ?_
      refine ok_iloadN G at_96 rfl ?_
      refine ok_ldcI G (C.w21) at_97 ?_
      refine ok_iand G at_99 ?_
      refine ok_iload G at_100 rfl ?_
      refine ok_iconst G (1 : Int32) at_102 rfl ?_
      refine ok_iadd G at_103 ?_
      refine ok_sayI (9 : Int32) (by decide) ?_
      refine ok_irem G at_104 (by decide) ?_
      refine ok_nameI ?_
      intro ps qps
      obtain ⟨kp, hkp, hpk⟩ := own_remk (x := (i2 &&& (2147483647 : Int32))) (n := 8) (m := (9 : Int32)) (own_mask _) (by decide) (by decide)
      replace hpk : ps = Int32.ofNat kp := qps.trans hpk
      subst hpk
      refine ok_istore G #[.val (.int i0), .val (.int i1), .val (.int i2), .val (.int i3), .val (.int (1 : Int32)), .val (.ref yl161), .val (.int (1 : Int32)), .val (.int chr241), .val (.int chr242), .val (.int (9 : Int32)), .val (.int (8 : Int32)), .val (.int (Int32.ofNat kp)), .unset, .unset, .unset] at_105 rfl ?_
      refine ok_iload G at_107 rfl ?_
      refine ok_iconst G (3 : Int32) at_109 rfl ?_
      refine ok_icmpneY G 136 at_110 (by decide) (by decide) (by decide) ?_
      refine ok_iload G at_136 rfl ?_
      refine ok_ifneY G 378 at_138 (by decide) (by decide) (by decide) ?_
      refine ok_iload G at_378 rfl ?_
      refine ok_bipush G (8 : Int32) at_380 rfl ?_
      refine ok_icmpneN G at_382 (by decide) ?_
      refine ok_new G (C.w22) (C.w2) (C.w1) at_385 (Nat.le_of_ble_eq_true rfl) (Nat.le_of_ble_eq_true rfl) ?_
      intro hp246 ob245 eq_ob245 K247 g_ob245 lb_ob245 E_ob245 D_ob245
      have ne_yl161_ob245 : yl161 ≠ ob245 := Nat.ne_of_lt (Nat.lt_of_lt_of_le S_yl161.lt (Nat.le_of_eq eq_ob245.symm))
      have ne_tr162_ob245 : tr162 ≠ ob245 := Nat.ne_of_lt (Nat.lt_of_lt_of_le S_yl161.ltT (Nat.le_of_eq eq_ob245.symm))
      replace S_yl161 := S_yl161.keep K247 nin0 nin0
      have F_ob245_value : Fld Z hp246 ob245 "java/lang/String" "value" "[B" .null := D_ob245 _ _ _ (.array .byte) (Or.inr (C.w4)) (by decide)
      have F_ob245_coder : Fld Z hp246 ob245 "java/lang/String" "coder" "B" (.int (0 : Int32)) := D_ob245 _ _ _ .byte (Or.inr (C.w5)) (by decide)
      refine ok_dup G at_388 rfl ?_
      refine ok_bipush G (8 : Int32) at_389 rfl ?_
      refine ok_newP G (aty := .char) (C.w23) at_391 (by decide) 8 (by decide) (by decide) (Nat.le_of_ble_eq_true rfl) (Nat.le_of_ble_eq_true rfl) ?_
      intro hp249 ob248 k_ob248 eq_ob248 K250 g_ob248 lb_ob248 V_ob248
      have ne_yl161_ob248 : yl161 ≠ ob248 := Nat.ne_of_lt (Nat.lt_of_lt_of_le S_yl161.lt (Nat.le_of_eq eq_ob248.symm))
      have ne_tr162_ob248 : tr162 ≠ ob248 := Nat.ne_of_lt (Nat.lt_of_lt_of_le S_yl161.ltT (Nat.le_of_eq eq_ob248.symm))
      have ne_ob245_ob248 : ob245 ≠ ob248 := Nat.ne_of_lt (Nat.lt_of_lt_of_le E_ob245.lt (Nat.le_of_eq eq_ob248.symm))
      replace S_yl161 := S_yl161.keep K250 nin0 nin0
      replace E_ob245 := E_ob245.keep K250
      replace F_ob245_value := F_ob245_value.keep K250 nin0
      replace F_ob245_coder := F_ob245_coder.keep K250 nin0
      replace V_ob248 : Arv Z hp249 ob248 k_ob248 .char (8 : Int32) [(.int (0 : Int32)), (.int (0 : Int32)), (.int (0 : Int32)), (.int (0 : Int32)), (.int (0 : Int32)), (.int (0 : Int32)), (.int (0 : Int32)), (.int (0 : Int32))] (.int (0 : Int32)) := V_ob248.pad (pad_rep [] (.int (0 : Int32)) 8)
      refine ok_dup G at_393 rfl ?_
      refine ok_iconst G (0 : Int32) at_394 rfl ?_
      refine ok_aload G at_395 rfl rfl ?_
      refine ok_iconst G (0 : Int32) at_397 rfl ?_
      refine ok_iload G at_398 rfl ?_
      refine ok_iload G at_400 rfl ?_
      refine ok_iload G at_402 rfl ?_
      refine ok_old (fun hO_hp249 => ?_)
      refine ok_static G (argsL := [(.ref yl161), (.int (0 : Int32)), (.int (Int32.ofNat kp)), (.int chr241), (.int chr242)]) (rest := [(.int (0 : Int32)), (.ref ob248), (.ref ob248), (.ref ob245), (.ref ob245)]) (C.w24) (C.w25) (C.w26) (C.w27) (by decide) pd21 (c_pick C hO_hp249 S_yl161 0 (by decide) rfl lchr241 lchr242) rfl rfl rfl at_404 (Nat.le_of_ble_eq_true rfl) (Nat.le_of_ble_eq_true rfl) (Nat.le_of_ble_eq_true rfl) (Nat.le_of_ble_eq_true rfl) (fun _ q => nomatch q) ?_
      rintro _ _ _ ⟨chr251, rfl, lchr251, qchr251, rfl⟩
      refine ok_as (mkF m 407 #[.val (.int i0), .val (.int i1), .val (.int i2), .val (.int i3), .val (.int (1 : Int32)), .val (.ref yl161), .val (.int (1 : Int32)), .val (.int chr241), .val (.int chr242), .val (.int (9 : Int32)), .val (.int (8 : Int32)), .val (.int (Int32.ofNat kp)), .unset, .unset, .unset] [(.int chr251), (.int (0 : Int32)), (.ref ob248), (.ref ob248), (.ref ob245), (.ref ob245)]) rfl ?_
      refine ok_castore G chr251 0 V_ob248 ⟨by decide, by decide⟩ rfl (Nat.le_of_ble_eq_true rfl) (Lat.nar lchr251) at_407 g_ob248 (Or.inr lb_ob248) (SafeFor.mem (List.mem_of_getElem? (i := 0) rfl)) ?_
      intro hp254 K255 Vn
      replace S_yl161 := S_yl161.keep K255 (ninS ne_yl161_ob248 nin0) (ninS ne_tr162_ob248 nin0)
      replace E_ob245 := E_ob245.keep K255
      replace F_ob245_value := F_ob245_value.keep K255 (ninS ne_ob245_ob248 nin0)
      replace F_ob245_coder := F_ob245_coder.keep K255 (ninS ne_ob245_ob248 nin0)
      replace V_ob248 : Arv Z hp254 ob248 k_ob248 .char (8 : Int32) [(.int chr251), (.int (0 : Int32)), (.int (0 : Int32)), (.int (0 : Int32)), (.int (0 : Int32)), (.int (0 : Int32)), (.int (0 : Int32)), (.int (0 : Int32))] (.int (0 : Int32)) := Vn
      clear Vn
      refine ok_dup G at_408 rfl ?_
      refine ok_iconst G (1 : Int32) at_409 rfl ?_
      refine ok_aload G at_410 rfl rfl ?_
      refine ok_iconst G (1 : Int32) at_412 rfl ?_
      refine ok_iload G at_413 rfl ?_
      refine ok_iload G at_415 rfl ?_
      refine ok_iload G at_417 rfl ?_
      refine ok_old (fun hO_hp254 => ?_)
      refine ok_static G (argsL := [(.ref yl161), (.int (1 : Int32)), (.int (Int32.ofNat kp)), (.int chr241), (.int chr242)]) (rest := [(.int (1 : Int32)), (.ref ob248), (.ref ob248), (.ref ob245), (.ref ob245)]) (C.w24) (C.w25) (C.w26) (C.w27) (by decide) pd21 (c_pick C hO_hp254 S_yl161 1 (by decide) rfl lchr241 lchr242) rfl rfl rfl at_419 (Nat.le_of_ble_eq_true rfl) (Nat.le_of_ble_eq_true rfl) (Nat.le_of_ble_eq_true rfl) (Nat.le_of_ble_eq_true rfl) (fun _ q => nomatch q) ?_
      rintro _ _ _ ⟨chr256, rfl, lchr256, qchr256, rfl⟩
      refine ok_as (mkF m 422 #[.val (.int i0), .val (.int i1), .val (.int i2), .val (.int i3), .val (.int (1 : Int32)), .val (.ref yl161), .val (.int (1 : Int32)), .val (.int chr241), .val (.int chr242), .val (.int (9 : Int32)), .val (.int (8 : Int32)), .val (.int (Int32.ofNat kp)), .unset, .unset, .unset] [(.int chr256), (.int (1 : Int32)), (.ref ob248), (.ref ob248), (.ref ob245), (.ref ob245)]) rfl ?_
      refine ok_castore G chr256 1 V_ob248 ⟨by decide, by decide⟩ rfl (Nat.le_of_ble_eq_true rfl) (Lat.nar lchr256) at_422 g_ob248 (Or.inr lb_ob248) (SafeFor.mem (List.mem_of_getElem? (i := 0) rfl)) ?_
      intro hp259 K260 Vn
      replace S_yl161 := S_yl161.keep K260 (ninS ne_yl161_ob248 nin0) (ninS ne_tr162_ob248 nin0)
      replace E_ob245 := E_ob245.keep K260
      replace F_ob245_value := F_ob245_value.keep K260 (ninS ne_ob245_ob248 nin0)
      replace F_ob245_coder := F_ob245_coder.keep K260 (ninS ne_ob245_ob248 nin0)
      replace V_ob248 : Arv Z hp259 ob248 k_ob248 .char (8 : Int32) [(.int chr251), (.int chr256), (.int (0 : Int32)), (.int (0 : Int32)), (.int (0 : Int32)), (.int (0 : Int32)), (.int (0 : Int32)), (.int (0 : Int32))] (.int (0 : Int32)) := Vn
      clear Vn
      refine ok_dup G at_423 rfl ?_
      refine ok_iconst G (2 : Int32) at_424 rfl ?_
      refine ok_aload G at_425 rfl rfl ?_
      refine ok_iconst G (2 : Int32) at_427 rfl ?_
      refine ok_iload G at_428 rfl ?_
      refine ok_iload G at_430 rfl ?_
      refine ok_iload G at_432 rfl ?_
      refine ok_old (fun hO_hp259 => ?_)
      refine ok_static G (argsL := [(.ref yl161), (.int (2 : Int32)), (.int (Int32.ofNat kp)), (.int chr241), (.int chr242)]) (rest := [(.int (2 : Int32)), (.ref ob248), (.ref ob248), (.ref ob245), (.ref ob245)]) (C.w24) (C.w25) (C.w26) (C.w27) (by decide) pd21 (c_pick C hO_hp259 S_yl161 2 (by decide) rfl lchr241 lchr242) rfl rfl rfl at_434 (Nat.le_of_ble_eq_true rfl) (Nat.le_of_ble_eq_true rfl) (Nat.le_of_ble_eq_true rfl) (Nat.le_of_ble_eq_true rfl) (fun _ q => nomatch q) ?_
      rintro _ _ _ ⟨chr261, rfl, lchr261, qchr261, rfl⟩
      refine ok_as (mkF m 437 #[.val (.int i0), .val (.int i1), .val (.int i2), .val (.int i3), .val (.int (1 : Int32)), .val (.ref yl161), .val (.int (1 : Int32)), .val (.int chr241), .val (.int chr242), .val (.int (9 : Int32)), .val (.int (8 : Int32)), .val (.int (Int32.ofNat kp)), .unset, .unset, .unset] [(.int chr261), (.int (2 : Int32)), (.ref ob248), (.ref ob248), (.ref ob245), (.ref ob245)]) rfl ?_
      refine ok_castore G chr261 2 V_ob248 ⟨by decide, by decide⟩ rfl (Nat.le_of_ble_eq_true rfl) (Lat.nar lchr261) at_437 g_ob248 (Or.inr lb_ob248) (SafeFor.mem (List.mem_of_getElem? (i := 0) rfl)) ?_
      intro hp264 K265 Vn
      replace S_yl161 := S_yl161.keep K265 (ninS ne_yl161_ob248 nin0) (ninS ne_tr162_ob248 nin0)
      replace E_ob245 := E_ob245.keep K265
      replace F_ob245_value := F_ob245_value.keep K265 (ninS ne_ob245_ob248 nin0)
      replace F_ob245_coder := F_ob245_coder.keep K265 (ninS ne_ob245_ob248 nin0)
      replace V_ob248 : Arv Z hp264 ob248 k_ob248 .char (8 : Int32) [(.int chr251), (.int chr256), (.int chr261), (.int (0 : Int32)), (.int (0 : Int32)), (.int (0 : Int32)), (.int (0 : Int32)), (.int (0 : Int32))] (.int (0 : Int32)) := Vn
      clear Vn
      refine ok_dup G at_438 rfl ?_
      refine ok_iconst G (3 : Int32) at_439 rfl ?_
      refine ok_aload G at_440 rfl rfl ?_
      refine ok_iconst G (3 : Int32) at_442 rfl ?_
      refine ok_iload G at_443 rfl ?_
      refine ok_iload G at_445 rfl ?_
      refine ok_iload G at_447 rfl ?_
      refine ok_old (fun hO_hp264 => ?_)
      refine ok_static G (argsL := [(.ref yl161), (.int (3 : Int32)), (.int (Int32.ofNat kp)), (.int chr241), (.int chr242)]) (rest := [(.int (3 : Int32)), (.ref ob248), (.ref ob248), (.ref ob245), (.ref ob245)]) (C.w24) (C.w25) (C.w26) (C.w27) (by decide) pd21 (c_pick C hO_hp264 S_yl161 3 (by decide) rfl lchr241 lchr242) rfl rfl rfl at_449 (Nat.le_of_ble_eq_true rfl) (Nat.le_of_ble_eq_true rfl) (Nat.le_of_ble_eq_true rfl) (Nat.le_of_ble_eq_true rfl) (fun _ q => nomatch q) ?_
      rintro _ _ _ ⟨chr266, rfl, lchr266, qchr266, rfl⟩
      refine ok_as (mkF m 452 #[.val (.int i0), .val (.int i1), .val (.int i2), .val (.int i3), .val (.int (1 : Int32)), .val (.ref yl161), .val (.int (1 : Int32)), .val (.int chr241), .val (.int chr242), .val (.int (9 : Int32)), .val (.int (8 : Int32)), .val (.int (Int32.ofNat kp)), .unset, .unset, .unset] [(.int chr266), (.int (3 : Int32)), (.ref ob248), (.ref ob248), (.ref ob245), (.ref ob245)]) rfl ?_
      refine ok_castore G chr266 3 V_ob248 ⟨by decide, by decide⟩ rfl (Nat.le_of_ble_eq_true rfl) (Lat.nar lchr266) at_452 g_ob248 (Or.inr lb_ob248) (SafeFor.mem (List.mem_of_getElem? (i := 0) rfl)) ?_
      intro hp269 K270 Vn
      replace S_yl161 := S_yl161.keep K270 (ninS ne_yl161_ob248 nin0) (ninS ne_tr162_ob248 nin0)
      replace E_ob245 := E_ob245.keep K270
      replace F_ob245_value := F_ob245_value.keep K270 (ninS ne_ob245_ob248 nin0)
      replace F_ob245_coder := F_ob245_coder.keep K270 (ninS ne_ob245_ob248 nin0)
      replace V_ob248 : Arv Z hp269 ob248 k_ob248 .char (8 : Int32) [(.int chr251), (.int chr256), (.int chr261), (.int chr266), (.int (0 : Int32)), (.int (0 : Int32)), (.int (0 : Int32)), (.int (0 : Int32))] (.int (0 : Int32)) := Vn
      clear Vn
      refine ok_dup G at_453 rfl ?_
      refine ok_iconst G (4 : Int32) at_454 rfl ?_
      refine ok_aload G at_455 rfl rfl ?_
      refine ok_iconst G (4 : Int32) at_457 rfl ?_
      refine ok_iload G at_458 rfl ?_
      refine ok_iload G at_460 rfl ?_
      refine ok_iload G at_462 rfl ?_
      refine ok_old (fun hO_hp269 => ?_)
      refine ok_static G (argsL := [(.ref yl161), (.int (4 : Int32)), (.int (Int32.ofNat kp)), (.int chr241), (.int chr242)]) (rest := [(.int (4 : Int32)), (.ref ob248), (.ref ob248), (.ref ob245), (.ref ob245)]) (C.w24) (C.w25) (C.w26) (C.w27) (by decide) pd21 (c_pick C hO_hp269 S_yl161 4 (by decide) rfl lchr241 lchr242) rfl rfl rfl at_464 (Nat.le_of_ble_eq_true rfl) (Nat.le_of_ble_eq_true rfl) (Nat.le_of_ble_eq_true rfl) (Nat.le_of_ble_eq_true rfl) (fun _ q => nomatch q) ?_
      rintro _ _ _ ⟨chr271, rfl, lchr271, qchr271, rfl⟩
      refine ok_as (mkF m 467 #[.val (.int i0), .val (.int i1), .val (.int i2), .val (.int i3), .val (.int (1 : Int32)), .val (.ref yl161), .val (.int (1 : Int32)), .val (.int chr241), .val (.int chr242), .val (.int (9 : Int32)), .val (.int (8 : Int32)), .val (.int (Int32.ofNat kp)), .unset, .unset, .unset] [(.int chr271), (.int (4 : Int32)), (.ref ob248), (.ref ob248), (.ref ob245), (.ref ob245)]) rfl ?_
      refine ok_castore G chr271 4 V_ob248 ⟨by decide, by decide⟩ rfl (Nat.le_of_ble_eq_true rfl) (Lat.nar lchr271) at_467 g_ob248 (Or.inr lb_ob248) (SafeFor.mem (List.mem_of_getElem? (i := 0) rfl)) ?_
      intro hp274 K275 Vn
      replace S_yl161 := S_yl161.keep K275 (ninS ne_yl161_ob248 nin0) (ninS ne_tr162_ob248 nin0)
      replace E_ob245 := E_ob245.keep K275
      replace F_ob245_value := F_ob245_value.keep K275 (ninS ne_ob245_ob248 nin0)
      replace F_ob245_coder := F_ob245_coder.keep K275 (ninS ne_ob245_ob248 nin0)
      replace V_ob248 : Arv Z hp274 ob248 k_ob248 .char (8 : Int32) [(.int chr251), (.int chr256), (.int chr261), (.int chr266), (.int chr271), (.int (0 : Int32)), (.int (0 : Int32)), (.int (0 : Int32))] (.int (0 : Int32)) := Vn
      clear Vn
      refine ok_dup G at_468 rfl ?_
      refine ok_iconst G (5 : Int32) at_469 rfl ?_
      refine ok_aload G at_470 rfl rfl ?_
      refine ok_iconst G (5 : Int32) at_472 rfl ?_
      refine ok_iload G at_473 rfl ?_
      refine ok_iload G at_475 rfl ?_
      refine ok_iload G at_477 rfl ?_
      refine ok_old (fun hO_hp274 => ?_)
      refine ok_static G (argsL := [(.ref yl161), (.int (5 : Int32)), (.int (Int32.ofNat kp)), (.int chr241), (.int chr242)]) (rest := [(.int (5 : Int32)), (.ref ob248), (.ref ob248), (.ref ob245), (.ref ob245)]) (C.w24) (C.w25) (C.w26) (C.w27) (by decide) pd21 (c_pick C hO_hp274 S_yl161 5 (by decide) rfl lchr241 lchr242) rfl rfl rfl at_479 (Nat.le_of_ble_eq_true rfl) (Nat.le_of_ble_eq_true rfl) (Nat.le_of_ble_eq_true rfl) (Nat.le_of_ble_eq_true rfl) (fun _ q => nomatch q) ?_
      rintro _ _ _ ⟨chr276, rfl, lchr276, qchr276, rfl⟩
      refine ok_as (mkF m 482 #[.val (.int i0), .val (.int i1), .val (.int i2), .val (.int i3), .val (.int (1 : Int32)), .val (.ref yl161), .val (.int (1 : Int32)), .val (.int chr241), .val (.int chr242), .val (.int (9 : Int32)), .val (.int (8 : Int32)), .val (.int (Int32.ofNat kp)), .unset, .unset, .unset] [(.int chr276), (.int (5 : Int32)), (.ref ob248), (.ref ob248), (.ref ob245), (.ref ob245)]) rfl ?_
      refine ok_castore G chr276 5 V_ob248 ⟨by decide, by decide⟩ rfl (Nat.le_of_ble_eq_true rfl) (Lat.nar lchr276) at_482 g_ob248 (Or.inr lb_ob248) (SafeFor.mem (List.mem_of_getElem? (i := 0) rfl)) ?_
      intro hp279 K280 Vn
      replace S_yl161 := S_yl161.keep K280 (ninS ne_yl161_ob248 nin0) (ninS ne_tr162_ob248 nin0)
      replace E_ob245 := E_ob245.keep K280
      replace F_ob245_value := F_ob245_value.keep K280 (ninS ne_ob245_ob248 nin0)
      replace F_ob245_coder := F_ob245_coder.keep K280 (ninS ne_ob245_ob248 nin0)
      replace V_ob248 : Arv Z hp279 ob248 k_ob248 .char (8 : Int32) [(.int chr251), (.int chr256), (.int chr261), (.int chr266), (.int chr271), (.int chr276), (.int (0 : Int32)), (.int (0 : Int32))] (.int (0 : Int32)) := Vn
      clear Vn
      refine ok_dup G at_483 rfl ?_
      refine ok_bipush G (6 : Int32) at_484 rfl ?_
      refine ok_aload G at_486 rfl rfl ?_
      refine ok_bipush G (6 : Int32) at_488 rfl ?_
      refine ok_iload G at_490 rfl ?_
      refine ok_iload G at_492 rfl ?_
      refine ok_iload G at_494 rfl ?_
      refine ok_old (fun hO_hp279 => ?_)
      refine ok_static G (argsL := [(.ref yl161), (.int (6 : Int32)), (.int (Int32.ofNat kp)), (.int chr241), (.int chr242)]) (rest := [(.int (6 : Int32)), (.ref ob248), (.ref ob248), (.ref ob245), (.ref ob245)]) (C.w24) (C.w25) (C.w26) (C.w27) (by decide) pd21 (c_pick C hO_hp279 S_yl161 6 (by decide) rfl lchr241 lchr242) rfl rfl rfl at_496 (Nat.le_of_ble_eq_true rfl) (Nat.le_of_ble_eq_true rfl) (Nat.le_of_ble_eq_true rfl) (Nat.le_of_ble_eq_true rfl) (fun _ q => nomatch q) ?_
      rintro _ _ _ ⟨chr281, rfl, lchr281, qchr281, rfl⟩
      refine ok_as (mkF m 499 #[.val (.int i0), .val (.int i1), .val (.int i2), .val (.int i3), .val (.int (1 : Int32)), .val (.ref yl161), .val (.int (1 : Int32)), .val (.int chr241), .val (.int chr242), .val (.int (9 : Int32)), .val (.int (8 : Int32)), .val (.int (Int32.ofNat kp)), .unset, .unset, .unset] [(.int chr281), (.int (6 : Int32)), (.ref ob248), (.ref ob248), (.ref ob245), (.ref ob245)]) rfl ?_
      refine ok_castore G chr281 6 V_ob248 ⟨by decide, by decide⟩ rfl (Nat.le_of_ble_eq_true rfl) (Lat.nar lchr281) at_499 g_ob248 (Or.inr lb_ob248) (SafeFor.mem (List.mem_of_getElem? (i := 0) rfl)) ?_
      intro hp284 K285 Vn
      replace S_yl161 := S_yl161.keep K285 (ninS ne_yl161_ob248 nin0) (ninS ne_tr162_ob248 nin0)
      replace E_ob245 := E_ob245.keep K285
      replace F_ob245_value := F_ob245_value.keep K285 (ninS ne_ob245_ob248 nin0)
      replace F_ob245_coder := F_ob245_coder.keep K285 (ninS ne_ob245_ob248 nin0)
      replace V_ob248 : Arv Z hp284 ob248 k_ob248 .char (8 : Int32) [(.int chr251), (.int chr256), (.int chr261), (.int chr266), (.int chr271), (.int chr276), (.int chr281), (.int (0 : Int32))] (.int (0 : Int32)) := Vn
      clear Vn
      refine ok_dup G at_500 rfl ?_
      refine ok_bipush G (7 : Int32) at_501 rfl ?_
      refine ok_aload G at_503 rfl rfl ?_
      refine ok_bipush G (7 : Int32) at_505 rfl ?_
      refine ok_iload G at_507 rfl ?_
      refine ok_iload G at_509 rfl ?_
      refine ok_iload G at_511 rfl ?_
      refine ok_old (fun hO_hp284 => ?_)
      refine ok_static G (argsL := [(.ref yl161), (.int (7 : Int32)), (.int (Int32.ofNat kp)), (.int chr241), (.int chr242)]) (rest := [(.int (7 : Int32)), (.ref ob248), (.ref ob248), (.ref ob245), (.ref ob245)]) (C.w24) (C.w25) (C.w26) (C.w27) (by decide) pd21 (c_pick C hO_hp284 S_yl161 7 (by decide) rfl lchr241 lchr242) rfl rfl rfl at_513 (Nat.le_of_ble_eq_true rfl) (Nat.le_of_ble_eq_true rfl) (Nat.le_of_ble_eq_true rfl) (Nat.le_of_ble_eq_true rfl) (fun _ q => nomatch q) ?_
      rintro _ _ _ ⟨chr286, rfl, lchr286, qchr286, rfl⟩
      refine ok_as (mkF m 516 #[.val (.int i0), .val (.int i1), .val (.int i2), .val (.int i3), .val (.int (1 : Int32)), .val (.ref yl161), .val (.int (1 : Int32)), .val (.int chr241), .val (.int chr242), .val (.int (9 : Int32)), .val (.int (8 : Int32)), .val (.int (Int32.ofNat kp)), .unset, .unset, .unset] [(.int chr286), (.int (7 : Int32)), (.ref ob248), (.ref ob248), (.ref ob245), (.ref ob245)]) rfl ?_
      refine ok_castore G chr286 7 V_ob248 ⟨by decide, by decide⟩ rfl (Nat.le_of_ble_eq_true rfl) (Lat.nar lchr286) at_516 g_ob248 (Or.inr lb_ob248) (SafeFor.mem (List.mem_of_getElem? (i := 0) rfl)) ?_
      intro hp289 K290 Vn
      replace S_yl161 := S_yl161.keep K290 (ninS ne_yl161_ob248 nin0) (ninS ne_tr162_ob248 nin0)
      replace E_ob245 := E_ob245.keep K290
      replace F_ob245_value := F_ob245_value.keep K290 (ninS ne_ob245_ob248 nin0)
      replace F_ob245_coder := F_ob245_coder.keep K290 (ninS ne_ob245_ob248 nin0)
      replace V_ob248 : Arv Z hp289 ob248 k_ob248 .char (8 : Int32) [(.int chr251), (.int chr256), (.int chr261), (.int chr266), (.int chr271), (.int chr276), (.int chr281), (.int chr286)] (.int (0 : Int32)) := Vn
      clear Vn
      refine ok_old (fun hO_hp289 => ?_)
      refine ok_keep (fun hKp_hp289 => ?_)
      refine ok_init G (a := ob245) (argsL := [(.ref ob248)]) (rest := [(.ref ob245)]) rfl (C.w50) (C.w51) (C.w1) (C.w52) (by decide) pd22 (c_init1 (cs := [chr251, chr256, chr261, chr266, chr271, chr276, chr281, chr286]) C hO_hp289 E_ob245 F_ob245_value F_ob245_coder g_ob245 V_ob248 (Nat.le_of_ble_eq_true rfl) (Nat.le_of_ble_eq_true rfl) (allL lchr251 (allL lchr256 (allL lchr261 (allL lchr266 (allL lchr271 (allL lchr276 (allL lchr281 (allL lchr286 (fun _ q => nomatch q))))))))) ne_ob245_ob248) rfl rfl rfl at_517 (Nat.le_of_ble_eq_true rfl) (Nat.le_of_ble_eq_true rfl) (Nat.le_of_ble_eq_true rfl) (Nat.le_of_ble_eq_true rfl) (allS ⟨(Or.inr lb_ob245), (SafeFor.mem (List.mem_of_getElem? (i := 1) rfl))⟩ (fun _ q => nomatch q)) ?_
      rintro _ hp292 K293 ⟨rfl, tr291, lbq_tr291, S_ob245⟩
      have lbh_tr291 := lbq_tr291
      have ne_yl161_tr291 : yl161 ≠ tr291 := Nat.ne_of_lt (Nat.lt_of_lt_of_le S_yl161.lt lbh_tr291)
      have ne_tr162_tr291 : tr162 ≠ tr291 := Nat.ne_of_lt (Nat.lt_of_lt_of_le S_yl161.ltT lbh_tr291)
      have ne_ob245_tr291 : ob245 ≠ tr291 := Nat.ne_of_lt (Nat.lt_of_lt_of_le E_ob245.lt lbh_tr291)
      have ne_ob248_tr291 : ob248 ≠ tr291 := Nat.ne_of_lt (Nat.lt_of_lt_of_le V_ob248.lt lbh_tr291)
      have lb_tr291 : h0.size ≤ tr291 := Nat.le_trans hKp_hp289.1 lbh_tr291
      have g_tr291 : n0 ≤ tr291 := Nat.le_trans (old_le hO_hp289) lbh_tr291
      replace S_yl161 := S_yl161.keep K293 (ninS ne_yl161_ob245 nin0) (ninS ne_tr162_ob245 nin0)
      replace E_ob245 := E_ob245.keep K293
      replace V_ob248 := V_ob248.keep K293 (ninS (Ne.symm ne_ob245_ob248) nin0)
      refine ok_as (mkF m 520 #[.val (.int i0), .val (.int i1), .val (.int i2), .val (.int i3), .val (.int (1 : Int32)), .val (.ref yl161), .val (.int (1 : Int32)), .val (.int chr241), .val (.int chr242), .val (.int (9 : Int32)), .val (.int (8 : Int32)), .val (.int (Int32.ofNat kp)), .unset, .unset, .unset] [(.ref ob245)]) rfl ?_
      refine ok_astore G #[.val (.int i0), .val (.int i1), .val (.int i2), .val (.int i3), .val (.int (1 : Int32)), .val (.ref yl161), .val (.int (1 : Int32)), .val (.int chr241), .val (.int chr242), .val (.int (9 : Int32)), .val (.int (8 : Int32)), .val (.int (Int32.ofNat kp)), .val (.ref ob245), .unset, .unset] at_520 rfl rfl ?_
      refine ok_goto G 860 at_522 (by decide) (by decide) ?_
      refine ok_aconst_null G at_860 ?_
      refine ok_astore G #[.val (.int i0), .val (.int i1), .val (.int i2), .val (.int i3), .val (.int (1 : Int32)), .val (.ref yl161), .val (.int (1 : Int32)), .val (.int chr241), .val (.int chr242), .val (.int (9 : Int32)), .val (.int (8 : Int32)), .val (.int (Int32.ofNat kp)), .val (.ref ob245), .val .null, .unset] at_861 rfl rfl ?_
      refine ok_iload G at_863 rfl ?_
      refine ok_ifneY G 903 at_865 (by decide) (by decide) (by decide) ?_
      refine ok_aload G at_903 rfl rfl ?_
      refine ok_old (fun hO_hp292 => ?_)
      refine ok_static G (argsL := [(.ref ob245)]) (rest := []) (C.w70) (C.w71) (C.w72) (C.w73) (by decide) pd23 (c_named C hO_hp292 S_ob245 HT) rfl rfl rfl at_905 (Nat.le_of_ble_eq_true rfl) (Nat.le_of_ble_eq_true rfl) (Nat.le_of_ble_eq_true rfl) (Nat.le_of_ble_eq_true rfl) (fun _ q => nomatch q) ?_
      rintro _ hp295 K296 ⟨xr294, rfl, EO_xr294, hv_xr294⟩
      replace S_yl161 := S_yl161.keep K296 nin0 nin0
      replace E_ob245 := E_ob245.keep K296
      replace V_ob248 := V_ob248.keep K296 nin0
      replace S_ob245 := S_ob245.keep K296 nin0 nin0
      refine ok_as (mkF m 908 #[.val (.int i0), .val (.int i1), .val (.int i2), .val (.int i3), .val (.int (1 : Int32)), .val (.ref yl161), .val (.int (1 : Int32)), .val (.int chr241), .val (.int chr242), .val (.int (9 : Int32)), .val (.int (8 : Int32)), .val (.int (Int32.ofNat kp)), .val (.ref ob245), .val .null, .unset] [(.ref xr294)]) rfl ?_
      rcases hv_xr294 with ⟨e1, FO_xr294⟩ | ⟨e1, e2, FO_xr294⟩ | ⟨e1, e2, FO_xr294⟩
      · skip
        exact absurd (show (4 : Nat) = 8 from congrArg List.length e1) (by decide)
      · skip
        exact absurd (show (9 : Nat) = 8 from congrArg List.length e2) (by decide)
      · skip
        refine ok_astore G #[.val (.int i0), .val (.int i1), .val (.int i2), .val (.int i3), .val (.int (1 : Int32)), .val (.ref yl161), .val (.int (1 : Int32)), .val (.int chr241), .val (.int chr242), .val (.int (9 : Int32)), .val (.int (8 : Int32)), .val (.int (Int32.ofNat kp)), .val (.ref ob245), .val .null, .val (.ref xr294)] at_908 rfl rfl ?_
        refine ok_aload G at_910 rfl rfl ?_
        refine ok_aconst_null G at_912 ?_
        refine ok_old (fun hO_hp295 => ?_)
        refine ok_virtual G (a := xr294) (y0 := (⟨"java/util/Optional", "orElse", "(Ljava/lang/Object;)Ljava/lang/Object;"⟩ : MethodName)) (y := (⟨"java/util/Optional", "orElse", "(Ljava/lang/Object;)Ljava/lang/Object;"⟩ : MethodName)) (argsL := [.null]) (rest := []) EO_xr294 (C.w107) (C.w108) (C.w110) (fun vm hZ => notFace_of_selects (args := #[]) (mvT (s := s.setVm vm) hZ (C.w110))) (C.w109) (C.w104) (C.w111) (by decide) pd13 (c_orN C hO_hp295 FO_xr294) rfl rfl rfl at_913 (Nat.le_of_ble_eq_true rfl) (Nat.le_of_ble_eq_true rfl) (Nat.le_of_ble_eq_true rfl) (Nat.le_of_ble_eq_true rfl) (fun _ q => nomatch q) ?_
        rintro _ _ _ ⟨rfl, rfl⟩
        refine ok_as (mkF m 916 #[.val (.int i0), .val (.int i1), .val (.int i2), .val (.int i3), .val (.int (1 : Int32)), .val (.ref yl161), .val (.int (1 : Int32)), .val (.int chr241), .val (.int chr242), .val (.int (9 : Int32)), .val (.int (8 : Int32)), .val (.int (Int32.ofNat kp)), .val (.ref ob245), .val .null, .val (.ref xr294)] [.null]) rfl ?_
        refine ok_aload G at_916 rfl rfl ?_
        refine ok_acmp G true 921 at_918 rfl rfl (decide_eq_true rfl) (by decide) (by decide) ?_
        refine ok_iconst G (1 : Int32) at_921 rfl ?_
        refine ok_goto G 926 at_922 (by decide) (by decide) ?_
        exact ok_retN G rfl (by simp) at_926 rfl rfl (Nat.le_of_ble_eq_true rfl) (Nat.le_of_ble_eq_true rfl)
    · skip
      rw [hk4]
      refine ok_istore G #[.val (.int i0), .val (.int i1), .val (.int i2), .val (.int i3), .val (.int (1 : Int32)), .val (.ref yl161), .val (.int (2 : Int32)), .unset, .unset, .unset, .unset, .unset, .unset, .unset, .unset] at_32 rfl ?_
      refine ok_iloadN G at_34 rfl ?_
      refine ok_sipush G (255 : Int32) at_35 rfl ?_
      refine ok_iand G at_38 ?_
      refine ok_i2c G at_39 ?_
      refine ok_nameI ?_
      intro chr299 qchr299
      have lchr299 : Lat chr299 := by rw [qchr299]; exact lat_mask _
      refine ok_istore G #[.val (.int i0), .val (.int i1), .val (.int i2), .val (.int i3), .val (.int (1 : Int32)), .val (.ref yl161), .val (.int (2 : Int32)), .val (.int chr299), .unset, .unset, .unset, .unset, .unset, .unset, .unset] at_40 rfl ?_
      refine ok_iloadN G at_42 rfl ?_
      refine ok_sipush G (255 : Int32) at_43 rfl ?_
      refine ok_iand G at_46 ?_
      refine ok_i2c G at_47 ?_
      refine ok_nameI ?_
      intro chr300 qchr300
      have lchr300 : Lat chr300 := by rw [qchr300]; exact lat_mask _
      refine ok_istore G #[.val (.int i0), .val (.int i1), .val (.int i2), .val (.int i3), .val (.int (1 : Int32)), .val (.ref yl161), .val (.int (2 : Int32)), .val (.int chr299), .val (.int chr300), .unset, .unset, .unset, .unset, .unset, .unset] at_48 rfl ?_
      refine ok_aload G at_50 rfl rfl ?_
      refine ok_old (fun hO_hp159 => ?_)
      refine ok_virtual G (a := yl161) (y0 := (⟨"java/lang/String", "length", "()I"⟩ : MethodName)) (y := (⟨"java/lang/String", "length", "()I"⟩ : MethodName)) (argsL := []) (rest := []) S_yl161.exa (C.w8) (C.w9) (C.w11) (fun vm hZ => notFace_of_selects (args := #[]) (mvT (s := s.setVm vm) hZ (C.w11))) (C.w10) (C.w1) (C.w12) (by decide) pd19 (c_length C hO_hp159 S_yl161) rfl rfl rfl at_52 (Nat.le_of_ble_eq_true rfl) (Nat.le_of_ble_eq_true rfl) (Nat.le_of_ble_eq_true rfl) (Nat.le_of_ble_eq_true rfl) (fun _ q => nomatch q) ?_
      rintro _ _ _ ⟨rfl, rfl⟩
      refine ok_as (mkF m 55 #[.val (.int i0), .val (.int i1), .val (.int i2), .val (.int i3), .val (.int (1 : Int32)), .val (.ref yl161), .val (.int (2 : Int32)), .val (.int chr299), .val (.int chr300), .unset, .unset, .unset, .unset, .unset, .unset] [(.int (9 : Int32))]) rfl ?_
      refine ok_istore G #[.val (.int i0), .val (.int i1), .val (.int i2), .val (.int i3), .val (.int (1 : Int32)), .val (.ref yl161), .val (.int (2 : Int32)), .val (.int chr299), .val (.int chr300), .val (.int (9 : Int32)), .unset, .unset, .unset, .unset, .unset] at_55 rfl ?_
      refine ok_iload G at_57 rfl ?_
      refine ok_ifneY G 67 at_59 (by decide) (by decide) (by decide) ?_
      refine ok_iload G at_67 rfl ?_
      refine ok_iconst G (1 : Int32) at_69 rfl ?_
      refine ok_icmpneY G 80 at_70 (by decide) (by decide) (by decide) ?_
      refine ok_iload G at_80 rfl ?_
      refine ok_iconst G (2 : Int32) at_82 rfl ?_
      refine ok_icmpneN G at_83 (by decide) ?_
      refine ok_iload G at_86 rfl ?_
      refine ok_iconst G (1 : Int32) at_88 rfl ?_
      refine ok_iadd G at_89 ?_
      refine ok_goto G 94 at_90 (by decide) (by decide) ?_
      refine ok_sayI (10 : Int32) (by decide) ?_
      refine ok_istore G #[.val (.int i0), .val (.int i1), .val (.int i2), .val (.int i3), .val (.int (1 : Int32)), .val (.ref yl161), .val (.int (2 : Int32)), .val (.int chr299), .val (.int chr300), .val (.int (9 : Int32)), .val (.int (10 : Int32)), .unset, .unset, .unset, .unset] at_94 rfl ?_
      refine ok_iloadN G at_96 rfl ?_
      refine ok_ldcI G (C.w21) at_97 ?_
      refine ok_iand G at_99 ?_
      refine ok_iload G at_100 rfl ?_
      refine ok_iconst G (1 : Int32) at_102 rfl ?_
      refine ok_iadd G at_103 ?_
      refine ok_sayI (11 : Int32) (by decide) ?_
      refine ok_irem G at_104 (by decide) ?_
      refine ok_nameI ?_
      intro ps qps
      obtain ⟨kp, hkp, hpk⟩ := own_remk (x := (i2 &&& (2147483647 : Int32))) (n := 10) (m := (11 : Int32)) (own_mask _) (by decide) (by decide)
      replace hpk : ps = Int32.ofNat kp := qps.trans hpk
      subst hpk
      refine ok_istore G #[.val (.int i0), .val (.int i1), .val (.int i2), .val (.int i3), .val (.int (1 : Int32)), .val (.ref yl161), .val (.int (2 : Int32)), .val (.int chr299), .val (.int chr300), .val (.int (9 : Int32)), .val (.int (10 : Int32)), .val (.int (Int32.ofNat kp)), .unset, .unset, .unset] at_105 rfl ?_
      refine ok_iload G at_107 rfl ?_
      refine ok_iconst G (3 : Int32) at_109 rfl ?_
      refine ok_icmpneY G 136 at_110 (by decide) (by decide) (by decide) ?_
      refine ok_iload G at_136 rfl ?_
      refine ok_ifneY G 378 at_138 (by decide) (by decide) (by decide) ?_
      refine ok_iload G at_378 rfl ?_
      refine ok_bipush G (8 : Int32) at_380 rfl ?_
      refine ok_icmpneY G 525 at_382 (by decide) (by decide) (by decide) ?_
      refine ok_iload G at_525 rfl ?_
      refine ok_bipush G (9 : Int32) at_527 rfl ?_
      refine ok_icmpneY G 689 at_529 (by decide) (by decide) (by decide) ?_
      refine ok_new G (C.w22) (C.w2) (C.w1) at_689 (Nat.le_of_ble_eq_true rfl) (Nat.le_of_ble_eq_true rfl) ?_
      intro hp304 ob303 eq_ob303 K305 g_ob303 lb_ob303 E_ob303 D_ob303
      have ne_yl161_ob303 : yl161 ≠ ob303 := Nat.ne_of_lt (Nat.lt_of_lt_of_le S_yl161.lt (Nat.le_of_eq eq_ob303.symm))
      have ne_tr162_ob303 : tr162 ≠ ob303 := Nat.ne_of_lt (Nat.lt_of_lt_of_le S_yl161.ltT (Nat.le_of_eq eq_ob303.symm))
      replace S_yl161 := S_yl161.keep K305 nin0 nin0
      have F_ob303_value : Fld Z hp304 ob303 "java/lang/String" "value" "[B" .null := D_ob303 _ _ _ (.array .byte) (Or.inr (C.w4)) (by decide)
      have F_ob303_coder : Fld Z hp304 ob303 "java/lang/String" "coder" "B" (.int (0 : Int32)) := D_ob303 _ _ _ .byte (Or.inr (C.w5)) (by decide)
      refine ok_dup G at_692 rfl ?_
      refine ok_bipush G (10 : Int32) at_693 rfl ?_
      refine ok_newP G (aty := .char) (C.w23) at_695 (by decide) 10 (by decide) (by decide) (Nat.le_of_ble_eq_true rfl) (Nat.le_of_ble_eq_true rfl) ?_
      intro hp307 ob306 k_ob306 eq_ob306 K308 g_ob306 lb_ob306 V_ob306
      have ne_yl161_ob306 : yl161 ≠ ob306 := Nat.ne_of_lt (Nat.lt_of_lt_of_le S_yl161.lt (Nat.le_of_eq eq_ob306.symm))
      have ne_tr162_ob306 : tr162 ≠ ob306 := Nat.ne_of_lt (Nat.lt_of_lt_of_le S_yl161.ltT (Nat.le_of_eq eq_ob306.symm))
      have ne_ob303_ob306 : ob303 ≠ ob306 := Nat.ne_of_lt (Nat.lt_of_lt_of_le E_ob303.lt (Nat.le_of_eq eq_ob306.symm))
      replace S_yl161 := S_yl161.keep K308 nin0 nin0
      replace E_ob303 := E_ob303.keep K308
      replace F_ob303_value := F_ob303_value.keep K308 nin0
      replace F_ob303_coder := F_ob303_coder.keep K308 nin0
      replace V_ob306 : Arv Z hp307 ob306 k_ob306 .char (10 : Int32) [(.int (0 : Int32)), (.int (0 : Int32)), (.int (0 : Int32)), (.int (0 : Int32)), (.int (0 : Int32)), (.int (0 : Int32)), (.int (0 : Int32)), (.int (0 : Int32)), (.int (0 : Int32)), (.int (0 : Int32))] (.int (0 : Int32)) := V_ob306.pad (pad_rep [] (.int (0 : Int32)) 10)
      refine ok_dup G at_697 rfl ?_
      refine ok_iconst G (0 : Int32) at_698 rfl ?_
      refine ok_aload G at_699 rfl rfl ?_
      refine ok_iconst G (0 : Int32) at_701 rfl ?_
      refine ok_iload G at_702 rfl ?_
      refine ok_iload G at_704 rfl ?_
      refine ok_iload G at_706 rfl ?_
      refine ok_old (fun hO_hp307 => ?_)
      refine ok_static G (argsL := [(.ref yl161), (.int (0 : Int32)), (.int (Int32.ofNat kp)), (.int chr299), (.int chr300)]) (rest := [(.int (0 : Int32)), (.ref ob306), (.ref ob306), (.ref ob303), (.ref ob303)]) (C.w24) (C.w25) (C.w26) (C.w27) (by decide) pd21 (c_pick C hO_hp307 S_yl161 0 (by decide) rfl lchr299 lchr300) rfl rfl rfl at_708 (Nat.le_of_ble_eq_true rfl) (Nat.le_of_ble_eq_true rfl) (Nat.le_of_ble_eq_true rfl) (Nat.le_of_ble_eq_true rfl) (fun _ q => nomatch q) ?_
      rintro _ _ _ ⟨chr309, rfl, lchr309, qchr309, rfl⟩
      refine ok_as (mkF m 711 #[.val (.int i0), .val (.int i1), .val (.int i2), .val (.int i3), .val (.int (1 : Int32)), .val (.ref yl161), .val (.int (2 : Int32)), .val (.int chr299), .val (.int chr300), .val (.int (9 : Int32)), .val (.int (10 : Int32)), .val (.int (Int32.ofNat kp)), .unset, .unset, .unset] [(.int chr309), (.int (0 : Int32)), (.ref ob306), (.ref ob306), (.ref ob303), (.ref ob303)]) rfl ?_
      refine ok_castore G chr309 0 V_ob306 ⟨by decide, by decide⟩ rfl (Nat.le_of_ble_eq_true rfl) (Lat.nar lchr309) at_711 g_ob306 (Or.inr lb_ob306) (SafeFor.mem (List.mem_of_getElem? (i := 0) rfl)) ?_
      intro hp312 K313 Vn
      replace S_yl161 := S_yl161.keep K313 (ninS ne_yl161_ob306 nin0) (ninS ne_tr162_ob306 nin0)
      replace E_ob303 := E_ob303.keep K313
      replace F_ob303_value := F_ob303_value.keep K313 (ninS ne_ob303_ob306 nin0)
      replace F_ob303_coder := F_ob303_coder.keep K313 (ninS ne_ob303_ob306 nin0)
      replace V_ob306 : Arv Z hp312 ob306 k_ob306 .char (10 : Int32) [(.int chr309), (.int (0 : Int32)), (.int (0 : Int32)), (.int (0 : Int32)), (.int (0 : Int32)), (.int (0 : Int32)), (.int (0 : Int32)), (.int (0 : Int32)), (.int (0 : Int32)), (.int (0 : Int32))] (.int (0 : Int32)) := Vn
      clear Vn
      refine ok_dup G at_712 rfl ?_
      refine ok_iconst G (1 : Int32) at_713 rfl ?_
      refine ok_aload G at_714 rfl rfl ?_
      refine ok_iconst G (1 : Int32) at_716 rfl ?_
      refine ok_iload G at_717 rfl ?_
      refine ok_iload G at_719 rfl ?_
      refine ok_iload G at_721 rfl ?_
      refine ok_old (fun hO_hp312 => ?_)
      refine ok_static G (argsL := [(.ref yl161), (.int (1 : Int32)), (.int (Int32.ofNat kp)), (.int chr299), (.int chr300)]) (rest := [(.int (1 : Int32)), (.ref ob306), (.ref ob306), (.ref ob303), (.ref ob303)]) (C.w24) (C.w25) (C.w26) (C.w27) (by decide) pd21 (c_pick C hO_hp312 S_yl161 1 (by decide) rfl lchr299 lchr300) rfl rfl rfl at_723 (Nat.le_of_ble_eq_true rfl) (Nat.le_of_ble_eq_true rfl) (Nat.le_of_ble_eq_true rfl) (Nat.le_of_ble_eq_true rfl) (fun _ q => nomatch q) ?_
      rintro _ _ _ ⟨chr314, rfl, lchr314, qchr314, rfl⟩
      refine ok_as (mkF m 726 #[.val (.int i0), .val (.int i1), .val (.int i2), .val (.int i3), .val (.int (1 : Int32)), .val (.ref yl161), .val (.int (2 : Int32)), .val (.int chr299), .val (.int chr300), .val (.int (9 : Int32)), .val (.int (10 : Int32)), .val (.int (Int32.ofNat kp)), .unset, .unset, .unset] [(.int chr314), (.int (1 : Int32)), (.ref ob306), (.ref ob306), (.ref ob303), (.ref ob303)]) rfl ?_
      refine ok_castore G chr314 1 V_ob306 ⟨by decide, by decide⟩ rfl (Nat.le_of_ble_eq_true rfl) (Lat.nar lchr314) at_726 g_ob306 (Or.inr lb_ob306) (SafeFor.mem (List.mem_of_getElem? (i := 0) rfl)) ?_
      intro hp317 K318 Vn
      replace S_yl161 := S_yl161.keep K318 (ninS ne_yl161_ob306 nin0) (ninS ne_tr162_ob306 nin0)
      replace E_ob303 := E_ob303.keep K318
      replace F_ob303_value := F_ob303_value.keep K318 (ninS ne_ob303_ob306 nin0)
      replace F_ob303_coder := F_ob303_coder.keep K318 (ninS ne_ob303_ob306 nin0)
      replace V_ob306 : Arv Z hp317 ob306 k_ob306 .char (10 : Int32) [(.int chr309), (.int chr314), (.int (0 : Int32)), (.int (0 : Int32)), (.int (0 : Int32)), (.int (0 : Int32)), (.int (0 : Int32)), (.int (0 : Int32)), (.int (0 : Int32)), (.int (0 : Int32))] (.int (0 : Int32)) := Vn
      clear Vn
      refine ok_dup G at_727 rfl ?_
      refine ok_iconst G (2 : Int32) at_728 rfl ?_
      refine ok_aload G at_729 rfl rfl ?_
      refine ok_iconst G (2 : Int32) at_731 rfl ?_
      refine ok_iload G at_732 rfl ?_
      refine ok_iload G at_734 rfl ?_
      refine ok_iload G at_736 rfl ?_
      refine ok_old (fun hO_hp317 => ?_)
      refine ok_static G (argsL := [(.ref yl161), (.int (2 : Int32)), (.int (Int32.ofNat kp)), (.int chr299), (.int chr300)]) (rest := [(.int (2 : Int32)), (.ref ob306), (.ref ob306), (.ref ob303), (.ref ob303)]) (C.w24) (C.w25) (C.w26) (C.w27) (by decide) pd21 (c_pick C hO_hp317 S_yl161 2 (by decide) rfl lchr299 lchr300) rfl rfl rfl at_738 (Nat.le_of_ble_eq_true rfl) (Nat.le_of_ble_eq_true rfl) (Nat.le_of_ble_eq_true rfl) (Nat.le_of_ble_eq_true rfl) (fun _ q => nomatch q) ?_
      rintro _ _ _ ⟨chr319, rfl, lchr319, qchr319, rfl⟩
      refine ok_as (mkF m 741 #[.val (.int i0), .val (.int i1), .val (.int i2), .val (.int i3), .val (.int (1 : Int32)), .val (.ref yl161), .val (.int (2 : Int32)), .val (.int chr299), .val (.int chr300), .val (.int (9 : Int32)), .val (.int (10 : Int32)), .val (.int (Int32.ofNat kp)), .unset, .unset, .unset] [(.int chr319), (.int (2 : Int32)), (.ref ob306), (.ref ob306), (.ref ob303), (.ref ob303)]) rfl ?_
      refine ok_castore G chr319 2 V_ob306 ⟨by decide, by decide⟩ rfl (Nat.le_of_ble_eq_true rfl) (Lat.nar lchr319) at_741 g_ob306 (Or.inr lb_ob306) (SafeFor.mem (List.mem_of_getElem? (i := 0) rfl)) ?_
      intro hp322 K323 Vn
      replace S_yl161 := S_yl161.keep K323 (ninS ne_yl161_ob306 nin0) (ninS ne_tr162_ob306 nin0)
      replace E_ob303 := E_ob303.keep K323
      replace F_ob303_value := F_ob303_value.keep K323 (ninS ne_ob303_ob306 nin0)
      replace F_ob303_coder := F_ob303_coder.keep K323 (ninS ne_ob303_ob306 nin0)
      replace V_ob306 : Arv Z hp322 ob306 k_ob306 .char (10 : Int32) [(.int chr309), (.int chr314), (.int chr319), (.int (0 : Int32)), (.int (0 : Int32)), (.int (0 : Int32)), (.int (0 : Int32)), (.int (0 : Int32)), (.int (0 : Int32)), (.int (0 : Int32))] (.int (0 : Int32)) := Vn
      clear Vn
      refine ok_dup G at_742 rfl ?_
      refine ok_iconst G (3 : Int32) at_743 rfl ?_
      refine ok_aload G at_744 rfl rfl ?_
      refine ok_iconst G (3 : Int32) at_746 rfl ?_
      refine ok_iload G at_747 rfl ?_
      refine ok_iload G at_749 rfl ?_
      refine ok_iload G at_751 rfl ?_
      refine ok_old (fun hO_hp322 => ?_)
      refine ok_static G (argsL := [(.ref yl161), (.int (3 : Int32)), (.int (Int32.ofNat kp)), (.int chr299), (.int chr300)]) (rest := [(.int (3 : Int32)), (.ref ob306), (.ref ob306), (.ref ob303), (.ref ob303)]) (C.w24) (C.w25) (C.w26) (C.w27) (by decide) pd21 (c_pick C hO_hp322 S_yl161 3 (by decide) rfl lchr299 lchr300) rfl rfl rfl at_753 (Nat.le_of_ble_eq_true rfl) (Nat.le_of_ble_eq_true rfl) (Nat.le_of_ble_eq_true rfl) (Nat.le_of_ble_eq_true rfl) (fun _ q => nomatch q) ?_
      rintro _ _ _ ⟨chr324, rfl, lchr324, qchr324, rfl⟩
      refine ok_as (mkF m 756 #[.val (.int i0), .val (.int i1), .val (.int i2), .val (.int i3), .val (.int (1 : Int32)), .val (.ref yl161), .val (.int (2 : Int32)), .val (.int chr299), .val (.int chr300), .val (.int (9 : Int32)), .val (.int (10 : Int32)), .val (.int (Int32.ofNat kp)), .unset, .unset, .unset] [(.int chr324), (.int (3 : Int32)), (.ref ob306), (.ref ob306), (.ref ob303), (.ref ob303)]) rfl ?_
      refine ok_castore G chr324 3 V_ob306 ⟨by decide, by decide⟩ rfl (Nat.le_of_ble_eq_true rfl) (Lat.nar lchr324) at_756 g_ob306 (Or.inr lb_ob306) (SafeFor.mem (List.mem_of_getElem? (i := 0) rfl)) ?_
      intro hp327 K328 Vn
      replace S_yl161 := S_yl161.keep K328 (ninS ne_yl161_ob306 nin0) (ninS ne_tr162_ob306 nin0)
      replace E_ob303 := E_ob303.keep K328
      replace F_ob303_value := F_ob303_value.keep K328 (ninS ne_ob303_ob306 nin0)
      replace F_ob303_coder := F_ob303_coder.keep K328 (ninS ne_ob303_ob306 nin0)
      replace V_ob306 : Arv Z hp327 ob306 k_ob306 .char (10 : Int32) [(.int chr309), (.int chr314), (.int chr319), (.int chr324), (.int (0 : Int32)), (.int (0 : Int32)), (.int (0 : Int32)), (.int (0 : Int32)), (.int (0 : Int32)), (.int (0 : Int32))] (.int (0 : Int32)) := Vn
      clear Vn
      refine ok_dup G at_757 rfl ?_
      refine ok_iconst G (4 : Int32) at_758 rfl ?_
      refine ok_aload G at_759 rfl rfl ?_
      refine ok_iconst G (4 : Int32) at_761 rfl ?_
      refine ok_iload G at_762 rfl ?_
      refine ok_iload G at_764 rfl ?_
      refine ok_iload G at_766 rfl ?_
      refine ok_old (fun hO_hp327 => ?_)
      refine ok_static G (argsL := [(.ref yl161), (.int (4 : Int32)), (.int (Int32.ofNat kp)), (.int chr299), (.int chr300)]) (rest := [(.int (4 : Int32)), (.ref ob306), (.ref ob306), (.ref ob303), (.ref ob303)]) (C.w24) (C.w25) (C.w26) (C.w27) (by decide) pd21 (c_pick C hO_hp327 S_yl161 4 (by decide) rfl lchr299 lchr300) rfl rfl rfl at_768 (Nat.le_of_ble_eq_true rfl) (Nat.le_of_ble_eq_true rfl) (Nat.le_of_ble_eq_true rfl) (Nat.le_of_ble_eq_true rfl) (fun _ q => nomatch q) ?_
      rintro _ _ _ ⟨chr329, rfl, lchr329, qchr329, rfl⟩
      refine ok_as (mkF m 771 #[.val (.int i0), .val (.int i1), .val (.int i2), .val (.int i3), .val (.int (1 : Int32)), .val (.ref yl161), .val (.int (2 : Int32)), .val (.int chr299), .val (.int chr300), .val (.int (9 : Int32)), .val (.int (10 : Int32)), .val (.int (Int32.ofNat kp)), .unset, .unset, .unset] [(.int chr329), (.int (4 : Int32)), (.ref ob306), (.ref ob306), (.ref ob303), (.ref ob303)]) rfl ?_
      refine ok_castore G chr329 4 V_ob306 ⟨by decide, by decide⟩ rfl (Nat.le_of_ble_eq_true rfl) (Lat.nar lchr329) at_771 g_ob306 (Or.inr lb_ob306) (SafeFor.mem (List.mem_of_getElem? (i := 0) rfl)) ?_
      intro hp332 K333 Vn
      replace S_yl161 := S_yl161.keep K333 (ninS ne_yl161_ob306 nin0) (ninS ne_tr162_ob306 nin0)
      replace E_ob303 := E_ob303.keep K333
      replace F_ob303_value := F_ob303_value.keep K333 (ninS ne_ob303_ob306 nin0)
      replace F_ob303_coder := F_ob303_coder.keep K333 (ninS ne_ob303_ob306 nin0)
      replace V_ob306 : Arv Z hp332 ob306 k_ob306 .char (10 : Int32) [(.int chr309), (.int chr314), (.int chr319), (.int chr324), (.int chr329), (.int (0 : Int32)), (.int (0 : Int32)), (.int (0 : Int32)), (.int (0 : Int32)), (.int (0 : Int32))] (.int (0 : Int32)) := Vn
      clear Vn
      refine ok_dup G at_772 rfl ?_
      refine ok_iconst G (5 : Int32) at_773 rfl ?_
      refine ok_aload G at_774 rfl rfl ?_
      refine ok_iconst G (5 : Int32) at_776 rfl ?_
      refine ok_iload G at_777 rfl ?_
      refine ok_iload G at_779 rfl ?_
      refine ok_iload G at_781 rfl ?_
      refine ok_old (fun hO_hp332 => ?_)
      refine ok_static G (argsL := [(.ref yl161), (.int (5 : Int32)), (.int (Int32.ofNat kp)), (.int chr299), (.int chr300)]) (rest := [(.int (5 : Int32)), (.ref ob306), (.ref ob306), (.ref ob303), (.ref ob303)]) (C.w24) (C.w25) (C.w26) (C.w27) (by decide) pd21 (c_pick C hO_hp332 S_yl161 5 (by decide) rfl lchr299 lchr300) rfl rfl rfl at_783 (Nat.le_of_ble_eq_true rfl) (Nat.le_of_ble_eq_true rfl) (Nat.le_of_ble_eq_true rfl) (Nat.le_of_ble_eq_true rfl) (fun _ q => nomatch q) ?_
      rintro _ _ _ ⟨chr334, rfl, lchr334, qchr334, rfl⟩
      refine ok_as (mkF m 786 #[.val (.int i0), .val (.int i1), .val (.int i2), .val (.int i3), .val (.int (1 : Int32)), .val (.ref yl161), .val (.int (2 : Int32)), .val (.int chr299), .val (.int chr300), .val (.int (9 : Int32)), .val (.int (10 : Int32)), .val (.int (Int32.ofNat kp)), .unset, .unset, .unset] [(.int chr334), (.int (5 : Int32)), (.ref ob306), (.ref ob306), (.ref ob303), (.ref ob303)]) rfl ?_
      refine ok_castore G chr334 5 V_ob306 ⟨by decide, by decide⟩ rfl (Nat.le_of_ble_eq_true rfl) (Lat.nar lchr334) at_786 g_ob306 (Or.inr lb_ob306) (SafeFor.mem (List.mem_of_getElem? (i := 0) rfl)) ?_
      intro hp337 K338 Vn
      replace S_yl161 := S_yl161.keep K338 (ninS ne_yl161_ob306 nin0) (ninS ne_tr162_ob306 nin0)
      replace E_ob303 := E_ob303.keep K338
      replace F_ob303_value := F_ob303_value.keep K338 (ninS ne_ob303_ob306 nin0)
      replace F_ob303_coder := F_ob303_coder.keep K338 (ninS ne_ob303_ob306 nin0)
      replace V_ob306 : Arv Z hp337 ob306 k_ob306 .char (10 : Int32) [(.int chr309), (.int chr314), (.int chr319), (.int chr324), (.int chr329), (.int chr334), (.int (0 : Int32)), (.int (0 : Int32)), (.int (0 : Int32)), (.int (0 : Int32))] (.int (0 : Int32)) := Vn
      clear Vn
      refine ok_dup G at_787 rfl ?_
      refine ok_bipush G (6 : Int32) at_788 rfl ?_
      refine ok_aload G at_790 rfl rfl ?_
      refine ok_bipush G (6 : Int32) at_792 rfl ?_
      refine ok_iload G at_794 rfl ?_
      refine ok_iload G at_796 rfl ?_
      refine ok_iload G at_798 rfl ?_
      refine ok_old (fun hO_hp337 => ?_)
      refine ok_static G (argsL := [(.ref yl161), (.int (6 : Int32)), (.int (Int32.ofNat kp)), (.int chr299), (.int chr300)]) (rest := [(.int (6 : Int32)), (.ref ob306), (.ref ob306), (.ref ob303), (.ref ob303)]) (C.w24) (C.w25) (C.w26) (C.w27) (by decide) pd21 (c_pick C hO_hp337 S_yl161 6 (by decide) rfl lchr299 lchr300) rfl rfl rfl at_800 (Nat.le_of_ble_eq_true rfl) (Nat.le_of_ble_eq_true rfl) (Nat.le_of_ble_eq_true rfl) (Nat.le_of_ble_eq_true rfl) (fun _ q => nomatch q) ?_
      rintro _ _ _ ⟨chr339, rfl, lchr339, qchr339, rfl⟩
      refine ok_as (mkF m 803 #[.val (.int i0), .val (.int i1), .val (.int i2), .val (.int i3), .val (.int (1 : Int32)), .val (.ref yl161), .val (.int (2 : Int32)), .val (.int chr299), .val (.int chr300), .val (.int (9 : Int32)), .val (.int (10 : Int32)), .val (.int (Int32.ofNat kp)), .unset, .unset, .unset] [(.int chr339), (.int (6 : Int32)), (.ref ob306), (.ref ob306), (.ref ob303), (.ref ob303)]) rfl ?_
      refine ok_castore G chr339 6 V_ob306 ⟨by decide, by decide⟩ rfl (Nat.le_of_ble_eq_true rfl) (Lat.nar lchr339) at_803 g_ob306 (Or.inr lb_ob306) (SafeFor.mem (List.mem_of_getElem? (i := 0) rfl)) ?_
      intro hp342 K343 Vn
      replace S_yl161 := S_yl161.keep K343 (ninS ne_yl161_ob306 nin0) (ninS ne_tr162_ob306 nin0)
      replace E_ob303 := E_ob303.keep K343
      replace F_ob303_value := F_ob303_value.keep K343 (ninS ne_ob303_ob306 nin0)
      replace F_ob303_coder := F_ob303_coder.keep K343 (ninS ne_ob303_ob306 nin0)
      replace V_ob306 : Arv Z hp342 ob306 k_ob306 .char (10 : Int32) [(.int chr309), (.int chr314), (.int chr319), (.int chr324), (.int chr329), (.int chr334), (.int chr339), (.int (0 : Int32)), (.int (0 : Int32)), (.int (0 : Int32))] (.int (0 : Int32)) := Vn
      clear Vn
      refine ok_dup G at_804 rfl ?_
      refine ok_bipush G (7 : Int32) at_805 rfl ?_
      refine ok_aload G at_807 rfl rfl ?_
      refine ok_bipush G (7 : Int32) at_809 rfl ?_
      refine ok_iload G at_811 rfl ?_
      refine ok_iload G at_813 rfl ?_
      refine ok_iload G at_815 rfl ?_
      refine ok_old (fun hO_hp342 => ?_)
      refine ok_static G (argsL := [(.ref yl161), (.int (7 : Int32)), (.int (Int32.ofNat kp)), (.int chr299), (.int chr300)]) (rest := [(.int (7 : Int32)), (.ref ob306), (.ref ob306), (.ref ob303), (.ref ob303)]) (C.w24) (C.w25) (C.w26) (C.w27) (by decide) pd21 (c_pick C hO_hp342 S_yl161 7 (by decide) rfl lchr299 lchr300) rfl rfl rfl at_817 (Nat.le_of_ble_eq_true rfl) (Nat.le_of_ble_eq_true rfl) (Nat.le_of_ble_eq_true rfl) (Nat.le_of_ble_eq_true rfl) (fun _ q => nomatch q) ?_
      rintro _ _ _ ⟨chr344, rfl, lchr344, qchr344, rfl⟩
      refine ok_as (mkF m 820 #[.val (.int i0), .val (.int i1), .val (.int i2), .val (.int i3), .val (.int (1 : Int32)), .val (.ref yl161), .val (.int (2 : Int32)), .val (.int chr299), .val (.int chr300), .val (.int (9 : Int32)), .val (.int (10 : Int32)), .val (.int (Int32.ofNat kp)), .unset, .unset, .unset] [(.int chr344), (.int (7 : Int32)), (.ref ob306), (.ref ob306), (.ref ob303), (.ref ob303)]) rfl ?_
      refine ok_castore G chr344 7 V_ob306 ⟨by decide, by decide⟩ rfl (Nat.le_of_ble_eq_true rfl) (Lat.nar lchr344) at_820 g_ob306 (Or.inr lb_ob306) (SafeFor.mem (List.mem_of_getElem? (i := 0) rfl)) ?_
      intro hp347 K348 Vn
      replace S_yl161 := S_yl161.keep K348 (ninS ne_yl161_ob306 nin0) (ninS ne_tr162_ob306 nin0)
      replace E_ob303 := E_ob303.keep K348
      replace F_ob303_value := F_ob303_value.keep K348 (ninS ne_ob303_ob306 nin0)
      replace F_ob303_coder := F_ob303_coder.keep K348 (ninS ne_ob303_ob306 nin0)
      replace V_ob306 : Arv Z hp347 ob306 k_ob306 .char (10 : Int32) [(.int chr309), (.int chr314), (.int chr319), (.int chr324), (.int chr329), (.int chr334), (.int chr339), (.int chr344), (.int (0 : Int32)), (.int (0 : Int32))] (.int (0 : Int32)) := Vn
      clear Vn
      refine ok_dup G at_821 rfl ?_
      refine ok_bipush G (8 : Int32) at_822 rfl ?_
      refine ok_aload G at_824 rfl rfl ?_
      refine ok_bipush G (8 : Int32) at_826 rfl ?_
      refine ok_iload G at_828 rfl ?_
      refine ok_iload G at_830 rfl ?_
      refine ok_iload G at_832 rfl ?_
      refine ok_old (fun hO_hp347 => ?_)
      refine ok_static G (argsL := [(.ref yl161), (.int (8 : Int32)), (.int (Int32.ofNat kp)), (.int chr299), (.int chr300)]) (rest := [(.int (8 : Int32)), (.ref ob306), (.ref ob306), (.ref ob303), (.ref ob303)]) (C.w24) (C.w25) (C.w26) (C.w27) (by decide) pd21 (c_pick C hO_hp347 S_yl161 8 (by decide) rfl lchr299 lchr300) rfl rfl rfl at_834 (Nat.le_of_ble_eq_true rfl) (Nat.le_of_ble_eq_true rfl) (Nat.le_of_ble_eq_true rfl) (Nat.le_of_ble_eq_true rfl) (fun _ q => nomatch q) ?_
      rintro _ _ _ ⟨chr349, rfl, lchr349, qchr349, rfl⟩
      refine ok_as (mkF m 837 #[.val (.int i0), .val (.int i1), .val (.int i2), .val (.int i3), .val (.int (1 : Int32)), .val (.ref yl161), .val (.int (2 : Int32)), .val (.int chr299), .val (.int chr300), .val (.int (9 : Int32)), .val (.int (10 : Int32)), .val (.int (Int32.ofNat kp)), .unset, .unset, .unset] [(.int chr349), (.int (8 : Int32)), (.ref ob306), (.ref ob306), (.ref ob303), (.ref ob303)]) rfl ?_
      refine ok_castore G chr349 8 V_ob306 ⟨by decide, by decide⟩ rfl (Nat.le_of_ble_eq_true rfl) (Lat.nar lchr349) at_837 g_ob306 (Or.inr lb_ob306) (SafeFor.mem (List.mem_of_getElem? (i := 0) rfl)) ?_
      intro hp352 K353 Vn
      replace S_yl161 := S_yl161.keep K353 (ninS ne_yl161_ob306 nin0) (ninS ne_tr162_ob306 nin0)
      replace E_ob303 := E_ob303.keep K353
      replace F_ob303_value := F_ob303_value.keep K353 (ninS ne_ob303_ob306 nin0)
      replace F_ob303_coder := F_ob303_coder.keep K353 (ninS ne_ob303_ob306 nin0)
      replace V_ob306 : Arv Z hp352 ob306 k_ob306 .char (10 : Int32) [(.int chr309), (.int chr314), (.int chr319), (.int chr324), (.int chr329), (.int chr334), (.int chr339), (.int chr344), (.int chr349), (.int (0 : Int32))] (.int (0 : Int32)) := Vn
      clear Vn
      refine ok_dup G at_838 rfl ?_
      refine ok_bipush G (9 : Int32) at_839 rfl ?_
      refine ok_aload G at_841 rfl rfl ?_
      refine ok_bipush G (9 : Int32) at_843 rfl ?_
      refine ok_iload G at_845 rfl ?_
      refine ok_iload G at_847 rfl ?_
      refine ok_iload G at_849 rfl ?_
      refine ok_old (fun hO_hp352 => ?_)
      refine ok_static G (argsL := [(.ref yl161), (.int (9 : Int32)), (.int (Int32.ofNat kp)), (.int chr299), (.int chr300)]) (rest := [(.int (9 : Int32)), (.ref ob306), (.ref ob306), (.ref ob303), (.ref ob303)]) (C.w24) (C.w25) (C.w26) (C.w27) (by decide) pd21 (c_pick C hO_hp352 S_yl161 9 (by decide) rfl lchr299 lchr300) rfl rfl rfl at_851 (Nat.le_of_ble_eq_true rfl) (Nat.le_of_ble_eq_true rfl) (Nat.le_of_ble_eq_true rfl) (Nat.le_of_ble_eq_true rfl) (fun _ q => nomatch q) ?_
      rintro _ _ _ ⟨chr354, rfl, lchr354, qchr354, rfl⟩
      refine ok_as (mkF m 854 #[.val (.int i0), .val (.int i1), .val (.int i2), .val (.int i3), .val (.int (1 : Int32)), .val (.ref yl161), .val (.int (2 : Int32)), .val (.int chr299), .val (.int chr300), .val (.int (9 : Int32)), .val (.int (10 : Int32)), .val (.int (Int32.ofNat kp)), .unset, .unset, .unset] [(.int chr354), (.int (9 : Int32)), (.ref ob306), (.ref ob306), (.ref ob303), (.ref ob303)]) rfl ?_
      refine ok_castore G chr354 9 V_ob306 ⟨by decide, by decide⟩ rfl (Nat.le_of_ble_eq_true rfl) (Lat.nar lchr354) at_854 g_ob306 (Or.inr lb_ob306) (SafeFor.mem (List.mem_of_getElem? (i := 0) rfl)) ?_
      intro hp357 K358 Vn
      replace S_yl161 := S_yl161.keep K358 (ninS ne_yl161_ob306 nin0) (ninS ne_tr162_ob306 nin0)
      replace E_ob303 := E_ob303.keep K358
      replace F_ob303_value := F_ob303_value.keep K358 (ninS ne_ob303_ob306 nin0)
      replace F_ob303_coder := F_ob303_coder.keep K358 (ninS ne_ob303_ob306 nin0)
      replace V_ob306 : Arv Z hp357 ob306 k_ob306 .char (10 : Int32) [(.int chr309), (.int chr314), (.int chr319), (.int chr324), (.int chr329), (.int chr334), (.int chr339), (.int chr344), (.int chr349), (.int chr354)] (.int (0 : Int32)) := Vn
      clear Vn
      refine ok_old (fun hO_hp357 => ?_)
      refine ok_keep (fun hKp_hp357 => ?_)
      refine ok_init G (a := ob303) (argsL := [(.ref ob306)]) (rest := [(.ref ob303)]) rfl (C.w50) (C.w51) (C.w1) (C.w52) (by decide) pd22 (c_init1 (cs := [chr309, chr314, chr319, chr324, chr329, chr334, chr339, chr344, chr349, chr354]) C hO_hp357 E_ob303 F_ob303_value F_ob303_coder g_ob303 V_ob306 (Nat.le_of_ble_eq_true rfl) (Nat.le_of_ble_eq_true rfl) (allL lchr309 (allL lchr314 (allL lchr319 (allL lchr324 (allL lchr329 (allL lchr334 (allL lchr339 (allL lchr344 (allL lchr349 (allL lchr354 (fun _ q => nomatch q))))))))))) ne_ob303_ob306) rfl rfl rfl at_855 (Nat.le_of_ble_eq_true rfl) (Nat.le_of_ble_eq_true rfl) (Nat.le_of_ble_eq_true rfl) (Nat.le_of_ble_eq_true rfl) (allS ⟨(Or.inr lb_ob303), (SafeFor.mem (List.mem_of_getElem? (i := 1) rfl))⟩ (fun _ q => nomatch q)) ?_
      rintro _ hp360 K361 ⟨rfl, tr359, lbq_tr359, S_ob303⟩
      have lbh_tr359 := lbq_tr359
      have ne_yl161_tr359 : yl161 ≠ tr359 := Nat.ne_of_lt (Nat.lt_of_lt_of_le S_yl161.lt lbh_tr359)
      have ne_tr162_tr359 : tr162 ≠ tr359 := Nat.ne_of_lt (Nat.lt_of_lt_of_le S_yl161.ltT lbh_tr359)
      have ne_ob303_tr359 : ob303 ≠ tr359 := Nat.ne_of_lt (Nat.lt_of_lt_of_le E_ob303.lt lbh_tr359)
      have ne_ob306_tr359 : ob306 ≠ tr359 := Nat.ne_of_lt (Nat.lt_of_lt_of_le V_ob306.lt lbh_tr359)
      have lb_tr359 : h0.size ≤ tr359 := Nat.le_trans hKp_hp357.1 lbh_tr359
      have g_tr359 : n0 ≤ tr359 := Nat.le_trans (old_le hO_hp357) lbh_tr359
      replace S_yl161 := S_yl161.keep K361 (ninS ne_yl161_ob303 nin0) (ninS ne_tr162_ob303 nin0)
      replace E_ob303 := E_ob303.keep K361
      replace V_ob306 := V_ob306.keep K361 (ninS (Ne.symm ne_ob303_ob306) nin0)
      refine ok_as (mkF m 858 #[.val (.int i0), .val (.int i1), .val (.int i2), .val (.int i3), .val (.int (1 : Int32)), .val (.ref yl161), .val (.int (2 : Int32)), .val (.int chr299), .val (.int chr300), .val (.int (9 : Int32)), .val (.int (10 : Int32)), .val (.int (Int32.ofNat kp)), .unset, .unset, .unset] [(.ref ob303)]) rfl ?_
      refine ok_astore G #[.val (.int i0), .val (.int i1), .val (.int i2), .val (.int i3), .val (.int (1 : Int32)), .val (.ref yl161), .val (.int (2 : Int32)), .val (.int chr299), .val (.int chr300), .val (.int (9 : Int32)), .val (.int (10 : Int32)), .val (.int (Int32.ofNat kp)), .val (.ref ob303), .unset, .unset] at_858 rfl rfl ?_
      refine ok_aconst_null G at_860 ?_
      refine ok_astore G #[.val (.int i0), .val (.int i1), .val (.int i2), .val (.int i3), .val (.int (1 : Int32)), .val (.ref yl161), .val (.int (2 : Int32)), .val (.int chr299), .val (.int chr300), .val (.int (9 : Int32)), .val (.int (10 : Int32)), .val (.int (Int32.ofNat kp)), .val (.ref ob303), .val .null, .unset] at_861 rfl rfl ?_
      refine ok_iload G at_863 rfl ?_
      refine ok_ifneY G 903 at_865 (by decide) (by decide) (by decide) ?_
      refine ok_aload G at_903 rfl rfl ?_
      refine ok_old (fun hO_hp360 => ?_)
      refine ok_static G (argsL := [(.ref ob303)]) (rest := []) (C.w70) (C.w71) (C.w72) (C.w73) (by decide) pd23 (c_named C hO_hp360 S_ob303 HT) rfl rfl rfl at_905 (Nat.le_of_ble_eq_true rfl) (Nat.le_of_ble_eq_true rfl) (Nat.le_of_ble_eq_true rfl) (Nat.le_of_ble_eq_true rfl) (fun _ q => nomatch q) ?_
      rintro _ hp363 K364 ⟨xr362, rfl, EO_xr362, hv_xr362⟩
      replace S_yl161 := S_yl161.keep K364 nin0 nin0
      replace E_ob303 := E_ob303.keep K364
      replace V_ob306 := V_ob306.keep K364 nin0
      replace S_ob303 := S_ob303.keep K364 nin0 nin0
      refine ok_as (mkF m 908 #[.val (.int i0), .val (.int i1), .val (.int i2), .val (.int i3), .val (.int (1 : Int32)), .val (.ref yl161), .val (.int (2 : Int32)), .val (.int chr299), .val (.int chr300), .val (.int (9 : Int32)), .val (.int (10 : Int32)), .val (.int (Int32.ofNat kp)), .val (.ref ob303), .val .null, .unset] [(.ref xr362)]) rfl ?_
      rcases hv_xr362 with ⟨e1, FO_xr362⟩ | ⟨e1, e2, FO_xr362⟩ | ⟨e1, e2, FO_xr362⟩
      · skip
        exact absurd (show (4 : Nat) = 10 from congrArg List.length e1) (by decide)
      · skip
        exact absurd (show (9 : Nat) = 10 from congrArg List.length e2) (by decide)
      · skip
        refine ok_astore G #[.val (.int i0), .val (.int i1), .val (.int i2), .val (.int i3), .val (.int (1 : Int32)), .val (.ref yl161), .val (.int (2 : Int32)), .val (.int chr299), .val (.int chr300), .val (.int (9 : Int32)), .val (.int (10 : Int32)), .val (.int (Int32.ofNat kp)), .val (.ref ob303), .val .null, .val (.ref xr362)] at_908 rfl rfl ?_
        refine ok_aload G at_910 rfl rfl ?_
        refine ok_aconst_null G at_912 ?_
        refine ok_old (fun hO_hp363 => ?_)
        refine ok_virtual G (a := xr362) (y0 := (⟨"java/util/Optional", "orElse", "(Ljava/lang/Object;)Ljava/lang/Object;"⟩ : MethodName)) (y := (⟨"java/util/Optional", "orElse", "(Ljava/lang/Object;)Ljava/lang/Object;"⟩ : MethodName)) (argsL := [.null]) (rest := []) EO_xr362 (C.w107) (C.w108) (C.w110) (fun vm hZ => notFace_of_selects (args := #[]) (mvT (s := s.setVm vm) hZ (C.w110))) (C.w109) (C.w104) (C.w111) (by decide) pd13 (c_orN C hO_hp363 FO_xr362) rfl rfl rfl at_913 (Nat.le_of_ble_eq_true rfl) (Nat.le_of_ble_eq_true rfl) (Nat.le_of_ble_eq_true rfl) (Nat.le_of_ble_eq_true rfl) (fun _ q => nomatch q) ?_
        rintro _ _ _ ⟨rfl, rfl⟩
        refine ok_as (mkF m 916 #[.val (.int i0), .val (.int i1), .val (.int i2), .val (.int i3), .val (.int (1 : Int32)), .val (.ref yl161), .val (.int (2 : Int32)), .val (.int chr299), .val (.int chr300), .val (.int (9 : Int32)), .val (.int (10 : Int32)), .val (.int (Int32.ofNat kp)), .val (.ref ob303), .val .null, .val (.ref xr362)] [.null]) rfl ?_
        refine ok_aload G at_916 rfl rfl ?_
        refine ok_acmp G true 921 at_918 rfl rfl (decide_eq_true rfl) (by decide) (by decide) ?_
        refine ok_iconst G (1 : Int32) at_921 rfl ?_
        refine ok_goto G 926 at_922 (by decide) (by decide) ?_
        exact ok_retN G rfl (by simp) at_926 rfl rfl (Nat.le_of_ble_eq_true rfl) (Nat.le_of_ble_eq_true rfl)
    · skip
      rw [hk4]
      refine ok_istore G #[.val (.int i0), .val (.int i1), .val (.int i2), .val (.int i3), .val (.int (1 : Int32)), .val (.ref yl161), .val (.int (3 : Int32)), .unset, .unset, .unset, .unset, .unset, .unset, .unset, .unset] at_32 rfl ?_
      refine ok_iloadN G at_34 rfl ?_
      refine ok_sipush G (255 : Int32) at_35 rfl ?_
      refine ok_iand G at_38 ?_
      refine ok_i2c G at_39 ?_
      refine ok_nameI ?_
      intro chr367 qchr367
      have lchr367 : Lat chr367 := by rw [qchr367]; exact lat_mask _
      refine ok_istore G #[.val (.int i0), .val (.int i1), .val (.int i2), .val (.int i3), .val (.int (1 : Int32)), .val (.ref yl161), .val (.int (3 : Int32)), .val (.int chr367), .unset, .unset, .unset, .unset, .unset, .unset, .unset] at_40 rfl ?_
      refine ok_iloadN G at_42 rfl ?_
      refine ok_sipush G (255 : Int32) at_43 rfl ?_
      refine ok_iand G at_46 ?_
      refine ok_i2c G at_47 ?_
      refine ok_nameI ?_
      intro chr368 qchr368
      have lchr368 : Lat chr368 := by rw [qchr368]; exact lat_mask _
      refine ok_istore G #[.val (.int i0), .val (.int i1), .val (.int i2), .val (.int i3), .val (.int (1 : Int32)), .val (.ref yl161), .val (.int (3 : Int32)), .val (.int chr367), .val (.int chr368), .unset, .unset, .unset, .unset, .unset, .unset] at_48 rfl ?_
      refine ok_aload G at_50 rfl rfl ?_
      refine ok_old (fun hO_hp159 => ?_)
      refine ok_virtual G (a := yl161) (y0 := (⟨"java/lang/String", "length", "()I"⟩ : MethodName)) (y := (⟨"java/lang/String", "length", "()I"⟩ : MethodName)) (argsL := []) (rest := []) S_yl161.exa (C.w8) (C.w9) (C.w11) (fun vm hZ => notFace_of_selects (args := #[]) (mvT (s := s.setVm vm) hZ (C.w11))) (C.w10) (C.w1) (C.w12) (by decide) pd19 (c_length C hO_hp159 S_yl161) rfl rfl rfl at_52 (Nat.le_of_ble_eq_true rfl) (Nat.le_of_ble_eq_true rfl) (Nat.le_of_ble_eq_true rfl) (Nat.le_of_ble_eq_true rfl) (fun _ q => nomatch q) ?_
      rintro _ _ _ ⟨rfl, rfl⟩
      refine ok_as (mkF m 55 #[.val (.int i0), .val (.int i1), .val (.int i2), .val (.int i3), .val (.int (1 : Int32)), .val (.ref yl161), .val (.int (3 : Int32)), .val (.int chr367), .val (.int chr368), .unset, .unset, .unset, .unset, .unset, .unset] [(.int (9 : Int32))]) rfl ?_
      refine ok_istore G #[.val (.int i0), .val (.int i1), .val (.int i2), .val (.int i3), .val (.int (1 : Int32)), .val (.ref yl161), .val (.int (3 : Int32)), .val (.int chr367), .val (.int chr368), .val (.int (9 : Int32)), .unset, .unset, .unset, .unset, .unset] at_55 rfl ?_
      refine ok_iload G at_57 rfl ?_
      refine ok_ifneY G 67 at_59 (by decide) (by decide) (by decide) ?_
      refine ok_iload G at_67 rfl ?_
      refine ok_iconst G (1 : Int32) at_69 rfl ?_
      refine ok_icmpneY G 80 at_70 (by decide) (by decide) (by decide) ?_
      refine ok_iload G at_80 rfl ?_
      refine ok_iconst G (2 : Int32) at_82 rfl ?_
      refine ok_icmpneY G 93 at_83 (by decide) (by decide) (by decide) ?_
      refine ok_iconst G (1 : Int32) at_93 rfl ?_
      refine ok_istore G #[.val (.int i0), .val (.int i1), .val (.int i2), .val (.int i3), .val (.int (1 : Int32)), .val (.ref yl161), .val (.int (3 : Int32)), .val (.int chr367), .val (.int chr368), .val (.int (9 : Int32)), .val (.int (1 : Int32)), .unset, .unset, .unset, .unset] at_94 rfl ?_
      refine ok_iloadN G at_96 rfl ?_
      refine ok_ldcI G (C.w21) at_97 ?_
      refine ok_iand G at_99 ?_
      refine ok_iload G at_100 rfl ?_
      refine ok_iconst G (1 : Int32) at_102 rfl ?_
      refine ok_iadd G at_103 ?_
      refine ok_sayI (2 : Int32) (by decide) ?_
      refine ok_irem G at_104 (by decide) ?_
      refine ok_nameI ?_
      intro ps qps
      obtain ⟨kp, hkp, hpk⟩ := own_remk (x := (i2 &&& (2147483647 : Int32))) (n := 1) (m := (2 : Int32)) (own_mask _) (by decide) (by decide)
      replace hpk : ps = Int32.ofNat kp := qps.trans hpk
      subst hpk
      refine ok_istore G #[.val (.int i0), .val (.int i1), .val (.int i2), .val (.int i3), .val (.int (1 : Int32)), .val (.ref yl161), .val (.int (3 : Int32)), .val (.int chr367), .val (.int chr368), .val (.int (9 : Int32)), .val (.int (1 : Int32)), .val (.int (Int32.ofNat kp)), .unset, .unset, .unset] at_105 rfl ?_
      refine ok_iload G at_107 rfl ?_
      refine ok_iconst G (3 : Int32) at_109 rfl ?_
      refine ok_icmpneN G at_110 (by decide) ?_
      refine ok_iloadN G at_113 rfl ?_
      refine ok_sipush G (256 : Int32) at_114 rfl ?_
      refine ok_iand G at_117 ?_
      refine ok_ifne G 126 at_118 (by decide) (by decide) (fun cq371 => ?_) (fun cq371 => ?_)
      · skip
        refine ok_iload G at_126 rfl ?_
        refine ok_keep (fun hKp_hp159 => ?_)
        refine ok_static G (argsL := [(.int chr367)]) (rest := []) (C.w131) (C.w132) (C.w1) (C.w133) (by decide) pd24 (c_valueOf C hO_hp159 lchr367) rfl rfl rfl at_128 (Nat.le_of_ble_eq_true rfl) (Nat.le_of_ble_eq_true rfl) (Nat.le_of_ble_eq_true rfl) (Nat.le_of_ble_eq_true rfl) (fun _ q => nomatch q) ?_
        rintro _ hp374 K375 ⟨xr372, tr373, rfl, lbq_xr372, S_xr372⟩
        have lbh_xr372 := lbq_xr372
        have ne_yl161_xr372 : yl161 ≠ xr372 := Nat.ne_of_lt (Nat.lt_of_lt_of_le S_yl161.lt lbh_xr372)
        have ne_tr162_xr372 : tr162 ≠ xr372 := Nat.ne_of_lt (Nat.lt_of_lt_of_le S_yl161.ltT lbh_xr372)
        have lb_xr372 : h0.size ≤ xr372 := Nat.le_trans hKp_hp159.1 lbh_xr372
        have g_xr372 : n0 ≤ xr372 := Nat.le_trans (old_le hO_hp159) lbh_xr372
        replace S_yl161 := S_yl161.keep K375 nin0 nin0
        refine ok_as (mkF m 131 #[.val (.int i0), .val (.int i1), .val (.int i2), .val (.int i3), .val (.int (1 : Int32)), .val (.ref yl161), .val (.int (3 : Int32)), .val (.int chr367), .val (.int chr368), .val (.int (9 : Int32)), .val (.int (1 : Int32)), .val (.int (Int32.ofNat kp)), .unset, .unset, .unset] [(.ref xr372)]) rfl ?_
        refine ok_astore G #[.val (.int i0), .val (.int i1), .val (.int i2), .val (.int i3), .val (.int (1 : Int32)), .val (.ref yl161), .val (.int (3 : Int32)), .val (.int chr367), .val (.int chr368), .val (.int (9 : Int32)), .val (.int (1 : Int32)), .val (.int (Int32.ofNat kp)), .val (.ref xr372), .unset, .unset] at_131 rfl rfl ?_
        refine ok_goto G 860 at_133 (by decide) (by decide) ?_
        refine ok_aconst_null G at_860 ?_
        refine ok_astore G #[.val (.int i0), .val (.int i1), .val (.int i2), .val (.int i3), .val (.int (1 : Int32)), .val (.ref yl161), .val (.int (3 : Int32)), .val (.int chr367), .val (.int chr368), .val (.int (9 : Int32)), .val (.int (1 : Int32)), .val (.int (Int32.ofNat kp)), .val (.ref xr372), .val .null, .unset] at_861 rfl rfl ?_
        refine ok_iload G at_863 rfl ?_
        refine ok_ifneY G 903 at_865 (by decide) (by decide) (by decide) ?_
        refine ok_aload G at_903 rfl rfl ?_
        refine ok_old (fun hO_hp374 => ?_)
        refine ok_static G (argsL := [(.ref xr372)]) (rest := []) (C.w70) (C.w71) (C.w72) (C.w73) (by decide) pd23 (c_named C hO_hp374 S_xr372 HT) rfl rfl rfl at_905 (Nat.le_of_ble_eq_true rfl) (Nat.le_of_ble_eq_true rfl) (Nat.le_of_ble_eq_true rfl) (Nat.le_of_ble_eq_true rfl) (fun _ q => nomatch q) ?_
        rintro _ hp377 K378 ⟨xr376, rfl, EO_xr376, hv_xr376⟩
        replace S_yl161 := S_yl161.keep K378 nin0 nin0
        replace S_xr372 := S_xr372.keep K378 nin0 nin0
        refine ok_as (mkF m 908 #[.val (.int i0), .val (.int i1), .val (.int i2), .val (.int i3), .val (.int (1 : Int32)), .val (.ref yl161), .val (.int (3 : Int32)), .val (.int chr367), .val (.int chr368), .val (.int (9 : Int32)), .val (.int (1 : Int32)), .val (.int (Int32.ofNat kp)), .val (.ref xr372), .val .null, .unset] [(.ref xr376)]) rfl ?_
        rcases hv_xr376 with ⟨e1, FO_xr376⟩ | ⟨e1, e2, FO_xr376⟩ | ⟨e1, e2, FO_xr376⟩
        · skip
          exact absurd (show (4 : Nat) = 1 from congrArg List.length e1) (by decide)
        · skip
          exact absurd (show (9 : Nat) = 1 from congrArg List.length e2) (by decide)
        · skip
          refine ok_astore G #[.val (.int i0), .val (.int i1), .val (.int i2), .val (.int i3), .val (.int (1 : Int32)), .val (.ref yl161), .val (.int (3 : Int32)), .val (.int chr367), .val (.int chr368), .val (.int (9 : Int32)), .val (.int (1 : Int32)), .val (.int (Int32.ofNat kp)), .val (.ref xr372), .val .null, .val (.ref xr376)] at_908 rfl rfl ?_
          refine ok_aload G at_910 rfl rfl ?_
          refine ok_aconst_null G at_912 ?_
          refine ok_old (fun hO_hp377 => ?_)
          refine ok_virtual G (a := xr376) (y0 := (⟨"java/util/Optional", "orElse", "(Ljava/lang/Object;)Ljava/lang/Object;"⟩ : MethodName)) (y := (⟨"java/util/Optional", "orElse", "(Ljava/lang/Object;)Ljava/lang/Object;"⟩ : MethodName)) (argsL := [.null]) (rest := []) EO_xr376 (C.w107) (C.w108) (C.w110) (fun vm hZ => notFace_of_selects (args := #[]) (mvT (s := s.setVm vm) hZ (C.w110))) (C.w109) (C.w104) (C.w111) (by decide) pd13 (c_orN C hO_hp377 FO_xr376) rfl rfl rfl at_913 (Nat.le_of_ble_eq_true rfl) (Nat.le_of_ble_eq_true rfl) (Nat.le_of_ble_eq_true rfl) (Nat.le_of_ble_eq_true rfl) (fun _ q => nomatch q) ?_
          rintro _ _ _ ⟨rfl, rfl⟩
          refine ok_as (mkF m 916 #[.val (.int i0), .val (.int i1), .val (.int i2), .val (.int i3), .val (.int (1 : Int32)), .val (.ref yl161), .val (.int (3 : Int32)), .val (.int chr367), .val (.int chr368), .val (.int (9 : Int32)), .val (.int (1 : Int32)), .val (.int (Int32.ofNat kp)), .val (.ref xr372), .val .null, .val (.ref xr376)] [.null]) rfl ?_
          refine ok_aload G at_916 rfl rfl ?_
          refine ok_acmp G true 921 at_918 rfl rfl (decide_eq_true rfl) (by decide) (by decide) ?_
          refine ok_iconst G (1 : Int32) at_921 rfl ?_
          refine ok_goto G 926 at_922 (by decide) (by decide) ?_
          exact ok_retN G rfl (by simp) at_926 rfl rfl (Nat.le_of_ble_eq_true rfl) (Nat.le_of_ble_eq_true rfl)
      · skip
        refine ok_ldcR G (vs := ([] : List Int32).map lo8) (z := (0 : Int32)) rfl (C.w115) C.strs (List.mem_of_getElem? (i := 2) rfl) ⟨by decide, rfl⟩ (by decide) rfl at_121 0 (by decide) (by decide) (Nat.le_of_ble_eq_true rfl) (Nat.le_of_ble_eq_true rfl) ?_
        intro yl383 hp381 tr384 kb385 K382 E_yl383 FC_yl383 FV_yl383 V_tr384 hne
        replace S_yl161 := S_yl161.keep K382 nin0 nin0
        have S_yl383 : LStr Z hp381 yl383 tr384 [] := ⟨E_yl383, FC_yl383, FV_yl383, ⟨_, V_tr384⟩, (fun _ q => nomatch q), (Nat.le_of_ble_eq_true rfl)⟩
        refine ok_goto G 131 at_123 (by decide) (by decide) ?_
        refine ok_astore G #[.val (.int i0), .val (.int i1), .val (.int i2), .val (.int i3), .val (.int (1 : Int32)), .val (.ref yl161), .val (.int (3 : Int32)), .val (.int chr367), .val (.int chr368), .val (.int (9 : Int32)), .val (.int (1 : Int32)), .val (.int (Int32.ofNat kp)), .val (.ref yl383), .unset, .unset] at_131 rfl rfl ?_
        refine ok_goto G 860 at_133 (by decide) (by decide) ?_
        refine ok_aconst_null G at_860 ?_
        refine ok_astore G #[.val (.int i0), .val (.int i1), .val (.int i2), .val (.int i3), .val (.int (1 : Int32)), .val (.ref yl161), .val (.int (3 : Int32)), .val (.int chr367), .val (.int chr368), .val (.int (9 : Int32)), .val (.int (1 : Int32)), .val (.int (Int32.ofNat kp)), .val (.ref yl383), .val .null, .unset] at_861 rfl rfl ?_
        refine ok_iload G at_863 rfl ?_
        refine ok_ifneY G 903 at_865 (by decide) (by decide) (by decide) ?_
        refine ok_aload G at_903 rfl rfl ?_
        refine ok_old (fun hO_hp381 => ?_)
        refine ok_static G (argsL := [(.ref yl383)]) (rest := []) (C.w70) (C.w71) (C.w72) (C.w73) (by decide) pd23 (c_named C hO_hp381 S_yl383 HT) rfl rfl rfl at_905 (Nat.le_of_ble_eq_true rfl) (Nat.le_of_ble_eq_true rfl) (Nat.le_of_ble_eq_true rfl) (Nat.le_of_ble_eq_true rfl) (fun _ q => nomatch q) ?_
        rintro _ hp387 K388 ⟨xr386, rfl, EO_xr386, hv_xr386⟩
        replace S_yl161 := S_yl161.keep K388 nin0 nin0
        replace S_yl383 := S_yl383.keep K388 nin0 nin0
        refine ok_as (mkF m 908 #[.val (.int i0), .val (.int i1), .val (.int i2), .val (.int i3), .val (.int (1 : Int32)), .val (.ref yl161), .val (.int (3 : Int32)), .val (.int chr367), .val (.int chr368), .val (.int (9 : Int32)), .val (.int (1 : Int32)), .val (.int (Int32.ofNat kp)), .val (.ref yl383), .val .null, .unset] [(.ref xr386)]) rfl ?_
        rcases hv_xr386 with ⟨e1, FO_xr386⟩ | ⟨e1, e2, FO_xr386⟩ | ⟨e1, e2, FO_xr386⟩
        · skip
          exact absurd (show (4 : Nat) = 0 from congrArg List.length e1) (by decide)
        · skip
          exact absurd (show (9 : Nat) = 0 from congrArg List.length e2) (by decide)
        · skip
          refine ok_astore G #[.val (.int i0), .val (.int i1), .val (.int i2), .val (.int i3), .val (.int (1 : Int32)), .val (.ref yl161), .val (.int (3 : Int32)), .val (.int chr367), .val (.int chr368), .val (.int (9 : Int32)), .val (.int (1 : Int32)), .val (.int (Int32.ofNat kp)), .val (.ref yl383), .val .null, .val (.ref xr386)] at_908 rfl rfl ?_
          refine ok_aload G at_910 rfl rfl ?_
          refine ok_aconst_null G at_912 ?_
          refine ok_old (fun hO_hp387 => ?_)
          refine ok_virtual G (a := xr386) (y0 := (⟨"java/util/Optional", "orElse", "(Ljava/lang/Object;)Ljava/lang/Object;"⟩ : MethodName)) (y := (⟨"java/util/Optional", "orElse", "(Ljava/lang/Object;)Ljava/lang/Object;"⟩ : MethodName)) (argsL := [.null]) (rest := []) EO_xr386 (C.w107) (C.w108) (C.w110) (fun vm hZ => notFace_of_selects (args := #[]) (mvT (s := s.setVm vm) hZ (C.w110))) (C.w109) (C.w104) (C.w111) (by decide) pd13 (c_orN C hO_hp387 FO_xr386) rfl rfl rfl at_913 (Nat.le_of_ble_eq_true rfl) (Nat.le_of_ble_eq_true rfl) (Nat.le_of_ble_eq_true rfl) (Nat.le_of_ble_eq_true rfl) (fun _ q => nomatch q) ?_
          rintro _ _ _ ⟨rfl, rfl⟩
          refine ok_as (mkF m 916 #[.val (.int i0), .val (.int i1), .val (.int i2), .val (.int i3), .val (.int (1 : Int32)), .val (.ref yl161), .val (.int (3 : Int32)), .val (.int chr367), .val (.int chr368), .val (.int (9 : Int32)), .val (.int (1 : Int32)), .val (.int (Int32.ofNat kp)), .val (.ref yl383), .val .null, .val (.ref xr386)] [.null]) rfl ?_
          refine ok_aload G at_916 rfl rfl ?_
          refine ok_acmp G true 921 at_918 rfl rfl (decide_eq_true rfl) (by decide) (by decide) ?_
          refine ok_iconst G (1 : Int32) at_921 rfl ?_
          refine ok_goto G 926 at_922 (by decide) (by decide) ?_
          exact ok_retN G rfl (by simp) at_926 rfl rfl (Nat.le_of_ble_eq_true rfl) (Nat.le_of_ble_eq_true rfl)
theorem own_ord {args : Array Value} {s : State} {t : Term} {x : Addr} {k : Int32} {C n d : String} (ht : t.eval args s none [] s = some (.ref x)) (h : (Jvm.Cond.eq (Term.field t C n d) (Term.int k)).value args s none s [] = some true) : s.fieldOf? x C n d = some (.int k) := by
  rw [← fld_at (first := s) (o := none) (idx := []) (args := args) ht]
  have e2 : (Term.int k).eval args s none [] s = some (.int k) := rfl
  cases he : (Term.field t C n d).eval args s none [] s with
  | none => simp [Cond.value, he] at h
  | some v => cases v <;> simp [Cond.value, he, e2] at h ⊢ <;> first | exact h | (cases h)
theorem own_compact {args : Array Value} {s : State} (hsets : ∀ w ∈ jdkStatics_1, w.before args s = true) : ∃ cz : Int32, Sta s s.heap "java/lang/String" "COMPACT_STRINGS" "Z" (.int cz) ∧ ¬ cz = 0 := by
  have h0 := hsets _ (List.mem_of_getElem? (i := 0) rfl)
  obtain ⟨cz, ez⟩ := is_v (Cond.before_iff.mp (hsets _ (List.mem_of_getElem? (i := 1) rfl)))
  have h2 := not_v (Cond.before_iff.mp (hsets _ (List.mem_of_getElem? (i := 2) rfl)))
  refine ⟨cz, Sta.start ez (Or.inl h0), fun q => ?_⟩
  subst q
  have e2 : (Term.int 0).eval args s none [] s = some (.int 0) := rfl
  simp [Cond.value, ez, e2] at h2
theorem own_eqv {args : Array Value} {s : State} {t u : Term} {v : Value} (ev : u.eval args s none [] s = some v) (h : (Jvm.Cond.eq t u).value args s none s [] = some true) (hv : (∃ k, v = .int k) ∨ ∃ b, v = .ref b) : t.eval args s none [] s = some v := by
  cases he : t.eval args s none [] s with
  | none => simp [Cond.value, he] at h
  | some w =>
    rcases hv with ⟨k, rfl⟩ | ⟨b, rfl⟩ <;> cases w <;> simp [Cond.value, he, ev] at h ⊢ <;> first | exact h | (cases h)
theorem own_lenI {args : Array Value} {s : State} {t : Term} {a : Addr} {c : Cell} {ty : FieldType} {k : Int32} (ev : t.eval args s none [] s = some (.ref a)) (A : Arr s s.heap a c ty) (h : (Jvm.Cond.eq (Term.length t) (Term.int k)).value args s none s [] = some true) : c.slots.size < 2 ^ 31 ∧ c.slots.size.toInt32 = k := by
  have he := own_eqv (u := Term.int k) rfl h (Or.inl ⟨k, rfl⟩)
  have hf := Arr.fin (U := s) (Vm.Alike.refl _) A
  simp only [Term.eval, ev, hf, Option.bind_eq_bind, Option.bind_some] at he
  split at he
  · next q => exact ⟨q, Value.int.inj (Option.some.inj he)⟩
  · cases he
theorem own_elemV {args : Array Value} {s : State} {t : Term} {a : Addr} {c : Cell} {ty : FieldType} {j : Int32} {v : Value} (ev : t.eval args s none [] s = some (.ref a)) (A : Arr s s.heap a c ty) (h : (Term.elem t (Term.int j)).eval args s none [] s = some v) : c.slots[j.toNatClampNeg]? = some v := by
  obtain ⟨b, j', cell, hb, hj, hc, -, hs⟩ := Term.elem_spec h
  rw [ev] at hb
  cases hb
  cases hj
  have hf := Arr.fin (U := s) (Vm.Alike.refl _) A
  cases hf.symm.trans hc
  exact hs
theorem own_sio {args : Array Value} {s : State} (hsets : ∀ w ∈ jdkStatics_1, w.before args s = true) : ∃ fm : Value, Sta s s.heap "jdk/internal/util/Preconditions" "SIOOBE_FORMATTER" "Ljava/util/function/BiFunction;" fm ∧ (fm = .null ∨ ∃ fa, fm = .ref fa) := by
  obtain ⟨fm, e1, e2⟩ := isR_v (Cond.before_iff.mp (hsets _ (List.mem_of_getElem? (i := 8) rfl)))
  exact ⟨fm, Sta.start e1 (Or.inl (hsets _ (List.mem_of_getElem? (i := 7) rfl))), ref_cases e2⟩
set_option maxRecDepth 65536 in
set_option maxHeartbeats 40000000 in
theorem comes_1 {Post : Tables → Env → Array Value → State → Outcome → State → Prop} (hpost : ∀ tb e args s v u, (limb_1_1.after args s (.returned v) u = true ∧ limb_1_2.after args s (.returned v) u = true ∧ True) → Jvm.D.FramedW s (.returned v) u (Jvm.fieldLocs frame_1_writes args s ++ Jvm.arrayLocs frame_1_arrays args s ++ Jvm.staticLocs frame_1_statics s) 24 3200 → Post tb e args s (.returned v) u) :
    ArmFor flags0 classFile x code maxLocals ret World_1 tables_1 room_1 Calls_1 rest_1 Pre_1 Post := by
  intro l hfl _ _ p e ha hc hk s m args below hf hA hF happ hP
  obtain ⟨hcalls, hrest, hpre⟩ := hP
  obtain ⟨-, -, -, hnamed, -, -, -, hat⟩ := (Spec.applies_iff hf).mp happ
  obtain ⟨hg, hn⟩ := and_e (Cond.before_iff.mp (show (Jvm.Cond.and given_1 narrow_1).before args s = true from hpre))
  obtain ⟨gv1, gv2⟩ := and_e hg
  obtain ⟨gv3, gv4⟩ := and_e gv2
  obtain ⟨gv5, gv6⟩ := and_e gv4
  obtain ⟨gv7, gv8⟩ := and_e gv6
  obtain ⟨w0, w1, w2, w3, rfl⟩ : ∃ w0 w1 w2 w3 : Value, args = #[w0, w1, w2, w3] := by
    have hs : args.size = 4 := by simpa [Cond.value, given_1] using gv1
    obtain ⟨L⟩ := args
    match L, hs with
    | [w0, w1, w2, w3], _ => exact ⟨w0, w1, w2, w3, rfl⟩
  have hw := fun d (hd : d ∈ tables_1) => atoms_spec (ws := Jvm.Cond.code x code maxLocals ret :: tables_1) hat d (List.mem_cons_of_mem _ hd)
  obtain ⟨hsets, hown0⟩ := atoms_of _ (rest_1_c_eq ▸ (show rest_1_c.before _ s = true from hrest))
  obtain ⟨i0, ei0⟩ := is_v gv3
  obtain rfl : w0 = (.int i0) := Option.some.inj ei0
  obtain ⟨i1, ei1⟩ := is_v gv5
  obtain rfl : w1 = (.int i1) := Option.some.inj ei1
  obtain ⟨i2, ei2⟩ := is_v gv7
  obtain rfl : w2 = (.int i2) := Option.some.inj ei2
  obtain ⟨i3, ei3⟩ := is_v gv8
  obtain rfl : w3 = (.int i3) := Option.some.inj ei3
  have O := Old.start s
  have hcz := own_compact hsets
  have hsio := own_sio hsets
  have hfit : Fit s := fun {y c} hc i hi => by
    obtain ⟨ha, rfl⟩ := Array.getElem?_eq_some_iff.mp hc
    have q := List.all_eq_true.mp ((Array.all_eq_true_iff_forall_mem.mp hF) _ (Array.getElem_mem ha)) i (List.mem_range.mpr hi)
    simpa [Array.getElem?_eq_getElem hi] using q
  obtain ⟨nn0, hn⟩ := and_e hn
  obtain ⟨nn1, hn⟩ := and_e hn
  obtain ⟨nn2, hn⟩ := and_e hn
  obtain ⟨nn3, hn⟩ := and_e hn
  obtain ⟨nn4, hn⟩ := and_e hn
  obtain ⟨nn5, hn⟩ := and_e hn
  obtain ⟨nn6, hn⟩ := and_e hn
  obtain ⟨nn7, hn⟩ := and_e hn
  obtain ⟨nn8, hn⟩ := and_e hn
  obtain ⟨nn9, hn⟩ := and_e hn
  obtain ⟨nn10, hn⟩ := and_e hn
  obtain ⟨nn11, hn⟩ := and_e hn
  obtain ⟨nn12, hn⟩ := and_e hn
  obtain ⟨nn13, hn⟩ := and_e hn
  obtain ⟨nn14, hn⟩ := and_e hn
  obtain ⟨nn15, hn⟩ := and_e hn
  obtain ⟨nn16, hn⟩ := and_e hn
  obtain ⟨nn17, hn⟩ := and_e hn
  obtain ⟨nn18, hn⟩ := and_e hn
  obtain ⟨nn19, hn⟩ := and_e hn
  obtain ⟨nn20, hn⟩ := and_e hn
  obtain ⟨nn21, hn⟩ := and_e hn
  obtain ⟨nn22, hn⟩ := and_e hn
  obtain ⟨nn23, hn⟩ := and_e hn
  obtain ⟨nn24, hn⟩ := and_e hn
  obtain ⟨nn25, hn⟩ := and_e hn
  obtain ⟨nn26, nn27⟩ := and_e hn
  obtain ⟨va, eva⟩ := arr_v nn0
  obtain ⟨cv, AV⟩ := Arr.start eva nn0
  obtain ⟨lv1, lv2⟩ := own_lenI eva AV nn2
  obtain ⟨ja, eja⟩ := exa_v nn3
  obtain ⟨re, ere⟩ := exa_v nn5
  have el0 := own_elemV eva AV (own_eqv eja nn4 (Or.inr ⟨_, rfl⟩))
  have el1 := own_elemV eva AV (own_eqv ere nn6 (Or.inr ⟨_, rfl⟩))
  have VA0 : Arv s s.heap va cv.cls _ (2 : Int32) [.ref ja, .ref re] .null := Arv.start hfit AV lv1 lv2 (by decide) rfl ⟨el0, el1, trivial⟩
  obtain ⟨jw, ejw⟩ := exa_v nn7
  have fjw := ejw
  rw [fld_at (first := s) (o := none) (idx := []) (args := #[(.int i0), (.int i1), (.int i2), (.int i3)]) eja] at fjw
  obtain ⟨jt, ejt⟩ := arr_v nn9
  have fjt := ejt
  rw [fld_at (first := s) (o := none) (idx := []) (args := #[(.int i0), (.int i1), (.int i2), (.int i3)]) ejw] at fjt
  obtain ⟨cjt, Ajt⟩ := Arr.start ejt nn9
  obtain ⟨ljt, mjt⟩ := own_lenI ejt Ajt nn10
  have gjt0 := own_elemV ejt Ajt (own_eqv rfl nn11 (Or.inl ⟨_, rfl⟩))
  have gjt1 := own_elemV ejt Ajt (own_eqv rfl nn12 (Or.inl ⟨_, rfl⟩))
  have gjt2 := own_elemV ejt Ajt (own_eqv rfl nn13 (Or.inl ⟨_, rfl⟩))
  have gjt3 := own_elemV ejt Ajt (own_eqv rfl nn18 (Or.inl ⟨_, rfl⟩))
  have Sjw : LStr s s.heap jw jt [(106 : Int32), (97 : Int32), (118 : Int32), (97 : Int32)] := ⟨Exa.start ejw nn7, Fld.start (own_ord ejw nn8), Fld.start fjt, ⟨_, Arv.start (dv := .int 0) hfit Ajt ljt mjt (by decide) rfl ⟨gjt0, gjt1, gjt2, gjt3, trivial⟩⟩, (allL ⟨by decide, by decide⟩ (allL ⟨by decide, by decide⟩ (allL ⟨by decide, by decide⟩ (allL ⟨by decide, by decide⟩ (fun _ q => nomatch q))))), Nat.le_of_ble_eq_true rfl⟩
  obtain ⟨rw, erw⟩ := exa_v nn14
  have frw := erw
  rw [fld_at (first := s) (o := none) (idx := []) (args := #[(.int i0), (.int i1), (.int i2), (.int i3)]) ere] at frw
  obtain ⟨rt, ert⟩ := arr_v nn16
  have frt := ert
  rw [fld_at (first := s) (o := none) (idx := []) (args := #[(.int i0), (.int i1), (.int i2), (.int i3)]) erw] at frt
  obtain ⟨crt, Art⟩ := Arr.start ert nn16
  obtain ⟨lrt, mrt⟩ := own_lenI ert Art nn17
  have grt0 := own_elemV ert Art (own_eqv rfl nn19 (Or.inl ⟨_, rfl⟩))
  have grt1 := own_elemV ert Art (own_eqv rfl nn20 (Or.inl ⟨_, rfl⟩))
  have grt2 := own_elemV ert Art (own_eqv rfl nn21 (Or.inl ⟨_, rfl⟩))
  have grt3 := own_elemV ert Art (own_eqv rfl nn22 (Or.inl ⟨_, rfl⟩))
  have grt4 := own_elemV ert Art (own_eqv rfl nn23 (Or.inl ⟨_, rfl⟩))
  have grt5 := own_elemV ert Art (own_eqv rfl nn24 (Or.inl ⟨_, rfl⟩))
  have grt6 := own_elemV ert Art (own_eqv rfl nn25 (Or.inl ⟨_, rfl⟩))
  have grt7 := own_elemV ert Art (own_eqv rfl nn26 (Or.inl ⟨_, rfl⟩))
  have grt8 := own_elemV ert Art (own_eqv rfl nn27 (Or.inl ⟨_, rfl⟩))
  have Srw : LStr s s.heap rw rt [(114 : Int32), (101 : Int32), (115 : Int32), (111 : Int32), (117 : Int32), (114 : Int32), (99 : Int32), (101 : Int32), (115 : Int32)] := ⟨Exa.start erw nn14, Fld.start (own_ord erw nn15), Fld.start frt, ⟨_, Arv.start (dv := .int 0) hfit Art lrt mrt (by decide) rfl ⟨grt0, grt1, grt2, grt3, grt4, grt5, grt6, grt7, grt8, trivial⟩⟩, (allL ⟨by decide, by decide⟩ (allL ⟨by decide, by decide⟩ (allL ⟨by decide, by decide⟩ (allL ⟨by decide, by decide⟩ (allL ⟨by decide, by decide⟩ (allL ⟨by decide, by decide⟩ (allL ⟨by decide, by decide⟩ (allL ⟨by decide, by decide⟩ (allL ⟨by decide, by decide⟩ (fun _ q => nomatch q)))))))))), Nat.le_of_ble_eq_true rfl⟩
  have hxo := Cond.before_iff.mp (hsets _ (List.mem_of_getElem? (i := 11) rfl))
  obtain ⟨oe, eoe⟩ := exa_v hxo
  have fov := null_v (Cond.before_iff.mp (hsets _ (List.mem_of_getElem? (i := 12) rfl)))
  rw [fld_at (first := s) (o := none) (idx := []) (args := #[(.int i0), (.int i1), (.int i2), (.int i3)]) eoe] at fov
  have HT : Typ s va ja re jw jt rw rt oe := ⟨⟨Sta.start eva (Or.inr ⟨(hw _ (List.mem_of_getElem? (i := 72) rfl)), (hw _ (List.mem_of_getElem? (i := 78) rfl))⟩), Sta.start eja (Or.inr ⟨(hw _ (List.mem_of_getElem? (i := 72) rfl)), (hw _ (List.mem_of_getElem? (i := 86) rfl))⟩), Sta.start ere (Or.inr ⟨(hw _ (List.mem_of_getElem? (i := 72) rfl)), (hw _ (List.mem_of_getElem? (i := 87) rfl))⟩), Sta.start eoe (Or.inl (hsets _ (List.mem_of_getElem? (i := 10) rfl)))⟩, ⟨_, VA0⟩, Exa.start eva nn1, Exa.start eja nn3, Exa.start ere nn5, Fld.start fjw, Fld.start frw, Sjw, Srw, Exa.start eoe hxo, Fld.start fov⟩
  have hE : EW s #[(.int i0), (.int i1), (.int i2), (.int i3)] consts_1 := (EW.cons (hw _ (List.mem_of_getElem? (i := 114) rfl)) (by decide) (EW.cons (hw _ (List.mem_of_getElem? (i := 0) rfl)) (by decide) (EW.cons (hw _ (List.mem_of_getElem? (i := 115) rfl)) (by decide) EW.nil)))
  have hCH : CHv s consts_1 s.vm s.heap := CHv.start hE hcalls.1 (hsets _ (List.mem_of_getElem? (i := 2) rfl)) (hw _ (List.mem_of_getElem? (i := 3) rfl)) (hw _ (List.mem_of_getElem? (i := 2) rfl))
  obtain ⟨n, o, h1, h2, h3, _, L, rfl, ⟨N, -, -, rfl⟩, hq⟩ := c_law (n0 := s.heap.size) ⟨hw, hcz, hsio⟩ O hE HT tables_1 p e ha hc hk s m _ below hf ((Spec.applies_iff_loose hf).mp happ).1 ⟨rfl, State.Warmed39.refl s, rfl, fun _ => hCH⟩ trivial
  refine ⟨n, _, h1, h2, h3, hpost _ _ _ _ _ _ ⟨Cond.after_iff.mpr rfl, Cond.after_iff.mpr (eq_i res_at (Term.int_eval (1)) rfl), trivial⟩ ⟨hq.2.1, hq.2.2.1, hq.2.2.2.1, (hq.2.2.2.2.sift fun y hy => Or.inr (N y hy)).mono (Nat.le_of_ble_eq_true rfl) (Nat.le_of_ble_eq_true rfl)⟩⟩
theorem main_1_1 : Claimed_1_1 := comes_1 fun _ _ _ _ _ _ h hF => ⟨h.1, hF⟩
theorem main_1_2 : Claimed_1_2 := comes_1 fun _ _ _ _ _ _ h hF => ⟨h.2.1, hF⟩
end Jvm.Pilot.@@N@@
namespace Jvm.Pilot.@@N@@
open Jvm Jvm.ClassFile Sem Op Lib Jvm.Free Jvm.Stand Jvm.Pilot.@@N@@.Jvm.D
/-! MADE BY PROGRAM (witnessworld.py) out of the Statement's table words and the real class files: 24 classes; the members and pool entries that the words name. The judged class is class 1, her method 2. -/
namespace start1
open Jvm.ClassFile
def u (s : String) : CpInfo := .utf8 (stringToUtf16 s)
/-- a pool by its gaps: so many unusable entries, then the entry; so many at the end -/
def gap : Nat → List CpInfo → List CpInfo
  | 0, r => r
  | n + 1, r => .unusable :: gap n r
def poolList (es : List (Nat × CpInfo)) (last : Nat) : List CpInfo := es.foldr (fun e r => gap e.1 (e.2 :: r)) (gap last [])
def pool (es : List (Nat × CpInfo)) (last : Nat) : Array CpInfo := ⟨poolList es last⟩
def fileOf (pool : Array CpInfo) (this : Nat) (attrs : Array Attribute := #[]) (ms : Array MethodInfo := #[]) (fl : Nat := 33) (sup : Nat := 0) (ifs : Array Nat := #[]) (fds : Array FieldInfo := #[]) : ClassFile where
  minorVersion := 0
  majorVersion := 65
  constantPool := pool
  accessFlags := fl
  thisClass := this
  superClass := sup
  interfaces := ifs
  fields := fds
  methods := ms
  attributes := attrs
def plain (name : String) (sup : Option ClassId) : Class where
  name := name
  kind := .ordinary
  loader := none
  accessFlags := 33
  super := sup
  interfaces := #[]
  cf := none
  fields := #[]
  methods := #[]
  instanceTypes := #[]
  staticTypes := #[]
  resolved := #[]
  callSites := []
  init := .initialized
  statics := none
  mirror := none

def pool0 : Array CpInfo := pool [(5, u "<init>"), (0, u "()V"), (1, .class_ 10), (1, u "java/lang/Object"), (85, u "clone"), (0, u "()Ljava/lang/Object;")] 26

def k0c0 : Code := { maxStack := 0, maxLocals := 1, code := object_method_1_code, exceptionTable := #[], attributes := #[] }
def k0m0 : Method := { name := "<init>", desc := "()V", sig := { parameters := [], returnType := none }, accessFlags := 1, code := some k0c0 }
def k0m1 : Method := { name := "clone", desc := "()Ljava/lang/Object;", sig := { parameters := [], returnType := some (.object "java/lang/Object") }, accessFlags := 260, code := none }
/-- java/lang/Object -/
def k0 : Class := { plain "java/lang/Object" none with
  accessFlags := 33
  interfaces := #[]
  cf := some (fileOf pool0 8 #[] #[{ accessFlags := 1, nameIndex := 5, descriptorIndex := 6, attributes := #[] }, { accessFlags := 260, nameIndex := 96, descriptorIndex := 97, attributes := #[] }] 33 0 #[] #[])
  fields := #[]
  methods := #[k0m0, k0m1]
  instanceTypes := #[]
  staticTypes := #[]
  resolved := Array.replicate 124 none
  statics := none }

def pool1 : Array CpInfo := pool [(2, .class_ 4), (1, u "java/lang/Object"), (0, u "<init>"), (0, u "()V"), (0, .methodref 8 9), (0, .class_ 10), (0, .nameAndType 11 12), (0, u "java/lang/String"), (0, u "length"), (0, u "()I"), (0, .methodref 8 14), (0, .nameAndType 15 16), (0, u "charAt"), (0, u "(I)C"), (0, .string 18), (0, u "resources"), (0, .string 20), (0, u "java"), (0, .integer 2147483647), (0, .string 23), (0, u ""), (0, .methodref 8 25), (0, .nameAndType 26 27), (0, u "valueOf"), (0, u "(C)Ljava/lang/String;"), (0, .methodref 29 30), (0, .class_ 31), (0, .nameAndType 32 33), (0, u "com/example/tenon/tenon/model/TypeNamedPinLaw"), (0, u "pick"), (0, u "(Ljava/lang/String;IICC)C"), (0, .methodref 8 35), (0, .nameAndType 5 36), (0, u "([C)V"), (0, .fieldref 38 39), (0, .class_ 40), (0, .nameAndType 41 42), (0, u "com/example/tenon/tenon/model/SourceSet$Type"), (0, u "RESOURCES"), (0, u "Lcom/example/tenon/tenon/model/SourceSet$Type;"), (0, .fieldref 38 44), (0, .nameAndType 45 42), (0, u "JAVA"), (0, .methodref 38 47), (0, .nameAndType 48 49), (0, u "named"), (0, u "(Ljava/lang/String;)Ljava/util/Optional;"), (0, .methodref 51 52), (0, .class_ 53), (0, .nameAndType 54 55), (0, u "java/util/Optional"), (0, u "orElse"), (0, u "(Ljava/lang/Object;)Ljava/lang/Object;"), (3, u "law"), (0, u "(IIII)Z")] 6

def k1m0 : Method := { name := "<init>", desc := "()V", sig := { parameters := [], returnType := none }, accessFlags := 1, code := none }
def k1c1 : Code := { maxStack := 2, maxLocals := 5, code := method_2_code, exceptionTable := #[], attributes := #[] }
def k1m1 : Method := { name := "pick", desc := "(Ljava/lang/String;IICC)C", sig := { parameters := [(.object "java/lang/String"), .int, .int, .char, .char], returnType := some .char }, accessFlags := 10, code := some k1c1 }
def k1c2 : Code := { maxStack := 10, maxLocals := 15, code := code, exceptionTable := #[], attributes := #[] }
def k1m2 : Method := { name := "law", desc := "(IIII)Z", sig := { parameters := [.int, .int, .int, .int], returnType := some .boolean }, accessFlags := 9, code := some k1c2 }
/-- com/example/tenon/tenon/model/TypeNamedPinLaw -/
def k1 : Class := { plain "com/example/tenon/tenon/model/TypeNamedPinLaw" (some 0) with
  accessFlags := 49
  interfaces := #[]
  cf := some (fileOf pool1 29 #[] #[{ accessFlags := 1, nameIndex := 5, descriptorIndex := 6, attributes := #[] }, { accessFlags := 10, nameIndex := 32, descriptorIndex := 33, attributes := #[] }, { accessFlags := 9, nameIndex := 59, descriptorIndex := 60, attributes := #[] }] 49 2 #[] #[])
  fields := #[]
  methods := #[k1m0, k1m1, k1m2]
  instanceTypes := #[]
  staticTypes := #[]
  resolved := Array.replicate 67 none
  statics := none }

def pool2 : Array CpInfo := pool [(1, .class_ 2), (0, u "java/io/Serializable"), (0, .class_ 4), (0, u "java/lang/Object")] 2

/-- java/io/Serializable -/
def k2 : Class := { plain "java/io/Serializable" (some 0) with
  accessFlags := 1537
  interfaces := #[]
  cf := some (fileOf pool2 1 #[] #[] 1537 3 #[] #[])
  fields := #[]
  methods := #[]
  instanceTypes := #[]
  staticTypes := #[]
  resolved := Array.replicate 7 none
  statics := none }

def pool3 : Array CpInfo := pool [(1, .class_ 2), (0, u "java/lang/Comparable"), (0, .class_ 4), (0, u "java/lang/Object")] 7

/-- java/lang/Comparable -/
def k3 : Class := { plain "java/lang/Comparable" (some 0) with
  accessFlags := 1537
  interfaces := #[]
  cf := some (fileOf pool3 1 #[] #[] 1537 3 #[] #[])
  fields := #[]
  methods := #[]
  instanceTypes := #[]
  staticTypes := #[]
  resolved := Array.replicate 12 none
  statics := none }

def pool4 : Array CpInfo := pool [(2, .class_ 4), (1, u "java/lang/CharSequence"), (42, .class_ 48), (0, u "java/lang/CharSequence$1CodePointIterator"), (10, .class_ 60), (0, u "java/lang/CharSequence$1CharIterator"), (5, .class_ 67), (0, u "java/lang/Object")] 63

/-- java/lang/CharSequence -/
def k4 : Class := { plain "java/lang/CharSequence" (some 0) with
  accessFlags := 1537
  interfaces := #[]
  cf := some (fileOf pool4 2 #[.nestMembers #[47, 59]] #[] 1537 66 #[] #[])
  fields := #[]
  methods := #[]
  instanceTypes := #[]
  staticTypes := #[]
  resolved := Array.replicate 131 none
  statics := none }

def pool5 : Array CpInfo := pool [(1, .class_ 2), (0, u "java/lang/constant/Constable"), (0, .class_ 4), (0, u "java/lang/Object")] 6

/-- java/lang/constant/Constable -/
def k5 : Class := { plain "java/lang/constant/Constable" (some 0) with
  accessFlags := 1537
  interfaces := #[]
  cf := some (fileOf pool5 1 #[] #[] 1537 3 #[] #[])
  fields := #[]
  methods := #[]
  instanceTypes := #[]
  staticTypes := #[]
  resolved := Array.replicate 11 none
  statics := none }

def pool6 : Array CpInfo := pool [(1, .class_ 2), (0, u "java/lang/constant/ConstantDesc"), (0, .class_ 4), (0, u "java/lang/Object")] 32

/-- java/lang/constant/ConstantDesc -/
def k6 : Class := { plain "java/lang/constant/ConstantDesc" (some 0) with
  accessFlags := 1537
  interfaces := #[]
  cf := some (fileOf pool6 1 #[] #[] 1537 3 #[] #[])
  fields := #[]
  methods := #[]
  instanceTypes := #[]
  staticTypes := #[]
  resolved := Array.replicate 37 none
  statics := none }

def pool7 : Array CpInfo := pool [(1, .methodref 2 3), (0, .class_ 4), (0, .nameAndType 5 6), (0, u "java/lang/Object"), (0, u "<init>"), (0, u "()V"), (2, .fieldref 10 11), (0, .class_ 12), (0, .nameAndType 13 14), (0, u "java/lang/String"), (0, u "value"), (0, u "[B"), (0, .fieldref 10 16), (0, .nameAndType 17 18), (0, u "coder"), (0, u "B"), (2, u "hash"), (0, u "I"), (2, u "hashIsZero"), (0, u "Z"), (0, .methodref 10 28), (0, .nameAndType 5 29), (0, u "([CIILjava/lang/Void;)V"), (8, .fieldref 10 39), (0, .nameAndType 40 26), (0, u "COMPACT_STRINGS"), (1, .class_ 44), (1, u "java/lang/StringUTF16"), (0, u "compress"), (1, .methodref 42 48), (0, .nameAndType 49 50), (0, u "coderFromArrayLen"), (0, u "([BI)B"), (2, u "toBytes"), (53, .class_ 109), (1, u "java/lang/StringLatin1"), (32, u "()Z"), (34, .methodref 42 178), (0, .nameAndType 45 179), (0, u "([CII)[B"), (29, .methodref 10 210), (0, .nameAndType 5 211), (0, u "([BB)V"), (122, u "()I"), (0, .methodref 10 336), (0, .nameAndType 17 337), (0, u "()B"), (25, u "([BI)C"), (5, u "(C)Z"), (21, u "(II)V"), (35, u "(I)C"), (64, .methodref 10 493), (0, .nameAndType 494 142), (0, u "isLatin1"), (0, .methodref 107 496), (0, .nameAndType 497 363), (0, u "charAt"), (3, u "checkIndex"), (5, u "length"), (33, .methodref 107 542), (0, .nameAndType 543 544), (0, u "equals"), (0, u "([B[B)Z"), (28, u "(Ljava/lang/Object;)Z"), (1, .class_ 576), (0, u "java/lang/CharSequence"), (22, u "CASE_INSENSITIVE_ORDER"), (0, u "Ljava/util/Comparator;"), (181, u "valueOf"), (0, u "(C)Ljava/lang/String;"), (226, u "([C)V"), (4, .methodref 107 1016), (0, .nameAndType 1017 369), (0, u "canEncode"), (0, .methodref 107 1019), (0, .nameAndType 53 1020), (0, u "(C)[B"), (32, .fieldref 1054 1055), (0, .class_ 1056), (0, .nameAndType 1057 1058), (0, u "jdk/internal/util/Preconditions"), (0, u "SIOOBE_FORMATTER"), (0, u "Ljava/util/function/BiFunction;"), (0, .methodref 1054 1060), (0, .nameAndType 501 1061), (0, u "(IILjava/util/function/BiFunction;)I"), (39, u "serialPersistentFields"), (0, u "[Ljava/io/ObjectStreamField;"), (0, .class_ 1104), (0, u "java/lang/String$CaseInsensitiveComparator"), (1, .class_ 1107), (0, u "java/io/Serializable"), (0, .class_ 1109), (0, u "java/lang/Comparable"), (0, .class_ 1111), (0, u "java/lang/constant/Constable"), (0, .class_ 1113), (0, u "java/lang/constant/ConstantDesc"), (2, u "serialVersionUID"), (0, u "J"), (3, u "REPL"), (0, u "C"), (2, u "LATIN1"), (1, u "UTF16")] 323

def k7m0 : Method := { name := "<init>", desc := "()V", sig := { parameters := [], returnType := none }, accessFlags := 1, code := none }
def k7c1 : Code := { maxStack := 5, maxLocals := 2, code := jdk_42_method_3_code, exceptionTable := #[], attributes := #[] }
def k7m1 : Method := { name := "<init>", desc := "([C)V", sig := { parameters := [(.array .char)], returnType := none }, accessFlags := 1, code := some k7c1 }
def k7c2 : Code := { maxStack := 2, maxLocals := 1, code := jdk_42_method_54_code, exceptionTable := #[], attributes := #[] }
def k7m2 : Method := { name := "length", desc := "()I", sig := { parameters := [], returnType := some .int }, accessFlags := 1, code := some k7c2 }
def k7c3 : Code := { maxStack := 2, maxLocals := 2, code := jdk_42_method_56_code, exceptionTable := #[], attributes := #[] }
def k7m3 : Method := { name := "charAt", desc := "(I)C", sig := { parameters := [.int], returnType := some .char }, accessFlags := 1, code := some k7c3 }
def k7c4 : Code := { maxStack := 2, maxLocals := 3, code := jdk_42_method_66_code, exceptionTable := #[], attributes := #[] }
def k7m4 : Method := { name := "equals", desc := "(Ljava/lang/Object;)Z", sig := { parameters := [(.object "java/lang/Object")], returnType := some .boolean }, accessFlags := 1, code := some k7c4 }
def k7c5 : Code := { maxStack := 4, maxLocals := 1, code := jdk_42_method_139_code, exceptionTable := #[], attributes := #[] }
def k7m5 : Method := { name := "valueOf", desc := "(C)Ljava/lang/String;", sig := { parameters := [.char], returnType := some (.object "java/lang/String") }, accessFlags := 9, code := some k7c5 }
def k7c6 : Code := { maxStack := 4, maxLocals := 6, code := jdk_42_method_149_code, exceptionTable := #[], attributes := #[] }
def k7m6 : Method := { name := "<init>", desc := "([CIILjava/lang/Void;)V", sig := { parameters := [(.array .char), .int, .int, (.object "java/lang/Void")], returnType := none }, accessFlags := 2, code := some k7c6 }
def k7c7 : Code := { maxStack := 2, maxLocals := 3, code := jdk_42_method_151_code, exceptionTable := #[], attributes := #[] }
def k7m7 : Method := { name := "<init>", desc := "([BB)V", sig := { parameters := [(.array .byte), .byte], returnType := none }, accessFlags := 0, code := some k7c7 }
def k7c8 : Code := { maxStack := 1, maxLocals := 1, code := jdk_42_method_152_code, exceptionTable := #[], attributes := #[] }
def k7m8 : Method := { name := "coder", desc := "()B", sig := { parameters := [], returnType := some .byte }, accessFlags := 0, code := some k7c8 }
def k7c9 : Code := { maxStack := 1, maxLocals := 1, code := jdk_42_method_154_code, exceptionTable := #[], attributes := #[] }
def k7m9 : Method := { name := "isLatin1", desc := "()Z", sig := { parameters := [], returnType := some .boolean }, accessFlags := 0, code := some k7c9 }
def k7c10 : Code := { maxStack := 3, maxLocals := 2, code := jdk_42_method_155_code, exceptionTable := #[], attributes := #[] }
def k7m10 : Method := { name := "checkIndex", desc := "(II)V", sig := { parameters := [.int, .int], returnType := none }, accessFlags := 8, code := some k7c10 }
/-- java/lang/String -/
def k7 : Class := { plain "java/lang/String" (some 0) with
  accessFlags := 49
  interfaces := #[2, 3, 4, 5, 6]
  cf := some (fileOf pool7 10 #[.nestMembers #[1103]] #[{ accessFlags := 1, nameIndex := 5, descriptorIndex := 6, attributes := #[] }, { accessFlags := 1, nameIndex := 5, descriptorIndex := 1010, attributes := #[] }, { accessFlags := 1, nameIndex := 507, descriptorIndex := 334, attributes := #[] }, { accessFlags := 1, nameIndex := 497, descriptorIndex := 427, attributes := #[] }, { accessFlags := 1, nameIndex := 543, descriptorIndex := 573, attributes := #[] }, { accessFlags := 9, nameIndex := 782, descriptorIndex := 783, attributes := #[] }, { accessFlags := 2, nameIndex := 5, descriptorIndex := 29, attributes := #[] }, { accessFlags := 0, nameIndex := 5, descriptorIndex := 211, attributes := #[] }, { accessFlags := 0, nameIndex := 17, descriptorIndex := 337, attributes := #[] }, { accessFlags := 0, nameIndex := 494, descriptorIndex := 142, attributes := #[] }, { accessFlags := 8, nameIndex := 501, descriptorIndex := 391, attributes := #[] }] 49 2 #[1106, 1108, 575, 1110, 1112] #[{ accessFlags := 18, nameIndex := 13, descriptorIndex := 14, attributes := #[] }, { accessFlags := 18, nameIndex := 17, descriptorIndex := 18, attributes := #[] }, { accessFlags := 2, nameIndex := 21, descriptorIndex := 22, attributes := #[] }, { accessFlags := 2, nameIndex := 25, descriptorIndex := 26, attributes := #[] }, { accessFlags := 26, nameIndex := 1116, descriptorIndex := 1117, attributes := #[] }, { accessFlags := 24, nameIndex := 40, descriptorIndex := 26, attributes := #[] }, { accessFlags := 26, nameIndex := 1101, descriptorIndex := 1102, attributes := #[] }, { accessFlags := 26, nameIndex := 1121, descriptorIndex := 1122, attributes := #[] }, { accessFlags := 25, nameIndex := 599, descriptorIndex := 600, attributes := #[] }, { accessFlags := 24, nameIndex := 1125, descriptorIndex := 18, attributes := #[] }, { accessFlags := 24, nameIndex := 1127, descriptorIndex := 18, attributes := #[] }])
  fields := #[{ name := "value", type := (.array .byte), accessFlags := 18, slot := 0, constantValue := 0 }, { name := "coder", type := .byte, accessFlags := 18, slot := 1, constantValue := 0 }, { name := "hash", type := .int, accessFlags := 2, slot := 2, constantValue := 0 }, { name := "hashIsZero", type := .boolean, accessFlags := 2, slot := 3, constantValue := 0 }, { name := "serialVersionUID", type := .long, accessFlags := 26, slot := 0, constantValue := 0 }, { name := "COMPACT_STRINGS", type := .boolean, accessFlags := 24, slot := 1, constantValue := 0 }, { name := "serialPersistentFields", type := (.array (.object "java/io/ObjectStreamField")), accessFlags := 26, slot := 2, constantValue := 0 }, { name := "REPL", type := .char, accessFlags := 26, slot := 3, constantValue := 0 }, { name := "CASE_INSENSITIVE_ORDER", type := (.object "java/util/Comparator"), accessFlags := 25, slot := 4, constantValue := 0 }, { name := "LATIN1", type := .byte, accessFlags := 24, slot := 5, constantValue := 0 }, { name := "UTF16", type := .byte, accessFlags := 24, slot := 6, constantValue := 0 }]
  methods := #[k7m0, k7m1, k7m2, k7m3, k7m4, k7m5, k7m6, k7m7, k7m8, k7m9, k7m10]
  instanceTypes := #[(.array .byte), .byte, .int, .boolean]
  staticTypes := #[.long, .boolean, (.array (.object "java/io/ObjectStreamField")), .char, (.object "java/util/Comparator"), .byte, .byte]
  resolved := Array.replicate 1451 none
  statics := some 0 }

def pool8 : Array CpInfo := pool [(1, .class_ 2), (0, u "java/lang/String"), (1, .class_ 6), (1, u "java/lang/Object"), (0, u "<init>"), (0, u "()V"), (0, .methodref 1 10), (0, .nameAndType 11 12), (0, u "checkIndex"), (0, u "(II)V"), (1, .class_ 16), (1, u "java/lang/StringLatin1"), (36, u "([BI)C"), (36, u "canEncode"), (14, u "(C)Z"), (15, u "$assertionsDisabled"), (0, u "Z"), (98, .class_ 223), (1, u "java/lang/StringLatin1$LinesSpliterator"), (28, u "charAt"), (28, u "equals"), (0, u "([B[B)Z"), (97, u "toBytes"), (1, u "(C)[B"), (7, .class_ 391), (0, u "java/lang/StringLatin1$CharsSpliterator")] 3

def k8m0 : Method := { name := "<init>", desc := "()V", sig := { parameters := [], returnType := none }, accessFlags := 0, code := none }
def k8c1 : Code := { maxStack := 2, maxLocals := 2, code := jdk_43_method_2_code, exceptionTable := #[], attributes := #[] }
def k8m1 : Method := { name := "charAt", desc := "([BI)C", sig := { parameters := [(.array .byte), .int], returnType := some .char }, accessFlags := 9, code := some k8c1 }
def k8c2 : Code := { maxStack := 2, maxLocals := 1, code := jdk_43_method_3_code, exceptionTable := #[], attributes := #[] }
def k8m2 : Method := { name := "canEncode", desc := "(C)Z", sig := { parameters := [.char], returnType := some .boolean }, accessFlags := 9, code := some k8c2 }
def k8c3 : Code := { maxStack := 3, maxLocals := 3, code := jdk_43_method_13_code, exceptionTable := #[], attributes := #[] }
def k8m3 : Method := { name := "equals", desc := "([B[B)Z", sig := { parameters := [(.array .byte), (.array .byte)], returnType := some .boolean }, accessFlags := 9, code := some k8c3 }
def k8c4 : Code := { maxStack := 4, maxLocals := 1, code := jdk_43_method_46_code, exceptionTable := #[], attributes := #[] }
def k8m4 : Method := { name := "toBytes", desc := "(C)[B", sig := { parameters := [.char], returnType := some (.array .byte) }, accessFlags := 9, code := some k8c4 }
/-- java/lang/StringLatin1 -/
def k8 : Class := { plain "java/lang/StringLatin1" (some 0) with
  accessFlags := 48
  interfaces := #[]
  cf := some (fileOf pool8 14 #[.nestMembers #[390, 221]] #[{ accessFlags := 0, nameIndex := 7, descriptorIndex := 8, attributes := #[] }, { accessFlags := 9, nameIndex := 252, descriptorIndex := 53, attributes := #[] }, { accessFlags := 9, nameIndex := 90, descriptorIndex := 105, attributes := #[] }, { accessFlags := 9, nameIndex := 281, descriptorIndex := 282, attributes := #[] }, { accessFlags := 9, nameIndex := 380, descriptorIndex := 382, attributes := #[] }] 48 4 #[] #[{ accessFlags := 4120, nameIndex := 121, descriptorIndex := 122, attributes := #[] }])
  fields := #[{ name := "$assertionsDisabled", type := .boolean, accessFlags := 4120, slot := 0, constantValue := 0 }]
  methods := #[k8m0, k8m1, k8m2, k8m3, k8m4]
  instanceTypes := #[]
  staticTypes := #[.boolean]
  resolved := Array.replicate 395 none
  statics := none }

def pool9 : Array CpInfo := pool [(2, .class_ 4), (1, u "java/lang/Object"), (0, u "<init>"), (0, u "()V"), (17, .class_ 26), (1, u "jdk/internal/util/Preconditions"), (6, u "checkIndex"), (21, .class_ 56), (0, u "jdk/internal/util/Preconditions$4"), (57, .class_ 115), (0, u "jdk/internal/util/Preconditions$1"), (7, u "SIOOBE_FORMATTER"), (0, u "Ljava/util/function/BiFunction;"), (0, .class_ 126), (0, u "jdk/internal/util/Preconditions$2"), (3, u "AIOOBE_FORMATTER"), (0, .class_ 132), (0, u "jdk/internal/util/Preconditions$3"), (3, u "IOOBE_FORMATTER"), (41, u "(IILjava/util/function/BiFunction;)I")] 15

def k9m0 : Method := { name := "<init>", desc := "()V", sig := { parameters := [], returnType := none }, accessFlags := 1, code := none }
def k9c1 : Code := { maxStack := 3, maxLocals := 3, code := jdk_41_method_11_code, exceptionTable := #[], attributes := #[] }
def k9m1 : Method := { name := "checkIndex", desc := "(IILjava/util/function/BiFunction;)I", sig := { parameters := [.int, .int, (.object "java/util/function/BiFunction")], returnType := some .int }, accessFlags := 9, code := some k9c1 }
/-- jdk/internal/util/Preconditions -/
def k9 : Class := { plain "jdk/internal/util/Preconditions" (some 0) with
  accessFlags := 33
  interfaces := #[]
  cf := some (fileOf pool9 24 #[.nestMembers #[55, 131, 125, 114]] #[{ accessFlags := 1, nameIndex := 5, descriptorIndex := 6, attributes := #[] }, { accessFlags := 9, nameIndex := 33, descriptorIndex := 178, attributes := #[] }] 33 2 #[] #[{ accessFlags := 25, nameIndex := 123, descriptorIndex := 124, attributes := #[] }, { accessFlags := 25, nameIndex := 130, descriptorIndex := 124, attributes := #[] }, { accessFlags := 25, nameIndex := 136, descriptorIndex := 124, attributes := #[] }])
  fields := #[{ name := "SIOOBE_FORMATTER", type := (.object "java/util/function/BiFunction"), accessFlags := 25, slot := 0, constantValue := 0 }, { name := "AIOOBE_FORMATTER", type := (.object "java/util/function/BiFunction"), accessFlags := 25, slot := 1, constantValue := 0 }, { name := "IOOBE_FORMATTER", type := (.object "java/util/function/BiFunction"), accessFlags := 25, slot := 2, constantValue := 0 }]
  methods := #[k9m0, k9m1]
  instanceTypes := #[]
  staticTypes := #[(.object "java/util/function/BiFunction"), (.object "java/util/function/BiFunction"), (.object "java/util/function/BiFunction")]
  resolved := Array.replicate 194 none
  statics := some 1 }

def pool10 : Array CpInfo := pool [(6, .class_ 8), (1, u "java/lang/Object"), (0, u "<init>"), (0, u "()V"), (1, .class_ 14), (1, u "java/lang/StringUTF16"), (31, u "$assertionsDisabled"), (0, u "Z"), (13, u "HI_BYTE_SHIFT"), (0, u "I"), (2, u "LO_BYTE_SHIFT"), (49, .methodref 12 116), (0, .nameAndType 117 118), (0, u "compress"), (0, u "([CI[BII)I"), (3, u "([CII)[B"), (138, u "coderFromArrayLen"), (0, u "([BI)B"), (106, .class_ 371), (1, u "java/lang/StringUTF16$LinesSpliterator"), (58, u "MAX_LENGTH"), (196, .class_ 628), (0, u "java/lang/StringUTF16$CodePointsSpliterator"), (0, .class_ 630), (0, u "java/lang/StringUTF16$CharsSpliterator")] 4

def k10m0 : Method := { name := "<init>", desc := "()V", sig := { parameters := [], returnType := none }, accessFlags := 0, code := none }
def k10c1 : Code := { maxStack := 2, maxLocals := 2, code := jdk_52_method_15_code, exceptionTable := #[], attributes := #[] }
def k10m1 : Method := { name := "coderFromArrayLen", desc := "([BI)B", sig := { parameters := [(.array .byte), .int], returnType := some .byte }, accessFlags := 8, code := some k10c1 }
def k10c2 : Code := { maxStack := 5, maxLocals := 6, code := jdk_52_method_16_code, exceptionTable := #[], attributes := #[] }
def k10m2 : Method := { name := "compress", desc := "([CII)[B", sig := { parameters := [(.array .char), .int, .int], returnType := some (.array .byte) }, accessFlags := 9, code := some k10c2 }
def k10c3 : Code := { maxStack := 3, maxLocals := 7, code := jdk_52_method_21_code, exceptionTable := #[], attributes := #[] }
def k10m3 : Method := { name := "compress", desc := "([CI[BII)I", sig := { parameters := [(.array .char), .int, (.array .byte), .int, .int], returnType := some .int }, accessFlags := 9, code := some k10c3 }
/-- java/lang/StringUTF16 -/
def k10 : Class := { plain "java/lang/StringUTF16" (some 0) with
  accessFlags := 48
  interfaces := #[]
  cf := some (fileOf pool10 12 #[.nestMembers #[627, 629, 369]] #[{ accessFlags := 0, nameIndex := 9, descriptorIndex := 10, attributes := #[] }, { accessFlags := 8, nameIndex := 261, descriptorIndex := 262, attributes := #[] }, { accessFlags := 9, nameIndex := 117, descriptorIndex := 122, attributes := #[] }, { accessFlags := 9, nameIndex := 117, descriptorIndex := 118, attributes := #[] }] 48 6 #[] #[{ accessFlags := 26, nameIndex := 61, descriptorIndex := 62, attributes := #[] }, { accessFlags := 26, nameIndex := 65, descriptorIndex := 62, attributes := #[] }, { accessFlags := 24, nameIndex := 430, descriptorIndex := 62, attributes := #[] }, { accessFlags := 4120, nameIndex := 46, descriptorIndex := 47, attributes := #[] }])
  fields := #[{ name := "HI_BYTE_SHIFT", type := .int, accessFlags := 26, slot := 0, constantValue := 0 }, { name := "LO_BYTE_SHIFT", type := .int, accessFlags := 26, slot := 1, constantValue := 0 }, { name := "MAX_LENGTH", type := .int, accessFlags := 24, slot := 2, constantValue := 0 }, { name := "$assertionsDisabled", type := .boolean, accessFlags := 4120, slot := 3, constantValue := 0 }]
  methods := #[k10m0, k10m1, k10m2, k10m3]
  instanceTypes := #[]
  staticTypes := #[.int, .int, .int, .boolean]
  resolved := Array.replicate 635 none
  statics := none }

def pool11 : Array CpInfo := pool [(2, .class_ 4), (1, u "java/lang/Enum"), (0, u "name"), (0, u "Ljava/lang/String;"), (2, u "ordinal"), (0, u "I"), (1, .class_ 14), (1, u "java/lang/Object"), (4, u "hash"), (86, .class_ 108), (1, u "java/lang/Enum$EnumDesc"), (2, .class_ 112), (0, u "java/lang/constant/Constable"), (0, .class_ 114), (0, u "java/lang/Comparable"), (0, .class_ 116), (0, u "java/io/Serializable")] 87

/-- java/lang/Enum -/
def k11 : Class := { plain "java/lang/Enum" (some 0) with
  accessFlags := 1057
  interfaces := #[5, 3, 2]
  cf := some (fileOf pool11 2 #[.nestMembers #[106]] #[] 1057 12 #[111, 113, 115] #[{ accessFlags := 18, nameIndex := 5, descriptorIndex := 6, attributes := #[] }, { accessFlags := 18, nameIndex := 9, descriptorIndex := 10, attributes := #[] }, { accessFlags := 2, nameIndex := 19, descriptorIndex := 10, attributes := #[] }])
  fields := #[{ name := "name", type := (.object "java/lang/String"), accessFlags := 18, slot := 0, constantValue := 0 }, { name := "ordinal", type := .int, accessFlags := 18, slot := 1, constantValue := 0 }, { name := "hash", type := .int, accessFlags := 2, slot := 2, constantValue := 0 }]
  methods := #[]
  instanceTypes := #[(.object "java/lang/String"), .int, .int]
  staticTypes := #[]
  resolved := Array.replicate 204 none
  statics := none }

def pool12 : Array CpInfo := pool [(1, .class_ 2), (0, u "com/example/tenon/tenon/model/SourceSet$Type"), (2, u "JAVA"), (0, u "Lcom/example/tenon/tenon/model/SourceSet$Type;"), (2, u "RESOURCES"), (0, .fieldref 1 11), (0, .nameAndType 12 13), (0, u "$VALUES"), (0, u "[Lcom/example/tenon/tenon/model/SourceSet$Type;"), (0, .methodref 15 16), (0, .class_ 13), (0, .nameAndType 17 18), (0, u "clone"), (0, u "()Ljava/lang/Object;"), (1, .class_ 22), (1, u "java/lang/Enum"), (6, .fieldref 1 30), (0, .nameAndType 31 32), (0, u "word"), (0, u "Ljava/lang/String;"), (0, .methodref 1 34), (0, .nameAndType 35 36), (0, u "values"), (0, u "()[Lcom/example/tenon/tenon/model/SourceSet$Type;"), (0, .methodref 38 39), (0, .class_ 40), (0, .nameAndType 41 42), (0, u "java/lang/String"), (0, u "equals"), (0, u "(Ljava/lang/Object;)Z"), (0, .methodref 44 45), (0, .class_ 46), (0, .nameAndType 47 48), (0, u "java/util/Optional"), (0, u "of"), (0, u "(Ljava/lang/Object;)Ljava/util/Optional;"), (0, .methodref 44 50), (0, .nameAndType 51 52), (0, u "empty"), (0, u "()Ljava/util/Optional;"), (28, u "named"), (0, u "(Ljava/lang/String;)Ljava/util/Optional;"), (12, .class_ 96), (0, u "com/example/tenon/tenon/model/SourceSet")] 2

def k12c0 : Code := { maxStack := 1, maxLocals := 0, code := prog_25_method_1_code, exceptionTable := #[], attributes := #[] }
def k12m0 : Method := { name := "values", desc := "()[Lcom/example/tenon/tenon/model/SourceSet$Type;", sig := { parameters := [], returnType := some (.array (.object "com/example/tenon/tenon/model/SourceSet$Type")) }, accessFlags := 9, code := some k12c0 }
def k12c1 : Code := { maxStack := 2, maxLocals := 5, code := prog_25_method_4_code, exceptionTable := #[], attributes := #[] }
def k12m1 : Method := { name := "named", desc := "(Ljava/lang/String;)Ljava/util/Optional;", sig := { parameters := [(.object "java/lang/String")], returnType := some (.object "java/util/Optional") }, accessFlags := 9, code := some k12c1 }
/-- com/example/tenon/tenon/model/SourceSet$Type -/
def k12 : Class := { plain "com/example/tenon/tenon/model/SourceSet$Type" (some 11) with
  accessFlags := 16433
  interfaces := #[]
  cf := some (fileOf pool12 1 #[.nestHost 95] #[{ accessFlags := 9, nameIndex := 35, descriptorIndex := 36, attributes := #[] }, { accessFlags := 9, nameIndex := 81, descriptorIndex := 82, attributes := #[] }] 16433 20 #[] #[{ accessFlags := 16409, nameIndex := 5, descriptorIndex := 6, attributes := #[] }, { accessFlags := 16409, nameIndex := 9, descriptorIndex := 6, attributes := #[] }, { accessFlags := 18, nameIndex := 31, descriptorIndex := 32, attributes := #[] }, { accessFlags := 4122, nameIndex := 12, descriptorIndex := 13, attributes := #[] }])
  fields := #[{ name := "JAVA", type := (.object "com/example/tenon/tenon/model/SourceSet$Type"), accessFlags := 16409, slot := 0, constantValue := 0 }, { name := "RESOURCES", type := (.object "com/example/tenon/tenon/model/SourceSet$Type"), accessFlags := 16409, slot := 1, constantValue := 0 }, { name := "word", type := (.object "java/lang/String"), accessFlags := 18, slot := 3, constantValue := 0 }, { name := "$VALUES", type := (.array (.object "com/example/tenon/tenon/model/SourceSet$Type")), accessFlags := 4122, slot := 2, constantValue := 0 }]
  methods := #[k12m0, k12m1]
  instanceTypes := #[(.object "java/lang/String"), .int, .int, (.object "java/lang/String")]
  staticTypes := #[(.object "com/example/tenon/tenon/model/SourceSet$Type"), (.object "com/example/tenon/tenon/model/SourceSet$Type"), (.array (.object "com/example/tenon/tenon/model/SourceSet$Type"))]
  resolved := Array.replicate 99 none
  statics := some 2 }

def pool13 : Array CpInfo := pool [(1, .class_ 2), (0, u "java/lang/Cloneable"), (0, .class_ 4), (0, u "java/lang/Object")] 2

/-- java/lang/Cloneable -/
def k13 : Class := { plain "java/lang/Cloneable" (some 0) with
  accessFlags := 1537
  interfaces := #[]
  cf := some (fileOf pool13 1 #[] #[] 1537 3 #[] #[])
  fields := #[]
  methods := #[]
  instanceTypes := #[]
  staticTypes := #[]
  resolved := Array.replicate 7 none
  statics := none }

def pool14 : Array CpInfo := pool [(1, .fieldref 2 3), (0, .class_ 4), (0, .nameAndType 5 6), (0, u "java/util/Optional"), (0, u "EMPTY"), (0, u "Ljava/util/Optional;"), (0, .methodref 8 9), (0, .class_ 10), (0, .nameAndType 11 12), (0, u "java/lang/Object"), (0, u "<init>"), (0, u "()V"), (0, .fieldref 2 14), (0, .nameAndType 15 16), (0, u "value"), (0, u "Ljava/lang/Object;"), (0, .methodref 18 19), (0, .class_ 20), (0, .nameAndType 21 22), (0, u "java/util/Objects"), (0, u "requireNonNull"), (0, u "(Ljava/lang/Object;)Ljava/lang/Object;"), (0, .methodref 2 24), (0, .nameAndType 11 25), (0, u "(Ljava/lang/Object;)V"), (29, u "empty"), (0, u "()Ljava/util/Optional;"), (8, u "(Ljava/lang/Object;)Ljava/util/Optional;"), (16, u "of"), (82, u "orElse")] 21

def k14c0 : Code := { maxStack := 1, maxLocals := 1, code := jdk_32_method_1_code, exceptionTable := #[], attributes := #[] }
def k14m0 : Method := { name := "empty", desc := "()Ljava/util/Optional;", sig := { parameters := [], returnType := some (.object "java/util/Optional") }, accessFlags := 9, code := some k14c0 }
def k14c1 : Code := { maxStack := 2, maxLocals := 2, code := jdk_32_method_2_code, exceptionTable := #[], attributes := #[] }
def k14m1 : Method := { name := "<init>", desc := "(Ljava/lang/Object;)V", sig := { parameters := [(.object "java/lang/Object")], returnType := none }, accessFlags := 2, code := some k14c1 }
def k14c2 : Code := { maxStack := 3, maxLocals := 1, code := jdk_32_method_3_code, exceptionTable := #[], attributes := #[] }
def k14m2 : Method := { name := "of", desc := "(Ljava/lang/Object;)Ljava/util/Optional;", sig := { parameters := [(.object "java/lang/Object")], returnType := some (.object "java/util/Optional") }, accessFlags := 9, code := some k14c2 }
def k14c3 : Code := { maxStack := 1, maxLocals := 2, code := jdk_32_method_15_code, exceptionTable := #[], attributes := #[] }
def k14m3 : Method := { name := "orElse", desc := "(Ljava/lang/Object;)Ljava/lang/Object;", sig := { parameters := [(.object "java/lang/Object")], returnType := some (.object "java/lang/Object") }, accessFlags := 1, code := some k14c3 }
/-- java/util/Optional -/
def k14 : Class := { plain "java/util/Optional" (some 0) with
  accessFlags := 49
  interfaces := #[]
  cf := some (fileOf pool14 2 #[] #[{ accessFlags := 9, nameIndex := 55, descriptorIndex := 56, attributes := #[] }, { accessFlags := 2, nameIndex := 11, descriptorIndex := 25, attributes := #[] }, { accessFlags := 9, nameIndex := 82, descriptorIndex := 65, attributes := #[] }, { accessFlags := 1, nameIndex := 165, descriptorIndex := 22, attributes := #[] }] 49 8 #[] #[{ accessFlags := 26, nameIndex := 5, descriptorIndex := 6, attributes := #[] }, { accessFlags := 18, nameIndex := 15, descriptorIndex := 16, attributes := #[] }])
  fields := #[{ name := "EMPTY", type := (.object "java/util/Optional"), accessFlags := 26, slot := 0, constantValue := 0 }, { name := "value", type := (.object "java/lang/Object"), accessFlags := 18, slot := 0, constantValue := 0 }]
  methods := #[k14m0, k14m1, k14m2, k14m3]
  instanceTypes := #[(.object "java/lang/Object")]
  staticTypes := #[(.object "java/util/Optional")]
  resolved := Array.replicate 187 none
  statics := some 3 }

def pool15 : Array CpInfo := pool [(2, .class_ 4), (1, u "java/lang/Object"), (0, u "<init>"), (0, u "()V"), (35, .class_ 44), (1, u "java/util/Objects"), (0, u "requireNonNull"), (0, u "(Ljava/lang/Object;)Ljava/lang/Object;")] 137

def k15m0 : Method := { name := "<init>", desc := "()V", sig := { parameters := [], returnType := none }, accessFlags := 2, code := none }
def k15c1 : Code := { maxStack := 2, maxLocals := 1, code := jdk_31_method_10_code, exceptionTable := #[], attributes := #[] }
def k15m1 : Method := { name := "requireNonNull", desc := "(Ljava/lang/Object;)Ljava/lang/Object;", sig := { parameters := [(.object "java/lang/Object")], returnType := some (.object "java/lang/Object") }, accessFlags := 9, code := some k15c1 }
/-- java/util/Objects -/
def k15 : Class := { plain "java/util/Objects" (some 0) with
  accessFlags := 49
  interfaces := #[]
  cf := some (fileOf pool15 42 #[] #[{ accessFlags := 2, nameIndex := 5, descriptorIndex := 6, attributes := #[] }, { accessFlags := 9, nameIndex := 45, descriptorIndex := 46, attributes := #[] }] 49 2 #[] #[])
  fields := #[]
  methods := #[k15m0, k15m1]
  instanceTypes := #[]
  staticTypes := #[]
  resolved := Array.replicate 184 none
  statics := none }

def pool16 : Array CpInfo := pool [(9, u "<init>"), (6, .class_ 18), (1, u "java/lang/Object"), (0, u "()V"), (1, .class_ 23), (1, u "jdk/internal/util/ArraysSupport"), (0, u "LOG2_ARRAY_LONG_INDEX_SCALE"), (0, u "I"), (2, u "U"), (0, u "Ljdk/internal/misc/Unsafe;"), (8, u "BIG_ENDIAN"), (0, u "Z"), (8, u "LOG2_BYTE_BIT_SIZE"), (4, u "LOG2_ARRAY_INT_INDEX_SCALE"), (54, u "JLA"), (0, u "Ljdk/internal/access/JavaLangAccess;"), (11, u "LOG2_ARRAY_BOOLEAN_INDEX_SCALE"), (9, u "LOG2_ARRAY_BYTE_INDEX_SCALE"), (5, u "LOG2_ARRAY_CHAR_INDEX_SCALE"), (5, u "LOG2_ARRAY_SHORT_INDEX_SCALE"), (18, u "LOG2_ARRAY_FLOAT_INDEX_SCALE"), (24, u "LOG2_ARRAY_DOUBLE_INDEX_SCALE"), (89, u "T_BOOLEAN"), (2, u "T_CHAR"), (1, u "T_FLOAT"), (1, u "T_DOUBLE"), (1, u "T_BYTE"), (1, u "T_SHORT"), (1, u "T_INT"), (1, u "T_LONG"), (1, u "SOFT_MAX_ARRAY_LENGTH")] 83

def k16m0 : Method := { name := "<init>", desc := "()V", sig := { parameters := [], returnType := none }, accessFlags := 2, code := none }
/-- jdk/internal/util/ArraysSupport -/
def k16 : Class := { plain "jdk/internal/util/ArraysSupport" (some 0) with
  accessFlags := 33
  interfaces := #[]
  cf := some (fileOf pool16 21 #[] #[{ accessFlags := 2, nameIndex := 9, descriptorIndex := 19, attributes := #[] }] 33 16 #[] #[{ accessFlags := 24, nameIndex := 28, descriptorIndex := 29, attributes := #[] }, { accessFlags := 26, nameIndex := 38, descriptorIndex := 39, attributes := #[] }, { accessFlags := 25, nameIndex := 121, descriptorIndex := 25, attributes := #[] }, { accessFlags := 25, nameIndex := 131, descriptorIndex := 25, attributes := #[] }, { accessFlags := 25, nameIndex := 137, descriptorIndex := 25, attributes := #[] }, { accessFlags := 25, nameIndex := 143, descriptorIndex := 25, attributes := #[] }, { accessFlags := 25, nameIndex := 53, descriptorIndex := 25, attributes := #[] }, { accessFlags := 25, nameIndex := 24, descriptorIndex := 25, attributes := #[] }, { accessFlags := 25, nameIndex := 162, descriptorIndex := 25, attributes := #[] }, { accessFlags := 25, nameIndex := 187, descriptorIndex := 25, attributes := #[] }, { accessFlags := 26, nameIndex := 48, descriptorIndex := 25, attributes := #[] }, { accessFlags := 25, nameIndex := 277, descriptorIndex := 25, attributes := #[] }, { accessFlags := 25, nameIndex := 280, descriptorIndex := 25, attributes := #[] }, { accessFlags := 25, nameIndex := 282, descriptorIndex := 25, attributes := #[] }, { accessFlags := 25, nameIndex := 284, descriptorIndex := 25, attributes := #[] }, { accessFlags := 25, nameIndex := 286, descriptorIndex := 25, attributes := #[] }, { accessFlags := 25, nameIndex := 288, descriptorIndex := 25, attributes := #[] }, { accessFlags := 25, nameIndex := 290, descriptorIndex := 25, attributes := #[] }, { accessFlags := 25, nameIndex := 292, descriptorIndex := 25, attributes := #[] }, { accessFlags := 26, nameIndex := 108, descriptorIndex := 109, attributes := #[] }, { accessFlags := 25, nameIndex := 294, descriptorIndex := 25, attributes := #[] }])
  fields := #[{ name := "U", type := (.object "jdk/internal/misc/Unsafe"), accessFlags := 24, slot := 0, constantValue := 0 }, { name := "BIG_ENDIAN", type := .boolean, accessFlags := 26, slot := 1, constantValue := 0 }, { name := "LOG2_ARRAY_BOOLEAN_INDEX_SCALE", type := .int, accessFlags := 25, slot := 2, constantValue := 0 }, { name := "LOG2_ARRAY_BYTE_INDEX_SCALE", type := .int, accessFlags := 25, slot := 3, constantValue := 0 }, { name := "LOG2_ARRAY_CHAR_INDEX_SCALE", type := .int, accessFlags := 25, slot := 4, constantValue := 0 }, { name := "LOG2_ARRAY_SHORT_INDEX_SCALE", type := .int, accessFlags := 25, slot := 5, constantValue := 0 }, { name := "LOG2_ARRAY_INT_INDEX_SCALE", type := .int, accessFlags := 25, slot := 6, constantValue := 0 }, { name := "LOG2_ARRAY_LONG_INDEX_SCALE", type := .int, accessFlags := 25, slot := 7, constantValue := 0 }, { name := "LOG2_ARRAY_FLOAT_INDEX_SCALE", type := .int, accessFlags := 25, slot := 8, constantValue := 0 }, { name := "LOG2_ARRAY_DOUBLE_INDEX_SCALE", type := .int, accessFlags := 25, slot := 9, constantValue := 0 }, { name := "LOG2_BYTE_BIT_SIZE", type := .int, accessFlags := 26, slot := 10, constantValue := 0 }, { name := "T_BOOLEAN", type := .int, accessFlags := 25, slot := 11, constantValue := 0 }, { name := "T_CHAR", type := .int, accessFlags := 25, slot := 12, constantValue := 0 }, { name := "T_FLOAT", type := .int, accessFlags := 25, slot := 13, constantValue := 0 }, { name := "T_DOUBLE", type := .int, accessFlags := 25, slot := 14, constantValue := 0 }, { name := "T_BYTE", type := .int, accessFlags := 25, slot := 15, constantValue := 0 }, { name := "T_SHORT", type := .int, accessFlags := 25, slot := 16, constantValue := 0 }, { name := "T_INT", type := .int, accessFlags := 25, slot := 17, constantValue := 0 }, { name := "T_LONG", type := .int, accessFlags := 25, slot := 18, constantValue := 0 }, { name := "JLA", type := (.object "jdk/internal/access/JavaLangAccess"), accessFlags := 26, slot := 19, constantValue := 0 }, { name := "SOFT_MAX_ARRAY_LENGTH", type := .int, accessFlags := 25, slot := 20, constantValue := 0 }]
  methods := #[k16m0]
  instanceTypes := #[]
  staticTypes := #[(.object "jdk/internal/misc/Unsafe"), .boolean, .int, .int, .int, .int, .int, .int, .int, .int, .int, .int, .int, .int, .int, .int, .int, .int, .int, (.object "jdk/internal/access/JavaLangAccess"), .int]
  resolved := Array.replicate 378 none
  statics := none }

/-- the primitive byte -/
def k17 : Class := { plain "byte" none with kind := .primitive 'B', accessFlags := 0x411 }
/-- [B -/
def k18 : Class := { plain "[B" (some 0) with kind := .array 17 .byte, interfaces := #[13, 2], accessFlags := 1041 }

/-- the primitive char -/
def k19 : Class := { plain "char" none with kind := .primitive 'C', accessFlags := 0x411 }
/-- [C -/
def k20 : Class := { plain "[C" (some 0) with kind := .array 19 .char, interfaces := #[13, 2], accessFlags := 1041 }

/-- the primitive int -/
def k21 : Class := { plain "int" none with kind := .primitive 'I', accessFlags := 0x411 }
/-- [I -/
def k22 : Class := { plain "[I" (some 0) with kind := .array 21 .int, interfaces := #[13, 2], accessFlags := 1041 }

/-- [Lcom/example/tenon/tenon/model/SourceSet$Type; -/
def k23 : Class := { plain "[Lcom/example/tenon/tenon/model/SourceSet$Type;" (some 0) with kind := .array 12 (.object "com/example/tenon/tenon/model/SourceSet$Type"), interfaces := #[13, 2], accessFlags := 1041 }

def heap : Heap := #[{ cls := 7, slots := #[.long 0, .int 1, .null, .int 0, .null, .int 0, .int 0], vm := .statics 7 },
  { cls := 9, slots := #[.null, .null, .null], vm := .statics 9 },
  { cls := 12, slots := #[.ref 5, .ref 6, .ref 4], vm := .statics 12 },
  { cls := 14, slots := #[.ref 11], vm := .statics 14 },
  { cls := 23, slots := #[.ref 5, .ref 6], vm := .none },
  { cls := 12, slots := #[.null, .int 0, .int 0, .ref 7], vm := .none },
  { cls := 12, slots := #[.null, .int 1, .int 0, .ref 8], vm := .none },
  { cls := 7, slots := #[.ref 9, .int 0, .int 0, .int 0], vm := .none },
  { cls := 7, slots := #[.ref 10, .int 0, .int 0, .int 0], vm := .none },
  { cls := 18, slots := #[.int 106, .int 97, .int 118, .int 97], vm := .none },
  { cls := 18, slots := #[.int 114, .int 101, .int 115, .int 111, .int 117, .int 114, .int 99, .int 101, .int 115], vm := .none },
  { cls := 14, slots := #[.null], vm := .none }]
def classes : Array Class := #[k0, k1, k2, k3, k4, k5, k6, k7, k8, k9, k10, k11, k12, k13, k14, k15, k16, k17, k18, k19, k20, k21, k22, k23]
def interned : List (Array UInt16 × Addr) := []
def slotsUsed : Nat := 46
def theMethod : MethodId := ⟨1, 2⟩
def args0 : Array Value := #[.int 5, .int 7, .int 3, .int 4]
def aboutOver (below : List Frame) : State where
  vm := { classes := classes, interned := interned.toArray }
  heap := heap
  slotsUsed := slotsUsed
  threads := #[{ frames := .invoking theMethod args0 :: below }]
def below0 : List Frame := [.native { method := ⟨0, 0⟩, args := #[] }]
def about1 : State := aboutOver below0
def p0 : Program := .bare "" "" ""
def e0 : Env := launch0.env 0 0 0
theorem w_frames : about1.frames = Frame.invoking theMethod args0 :: below0 := rfl
set_option maxRecDepth 65536 in
theorem w_args : argsFit about1.vm theMethod args0 = true := by decide +kernel
set_option maxRecDepth 65536 in
theorem w_heap : heapFits about1 = true := by decide +kernel
set_option maxRecDepth 65536 in
theorem w_runnable : about1.curStatus? = some .runnable := by decide +kernel
set_option maxRecDepth 65536 in
theorem w_alone : about1.alone = true := by decide +kernel
set_option maxRecDepth 65536 in
theorem w_named : about1.methodNamed? x = some theMethod := by decide +kernel
set_option maxRecDepth 65536 in
theorem w_hears : about1.hears theMethod below0 = true := by decide +kernel
set_option maxRecDepth 65536 in
theorem w_ripe : about1.ripe theMethod args0 below0 = true := by decide +kernel
theorem w_running : about1.status = .running := rfl
set_option maxRecDepth 65536 in
theorem w_room : about1.hasRoom e0.platform room_1 = true :=
  launch0.hasRoom_least _ room_1 (by decide +kernel) (by decide +kernel) (by decide +kernel) (by decide +kernel) (by decide +kernel) (by decide +kernel)
theorem allAtoms_all (ts : List Jvm.Cond) (a : Array Jvm.Value) (st : Jvm.State) : (allAtoms ts).before a st = ts.all (fun c => c.before a st) := by
  induction ts with
  | nil => rfl
  | cons c t ih =>
    show (Jvm.Cond.and c (allAtoms t)).before a st = _
    rw [Jvm.Cond.before_and, ih, List.all_cons]
def words1 : List Jvm.Cond := Jvm.Cond.code x code maxLocals ret :: tables_1
/-- a 'code' word, met by the world's own term for the bytes: nothing is compared byte by byte -/
theorem code_word {y : MethodName} {bytes : ByteArray} {mx : Nat} {rt : Option FieldType} {a : Array Value} {s : State} {m : MethodId} {meth : Method} {c : Code} (h1 : s.methodNamed? y = some m) (h2 : s.vm.method? m = some meth) (h3 : meth.code = some c) (h4 : c.code = bytes)
    (h5 : (c.maxLocals == mx && c.exceptionTable.isEmpty && decide (c.maxStack ≤ mostOperands) && decide (meth.sig.returnType = rt) && !meth.locks && decide (parseMethodDescriptor y.desc = some meth.sig)) = true) : (Jvm.Cond.code y bytes mx rt).before a s = true := by
  simp only [Bool.and_eq_true, beq_iff_eq, Bool.not_eq_true', decide_eq_true_eq] at h5
  obtain ⟨⟨⟨⟨⟨g1, g2⟩, g3⟩, g4⟩, g5⟩, g6⟩ := h5
  simp [Cond.before, Cond.holds, Cond.value, h1, h2, h3, h4, g1, g2, g3, g4, g5, g6]
def isCode : Jvm.Cond → Bool
  | .code _ _ _ _ => true
  | _ => false
theorem all_split {L : List Jvm.Cond} {P : Jvm.Cond → Bool} (h1 : L.all (fun c => isCode c || P c) = true) (h2 : ∀ c ∈ L.filter isCode, P c = true) : L.all P = true := by
  refine List.all_eq_true.mpr fun c hc => ?_
  have h := List.all_eq_true.mp h1 c hc
  rcases Bool.eq_false_or_eq_true (isCode c) with hi | hi
  · exact h2 c (List.mem_filter.mpr ⟨hc, hi⟩)
  · simpa [hi] using h
set_option maxRecDepth 65536 in
theorem w_c0 : (Jvm.Cond.code x code maxLocals ret).before args0 about1 = true := code_word (m := ⟨1, 2⟩) (meth := k1m2) (c := k1c2) (by decide +kernel) rfl rfl rfl (by decide +kernel)
set_option maxRecDepth 65536 in
theorem w_c1 : (Jvm.Cond.code ({ cls := "java/lang/String", name := "length", desc := "()I" } : Jvm.MethodName) jdk_42_method_54_code (1 : Nat) (Option.some Jvm.ClassFile.FieldType.int)).before args0 about1 = true := code_word (m := ⟨7, 2⟩) (meth := k7m2) (c := k7c2) (by decide +kernel) rfl rfl rfl (by decide +kernel)
set_option maxRecDepth 65536 in
theorem w_c2 : (Jvm.Cond.code ({ cls := "java/lang/String", name := "coder", desc := "()B" } : Jvm.MethodName) jdk_42_method_152_code (1 : Nat) (Option.some Jvm.ClassFile.FieldType.byte)).before args0 about1 = true := code_word (m := ⟨7, 8⟩) (meth := k7m8) (c := k7c8) (by decide +kernel) rfl rfl rfl (by decide +kernel)
set_option maxRecDepth 65536 in
theorem w_c3 : (Jvm.Cond.code ({ cls := "com/example/tenon/tenon/model/TypeNamedPinLaw", name := "pick", desc := "(Ljava/lang/String;IICC)C" } : Jvm.MethodName) method_2_code (5 : Nat) (Option.some Jvm.ClassFile.FieldType.char)).before args0 about1 = true := code_word (m := ⟨1, 1⟩) (meth := k1m1) (c := k1c1) (by decide +kernel) rfl rfl rfl (by decide +kernel)
set_option maxRecDepth 65536 in
theorem w_c4 : (Jvm.Cond.code ({ cls := "java/lang/String", name := "charAt", desc := "(I)C" } : Jvm.MethodName) jdk_42_method_56_code (2 : Nat) (Option.some Jvm.ClassFile.FieldType.char)).before args0 about1 = true := code_word (m := ⟨7, 3⟩) (meth := k7m3) (c := k7c3) (by decide +kernel) rfl rfl rfl (by decide +kernel)
set_option maxRecDepth 65536 in
theorem w_c5 : (Jvm.Cond.code ({ cls := "java/lang/String", name := "isLatin1", desc := "()Z" } : Jvm.MethodName) jdk_42_method_154_code (1 : Nat) (Option.some Jvm.ClassFile.FieldType.boolean)).before args0 about1 = true := code_word (m := ⟨7, 9⟩) (meth := k7m9) (c := k7c9) (by decide +kernel) rfl rfl rfl (by decide +kernel)
set_option maxRecDepth 65536 in
theorem w_c6 : (Jvm.Cond.code ({ cls := "java/lang/StringLatin1", name := "charAt", desc := "([BI)C" } : Jvm.MethodName) jdk_43_method_2_code (2 : Nat) (Option.some Jvm.ClassFile.FieldType.char)).before args0 about1 = true := code_word (m := ⟨8, 1⟩) (meth := k8m1) (c := k8c1) (by decide +kernel) rfl rfl rfl (by decide +kernel)
set_option maxRecDepth 65536 in
theorem w_c7 : (Jvm.Cond.code ({ cls := "java/lang/String", name := "checkIndex", desc := "(II)V" } : Jvm.MethodName) jdk_42_method_155_code (2 : Nat) (Option.none : Option Jvm.ClassFile.FieldType)).before args0 about1 = true := code_word (m := ⟨7, 10⟩) (meth := k7m10) (c := k7c10) (by decide +kernel) rfl rfl rfl (by decide +kernel)
set_option maxRecDepth 65536 in
theorem w_c8 : (Jvm.Cond.code ({ cls := "jdk/internal/util/Preconditions", name := "checkIndex", desc := "(IILjava/util/function/BiFunction;)I" } : Jvm.MethodName) jdk_41_method_11_code (3 : Nat) (Option.some Jvm.ClassFile.FieldType.int)).before args0 about1 = true := code_word (m := ⟨9, 1⟩) (meth := k9m1) (c := k9c1) (by decide +kernel) rfl rfl rfl (by decide +kernel)
set_option maxRecDepth 65536 in
theorem w_c9 : (Jvm.Cond.code ({ cls := "java/lang/String", name := "<init>", desc := "([C)V" } : Jvm.MethodName) jdk_42_method_3_code (2 : Nat) (Option.none : Option Jvm.ClassFile.FieldType)).before args0 about1 = true := code_word (m := ⟨7, 1⟩) (meth := k7m1) (c := k7c1) (by decide +kernel) rfl rfl rfl (by decide +kernel)
set_option maxRecDepth 65536 in
theorem w_c10 : (Jvm.Cond.code ({ cls := "java/lang/String", name := "<init>", desc := "([CIILjava/lang/Void;)V" } : Jvm.MethodName) jdk_42_method_149_code (6 : Nat) (Option.none : Option Jvm.ClassFile.FieldType)).before args0 about1 = true := code_word (m := ⟨7, 6⟩) (meth := k7m6) (c := k7c6) (by decide +kernel) rfl rfl rfl (by decide +kernel)
set_option maxRecDepth 65536 in
theorem w_c11 : (Jvm.Cond.code ({ cls := "java/lang/Object", name := "<init>", desc := "()V" } : Jvm.MethodName) object_method_1_code (1 : Nat) (Option.none : Option Jvm.ClassFile.FieldType)).before args0 about1 = true := code_word (m := ⟨0, 0⟩) (meth := k0m0) (c := k0c0) (by decide +kernel) rfl rfl rfl (by decide +kernel)
set_option maxRecDepth 65536 in
theorem w_c12 : (Jvm.Cond.code ({ cls := "java/lang/StringUTF16", name := "compress", desc := "([CII)[B" } : Jvm.MethodName) jdk_52_method_16_code (6 : Nat) (Option.some (Jvm.ClassFile.FieldType.array Jvm.ClassFile.FieldType.byte))).before args0 about1 = true := code_word (m := ⟨10, 2⟩) (meth := k10m2) (c := k10c2) (by decide +kernel) rfl rfl rfl (by decide +kernel)
set_option maxRecDepth 65536 in
theorem w_c13 : (Jvm.Cond.code ({ cls := "java/lang/StringUTF16", name := "compress", desc := "([CI[BII)I" } : Jvm.MethodName) jdk_52_method_21_code (7 : Nat) (Option.some Jvm.ClassFile.FieldType.int)).before args0 about1 = true := code_word (m := ⟨10, 3⟩) (meth := k10m3) (c := k10c3) (by decide +kernel) rfl rfl rfl (by decide +kernel)
set_option maxRecDepth 65536 in
theorem w_c14 : (Jvm.Cond.code ({ cls := "java/lang/StringUTF16", name := "coderFromArrayLen", desc := "([BI)B" } : Jvm.MethodName) jdk_52_method_15_code (2 : Nat) (Option.some Jvm.ClassFile.FieldType.byte)).before args0 about1 = true := code_word (m := ⟨10, 1⟩) (meth := k10m1) (c := k10c1) (by decide +kernel) rfl rfl rfl (by decide +kernel)
set_option maxRecDepth 65536 in
theorem w_c15 : (Jvm.Cond.code ({ cls := "com/example/tenon/tenon/model/SourceSet$Type", name := "named", desc := "(Ljava/lang/String;)Ljava/util/Optional;" } : Jvm.MethodName) prog_25_method_4_code (5 : Nat) (Option.some (Jvm.ClassFile.FieldType.object "java/util/Optional"))).before args0 about1 = true := code_word (m := ⟨12, 1⟩) (meth := k12m1) (c := k12c1) (by decide +kernel) rfl rfl rfl (by decide +kernel)
set_option maxRecDepth 65536 in
theorem w_c16 : (Jvm.Cond.code ({ cls := "com/example/tenon/tenon/model/SourceSet$Type", name := "values", desc := "()[Lcom/example/tenon/tenon/model/SourceSet$Type;" } : Jvm.MethodName) prog_25_method_1_code (0 : Nat) (Option.some (Jvm.ClassFile.FieldType.array (Jvm.ClassFile.FieldType.object "com/example/tenon/tenon/model/SourceSet$Type")))).before args0 about1 = true := code_word (m := ⟨12, 0⟩) (meth := k12m0) (c := k12c0) (by decide +kernel) rfl rfl rfl (by decide +kernel)
set_option maxRecDepth 65536 in
theorem w_c17 : (Jvm.Cond.code ({ cls := "java/lang/String", name := "equals", desc := "(Ljava/lang/Object;)Z" } : Jvm.MethodName) jdk_42_method_66_code (3 : Nat) (Option.some Jvm.ClassFile.FieldType.boolean)).before args0 about1 = true := code_word (m := ⟨7, 4⟩) (meth := k7m4) (c := k7c4) (by decide +kernel) rfl rfl rfl (by decide +kernel)
set_option maxRecDepth 65536 in
theorem w_c18 : (Jvm.Cond.code ({ cls := "java/lang/StringLatin1", name := "equals", desc := "([B[B)Z" } : Jvm.MethodName) jdk_43_method_13_code (3 : Nat) (Option.some Jvm.ClassFile.FieldType.boolean)).before args0 about1 = true := code_word (m := ⟨8, 3⟩) (meth := k8m3) (c := k8c3) (by decide +kernel) rfl rfl rfl (by decide +kernel)
set_option maxRecDepth 65536 in
theorem w_c19 : (Jvm.Cond.code ({ cls := "java/util/Optional", name := "empty", desc := "()Ljava/util/Optional;" } : Jvm.MethodName) jdk_32_method_1_code (1 : Nat) (Option.some (Jvm.ClassFile.FieldType.object "java/util/Optional"))).before args0 about1 = true := code_word (m := ⟨14, 0⟩) (meth := k14m0) (c := k14c0) (by decide +kernel) rfl rfl rfl (by decide +kernel)
set_option maxRecDepth 65536 in
theorem w_c20 : (Jvm.Cond.code ({ cls := "java/util/Optional", name := "orElse", desc := "(Ljava/lang/Object;)Ljava/lang/Object;" } : Jvm.MethodName) jdk_32_method_15_code (2 : Nat) (Option.some (Jvm.ClassFile.FieldType.object "java/lang/Object"))).before args0 about1 = true := code_word (m := ⟨14, 3⟩) (meth := k14m3) (c := k14c3) (by decide +kernel) rfl rfl rfl (by decide +kernel)
set_option maxRecDepth 65536 in
theorem w_c21 : (Jvm.Cond.code ({ cls := "java/util/Optional", name := "of", desc := "(Ljava/lang/Object;)Ljava/util/Optional;" } : Jvm.MethodName) jdk_32_method_3_code (1 : Nat) (Option.some (Jvm.ClassFile.FieldType.object "java/util/Optional"))).before args0 about1 = true := code_word (m := ⟨14, 2⟩) (meth := k14m2) (c := k14c2) (by decide +kernel) rfl rfl rfl (by decide +kernel)
set_option maxRecDepth 65536 in
theorem w_c22 : (Jvm.Cond.code ({ cls := "java/util/Objects", name := "requireNonNull", desc := "(Ljava/lang/Object;)Ljava/lang/Object;" } : Jvm.MethodName) jdk_31_method_10_code (1 : Nat) (Option.some (Jvm.ClassFile.FieldType.object "java/lang/Object"))).before args0 about1 = true := code_word (m := ⟨15, 1⟩) (meth := k15m1) (c := k15c1) (by decide +kernel) rfl rfl rfl (by decide +kernel)
set_option maxRecDepth 65536 in
theorem w_c23 : (Jvm.Cond.code ({ cls := "java/util/Optional", name := "<init>", desc := "(Ljava/lang/Object;)V" } : Jvm.MethodName) jdk_32_method_2_code (2 : Nat) (Option.none : Option Jvm.ClassFile.FieldType)).before args0 about1 = true := code_word (m := ⟨14, 1⟩) (meth := k14m1) (c := k14c1) (by decide +kernel) rfl rfl rfl (by decide +kernel)
set_option maxRecDepth 65536 in
theorem w_c24 : (Jvm.Cond.code ({ cls := "java/lang/String", name := "valueOf", desc := "(C)Ljava/lang/String;" } : Jvm.MethodName) jdk_42_method_139_code (1 : Nat) (Option.some (Jvm.ClassFile.FieldType.object "java/lang/String"))).before args0 about1 = true := code_word (m := ⟨7, 5⟩) (meth := k7m5) (c := k7c5) (by decide +kernel) rfl rfl rfl (by decide +kernel)
set_option maxRecDepth 65536 in
theorem w_c25 : (Jvm.Cond.code ({ cls := "java/lang/StringLatin1", name := "canEncode", desc := "(C)Z" } : Jvm.MethodName) jdk_43_method_3_code (1 : Nat) (Option.some Jvm.ClassFile.FieldType.boolean)).before args0 about1 = true := code_word (m := ⟨8, 2⟩) (meth := k8m2) (c := k8c2) (by decide +kernel) rfl rfl rfl (by decide +kernel)
set_option maxRecDepth 65536 in
theorem w_c26 : (Jvm.Cond.code ({ cls := "java/lang/StringLatin1", name := "toBytes", desc := "(C)[B" } : Jvm.MethodName) jdk_43_method_46_code (1 : Nat) (Option.some (Jvm.ClassFile.FieldType.array Jvm.ClassFile.FieldType.byte))).before args0 about1 = true := code_word (m := ⟨8, 4⟩) (meth := k8m4) (c := k8c4) (by decide +kernel) rfl rfl rfl (by decide +kernel)
set_option maxRecDepth 65536 in
theorem w_c27 : (Jvm.Cond.code ({ cls := "java/lang/String", name := "<init>", desc := "([BB)V" } : Jvm.MethodName) jdk_42_method_151_code (3 : Nat) (Option.none : Option Jvm.ClassFile.FieldType)).before args0 about1 = true := code_word (m := ⟨7, 7⟩) (meth := k7m7) (c := k7c7) (by decide +kernel) rfl rfl rfl (by decide +kernel)
def codes1 : List Jvm.Cond := [Jvm.Cond.code x code maxLocals ret, Jvm.Cond.code ({ cls := "java/lang/String", name := "length", desc := "()I" } : Jvm.MethodName) jdk_42_method_54_code (1 : Nat) (Option.some Jvm.ClassFile.FieldType.int), Jvm.Cond.code ({ cls := "java/lang/String", name := "coder", desc := "()B" } : Jvm.MethodName) jdk_42_method_152_code (1 : Nat) (Option.some Jvm.ClassFile.FieldType.byte), Jvm.Cond.code ({ cls := "com/example/tenon/tenon/model/TypeNamedPinLaw", name := "pick", desc := "(Ljava/lang/String;IICC)C" } : Jvm.MethodName) method_2_code (5 : Nat) (Option.some Jvm.ClassFile.FieldType.char), Jvm.Cond.code ({ cls := "java/lang/String", name := "charAt", desc := "(I)C" } : Jvm.MethodName) jdk_42_method_56_code (2 : Nat) (Option.some Jvm.ClassFile.FieldType.char), Jvm.Cond.code ({ cls := "java/lang/String", name := "isLatin1", desc := "()Z" } : Jvm.MethodName) jdk_42_method_154_code (1 : Nat) (Option.some Jvm.ClassFile.FieldType.boolean), Jvm.Cond.code ({ cls := "java/lang/StringLatin1", name := "charAt", desc := "([BI)C" } : Jvm.MethodName) jdk_43_method_2_code (2 : Nat) (Option.some Jvm.ClassFile.FieldType.char), Jvm.Cond.code ({ cls := "java/lang/String", name := "checkIndex", desc := "(II)V" } : Jvm.MethodName) jdk_42_method_155_code (2 : Nat) (Option.none : Option Jvm.ClassFile.FieldType), Jvm.Cond.code ({ cls := "jdk/internal/util/Preconditions", name := "checkIndex", desc := "(IILjava/util/function/BiFunction;)I" } : Jvm.MethodName) jdk_41_method_11_code (3 : Nat) (Option.some Jvm.ClassFile.FieldType.int), Jvm.Cond.code ({ cls := "java/lang/String", name := "<init>", desc := "([C)V" } : Jvm.MethodName) jdk_42_method_3_code (2 : Nat) (Option.none : Option Jvm.ClassFile.FieldType), Jvm.Cond.code ({ cls := "java/lang/String", name := "<init>", desc := "([CIILjava/lang/Void;)V" } : Jvm.MethodName) jdk_42_method_149_code (6 : Nat) (Option.none : Option Jvm.ClassFile.FieldType), Jvm.Cond.code ({ cls := "java/lang/Object", name := "<init>", desc := "()V" } : Jvm.MethodName) object_method_1_code (1 : Nat) (Option.none : Option Jvm.ClassFile.FieldType), Jvm.Cond.code ({ cls := "java/lang/StringUTF16", name := "compress", desc := "([CII)[B" } : Jvm.MethodName) jdk_52_method_16_code (6 : Nat) (Option.some (Jvm.ClassFile.FieldType.array Jvm.ClassFile.FieldType.byte)), Jvm.Cond.code ({ cls := "java/lang/StringUTF16", name := "compress", desc := "([CI[BII)I" } : Jvm.MethodName) jdk_52_method_21_code (7 : Nat) (Option.some Jvm.ClassFile.FieldType.int), Jvm.Cond.code ({ cls := "java/lang/StringUTF16", name := "coderFromArrayLen", desc := "([BI)B" } : Jvm.MethodName) jdk_52_method_15_code (2 : Nat) (Option.some Jvm.ClassFile.FieldType.byte), Jvm.Cond.code ({ cls := "com/example/tenon/tenon/model/SourceSet$Type", name := "named", desc := "(Ljava/lang/String;)Ljava/util/Optional;" } : Jvm.MethodName) prog_25_method_4_code (5 : Nat) (Option.some (Jvm.ClassFile.FieldType.object "java/util/Optional")), Jvm.Cond.code ({ cls := "com/example/tenon/tenon/model/SourceSet$Type", name := "values", desc := "()[Lcom/example/tenon/tenon/model/SourceSet$Type;" } : Jvm.MethodName) prog_25_method_1_code (0 : Nat) (Option.some (Jvm.ClassFile.FieldType.array (Jvm.ClassFile.FieldType.object "com/example/tenon/tenon/model/SourceSet$Type"))), Jvm.Cond.code ({ cls := "java/lang/String", name := "equals", desc := "(Ljava/lang/Object;)Z" } : Jvm.MethodName) jdk_42_method_66_code (3 : Nat) (Option.some Jvm.ClassFile.FieldType.boolean), Jvm.Cond.code ({ cls := "java/lang/StringLatin1", name := "equals", desc := "([B[B)Z" } : Jvm.MethodName) jdk_43_method_13_code (3 : Nat) (Option.some Jvm.ClassFile.FieldType.boolean), Jvm.Cond.code ({ cls := "java/util/Optional", name := "empty", desc := "()Ljava/util/Optional;" } : Jvm.MethodName) jdk_32_method_1_code (1 : Nat) (Option.some (Jvm.ClassFile.FieldType.object "java/util/Optional")), Jvm.Cond.code ({ cls := "java/util/Optional", name := "orElse", desc := "(Ljava/lang/Object;)Ljava/lang/Object;" } : Jvm.MethodName) jdk_32_method_15_code (2 : Nat) (Option.some (Jvm.ClassFile.FieldType.object "java/lang/Object")), Jvm.Cond.code ({ cls := "java/util/Optional", name := "of", desc := "(Ljava/lang/Object;)Ljava/util/Optional;" } : Jvm.MethodName) jdk_32_method_3_code (1 : Nat) (Option.some (Jvm.ClassFile.FieldType.object "java/util/Optional")), Jvm.Cond.code ({ cls := "java/util/Objects", name := "requireNonNull", desc := "(Ljava/lang/Object;)Ljava/lang/Object;" } : Jvm.MethodName) jdk_31_method_10_code (1 : Nat) (Option.some (Jvm.ClassFile.FieldType.object "java/lang/Object")), Jvm.Cond.code ({ cls := "java/util/Optional", name := "<init>", desc := "(Ljava/lang/Object;)V" } : Jvm.MethodName) jdk_32_method_2_code (2 : Nat) (Option.none : Option Jvm.ClassFile.FieldType), Jvm.Cond.code ({ cls := "java/lang/String", name := "valueOf", desc := "(C)Ljava/lang/String;" } : Jvm.MethodName) jdk_42_method_139_code (1 : Nat) (Option.some (Jvm.ClassFile.FieldType.object "java/lang/String")), Jvm.Cond.code ({ cls := "java/lang/StringLatin1", name := "canEncode", desc := "(C)Z" } : Jvm.MethodName) jdk_43_method_3_code (1 : Nat) (Option.some Jvm.ClassFile.FieldType.boolean), Jvm.Cond.code ({ cls := "java/lang/StringLatin1", name := "toBytes", desc := "(C)[B" } : Jvm.MethodName) jdk_43_method_46_code (1 : Nat) (Option.some (Jvm.ClassFile.FieldType.array Jvm.ClassFile.FieldType.byte)), Jvm.Cond.code ({ cls := "java/lang/String", name := "<init>", desc := "([BB)V" } : Jvm.MethodName) jdk_42_method_151_code (3 : Nat) (Option.none : Option Jvm.ClassFile.FieldType)]
set_option maxRecDepth 65536 in
theorem codes_eq : words1.filter isCode = codes1 := rfl
theorem w_codes : ∀ c ∈ words1.filter isCode, c.before args0 about1 = true := by
  rw [codes_eq]
  intro c hc
  simp only [codes1, List.mem_cons, List.not_mem_nil, or_false] at hc
  rcases hc with rfl | rfl | rfl | rfl | rfl | rfl | rfl | rfl | rfl | rfl | rfl | rfl | rfl | rfl | rfl | rfl | rfl | rfl | rfl | rfl | rfl | rfl | rfl | rfl | rfl | rfl | rfl | rfl
  · exact w_c0
  · exact w_c1
  · exact w_c2
  · exact w_c3
  · exact w_c4
  · exact w_c5
  · exact w_c6
  · exact w_c7
  · exact w_c8
  · exact w_c9
  · exact w_c10
  · exact w_c11
  · exact w_c12
  · exact w_c13
  · exact w_c14
  · exact w_c15
  · exact w_c16
  · exact w_c17
  · exact w_c18
  · exact w_c19
  · exact w_c20
  · exact w_c21
  · exact w_c22
  · exact w_c23
  · exact w_c24
  · exact w_c25
  · exact w_c26
  · exact w_c27
set_option maxRecDepth 65536 in
theorem w_t1 : (words1.take 24).all (fun c => isCode c || c.before args0 about1) = true := by decide +kernel
set_option maxRecDepth 65536 in
theorem w_t2 : ((words1.drop 24).take 24).all (fun c => isCode c || c.before args0 about1) = true := by decide +kernel
set_option maxRecDepth 65536 in
theorem w_t3 : (((words1.drop 24).drop 24).take 24).all (fun c => isCode c || c.before args0 about1) = true := by decide +kernel
set_option maxRecDepth 65536 in
theorem w_t4 : ((((words1.drop 24).drop 24).drop 24).take 24).all (fun c => isCode c || c.before args0 about1) = true := by decide +kernel
set_option maxRecDepth 65536 in
theorem w_t5 : (((((words1.drop 24).drop 24).drop 24).drop 24).take 24).all (fun c => isCode c || c.before args0 about1) = true := by decide +kernel
set_option maxRecDepth 65536 in
theorem w_t6 : ((((((words1.drop 24).drop 24).drop 24).drop 24).drop 24).take 24).all (fun c => isCode c || c.before args0 about1) = true := by decide +kernel
set_option maxRecDepth 65536 in
theorem w_t7 : ((((((words1.drop 24).drop 24).drop 24).drop 24).drop 24).drop 24).all (fun c => isCode c || c.before args0 about1) = true := by decide +kernel
theorem w_tables : (allAtoms (Jvm.Cond.code x code maxLocals ret :: tables_1)).before args0 about1 = true := by
  rw [allAtoms_all]
  show words1.all (fun c => c.before args0 about1) = true
  refine all_split ?_ w_codes
  rw [← List.take_append_drop 24 words1, List.all_append, w_t1, ← List.take_append_drop 24 (words1.drop 24), List.all_append, w_t2, ← List.take_append_drop 24 ((words1.drop 24).drop 24), List.all_append, w_t3, ← List.take_append_drop 24 (((words1.drop 24).drop 24).drop 24), List.all_append, w_t4, ← List.take_append_drop 24 ((((words1.drop 24).drop 24).drop 24).drop 24), List.all_append, w_t5, ← List.take_append_drop 24 (((((words1.drop 24).drop 24).drop 24).drop 24).drop 24), List.all_append, w_t6, w_t7]
  rfl
set_option maxRecDepth 65536 in
theorem w_rest : rest_1_c.before args0 about1 = true := by decide +kernel
set_option maxRecDepth 65536 in
theorem w_case : (Jvm.Cond.and given_1 narrow_1).before args0 about1 = true := by decide +kernel
set_option maxRecDepth 65536 in
theorem w_consts : constsHeld consts_1 about1 := Jvm.Lit.constsHeldB_iff.mp (by decide +kernel)
theorem w_applies : (headSpec (Jvm.Cond.code x code maxLocals ret :: tables_1) room_1).applies x e0.platform about1 = true :=
  (Spec.applies_iff w_frames).mpr ⟨w_running, w_runnable, w_alone, w_named, w_hears, w_ripe, w_room, w_tables⟩
theorem atStart : AtStart classFile x code maxLocals ret World_1 tables_1 room_1 Calls_1 rest_1 Pre_1 launch0 p0 e0 about1 theMethod args0 below0 :=
  ⟨lists_1, trivial, launch0.admits_env _ _ _, launch0.least_env, fairChoices_fair.cas, fairChoices_fair.clock, w_frames, w_args, w_heap, w_applies, ⟨w_consts, trivial⟩, w_rest, w_case⟩
end start1
theorem witness_1 : WitnessClaimed_1 := ⟨start1.p0, start1.e0, start1.about1, start1.theMethod, start1.args0, start1.below0, start1.atStart⟩
end Jvm.Pilot.@@N@@
